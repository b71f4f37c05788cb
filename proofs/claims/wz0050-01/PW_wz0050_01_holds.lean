import PyProof.Rows.All
import Wide.All
import OpenK.AllK
import Wide.FinOn
import Lean
import PySem.Challenge.RW_wz0050_01
open PySem PySem.W PyProof.Rows PySem.Calls
set_option Elab.async false
set_option maxRecDepth 100000
namespace Mine
set_option maxHeartbeats 8000000
open_top hd for PySem.Challenge.rw_wz0050_01
noncomputable abbrev prg : Program := PySem.Challenge.rw_wz0050_01.row.prog
set_option maxHeartbeats 8000000
theorem fillM1 : PySem.Challenge.rw_wz0050_01 = PySem.Challenge.rw_wz0050_01 ∧ hd.heap_39 = hd.heap_39 := by k_fill; exact ⟨rfl, rfl⟩

/-- which end of an inequality of addresses a fact speaks of -/
theorem neLt {x D b : Nat} {R : Prop} (_ : x ≠ D ∧ R) (h : D ≠ b) : D ≠ b := h
theorem neRt {x D a : Nat} {R : Prop} (_ : x ≠ D ∧ R) (h : a ≠ D) : a ≠ D := h
theorem ltS {a b : Nat} (h : a < b) : a < b + 1 := Nat.lt_succ_of_lt h
theorem ltS0 (a : Nat) : a < a + 1 := Nat.lt_succ_self a
theorem ltRt {x D a : Nat} {R : Prop} (_ : x < D ∧ R) (h : a < D) : a < D := h

noncomputable abbrev tupO (vs : List Value) : Obj := { cls := .type "tuple", data := .seq vs.toArray }
noncomputable abbrev Led := List (Addr × Obj)
/-- a call of f with these arguments: what it hands back, and the objects that it leaves -/
noncomputable def Does (w : World) (f : Addr) (vs : List Value) (D : Nat) (Res : Led → Value → Prop) : Prop :=
  ∀ (p : Program) (loose : List Str) (mean : ExcName → Option Value) (mg mb : Str → Option Value)
    (dp un : Nat) (gd : Option (List Code)) (cn : Str) (cs : Scope) (a : Addr) (ccd : Value) (cl : List (Str × Addr)) (outer : List Env) (A₀ : Around) (base h₀ : Heap) (L : Addr) (m : Str → Option Value)
    (news : Led) (s : Shared) (Q E : Value → Shared → Prop),
    Below A₀ base outer h₀ → Fr h₀ L s.heap m → (hd.heap_39 w.params).In h₀ → News h₀ L s.heap news → Top p loose mean mg mb h₀ → cs.kind = .function →
    dp + D < recursionLimit → un + 8 * D < cLine →
    (∀ r tl h' tk', Fr h₀ L h' m → News h₀ L h' (tl ++ news) → (∀ q ∈ news, ∀ p ∈ tl, q.1 < p.1) → Res tl r → Q r { s with heap := h', toks := tk' }) →
    wpAny (model PySem.Challenge.rw_wz0050_01.row.prog w) (ktrTop dp un gd cn cs L a ccd cl outer) (call (.ref f) vs) Q E s

theorem ord1 {h₀ h : Heap} {L x : Addr} {o : Obj} {news : Led} (e : x = h.objs.size) (N : News h₀ L h news) : ∀ q ∈ news, ∀ p ∈ [(x, o)], q.1 < p.1 := by
  intro q hq p hp
  rw [List.mem_singleton.mp hp, e]
  exact Heap.lt_size (N q hq).1

/-- two ints in a new tuple -/
noncomputable abbrev Two (q r : Int) (tl : Led) (v : Value) : Prop := ∃ x t1 t2, v = .ref x ∧ tl = [(x, tupO [.int q t1, .int r t2])]

theorem c21 : ∀ (w : World) (va vb vn : Int) (ta tb tn : Tok) (h1 : 0 ≤ va) (h2 : va < 2 ^ 62) (h3 : 0 < vb) (h4 : vb < 2 ^ 30) (h5 : 0 ≤ vn),
    Does w 21 [.int va ta, .int vb tb, .int vn tn] 2 (Two (va.fdiv vb) (va.fmod vb)) := by
  unfold Does
  intro w va vb vn ta tb tn h1 h2 h3 h4 h5 p loose mean mg mb dp un gd cn cs a ccd cl outer A₀ base h₀ L m news s Q E B F X N T hk hdp hun ret
  have hb := intBits_le_64 (k := va) (by omega) (by omega)
  refine wpAny_call ?_
  k_dflt cell_enter
  k_steps
  exact ret _ [_] _ _ (by k_asm) (by k_asm) (ord1 rfl (by assumption)) ⟨_, _, _, rfl, rfl⟩
set_option maxHeartbeats 8000000
theorem ch30 {h : Heap} (w : World) (X : (hd.heap_39 w.params).In h) : CodeHd h 34 30 := by
  refine' ⟨_, _, _, _, _, _, _, _, _, X 34 _ ?a, ?b, ?c, ?d, ?e, ?f, ?g, ?i, ?j, ?k⟩
  case a => exact rfl
  case b => rfl
  case c => rfl
  case d => rfl
  case e => rfl
  case f => rfl
  case g => rfl
  case i => rfl
  case j => rfl
  case k => decide
theorem ch37 {h : Heap} (w : World) (X : (hd.heap_39 w.params).In h) : CodeHd h 41 37 := by
  refine' ⟨_, _, _, _, _, _, _, _, _, X 41 _ ?a, ?b, ?c, ?d, ?e, ?f, ?g, ?i, ?j, ?k⟩
  case a => exact rfl
  case b => rfl
  case c => rfl
  case d => rfl
  case e => rfl
  case f => rfl
  case g => rfl
  case i => rfl
  case j => rfl
  case k => decide
/-- a code's table of defs made in it: none yet, or the one -/
noncomputable def TabOk (qual : Str) (l c : Nat) (ps : Array Value) (news : Led) : Prop :=
  ps = #[] ∨ ∃ c' oc vs t, ps = #[rawInt l, rawInt c, .ref c'] ∧ (c', oc) ∈ news ∧ oc.data = .fields vs ∧ vs[1]? = some (.str qual t)
theorem TabOk.mono {qual : Str} {l c : Nat} {ps : Array Value} {news news' : Led} (x : TabOk qual l c ps news) (h : ∀ p ∈ news, p ∈ news') : TabOk qual l c ps news' := by
  rcases x with x | ⟨c', oc, vs, t, a, b, d⟩
  · exact .inl x
  · exact .inr ⟨c', oc, vs, t, a, h _ b, d⟩
noncomputable abbrev q30 : Str := Str.ofString "_int2digits.<locals>.inner"
noncomputable abbrev q37 : Str := Str.ofString "_digits2int.<locals>.inner"
structure OffT (news : Led) : Prop where
  a : ∀ p ∈ news, p.1 ≠ 37
  b : ∀ p ∈ news, p.1 ≠ 30
noncomputable def DoesT (w : World) (f : Addr) (vs : List Value) (D : Nat) (Res : Led → Value → Prop) : Prop :=
  ∀ (p : Program) (loose : List Str) (mean : ExcName → Option Value) (mg mb : Str → Option Value)
    (dp un : Nat) (gd : Option (List Code)) (cn : Str) (cs : Scope) (a : Addr) (ccd : Value) (cl : List (Str × Addr)) (outer : List Env) (A₀ : Around) (base h₀ : Heap) (L : Addr) (m : Str → Option Value)
    (news : Led) (a37 a30 : Array Value) (s : Shared) (Q E : Value → Shared → Prop),
    Below A₀ base outer h₀ → Fr h₀ L s.heap m → (hd.heap_39 w.params).In h₀ → News h₀ L s.heap ((37, tabObj a37) :: (30, tabObj a30) :: news) → Top p loose mean mg mb h₀ → cs.kind = .function →
    TabOk q37 47 4 a37 news → TabOk q30 32 4 a30 news → OffT news →
    dp + D < recursionLimit → un + 8 * D < cLine →
    (∀ r tl b37 b30 h' tk', Fr h₀ L h' m → News h₀ L h' ((37, tabObj b37) :: (30, tabObj b30) :: (tl ++ news)) → (∀ q ∈ (37, tabObj b37) :: (30, tabObj b30) :: news, ∀ p ∈ tl, q.1 < p.1) → TabOk q37 47 4 b37 (tl ++ news) → TabOk q30 32 4 b30 (tl ++ news) → Res tl r → Q r { s with heap := h', toks := tk' }) →
    wpAny (model PySem.Challenge.rw_wz0050_01.row.prog w) (ktrTop dp un gd cn cs L a ccd cl outer) (call (.ref f) vs) Q E s

theorem foldl_rep (v : Value) : ∀ (n : Nat) (acc : Array Value), List.foldl (fun x1 x2 => x1 ++ x2) acc (List.replicate n #[v]) = acc ++ (List.replicate n v).toArray
  | 0, acc => by simp
  | n + 1, acc => by
    rw [List.replicate_succ, List.foldl_cons, foldl_rep v n, List.replicate_succ]
    apply Array.ext'
    simp
theorem mul0 {prog : Program} {w : World} {A : Around} {E : Value → Shared → Prop} {s : Shared} {h₀ : Heap} {L : Addr} {m : Str → Option Value} {news : Led} {l : Addr} {v : Value} {k : Nat} {x : Int} {u : Tok} {Q : Value → Shared → Prop}
    (F : Fr h₀ L s.heap m) (N : News h₀ L s.heap news) (hl : (l, ({ cls := .type "list", dict := none, data := .seq #[v] k, slots := #[] } : Obj)) ∈ news) (h0 : 0 ≤ x) (h1 : x ≤ 64)
    (h : ∀ D h', Fr h₀ L h' m → News h₀ L h' ((D, ({ cls := .type "list", data := .seq (List.replicate x.toNat v).toArray } : Obj)) :: news) → (∀ p ∈ news, p.1 < D) → 0 ≤ x → x ≤ 64 → Q (.ref D) { s with heap := h' }) :
    wpAny (model prog w) A (binaryOp .Mult (.ref l) (.int x u)) Q E s := by
  refine mul_list F N (N _ hl).1 (by omega) (by omega) (by simp; omega) fun h' F' N' => ?_
  have e : (if (#[v] : Array Value).isEmpty = true then 0 else x.toNat) = x.toNat := by simp
  rw [e, foldl_rep, Array.empty_append] at N'
  exact h _ h' F' N' (fun p hp => Heap.lt_size (N p hp).1) h0 h1
theorem kdig (b n : Int) (hb : 0 ≤ b) (hb1 : b ≤ 64) (hn : 0 < n) : 0 ≤ (b + n - 1).fdiv n ∧ (b + n - 1).fdiv n ≤ 64 := by
  rw [Int.fdiv_eq_ediv_of_nonneg _ (by omega)]
  constructor
  · exact Int.ediv_nonneg (by omega) (by omega)
  · have h : (b + n - 1) / n < 65 := by
      apply Int.ediv_lt_of_lt_mul hn
      have : 65 * n = 64 * n + n := by omega
      have h2 : b ≤ 64 * n := by omega
      omega
    omega
theorem sub_rot2 {x y z : Addr × Obj} {t : Led} : ∀ p ∈ z :: x :: y :: t, p ∈ x :: y :: z :: t := fun p hp => by
  simp only [List.mem_cons] at hp ⊢
  rcases hp with h | h | h | h
  · exact .inr (.inr (.inl h))
  · exact .inl h
  · exact .inr (.inl h)
  · exact .inr (.inr (.inr h))
theorem sub_rot1 {x z : Addr × Obj} {t : Led} : ∀ p ∈ z :: x :: t, p ∈ x :: z :: t := fun p hp => by
  simp only [List.mem_cons] at hp ⊢
  rcases hp with h | h | h
  · exact .inr (.inl h)
  · exact .inl h
  · exact .inr (.inr h)
theorem ints_rep (t : Tok) : ∀ n : Nat, IntsAre (List.replicate n (.int 0 t)) (List.replicate n 0)
  | 0 => .nil
  | n + 1 => by rw [List.replicate_succ, List.replicate_succ]; exact .cons 0 t (ints_rep t n)
/-- the ledger's unknown part lies below -/
noncomputable def Low (d : Addr) (news : Led) : Prop := ∀ p ∈ news, p.1 < d
theorem Low.ne {d c : Addr} {news : Led} (h : Low d news) (hc : @LE.le Nat _ d c) : ∀ p ∈ news, p.1 ≠ c := fun p hp => Nat.ne_of_lt (Nat.lt_of_lt_of_le (h p hp) hc)
theorem Low.of {d : Addr} {news : Led} (h : ∀ p ∈ news, p.1 < d) : Low d news := h
set_option maxHeartbeats 8000000
/-- the number that these digits stand for to the base b, the lowest first -/
noncomputable def val (b : Int) : List Int → Int
  | [] => 0
  | d :: ds => d + b * val b ds
/-- digits of no great size -/
noncomputable abbrev Digs (ds : List Int) : Prop := ∀ d ∈ ds, 0 ≤ d ∧ d < 2 ^ 31
noncomputable def put (ns : List Int) (l : Nat) (ds : List Int) : List Int := ns.take l ++ ds ++ ns.drop (l + ds.length)
/-- the inner def of _int2digits, as the object that stands for it -/
noncomputable def In35 (w : World) (of : Obj) (qual : Str) (f D c1 c2 c3 c' : Addr) (n : Int) (tn : Tok) (k : Nat) : Prop :=
  ∀ (p : Program) (loose : List Str) (mean : ExcName → Option Value) (mg mb : Str → Option Value)
    (dp un : Nat) (gd : Option (List Code)) (cn : Str) (cs : Scope) (a : Addr) (ccd : Value) (cl : List (Str × Addr)) (outer : List Env) (A₀ : Around) (base h₀ : Heap) (L : Addr) (m : Str → Option Value)
    (news : Led) (s : Shared) (Q E : Value → Shared → Prop) (o1 o2 o3 oc : Obj) (vc : Array Value) (tc : Tok) (items : List Value) (ns : List Int) (ep : Nat) (x l r : Int) (tx tl tr : Tok),
    Below A₀ base outer h₀ → Fr h₀ L s.heap m → (hd.heap_39 w.params).In h₀ → News h₀ L s.heap ((D, listOf items.toArray ep) :: news) → Top p loose mean mg mb h₀ → cs.kind = .function →
    dp + (k + 1) < recursionLimit → un + 8 * (k + 1) < cLine →
    (f, of) ∈ news → (c', oc) ∈ news → oc.data = .fields vc → vc[1]? = some (.str qual tc) → (c1, o1) ∈ news → o1.data = .cell (some (.ref D)) → (c2, o2) ∈ news → o2.data = .cell (some (.ref f)) → (c3, o3) ∈ news → o3.data = .cell (some (.int n tn)) →
    (∀ p ∈ news, p.1 ≠ D) → IntsAre items ns → 0 ≤ l → l < r → r ≤ (ns.length : Int) → ns.length ≤ 64 → (r - l) ≤ 2 ^ k → 0 ≤ x → x < 2 ^ 31 → 0 < n → n < 40 →
    (∀ items' ds h' tk', Fr h₀ L h' m → News h₀ L h' ((D, listOf items'.toArray ep) :: news) → ds.length = (r - l).toNat → Digs ds → val (2 ^ n.toNat) ds = x → IntsAre items' (put ns l.toNat ds) → Q .none { s with heap := h', toks := tk' }) →
    wpAny (model PySem.Challenge.rw_wz0050_01.row.prog w) (ktrTop dp un gd cn cs L a ccd cl outer) (call (.ref f) [.int x tx, .int l tl, .int r tr]) Q E s
theorem In35.use {w : World} {of : Obj} {qual : Str} {f D c1 c2 c3 c' : Addr} {n : Int} {tn : Tok} {k : Nat} (C : In35 w of qual f D c1 c2 c3 c' n tn k)
    {p : Program} {loose : List Str} {mean : ExcName → Option Value} {mg mb : Str → Option Value}
    {dp un : Nat} {gd : Option (List Code)} {cn : Str} {cs : Scope} {a : Addr} {ccd : Value} {cl : List (Str × Addr)} {outer : List Env} {A₀ : Around} {base h₀ : Heap} {L : Addr} {m : Str → Option Value}
    {news news' : Led} {s : Shared} {Q E : Value → Shared → Prop} {o1 o2 o3 oc : Obj} {vc : Array Value} {tc : Tok} {items : List Value} {ns : List Int} {ep : Nat} {x l r : Int} {tx tl tr : Tok}
    (B : Below A₀ base outer h₀) (F : Fr h₀ L s.heap m) (X : (hd.heap_39 w.params).In h₀) (N : News h₀ L s.heap news') (hs : ∀ p ∈ (D, listOf items.toArray ep) :: news, p ∈ news') (T : Top p loose mean mg mb h₀) (hk : cs.kind = .function)
    (hdp : dp + (k + 1) < recursionLimit) (hun : un + 8 * (k + 1) < cLine)
    (mf : (f, of) ∈ news) (mc : (c', oc) ∈ news) (hd : oc.data = .fields vc) (hv : vc[1]? = some (.str qual tc)) (m1 : (c1, o1) ∈ news) (d1 : o1.data = .cell (some (.ref D))) (m2 : (c2, o2) ∈ news) (d2 : o2.data = .cell (some (.ref f))) (m3 : (c3, o3) ∈ news) (d3 : o3.data = .cell (some (.int n tn)))
    (off : ∀ p ∈ news, p.1 ≠ D) (hi : IntsAre items ns) (l0 : 0 ≤ l) (lr : l < r) (rn : r ≤ (ns.length : Int)) (n64 : ns.length ≤ 64) (rk : (r - l) ≤ 2 ^ k) (x0 : 0 ≤ x) (x1 : x < 2 ^ 31) (n0 : 0 < n) (n1 : n < 40)
    (ret : ∀ items' ds h' tk', Fr h₀ L h' m → News h₀ L h' ((D, listOf items'.toArray ep) :: news) → ds.length = (r - l).toNat → Digs ds → val (2 ^ n.toNat) ds = x → IntsAre items' (put ns l.toNat ds) → Q .none { s with heap := h', toks := tk' }) :
    wpAny (model PySem.Challenge.rw_wz0050_01.row.prog w) (ktrTop dp un gd cn cs L a ccd cl outer) (call (.ref f) [.int x tx, .int l tl, .int r tr]) Q E s :=
  C _ _ _ _ _ _ _ _ _ _ _ _ _ _ _ _ _ _ _ _ _ _ _ _ _ _ _ _ _ _ _ _ _ _ _ _ _ _ B F X (fun q hq => N q (hs q hq)) T hk hdp hun mf mc hd hv m1 d1 m2 d2 m3 d3 off hi l0 lr rn n64 rk x0 x1 n0 n1 ret
theorem in35_all {w : World} {of : Obj} {qual : Str} {f D c1 c2 c3 c' : Addr} {n : Int} {tn : Tok} (step : ∀ k, (0 < k → In35 w of qual f D c1 c2 c3 c' n tn (k - 1)) → In35 w of qual f D c1 c2 c3 c' n tn k) : ∀ k, In35 w of qual f D c1 c2 c3 c' n tn k := by
  intro k
  induction k with
  | zero => exact step 0 fun h => absurd h (Nat.lt_irrefl _)
  | succ k ih => exact step (k + 1) fun _ => ih
theorem pos_of {d : Int} {k : Nat} (h1 : 1 < d) (h2 : d ≤ 2 ^ k) : 0 < k := by
  cases k with
  | zero => simp at h2; omega
  | succ k => exact Nat.succ_pos k
theorem lenL {prog : Program} {w : World} {A : Around} {E : Value → Shared → Prop} {s : Shared} {h₀ : Heap} {L : Addr} {news : Led} {l : Addr} {o : Obj} {vs : List Value} {k : Nat} {Q : Value → Shared → Prop}
    (N : News h₀ L s.heap news) (hm : (l, o) ∈ news) (hc : o.cls = .type "list") (hd : o.data = .seq vs.toArray k) (hf : vs.length < 2 ^ 24) (h : ∀ t tk, Q (.int (vs.length : Nat) t) { s with toks := tk }) :
    wpAny (model prog w) A (call (.builtin "len") [.ref l]) Q E s := by
  have hl : s.heap.IsList l vs.toArray := ⟨o, (N _ hm).1, hc, k, hd⟩
  refine len_list hl ?_ ?_
  · rw [List.size_toArray]; omega
  · have e : ((vs.toArray.size : Nat) : Int) = (vs.length : Nat) := by rw [List.size_toArray]
    first | (rw [e]; exact h _ _) | (simpa using h _ _)
set_option maxHeartbeats 8000000
theorem val_append (b : Int) : ∀ (xs ys : List Int), val b (xs ++ ys) = val b xs + b ^ xs.length * val b ys
  | [], ys => by simp [val]
  | x :: xs, ys => by
    simp only [List.cons_append, val, val_append b xs ys, List.length_cons, Int.pow_succ]
    rw [Int.mul_add, Int.add_assoc, ← Int.mul_assoc, Int.mul_comm (b ^ xs.length) b]
theorem put_length {ns : List Int} {l : Nat} {ds : List Int} (h : l + ds.length ≤ ns.length) : (put ns l ds).length = ns.length := by
  unfold put
  simp only [List.length_append, List.length_take, List.length_drop]
  omega
theorem put_put {ns : List Int} {l : Nat} {A B : List Int} (h : l + A.length + B.length ≤ ns.length) : put (put ns l A) (l + A.length) B = put ns l (A ++ B) := by
  unfold put
  have e1 : (ns.take l ++ A ++ ns.drop (l + A.length)).take (l + A.length) = ns.take l ++ A := by
    rw [List.take_left' (by simp only [List.length_append, List.length_take]; omega)]
  have e2 : (ns.take l ++ A ++ ns.drop (l + A.length)).drop (l + A.length + B.length) = ns.drop (l + (A ++ B).length) := by
    rw [← List.drop_drop, List.drop_left' (by simp only [List.length_append, List.length_take]; omega), List.drop_drop, List.length_append, Nat.add_assoc]
  rw [e1, e2]
  simp only [List.append_assoc]
theorem put_one {ns : List Int} {l : Nat} {x : Int} (h : l < ns.length) : ns.set l x = put ns l [x] := by
  unfold put
  rw [List.set_eq_take_append_cons_drop, if_pos h]
  simp
theorem bitAnd_shl {x : Int} (hx : 0 ≤ x) (k : Nat) : Builtin.bitAnd x (x / 2 ^ k * 2 ^ k) = x / 2 ^ k * 2 ^ k := by
  obtain ⟨y, rfl⟩ := Int.eq_ofNat_of_zero_le hx
  have e : ((y : Int) / 2 ^ k * 2 ^ k) = ((y / 2 ^ k * 2 ^ k : Nat) : Int) := by push_cast; rfl
  rw [e, bitAnd_pp (by omega) (by omega), Int.toNat_natCast, Int.toNat_natCast]
  congr 1
  apply Nat.eq_of_testBit_eq
  intro i
  rw [Nat.testBit_and, ← Nat.shiftLeft_eq, ← Nat.shiftRight_eq_div_pow, Nat.testBit_shiftLeft, Nat.testBit_shiftRight]
  by_cases hi : k ≤ i
  · have : k + (i - k) = i := by omega
    simp [this]
  · simp [hi]
theorem xor_shl {x : Int} (hx : 0 ≤ x) (k : Nat) : Builtin.bitXor x (x / 2 ^ k * 2 ^ k) = x % 2 ^ k := by
  rw [bitXor_and, bitAnd_shl hx]
  have := Int.emod_add_mul_ediv x (2 ^ k)
  rw [Int.mul_comm] at this
  omega
section
variable {prog : Program} {w : World} {A : Around} {E : Value → Shared → Prop} {s : Shared}
theorem sh_mid {l r : Int} {k : Nat} {t u : Tok} {Q : Value → Shared → Prop} (l0 : 0 ≤ l) (h1 : l + 1 ≠ r) (h2 : l < r) (hk : r - l ≤ 2 ^ k)
    (h : ∀ mid tk, l < mid → mid < r → mid - l ≤ 2 ^ (k - 1) → r - mid ≤ 2 ^ (k - 1) → 0 < k → Q (.int mid s.toks) { s with toks := tk }) :
    wpAny (model prog w) A (binaryOp .RShift (.int (l + r) t) (.int 1 u)) Q E s := by
  refine rshift_int (by omega) (h _ _ ?_ ?_ ?_ ?_ ?_)
  all_goals
    have e : (l + r).fdiv (2 ^ Int.toNat 1) = (l + r) / 2 := by rw [Int.fdiv_eq_ediv_of_nonneg _ (by decide)]; rfl
    first | rw [e] | skip
    have hk0 : 0 < k := by
      cases k with
      | zero => simp at hk; omega
      | succ k => exact Nat.succ_pos k
    have e2 : (2 : Int) ^ k = 2 * 2 ^ (k - 1) := by
      obtain ⟨j, rfl⟩ := Nat.exists_eq_succ_of_ne_zero (Nat.pos_iff_ne_zero.mp hk0)
      rw [Nat.succ_eq_add_one, Nat.add_sub_cancel, Int.pow_succ, Int.mul_comm]
    omega
theorem sh_right {x sh : Int} {t u : Tok} {Q : Value → Shared → Prop} (h0 : 0 ≤ sh) (x0 : 0 ≤ x) (x1 : x < 2 ^ 31)
    (h : ∀ up tk, up = x / 2 ^ sh.toNat → 0 ≤ up → up < 2 ^ 31 → Q (.int up s.toks) { s with toks := tk }) :
    wpAny (model prog w) A (binaryOp .RShift (.int x t) (.int sh u)) Q E s := by
  have hp : (0 : Int) < 2 ^ sh.toNat := Int.pow_pos (by decide)
  refine rshift_int h0 (h _ _ (Int.fdiv_eq_ediv_of_nonneg _ (Int.le_of_lt hp)) ?_ ?_)
  · rw [Int.fdiv_eq_ediv_of_nonneg _ (Int.le_of_lt hp)]; exact Int.ediv_nonneg x0 (Int.le_of_lt hp)
  · rw [Int.fdiv_eq_ediv_of_nonneg _ (Int.le_of_lt hp)]; exact Int.lt_of_le_of_lt (Int.ediv_le_self _ x0) x1
theorem sh_left {x sh : Int} {t u : Tok} {Q : Value → Shared → Prop} (h0 : 0 ≤ sh) (h1 : sh ≤ 1000000) (x0 : 0 ≤ x) (x1 : x < 2 ^ 60)
    (h : ∀ y tk, y = x * 2 ^ sh.toNat → Q (.int y s.toks) { s with toks := tk }) :
    wpAny (model prog w) A (binaryOp .LShift (.int x t) (.int sh u)) Q E s :=
  lshift_int_small h0 h1 (by omega) (h _ _ rfl)
theorem sh_xor {x y up : Int} {k : Nat} {t u : Tok} {Q : Value → Shared → Prop} (x0 : 0 ≤ x) (x1 : x < 2 ^ 31) (hu : up = x / 2 ^ k) (hy : y = up * 2 ^ k)
    (h : ∀ lo tk, lo = x % 2 ^ k → 0 ≤ lo → lo < 2 ^ 31 → Q (.int lo s.toks) { s with toks := tk }) :
    wpAny (model prog w) A (binaryOp .BitXor (.int x t) (.int y u)) Q E s := by
  have hp : (0 : Int) < 2 ^ k := Int.pow_pos (by decide)
  have e : Builtin.bitXor x y = x % 2 ^ k := by rw [hy, hu]; exact xor_shl x0 k
  refine xor_int (h _ _ e ?_ ?_)
  · rw [e]; exact Int.emod_nonneg _ (by omega)
  · rw [e]
    have := Int.emod_add_mul_ediv x (2 ^ k)
    have h2 : 0 ≤ 2 ^ k * (x / 2 ^ k) := Int.mul_nonneg (by omega) (Int.ediv_nonneg x0 (by omega))
    omega
theorem sh_mul {d n : Int} {t u : Tok} {Q : Value → Shared → Prop} (d0 : 0 ≤ d) (d1 : d ≤ 64) (n0 : 0 < n) (n1 : n < 40)
    (h : ∀ sh tk, sh.toNat = n.toNat * d.toNat → 0 ≤ sh → sh ≤ 1000000 → Q (.int sh s.toks) { s with toks := tk }) :
    wpAny (model prog w) A (binaryOp .Mult (.int d t) (.int n u)) Q E s := by
  refine mul_int (h _ _ ?_ ?_ ?_)
  · obtain ⟨a, rfl⟩ := Int.eq_ofNat_of_zero_le d0
    obtain ⟨b, rfl⟩ := Int.eq_ofNat_of_zero_le (Int.le_of_lt n0)
    rw [← Int.natCast_mul, Int.toNat_natCast, Int.toNat_natCast, Int.toNat_natCast, Nat.mul_comm]
  · exact Int.mul_nonneg d0 (Int.le_of_lt n0)
  · have h1 : d * n ≤ 64 * n := Int.mul_le_mul_of_nonneg_right d1 (Int.le_of_lt n0)
    omega
end
theorem Digs.append {A B : List Int} (a : Digs A) (b : Digs B) : Digs (A ++ B) := fun d hd => (List.mem_append.mp hd).elim (a d) (b d)
theorem ints_put {i : List Value} {ns A B : List Int} {l m : Nat} (h : IntsAre i (put (put ns l A) m B)) (hm : m = l + A.length) (hl : m + B.length ≤ ns.length) : IntsAre i (put ns l (A ++ B)) := by
  subst hm
  rw [← put_put hl]
  exact h
theorem val_split {n : Int} {x lo up sh : Int} {A B : List Int} {d : Nat} (hs : sh.toNat = n.toNat * d) (hlo : lo = x % 2 ^ sh.toNat) (hup : up = x / 2 ^ sh.toNat) (hA : A.length = d) (vA : val (2 ^ n.toNat) A = lo) (vB : val (2 ^ n.toNat) B = up) :
    val (2 ^ n.toNat) (A ++ B) = x := by
  rw [val_append, vA, vB, hA, ← Int.pow_mul, ← hs, hlo, hup]
  exact Int.emod_add_mul_ediv x _
set_option maxHeartbeats 1000000
section
variable {M : Model} {A : Around} {E : Value → Shared → Prop} {s : Shared}
/-- the end of a walk as one letter (so it is stored once in place of once a step) -/
theorem opaq {α : Type} {t : PySem.Sem α} {Q : α → Shared → Prop}
    (h : ∀ (Q' : α → Shared → Prop) (E' : Value → Shared → Prop), (∀ v s', Q v s' → Q' v s') → wpAny M A t Q' E' s) : wpAny M A t Q E s := h Q E fun _ _ x => x
theorem opaqT {α β : Type} {t : PySem.Sem α} {u : PySem.Sem β} {T : β → Shared → Prop}
    (h : ∀ T' : β → Shared → Prop, (∀ f s', T f s' → T' f s') → wpAny M A t (fun _ s₃ => wpAny M A u T' E s₃) E s) : wpAny M A t (fun _ s₃ => wpAny M A u T E s₃) E s := h T fun _ _ x => x
end
theorem frOpaque {h₀ h : Heap} {L : Addr} {m : Str → Option Value} {P : Prop} (F : Fr h₀ L h m) (k : ∀ m', Fr h₀ L h m' → P) : P := k m F
set_option maxHeartbeats 8000000
noncomputable def bodyOf : Stmt → List Stmt
  | .FunctionDef _ _ b _ _ _ _ _ _ _ => b
  | _ => []
noncomputable def argsOf : Stmt → Arguments
  | .FunctionDef _ a _ _ _ _ _ _ _ _ => a
  | _ => default
noncomputable def scopeOf : Stmt → Scope
  | .FunctionDef _ _ _ _ _ _ s _ _ _ => s
  | _ => default
noncomputable def topDef (i : Nat) : Stmt := PySem.Challenge.pw_wz0050_01.main.body.getD i default
noncomputable def inDef (i : Nat) (j : Nat) : Stmt := (bodyOf (topDef i)).getD j default
noncomputable abbrev of35 (qual : Str) (c1 c2 c3 c' : Addr) (doc pm ctv : Value) : Obj :=
  fnMade (Str.ofString "inner") qual (argsOf (inDef 4 1)) (bodyOf (inDef 4 1)) (scopeOf (inDef 4 1)) [(Str.ofString "n", c3), (Str.ofString "inner", c2), (Str.ofString "a_digits", c1)] doc pm c' ctv
local macro_rules | `(tactic| k_all) => `(tactic| first | exact Low.ne (by assumption) (by omega) | exact OffT.a (by assumption) | exact OffT.b (by assumption) | assumption)
local macro_rules | `(tactic| walk_at $_:str) => `(tactic| (k_here; (with_reducible show wpAny _ _ _ _ _ _); dsimp only))
local macro_rules | `(tactic| walk_at $s:str) => `(tactic| k_extra $s)
local macro_rules | `(tactic| k_ne) => `(tactic| (refine neN ?_; (try dsimp only); k_extra "ne"))
theorem in35 {w : World} {qual : Str} {f D c1 c2 c3 c' : Addr} {doc pm ctv : Value} {n : Int} {tn : Tok} (k : Nat) (ih : 0 < k → In35 w (of35 qual c1 c2 c3 c' doc pm ctv) qual f D c1 c2 c3 c' n tn (k - 1)) :
    In35 w (of35 qual c1 c2 c3 c' doc pm ctv) qual f D c1 c2 c3 c' n tn k := by
  k_with_none
  k_with "ne" => (first | (refine Nat.ne_of_lt ?_; k_extra "neL") | (refine Nat.ne_of_gt ?_; k_extra "neL") | with_reducible assumption | (refine Ne.symm ?_; with_reducible assumption) | k_extra "neA")
  k_with "neL" => (first | with_reducible assumption | with_reducible exact ltS0 _ | k_extra "neS" | ((fail_if_success with_reducible show _ < 37); (fail_if_success with_reducible show _ < 30); with_reducible refine ltS ?_; k_extra "neL"))
  k_with "neS" => (with_reducible rename (@LT.lt Nat _ _ _ ∧ _) => q; first | (refine ltRt q ?_; first | exact q.1 | exact q.2.1 | exact q.2.2.1 | exact q.2.2.2.1 | exact q.2.2.2.2.1 | exact q.2.2.2.2.2.1 | exact q.2.2.2.2.2.2.1 | exact q.2.2.2.2.2.2.2.1 | exact q.2.2.2.2.2.2.2.2.1 | exact q.2.2.2.2.2.2.2.2.2.1 | exact q.2.2.2.2.2.2.2.2.2.2.1 | exact q.2.2.2.2.2.2.2.2.2.2.2.1 | exact q.2.2.2.2.2.2.2.2.2.2.2.2.1 | exact q.2.2.2.2.2.2.2.2.2.2.2.2.2.1 | exact q.2.2.2.2.2.2.2.2.2.2.2.2.2.2.1 | exact q.2.2.2.2.2.2.2.2.2.2.2.2.2.2.2.1 | exact q.2.2.2.2.2.2.2.2.2.2.2.2.2.2.2.2.1 | exact q.2.2.2.2.2.2.2.2.2.2.2.2.2.2.2.2.2.1) | (clear q; k_extra "neS"))
  k_with "neA" => (with_reducible rename (@Ne _ _ _ ∧ _) => q; first | (refine neLt q ?_; first | exact q.1.symm | exact q.2.1.symm | exact q.2.2.1.symm | exact q.2.2.2.1.symm | exact q.2.2.2.2.1.symm | exact q.2.2.2.2.2.1.symm | exact q.2.2.2.2.2.2.1.symm | exact q.2.2.2.2.2.2.2.1.symm | exact q.2.2.2.2.2.2.2.2.1.symm | exact q.2.2.2.2.2.2.2.2.2.1.symm | exact q.2.2.2.2.2.2.2.2.2.2.1.symm | exact q.2.2.2.2.2.2.2.2.2.2.2.1.symm | exact q.2.2.2.2.2.2.2.2.2.2.2.2.1.symm | exact q.2.2.2.2.2.2.2.2.2.2.2.2.2.1.symm | exact q.2.2.2.2.2.2.2.2.2.2.2.2.2.2.1.symm | exact q.2.2.2.2.2.2.2.2.2.2.2.2.2.2.2.1.symm | exact q.2.2.2.2.2.2.2.2.2.2.2.2.2.2.2.2.1.symm | exact q.2.2.2.2.2.2.2.2.2.2.2.2.2.2.2.2.2.1.symm) | (refine neRt q ?_; first | exact q.1 | exact q.2.1 | exact q.2.2.1 | exact q.2.2.2.1 | exact q.2.2.2.2.1 | exact q.2.2.2.2.2.1 | exact q.2.2.2.2.2.2.1 | exact q.2.2.2.2.2.2.2.1 | exact q.2.2.2.2.2.2.2.2.1 | exact q.2.2.2.2.2.2.2.2.2.1 | exact q.2.2.2.2.2.2.2.2.2.2.1 | exact q.2.2.2.2.2.2.2.2.2.2.2.1 | exact q.2.2.2.2.2.2.2.2.2.2.2.2.1 | exact q.2.2.2.2.2.2.2.2.2.2.2.2.2.1 | exact q.2.2.2.2.2.2.2.2.2.2.2.2.2.2.1 | exact q.2.2.2.2.2.2.2.2.2.2.2.2.2.2.2.1 | exact q.2.2.2.2.2.2.2.2.2.2.2.2.2.2.2.2.1 | exact q.2.2.2.2.2.2.2.2.2.2.2.2.2.2.2.2.2.1) | (clear q; k_extra "neA"))
  k_with "eval Name" => (k_here; kc_free; k_dflt (refine' nameX_F ?zqN ?zqc ?zqm ?zqd ?_ ?zqa ?zqb; (case zqa => rfl); (case zqb => rfl); (case zqN => k_asm); (case zqc => rfl); (case zqm => first | exact List.mem_cons_of_mem _ (by assumption) | k_mem); (case zqd => k_asm); k_whole))
  k_with "binaryOp RShift int int" => (k_here; k_dflt (first | ((with_reducible refine' sh_mid ?zqa ?zqb ?zqc ?zqd ?_); (case zqa => assumption); (case zqb => assumption); (case zqc => assumption); (case zqd => assumption); k_whole; intro mid tk' m1 m2 m3 m4 m5) | ((with_reducible refine' sh_right ?zqa ?zqb ?zqc ?_); (case zqa => assumption); (case zqb => assumption); (case zqc => assumption); k_whole; intro up tk' u1 u2 u3)))
  k_with "binaryOp Mult int int" => (k_here; k_dflt (refine' sh_mul ?zqa ?zqb ?zqc ?zqd ?_; (case zqa => omega); (case zqb => omega); (case zqc => assumption); (case zqd => assumption); k_whole; intro sh tk' s1 s2 s3))
  k_with "binaryOp LShift int int" => (k_here; k_dflt (refine' sh_left ?zqa ?zqb ?zqc ?zqd ?_; (case zqa => assumption); (case zqb => assumption); (case zqc => assumption); (case zqd => omega); k_whole; intro y tk' y1))
  k_with "binaryOp BitXor int int" => (k_here; k_dflt (refine' sh_xor ?zqa ?zqb ?zqc ?zqd ?_; (case zqc => assumption); (case zqd => assumption); (case zqa => assumption); (case zqb => assumption); k_whole; intro lo tk' lo1 lo2 lo3))
  k_with "callWith ref" => (k_here; k_dflt (refine' callWith_F ?zqk1 ?_; (case zqk1 => exact FnAt.of (by k_asm) (.tail _ (by assumption))); k_whole))
  k_with "call ref" => (k_here; k_dflt (refine' In35.use ?zqIN ?zqB ?zqF ?zqX ?zqN ?zqsub ?zqT ?zqhk ?zqdp ?zqun ?zqmf ?zqmc ?zqhd ?zqhv ?zqm1 ?zqd1 ?zqm2 ?zqd2 ?zqm3 ?zqd3 ?zqoff ?zqiv ?zql0 ?zqlr ?zqrn ?zqn64 ?zqrk ?zqx0 ?zqx1 ?zqn0 ?zqn1 ?_; (case zqIN => exact (show 0 < _ → In35 _ _ _ _ _ _ _ _ _ _ _ _ by assumption) (by assumption)); (case zqB => k_asm); (case zqF => k_asm); (case zqX => k_asm); (case zqN => k_asm); (case zqsub => exact fun _ h => h); (case zqT => k_asm); (case zqhk => exact rfl); (case zqmf => assumption); (case zqhd => assumption); (case zqmc => assumption); (case zqhv => assumption); (case zqd1 => assumption); (case zqm1 => assumption); (case zqd2 => assumption); (case zqm2 => assumption); (case zqd3 => assumption); (case zqm3 => assumption); (case zqoff => assumption); (case zqiv => with_reducible assumption); (case zql0 => omega); (case zqlr => assumption); (case zqrn => first | assumption | omega | (rw [put_length (by omega)]; assumption)); (case zqn64 => first | assumption | (rw [put_length (by omega)]; assumption)); (case zqrk => assumption); (case zqx0 => assumption); (case zqx1 => assumption); (case zqn0 => assumption); (case zqn1 => assumption); (case zqdp => dsimp only [ktrTop]; omega); (case zqun => dsimp only [ktrTop]; omega); k_whole; intro items' ds h' tk' F' N' ln dg vl iv'))
  k_with "FnAt" => (k_dflt (exact FnAt.of (by k_asm) (.tail _ (by assumption))))
  obtain ⟨B, hB⟩ : ∃ B, bodyOf (inDef 4 1) = B := ⟨_, rfl⟩
  obtain ⟨P, hP⟩ : ∃ P, argsOf (inDef 4 1) = P := ⟨_, rfl⟩
  obtain ⟨S, hS⟩ : ∃ S, scopeOf (inDef 4 1) = S := ⟨_, rfl⟩
  unfold of35 at ih ⊢
  rw [hB, hP, hS] at ih ⊢
  simp only [inDef, topDef, PySem.Challenge.pw_wz0050_01, List.getD_cons_succ, List.getD_cons_zero, bodyOf, argsOf, scopeOf] at hB hP hS
  subst hB hP hS
  unfold In35
  intro p loose mean mg mb dp un gd cn cs a ccd cl outer A₀ base h₀ L m news s Q E o1 o2 o3 oc vc tc items ns ep x l r tx tl tr B F X N T hk hdp hun mf mc hd hv m1 d1 m2 d2 m3 d3 off hi l0 lr rn n64 rk x0 x1 n0 n1 ret
  refine wpAny_call ?_
  k_dflt (refine' code_nest (binds := [(Str.ofString "x", .int x tx), (Str.ofString "L", .int l tl), (Str.ofString "R", .int r tr)]) ?k1 ?k2 ?k3 ?k4 ?k5 ?kA ?kF ?kK ?k6 ?k7 ?k8 ?k9 ?kB ?_ ?c2 ?c3 ?c4 ?c5; (case kA => exact rfl); (case kF => exact rfl); (case kK => assumption); (case k1 => k_asm); (case k2 => k_asm); (case k3 => k_asm); (case k4 => k_asm); (case k5 => k_asm); (case k6 => exact .tail _ mf); (case k7 => exact codeRec_news (by k_asm) (.tail _ mc) (by assumption) (by assumption)); (case k8 => ktr_room); (case k9 => exact BindsTo.of_eq rfl); (case c5 => decide); (case kB => exact locs rfl); (case c2 => exact rfl); (case c3 => exact rfl); (case c4 => exact rfl); k_whole; intro g' L' h' FG' F' N' B' X' T'; (try dsimp only); (try k_lift B'); (try k_fold))
  refine opaq ?_
  intro Qe Ee hQe
  k_steps
  all_goals (try refine hQe _ _ ?_)
  k_steps
  · refine ret _ [x] _ _ (by k_asm) (by k_asm) ?_ ?_ ?_ ?_
    · simp only [List.length_cons, List.length_nil]; omega
    · intro d hd; rw [List.mem_singleton.mp hd]; exact ⟨x0, x1⟩
    · simp [val]
    · rw [← put_one (by omega)]; assumption
  · refine' ret _ (_ ++ _) _ _ ?F ?N ?ln ?dg (val_split ?s ?lo ?up ?lA ?vA ?vB) ?iv
    (case F => k_asm)
    (case N => k_asm)
    (case s => assumption)
    (case lo => assumption)
    (case up => assumption)
    (case lA => assumption)
    (case vA => assumption)
    (case vB => assumption)
    (case ln => rw [List.length_append]; omega)
    (case dg => exact Digs.append (by assumption) (by assumption))
    (case iv => exact ints_put (by assumption) (by omega) (by omega))
set_option maxHeartbeats 8000000
theorem sub_cons {x : Addr × Obj} {xs l : Led} (h : x ∈ l) (r : ∀ q ∈ xs, q ∈ l) : ∀ q ∈ x :: xs, q ∈ l := fun q hq => by
  rcases List.mem_cons.mp hq with rfl | hq
  · exact h
  · exact r q hq
theorem sub_skip {x : Addr × Obj} {xs l : Led} (r : ∀ q ∈ xs, q ∈ l) : ∀ q ∈ xs, q ∈ x :: l := fun q hq => .tail _ (r q hq)
theorem sub_self {l : Led} : ∀ q ∈ l, q ∈ l := fun _ h => h
theorem sub_nil {l : Led} : ∀ q ∈ ([] : Led), q ∈ l := fun _ h => nomatch h
theorem News.sub {h₀ h : Heap} {L : Addr} {xs l : Led} (N : News h₀ L h l) (s : ∀ q ∈ xs, q ∈ l) : News h₀ L h xs := fun q hq => N q (s q hq)
/-- the new objects stand above the old ones -/
theorem ordT {d a b : Addr} {oa ob : Obj} {tl news : Led} (lo : Low d news) (ha : @LT.lt Nat _ a d) (hb : @LT.lt Nat _ b d) (h : ∀ p ∈ tl, @LE.le Nat _ d p.1) : ∀ q ∈ (a, oa) :: (b, ob) :: news, ∀ p ∈ tl, q.1 < p.1 := fun q hq p hp => by
  have hd := h p hp
  rcases List.mem_cons.mp hq with rfl | hq
  · exact Nat.lt_of_lt_of_le ha hd
  · rcases List.mem_cons.mp hq with rfl | hq
    · exact Nat.lt_of_lt_of_le hb hd
    · exact Nat.lt_of_lt_of_le (lo q hq) hd
theorem le_one {d x : Addr} {o : Obj} (h : @LE.le Nat _ d x) : ∀ p ∈ [(x, o)], @LE.le Nat _ d p.1 := fun p hp => by
  rw [List.mem_singleton.mp hp]; exact h
theorem le_cons {d x : Addr} {o : Obj} {tl : Led} (h : @LE.le Nat _ d x) (r : ∀ p ∈ tl, @LE.le Nat _ d p.1) : ∀ p ∈ (x, o) :: tl, @LE.le Nat _ d p.1 := fun p hp => by
  rcases List.mem_cons.mp hp with rfl | hp
  · exact h
  · exact r p hp
theorem le_nil {d : Addr} : ∀ p ∈ ([] : Led), @LE.le Nat _ d p.1 := fun _ h => nomatch h
theorem bits_pos {a : Int} (h : a ≠ 0) : 1 ≤ Builtin.Int.intBits a := by
  unfold Builtin.Int.intBits
  have : (a == 0) = false := by simp [h]
  rw [this]
  simp
theorem kdig_pos {a n : Int} (h : a ≠ 0) (hn : 0 < n) : 1 ≤ ((Builtin.Int.intBits a : Int) + n - 1).fdiv n := by
  have hb := bits_pos h
  rw [Int.fdiv_eq_ediv_of_nonneg _ (by omega)]
  exact (Int.le_ediv_iff_mul_le hn).mpr (by omega)
theorem lr_of {a n : Int} (h : a ≠ 0) (hn : 0 < n) : (0 : Int) < ((((Builtin.Int.intBits a : Int) + n - 1).fdiv n).toNat : Nat) := by
  have := kdig_pos h hn
  omega
theorem put_whole {ns ds : List Int} (h : ds.length = ns.length) : put ns 0 ds = ds := by
  unfold put
  rw [List.take_zero, List.nil_append, Nat.zero_add, h, List.drop_length, List.append_nil]
theorem ints_whole {i : List Value} {ns ds : List Int} (h : IntsAre i (put ns (Int.toNat 0) ds)) (e : ds.length = ns.length) : IntsAre i ds := by
  have q : put ns (Int.toNat 0) ds = ds := put_whole e
  rw [q] at h
  exact h
theorem val_zeros (b : Int) : ∀ n : Nat, val b (List.replicate n 0) = 0
  | 0 => rfl
  | n + 1 => by rw [List.replicate_succ]; simp [val, val_zeros b n]
theorem digs_zeros (n : Nat) : Digs (List.replicate n 0) := fun d hd => by
  rw [List.eq_of_mem_replicate hd]; decide
/-- a list of digs in the ledger, that stand for x -/
noncomputable abbrev DigL (b x : Int) (tl : Led) (v : Value) : Prop := ∃ D vs ds ep, v = .ref D ∧ (D, listOf vs.toArray ep) ∈ tl ∧ IntsAre vs ds ∧ Digs ds ∧ ds.length ≤ 64 ∧ val b ds = x
set_option maxHeartbeats 8000000
theorem c35 : ∀ (w : World) (va vn : Int) (ta tn : Tok) (h1 : 0 ≤ va) (h2 : va < 2 ^ 31) (h3 : 0 < vn) (h4 : vn < 40),
    DoesT w 35 [.int va ta, .int vn tn] 10 (DigL (2 ^ vn.toNat) va) := by
  k_with_none
  k_with "ne" => (first | (refine Nat.ne_of_lt ?_; k_extra "neL") | (refine Nat.ne_of_gt ?_; k_extra "neL") | with_reducible assumption | (refine Ne.symm ?_; with_reducible assumption) | k_extra "neA")
  k_with "neL" => (first | with_reducible assumption | with_reducible exact ltS0 _ | k_extra "neS" | ((fail_if_success with_reducible show _ < 37); (fail_if_success with_reducible show _ < 30); with_reducible refine ltS ?_; k_extra "neL"))
  k_with "neS" => (with_reducible rename (@LT.lt Nat _ _ _ ∧ _) => q; first | (refine ltRt q ?_; first | exact q.1 | exact q.2.1 | exact q.2.2.1 | exact q.2.2.2.1 | exact q.2.2.2.2.1 | exact q.2.2.2.2.2.1 | exact q.2.2.2.2.2.2.1 | exact q.2.2.2.2.2.2.2.1 | exact q.2.2.2.2.2.2.2.2.1 | exact q.2.2.2.2.2.2.2.2.2.1 | exact q.2.2.2.2.2.2.2.2.2.2.1 | exact q.2.2.2.2.2.2.2.2.2.2.2.1 | exact q.2.2.2.2.2.2.2.2.2.2.2.2.1 | exact q.2.2.2.2.2.2.2.2.2.2.2.2.2.1 | exact q.2.2.2.2.2.2.2.2.2.2.2.2.2.2.1 | exact q.2.2.2.2.2.2.2.2.2.2.2.2.2.2.2.1 | exact q.2.2.2.2.2.2.2.2.2.2.2.2.2.2.2.2.1 | exact q.2.2.2.2.2.2.2.2.2.2.2.2.2.2.2.2.2.1) | (clear q; k_extra "neS"))
  k_with "neA" => (with_reducible rename (@Ne _ _ _ ∧ _) => q; first | (refine neLt q ?_; first | exact q.1.symm | exact q.2.1.symm | exact q.2.2.1.symm | exact q.2.2.2.1.symm | exact q.2.2.2.2.1.symm | exact q.2.2.2.2.2.1.symm | exact q.2.2.2.2.2.2.1.symm | exact q.2.2.2.2.2.2.2.1.symm | exact q.2.2.2.2.2.2.2.2.1.symm | exact q.2.2.2.2.2.2.2.2.2.1.symm | exact q.2.2.2.2.2.2.2.2.2.2.1.symm | exact q.2.2.2.2.2.2.2.2.2.2.2.1.symm | exact q.2.2.2.2.2.2.2.2.2.2.2.2.1.symm | exact q.2.2.2.2.2.2.2.2.2.2.2.2.2.1.symm | exact q.2.2.2.2.2.2.2.2.2.2.2.2.2.2.1.symm | exact q.2.2.2.2.2.2.2.2.2.2.2.2.2.2.2.1.symm | exact q.2.2.2.2.2.2.2.2.2.2.2.2.2.2.2.2.1.symm | exact q.2.2.2.2.2.2.2.2.2.2.2.2.2.2.2.2.2.1.symm) | (refine neRt q ?_; first | exact q.1 | exact q.2.1 | exact q.2.2.1 | exact q.2.2.2.1 | exact q.2.2.2.2.1 | exact q.2.2.2.2.2.1 | exact q.2.2.2.2.2.2.1 | exact q.2.2.2.2.2.2.2.1 | exact q.2.2.2.2.2.2.2.2.1 | exact q.2.2.2.2.2.2.2.2.2.1 | exact q.2.2.2.2.2.2.2.2.2.2.1 | exact q.2.2.2.2.2.2.2.2.2.2.2.1 | exact q.2.2.2.2.2.2.2.2.2.2.2.2.1 | exact q.2.2.2.2.2.2.2.2.2.2.2.2.2.1 | exact q.2.2.2.2.2.2.2.2.2.2.2.2.2.2.1 | exact q.2.2.2.2.2.2.2.2.2.2.2.2.2.2.2.1 | exact q.2.2.2.2.2.2.2.2.2.2.2.2.2.2.2.2.1 | exact q.2.2.2.2.2.2.2.2.2.2.2.2.2.2.2.2.2.1) | (clear q; k_extra "neA"))
  k_with "binaryOp Mult ref int" => (k_here; k_dflt (refine' mul0 ?zqF ?zqN ?zqm ?zqa ?zqb ?_; (case zqF => k_asm); (case zqN => k_asm); (case zqm => k_mem); (case zqa => exact (kdig _ _ (by omega) (by omega) (by omega)).1); (case zqb => exact (kdig _ _ (by omega) (by omega) (by omega)).2); k_whole); intro D' h' F' N' l1 hx0 hx1; (try k_lt l1); (try k_sweep))
  k_with "call builtin:len" => (k_here; k_dflt (refine' lenL ?zqN ?zqm ?zqc ?zqd ?zqf ?_; (case zqN => k_asm); (case zqm => k_mem); (case zqc => rfl); (case zqd => rfl); (case zqf => first | (simp only [List.length_replicate]; omega)); k_whole); intro t' tk'; (try simp only [List.length_replicate]))
  k_with "call ref" => (k_here; k_dflt (refine' In35.use (k := 6) (in35_all (fun k ih => in35 k ih) 6) ?zqB ?zqF ?zqX ?zqN ?zqsub ?zqT ?zqhk ?zqdp ?zqun ?zqmf ?zqmc ?zqhd ?zqhv ?zqm1 ?zqd1 ?zqm2 ?zqd2 ?zqm3 ?zqd3 ?zqoff ?zqiv ?zql0 ?zqlr ?zqrn ?zqn64 ?zqrk ?zqx0 ?zqx1 ?zqn0 ?zqn1 ?_; (case zqB => k_asm); (case zqF => k_asm); (case zqX => k_asm); (case zqN => k_asm); (case zqsub => first | exact sub_rot1 | exact sub_rot2); (case zqT => k_asm); (case zqhk => exact rfl); (case zqmf => k_mem); (case zqhd => assumption); (case zqmc => k_mem); (case zqhv => assumption); (case zqd1 => assumption); (case zqm1 => k_mem); (case zqd2 => assumption); (case zqm2 => k_mem); (case zqd3 => assumption); (case zqm3 => k_mem); (case zqoff => k_all); (case zqiv => exact ints_rep _ _); (case zqdp => dsimp only [ktrTop]; omega); (case zqun => dsimp only [ktrTop]; omega); (case zql0 => omega); (case zqlr => exact lr_of (by assumption) (by assumption)); (case zqrn => rw [List.length_replicate]; omega); (case zqn64 => rw [List.length_replicate]; omega); (case zqrk => omega); (case zqx0 => assumption); (case zqx1 => assumption); (case zqn0 => assumption); (case zqn1 => assumption); k_whole; intro items' ds h' tk' F' N' ln dg vl iv'))
  k_with "subs" => (first | exact sub_nil | exact sub_self | (refine sub_cons (by k_mem) ?_; k_extra "subs") | (refine sub_skip ?_; k_extra "subs"))
  unfold DoesT
  intro w va vn ta tn h1 h2 h3 h4 p loose mean mg mb dp un gd cn cs a ccd cl outer A₀ base h₀ L m news a37 a30 s Q E B F X N T hk t37 t30 hoT hdp hun ret
  have hb := intBits_le_64 (k := va) (by omega) (by omega)
  rcases t30 with rfl | ⟨c', oc, vs, t, rfl, hm, hd, hv⟩
  · refine wpAny_call ?_
    k_dflt (refine' code_defC ?k1 ?k2 ?k3 ?k4 ?k5 ?kA ?kF ?kK ?k6 ?k7 ?k8 ?k9 ?kB ?kD ?_ ?c2 ?c3 ?c4; (case kA => exact rfl); (case kF => exact rfl); (case kK => assumption); (case k1 => k_asm); (case k2 => k_asm); (case k3 => k_asm); (case k4 => k_asm); (case k5 => k_asm); (case k6 => k_is); (case k7 => k_is); (case k8 => ktr_room); (case k9 => exact BindsTo.of_eq rfl); (case kB => exact rfl); (case kD => decide +kernel); (case c2 => exact rfl); (case c3 => exact rfl); (case c4 => exact rfl); k_whole; intro g' L' h' tk' cells' FG' F' N' Y' B' X' T' l1; (have C30 := ch30 _ X'); (have lN := Low.of (fun p hp => l1 p (.tail _ (.tail _ hp)))); (try k_lt l1); k_cells Y'; (try simp only [List.cons_append, List.nil_append] at N'); (try dsimp only); (try k_lift B'); (try k_fold))
    refine opaq ?_
    intro Qe Ee hQe
    k_steps
    all_goals (refine hQe _ _ ?_)
    k_steps
    · k_dflt (refine' ret _ [(_, listOf _ _), (?c, ?oc)] _ (#[] ++ #[rawInt 32, rawInt 4, .ref ?c]) _ _ ?F ?N ?o ?t37 ?t30 ⟨_, _, _, _, rfl, .head _, ?iv, ?dg, ?len, ?v⟩)
      k_dflt (case F => k_asm)
      k_dflt (case N => exact News.sub (by k_asm) (by k_extra "subs"))
      k_dflt (case o => exact ordT lN (by first | k_extra "neL" | omega) (by first | k_extra "neL" | omega) (le_cons (by omega) (le_one (by omega))))
      k_dflt (case t37 => exact t37.mono (fun _ h => .tail _ (.tail _ h)))
      k_dflt (case t30 => exact .inr ⟨_, _, _, _, rfl, List.mem_append_left _ (.tail _ (.head _)), by assumption, by assumption⟩)
      k_dflt (case iv => exact ints_whole (by assumption) (by rw [List.length_replicate]; omega))
      k_dflt (case dg => assumption)
      k_dflt (case v => assumption)
      k_dflt (case len => omega)
    · k_dflt (refine' ret _ [(_, listOf _ _), (?c, ?oc)] _ (#[] ++ #[rawInt 32, rawInt 4, .ref ?c]) _ _ ?F ?N ?o ?t37 ?t30 ⟨_, _, _, _, rfl, .head _, ints_rep _ _, digs_zeros _, ?len, ?v⟩)
      k_dflt (case F => k_asm)
      k_dflt (case N => exact News.sub (by k_asm) (by k_extra "subs"))
      k_dflt (case o => exact ordT lN (by first | k_extra "neL" | omega) (by first | k_extra "neL" | omega) (le_cons (by omega) (le_one (by omega))))
      k_dflt (case t37 => exact t37.mono (fun _ h => .tail _ (.tail _ h)))
      k_dflt (case t30 => exact .inr ⟨_, _, _, _, rfl, List.mem_append_left _ (.tail _ (.head _)), by assumption, by assumption⟩)
      k_dflt (case v => rw [val_zeros]; omega)
      k_dflt (case len => rw [List.length_replicate]; omega)
  · have N2 : News h₀ L s.heap ((37, tabObj a37) :: (30, tabObj #[rawInt 32, rawInt 4, .ref c']) :: (c', oc) :: news) := News.sub N (sub_cons (.head _) (sub_cons (.tail _ (.head _)) (sub_cons (.tail _ (.tail _ hm)) (sub_skip (sub_skip sub_self)))))
    clear N
    refine wpAny_call ?_
    k_dflt (refine' code_defC ?k1 ?k2 ?k3 ?k4 ?k5 ?kA ?kF ?kK ?k6 ?k7 ?k8 ?k9 ?kB ?kD ?_ ?c2 ?c3 ?c4; (case kA => exact rfl); (case kF => exact rfl); (case kK => assumption); (case k1 => k_asm); (case k2 => k_asm); (case k3 => k_asm); (case k4 => k_asm); (case k5 => k_asm); (case k6 => k_is); (case k7 => k_is); (case k8 => ktr_room); (case k9 => exact BindsTo.of_eq rfl); (case kB => exact rfl); (case kD => decide +kernel); (case c2 => exact rfl); (case c3 => exact rfl); (case c4 => exact rfl); k_whole; intro g' L' h' tk' cells' FG' F' N' Y' B' X' T' l1; (have C30 := ch30 _ X'); (have lN := Low.of (fun p hp => l1 p (.tail _ (.tail _ (.tail _ hp))))); (try k_lt l1); k_cells Y'; (try simp only [List.cons_append, List.nil_append] at N'); (try dsimp only); (try k_lift B'); (try k_fold))
    refine opaq ?_
    intro Qe Ee hQe
    k_steps
    all_goals (refine hQe _ _ ?_)
    k_steps
    · k_dflt (refine' ret _ [(_, listOf _ _)] _ #[rawInt 32, rawInt 4, .ref c'] _ _ ?F ?N ?o ?t37 ?t30 ⟨_, _, _, _, rfl, .head _, ?iv, ?dg, ?len, ?v⟩)
      k_dflt (case F => k_asm)
      k_dflt (case N => exact News.sub (by k_asm) (by k_extra "subs"))
      k_dflt (case o => exact ordT lN (by first | k_extra "neL" | omega) (by first | k_extra "neL" | omega) (le_one (by omega)))
      k_dflt (case t37 => exact t37.mono (fun _ h => .tail _ h))
      k_dflt (case t30 => exact .inr ⟨_, _, _, _, rfl, .tail _ hm, by assumption, by assumption⟩)
      k_dflt (case iv => exact ints_whole (by assumption) (by rw [List.length_replicate]; omega))
      k_dflt (case dg => assumption)
      k_dflt (case v => assumption)
      k_dflt (case len => omega)
    · k_dflt (refine' ret _ [(_, listOf _ _)] _ #[rawInt 32, rawInt 4, .ref c'] _ _ ?F ?N ?o ?t37 ?t30 ⟨_, _, _, _, rfl, .head _, ints_rep _ _, digs_zeros _, ?len, ?v⟩)
      k_dflt (case F => k_asm)
      k_dflt (case N => exact News.sub (by k_asm) (by k_extra "subs"))
      k_dflt (case o => exact ordT lN (by first | k_extra "neL" | omega) (by first | k_extra "neL" | omega) (le_one (by omega)))
      k_dflt (case t37 => exact t37.mono (fun _ h => .tail _ h))
      k_dflt (case t30 => exact .inr ⟨_, _, _, _, rfl, .tail _ hm, by assumption, by assumption⟩)
      k_dflt (case v => rw [val_zeros]; omega)
      k_dflt (case len => rw [List.length_replicate]; omega)
set_option maxHeartbeats 8000000
noncomputable def cut (ns : List Int) (l r : Int) : List Int := (ns.drop l.toNat).take (r - l).toNat
theorem val_nonneg {b : Int} (hb : 0 ≤ b) : ∀ {ds : List Int}, (∀ d ∈ ds, 0 ≤ d) → 0 ≤ val b ds
  | [], _ => Int.le_refl 0
  | d :: ds, h => by
    have h1 := h d (.head _)
    have h2 := val_nonneg hb (ds := ds) fun x hx => h x (.tail _ hx)
    have h3 := Int.mul_nonneg hb h2
    simp only [val]; omega
theorem cut_pos {ns : List Int} {l r : Int} (h : ∀ d ∈ ns, 0 ≤ d) : ∀ d ∈ cut ns l r, 0 ≤ d := fun d hd => h d (List.mem_of_mem_drop (List.mem_of_mem_take hd))
theorem cut_one {b : Int} {ns : List Int} {l r : Int} (l0 : 0 ≤ l) (h : l + 1 = r) (rn : r ≤ (ns.length : Int)) : ns.getD l.toNat 0 = val b (cut ns l r) := by
  have e : (r - l).toNat = 1 := by omega
  have hl : l.toNat < ns.length := by omega
  unfold cut
  rw [e, List.drop_eq_getElem_cons hl, List.take_succ_cons, List.take_zero]
  simp [val, hl]
theorem cut_split {b : Int} {ns : List Int} {l m r : Int} (l0 : 0 ≤ l) (h1 : l ≤ m) (h2 : m ≤ r) (rn : r ≤ (ns.length : Int)) : val b (cut ns l r) = val b (cut ns l m) + b ^ (m - l).toNat * val b (cut ns m r) := by
  have e : cut ns l r = cut ns l m ++ cut ns m r := by
    unfold cut
    have e1 : (r - l).toNat = (m - l).toNat + (r - m).toNat := by omega
    have e2 : m.toNat = l.toNat + (m - l).toNat := by omega
    rw [e1, e2, List.take_add, List.drop_drop]
  have e2 : (cut ns l m).length = (m - l).toNat := by
    unfold cut
    rw [List.length_take, List.length_drop]; omega
  rw [e, val_append, e2]
theorem cut_all (ns : List Int) : cut ns 0 (ns.length : Nat) = ns := by
  unfold cut
  simp
/-- both halves stay below the whole -/
theorem cut_low {n : Int} {ns : List Int} {l m r : Int} (l0 : 0 ≤ l) (h1 : l ≤ m) (h2 : m ≤ r) (rn : r ≤ (ns.length : Int)) (hp : ∀ d ∈ ns, 0 ≤ d) (hv : val (2 ^ n.toNat) (cut ns l r) < 2 ^ 31) :
    val (2 ^ n.toNat) (cut ns l m) < 2 ^ 31 ∧ val (2 ^ n.toNat) (cut ns m r) < 2 ^ 31 := by
  have e := cut_split (b := 2 ^ n.toNat) l0 h1 h2 rn
  have hb : (0 : Int) < 2 ^ n.toNat := Int.pow_pos (by decide)
  have a1 := val_nonneg (Int.le_of_lt hb) (cut_pos (l := l) (r := m) hp)
  have a2 := val_nonneg (Int.le_of_lt hb) (cut_pos (l := m) (r := r) hp)
  have hq : (1 : Int) ≤ (2 ^ n.toNat) ^ (m - l).toNat := Int.pow_pos hb
  have a3 := Int.mul_le_mul_of_nonneg_right hq a2
  have a4 := Int.mul_nonneg (Int.le_trans (by decide) hq) a2
  omega
theorem cut_lo1 {n : Int} {ns : List Int} {l m r : Int} (hv : val (2 ^ n.toNat) (cut ns l r) < 2 ^ 31) (l0 : 0 ≤ l) (h1 : l < m) (h2 : m < r) (rn : r ≤ (ns.length : Int)) (hp : ∀ d ∈ ns, 0 ≤ d) : val (2 ^ n.toNat) (cut ns l m) < 2 ^ 31 := (cut_low l0 (Int.le_of_lt h1) (Int.le_of_lt h2) rn hp hv).1
theorem cut_lo2 {n : Int} {ns : List Int} {l m r : Int} (hv : val (2 ^ n.toNat) (cut ns l r) < 2 ^ 31) (l0 : 0 ≤ l) (h1 : l < m) (h2 : m < r) (rn : r ≤ (ns.length : Int)) (hp : ∀ d ∈ ns, 0 ≤ d) : val (2 ^ n.toNat) (cut ns m r) < 2 ^ 31 := (cut_low l0 (Int.le_of_lt h1) (Int.le_of_lt h2) rn hp hv).2
/-- the inner def of _digits2int, as the object that stands for it -/
noncomputable def In42 (w : World) (of : Obj) (qual : Str) (f D c1 c2 c3 c' : Addr) (n : Int) (tn : Tok) (k : Nat) : Prop :=
  ∀ (p : Program) (loose : List Str) (mean : ExcName → Option Value) (mg mb : Str → Option Value)
    (dp un : Nat) (gd : Option (List Code)) (cn : Str) (cs : Scope) (a : Addr) (ccd : Value) (cl : List (Str × Addr)) (outer : List Env) (A₀ : Around) (base h₀ : Heap) (L : Addr) (m : Str → Option Value)
    (news : Led) (s : Shared) (Q E : Value → Shared → Prop) (o1 o2 o3 oc : Obj) (vc : Array Value) (tc : Tok) (items : List Value) (ns : List Int) (ep : Nat) (l r : Int) (tl tr : Tok),
    Below A₀ base outer h₀ → Fr h₀ L s.heap m → (hd.heap_39 w.params).In h₀ → News h₀ L s.heap ((D, listOf items.toArray ep) :: news) → Top p loose mean mg mb h₀ → cs.kind = .function →
    dp + (k + 1) < recursionLimit → un + 8 * (k + 1) < cLine →
    (f, of) ∈ news → (c', oc) ∈ news → oc.data = .fields vc → vc[1]? = some (.str qual tc) → (c1, o1) ∈ news → o1.data = .cell (some (.ref D)) → (c2, o2) ∈ news → o2.data = .cell (some (.ref f)) → (c3, o3) ∈ news → o3.data = .cell (some (.int n tn)) →
    IntsAre items ns → 0 ≤ l → l < r → r ≤ (ns.length : Int) → ns.length ≤ 64 → (r - l) ≤ 2 ^ k → 0 < n → n < 40 → (∀ d ∈ ns, 0 ≤ d) → val (2 ^ n.toNat) (cut ns l r) < 2 ^ 31 →
    (∀ v t h' tk', Fr h₀ L h' m → News h₀ L h' ((D, listOf items.toArray ep) :: news) → v = val (2 ^ n.toNat) (cut ns l r) → 0 ≤ v → v < 2 ^ 31 → Q (.int v t) { s with heap := h', toks := tk' }) →
    wpAny (model PySem.Challenge.rw_wz0050_01.row.prog w) (ktrTop dp un gd cn cs L a ccd cl outer) (call (.ref f) [.int l tl, .int r tr]) Q E s
theorem In42.use {w : World} {of : Obj} {qual : Str} {f D c1 c2 c3 c' : Addr} {n : Int} {tn : Tok} {k : Nat} (C : In42 w of qual f D c1 c2 c3 c' n tn k)
    {p : Program} {loose : List Str} {mean : ExcName → Option Value} {mg mb : Str → Option Value}
    {dp un : Nat} {gd : Option (List Code)} {cn : Str} {cs : Scope} {a : Addr} {ccd : Value} {cl : List (Str × Addr)} {outer : List Env} {A₀ : Around} {base h₀ : Heap} {L : Addr} {m : Str → Option Value}
    {news news' : Led} {s : Shared} {Q E : Value → Shared → Prop} {o1 o2 o3 oc : Obj} {vc : Array Value} {tc : Tok} {items : List Value} {ns : List Int} {ep : Nat} {l r : Int} {tl tr : Tok}
    (B : Below A₀ base outer h₀) (F : Fr h₀ L s.heap m) (X : (hd.heap_39 w.params).In h₀) (N : News h₀ L s.heap news') (hs : ∀ p ∈ (D, listOf items.toArray ep) :: news, p ∈ news') (T : Top p loose mean mg mb h₀) (hk : cs.kind = .function)
    (hdp : dp + (k + 1) < recursionLimit) (hun : un + 8 * (k + 1) < cLine)
    (mf : (f, of) ∈ news) (mc : (c', oc) ∈ news) (hd : oc.data = .fields vc) (hv : vc[1]? = some (.str qual tc)) (m1 : (c1, o1) ∈ news) (d1 : o1.data = .cell (some (.ref D))) (m2 : (c2, o2) ∈ news) (d2 : o2.data = .cell (some (.ref f))) (m3 : (c3, o3) ∈ news) (d3 : o3.data = .cell (some (.int n tn)))
    (hi : IntsAre items ns) (l0 : 0 ≤ l) (lr : l < r) (rn : r ≤ (ns.length : Int)) (n64 : ns.length ≤ 64) (rk : (r - l) ≤ 2 ^ k) (n0 : 0 < n) (n1 : n < 40) (hp : ∀ d ∈ ns, 0 ≤ d) (hv2 : val (2 ^ n.toNat) (cut ns l r) < 2 ^ 31)
    (ret : ∀ v t h' tk', Fr h₀ L h' m → News h₀ L h' ((D, listOf items.toArray ep) :: news) → v = val (2 ^ n.toNat) (cut ns l r) → 0 ≤ v → v < 2 ^ 31 → Q (.int v t) { s with heap := h', toks := tk' }) :
    wpAny (model PySem.Challenge.rw_wz0050_01.row.prog w) (ktrTop dp un gd cn cs L a ccd cl outer) (call (.ref f) [.int l tl, .int r tr]) Q E s :=
  C _ _ _ _ _ _ _ _ _ _ _ _ _ _ _ _ _ _ _ _ _ _ _ _ _ _ _ _ _ _ _ _ _ _ _ _ B F X (fun q hq => N q (hs q hq)) T hk hdp hun mf mc hd hv m1 d1 m2 d2 m3 d3 hi l0 lr rn n64 rk n0 n1 hp hv2 ret
theorem in42_all {w : World} {of : Obj} {qual : Str} {f D c1 c2 c3 c' : Addr} {n : Int} {tn : Tok} (step : ∀ k, (0 < k → In42 w of qual f D c1 c2 c3 c' n tn (k - 1)) → In42 w of qual f D c1 c2 c3 c' n tn k) : ∀ k, In42 w of qual f D c1 c2 c3 c' n tn k := by
  intro k
  induction k with
  | zero => exact step 0 fun h => absurd h (Nat.lt_irrefl _)
  | succ k ih => exact step (k + 1) fun _ => ih
noncomputable abbrev of42 (qual : Str) (c1 c2 c3 c' : Addr) (doc pm ctv : Value) : Obj :=
  fnMade (Str.ofString "inner") qual (argsOf (inDef 5 0)) (bodyOf (inDef 5 0)) (scopeOf (inDef 5 0)) [(Str.ofString "n", c3), (Str.ofString "inner", c2), (Str.ofString "digits", c1)] doc pm c' ctv
theorem cut_join {n y v1 v2 sh : Int} {ns : List Int} {l m r : Int} (hs : sh.toNat = n.toNat * (m - l).toNat) (hy : y = v2 * 2 ^ sh.toNat) (h2 : v2 = val (2 ^ n.toNat) (cut ns m r)) (h1 : v1 = val (2 ^ n.toNat) (cut ns l m)) (l0 : 0 ≤ l) (hm : l < m) (hr : m < r) (rn : r ≤ (ns.length : Int)) :
    y + v1 = val (2 ^ n.toNat) (cut ns l r) := by
  rw [cut_split l0 (Int.le_of_lt hm) (Int.le_of_lt hr) rn, ← h1, ← h2, hy, hs, Int.pow_mul, Int.mul_comm v2, Int.add_comm]
set_option maxHeartbeats 8000000
theorem retEq {P : Heap → Prop} {P2 : Heap → Prop} {Q : Value → Shared → Prop} {s : Shared} {x y : Int} {t : Tok} {h' : Heap} {tk' : Nat} (ret : ∀ v t h' tk', P h' → P2 h' → v = x → 0 ≤ v → v < 2 ^ 31 → Q (.int v t) { s with heap := h', toks := tk' }) (h0 : 0 ≤ x) (h1 : x < 2 ^ 31) (e : y = x) (F : P h') (N : P2 h') :
    Q (.int y t) { s with heap := h', toks := tk' } := ret y t h' tk' F N e (e ▸ h0) (e ▸ h1)
theorem in42 {w : World} {qual : Str} {f D c1 c2 c3 c' : Addr} {doc pm ctv : Value} {n : Int} {tn : Tok} (k : Nat) (ih : 0 < k → In42 w (of42 qual c1 c2 c3 c' doc pm ctv) qual f D c1 c2 c3 c' n tn (k - 1)) :
    In42 w (of42 qual c1 c2 c3 c' doc pm ctv) qual f D c1 c2 c3 c' n tn k := by
  k_with_none
  k_with "ne" => (first | (refine Nat.ne_of_lt ?_; k_extra "neL") | (refine Nat.ne_of_gt ?_; k_extra "neL") | with_reducible assumption | (refine Ne.symm ?_; with_reducible assumption) | k_extra "neA")
  k_with "neL" => (first | with_reducible assumption | with_reducible exact ltS0 _ | k_extra "neS" | ((fail_if_success with_reducible show _ < 37); (fail_if_success with_reducible show _ < 30); with_reducible refine ltS ?_; k_extra "neL"))
  k_with "neS" => (with_reducible rename (@LT.lt Nat _ _ _ ∧ _) => q; first | (refine ltRt q ?_; first | exact q.1 | exact q.2.1 | exact q.2.2.1 | exact q.2.2.2.1 | exact q.2.2.2.2.1 | exact q.2.2.2.2.2.1 | exact q.2.2.2.2.2.2.1 | exact q.2.2.2.2.2.2.2.1 | exact q.2.2.2.2.2.2.2.2.1 | exact q.2.2.2.2.2.2.2.2.2.1 | exact q.2.2.2.2.2.2.2.2.2.2.1 | exact q.2.2.2.2.2.2.2.2.2.2.2.1 | exact q.2.2.2.2.2.2.2.2.2.2.2.2.1 | exact q.2.2.2.2.2.2.2.2.2.2.2.2.2.1 | exact q.2.2.2.2.2.2.2.2.2.2.2.2.2.2.1 | exact q.2.2.2.2.2.2.2.2.2.2.2.2.2.2.2.1 | exact q.2.2.2.2.2.2.2.2.2.2.2.2.2.2.2.2.1 | exact q.2.2.2.2.2.2.2.2.2.2.2.2.2.2.2.2.2.1) | (clear q; k_extra "neS"))
  k_with "neA" => (with_reducible rename (@Ne _ _ _ ∧ _) => q; first | (refine neLt q ?_; first | exact q.1.symm | exact q.2.1.symm | exact q.2.2.1.symm | exact q.2.2.2.1.symm | exact q.2.2.2.2.1.symm | exact q.2.2.2.2.2.1.symm | exact q.2.2.2.2.2.2.1.symm | exact q.2.2.2.2.2.2.2.1.symm | exact q.2.2.2.2.2.2.2.2.1.symm | exact q.2.2.2.2.2.2.2.2.2.1.symm | exact q.2.2.2.2.2.2.2.2.2.2.1.symm | exact q.2.2.2.2.2.2.2.2.2.2.2.1.symm | exact q.2.2.2.2.2.2.2.2.2.2.2.2.1.symm | exact q.2.2.2.2.2.2.2.2.2.2.2.2.2.1.symm | exact q.2.2.2.2.2.2.2.2.2.2.2.2.2.2.1.symm | exact q.2.2.2.2.2.2.2.2.2.2.2.2.2.2.2.1.symm | exact q.2.2.2.2.2.2.2.2.2.2.2.2.2.2.2.2.1.symm | exact q.2.2.2.2.2.2.2.2.2.2.2.2.2.2.2.2.2.1.symm) | (refine neRt q ?_; first | exact q.1 | exact q.2.1 | exact q.2.2.1 | exact q.2.2.2.1 | exact q.2.2.2.2.1 | exact q.2.2.2.2.2.1 | exact q.2.2.2.2.2.2.1 | exact q.2.2.2.2.2.2.2.1 | exact q.2.2.2.2.2.2.2.2.1 | exact q.2.2.2.2.2.2.2.2.2.1 | exact q.2.2.2.2.2.2.2.2.2.2.1 | exact q.2.2.2.2.2.2.2.2.2.2.2.1 | exact q.2.2.2.2.2.2.2.2.2.2.2.2.1 | exact q.2.2.2.2.2.2.2.2.2.2.2.2.2.1 | exact q.2.2.2.2.2.2.2.2.2.2.2.2.2.2.1 | exact q.2.2.2.2.2.2.2.2.2.2.2.2.2.2.2.1 | exact q.2.2.2.2.2.2.2.2.2.2.2.2.2.2.2.2.1 | exact q.2.2.2.2.2.2.2.2.2.2.2.2.2.2.2.2.2.1) | (clear q; k_extra "neA"))
  k_with "eval Name" => (k_here; kc_free; k_dflt (refine' nameX_F ?zqN ?zqc ?zqm ?zqd ?_ ?zqa ?zqb; (case zqa => rfl); (case zqb => rfl); (case zqN => k_asm); (case zqc => rfl); (case zqm => first | exact List.mem_cons_of_mem _ (by assumption) | k_mem); (case zqd => k_asm); k_whole))
  k_with "binaryOp RShift int int" => (k_here; k_dflt (first | ((with_reducible refine' sh_mid ?zqa ?zqb ?zqc ?zqd ?_); (case zqa => assumption); (case zqb => assumption); (case zqc => assumption); (case zqd => assumption); k_whole; intro mid tk' m1 m2 m3 m4 m5)))
  k_with "binaryOp Mult int int" => (k_here; k_dflt (refine' sh_mul ?zqa ?zqb ?zqc ?zqd ?_; (case zqa => omega); (case zqb => omega); (case zqc => assumption); (case zqd => assumption); k_whole; intro sh tk' s1 s2 s3))
  k_with "binaryOp LShift int int" => (k_here; k_dflt (refine' sh_left ?zqa ?zqb ?zqc ?zqd ?_; (case zqa => assumption); (case zqb => assumption); (case zqc => assumption); (case zqd => omega); k_whole; intro y tk' y1))
  k_with "FnAt" => (k_dflt (exact FnAt.of (by k_asm) (.tail _ (by assumption))))
  k_with "callWith ref" => (k_here; k_dflt (refine' callWith_F ?zqk1 ?_; (case zqk1 => exact FnAt.of (by k_asm) (.tail _ (by assumption))); k_whole))
  k_with "call ref" => (k_here; k_dflt (refine' In42.use ?zqIN ?zqB ?zqF ?zqX ?zqN ?zqsub ?zqT ?zqhk ?zqdp ?zqun ?zqmf ?zqmc ?zqhd ?zqhv ?zqm1 ?zqd1 ?zqm2 ?zqd2 ?zqm3 ?zqd3 ?zqiv ?zql0 ?zqlr ?zqrn ?zqn64 ?zqrk ?zqn0 ?zqn1 ?zqhp ?zqhv2 ?_; (case zqIN => exact (show 0 < _ → In42 _ _ _ _ _ _ _ _ _ _ _ _ by assumption) (by assumption)); (case zqB => k_asm); (case zqF => k_asm); (case zqX => k_asm); (case zqN => k_asm); (case zqsub => exact fun _ h => h); (case zqT => k_asm); (case zqhk => exact rfl); (case zqmf => assumption); (case zqhd => assumption); (case zqmc => assumption); (case zqhv => assumption); (case zqd1 => assumption); (case zqm1 => assumption); (case zqd2 => assumption); (case zqm2 => assumption); (case zqd3 => assumption); (case zqm3 => assumption); (case zqiv => with_reducible assumption); (case zql0 => omega); (case zqlr => assumption); (case zqrn => omega); (case zqn64 => assumption); (case zqrk => assumption); (case zqn0 => assumption); (case zqn1 => assumption); (case zqhp => assumption); (case zqhv2 => first | exact cut_lo1 (by assumption) (by assumption) (by assumption) (by assumption) (by assumption) (by assumption) | exact cut_lo2 (by assumption) (by assumption) (by assumption) (by assumption) (by assumption) (by assumption)); (case zqdp => dsimp only [ktrTop]; omega); (case zqun => dsimp only [ktrTop]; omega); k_whole; intro v t h' tk' F' N' v1 v2 v3))
  obtain ⟨B, hB⟩ : ∃ B, bodyOf (inDef 5 0) = B := ⟨_, rfl⟩
  obtain ⟨P, hP⟩ : ∃ P, argsOf (inDef 5 0) = P := ⟨_, rfl⟩
  obtain ⟨S, hS⟩ : ∃ S, scopeOf (inDef 5 0) = S := ⟨_, rfl⟩
  unfold of42 at ih ⊢
  rw [hB, hP, hS] at ih ⊢
  simp only [inDef, topDef, PySem.Challenge.pw_wz0050_01, List.getD_cons_succ, List.getD_cons_zero, bodyOf, argsOf, scopeOf] at hB hP hS
  subst hB hP hS
  unfold In42
  intro p loose mean mg mb dp un gd cn cs a ccd cl outer A₀ base h₀ L m news s Q E o1 o2 o3 oc vc tc items ns ep l r tl tr B F X N T hk hdp hun mf mc hd hv m1 d1 m2 d2 m3 d3 hi l0 lr rn n64 rk n0 n1 hp hv2 ret
  refine wpAny_call ?_
  k_dflt (refine' code_nest (binds := [(Str.ofString "L", .int l tl), (Str.ofString "R", .int r tr)]) ?k1 ?k2 ?k3 ?k4 ?k5 ?kA ?kF ?kK ?k6 ?k7 ?k8 ?k9 ?kB ?_ ?c2 ?c3 ?c4 ?c5; (case kA => exact rfl); (case kF => exact rfl); (case kK => assumption); (case k1 => k_asm); (case k2 => k_asm); (case k3 => k_asm); (case k4 => k_asm); (case k5 => k_asm); (case k6 => exact .tail _ mf); (case k7 => exact codeRec_news (by k_asm) (.tail _ mc) (by assumption) (by assumption)); (case k8 => ktr_room); (case k9 => exact BindsTo.of_eq rfl); (case c5 => decide); (case kB => exact locs rfl); (case c2 => exact rfl); (case c3 => exact rfl); (case c4 => exact rfl); k_whole; intro g' L' h' FG' F' N' B' X' T'; (try dsimp only); (try k_lift B'); (try k_fold))
  refine opaq ?_
  intro Qe Ee hQe
  k_steps
  all_goals (try refine hQe _ _ ?_)
  k_steps
  · have e := cut_one (b := 2 ^ n.toNat) l0 (by assumption) rn
    have hb : (0 : Int) ≤ 2 ^ n.toNat := Int.le_of_lt (Int.pow_pos (by decide))
    exact ret _ _ _ _ (by k_asm) (by k_asm) e (e ▸ val_nonneg hb (cut_pos hp)) (e ▸ hv2)
  · have hb : (0 : Int) ≤ 2 ^ n.toNat := Int.le_of_lt (Int.pow_pos (by decide))
    k_dflt (refine' retEq ret (val_nonneg hb (cut_pos hp)) hv2 (cut_join ?s ?y ?v2 ?v1 l0 ?m1 ?m2 rn) ?F ?N)
    k_dflt (case F => k_asm)
    k_dflt (case N => k_asm)
    k_dflt (case s => assumption)
    k_dflt (case y => assumption)
    k_dflt (case m1 => assumption)
    k_dflt (case m2 => assumption)
    k_dflt (case v2 => assumption)
    k_dflt (case v1 => assumption)
set_option maxHeartbeats 8000000
noncomputable def DoesTP (w : World) (f : Addr) (vs : List Value) (D : Nat) (Pre : Led → Prop) (Res : Led → Value → Prop) : Prop :=
  ∀ (p : Program) (loose : List Str) (mean : ExcName → Option Value) (mg mb : Str → Option Value)
    (dp un : Nat) (gd : Option (List Code)) (cn : Str) (cs : Scope) (a : Addr) (ccd : Value) (cl : List (Str × Addr)) (outer : List Env) (A₀ : Around) (base h₀ : Heap) (L : Addr) (m : Str → Option Value)
    (news : Led) (a37 a30 : Array Value) (s : Shared) (Q E : Value → Shared → Prop),
    Below A₀ base outer h₀ → Fr h₀ L s.heap m → (hd.heap_39 w.params).In h₀ → News h₀ L s.heap ((37, tabObj a37) :: (30, tabObj a30) :: news) → Top p loose mean mg mb h₀ → cs.kind = .function →
    TabOk q37 47 4 a37 news → TabOk q30 32 4 a30 news → OffT news → Pre news →
    dp + D < recursionLimit → un + 8 * D < cLine →
    (∀ r tl b37 b30 h' tk', Fr h₀ L h' m → News h₀ L h' ((37, tabObj b37) :: (30, tabObj b30) :: (tl ++ news)) → (∀ q ∈ (37, tabObj b37) :: (30, tabObj b30) :: news, ∀ p ∈ tl, q.1 < p.1) → TabOk q37 47 4 b37 (tl ++ news) → TabOk q30 32 4 b30 (tl ++ news) → Res tl r → Q r { s with heap := h', toks := tk' }) →
    wpAny (model PySem.Challenge.rw_wz0050_01.row.prog w) (ktrTop dp un gd cn cs L a ccd cl outer) (call (.ref f) vs) Q E s
noncomputable abbrev IntR (x : Int) (_ : Led) (v : Value) : Prop := ∃ y t, v = .int y t ∧ y = x
theorem val_none {b : Int} {ns : List Int} (h : ¬ 0 < ns.length) : (0 : Int) = val b ns := by
  cases ns with
  | nil => rfl
  | cons a l => exact absurd (Nat.succ_pos _) h
theorem c42 : ∀ (w : World) (D : Addr) (vn : Int) (tn : Tok) (items : List Value) (ns : List Int) (ep : Nat) (h3 : 0 < vn) (h4 : vn < 40) (hi : IntsAre items ns) (hp : ∀ d ∈ ns, 0 ≤ d) (hl : ns.length ≤ 64) (hv : val (2 ^ vn.toNat) ns < 2 ^ 31),
    DoesTP w 42 [.ref D, .int vn tn] 10 (fun news => (D, listOf items.toArray ep) ∈ news) (IntR (val (2 ^ vn.toNat) ns)) := by
  k_with_none
  k_with "ne" => (first | (refine Nat.ne_of_lt ?_; k_extra "neL") | (refine Nat.ne_of_gt ?_; k_extra "neL") | with_reducible assumption | (refine Ne.symm ?_; with_reducible assumption) | k_extra "neA")
  k_with "neL" => (first | with_reducible assumption | with_reducible exact ltS0 _ | k_extra "neS" | ((fail_if_success with_reducible show _ < 37); (fail_if_success with_reducible show _ < 30); with_reducible refine ltS ?_; k_extra "neL"))
  k_with "neS" => (with_reducible rename (@LT.lt Nat _ _ _ ∧ _) => q; first | (refine ltRt q ?_; first | exact q.1 | exact q.2.1 | exact q.2.2.1 | exact q.2.2.2.1 | exact q.2.2.2.2.1 | exact q.2.2.2.2.2.1 | exact q.2.2.2.2.2.2.1 | exact q.2.2.2.2.2.2.2.1 | exact q.2.2.2.2.2.2.2.2.1 | exact q.2.2.2.2.2.2.2.2.2.1 | exact q.2.2.2.2.2.2.2.2.2.2.1 | exact q.2.2.2.2.2.2.2.2.2.2.2.1 | exact q.2.2.2.2.2.2.2.2.2.2.2.2.1 | exact q.2.2.2.2.2.2.2.2.2.2.2.2.2.1 | exact q.2.2.2.2.2.2.2.2.2.2.2.2.2.2.1 | exact q.2.2.2.2.2.2.2.2.2.2.2.2.2.2.2.1 | exact q.2.2.2.2.2.2.2.2.2.2.2.2.2.2.2.2.1 | exact q.2.2.2.2.2.2.2.2.2.2.2.2.2.2.2.2.2.1) | (clear q; k_extra "neS"))
  k_with "neA" => (with_reducible rename (@Ne _ _ _ ∧ _) => q; first | (refine neLt q ?_; first | exact q.1.symm | exact q.2.1.symm | exact q.2.2.1.symm | exact q.2.2.2.1.symm | exact q.2.2.2.2.1.symm | exact q.2.2.2.2.2.1.symm | exact q.2.2.2.2.2.2.1.symm | exact q.2.2.2.2.2.2.2.1.symm | exact q.2.2.2.2.2.2.2.2.1.symm | exact q.2.2.2.2.2.2.2.2.2.1.symm | exact q.2.2.2.2.2.2.2.2.2.2.1.symm | exact q.2.2.2.2.2.2.2.2.2.2.2.1.symm | exact q.2.2.2.2.2.2.2.2.2.2.2.2.1.symm | exact q.2.2.2.2.2.2.2.2.2.2.2.2.2.1.symm | exact q.2.2.2.2.2.2.2.2.2.2.2.2.2.2.1.symm | exact q.2.2.2.2.2.2.2.2.2.2.2.2.2.2.2.1.symm | exact q.2.2.2.2.2.2.2.2.2.2.2.2.2.2.2.2.1.symm | exact q.2.2.2.2.2.2.2.2.2.2.2.2.2.2.2.2.2.1.symm) | (refine neRt q ?_; first | exact q.1 | exact q.2.1 | exact q.2.2.1 | exact q.2.2.2.1 | exact q.2.2.2.2.1 | exact q.2.2.2.2.2.1 | exact q.2.2.2.2.2.2.1 | exact q.2.2.2.2.2.2.2.1 | exact q.2.2.2.2.2.2.2.2.1 | exact q.2.2.2.2.2.2.2.2.2.1 | exact q.2.2.2.2.2.2.2.2.2.2.1 | exact q.2.2.2.2.2.2.2.2.2.2.2.1 | exact q.2.2.2.2.2.2.2.2.2.2.2.2.1 | exact q.2.2.2.2.2.2.2.2.2.2.2.2.2.1 | exact q.2.2.2.2.2.2.2.2.2.2.2.2.2.2.1 | exact q.2.2.2.2.2.2.2.2.2.2.2.2.2.2.2.1 | exact q.2.2.2.2.2.2.2.2.2.2.2.2.2.2.2.2.1 | exact q.2.2.2.2.2.2.2.2.2.2.2.2.2.2.2.2.2.1) | (clear q; k_extra "neA"))
  k_with "subs" => (first | exact sub_nil | exact sub_self | (refine sub_cons (by k_mem) ?_; k_extra "subs") | (refine sub_skip ?_; k_extra "subs"))
  k_with "call ref" => (k_here; k_dflt (refine' In42.use (k := 6) (in42_all (fun k ih => in42 k ih) 6) ?zqB ?zqF ?zqX ?zqN ?zqsub ?zqT ?zqhk ?zqdp ?zqun ?zqmf ?zqmc ?zqhd ?zqhv ?zqm1 ?zqd1 ?zqm2 ?zqd2 ?zqm3 ?zqd3 ?zqiv ?zql0 ?zqlr ?zqrn ?zqn64 ?zqrk ?zqn0 ?zqn1 ?zqhp ?zqhv2 ?_; (case zqB => k_asm); (case zqF => k_asm); (case zqX => k_asm); (case zqN => k_asm); (case zqiv => assumption); (case zqT => k_asm); (case zqhk => exact rfl); (case zqsub => exact sub_cons (by k_mem) sub_self); (case zqmf => k_mem); (case zqhd => assumption); (case zqmc => k_mem); (case zqhv => assumption); (case zqd1 => assumption); (case zqm1 => k_mem); (case zqd2 => assumption); (case zqm2 => k_mem); (case zqd3 => assumption); (case zqm3 => k_mem); (case zqdp => dsimp only [ktrTop]; omega); (case zqun => dsimp only [ktrTop]; omega); (case zql0 => omega); (case zqlr => omega); (case zqrn => omega); (case zqn64 => assumption); (case zqrk => omega); (case zqn0 => assumption); (case zqn1 => assumption); (case zqhp => assumption); (case zqhv2 => rw [cut_all]; assumption); k_whole; intro v t h' tk' F' N' v1 v2 v3))
  unfold DoesTP
  intro w D vn tn items ns ep h3 h4 hi hp hl hv p loose mean mg mb dp un gd cn cs a ccd cl outer A₀ base h₀ L m news a37 a30 s Q E B F X N T hk t37 t30 hoT hD hdp hun ret
  rcases t37 with rfl | ⟨c', oc, vs, t, rfl, hm, hd, hv'⟩
  · have N2 : News h₀ L s.heap ((37, tabObj #[]) :: (30, tabObj a30) :: (D, listOf items.toArray ep) :: news) := News.sub N (sub_cons (.head _) (sub_cons (.tail _ (.head _)) (sub_cons (.tail _ (.tail _ hD)) (sub_skip (sub_skip sub_self)))))
    have n1 : @Ne Nat D 37 := neN (hoT.a _ hD)
    have n2 : @Ne Nat D 30 := neN (hoT.b _ hD)
    clear N
    refine wpAny_call ?_
    k_dflt (refine' code_defC ?k1 ?k2 ?k3 ?k4 ?k5 ?kA ?kF ?kK ?k6 ?k7 ?k8 ?k9 ?kB ?kD ?_ ?c2 ?c3 ?c4; (case kA => exact rfl); (case kF => exact rfl); (case kK => assumption); (case k1 => k_asm); (case k2 => k_asm); (case k3 => k_asm); (case k4 => k_asm); (case k5 => k_asm); (case k6 => k_is); (case k7 => k_is); (case k8 => ktr_room); (case k9 => exact BindsTo.of_eq rfl); (case kB => exact rfl); (case kD => decide +kernel); (case c2 => exact rfl); (case c3 => exact rfl); (case c4 => exact rfl); k_whole; intro g' L' h' tk' cells' FG' F' N' Y' B' X' T' l1; (have C37 := ch37 _ X'); (have lN := Low.of (fun p hp => l1 p (.tail _ (.tail _ (.tail _ hp))))); (try k_lt l1); k_cells Y'; (try simp only [List.cons_append, List.nil_append] at N'); (try dsimp only); (try k_lift B'); (try k_fold))
    refine opaq ?_
    intro Qe Ee hQe
    k_steps
    all_goals (try refine hQe _ _ ?_)
    k_steps
    · k_dflt (refine' ret _ [(?c, ?oc)] (#[] ++ #[rawInt 47, rawInt 4, .ref ?c]) _ _ _ ?F ?N ?o ?t37 ?t30 ⟨_, _, rfl, ?v⟩)
      k_dflt (case F => k_asm)
      k_dflt (case N => exact News.sub (by k_asm) (by k_extra "subs"))
      k_dflt (case o => exact ordT lN (by first | k_extra "neL" | omega) (by first | k_extra "neL" | omega) (le_one (by omega)))
      k_dflt (case t37 => exact .inr ⟨_, _, _, _, rfl, List.mem_append_left _ (.head _), by assumption, by assumption⟩)
      k_dflt (case t30 => exact t30.mono (fun _ h => .tail _ h))
      k_dflt (case v => exact Eq.trans (by assumption) (by rw [cut_all]))
    · k_dflt (refine' ret _ [(?c, ?oc)] (#[] ++ #[rawInt 47, rawInt 4, .ref ?c]) _ _ _ ?F ?N ?o ?t37 ?t30 ⟨_, _, rfl, ?v⟩)
      k_dflt (case F => k_asm)
      k_dflt (case N => exact News.sub (by k_asm) (by k_extra "subs"))
      k_dflt (case o => exact ordT lN (by first | k_extra "neL" | omega) (by first | k_extra "neL" | omega) (le_one (by omega)))
      k_dflt (case t37 => exact .inr ⟨_, _, _, _, rfl, List.mem_append_left _ (.head _), by assumption, by assumption⟩)
      k_dflt (case t30 => exact t30.mono (fun _ h => .tail _ h))
      k_dflt (case v => exact val_none (by assumption))
  · have N2 : News h₀ L s.heap ((37, tabObj #[rawInt 47, rawInt 4, .ref c']) :: (30, tabObj a30) :: (D, listOf items.toArray ep) :: (c', oc) :: news) := News.sub N (sub_cons (.head _) (sub_cons (.tail _ (.head _)) (sub_cons (.tail _ (.tail _ hD)) (sub_cons (.tail _ (.tail _ hm)) (sub_skip (sub_skip sub_self))))))
    have n1 : @Ne Nat D 37 := neN (hoT.a _ hD)
    have n2 : @Ne Nat D 30 := neN (hoT.b _ hD)
    clear N
    refine wpAny_call ?_
    k_dflt (refine' code_defC ?k1 ?k2 ?k3 ?k4 ?k5 ?kA ?kF ?kK ?k6 ?k7 ?k8 ?k9 ?kB ?kD ?_ ?c2 ?c3 ?c4; (case kA => exact rfl); (case kF => exact rfl); (case kK => assumption); (case k1 => k_asm); (case k2 => k_asm); (case k3 => k_asm); (case k4 => k_asm); (case k5 => k_asm); (case k6 => k_is); (case k7 => k_is); (case k8 => ktr_room); (case k9 => exact BindsTo.of_eq rfl); (case kB => exact rfl); (case kD => decide +kernel); (case c2 => exact rfl); (case c3 => exact rfl); (case c4 => exact rfl); k_whole; intro g' L' h' tk' cells' FG' F' N' Y' B' X' T' l1; (have C37 := ch37 _ X'); (have lN := Low.of (fun p hp => l1 p (.tail _ (.tail _ (.tail _ (.tail _ hp)))))); (try k_lt l1); k_cells Y'; (try simp only [List.cons_append, List.nil_append] at N'); (try dsimp only); (try k_lift B'); (try k_fold))
    refine opaq ?_
    intro Qe Ee hQe
    k_steps
    all_goals (try refine hQe _ _ ?_)
    k_steps
    · k_dflt (refine' ret _ [] #[rawInt 47, rawInt 4, .ref c'] _ _ _ ?F ?N ?o ?t37 ?t30 ⟨_, _, rfl, ?v⟩)
      k_dflt (case F => k_asm)
      k_dflt (case N => exact News.sub (by k_asm) (by k_extra "subs"))
      k_dflt (case o => exact ordT lN (by first | k_extra "neL" | omega) (by first | k_extra "neL" | omega) le_nil)
      k_dflt (case t37 => exact .inr ⟨_, _, _, _, rfl, hm, hd, hv'⟩)
      k_dflt (case t30 => exact t30)
      k_dflt (case v => exact Eq.trans (by assumption) (by rw [cut_all]))
    · k_dflt (refine' ret _ [] #[rawInt 47, rawInt 4, .ref c'] _ _ _ ?F ?N ?o ?t37 ?t30 ⟨_, _, rfl, ?v⟩)
      k_dflt (case F => k_asm)
      k_dflt (case N => exact News.sub (by k_asm) (by k_extra "subs"))
      k_dflt (case o => exact ordT lN (by first | k_extra "neL" | omega) (by first | k_extra "neL" | omega) le_nil)
      k_dflt (case t37 => exact .inr ⟨_, _, _, _, rfl, hm, hd, hv'⟩)
      k_dflt (case t30 => exact t30)
      k_dflt (case v => exact val_none (by assumption))
set_option maxHeartbeats 8000000
/-- a turn's end -/
noncomputable def TurnE (h₀ : Heap) (L I : Addr) (oI : Obj) (J : (Str → Option Value) → Led → Prop) (s₁ : Shared) (Q : Flow → Shared → Prop) (f : Flow) (s₂ : Shared) : Prop :=
  match f with
  | .ret v => Q (.ret v) s₂
  | .brk => Q .next s₂
  | _ => ∃ h' tk m' news', s₂ = { s₁ with heap := h', toks := tk } ∧ Fr h₀ L h' m' ∧ News h₀ L h' ((I, oI) :: news') ∧ (∀ p ∈ news', p.1 ≠ I) ∧ J m' news'

structure LoopWD (prog : Program) (w : World) (A : Around) (h₀ : Heap) (env : Env) (target : Expr) (body : List Stmt) (Q : Flow → Shared → Prop) (it : Value) (s₂ : Shared) (I : Addr) (it₀ : Obj) (fp : List Addr) (n : Nat) (P : Nat → Value → Prop) (St : Nat → Heap → Prop) (m₀ : Str → Option Value) (news₀ : Led) (J : Nat → (Str → Option Value) → Led → Prop) : Prop where
  c1 : it = .ref I
  c2 : Walks prog w A I fp [I] n P St
  c3 : (∀ i h, St i h → ∃ o, h.get? I = some o)
  c4 : (∀ i h h' o m' nw, St i h → h.get? I = some o → h'.get? I = some o → Fr h₀ env.locals h' m' → News h₀ env.locals h' nw → J i m' nw → St i h')
  c5 : (∀ i v (s' : Shared) (Q' : Unit → Shared → Prop) (E' : Value → Shared → Prop), St i s'.heap → Q' () s' → wpAny (model prog w) A (letOwnedTupleGo target (.ref I) v) Q' E' s')
  c6 : St 0 s₂.heap
  c7 : Fr h₀ env.locals s₂.heap m₀
  c8 : News h₀ env.locals s₂.heap ((I, it₀) :: news₀)
  c9 : (∀ p ∈ news₀, p.1 ≠ I)
  c10 : J 0 m₀ news₀
  c11 : (∀ i v m₁ news₁ oI h tk (E' : Value → Shared → Prop), i < n → P i v → St (i + 1) h → J i m₁ news₁ → Fr h₀ env.locals h m₁ → News h₀ env.locals h ((I, oI) :: news₁) → (∀ p ∈ news₁, p.1 ≠ I) → wpAny (model prog w) A (assign target env v) (fun _ s₃ => wpAny (model prog w) A (execs body env) (TurnE h₀ env.locals I oI (J (i + 1)) { s₂ with heap := h, toks := tk } Q) E' s₃) E' { s₂ with heap := h, toks := tk })
  c12 : (∀ m' news' h tk, J n m' news' → Fr h₀ env.locals h m' → News h₀ env.locals h news' → Q .next { s₂ with heap := h, toks := tk })
/-- a loop by an iterator object, an invariant over the frame and the ledger -/
noncomputable def LoopW (prog : Program) (w : World) (A : Around) (h₀ : Heap) (env : Env) (target : Expr) (body : List Stmt) (Q : Flow → Shared → Prop) (it : Value) (s₂ : Shared) : Prop :=
  ∃ (I : Addr) (it₀ : Obj) (fp : List Addr) (n : Nat) (P : Nat → Value → Prop) (St : Nat → Heap → Prop) (m₀ : Str → Option Value) (news₀ : Led) (J : Nat → (Str → Option Value) → Led → Prop), LoopWD prog w A h₀ env target body Q it s₂ I it₀ fp n P St m₀ news₀ J


structure ForInvD (h₀ : Heap) (L I : Addr) (n : Nat) (St : Nat → Heap → Prop) (J : Nat → (Str → Option Value) → Led → Prop) (s₂ : Shared) (k : Nat) (s' : Shared) (h' : Heap) (tk : Nat) (m' : Str → Option Value) (news' : Led) (oI : Obj) (i : Nat) : Prop where
  c1 : s' = { s₂ with heap := h', toks := tk }
  c2 : St i h'
  c3 : Fr h₀ L h' m'
  c4 : News h₀ L h' ((I, oI) :: news')
  c5 : ∀ p ∈ news', p.1 ≠ I
  c6 : J i m' news'
  c7 : i ≤ n
  c8 : k = n + 1 - i
/-- what holds between the turns of a loop -/
noncomputable def ForInv (h₀ : Heap) (L I : Addr) (n : Nat) (St : Nat → Heap → Prop) (J : Nat → (Str → Option Value) → Led → Prop) (s₂ : Shared) (k : Nat) (s' : Shared) : Prop :=
  ∃ (h' : Heap) (tk : Nat) (m' : Str → Option Value) (news' : Led) (oI : Obj) (i : Nat), ForInvD h₀ L I n St J s₂ k s' h' tk m' news' oI i
section
variable {prog : Program} {w : World} {A : Around} {E : Value → Shared → Prop} {s : Shared} {env : Env} {h₀ : Heap} {Q : Flow → Shared → Prop}
theorem for_walk {target iter : Expr} {body : List Stmt} {pos : Pos} {m : Str → Option Value} (_F : Fr h₀ env.locals s.heap m)
    (h : wpAny (model prog w) A (eval iter env) (fun xv s₁ => wpAny (model prog w) A (pyIter xv) (LoopW prog w A h₀ env target body Q) E s₁) E s)
    (hs : ∀ x, foldedSetIterable iter env x = pure x := by intro _; rfl) :
    wpAny (model prog w) A (exec (.For target iter body [] pos) env) Q E s := by
  refine wpAny_For (wpAny_mono h (fun xv s₁ h₁ => wpAny_mono h₁ (fun it s₂ h₂ => ?_) fun _ _ e => e) fun _ _ e => e) hs
  obtain ⟨I, it₀, fp, n, P, St, m₀, news₀, J, rfl, W, hIo, hst, hgo, st0, F, N, off, hJ0, turn, done⟩ := h₂
  refine codeAny_forLoop_any
    (ForInv h₀ env.locals I n St J s₂) ?_ (n + 1)
    ⟨s₂.heap, s₂.toks, m₀, news₀, it₀, 0, rfl, st0, F, N, off, hJ0, Nat.zero_le _, rfl⟩
  rintro k s' ⟨h', tk, m', news', oI, i, rfl, st', F', N', off', hJ', hi, rfl⟩
  have hIL : env.locals ≠ I := fun q => (N' _ (.head _)).2.1 q.symm
  have hI0 := (N' _ (.head _)).2.2
  have next : ∀ h₁ : Heap, (∀ b o, b ∉ [I] → h'.get? b = some o → h₁.get? b = some o) → Fr h₀ env.locals h₁ m' ∧ News h₀ env.locals h₁ news' := fun h₁ hk =>
    ⟨LCg.fr_but F' hk hIL hI0, LCg.news_but (fun p hp => N' p (.tail _ hp)) hk off'⟩
  by_cases hlt : i < n
  · refine W.item i _ _ _ hlt st' fun v h₁ tk₁ hP st₁ hk₁ => ?_
    obtain ⟨F₁, N₁⟩ := next h₁ hk₁
    obtain ⟨o₁, ho₁⟩ := hIo _ _ st₁
    have N₂ : News h₀ env.locals h₁ ((I, o₁) :: news') := fun p hp => by
      rcases List.mem_cons.mp hp with rfl | hp
      · exact ⟨ho₁, hIL.symm, hI0⟩
      · exact N₁ p hp
    refine hgo _ v _ _ _ st₁ ?_
    refine wpAny_mono (turn i v m' news' o₁ h₁ tk₁ _ hlt hP st₁ hJ' F₁ N₂ off') (fun _ s₃ h₃ => wpAny_mono h₃ (fun f s₄ p => ?_) fun _ _ e => e) fun _ _ e => e
    have fin : (∃ h' tk m' news', s₄ = { s₂ with heap := h', toks := tk } ∧ Fr h₀ env.locals h' m' ∧ News h₀ env.locals h' ((I, o₁) :: news') ∧ (∀ p ∈ news', p.1 ≠ I) ∧ J (i + 1) m' news') →
        ∃ m, m < n + 1 - i ∧ ForInv h₀ env.locals I n St J s₂ m s₄ := by
      rintro ⟨h₄, tk₄, m₄, news₄, rfl, F₄, N₄, off₄, hJ₄⟩
      exact ⟨n + 1 - (i + 1), by omega, h₄, tk₄, m₄, news₄, o₁, i + 1, rfl, hst _ _ _ _ _ _ st₁ ho₁ (N₄ _ (.head _)).1 F₄ (fun p hp => N₄ p (.tail _ hp)) hJ₄, F₄, N₄, off₄, hJ₄, hlt, rfl⟩
    cases f with
    | ret v => exact p
    | brk => exact p
    | next => exact fin p
    | cont => exact fin p
  · obtain rfl : i = n := by omega
    refine W.done _ _ _ st' fun h₁ tk₁ hk₁ => wpAny_execs_nil ?_
    obtain ⟨F₁, N₁⟩ := next h₁ hk₁
    exact done m' news' h₁ tk₁ hJ' F₁ N₁
end
set_option maxHeartbeats 8000000
/-- the ledger grew: what is new stands above the old and above the tables -/
structure Grow (old new : Led) : Prop where
  sub : ∀ q ∈ old, q ∈ new
  up : ∀ p ∈ new, p ∈ old ∨ ((∀ q ∈ old, q.1 < p.1) ∧ @LT.lt Nat _ 37 p.1 ∧ @LT.lt Nat _ 30 p.1)
theorem Grow.rfl {a : Led} : Grow a a := ⟨fun _ h => h, fun _ h => .inl h⟩
theorem Grow.trans {a b c : Led} (x : Grow a b) (y : Grow b c) : Grow a c := ⟨fun q h => y.sub q (x.sub q h), fun p hp => by
  rcases y.up p hp with h | h
  · exact x.up p h
  · exact .inr ⟨fun q hq => h.1 q (x.sub q hq), h.2⟩⟩
theorem Grow.cons {a b : Led} {d : Addr} {o : Obj} (x : Grow a b) (h : ∀ q ∈ a, q.1 < d) (h37 : @LT.lt Nat _ 37 d) (h30 : @LT.lt Nat _ 30 d) : Grow a ((d, o) :: b) := ⟨fun q hq => .tail _ (x.sub q hq), fun p hp => by
  rcases List.mem_cons.mp hp with rfl | hp
  · exact .inr ⟨h, h37, h30⟩
  · exact x.up p hp⟩
theorem OffT.grow {a b : Led} (x : OffT a) (g : Grow a b) : OffT b := ⟨fun p hp => by
  rcases g.up p hp with h | h
  · exact x.a p h
  · exact Nat.ne_of_gt h.2.1, fun p hp => by
  rcases g.up p hp with h | h
  · exact x.b p h
  · exact Nat.ne_of_gt h.2.2⟩
/-- the contract of a call that may fill the tables -/
noncomputable def DoesG (w : World) (f : Addr) (vs : List Value) (D : Nat) (Pre : Led → Prop) (Res : Led → Value → Prop) : Prop :=
  ∀ (p : Program) (loose : List Str) (mean : ExcName → Option Value) (mg mb : Str → Option Value)
    (dp un : Nat) (gd : Option (List Code)) (cn : Str) (cs : Scope) (a : Addr) (ccd : Value) (cl : List (Str × Addr)) (outer : List Env) (A₀ : Around) (base h₀ : Heap) (L : Addr) (m : Str → Option Value)
    (news : Led) (a37 a30 : Array Value) (s : Shared) (Q E : Value → Shared → Prop),
    Below A₀ base outer h₀ → Fr h₀ L s.heap m → (hd.heap_39 w.params).In h₀ → News h₀ L s.heap ((37, tabObj a37) :: (30, tabObj a30) :: news) → Top p loose mean mg mb h₀ → cs.kind = .function →
    TabOk q37 47 4 a37 news → TabOk q30 32 4 a30 news → OffT news → Pre news →
    dp + D < recursionLimit → un + 8 * D < cLine →
    (∀ r rest b37 b30 h' tk', Fr h₀ L h' m → News h₀ L h' ((37, tabObj b37) :: (30, tabObj b30) :: rest) → Grow news rest → TabOk q37 47 4 b37 rest → TabOk q30 32 4 b30 rest → OffT rest → Res rest r → Q r { s with heap := h', toks := tk' }) →
    wpAny (model PySem.Challenge.rw_wz0050_01.row.prog w) (ktrTop dp un gd cn cs L a ccd cl outer) (call (.ref f) vs) Q E s
theorem Grow.of {news tl : Led} {o37 o30 : Obj} (h : ∀ q ∈ (37, o37) :: (30, o30) :: news, ∀ p ∈ tl, q.1 < p.1) : Grow news (tl ++ news) := ⟨fun q hq => List.mem_append_right _ hq, fun p hp => by
  rcases List.mem_append.mp hp with hp | hp
  · exact .inr ⟨fun q hq => h q (.tail _ (.tail _ hq)) p hp, h _ (.head _) p hp, h _ (.tail _ (.head _)) p hp⟩
  · exact .inl hp⟩
theorem DoesTP.toG {w : World} {f : Addr} {vs : List Value} {D : Nat} {Pre : Led → Prop} {Res : Led → Value → Prop} (C : DoesTP w f vs D Pre Res) (mono : ∀ tl news r, Res tl r → Res (tl ++ news) r) : DoesG w f vs D Pre Res := by
  intro p loose mean mg mb dp un gd cn cs a ccd cl outer A₀ base h₀ L m news a37 a30 s Q E B F X N T hk t37 t30 hoT hP hdp hun ret
  exact C p loose mean mg mb dp un gd cn cs a ccd cl outer A₀ base h₀ L m news a37 a30 s Q E B F X N T hk t37 t30 hoT hP hdp hun fun r tl b37 b30 h' tk' F' N' o q37 q30 R =>
    ret r (tl ++ news) b37 b30 h' tk' F' N' (Grow.of o) q37 q30 (hoT.grow (Grow.of o)) (mono _ _ _ R)
theorem DoesT.toG {w : World} {f : Addr} {vs : List Value} {D : Nat} {Res : Led → Value → Prop} (C : DoesT w f vs D Res) (mono : ∀ tl news r, Res tl r → Res (tl ++ news) r) : DoesG w f vs D (fun _ => True) Res := by
  intro p loose mean mg mb dp un gd cn cs a ccd cl outer A₀ base h₀ L m news a37 a30 s Q E B F X N T hk t37 t30 hoT hP hdp hun ret
  exact C p loose mean mg mb dp un gd cn cs a ccd cl outer A₀ base h₀ L m news a37 a30 s Q E B F X N T hk t37 t30 hoT hdp hun fun r tl b37 b30 h' tk' F' N' o q37 q30 R =>
    ret r (tl ++ news) b37 b30 h' tk' F' N' (Grow.of o) q37 q30 (hoT.grow (Grow.of o)) (mono _ _ _ R)
theorem DoesG.use {w : World} {f : Addr} {vs : List Value} {D : Nat} {Pre : Led → Prop} {Res : Led → Value → Prop} (C : DoesG w f vs D Pre Res)
    {p : Program} {loose : List Str} {mean : ExcName → Option Value} {mg mb : Str → Option Value}
    {dp un : Nat} {gd : Option (List Code)} {cn : Str} {cs : Scope} {a : Addr} {ccd : Value} {cl : List (Str × Addr)} {outer : List Env} {A₀ : Around} {base h₀ : Heap} {L : Addr} {m : Str → Option Value}
    {news news' : Led} {a37 a30 : Array Value} {s : Shared} {Q E : Value → Shared → Prop}
    (B : Below A₀ base outer h₀) (F : Fr h₀ L s.heap m) (X : (hd.heap_39 w.params).In h₀) (N : News h₀ L s.heap news') (hs : ∀ p ∈ (37, tabObj a37) :: (30, tabObj a30) :: news, p ∈ news') (T : Top p loose mean mg mb h₀) (hk : cs.kind = .function)
    (t37 : TabOk q37 47 4 a37 news) (t30 : TabOk q30 32 4 a30 news) (off : OffT news) (pre : Pre news) (hdp : dp + D < recursionLimit) (hun : un + 8 * D < cLine)
    (ret : ∀ r rest b37 b30 h' tk', Fr h₀ L h' m → News h₀ L h' ((37, tabObj b37) :: (30, tabObj b30) :: rest) → Grow news rest → TabOk q37 47 4 b37 rest → TabOk q30 32 4 b30 rest → OffT rest → Res rest r → Q r { s with heap := h', toks := tk' }) :
    wpAny (model PySem.Challenge.rw_wz0050_01.row.prog w) (ktrTop dp un gd cn cs L a ccd cl outer) (call (.ref f) vs) Q E s :=
  C _ _ _ _ _ _ _ _ _ _ _ _ _ _ _ _ _ _ _ _ _ _ _ _ _ B F X (fun q hq => N q (hs q hq)) T hk t37 t30 off pre hdp hun ret
theorem Does.use {w : World} {f : Addr} {vs : List Value} {D : Nat} {Res : Led → Value → Prop} (C : Does w f vs D Res)
    {p : Program} {loose : List Str} {mean : ExcName → Option Value} {mg mb : Str → Option Value}
    {dp un : Nat} {gd : Option (List Code)} {cn : Str} {cs : Scope} {a : Addr} {ccd : Value} {cl : List (Str × Addr)} {outer : List Env} {A₀ : Around} {base h₀ : Heap} {L : Addr} {m : Str → Option Value}
    {news : Led} {s : Shared} {Q E : Value → Shared → Prop}
    (B : Below A₀ base outer h₀) (F : Fr h₀ L s.heap m) (X : (hd.heap_39 w.params).In h₀) (N : News h₀ L s.heap news) (T : Top p loose mean mg mb h₀) (hk : cs.kind = .function)
    (hdp : dp + D < recursionLimit) (hun : un + 8 * D < cLine)
    (ret : ∀ r tl h' tk', Fr h₀ L h' m → News h₀ L h' (tl ++ news) → (∀ q ∈ news, ∀ p ∈ tl, q.1 < p.1) → Res tl r → Q r { s with heap := h', toks := tk' }) :
    wpAny (model PySem.Challenge.rw_wz0050_01.row.prog w) (ktrTop dp un gd cn cs L a ccd cl outer) (call (.ref f) vs) Q E s :=
  C _ _ _ _ _ _ _ _ _ _ _ _ _ _ _ _ _ _ _ _ _ _ _ B F X N T hk hdp hun ret
theorem d21 {w : World} {va vb vn : Int} {ta tb tn : Tok} (h1 : 0 ≤ va) (h2 : va < 2 ^ 62) (h3 : 0 < vb) (h4 : vb < 2 ^ 30) (h5 : 0 ≤ vn)
    {p : Program} {loose : List Str} {mean : ExcName → Option Value} {mg mb : Str → Option Value}
    {dp un : Nat} {gd : Option (List Code)} {cn : Str} {cs : Scope} {a : Addr} {ccd : Value} {cl : List (Str × Addr)} {outer : List Env} {A₀ : Around} {base h₀ : Heap} {L : Addr} {m : Str → Option Value}
    {news : Led} {s : Shared} {Q E : Value → Shared → Prop}
    (B : Below A₀ base outer h₀) (F : Fr h₀ L s.heap m) (X : (hd.heap_39 w.params).In h₀) (N : News h₀ L s.heap news) (T : Top p loose mean mg mb h₀) (hk : cs.kind = .function)
    (hdp : dp + 2 < recursionLimit) (hun : un + 8 * 2 < cLine)
    (ret : ∀ x q r t1 t2 h' tk', Fr h₀ L h' m → News h₀ L h' ((x, tupO [.int q t1, .int r t2]) :: news) → (∀ q ∈ news, q.1 < x) → q = va / vb → r = va % vb → Q (.ref x) { s with heap := h', toks := tk' }) :
    wpAny (model PySem.Challenge.rw_wz0050_01.row.prog w) (ktrTop dp un gd cn cs L a ccd cl outer) (call (.ref 21) [.int va ta, .int vb tb, .int vn tn]) Q E s := by
  refine Does.use (c21 w va vb vn ta tb tn h1 h2 h3 h4 h5) B F X N T hk hdp hun ?_
  rintro r tl h' tk' F' N' o ⟨x, t1, t2, rfl, rfl⟩
  exact ret x _ _ t1 t2 h' tk' F' N' (fun q hq => o q hq _ (.head _)) (Int.fdiv_eq_ediv_of_nonneg _ (Int.le_of_lt h3)) (Int.fmod_eq_emod_of_nonneg _ (Int.le_of_lt h3))
theorem map_know {m : Str → Option Value} {x : Str} {v : Option Value} (h : m x = v) : m = fun y => if y = x then v else m y := by
  funext y
  by_cases e : y = x
  · rw [if_pos e, e, h]
  · rw [if_neg e]
theorem Fr.know {h₀ h : Heap} {L : Addr} {m : Str → Option Value} (F : Fr h₀ L h m) {x : Str} {v : Option Value} (e : m x = v) : Fr h₀ L h (fun y => if y = x then v else m y) := map_know e ▸ F
theorem subT0 {a b : Addr × Obj} {t : Led} : ∀ p ∈ a :: b :: t, p ∈ a :: b :: t := fun _ h => h
theorem subT1 {a b x : Addr × Obj} {t : Led} : ∀ p ∈ a :: b :: x :: t, p ∈ x :: a :: b :: t := sub_cons (.tail _ (.head _)) (sub_cons (.tail _ (.tail _ (.head _))) (sub_cons (.head _) (sub_skip (sub_skip (sub_skip sub_self)))))
theorem subT2 {a b x y : Addr × Obj} {t : Led} : ∀ p ∈ a :: b :: x :: y :: t, p ∈ x :: y :: a :: b :: t := fun p hp => by
  simp only [List.mem_cons] at hp ⊢
  rcases hp with h | h | h | h | h <;> simp [h]
theorem subT3 {a b x y z : Addr × Obj} {t : Led} : ∀ p ∈ a :: b :: x :: y :: z :: t, p ∈ x :: y :: z :: a :: b :: t := fun p hp => by
  simp only [List.mem_cons] at hp ⊢
  rcases hp with h | h | h | h | h | h <;> simp [h]
theorem OffT.cons {x : Addr} {o : Obj} {l : Led} (h : OffT l) (a : @LT.lt Nat _ 37 x) (b : @LT.lt Nat _ 30 x) : OffT ((x, o) :: l) := ⟨fun p hp => by
  rcases List.mem_cons.mp hp with rfl | hp
  · exact Nat.ne_of_gt a
  · exact h.a p hp, fun p hp => by
  rcases List.mem_cons.mp hp with rfl | hp
  · exact Nat.ne_of_gt b
  · exact h.b p hp⟩
theorem TabOk.cons {qual : Str} {l c : Nat} {ps : Array Value} {news : Led} {x : Addr × Obj} (h : TabOk qual l c ps news) : TabOk qual l c ps (x :: news) := h.mono fun _ h => .tail _ h
set_option maxHeartbeats 8000000
theorem go_name {prog : Program} {w : World} {A : Around} {E : Value → Shared → Prop} {s : Shared} {x : Str} {pos : Pos} {it v : Value} {Q : Unit → Shared → Prop} (h : Q () s) : wpAny (model prog w) A (letOwnedTupleGo (.Name x pos) it v) Q E s := wpAny_pure h
section
variable {prog : Program} {w : World} {A : Around} {E : Value → Shared → Prop} {s : Shared} {env : Env} {h₀ : Heap} {Q : Flow → Shared → Prop}
theorem rev_walk {x : Str} {px : Pos} {body : List Stmt} (hh : A.handled = none) {I D : Addr} {vs : List Value} {ep : Nat} {m₀ : Str → Option Value} {news₀ : Led} (J : Nat → (Str → Option Value) → Led → Prop)
    (F : Fr h₀ env.locals s.heap m₀) (N : News h₀ env.locals s.heap ((I, revObj D ((vs.length : Int) - 1)) :: news₀)) (off : ∀ p ∈ news₀, p.1 ≠ I)
    (hD : ∀ i m nw, J i m nw → (D, listOf vs.toArray ep) ∈ nw) (J0 : J 0 m₀ news₀)
    (turn : ∀ i v m₁ news₁ oI h tk (E' : Value → Shared → Prop), i < vs.length → vs[vs.length - 1 - i]? = some v → J i m₁ news₁ → Fr h₀ env.locals h m₁ → News h₀ env.locals h ((I, oI) :: news₁) → (∀ p ∈ news₁, p.1 ≠ I) →
      wpAny (model prog w) A (assign (.Name x px) env v) (fun _ s₃ => wpAny (model prog w) A (execs body env) (TurnE h₀ env.locals I oI (J (i + 1)) { s with heap := h, toks := tk } Q) E' s₃) E' { s with heap := h, toks := tk })
    (done : ∀ m' news' h tk, J vs.length m' news' → Fr h₀ env.locals h m' → News h₀ env.locals h news' → Q .next { s with heap := h, toks := tk }) :
    wpAny (model prog w) A (pyIter (.ref I)) (LoopW prog w A h₀ env (.Name x px) body Q) E s := by
  have hIx := N _ (.head _)
  have hD0 := hD _ _ _ J0
  have hax := N _ (.tail _ hD0)
  have hne : D ≠ I := off _ hD0
  have hl : s.heap.IsList D vs.toArray := ⟨_, hax.1, rfl, ep, rfl⟩
  have hit : s.heap.IsRevIter I D ((vs.length : Int) - 1) := ⟨_, hIx.1, rfl, rfl⟩
  refine wpAny_pyIter_revIter hit ?_
  have W := Walks.listRev (prog := prog) (w := w) hh I D hne vs.toArray
  have hlen : vs.toArray.size = vs.length := by simp
  rw [hlen] at W
  refine ⟨I, _, _, vs.length, _, _, m₀, news₀, J, rfl, W, ?_, ?_, ?_, ⟨Nat.zero_le _, ?_, hl⟩, F, N, off, J0, ?_, done⟩
  · rintro i h ⟨_, ⟨o, ho, _⟩, _⟩
    exact ⟨o, ho⟩
  · rintro i h h' o m' nw ⟨a, b, c⟩ e1 e2 F' N' hJ
    refine ⟨a, b.at (fun o' e => ?_), ⟨_, (N' _ (hD _ _ _ hJ)).1, rfl, ep, rfl⟩⟩
    rw [e1] at e; cases e; exact e2
  · intro i v s' Q' E' _ h
    exact go_name h
  · have e : (vs.length : Int) - 1 - ((0 : Nat) : Int) = (vs.length : Int) - 1 := by omega
    rw [e]; exact hit
  · intro i v m₁ news₁ oI h tk E' hi hP _ hJ F' N' off'
    refine turn i v m₁ news₁ oI h tk E' hi ?_ hJ F' N' off'
    simpa using hP
end
set_option maxHeartbeats 400000
theorem ints_get {vs : List Value} {ns : List Int} (h : IntsAre vs ns) : ∀ {i : Nat} {v : Value}, vs[i]? = some v → ∃ t, v = .int (ns.getD i 0) t ∧ i < ns.length := by
  induction h with
  | nil => intro i v e; simp at e
  | cons n t h ih =>
    intro i v e
    cases i with
    | zero => simp at e; exact ⟨t, e.symm, Nat.succ_pos _⟩
    | succ i =>
      simp only [List.getElem?_cons_succ] at e
      obtain ⟨t', e1, e2⟩ := ih e
      exact ⟨t', by simpa using e1, Nat.succ_lt_succ e2⟩
structure Dv (b B : Int) (ds : List Int) (i : Nat) (r : Int) (qs : List Int) : Prop where
  er : r = val B (ds.drop (ds.length - i)) % b
  eq : val B qs.reverse = val B (ds.drop (ds.length - i)) / b
  pos : ∀ q ∈ qs, 0 ≤ q
  len : qs.length = i
  r0 : 0 ≤ r
  r1 : r < b
theorem Dv.zero {b B : Int} {ds : List Int} (hb : 0 < b) : Dv b B ds 0 0 [] := by
  refine ⟨?_, ?_, fun q hq => (nomatch hq), rfl, Int.le_refl _, hb⟩
  · simp [val]
  · simp [val]
theorem Dv.step {b B : Int} {ds : List Int} {i : Nat} {r d x q r' : Int} {qs : List Int} (hb : 0 < b) (hB : 0 < B) (hp : ∀ d ∈ ds, 0 ≤ d) (D : Dv b B ds i r qs) (hi : i < ds.length) (hd : d = ds.getD (ds.length - 1 - i) 0) (hx : x = r * B + d) (hq : q = x / b) (hr : r' = x % b) :
    Dv b B ds (i + 1) r' (qs ++ [q]) := by
  have hl : ds.length - 1 - i < ds.length := by omega
  have e1 : ds.drop (ds.length - (i + 1)) = d :: ds.drop (ds.length - i) := by
    have : ds.length - (i + 1) = ds.length - 1 - i := by omega
    rw [this, List.drop_eq_getElem_cons hl, hd]
    congr 1
    · simp [hl]
    · congr 1; omega
  have hd0 : 0 ≤ d := by
    have : d ∈ ds := by
      apply List.mem_of_mem_drop (i := ds.length - (i + 1))
      rw [e1]; exact .head _
    exact hp d this
  have hv : val B (ds.drop (ds.length - (i + 1))) = b * (B * (val B (ds.drop (ds.length - i)) / b)) + x := by
    rw [e1]
    simp only [val]
    have h := Int.mul_ediv_add_emod (val B (ds.drop (ds.length - i))) b
    rw [← D.er] at h
    rw [hx]
    generalize val B (ds.drop (ds.length - i)) / b = k at h ⊢
    rw [← h, Int.mul_add, Int.mul_comm r B, ← Int.mul_assoc B b k, Int.mul_comm B b, Int.mul_assoc b B k]
    omega
  have hx0 : 0 ≤ x := by
    have := Int.mul_nonneg D.r0 (Int.le_of_lt hB)
    omega
  refine ⟨?_, ?_, ?_, ?_, ?_, ?_⟩
  · rw [hv, hr, Int.add_comm, Int.add_mul_emod_self_left]
  · rw [hv, List.reverse_append, List.reverse_singleton, List.singleton_append]
    simp only [val]
    rw [D.eq, hq, Int.add_comm (b * _) x, Int.add_mul_ediv_left _ _ (Int.ne_of_gt hb)]
  · intro y hy
    rcases List.mem_append.mp hy with hy | hy
    · exact D.pos y hy
    · rw [List.mem_singleton.mp hy, hq]; exact Int.ediv_nonneg hx0 (Int.le_of_lt hb)
  · rw [List.length_append, D.len]; rfl
  · rw [hr]; exact Int.emod_nonneg _ (Int.ne_of_gt hb)
  · rw [hr]; exact Int.emod_lt_of_pos _ hb
theorem Dv.all {b B : Int} {ds : List Int} {r : Int} {qs : List Int} (D : Dv b B ds ds.length r qs) : r = val B ds % b ∧ val B qs.reverse = val B ds / b := by
  have h1 := D.er
  have h2 := D.eq
  rw [Nat.sub_self, List.drop_zero] at h1 h2
  exact ⟨h1, h2⟩
/-- the loop of _divmod_pos -/
noncomputable def J49 (n : Int) (tn : Tok) (b : Int) (tb : Tok) (lq D : Addr) (vs : List Value) (ds : List Int) (ep : Nat) (o37 o30 : Obj) (rest : Led) (i : Nat) (m : Str → Option Value) (nw : Led) : Prop :=
  (IntsAre vs ds ∧ Digs ds) ∧ ∃ (r : Int) (tr : Tok) (qv : List Value) (qs : List Int) (eq : Nat),
    m (Str.ofString "n") = some (.int n tn) ∧ m (Str.ofString "b") = some (.int b tb) ∧ m (Str.ofString "r") = some (.int r tr) ∧ m (Str.ofString "q_digits") = some (.ref lq) ∧
    nw = (lq, listOf qv.toArray eq) :: (D, listOf vs.toArray ep) :: (37, o37) :: (30, o30) :: rest ∧ IntsAre qv qs ∧ Dv b (2 ^ n.toNat) ds i r qs
/-- (r << n) + d stays small -/
theorem small49 {r n d : Int} (r0 : 0 ≤ r) (r1 : r < 2 ^ 28) (n0 : 0 ≤ n) (n1 : n ≤ 28) (d0 : 0 ≤ d) (d1 : d < 2 ^ 31) : 0 ≤ r * 2 ^ n.toNat + d ∧ r * 2 ^ n.toNat + d < 2 ^ 62 := by
  have hB : (0 : Int) < 2 ^ n.toNat := Int.pow_pos (by decide)
  have hB2 : (2 : Int) ^ n.toNat ≤ 2 ^ 28 := (by
    have h : (2 : Nat) ^ n.toNat ≤ 2 ^ 28 := Nat.pow_le_pow_right (by decide) (by omega)
    exact_mod_cast h)
  have h1 := Int.mul_nonneg r0 (Int.le_of_lt hB)
  have h2 : r * 2 ^ n.toNat ≤ 2 ^ 28 * 2 ^ 28 := Int.mul_le_mul (Int.le_of_lt r1) hB2 (Int.le_of_lt hB) (by decide)
  have h3 : (2 : Int) ^ 28 * 2 ^ 28 = 2 ^ 56 := by decide
  constructor <;> omega
theorem small49a {y r n d : Int} (hy : y = r * 2 ^ n.toNat) (d0 : 0 ≤ d) (d1 : d < 2 ^ 31) (r0 : 0 ≤ r) (r1 : r < 2 ^ 28) (n0 : 0 ≤ n) (n1 : n ≤ 28) : 0 ≤ y + d := hy ▸ (small49 r0 r1 n0 n1 d0 d1).1
theorem small49b {y r n d : Int} (hy : y = r * 2 ^ n.toNat) (d0 : 0 ≤ d) (d1 : d < 2 ^ 31) (r0 : 0 ≤ r) (r1 : r < 2 ^ 28) (n0 : 0 ≤ n) (n1 : n ≤ 28) : y + d < 2 ^ 62 := hy ▸ (small49 r0 r1 n0 n1 d0 d1).2
theorem digs_get {ds : List Int} (h : Digs ds) {i : Nat} (hi : i < ds.length) : 0 ≤ ds.getD i 0 ∧ ds.getD i 0 < 2 ^ 31 := by
  have e : ds.getD i 0 = ds[i] := by simp [hi]
  rw [e]; exact h _ (List.getElem_mem hi)
theorem ite_know {m : Str → Option Value} {y x : Str} {r : Option Value} (h : r = m y) : (if y = x then m x else r) = m y := by
  by_cases e : y = x
  · rw [if_pos e, e]
  · rw [if_neg e, h]
theorem Fr.know1 {h₀ h : Heap} {L : Addr} {m : Str → Option Value} (F : Fr h₀ L h m) {x1 : Str} {v1 : Option Value} (e1 : m x1 = v1) : Fr h₀ L h (fun y => if y = x1 then v1 else m y) := by
  subst e1
  have e : (fun y => if y = x1 then m x1 else m y) = m := funext fun y => (ite_know rfl)
  exact e.symm ▸ F
theorem Fr.know2 {h₀ h : Heap} {L : Addr} {m : Str → Option Value} (F : Fr h₀ L h m) {x1 x2 : Str} {v1 v2 : Option Value} (e1 : m x1 = v1) (e2 : m x2 = v2) : Fr h₀ L h (fun y => if y = x2 then v2 else if y = x1 then v1 else m y) := by
  subst e1; subst e2
  have e : (fun y => if y = x2 then m x2 else if y = x1 then m x1 else m y) = m := funext fun y => (ite_know (ite_know rfl))
  exact e.symm ▸ F
theorem Fr.know3 {h₀ h : Heap} {L : Addr} {m : Str → Option Value} (F : Fr h₀ L h m) {x1 x2 x3 : Str} {v1 v2 v3 : Option Value} (e1 : m x1 = v1) (e2 : m x2 = v2) (e3 : m x3 = v3) : Fr h₀ L h (fun y => if y = x3 then v3 else if y = x2 then v2 else if y = x1 then v1 else m y) := by
  subst e1; subst e2; subst e3
  have e : (fun y => if y = x3 then m x3 else if y = x2 then m x2 else if y = x1 then m x1 else m y) = m := funext fun y => (ite_know (ite_know (ite_know rfl)))
  exact e.symm ▸ F
theorem Fr.know4 {h₀ h : Heap} {L : Addr} {m : Str → Option Value} (F : Fr h₀ L h m) {x1 x2 x3 x4 : Str} {v1 v2 v3 v4 : Option Value} (e1 : m x1 = v1) (e2 : m x2 = v2) (e3 : m x3 = v3) (e4 : m x4 = v4) : Fr h₀ L h (fun y => if y = x4 then v4 else if y = x3 then v3 else if y = x2 then v2 else if y = x1 then v1 else m y) := by
  subst e1; subst e2; subst e3; subst e4
  have e : (fun y => if y = x4 then m x4 else if y = x3 then m x3 else if y = x2 then m x2 else if y = x1 then m x1 else m y) = m := funext fun y => (ite_know (ite_know (ite_know (ite_know rfl))))
  exact e.symm ▸ F
theorem Fr.know5 {h₀ h : Heap} {L : Addr} {m : Str → Option Value} (F : Fr h₀ L h m) {x1 x2 x3 x4 x5 : Str} {v1 v2 v3 v4 v5 : Option Value} (e1 : m x1 = v1) (e2 : m x2 = v2) (e3 : m x3 = v3) (e4 : m x4 = v4) (e5 : m x5 = v5) : Fr h₀ L h (fun y => if y = x5 then v5 else if y = x4 then v4 else if y = x3 then v3 else if y = x2 then v2 else if y = x1 then v1 else m y) := by
  subst e1; subst e2; subst e3; subst e4; subst e5
  have e : (fun y => if y = x5 then m x5 else if y = x4 then m x4 else if y = x3 then m x3 else if y = x2 then m x2 else if y = x1 then m x1 else m y) = m := funext fun y => (ite_know (ite_know (ite_know (ite_know (ite_know rfl)))))
  exact e.symm ▸ F
theorem Fr.know6 {h₀ h : Heap} {L : Addr} {m : Str → Option Value} (F : Fr h₀ L h m) {x1 x2 x3 x4 x5 x6 : Str} {v1 v2 v3 v4 v5 v6 : Option Value} (e1 : m x1 = v1) (e2 : m x2 = v2) (e3 : m x3 = v3) (e4 : m x4 = v4) (e5 : m x5 = v5) (e6 : m x6 = v6) : Fr h₀ L h (fun y => if y = x6 then v6 else if y = x5 then v5 else if y = x4 then v4 else if y = x3 then v3 else if y = x2 then v2 else if y = x1 then v1 else m y) := by
  subst e1; subst e2; subst e3; subst e4; subst e5; subst e6
  have e : (fun y => if y = x6 then m x6 else if y = x5 then m x5 else if y = x4 then m x4 else if y = x3 then m x3 else if y = x2 then m x2 else if y = x1 then m x1 else m y) = m := funext fun y => (ite_know (ite_know (ite_know (ite_know (ite_know (ite_know rfl))))))
  exact e.symm ▸ F
theorem Fr.know7 {h₀ h : Heap} {L : Addr} {m : Str → Option Value} (F : Fr h₀ L h m) {x1 x2 x3 x4 x5 x6 x7 : Str} {v1 v2 v3 v4 v5 v6 v7 : Option Value} (e1 : m x1 = v1) (e2 : m x2 = v2) (e3 : m x3 = v3) (e4 : m x4 = v4) (e5 : m x5 = v5) (e6 : m x6 = v6) (e7 : m x7 = v7) : Fr h₀ L h (fun y => if y = x7 then v7 else if y = x6 then v6 else if y = x5 then v5 else if y = x4 then v4 else if y = x3 then v3 else if y = x2 then v2 else if y = x1 then v1 else m y) := by
  subst e1; subst e2; subst e3; subst e4; subst e5; subst e6; subst e7
  have e : (fun y => if y = x7 then m x7 else if y = x6 then m x6 else if y = x5 then m x5 else if y = x4 then m x4 else if y = x3 then m x3 else if y = x2 then m x2 else if y = x1 then m x1 else m y) = m := funext fun y => (ite_know (ite_know (ite_know (ite_know (ite_know (ite_know (ite_know rfl)))))))
  exact e.symm ▸ F
section
variable {prog : Program} {w : World} {A : Around} {E : Value → Shared → Prop} {s : Shared} {h₀ : Heap} {L D : Addr} {m : Str → Option Value} {news news' : Led}
theorem appL {vs : List Value} {x : Value} {n : Nat} {Q : Value → Shared → Prop} (F : Fr h₀ L s.heap m) (N : News h₀ L s.heap news) (U : Upd D (listOf vs.toArray n) (listOf (vs ++ [x]).toArray (n + 1)) news news') (hl : vs.length ≤ 1000)
    (h : ∀ h', Fr h₀ L h' m → News h₀ L h' news' → Q .none { s with heap := h' }) : wpAny (model prog w) A (call (.builtin "list.append") [.ref D, x]) Q E s := by
  have e : (vs ++ [x]).toArray = vs.toArray.push x := by simp
  rw [e] at U
  exact append_K F N U h (by rw [PySem.sizeLine_eq, List.size_toArray]; omega)
theorem revL {vs : List Value} {n : Nat} {Q : Value → Shared → Prop} (F : Fr h₀ L s.heap m) (N : News h₀ L s.heap news) (U : Upd D (listOf vs.toArray n) (listOf vs.reverse.toArray n) news news') (hl : vs.length ≤ 1000)
    (h : ∀ h', Fr h₀ L h' m → News h₀ L h' news' → Q .none { s with heap := h' }) : wpAny (model prog w) A (call (.builtin "list.reverse") [.ref D]) Q E s :=
  kl_reverse F N (by simp) U (by rw [PySem.sizeLine_eq]; simp; omega) h
end
theorem ints_app {vs : List Value} {ns : List Int} (h : IntsAre vs ns) {n : Int} {t : Tok} : IntsAre (vs ++ [.int n t]) (ns ++ [n]) := by
  induction h with
  | nil => exact .cons n t .nil
  | cons a b _ ih => exact .cons a b ih
theorem ints_appL {vs ws : List Value} {ns ms : List Int} (h : IntsAre vs ns) (k : IntsAre ws ms) : IntsAre (vs ++ ws) (ns ++ ms) := by
  induction h with
  | nil => exact k
  | cons a b _ ih => exact .cons a b ih
theorem ints_rev {vs : List Value} {ns : List Int} (h : IntsAre vs ns) : IntsAre vs.reverse ns.reverse := by
  induction h with
  | nil => exact .nil
  | cons a b _ ih => rw [List.reverse_cons, List.reverse_cons]; exact ints_app ih
theorem TurnE.go {h₀ : Heap} {L I : Addr} {oI : Obj} {J : (Str → Option Value) → Led → Prop} {s₁ : Shared} {Q : Flow → Shared → Prop} {h' : Heap} {tk : Nat} {m' : Str → Option Value} {news' : Led}
    (F : Fr h₀ L h' m') (N : News h₀ L h' ((I, oI) :: news')) (off : ∀ p ∈ news', p.1 ≠ I) (j : J m' news') : TurnE h₀ L I oI J s₁ Q .next { s₁ with heap := h', toks := tk } :=
  ⟨h', tk, m', news', rfl, F, N, off, j⟩
theorem off_head {I x : Addr} {o o' : Obj} {l : Led} (h : ∀ p ∈ (x, o) :: l, p.1 ≠ I) : ∀ p ∈ (x, o') :: l, p.1 ≠ I := fun p hp => by
  rcases List.mem_cons.mp hp with e | hp
  · rw [e]; exact h (x, o) (.head _)
  · exact h _ (.tail _ hp)
theorem subU {a b x y : Addr × Obj} {t : Led} : ∀ p ∈ a :: b :: x :: t, p ∈ x :: y :: a :: b :: t := fun p hp => by
  simp only [List.mem_cons] at hp ⊢
  rcases hp with h | h | h | h <;> simp [h]
theorem AllLt.all {d : Addr} {l : Led} (h : AllLt d l) : ∀ p ∈ l, p.1 < d := by
  induction l with
  | nil => intro p hp; exact nomatch hp
  | cons q l ih =>
    intro p hp
    rcases List.mem_cons.mp hp with e | hp
    · rw [e]; exact h.1
    · exact ih h.2 p hp
theorem digs_rev {qs : List Int} (h : ∀ q ∈ qs, 0 ≤ q) : ∀ q ∈ qs.reverse, 0 ≤ q := fun q hq => h q (List.mem_reverse.mp hq)
theorem intR_mono {x : Int} : ∀ (tl news : Led) (r : Value), IntR x tl r → IntR x (tl ++ news) r := fun _ _ _ h => h
theorem div_small {a b : Int} (h0 : 0 ≤ a) (h1 : a < 2 ^ 31) : a / b < 2 ^ 31 := Int.lt_of_le_of_lt (Int.ediv_le_self _ h0) h1
set_option maxHeartbeats 1000000
/-- what surrounds a body, its callers' frames as one letter -/
noncomputable abbrev topF (dp un : Nat) (gd : Option (List Code)) (fr : List Env) : Around := { handled := none, depth := dp, frames := some fr, guards := gd, units := un }
theorem cell_in {prog : Program} {w : World} {A₀ : Around} {s : Shared} {base h₀ : Heap} {L : Addr} {m : Str → Option Value} {news : Led} {K : Frag} {p : Program} {loose : List Str} {mean : ExcName → Option Value} {mg mb : Str → Option Value}
    {dp un : Nat} {gd : Option (List Code)} {cn : Str} {cs : Scope} {a : Addr} {ccd : Value} {cl : List (Str × Addr)} {outer : List Env}
    {R : Result → Shared → Prop} {name qual : Str} {params : Arguments} {body : List Stmt} {scope : Scope} {dV kV doc pm cdv ct oc : Value} {an od : Option Addr} {osl : Array (Option Value)} {f : Addr} {args : Args} {binds : List (Str × Value)}
    (B : Below A₀ base outer h₀) (F : Fr h₀ L s.heap m) (X₀ : K.In h₀) (N : News h₀ L s.heap news) (T : Top p loose mean mg mb h₀) (hke : cs.kind = .function)
    (ho : K.lookup f = some ⟨oc, od, .func (fnOf name qual params body scope dV kV doc pm an cdv ct), osl⟩) (hcd : codeIn K cdv qual = true) (hroom : dp < recursionLimit)
    (hbind : BindsTo s (fnOf name qual params body scope dV kV doc pm an cdv ct) args binds) (hloc : ∀ y ∈ binds, scope.names.lookup y.1 = some .local)
    (h : ∀ fr g L' h₁, Fr h₀ L g m → Fr g L' h₁ (fun y => binds.reverse.lookup y) → News g L' h₁ news → Below (topF dp un gd fr) base fr g → K.In g → Top p loose mean mg mb g →
      ∀ E', wpAny (model prog w) ((topF dp un gd fr).deeper (envOf qual scope L' f cdv)) (execs body (envOf qual scope L' f cdv))
        (fun fl s' => LeaveK h₀ L m g R (match fl with | .ret v => v | _ => .none) s') E'
        { s with heap := h₁, toks := s.toks + binds.length })
    (hco : scope.isCoroutine = false) (hgen : scope.isGenerator = false) (hk : scope.kind = .function)
    (hcell : ∀ x ∈ scope.names, x.2 ≠ .cell) : codeAny (model prog w) (ktrTop dp un gd cn cs L a ccd cl outer) (.call (.ref f) args) R s :=
  code_def B F X₀ N T rfl rfl hke ho hcd hroom hbind hloc (fun g L' h₁ FG F' N' B' X' T' => h _ g L' h₁ FG F' N' B' X' T' _) hco hgen hk hcell
set_option maxHeartbeats 8000000
noncomputable abbrev TwoIn (q r : Int) (tl : Led) (v : Value) : Prop := ∃ x y z t1 t2, v = .ref x ∧ (x, tupO [.int y t1, .int z t2]) ∈ tl ∧ y = q ∧ z = r
theorem bits_le {a : Int} (h0 : 0 < a) (h1 : a < 2 ^ 28) : (Builtin.Int.intBits a : Int) ≤ 28 := by
  unfold Builtin.Int.intBits
  have : (a == 0) = false := by simp; omega
  rw [this]
  have h2 : a.natAbs < 2 ^ 28 := by omega
  have h3 : a.natAbs.log2 < 28 := (Nat.log2_lt (by omega)).mpr h2
  simp only [Bool.false_eq_true, if_false]
  omega
theorem c49 : ∀ (w : World) (va vb : Int) (ta tb : Tok) (h1 : 0 ≤ va) (h2 : va < 2 ^ 31) (h3 : 0 < vb) (h4 : vb < 2 ^ 28),
    DoesG w 49 [.int va ta, .int vb tb] 12 (fun _ => True) (TwoIn (va / vb) (va % vb)) := by
  k_with_none
  k_with "ne" => (first | (refine Nat.ne_of_lt ?_; k_extra "neL") | (refine Nat.ne_of_gt ?_; k_extra "neL") | with_reducible assumption | (refine Ne.symm ?_; with_reducible assumption) | k_extra "neA")
  k_with "neL" => (first | with_reducible assumption | with_reducible exact ltS0 _ | k_extra "neS" | ((fail_if_success with_reducible show _ < 37); (fail_if_success with_reducible show _ < 30); with_reducible refine ltS ?_; k_extra "neL"))
  k_with "neS" => (with_reducible rename (@LT.lt Nat _ _ _ ∧ _) => q; first | (refine ltRt q ?_; first | exact q.1 | exact q.2.1 | exact q.2.2.1 | exact q.2.2.2.1 | exact q.2.2.2.2.1 | exact q.2.2.2.2.2.1 | exact q.2.2.2.2.2.2.1 | exact q.2.2.2.2.2.2.2.1 | exact q.2.2.2.2.2.2.2.2.1 | exact q.2.2.2.2.2.2.2.2.2.1 | exact q.2.2.2.2.2.2.2.2.2.2.1 | exact q.2.2.2.2.2.2.2.2.2.2.2.1 | exact q.2.2.2.2.2.2.2.2.2.2.2.2.1 | exact q.2.2.2.2.2.2.2.2.2.2.2.2.2.1 | exact q.2.2.2.2.2.2.2.2.2.2.2.2.2.2.1 | exact q.2.2.2.2.2.2.2.2.2.2.2.2.2.2.2.1 | exact q.2.2.2.2.2.2.2.2.2.2.2.2.2.2.2.2.1 | exact q.2.2.2.2.2.2.2.2.2.2.2.2.2.2.2.2.2.1) | (clear q; k_extra "neS"))
  k_with "neA" => (with_reducible rename (@Ne _ _ _ ∧ _) => q; first | (refine neLt q ?_; first | exact q.1.symm | exact q.2.1.symm | exact q.2.2.1.symm | exact q.2.2.2.1.symm | exact q.2.2.2.2.1.symm | exact q.2.2.2.2.2.1.symm | exact q.2.2.2.2.2.2.1.symm | exact q.2.2.2.2.2.2.2.1.symm | exact q.2.2.2.2.2.2.2.2.1.symm | exact q.2.2.2.2.2.2.2.2.2.1.symm | exact q.2.2.2.2.2.2.2.2.2.2.1.symm | exact q.2.2.2.2.2.2.2.2.2.2.2.1.symm | exact q.2.2.2.2.2.2.2.2.2.2.2.2.1.symm | exact q.2.2.2.2.2.2.2.2.2.2.2.2.2.1.symm | exact q.2.2.2.2.2.2.2.2.2.2.2.2.2.2.1.symm | exact q.2.2.2.2.2.2.2.2.2.2.2.2.2.2.2.1.symm | exact q.2.2.2.2.2.2.2.2.2.2.2.2.2.2.2.2.1.symm | exact q.2.2.2.2.2.2.2.2.2.2.2.2.2.2.2.2.2.1.symm) | (refine neRt q ?_; first | exact q.1 | exact q.2.1 | exact q.2.2.1 | exact q.2.2.2.1 | exact q.2.2.2.2.1 | exact q.2.2.2.2.2.1 | exact q.2.2.2.2.2.2.1 | exact q.2.2.2.2.2.2.2.1 | exact q.2.2.2.2.2.2.2.2.1 | exact q.2.2.2.2.2.2.2.2.2.1 | exact q.2.2.2.2.2.2.2.2.2.2.1 | exact q.2.2.2.2.2.2.2.2.2.2.2.1 | exact q.2.2.2.2.2.2.2.2.2.2.2.2.1 | exact q.2.2.2.2.2.2.2.2.2.2.2.2.2.1 | exact q.2.2.2.2.2.2.2.2.2.2.2.2.2.2.1 | exact q.2.2.2.2.2.2.2.2.2.2.2.2.2.2.2.1 | exact q.2.2.2.2.2.2.2.2.2.2.2.2.2.2.2.2.1 | exact q.2.2.2.2.2.2.2.2.2.2.2.2.2.2.2.2.2.1) | (clear q; k_extra "neA"))
  k_with "subs" => (first | exact sub_nil | exact sub_self | (refine sub_cons (by k_mem) ?_; k_extra "subs") | (refine sub_skip ?_; k_extra "subs"))
  k_with "call ref" => (k_here; k_dflt (refine' DoesG.use ((c35 _ _ _ _ _ ?zqh1 ?zqh2 ?zqh3 ?zqh4).toG ?zqmono) ?zqB ?zqF ?zqX ?zqN ?zqsub ?zqT ?zqhk ?zqt37 ?zqt30 ?zqoff ?zqpre ?zqdp ?zqun ?_; (case zqh1 => omega); (case zqh2 => omega); (case zqh3 => omega); (case zqh4 => omega); (case zqmono => exact fun tl news r h => ⟨_, _, _, _, h.choose_spec.choose_spec.choose_spec.choose_spec.1, List.mem_append_left _ h.choose_spec.choose_spec.choose_spec.choose_spec.2.1, h.choose_spec.choose_spec.choose_spec.choose_spec.2.2⟩); (case zqB => k_asm); (case zqF => k_asm); (case zqX => k_asm); (case zqN => k_asm); (case zqsub => first | exact subT0); (case zqT => k_asm); (case zqhk => exact rfl); (case zqt37 => assumption); (case zqt30 => assumption); (case zqoff => assumption); (case zqpre => trivial); (case zqdp => dsimp only [ktrTop]; omega); (case zqun => dsimp only [ktrTop]; omega); k_whole; rintro r rest b37 b30 h' tk' F' N' gr t37' t30' off' ⟨D, vs, ds, ep, hr, hD, iv, dg, dl, dv⟩; subst hr; replace N' := News.sub N' (sub_cons (.tail _ (.tail _ hD)) sub_self)))
  k_with "exec For Name Call cons nil" => (k_here; k_dflt (refine for_walk (by k_asm) ?_))
  k_with "call type:reversed" => (k_here; k_dflt (refine' krv_reversed ?zqF ?zqN ?zql ?_; (case zqF => k_asm); (case zqN => k_asm); (case zql => is_list)); intro D' h' F' N' l1; (have hoff' := fun p hp => Nat.ne_of_lt (l1 p hp)); (try k_lt l1))
  k_with "binaryOp LShift int int" => (k_here; k_dflt (refine' sh_left ?zqa ?zqb ?zqc ?zqd ?_; (case zqa => omega); (case zqb => omega); (case zqc => assumption); (case zqd => omega); k_whole; intro y tk' y1))
  k_with "call ref" => (k_here; k_dflt (refine' d21 ?zqh1 ?zqh2 ?zqh3 ?zqh4 ?zqh5 ?zqB ?zqF ?zqX ?zqN ?zqT ?zqhk ?zqdp ?zqun ?_; (case zqh1 => exact small49a (by assumption) (by assumption) (by assumption) (by assumption) (by assumption) (by assumption) (by assumption)); (case zqh2 => exact small49b (by assumption) (by assumption) (by assumption) (by assumption) (by assumption) (by assumption) (by assumption)); (case zqh3 => assumption); (case zqh4 => omega); (case zqh5 => omega); (case zqB => k_asm); (case zqF => k_asm); (case zqX => k_asm); (case zqN => k_asm); (case zqT => k_asm); (case zqhk => exact rfl); (case zqdp => dsimp only [ktrTop]; omega); (case zqun => dsimp only [ktrTop]; omega); k_whole; intro x q r t1 t2 h' tk' F' N' l1 hq hr; (try k_lt l1); (try k_sweep)))
  k_with "call builtin:list.append" => (k_here; k_dflt (refine' appL ?zqk1 ?zqk2 ?zqk3 ?zqk4 ?_; (case zqk1 => k_asm); (case zqk2 => k_asm); (case zqk3 => k_upd); (case zqk4 => assumption); k_whole); intro h' F' N'; (try k_sweep))
  k_with "call builtin:list.reverse" => (k_here; k_dflt (refine' revL ?zqk1 ?zqk2 ?zqk3 ?zqk4 ?_; (case zqk1 => k_asm); (case zqk2 => k_asm); (case zqk3 => k_upd); (case zqk4 => assumption); k_whole); intro h' F' N'; (try k_sweep))
  k_with "call ref" => (k_here; k_dflt (refine' DoesG.use ((c42 _ _ _ _ _ _ _ ?zqh3 ?zqh4 ?zqhin ?zqhp ?zqhl ?zqhv).toG intR_mono) ?zqB ?zqF ?zqX ?zqN ?zqsub ?zqT ?zqhk ?zqt37 ?zqt30 ?zqoff ?zqpre ?zqdp ?zqun ?_; (case zqB => k_asm); (case zqF => k_asm); (case zqX => k_asm); (case zqN => k_asm); (case zqsub => exact subU); (case zqpre => exact .head _); (case zqhin => assumption); (case zqhp => assumption); (case zqhl => assumption); (case zqhv => assumption); (case zqh3 => omega); (case zqh4 => omega); (case zqT => k_asm); (case zqhk => exact rfl); (case zqt37 => exact TabOk.cons (by assumption)); (case zqt30 => exact TabOk.cons (by assumption)); (case zqoff => exact OffT.cons (by assumption) (by omega) (by omega)); (case zqdp => dsimp only [ktrTop]; omega); (case zqun => dsimp only [ktrTop]; omega); k_whole; intro r rest b37 b30 h' tk' F' N' gr2 t37' t30' off' hr; obtain ⟨y, t, hr, hy⟩ := hr; subst hr))
  unfold DoesG
  intro w va vb ta tb h1 h2 h3 h4 p loose mean mg mb dp un gd cn cs a ccd cl outer A₀ base h₀ L m news a37 a30 s Q E B F X N T hk t37 t30 hoT _ hdp hun ret
  have hb1 := bits_le h3 h4
  have hb2 := bits_pos (a := vb) (by omega)
  refine wpAny_call ?_
  k_dflt (refine' cell_in ?ci1 ?ci2 ?ci3 ?ci4 ?ci5 ?ciK ?ci6 ?ci7 ?ci8 ?ci9 ?ciB ?_ ?cc2 ?cc3 ?cc4 ?cc5; (case ciK => assumption); (case ci1 => k_asm); (case ci2 => k_asm); (case ci3 => k_asm); (case ci4 => k_asm); (case ci5 => k_asm); (case ci6 => k_is); (case ci7 => k_is); (case ci8 => ktr_room); (case ci9 => exact BindsTo.of_eq rfl); (case cc5 => decide); (case ciB => exact locs rfl); (case cc2 => exact rfl); (case cc3 => exact rfl); (case cc4 => exact rfl); k_whole; intro fr g' L' h' FG' F' N' B' X' T' Ee; (try dsimp only); (try k_lift B'); (try k_fold))
  k_steps
  k_dflt (refine' rev_walk (J := J49 _ _ _ _ _ _ _ _ _ _ _ _) rfl ?F ?N ?off ?hD ?J0 ?turn ?done)
  k_dflt (case F => k_asm)
  k_dflt (case N => k_asm)
  k_dflt (case J0 => refine' ⟨⟨by assumption, by assumption⟩, 0, _, [], [], 0, rfl, rfl, rfl, rfl, rfl, .nil, ?_⟩; exact Dv.zero h3)
  k_dflt (case off => assumption)
  k_dflt (case hD => rintro i m nw ⟨_, r, tr, qv, qs, eq, _, _, _, _, rfl, _⟩; k_mem)
  k_dflt (case turn =>
    rintro i v m₁ news₁ oI h tk E' hi hv ⟨⟨iv, dg⟩, r, tr, qv, qs, eq, e1, e2, e3, e4, rfl, iq, dq⟩ F1 N1 off1
    obtain ⟨t, rfl, hlt⟩ := ints_get iv hv
    have F2 := Fr.know4 F1 e1 e2 e3 e4
    clear F1
    obtain ⟨d0, d1⟩ := digs_get dg hlt
    have r0 := dq.r0
    have r1 : r < 2 ^ 28 := Int.lt_trans dq.r1 h4
    have n0 : 0 ≤ (Builtin.Int.intBits vb : Int) := by omega
    have hlv := iv.length
    have hql : qv.length ≤ 1000 := by rw [iq.length, dq.len]; omega
    generalize hd : List.getD _ _ _ = d at d0 d1 ⊢
    k_steps
    k_dflt (refine' TurnE.go ?F ?N ?off ?J)
    k_dflt (case F => k_asm)
    k_dflt (case N => exact News.sub (by k_asm) (sub_skip sub_self))
    k_dflt (case off => exact off_head off1)
    k_dflt (case J =>
      refine' ⟨⟨by assumption, by assumption⟩, _, _, _, _, _, rfl, rfl, rfl, rfl, rfl, ints_app iq, ?dv⟩
      refine' Dv.step (d := d) h3 ?hB ?hp dq ?hi ?hd ?hx ?hq ?hr
      (case hq => assumption)
      (case hr => assumption)
      (case hB => exact Int.pow_pos (by decide))
      (case hp => exact fun d hd => (dg d hd).1)
      (case hi => omega)
      (case hx => exact congrArg (· + _) (by assumption))
      (case hd => rw [← hd, hlv])))
  k_dflt (case done =>
    rintro m' news' h tk ⟨⟨iv, dg⟩, r, tr, qv, qs, eq, e1, e2, e3, e4, rfl, iq, dq⟩ F1 N1
    have F2 := Fr.know4 F1 e1 e2 e3 e4
    clear F1
    have hlv := iv.length
    have hql : qv.length ≤ 1000 := by rw [iq.length, dq.len]; omega
    have hrl : qs.reverse.length ≤ 64 := by rw [List.length_reverse, dq.len]; omega
    have iq' := ints_rev iq
    have hp' := digs_rev dq.pos
    rw [hlv] at dq
    obtain ⟨er, eq'⟩ := dq.all
    have hv' := eq'.trans (congrArg (· / vb) (by assumption))
    have hv2 := Int.lt_of_le_of_lt (Int.le_of_eq hv') (div_small h1 h2)
    have al := (‹_ ∧ _ ∧ _ ∧ AllLt _ _›).2.2.2
    k_steps
    have g1 := ‹Grow news _›
    have g2 := ‹Grow (_ :: _) _›
    have al2 := (‹_ ∧ _ ∧ AllLt _ _›).2.2
    k_dflt (refine' ret _ ((_, tupO [_, _]) :: _) _ _ _ _ ?F ?N ?gr ?t37 ?t30 ?off ⟨_, _, _, _, _, rfl, .head _, ?q, ?r⟩)
    k_dflt (case F => k_asm)
    k_dflt (case N => exact News.sub (by k_asm) subT1)
    k_dflt (case gr => exact ((g1.trans (Grow.rfl.cons (AllLt.all al) (by omega) (by omega))).trans g2).cons (fun q hq => AllLt.all al2 q (g2.sub q (.tail _ (g1.sub q hq)))) (by omega) (by omega))
    k_dflt (case t37 => exact TabOk.cons (by assumption))
    k_dflt (case t30 => exact TabOk.cons (by assumption))
    k_dflt (case off => exact OffT.cons (by assumption) (by omega) (by omega))
    k_dflt (case q => exact Eq.trans (by assumption) hv')
    k_dflt (case r => exact Eq.trans er (congrArg (· % vb) (by assumption))))
set_option maxHeartbeats 4000000
theorem subV {a b x y : Addr × Obj} {t : Led} : ∀ p ∈ a :: b :: x :: t, p ∈ x :: y :: a :: b :: t := subU
theorem not_div {a b : Int} (hb : 0 < b) : Builtin.bitNot (Builtin.bitNot a / b) = a / b ∧ b + Builtin.bitNot (Builtin.bitNot a % b) = a % b := by
  have h := Int.mul_ediv_add_emod (Builtin.bitNot a) b
  have h0 := Int.emod_nonneg (Builtin.bitNot a) (Int.ne_of_gt hb)
  have h1 := Int.emod_lt_of_pos (Builtin.bitNot a) hb
  generalize Builtin.bitNot a / b = q at h ⊢
  generalize Builtin.bitNot a % b = r at h h0 h1 ⊢
  simp only [Builtin.bitNot] at h ⊢
  have e := (Int.ediv_emod_unique hb (a := a) (q := -q - 1) (r := b + (-r - 1))).mpr ⟨by rw [Int.mul_sub, Int.mul_neg, Int.mul_one]; omega, by omega, by omega⟩
  exact ⟨e.1.symm, e.2.symm⟩
theorem c56a : ∀ (w : World) (va vb : Int) (ta tb : Tok) (h1 : 0 ≤ va) (h2 : va < 2 ^ 31) (h3 : 0 < vb) (h4 : vb < 2 ^ 28),
    DoesG w 56 [.int va ta, .int vb tb] 14 (fun _ => True) (TwoIn (va / vb) (va % vb)) := by
  k_with_none
  k_with "ne" => (first | (refine Nat.ne_of_lt ?_; k_extra "neL") | (refine Nat.ne_of_gt ?_; k_extra "neL") | with_reducible assumption | (refine Ne.symm ?_; with_reducible assumption) | k_extra "neA")
  k_with "neL" => (first | with_reducible assumption | with_reducible exact ltS0 _ | k_extra "neS" | ((fail_if_success with_reducible show _ < 37); (fail_if_success with_reducible show _ < 30); with_reducible refine ltS ?_; k_extra "neL"))
  k_with "neS" => (with_reducible rename (@LT.lt Nat _ _ _ ∧ _) => q; first | (refine ltRt q ?_; first | exact q.1 | exact q.2.1 | exact q.2.2.1 | exact q.2.2.2.1 | exact q.2.2.2.2.1 | exact q.2.2.2.2.2.1 | exact q.2.2.2.2.2.2.1 | exact q.2.2.2.2.2.2.2.1 | exact q.2.2.2.2.2.2.2.2.1 | exact q.2.2.2.2.2.2.2.2.2.1 | exact q.2.2.2.2.2.2.2.2.2.2.1 | exact q.2.2.2.2.2.2.2.2.2.2.2.1 | exact q.2.2.2.2.2.2.2.2.2.2.2.2.1 | exact q.2.2.2.2.2.2.2.2.2.2.2.2.2.1 | exact q.2.2.2.2.2.2.2.2.2.2.2.2.2.2.1 | exact q.2.2.2.2.2.2.2.2.2.2.2.2.2.2.2.1 | exact q.2.2.2.2.2.2.2.2.2.2.2.2.2.2.2.2.1 | exact q.2.2.2.2.2.2.2.2.2.2.2.2.2.2.2.2.2.1) | (clear q; k_extra "neS"))
  k_with "neA" => (with_reducible rename (@Ne _ _ _ ∧ _) => q; first | (refine neLt q ?_; first | exact q.1.symm | exact q.2.1.symm | exact q.2.2.1.symm | exact q.2.2.2.1.symm | exact q.2.2.2.2.1.symm | exact q.2.2.2.2.2.1.symm | exact q.2.2.2.2.2.2.1.symm | exact q.2.2.2.2.2.2.2.1.symm | exact q.2.2.2.2.2.2.2.2.1.symm | exact q.2.2.2.2.2.2.2.2.2.1.symm | exact q.2.2.2.2.2.2.2.2.2.2.1.symm | exact q.2.2.2.2.2.2.2.2.2.2.2.1.symm | exact q.2.2.2.2.2.2.2.2.2.2.2.2.1.symm | exact q.2.2.2.2.2.2.2.2.2.2.2.2.2.1.symm | exact q.2.2.2.2.2.2.2.2.2.2.2.2.2.2.1.symm | exact q.2.2.2.2.2.2.2.2.2.2.2.2.2.2.2.1.symm | exact q.2.2.2.2.2.2.2.2.2.2.2.2.2.2.2.2.1.symm | exact q.2.2.2.2.2.2.2.2.2.2.2.2.2.2.2.2.2.1.symm) | (refine neRt q ?_; first | exact q.1 | exact q.2.1 | exact q.2.2.1 | exact q.2.2.2.1 | exact q.2.2.2.2.1 | exact q.2.2.2.2.2.1 | exact q.2.2.2.2.2.2.1 | exact q.2.2.2.2.2.2.2.1 | exact q.2.2.2.2.2.2.2.2.1 | exact q.2.2.2.2.2.2.2.2.2.1 | exact q.2.2.2.2.2.2.2.2.2.2.1 | exact q.2.2.2.2.2.2.2.2.2.2.2.1 | exact q.2.2.2.2.2.2.2.2.2.2.2.2.1 | exact q.2.2.2.2.2.2.2.2.2.2.2.2.2.1 | exact q.2.2.2.2.2.2.2.2.2.2.2.2.2.2.1 | exact q.2.2.2.2.2.2.2.2.2.2.2.2.2.2.2.1 | exact q.2.2.2.2.2.2.2.2.2.2.2.2.2.2.2.2.1 | exact q.2.2.2.2.2.2.2.2.2.2.2.2.2.2.2.2.2.1) | (clear q; k_extra "neA"))
  k_with "call ref" => (k_here; k_dflt (refine' DoesG.use (c49 _ _ _ _ _ ?zqh1 ?zqh2 ?zqh3 ?zqh4) ?zqB ?zqF ?zqX ?zqN ?zqsub ?zqT ?zqhk ?zqt37 ?zqt30 ?zqoff ?zqpre ?zqdp ?zqun ?_; (case zqh1 => omega); (case zqh2 => omega); (case zqh3 => omega); (case zqh4 => omega); (case zqB => k_asm); (case zqF => k_asm); (case zqX => k_asm); (case zqN => k_asm); (case zqsub => exact subT0); (case zqpre => trivial); (case zqT => k_asm); (case zqhk => exact rfl); (case zqt37 => assumption); (case zqt30 => assumption); (case zqoff => assumption); (case zqdp => dsimp only [ktrTop]; omega); (case zqun => dsimp only [ktrTop]; omega); k_whole; intro r rest b37 b30 h' tk' F' N' gr t37' t30' off' hr; obtain ⟨x, y, z, t1, t2, hr, hm, e1, e2⟩ := hr; subst hr; replace N' := News.sub N' (sub_cons (.tail _ (.tail _ hm)) sub_self)))
  unfold DoesG
  intro w va vb ta tb h1 h2 h3 h4 p loose mean mg mb dp un gd cn cs a ccd cl outer A₀ base h₀ L m news a37 a30 s Q E B F X N T hk t37 t30 hoT _ hdp hun ret
  refine wpAny_call ?_
  k_dflt (refine' cell_in ?ci1 ?ci2 ?ci3 ?ci4 ?ci5 ?ciK ?ci6 ?ci7 ?ci8 ?ci9 ?ciB ?_ ?cc2 ?cc3 ?cc4 ?cc5; (case ciK => assumption); (case ci1 => k_asm); (case ci2 => k_asm); (case ci3 => k_asm); (case ci4 => k_asm); (case ci5 => k_asm); (case ci6 => k_is); (case ci7 => k_is); (case ci8 => ktr_room); (case ci9 => exact BindsTo.of_eq rfl); (case cc5 => decide); (case ciB => exact locs rfl); (case cc2 => exact rfl); (case cc3 => exact rfl); (case cc4 => exact rfl); k_whole; intro fr g' L' h' FG' F' N' B' X' T' Ee; (try dsimp only); (try k_lift B'); (try k_fold))
  refine opaq ?_
  intro Qe Ee hQe
  k_steps
  all_goals (try refine hQe _ _ ?_)
  k_steps
  · exfalso; omega
  · k_dflt (refine' ret _ _ _ _ _ _ ?F ?N ?gr ?t37 ?t30 ?off ⟨_, _, _, _, _, rfl, ?hm, ?q, ?r⟩)
    k_dflt (case F => k_asm)
    k_dflt (case N => exact News.sub (by k_asm) (sub_skip sub_self))
    k_dflt (case gr => assumption)
    k_dflt (case t37 => assumption)
    k_dflt (case t30 => assumption)
    k_dflt (case off => assumption)
    k_dflt (case hm => assumption)
    k_dflt (case q => assumption)
    k_dflt (case r => assumption)
theorem c56b : ∀ (w : World) (va vb : Int) (ta tb : Tok) (h1 : va < 0) (h2 : -(2 ^ 31) ≤ va) (h3 : 0 < vb) (h4 : vb < 2 ^ 28),
    DoesG w 56 [.int va ta, .int vb tb] 16 (fun _ => True) (TwoIn (va / vb) (va % vb)) := by
  k_with_none
  k_with "ne" => (first | (refine Nat.ne_of_lt ?_; k_extra "neL") | (refine Nat.ne_of_gt ?_; k_extra "neL") | with_reducible assumption | (refine Ne.symm ?_; with_reducible assumption) | k_extra "neA")
  k_with "neL" => (first | with_reducible assumption | with_reducible exact ltS0 _ | k_extra "neS" | ((fail_if_success with_reducible show _ < 37); (fail_if_success with_reducible show _ < 30); with_reducible refine ltS ?_; k_extra "neL"))
  k_with "neS" => (with_reducible rename (@LT.lt Nat _ _ _ ∧ _) => q; first | (refine ltRt q ?_; first | exact q.1 | exact q.2.1 | exact q.2.2.1 | exact q.2.2.2.1 | exact q.2.2.2.2.1 | exact q.2.2.2.2.2.1 | exact q.2.2.2.2.2.2.1 | exact q.2.2.2.2.2.2.2.1 | exact q.2.2.2.2.2.2.2.2.1 | exact q.2.2.2.2.2.2.2.2.2.1 | exact q.2.2.2.2.2.2.2.2.2.2.1 | exact q.2.2.2.2.2.2.2.2.2.2.2.1 | exact q.2.2.2.2.2.2.2.2.2.2.2.2.1 | exact q.2.2.2.2.2.2.2.2.2.2.2.2.2.1 | exact q.2.2.2.2.2.2.2.2.2.2.2.2.2.2.1 | exact q.2.2.2.2.2.2.2.2.2.2.2.2.2.2.2.1 | exact q.2.2.2.2.2.2.2.2.2.2.2.2.2.2.2.2.1 | exact q.2.2.2.2.2.2.2.2.2.2.2.2.2.2.2.2.2.1) | (clear q; k_extra "neS"))
  k_with "neA" => (with_reducible rename (@Ne _ _ _ ∧ _) => q; first | (refine neLt q ?_; first | exact q.1.symm | exact q.2.1.symm | exact q.2.2.1.symm | exact q.2.2.2.1.symm | exact q.2.2.2.2.1.symm | exact q.2.2.2.2.2.1.symm | exact q.2.2.2.2.2.2.1.symm | exact q.2.2.2.2.2.2.2.1.symm | exact q.2.2.2.2.2.2.2.2.1.symm | exact q.2.2.2.2.2.2.2.2.2.1.symm | exact q.2.2.2.2.2.2.2.2.2.2.1.symm | exact q.2.2.2.2.2.2.2.2.2.2.2.1.symm | exact q.2.2.2.2.2.2.2.2.2.2.2.2.1.symm | exact q.2.2.2.2.2.2.2.2.2.2.2.2.2.1.symm | exact q.2.2.2.2.2.2.2.2.2.2.2.2.2.2.1.symm | exact q.2.2.2.2.2.2.2.2.2.2.2.2.2.2.2.1.symm | exact q.2.2.2.2.2.2.2.2.2.2.2.2.2.2.2.2.1.symm | exact q.2.2.2.2.2.2.2.2.2.2.2.2.2.2.2.2.2.1.symm) | (refine neRt q ?_; first | exact q.1 | exact q.2.1 | exact q.2.2.1 | exact q.2.2.2.1 | exact q.2.2.2.2.1 | exact q.2.2.2.2.2.1 | exact q.2.2.2.2.2.2.1 | exact q.2.2.2.2.2.2.2.1 | exact q.2.2.2.2.2.2.2.2.1 | exact q.2.2.2.2.2.2.2.2.2.1 | exact q.2.2.2.2.2.2.2.2.2.2.1 | exact q.2.2.2.2.2.2.2.2.2.2.2.1 | exact q.2.2.2.2.2.2.2.2.2.2.2.2.1 | exact q.2.2.2.2.2.2.2.2.2.2.2.2.2.1 | exact q.2.2.2.2.2.2.2.2.2.2.2.2.2.2.1 | exact q.2.2.2.2.2.2.2.2.2.2.2.2.2.2.2.1 | exact q.2.2.2.2.2.2.2.2.2.2.2.2.2.2.2.2.1 | exact q.2.2.2.2.2.2.2.2.2.2.2.2.2.2.2.2.2.1) | (clear q; k_extra "neA"))
  k_with "call ref" => (k_here; k_dflt (refine' DoesG.use (c49 _ _ _ _ _ ?zqh1 ?zqh2 ?zqh3 ?zqh4) ?zqB ?zqF ?zqX ?zqN ?zqsub ?zqT ?zqhk ?zqt37 ?zqt30 ?zqoff ?zqpre ?zqdp ?zqun ?_; (case zqh1 => omega); (case zqh2 => omega); (case zqh3 => omega); (case zqh4 => omega); (case zqB => k_asm); (case zqF => k_asm); (case zqX => k_asm); (case zqN => k_asm); (case zqsub => exact subT0); (case zqpre => trivial); (case zqT => k_asm); (case zqhk => exact rfl); (case zqt37 => assumption); (case zqt30 => assumption); (case zqoff => assumption); (case zqdp => dsimp only [ktrTop]; omega); (case zqun => dsimp only [ktrTop]; omega); k_whole; intro r rest b37 b30 h' tk' F' N' gr t37' t30' off' hr; obtain ⟨x, y, z, t1, t2, hr, hm, e1, e2⟩ := hr; subst hr; replace N' := News.sub N' (sub_cons (.tail _ (.tail _ hm)) sub_self)))
  k_with "call ref" => (k_here; k_dflt (refine' DoesG.use (c56a _ _ _ _ _ ?zqh1 ?zqh2 ?zqh3 ?zqh4) ?zqB ?zqF ?zqX ?zqN ?zqsub ?zqT ?zqhk ?zqt37 ?zqt30 ?zqoff ?zqpre ?zqdp ?zqun ?_; (case zqh1 => simp only [Builtin.bitNot]; omega); (case zqh2 => simp only [Builtin.bitNot]; omega); (case zqh3 => omega); (case zqh4 => omega); (case zqB => k_asm); (case zqF => k_asm); (case zqX => k_asm); (case zqN => k_asm); (case zqsub => exact subT0); (case zqpre => trivial); (case zqT => k_asm); (case zqhk => exact rfl); (case zqt37 => assumption); (case zqt30 => assumption); (case zqoff => assumption); (case zqdp => dsimp only [ktrTop]; omega); (case zqun => dsimp only [ktrTop]; omega); k_whole; intro r rest b37 b30 h' tk' F' N' gr t37' t30' off' hr; obtain ⟨x, y, z, t1, t2, hr, hm, e1, e2⟩ := hr; subst hr; replace N' := News.sub N' (sub_cons (.tail _ (.tail _ hm)) sub_self)))
  unfold DoesG
  intro w va vb ta tb h1 h2 h3 h4 p loose mean mg mb dp un gd cn cs a ccd cl outer A₀ base h₀ L m news a37 a30 s Q E B F X N T hk t37 t30 hoT _ hdp hun ret
  refine wpAny_call ?_
  k_dflt (refine' cell_in ?ci1 ?ci2 ?ci3 ?ci4 ?ci5 ?ciK ?ci6 ?ci7 ?ci8 ?ci9 ?ciB ?_ ?cc2 ?cc3 ?cc4 ?cc5; (case ciK => assumption); (case ci1 => k_asm); (case ci2 => k_asm); (case ci3 => k_asm); (case ci4 => k_asm); (case ci5 => k_asm); (case ci6 => k_is); (case ci7 => k_is); (case ci8 => ktr_room); (case ci9 => exact BindsTo.of_eq rfl); (case cc5 => decide); (case ciB => exact locs rfl); (case cc2 => exact rfl); (case cc3 => exact rfl); (case cc4 => exact rfl); k_whole; intro fr g' L' h' FG' F' N' B' X' T' Ee; (try dsimp only); (try k_lift B'); (try k_fold))
  refine opaq ?_
  intro Qe Ee hQe
  k_steps
  all_goals (try refine hQe _ _ ?_)
  k_steps
  · exfalso; omega
  · k_dflt (refine' ret _ ((_, tupO [_, _]) :: _) _ _ _ _ ?F ?N ?gr ?t37 ?t30 ?off ⟨_, _, _, _, _, rfl, .head _, ?q, ?r⟩)
    k_dflt (case F => k_asm)
    k_dflt (case N => exact News.sub (by k_asm) subV)
    have g1 := ‹Grow news _›
    have al2 := (‹_ ∧ _ ∧ _ ∧ AllLt _ _›).2.2.2
    k_dflt (case gr => exact g1.cons (fun q hq => AllLt.all al2 q (g1.sub q hq)) (by first | k_extra "neL" | omega) (by first | k_extra "neL" | omega))
    k_dflt (case t37 => exact TabOk.cons (by assumption))
    k_dflt (case t30 => exact TabOk.cons (by assumption))
    k_dflt (case off => exact OffT.cons (by assumption) (by first | k_extra "neL" | omega) (by first | k_extra "neL" | omega))
    k_dflt (case q => exact Eq.trans (congrArg Builtin.bitNot (by assumption)) (not_div h3).1)
    k_dflt (case r => exact Eq.trans (congrArg (fun z => vb + Builtin.bitNot z) (by assumption)) (not_div h3).2)
theorem c56p (w : World) (va vb : Int) (ta tb : Tok) (h1 : -(2 ^ 31) ≤ va) (h2 : va < 2 ^ 31) (h3 : 0 < vb) (h4 : vb < 2 ^ 28) :
    DoesG w 56 [.int va ta, .int vb tb] 16 (fun _ => True) (TwoIn (va / vb) (va % vb)) := by
  by_cases h : 0 ≤ va
  · intro p loose mean mg mb dp un gd cn cs a ccd cl outer A₀ base h₀ L m news a37 a30 s Q E B F X N T hk t37 t30 hoT hP hdp hun ret
    exact c56a w va vb ta tb h h2 h3 h4 p loose mean mg mb dp un gd cn cs a ccd cl outer A₀ base h₀ L m news a37 a30 s Q E B F X N T hk t37 t30 hoT hP (by omega) (by omega) ret
  · exact c56b w va vb ta tb (by omega) h1 h3 h4
theorem c56n : ∀ (w : World) (va vb : Int) (ta tb : Tok) (h1 : -(2 ^ 31) < va) (h2 : va < 2 ^ 31) (h3 : vb < 0) (h4 : -(2 ^ 28) < vb),
    DoesG w 56 [.int va ta, .int vb tb] 18 (fun _ => True) (TwoIn (-va / -vb) (-(-va % -vb))) := by
  k_with_none
  k_with "ne" => (first | (refine Nat.ne_of_lt ?_; k_extra "neL") | (refine Nat.ne_of_gt ?_; k_extra "neL") | with_reducible assumption | (refine Ne.symm ?_; with_reducible assumption) | k_extra "neA")
  k_with "neL" => (first | with_reducible assumption | with_reducible exact ltS0 _ | k_extra "neS" | ((fail_if_success with_reducible show _ < 37); (fail_if_success with_reducible show _ < 30); with_reducible refine ltS ?_; k_extra "neL"))
  k_with "neS" => (with_reducible rename (@LT.lt Nat _ _ _ ∧ _) => q; first | (refine ltRt q ?_; first | exact q.1 | exact q.2.1 | exact q.2.2.1 | exact q.2.2.2.1 | exact q.2.2.2.2.1 | exact q.2.2.2.2.2.1 | exact q.2.2.2.2.2.2.1 | exact q.2.2.2.2.2.2.2.1 | exact q.2.2.2.2.2.2.2.2.1 | exact q.2.2.2.2.2.2.2.2.2.1 | exact q.2.2.2.2.2.2.2.2.2.2.1 | exact q.2.2.2.2.2.2.2.2.2.2.2.1 | exact q.2.2.2.2.2.2.2.2.2.2.2.2.1 | exact q.2.2.2.2.2.2.2.2.2.2.2.2.2.1 | exact q.2.2.2.2.2.2.2.2.2.2.2.2.2.2.1 | exact q.2.2.2.2.2.2.2.2.2.2.2.2.2.2.2.1 | exact q.2.2.2.2.2.2.2.2.2.2.2.2.2.2.2.2.1 | exact q.2.2.2.2.2.2.2.2.2.2.2.2.2.2.2.2.2.1) | (clear q; k_extra "neS"))
  k_with "neA" => (with_reducible rename (@Ne _ _ _ ∧ _) => q; first | (refine neLt q ?_; first | exact q.1.symm | exact q.2.1.symm | exact q.2.2.1.symm | exact q.2.2.2.1.symm | exact q.2.2.2.2.1.symm | exact q.2.2.2.2.2.1.symm | exact q.2.2.2.2.2.2.1.symm | exact q.2.2.2.2.2.2.2.1.symm | exact q.2.2.2.2.2.2.2.2.1.symm | exact q.2.2.2.2.2.2.2.2.2.1.symm | exact q.2.2.2.2.2.2.2.2.2.2.1.symm | exact q.2.2.2.2.2.2.2.2.2.2.2.1.symm | exact q.2.2.2.2.2.2.2.2.2.2.2.2.1.symm | exact q.2.2.2.2.2.2.2.2.2.2.2.2.2.1.symm | exact q.2.2.2.2.2.2.2.2.2.2.2.2.2.2.1.symm | exact q.2.2.2.2.2.2.2.2.2.2.2.2.2.2.2.1.symm | exact q.2.2.2.2.2.2.2.2.2.2.2.2.2.2.2.2.1.symm | exact q.2.2.2.2.2.2.2.2.2.2.2.2.2.2.2.2.2.1.symm) | (refine neRt q ?_; first | exact q.1 | exact q.2.1 | exact q.2.2.1 | exact q.2.2.2.1 | exact q.2.2.2.2.1 | exact q.2.2.2.2.2.1 | exact q.2.2.2.2.2.2.1 | exact q.2.2.2.2.2.2.2.1 | exact q.2.2.2.2.2.2.2.2.1 | exact q.2.2.2.2.2.2.2.2.2.1 | exact q.2.2.2.2.2.2.2.2.2.2.1 | exact q.2.2.2.2.2.2.2.2.2.2.2.1 | exact q.2.2.2.2.2.2.2.2.2.2.2.2.1 | exact q.2.2.2.2.2.2.2.2.2.2.2.2.2.1 | exact q.2.2.2.2.2.2.2.2.2.2.2.2.2.2.1 | exact q.2.2.2.2.2.2.2.2.2.2.2.2.2.2.2.1 | exact q.2.2.2.2.2.2.2.2.2.2.2.2.2.2.2.2.1 | exact q.2.2.2.2.2.2.2.2.2.2.2.2.2.2.2.2.2.1) | (clear q; k_extra "neA"))
  k_with "call ref" => (k_here; k_dflt (refine' DoesG.use (c49 _ _ _ _ _ ?zqh1 ?zqh2 ?zqh3 ?zqh4) ?zqB ?zqF ?zqX ?zqN ?zqsub ?zqT ?zqhk ?zqt37 ?zqt30 ?zqoff ?zqpre ?zqdp ?zqun ?_; (case zqh1 => omega); (case zqh2 => omega); (case zqh3 => omega); (case zqh4 => omega); (case zqB => k_asm); (case zqF => k_asm); (case zqX => k_asm); (case zqN => k_asm); (case zqsub => exact subT0); (case zqpre => trivial); (case zqT => k_asm); (case zqhk => exact rfl); (case zqt37 => assumption); (case zqt30 => assumption); (case zqoff => assumption); (case zqdp => dsimp only [ktrTop]; omega); (case zqun => dsimp only [ktrTop]; omega); k_whole; intro r rest b37 b30 h' tk' F' N' gr t37' t30' off' hr; obtain ⟨x, y, z, t1, t2, hr, hm, e1, e2⟩ := hr; subst hr; replace N' := News.sub N' (sub_cons (.tail _ (.tail _ hm)) sub_self)))
  k_with "call ref" => (k_here; k_dflt (refine' DoesG.use (c56a _ _ _ _ _ ?zqh1 ?zqh2 ?zqh3 ?zqh4) ?zqB ?zqF ?zqX ?zqN ?zqsub ?zqT ?zqhk ?zqt37 ?zqt30 ?zqoff ?zqpre ?zqdp ?zqun ?_; (case zqh1 => simp only [Builtin.bitNot]; omega); (case zqh2 => simp only [Builtin.bitNot]; omega); (case zqh3 => omega); (case zqh4 => omega); (case zqB => k_asm); (case zqF => k_asm); (case zqX => k_asm); (case zqN => k_asm); (case zqsub => exact subT0); (case zqpre => trivial); (case zqT => k_asm); (case zqhk => exact rfl); (case zqt37 => assumption); (case zqt30 => assumption); (case zqoff => assumption); (case zqdp => dsimp only [ktrTop]; omega); (case zqun => dsimp only [ktrTop]; omega); k_whole; intro r rest b37 b30 h' tk' F' N' gr t37' t30' off' hr; obtain ⟨x, y, z, t1, t2, hr, hm, e1, e2⟩ := hr; subst hr; replace N' := News.sub N' (sub_cons (.tail _ (.tail _ hm)) sub_self)))
  k_with "call ref" => (k_here; k_dflt (refine' DoesG.use (c56p _ _ _ _ _ ?zqh1 ?zqh2 ?zqh3 ?zqh4) ?zqB ?zqF ?zqX ?zqN ?zqsub ?zqT ?zqhk ?zqt37 ?zqt30 ?zqoff ?zqpre ?zqdp ?zqun ?_; (case zqh1 => omega); (case zqh2 => omega); (case zqh3 => omega); (case zqh4 => omega); (case zqB => k_asm); (case zqF => k_asm); (case zqX => k_asm); (case zqN => k_asm); (case zqsub => exact subT0); (case zqpre => trivial); (case zqT => k_asm); (case zqhk => exact rfl); (case zqt37 => assumption); (case zqt30 => assumption); (case zqoff => assumption); (case zqdp => dsimp only [ktrTop]; omega); (case zqun => dsimp only [ktrTop]; omega); k_whole; intro r rest b37 b30 h' tk' F' N' gr t37' t30' off' hr; obtain ⟨x, y, z, t1, t2, hr, hm, e1, e2⟩ := hr; subst hr; replace N' := News.sub N' (sub_cons (.tail _ (.tail _ hm)) sub_self)))
  unfold DoesG
  intro w va vb ta tb h1 h2 h3 h4 p loose mean mg mb dp un gd cn cs a ccd cl outer A₀ base h₀ L m news a37 a30 s Q E B F X N T hk t37 t30 hoT _ hdp hun ret
  refine wpAny_call ?_
  k_dflt (refine' cell_in ?ci1 ?ci2 ?ci3 ?ci4 ?ci5 ?ciK ?ci6 ?ci7 ?ci8 ?ci9 ?ciB ?_ ?cc2 ?cc3 ?cc4 ?cc5; (case ciK => assumption); (case ci1 => k_asm); (case ci2 => k_asm); (case ci3 => k_asm); (case ci4 => k_asm); (case ci5 => k_asm); (case ci6 => k_is); (case ci7 => k_is); (case ci8 => ktr_room); (case ci9 => exact BindsTo.of_eq rfl); (case cc5 => decide); (case ciB => exact locs rfl); (case cc2 => exact rfl); (case cc3 => exact rfl); (case cc4 => exact rfl); k_whole; intro fr g' L' h' FG' F' N' B' X' T' Ee; (try dsimp only); (try k_lift B'); (try k_fold))
  refine opaq ?_
  intro Qe Ee hQe
  k_steps
  all_goals (try refine hQe _ _ ?_)
  k_steps
  · exfalso; omega
  · k_dflt (refine' ret _ ((_, tupO [_, _]) :: _) _ _ _ _ ?F ?N ?gr ?t37 ?t30 ?off ⟨_, _, _, _, _, rfl, .head _, ?q, ?r⟩)
    k_dflt (case F => k_asm)
    k_dflt (case N => exact News.sub (by k_asm) subV)
    have g1 := ‹Grow news _›
    have al2 := (‹_ ∧ _ ∧ _ ∧ AllLt _ _›).2.2.2
    k_dflt (case gr => exact g1.cons (fun q hq => AllLt.all al2 q (g1.sub q hq)) (by first | k_extra "neL" | omega) (by first | k_extra "neL" | omega))
    k_dflt (case t37 => exact TabOk.cons (by assumption))
    k_dflt (case t30 => exact TabOk.cons (by assumption))
    k_dflt (case off => exact OffT.cons (by assumption) (by first | k_extra "neL" | omega) (by first | k_extra "neL" | omega))
    k_dflt (case q => assumption)
    k_dflt (case r => exact congrArg (fun z => -z) (by assumption))
set_option maxHeartbeats 1000000
section
variable {prog : Program} {w : World} {A : Around} {E : Value → Shared → Prop} {s : Shared} {env : Env} {h₀ : Heap} {L : Addr} {m : Str → Option Value}
/-- the source of a block over a tuple -/
noncomputable def SrcTup (prog : Program) (w : World) (A : Around) (h₀ : Heap) (L : Addr) (m : Str → Option Value) (env : Env) (elt : Expr) (x : Str) (scope : Scope) (cl : List (Str × Addr)) (Q : Value → Shared → Prop) (xv : Value) (s₁ : Shared) : Prop :=
  ∃ ax its k news, xv = .ref ax ∧ A.handled = none ∧ Fr h₀ L s₁.heap m ∧ News h₀ L s₁.heap news ∧ (ax, ({ cls := .type "tuple", data := .seq its k } : Obj)) ∈ news ∧ its.size ≤ sizeLine ∧
    ∀ s₂ : Shared, (∃ h, s₂ = { s₁ with heap := h }) → LCg.CompRest prog w A h₀ L m env elt x scope cl s₂ (fun nw => (ax, ({ cls := .type "tuple", data := .seq its k } : Obj)) ∈ nw) (fun i v => its[i]? = some v) (LCg.FinE h₀ L m s₂ Q) its.size 0 [] news
theorem SrcTup.mk {elt : Expr} {x : Str} {scope : Scope} {cl : List (Str × Addr)} {Q : Value → Shared → Prop} {ax : Addr} {its : Array Value} {k : Nat} {news : Led} {s₁ : Shared} (hh : A.handled = none) (F : Fr h₀ L s₁.heap m) (N : News h₀ L s₁.heap news)
    (hm : (ax, ({ cls := .type "tuple", data := .seq its k } : Obj)) ∈ news) (hsz : its.size ≤ sizeLine)
    (h : ∀ g, LCg.CompRest prog w A h₀ L m env elt x scope cl { s₁ with heap := g } (fun nw => (ax, ({ cls := .type "tuple", data := .seq its k } : Obj)) ∈ nw) (fun i v => its[i]? = some v) (LCg.FinE h₀ L m { s₁ with heap := g } Q) its.size 0 [] news) :
    SrcTup prog w A h₀ L m env elt x scope cl Q (.ref ax) s₁ := ⟨ax, its, k, news, rfl, hh, F, N, hm, hsz, fun _ ⟨g, e⟩ => e ▸ h g⟩
theorem ListComp_tup {elt iter : Expr} {x : Str} {px : Pos} {scope : Scope} {cl : List (Str × Addr)} {pos : Pos} {Q : Value → Shared → Prop} (_F₀ : Fr h₀ L s.heap m)
    (hclos : closureFor scope env = pure cl) (hcell : ∀ y ∈ scope.names, y.2 ≠ .cell) (hkind : scope.kind = .function)
    (hnames : ∀ y ∈ scope.names, y.2 = .local → scope.names.lookup y.1 = some .local) (hx : scope.names.lookup x = some .local)
    (h : wpAny (model prog w) A (eval iter env) (SrcTup prog w A h₀ L m env elt x scope cl Q) E s)
    (hs : ∀ x, foldedSetIterable iter env x = pure x := by intro _; rfl) :
    wpAny (model prog w) A (eval (.ListComp elt [⟨.Name x px, iter, [], 0⟩] scope pos) env) Q E s := by
  rw [eval_ListComp]
  refine wpAny_comprehension_free (use := none) rfl hs hclos hkind hnames (wpAny_mono h (fun xv s₁ h₁ => ?_) fun _ _ e => e)
  obtain ⟨ax, its, k, news, rfl, hh, F, N, S, hsz, R⟩ := h₁
  have hl : s₁.heap.IsTuple ax its := ⟨_, (N _ S).1, rfl, k, rfl⟩
  have hlt : ax < s₁.heap.objs.size := Heap.lt_size (N _ S).1
  refine wpAny_pyIter_tuple hl ?_
  have up : ∀ b o, s₁.heap.get? b = some o → (s₁.heap.push { cls := .type "tuple_iterator", data := .fields #[.ref ax, .int 0 0] }).get? b = some o := fun b o e => Heap.get?_push_of_some _ e
  refine LCg.block_U (Walks.tuple hh s₁.heap.objs.size ax (Nat.ne_of_lt hlt) its) hsz (fun i h st => by obtain ⟨o, e, _⟩ := st.1; exact ⟨o, e⟩) (fun i h h' o nw st e e' _ N' hS => ⟨by obtain ⟨o', q, r⟩ := st.1; rw [e] at q; cases q; exact ⟨o, e', r⟩, ⟨_, (N' _ hS).1, rfl, k, rfl⟩⟩) hcell hkind hx ⟨⟨_, Heap.get?_push_size _ rfl, rfl, rfl⟩, hl.push _⟩ (fun b hb => ?_)
    (F.keeps up) (N.grown up) (Nat.ne_of_lt F.ns.lt) (Heap.get?_none_of_le (Nat.le_trans F.above (Nat.le_of_lt F.ns.lt))) (fun p hp => Nat.ne_of_lt (Heap.lt_size (N p hp).1)) S (R _ ⟨_, rfl⟩) ?_
  · show b < (s₁.heap.push _).objs.size
    rw [Heap.size_push]
    rcases List.mem_cons.mp hb with rfl | hb
    · exact Nat.lt_succ_self _
    · rw [List.mem_singleton.mp hb]; exact Nat.lt_succ_of_lt hlt
  · intro D C h tk m' ys news' F' N' o1 hn hC₀ hD₀ hCL hDL hCD offC fin
    refine ⟨m', hn, fun h'' hs'' => fin D h'' tk (F'.change hs'' hCL hC₀) (fun p hp => ?_) o1⟩
    refine ⟨hs''.extBut _ _ ?_ (N' p hp).1, (N' p hp).2⟩
    rcases List.mem_cons.mp hp with rfl | hp
    · exact Ne.symm hCD
    · exact offC p hp
end
set_option maxHeartbeats 4000000
theorem c61t : ∀ (w : World) (va vb : Int) (ta tb : Tok) (h1 : -(2 ^ 31) < va) (h2 : va < 2 ^ 31) (h3 : 0 < vb) (h4 : vb < 2 ^ 28),
    DoesG w 61 [.int va ta, .int vb tb, .bool true] 20 (fun _ => True) (TwoIn (va / vb) (va % vb)) := by
  k_with_none
  k_with "ne" => (first | (refine Nat.ne_of_lt ?_; k_extra "neL") | (refine Nat.ne_of_gt ?_; k_extra "neL") | with_reducible assumption | (refine Ne.symm ?_; with_reducible assumption) | k_extra "neA")
  k_with "neL" => (first | with_reducible assumption | with_reducible exact ltS0 _ | k_extra "neS" | ((fail_if_success with_reducible show _ < 37); (fail_if_success with_reducible show _ < 30); with_reducible refine ltS ?_; k_extra "neL"))
  k_with "neS" => (with_reducible rename (@LT.lt Nat _ _ _ ∧ _) => q; first | (refine ltRt q ?_; first | exact q.1 | exact q.2.1 | exact q.2.2.1 | exact q.2.2.2.1 | exact q.2.2.2.2.1 | exact q.2.2.2.2.2.1 | exact q.2.2.2.2.2.2.1 | exact q.2.2.2.2.2.2.2.1 | exact q.2.2.2.2.2.2.2.2.1 | exact q.2.2.2.2.2.2.2.2.2.1 | exact q.2.2.2.2.2.2.2.2.2.2.1 | exact q.2.2.2.2.2.2.2.2.2.2.2.1 | exact q.2.2.2.2.2.2.2.2.2.2.2.2.1 | exact q.2.2.2.2.2.2.2.2.2.2.2.2.2.1 | exact q.2.2.2.2.2.2.2.2.2.2.2.2.2.2.1 | exact q.2.2.2.2.2.2.2.2.2.2.2.2.2.2.2.1 | exact q.2.2.2.2.2.2.2.2.2.2.2.2.2.2.2.2.1 | exact q.2.2.2.2.2.2.2.2.2.2.2.2.2.2.2.2.2.1) | (clear q; k_extra "neS"))
  k_with "neA" => (with_reducible rename (@Ne _ _ _ ∧ _) => q; first | (refine neLt q ?_; first | exact q.1.symm | exact q.2.1.symm | exact q.2.2.1.symm | exact q.2.2.2.1.symm | exact q.2.2.2.2.1.symm | exact q.2.2.2.2.2.1.symm | exact q.2.2.2.2.2.2.1.symm | exact q.2.2.2.2.2.2.2.1.symm | exact q.2.2.2.2.2.2.2.2.1.symm | exact q.2.2.2.2.2.2.2.2.2.1.symm | exact q.2.2.2.2.2.2.2.2.2.2.1.symm | exact q.2.2.2.2.2.2.2.2.2.2.2.1.symm | exact q.2.2.2.2.2.2.2.2.2.2.2.2.1.symm | exact q.2.2.2.2.2.2.2.2.2.2.2.2.2.1.symm | exact q.2.2.2.2.2.2.2.2.2.2.2.2.2.2.1.symm | exact q.2.2.2.2.2.2.2.2.2.2.2.2.2.2.2.1.symm | exact q.2.2.2.2.2.2.2.2.2.2.2.2.2.2.2.2.1.symm | exact q.2.2.2.2.2.2.2.2.2.2.2.2.2.2.2.2.2.1.symm) | (refine neRt q ?_; first | exact q.1 | exact q.2.1 | exact q.2.2.1 | exact q.2.2.2.1 | exact q.2.2.2.2.1 | exact q.2.2.2.2.2.1 | exact q.2.2.2.2.2.2.1 | exact q.2.2.2.2.2.2.2.1 | exact q.2.2.2.2.2.2.2.2.1 | exact q.2.2.2.2.2.2.2.2.2.1 | exact q.2.2.2.2.2.2.2.2.2.2.1 | exact q.2.2.2.2.2.2.2.2.2.2.2.1 | exact q.2.2.2.2.2.2.2.2.2.2.2.2.1 | exact q.2.2.2.2.2.2.2.2.2.2.2.2.2.1 | exact q.2.2.2.2.2.2.2.2.2.2.2.2.2.2.1 | exact q.2.2.2.2.2.2.2.2.2.2.2.2.2.2.2.1 | exact q.2.2.2.2.2.2.2.2.2.2.2.2.2.2.2.2.1 | exact q.2.2.2.2.2.2.2.2.2.2.2.2.2.2.2.2.2.1) | (clear q; k_extra "neA"))
  k_with "call ref" => (k_here; k_dflt (refine' DoesG.use (c56p _ _ _ _ _ ?zqh1 ?zqh2 ?zqh3 ?zqh4) ?zqB ?zqF ?zqX ?zqN ?zqsub ?zqT ?zqhk ?zqt37 ?zqt30 ?zqoff ?zqpre ?zqdp ?zqun ?_; (case zqh1 => omega); (case zqh2 => omega); (case zqh3 => omega); (case zqh4 => omega); (case zqB => k_asm); (case zqF => k_asm); (case zqX => k_asm); (case zqN => k_asm); (case zqsub => exact subT0); (case zqpre => trivial); (case zqT => k_asm); (case zqhk => exact rfl); (case zqt37 => assumption); (case zqt30 => assumption); (case zqoff => assumption); (case zqdp => dsimp only [ktrTop]; omega); (case zqun => dsimp only [ktrTop]; omega); k_whole; intro r rest b37 b30 h' tk' F' N' gr t37' t30' off' hr; obtain ⟨x, y, z, t1, t2, hr, hm, e1, e2⟩ := hr; subst hr; replace N' := News.sub N' (sub_cons (.tail _ (.tail _ hm)) sub_self)))
  k_with "eval ListComp" => (k_here; lcg_calm; k_dflt (refine ListComp_tup (by k_asm) (by rfl) (by decide) (by rfl) (by decide) (by rfl) ?_))
  k_with "SrcTup" => (k_dflt (refine SrcTup.mk (by rfl) (by k_asm) (by k_asm) (by k_mem) (by exact Nat.le_of_ble_eq_true rfl) ?_; intro g'))
  k_with "CompRest" => (k_dflt (first | (refine LCg.CompRest.succ ?_; intro v' I' oI' C' oC' D' m' h' tk' E' hv' hC' hx' F' N' off' ne'; lcg_open hv') | refine LCg.CompRest.zero ?_))
  k_with "CompEnd" => (k_dflt (refine LCg.CompEnd.intro (by k_asm) (by k_asm) _ sub_self (by assumption) (by k_mem) ?_))
  k_with "subs" => (first | exact sub_nil | exact sub_self | (refine sub_cons (by k_mem) ?_; k_extra "subs") | (refine sub_skip ?_; k_extra "subs"))
  unfold DoesG
  intro w va vb ta tb h1 h2 h3 h4 p loose mean mg mb dp un gd cn cs a ccd cl outer A₀ base h₀ L m news a37 a30 s Q E B F X N T hk t37 t30 hoT _ hdp hun ret
  refine wpAny_call ?_
  k_dflt (refine' cell_in ?ci1 ?ci2 ?ci3 ?ci4 ?ci5 ?ciK ?ci6 ?ci7 ?ci8 ?ci9 ?ciB ?_ ?cc2 ?cc3 ?cc4 ?cc5; (case ciK => assumption); (case ci1 => k_asm); (case ci2 => k_asm); (case ci3 => k_asm); (case ci4 => k_asm); (case ci5 => k_asm); (case ci6 => k_is); (case ci7 => k_is); (case ci8 => ktr_room); (case ci9 => exact BindsTo.of_eq rfl); (case cc5 => decide); (case ciB => exact locs rfl); (case cc2 => exact rfl); (case cc3 => exact rfl); (case cc4 => exact rfl); k_whole; intro fr g' L' h' FG' F' N' B' X' T' Ee; (try dsimp only); (try k_lift B'); (try k_fold))
  refine opaq ?_
  intro Qe Ee hQe
  k_steps
  all_goals (try refine hQe _ _ ?_)
  k_steps
  have g1 := ‹Grow news _›
  have al2 := (‹_ ∧ _ ∧ _ ∧ _ ∧ _ ∧ AllLt _ _›).2.2.2.2.2
  k_dflt (refine' ret _ ((_, tupO [_, _]) :: _) _ _ _ _ ?F ?N ?gr ?t37 ?t30 ?off ⟨_, _, _, _, _, rfl, .head _, ?q, ?r⟩)
  k_dflt (case F => k_asm)
  k_dflt (case gr => exact g1.cons (fun q hq => AllLt.all al2 q (g1.sub q hq)) (by first | k_extra "neL" | omega) (by first | k_extra "neL" | omega))
  k_dflt (case N => exact News.sub (by k_asm) (by k_extra "subs"))
  k_dflt (case t37 => exact TabOk.cons (by assumption))
  k_dflt (case t30 => exact TabOk.cons (by assumption))
  k_dflt (case off => exact OffT.cons (by assumption) (by first | k_extra "neL" | omega) (by first | k_extra "neL" | omega))
  k_dflt (case q => assumption)
  k_dflt (case r => assumption)
theorem c61f : ∀ (w : World) (va vb : Int) (ta tb : Tok) (h1 : -(2 ^ 31) < va) (h2 : va < 2 ^ 31) (h3 : 0 < vb) (h4 : vb < 2 ^ 28),
    DoesG w 61 [.int va ta, .int vb tb, .bool false] 20 (fun _ => True) (TwoIn (-(-va / vb)) (-(-va % vb))) := by
  k_with_none
  k_with "ne" => (first | (refine Nat.ne_of_lt ?_; k_extra "neL") | (refine Nat.ne_of_gt ?_; k_extra "neL") | with_reducible assumption | (refine Ne.symm ?_; with_reducible assumption) | k_extra "neA")
  k_with "neL" => (first | with_reducible assumption | with_reducible exact ltS0 _ | k_extra "neS" | ((fail_if_success with_reducible show _ < 37); (fail_if_success with_reducible show _ < 30); with_reducible refine ltS ?_; k_extra "neL"))
  k_with "neS" => (with_reducible rename (@LT.lt Nat _ _ _ ∧ _) => q; first | (refine ltRt q ?_; first | exact q.1 | exact q.2.1 | exact q.2.2.1 | exact q.2.2.2.1 | exact q.2.2.2.2.1 | exact q.2.2.2.2.2.1 | exact q.2.2.2.2.2.2.1 | exact q.2.2.2.2.2.2.2.1 | exact q.2.2.2.2.2.2.2.2.1 | exact q.2.2.2.2.2.2.2.2.2.1 | exact q.2.2.2.2.2.2.2.2.2.2.1 | exact q.2.2.2.2.2.2.2.2.2.2.2.1 | exact q.2.2.2.2.2.2.2.2.2.2.2.2.1 | exact q.2.2.2.2.2.2.2.2.2.2.2.2.2.1 | exact q.2.2.2.2.2.2.2.2.2.2.2.2.2.2.1 | exact q.2.2.2.2.2.2.2.2.2.2.2.2.2.2.2.1 | exact q.2.2.2.2.2.2.2.2.2.2.2.2.2.2.2.2.1 | exact q.2.2.2.2.2.2.2.2.2.2.2.2.2.2.2.2.2.1) | (clear q; k_extra "neS"))
  k_with "neA" => (with_reducible rename (@Ne _ _ _ ∧ _) => q; first | (refine neLt q ?_; first | exact q.1.symm | exact q.2.1.symm | exact q.2.2.1.symm | exact q.2.2.2.1.symm | exact q.2.2.2.2.1.symm | exact q.2.2.2.2.2.1.symm | exact q.2.2.2.2.2.2.1.symm | exact q.2.2.2.2.2.2.2.1.symm | exact q.2.2.2.2.2.2.2.2.1.symm | exact q.2.2.2.2.2.2.2.2.2.1.symm | exact q.2.2.2.2.2.2.2.2.2.2.1.symm | exact q.2.2.2.2.2.2.2.2.2.2.2.1.symm | exact q.2.2.2.2.2.2.2.2.2.2.2.2.1.symm | exact q.2.2.2.2.2.2.2.2.2.2.2.2.2.1.symm | exact q.2.2.2.2.2.2.2.2.2.2.2.2.2.2.1.symm | exact q.2.2.2.2.2.2.2.2.2.2.2.2.2.2.2.1.symm | exact q.2.2.2.2.2.2.2.2.2.2.2.2.2.2.2.2.1.symm | exact q.2.2.2.2.2.2.2.2.2.2.2.2.2.2.2.2.2.1.symm) | (refine neRt q ?_; first | exact q.1 | exact q.2.1 | exact q.2.2.1 | exact q.2.2.2.1 | exact q.2.2.2.2.1 | exact q.2.2.2.2.2.1 | exact q.2.2.2.2.2.2.1 | exact q.2.2.2.2.2.2.2.1 | exact q.2.2.2.2.2.2.2.2.1 | exact q.2.2.2.2.2.2.2.2.2.1 | exact q.2.2.2.2.2.2.2.2.2.2.1 | exact q.2.2.2.2.2.2.2.2.2.2.2.1 | exact q.2.2.2.2.2.2.2.2.2.2.2.2.1 | exact q.2.2.2.2.2.2.2.2.2.2.2.2.2.1 | exact q.2.2.2.2.2.2.2.2.2.2.2.2.2.2.1 | exact q.2.2.2.2.2.2.2.2.2.2.2.2.2.2.2.1 | exact q.2.2.2.2.2.2.2.2.2.2.2.2.2.2.2.2.1 | exact q.2.2.2.2.2.2.2.2.2.2.2.2.2.2.2.2.2.1) | (clear q; k_extra "neA"))
  k_with "call ref" => (k_here; k_dflt (refine' DoesG.use (c56p _ _ _ _ _ ?zqh1 ?zqh2 ?zqh3 ?zqh4) ?zqB ?zqF ?zqX ?zqN ?zqsub ?zqT ?zqhk ?zqt37 ?zqt30 ?zqoff ?zqpre ?zqdp ?zqun ?_; (case zqh1 => omega); (case zqh2 => omega); (case zqh3 => omega); (case zqh4 => omega); (case zqB => k_asm); (case zqF => k_asm); (case zqX => k_asm); (case zqN => k_asm); (case zqsub => exact subT0); (case zqpre => trivial); (case zqT => k_asm); (case zqhk => exact rfl); (case zqt37 => assumption); (case zqt30 => assumption); (case zqoff => assumption); (case zqdp => dsimp only [ktrTop]; omega); (case zqun => dsimp only [ktrTop]; omega); k_whole; intro r rest b37 b30 h' tk' F' N' gr t37' t30' off' hr; obtain ⟨x, y, z, t1, t2, hr, hm, e1, e2⟩ := hr; subst hr; replace N' := News.sub N' (sub_cons (.tail _ (.tail _ hm)) sub_self)))
  k_with "eval ListComp" => (k_here; lcg_calm; k_dflt (refine ListComp_tup (by k_asm) (by rfl) (by decide) (by rfl) (by decide) (by rfl) ?_))
  k_with "SrcTup" => (k_dflt (refine SrcTup.mk (by rfl) (by k_asm) (by k_asm) (by k_mem) (by exact Nat.le_of_ble_eq_true rfl) ?_; intro g'))
  k_with "CompRest" => (k_dflt (first | (refine LCg.CompRest.succ ?_; intro v' I' oI' C' oC' D' m' h' tk' E' hv' hC' hx' F' N' off' ne'; lcg_open hv') | refine LCg.CompRest.zero ?_))
  k_with "CompEnd" => (k_dflt (refine LCg.CompEnd.intro (by k_asm) (by k_asm) _ sub_self (by assumption) (by k_mem) ?_))
  k_with "subs" => (first | exact sub_nil | exact sub_self | (refine sub_cons (by k_mem) ?_; k_extra "subs") | (refine sub_skip ?_; k_extra "subs"))
  k_with "call ref" => (k_here; k_dflt (refine' DoesG.use (c56n _ _ _ _ _ ?zqh1 ?zqh2 ?zqh3 ?zqh4) ?zqB ?zqF ?zqX ?zqN ?zqsub ?zqT ?zqhk ?zqt37 ?zqt30 ?zqoff ?zqpre ?zqdp ?zqun ?_; (case zqh1 => omega); (case zqh2 => omega); (case zqh3 => omega); (case zqh4 => omega); (case zqB => k_asm); (case zqF => k_asm); (case zqX => k_asm); (case zqN => k_asm); (case zqsub => exact subT0); (case zqpre => trivial); (case zqT => k_asm); (case zqhk => exact rfl); (case zqt37 => assumption); (case zqt30 => assumption); (case zqoff => assumption); (case zqdp => dsimp only [ktrTop]; omega); (case zqun => dsimp only [ktrTop]; omega); k_whole; intro r rest b37 b30 h' tk' F' N' gr t37' t30' off' hr; obtain ⟨x, y, z, t1, t2, hr, hm, e1, e2⟩ := hr; subst hr; replace N' := News.sub N' (sub_cons (.tail _ (.tail _ hm)) sub_self)))
  unfold DoesG
  intro w va vb ta tb h1 h2 h3 h4 p loose mean mg mb dp un gd cn cs a ccd cl outer A₀ base h₀ L m news a37 a30 s Q E B F X N T hk t37 t30 hoT _ hdp hun ret
  refine wpAny_call ?_
  k_dflt (refine' cell_in ?ci1 ?ci2 ?ci3 ?ci4 ?ci5 ?ciK ?ci6 ?ci7 ?ci8 ?ci9 ?ciB ?_ ?cc2 ?cc3 ?cc4 ?cc5; (case ciK => assumption); (case ci1 => k_asm); (case ci2 => k_asm); (case ci3 => k_asm); (case ci4 => k_asm); (case ci5 => k_asm); (case ci6 => k_is); (case ci7 => k_is); (case ci8 => ktr_room); (case ci9 => exact BindsTo.of_eq rfl); (case cc5 => decide); (case ciB => exact locs rfl); (case cc2 => exact rfl); (case cc3 => exact rfl); (case cc4 => exact rfl); k_whole; intro fr g' L' h' FG' F' N' B' X' T' Ee; (try dsimp only); (try k_lift B'); (try k_fold))
  refine opaq ?_
  intro Qe Ee hQe
  k_steps
  all_goals (try refine hQe _ _ ?_)
  k_steps
  have g1 := ‹Grow news _›
  have al2 := (‹_ ∧ _ ∧ _ ∧ _ ∧ _ ∧ AllLt _ _›).2.2.2.2.2
  k_dflt (refine' ret _ ((_, tupO [_, _]) :: _) _ _ _ _ ?F ?N ?gr ?t37 ?t30 ?off ⟨_, _, _, _, _, rfl, .head _, ?q, ?r⟩)
  k_dflt (case F => k_asm)
  k_dflt (case gr => exact g1.cons (fun q hq => AllLt.all al2 q (g1.sub q hq)) (by first | k_extra "neL" | omega) (by first | k_extra "neL" | omega))
  k_dflt (case N => exact News.sub (by k_asm) (by k_extra "subs"))
  k_dflt (case t37 => exact TabOk.cons (by assumption))
  k_dflt (case t30 => exact TabOk.cons (by assumption))
  k_dflt (case off => exact OffT.cons (by assumption) (by first | k_extra "neL" | omega) (by first | k_extra "neL" | omega))
  k_dflt (case q => exact congrArg (fun z => -z) (Eq.trans (by assumption) (by rw [Int.neg_neg])))
  k_dflt (case r => exact Eq.trans (by assumption) (by rw [Int.neg_neg]))
set_option maxHeartbeats 1000000
structure Row where
  gain : Int
  q : Int
  r : Int
noncomputable def ovQ (U L : Int) : Int := U / L
noncomputable def ovR (U L : Int) : Int := U % L
noncomputable def unQ (U L : Int) : Int := -(-U / L)
noncomputable def unR (U L : Int) : Int := -(-U % L)
/-- which of the two divisions a turn takes -/
noncomputable def pick (way draw : Int) (i : Nat) (U L : Int) : Bool := (decide (way = 1) && decide (-(unR U L) < ovR U L)) || (decide (way = 2) && decide (draw / 2 ^ i % 2 = 1))
noncomputable def gainOf (b : Bool) (U L : Int) : Int := if b = false then 0 else if -(unR U L) < ovR U L then 1 else if -(unR U L) > ovR U L then -1 else 0
noncomputable def rowOf (way draw : Int) (i : Nat) (U L : Int) : Row :=
  if pick way draw i U L = true then ⟨gainOf true U L, unQ U L, unR U L⟩ else ⟨0, ovQ U L, ovR U L⟩
structure Run where
  rs : List Row
  U : Int
  L : Int
noncomputable def turnOf (way draw : Int) (i : Nat) (s : Run) : Run :=
  if s.L = 0 then s else ⟨s.rs ++ [rowOf way draw i s.U s.L], s.L, ((rowOf way draw i s.U s.L).r.natAbs : Int)⟩
noncomputable def runTo (way draw : Int) (s : Run) : Nat → Run
  | 0 => s
  | i + 1 => turnOf way draw i (runTo way draw s i)
/-- a row of the run, as it lies in the ledger -/
inductive RowsAre (nw : Led) : List Value → List Row → Prop
  | nil : RowsAre nw [] []
  | cons {x : Addr} {r : Row} {t1 t2 t3 : Tok} {vs : List Value} {rs : List Row} : (x, tupO [.bool true, .int r.gain t1, .int r.q t2, .int r.r t3]) ∈ nw → RowsAre nw vs rs → RowsAre nw (.ref x :: vs) (r :: rs)
theorem RowsAre.mono {nw nw' : Led} {vs : List Value} {rs : List Row} (h : RowsAre nw vs rs) (s : ∀ p ∈ nw, p ∈ nw') : RowsAre nw' vs rs := by
  induction h with
  | nil => exact .nil
  | cons m _ ih => exact .cons (s _ m) ih
theorem RowsAre.length {nw : Led} {vs : List Value} {rs : List Row} (h : RowsAre nw vs rs) : vs.length = rs.length := by
  induction h with
  | nil => rfl
  | cons m _ ih => simp [ih]
theorem RowsAre.snoc {nw : Led} {vs : List Value} {rs : List Row} (h : RowsAre nw vs rs) {x : Addr} {r : Row} {t1 t2 t3 : Tok} (m : (x, tupO [.bool true, .int r.gain t1, .int r.q t2, .int r.r t3]) ∈ nw) : RowsAre nw (vs ++ [.ref x]) (rs ++ [r]) := by
  induction h with
  | nil => exact .cons m .nil
  | cons m' _ ih => exact .cons m' ih
/-- the two divisions by L -/
theorem parted_facts {U L y1 z1 y2 z2 : Int} (hL : 0 < L) (e1 : y1 = U / L) (e2 : z1 = U % L) (e3 : y2 = -(-U / L)) (e4 : z2 = -(-U % L)) : z1 - z2 = L * (y2 - y1) ∧ 0 ≤ z1 ∧ z1 < L ∧ z2 ≤ 0 ∧ -L < z2 := by
  have h1 := Int.mul_ediv_add_emod U L
  have h2 := Int.mul_ediv_add_emod (-U) L
  have a1 := Int.emod_nonneg U (Int.ne_of_gt hL)
  have a2 := Int.emod_lt_of_pos U hL
  have b1 := Int.emod_nonneg (-U) (Int.ne_of_gt hL)
  have b2 := Int.emod_lt_of_pos (-U) hL
  rw [← e1, ← e2] at h1
  have e3' : -U / L = -y2 := by omega
  rw [e3'] at h2
  rw [Int.mul_neg] at h2
  rw [Int.mul_sub]
  refine ⟨?_, ?_, ?_, ?_, ?_⟩ <;> omega
theorem OffT.sub {l l' : Led} (h : OffT l) (s : ∀ q ∈ l', q ∈ l) : OffT l' := ⟨fun p hp => h.a p (s p hp), fun p hp => h.b p (s p hp)⟩
theorem OffT.ne {x : Addr} {o : Obj} {l : Led} (h : OffT l) (a : @Ne Nat x 37) (b : @Ne Nat x 30) : OffT ((x, o) :: l) := ⟨fun p hp => by
  rcases List.mem_cons.mp hp with e | hp
  · rw [e]; exact a
  · exact h.a p hp, fun p hp => by
  rcases List.mem_cons.mp hp with e | hp
  · rw [e]; exact b
  · exact h.b p hp⟩
structure J75D (news : Led) (R0 : Run) (way draw : Int) (tw td : Tok) (i : Nat) (m : Str → Option Value) (nw : Led) (rs : List Row) (U L : Int) (R : Addr) (vs : List Value) (ep : Nat) (a37 a30 : Array Value) (rest : Led) (tu tl : Tok) : Prop where
  c1 : runTo way draw R0 i = ⟨rs, U, L⟩
  c2 : m (Str.ofString "rows") = some (.ref R)
  c3 : m (Str.ofString "upper") = some (.int U tu)
  c4 : m (Str.ofString "lower") = some (.int L tl)
  c5 : m (Str.ofString "way") = some (.int way tw)
  c6 : m (Str.ofString "draw") = some (.int draw td)
  c7 : nw = (R, listOf vs.toArray ep) :: (37, tabObj a37) :: (30, tabObj a30) :: rest
  c8 : RowsAre rest vs rs
  c9 : TabOk q37 47 4 a37 rest
  c10 : TabOk q30 32 4 a30 rest
  c11 : OffT rest
  c12 : Grow news rest
  c13 : vs.length ≤ i
  c14 : (∀ q ∈ news, q.1 < R)
  c15 : (@LT.lt Nat _ 37 R ∧ @LT.lt Nat _ 30 R)
  c16 : -(2 ^ 31) < U
  c17 : U < 2 ^ 31
  c18 : 0 ≤ L
  c19 : L < 2 ^ 28
noncomputable def J75 (news : Led) (R0 : Run) (way draw : Int) (tw td : Tok) (i : Nat) (m : Str → Option Value) (nw : Led) : Prop :=
  ∃ (rs : List Row) (U L : Int) (R : Addr) (vs : List Value) (ep : Nat) (a37 a30 : Array Value) (rest : Led) (tu tl : Tok), J75D news R0 way draw tw td i m nw rs U L R vs ep a37 a30 rest tu tl
/-- a mark: the cut is still to be made -/
inductive Once {α : Type} (b : α) : Prop
  | mk
theorem cutB {prog : Program} {w : World} {A : Around} {E : Value → Shared → Prop} {s : Shared} {t : Sem Value} {b : Bool} {Q : Value → Shared → Prop} (_hb : Once b) (h : wpAny (model prog w) A t (fun v s' => ∃ tk, v = .bool b ∧ s' = { s with toks := tk }) E s)
    (k : ∀ tk, Q (.bool b) { s with toks := tk }) : wpAny (model prog w) A t Q E s := by
  refine wpAny_mono h (fun v s' => ?_) fun _ _ e => e
  rintro ⟨tk, rfl, rfl⟩
  exact k tk
theorem cutI {prog : Program} {w : World} {A : Around} {E : Value → Shared → Prop} {s : Shared} {t : Sem Value} {b : Int} {Q : Value → Shared → Prop} (_hb : Once b) (h : wpAny (model prog w) A t (fun v s' => ∃ t tk, v = .int b t ∧ s' = { s with toks := tk }) E s)
    (k : ∀ t tk, Q (.int b t) { s with toks := tk }) : wpAny (model prog w) A t Q E s := by
  refine wpAny_mono h (fun v s' => ?_) fun _ _ e => e
  rintro ⟨t, tk, rfl, rfl⟩
  exact k t tk
section
variable {prog : Program} {w : World} {A : Around} {E : Value → Shared → Prop} {s : Shared} {env : Env} {h₀ : Heap} {Q : Flow → Shared → Prop}
theorem range_walk {x : Str} {px : Pos} {body : List Stmt} (hh : A.handled = none) {r : Addr} {a b : Int} {t u v : Tok} {n : Nat} {m₀ : Str → Option Value} {news₀ : Led} (J : Nat → (Str → Option Value) → Led → Prop)
    (hr : IsRange s.heap r a b 1 t u v) (hsmall : Builtin.Range.small a b 1 = true) (hn : Builtin.Range.rangeSize a b 1 = (n : Int))
    (F : Fr h₀ env.locals s.heap m₀) (N : News h₀ env.locals s.heap news₀) (J0 : J 0 m₀ news₀)
    (turn : ∀ (i : Nat) v m₁ news₁ I oI h tk (E' : Value → Shared → Prop), i < n → (∃ t, v = .int (a + (i : Int)) t) → (∃ x l st, oI = ({ cls := .type "range_iterator", dict := none, data := .fields #[rawInt x, rawInt l, rawInt st], slots := #[] } : Obj)) → J i m₁ news₁ → Fr h₀ env.locals h m₁ → News h₀ env.locals h ((I, oI) :: news₁) → (∀ p ∈ news₁, p.1 ≠ I) →
      wpAny (model prog w) A (assign (.Name x px) env v) (fun _ s₃ => wpAny (model prog w) A (execs body env) (TurnE h₀ env.locals I oI (J (i + 1)) { s with heap := h, toks := tk } Q) E' s₃) E' { s with heap := h, toks := tk })
    (done : ∀ m' news' h tk, J n m' news' → Fr h₀ env.locals h m' → News h₀ env.locals h news' → Q .next { s with heap := h, toks := tk }) :
    wpAny (model prog w) A (pyIter (.ref r)) (LoopW prog w A h₀ env (.Name x px) body Q) E s := by
  refine wpAny_pyIter_range hr hsmall ?_
  have W := LCg.range_walks (prog := prog) (w := w) (I := s.heap.objs.size) hh a n
  refine ⟨s.heap.objs.size, _, _, n, _, _, m₀, news₀, J, rfl, W, ?_, ?_, ?_, ?_, F.push _, News.push F N _, fun p hp => Nat.ne_of_lt (Heap.lt_size (N p hp).1), J0, ?_, ?_⟩
  · exact fun i h st => ⟨_, st⟩
  · intro i h h' o m' nw st e e' _ _ _
    have st' : h.get? _ = some _ := st
    show h'.get? _ = some _
    rw [e', ← e]; exact st'
  · intro i v s' Q' E' _ h
    exact go_name h
  · show IsRangeIter _ _ _ _ _
    rw [hn]; simpa using Heap.get?_push_size _ rfl
  · intro i v m₁ news₁ oI h tk E' hi hP hst hJ F' N' off'
    refine turn i v m₁ news₁ _ oI h tk E' hi hP ?_ hJ F' N' off'
    have e1 : h.get? s.heap.objs.size = some oI := (N' _ (.head _)).1
    have e2 : h.get? s.heap.objs.size = some _ := hst
    exact ⟨_, _, _, Option.some.inj (e1.symm.trans e2)⟩
  · intro m' news' h tk hJ F' N'
    exact done m' news' h tk hJ F' N'
end
set_option maxHeartbeats 1000000
section
variable {prog : Program} {w : World} {A : Around} {E : Value → Shared → Prop} {s : Shared} {h₀ : Heap} {L : Addr} {m : Str → Option Value} {news : Led}
theorem catL {l b : Addr} {vs ws : List Value} {k1 k2 : Nat} {Q : Value → Shared → Prop} (F : Fr h₀ L s.heap m) (N : News h₀ L s.heap news) (ha : (l, listOf vs.toArray k1) ∈ news) (hb : (b, listOf ws.toArray k2) ∈ news) (hl : vs.length ≤ 1000) (hw : ws.length ≤ 1000)
    (h : ∀ D h', Fr h₀ L h' m → News h₀ L h' ((D, listOf (vs ++ ws).toArray 0) :: news) → (∀ p ∈ news, p.1 < D) → Q (.ref D) { s with heap := h' }) :
    wpAny (model prog w) A (binaryOp .Add (.ref l) (.ref b)) Q E s :=
  add_lists F N ⟨_, (N _ ha).1, rfl, _, rfl⟩ ⟨_, (N _ hb).1, rfl, _, rfl⟩ (fun h' F' N' => h _ h' F' N' fun p hp => Heap.lt_size (N p hp).1) (by rw [PySem.sizeLine_eq]; omega)
theorem catT {l b : Addr} {vs ws : List Value} {k1 k2 : Nat} {Q : Value → Shared → Prop} (F : Fr h₀ L s.heap m) (N : News h₀ L s.heap news) (ha : (l, ({ cls := .type "tuple", data := .seq vs.toArray k1 } : Obj)) ∈ news) (hb : (b, ({ cls := .type "tuple", data := .seq ws.toArray k2 } : Obj)) ∈ news) (hv : vs ≠ []) (hw : ws ≠ []) (hz : vs.length + ws.length ≤ 1000)
    (h : ∀ D h', Fr h₀ L h' m → News h₀ L h' ((D, tupO (vs ++ ws)) :: news) → (∀ p ∈ news, p.1 < D) → Q (.ref D) { s with heap := h' }) :
    wpAny (model prog w) A (binaryOp .Add (.ref l) (.ref b)) Q E s :=
  add_tuples F N ⟨_, (N _ ha).1, rfl, _, rfl⟩ ⟨_, (N _ hb).1, rfl, _, rfl⟩ (fun q => absurd q hv) (fun _ q => absurd q hw) (fun _ _ h' F' N' => h _ h' F' N' fun p hp => Heap.lt_size (N p hp).1) (by rw [PySem.sizeLine_eq]; omega)
theorem lastL {value slice : Expr} {l : Addr} {vs : List Value} {x : Value} {k : Nat} {u : Tok} {Q : Value → Shared → Prop} (N : News h₀ L s.heap news) (ha : (l, listOf (vs ++ [x]).toArray k) ∈ news) (hl : vs.length ≤ 1000) (h : Q x s)
    (hs : subscripted slice false (.ref l) (.int (-1) u) = operate [.ref l, .int (-1) u] (getItem (.ref l) (.int (-1) u)) := by with_unfolding_all rfl) (hg : ∀ r, letTemporaryGo value (.ref l) r = pure () := by intro _; with_unfolding_all rfl) :
    wpAny (model prog w) A (subscriptTail value slice (.ref l) (.int (-1) u)) Q E s := by
  have hL : s.heap.IsList l (vs ++ [x]).toArray := ⟨_, (N _ ha).1, rfl, _, rfl⟩
  refine subscriptTail_builtin hL.typeIs slot_list_getitem.lookup (wpAny_getItem_list_neg hL (by decide) ?_ (by decide) ?_ h) hs hg
  · rw [List.size_toArray, List.length_append]
    simp only [List.length_cons, List.length_nil]
    omega
  · have e : ((-1 : Int) + (((vs ++ [x]).toArray.size : Nat) : Int)).toNat = vs.length := by
      rw [List.size_toArray, List.length_append]
      simp only [List.length_cons, List.length_nil]
      omega
    rw [e]
    simp
end
set_option maxHeartbeats 1000000
theorem beq_ne {a b : Int} (h : a ≠ b) : (a == b) = false := by simpa using h
theorem beq_of {a b : Int} (h : a = b) : (a == b) = true := by simpa using h
structure Picks (b : Bool) (way draw z1 z2 : Int) (i : Nat) : Prop where
  p1 : way = 1 → -z2 < z1 → b = true
  p2 : way = 1 → ¬ -z2 < z1 → b = false
  p3 : way ≠ 1 → way ≠ 2 → b = false
  p4 : way = 2 → b = ((draw.fdiv (2 ^ (0 + (i : Int)).toNat)).fmod 2 == 1)
theorem picks_of {b : Bool} {way draw U L z1 z2 : Int} {i : Nat} (hb : b = pick way draw i U L) (e2 : z1 = U % L) (e4 : z2 = -(-U % L)) : Picks b way draw z1 z2 i := by
  have e : (0 + (i : Int)).toNat = i := by omega
  have h2 : draw.fdiv (2 ^ i) = draw / 2 ^ i := Int.fdiv_eq_ediv_of_nonneg _ (Int.le_of_lt (Int.pow_pos (by decide)))
  have h3 : (draw / 2 ^ i).fmod 2 = draw / 2 ^ i % 2 := Int.fmod_eq_emod_of_nonneg _ (by decide)
  have hp : b = ((decide (way = 1) && decide (-z2 < z1)) || (decide (way = 2) && decide (draw / 2 ^ i % 2 = 1))) := by rw [hb, e2, e4]; rfl
  constructor
  · intro h h'; rw [hp]; simp [h, h']
  · intro h h'; rw [hp]; simp [h, h']
  · intro h h'; rw [hp]; simp [h, h']
  · intro h; rw [hp, e, h2, h3]; simp [h]; rfl
structure Gains (b : Bool) (g z1 z2 : Int) : Prop where
  p1 : b = true → -z2 < z1 → g = 1
  p2 : b = true → -z2 > z1 → g = -1
  p3 : b = true → ¬ -z2 < z1 → ¬ -z2 > z1 → g = 0
  p4 : b = false → g = 0
theorem gains_of {b : Bool} {g U L z1 z2 : Int} (hg : g = gainOf b U L) (e2 : z1 = U % L) (e4 : z2 = -(-U % L)) : Gains b g z1 z2 := by
  have hp : g = if b = false then 0 else if -z2 < z1 then 1 else if -z2 > z1 then -1 else 0 := by rw [hg, e2, e4]; rfl
  constructor
  · intro h h'; rw [hp]; simp [h, h']
  · intro h h'
    have h3 : ¬ -z2 < z1 := by omega
    rw [hp]; simp [h, h', h3]
  · intro h h' h3; rw [hp]; simp [h, h', h3]
  · intro h; rw [hp]; simp [h]
noncomputable def dropA (I : Addr) (l : Led) : Led := l.filter fun p => decide (p.1 ≠ I)
theorem dropA_mem {I : Addr} {l : Led} {p : Addr × Obj} : p ∈ dropA I l ↔ p ∈ l ∧ p.1 ≠ I := by
  unfold dropA; rw [List.mem_filter]; simp
theorem dropA_sub {I : Addr} {l : Led} : ∀ p ∈ dropA I l, p ∈ l := fun p hp => (dropA_mem.mp hp).1
theorem turn_sub {I R x1 D : Addr} {oI oR ox oD : Obj} {rest r1 r2 : Led} {A : Led} (off1 : ∀ p ∈ A, p.1 ≠ I) (hA : ∀ p ∈ rest, p ∈ A)
    (g1 : Grow ((I, oI) :: (R, oR) :: rest) r1) (g2 : Grow ((x1, ox) :: (I, oI) :: (R, oR) :: r1) r2) : ∀ p ∈ rest, p ∈ (D, oD) :: dropA I r2 := fun p hp =>
  .tail _ (dropA_mem.mpr ⟨g2.sub _ (.tail _ (.tail _ (.tail _ (g1.sub _ (.tail _ (.tail _ hp)))))), off1 p (hA p hp)⟩)
theorem turn_grow {I R x1 D : Addr} {oI oR ox oD : Obj} {news rest r1 r2 : Led} (hg : Grow news rest) (hR : ∀ q ∈ news, q.1 < R) (hR2 : @LT.lt Nat _ 37 R ∧ @LT.lt Nat _ 30 R)
    {A : Led} (off1 : ∀ p ∈ A, p.1 ≠ I) (hA : ∀ p ∈ rest, p ∈ A)
    (g1 : Grow ((I, oI) :: (R, oR) :: rest) r1) (hx : (x1, ox) ∈ r1) (g2 : Grow ((x1, ox) :: (I, oI) :: (R, oR) :: r1) r2) (al : AllLt D r2) (d37 : @LT.lt Nat _ 37 D) (d30 : @LT.lt Nat _ 30 D) : Grow news ((D, oD) :: dropA I r2) := by
  have s1 : ∀ q ∈ news, q ∈ r1 := fun q hq => g1.sub _ (.tail _ (.tail _ (hg.sub q hq)))
  have s2 : ∀ q ∈ r1, q ∈ r2 := fun q hq => g2.sub _ (.tail _ (.tail _ (.tail _ hq)))
  have inRest : ∀ p : Addr × Obj, p ∈ rest → p ∈ news ∨ ((∀ q ∈ news, q.1 < p.1) ∧ @LT.lt Nat _ 37 p.1 ∧ @LT.lt Nat _ 30 p.1) := hg.up
  have inR1 : ∀ p : Addr × Obj, p ∈ r1 → p.1 ≠ I → p ∈ news ∨ ((∀ q ∈ news, q.1 < p.1) ∧ @LT.lt Nat _ 37 p.1 ∧ @LT.lt Nat _ 30 p.1) := fun p hp hI => by
    rcases g1.up p hp with h | h
    · rcases List.mem_cons.mp h with rfl | h
      · exact absurd rfl hI
      · rcases List.mem_cons.mp h with rfl | h
        · exact .inr ⟨hR, hR2⟩
        · exact inRest p h
    · exact .inr ⟨fun q hq => h.1 q (.tail _ (.tail _ (hg.sub q hq))), h.2⟩
  refine ⟨fun q hq => turn_sub off1 hA g1 g2 q (hg.sub q hq), fun p hp => ?_⟩
  rcases List.mem_cons.mp hp with rfl | hp
  · exact .inr ⟨fun q hq => AllLt.all al q (s2 q (s1 q hq)), d37, d30⟩
  · obtain ⟨hp, hI⟩ := dropA_mem.mp hp
    rcases g2.up p hp with h | h
    · rcases List.mem_cons.mp h with rfl | h
      · exact inR1 _ hx hI
      · rcases List.mem_cons.mp h with rfl | h
        · exact absurd rfl hI
        · rcases List.mem_cons.mp h with rfl | h
          · exact .inr ⟨hR, hR2⟩
          · exact inR1 p h hI
    · exact .inr ⟨fun q hq => h.1 q (.tail _ (.tail _ (.tail _ (s1 q hq)))), h.2⟩
theorem TabOk.drop {qual : Str} {l c : Nat} {ps : Array Value} {r2 nw : Led} {I : Addr} {oI : Obj} {h₀ h : Heap} {L : Addr} (t : TabOk qual l c ps r2) (N : News h₀ L h nw) (hs : ∀ p ∈ r2, p ∈ nw) (hI : (I, oI) ∈ nw)
    (ho : ∃ x l st, oI = ({ cls := .type "range_iterator", dict := none, data := .fields #[rawInt x, rawInt l, rawInt st], slots := #[] } : Obj)) : TabOk qual l c ps (dropA I r2) := by
  rcases t with t | ⟨c', oc, vs, t, a, b, d, e⟩
  · exact .inl t
  · refine .inr ⟨c', oc, vs, t, a, dropA_mem.mpr ⟨b, fun q => ?_⟩, d, e⟩
    have q : c' = I := q
    obtain ⟨x, l, st, rfl⟩ := ho
    have h1 := (N _ (hs _ b)).1
    have h2 := (N _ hI).1
    rw [show ((c', oc) : Addr × Obj).1 = I from q] at h1
    have h3 : some oc = some _ := h1.symm.trans h2
    obtain rfl := Option.some.inj h3
    have d' : Data.fields #[rawInt x, rawInt l, rawInt st] = Data.fields vs := d
    have d2 : #[rawInt x, rawInt l, rawInt st] = vs := by injection d'
    rw [← d2] at e
    have e' : rawInt l = .str qual t := Option.some.inj e
    exact absurd e' (by unfold rawInt; exact fun h => nomatch h)
theorem run_next {way draw : Int} {R0 : Run} {i : Nat} {rs : List Row} {U L : Int} (hst : runTo way draw R0 i = ⟨rs, U, L⟩) (hL : L ≠ 0) :
    runTo way draw R0 (i + 1) = ⟨rs ++ [rowOf way draw i U L], L, ((rowOf way draw i U L).r.natAbs : Int)⟩ := by
  show turnOf way draw i (runTo way draw R0 i) = _
  rw [hst]; unfold turnOf; rw [if_neg hL]
theorem run_stay {way draw : Int} {R0 : Run} {i : Nat} {rs : List Row} {U L : Int} (hst : runTo way draw R0 i = ⟨rs, U, L⟩) (hL : L = 0) :
    runTo way draw R0 (i + 1) = ⟨rs, U, L⟩ := by
  show turnOf way draw i (runTo way draw R0 i) = _
  rw [hst]; unfold turnOf; rw [if_pos hL]
theorem natAbs_ite (z : Int) : ((z.natAbs : Nat) : Int) = if z < 0 then -z else z := by split <;> omega
theorem run_true {way draw : Int} {R0 : Run} {i : Nat} {rs : List Row} {U L : Int} {b : Bool} {g y2 z2 : Int} (hst : runTo way draw R0 i = ⟨rs, U, L⟩) (hL : L ≠ 0) (hb : b = pick way draw i U L) (hbt : b = true) (hg : g = gainOf b U L) (e3 : y2 = -(-U / L)) (e4 : z2 = -(-U % L)) :
    runTo way draw R0 (i + 1) = ⟨rs ++ [⟨g, y2, z2⟩], L, if z2 < 0 then -z2 else z2⟩ := by
  have e : rowOf way draw i U L = ⟨g, y2, z2⟩ := by
    unfold rowOf; rw [← hb, if_pos hbt, hg, hbt, e3, e4]; rfl
  rw [run_next hst hL, e, natAbs_ite]
theorem run_false {way draw : Int} {R0 : Run} {i : Nat} {rs : List Row} {U L : Int} {b : Bool} {g y1 z1 : Int} (hst : runTo way draw R0 i = ⟨rs, U, L⟩) (hL : L ≠ 0) (hb : b = pick way draw i U L) (hbt : b = false) (hg : g = gainOf b U L) (e1 : y1 = U / L) (e2 : z1 = U % L) :
    runTo way draw R0 (i + 1) = ⟨rs ++ [⟨g, y1, z1⟩], L, if z1 < 0 then -z1 else z1⟩ := by
  have e : rowOf way draw i U L = ⟨g, y1, z1⟩ := by
    have hg0 : g = 0 := by rw [hg, hbt]; rfl
    unfold rowOf; rw [← hb, hbt, hg0, e1, e2]; rfl
  rw [run_next hst hL, e, natAbs_ite]
section
variable {h₀ h' : Heap} {Lc : Addr} {m' : Str → Option Value}
theorem turn75 {news : Led} {R0 : Run} {way draw : Int} {tw td : Tok} {i : Nat} {rs : List Row} {L g q r Lx : Int} {rest r1 r2 : Led} {vs : List Value} {s₁ : Shared} {tk : Nat} {Q : Flow → Shared → Prop}
    {Dt D1 D2 D3 D4 l' x1 x2 I R : Addr} {ot ol o3 o4 ox1 ox2 oI oR : Obj} {bb : Bool} {t0 t1 t2 tl u : Tok} {b37 b30 : Array Value} {A : Led}
    (F : Fr h₀ Lc h' m')
    (N : News h₀ Lc h' ((Dt, ot) :: (D1, listOf (vs ++ [Value.ref D2]).toArray 0) :: (l', ol) :: (D2, tupO [.bool bb, .int g t0, .int q t1, .int r t2]) :: (D3, o3) :: (D4, o4) :: (x2, ox2) :: (x1, ox1) :: (I, oI) :: (R, oR) :: (37, tabObj b37) :: (30, tabObj b30) :: r2))
    (hst : runTo way draw R0 (i + 1) = ⟨rs ++ [⟨g, q, r⟩], L, Lx⟩) (hLx : Lx = if r < 0 then -r else r)
    (off1 : ∀ p ∈ A, p.1 ≠ I) (hA : ∀ p ∈ rest, p ∈ A) (hrs : RowsAre rest vs rs) (hg : Grow news rest) (hR : ∀ q ∈ news, q.1 < R) (hR2 : @LT.lt Nat _ 37 R ∧ @LT.lt Nat _ 30 R)
    (g1 : Grow ((I, oI) :: (R, oR) :: rest) r1) (hx : (x1, ox1) ∈ r1) (g2 : Grow ((x1, ox1) :: (I, oI) :: (R, oR) :: r1) r2)
    (t37 : TabOk q37 47 4 b37 r2) (t30 : TabOk q30 32 4 b30 r2) (hoT : OffT r2) (hlv : vs.length ≤ i)
    (al1 : AllLt D1 r2) (al2 : AllLt D2 r2) (hI37 : @Ne Nat I 37) (hI30 : @Ne Nat I 30) (hI1 : @LT.lt Nat _ I D1) (hI2 : @LT.lt Nat _ I D2) (h1 : @LT.lt Nat _ 37 D1 ∧ @LT.lt Nat _ 30 D1) (h2 : @LT.lt Nat _ 37 D2 ∧ @LT.lt Nat _ 30 D2)
    (ho : ∃ x l st, oI = ({ cls := .type "range_iterator", dict := none, data := .fields #[rawInt x, rawInt l, rawInt st], slots := #[] } : Obj))
    (hbb : bb = true) (f1 : m' (Str.ofString "rows") = some (.ref D1)) (f2 : m' (Str.ofString "upper") = some (.int L tl)) (f3 : m' (Str.ofString "lower") = some (.int Lx u)) (f4 : m' (Str.ofString "way") = some (.int way tw)) (f5 : m' (Str.ofString "draw") = some (.int draw td))
    (hL1 : 0 ≤ L) (hL2 : L < 2 ^ 28) (hr1 : -(2 ^ 28) < r) (hr2 : r < 2 ^ 28) :
    TurnE h₀ Lc I oI (J75 news R0 way draw tw td (i + 1)) s₁ Q .next { s₁ with heap := h', toks := tk } := by
  subst hbb
  have hI : (I, oI) ∈ (Dt, ot) :: (D1, listOf (vs ++ [Value.ref D2]).toArray 0) :: (l', ol) :: (D2, tupO [.bool true, .int g t0, .int q t1, .int r t2]) :: (D3, o3) :: (D4, o4) :: (x2, ox2) :: (x1, ox1) :: (I, oI) :: (R, oR) :: (37, tabObj b37) :: (30, tabObj b30) :: r2 := by simp
  have hs : ∀ p ∈ r2, p ∈ (Dt, ot) :: (D1, listOf (vs ++ [Value.ref D2]).toArray 0) :: (l', ol) :: (D2, tupO [.bool true, .int g t0, .int q t1, .int r t2]) :: (D3, o3) :: (D4, o4) :: (x2, ox2) :: (x1, ox1) :: (I, oI) :: (R, oR) :: (37, tabObj b37) :: (30, tabObj b30) :: r2 := fun p hp => by simp [hp]
  refine TurnE.go (news' := (D1, listOf (vs ++ [Value.ref D2]).toArray 0) :: (37, tabObj b37) :: (30, tabObj b30) :: (D2, tupO [.bool true, .int g t0, .int q t1, .int r t2]) :: dropA I r2) F ?_ ?_ ?_
  · refine News.sub N fun p hp => ?_
    simp only [List.mem_cons] at hp
    rcases hp with rfl | rfl | rfl | rfl | rfl | hp
    · simp
    · simp
    · simp
    · simp
    · simp
    · exact hs p (dropA_sub p hp)
  · intro p hp
    simp only [List.mem_cons] at hp
    rcases hp with rfl | rfl | rfl | rfl | hp
    · exact Nat.ne_of_gt hI1
    · exact fun e => hI37 e.symm
    · exact fun e => hI30 e.symm
    · exact Nat.ne_of_gt hI2
    · exact (dropA_mem.mp hp).2
  · refine ⟨rs ++ [⟨g, q, r⟩], L, Lx, D1, vs ++ [Value.ref D2], 0, b37, b30, _, tl, u, hst, f1, f2, f3, f4, f5, rfl, ?_, ?_, ?_, ?_, ?_, ?_, ?_, h1, by omega, by omega, ?_, ?_⟩
    · exact (hrs.mono (turn_sub off1 hA g1 g2)).snoc (r := ⟨g, q, r⟩) (.head _)
    · exact TabOk.cons (t37.drop N hs hI ho)
    · exact TabOk.cons (t30.drop N hs hI ho)
    · exact OffT.cons (hoT.sub dropA_sub) h2.1 h2.2
    · exact turn_grow hg hR hR2 off1 hA g1 hx g2 al2 h2.1 h2.2
    · rw [List.length_append]; simp only [List.length_cons, List.length_nil]; omega
    · intro q hq
      exact AllLt.all al1 q (g2.sub _ (.tail _ (.tail _ (.tail _ (g1.sub _ (.tail _ (.tail _ (hg.sub q hq))))))))
    · rw [hLx]; split <;> omega
    · rw [hLx]; split <;> omega
end
/-- what a run hands back -/
noncomputable abbrev RunR (D0 : Addr) (R0 : Run) (way draw : Int) (nw : Led) (v : Value) : Prop := ∃ (x R : Addr) (vs : List Value) (ep : Nat) (tu : Tok) (rs : List Row) (U L : Int), v = .ref x ∧ runTo way draw R0 64 = ⟨rs, U, L⟩ ∧
  (x, tupO [.ref R, .int U tu]) ∈ nw ∧ (R, listOf vs.toArray ep) ∈ nw ∧ RowsAre nw vs rs ∧ vs.length ≤ 64 ∧ @LT.lt Nat _ D0 R
set_option maxHeartbeats 4000000
theorem int_tok {a g : Int} {t : Tok} (h : a = g) : Value.int a t = Value.int g t := by rw [h]
theorem c75 : ∀ (w : World) (D0 : Addr) (va vb way draw : Int) (ta tb tw td : Tok) (h1 : -(2 ^ 31) < va) (h2 : va < 2 ^ 31) (h3 : 0 ≤ vb) (h4 : vb < 2 ^ 28) (h5 : 0 ≤ draw) (h6 : draw < 2 ^ 24),
    DoesG w 75 [.int va ta, .int vb tb, .int way tw, .int draw td] 24 (fun nw => ∃ o, (D0, o) ∈ nw) (RunR D0 ⟨[], va, vb⟩ way draw) := by
  k_with_none
  k_with "ne" => (first | (refine Nat.ne_of_lt ?_; k_extra "neL") | (refine Nat.ne_of_gt ?_; k_extra "neL") | with_reducible assumption | (refine Ne.symm ?_; with_reducible assumption) | k_extra "neA")
  k_with "neL" => (first | with_reducible assumption | with_reducible exact ltS0 _ | k_extra "neS" | ((fail_if_success with_reducible show _ < 37); (fail_if_success with_reducible show _ < 30); with_reducible refine ltS ?_; k_extra "neL"))
  k_with "neS" => (with_reducible rename (@LT.lt Nat _ _ _ ∧ _) => q; first | (refine ltRt q ?_; first | exact q.1 | exact q.2.1 | exact q.2.2.1 | exact q.2.2.2.1 | exact q.2.2.2.2.1 | exact q.2.2.2.2.2.1 | exact q.2.2.2.2.2.2.1 | exact q.2.2.2.2.2.2.2.1 | exact q.2.2.2.2.2.2.2.2.1 | exact q.2.2.2.2.2.2.2.2.2.1 | exact q.2.2.2.2.2.2.2.2.2.2.1 | exact q.2.2.2.2.2.2.2.2.2.2.2.1 | exact q.2.2.2.2.2.2.2.2.2.2.2.2.1 | exact q.2.2.2.2.2.2.2.2.2.2.2.2.2.1 | exact q.2.2.2.2.2.2.2.2.2.2.2.2.2.2.1 | exact q.2.2.2.2.2.2.2.2.2.2.2.2.2.2.2.1 | exact q.2.2.2.2.2.2.2.2.2.2.2.2.2.2.2.2.1 | exact q.2.2.2.2.2.2.2.2.2.2.2.2.2.2.2.2.2.1) | (clear q; k_extra "neS"))
  k_with "neA" => (with_reducible rename (@Ne _ _ _ ∧ _) => q; first | (refine neLt q ?_; first | exact q.1.symm | exact q.2.1.symm | exact q.2.2.1.symm | exact q.2.2.2.1.symm | exact q.2.2.2.2.1.symm | exact q.2.2.2.2.2.1.symm | exact q.2.2.2.2.2.2.1.symm | exact q.2.2.2.2.2.2.2.1.symm | exact q.2.2.2.2.2.2.2.2.1.symm | exact q.2.2.2.2.2.2.2.2.2.1.symm | exact q.2.2.2.2.2.2.2.2.2.2.1.symm | exact q.2.2.2.2.2.2.2.2.2.2.2.1.symm | exact q.2.2.2.2.2.2.2.2.2.2.2.2.1.symm | exact q.2.2.2.2.2.2.2.2.2.2.2.2.2.1.symm | exact q.2.2.2.2.2.2.2.2.2.2.2.2.2.2.1.symm | exact q.2.2.2.2.2.2.2.2.2.2.2.2.2.2.2.1.symm | exact q.2.2.2.2.2.2.2.2.2.2.2.2.2.2.2.2.1.symm | exact q.2.2.2.2.2.2.2.2.2.2.2.2.2.2.2.2.2.1.symm) | (refine neRt q ?_; first | exact q.1 | exact q.2.1 | exact q.2.2.1 | exact q.2.2.2.1 | exact q.2.2.2.2.1 | exact q.2.2.2.2.2.1 | exact q.2.2.2.2.2.2.1 | exact q.2.2.2.2.2.2.2.1 | exact q.2.2.2.2.2.2.2.2.1 | exact q.2.2.2.2.2.2.2.2.2.1 | exact q.2.2.2.2.2.2.2.2.2.2.1 | exact q.2.2.2.2.2.2.2.2.2.2.2.1 | exact q.2.2.2.2.2.2.2.2.2.2.2.2.1 | exact q.2.2.2.2.2.2.2.2.2.2.2.2.2.1 | exact q.2.2.2.2.2.2.2.2.2.2.2.2.2.2.1 | exact q.2.2.2.2.2.2.2.2.2.2.2.2.2.2.2.1 | exact q.2.2.2.2.2.2.2.2.2.2.2.2.2.2.2.2.1 | exact q.2.2.2.2.2.2.2.2.2.2.2.2.2.2.2.2.2.1) | (clear q; k_extra "neA"))
  k_with "exec For Name Call cons nil" => (k_here; k_dflt (refine for_walk (by k_asm) ?_))
  k_with "call ref" => (k_here; k_dflt (refine' DoesG.use (c61t _ _ _ _ _ ?zqh1 ?zqh2 ?zqh3 ?zqh4) ?zqB ?zqF ?zqX ?zqN ?zqsub ?zqT ?zqhk ?zqt37 ?zqt30 ?zqoff ?zqpre ?zqdp ?zqun ?_; (case zqh1 => omega); (case zqh2 => omega); (case zqh3 => omega); (case zqh4 => omega); (case zqB => k_asm); (case zqF => k_asm); (case zqX => k_asm); (case zqN => k_asm); (case zqsub => exact subT2); (case zqpre => trivial); (case zqT => k_asm); (case zqhk => exact rfl); (case zqt37 => exact TabOk.cons (TabOk.cons (by assumption))); (case zqt30 => exact TabOk.cons (TabOk.cons (by assumption))); (case zqoff => exact OffT.ne (OffT.cons (by assumption) (by first | k_extra "neL" | omega) (by first | k_extra "neL" | omega)) (by first | k_extra "neL" | omega) (by first | k_extra "neL" | omega)); (case zqdp => dsimp only [ktrTop]; omega); (case zqun => dsimp only [ktrTop]; omega); k_whole; intro r rest b37 b30 h' tk' F' N' gr t37' t30' off' hr; obtain ⟨x, y, z, t1, t2, hr, hm, e1, e2⟩ := hr; subst hr; have hI' := gr.sub _ (.head _); have hR' := gr.sub _ (.tail _ (.head _)); replace N' := News.sub N' (sub_cons (.tail _ (.tail _ hm)) (sub_cons (.tail _ (.tail _ hI')) (sub_cons (.tail _ (.tail _ hR')) sub_self)))))
  k_with "call ref" => (k_here; k_dflt (refine' DoesG.use (c61f _ _ _ _ _ ?zqh1 ?zqh2 ?zqh3 ?zqh4) ?zqB ?zqF ?zqX ?zqN ?zqsub ?zqT ?zqhk ?zqt37 ?zqt30 ?zqoff ?zqpre ?zqdp ?zqun ?_; (case zqh1 => omega); (case zqh2 => omega); (case zqh3 => omega); (case zqh4 => omega); (case zqB => k_asm); (case zqF => k_asm); (case zqX => k_asm); (case zqN => k_asm); (case zqsub => exact subT3); (case zqpre => trivial); (case zqT => k_asm); (case zqhk => exact rfl); (case zqt37 => exact TabOk.cons (TabOk.cons (TabOk.cons (by assumption)))); (case zqt30 => exact TabOk.cons (TabOk.cons (TabOk.cons (by assumption)))); (case zqoff => exact OffT.sub (by assumption) (sub_cons (by assumption) (sub_cons (by assumption) (sub_cons (by assumption) sub_self)))); (case zqdp => dsimp only [ktrTop]; omega); (case zqun => dsimp only [ktrTop]; omega); k_whole; intro r rest b37 b30 h' tk' F' N' gr t37' t30' off' hr; obtain ⟨x, y, z, t1, t2, hr, hm, e1, e2⟩ := hr; subst hr; have hx1' := gr.sub _ (.head _); have hI2' := gr.sub _ (.tail _ (.head _)); have hR2' := gr.sub _ (.tail _ (.tail _ (.head _))); replace N' := News.sub N' (sub_cons (.tail _ (.tail _ hm)) (sub_cons (.tail _ (.tail _ hx1')) (sub_cons (.tail _ (.tail _ hI2')) (sub_cons (.tail _ (.tail _ hR2')) sub_self)))); obtain ⟨pf1, pf2, pf3, pf4, pf5⟩ := parted_facts (by assumption) (by assumption) (by assumption) e1 e2))
  k_with "eval BoolOp" => (k_here; (with_reducible show wpAny _ _ (eval (Expr.BoolOp BoolOp.Or _ _) _) _ _ _); (with_reducible rename @Once Bool _ => pk); k_dflt (refine cutB pk ?_ ?_); all_goals (clear pk))
  k_with "eval IfExp" => (k_here; (with_reducible show wpAny _ _ (eval (Expr.IfExp _ (Expr.Constant _ _ _) _ _) _) _ _ _); (with_reducible rename @Once Int _ => pk); k_dflt (refine cutI pk ?_ ?_); all_goals (clear pk))
  k_with "subscriptTail Name Constant ref int" => (k_here; k_dflt (refine' item_tupleT ?zqt ?zqa ?zqb ?zqc ?zqd ?_; (case zqt => exact News.isTup (by k_asm) (by k_mem)); (case zqa => decide); (case zqb => decide); (case zqc => rfl); (case zqd => rfl); k_whole))
  k_with "compareChain" => (k_here; simp only [evalEach]; with_reducible first | refine chain_link ?_ | refine chain_last ?_)
  k_with "binaryOp Add ref ref" => (k_here; k_dflt (first | ((with_reducible refine' catL ?zqF ?zqN ?zqa ?zqb ?zqhl ?zqhw ?_); (case zqF => k_asm); (case zqN => k_asm); (case zqa => k_mem); (case zqb => k_mem); (case zqhl => assumption); (case zqhw => exact Nat.le_of_ble_eq_true rfl); k_whole) | ((with_reducible refine' catT ?zqF ?zqN ?zqa ?zqb ?zqhv ?zqhw ?zqhz ?_); (case zqF => k_asm); (case zqN => k_asm); (case zqa => k_mem); (case zqb => k_mem); (case zqhv => exact List.cons_ne_nil _ _); (case zqhw => exact List.cons_ne_nil _ _); (case zqhz => exact Nat.le_of_ble_eq_true rfl); k_whole)); intro D' h' F' N' l1; (try simp only [List.cons_append, List.nil_append] at N'); (try k_lt l1))
  k_with "subscriptTail Name UnaryOp ref int" => (k_here; k_dflt (refine' lastL ?zqN ?zqa ?zqhl ?_; (case zqN => k_asm); (case zqa => k_mem); (case zqhl => assumption); k_whole))
  k_with "subscriptTail Subscript Constant ref int" => (k_here; k_dflt (refine' item_tupleT ?zqt ?zqa ?zqb ?zqc ?zqd ?_; (case zqt => exact News.isTup (by k_asm) (by k_mem)); (case zqa => decide); (case zqb => decide); (case zqc => rfl); (case zqd => rfl); k_whole))
  unfold DoesG
  intro w D0 va vb way draw ta tb tw td h1 h2 h3 h4 h5 h6 p loose mean mg mb dp un gd cn cs a ccd cl outer A₀ base h₀ L m news a37 a30 s Q E B F X N T hk t37 t30 hoT ⟨oD0, hD0⟩ hdp hun ret
  refine wpAny_call ?_
  k_dflt (refine' cell_in ?ci1 ?ci2 ?ci3 ?ci4 ?ci5 ?ciK ?ci6 ?ci7 ?ci8 ?ci9 ?ciB ?_ ?cc2 ?cc3 ?cc4 ?cc5; (case ciK => assumption); (case ci1 => k_asm); (case ci2 => k_asm); (case ci3 => k_asm); (case ci4 => k_asm); (case ci5 => k_asm); (case ci6 => k_is); (case ci7 => k_is); (case ci8 => ktr_room); (case ci9 => exact BindsTo.of_eq rfl); (case cc5 => decide); (case ciB => exact locs rfl); (case cc2 => exact rfl); (case cc3 => exact rfl); (case cc4 => exact rfl); k_whole; intro fr g' L' h' FG' F' N' B' X' T' Ee; (try dsimp only); (try k_lift B'); (try k_fold))
  k_steps
  have alr := (‹_ ∧ _ ∧ AllLt _ _›).2.2
  k_dflt (refine' range_walk (J := J75 news ⟨[], va, vb⟩ way draw tw td) rfl ?hr ?hsm ?hn ?F ?N ?J0 ?turn ?done)
  k_dflt (case hr => assumption)
  k_dflt (case hsm => decide)
  k_dflt (case hn => exact rfl)
  k_dflt (case F => k_asm)
  k_dflt (case N => k_asm)
  k_dflt (case J0 => refine' ⟨[], va, vb, _, [], _, _, _, _, _, _, rfl, rfl, rfl, rfl, rfl, rfl, rfl, .nil, t37, t30, hoT, Grow.rfl, Nat.le_refl _, AllLt.all alr, ⟨by omega, by omega⟩, h1, h2, h3, h4⟩)
  k_dflt (case turn =>
    rintro i v m₁ news₁ I oI h tk E' hi ⟨t, rfl⟩ hoI ⟨rs, U, L, R, vs, ep, b37, b30, rest, tu, tl, hst, e1, e2, e3, e4, e5, rfl, hrs, u37, u30, hoR, hg, hlv, hR, hR2, hU1, hU2, hL1, hL2⟩ F1 N1 off1
    refine opaqT ?_
    intro Te hTe
    have F2 := Fr.know5 F1 e1 e2 e3 e4 e5
    clear F1
    have hvl : vs.length ≤ 1000 := Nat.le_trans hlv (Nat.le_of_lt (Nat.lt_of_lt_of_le hi (by decide)))
    have hi64 : i < 64 := Nat.lt_of_lt_of_le hi (by decide)
    have hI37 : @Ne Nat I 37 := fun e => off1 _ (.tail _ (.head _)) e.symm
    have hI30 : @Ne Nat I 30 := fun e => off1 _ (.tail _ (.tail _ (.head _))) e.symm
    by_cases hL0 : L = 0
    · k_steps
      all_goals first
        | exact absurd hL0 (by assumption)
        | (refine hTe _ _ ?_; k_dflt (refine' TurnE.go ?F ?N ?off ?J)
           k_dflt (case F => k_asm)
           k_dflt (case N => k_asm)
           case off => exact off1
           k_dflt (case J => exact ⟨rs, U, L, R, vs, ep, b37, b30, rest, tu, tl, run_stay hst hL0, rfl, rfl, rfl, rfl, rfl, rfl, hrs, u37, u30, hoR, hg, Nat.le_succ_of_le hlv, hR, hR2, hU1, hU2, hL1, hL2⟩))
    · have hLp : 0 < L := by omega
      obtain ⟨b, hb⟩ : ∃ b, b = pick way draw i U L := ⟨_, rfl⟩
      have ob : Once b := .mk
      obtain ⟨g, hgn⟩ : ∃ g, g = gainOf b U L := ⟨_, rfl⟩
      have og : Once g := .mk
      k_steps
      any_goals (with_reducible refine congrArg Value.bool ?_; have hp := picks_of hb (by assumption) (by assumption); first
        | (exfalso; omega)
        | exact (hp.p4 (by omega)).symm
        | exact (beq_ne (by omega)).trans (hp.p2 (by omega) (by omega)).symm
        | exact (beq_ne (by omega)).trans (hp.p3 (by omega) (by omega)).symm
        | exact (decide_eq_true (by omega)).trans (hp.p1 (by omega) (by omega)).symm
        | exact (decide_eq_false (by omega)).trans (hp.p2 (by omega) (by omega)).symm)
      any_goals (have hp := gains_of hgn (by assumption) (by assumption); with_reducible first
        | exact int_tok (hp.p1 (by assumption) (by omega)).symm
        | exact int_tok (hp.p2 (by assumption) (by omega)).symm
        | exact int_tok (hp.p3 (by assumption) (by omega) (by omega)).symm
        | exact int_tok (hp.p4 (by first | assumption | simpa using ‹¬ b = true›)).symm)
      all_goals first
        | exact absurd (by assumption) hL0
        | (exfalso; exact (by assumption : (_ : Int) - _ ≠ _) (by assumption))
        | (refine hTe _ _ ?_; k_dflt (refine' turn75 ?F ?N ?hst rfl off1 ?hA hrs hg hR hR2 ?g1 ?hx ?g2 ?t37 ?t30 ?hoT hlv ?al1 ?al2 hI37 hI30 ?hI1 ?hI2 ⟨?h1, ?h1'⟩ ⟨?h2, ?h2'⟩ hoI ?hbb ?f1 ?f2 ?f3 ?f4 ?f5 hL1 hL2 ?hr1 ?hr2)
           k_dflt (case F => k_asm)
           k_dflt (case N => k_asm)
           case hA => exact fun p hp => .tail _ (.tail _ (.tail _ hp))
           case g1 => assumption
           case hx => assumption
           case g2 => assumption
           case t37 => assumption
           case t30 => assumption
           case hoT => assumption
           case al1 => exact (‹_ ∧ _ ∧ _ ∧ _ ∧ _ ∧ _ ∧ _ ∧ _ ∧ _ ∧ _ ∧ AllLt _ _›).2.2.2.2.2.2.2.2.2.2
           case al2 => exact (‹_ ∧ _ ∧ _ ∧ _ ∧ _ ∧ _ ∧ _ ∧ _ ∧ AllLt _ _›).2.2.2.2.2.2.2.2
           case hI1 => omega
           case hI2 => omega
           case h1 => omega
           case h1' => omega
           case h2 => omega
           case h2' => omega
           case hbb => exact decide_eq_true (by omega)
           k_dflt (case f1 => rfl)
           k_dflt (case f2 => rfl)
           k_dflt (case f3 => rfl)
           k_dflt (case f4 => rfl)
           k_dflt (case f5 => rfl)
           case hr1 => omega
           case hr2 => omega
           case hst => first | exact run_true hst hL0 hb (by assumption) hgn (by assumption) (by assumption) | exact run_false hst hL0 hb (by assumption) hgn (by assumption) (by assumption))
      )
  k_dflt (case done =>
    rintro m' news' h tk ⟨rs, U, L, R, vs, ep, b37, b30, rest, tu, tl, hst, e1, e2, e3, e4, e5, rfl, hrs, u37, u30, hoR, hg, hlv, hR, hR2, hU1, hU2, hL1, hL2⟩ F1 N1
    have F2 := Fr.know2 F1 e1 e2
    clear F1
    k_steps
    have al := (‹_ ∧ _ ∧ _ ∧ AllLt _ _›)
    k_dflt (refine' ret _ ((_, tupO [_, _]) :: (R, listOf vs.toArray ep) :: rest) b37 b30 _ _ ?F ?N ?gr ?t37 ?t30 ?off ⟨_, R, vs, ep, tu, rs, U, L, rfl, hst, .head _, .tail _ (.head _), hrs.mono (fun p hp => .tail _ (.tail _ hp)), hlv, hR _ hD0⟩)
    k_dflt (case F => k_asm)
    k_dflt (case N => exact News.sub (by k_asm) subT2)
    case gr => exact (hg.cons hR hR2.1 hR2.2).cons (fun q hq => AllLt.all al.2.2.2 q (hg.sub q hq)) al.2.1 al.2.2.1
    case t37 => exact TabOk.cons (TabOk.cons u37)
    case t30 => exact TabOk.cons (TabOk.cons u30)
    case off => exact (hoR.cons hR2.1 hR2.2).cons al.2.1 al.2.2.1)
set_option maxHeartbeats 1000000
/-- a call that leaves the tables alone, of what the ledger holds -/
noncomputable def DoesP (w : World) (f : Addr) (vs : List Value) (D : Nat) (Pre : Led → Prop) (Res : Led → Value → Prop) : Prop :=
  ∀ (p : Program) (loose : List Str) (mean : ExcName → Option Value) (mg mb : Str → Option Value)
    (dp un : Nat) (gd : Option (List Code)) (cn : Str) (cs : Scope) (a : Addr) (ccd : Value) (cl : List (Str × Addr)) (outer : List Env) (A₀ : Around) (base h₀ : Heap) (L : Addr) (m : Str → Option Value)
    (news : Led) (s : Shared) (Q E : Value → Shared → Prop),
    Below A₀ base outer h₀ → Fr h₀ L s.heap m → (hd.heap_39 w.params).In h₀ → News h₀ L s.heap news → Top p loose mean mg mb h₀ → cs.kind = .function → Pre news →
    dp + D < recursionLimit → un + 8 * D < cLine →
    (∀ r tl h' tk', Fr h₀ L h' m → News h₀ L h' (tl ++ news) → (∀ q ∈ news, ∀ p ∈ tl, q.1 < p.1) → Res tl r → Q r { s with heap := h', toks := tk' }) →
    wpAny (model PySem.Challenge.rw_wz0050_01.row.prog w) (ktrTop dp un gd cn cs L a ccd cl outer) (call (.ref f) vs) Q E s
theorem DoesP.use {w : World} {f : Addr} {vs : List Value} {D : Nat} {Pre : Led → Prop} {Res : Led → Value → Prop} (C : DoesP w f vs D Pre Res)
    {p : Program} {loose : List Str} {mean : ExcName → Option Value} {mg mb : Str → Option Value}
    {dp un : Nat} {gd : Option (List Code)} {cn : Str} {cs : Scope} {a : Addr} {ccd : Value} {cl : List (Str × Addr)} {outer : List Env} {A₀ : Around} {base h₀ : Heap} {L : Addr} {m : Str → Option Value}
    {news : Led} {s : Shared} {Q E : Value → Shared → Prop}
    (B : Below A₀ base outer h₀) (F : Fr h₀ L s.heap m) (X : (hd.heap_39 w.params).In h₀) (N : News h₀ L s.heap news) (T : Top p loose mean mg mb h₀) (hk : cs.kind = .function) (pre : Pre news)
    (hdp : dp + D < recursionLimit) (hun : un + 8 * D < cLine)
    (ret : ∀ r tl h' tk', Fr h₀ L h' m → News h₀ L h' (tl ++ news) → (∀ q ∈ news, ∀ p ∈ tl, q.1 < p.1) → Res tl r → Q r { s with heap := h', toks := tk' }) :
    wpAny (model PySem.Challenge.rw_wz0050_01.row.prog w) (ktrTop dp un gd cn cs L a ccd cl outer) (call (.ref f) vs) Q E s :=
  C _ _ _ _ _ _ _ _ _ _ _ _ _ _ _ _ _ _ _ _ _ _ _ B F X N T hk pre hdp hun ret
section
variable {prog : Program} {w : World} {A : Around} {E : Value → Shared → Prop} {s : Shared} {env : Env} {h₀ : Heap} {Q : Flow → Shared → Prop}
theorem list_walk {target : Expr} {body : List Stmt} (hh : A.handled = none) {D : Addr} {vs : List Value} {ep : Nat} {m₀ : Str → Option Value} {news₀ : Led} (J : Nat → (Str → Option Value) → Led → Prop)
    (F : Fr h₀ env.locals s.heap m₀) (N : News h₀ env.locals s.heap news₀)
    (hD : ∀ i m nw, J i m nw → (D, listOf vs.toArray ep) ∈ nw) (J0 : J 0 m₀ news₀)
    (turn : ∀ i v m₁ news₁ I oI h tk (E' : Value → Shared → Prop), i < vs.length → vs[i]? = some v → J i m₁ news₁ → Fr h₀ env.locals h m₁ → News h₀ env.locals h ((I, oI) :: news₁) → (∀ p ∈ news₁, p.1 ≠ I) →
      wpAny (model prog w) A (assign target env v) (fun _ s₃ => wpAny (model prog w) A (execs body env) (TurnE h₀ env.locals I oI (J (i + 1)) { s with heap := h, toks := tk } Q) E' s₃) E' { s with heap := h, toks := tk })
    (done : ∀ m' news' h tk, J vs.length m' news' → Fr h₀ env.locals h m' → News h₀ env.locals h news' → Q .next { s with heap := h, toks := tk }) :
    wpAny (model prog w) A (pyIter (.ref D)) (LoopW prog w A h₀ env target body Q) E s := by
  have hD0 := hD _ _ _ J0
  have hax := N _ hD0
  have hl : s.heap.IsList D vs.toArray := ⟨_, hax.1, rfl, ep, rfl⟩
  have hne : D ≠ s.heap.objs.size := Nat.ne_of_lt (Heap.lt_size hax.1)
  refine wpAny_pyIter_list hl ?_
  have W := Walks.list (prog := prog) (w := w) hh s.heap.objs.size D hne vs.toArray
  have hlen : vs.toArray.size = vs.length := by simp
  rw [hlen] at W
  refine ⟨s.heap.objs.size, _, _, vs.length, _, _, m₀, news₀, J, rfl, W, ?_, ?_, ?_, ?_, F.push _, News.push F N _, fun p hp => Nat.ne_of_lt (Heap.lt_size (N p hp).1), J0, ?_, ?_⟩
  · rintro i h ⟨⟨o, ho, _⟩, _⟩
    exact ⟨o, ho⟩
  · rintro i h h' o m' nw ⟨b, c⟩ e1 e2 F' N' hJ
    refine ⟨b.at (fun o' e => ?_), ⟨_, (N' _ (hD _ _ _ hJ)).1, rfl, ep, rfl⟩⟩
    rw [e1] at e; cases e; exact e2
  · intro i v s' Q' E' st h
    exact letGo_listiter st.1 h
  · exact ⟨⟨_, Heap.get?_push_size _ rfl, rfl, rfl⟩, hl.push _⟩
  · intro i v m₁ news₁ oI h tk E' hi hP _ hJ F' N' off'
    refine turn i v m₁ news₁ _ oI h tk E' hi ?_ hJ F' N' off'
    simpa using hP
  · intro m' news' h tk hJ F' N'
    exact done m' news' h tk hJ F' N'
end
theorem RowsAre.get {nw : Led} {vs : List Value} {rs : List Row} (h : RowsAre nw vs rs) : ∀ {i : Nat} {v : Value}, vs[i]? = some v → ∃ x r t1 t2 t3, v = .ref x ∧ rs[i]? = some r ∧ (x, tupO [.bool true, .int r.gain t1, .int r.q t2, .int r.r t3]) ∈ nw := by
  induction h with
  | nil => intro i v e; simp at e
  | cons m _ ih =>
    intro i v e
    cases i with
    | zero => simp at e; exact ⟨_, _, _, _, _, e.symm, by simp, m⟩
    | succ i => simp at e; obtain ⟨x, r, t1, t2, t3, a, b, c⟩ := ih e; exact ⟨x, r, t1, t2, t3, a, by simpa using b, c⟩
/-- the two numbers that the rows lead back to -/
noncomputable def back (m : Int) : List Row → Int × Int
  | [] => (m, 0)
  | r :: rs => (r.q * (back m rs).1 + (if r.r < 0 then -(back m rs).2 else (back m rs).2), (back m rs).1)
theorem back_step {m : Int} {rs : List Row} {i : Nat} {r : Row} {U L : Int} (hi : i < rs.length) (e : rs[rs.length - 1 - i]? = some r) (h : back m (rs.drop (rs.length - i)) = (U, L)) :
    back m (rs.drop (rs.length - (i + 1))) = (r.q * U + (if r.r < 0 then -L else L), U) := by
  have hl : rs.length - 1 - i < rs.length := by omega
  have e1 : rs.drop (rs.length - (i + 1)) = r :: rs.drop (rs.length - i) := by
    have : rs.length - (i + 1) = rs.length - 1 - i := by omega
    rw [this, List.drop_eq_getElem_cons hl]
    have e2 : rs[rs.length - 1 - i] = r := by simpa [hl] using e
    rw [e2]
    congr 2
    omega
  rw [e1]; simp only [back, h]
structure BackOk (m : Int) (rs : List Row) : Prop where
  u : ∀ k, -(2 ^ 60) < (back m (rs.drop k)).1 ∧ (back m (rs.drop k)).1 < 2 ^ 60
  q : ∀ r ∈ rs, -(2 ^ 60) < r.q ∧ r.q < 2 ^ 60
theorem mulB {prog : Program} {w : World} {A : Around} {E : Value → Shared → Prop} {s : Shared} {a b : Int} {t u : Tok} {Q : Value → Shared → Prop} (h1 : -(2 ^ 60) < a ∧ a < 2 ^ 60) (h2 : -(2 ^ 60) < b ∧ b < 2 ^ 60) (h : ∀ t tk, Q (.int (a * b) t) { s with toks := tk }) : wpAny (model prog w) A (binaryOp .Mult (.int a t) (.int b u)) Q E s :=
  mul_int (h _ _) (mulOk_of_bits (intBits_le_64 (by omega) (by omega)) (intBits_le_64 (by omega) (by omega)) (by decide))
theorem listAt {h₀ h : Heap} {L l : Addr} {news : Led} {vs : List Value} {k : Nat} (N : News h₀ L h news) (hm : (l, listOf vs.toArray k) ∈ news) : h.IsList l vs.toArray := ⟨_, (N _ hm).1, rfl, _, rfl⟩
/-- the loop of _law_back -/
noncomputable def J82 (news : Led) (D : Addr) (vs : List Value) (rs : List Row) (ms : Int) (i : Nat) (m : Str → Option Value) (nw : Led) : Prop :=
  ∃ (U L : Int) (tu tl : Tok), back ms (rs.drop (rs.length - i)) = (U, L) ∧ m (Str.ofString "upper") = some (.int U tu) ∧ m (Str.ofString "lower") = some (.int L tl) ∧ nw = (D, listOf vs.reverse.toArray 0) :: news
noncomputable abbrev Back82 (a b : Int) (tl : Led) (v : Value) : Prop := ∃ x t1 t2, v = .ref x ∧ (x, tupO [.int a t1, .int b t2]) ∈ tl
set_option maxHeartbeats 4000000
theorem c82 : ∀ (w : World) (R : Addr) (vs : List Value) (ep : Nat) (rs : List Row) (ms : Int) (tm : Tok) (hv : vs.length ≤ 64) (hb : BackOk ms rs),
    DoesP w 82 [.ref R, .int ms tm] 8 (fun nw => (R, listOf vs.toArray ep) ∈ nw ∧ RowsAre nw vs rs) (Back82 (back ms rs).1 (back ms rs).2) := by
  k_with_none
  k_with "ne" => (first | (refine Nat.ne_of_lt ?_; k_extra "neL") | (refine Nat.ne_of_gt ?_; k_extra "neL") | with_reducible assumption | (refine Ne.symm ?_; with_reducible assumption) | k_extra "neA")
  k_with "neL" => (first | with_reducible assumption | with_reducible exact ltS0 _ | k_extra "neS" | ((fail_if_success with_reducible show _ < 37); (fail_if_success with_reducible show _ < 30); with_reducible refine ltS ?_; k_extra "neL"))
  k_with "neS" => (with_reducible rename (@LT.lt Nat _ _ _ ∧ _) => q; first | (refine ltRt q ?_; first | exact q.1 | exact q.2.1 | exact q.2.2.1 | exact q.2.2.2.1 | exact q.2.2.2.2.1 | exact q.2.2.2.2.2.1 | exact q.2.2.2.2.2.2.1 | exact q.2.2.2.2.2.2.2.1 | exact q.2.2.2.2.2.2.2.2.1 | exact q.2.2.2.2.2.2.2.2.2.1 | exact q.2.2.2.2.2.2.2.2.2.2.1 | exact q.2.2.2.2.2.2.2.2.2.2.2.1 | exact q.2.2.2.2.2.2.2.2.2.2.2.2.1 | exact q.2.2.2.2.2.2.2.2.2.2.2.2.2.1 | exact q.2.2.2.2.2.2.2.2.2.2.2.2.2.2.1 | exact q.2.2.2.2.2.2.2.2.2.2.2.2.2.2.2.1 | exact q.2.2.2.2.2.2.2.2.2.2.2.2.2.2.2.2.1 | exact q.2.2.2.2.2.2.2.2.2.2.2.2.2.2.2.2.2.1) | (clear q; k_extra "neS"))
  k_with "neA" => (with_reducible rename (@Ne _ _ _ ∧ _) => q; first | (refine neLt q ?_; first | exact q.1.symm | exact q.2.1.symm | exact q.2.2.1.symm | exact q.2.2.2.1.symm | exact q.2.2.2.2.1.symm | exact q.2.2.2.2.2.1.symm | exact q.2.2.2.2.2.2.1.symm | exact q.2.2.2.2.2.2.2.1.symm | exact q.2.2.2.2.2.2.2.2.1.symm | exact q.2.2.2.2.2.2.2.2.2.1.symm | exact q.2.2.2.2.2.2.2.2.2.2.1.symm | exact q.2.2.2.2.2.2.2.2.2.2.2.1.symm | exact q.2.2.2.2.2.2.2.2.2.2.2.2.1.symm | exact q.2.2.2.2.2.2.2.2.2.2.2.2.2.1.symm | exact q.2.2.2.2.2.2.2.2.2.2.2.2.2.2.1.symm | exact q.2.2.2.2.2.2.2.2.2.2.2.2.2.2.2.1.symm | exact q.2.2.2.2.2.2.2.2.2.2.2.2.2.2.2.2.1.symm | exact q.2.2.2.2.2.2.2.2.2.2.2.2.2.2.2.2.2.1.symm) | (refine neRt q ?_; first | exact q.1 | exact q.2.1 | exact q.2.2.1 | exact q.2.2.2.1 | exact q.2.2.2.2.1 | exact q.2.2.2.2.2.1 | exact q.2.2.2.2.2.2.1 | exact q.2.2.2.2.2.2.2.1 | exact q.2.2.2.2.2.2.2.2.1 | exact q.2.2.2.2.2.2.2.2.2.1 | exact q.2.2.2.2.2.2.2.2.2.2.1 | exact q.2.2.2.2.2.2.2.2.2.2.2.1 | exact q.2.2.2.2.2.2.2.2.2.2.2.2.1 | exact q.2.2.2.2.2.2.2.2.2.2.2.2.2.1 | exact q.2.2.2.2.2.2.2.2.2.2.2.2.2.2.1 | exact q.2.2.2.2.2.2.2.2.2.2.2.2.2.2.2.1 | exact q.2.2.2.2.2.2.2.2.2.2.2.2.2.2.2.2.1 | exact q.2.2.2.2.2.2.2.2.2.2.2.2.2.2.2.2.2.1) | (clear q; k_extra "neA"))
  k_with "exec For Tuple Subscript cons nil" => (k_here; k_dflt (refine for_walk (by k_asm) ?_))
  k_with "subscriptTail Name Slice ref ref" => (k_here; (with_reducible show wpAny _ _ (subscriptTail _ (PySem.Expr.Slice none none (some _) _) (Value.ref _) (Value.ref _)) _ _ _); k_dflt (refine' krv_lit (its := List.toArray _) ?zqF ?zqN ?zql ?zqk (e := rfl) ?_ ?zqs ?zqt ?zqz; (case zqF => k_asm); (case zqN => k_asm); (case zql => exact listAt (by k_asm) (by k_mem)); (case zqk => exact IsPart.int _ _); (case zqs => with_unfolding_all rfl); (case zqt => kmk_pure); (case zqz => rw [PySem.sizeLine_eq, List.size_toArray]; omega)); intro D' h' F' N' l1; (try k_lt l1); (try k_sweep))
  k_with "subs" => (first | exact sub_nil | exact sub_self | (refine sub_cons (by k_mem) ?_; k_extra "subs") | (refine sub_skip ?_; k_extra "subs"))
  k_with "binaryOp Mult int int" => (k_here; k_dflt (refine' mulB ?zqa ?zqb ?_; (case zqa => assumption); (case zqb => assumption)); intro t' tk')
  unfold DoesP
  intro w R vs ep rs ms tm hv hb p loose mean mg mb dp un gd cn cs a ccd cl outer A₀ base h₀ L m news s Q E B F X N T hk ⟨hR, hrs⟩ hdp hun ret
  have N1 := News.sub N (sub_cons hR sub_self)
  clear N
  refine wpAny_call ?_
  k_dflt (refine' cell_in ?ci1 ?ci2 ?ci3 ?ci4 ?ci5 ?ciK ?ci6 ?ci7 ?ci8 ?ci9 ?ciB ?_ ?cc2 ?cc3 ?cc4 ?cc5; (case ciK => assumption); (case ci1 => k_asm); (case ci2 => k_asm); (case ci3 => k_asm); (case ci4 => k_asm); (case ci5 => k_asm); (case ci6 => k_is); (case ci7 => k_is); (case ci8 => ktr_room); (case ci9 => exact BindsTo.of_eq rfl); (case cc5 => decide); (case ciB => exact locs rfl); (case cc2 => exact rfl); (case cc3 => exact rfl); (case cc4 => exact rfl); k_whole; intro fr g' L' h' FG' F' N' B' X' T' Ee; (try dsimp only); (try k_lift B'); (try k_fold))
  k_steps
  k_dflt (refine' list_walk (vs := vs.reverse) (ep := 0) (J := J82 ((R, listOf vs.toArray ep) :: news) _ vs rs ms) rfl ?F ?N ?hD ?J0 ?turn ?done)
  k_dflt (case F => k_asm)
  k_dflt (case hD => rintro i m nw ⟨_, _, _, _, _, _, _, rfl⟩; exact .head _)
  k_dflt (case J0 => refine' ⟨ms, 0, _, _, by simp [back], rfl, rfl, rfl⟩)
  k_dflt (case N => exact News.sub (by k_asm) (by k_extra "subs"))
  k_dflt (case turn =>
    rintro i v m₁ news₁ I oI h tk E' hi hv' ⟨U, L, tu, tl, hbk, e1, e2, rfl⟩ F1 N1 off1
    have F2 := Fr.know2 F1 e1 e2
    clear F1
    rw [List.length_reverse] at hi
    rw [List.getElem?_reverse hi] at hv'
    obtain ⟨x, r, t1, t2, t3, rfl, hr, hm⟩ := hrs.get hv'
    have hlen := hrs.length
    have N2 := News.sub N1 (sub_cons (.tail _ (.tail _ (.tail _ hm))) sub_self)
    clear N1
    rw [hlen] at hi hr
    have hU := hb.u (rs.length - i)
    rw [hbk] at hU
    have hU : -(2 ^ 60) < U ∧ U < 2 ^ 60 := hU
    have hq := hb.q r (List.mem_of_getElem? hr)
    have hnext := back_step hi hr hbk
    k_steps
    all_goals (
      first | rw [if_pos (by assumption)] at hnext | rw [if_neg (by omega)] at hnext
      k_dflt (refine' TurnE.go ?F ?N ?off ?J)
      k_dflt (case F => k_asm)
      k_dflt (case J => exact ⟨_, _, _, _, hnext, rfl, rfl, rfl⟩)
      k_dflt (case N => exact News.sub (by k_asm) (by k_extra "subs"))
      case off => exact off1))
  k_dflt (case done =>
    rintro m' news' h tk ⟨U, L, tu, tl, hbk, e1, e2, rfl⟩ F1 N1
    have F2 := Fr.know2 F1 e1 e2
    clear F1
    rw [List.length_reverse, hrs.length, Nat.sub_self, List.drop_zero] at hbk
    rw [hbk] at ret
    k_steps
    have al := (‹_ ∧ _ ∧ AllLt _ _›).2.2
    k_dflt (refine' ret _ [_] _ _ ?F ?N ?o ⟨_, _, _, rfl, .head _⟩)
    k_dflt (case F => k_asm)
    k_dflt (case N => exact News.sub (by k_asm) (by k_extra "subs"))
    case o => exact fun q hq p hp => by rw [List.mem_singleton.mp hp]; exact AllLt.all al q hq)
set_option maxHeartbeats 8000000
open LCg in
/-- an element's end: it is appended -/
noncomputable def EltE (h₀ : Heap) (L : Addr) (m : Str → Option Value) (I C D : Addr) (oI oC : Obj) (ys : List Value) (J : List Value → Led → Prop) (s₁ : Shared) (y : Value) (s₂ : Shared) : Prop :=
  ∃ h' tk nw, s₂ = { s₁ with heap := h', toks := tk } ∧ Fr h₀ L h' m ∧ News h₀ L h' ((I, oI) :: (C, oC) :: (D, lst ys) :: nw) ∧ Off3 I C D nw ∧ J (ys ++ [y]) nw
open LCg in
/-- a turn that appends nothing -/
noncomputable def SkipE (h₀ : Heap) (L : Addr) (m : Str → Option Value) (I C D : Addr) (oI oC : Obj) (ys : List Value) (J : List Value → Led → Prop) (s₁ : Shared) (s₂ : Shared) : Prop :=
  ∃ h' tk nw, s₂ = { s₁ with heap := h', toks := tk } ∧ Fr h₀ L h' m ∧ News h₀ L h' ((I, oI) :: (C, oC) :: (D, lst ys) :: nw) ∧ Off3 I C D nw ∧ J ys nw

/-- what an assignment to the block's targets does -/
noncomputable def AsgW (prog : Program) (w : World) (A : Around) (env : Env) (target : Expr) (scope : Scope) (cl : List (Str × Addr)) (P : Nat → Value → Prop) (J : Nat → List Value → Led → Prop) (K : (Str → Option Value) → Prop) (B : Nat → Value → Led → (Str → Option Value) → Prop) : Prop :=
  ∀ i v ys (nw : Led) C (s₁ : Shared) m₂ (Q' : Unit → Shared → Prop) (E' : Value → Shared → Prop), P i v → J i ys nw → (∀ p ∈ nw, s₁.heap.get? p.1 = some p.2) → s₁.heap.Ns C m₂ → K m₂ →
    (∀ h' tk' m₂', h'.Ns C m₂' → (∀ b o, b ≠ C → s₁.heap.get? b = some o → h'.get? b = some o) → B i v nw m₂' → K m₂' → Q' () { s₁ with heap := h', toks := tk' }) →
    wpAny (model prog w) A (assign target (compEnvC scope cl C env) v) Q' E' s₁

noncomputable abbrev testsOf (ifs : List Expr) (env : Env) : Sem Bool := forIn ifs true fun c r => if r = true then do let ok ← isTrue c env (eval c env); pure (ForInStep.yield ok) else pure (ForInStep.yield r)

open LCg in
structure CompWD (prog : Program) (w : World) (A : Around) (h₀ : Heap) (L : Addr) (m : Str → Option Value) (env : Env) (target : Expr) (ifs : List Expr) (elt : Expr) (scope : Scope) (cl : List (Str × Addr)) (K : (Str → Option Value) → Prop) (ys₀ : List Value)
    (Fin : List Value → Led → Prop) (it : Value) (s₂ : Shared) (news₀ : Led) (I : Addr) (fp : List Addr) (n : Nat) (P : Nat → Value → Prop) (St : Nat → Heap → Prop) (J : Nat → List Value → Led → Prop) (B : Nat → Value → Led → (Str → Option Value) → Prop) : Prop where
  c1 : it = .ref I
  c2 : Walks prog w A I fp [I] n P St
  c3 : (∀ i h, St i h → ∃ o, h.get? I = some o)
  c4 : (∀ i h h' o nw ys, St i h → h.get? I = some o → h'.get? I = some o → Fr h₀ L h' m → News h₀ L h' nw → J i ys nw → St i h')
  c5 : (∀ i v (s' : Shared) (Q' : Unit → Shared → Prop) (E' : Value → Shared → Prop), P i v → St (i + 1) s'.heap → Q' () s' → wpAny (model prog w) A (letOwnedTupleGo target (.ref I) v) Q' E' s')
  c6 : AsgW prog w A env target scope cl P J K B
  c7 : (∀ i ys nw, J i ys nw → ys.length ≤ sizeLine)
  c8 : St 0 s₂.heap
  c9 : (∃ o, (I, o) ∈ news₀)
  c10 : (∃ nw, (∀ p ∈ nw, p ∈ news₀) ∧ (∀ p ∈ nw, p.1 ≠ I) ∧ J 0 ys₀ nw)
  c11 : (∀ i v ys nw oI oC C D m₂ h tk (E' : Value → Shared → Prop), i < n → P i v → (∃ h₁, St (i + 1) h₁ ∧ h₁.get? I = some oI) → J i ys nw → B i v nw m₂ → K m₂ → NsObj oC m₂ → Fr h₀ L h m → News h₀ L h ((I, oI) :: (C, oC) :: (D, lst ys) :: nw) → Off3 I C D nw → ((@Ne Nat I C) ∧ (@Ne Nat I D) ∧ (@Ne Nat C D)) → wpAny (model prog w) A (testsOf ifs (compEnvC scope cl C env)) (fun ok s₃ => if ok = true then wpAny (model prog w) A (eval elt (compEnvC scope cl C env)) (EltE h₀ L m I C D oI oC ys (J (i + 1)) { s₂ with heap := h, toks := tk }) E' s₃ else SkipE h₀ L m I C D oI oC ys (J (i + 1)) { s₂ with heap := h, toks := tk } s₃) E' { s₂ with heap := h, toks := tk })
  c12 : (∀ ys nw, J n ys nw → Fin ys nw)
open LCg in
/-- the last loop of a block: its iterator, its invariant -/
noncomputable def CompW (prog : Program) (w : World) (A : Around) (h₀ : Heap) (L : Addr) (m : Str → Option Value) (env : Env) (target : Expr) (ifs : List Expr) (elt : Expr) (scope : Scope) (cl : List (Str × Addr)) (K : (Str → Option Value) → Prop) (ys₀ : List Value)
    (Fin : List Value → Led → Prop) (it : Value) (s₂ : Shared) (news₀ : Led) : Prop :=
  ∃ (I : Addr) (fp : List Addr) (n : Nat) (P : Nat → Value → Prop) (St : Nat → Heap → Prop) (J : Nat → List Value → Led → Prop) (B : Nat → Value → Led → (Str → Option Value) → Prop), CompWD prog w A h₀ L m env target ifs elt scope cl K ys₀ Fin it s₂ news₀ I fp n P St J B


section
variable {prog : Program} {w : World} {A : Around} {E : Value → Shared → Prop} {s : Shared} {env : Env} {h₀ : Heap} {L : Addr} {m : Str → Option Value}

/-- the equation of a turn of a block's last loop -/
noncomputable def LastTurn (elt : Expr) (gens : List Comprehension) (scope : Scope) (pos : Pos) (d : Nat) (target iter : Expr) (ifs : List Expr) : Prop :=
  ∀ (it acc : Value) (env : Env), compTurn (.ListComp elt gens scope pos) d it acc env = (do
      standAt iter.pos
      match ← pyNext it with
      | none => pure (.done .next)
      | some v =>
        letOwnedTupleGo target it v
        assign target env v
        let mut ok := true
        for c in ifs do
          if ok then ok ← isTrue c env (eval c env)
        if ok then
          (do let _ ← call (.builtin "list.append") [acc, ← eval elt env])
        again (.compLoop (.ListComp elt gens scope pos) d it acc env))
theorem lastTurn1 (elt target iter : Expr) (ifs : List Expr) (scope : Scope) (pos : Pos) : LastTurn elt [⟨target, iter, ifs, 0⟩] scope pos 0 target iter ifs := fun _ _ _ => by rfl
theorem lastTurn2 (elt t₁ i₁ target iter : Expr) (f₁ ifs : List Expr) (scope : Scope) (pos : Pos) : LastTurn elt [⟨t₁, i₁, f₁, 0⟩, ⟨target, iter, ifs, 0⟩] scope pos 1 target iter ifs := fun _ _ _ => by rfl

theorem newsPut {h₀ h : Heap} {L a : Addr} {o : Obj} {nw : Led} (h1 : h.get? a = some o) (h2 : a ≠ L ∧ h₀.get? a = none) (N : News h₀ L h nw) : News h₀ L h ((a, o) :: nw) := fun p hp => by
  rcases List.mem_cons.mp hp with rfl | hp
  · exact ⟨h1, h2⟩
  · exact N p hp
theorem newsMove {h₀ h h' : Heap} {L : Addr} {nw : Led} (N : News h₀ L h nw) (k : ∀ p ∈ nw, h.get? p.1 = some p.2 → h'.get? p.1 = some p.2) : News h₀ L h' nw := fun p hp => ⟨k p hp (N p hp).1, (N p hp).2⟩
theorem newsRest {h₀ h : Heap} {L : Addr} {a : Addr × Obj} {nw : Led} (N : News h₀ L h (a :: nw)) : News h₀ L h nw := fun p hp => N p (.tail _ hp)
theorem frC {h₀ h h' : Heap} {L C : Addr} {m : Str → Option Value} (F : Fr h₀ L h m) (hCL : C ≠ L) (hC₀ : h₀.get? C = none) (k : ∀ b o, b ≠ C → h.get? b = some o → h'.get? b = some o) : Fr h₀ L h' m :=
  ⟨F.ns.at' fun o e => k _ o hCL.symm e, fun b o e => k b o (fun q => by rw [q, hC₀] at e; cases e) (F.keep b o e), F.above⟩
open LCg in
structure LastInvD (h₀ : Heap) (L : Addr) (m : Str → Option Value) (I C D : Addr) (n : Nat) (St : Nat → Heap → Prop) (K : (Str → Option Value) → Prop) (J : Nat → List Value → Led → Prop) (s₂ : Shared) (k : Nat) (s' : Shared) (h' : Heap) (tk : Nat) (i : Nat) (ys : List Value) (nw : Led) (oI oC : Obj) (m₂ : Str → Option Value) : Prop where
  c1 : s' = { s₂ with heap := h', toks := tk }
  c2 : i ≤ n
  c3 : k = n + 1 - i
  c4 : St i h'
  c5 : Fr h₀ L h' m
  c6 : News h₀ L h' ((I, oI) :: (C, oC) :: (D, lst ys) :: nw)
  c7 : NsObj oC m₂
  c8 : K m₂
  c9 : Off3 I C D nw
  c10 : J i ys nw
open LCg in
/-- what holds between the turns of a block's last loop -/
noncomputable def LastInv (h₀ : Heap) (L : Addr) (m : Str → Option Value) (I C D : Addr) (n : Nat) (St : Nat → Heap → Prop) (K : (Str → Option Value) → Prop) (J : Nat → List Value → Led → Prop) (s₂ : Shared) (k : Nat) (s' : Shared) : Prop :=
  ∃ (h' : Heap) (tk : Nat) (i : Nat) (ys : List Value) (nw : Led) (oI oC : Obj) (m₂ : Str → Option Value), LastInvD h₀ L m I C D n St K J s₂ k s' h' tk i ys nw oI oC m₂
open LCg in
theorem compLoop_last {elt target iter : Expr} {ifs : List Expr} {gens : List Comprehension} {scope : Scope} {cl : List (Str × Addr)} {pos : Pos} {d : Nat} {K : (Str → Option Value) → Prop} {ys₀ : List Value} {Fin : List Value → Led → Prop} {it : Value} {s₂ : Shared} {C D : Addr} {news₀ : Led} {m₀ : Str → Option Value} {R : Result → Shared → Prop}
    (heq : LastTurn elt gens scope pos d target iter ifs)
    (hC : s₂.heap.Ns C m₀) (hK : K m₀) (F : Fr h₀ L s₂.heap m) (N : News h₀ L s₂.heap ((D, lst ys₀) :: news₀)) (hC₀ : h₀.get? C = none) (hCL : C ≠ L) (offC : ∀ p ∈ (D, lst ys₀) :: news₀, p.1 ≠ C) (offD : ∀ p ∈ news₀, p.1 ≠ D)
    (X : CompW prog w A h₀ L m env target ifs elt scope cl K ys₀ Fin it s₂ news₀)
    (hR : ∀ h tk m' ys nw, Fr h₀ L h m → News h₀ L h ((D, lst ys) :: nw) → Off1 D nw → (∀ p ∈ nw, p.1 ≠ C) → h.Ns C m' → Fin ys nw → R (.ok .next) { s₂ with heap := h, toks := tk }) :
    codeAny (model prog w) A (.compLoop (.ListComp elt gens scope pos) d it (.ref D) (compEnvC scope cl C env)) R s₂ := by
  obtain ⟨I, fp, n, P, St, J, B, rfl, W, hIo, hst, hgo, hasg, hlen, st0, ⟨oI₀, hI₀⟩, ⟨nw₀, sub₀, off₀, hJ₀⟩, turn, done⟩ := X
  have hIm := N _ (.tail _ hI₀)
  have hIL : L ≠ I := fun q => hIm.2.1 q.symm
  have hI0 := hIm.2.2
  have hCI : I ≠ C := offC _ (.tail _ hI₀)
  have hID : I ≠ D := offD _ hI₀
  have hDm := N _ (.head _)
  have hDC : D ≠ C := offC _ (.head _)
  have off3₀ : Off3 I C D nw₀ := Off3.of fun p hp => ⟨off₀ p hp, offC _ (.tail _ (sub₀ p hp)), offD _ (sub₀ p hp)⟩
  obtain ⟨oC₀, heC₀, hoC₀⟩ := ns_obj hC
  refine codeAny_loop rfl (LastInv h₀ L m I C D n St K J s₂) (fun k s' hI => ?_) (n + 1)
    ⟨s₂.heap, s₂.toks, 0, ys₀, nw₀, oI₀, oC₀, _, rfl, Nat.zero_le _, rfl, st0, F, newsPut hIm.1 hIm.2 (newsPut heC₀ ⟨hCL, hC₀⟩ (newsPut hDm.1 hDm.2 fun p hp => N p (.tail _ (sub₀ p hp)))), hoC₀, hK, off3₀, hJ₀⟩
  show wpAny _ A ((compTurn (.ListComp elt gens scope pos) d (.ref I) (.ref D) (compEnvC scope cl C env)).onRaise (fun x => do noteFrame x (compEnvC scope cl C env); theTreesLotGoes x)) _ _ s'
  refine wpAny_noted ?_
  refine opaq ?_
  intro Q₁ E₁ hQ₁
  rw [heq]
  obtain ⟨h', tk, i, ys, nw, oI, oC, m₂, rfl, hi, rfl, st', F', N', hoC, hK', off', hJ'⟩ := hI
  refine wpAny_bind (wpAny_standAt (wpAny_bind ?_))
  have off3 := off'.mem
  have offI : ∀ p ∈ (C, oC) :: (D, lst ys) :: nw, p.1 ≠ I := List.forall_mem_cons.mpr ⟨hCI.symm, List.forall_mem_cons.mpr ⟨hID.symm, fun p hp => (off3 p hp).1⟩⟩
  have next : ∀ h₁ : Heap, (∀ b o, b ∉ [I] → h'.get? b = some o → h₁.get? b = some o) → Fr h₀ L h₁ m ∧ News h₀ L h₁ ((C, oC) :: (D, lst ys) :: nw) := fun h₁ hk => ⟨fr_but F' hk hIL hI0, news_but (fun p hp => N' p (.tail _ hp)) hk offI⟩
  by_cases hlt : i < n
  · refine W.item i _ _ _ hlt st' fun v h₁ tk₁ hP st₁ hk₁ => ?_
    obtain ⟨F₁, N₁⟩ := next h₁ hk₁
    refine wpAny_bind (hgo i v _ _ _ hP st₁ ?_)
    refine wpAny_bind (hasg i v ys nw C _ m₂ _ _ hP hJ' (fun p hp => (N₁ p (.tail _ (.tail _ hp))).1) (hoC.ns (N₁ _ (.head _)).1) hK' fun h₂ tk₂ m₃ hn₂ hk₂ hB hK₃ => ?_)
    obtain ⟨o₁, ho₁⟩ := hIo _ _ st₁
    obtain ⟨oC₂, heC₂, hoC₂⟩ := ns_obj hn₂
    have N₂ : News h₀ L h₂ ((I, o₁) :: (C, oC₂) :: (D, lst ys) :: nw) := newsPut (hk₂ _ _ hCI ho₁) hIm.2 (newsPut heC₂ ⟨hCL, hC₀⟩ (newsMove (newsRest N₁) fun p hp z => hk₂ _ _ ((List.forall_mem_cons.mpr ⟨hDC, fun p hp => (off3 p hp).2.1⟩ : ∀ p ∈ (D, lst ys) :: nw, p.1 ≠ C) p hp) z))
    refine wpAny_bind (wpAny_mono (turn i v ys nw o₁ oC₂ C D m₃ h₂ tk₂ _ hlt hP ⟨h₁, st₁, ho₁⟩ hJ' hB hK₃ hoC₂ (frC F₁ hCL hC₀ hk₂) N₂ off' ⟨hCI, hID, hDC.symm⟩) (fun ok s₃ h₃ => ?_) fun _ _ e => e)
    clear N₂ N₁ F₁ next offI N' F'
    have again : ∀ ys' s₄, SkipE h₀ L m I C D o₁ oC₂ ys' (J (i + 1)) { { s₂ with heap := h', toks := tk } with heap := h₂, toks := tk₂ } s₄ → Q₁ (.again (.compLoop (.ListComp elt gens scope pos) d (.ref I) (.ref D) (compEnvC scope cl C env))) s₄ := by
      rintro ys' s₄ ⟨h₄, tk₄, nw₄, rfl, F₄, N₄, off₄, hJ₄⟩
      exact hQ₁ _ _ ⟨rfl, n + 1 - (i + 1), by omega, h₄, tk₄, i + 1, ys', nw₄, o₁, oC₂, m₃, rfl, hlt, rfl, hst _ _ _ _ _ _ st₁ ho₁ (N₄ _ (.head _)).1 F₄ (fun p hp => N₄ p (.tail _ (.tail _ (.tail _ hp)))) hJ₄, F₄, N₄, hoC₂, hK₃, off₄, hJ₄⟩
    clear hQ₁
    cases ok with
    | false => exact wpAny_pure (again _ _ h₃)
    | true =>
      refine wpAny_bind (wpAny_bind (wpAny_mono h₃ (fun y s₄ h₄ => ?_) fun _ _ e => e))
      obtain ⟨h₄, tk₄, nw₄, rfl, F₄, N₄, off₄, hJ₄⟩ := h₄
      have o4 := off₄.mem
      have zD := N₄ (D, lst ys) (.tail _ (.tail _ (.head _)))
      refine wpAny_bind (append_at (hsz := by show ys.toArray.size ≤ sizeLine; rw [List.size_toArray]; exact hlen _ _ _ hJ') zD.1 fun h₅ hs₅ hD₅ => wpAny_pure (wpAny_pure (again (ys ++ [y]) _ ⟨h₅, tk₄, nw₄, rfl, F₄.change hs₅ zD.2.1 zD.2.2, ?_, off₄, hJ₄⟩)))
      exact newsPut (hs₅.extBut _ _ hID (N₄ _ (.head _)).1) hIm.2 (newsPut (hs₅.extBut _ _ hDC.symm (N₄ _ (.tail _ (.head _))).1) ⟨hCL, hC₀⟩ (newsPut (hD₅.trans (congrArg some (lst_snoc ys y))) zD.2 (newsMove (newsRest (newsRest (newsRest N₄))) fun p hp z => hs₅.extBut _ _ (o4 p hp).2.2 z)))
  · obtain rfl : i = n := by omega
    refine W.done _ _ _ st' fun h₁ tk₁ hk₁ => wpAny_pure ?_
    obtain ⟨F₁, N₁⟩ := next h₁ hk₁
    exact hQ₁ _ _ (hR h₁ tk₁ m₂ ys nw F₁ (newsRest N₁) off'.one (fun p hp => (off3 p hp).2.1) (hoC.ns (N₁ _ (.head _)).1) (done ys nw hJ'))
end
set_option maxHeartbeats 8000000
section
variable {prog : Program} {w : World} {A : Around} {E : Value → Shared → Prop} {s : Shared} {env : Env} {h₀ : Heap} {L : Addr} {m : Str → Option Value}

open LCg in
theorem CompW.grow {target elt : Expr} {ifs : List Expr} {scope : Scope} {cl : List (Str × Addr)} {K : (Str → Option Value) → Prop} {ys₀ : List Value} {Fin : List Value → Led → Prop} {it : Value} {s₂ : Shared} {news₀ news₁ : Led} {h₁ : Heap} {t₁ : Nat}
    (X : CompW prog w A h₀ L m env target ifs elt scope cl K ys₀ Fin it s₂ news₀) (old : ∀ b o, s₂.heap.get? b = some o → h₁.get? b = some o) (sub : ∀ p ∈ news₀, p ∈ news₁) :
    CompW prog w A h₀ L m env target ifs elt scope cl K ys₀ Fin it { s₂ with heap := h₁, toks := t₁ } news₁ := by
  obtain ⟨I, fp, n, P, St, J, B, rfl, W, hIo, hst, hgo, hasg, hlen, st0, ⟨oI₀, hI₀⟩, ⟨nw₀, sub₀, off₀, hJ₀⟩, turn, done⟩ := X
  exact ⟨I, fp, n, P, St, J, B, rfl, W, hIo, hst, hgo, hasg, hlen, W.frame _ _ _ st0 fun b _ o e => old b o e, ⟨oI₀, sub _ hI₀⟩, ⟨nw₀, fun p hp => sub p (sub₀ p hp), off₀, hJ₀⟩, turn, done⟩

theorem CompW.self {target elt : Expr} {ifs : List Expr} {scope : Scope} {cl : List (Str × Addr)} {K : (Str → Option Value) → Prop} {ys₀ : List Value} {Fin : List Value → Led → Prop} {it : Value} {s₂ : Shared} {news₀ : Led}
    (X : CompW prog w A h₀ L m env target ifs elt scope cl K ys₀ Fin it s₂ news₀) {Q' : Value → Shared → Prop} {E' : Value → Shared → Prop} (h : Q' it s₂) : wpAny (model prog w) A (pyIter it) Q' E' s₂ := by
  obtain ⟨I, fp, n, P, St, J, B, rfl, W, _, _, _, _, _, st0, _⟩ := X
  exact W.self 0 _ _ _ st0 h

open LCg in
/-- a block of one loop -/
theorem block1 {elt target iter : Expr} {ifs : List Expr} {scope : Scope} {cl : List (Str × Addr)} {pos : Pos} {Fin : List Value → Led → Prop} {it : Value} {s₂ : Shared} {news₀ : Led} {RR : Value → Addr → Result → Shared → Prop}
    (hcell : ∀ y ∈ scope.names, y.2 ≠ .cell) (hkind : scope.kind = .function) (F : Fr h₀ L s₂.heap m) (N : News h₀ L s₂.heap news₀)
    (X : CompW prog w A h₀ L m env target ifs elt scope cl (fun _ => True) [] Fin it s₂ news₀)
    (hRR : ∀ D C h tk m' ys nw, Fr h₀ L h m → News h₀ L h ((D, lst ys) :: nw) → Off1 D nw → h.Ns C m' → h₀.get? C = none → C ≠ L → C ≠ D → (∀ p ∈ nw, p.1 ≠ C) → Fin ys nw → RR (.ref D) C (.ok .next) { s₂ with heap := h, toks := tk }) :
    wpAny (model prog w) A (newList []) (fun acc s₃ => wpAny (model prog w) A (newFunctionEnv scope env.globals cl [] env.qual none .none (some env)) (fun cenv s₄ =>
      codeAny (model prog w) A (.compStart (.ListComp elt [⟨target, iter, ifs, 0⟩] scope pos) 0 it acc { cenv with scope := relabel scope env }) (RR acc cenv.locals) s₄) E s₃) E s₂ := by
  refine wpAny_newObj_type (wpAny_newFunctionEnv hcell (by intro y hy; simp at hy) (fun h₁ hns₁ hsb₁ => ?_) hkind)
  dsimp only at hns₁ hsb₁ ⊢
  generalize hH2 : s₂.heap.push { cls := .type "list", dict := none, data := .seq ([] : List Value).toArray } = H2 at hns₁ hsb₁ ⊢
  have hC : H2.objs.size = s₂.heap.objs.size + 1 := by rw [← hH2, Heap.size_push]
  have hDC : s₂.heap.objs.size ≠ H2.objs.size := by rw [hC]; exact Nat.ne_of_lt (Nat.lt_succ_self _)
  have below : ∀ b, b < s₂.heap.objs.size → b ≠ H2.objs.size ∧ b ≠ s₂.heap.objs.size := fun b hb => ⟨by rw [hC]; exact Nat.ne_of_lt (Nat.lt_succ_of_lt hb), Nat.ne_of_lt hb⟩
  have old : ∀ b o, s₂.heap.get? b = some o → h₁.get? b = some o := fun b o e => hsb₁.extBut b o (below b (Heap.lt_size e)).1 (Heap.get?_push_of_some _ (hH2 ▸ Heap.get?_push_of_some _ e))
  have hacc : h₁.get? s₂.heap.objs.size = some (lst []) := hsb₁.extBut _ _ hDC (Heap.get?_push_of_some _ (hH2 ▸ Heap.get?_push_size _ rfl))
  have fresh₀ : ∀ a, s₂.heap.objs.size ≤ a → h₀.get? a = none := fun a ha => by
    cases e : h₀.get? a with
    | none => rfl
    | some o' => exact absurd (Heap.lt_size (F.keep a o' e)) (Nat.not_lt.mpr ha)
  have hLlt : L < s₂.heap.objs.size := F.ns.lt
  have hC₀ : h₀.get? H2.objs.size = none := fresh₀ _ (by rw [hC]; exact Nat.le_succ _)
  have hCL : H2.objs.size ≠ L := Ne.symm (below L hLlt).1
  have hDL : s₂.heap.objs.size ≠ L := Ne.symm (below L hLlt).2
  have N₁ : News h₀ L h₁ ((s₂.heap.objs.size, lst []) :: news₀) := fun p hp => by
    rcases List.mem_cons.mp hp with rfl | hp
    · exact ⟨hacc, hDL, fresh₀ _ (Nat.le_refl _)⟩
    · exact ⟨old _ _ (N p hp).1, (N p hp).2⟩
  have X₁ := X.grow (t₁ := s₂.toks + ([] : List (Str × Value)).length) old (fun _ h => h)
  have loop : codeAny (model prog w) A (.compLoop (.ListComp elt [⟨target, iter, ifs, 0⟩] scope pos) 0 it (.ref s₂.heap.objs.size) (compEnvC scope cl H2.objs.size env))
        (RR (.ref s₂.heap.objs.size) H2.objs.size) { s₂ with heap := h₁, toks := s₂.toks + ([] : List (Str × Value)).length } := by
    refine compLoop_last (lastTurn1 elt target iter ifs scope pos) hns₁ trivial (F.keeps old) N₁ hC₀ hCL (fun p hp => ?_) (fun p hp => (below _ (Heap.lt_size (N p hp).1)).2) X₁ ?_
    · rcases List.mem_cons.mp hp with rfl | hp
      · exact hDC
      · exact (below _ (Heap.lt_size (N p hp).1)).1
    · intro h tk m' ys nw F' N' o1 oC hn hF
      exact hRR _ _ h tk m' ys nw F' N' o1 hn hC₀ hCL hDC.symm oC hF
  exact codeAny_compStart_list loop (X₁.self loop)

open LCg in
theorem LC_eval {elt target iter : Expr} {ifs : List Expr} {scope : Scope} {cl : List (Str × Addr)} {pos : Pos} {Q : Value → Shared → Prop}
    (hclos : closureFor scope env = pure cl) (hcell : ∀ y ∈ scope.names, y.2 ≠ .cell) (hkind : scope.kind = .function)
    (hnames : ∀ y ∈ scope.names, y.2 = .local → scope.names.lookup y.1 = some .local)
    (h : wpAny (model prog w) A (eval iter env) (fun xv s₁ => wpAny (model prog w) A (pyIter xv) (fun it s₂ => ∃ news₀, Fr h₀ L s₂.heap m ∧ News h₀ L s₂.heap news₀ ∧
      CompW prog w A h₀ L m env target ifs elt scope cl (fun _ => True) [] (fun ys nw => ∀ D h tk, Fr h₀ L h m → News h₀ L h ((D, lst ys) :: nw) → Off1 D nw → Q (.ref D) { s₂ with heap := h, toks := tk }) it s₂ news₀) E s₁) E s)
    (hs : ∀ x, foldedSetIterable iter env x = pure x := by intro _; rfl) :
    wpAny (model prog w) A (eval (.ListComp elt [⟨target, iter, ifs, 0⟩] scope pos) env) Q E s := by
  rw [eval_ListComp]
  refine wpAny_comprehension_free (use := none) rfl hs hclos hkind hnames (wpAny_mono h (fun xv s₁ h₁ => wpAny_mono h₁ (fun it s₂ h₂ => ?_) fun _ _ e => e) fun _ _ e => e)
  obtain ⟨news₀, F, N, X⟩ := h₂
  refine block1 hcell hkind F N X ?_
  intro D C h' tk m' ys nw F' N' o1 hn hC₀ hCL hCD offC fin
  refine ⟨m', hn, fun h'' hs'' => fin D h'' tk (F'.change hs'' hCL hC₀) (fun p hp => ?_) o1⟩
  refine ⟨hs''.extBut _ _ ?_ (N' p hp).1, (N' p hp).2⟩
  rcases List.mem_cons.mp hp with rfl | hp
  · exact Ne.symm hCD
  · exact offC p hp

open LCg in
theorem LC_assign {elt target iter : Expr} {ifs : List Expr} {y : Str} {py : Pos} {scope : Scope} {cl : List (Str × Addr)} {pos spos : Pos} {Q : Flow → Shared → Prop} (hLe : env.locals = L)
    (hsw : swapsWith (.ListComp elt [⟨target, iter, ifs, 0⟩] scope pos) (some (.Name y py)) spos.line env = pure true)
    (hclos : closureFor scope env = pure cl) (hcell : ∀ y ∈ scope.names, y.2 ≠ .cell) (hkind : scope.kind = .function)
    (hnames : ∀ y ∈ scope.names, y.2 = .local → scope.names.lookup y.1 = some .local)
    (hy : env.kindOf y = some .local) (hp : (env.scope.kind == .class || (env.scope.kind == .module && env.locals != env.globals)) = false)
    (h : wpAny (model prog w) A (eval iter env) (fun xv s₁ => wpAny (model prog w) A (pyIter xv) (fun it s₂ => ∃ news₀, Fr h₀ L s₂.heap m ∧ News h₀ L s₂.heap news₀ ∧
      CompW prog w A h₀ L m env target ifs elt scope cl (fun _ => True) [] (fun ys nw => ∀ D h tk, Fr h₀ L h (fun z => if z = y then some (.ref D) else m z) → News h₀ L h ((D, lst ys) :: nw) → Off1 D nw → Q .next { s₂ with heap := h, toks := tk }) it s₂ news₀) E s₁) E s)
    (hs : ∀ x, foldedSetIterable iter env x = pure x := by intro _; rfl) :
    wpAny (model prog w) A (exec (.Assign [.Name y py] (.ListComp elt [⟨target, iter, ifs, 0⟩] scope pos) spos) env) Q E s := by
  subst hLe
  rw [exec_Assign_Name_used _ _ _ _ hsw]
  refine wpAny_bind (wpAny_standAt (wpAny_bind ?_))
  show wpAny _ A (do let _ ← comprehension (.ListComp elt [⟨target, iter, ifs, 0⟩] scope pos) scope env _ (newList []) false (eval iter env) (some (assign (.Name y py) env))) _ _ s
  refine wpAny_bind (wpAny_mono (wpAny_comprehension_free (use := some (assign (.Name y py) env)) (Q := fun _ s' => Q .next s') rfl hs hclos hkind hnames
    (wpAny_mono h (fun xv s₁ h₁ => wpAny_mono h₁ (fun it s₂ h₂ => ?_) fun _ _ e => e) fun _ _ e => e)) (fun _ s' hq => wpAny_pure (wpAny_pure hq)) fun _ _ e => e)
  obtain ⟨news₀, F, N, X⟩ := h₂
  refine block1 hcell hkind F N X ?_
  intro D C h' tk m' ys nw F' N' o1 hn hC₀ hCL hCD offC fin
  show wpAny _ A (assign (.Name y py) env (.ref D)) _ _ _
  refine wpAny_assign_Name (wpAny_storeName_local hy F'.ns (fun h₂ hn₂ hs₂ => ?_) hp)
  have hL₀ : h₀.get? env.locals = none := Heap.get?_none_of_le F'.above
  have F₂ : Fr h₀ env.locals h₂ (fun z => if z = y then some (.ref D) else m z) := ⟨hn₂, fun b o e => hs₂.extBut b o (fun q => by rw [q, hL₀] at e; cases e) (F'.keep b o e), F'.above⟩
  refine ⟨m', hn.sameBut hs₂ hCL, fun h'' hs'' => fin D h'' _ (F₂.change hs'' hCL hC₀) (fun p hp => ?_) o1⟩
  have z : h₂.get? p.1 = some p.2 := hs₂.extBut _ _ (N' p hp).2.1 (N' p hp).1
  refine ⟨hs''.extBut _ _ ?_ z, (N' p hp).2⟩
  rcases List.mem_cons.mp hp with rfl | hp
  · exact Ne.symm hCD
  · exact offC p hp
end
set_option maxHeartbeats 4000000
section
variable {prog : Program} {w : World} {A : Around} {E : Value → Shared → Prop} {s : Shared} {env : Env} {h₀ : Heap} {L : Addr} {m : Str → Option Value}

theorem asg_name {x : Str} {px : Pos} {scope : Scope} {cl : List (Str × Addr)} {P : Nat → Value → Prop} {J : Nat → List Value → Led → Prop} {K : (Str → Option Value) → Prop} {B : Nat → Value → Led → (Str → Option Value) → Prop}
    (hkind : scope.kind = .function) (hx : scope.names.lookup x = some .local) (hK : ∀ mm v, K mm → K (fun z => if z = x then some v else mm z))
    (hB : ∀ i v ys nw mm, P i v → J i ys nw → mm x = some v → B i v nw mm) : AsgW prog w A env (.Name x px) scope cl P J K B := by
  intro i v ys nw C s₁ m₂ Q' E' hP hJ _ hn hKm k
  refine wpAny_assign_Name (wpAny_storeName_local (lookup_relabel_local hx) hn (fun h₂ hn₂ hs₂ => ?_) (by simp [compEnvC, relabel, hkind]))
  exact k _ _ _ hn₂ (fun b o hb e => hs₂.extBut b o hb e) (hB i v ys nw _ hP hJ (if_pos rfl)) (hK _ _ hKm)
theorem asg_two {x y : Str} {px py tp : Pos} {kk : Nat} {scope : Scope} {cl : List (Str × Addr)} {P : Nat → Value → Prop} {J : Nat → List Value → Led → Prop} {K : (Str → Option Value) → Prop} {B : Nat → Value → Led → (Str → Option Value) → Prop}
    (hh : A.handled = none) (hkind : scope.kind = .function) (hx : scope.names.lookup x = some .local) (hy : scope.names.lookup y = some .local) (hxy : x ≠ y) (hK : ∀ mm a b, K mm → K (fun z => if z = y then some b else if z = x then some a else mm z))
    (hB : ∀ i v ys nw, P i v → J i ys nw → ∃ t a b, v = .ref t ∧ (t, tupO [a, b]) ∈ nw ∧ ∀ mm : Str → Option Value, mm x = some a → mm y = some b → B i v nw mm) : AsgW prog w A env (.Tuple [.Name x px, .Name y py] kk tp) scope cl P J K B := by
  intro i v ys nw C s₁ m₂ Q' E' hP hJ hN hn hKm k
  obtain ⟨t, a, b, rfl, hm, hb⟩ := hB i v ys nw hP hJ
  have ht : s₁.heap.IsTuple t #[a, b] := ⟨_, hN _ hm, rfl, _, rfl⟩
  refine kcp_assign hh ht (lookup_relabel_local hx) (lookup_relabel_local hy) (by simp [compEnvC, relabel, hkind]) hn fun h' tk hn' keep => ?_
  exact k h' tk _ hn' keep (hb _ (by rw [if_neg hxy, if_pos rfl]) (if_pos rfl)) (hK _ _ _ hKm)
theorem asg_four {x y z u : Str} {px py pz pu tp : Pos} {kk : Nat} {scope : Scope} {cl : List (Str × Addr)} {P : Nat → Value → Prop} {J : Nat → List Value → Led → Prop} {K : (Str → Option Value) → Prop} {B : Nat → Value → Led → (Str → Option Value) → Prop}
    (hh : A.handled = none) (hkind : scope.kind = .function) (hx : scope.names.lookup x = some .local) (hy : scope.names.lookup y = some .local) (hz : scope.names.lookup z = some .local) (hu : scope.names.lookup u = some .local)
    (hxy : x ≠ y ∧ x ≠ z ∧ x ≠ u ∧ y ≠ z ∧ y ≠ u ∧ z ≠ u) (hK : ∀ mm, K mm)
    (hB : ∀ i v ys nw, P i v → J i ys nw → ∃ t a b c d, v = .ref t ∧ (t, tupO [a, b, c, d]) ∈ nw ∧ ∀ mm : Str → Option Value, mm x = some a → mm y = some b → mm z = some c → mm u = some d → B i v nw mm) :
    AsgW prog w A env (.Tuple [.Name x px, .Name y py, .Name z pz, .Name u pu] kk tp) scope cl P J K B := by
  intro i v ys nw C s₁ m₂ Q' E' hP hJ hN hn hKm k
  obtain ⟨t, a, b, c, d, rfl, hm, hb⟩ := hB i v ys nw hP hJ
  have ht : s₁.heap.IsTuple t #[a, b, c, d] := ⟨_, hN _ hm, rfl, _, rfl⟩
  obtain ⟨n1, n2, n3, n4, n5, n6⟩ := hxy
  refine wpAny_assign_Tuple hh ht rfl rfl fun h₁ he₁ => ?_
  have hL : C ≠ s₁.heap.objs.size := Nat.ne_of_lt hn.lt
  have hn₁ : h₁.Ns C m₂ := hn.at' fun o e => he₁ _ o hL e
  have up₁ : ∀ c o, s₁.heap.get? c = some o → h₁.get? c = some o := fun c o e => he₁ c o (Nat.ne_of_lt (Heap.lt_size e)) e
  have hp : ((compEnvC scope cl C env).scope.kind == .class || ((compEnvC scope cl C env).scope.kind == .module && (compEnvC scope cl C env).locals != (compEnvC scope cl C env).globals)) = false := by simp [compEnvC, relabel, hkind]
  show wpAny _ _ (assignInOrder [assign (.Name x px) _, assign (.Name y py) _, assign (.Name z pz) _, assign (.Name u pu) _] [a, b, c, d]) _ _ _
  refine assignInOrder_cons (wpAny_assign_Name (wpAny_storeName_local (lookup_relabel_local hx) hn₁ (fun h₂ hn₂ hs₂ => ?_) hp))
  refine assignInOrder_cons (wpAny_assign_Name (wpAny_storeName_local (lookup_relabel_local hy) hn₂ (fun h₃ hn₃ hs₃ => ?_) hp))
  refine assignInOrder_cons (wpAny_assign_Name (wpAny_storeName_local (lookup_relabel_local hz) hn₃ (fun h₄ hn₄ hs₄ => ?_) hp))
  refine assignInOrder_cons (wpAny_assign_Name (wpAny_storeName_local (lookup_relabel_local hu) hn₄ (fun h₅ hn₅ hs₅ => ?_) hp))
  refine assignInOrder_nil ?_
  refine k h₅ _ _ hn₅ (fun b o hb e => hs₅.extBut b o hb (hs₄.extBut b o hb (hs₃.extBut b o hb (hs₂.extBut b o hb (up₁ b o e))))) (hb _ ?_ ?_ ?_ ?_) (hK _)
  · rw [if_neg n3, if_neg n2, if_neg n1, if_pos rfl]
  · rw [if_neg n5, if_neg n4, if_pos rfl]
  · rw [if_neg n6, if_pos rfl]
  · rw [if_pos rfl]
theorem EltE.go {m : Str → Option Value} {I C D : Addr} {oI oC : Obj} {ys : List Value} {J : List Value → Led → Prop} {s₁ : Shared} {y : Value} {h' : Heap} {tk : Nat} {nw : Led}
    (F : Fr h₀ L h' m) (N : News h₀ L h' ((I, oI) :: (C, oC) :: (D, LCg.lst ys) :: nw)) (off : LCg.Off3 I C D nw) (j : J (ys ++ [y]) nw) : EltE h₀ L m I C D oI oC ys J s₁ y { s₁ with heap := h', toks := tk } := ⟨h', tk, nw, rfl, F, N, off, j⟩
theorem SkipE.go {m : Str → Option Value} {I C D : Addr} {oI oC : Obj} {ys : List Value} {J : List Value → Led → Prop} {s₁ : Shared} {h' : Heap} {tk : Nat} {nw : Led}
    (F : Fr h₀ L h' m) (N : News h₀ L h' ((I, oI) :: (C, oC) :: (D, LCg.lst ys) :: nw)) (off : LCg.Off3 I C D nw) (j : J ys nw) : SkipE h₀ L m I C D oI oC ys J s₁ { s₁ with heap := h', toks := tk } := ⟨h', tk, nw, rfl, F, N, off, j⟩
theorem outerTurn (elt t1 i1 t2 i2 : Expr) (f2 : List Expr) (scope : Scope) (pos : Pos) (it acc : Value) (env : Env) : compTurn (.ListComp elt [⟨t1, i1, [], 0⟩, ⟨t2, i2, f2, 0⟩] scope pos) 0 it acc env = (do
    standAt i1.pos
    match ← pyNext it with
    | none => pure (.done .next)
    | some v =>
      letOwnedTupleGo t1 it v
      assign t1 env v
      let x ← eval i2 env
      standAt i2.pos
      let x ← foldedSetIterable i2 env x
      let _ ← runOwn (.compStart (.ListComp elt [⟨t1, i1, [], 0⟩, ⟨t2, i2, f2, 0⟩] scope pos) 1 (← holding [x] (pyIter x)) acc env) env
      again (.compLoop (.ListComp elt [⟨t1, i1, [], 0⟩, ⟨t2, i2, f2, 0⟩] scope pos) 0 it acc env)) := by rfl
theorem compStart1 {elt t1 i1 t2 i2 : Expr} {f1 f2 : List Expr} {scope : Scope} {pos : Pos} {it acc : Value} {R : Result → Shared → Prop}
    (h0 : codeAny (model prog w) A (.compLoop (.ListComp elt [⟨t1, i1, f1, 0⟩, ⟨t2, i2, f2, 0⟩] scope pos) 1 it acc env) R s)
    (h : wpAny (model prog w) A (pyIter it) (fun it' s' => codeAny (model prog w) A (.compLoop (.ListComp elt [⟨t1, i1, f1, 0⟩, ⟨t2, i2, f2, 0⟩] scope pos) 1 it' acc env) R s')
      (notedBy (model prog w) A env fun x s' => R (.error x) s') s) :
    codeAny (model prog w) A (.compStart (.ListComp elt [⟨t1, i1, f1, 0⟩, ⟨t2, i2, f2, 0⟩] scope pos) 1 it acc env) R s := by
  refine codeAny_of_tree ?_
  show wpAny _ _ ((compStart (.ListComp elt [⟨t1, i1, f1, 0⟩, ⟨t2, i2, f2, 0⟩] scope pos) 1 it acc env).onRaise (fun x => do noteFrame x env; standAt theWindowsPlace)) _ _ s
  refine wpAny_notedAt ?_
  unfold compStart
  show wpAny _ _ (ask >>= _) _ _ s
  refine wpAny_bind (wpAny_askSetting (wpAny_ite ?_))
  split
  · first
      | exact wpAny_bind (wpAny_pure (wpAny_pure (And.intro rfl h0)))
      | exact wpAny_pure (And.intro rfl h0)
  · first
      | exact wpAny_bind (wpAny_rule (wpAny_bind (wpAny_standAt (wpAny_bind (wpAny_mono h (fun it' s' h' => wpAny_pure (And.intro rfl h')) fun _ _ x => x)))))
      | (refine wpAny_bind (wpAny_rule ?_); show wpAny _ _ (standAt i2.pos >>= _) _ _ s; exact wpAny_bind (wpAny_standAt (wpAny_bind (wpAny_mono h (fun it' s' h' => wpAny_pure (And.intro rfl h')) fun _ _ x => x))))

theorem start_self {target elt elt' t1 i1 t2 i2 : Expr} {ifs f1 f2 : List Expr} {scope scope' : Scope} {cl : List (Str × Addr)} {K : (Str → Option Value) → Prop} {ys₀ : List Value} {Fin : List Value → Led → Prop} {it acc : Value} {s₂ : Shared} {news₀ : Led} {env' : Env} {pos : Pos} {R : Result → Shared → Prop}
    (X : CompW prog w A h₀ L m env target ifs elt' scope' cl K ys₀ Fin it s₂ news₀) (loop : codeAny (model prog w) A (.compLoop (.ListComp elt [⟨t1, i1, f1, 0⟩, ⟨t2, i2, f2, 0⟩] scope pos) 1 it acc env') R s₂) :
    codeAny (model prog w) A (.compStart (.ListComp elt [⟨t1, i1, f1, 0⟩, ⟨t2, i2, f2, 0⟩] scope pos) 1 it acc env') R s₂ := compStart1 loop (X.self loop)
theorem off1_mem {D : Addr} {l : Led} (h : LCg.Off1 D l) : ∀ p ∈ l, p.1 ≠ D := by
  induction l with
  | nil => intro p hp; exact nomatch hp
  | cons q l ih =>
    intro p hp
    rcases List.mem_cons.mp hp with e | hp
    · rw [e]; exact h.1
    · exact ih h.2 p hp
open LCg in
structure InWD (prog : Program) (w : World) (A : Around) (h₀ : Heap) (L : Addr) (m : Str → Option Value) (env : Env) (t2 : Expr) (f2 : List Expr) (elt : Expr) (scope : Scope) (cl : List (Str × Addr)) (I C D : Addr) (oI : Obj) (ys : List Value) (J' : List Value → Led → Prop) (s₁ : Shared) (it2 : Value) (s₄ : Shared) (h : Heap) (tk : Nat) (K : (Str → Option Value) → Prop) (news₄ : Led) (oC : Obj) (m₂ : Str → Option Value) : Prop where
  c1 : s₄ = { s₁ with heap := h, toks := tk }
  c2 : Fr h₀ L h m
  c3 : News h₀ L h ((C, oC) :: (D, lst ys) :: news₄)
  c4 : NsObj oC m₂
  c5 : K m₂
  c6 : (∀ p ∈ news₄, p.1 ≠ C ∧ p.1 ≠ D)
  c7 : CompW prog w A h₀ L m env t2 f2 elt scope cl K ys (fun ys' nw' => ∃ nw'', (I, oI) ∈ nw' ∧ (∀ p ∈ nw'', p ∈ nw') ∧ (∀ p ∈ nw'', p.1 ≠ I) ∧ J' ys' nw'') it2 s₄ news₄
open LCg in
/-- what the inner loop is to do in a turn of the outer one -/
noncomputable def InW (prog : Program) (w : World) (A : Around) (h₀ : Heap) (L : Addr) (m : Str → Option Value) (env : Env) (t2 : Expr) (f2 : List Expr) (elt : Expr) (scope : Scope) (cl : List (Str × Addr)) (I C D : Addr) (oI : Obj) (ys : List Value) (J' : List Value → Led → Prop) (s₁ : Shared) (it2 : Value) (s₄ : Shared) : Prop :=
  ∃ (h : Heap) (tk : Nat) (K : (Str → Option Value) → Prop) (news₄ : Led) (oC : Obj) (m₂ : Str → Option Value), InWD prog w A h₀ L m env t2 f2 elt scope cl I C D oI ys J' s₁ it2 s₄ h tk K news₄ oC m₂


open LCg in
structure OutWD (prog : Program) (w : World) (A : Around) (h₀ : Heap) (L : Addr) (m : Str → Option Value) (env : Env) (t1 t2 i2 : Expr) (f2 : List Expr) (elt : Expr) (scope : Scope) (cl : List (Str × Addr)) (ys₀ : List Value)
    (Fin : List Value → Led → Prop) (it : Value) (s₂ : Shared) (news₀ : Led) (I : Addr) (fp : List Addr) (n : Nat) (P : Nat → Value → Prop) (St : Nat → Heap → Prop) (J : Nat → List Value → Led → Prop) (B : Nat → Value → Led → (Str → Option Value) → Prop) : Prop where
  c1 : it = .ref I
  c2 : Walks prog w A I fp [I] n P St
  c3 : (∀ i h, St i h → ∃ o, h.get? I = some o)
  c4 : (∀ i h h' o nw ys, St i h → h.get? I = some o → h'.get? I = some o → Fr h₀ L h' m → News h₀ L h' nw → J i ys nw → St i h')
  c5 : (∀ i v (s' : Shared) (Q' : Unit → Shared → Prop) (E' : Value → Shared → Prop), P i v → St (i + 1) s'.heap → Q' () s' → wpAny (model prog w) A (letOwnedTupleGo t1 (.ref I) v) Q' E' s')
  c6 : AsgW prog w A env t1 scope cl P J (fun _ => True) B
  c7 : St 0 s₂.heap
  c8 : (∃ o, (I, o) ∈ news₀)
  c9 : (∃ nw, (∀ p ∈ nw, p ∈ news₀) ∧ (∀ p ∈ nw, p.1 ≠ I) ∧ J 0 ys₀ nw)
  c10 : (∀ i v ys nw oI oC C D m₂ h tk (E' : Value → Shared → Prop), i < n → P i v → J i ys nw → B i v nw m₂ → NsObj oC m₂ → Fr h₀ L h m → News h₀ L h ((I, oI) :: (C, oC) :: (D, lst ys) :: nw) → Off3 I C D nw → ((@Ne Nat I C) ∧ (@Ne Nat I D) ∧ (@Ne Nat C D)) → wpAny (model prog w) A (eval i2 (compEnvC scope cl C env)) (fun xv s₃ => wpAny (model prog w) A (pyIter xv) (fun it2 s₄ => InW prog w A h₀ L m env t2 f2 elt scope cl I C D oI ys (J (i + 1)) { s₂ with heap := h, toks := tk } it2 s₄) E' s₃) E' { s₂ with heap := h, toks := tk })
  c11 : (∀ ys nw, J n ys nw → Fin ys nw)
open LCg in
noncomputable def OutW (prog : Program) (w : World) (A : Around) (h₀ : Heap) (L : Addr) (m : Str → Option Value) (env : Env) (t1 t2 i2 : Expr) (f2 : List Expr) (elt : Expr) (scope : Scope) (cl : List (Str × Addr)) (ys₀ : List Value)
    (Fin : List Value → Led → Prop) (it : Value) (s₂ : Shared) (news₀ : Led) : Prop :=
  ∃ (I : Addr) (fp : List Addr) (n : Nat) (P : Nat → Value → Prop) (St : Nat → Heap → Prop) (J : Nat → List Value → Led → Prop) (B : Nat → Value → Led → (Str → Option Value) → Prop), OutWD prog w A h₀ L m env t1 t2 i2 f2 elt scope cl ys₀ Fin it s₂ news₀ I fp n P St J B


open LCg in
theorem compLoop_outer {elt t1 i1 t2 i2 : Expr} {f2 : List Expr} {scope : Scope} {cl : List (Str × Addr)} {pos : Pos} {ys₀ : List Value} {Fin : List Value → Led → Prop} {it : Value} {s₂ : Shared} {C D : Addr} {news₀ : Led} {m₀ : Str → Option Value} {R : Result → Shared → Prop}
    (hs : ∀ x e, foldedSetIterable i2 e x = pure x)
    (hC : s₂.heap.Ns C m₀) (F : Fr h₀ L s₂.heap m) (N : News h₀ L s₂.heap ((D, lst ys₀) :: news₀)) (hC₀ : h₀.get? C = none) (hCL : C ≠ L) (offC : ∀ p ∈ (D, lst ys₀) :: news₀, p.1 ≠ C) (offD : ∀ p ∈ news₀, p.1 ≠ D)
    (X : OutW prog w A h₀ L m env t1 t2 i2 f2 elt scope cl ys₀ Fin it s₂ news₀)
    (hR : ∀ h tk m' ys nw, Fr h₀ L h m → News h₀ L h ((D, lst ys) :: nw) → Off1 D nw → (∀ p ∈ nw, p.1 ≠ C) → h.Ns C m' → Fin ys nw → R (.ok .next) { s₂ with heap := h, toks := tk }) :
    codeAny (model prog w) A (.compLoop (.ListComp elt [⟨t1, i1, [], 0⟩, ⟨t2, i2, f2, 0⟩] scope pos) 0 it (.ref D) (compEnvC scope cl C env)) R s₂ := by
  obtain ⟨I, fp, n, P, St, J, B, rfl, W, hIo, hst, hgo, hasg, st0, ⟨oI₀, hI₀⟩, ⟨nw₀, sub₀, off₀, hJ₀⟩, turn, done⟩ := X
  have hIm := N _ (.tail _ hI₀)
  have hIL : L ≠ I := fun q => hIm.2.1 q.symm
  have hI0 := hIm.2.2
  have hCI : I ≠ C := offC _ (.tail _ hI₀)
  have hID : I ≠ D := offD _ hI₀
  have hDm := N _ (.head _)
  have hDC : D ≠ C := offC _ (.head _)
  have off3₀ : Off3 I C D nw₀ := Off3.of fun p hp => ⟨off₀ p hp, offC _ (.tail _ (sub₀ p hp)), offD _ (sub₀ p hp)⟩
  obtain ⟨oC₀, heC₀, hoC₀⟩ := ns_obj hC
  refine codeAny_loop rfl (LastInv h₀ L m I C D n St (fun _ => True) J s₂) (fun k s' hI => ?_) (n + 1)
    ⟨s₂.heap, s₂.toks, 0, ys₀, nw₀, oI₀, oC₀, _, rfl, Nat.zero_le _, rfl, st0, F, newsPut hIm.1 hIm.2 (newsPut heC₀ ⟨hCL, hC₀⟩ (newsPut hDm.1 hDm.2 fun p hp => N p (.tail _ (sub₀ p hp)))), hoC₀, trivial, off3₀, hJ₀⟩
  show wpAny _ A ((compTurn (.ListComp elt [⟨t1, i1, [], 0⟩, ⟨t2, i2, f2, 0⟩] scope pos) 0 (.ref I) (.ref D) (compEnvC scope cl C env)).onRaise (fun x => do noteFrame x (compEnvC scope cl C env); theTreesLotGoes x)) _ _ s'
  refine wpAny_noted ?_
  refine opaq ?_
  intro Q₁ E₁ hQ₁
  rw [outerTurn]
  obtain ⟨h', tk, i, ys, nw, oI, oC, m₂, rfl, hi, rfl, st', F', N', hoC, _, off', hJ'⟩ := hI
  refine wpAny_bind (wpAny_standAt (wpAny_bind ?_))
  have off3 := off'.mem
  have offI : ∀ p ∈ (C, oC) :: (D, lst ys) :: nw, p.1 ≠ I := List.forall_mem_cons.mpr ⟨hCI.symm, List.forall_mem_cons.mpr ⟨hID.symm, fun p hp => (off3 p hp).1⟩⟩
  have next : ∀ h₁ : Heap, (∀ b o, b ∉ [I] → h'.get? b = some o → h₁.get? b = some o) → Fr h₀ L h₁ m ∧ News h₀ L h₁ ((C, oC) :: (D, lst ys) :: nw) := fun h₁ hk => ⟨fr_but F' hk hIL hI0, news_but (fun p hp => N' p (.tail _ hp)) hk offI⟩
  by_cases hlt : i < n
  · refine W.item i _ _ _ hlt st' fun v h₁ tk₁ hP st₁ hk₁ => ?_
    obtain ⟨F₁, N₁⟩ := next h₁ hk₁
    refine wpAny_bind (hgo i v _ _ _ hP st₁ ?_)
    refine wpAny_bind (hasg i v ys nw C _ m₂ _ _ hP hJ' (fun p hp => (N₁ p (.tail _ (.tail _ hp))).1) (hoC.ns (N₁ _ (.head _)).1) trivial fun h₂ tk₂ m₃ hn₂ hk₂ hB _ => ?_)
    obtain ⟨o₁, ho₁⟩ := hIo _ _ st₁
    obtain ⟨oC₂, heC₂, hoC₂⟩ := ns_obj hn₂
    have N₂ : News h₀ L h₂ ((I, o₁) :: (C, oC₂) :: (D, lst ys) :: nw) := newsPut (hk₂ _ _ hCI ho₁) hIm.2 (newsPut heC₂ ⟨hCL, hC₀⟩ (newsMove (newsRest N₁) fun p hp z => hk₂ _ _ ((List.forall_mem_cons.mpr ⟨hDC, fun p hp => (off3 p hp).2.1⟩ : ∀ p ∈ (D, lst ys) :: nw, p.1 ≠ C) p hp) z))
    refine wpAny_bind (wpAny_mono (turn i v ys nw o₁ oC₂ C D m₃ h₂ tk₂ _ hlt hP hJ' hB hoC₂ (frC F₁ hCL hC₀ hk₂) N₂ off' ⟨hCI, hID, hDC.symm⟩) (fun xv s₃ h₃ => ?_) fun _ _ e => e)
    clear N₂ N₁ F₁ next offI N' F' off3
    refine wpAny_bind (wpAny_standAt (wpAny_bind (wpAny_of_eq (hs _ _) ?_)))
    refine wpAny_bind (wpAny_holding (wpAny_mono h₃ (fun it2 s₄ h₄ => ?_) fun _ _ e => e))
    obtain ⟨h₄, tk₄, K₂, news₄, oC₄, m₄, rfl, F₄, N₄, hoC₄, hK₄, off₄, X₄⟩ := h₄
    have offC₄ : ∀ p ∈ (D, lst ys) :: news₄, p.1 ≠ C := List.forall_mem_cons.mpr ⟨hDC, fun p hp => (off₄ p hp).1⟩
    refine wpAny_bind (wpAny_runOwn (start_self X₄ ?_))
    show codeAny (model prog w) A _ _ _
    refine compLoop_last (lastTurn2 elt t1 i1 t2 i2 [] f2 scope pos) (hoC₄.ns (N₄ _ (.head _)).1) hK₄ F₄ (newsRest N₄) hC₀ hCL offC₄ (fun p hp => (off₄ p hp).2) X₄ ?_
    intro h₅ tk₅ m₅ ys' nw' F₅ N₅ o1 oC hn₅ ⟨nw'', hI₅, sub₅, off₅, hJ₅⟩
    obtain ⟨oC₅, heC₅, hoC₅⟩ := ns_obj hn₅
    have zI := N₅ _ (.tail _ hI₅)
    refine wpAny_pure (hQ₁ _ _ ⟨rfl, n + 1 - (i + 1), by omega, h₅, tk₅, i + 1, ys', nw'', o₁, oC₅, m₅, rfl, hlt, rfl, ?_, F₅, ?_, hoC₅, trivial, ?_, hJ₅⟩)
    · exact hst _ _ _ _ nw'' ys' st₁ ho₁ zI.1 F₅ (fun p hp => N₅ p (.tail _ (sub₅ p hp))) hJ₅
    · exact newsPut zI.1 zI.2 (newsPut heC₅ ⟨hCL, hC₀⟩ (newsPut (N₅ _ (.head _)).1 (N₅ _ (.head _)).2 fun p hp => N₅ p (.tail _ (sub₅ p hp))))
    · exact Off3.of fun p hp => ⟨off₅ p hp, oC p (sub₅ p hp), off1_mem o1 p (sub₅ p hp)⟩
  · obtain rfl : i = n := by omega
    refine W.done _ _ _ st' fun h₁ tk₁ hk₁ => wpAny_pure ?_
    obtain ⟨F₁, N₁⟩ := next h₁ hk₁
    exact hQ₁ _ _ (hR h₁ tk₁ m₂ ys nw F₁ (newsRest N₁) off'.one (fun p hp => (off3 p hp).2.1) (hoC.ns (N₁ _ (.head _)).1) (done ys nw hJ'))

noncomputable def listIter (ax : Addr) : Obj := { cls := .type "list_iterator", data := .fields #[.ref ax, .int 0 0] }
open LCg in
/-- a list as the source of a block's loop -/
theorem list_compW {target elt : Expr} {ifs : List Expr} {scope : Scope} {cl : List (Str × Addr)} {K : (Str → Option Value) → Prop} {ys₀ : List Value} {Fin : List Value → Led → Prop}
    (hh : A.handled = none) {ax : Addr} {vs : List Value} {ep : Nat} {news nw₀ : Led} (N : News h₀ L s.heap news) (hl : (ax, listOf vs.toArray ep) ∈ news)
    (J : Nat → List Value → Led → Prop) (B : Nat → Value → Led → (Str → Option Value) → Prop) (asg : AsgW prog w A env target scope cl (fun i v => vs[i]? = some v) J K B) (hlen : ∀ i ys nw, J i ys nw → ys.length ≤ sizeLine)
    (hS : ∀ i ys nw, J i ys nw → (ax, listOf vs.toArray ep) ∈ nw) (J0 : J 0 ys₀ nw₀) (sub : ∀ p ∈ nw₀, p ∈ news)
    (turn : ∀ i v ys nw I oI oC C D m₂ h tk (E' : Value → Shared → Prop), i < vs.length → vs[i]? = some v → J i ys nw → B i v nw m₂ → K m₂ → NsObj oC m₂ → Fr h₀ L h m → News h₀ L h ((I, oI) :: (C, oC) :: (D, lst ys) :: nw) → Off3 I C D nw → ((@Ne Nat I C) ∧ (@Ne Nat I D) ∧ (@Ne Nat C D)) →
      wpAny (model prog w) A (testsOf ifs (compEnvC scope cl C env)) (fun ok s₃ => if ok = true then wpAny (model prog w) A (eval elt (compEnvC scope cl C env)) (EltE h₀ L m I C D oI oC ys (J (i + 1)) { s with heap := h, toks := tk }) E' s₃
        else SkipE h₀ L m I C D oI oC ys (J (i + 1)) { s with heap := h, toks := tk } s₃) E' { s with heap := h, toks := tk })
    (done : ∀ ys nw, J vs.length ys nw → Fin ys nw) :
    CompW prog w A h₀ L m env target ifs elt scope cl K ys₀ Fin (.ref s.heap.objs.size) { s with heap := s.heap.push (listIter ax) } ((s.heap.objs.size, listIter ax) :: news) := by
  have hax := N _ hl
  have hL : s.heap.IsList ax vs.toArray := ⟨_, hax.1, rfl, ep, rfl⟩
  have hne : ax ≠ s.heap.objs.size := Nat.ne_of_lt (Heap.lt_size hax.1)
  have W := Walks.list (prog := prog) (w := w) hh s.heap.objs.size ax hne vs.toArray
  have hlen' : vs.toArray.size = vs.length := by simp
  rw [hlen'] at W
  have e : ∀ i : Nat, vs.toArray[i]? = vs[i]? := fun i => by simp
  refine ⟨s.heap.objs.size, _, vs.length, _, _, J, B, rfl, W, ?_, ?_, ?_, ?_, hlen, ?_, ⟨_, .head _⟩, ⟨nw₀, fun p hp => .tail _ (sub p hp), fun p hp => Nat.ne_of_lt (Heap.lt_size (N p (sub p hp)).1), J0⟩, ?_, done⟩
  · rintro i h ⟨⟨o, ho, _⟩, _⟩
    exact ⟨o, ho⟩
  · rintro i h h' o nw ys ⟨b, c⟩ e1 e2 F' N' hJ
    refine ⟨b.at (fun o' e => ?_), ⟨_, (N' _ (hS _ _ _ hJ)).1, rfl, ep, rfl⟩⟩
    rw [e1] at e; cases e; exact e2
  · intro i v s' Q' E' _ st h
    exact letGo_listiter st.1 h
  · intro i v ys nw C s₁ m₂ Q' E' hP
    exact asg i v ys nw C s₁ m₂ Q' E' ((e i).symm.trans hP)
  · exact ⟨⟨_, Heap.get?_push_size _ rfl, rfl, rfl⟩, hL.push _⟩
  · intro i v ys nw oI oC C D m₂ h tk E' hi hP _
    exact turn i v ys nw _ oI oC C D m₂ h tk E' hi ((e i).symm.trans hP)
open LCg in
/-- a list as the source of a block's last loop, behind which the walk goes on -/
theorem comp_listE {target elt : Expr} {ifs : List Expr} {scope : Scope} {cl : List (Str × Addr)} {K : (Str → Option Value) → Prop} {ys₀ : List Value} {Fin : Shared → List Value → Led → Prop}
    (hh : A.handled = none) {ax : Addr} {vs : List Value} {ep : Nat} {news nw₀ : Led} (F : Fr h₀ L s.heap m) (N : News h₀ L s.heap news) (hl : (ax, listOf vs.toArray ep) ∈ news)
    (J : Nat → List Value → Led → Prop) (B : Nat → Value → Led → (Str → Option Value) → Prop) (asg : AsgW prog w A env target scope cl (fun i v => vs[i]? = some v) J K B) (hlen : ∀ i ys nw, J i ys nw → ys.length ≤ sizeLine)
    (hS : ∀ i ys nw, J i ys nw → (ax, listOf vs.toArray ep) ∈ nw) (J0 : J 0 ys₀ nw₀) (sub : ∀ p ∈ nw₀, p ∈ news)
    (turn : ∀ i v ys nw I oI oC C D m₂ h tk (E' : Value → Shared → Prop), i < vs.length → vs[i]? = some v → J i ys nw → B i v nw m₂ → K m₂ → NsObj oC m₂ → Fr h₀ L h m → News h₀ L h ((I, oI) :: (C, oC) :: (D, lst ys) :: nw) → Off3 I C D nw → ((@Ne Nat I C) ∧ (@Ne Nat I D) ∧ (@Ne Nat C D)) →
      wpAny (model prog w) A (testsOf ifs (compEnvC scope cl C env)) (fun ok s₃ => if ok = true then wpAny (model prog w) A (eval elt (compEnvC scope cl C env)) (EltE h₀ L m I C D oI oC ys (J (i + 1)) { s with heap := h, toks := tk }) E' s₃
        else SkipE h₀ L m I C D oI oC ys (J (i + 1)) { s with heap := h, toks := tk } s₃) E' { s with heap := h, toks := tk })
    (done : ∀ g ys nw, J vs.length ys nw → Fin { s with heap := g } ys nw) :
    wpAny (model prog w) A (pyIter (.ref ax)) (fun it s₂ => ∃ news₀, Fr h₀ L s₂.heap m ∧ News h₀ L s₂.heap news₀ ∧ CompW prog w A h₀ L m env target ifs elt scope cl K ys₀ (Fin s₂) it s₂ news₀) E s :=
  wpAny_pyIter_list ⟨_, (N _ hl).1, rfl, ep, rfl⟩ ⟨_, F.push _, News.push F N _, list_compW hh N hl J B asg hlen hS J0 sub turn (done _)⟩
open LCg in
/-- a list as the source of the inner loop -/
theorem in_listE {target elt : Expr} {ifs : List Expr} {scope : Scope} {cl : List (Str × Addr)} {K : (Str → Option Value) → Prop} {ys₀ : List Value} {J' : List Value → Led → Prop} {I C D : Addr} {oI oC : Obj} {s₁ : Shared} {m₂ : Str → Option Value}
    (hh : A.handled = none) {ax : Addr} {vs : List Value} {ep : Nat} {news₀ news nw₀ : Led} (F : Fr h₀ L s.heap m) (N₀ : News h₀ L s.heap news₀) (hC : (C, oC) ∈ news₀) (hD : (D, lst ys₀) ∈ news₀) (hsub : ∀ p ∈ news, p ∈ news₀) (hoff : ∀ p ∈ news, p.1 ≠ C ∧ p.1 ≠ D)
    (hoC : NsObj oC m₂) (hK : K m₂) (hl : (ax, listOf vs.toArray ep) ∈ news)
    (J : Nat → List Value → Led → Prop) (B : Nat → Value → Led → (Str → Option Value) → Prop) (asg : AsgW prog w A env target scope cl (fun i v => vs[i]? = some v) J K B) (hlen : ∀ i ys nw, J i ys nw → ys.length ≤ sizeLine)
    (hS : ∀ i ys nw, J i ys nw → (ax, listOf vs.toArray ep) ∈ nw) (J0 : J 0 ys₀ nw₀) (sub : ∀ p ∈ nw₀, p ∈ news)
    (turn : ∀ i v ys nw I oI oC C D m₂ h tk (E' : Value → Shared → Prop), i < vs.length → vs[i]? = some v → J i ys nw → B i v nw m₂ → K m₂ → NsObj oC m₂ → Fr h₀ L h m → News h₀ L h ((I, oI) :: (C, oC) :: (D, lst ys) :: nw) → Off3 I C D nw → ((@Ne Nat I C) ∧ (@Ne Nat I D) ∧ (@Ne Nat C D)) →
      wpAny (model prog w) A (testsOf ifs (compEnvC scope cl C env)) (fun ok s₃ => if ok = true then wpAny (model prog w) A (eval elt (compEnvC scope cl C env)) (EltE h₀ L m I C D oI oC ys (J (i + 1)) { s with heap := h, toks := tk }) E' s₃
        else SkipE h₀ L m I C D oI oC ys (J (i + 1)) { s with heap := h, toks := tk } s₃) E' { s with heap := h, toks := tk })
    (done : ∀ ys nw, J vs.length ys nw → ∃ nw'', (I, oI) ∈ nw ∧ (∀ p ∈ nw'', p ∈ nw) ∧ (∀ p ∈ nw'', p.1 ≠ I) ∧ J' ys nw'') (hs : s = { s₁ with heap := s.heap, toks := s.toks }) :
    wpAny (model prog w) A (pyIter (.ref ax)) (InW prog w A h₀ L m env target ifs elt scope cl I C D oI ys₀ J' s₁) E s := by
  have N : News h₀ L s.heap news := fun p hp => N₀ p (hsub p hp)
  refine wpAny_pyIter_list ⟨_, (N _ hl).1, rfl, ep, rfl⟩ ⟨s.heap.push (listIter ax), s.toks, K, (s.heap.objs.size, listIter ax) :: news, oC, m₂, ?_, F.push _, ?_, hoC, hK, ?_, ?_⟩
  · show ({ s with heap := s.heap.push (listIter ax) } : Shared) = _
    rw [hs]
  · intro p hp
    rcases List.mem_cons.mp hp with rfl | hp
    · exact ⟨Heap.get?_push_of_some _ (N₀ _ hC).1, (N₀ _ hC).2⟩
    · rcases List.mem_cons.mp hp with rfl | hp
      · exact ⟨Heap.get?_push_of_some _ (N₀ _ hD).1, (N₀ _ hD).2⟩
      · have N1 : News h₀ L (s.heap.push (listIter ax)) ((s.heap.objs.size, listIter ax) :: news) := News.push F N (listIter ax)
        exact N1 p hp
  · intro p hp
    rcases List.mem_cons.mp hp with rfl | hp
    · exact ⟨Nat.ne_of_gt (Heap.lt_size (N₀ _ hC).1), Nat.ne_of_gt (Heap.lt_size (N₀ _ hD).1)⟩
    · exact hoff p hp
  · exact list_compW hh N hl J B asg hlen hS J0 sub turn done
open LCg in
/-- a list as the source of a block's first loop of two -/
theorem out_listE {t1 t2 i2 elt : Expr} {f2 : List Expr} {scope : Scope} {cl : List (Str × Addr)} {ys₀ : List Value} {Fin : Shared → List Value → Led → Prop}
    (hh : A.handled = none) {ax : Addr} {vs : List Value} {ep : Nat} {news nw₀ : Led} (F : Fr h₀ L s.heap m) (N : News h₀ L s.heap news) (hl : (ax, listOf vs.toArray ep) ∈ news)
    (J : Nat → List Value → Led → Prop) (B : Nat → Value → Led → (Str → Option Value) → Prop) (asg : AsgW prog w A env t1 scope cl (fun i v => vs[i]? = some v) J (fun _ => True) B)
    (hS : ∀ i ys nw, J i ys nw → (ax, listOf vs.toArray ep) ∈ nw) (J0 : J 0 ys₀ nw₀) (sub : ∀ p ∈ nw₀, p ∈ news)
    (turn : ∀ i v ys nw I oI oC C D m₂ h tk (E' : Value → Shared → Prop), i < vs.length → vs[i]? = some v → J i ys nw → B i v nw m₂ → NsObj oC m₂ → Fr h₀ L h m → News h₀ L h ((I, oI) :: (C, oC) :: (D, lst ys) :: nw) → Off3 I C D nw → ((@Ne Nat I C) ∧ (@Ne Nat I D) ∧ (@Ne Nat C D)) →
      wpAny (model prog w) A (eval i2 (compEnvC scope cl C env)) (fun xv s₃ => wpAny (model prog w) A (pyIter xv) (fun it2 s₄ => InW prog w A h₀ L m env t2 f2 elt scope cl I C D oI ys (J (i + 1)) { s with heap := h, toks := tk } it2 s₄) E' s₃) E' { s with heap := h, toks := tk })
    (done : ∀ g ys nw, J vs.length ys nw → Fin { s with heap := g } ys nw) :
    wpAny (model prog w) A (pyIter (.ref ax)) (fun it s₂ => ∃ news₀, Fr h₀ L s₂.heap m ∧ News h₀ L s₂.heap news₀ ∧ OutW prog w A h₀ L m env t1 t2 i2 f2 elt scope cl ys₀ (Fin s₂) it s₂ news₀) E s := by
  have hax := N _ hl
  have hL : s.heap.IsList ax vs.toArray := ⟨_, hax.1, rfl, ep, rfl⟩
  have hne : ax ≠ s.heap.objs.size := Nat.ne_of_lt (Heap.lt_size hax.1)
  refine wpAny_pyIter_list hL ⟨_, F.push _, News.push F N _, ?_⟩
  have W := Walks.list (prog := prog) (w := w) hh s.heap.objs.size ax hne vs.toArray
  have hlen' : vs.toArray.size = vs.length := by simp
  rw [hlen'] at W
  have e : ∀ i : Nat, vs.toArray[i]? = vs[i]? := fun i => by simp
  refine ⟨s.heap.objs.size, _, vs.length, _, _, J, B, rfl, W, ?_, ?_, ?_, ?_, ?_, ⟨_, .head _⟩, ⟨nw₀, fun p hp => .tail _ (sub p hp), fun p hp => Nat.ne_of_lt (Heap.lt_size (N p (sub p hp)).1), J0⟩, ?_, done _⟩
  · rintro i h ⟨⟨o, ho, _⟩, _⟩
    exact ⟨o, ho⟩
  · rintro i h h' o nw ys ⟨b, c⟩ e1 e2 F' N' hJ
    refine ⟨b.at (fun o' e => ?_), ⟨_, (N' _ (hS _ _ _ hJ)).1, rfl, ep, rfl⟩⟩
    rw [e1] at e; cases e; exact e2
  · intro i v s' Q' E' _ st h
    exact letGo_listiter st.1 h
  · intro i v ys nw C s₁ m₂ Q' E' hP
    exact asg i v ys nw C s₁ m₂ Q' E' ((e i).symm.trans hP)
  · exact ⟨⟨_, Heap.get?_push_size _ rfl, rfl, rfl⟩, hL.push _⟩
  · intro i v ys nw oI oC C D m₂ h tk E' hi hP
    exact turn i v ys nw _ oI oC C D m₂ h tk E' hi ((e i).symm.trans hP)
end
set_option maxHeartbeats 8000000
section
variable {prog : Program} {w : World} {A : Around} {E : Value → Shared → Prop} {s : Shared} {env : Env} {h₀ : Heap} {L : Addr} {m : Str → Option Value}

open LCg in
theorem OutW.grow {t1 t2 i2 elt : Expr} {f2 : List Expr} {scope : Scope} {cl : List (Str × Addr)} {ys₀ : List Value} {Fin : List Value → Led → Prop} {it : Value} {s₂ : Shared} {news₀ news₁ : Led} {h₁ : Heap} {t₁ : Nat}
    (X : OutW prog w A h₀ L m env t1 t2 i2 f2 elt scope cl ys₀ Fin it s₂ news₀) (old : ∀ b o, s₂.heap.get? b = some o → h₁.get? b = some o) (sub : ∀ p ∈ news₀, p ∈ news₁) :
    OutW prog w A h₀ L m env t1 t2 i2 f2 elt scope cl ys₀ Fin it { s₂ with heap := h₁, toks := t₁ } news₁ := by
  obtain ⟨I, fp, n, P, St, J, B, rfl, W, hIo, hst, hgo, hasg, st0, ⟨oI₀, hI₀⟩, ⟨nw₀, sub₀, off₀, hJ₀⟩, turn, done⟩ := X
  exact ⟨I, fp, n, P, St, J, B, rfl, W, hIo, hst, hgo, hasg, W.frame _ _ _ st0 fun b _ o e => old b o e, ⟨oI₀, sub _ hI₀⟩, ⟨nw₀, fun p hp => sub p (sub₀ p hp), off₀, hJ₀⟩, turn, done⟩

theorem OutW.self {t1 t2 i2 elt : Expr} {f2 : List Expr} {scope : Scope} {cl : List (Str × Addr)} {ys₀ : List Value} {Fin : List Value → Led → Prop} {it : Value} {s₂ : Shared} {news₀ : Led}
    (X : OutW prog w A h₀ L m env t1 t2 i2 f2 elt scope cl ys₀ Fin it s₂ news₀) {Q' : Value → Shared → Prop} {E' : Value → Shared → Prop} (h : Q' it s₂) : wpAny (model prog w) A (pyIter it) Q' E' s₂ := by
  obtain ⟨I, fp, n, P, St, J, B, rfl, W, _, _, _, _, st0, _⟩ := X
  exact W.self 0 _ _ _ st0 h

open LCg in
/-- a block of one loop -/
theorem block2 {elt t1 t2 i2 iter : Expr} {f2 : List Expr} {scope : Scope} {cl : List (Str × Addr)} {pos : Pos} {Fin : List Value → Led → Prop} {it : Value} {s₂ : Shared} {news₀ : Led} {RR : Value → Addr → Result → Shared → Prop}
    (hs2 : ∀ x e, foldedSetIterable i2 e x = pure x) (hcell : ∀ y ∈ scope.names, y.2 ≠ .cell) (hkind : scope.kind = .function) (F : Fr h₀ L s₂.heap m) (N : News h₀ L s₂.heap news₀)
    (X : OutW prog w A h₀ L m env t1 t2 i2 f2 elt scope cl [] Fin it s₂ news₀)
    (hRR : ∀ D C h tk m' ys nw, Fr h₀ L h m → News h₀ L h ((D, lst ys) :: nw) → Off1 D nw → h.Ns C m' → h₀.get? C = none → C ≠ L → C ≠ D → (∀ p ∈ nw, p.1 ≠ C) → Fin ys nw → RR (.ref D) C (.ok .next) { s₂ with heap := h, toks := tk }) :
    wpAny (model prog w) A (newList []) (fun acc s₃ => wpAny (model prog w) A (newFunctionEnv scope env.globals cl [] env.qual none .none (some env)) (fun cenv s₄ =>
      codeAny (model prog w) A (.compStart (.ListComp elt [⟨t1, iter, [], 0⟩, ⟨t2, i2, f2, 0⟩] scope pos) 0 it acc { cenv with scope := relabel scope env }) (RR acc cenv.locals) s₄) E s₃) E s₂ := by
  refine wpAny_newObj_type (wpAny_newFunctionEnv hcell (by intro y hy; simp at hy) (fun h₁ hns₁ hsb₁ => ?_) hkind)
  dsimp only at hns₁ hsb₁ ⊢
  generalize hH2 : s₂.heap.push { cls := .type "list", dict := none, data := .seq ([] : List Value).toArray } = H2 at hns₁ hsb₁ ⊢
  have hC : H2.objs.size = s₂.heap.objs.size + 1 := by rw [← hH2, Heap.size_push]
  have hDC : s₂.heap.objs.size ≠ H2.objs.size := by rw [hC]; exact Nat.ne_of_lt (Nat.lt_succ_self _)
  have below : ∀ b, b < s₂.heap.objs.size → b ≠ H2.objs.size ∧ b ≠ s₂.heap.objs.size := fun b hb => ⟨by rw [hC]; exact Nat.ne_of_lt (Nat.lt_succ_of_lt hb), Nat.ne_of_lt hb⟩
  have old : ∀ b o, s₂.heap.get? b = some o → h₁.get? b = some o := fun b o e => hsb₁.extBut b o (below b (Heap.lt_size e)).1 (Heap.get?_push_of_some _ (hH2 ▸ Heap.get?_push_of_some _ e))
  have hacc : h₁.get? s₂.heap.objs.size = some (lst []) := hsb₁.extBut _ _ hDC (Heap.get?_push_of_some _ (hH2 ▸ Heap.get?_push_size _ rfl))
  have fresh₀ : ∀ a, s₂.heap.objs.size ≤ a → h₀.get? a = none := fun a ha => by
    cases e : h₀.get? a with
    | none => rfl
    | some o' => exact absurd (Heap.lt_size (F.keep a o' e)) (Nat.not_lt.mpr ha)
  have hLlt : L < s₂.heap.objs.size := F.ns.lt
  have hC₀ : h₀.get? H2.objs.size = none := fresh₀ _ (by rw [hC]; exact Nat.le_succ _)
  have hCL : H2.objs.size ≠ L := Ne.symm (below L hLlt).1
  have hDL : s₂.heap.objs.size ≠ L := Ne.symm (below L hLlt).2
  have N₁ : News h₀ L h₁ ((s₂.heap.objs.size, lst []) :: news₀) := fun p hp => by
    rcases List.mem_cons.mp hp with rfl | hp
    · exact ⟨hacc, hDL, fresh₀ _ (Nat.le_refl _)⟩
    · exact ⟨old _ _ (N p hp).1, (N p hp).2⟩
  have X₁ := X.grow (t₁ := s₂.toks + ([] : List (Str × Value)).length) old (fun _ h => h)
  have loop : codeAny (model prog w) A (.compLoop (.ListComp elt [⟨t1, iter, [], 0⟩, ⟨t2, i2, f2, 0⟩] scope pos) 0 it (.ref s₂.heap.objs.size) (compEnvC scope cl H2.objs.size env))
        (RR (.ref s₂.heap.objs.size) H2.objs.size) { s₂ with heap := h₁, toks := s₂.toks + ([] : List (Str × Value)).length } := by
    refine compLoop_outer hs2 hns₁ (F.keeps old) N₁ hC₀ hCL (fun p hp => ?_) (fun p hp => (below _ (Heap.lt_size (N p hp).1)).2) X₁ ?_
    · rcases List.mem_cons.mp hp with rfl | hp
      · exact hDC
      · exact (below _ (Heap.lt_size (N p hp).1)).1
    · intro h tk m' ys nw F' N' o1 oC hn hF
      exact hRR _ _ h tk m' ys nw F' N' o1 hn hC₀ hCL hDC.symm oC hF
  exact codeAny_compStart_list loop (X₁.self loop)

open LCg in
theorem LC2_eval {elt t1 t2 i2 iter : Expr} {f2 : List Expr} {scope : Scope} {cl : List (Str × Addr)} {pos : Pos} {Q : Value → Shared → Prop}
    (hs2 : ∀ x e, foldedSetIterable i2 e x = pure x) (hclos : closureFor scope env = pure cl) (hcell : ∀ y ∈ scope.names, y.2 ≠ .cell) (hkind : scope.kind = .function)
    (hnames : ∀ y ∈ scope.names, y.2 = .local → scope.names.lookup y.1 = some .local)
    (h : wpAny (model prog w) A (eval iter env) (fun xv s₁ => wpAny (model prog w) A (pyIter xv) (fun it s₂ => ∃ news₀, Fr h₀ L s₂.heap m ∧ News h₀ L s₂.heap news₀ ∧
      OutW prog w A h₀ L m env t1 t2 i2 f2 elt scope cl [] (fun ys nw => ∀ D h tk, Fr h₀ L h m → News h₀ L h ((D, lst ys) :: nw) → Off1 D nw → Q (.ref D) { s₂ with heap := h, toks := tk }) it s₂ news₀) E s₁) E s)
    (hs : ∀ x, foldedSetIterable iter env x = pure x := by intro _; rfl) :
    wpAny (model prog w) A (eval (.ListComp elt [⟨t1, iter, [], 0⟩, ⟨t2, i2, f2, 0⟩] scope pos) env) Q E s := by
  rw [eval_ListComp]
  refine wpAny_comprehension_free (use := none) rfl hs hclos hkind hnames (wpAny_mono h (fun xv s₁ h₁ => wpAny_mono h₁ (fun it s₂ h₂ => ?_) fun _ _ e => e) fun _ _ e => e)
  obtain ⟨news₀, F, N, X⟩ := h₂
  refine block2 hs2 hcell hkind F N X ?_
  intro D C h' tk m' ys nw F' N' o1 hn hC₀ hCL hCD offC fin
  refine ⟨m', hn, fun h'' hs'' => fin D h'' tk (F'.change hs'' hCL hC₀) (fun p hp => ?_) o1⟩
  refine ⟨hs''.extBut _ _ ?_ (N' p hp).1, (N' p hp).2⟩
  rcases List.mem_cons.mp hp with rfl | hp
  · exact Ne.symm hCD
  · exact offC p hp

open LCg in
theorem LC2_assign {elt t1 t2 i2 iter : Expr} {f2 : List Expr} {y : Str} {py : Pos} {scope : Scope} {cl : List (Str × Addr)} {pos spos : Pos} {Q : Flow → Shared → Prop} (hLe : env.locals = L)
    (hs2 : ∀ x e, foldedSetIterable i2 e x = pure x) (hsw : swapsWith (.ListComp elt [⟨t1, iter, [], 0⟩, ⟨t2, i2, f2, 0⟩] scope pos) (some (.Name y py)) spos.line env = pure true)
    (hclos : closureFor scope env = pure cl) (hcell : ∀ y ∈ scope.names, y.2 ≠ .cell) (hkind : scope.kind = .function)
    (hnames : ∀ y ∈ scope.names, y.2 = .local → scope.names.lookup y.1 = some .local)
    (hy : env.kindOf y = some .local) (hp : (env.scope.kind == .class || (env.scope.kind == .module && env.locals != env.globals)) = false)
    (h : wpAny (model prog w) A (eval iter env) (fun xv s₁ => wpAny (model prog w) A (pyIter xv) (fun it s₂ => ∃ news₀, Fr h₀ L s₂.heap m ∧ News h₀ L s₂.heap news₀ ∧
      OutW prog w A h₀ L m env t1 t2 i2 f2 elt scope cl [] (fun ys nw => ∀ D h tk, Fr h₀ L h (fun z => if z = y then some (.ref D) else m z) → News h₀ L h ((D, lst ys) :: nw) → Off1 D nw → Q .next { s₂ with heap := h, toks := tk }) it s₂ news₀) E s₁) E s)
    (hs : ∀ x, foldedSetIterable iter env x = pure x := by intro _; rfl) :
    wpAny (model prog w) A (exec (.Assign [.Name y py] (.ListComp elt [⟨t1, iter, [], 0⟩, ⟨t2, i2, f2, 0⟩] scope pos) spos) env) Q E s := by
  subst hLe
  rw [exec_Assign_Name_used _ _ _ _ hsw]
  refine wpAny_bind (wpAny_standAt (wpAny_bind ?_))
  show wpAny _ A (do let _ ← comprehension (.ListComp elt [⟨t1, iter, [], 0⟩, ⟨t2, i2, f2, 0⟩] scope pos) scope env _ (newList []) false (eval iter env) (some (assign (.Name y py) env))) _ _ s
  refine wpAny_bind (wpAny_mono (wpAny_comprehension_free (use := some (assign (.Name y py) env)) (Q := fun _ s' => Q .next s') rfl hs hclos hkind hnames
    (wpAny_mono h (fun xv s₁ h₁ => wpAny_mono h₁ (fun it s₂ h₂ => ?_) fun _ _ e => e) fun _ _ e => e)) (fun _ s' hq => wpAny_pure (wpAny_pure hq)) fun _ _ e => e)
  obtain ⟨news₀, F, N, X⟩ := h₂
  refine block2 hs2 hcell hkind F N X ?_
  intro D C h' tk m' ys nw F' N' o1 hn hC₀ hCL hCD offC fin
  show wpAny _ A (assign (.Name y py) env (.ref D)) _ _ _
  refine wpAny_assign_Name (wpAny_storeName_local hy F'.ns (fun h₂ hn₂ hs₂ => ?_) hp)
  have hL₀ : h₀.get? env.locals = none := Heap.get?_none_of_le F'.above
  have F₂ : Fr h₀ env.locals h₂ (fun z => if z = y then some (.ref D) else m z) := ⟨hn₂, fun b o e => hs₂.extBut b o (fun q => by rw [q, hL₀] at e; cases e) (F'.keep b o e), F'.above⟩
  refine ⟨m', hn.sameBut hs₂ hCL, fun h'' hs'' => fin D h'' _ (F₂.change hs'' hCL hC₀) (fun p hp => ?_) o1⟩
  have z : h₂.get? p.1 = some p.2 := hs₂.extBut _ _ (N' p hp).2.1 (N' p hp).1
  refine ⟨hs''.extBut _ _ ?_ z, (N' p hp).2⟩
  rcases List.mem_cons.mp hp with rfl | hp
  · exact Ne.symm hCD
  · exact offC p hp
end
set_option maxHeartbeats 4000000
/-- 1, 2, 3, 5, 8 -/
noncomputable def fib : Nat → Int
  | 0 => 1
  | 1 => 2
  | k + 2 => fib (k + 1) + fib k
noncomputable def fibs (n : Nat) : List Int := (List.range n).map fib
theorem fibs_succ (n : Nat) : fibs (n + 1) = fibs n ++ [fib n] := by unfold fibs; rw [List.range_succ, List.map_append]; rfl
theorem fibs_length (n : Nat) : (fibs n).length = n := by unfold fibs; simp
theorem fibs_get {n i : Nat} (h : i < n) : (fibs n).getD i 0 = fib i := by unfold fibs; simp [h]
theorem ints_at {vs : List Value} {ns : List Int} (h : IntsAre vs ns) {i : Nat} (hi : i < ns.length) : ∃ t, vs[i]? = some (.int (ns.getD i 0) t) := by
  have hl := h.length
  have hi' : i < vs.length := by omega
  obtain ⟨t, e, _⟩ := ints_get h (List.getElem?_eq_getElem hi')
  exact ⟨t, by rw [List.getElem?_eq_getElem hi', e]⟩
theorem ints_next {vs : List Value} {i : Nat} (hv : IntsAre vs (fibs (i + 2))) {t : Tok} : IntsAre (vs ++ [.int (fib (i + 1) + fib i) t]) (fibs (i + 1 + 2)) := by
  rw [show i + 1 + 2 = (i + 2) + 1 from rfl, fibs_succ]
  exact ints_app hv
section
variable {prog : Program} {w : World} {A : Around} {E : Value → Shared → Prop} {s : Shared} {h₀ : Heap} {L : Addr} {m : Str → Option Value} {news : Led}
theorem negL {value slice : Expr} {l : Addr} {vs : List Value} {x : Value} {j : Nat} {n : Int} {k : Nat} {u : Tok} {Q : Value → Shared → Prop} (N : News h₀ L s.heap news) (ha : (l, listOf vs.toArray k) ∈ news) (hl : vs.length ≤ 1000) (hn : n = -(j : Int)) (h1 : 1 ≤ j) (h2 : j ≤ vs.length) (hx : vs[vs.length - j]? = some x) (h : Q x s)
    (hs : subscripted slice false (.ref l) (.int n u) = operate [.ref l, .int n u] (getItem (.ref l) (.int n u)) := by with_unfolding_all rfl) (hg : ∀ r, letTemporaryGo value (.ref l) r = pure () := by intro _; with_unfolding_all rfl) :
    wpAny (model prog w) A (subscriptTail value slice (.ref l) (.int n u)) Q E s := by
  have hL : s.heap.IsList l vs.toArray := ⟨_, (N _ ha).1, rfl, _, rfl⟩
  subst hn
  refine subscriptTail_builtin hL.typeIs slot_list_getitem.lookup (wpAny_getItem_list_neg hL (by omega) ?_ (by omega) ?_ h) hs hg
  · rw [List.size_toArray]; omega
  · have e : (-(j : Int) + ((vs.toArray.size : Nat) : Int)).toNat = vs.length - j := by
      rw [List.size_toArray]; omega
    rw [e]; simpa using hx
theorem atL {value slice : Expr} {l : Addr} {vs : List Value} {x : Value} {n : Int} {k : Nat} {u : Tok} {Q : Value → Shared → Prop} (N : News h₀ L s.heap news) (ha : (l, listOf vs.toArray k) ∈ news) (h1 : 0 ≤ n) (h2 : n < 2 ^ 62) (hx : vs[n.toNat]? = some x) (h : Q x s)
    (hs : subscripted slice false (.ref l) (.int n u) = operate [.ref l, .int n u] (getItem (.ref l) (.int n u)) := by with_unfolding_all rfl) (hg : ∀ r, letTemporaryGo value (.ref l) r = pure () := by intro _; with_unfolding_all rfl) :
    wpAny (model prog w) A (subscriptTail value slice (.ref l) (.int n u)) Q E s := by
  have hL : s.heap.IsList l vs.toArray := ⟨_, (N _ ha).1, rfl, _, rfl⟩
  exact subscriptTail_builtin hL.typeIs slot_list_getitem.lookup (wpAny_getItem_list hL h1 (by omega) (by simpa using hx) h) hs hg
end
/-- the loop of _law_grown -/
noncomputable def J94 (news : Led) (many : Int) (tm : Tok) (i : Nat) (m : Str → Option Value) (nw : Led) : Prop :=
  ∃ (R : Addr) (vs : List Value) (ep : Nat), m (Str.ofString "row") = some (.ref R) ∧ m (Str.ofString "many") = some (.int many tm) ∧ nw = (R, listOf vs.toArray ep) :: news ∧ IntsAre vs (fibs (i + 2))
noncomputable abbrev IntIs (a : Int) (_ : Led) (v : Value) : Prop := ∃ t, v = .int a t
theorem c94 : ∀ (w : World) (many : Int) (tm : Tok) (h1 : 1 ≤ many) (h2 : many ≤ 64), Does w 94 [.int many tm] 8 (IntIs (fib (many.toNat - 1))) := by
  k_with_none
  k_with "ne" => (first | (refine Nat.ne_of_lt ?_; k_extra "neL") | (refine Nat.ne_of_gt ?_; k_extra "neL") | with_reducible assumption | (refine Ne.symm ?_; with_reducible assumption) | k_extra "neA")
  k_with "neL" => (first | with_reducible assumption | with_reducible exact ltS0 _ | k_extra "neS" | ((fail_if_success with_reducible show _ < 37); (fail_if_success with_reducible show _ < 30); with_reducible refine ltS ?_; k_extra "neL"))
  k_with "neS" => (with_reducible rename (@LT.lt Nat _ _ _ ∧ _) => q; first | (refine ltRt q ?_; first | exact q.1 | exact q.2.1 | exact q.2.2.1 | exact q.2.2.2.1 | exact q.2.2.2.2.1 | exact q.2.2.2.2.2.1 | exact q.2.2.2.2.2.2.1 | exact q.2.2.2.2.2.2.2.1 | exact q.2.2.2.2.2.2.2.2.1 | exact q.2.2.2.2.2.2.2.2.2.1 | exact q.2.2.2.2.2.2.2.2.2.2.1 | exact q.2.2.2.2.2.2.2.2.2.2.2.1 | exact q.2.2.2.2.2.2.2.2.2.2.2.2.1 | exact q.2.2.2.2.2.2.2.2.2.2.2.2.2.1 | exact q.2.2.2.2.2.2.2.2.2.2.2.2.2.2.1 | exact q.2.2.2.2.2.2.2.2.2.2.2.2.2.2.2.1 | exact q.2.2.2.2.2.2.2.2.2.2.2.2.2.2.2.2.1 | exact q.2.2.2.2.2.2.2.2.2.2.2.2.2.2.2.2.2.1) | (clear q; k_extra "neS"))
  k_with "neA" => (with_reducible rename (@Ne _ _ _ ∧ _) => q; first | (refine neLt q ?_; first | exact q.1.symm | exact q.2.1.symm | exact q.2.2.1.symm | exact q.2.2.2.1.symm | exact q.2.2.2.2.1.symm | exact q.2.2.2.2.2.1.symm | exact q.2.2.2.2.2.2.1.symm | exact q.2.2.2.2.2.2.2.1.symm | exact q.2.2.2.2.2.2.2.2.1.symm | exact q.2.2.2.2.2.2.2.2.2.1.symm | exact q.2.2.2.2.2.2.2.2.2.2.1.symm | exact q.2.2.2.2.2.2.2.2.2.2.2.1.symm | exact q.2.2.2.2.2.2.2.2.2.2.2.2.1.symm | exact q.2.2.2.2.2.2.2.2.2.2.2.2.2.1.symm | exact q.2.2.2.2.2.2.2.2.2.2.2.2.2.2.1.symm | exact q.2.2.2.2.2.2.2.2.2.2.2.2.2.2.2.1.symm | exact q.2.2.2.2.2.2.2.2.2.2.2.2.2.2.2.2.1.symm | exact q.2.2.2.2.2.2.2.2.2.2.2.2.2.2.2.2.2.1.symm) | (refine neRt q ?_; first | exact q.1 | exact q.2.1 | exact q.2.2.1 | exact q.2.2.2.1 | exact q.2.2.2.2.1 | exact q.2.2.2.2.2.1 | exact q.2.2.2.2.2.2.1 | exact q.2.2.2.2.2.2.2.1 | exact q.2.2.2.2.2.2.2.2.1 | exact q.2.2.2.2.2.2.2.2.2.1 | exact q.2.2.2.2.2.2.2.2.2.2.1 | exact q.2.2.2.2.2.2.2.2.2.2.2.1 | exact q.2.2.2.2.2.2.2.2.2.2.2.2.1 | exact q.2.2.2.2.2.2.2.2.2.2.2.2.2.1 | exact q.2.2.2.2.2.2.2.2.2.2.2.2.2.2.1 | exact q.2.2.2.2.2.2.2.2.2.2.2.2.2.2.2.1 | exact q.2.2.2.2.2.2.2.2.2.2.2.2.2.2.2.2.1 | exact q.2.2.2.2.2.2.2.2.2.2.2.2.2.2.2.2.2.1) | (clear q; k_extra "neA"))
  k_with "exec For Name Call cons nil" => (k_here; k_dflt (refine for_walk (by k_asm) ?_))
  k_with "subs" => (first | exact sub_nil | exact sub_self | (refine sub_cons (by k_mem) ?_; k_extra "subs") | (refine sub_skip ?_; k_extra "subs"))
  k_with "binaryOp Add ref ref" => (k_here; k_dflt ((with_reducible refine' catL ?zqF ?zqN ?zqa ?zqb ?zqhl ?zqhw ?_); (case zqF => k_asm); (case zqN => k_asm); (case zqa => k_mem); (case zqb => k_mem); (case zqhl => assumption); (case zqhw => exact Nat.le_of_ble_eq_true rfl); k_whole); intro D' h' F' N' l1; (try simp only [List.cons_append, List.nil_append] at N'); (try k_lt l1))
  k_with "subscriptTail Name UnaryOp ref int" => (k_here; k_dflt (refine' negL (j := 1) ?zqN ?zqa ?zqhl ?zqhn ?zqh1 ?zqh2 ?zqhx ?_; (case zqhn => rfl); (case zqN => k_asm); (case zqa => k_mem); (case zqhl => assumption); (case zqh1 => decide); (case zqh2 => omega); (case zqhx => assumption); k_whole))
  k_with "subscriptTail Name UnaryOp ref int" => (k_here; k_dflt (refine' negL (j := 2) ?zqN ?zqa ?zqhl ?zqhn ?zqh1 ?zqh2 ?zqhx ?_; (case zqhn => rfl); (case zqN => k_asm); (case zqa => k_mem); (case zqhl => assumption); (case zqh1 => decide); (case zqh2 => omega); (case zqhx => assumption); k_whole))
  k_with "subscriptTail Name BinOp ref int" => (k_here; k_dflt (refine' atL ?zqN ?zqa ?zqh1 ?zqh2 ?zqhx ?_; (case zqN => k_asm); (case zqa => k_mem); (case zqh1 => omega); (case zqh2 => omega); (case zqhx => assumption); k_whole))
  unfold Does
  intro w many tm h1 h2 p loose mean mg mb dp un gd cn cs a ccd cl outer A₀ base h₀ L m news s Q E B F X N T hk hdp hun ret
  refine wpAny_call ?_
  k_dflt (refine' cell_in ?ci1 ?ci2 ?ci3 ?ci4 ?ci5 ?ciK ?ci6 ?ci7 ?ci8 ?ci9 ?ciB ?_ ?cc2 ?cc3 ?cc4 ?cc5; (case ciK => assumption); (case ci1 => k_asm); (case ci2 => k_asm); (case ci3 => k_asm); (case ci4 => k_asm); (case ci5 => k_asm); (case ci6 => k_is); (case ci7 => k_is); (case ci8 => ktr_room); (case ci9 => exact BindsTo.of_eq rfl); (case cc5 => decide); (case ciB => exact locs rfl); (case cc2 => exact rfl); (case cc3 => exact rfl); (case cc4 => exact rfl); k_whole; intro fr g' L' h' FG' F' N' B' X' T' Ee; (try dsimp only); (try k_lift B'); (try k_fold))
  k_steps
  k_dflt (refine' range_walk (n := many.toNat) (J := J94 news many tm) rfl ?hr ?hsm ?hn ?F ?N ?J0 ?turn ?done)
  k_dflt (case hr => assumption)
  k_dflt (case hsm => exact small_one (by omega) (by omega) (by omega) (by omega))
  k_dflt (case hn => exact (rangeSize_nat _ _).trans (by omega))
  k_dflt (case F => k_asm)
  k_dflt (case N => k_asm)
  k_dflt (case J0 => exact ⟨_, [_, _], _, rfl, rfl, rfl, .cons 1 _ (.cons 2 _ .nil)⟩)
  k_dflt (case turn =>
    rintro i v m₁ news₁ I oI h tk E' hi ⟨t, rfl⟩ _ ⟨R, vs, ep, e1, e2, rfl, hv⟩ F1 N1 off1
    have F2 := Fr.know2 F1 e1 e2
    clear F1
    have hvl := hv.length
    rw [fibs_length] at hvl
    have hvl2 : vs.length ≤ 1000 := by omega
    obtain ⟨t1, x1⟩ := ints_at hv (i := i + 1) (by rw [fibs_length]; omega)
    obtain ⟨t2, x2⟩ := ints_at hv (i := i) (by rw [fibs_length]; omega)
    rw [fibs_get (by omega)] at x1 x2
    replace x1 : vs[vs.length - 1]? = some (.int (fib (i + 1)) t1) := by rw [show vs.length - 1 = i + 1 from by omega, x1]
    replace x2 : vs[vs.length - 2]? = some (.int (fib i) t2) := by rw [show vs.length - 2 = i from by omega, x2]
    k_steps
    k_dflt (refine' TurnE.go (news' := (_, listOf (vs ++ [Value.int (fib (i + 1) + fib i) _]).toArray 0) :: news) ?F ?N ?off ?J)
    k_dflt (case F => k_asm)
    k_dflt (case N => exact News.sub (by k_asm) (by k_extra "subs"))
    k_dflt (case J => exact ⟨_, _, 0, rfl, rfl, rfl, ints_next hv⟩)
    case off =>
      intro p hp
      rcases List.mem_cons.mp hp with rfl | hp
      · have hlt : @LT.lt Nat _ I _ := (‹_ ∧ _ ∧ _ ∧ AllLt _ _›).2.1
        exact Nat.ne_of_gt hlt
      · exact off1 p (.tail _ hp))
  k_dflt (case done =>
    rintro m' news' h tk ⟨R, vs, ep, e1, e2, rfl, hv⟩ F1 N1
    have F2 := Fr.know2 F1 e1 e2
    clear F1
    obtain ⟨t1, x1⟩ := ints_at hv (i := many.toNat - 1) (by rw [fibs_length]; omega)
    rw [fibs_get (by omega)] at x1
    replace x1 : vs[(many - 1).toNat]? = some (.int (fib (many.toNat - 1)) t1) := by rw [show (many - 1).toNat = many.toNat - 1 from by omega, x1]
    k_steps
    k_dflt (refine' ret _ [] _ _ ?F ?N ?o ⟨_, rfl⟩)
    k_dflt (case F => k_asm)
    k_dflt (case N => exact News.sub (by k_asm) (by k_extra "subs"))
    k_dflt (case o => exact fun q hq p hp => nomatch hp))
set_option maxHeartbeats 1000000
/-- the choices of a rest, all of them -/
noncomputable def nextP (ps : List (Int × Int)) : List (Int × Int) := ps.flatMap fun p => [(p.2, p.1 % p.2), (p.2, p.2 - p.1 % p.2)]
noncomputable def levels (u l : Int) : Nat → List (Int × Int)
  | 0 => [(u, l)]
  | i + 1 => nextP (levels u l i)
inductive PairsAre (nw : Led) : List Value → List (Int × Int) → Prop
  | nil : PairsAre nw [] []
  | cons {x : Addr} {p : Int × Int} {t1 t2 : Tok} {vs : List Value} {ps : List (Int × Int)} : (x, tupO [.int p.1 t1, .int p.2 t2]) ∈ nw → PairsAre nw vs ps → PairsAre nw (.ref x :: vs) (p :: ps)
theorem PairsAre.mono {nw nw' : Led} {vs : List Value} {rs : List (Int × Int)} (h : PairsAre nw vs rs) (s : ∀ p ∈ nw, p ∈ nw') : PairsAre nw' vs rs := by
  induction h with
  | nil => exact .nil
  | cons m _ ih => exact .cons (s _ m) ih
theorem PairsAre.length {nw : Led} {vs : List Value} {rs : List (Int × Int)} (h : PairsAre nw vs rs) : vs.length = rs.length := by
  induction h with
  | nil => rfl
  | cons m _ ih => simp [ih]
theorem PairsAre.snoc {nw : Led} {vs : List Value} {rs : List (Int × Int)} (h : PairsAre nw vs rs) {x : Addr} {a b : Int} {t1 t2 : Tok} (m : (x, tupO [.int a t1, .int b t2]) ∈ nw) : PairsAre nw (vs ++ [.ref x]) (rs ++ [(a, b)]) := by
  induction h with
  | nil => exact .cons (p := (a, b)) m .nil
  | cons m' _ ih => exact .cons m' ih
theorem PairsAre.get {nw : Led} {vs : List Value} {rs : List (Int × Int)} (h : PairsAre nw vs rs) : ∀ {i : Nat} {v : Value}, vs[i]? = some v → ∃ x a b t1 t2, v = .ref x ∧ rs[i]? = some (a, b) ∧ (x, tupO [.int a t1, .int b t2]) ∈ nw := by
  induction h with
  | nil => intro i v e; simp at e
  | cons m _ ih =>
    intro i v e
    cases i with
    | zero => simp at e; exact ⟨_, _, _, _, _, e.symm, by simp, m⟩
    | succ i => simp at e; obtain ⟨x, a, b, t1, t2, h1, h2, h3⟩ := ih e; exact ⟨x, a, b, t1, t2, h1, by simpa using h2, h3⟩
/-- the heads that divide -/
noncomputable def headsTo (ps : List (Int × Int)) (k : Nat) : List Int := ((ps.take k).filter fun p => decide (p.1 % p.2 = 0)).map (·.1)
theorem headsTo_yes {ps : List (Int × Int)} {k : Nat} {a b : Int} (h : ps[k]? = some (a, b)) (e : a % b = 0) : headsTo ps (k + 1) = headsTo ps k ++ [a] := by
  unfold headsTo; rw [List.take_add_one, h, List.filter_append, List.map_append]; simp [e]
theorem headsTo_no {ps : List (Int × Int)} {k : Nat} {a b : Int} (h : ps[k]? = some (a, b)) (e : a % b ≠ 0) : headsTo ps (k + 1) = headsTo ps k := by
  unfold headsTo; rw [List.take_add_one, h, List.filter_append, List.map_append]; simp [e]
theorem headsTo_all {ps : List (Int × Int)} : (headsTo ps ps.length = []) ↔ ∀ p ∈ ps, p.1 % p.2 ≠ 0 := by
  unfold headsTo; rw [List.take_length, List.map_eq_nil_iff, List.filter_eq_nil_iff]; simp
theorem nextP_take {ps : List (Int × Int)} {k : Nat} {a b : Int} (h : ps[k]? = some (a, b)) : nextP (ps.take (k + 1)) = nextP (ps.take k) ++ [(b, a % b), (b, b - a % b)] := by
  unfold nextP; rw [List.take_add_one, h, List.flatMap_append]; simp
theorem nextP_length (ps : List (Int × Int)) : (nextP ps).length = 2 * ps.length := by
  induction ps with
  | nil => rfl
  | cons p ps ih => simp only [nextP, List.flatMap_cons, List.length_append, List.length_cons, List.length_nil] at ih ⊢; omega
theorem levels_length (u l : Int) : ∀ i, (levels u l i).length = 2 ^ i
  | 0 => rfl
  | i + 1 => by rw [levels, nextP_length, levels_length u l i]; omega
theorem levels_pos {u l : Int} (hl : 0 < l) {n : Nat} (hno : ∀ i, i < n → ∀ p ∈ levels u l i, p.1 % p.2 ≠ 0) : ∀ i, i ≤ n → ∀ p ∈ levels u l i, 0 < p.2
  | 0, _, p, hp => by rw [List.mem_singleton.mp hp]; exact hl
  | i + 1, hi, p, hp => by
    obtain ⟨q, hq, hp⟩ := List.mem_flatMap.mp hp
    have h1 := levels_pos hl hno i (by omega) q hq
    have h2 := hno i (by omega) q hq
    have h3 := Int.emod_nonneg q.1 (Int.ne_of_gt h1)
    have h4 := Int.emod_lt_of_pos q.1 h1
    simp only [List.mem_cons, List.not_mem_nil, or_false] at hp
    rcases hp with rfl | rfl
    · show 0 < q.1 % q.2; omega
    · show 0 < q.2 - q.1 % q.2; omega
/-- the loop of _law_fewest -/
noncomputable def J87 (news : Led) (u l : Int) (n : Nat) (i : Nat) (m : Str → Option Value) (nw : Led) : Prop :=
  i ≤ n ∧ ∃ (P : Addr) (vs : List Value) (ep : Nat) (rest : Led), m (Str.ofString "pairs") = some (.ref P) ∧ nw = (P, listOf vs.toArray ep) :: rest ∧ PairsAre rest vs (levels u l i) ∧ (∀ p ∈ news, p ∈ rest)
/-- the block that seeks a pair that divides -/
noncomputable def Jc87 (base : Led) (ps : List (Int × Int)) (k : Nat) (ys : List Value) (nw : Led) : Prop := nw = base ∧ IntsAre ys (headsTo ps k) ∧ k ≤ ps.length
theorem two_get {x y : Int} {tx ty : Tok} {j : Nat} {v : Value} (h : [Value.int x tx, Value.int y ty][j]? = some v) (b : Int) : ∃ c tc, v = .int c tc ∧ ([(b, x), (b, y)].take (j + 1)) = [(b, x), (b, y)].take j ++ [(b, c)] := by
  match j, h with
  | 0, h => exact ⟨x, tx, (Option.some.inj h).symm, rfl⟩
  | 1, h => exact ⟨y, ty, (Option.some.inj h).symm, rfl⟩
/-- the block that makes the next pairs: its outer and its inner loop -/
noncomputable def Jo87 (I P : Addr) (oI oP : Obj) (rest : Led) (ps : List (Int × Int)) (k : Nat) (ys : List Value) (nw : Led) : Prop :=
  ∃ nz, nw = (I, oI) :: (P, oP) :: nz ∧ (∀ p ∈ nz, p.1 ≠ I) ∧ (∀ p ∈ rest, p ∈ nz) ∧ PairsAre nz ys (nextP (ps.take k)) ∧ k ≤ ps.length
noncomputable def Ji87 (I2 l2 I P : Addr) (oI2 ol2 oI oP : Obj) (rest : Led) (qs : List (Int × Int)) (a b : Int) (j : Nat) (ys : List Value) (nw : Led) : Prop :=
  ∃ nz, nw = (l2, ol2) :: (I2, oI2) :: (I, oI) :: (P, oP) :: nz ∧ (∀ p ∈ nz, p.1 ≠ I ∧ p.1 ≠ I2) ∧ (∀ p ∈ rest, p ∈ nz) ∧ PairsAre nz ys (qs ++ [(b, a % b), (b, b - a % b)].take j)
section
variable {prog : Program} {w : World} {A : Around} {E : Value → Shared → Prop} {s : Shared} {env : Env} {h₀ : Heap} {L : Addr} {m : Str → Option Value}
open LCg in
theorem LC_evalF {elt target iter : Expr} {ifs : List Expr} {scope : Scope} {cl : List (Str × Addr)} {pos : Pos} {Q : Value → Shared → Prop} (_F : Fr h₀ L s.heap m)
    (hclos : closureFor scope env = pure cl) (hcell : ∀ y ∈ scope.names, y.2 ≠ .cell) (hkind : scope.kind = .function)
    (hnames : ∀ y ∈ scope.names, y.2 = .local → scope.names.lookup y.1 = some .local)
    (h : wpAny (model prog w) A (eval iter env) (fun xv s₁ => wpAny (model prog w) A (pyIter xv) (fun it s₂ => ∃ news₀, Fr h₀ L s₂.heap m ∧ News h₀ L s₂.heap news₀ ∧
      CompW prog w A h₀ L m env target ifs elt scope cl (fun _ => True) [] (fun ys nw => ∀ D h tk, Fr h₀ L h m → News h₀ L h ((D, lst ys) :: nw) → Off1 D nw → Q (.ref D) { s₂ with heap := h, toks := tk }) it s₂ news₀) E s₁) E s)
    (hs : ∀ x, foldedSetIterable iter env x = pure x := by intro _; rfl) :
    wpAny (model prog w) A (eval (.ListComp elt [⟨target, iter, ifs, 0⟩] scope pos) env) Q E s := LC_eval hclos hcell hkind hnames h hs
open LCg in
theorem LC_assignF {elt target iter : Expr} {ifs : List Expr} {y : Str} {py : Pos} {scope : Scope} {cl : List (Str × Addr)} {pos spos : Pos} {Q : Flow → Shared → Prop} (_F : Fr h₀ L s.heap m) (hLe : env.locals = L)
    (hsw : swapsWith (.ListComp elt [⟨target, iter, ifs, 0⟩] scope pos) (some (.Name y py)) spos.line env = pure true)
    (hclos : closureFor scope env = pure cl) (hcell : ∀ y ∈ scope.names, y.2 ≠ .cell) (hkind : scope.kind = .function)
    (hnames : ∀ y ∈ scope.names, y.2 = .local → scope.names.lookup y.1 = some .local)
    (hy : env.kindOf y = some .local) (hp : (env.scope.kind == .class || (env.scope.kind == .module && env.locals != env.globals)) = false)
    (h : wpAny (model prog w) A (eval iter env) (fun xv s₁ => wpAny (model prog w) A (pyIter xv) (fun it s₂ => ∃ news₀, Fr h₀ L s₂.heap m ∧ News h₀ L s₂.heap news₀ ∧
      CompW prog w A h₀ L m env target ifs elt scope cl (fun _ => True) [] (fun ys nw => ∀ D h tk, Fr h₀ L h (fun z => if z = y then some (.ref D) else m z) → News h₀ L h ((D, lst ys) :: nw) → Off1 D nw → Q .next { s₂ with heap := h, toks := tk }) it s₂ news₀) E s₁) E s)
    (hs : ∀ x, foldedSetIterable iter env x = pure x := by intro _; rfl) :
    wpAny (model prog w) A (exec (.Assign [.Name y py] (.ListComp elt [⟨target, iter, ifs, 0⟩] scope pos) spos) env) Q E s := LC_assign hLe hsw hclos hcell hkind hnames hy hp h hs
open LCg in
theorem LC2_evalF {elt t1 t2 i2 iter : Expr} {f2 : List Expr} {scope : Scope} {cl : List (Str × Addr)} {pos : Pos} {Q : Value → Shared → Prop} (_F : Fr h₀ L s.heap m)
    (hs2 : ∀ x e, foldedSetIterable i2 e x = pure x) (hclos : closureFor scope env = pure cl) (hcell : ∀ y ∈ scope.names, y.2 ≠ .cell) (hkind : scope.kind = .function)
    (hnames : ∀ y ∈ scope.names, y.2 = .local → scope.names.lookup y.1 = some .local)
    (h : wpAny (model prog w) A (eval iter env) (fun xv s₁ => wpAny (model prog w) A (pyIter xv) (fun it s₂ => ∃ news₀, Fr h₀ L s₂.heap m ∧ News h₀ L s₂.heap news₀ ∧
      OutW prog w A h₀ L m env t1 t2 i2 f2 elt scope cl [] (fun ys nw => ∀ D h tk, Fr h₀ L h m → News h₀ L h ((D, lst ys) :: nw) → Off1 D nw → Q (.ref D) { s₂ with heap := h, toks := tk }) it s₂ news₀) E s₁) E s)
    (hs : ∀ x, foldedSetIterable iter env x = pure x := by intro _; rfl) :
    wpAny (model prog w) A (eval (.ListComp elt [⟨t1, iter, [], 0⟩, ⟨t2, i2, f2, 0⟩] scope pos) env) Q E s := LC2_eval hs2 hclos hcell hkind hnames h hs
open LCg in
theorem LC2_assignF {elt t1 t2 i2 iter : Expr} {f2 : List Expr} {y : Str} {py : Pos} {scope : Scope} {cl : List (Str × Addr)} {pos spos : Pos} {Q : Flow → Shared → Prop} (_F : Fr h₀ L s.heap m) (hLe : env.locals = L)
    (hs2 : ∀ x e, foldedSetIterable i2 e x = pure x) (hsw : swapsWith (.ListComp elt [⟨t1, iter, [], 0⟩, ⟨t2, i2, f2, 0⟩] scope pos) (some (.Name y py)) spos.line env = pure true)
    (hclos : closureFor scope env = pure cl) (hcell : ∀ y ∈ scope.names, y.2 ≠ .cell) (hkind : scope.kind = .function)
    (hnames : ∀ y ∈ scope.names, y.2 = .local → scope.names.lookup y.1 = some .local)
    (hy : env.kindOf y = some .local) (hp : (env.scope.kind == .class || (env.scope.kind == .module && env.locals != env.globals)) = false)
    (h : wpAny (model prog w) A (eval iter env) (fun xv s₁ => wpAny (model prog w) A (pyIter xv) (fun it s₂ => ∃ news₀, Fr h₀ L s₂.heap m ∧ News h₀ L s₂.heap news₀ ∧
      OutW prog w A h₀ L m env t1 t2 i2 f2 elt scope cl [] (fun ys nw => ∀ D h tk, Fr h₀ L h (fun z => if z = y then some (.ref D) else m z) → News h₀ L h ((D, lst ys) :: nw) → Off1 D nw → Q .next { s₂ with heap := h, toks := tk }) it s₂ news₀) E s₁) E s)
    (hs : ∀ x, foldedSetIterable iter env x = pure x := by intro _; rfl) :
    wpAny (model prog w) A (exec (.Assign [.Name y py] (.ListComp elt [⟨t1, iter, [], 0⟩, ⟨t2, i2, f2, 0⟩] scope pos) spos) env) Q E s := LC2_assign hLe hs2 hsw hclos hcell hkind hnames hy hp h hs
end
set_option maxHeartbeats 4000000
theorem fmod0 {a b : Int} (hb : 0 < b) (h : a.fmod b = 0) : a % b = 0 := by rw [← Int.fmod_eq_emod_of_nonneg _ (Int.le_of_lt hb)]; exact h
theorem fmodN {a b : Int} (hb : 0 < b) (h : a.fmod b ≠ 0) : a % b ≠ 0 := by rw [← Int.fmod_eq_emod_of_nonneg _ (Int.le_of_lt hb)]; exact h
theorem c87 : ∀ (w : World) (u l : Int) (tu tl : Tok) (n : Nat) (hn : n < 11) (hl : 0 < l) (hyes : ∃ p ∈ levels u l n, p.1 % p.2 = 0) (hno : ∀ i, i < n → ∀ p ∈ levels u l i, p.1 % p.2 ≠ 0),
    Does w 87 [.int u tu, .int l tl] 16 (IntIs (n + 1)) := by
  k_with_none
  k_with "ne" => (first | (refine Nat.ne_of_lt ?_; k_extra "neL") | (refine Nat.ne_of_gt ?_; k_extra "neL") | with_reducible assumption | (refine Ne.symm ?_; with_reducible assumption) | k_extra "neA")
  k_with "neL" => (first | with_reducible assumption | with_reducible exact ltS0 _ | k_extra "neS" | ((fail_if_success with_reducible show _ < 37); (fail_if_success with_reducible show _ < 30); with_reducible refine ltS ?_; k_extra "neL"))
  k_with "neS" => (with_reducible rename (@LT.lt Nat _ _ _ ∧ _) => q; first | (refine ltRt q ?_; first | exact q.1 | exact q.2.1 | exact q.2.2.1 | exact q.2.2.2.1 | exact q.2.2.2.2.1 | exact q.2.2.2.2.2.1 | exact q.2.2.2.2.2.2.1 | exact q.2.2.2.2.2.2.2.1 | exact q.2.2.2.2.2.2.2.2.1 | exact q.2.2.2.2.2.2.2.2.2.1 | exact q.2.2.2.2.2.2.2.2.2.2.1 | exact q.2.2.2.2.2.2.2.2.2.2.2.1 | exact q.2.2.2.2.2.2.2.2.2.2.2.2.1 | exact q.2.2.2.2.2.2.2.2.2.2.2.2.2.1 | exact q.2.2.2.2.2.2.2.2.2.2.2.2.2.2.1 | exact q.2.2.2.2.2.2.2.2.2.2.2.2.2.2.2.1 | exact q.2.2.2.2.2.2.2.2.2.2.2.2.2.2.2.2.1 | exact q.2.2.2.2.2.2.2.2.2.2.2.2.2.2.2.2.2.1) | (clear q; k_extra "neS"))
  k_with "neA" => (with_reducible rename (@Ne _ _ _ ∧ _) => q; first | (refine neLt q ?_; first | exact q.1.symm | exact q.2.1.symm | exact q.2.2.1.symm | exact q.2.2.2.1.symm | exact q.2.2.2.2.1.symm | exact q.2.2.2.2.2.1.symm | exact q.2.2.2.2.2.2.1.symm | exact q.2.2.2.2.2.2.2.1.symm | exact q.2.2.2.2.2.2.2.2.1.symm | exact q.2.2.2.2.2.2.2.2.2.1.symm | exact q.2.2.2.2.2.2.2.2.2.2.1.symm | exact q.2.2.2.2.2.2.2.2.2.2.2.1.symm | exact q.2.2.2.2.2.2.2.2.2.2.2.2.1.symm | exact q.2.2.2.2.2.2.2.2.2.2.2.2.2.1.symm | exact q.2.2.2.2.2.2.2.2.2.2.2.2.2.2.1.symm | exact q.2.2.2.2.2.2.2.2.2.2.2.2.2.2.2.1.symm | exact q.2.2.2.2.2.2.2.2.2.2.2.2.2.2.2.2.1.symm | exact q.2.2.2.2.2.2.2.2.2.2.2.2.2.2.2.2.2.1.symm) | (refine neRt q ?_; first | exact q.1 | exact q.2.1 | exact q.2.2.1 | exact q.2.2.2.1 | exact q.2.2.2.2.1 | exact q.2.2.2.2.2.1 | exact q.2.2.2.2.2.2.1 | exact q.2.2.2.2.2.2.2.1 | exact q.2.2.2.2.2.2.2.2.1 | exact q.2.2.2.2.2.2.2.2.2.1 | exact q.2.2.2.2.2.2.2.2.2.2.1 | exact q.2.2.2.2.2.2.2.2.2.2.2.1 | exact q.2.2.2.2.2.2.2.2.2.2.2.2.1 | exact q.2.2.2.2.2.2.2.2.2.2.2.2.2.1 | exact q.2.2.2.2.2.2.2.2.2.2.2.2.2.2.1 | exact q.2.2.2.2.2.2.2.2.2.2.2.2.2.2.2.1 | exact q.2.2.2.2.2.2.2.2.2.2.2.2.2.2.2.2.1 | exact q.2.2.2.2.2.2.2.2.2.2.2.2.2.2.2.2.2.1) | (clear q; k_extra "neA"))
  k_with "exec For Name Call cons nil" => (k_here; k_dflt (refine for_walk (by k_asm) ?_))
  k_with "subs" => (first | exact sub_nil | exact sub_self | (refine sub_cons (by k_mem) ?_; k_extra "subs") | (refine sub_skip ?_; k_extra "subs"))
  k_with "eval ListComp" => (k_here; lcg_calm; k_dflt (refine' LC_evalF ?zqF ?zqk1 ?zqk2 ?zqk3 ?zqk4 ?_ ?zqk6; (case zqF => k_asm); (case zqk1 => with_unfolding_all rfl); (case zqk2 => decide); (case zqk3 => rfl); (case zqk4 => decide); (case zqk6 => intro _; rfl)))
  k_with "exec Assign cons ListComp" => (k_here; lcg_calm; k_dflt (refine' LC2_assignF ?zqF ?zqj0 ?zqj1 ?zqj2 ?zqk1 ?zqk2 ?zqk3 ?zqk4 ?zqk5 ?zqk7 ?_ ?zqk6; (case zqF => k_asm); (case zqj0 => rfl); (case zqj1 => intro _ _; rfl); (case zqj2 => with_unfolding_all rfl); (case zqk1 => with_unfolding_all rfl); (case zqk2 => decide); (case zqk3 => rfl); (case zqk4 => decide); (case zqk5 => rfl); (case zqk7 => rfl); (case zqk6 => intro _; rfl)))
  k_with "compareOp NotEq ref ref" => (k_here; k_dflt (refine' ne_intsK (us := []) (ms := []) ?zqhl ?zqhi ?zqhl' .nil ?zqhu ?_; (case zqhl => exact listAt (by k_asm) (by k_mem)); (case zqhi => assumption); (case zqhl' => exact listAt (by k_asm) (by k_mem)); (case zqhu => dsimp only [ktrTop, Around.deeper]; omega); k_whole))
  unfold Does
  intro w u l tu tl n hn hl hyes hno p loose mean mg mb dp un gd cn cs a ccd cl outer A₀ base h₀ L m news s Q E B F X N T hk hdp hun ret
  refine wpAny_call ?_
  k_dflt (refine' cell_in ?ci1 ?ci2 ?ci3 ?ci4 ?ci5 ?ciK ?ci6 ?ci7 ?ci8 ?ci9 ?ciB ?_ ?cc2 ?cc3 ?cc4 ?cc5; (case ciK => assumption); (case ci1 => k_asm); (case ci2 => k_asm); (case ci3 => k_asm); (case ci4 => k_asm); (case ci5 => k_asm); (case ci6 => k_is); (case ci7 => k_is); (case ci8 => ktr_room); (case ci9 => exact BindsTo.of_eq rfl); (case cc5 => decide); (case ciB => exact locs rfl); (case cc2 => exact rfl); (case cc3 => exact rfl); (case cc4 => exact rfl); k_whole; intro fr g' L' h' FG' F' N' B' X' T' Ee; (try dsimp only); (try k_lift B'); (try k_fold))
  k_steps
  k_dflt (refine' range_walk (n := 11) (J := J87 news u l n) rfl ?hr ?hsm ?hn ?F ?N ?J0 ?turn ?done)
  k_dflt (case hr => assumption)
  k_dflt (case hsm => decide)
  k_dflt (case hn => exact rfl)
  k_dflt (case F => k_asm)
  k_dflt (case N => k_asm)
  k_dflt (case J0 => exact ⟨Nat.zero_le _, _, [_], _, _, rfl, rfl, .cons (p := (u, l)) (.head _) .nil, fun p hp => .tail _ hp⟩)
  k_dflt (case turn =>
    rintro i v m₁ news₁ I oI h tk E' hi ⟨t, rfl⟩ _ ⟨hin, P, vs, ep, rest, e1, rfl, hps, hsub⟩ F1 N1 off1
    have F2 := Fr.know1 F1 e1
    clear F1
    have hpl := hps.length
    rw [levels_length] at hpl
    have hpos := levels_pos hl hno i hin
    k_steps
    k_dflt (refine' comp_listE (vs := vs) (ep := ep) (nw₀ := (I, oI) :: (P, listOf vs.toArray ep) :: rest) rfl ?F ?N ?hl (Jc87 ((I, oI) :: (P, listOf vs.toArray ep) :: rest) (levels u l i)) (fun k _ _ mm => ∃ a b t1 t2, (levels u l i)[k]? = some (a, b) ∧ mm (Str.ofString "high") = some (.int a t1) ∧ mm (Str.ofString "low") = some (.int b t2)) ?asg ?hlen ?hS ?J0 ?sub ?turn1 ?done1)
    k_dflt (case F => k_asm)
    k_dflt (case N => k_asm)
    k_dflt (case hl => k_mem)
    k_dflt (case asg =>
      refine asg_two rfl rfl rfl rfl (by decide) (fun _ _ _ _ => trivial) ?_
      rintro k v ys nw hk ⟨rfl, _, _⟩
      obtain ⟨x, a, b, t1, t2, rfl, hr, hm⟩ := hps.get hk
      exact ⟨x, _, _, rfl, .tail _ (.tail _ hm), fun mm h1 h2 => ⟨a, b, t1, t2, hr, h1, h2⟩⟩)
    case hlen =>
      rintro k ys nw ⟨_, hy, hk⟩
      rw [hy.length, PySem.sizeLine_eq]
      have h1 : (headsTo (levels u l i) k).length ≤ 2 ^ i := by
        unfold headsTo
        rw [List.length_map, ← levels_length u l i]
        exact Nat.le_trans (List.length_filter_le _ _) (by rw [List.length_take]; omega)
      have h2 : 2 ^ i ≤ 2 ^ 10 := Nat.pow_le_pow_right (by decide) (by omega)
      omega
    case hS =>
      rintro k ys nw ⟨rfl, _, _⟩
      exact .tail _ (.head _)
    case J0 => exact ⟨rfl, .nil, Nat.zero_le _⟩
    k_dflt (case sub => k_extra "subs")
    k_dflt (case turn1 =>
      rintro k v ys nw I2 oI2 oC C D m₂ h tk E' hk hv ⟨rfl, hys, hkl⟩ ⟨a, b, t1, t2, hab, hx, hy⟩ _ hC' F' N' off' ne'
      have hb : 0 < b := hpos _ (List.mem_of_getElem? hab)
      refine wpAny_tests_one ?_
      k_steps
      case refine_2.refine_1 =>
        k_dflt (refine' EltE.go ?F ?N ?off ?J)
        k_dflt (case F => k_asm)
        k_dflt (case N => k_asm)
        case off => assumption
        case J => exact ⟨rfl, by rw [headsTo_yes hab (fmod0 hb (by assumption))]; exact ints_app hys, (List.getElem?_eq_some_iff.mp hab).1⟩
      case refine_2.refine_2 =>
        k_dflt (refine' SkipE.go ?F ?N ?off ?J)
        k_dflt (case F => k_asm)
        k_dflt (case N => k_asm)
        case off => assumption
        case J => exact ⟨rfl, by rw [headsTo_no hab (fmodN hb (by assumption))]; exact hys, (List.getElem?_eq_some_iff.mp hab).1⟩)
    k_dflt (case done1 =>
      rintro g ys nw ⟨rfl, hys, _⟩ D h tk F' N' off'
      rw [hpl, ← levels_length u l i] at hys
      replace N' : News _ _ h ((D, listOf ys.toArray ys.length) :: _) := N'
      k_steps
      case refine'_5.refine'_3.refine_2.refine'_4 =>
        have hin2 : i = n := by
          have h1 : ¬ ∀ p ∈ levels u l i, p.1 % p.2 ≠ 0 := fun h2 => absurd (headsTo_all.mpr h2) (of_decide_eq_false (by assumption))
          exact Nat.le_antisymm hin (Nat.not_lt.mp fun h2 => h1 (hno i h2))
        subst hin2
        dsimp only [TurnE]
        k_steps
        k_dflt (refine' ret _ [] _ _ ?F ?N ?o ⟨_, congrArg (fun z => Value.int z _) (Int.add_comm _ _)⟩)
        k_dflt (case F => k_asm)
        k_dflt (case N => exact News.sub (by k_asm) fun p hp => .tail _ (.tail _ (.tail _ (.tail _ (hsub p hp)))))
        k_dflt (case o => exact fun q hq p hp => nomatch hp)
      have hni : i + 1 ≤ n := by
        have h1 := headsTo_all.mp (of_decide_eq_true (by assumption))
        obtain ⟨p, hp, hp0⟩ := hyes
        refine Nat.lt_of_le_of_ne hin fun e => ?_
        subst e
        exact h1 p hp hp0
      k_dflt (refine' out_listE (vs := vs) (ep := ep) (nw₀ := (I, oI) :: (P, listOf vs.toArray ep) :: rest) rfl ?F ?N ?hl (Jo87 I P oI (listOf vs.toArray ep) rest (levels u l i)) (fun k _ _ mm => ∃ a b t1 t2, (levels u l i)[k]? = some (a, b) ∧ mm (Str.ofString "high") = some (.int a t1) ∧ mm (Str.ofString "low") = some (.int b t2)) ?asg ?hS ?J0 ?sub ?turn2 ?done2)
      k_dflt (case F => k_asm)
      k_dflt (case N => k_asm)
      k_dflt (case hl => k_mem)
      k_dflt (case asg =>
        refine asg_two rfl rfl rfl rfl (by decide) (fun _ _ _ _ => trivial) ?_
        rintro k v ys nw hk ⟨nz, rfl, _, hz, _, _⟩
        obtain ⟨x, a, b, t1, t2, rfl, hr, hm⟩ := hps.get hk
        exact ⟨x, _, _, rfl, .tail _ (.tail _ (hz _ hm)), fun mm h1 h2 => ⟨a, b, t1, t2, hr, h1, h2⟩⟩)
      case hS =>
        rintro k ys nw ⟨nz, rfl, _⟩
        exact .tail _ (.head _)
      case J0 => exact ⟨rest, rfl, fun p hp => off1 p (.tail _ hp), fun _ h => h, .nil, Nat.zero_le _⟩
      k_dflt (case sub => k_extra "subs")
      k_dflt (case turn2 =>
        rintro k v ys nw I2 oI2 oC C D2 m₂ h tk E' hk hv ⟨nz, rfl, hz1, hz2, hpa, hkl⟩ ⟨a, b, t1, t2, hab, hx, hy⟩ hC' F' N' off' ne'
        have hb : 0 < b := hpos _ (List.mem_of_getElem? hab)
        k_steps
        with_reducible rename News _ _ _ _ => N9
        rw [Int.fmod_eq_emod_of_nonneg a (Int.le_of_lt hb)] at N9
        have hpk := hpa.length
        rw [nextP_length, List.length_take] at hpk
        have hI2 : ∀ p ∈ nz, p.1 ≠ I ∧ p.1 ≠ I2 := fun p hp => ⟨hz1 p hp, (off'.mem p (.tail _ (.tail _ hp))).1⟩
        have hz0 : PairsAre nz ys (nextP ((levels u l i).take k) ++ [(b, a % b), (b, b - a % b)].take 0) := by rw [List.take_zero, List.append_nil]; exact hpa
        show wpAny _ _ (pyIter (Value.ref ?l2)) _ _ _
        k_dflt (refine' in_listE (vs := [.int (a % b) tk, .int (b - a % b) (tk + 1 + 1)]) (ep := 0) (news := (?l2, listOf ([.int (a % b) tk, .int (b - a % b) (tk + 1 + 1)] : List Value).toArray 0) :: (I2, oI2) :: (I, oI) :: (P, listOf vs.toArray ep) :: nz) (nw₀ := (?l2, listOf ([.int (a % b) tk, .int (b - a % b) (tk + 1 + 1)] : List Value).toArray 0) :: (I2, oI2) :: (I, oI) :: (P, listOf vs.toArray ep) :: nz) (K := fun mm => mm (Str.ofString "low") = some (.int b t2)) rfl ?F ?N0 ?hC ?hD ?hsub ?hoff hC' hy (.head _) (Ji87 I2 ?l2 I P oI2 (listOf ([.int (a % b) tk, .int (b - a % b) (tk + 1 + 1)] : List Value).toArray 0) oI (listOf vs.toArray ep) rest (nextP ((levels u l i).take k)) a b) (fun _ v _ mm => mm (Str.ofString "rest") = some v) ?asg ?hlen ?hS ?J0 (fun _ h => h) ?turn3 ?done3 rfl)
        k_dflt (case F => k_asm)
        k_dflt (case N0 => exact N9)
        k_dflt (case hsub => k_extra "subs")
        k_dflt (case hC => k_mem)
        k_dflt (case hD => k_mem)
        k_dflt (case J0 => exact ⟨nz, rfl, hI2, hz2, hz0⟩)
        k_dflt (case hoff =>
          intro p hp
          rcases List.mem_cons.mp hp with rfl | hp
          · have hl1 := (‹_ ∧ _ ∧ _ ∧ _ ∧ _ ∧ AllLt _ _›)
            exact ⟨Nat.ne_of_gt hl1.2.1, Nat.ne_of_gt hl1.2.2.1⟩
          · rcases List.mem_cons.mp hp with rfl | hp
            · exact ⟨ne'.1, ne'.2.1⟩
            · exact (off'.mem p hp).2)
        k_dflt (case asg => exact asg_name rfl rfl (fun mm v hm => (if_neg (by decide)).trans hm) (fun _ v _ _ mm _ _ hm => hm))
        case hlen =>
          rintro j ys' nw' ⟨nz', rfl, _, _, hp'⟩
          rw [hp'.length, List.length_append, nextP_length, List.length_take, List.length_take, levels_length, PySem.sizeLine_eq]
          have h2 : 2 ^ i ≤ 2 ^ 10 := Nat.pow_le_pow_right (by decide) (by omega)
          simp only [List.length_cons, List.length_nil]
          omega
        k_dflt (case hS =>
          rintro j ys' nw' ⟨nz', rfl, _⟩
          exact .head _)
        k_dflt (case turn3 =>
          rintro j v ys' nw' I3 oI3 oC3 C3 D3 m₃ h3 tk3 E' hj hv' ⟨nz', rfl, hz1', hz2', hpa'⟩ hB hK hC3 F' N' off3 ne3
          obtain ⟨c, tc, rfl, htk⟩ := two_get hv' b
          refine wpAny_tests_nil ?_
          k_steps
          have hl3 := (‹_ ∧ _ ∧ _ ∧ _ ∧ _ ∧ _ ∧ _ ∧ AllLt _ _›)
          k_dflt (refine' EltE.go (nw := (_, listOf ([.int (a % b) tk, .int (b - a % b) (tk + 1 + 1)] : List Value).toArray 0) :: (I2, oI2) :: (I, oI) :: (P, listOf vs.toArray ep) :: (_, tupO [.int b t2, .int c tc]) :: nz') ?F ?N ?off ?J)
          k_dflt (case F => k_asm)
          k_dflt (case N => exact News.sub (by k_asm) (by k_extra "subs"))
          k_dflt (case off => exact ⟨off3.1, off3.2.1, off3.2.2.1, off3.2.2.2.1, ⟨Nat.ne_of_gt hl3.1, Nat.ne_of_gt hl3.2.1, Nat.ne_of_gt hl3.2.2.1⟩, off3.2.2.2.2⟩)
          k_dflt (case J =>
            refine ⟨_, rfl, ?_, fun p hp => .tail _ (hz2' p hp), ?_⟩
            · intro p hp
              rcases List.mem_cons.mp hp with rfl | hp
              · exact ⟨Nat.ne_of_gt hl3.2.2.2.2.2.1, Nat.ne_of_gt hl3.2.2.2.2.1⟩
              · exact hz1' p hp
            · rw [htk, ← List.append_assoc]
              exact (hpa'.mono fun p hp => .tail _ hp).snoc (.head _)))
        k_dflt (case done3 =>
          rintro ys' nw' ⟨nz', rfl, hz1', hz2', hpa'⟩
          refine ⟨(I, oI) :: (P, listOf vs.toArray ep) :: nz', .tail _ (.head _), fun p hp => .tail _ (.tail _ hp), ?_, nz', rfl, fun p hp => (hz1' p hp).1, hz2', ?_, (List.getElem?_eq_some_iff.mp hab).1⟩
          · intro p hp
            rcases List.mem_cons.mp hp with rfl | hp
            · exact off'.1.1
            · rcases List.mem_cons.mp hp with rfl | hp
              · exact off'.2.1.1
              · exact (hz1' p hp).2
          · rw [nextP_take hab]; exact hpa'))
      k_dflt (case done2 =>
        rintro g ys nw ⟨nz, rfl, hz1, hz2, hpa, hkl⟩ D2 h tk F' N' off'
        k_steps
        k_dflt (refine' TurnE.go (news' := (D2, listOf ys.toArray ys.length) :: nz) ?F8 ?N8 ?off8 ?J8)
        k_dflt (case F8 => k_asm)
        k_dflt (case N8 => exact News.sub N' (by k_extra "subs"))
        case off8 =>
          intro p hp
          rcases List.mem_cons.mp hp with rfl | hp
          · exact fun e => off'.1 e.symm
          · exact hz1 p hp
        k_dflt (case J8 => exact ⟨hni, D2, ys, ys.length, nz, rfl, rfl, by rw [hpl, ← levels_length u l i, List.take_length] at hpa; exact hpa, fun p hp => hz2 p (hsub p hp)⟩))))
  k_dflt (case done =>
    rintro m' news' h tk ⟨hin, _⟩ F1 N1
    exact absurd hin (by omega))
set_option maxHeartbeats 1000000
/-- the number of divisions with the rest that f tells, at most n -/
noncomputable def cnt (f : Int → Int → Int) : Nat → Int → Int → Nat
  | 0, _, _ => 0
  | n + 1, U, L => if 0 < L then 1 + cnt f n L (f U L) else 0
theorem cnt_stab {f : Int → Int → Int} (hf : ∀ U L, 0 < L → f U L < L) : ∀ (n m : Nat) (U L : Int), L.toNat < n → L.toNat < m → cnt f n U L = cnt f m U L
  | 0, _, _, _, h, _ => absurd h (Nat.not_lt_zero _)
  | _ + 1, 0, _, _, _, h => absurd h (Nat.not_lt_zero _)
  | n + 1, m + 1, U, L, h1, h2 => by
    show (if 0 < L then 1 + cnt f n L (f U L) else 0) = (if 0 < L then 1 + cnt f m L (f U L) else 0)
    by_cases h : 0 < L
    · have h3 := hf U L h
      rw [if_pos h, if_pos h, cnt_stab hf n m L (f U L) (by omega) (by omega)]
    · rw [if_neg h, if_neg h]
theorem cnt_pos {f : Int → Int → Int} (hf : ∀ U L, 0 < L → f U L < L) {U L : Int} (h : 0 < L) : cnt f (L.toNat + 1) U L = 1 + cnt f ((f U L).toNat + 1) L (f U L) := by
  show (if 0 < L then 1 + cnt f L.toNat L (f U L) else 0) = _
  have h3 := hf U L h
  rw [if_pos h, cnt_stab hf L.toNat ((f U L).toNat + 1) L (f U L) (by omega) (by omega)]
theorem cnt_zero {f : Int → Int → Int} {n : Nat} {U L : Int} (h : ¬ 0 < L) : cnt f (n + 1) U L = 0 := if_neg h
/-- the number of Euclid's divisions -/
noncomputable def el (U L : Int) : Nat := cnt (fun U L => U % L) (L.toNat + 1) U L
/-- the nearer rest's size -/
noncomputable def nr (U L : Int) : Int := min (U % L) (-U % L)
theorem nr_nonneg {U L : Int} (h : 0 < L) : 0 ≤ nr U L := by
  have h1 := Int.emod_nonneg U (Int.ne_of_gt h)
  have h2 := Int.emod_nonneg (-U) (Int.ne_of_gt h)
  unfold nr; omega
theorem neg_mod {U L : Int} (h : 0 < L) : -U % L = if U % L = 0 then 0 else L - U % L := by
  have h1 := Int.emod_nonneg U (Int.ne_of_gt h)
  have h2 := Int.emod_lt_of_pos U h
  have h3 := Int.emod_nonneg (-U) (Int.ne_of_gt h)
  have h4 := Int.emod_lt_of_pos (-U) h
  have h5 := Int.mul_ediv_add_emod U L
  have h6 := Int.mul_ediv_add_emod (-U) L
  have h7 : L * (U / L + -U / L) = -(U % L) - (-U % L) := by rw [Int.mul_add]; omega
  split
  · next e =>
    rw [e] at h7
    have h8 : (L ∣ -U % L) := ⟨-(U / L + -U / L), by rw [Int.mul_neg]; omega⟩
    exact (Int.emod_eq_of_lt h3 h4).symm.trans (Int.emod_eq_zero_of_dvd h8)
  · next e =>
    have hs : U / L + -U / L = -1 := by
      have a1 : ¬ (U / L + -U / L ≥ 0) := fun hh => by
        have := Int.mul_nonneg (Int.le_of_lt h) hh
        omega
      have a2 : ¬ (U / L + -U / L ≤ -2) := fun hh => by
        have := Int.mul_le_mul_of_nonneg_left hh (Int.le_of_lt h)
        omega
      omega
    rw [hs] at h7
    omega
theorem nr_lt {U L : Int} (h : 0 < L) : nr U L < L ∧ 2 * nr U L ≤ L := by
  have h1 := Int.emod_nonneg U (Int.ne_of_gt h)
  have h2 := Int.emod_lt_of_pos U h
  have h3 := neg_mod (U := U) h
  unfold nr
  split at h3 <;> omega
/-- the number of the least run's divisions -/
noncomputable def nl (U L : Int) : Nat := cnt nr (L.toNat + 1) U L
theorem el_pos {U L : Int} (h : 0 < L) : el U L = 1 + el L (U % L) := cnt_pos (fun U _ h => Int.emod_lt_of_pos U h) h
theorem el_zero {U L : Int} (h : ¬ 0 < L) : el U L = 0 := cnt_zero h
theorem nl_pos {U L : Int} (h : 0 < L) : nl U L = 1 + nl L (nr U L) := cnt_pos (fun _ _ h => (nr_lt h).1) h
theorem nl_zero {U L : Int} (h : ¬ 0 < L) : nl U L = 0 := cnt_zero h
theorem mod_once {L x r : Int} (hx : L = x + r) (h0 : 0 ≤ r) (h1 : r < x) : L % x = r := by
  rw [hx, Int.add_emod_left]; exact Int.emod_eq_of_lt h0 h1
theorem el_swap {L r : Int} (h0 : 0 < r) (h1 : 2 * r < L) : el L (L - r) = el L r + 1 := by
  have e1 : L % (L - r) = r := mod_once (by omega) (by omega) (by omega)
  have e2 : (L - r) % r = L % r := Int.sub_emod_right L r
  rw [el_pos (U := L) (L := L - r) (by omega), e1, el_pos (U := L - r) h0, el_pos (U := L) h0, e2]
  omega
theorem el_bound : ∀ (k : Nat) (U L : Int), L < 2 ^ k → el U L ≤ 2 * k
  | 0, U, L, h => by rw [el_zero (by simp at h; omega)]; omega
  | k + 1, U, L, h => by
    by_cases hL : 0 < L
    · rw [el_pos hL]
      have h1 := Int.emod_nonneg U (Int.ne_of_gt hL)
      have h2 := Int.emod_lt_of_pos U hL
      by_cases hr : 0 < U % L
      · rw [el_pos hr]
        have h3 := Int.emod_nonneg L (Int.ne_of_gt hr)
        have h4 := Int.emod_lt_of_pos L hr
        have h5 : 2 * (L % (U % L)) < L := by
          by_cases hc : 2 * (U % L) ≤ L
          · omega
          · rw [mod_once (L := L) (x := U % L) (r := L - U % L) (by omega) (by omega) (by omega)]; omega
        have ih := el_bound k (U % L) (L % (U % L)) (by rw [Int.pow_succ] at h; omega)
        omega
      · rw [el_zero hr]; omega
    · rw [el_zero hL]; omega
theorem nl_bound : ∀ (k : Nat) (U L : Int), L < 2 ^ k → nl U L ≤ k
  | 0, U, L, h => by rw [nl_zero (by simp at h; omega)]; omega
  | k + 1, U, L, h => by
    by_cases hL : 0 < L
    · rw [nl_pos hL]
      have h1 := (nr_lt (U := U) hL).2
      have ih := nl_bound k L (nr U L) (by rw [Int.pow_succ] at h; omega)
      omega
    · rw [nl_zero hL]; omega
set_option maxHeartbeats 1000000
theorem nr_congr {U V L : Int} (h : 0 < L) (e : U % L = V % L) : nr U L = nr V L := by
  unfold nr; rw [neg_mod (U := U) h, neg_mod (U := V) h, e]
theorem nl_congr {U V L : Int} (h : 0 < L) (e : U % L = V % L) : nl U L = nl V L := by
  rw [nl_pos h, nl_pos h, nr_congr h e]
theorem nr_of {U L r : Int} (h : 0 < L) (e : U % L = r) (hr : r ≠ 0) : nr U L = min r (L - r) := by
  unfold nr; rw [neg_mod h, e, if_neg hr]
theorem kron : ∀ (n : Nat) (L m : Int), L.toNat ≤ n → 0 < m → 2 * m ≤ L → nl L m ≤ nl L (L - m)
  | 0, L, m, hn, h0, h1 => by omega
  | n + 1, L, m, hn, h0, h1 => by
    by_cases h2 : 2 * m = L
    · rw [show L - m = m from by omega]; exact Nat.le_refl _
    · have e1 : L % (L - m) = m := mod_once (by omega) (by omega) (by omega)
      rw [nl_pos (U := L) (L := L - m) (by omega), nr_of (by omega) e1 (by omega)]
      by_cases h3 : m ≤ L - m - m
      · rw [Int.min_eq_left h3, nl_congr (U := L - m) (V := L) h0 (Int.sub_emod_right L m)]; omega
      · rw [Int.min_eq_right (by omega)]
        have hy : 0 < L - m - m := by omega
        have e2 : (L - m) % (L - m - m) = m % (L - m - m) := by
          obtain ⟨y, hy2⟩ : ∃ y, y = L - m - m := ⟨_, rfl⟩
          rw [← hy2, show L - m = m + y from by omega, Int.add_emod_right]
        have e3 : L % m = L - m - m := by
          obtain ⟨y, hy2⟩ : ∃ y, y = L - m - m := ⟨_, rfl⟩
          rw [← hy2, show L = y + m * 2 from by omega, Int.add_mul_emod_self_left]
          exact Int.emod_eq_of_lt (by omega) (by omega)
        rw [nl_congr hy e2, nl_pos (U := L) h0, nr_of h0 e3 (by omega)]
        by_cases h4 : L - m - m ≤ m - (L - m - m)
        · rw [Int.min_eq_left h4]; exact Nat.le_refl _
        · rw [Int.min_eq_right (by omega)]
          have ih := kron n m (m - (L - m - m)) (by omega) (by omega) (by omega)
          rw [show m - (m - (L - m - m)) = L - m - m from by omega] at ih
          omega
theorem levels_front (u l : Int) : ∀ i, levels u l (i + 1) = levels l (u % l) i ++ levels l (l - u % l) i
  | 0 => by simp [levels, nextP]
  | i + 1 => by
    rw [levels, levels_front u l i, levels, levels]
    unfold nextP
    rw [List.flatMap_append]
theorem few_low : ∀ (i : Nat) (u l : Int), 0 < l → (∃ p ∈ levels u l i, p.1 % p.2 = 0) → nl u l ≤ i + 1
  | 0, u, l, hl, ⟨p, hp, h⟩ => by
    rw [List.mem_singleton.mp hp] at h
    have h : u % l = 0 := h
    rw [nl_pos hl, nl_zero (by unfold nr; rw [h]; omega)]
    omega
  | i + 1, u, l, hl, ⟨p, hp, h⟩ => by
    rw [levels_front] at hp
    have h1 := Int.emod_nonneg u (Int.ne_of_gt hl)
    have h2 := Int.emod_lt_of_pos u hl
    by_cases hr : u % l = 0
    · rw [nl_pos hl, nl_zero (by unfold nr; rw [hr]; omega)]; omega
    · rw [nl_pos hl, nr_of hl rfl hr]
      rcases List.mem_append.mp hp with hp | hp
      · have ih := few_low i l (u % l) (by omega) ⟨p, hp, h⟩
        by_cases hc : u % l ≤ l - u % l
        · rw [Int.min_eq_left hc]; omega
        · rw [Int.min_eq_right (by omega)]
          have k := kron l.toNat l (l - u % l) (Nat.le_refl _) (by omega) (by omega)
          rw [show l - (l - u % l) = u % l from by omega] at k
          omega
      · have ih := few_low i l (l - u % l) (by omega) ⟨p, hp, h⟩
        by_cases hc : u % l ≤ l - u % l
        · rw [Int.min_eq_left hc]
          have k := kron l.toNat l (u % l) (Nat.le_refl _) (by omega) (by omega)
          omega
        · rw [Int.min_eq_right (by omega)]; omega
theorem few_is : ∀ (n : Nat) (u l : Int), 0 < l → nl u l = n + 1 → ∃ p ∈ levels u l n, p.1 % p.2 = 0
  | 0, u, l, hl, h => by
    refine ⟨(u, l), List.mem_singleton.mpr rfl, ?_⟩
    show u % l = 0
    by_cases hr : u % l = 0
    · exact hr
    · have h1 := Int.emod_nonneg u (Int.ne_of_gt hl)
      have h2 := Int.emod_lt_of_pos u hl
      rw [nl_pos hl, nr_of hl rfl hr, nl_pos (by omega)] at h
      omega
  | n + 1, u, l, hl, h => by
    have h1 := Int.emod_nonneg u (Int.ne_of_gt hl)
    have h2 := Int.emod_lt_of_pos u hl
    by_cases hr : u % l = 0
    · rw [nl_pos hl, nl_zero (by unfold nr; rw [hr]; omega)] at h; omega
    · rw [nl_pos hl, nr_of hl rfl hr] at h
      rw [levels_front]
      by_cases hc : u % l ≤ l - u % l
      · rw [Int.min_eq_left hc] at h
        obtain ⟨p, hp, e⟩ := few_is n l (u % l) (by omega) (by omega)
        exact ⟨p, List.mem_append_left _ hp, e⟩
      · rw [Int.min_eq_right (by omega)] at h
        obtain ⟨p, hp, e⟩ := few_is n l (l - u % l) (by omega) (by omega)
        exact ⟨p, List.mem_append_right _ hp, e⟩
set_option maxHeartbeats 4000000
noncomputable def enumObj (it : Addr) (i : Int) (old : Value) : Obj := { cls := .type "enumerate", dict := none, data := .fields #[.none, .bool false, .ref it, rawInt i, .none, old], slots := #[] }
section
variable {prog : Program} {w : World} {A : Around} {E : Value → Shared → Prop} {s : Shared} {env : Env} {h₀ : Heap} {L : Addr} {m : Str → Option Value}
theorem enumL {l : Addr} {vs : List Value} {k : Nat} {news : Led} {Q : Value → Shared → Prop} (F : Fr h₀ L s.heap m) (N : News h₀ L s.heap news) (hl : (l, listOf vs.toArray k) ∈ news)
    (h : ∀ e it oi h', Fr h₀ L h' m → News h₀ L h' ((e, enumObj it 0 .none) :: (it, oi) :: news) → (∀ p ∈ news, p.1 < it) → @LT.lt Nat _ it e → (oi.cls = .type "list_iterator" ∧ oi.data = .fields #[.ref l, .int ((0 : Nat) : Int) 0]) → Q (.ref e) { s with heap := h' }) :
    wpAny (model prog w) A (call (.type "enumerate") [.ref l]) Q E s := by
  refine call_enumerate_list ⟨_, (N _ hl).1, rfl, k, rfl⟩ fun h' he hi hz keep => ?_
  obtain ⟨oi, hoi, r⟩ := id hi
  have up : h₀.objs.size ≤ L := F.above
  have fresh : ∀ a, s.heap.objs.size ≤ a → h₀.get? a = none := fun a ha => by
    cases e : h₀.get? a with
    | none => rfl
    | some o' => exact absurd (Heap.lt_size (F.keep a o' e)) (Nat.not_lt.mpr ha)
  have hLlt : L < s.heap.objs.size := F.ns.lt
  refine h _ _ oi h' (F.keeps keep) (fun p hp => ?_) (fun p hp => Heap.lt_size (N p hp).1) (Nat.lt_succ_self _) r
  rcases List.mem_cons.mp hp with rfl | hp
  · exact ⟨he, Nat.ne_of_gt (Nat.lt_succ_of_lt hLlt), fresh _ (Nat.le_succ _)⟩
  · rcases List.mem_cons.mp hp with rfl | hp
    · exact ⟨hoi, Nat.ne_of_gt hLlt, fresh _ (Nat.le_refl _)⟩
    · exact ⟨keep _ _ (N p hp).1, (N p hp).2⟩

theorem off1_of {D : Addr} {l : Led} (h : ∀ p ∈ l, p.1 ≠ D) : LCg.Off1 D l := by
  induction l with
  | nil => trivial
  | cons q l ih => exact ⟨h q (.head _), ih fun p hp => h p (.tail _ hp)⟩
/-- a turn's end in a block over an enumerate object -/
noncomputable def EnE (h₀ : Heap) (L : Addr) (m : Str → Option Value) (e it C D : Addr) (oe oi oC : Obj) (ys : List Value) (J : List Value → Led → Prop) (s₁ : Shared) (y : Value) (s₂ : Shared) : Prop :=
  ∃ h' tk nw, s₂ = { s₁ with heap := h', toks := tk } ∧ Fr h₀ L h' m ∧ News h₀ L h' ((e, oe) :: (it, oi) :: (C, oC) :: (D, LCg.lst ys) :: nw) ∧ (∀ p ∈ nw, p.1 ≠ e ∧ p.1 ≠ it ∧ p.1 ≠ C ∧ p.1 ≠ D) ∧ J (ys ++ [y]) nw
/-- what holds between the turns of a loop over an enumerate object -/
structure EnInvD (h₀ : Heap) (L : Addr) (m : Str → Option Value) (e it l C D : Addr) (vs : List Value) (J : Nat → List Value → Led → Prop) (s₂ : Shared) (k : Nat) (s' : Shared) (h' : Heap) (tk i : Nat) (ys : List Value) (nw : Led) (oe oi oC : Obj) (m₂ : Str → Option Value) : Prop where
  c1 : s' = { s₂ with heap := h', toks := tk }
  c2 : i ≤ vs.length
  c3 : k = vs.length + 1 - i
  c4 : (∃ old, IsEnum h' e it ((i : Nat) : Int) old) ∧ h'.IsListIter it l i ∧ h'.IsList l vs.toArray
  c5 : Fr h₀ L h' m
  c6 : News h₀ L h' ((e, oe) :: (it, oi) :: (C, oC) :: (D, LCg.lst ys) :: nw)
  c7 : LCg.NsObj oC m₂
  c8 : ∀ p ∈ nw, p.1 ≠ e ∧ p.1 ≠ it ∧ p.1 ≠ C ∧ p.1 ≠ D
  c9 : J i ys nw
noncomputable def EnInv (h₀ : Heap) (L : Addr) (m : Str → Option Value) (e it l C D : Addr) (vs : List Value) (J : Nat → List Value → Led → Prop) (s₂ : Shared) (k : Nat) (s' : Shared) : Prop :=
  ∃ (h' : Heap) (tk i : Nat) (ys : List Value) (nw : Led) (oe oi oC : Obj) (m₂ : Str → Option Value), EnInvD h₀ L m e it l C D vs J s₂ k s' h' tk i ys nw oe oi oC m₂
open LCg in
theorem compLoop_enum {elt iter : Expr} {x y : Str} {px py tp : Pos} {kk : Nat} {scope : Scope} {cl : List (Str × Addr)} {pos : Pos} {s₂ : Shared} {C D e it l : Addr} {vs : List Value} {lk : Nat} {news₀ : Led} {m₀ : Str → Option Value} {R : Result → Shared → Prop}
    (hh : A.handled = none) (hkind : scope.kind = .function) (hx : scope.names.lookup x = some .local) (hy : scope.names.lookup y = some .local) (hxy : x ≠ y)
    (J : Nat → List Value → Led → Prop) (hJl : ∀ i ys nw, J i ys nw → (l, listOf vs.toArray lk) ∈ nw) (hlen : ∀ i ys nw, J i ys nw → ys.length ≤ sizeLine)
    (hC : s₂.heap.Ns C m₀) (F : Fr h₀ L s₂.heap m) {oe oi : Obj} (N : News h₀ L s₂.heap ((e, oe) :: (it, oi) :: (D, lst []) :: news₀)) (hC₀ : h₀.get? C = none) (hCL : C ≠ L) (hCD : C ≠ D) (hCe : C ≠ e) (hCi : C ≠ it) (hDe : D ≠ e) (hDi : D ≠ it) (hei : e ≠ it)
    (off : ∀ p ∈ news₀, p.1 ≠ e ∧ p.1 ≠ it ∧ p.1 ≠ C ∧ p.1 ≠ D)
    (st0 : (∃ old, IsEnum s₂.heap e it ((0 : Nat) : Int) old) ∧ s₂.heap.IsListIter it l 0 ∧ s₂.heap.IsList l vs.toArray) (hle : l ≠ e) (hli : l ≠ it) (hJ0 : J 0 [] news₀)
    (turn : ∀ i t v ys nw oe oi oC m₂ h tk (E' : Value → Shared → Prop), i < vs.length → vs[i]? = some v → J i ys nw → m₂ x = some (.int (i : Nat) t) → m₂ y = some v → NsObj oC m₂ → Fr h₀ L h m → News h₀ L h ((e, oe) :: (it, oi) :: (C, oC) :: (D, lst ys) :: nw) → (∀ p ∈ nw, p.1 ≠ e ∧ p.1 ≠ it ∧ p.1 ≠ C ∧ p.1 ≠ D) →
      wpAny (model prog w) A (eval elt (compEnvC scope cl C env)) (EnE h₀ L m e it C D oe oi oC ys (J (i + 1)) { s₂ with heap := h, toks := tk }) E' { s₂ with heap := h, toks := tk })
    (hR : ∀ h tk m' ys nw, Fr h₀ L h m → News h₀ L h ((D, lst ys) :: nw) → Off1 D nw → (∀ p ∈ nw, p.1 ≠ C) → h.Ns C m' → J vs.length ys nw → R (.ok .next) { s₂ with heap := h, toks := tk }) :
    codeAny (model prog w) A (.compLoop (.ListComp elt [⟨.Tuple [.Name x px, .Name y py] kk tp, iter, [], 0⟩] scope pos) 0 (.ref e) (.ref D) (compEnvC scope cl C env)) R s₂ := by
  have W := WalksT.enumerate (prog := prog) (w := w) (A := A) hh e it l hei hle hli vs.toArray
  have hsz : vs.toArray.size = vs.length := by simp
  rw [hsz] at W
  have heL : e ≠ L := (N _ (.head _)).2.1
  have hiL : it ≠ L := (N _ (.tail _ (.head _))).2.1
  have he0 : h₀.get? e = none := (N _ (.head _)).2.2
  have hi0 : h₀.get? it = none := (N _ (.tail _ (.head _))).2.2
  obtain ⟨oC₀, heC₀, hoC₀⟩ := ns_obj hC
  refine codeAny_loop rfl (EnInv h₀ L m e it l C D vs J s₂) (fun k s' hI => ?_) (vs.length + 1) ⟨s₂.heap, s₂.toks, 0, [], news₀, oe, oi, oC₀, _, rfl, Nat.zero_le _, rfl, st0, F, ?_, hoC₀, off, hJ0⟩
  · show wpAny _ A ((compTurn (.ListComp elt [⟨.Tuple [.Name x px, .Name y py] kk tp, iter, [], 0⟩] scope pos) 0 (.ref e) (.ref D) (compEnvC scope cl C env)).onRaise (fun x => do noteFrame x (compEnvC scope cl C env); theTreesLotGoes x)) _ _ s'
    refine wpAny_noted ?_
    refine opaq ?_
    intro Q₁ E₁ hQ₁
    rw [compTurn_list1]
    obtain ⟨h', tk, i, ys, nw, oe', oi', oC, m₂, rfl, hi, rfl, st', F', N', hoC, off', hJ'⟩ := hI
    refine wpAny_bind (wpAny_standAt (wpAny_bind ?_))
    have fr2 : ∀ h₁ : Heap, (∀ b o, b ∉ [e, it] → h'.get? b = some o → h₁.get? b = some o) → Fr h₀ L h₁ m := fun h₁ hk => ⟨F'.ns.at' fun o q => hk _ o (by simp [Ne.symm heL, Ne.symm hiL]) q, fun b o q => hk b o (by
      simp only [List.mem_cons, List.not_mem_nil, or_false, not_or]
      exact ⟨fun z => (by rw [z, he0] at q; cases q), fun z => (by rw [z, hi0] at q; cases q)⟩) (F'.keep b o q), F'.above⟩
    have nw2 : ∀ h₁ : Heap, (∀ b o, b ∉ [e, it] → h'.get? b = some o → h₁.get? b = some o) → News h₀ L h₁ ((C, oC) :: (D, lst ys) :: nw) := fun h₁ hk => newsMove (newsRest (newsRest N')) fun p hp z => by
      refine hk _ _ ?_ z
      simp only [List.mem_cons, List.not_mem_nil, or_false, not_or]
      exact (List.forall_mem_cons.mpr ⟨⟨hCe, hCi⟩, List.forall_mem_cons.mpr ⟨⟨hDe, hDi⟩, fun p hp => ⟨(off' p hp).1, (off' p hp).2.1⟩⟩⟩ : ∀ p ∈ (C, oC) :: (D, lst ys) :: nw, p.1 ≠ e ∧ p.1 ≠ it) p hp
    by_cases hlt : i < vs.length
    · refine W.item i _ _ _ hlt st' fun T vals h₁ tk₁ hP _ hT hM hk₁ => ?_
      obtain ⟨t, v, hv, rfl⟩ := hP
      have hv' : vs[i]? = some v := by simpa using hv
      refine wpAny_bind (W.go _ _ _ i T _ _ _ hM fun h₂ st₂ hk₂ => ?_)
      have hTw := W.apart i T _ hM
      have hk12 : ∀ b o, b ∉ [e, it] → h'.get? b = some o → h₂.get? b = some o := fun b o hb q => hk₂ b o hb (hk₁ b o hb q)
      have hT₂ : h₂.IsTuple T #[.int (i : Nat) t, v] := hT.at fun o q => hk₂ _ o hTw q
      have F₁ := fr2 h₂ hk12
      have N₁ := nw2 h₂ hk12
      refine wpAny_bind (kcp_assign hh hT₂ (lookup_relabel_local hx) (lookup_relabel_local hy) (by simp [compEnvC, relabel, hkind]) (hoC.ns (N₁ _ (.head _)).1) fun h₃ tk₃ hn₃ hk₃ => ?_)
      obtain ⟨oC₂, heC₂, hoC₂⟩ := ns_obj hn₃
      obtain ⟨⟨old, hie⟩, ⟨oi₂, hoi₂, r₂⟩, hll⟩ := id st₂
      have N₃ : News h₀ L h₃ ((e, enumObj it (((i + 1 : Nat)) : Int) old) :: (it, oi₂) :: (C, oC₂) :: (D, lst ys) :: nw) := newsPut (hk₃ _ _ (Ne.symm hCe) hie) ⟨heL, he0⟩ (newsPut (hk₃ _ _ (Ne.symm hCi) hoi₂) ⟨hiL, hi0⟩ (newsPut heC₂ ⟨hCL, hC₀⟩
        (newsMove (newsRest N₁) fun p hp z => hk₃ _ _ ((List.forall_mem_cons.mpr ⟨Ne.symm hCD, fun p hp => (off' p hp).2.2.1⟩ : ∀ p ∈ (D, lst ys) :: nw, p.1 ≠ C) p hp) z)))
      have F₃ := frC F₁ hCL hC₀ hk₃
      clear F₁ N₁ hk12 nw2 fr2 N' F'
      refine wpAny_bind (wpAny_bind (wpAny_mono (turn i t v ys nw (enumObj it (((i + 1 : Nat)) : Int) old) oi₂ oC₂ _ h₃ tk₃ _ hlt hv' hJ' (by show (if x = y then some v else if x = x then some (Value.int (i : Nat) t) else _) = _; rw [if_neg hxy, if_pos rfl]) (if_pos rfl) hoC₂ F₃ N₃ off') (fun z s₄ h₄ => ?_) fun _ _ q => q))
      obtain ⟨h₄, tk₄, nw₄, rfl, F₄, N₄, off₄, hJ₄⟩ := h₄
      have zD := N₄ (D, lst ys) (.tail _ (.tail _ (.tail _ (.head _))))
      refine wpAny_bind (append_at (hsz := by show ys.toArray.size ≤ sizeLine; rw [List.size_toArray]; exact hlen _ _ _ hJ') zD.1 fun h₅ hs₅ hD₅ => wpAny_pure (wpAny_pure (hQ₁ _ _ ⟨rfl, vs.length + 1 - (i + 1), by omega, h₅, tk₄, i + 1, ys ++ [z], nw₄, enumObj it (((i + 1 : Nat)) : Int) old, oi₂, oC₂, _, rfl, hlt, rfl, ?_, F₄.change hs₅ zD.2.1 zD.2.2, ?_, hoC₂, off₄, hJ₄⟩)))
      · have ze := N₄ _ (.head _)
        have zi := N₄ _ (.tail _ (.head _))
        have zl := N₄ _ (.tail _ (.tail _ (.tail _ (.tail _ (hJl _ _ _ hJ₄)))))
        exact ⟨⟨old, hs₅.extBut _ _ (Ne.symm hDe) ze.1⟩, ⟨oi₂, hs₅.extBut _ _ (Ne.symm hDi) zi.1, r₂⟩, ⟨_, hs₅.extBut _ _ (off₄ _ (hJl _ _ _ hJ₄)).2.2.2 zl.1, rfl, lk, rfl⟩⟩
      · exact newsPut (hs₅.extBut _ _ (Ne.symm hDe) (N₄ _ (.head _)).1) ⟨heL, he0⟩ (newsPut (hs₅.extBut _ _ (Ne.symm hDi) (N₄ _ (.tail _ (.head _))).1) ⟨hiL, hi0⟩ (newsPut (hs₅.extBut _ _ hCD (N₄ _ (.tail _ (.tail _ (.head _)))).1) ⟨hCL, hC₀⟩
          (newsPut (hD₅.trans (congrArg some (lst_snoc ys z))) zD.2 (newsMove (newsRest (newsRest (newsRest (newsRest N₄)))) fun p hp z => hs₅.extBut _ _ (off₄ p hp).2.2.2 z))))
    · obtain rfl : i = vs.length := by omega
      refine W.done _ _ _ st' fun h₁ tk₁ hk₁ => wpAny_pure ?_
      have N₁ := nw2 h₁ hk₁
      exact hQ₁ _ _ (hR h₁ tk₁ m₂ ys nw (fr2 h₁ hk₁) (newsRest N₁) (off1_of fun p hp => (off' p hp).2.2.2) (fun p hp => (off' p hp).2.2.1) (hoC.ns (N₁ _ (.head _)).1) hJ')
  · exact newsPut (N _ (.head _)).1 (N _ (.head _)).2 (newsPut (N _ (.tail _ (.head _))).1 (N _ (.tail _ (.head _))).2 (newsPut heC₀ ⟨hCL, hC₀⟩ (newsRest (newsRest N))))
open LCg in
structure EnumWD (prog : Program) (w : World) (A : Around) (h₀ : Heap) (L : Addr) (m : Str → Option Value) (env : Env) (x y : Str) (elt : Expr) (scope : Scope) (cl : List (Str × Addr)) (Fin : List Value → Led → Prop) (it : Value) (s₂ : Shared) (news₀ : Led) (e itr l : Addr) (vs : List Value) (lk : Nat) (oe oi : Obj) (news : Led) (J : Nat → List Value → Led → Prop) : Prop where
  c1 : it = .ref e
  c2 : A.handled = none
  c3 : (e, oe) ∈ news₀
  c4 : (itr, oi) ∈ news₀
  c5 : (∀ p ∈ news, p ∈ news₀)
  c6 : (∀ p ∈ news, p.1 ≠ e ∧ p.1 ≠ itr)
  c7 : e ≠ itr
  c8 : l ≠ e
  c9 : l ≠ itr
  c10 : ((∃ old, IsEnum s₂.heap e itr ((0 : Nat) : Int) old) ∧ s₂.heap.IsListIter itr l 0 ∧ s₂.heap.IsList l vs.toArray)
  c11 : J 0 [] news
  c12 : (∀ i ys nw, J i ys nw → (l, listOf vs.toArray lk) ∈ nw)
  c13 : (∀ i ys nw, J i ys nw → ys.length ≤ sizeLine)
  c14 : (∀ i t v ys nw oe oi oC C D m₂ h tk (E' : Value → Shared → Prop), i < vs.length → vs[i]? = some v → J i ys nw → m₂ x = some (.int (i : Nat) t) → m₂ y = some v → NsObj oC m₂ → Fr h₀ L h m → News h₀ L h ((e, oe) :: (itr, oi) :: (C, oC) :: (D, lst ys) :: nw) → (∀ p ∈ nw, p.1 ≠ e ∧ p.1 ≠ itr ∧ p.1 ≠ C ∧ p.1 ≠ D) → wpAny (model prog w) A (eval elt (compEnvC scope cl C env)) (EnE h₀ L m e itr C D oe oi oC ys (J (i + 1)) { s₂ with heap := h, toks := tk }) E' { s₂ with heap := h, toks := tk })
  c15 : (∀ ys nw, J vs.length ys nw → Fin ys nw)
open LCg in
noncomputable def EnumW (prog : Program) (w : World) (A : Around) (h₀ : Heap) (L : Addr) (m : Str → Option Value) (env : Env) (x y : Str) (elt : Expr) (scope : Scope) (cl : List (Str × Addr)) (Fin : List Value → Led → Prop) (it : Value) (s₂ : Shared) (news₀ : Led) : Prop :=
  ∃ (e itr l : Addr) (vs : List Value) (lk : Nat) (oe oi : Obj) (news : Led) (J : Nat → List Value → Led → Prop), EnumWD prog w A h₀ L m env x y elt scope cl Fin it s₂ news₀ e itr l vs lk oe oi news J
open LCg in
theorem compLoop_enum' {elt iter : Expr} {x y : Str} {px py tp : Pos} {kk : Nat} {scope : Scope} {cl : List (Str × Addr)} {pos : Pos} {s₂ : Shared} {C D : Addr} {itv : Value} {news₀ : Led} {m₀ : Str → Option Value} {R : Result → Shared → Prop} {Fin : List Value → Led → Prop}
    (hkind : scope.kind = .function) (hx : scope.names.lookup x = some .local) (hy : scope.names.lookup y = some .local) (hxy : x ≠ y)
    (hC : s₂.heap.Ns C m₀) (F : Fr h₀ L s₂.heap m) (N : News h₀ L s₂.heap ((D, lst []) :: news₀)) (hC₀ : h₀.get? C = none) (hCL : C ≠ L) (offC : ∀ p ∈ (D, lst []) :: news₀, p.1 ≠ C) (offD : ∀ p ∈ news₀, p.1 ≠ D)
    (X : EnumW prog w A h₀ L m env x y elt scope cl Fin itv s₂ news₀)
    (hR : ∀ h tk m' ys nw, Fr h₀ L h m → News h₀ L h ((D, lst ys) :: nw) → Off1 D nw → (∀ p ∈ nw, p.1 ≠ C) → h.Ns C m' → Fin ys nw → R (.ok .next) { s₂ with heap := h, toks := tk }) :
    codeAny (model prog w) A (.compLoop (.ListComp elt [⟨.Tuple [.Name x px, .Name y py] kk tp, iter, [], 0⟩] scope pos) 0 itv (.ref D) (compEnvC scope cl C env)) R s₂ := by
  obtain ⟨e, itr, l, vs, lk, oe, oi, news, J, rfl, hh, he, hi, hsub, hoff, hei, hle, hli, st0, hJ0, hJl, hlen, turn, done⟩ := X
  refine compLoop_enum hh hkind hx hy hxy J hJl hlen hC F (oe := oe) (oi := oi) (news₀ := news) (fun p hp => ?_) hC₀ hCL (Ne.symm (offC _ (.head _))) (Ne.symm (offC _ (.tail _ he))) (Ne.symm (offC _ (.tail _ hi))) (Ne.symm (offD _ he)) (Ne.symm (offD _ hi)) hei
    (fun p hp => ⟨(hoff p hp).1, (hoff p hp).2, offC _ (.tail _ (hsub p hp)), offD _ (hsub p hp)⟩) st0 hle hli hJ0 (fun i t v ys nw oe oi oC m₂ h tk E' => turn i t v ys nw oe oi oC C D m₂ h tk E') (fun h tk m' ys nw F' N' o1 oC hn j => hR h tk m' ys nw F' N' o1 oC hn (done _ _ j))
  rcases List.mem_cons.mp hp with rfl | hp
  · exact N _ (.tail _ he)
  · rcases List.mem_cons.mp hp with rfl | hp
    · exact N _ (.tail _ hi)
    · rcases List.mem_cons.mp hp with rfl | hp
      · exact N _ (.head _)
      · exact N _ (.tail _ (hsub p hp))
theorem EnumW.grow {elt : Expr} {x y : Str} {scope : Scope} {cl : List (Str × Addr)} {Fin : List Value → Led → Prop} {it : Value} {s₂ : Shared} {news₀ : Led} {h₁ : Heap} {t₁ : Nat}
    (X : EnumW prog w A h₀ L m env x y elt scope cl Fin it s₂ news₀) (old : ∀ b o, s₂.heap.get? b = some o → h₁.get? b = some o) :
    EnumW prog w A h₀ L m env x y elt scope cl Fin it { s₂ with heap := h₁, toks := t₁ } news₀ := by
  obtain ⟨e, itr, l, vs, lk, oe, oi, news, J, rfl, hh, he, hi, hsub, hoff, hei, hle, hli, ⟨⟨old', s1⟩, s2, s3⟩, hJ0, hJl, hlen, turn, done⟩ := X
  exact ⟨e, itr, l, vs, lk, oe, oi, news, J, rfl, hh, he, hi, hsub, hoff, hei, hle, hli, ⟨⟨old', old _ _ s1⟩, s2.at fun o e => old _ _ e, s3.at fun o e => old _ _ e⟩, hJ0, hJl, hlen, turn, done⟩
theorem EnumW.self {elt : Expr} {x y : Str} {scope : Scope} {cl : List (Str × Addr)} {Fin : List Value → Led → Prop} {it : Value} {s₂ : Shared} {news₀ : Led}
    (X : EnumW prog w A h₀ L m env x y elt scope cl Fin it s₂ news₀) {Q' : Value → Shared → Prop} {E' : Value → Shared → Prop} (h : Q' it s₂) : wpAny (model prog w) A (pyIter it) Q' E' s₂ := by
  obtain ⟨e, itr, l, vs, lk, oe, oi, news, J, rfl, hh, he, hi, hsub, hoff, hei, hle, hli, ⟨⟨old', s1⟩, s2, s3⟩, hJ0, hJl, hlen, turn, done⟩ := X
  exact wpAny_pyIter_enum s1 h
open LCg in
/-- a block of one loop -/
theorem blockE {elt iter : Expr} {x y : Str} {px pyy tp : Pos} {kk : Nat} {scope : Scope} {cl : List (Str × Addr)} {pos : Pos} {Fin : List Value → Led → Prop} {it : Value} {s₂ : Shared} {news₀ : Led} {RR : Value → Addr → Result → Shared → Prop}
    (hcell : ∀ y ∈ scope.names, y.2 ≠ .cell) (hkind : scope.kind = .function) (hx : scope.names.lookup x = some .local) (hy : scope.names.lookup y = some .local) (hxy : x ≠ y) (F : Fr h₀ L s₂.heap m) (N : News h₀ L s₂.heap news₀)
    (X : EnumW prog w A h₀ L m env x y elt scope cl Fin it s₂ news₀)
    (hRR : ∀ D C h tk m' ys nw, Fr h₀ L h m → News h₀ L h ((D, lst ys) :: nw) → Off1 D nw → h.Ns C m' → h₀.get? C = none → C ≠ L → C ≠ D → (∀ p ∈ nw, p.1 ≠ C) → Fin ys nw → RR (.ref D) C (.ok .next) { s₂ with heap := h, toks := tk }) :
    wpAny (model prog w) A (newList []) (fun acc s₃ => wpAny (model prog w) A (newFunctionEnv scope env.globals cl [] env.qual none .none (some env)) (fun cenv s₄ =>
      codeAny (model prog w) A (.compStart (.ListComp elt [⟨.Tuple [.Name x px, .Name y pyy] kk tp, iter, [], 0⟩] scope pos) 0 it acc { cenv with scope := relabel scope env }) (RR acc cenv.locals) s₄) E s₃) E s₂ := by
  refine wpAny_newObj_type (wpAny_newFunctionEnv hcell (by intro y hy; simp at hy) (fun h₁ hns₁ hsb₁ => ?_) hkind)
  dsimp only at hns₁ hsb₁ ⊢
  generalize hH2 : s₂.heap.push { cls := .type "list", dict := none, data := .seq ([] : List Value).toArray } = H2 at hns₁ hsb₁ ⊢
  have hC : H2.objs.size = s₂.heap.objs.size + 1 := by rw [← hH2, Heap.size_push]
  have hDC : s₂.heap.objs.size ≠ H2.objs.size := by rw [hC]; exact Nat.ne_of_lt (Nat.lt_succ_self _)
  have below : ∀ b, b < s₂.heap.objs.size → b ≠ H2.objs.size ∧ b ≠ s₂.heap.objs.size := fun b hb => ⟨by rw [hC]; exact Nat.ne_of_lt (Nat.lt_succ_of_lt hb), Nat.ne_of_lt hb⟩
  have old : ∀ b o, s₂.heap.get? b = some o → h₁.get? b = some o := fun b o e => hsb₁.extBut b o (below b (Heap.lt_size e)).1 (Heap.get?_push_of_some _ (hH2 ▸ Heap.get?_push_of_some _ e))
  have hacc : h₁.get? s₂.heap.objs.size = some (lst []) := hsb₁.extBut _ _ hDC (Heap.get?_push_of_some _ (hH2 ▸ Heap.get?_push_size _ rfl))
  have fresh₀ : ∀ a, s₂.heap.objs.size ≤ a → h₀.get? a = none := fun a ha => by
    cases e : h₀.get? a with
    | none => rfl
    | some o' => exact absurd (Heap.lt_size (F.keep a o' e)) (Nat.not_lt.mpr ha)
  have hLlt : L < s₂.heap.objs.size := F.ns.lt
  have hC₀ : h₀.get? H2.objs.size = none := fresh₀ _ (by rw [hC]; exact Nat.le_succ _)
  have hCL : H2.objs.size ≠ L := Ne.symm (below L hLlt).1
  have hDL : s₂.heap.objs.size ≠ L := Ne.symm (below L hLlt).2
  have N₁ : News h₀ L h₁ ((s₂.heap.objs.size, lst []) :: news₀) := fun p hp => by
    rcases List.mem_cons.mp hp with rfl | hp
    · exact ⟨hacc, hDL, fresh₀ _ (Nat.le_refl _)⟩
    · exact ⟨old _ _ (N p hp).1, (N p hp).2⟩
  have X₁ := X.grow (t₁ := s₂.toks + ([] : List (Str × Value)).length) old
  have loop : codeAny (model prog w) A (.compLoop (.ListComp elt [⟨.Tuple [.Name x px, .Name y pyy] kk tp, iter, [], 0⟩] scope pos) 0 it (.ref s₂.heap.objs.size) (compEnvC scope cl H2.objs.size env))
        (RR (.ref s₂.heap.objs.size) H2.objs.size) { s₂ with heap := h₁, toks := s₂.toks + ([] : List (Str × Value)).length } := by
    refine compLoop_enum' hkind hx hy hxy hns₁ (F.keeps old) N₁ hC₀ hCL (fun p hp => ?_) (fun p hp => (below _ (Heap.lt_size (N p hp).1)).2) X₁ ?_
    · rcases List.mem_cons.mp hp with rfl | hp
      · exact hDC
      · exact (below _ (Heap.lt_size (N p hp).1)).1
    · intro h tk m' ys nw F' N' o1 oC hn hF
      exact hRR _ _ h tk m' ys nw F' N' o1 hn hC₀ hCL hDC.symm oC hF
  exact codeAny_compStart_list loop (X₁.self loop)

open LCg in
theorem LCE_eval {elt iter : Expr} {x y : Str} {px pyy tp : Pos} {kk : Nat} {scope : Scope} {cl : List (Str × Addr)} {pos : Pos} {Q : Value → Shared → Prop} (_F : Fr h₀ L s.heap m)
    (hclos : closureFor scope env = pure cl) (hcell : ∀ y ∈ scope.names, y.2 ≠ .cell) (hkind : scope.kind = .function)
    (hnames : ∀ y ∈ scope.names, y.2 = .local → scope.names.lookup y.1 = some .local) (hx : scope.names.lookup x = some .local) (hy : scope.names.lookup y = some .local) (hxy : x ≠ y)
    (h : wpAny (model prog w) A (eval iter env) (fun xv s₁ => wpAny (model prog w) A (pyIter xv) (fun it s₂ => ∃ news₀, Fr h₀ L s₂.heap m ∧ News h₀ L s₂.heap news₀ ∧
      EnumW prog w A h₀ L m env x y elt scope cl (fun ys nw => ∀ D h tk, Fr h₀ L h m → News h₀ L h ((D, lst ys) :: nw) → Off1 D nw → Q (.ref D) { s₂ with heap := h, toks := tk }) it s₂ news₀) E s₁) E s)
    (hs : ∀ x, foldedSetIterable iter env x = pure x := by intro _; rfl) :
    wpAny (model prog w) A (eval (.ListComp elt [⟨.Tuple [.Name x px, .Name y pyy] kk tp, iter, [], 0⟩] scope pos) env) Q E s := by
  rw [eval_ListComp]
  refine wpAny_comprehension_free (use := none) rfl hs hclos hkind hnames (wpAny_mono h (fun xv s₁ h₁ => wpAny_mono h₁ (fun it s₂ h₂ => ?_) fun _ _ e => e) fun _ _ e => e)
  obtain ⟨news₀, F, N, X⟩ := h₂
  refine blockE hcell hkind hx hy hxy F N X ?_
  intro D C h' tk m' ys nw F' N' o1 hn hC₀ hCL hCD offC fin
  refine ⟨m', hn, fun h'' hs'' => fin D h'' tk (F'.change hs'' hCL hC₀) (fun p hp => ?_) o1⟩
  refine ⟨hs''.extBut _ _ ?_ (N' p hp).1, (N' p hp).2⟩
  rcases List.mem_cons.mp hp with rfl | hp
  · exact Ne.symm hCD
  · exact offC p hp

end
set_option maxHeartbeats 4000000
section
variable {prog : Program} {w : World} {A : Around} {E : Value → Shared → Prop} {s : Shared} {env : Env} {h₀ : Heap} {L : Addr} {m : Str → Option Value}
open LCg in
/-- a range as the source of a block's loop -/
theorem comp_rangeE {target elt : Expr} {ifs : List Expr} {scope : Scope} {cl : List (Str × Addr)} {K : (Str → Option Value) → Prop} {ys₀ : List Value} {Fin : Shared → List Value → Led → Prop}
    (hh : A.handled = none) {r : Addr} {a b : Int} {t u v : Tok} {n : Nat} {news nw₀ : Led} (F : Fr h₀ L s.heap m) (N : News h₀ L s.heap news) (hr : IsRange s.heap r a b 1 t u v) (hsmall : Builtin.Range.small a b 1 = true) (hn : Builtin.Range.rangeSize a b 1 = (n : Int))
    (J : Nat → List Value → Led → Prop) (B : Nat → Value → Led → (Str → Option Value) → Prop) (asg : AsgW prog w A env target scope cl (fun i v => ∃ t, v = .int (a + (i : Int)) t) J K B) (hlen : ∀ i ys nw, J i ys nw → ys.length ≤ sizeLine)
    (hgo : ∀ i v (s' : Shared) (Q' : Unit → Shared → Prop) (E' : Value → Shared → Prop), (∃ t, v = .int (a + ((i : Nat) : Int)) t) → Q' () s' → wpAny (model prog w) A (letOwnedTupleGo target (.ref s.heap.objs.size) v) Q' E' s')
    (J0 : J 0 ys₀ nw₀) (sub : ∀ p ∈ nw₀, p ∈ news)
    (turn : ∀ (i : Nat) v ys nw I oI oC C D m₂ h tk (E' : Value → Shared → Prop), i < n → (∃ t, v = .int (a + (i : Int)) t) → J i ys nw → B i v nw m₂ → K m₂ → NsObj oC m₂ → Fr h₀ L h m → News h₀ L h ((I, oI) :: (C, oC) :: (D, lst ys) :: nw) → Off3 I C D nw → ((@Ne Nat I C) ∧ (@Ne Nat I D) ∧ (@Ne Nat C D)) →
      (∃ x l st, oI = ({ cls := .type "range_iterator", dict := none, data := .fields #[rawInt x, rawInt l, rawInt st], slots := #[] } : Obj)) →
      wpAny (model prog w) A (testsOf ifs (compEnvC scope cl C env)) (fun ok s₃ => if ok = true then wpAny (model prog w) A (eval elt (compEnvC scope cl C env)) (EltE h₀ L m I C D oI oC ys (J (i + 1)) { s with heap := h, toks := tk }) E' s₃
        else SkipE h₀ L m I C D oI oC ys (J (i + 1)) { s with heap := h, toks := tk } s₃) E' { s with heap := h, toks := tk })
    (done : ∀ g ys nw, J n ys nw → Fin { s with heap := g } ys nw) :
    wpAny (model prog w) A (pyIter (.ref r)) (fun it s₂ => ∃ news₀, Fr h₀ L s₂.heap m ∧ News h₀ L s₂.heap news₀ ∧ CompW prog w A h₀ L m env target ifs elt scope cl K ys₀ (Fin s₂) it s₂ news₀) E s := by
  refine wpAny_pyIter_range hr hsmall ?_
  have W := LCg.range_walks (prog := prog) (w := w) (I := s.heap.objs.size) hh a n
  refine ⟨_, F.push _, News.push F N _, ?_⟩
  refine ⟨s.heap.objs.size, _, n, _, _, J, B, rfl, W, ?_, ?_, ?_, asg, hlen, ?_, ⟨_, .head _⟩, ⟨nw₀, fun p hp => .tail _ (sub p hp), fun p hp => Nat.ne_of_lt (Heap.lt_size (N p (sub p hp)).1), J0⟩, ?_, done _⟩
  · exact fun i h st => ⟨_, st⟩
  · intro i h h' o nw ys st e e' _ _ _
    have st' : h.get? _ = some _ := st
    show h'.get? _ = some _
    rw [e', ← e]; exact st'
  · intro i v s' Q' E' hP _ h
    exact hgo i v s' Q' E' hP h
  · show IsRangeIter _ _ _ _ _
    rw [hn]; simpa using Heap.get?_push_size _ rfl
  · intro i v ys nw oI oC C D m₂ h tk E' hi hP ⟨h₁, st₁, ho₁⟩ hJ hB hK hoC hF hN off ne
    have e2 : h₁.get? s.heap.objs.size = some _ := st₁
    exact turn i v ys nw _ oI oC C D m₂ h tk E' hi hP hJ hB hK hoC hF hN off ne ⟨_, _, _, Option.some.inj (ho₁.symm.trans e2)⟩
end
set_option maxHeartbeats 4000000
section
variable {prog : Program} {w : World} {A : Around} {E : Value → Shared → Prop} {s : Shared} {env : Env} {h₀ : Heap} {L : Addr} {m : Str → Option Value}
open LCg in
theorem enumE {elt : Expr} {x y : Str} {scope : Scope} {cl : List (Str × Addr)} {Fin : Shared → List Value → Led → Prop} (hh : A.handled = none) {e itr l : Addr} {vs : List Value} {lk : Nat} {oi : Obj} {news₀ news : Led}
    (F : Fr h₀ L s.heap m) (N : News h₀ L s.heap news₀) (he : (e, enumObj itr 0 .none) ∈ news₀) (hi : (itr, oi) ∈ news₀) (hio : oi.cls = .type "list_iterator" ∧ oi.data = .fields #[.ref l, .int ((0 : Nat) : Int) 0]) (hl : (l, listOf vs.toArray lk) ∈ news₀)
    (J : Nat → List Value → Led → Prop) (hJ0 : J 0 [] news) (hsub : ∀ p ∈ news, p ∈ news₀) (hoff : ∀ p ∈ news, p.1 ≠ e ∧ p.1 ≠ itr) (hei : e ≠ itr) (hle : l ≠ e) (hli : l ≠ itr)
    (hJl : ∀ i ys nw, J i ys nw → (l, listOf vs.toArray lk) ∈ nw) (hlen : ∀ i ys nw, J i ys nw → ys.length ≤ sizeLine)
    (turn : ∀ i t v ys nw oe oi oC C D m₂ h tk (E' : Value → Shared → Prop), i < vs.length → vs[i]? = some v → J i ys nw → m₂ x = some (.int (i : Nat) t) → m₂ y = some v → NsObj oC m₂ → Fr h₀ L h m → News h₀ L h ((e, oe) :: (itr, oi) :: (C, oC) :: (D, lst ys) :: nw) → (∀ p ∈ nw, p.1 ≠ e ∧ p.1 ≠ itr ∧ p.1 ≠ C ∧ p.1 ≠ D) →
      wpAny (model prog w) A (eval elt (compEnvC scope cl C env)) (EnE h₀ L m e itr C D oe oi oC ys (J (i + 1)) { s with heap := h, toks := tk }) E' { s with heap := h, toks := tk })
    (done : ∀ ys nw, J vs.length ys nw → Fin s ys nw) :
    wpAny (model prog w) A (pyIter (.ref e)) (fun it s₂ => ∃ news₀, Fr h₀ L s₂.heap m ∧ News h₀ L s₂.heap news₀ ∧ EnumW prog w A h₀ L m env x y elt scope cl (Fin s₂) it s₂ news₀) E s :=
  wpAny_pyIter_enum (N _ he).1 ⟨news₀, F, N, e, itr, l, vs, lk, _, oi, news, J, rfl, hh, he, hi, hsub, hoff, hei, hle, hli, ⟨⟨_, (N _ he).1⟩, ⟨_, (N _ hi).1, hio⟩, ⟨_, (N _ hl).1, rfl, lk, rfl⟩⟩, hJ0, hJl, hlen, turn, done⟩
theorem EnE.go {e it C D : Addr} {oe oi oC : Obj} {ys : List Value} {J : List Value → Led → Prop} {s₁ : Shared} {y : Value} {h' : Heap} {tk : Nat} {nw : Led}
    (F : Fr h₀ L h' m) (N : News h₀ L h' ((e, oe) :: (it, oi) :: (C, oC) :: (D, LCg.lst ys) :: nw)) (off : ∀ p ∈ nw, p.1 ≠ e ∧ p.1 ≠ it ∧ p.1 ≠ C ∧ p.1 ≠ D) (j : J (ys ++ [y]) nw) : EnE h₀ L m e it C D oe oi oC ys J s₁ y { s₁ with heap := h', toks := tk } := ⟨h', tk, nw, rfl, F, N, off, j⟩
theorem pick_ints {vs : List Value} {ns : List Int} (h : IntsAre vs ns) : ∀ is : List Nat, ∃ ms, IntsAre (is.filterMap (vs[·]?)) ms ∧ ms.length ≤ is.length
  | [] => ⟨[], .nil, Nat.le_refl _⟩
  | i :: is => by
    obtain ⟨ms, h1, h2⟩ := pick_ints h is
    cases hv : vs[i]? with
    | none => exact ⟨ms, by rw [List.filterMap_cons_none hv]; exact h1, Nat.le_succ_of_le h2⟩
    | some v =>
      obtain ⟨t, e, _⟩ := ints_get h hv
      exact ⟨_ :: ms, by rw [List.filterMap_cons_some hv, e]; exact .cons _ t h1, Nat.succ_le_succ h2⟩
theorem slice_len {i n : Nat} (hi : i < 4) : (sliceRange (sliceBounds (some (i : Int)) (some 60) (some 4) n).1 (sliceBounds (some (i : Int)) (some 60) (some 4) n).2.1 (sliceBounds (some (i : Int)) (some 60) (some 4) n).2.2).length ≤ 15 := by
  unfold sliceRange sliceBounds
  rw [List.length_map, List.length_range]
  simp only [Option.getD_some]
  rw [if_neg (show ¬ ((i : Int) < 0) from by omega), if_neg (show ¬ ((60 : Int) < 0) from by decide)]
  simp only [show ((4 : Int) > 0) from by decide, if_true]
  split
  · have h1 : max 0 (min (60 : Int) (n : Int)) ≤ 60 := by omega
    have h2 : (0 : Int) ≤ max 0 (min (i : Int) (n : Int)) := by omega
    omega
  · decide
theorem slice_cell {value slice : Expr} {l : Addr} {vs : List Value} {ns : List Int} {i : Nat} {t u v : Tok} {ops : List Value} {news : Led} {Q : Value → Shared → Prop} (F : Fr h₀ L s.heap m) (N : News h₀ L s.heap news) (hl : s.heap.IsList l vs.toArray) (hi : IntsAre vs ns) (h4 : i < 4)
    (h : ∀ D h' ws ms, Fr h₀ L h' m → News h₀ L h' ((D, listOf (List.toArray ws) 0) :: news) → (∀ p ∈ news, p.1 < D) → IntsAre ws ms → ms.length ≤ 15 → Q (.ref D) { s with heap := h' })
    (hs : subscripted slice false (.ref l) (.ref s.heap.objs.size) = operate ops (getItem (.ref l) (.ref s.heap.objs.size))) (ht : ∀ r, letTemporaryGo value (.ref l) r = pure ()) (hz : vs.length ≤ sizeLine) :
    wpAny (model prog w) A (subscriptTail value slice (.ref l) (.ref s.heap.objs.size)) Q E { s with heap := s.heap.push { cls := .type "slice", data := .fields #[.int (i : Nat) t, .int 60 u, .int 4 v] } } := by
  obtain ⟨ms, h1, h2⟩ := pick_ints hi (sliceRange (sliceBounds (some (i : Int)) (some 60) (some 4) vs.toArray.size).1 (sliceBounds (some (i : Int)) (some 60) (some 4) vs.toArray.size).2.1 (sliceBounds (some (i : Int)) (some 60) (some 4) vs.toArray.size).2.2)
  refine slice_list3 F N hl (.int _ _) (.int _ _) (.int _ _) (by decide) (fun h' F' N' => h _ h' _ ms F' ?_ (fun p hp => Nat.lt_succ_of_lt (Heap.lt_size (N p hp).1)) h1 (Nat.le_trans h2 (slice_len h4))) hs ht (by rw [List.size_toArray]; exact hz)
  unfold slicePick at N'
  simpa using N'
theorem sum_small {ms : List Int} (h : ∀ c ∈ ms, 0 ≤ c ∧ c < 1000000) : 0 ≤ ms.sum ∧ ms.sum ≤ 999999 * (ms.length : Int) := by
  induction ms with
  | nil => simp
  | cons a ms ih =>
    have h1 := ih fun c hc => h c (.tail _ hc)
    have h2 := h a (.head _)
    simp only [List.sum_cons, List.length_cons]
    push_cast
    omega
theorem fmod_million (a : Int) : 0 ≤ a.fmod 1000000 ∧ a.fmod 1000000 < 1000000 := by
  rw [Int.fmod_eq_emod_of_nonneg _ (by decide)]; omega
/-- a block over ints that makes ints of one kind -/
noncomputable def JInts (base : Led) (n : Nat) (P : Int → Prop) (k : Nat) (ys : List Value) (nw : Led) : Prop := nw = base ∧ k ≤ n ∧ ∃ cs, IntsAre ys cs ∧ cs.length = k ∧ ∀ c ∈ cs, P c
theorem JInts.next {base : Led} {n : Nat} {P : Int → Prop} {k : Nat} {ys : List Value} {nw : Led} (j : JInts base n P k ys nw) (hk : k < n) {c : Int} {t : Tok} (hc : P c) : JInts base n P (k + 1) (ys ++ [.int c t]) nw := by
  obtain ⟨h1, _, cs, h3, h4, h5⟩ := j
  refine ⟨h1, hk, cs ++ [c], ints_app h3, by rw [List.length_append, h4]; rfl, fun d hd => ?_⟩
  rcases List.mem_append.mp hd with hd | hd
  · exact h5 d hd
  · rw [List.mem_singleton.mp hd]; exact hc
theorem JInts.zero {base : Led} {n : Nat} {P : Int → Prop} : JInts base n P 0 [] base := ⟨rfl, Nat.zero_le _, [], .nil, rfl, fun c hc => nomatch hc⟩
theorem JInts.len {base : Led} {n : Nat} {P : Int → Prop} {k : Nat} {ys : List Value} {nw : Led} (j : JInts base n P k ys nw) (hn : n ≤ 1000) : ys.length ≤ sizeLine := by
  obtain ⟨_, h2, cs, h3, h4, _⟩ := j
  rw [h3.length, h4, PySem.sizeLine_eq]; omega
open LCg in
theorem comp_intsE {elt : Expr} {x : Str} {px : Pos} {scope : Scope} {cl : List (Str × Addr)} {Fin : Shared → List Value → Led → Prop} (P : Int → Prop)
    (hh : A.handled = none) (hkind : scope.kind = .function) (hx : scope.names.lookup x = some .local) {ax : Addr} {vs : List Value} {ms : List Int} {ep : Nat} {news : Led} (F : Fr h₀ L s.heap m) (N : News h₀ L s.heap news) (hl : (ax, listOf vs.toArray ep) ∈ news) (hi : IntsAre vs ms) (hv : vs.length ≤ 1000)
    (turn : ∀ k a ta ys I oI oC C D m₂ h tk (E' : Value → Shared → Prop), k < vs.length → m₂ x = some (.int a ta) → NsObj oC m₂ → Fr h₀ L h m → News h₀ L h ((I, oI) :: (C, oC) :: (D, lst ys) :: news) → Off3 I C D news → ((@Ne Nat I C) ∧ (@Ne Nat I D) ∧ (@Ne Nat C D)) → JInts news vs.length P k ys news →
      wpAny (model prog w) A (eval elt (compEnvC scope cl C env)) (EltE h₀ L m I C D oI oC ys (JInts news vs.length P (k + 1)) { s with heap := h, toks := tk }) E' { s with heap := h, toks := tk })
    (done : ∀ g ys cs, IntsAre ys cs → cs.length = ms.length → (∀ c ∈ cs, P c) → Fin { s with heap := g } ys news) :
    wpAny (model prog w) A (pyIter (.ref ax)) (fun it s₂ => ∃ news₀, Fr h₀ L s₂.heap m ∧ News h₀ L s₂.heap news₀ ∧ CompW prog w A h₀ L m env (.Name x px) [] elt scope cl (fun _ => True) [] (Fin s₂) it s₂ news₀) E s := by
  refine comp_listE hh F N hl (JInts news vs.length P) (fun _ v _ mm => ∃ a t, v = .int a t ∧ mm x = some (.int a t)) (asg_name hkind hx (fun _ _ _ => trivial) fun i v ys nw mm hP _ hm => ?_) (fun i ys nw j => j.len hv) (fun i ys nw j => j.1 ▸ hl) JInts.zero (fun _ h => h) ?_ ?_
  · obtain ⟨t, e, _⟩ := ints_get hi hP
    exact ⟨_, t, e, by rw [hm, e]⟩
  · rintro k v ys nw I oI oC C D m₂ h tk E' hk _ j ⟨a, t, rfl, hm⟩ _ hC F' N' off ne
    have e := j.1
    subst e
    refine wpAny_tests_nil ?_
    rw [if_pos rfl]
    exact turn k a t ys I oI oC C D m₂ h tk E' hk hm hC F' N' off ne j
  · rintro g ys nw ⟨rfl, _, cs, h1, h2, h3⟩
    exact done g ys cs h1 (h2.trans hi.length) h3
/-- one of the script's four cells -/
noncomputable abbrev CellIs (c : Int) : Prop := 0 ≤ c ∧ c < 2 ^ 24
open LCg in
theorem enum_cells {elt : Expr} {x y : Str} {scope : Scope} {cl : List (Str × Addr)} {Fin : Shared → List Value → Led → Prop} (hh : A.handled = none) {e itr l : Addr} {a b c d : Int} {ta tb tc td : Tok} {lk : Nat} {oi : Obj} {rest : Led}
    (F : Fr h₀ L s.heap m) (N : News h₀ L s.heap ((e, enumObj itr 0 .none) :: (itr, oi) :: (l, listOf #[.int a ta, .int b tb, .int c tc, .int d td] lk) :: rest)) (hio : oi.cls = .type "list_iterator" ∧ oi.data = .fields #[.ref l, .int ((0 : Nat) : Int) 0])
    (hf : ∀ p ∈ (l, listOf #[.int a ta, .int b tb, .int c tc, .int d td] lk) :: rest, p.1 < itr) (hei : @LT.lt Nat _ itr e) (hb : (0 ≤ a ∧ a < 3000) ∧ (0 ≤ b ∧ b < 3000) ∧ (0 ≤ c ∧ c < 3000) ∧ (0 ≤ d ∧ d < 3000))
    (turn : ∀ (i : Nat) t f tf ys oe oi oC C D m₂ h tk (E' : Value → Shared → Prop), i < 4 → (0 ≤ f ∧ f < 3000) → JInts ((l, listOf #[.int a ta, .int b tb, .int c tc, .int d td] lk) :: rest) 4 CellIs i ys ((l, listOf #[.int a ta, .int b tb, .int c tc, .int d td] lk) :: rest) → m₂ x = some (.int (i : Nat) t) → m₂ y = some (.int f tf) → NsObj oC m₂ → Fr h₀ L h m →
      News h₀ L h ((e, oe) :: (itr, oi) :: (C, oC) :: (D, lst ys) :: (l, listOf #[.int a ta, .int b tb, .int c tc, .int d td] lk) :: rest) → (∀ p ∈ (l, listOf #[.int a ta, .int b tb, .int c tc, .int d td] lk) :: rest, p.1 ≠ e ∧ p.1 ≠ itr ∧ p.1 ≠ C ∧ p.1 ≠ D) →
      wpAny (model prog w) A (eval elt (compEnvC scope cl C env)) (EnE h₀ L m e itr C D oe oi oC ys (JInts ((l, listOf #[.int a ta, .int b tb, .int c tc, .int d td] lk) :: rest) 4 CellIs (i + 1)) { s with heap := h, toks := tk }) E' { s with heap := h, toks := tk })
    (done : ∀ c0 c1 c2 c3 t0 t1 t2 t3, CellIs c0 → CellIs c1 → CellIs c2 → CellIs c3 → Fin s [.int c0 t0, .int c1 t1, .int c2 t2, .int c3 t3] rest) (mono : ∀ ys, Fin s ys rest → Fin s ys ((l, listOf #[.int a ta, .int b tb, .int c tc, .int d td] lk) :: rest)) :
    wpAny (model prog w) A (pyIter (.ref e)) (fun it s₂ => ∃ news₀, Fr h₀ L s₂.heap m ∧ News h₀ L s₂.heap news₀ ∧ EnumW prog w A h₀ L m env x y elt scope cl (Fin s₂) it s₂ news₀) E s := by
  refine enumE (vs := [.int a ta, .int b tb, .int c tc, .int d td]) hh F N (.head _) (.tail _ (.head _)) hio (.tail _ (.tail _ (.head _))) (JInts ((l, listOf #[.int a ta, .int b tb, .int c tc, .int d td] lk) :: rest) 4 CellIs) JInts.zero (fun p hp => .tail _ (.tail _ hp)) (fun p hp => ⟨Nat.ne_of_lt (Nat.lt_trans (hf p hp) hei), Nat.ne_of_lt (hf p hp)⟩)
    (Nat.ne_of_gt hei) (Nat.ne_of_lt (Nat.lt_trans (hf _ (.head _)) hei)) (Nat.ne_of_lt (hf _ (.head _))) (fun i ys nw j => j.1 ▸ .head _) (fun i ys nw j => j.len (by decide)) ?_ ?_
  · intro i t v ys nw oe oi oC C D m₂ h tk E' hi hv j hx hy hC F' N' off
    have e := j.1
    subst e
    obtain ⟨f, tf, rfl, hf⟩ : ∃ f tf, v = .int f tf ∧ (0 ≤ f ∧ f < 3000) := by
      match i, hv with
      | 0, hv => exact ⟨a, ta, (Option.some.inj hv).symm, hb.1⟩
      | 1, hv => exact ⟨b, tb, (Option.some.inj hv).symm, hb.2.1⟩
      | 2, hv => exact ⟨c, tc, (Option.some.inj hv).symm, hb.2.2.1⟩
      | 3, hv => exact ⟨d, td, (Option.some.inj hv).symm, hb.2.2.2⟩
    exact turn i t f tf ys oe oi oC C D m₂ h tk E' hi hf j hx hy hC F' N' off
  · rintro ys nw ⟨rfl, _, cs, h1, h2, h3⟩
    refine mono _ ?_
    match cs, h1, h2, h3 with
    | [c0, c1, c2, c3], h1, _, h3 =>
      obtain ⟨t0, v1, e1, k1⟩ := h1.cons_inv
      obtain ⟨t1, v2, e2, k2⟩ := k1.cons_inv
      obtain ⟨t2, v3, e3, k3⟩ := k2.cons_inv
      obtain ⟨t3, v4, e4, k4⟩ := k3.cons_inv
      rw [e1, e2, e3, e4, k4.nil_inv]
      exact done c0 c1 c2 c3 t0 t1 t2 t3 (h3 _ (.head _)) (h3 _ (.tail _ (.head _))) (h3 _ (.tail _ (.tail _ (.head _)))) (h3 _ (.tail _ (.tail _ (.tail _ (.head _)))))
/-- a block over a range that makes known ints -/
noncomputable def JF (base : Led) (n : Nat) (f : Nat → List Int) (k : Nat) (ys : List Value) (nw : Led) : Prop := nw = base ∧ k ≤ n ∧ IntsAre ys (f k)
open LCg in
theorem comp_rangeI {elt : Expr} {ifs : List Expr} {x : Str} {px : Pos} {scope : Scope} {cl : List (Str × Addr)} {Fin : Shared → List Value → Led → Prop} (f : Nat → List Int) (f0 : f 0 = [])
    (hh : A.handled = none) (hkind : scope.kind = .function) (hx : scope.names.lookup x = some .local) {r : Addr} {a b : Int} {t u v : Tok} {n : Nat} {news : Led} (F : Fr h₀ L s.heap m) (N : News h₀ L s.heap news) (hr : IsRange s.heap r a b 1 t u v) (hsmall : Builtin.Range.small a b 1 = true) (hn : Builtin.Range.rangeSize a b 1 = (n : Int)) (hlen : ∀ k, k ≤ n → (f k).length ≤ 1000)
    (turn : ∀ (k : Nat) ta ys I oI oC C D m₂ h tk (E' : Value → Shared → Prop), k < n → m₂ x = some (.int (a + (k : Int)) ta) → NsObj oC m₂ → Fr h₀ L h m → News h₀ L h ((I, oI) :: (C, oC) :: (D, lst ys) :: news) → Off3 I C D news → ((@Ne Nat I C) ∧ (@Ne Nat I D) ∧ (@Ne Nat C D)) → IntsAre ys (f k) →
      wpAny (model prog w) A (testsOf ifs (compEnvC scope cl C env)) (fun ok s₃ => if ok = true then wpAny (model prog w) A (eval elt (compEnvC scope cl C env)) (EltE h₀ L m I C D oI oC ys (JF news n f (k + 1)) { s with heap := h, toks := tk }) E' s₃
        else SkipE h₀ L m I C D oI oC ys (JF news n f (k + 1)) { s with heap := h, toks := tk } s₃) E' { s with heap := h, toks := tk })
    (done : ∀ g ys, IntsAre ys (f n) → Fin { s with heap := g } ys news) :
    wpAny (model prog w) A (pyIter (.ref r)) (fun it s₂ => ∃ news₀, Fr h₀ L s₂.heap m ∧ News h₀ L s₂.heap news₀ ∧ CompW prog w A h₀ L m env (.Name x px) ifs elt scope cl (fun _ => True) [] (Fin s₂) it s₂ news₀) E s := by
  refine comp_rangeE hh F N hr hsmall hn (JF news n f) (fun _ v _ mm => ∃ t, mm x = some v ∧ True) (asg_name hkind hx (fun _ _ _ => trivial) fun i v ys nw mm _ _ hm => ⟨0, hm, trivial⟩) (fun i ys nw j => ?_) (fun i v s' Q' E' _ h => go_name h) ⟨rfl, Nat.zero_le _, f0 ▸ .nil⟩ (fun _ h => h) ?_ ?_
  · rw [j.2.2.length, PySem.sizeLine_eq]
    have := hlen i j.2.1
    omega
  · rintro k v ys nw I oI oC C D m₂ h tk E' hk ⟨t, rfl⟩ ⟨rfl, _, j⟩ ⟨_, hm, _⟩ _ hC F' N' off ne _
    exact turn k t ys I oI oC C D m₂ h tk E' hk hm hC F' N' off ne j
  · rintro g ys nw ⟨rfl, _, j⟩
    exact done g ys j
theorem up_bound (c : Int) : -2000 ≤ c.fmod 4001 - 2000 ∧ c.fmod 4001 - 2000 ≤ 2000 := by
  rw [Int.fmod_eq_emod_of_nonneg _ (by decide)]; omega
theorem low_bound (c : Int) : 1 ≤ 1 + c.fmod 169 ∧ 1 + c.fmod 169 ≤ 169 := by
  rw [Int.fmod_eq_emod_of_nonneg _ (by decide)]; omega
theorem mea_bound (c : Int) : 1 ≤ 1 + c.fmod 1000000 ∧ 1 + c.fmod 1000000 ≤ 1000000 := by
  rw [Int.fmod_eq_emod_of_nonneg _ (by decide)]; omega
/-- the common measures up to k -/
noncomputable def divs (u l : Int) (k : Nat) : List Int := ((List.range k).map fun i : Nat => (1 : Int) + i).filter fun p => decide (u % p = 0 ∧ l % p = 0)
theorem divs_yes {u l : Int} {k : Nat} (h1 : u % (1 + (k : Int)) = 0) (h2 : l % (1 + (k : Int)) = 0) : divs u l (k + 1) = divs u l k ++ [1 + (k : Int)] := by
  unfold divs; rw [List.range_succ, List.map_append, List.filter_append]; simp [h1, h2]
theorem divs_no {u l : Int} {k : Nat} (h : ¬ (u % (1 + (k : Int)) = 0 ∧ l % (1 + (k : Int)) = 0)) : divs u l (k + 1) = divs u l k := by
  unfold divs; rw [List.range_succ, List.map_append, List.filter_append]; simp only [List.map_cons, List.map_nil, List.filter_cons, List.filter_nil, decide_eq_true_eq, if_neg h, List.append_nil]
theorem divs_len (u l : Int) (k : Nat) : (divs u l k).length ≤ k := by
  unfold divs; exact Nat.le_trans (List.length_filter_le _ _) (by simp)
theorem divs_mem {u l : Int} {k : Nat} {p : Int} : p ∈ divs u l k ↔ (1 ≤ p ∧ p ≤ k) ∧ u % p = 0 ∧ l % p = 0 := by
  unfold divs
  simp only [List.mem_filter, List.mem_map, List.mem_range, decide_eq_true_eq]
  constructor
  · rintro ⟨⟨i, hi, rfl⟩, h⟩
    exact ⟨by omega, h⟩
  · rintro ⟨h1, h⟩
    exact ⟨⟨(p - 1).toNat, by omega, by omega⟩, h⟩
end
set_option maxHeartbeats 1000000
noncomputable def NoTup (o : Obj) : Prop := ∀ ws, o ≠ tupO ws
noncomputable def NoSeq (o : Obj) : Prop := ∀ vs k, o.data ≠ .seq vs k
noncomputable def NoCode (o : Obj) : Prop := ∀ vs q t, o.data = .fields vs → vs[1]? ≠ some (.str q t)
theorem NoSeq.noTup {o : Obj} (h : NoSeq o) : NoTup o := fun ws e => h ws.toArray 0 (by rw [e])
theorem noTup_lst (ys : List Value) : NoTup (LCg.lst ys) := fun ws e => by
  have : (LCg.lst ys).cls = (tupO ws).cls := by rw [e]
  simp at this
theorem noCode_lst (ys : List Value) : NoCode (LCg.lst ys) := fun vs q t e => by simp at e
theorem noSeq_ns {o : Obj} {m : Str → Option Value} (h : LCg.NsObj o m) : NoSeq o := fun vs k e => by
  obtain ⟨es, ep, hd, _⟩ := h
  rw [hd] at e; simp at e
theorem noCode_ns {o : Obj} {m : Str → Option Value} (h : LCg.NsObj o m) : NoCode o := fun vs q t e => by
  obtain ⟨es, ep, hd, _⟩ := h
  rw [hd] at e; simp at e
section
variable {h₀ h : Heap} {L : Addr} {nw r : Led} {I : Addr} {oI : Obj}
theorem uniq {a : Addr} {o1 o2 : Obj} (N : News h₀ L h nw) (h1 : (a, o1) ∈ nw) (h2 : (a, o2) ∈ nw) : o1 = o2 :=
  Option.some.inj ((N _ h1).1.symm.trans (N _ h2).1)
theorem RowsAre.dropA {vs : List Value} {rs : List Row} (R : RowsAre r vs rs) (N : News h₀ L h nw) (hs : ∀ p ∈ r, p ∈ nw) (hI : (I, oI) ∈ nw) (hno : NoTup oI) : RowsAre (dropA I r) vs rs := by
  induction R with
  | nil => exact .nil
  | cons m _ ih =>
    refine .cons (dropA_mem.mpr ⟨m, fun e => ?_⟩) ih
    have e : _ = I := e
    subst e
    exact hno _ (uniq N hI (hs _ m))
theorem TabOk.drop' {qual : Str} {l c : Nat} {ps : Array Value} (t : TabOk qual l c ps r) (N : News h₀ L h nw) (hs : ∀ p ∈ r, p ∈ nw) (hI : (I, oI) ∈ nw) (hno : NoCode oI) : TabOk qual l c ps (dropA I r) := by
  rcases t with t | ⟨c', oc, vs, t, a, b, d, e⟩
  · exact .inl t
  · refine .inr ⟨c', oc, vs, t, a, dropA_mem.mpr ⟨b, fun q => ?_⟩, d, e⟩
    have q : c' = I := q
    subst q
    have z := uniq N hI (hs _ b)
    rw [← z] at d
    exact hno _ _ _ d e
/-- a run's rows and last divisor, as they lie in the ledger -/
noncomputable def RunA (R0 : Run) (way draw : Int) (nw : Led) (v : Value) : Prop := ∃ (x R : Addr) (vs : List Value) (ep : Nat) (tu : Tok) (rs : List Row) (U L : Int), v = .ref x ∧ runTo way draw R0 64 = ⟨rs, U, L⟩ ∧
  (x, tupO [.ref R, .int U tu]) ∈ nw ∧ (R, listOf vs.toArray ep) ∈ nw ∧ RowsAre nw vs rs ∧ vs.length ≤ 64
theorem RunA.mono {R0 : Run} {way draw : Int} {nw nw' : Led} {v : Value} (h : RunA R0 way draw nw v) (s : ∀ p ∈ nw, p ∈ nw') : RunA R0 way draw nw' v := by
  obtain ⟨x, R, vs, ep, tu, rs, U, L, a, b, c, d, e, f⟩ := h
  exact ⟨x, R, vs, ep, tu, rs, U, L, a, b, s _ c, s _ d, e.mono s, f⟩
theorem RunA.dropA {R0 : Run} {way draw : Int} {v : Value} (R : RunA R0 way draw r v) (N : News h₀ L h nw) (hs : ∀ p ∈ r, p ∈ nw) (hI : (I, oI) ∈ nw) (hno : NoSeq oI) : RunA R0 way draw (dropA I r) v := by
  obtain ⟨x, R, vs, ep, tu, rs, U, L, a, b, c, d, e, f⟩ := R
  refine ⟨x, R, vs, ep, tu, rs, U, L, a, b, dropA_mem.mpr ⟨c, fun q => ?_⟩, dropA_mem.mpr ⟨d, fun q => ?_⟩, e.dropA N hs hI hno.noTup, f⟩
  · have q : x = I := q
    subst q
    exact hno.noTup _ (uniq N hI (hs _ c))
  · have q : R = I := q
    subst q
    exact hno vs.toArray ep (by rw [uniq N hI (hs _ d)])
theorem RunR.dropD {R0 : Run} {way draw : Int} {D : Addr} {ys : List Value} {v : Value} (R : RunR D R0 way draw r v) (N : News h₀ L h nw) (hs : ∀ p ∈ r, p ∈ nw) (hD : (D, LCg.lst ys) ∈ nw) : RunA R0 way draw (dropA D r) v := by
  obtain ⟨x, R, vs, ep, tu, rs, U, L, a, b, c, d, e, f, g⟩ := R
  refine ⟨x, R, vs, ep, tu, rs, U, L, a, b, dropA_mem.mpr ⟨c, fun q => ?_⟩, dropA_mem.mpr ⟨d, fun q => ?_⟩, e.dropA N hs hD (noTup_lst ys), f⟩
  · have q : x = D := q
    subst q
    exact noTup_lst ys _ (uniq N hD (hs _ c))
  · have q : R = D := q
    subst q
    exact Nat.lt_irrefl _ g
end
noncomputable def JR (base : Led) (U0 L0 dr : Int) (k : Nat) (ys : List Value) (nw : Led) : Prop :=
  ys.length = k ∧ k ≤ 3 ∧ ∃ a37 a30 rest, nw = (37, tabObj a37) :: (30, tabObj a30) :: rest ∧ TabOk q37 47 4 a37 rest ∧ TabOk q30 32 4 a30 rest ∧ OffT rest ∧ (∀ p ∈ base, p ∈ rest) ∧ ∀ (i : Nat) v, ys[i]? = some v → RunA ⟨[], U0, L0⟩ (i : Int) dr rest v
noncomputable abbrev drop3 (I C D : Addr) (r : Led) : Led := dropA I (dropA C (dropA D r))
theorem drop3_mem {I C D : Addr} {r : Led} {p : Addr × Obj} : p ∈ drop3 I C D r ↔ ((p ∈ r ∧ p.1 ≠ D) ∧ p.1 ≠ C) ∧ p.1 ≠ I := by
  rw [dropA_mem, dropA_mem, dropA_mem]
theorem JR.next {h₀ h : Heap} {L : Addr} {base rest r : Led} {U0 L0 dr : Int} {k : Nat} {ys : List Value} {I C D : Addr} {oI oC : Obj} {m₂ : Str → Option Value} {b37 b30 : Array Value} {v : Value} {o37 o30 : Obj}
    (hys : ys.length = k) (hk : k < 3) (hbase : ∀ p ∈ base, p ∈ rest) (hruns : ∀ (i : Nat) v, ys[i]? = some v → RunA ⟨[], U0, L0⟩ (i : Int) dr rest v)
    (N : News h₀ L h ((37, tabObj b37) :: (30, tabObj b30) :: r)) (gr : Grow ((I, oI) :: (C, oC) :: (D, LCg.lst ys) :: rest) r) (off : LCg.Off3 I C D ((37, o37) :: (30, o30) :: rest)) (hC : LCg.NsObj oC m₂)
    (hoI : ∃ x l st, oI = ({ cls := .type "range_iterator", dict := none, data := .fields #[rawInt x, rawInt l, rawInt st], slots := #[] } : Obj))
    (t37 : TabOk q37 47 4 b37 r) (t30 : TabOk q30 32 4 b30 r) (hoT : OffT r) (Rn : RunR D ⟨[], U0, L0⟩ (k : Int) dr r v) :
    JR base U0 L0 dr (k + 1) (ys ++ [v]) ((37, tabObj b37) :: (30, tabObj b30) :: drop3 I C D r) ∧ LCg.Off3 I C D ((37, tabObj b37) :: (30, tabObj b30) :: drop3 I C D r) ∧
      News h₀ L h ((I, oI) :: (C, oC) :: (D, LCg.lst ys) :: (37, tabObj b37) :: (30, tabObj b30) :: drop3 I C D r) := by
  have hI := gr.sub _ (.head _)
  have hC' := gr.sub _ (.tail _ (.head _))
  have hD := gr.sub _ (.tail _ (.tail _ (.head _)))
  have nI : NoSeq oI ∧ NoCode oI := by
    obtain ⟨x, l, st, rfl⟩ := hoI
    refine ⟨fun vs k e => by simp at e, fun vs q t e => ?_⟩
    have d2 : #[rawInt x, rawInt l, rawInt st] = vs := by injection e
    rw [← d2]
    intro e2
    have e' : rawInt l = .str q t := Option.some.inj e2
    exact absurd e' (by unfold rawInt; exact fun h => nomatch h)
  have s0 : ∀ p ∈ r, p ∈ (37, tabObj b37) :: (30, tabObj b30) :: r := fun p hp => .tail _ (.tail _ hp)
  have s1 : ∀ p ∈ dropA D r, p ∈ (37, tabObj b37) :: (30, tabObj b30) :: r := fun p hp => s0 p (dropA_sub p hp)
  have s2 : ∀ p ∈ dropA C (dropA D r), p ∈ (37, tabObj b37) :: (30, tabObj b30) :: r := fun p hp => s1 p (dropA_sub p hp)
  have offm := off.mem
  have keepR : ∀ p ∈ rest, p ∈ drop3 I C D r := fun p hp => by
    have z := offm p (.tail _ (.tail _ hp))
    exact drop3_mem.mpr ⟨⟨⟨gr.sub _ (.tail _ (.tail _ (.tail _ hp))), z.2.2⟩, z.2.1⟩, z.1⟩
  have r1 := RunR.dropD Rn N s0 (s0 _ hD)
  have r2 := r1.dropA N s1 (s0 _ hC') (noSeq_ns hC)
  have r3 := r2.dropA N s2 (s0 _ hI) nI.1
  have T37 := ((t37.drop' N s0 (s0 _ hD) (noCode_lst ys)).drop' N s1 (s0 _ hC') (noCode_ns hC)).drop' N s2 (s0 _ hI) nI.2
  have T30 := ((t30.drop' N s0 (s0 _ hD) (noCode_lst ys)).drop' N s1 (s0 _ hC') (noCode_ns hC)).drop' N s2 (s0 _ hI) nI.2
  refine ⟨⟨by rw [List.length_append, hys]; rfl, hk, b37, b30, _, rfl, T37, T30, hoT.sub fun q hq => (drop3_mem.mp hq).1.1.1, fun p hp => keepR p (hbase p hp), fun i w hw => ?_⟩, ?_, ?_⟩
  · by_cases hi : i < ys.length
    · rw [List.getElem?_append_left hi] at hw
      exact (hruns i w hw).mono keepR
    · have hi2 : i = k := by
        have := (List.getElem?_eq_some_iff.mp hw).1
        rw [List.length_append] at this
        simp only [List.length_cons, List.length_nil] at this
        omega
      subst hi2
      rw [List.getElem?_append_right (by omega), hys, Nat.sub_self] at hw
      have e : v = w := Option.some.inj hw
      exact e ▸ r3
  · refine LCg.Off3.of fun p hp => ?_
    rcases List.mem_cons.mp hp with rfl | hp
    · exact offm (37, o37) (.head _)
    · rcases List.mem_cons.mp hp with rfl | hp
      · exact offm (30, o30) (.tail _ (.head _))
      · have z := drop3_mem.mp hp
        exact ⟨z.2, z.1.2, z.1.1.2⟩
  · intro p hp
    rcases List.mem_cons.mp hp with rfl | hp
    · exact N _ (s0 _ hI)
    · rcases List.mem_cons.mp hp with rfl | hp
      · exact N _ (s0 _ hC')
      · rcases List.mem_cons.mp hp with rfl | hp
        · exact N _ (s0 _ hD)
        · rcases List.mem_cons.mp hp with rfl | hp
          · exact N _ (.head _)
          · rcases List.mem_cons.mp hp with rfl | hp
            · exact N _ (.tail _ (.head _))
            · exact N _ (s0 _ (drop3_mem.mp hp).1.1.1)
section
variable {prog : Program} {w : World} {A : Around} {E : Value → Shared → Prop} {s : Shared} {env : Env} {h₀ : Heap} {L : Addr} {m : Str → Option Value}
open LCg in
theorem comp_runs {elt : Expr} {x : Str} {px : Pos} {scope : Scope} {cl : List (Str × Addr)} {Fin : Shared → List Value → Led → Prop} (U0 L0 dr : Int)
    (hh : A.handled = none) (hkind : scope.kind = .function) (hx : scope.names.lookup x = some .local) {r : Addr} {t u v : Tok} {a37 a30 : Array Value} {base news : Led} (F : Fr h₀ L s.heap m) (N : News h₀ L s.heap news) (hsub : ∀ p ∈ (37, tabObj a37) :: (30, tabObj a30) :: base, p ∈ news) (hr : IsRange s.heap r 0 3 1 t u v)
    (t37 : TabOk q37 47 4 a37 base) (t30 : TabOk q30 32 4 a30 base) (hoT : OffT base)
    (turn : ∀ (k : Nat) ta ys I oI oC C D m₂ h tk (E' : Value → Shared → Prop) b37 b30 rest, k < 3 → m₂ x = some (.int (0 + (k : Int)) ta) → NsObj oC m₂ → Fr h₀ L h m → News h₀ L h ((I, oI) :: (C, oC) :: (D, lst ys) :: (37, tabObj b37) :: (30, tabObj b30) :: rest) → Off3 I C D ((37, tabObj b37) :: (30, tabObj b30) :: rest) → ((@Ne Nat I C) ∧ (@Ne Nat I D) ∧ (@Ne Nat C D)) →
      (∃ x l st, oI = ({ cls := .type "range_iterator", dict := none, data := .fields #[rawInt x, rawInt l, rawInt st], slots := #[] } : Obj)) → ys.length = k → TabOk q37 47 4 b37 rest → TabOk q30 32 4 b30 rest → OffT rest → (∀ p ∈ base, p ∈ rest) → (∀ (i : Nat) v, ys[i]? = some v → RunA ⟨[], U0, L0⟩ (i : Int) dr rest v) →
      wpAny (model prog w) A (eval elt (compEnvC scope cl C env)) (EltE h₀ L m I C D oI oC ys (JR base U0 L0 dr (k + 1)) { s with heap := h, toks := tk }) E' { s with heap := h, toks := tk })
    (done : ∀ g ys b37 b30 rest, ys.length = 3 → TabOk q37 47 4 b37 rest → TabOk q30 32 4 b30 rest → OffT rest → (∀ p ∈ base, p ∈ rest) → (∀ (i : Nat) v, ys[i]? = some v → RunA ⟨[], U0, L0⟩ (i : Int) dr rest v) → Fin { s with heap := g } ys ((37, tabObj b37) :: (30, tabObj b30) :: rest)) :
    wpAny (model prog w) A (pyIter (.ref r)) (fun it s₂ => ∃ news₀, Fr h₀ L s₂.heap m ∧ News h₀ L s₂.heap news₀ ∧ CompW prog w A h₀ L m env (.Name x px) [] elt scope cl (fun _ => True) [] (Fin s₂) it s₂ news₀) E s := by
  refine comp_rangeE (n := 3) hh F N hr (by decide) rfl (JR base U0 L0 dr) (fun _ v _ mm => mm x = some v) (asg_name hkind hx (fun _ _ _ => trivial) fun i v ys nw mm _ _ hm => hm) (fun i ys nw j => ?_) (fun i v s' Q' E' _ h => go_name h) ⟨rfl, by decide, a37, a30, base, rfl, t37, t30, hoT, fun _ h => h, fun i v e => by simp at e⟩ hsub ?_ ?_
  · rw [j.1, PySem.sizeLine_eq]
    have := j.2.1
    omega
  · rintro k v ys nw I oI oC C D m₂ h tk E' hk ⟨t, rfl⟩ ⟨hl, _, b37, b30, rest, rfl, u37, u30, hoR, hb, hruns⟩ hm _ hC F' N' off ne hoI
    refine wpAny_tests_nil ?_
    rw [if_pos rfl]
    exact turn k t ys I oI oC C D m₂ h tk E' b37 b30 rest hk hm hC F' N' off ne hoI hl u37 u30 hoR hb hruns
  · rintro g ys nw ⟨hl, _, b37, b30, rest, rfl, u37, u30, hoR, hb, hruns⟩
    exact done g ys b37 b30 rest hl u37 u30 hoR hb hruns
open LCg in
theorem comp_runs' {elt : Expr} {x : Str} {px : Pos} {scope : Scope} {cl : List (Str × Addr)} {Fin : Shared → List Value → Led → Prop} (U0 L0 dr : Int)
    (hh : A.handled = none) (hkind : scope.kind = .function) (hx : scope.names.lookup x = some .local) {r : Addr} {t u v : Tok} {led : Led} (F : Fr h₀ L s.heap m) (N : News h₀ L s.heap led) (h37 : (37, tabObj #[]) ∈ led) (h30 : (30, tabObj #[]) ∈ led) (hr : IsRange s.heap r 0 3 1 t u v)
    (hoT : OffT led.dropLast.dropLast)
    (turn : ∀ base, base = led.dropLast.dropLast → ∀ (k : Nat) ta ys I oI oC C D m₂ h tk (E' : Value → Shared → Prop) b37 b30 rest, k < 3 → m₂ x = some (.int (0 + (k : Int)) ta) → NsObj oC m₂ → Fr h₀ L h m → News h₀ L h ((I, oI) :: (C, oC) :: (D, lst ys) :: (37, tabObj b37) :: (30, tabObj b30) :: rest) → Off3 I C D ((37, tabObj b37) :: (30, tabObj b30) :: rest) → ((@Ne Nat I C) ∧ (@Ne Nat I D) ∧ (@Ne Nat C D)) →
      (∃ x l st, oI = ({ cls := .type "range_iterator", dict := none, data := .fields #[rawInt x, rawInt l, rawInt st], slots := #[] } : Obj)) → ys.length = k → TabOk q37 47 4 b37 rest → TabOk q30 32 4 b30 rest → OffT rest → (∀ p ∈ base, p ∈ rest) → (∀ (i : Nat) v, ys[i]? = some v → RunA ⟨[], U0, L0⟩ (i : Int) dr rest v) →
      wpAny (model prog w) A (eval elt (compEnvC scope cl C env)) (EltE h₀ L m I C D oI oC ys (JR base U0 L0 dr (k + 1)) { s with heap := h, toks := tk }) E' { s with heap := h, toks := tk })
    (done : ∀ base, base = led.dropLast.dropLast → ∀ g ys b37 b30 rest, ys.length = 3 → TabOk q37 47 4 b37 rest → TabOk q30 32 4 b30 rest → OffT rest → (∀ p ∈ base, p ∈ rest) → (∀ (i : Nat) v, ys[i]? = some v → RunA ⟨[], U0, L0⟩ (i : Int) dr rest v) → Fin { s with heap := g } ys ((37, tabObj b37) :: (30, tabObj b30) :: rest)) :
    wpAny (model prog w) A (pyIter (.ref r)) (fun it s₂ => ∃ news₀, Fr h₀ L s₂.heap m ∧ News h₀ L s₂.heap news₀ ∧ CompW prog w A h₀ L m env (.Name x px) [] elt scope cl (fun _ => True) [] (Fin s₂) it s₂ news₀) E s :=
  comp_runs U0 L0 dr hh hkind hx F N (sub_cons h37 (sub_cons h30 fun p hp => (List.dropLast_sublist _).subset ((List.dropLast_sublist _).subset hp))) hr (.inl rfl) (.inl rfl) hoT (turn _ rfl) (done _ rfl)
end
theorem split_tail {h₀ h : Heap} {L : Addr} {led : Led} (N : News h₀ L h led) : ∃ base, base = led.dropLast.dropLast ∧ News h₀ L h led := ⟨_, rfl, N⟩
theorem mul_up {u ms : Int} (hu : -2000 ≤ u ∧ u ≤ 2000) (hm : 1 ≤ ms ∧ ms ≤ 1000000) : -(2 ^ 31) < u * ms ∧ u * ms < 2 ^ 31 := by
  have h1 : (2000 - u) * ms ≥ 0 := Int.mul_nonneg (by omega) (by omega)
  have h2 : (u + 2000) * ms ≥ 0 := Int.mul_nonneg (by omega) (by omega)
  rw [Int.sub_mul] at h1
  rw [Int.add_mul] at h2
  constructor <;> omega
theorem mul_low {l ms : Int} (hl : 1 ≤ l ∧ l ≤ 169) (hm : 1 ≤ ms ∧ ms ≤ 1000000) : 0 ≤ l * ms ∧ l * ms < 2 ^ 28 := by
  have h1 : (169 - l) * ms ≥ 0 := Int.mul_nonneg (by omega) (by omega)
  have h2 : l * ms ≥ 0 := Int.mul_nonneg (by omega) (by omega)
  rw [Int.sub_mul] at h1
  constructor <;> omega
theorem sub5 {a b c d e : Addr × Obj} {t : Led} : ∀ p ∈ d :: e :: a :: b :: c :: t, p ∈ a :: b :: c :: d :: e :: t := fun p hp => by
  simp only [List.mem_cons] at hp ⊢
  rcases hp with h | h | h | h | h | h <;> simp [h]
theorem OffT.nil : OffT [] := ⟨fun _ h => (nomatch h), fun _ h => (nomatch h)⟩
theorem expand3 {h₀ h : Heap} {L : Addr} {a b c d e : Addr × Obj} {rest base : Led} (N : News h₀ L h (a :: b :: c :: d :: e :: rest)) (hb : ∀ p ∈ base, p ∈ rest) : News h₀ L h (a :: b :: c :: d :: e :: (base ++ rest)) := fun p hp => by
  simp only [List.mem_cons, List.mem_append] at hp
  rcases hp with rfl | rfl | rfl | rfl | rfl | hp | hp
  · exact N _ (.head _)
  · exact N _ (.tail _ (.head _))
  · exact N _ (.tail _ (.tail _ (.head _)))
  · exact N _ (.tail _ (.tail _ (.tail _ (.head _))))
  · exact N _ (.tail _ (.tail _ (.tail _ (.tail _ (.head _)))))
  · exact N _ (.tail _ (.tail _ (.tail _ (.tail _ (.tail _ (hb p hp))))))
  · exact N _ (.tail _ (.tail _ (.tail _ (.tail _ (.tail _ hp)))))
theorem divs_pos {u l : Int} (h : 1 ≤ l) : 0 < (divs u l l.toNat).length := by
  have : (1 : Int) ∈ divs u l l.toNat := divs_mem.mpr ⟨⟨Int.le_refl _, by omega⟩, Int.emod_one _, Int.emod_one _⟩
  exact List.length_pos_of_mem this
set_option maxHeartbeats 1000000
/-- a run in the ledger -/
structure RunL (nw : Led) (x R : Addr) (vs : List Value) (ep : Nat) (tu : Tok) (G : Int) (rs : List Row) : Prop where
  t : (x, tupO [.ref R, .int G tu]) ∈ nw
  l : (R, listOf vs.toArray ep) ∈ nw
  r : RowsAre nw vs rs
  n : vs.length ≤ 64
theorem RunL.mono {nw nw' : Led} {x R : Addr} {vs : List Value} {ep : Nat} {tu : Tok} {G : Int} {rs : List Row} (h : RunL nw x R vs ep tu G rs) (s : ∀ p ∈ nw, p ∈ nw') : RunL nw' x R vs ep tu G rs := ⟨s _ h.t, s _ h.l, h.r.mono s, h.n⟩
theorem RunL.dropA {h₀ h : Heap} {L : Addr} {nw r : Led} {I : Addr} {oI : Obj} {x R : Addr} {vs : List Value} {ep : Nat} {tu : Tok} {G : Int} {rs : List Row} (H : RunL r x R vs ep tu G rs) (N : News h₀ L h nw) (hs : ∀ p ∈ r, p ∈ nw) (hI : (I, oI) ∈ nw) (hno : NoSeq oI) : RunL (dropA I r) x R vs ep tu G rs := by
  refine ⟨dropA_mem.mpr ⟨H.t, fun q => ?_⟩, dropA_mem.mpr ⟨H.l, fun q => ?_⟩, H.r.dropA N hs hI hno.noTup, H.n⟩
  · have q : x = I := q
    subst q
    exact hno.noTup _ (uniq N hI (hs _ H.t))
  · have q : R = I := q
    subst q
    exact hno vs.toArray ep (by rw [uniq N hI (hs _ H.l)])
theorem RunA.open {R0 : Run} {way dr G : Int} {nw : Led} {v : Value} {rs : List Row} (h : RunA R0 way dr nw v) (e : runTo way dr R0 64 = ⟨rs, G, 0⟩) : ∃ x R vs ep tu, v = .ref x ∧ RunL nw x R vs ep tu G rs := by
  obtain ⟨x, R, vs, ep, tu, rs', U, L, a, b, c, d, e', f⟩ := h
  rw [e] at b
  injection b with b1 b2 b3
  subst b1; subst b2
  exact ⟨x, R, vs, ep, tu, a, c, d, e', f⟩
theorem noSeq_cell {o : Obj} {v : Option Value} (h : o.data = .cell v) : NoSeq o := fun vs k e => by rw [h] at e; simp at e
theorem three {ys : List Value} (h : ys.length = 3) : ∃ a b c, ys = [a, b, c] := by
  have e : ∀ k, (hk : k < 3) → ys[k]? = some (ys[k]'(by omega)) := fun k hk => List.getElem?_eq_getElem (by omega)
  refine ⟨ys[0], ys[1], ys[2], List.ext_getElem? fun i => ?_⟩
  by_cases hi : i < 3
  · rcases (by omega : i = 0 ∨ i = 1 ∨ i = 2) with rfl | rfl | rfl
    · exact e 0 hi
    · exact e 1 hi
    · exact e 2 hi
  · rw [List.getElem?_eq_none (by omega), List.getElem?_eq_none (by simp; omega)]
theorem open_cells {h₀ h : Heap} {L : Addr} {base rest : Led} {a b c t37 t30 : Addr × Obj} {c8 c7 D3 : Addr} {o8 o7 : Obj} {v8 v7 : Option Value} {tl : Led} {ys : List Value} (hbase : base = a :: b :: c :: (c8, o8) :: (c7, o7) :: tl) (N : News h₀ L h ((D3, LCg.lst ys) :: t37 :: t30 :: rest)) (hb : ∀ p ∈ base, p ∈ rest) (h8 : o8.data = .cell v8) (h7 : o7.data = .cell v7)
    (o3 : LCg.Off1 D3 (t37 :: t30 :: rest)) : ∃ rest2, (∀ p ∈ rest2, p ∈ rest) ∧ (∀ p ∈ rest2, p.1 ≠ c8) ∧ (∀ p ∈ rest2, p.1 ≠ c7) ∧ (∀ x R vs ep tu G rs, RunL rest x R vs ep tu G rs → RunL rest2 x R vs ep tu G rs) ∧ (@Ne Nat D3 c8 ∧ @Ne Nat D3 c7) ∧ News h₀ L h ((D3, LCg.lst ys) :: t37 :: t30 :: (base ++ rest2)) := by
  have s0 : ∀ p ∈ rest, p ∈ (D3, LCg.lst ys) :: t37 :: t30 :: rest := fun p hp => .tail _ (.tail _ (.tail _ hp))
  have m8 : (c8, o8) ∈ rest := hb _ (by rw [hbase]; simp)
  have m7 : (c7, o7) ∈ rest := hb _ (by rw [hbase]; simp)
  have om := off1_mem o3
  refine ⟨dropA c8 (dropA c7 rest), fun p hp => dropA_sub p (dropA_sub p hp), fun p hp => (dropA_mem.mp hp).2, fun p hp => (dropA_mem.mp (dropA_sub p hp)).2, fun x R vs ep tu G rs H => ?_, ⟨fun e => om _ (.tail _ (.tail _ m8)) e.symm, fun e => om _ (.tail _ (.tail _ m7)) e.symm⟩, fun p hp => ?_⟩
  · exact (H.dropA N s0 (s0 _ m7) (noSeq_cell h7)).dropA N (fun p hp => s0 p (dropA_sub p hp)) (s0 _ m8) (noSeq_cell h8)
  · simp only [List.mem_cons, List.mem_append] at hp
    rcases hp with rfl | rfl | rfl | hp | hp
    · exact N _ (.head _)
    · exact N _ (.tail _ (.head _))
    · exact N _ (.tail _ (.tail _ (.head _)))
    · exact N _ (s0 _ (hb p hp))
    · exact N _ (s0 _ (dropA_sub p (dropA_sub p hp)))
/-- the plain law: what the arithmetic tells of the three runs -/
structure PlainOk (u l ms dr g : Int) (rs0 rs1 rs2 : List Row) : Prop where
  r0 : runTo 0 dr ⟨[], u * ms, l * ms⟩ 64 = ⟨rs0, g * ms, 0⟩
  r1 : runTo 1 dr ⟨[], u * ms, l * ms⟩ 64 = ⟨rs1, g * ms, 0⟩
  r2 : runTo 2 dr ⟨[], u * ms, l * ms⟩ 64 = ⟨rs2, g * ms, 0⟩
  back : ∀ rs ∈ [rs0, rs1, rs2], Mine.back (g * ms) rs = (u * ms, l * ms) ∧ BackOk (g * ms) rs
  few : ∃ n, n < 11 ∧ rs1.length = n + 1 ∧ (∃ p ∈ levels u l n, p.1 % p.2 = 0) ∧ ∀ i, i < n → ∀ p ∈ levels u l i, p.1 % p.2 ≠ 0
  lame : 1 ≤ rs0.length ∧ rs0.length ≤ 64 ∧ g * fib (rs0.length - 1) ≤ l
  g1 : (rs0.length : Int) = rs1.length + (rs1.map Row.gain).sum
  g2 : (rs0.length : Int) = rs2.length + (rs2.map Row.gain).sum
section
variable {prog : Program} {w : World} {A : Around} {E : Value → Shared → Prop} {s : Shared} {env : Env} {h₀ : Heap} {L : Addr} {m : Str → Option Value}
/-- a block whose list is known -/
noncomputable def JV (base : Led) (n : Nat) (f : Nat → List Value) (k : Nat) (ys : List Value) (nw : Led) : Prop := nw = base ∧ k ≤ n ∧ ys = f k
open LCg in
theorem comp_runsV {elt : Expr} {x y : Str} {px py tp : Pos} {kk : Nat} {scope : Scope} {cl : List (Str × Addr)} {Fin : Shared → List Value → Led → Prop} (G : Int) (f : Nat → List Value) (f0 : f 0 = []) (Good : Nat → Addr → List Row → Prop)
    (hh : A.handled = none) (hkind : scope.kind = .function) (hx : scope.names.lookup x = some .local) (hy : scope.names.lookup y = some .local) (hxy : x ≠ y) {D3 : Addr} {a b c : Value} {ep3 : Nat} {news : Led} (F : Fr h₀ L s.heap m) (N : News h₀ L s.heap news) (hl : (D3, listOf #[a, b, c] ep3) ∈ news)
    (hR : ∀ k v, [a, b, c][k]? = some v → ∃ x R vs ep tu rs, v = .ref x ∧ RunL news x R vs ep tu G rs ∧ Good k R rs) (hlen : ∀ k, k ≤ 3 → (f k).length ≤ 1000)
    (turn : ∀ (k : Nat) X R vs ep tu rs I oI oC C D m₂ h tk (E' : Value → Shared → Prop), k < 3 → RunL news X R vs ep tu G rs → Good k R rs → m₂ x = some (.ref R) → m₂ y = some (.int G tu) → NsObj oC m₂ → Fr h₀ L h m → News h₀ L h ((I, oI) :: (C, oC) :: (D, lst (f k)) :: news) → Off3 I C D news → ((@Ne Nat I C) ∧ (@Ne Nat I D) ∧ (@Ne Nat C D)) →
      wpAny (model prog w) A (eval elt (compEnvC scope cl C env)) (EltE h₀ L m I C D oI oC (f k) (JV news 3 f (k + 1)) { s with heap := h, toks := tk }) E' { s with heap := h, toks := tk })
    (done : ∀ g, Fin { s with heap := g } (f 3) news) :
    wpAny (model prog w) A (pyIter (.ref D3)) (fun it s₂ => ∃ news₀, Fr h₀ L s₂.heap m ∧ News h₀ L s₂.heap news₀ ∧ CompW prog w A h₀ L m env (.Tuple [.Name x px, .Name y py] kk tp) [] elt scope cl (fun _ => True) [] (Fin s₂) it s₂ news₀) E s := by
  refine comp_listE (vs := [a, b, c]) hh F N hl (JV news 3 f) (fun k _ _ mm => ∃ X R vs ep tu rs, RunL news X R vs ep tu G rs ∧ Good k R rs ∧ mm x = some (.ref R) ∧ mm y = some (.int G tu)) (asg_two hh hkind hx hy hxy (fun _ _ _ _ => trivial) fun k v ys nw hP j => ?_) (fun k ys nw j => ?_) (fun i ys nw j => j.1 ▸ hl) ⟨rfl, Nat.zero_le _, f0.symm⟩ (fun _ h => h) ?_ ?_
  · obtain ⟨X, R, vs, ep, tu, rs, rfl, H, hg⟩ := hR k v hP
    exact ⟨X, _, _, rfl, j.1 ▸ H.t, fun mm h1 h2 => ⟨X, R, vs, ep, tu, rs, H, hg, h1, h2⟩⟩
  · rw [j.2.2, PySem.sizeLine_eq]
    have := hlen k j.2.1
    omega
  · rintro k v ys nw I oI oC C D m₂ h tk E' hk hv ⟨rfl, _, rfl⟩ ⟨X, R, vs, ep, tu, rs, H, hg, h1, h2⟩ _ hC F' N' off ne
    refine wpAny_tests_nil ?_
    rw [if_pos rfl]
    exact turn k X R vs ep tu rs I oI oC C D m₂ h tk E' hk H hg h1 h2 hC F' N' off ne
  · rintro g ys nw ⟨rfl, _, rfl⟩
    exact done g
end
theorem hR3 {nw : Led} {G : Int} {Good : Nat → Addr → List Row → Prop} {x0 x1 x2 R0 R1 R2 : Addr} {vs0 vs1 vs2 : List Value} {ep0 ep1 ep2 : Nat} {tu0 tu1 tu2 : Tok} {rs0 rs1 rs2 : List Row} (H0 : RunL nw x0 R0 vs0 ep0 tu0 G rs0) (H1 : RunL nw x1 R1 vs1 ep1 tu1 G rs1) (H2 : RunL nw x2 R2 vs2 ep2 tu2 G rs2)
    (g0 : Good 0 R0 rs0) (g1 : Good 1 R1 rs1) (g2 : Good 2 R2 rs2) : ∀ (k : Nat) v, [Value.ref x0, Value.ref x1, Value.ref x2][k]? = some v → ∃ x R vs ep tu rs, v = .ref x ∧ RunL nw x R vs ep tu G rs ∧ Good k R rs := by
  intro k v e
  match k, e with
  | 0, e => exact ⟨x0, R0, vs0, ep0, tu0, rs0, (Option.some.inj e).symm, H0, g0⟩
  | 1, e => exact ⟨x1, R1, vs1, ep1, tu1, rs1, (Option.some.inj e).symm, H1, g1⟩
  | 2, e => exact ⟨x2, R2, vs2, ep2, tu2, rs2, (Option.some.inj e).symm, H2, g2⟩
/-- the rows of the runs, the first k -/
noncomputable def rowsTo (R0 R1 R2 : Addr) (k : Nat) : List Value := [Value.ref R0, Value.ref R1, Value.ref R2].take k
theorem rowsTo_next {R0 R1 R2 R : Addr} {k : Nat} (h : [R0, R1, R2][k]? = some R) : rowsTo R0 R1 R2 (k + 1) = rowsTo R0 R1 R2 k ++ [.ref R] := by
  match k, h with
  | 0, h => rw [← Option.some.inj h]; rfl
  | 1, h => rw [← Option.some.inj h]; rfl
  | 2, h => rw [← Option.some.inj h]; rfl
theorem rowsTo_len (R0 R1 R2 : Addr) (k : Nat) : (rowsTo R0 R1 R2 k).length ≤ 1000 := by
  unfold rowsTo; rw [List.length_take]; simp only [List.length_cons, List.length_nil]; omega
theorem keep8 {d a b c e f g i due eu co me lo up ce sc : Addr × Obj} {r : Led} : ∀ p ∈ d :: b :: due :: eu :: co :: me :: lo :: up :: r, p ∈ d :: a :: b :: c :: e :: f :: g :: i :: due :: eu :: co :: me :: lo :: up :: ce :: sc :: r :=
  sub_cons (.head _) (sub_cons (.tail _ (.tail _ (.head _))) (sub_cons (.tail _ (.tail _ (.tail _ (.tail _ (.tail _ (.tail _ (.tail _ (.tail _ (.head _))))))))) (sub_cons (.tail _ (.tail _ (.tail _ (.tail _ (.tail _ (.tail _ (.tail _ (.tail _ (.tail _ (.head _)))))))))) (sub_cons (.tail _ (.tail _ (.tail _ (.tail _ (.tail _ (.tail _ (.tail _ (.tail _ (.tail _ (.tail _ (.head _))))))))))) (sub_cons (.tail _ (.tail _ (.tail _ (.tail _ (.tail _ (.tail _ (.tail _ (.tail _ (.tail _ (.tail _ (.tail _ (.head _)))))))))))) (sub_cons (.tail _ (.tail _ (.tail _ (.tail _ (.tail _ (.tail _ (.tail _ (.tail _ (.tail _ (.tail _ (.tail _ (.tail _ (.head _))))))))))))) (sub_cons (.tail _ (.tail _ (.tail _ (.tail _ (.tail _ (.tail _ (.tail _ (.tail _ (.tail _ (.tail _ (.tail _ (.tail _ (.tail _ (.head _)))))))))))))) (fun q hq => .tail _ (.tail _ (.tail _ (.tail _ (.tail _ (.tail _ (.tail _ (.tail _ (.tail _ (.tail _ (.tail _ (.tail _ (.tail _ (.tail _ (.tail _ (.tail _ (hq))))))))))))))))))))))))
noncomputable def trues (k : Nat) : List Value := List.replicate k (.bool true)
theorem trues_next (k : Nat) : trues k ++ [.bool true] = trues (k + 1) := by unfold trues; rw [List.replicate_succ']
theorem trues_len {k : Nat} (h : k ≤ 1000) : (trues k).length ≤ 1000 := by unfold trues; rw [List.length_replicate]; exact h
noncomputable def cntTo (n0 n1 n2 k : Nat) : Nat := ([n0, n1, n2].take k).sum
theorem cntTo_next {n0 n1 n2 n k : Nat} (h : [n0, n1, n2][k]? = some n) : cntTo n0 n1 n2 (k + 1) = cntTo n0 n1 n2 k + n := by
  unfold cntTo; rw [List.take_add_one, h, List.sum_append]; simp
theorem cntTo_le {n0 n1 n2 : Nat} (k : Nat) (h0 : n0 ≤ 64) (h1 : n1 ≤ 64) (h2 : n2 ≤ 64) : cntTo n0 n1 n2 k ≤ 192 := by
  match k with
  | 0 => simp [cntTo]
  | 1 => simp [cntTo]; omega
  | 2 => simp [cntTo]; omega
  | k + 3 => simp [cntTo]; omega
theorem trues_add (a b : Nat) : trues a ++ trues b = trues (a + b) := by unfold trues; rw [List.replicate_append_replicate]
noncomputable def JW (base : Led) (n0 n1 n2 : Nat) (k : Nat) (ys : List Value) (nw : Led) : Prop := nw = base ∧ k ≤ 3 ∧ ys = trues (cntTo n0 n1 n2 k)
noncomputable def JWi (base : Led) (c n : Nat) (j : Nat) (ys : List Value) (nw : Led) : Prop := nw = base ∧ j ≤ n ∧ ys = trues (c + j)
section
variable {prog : Program} {w : World} {A : Around} {E : Value → Shared → Prop} {s : Shared} {env : Env} {h₀ : Heap} {L : Addr} {m : Str → Option Value}
open LCg in
theorem out_runsV {t2 i2 elt : Expr} {f2 : List Expr} {x y : Str} {px py tp : Pos} {kk : Nat} {scope : Scope} {cl : List (Str × Addr)} {Fin : Shared → List Value → Led → Prop} (G : Int) (n0 n1 n2 : Nat)
    (hh : A.handled = none) (hkind : scope.kind = .function) (hx : scope.names.lookup x = some .local) (hy : scope.names.lookup y = some .local) (hxy : x ≠ y) {D3 : Addr} {a b c : Value} {ep3 : Nat} {news : Led} (F : Fr h₀ L s.heap m) (N : News h₀ L s.heap news) (hl : (D3, listOf #[a, b, c] ep3) ∈ news)
    (hR : ∀ (k : Nat) (v : Value), [a, b, c][k]? = some v → ∃ x R vs ep tu rs, v = .ref x ∧ RunL news x R vs ep tu G rs ∧ [n0, n1, n2][k]? = some rs.length)
    (turn : ∀ (k : Nat) X R vs ep tu rs I oI oC C D m₂ h tk (E' : Value → Shared → Prop), k < 3 → RunL news X R vs ep tu G rs → [n0, n1, n2][k]? = some rs.length → m₂ x = some (.ref R) → NsObj oC m₂ → Fr h₀ L h m → News h₀ L h ((I, oI) :: (C, oC) :: (D, lst (trues (cntTo n0 n1 n2 k))) :: news) → Off3 I C D news → ((@Ne Nat I C) ∧ (@Ne Nat I D) ∧ (@Ne Nat C D)) →
      wpAny (model prog w) A (eval i2 (compEnvC scope cl C env)) (fun xv s₃ => wpAny (model prog w) A (pyIter xv) (fun it2 s₄ => InW prog w A h₀ L m env t2 f2 elt scope cl I C D oI (trues (cntTo n0 n1 n2 k)) (JW news n0 n1 n2 (k + 1)) { s with heap := h, toks := tk } it2 s₄) E' s₃) E' { s with heap := h, toks := tk })
    (done : ∀ g, Fin { s with heap := g } (trues (cntTo n0 n1 n2 3)) news) :
    wpAny (model prog w) A (pyIter (.ref D3)) (fun it s₂ => ∃ news₀, Fr h₀ L s₂.heap m ∧ News h₀ L s₂.heap news₀ ∧ OutW prog w A h₀ L m env (.Tuple [.Name x px, .Name y py] kk tp) t2 i2 f2 elt scope cl [] (Fin s₂) it s₂ news₀) E s := by
  refine out_listE (vs := [a, b, c]) hh F N hl (JW news n0 n1 n2) (fun k _ _ mm => ∃ X R vs ep tu rs, RunL news X R vs ep tu G rs ∧ [n0, n1, n2][k]? = some rs.length ∧ mm x = some (.ref R)) (asg_two hh hkind hx hy hxy (fun _ _ _ _ => trivial) fun k v ys nw hP j => ?_) (fun i ys nw j => j.1 ▸ hl) ⟨rfl, Nat.zero_le _, rfl⟩ (fun _ h => h) ?_ ?_
  · obtain ⟨X, R, vs, ep, tu, rs, rfl, H, hg⟩ := hR k v hP
    exact ⟨X, _, _, rfl, j.1 ▸ H.t, fun mm h1 h2 => ⟨X, R, vs, ep, tu, rs, H, hg, h1⟩⟩
  · rintro k v ys nw I oI oC C D m₂ h tk E' hk hv ⟨rfl, _, rfl⟩ ⟨X, R, vs, ep, tu, rs, H, hg, h1⟩ hC F' N' off ne
    exact turn k X R vs ep tu rs I oI oC C D m₂ h tk E' hk H hg h1 hC F' N' off ne
  · rintro g ys nw ⟨rfl, _, rfl⟩
    exact done g
open LCg in
theorem in_rowsV {elt : Expr} {x y z u : Str} {px py pz pu tp : Pos} {kk : Nat} {scope : Scope} {cl : List (Str × Addr)} {n0 n1 n2 k : Nat} {I C D : Addr} {oI oC : Obj} {s₁ : Shared} {m₂ : Str → Option Value} {G : Int}
    (hh : A.handled = none) (hkind : scope.kind = .function) (hx : scope.names.lookup x = some .local) (hy : scope.names.lookup y = some .local) (hz : scope.names.lookup z = some .local) (hu : scope.names.lookup u = some .local) (hxy : x ≠ y ∧ x ≠ z ∧ x ≠ u ∧ y ≠ z ∧ y ≠ u ∧ z ≠ u)
    {X R : Addr} {vs : List Value} {ep : Nat} {tu : Tok} {rs : List Row} {news : Led} (H : RunL news X R vs ep tu G rs) (hk : k < 3) (hg : [n0, n1, n2][k]? = some rs.length) (hc : cntTo n0 n1 n2 k ≤ 192)
    (F : Fr h₀ L s.heap m) (N : News h₀ L s.heap ((I, oI) :: (C, oC) :: (D, lst (trues (cntTo n0 n1 n2 k))) :: news)) (off : Off3 I C D news) (ne : (@Ne Nat I C) ∧ (@Ne Nat I D) ∧ (@Ne Nat C D)) (hoC : NsObj oC m₂)
    (turn : ∀ I3 oI3 oC3 C3 D4 m₃ ys h tk (E' : Value → Shared → Prop), m₃ x = some (.bool true) → NsObj oC3 m₃ → Fr h₀ L h m → News h₀ L h ((I3, oI3) :: (C3, oC3) :: (D4, lst ys) :: (I, oI) :: news) →
      wpAny (model prog w) A (eval elt (compEnvC scope cl C3 env)) (fun v s' => v = .bool true ∧ ∃ tk', s' = { s with heap := h, toks := tk' }) E' { s with heap := h, toks := tk }) (hs : s = { s₁ with heap := s.heap, toks := s.toks }) :
    wpAny (model prog w) A (pyIter (.ref R)) (InW prog w A h₀ L m env (.Tuple [.Name x px, .Name y py, .Name z pz, .Name u pu] kk tp) [] elt scope cl I C D oI (trues (cntTo n0 n1 n2 k)) (JW news n0 n1 n2 (k + 1)) s₁) E s := by
  have om := off.mem
  have hlen := H.r.length
  have hn := H.n
  refine in_listE (K := fun _ => True) (vs := vs) (ep := ep) (news₀ := (I, oI) :: (C, oC) :: (D, lst (trues (cntTo n0 n1 n2 k))) :: news) (news := (I, oI) :: news) (nw₀ := (I, oI) :: news) hh F N (.tail _ (.head _)) (.tail _ (.tail _ (.head _))) (fun p hp => ?_) (fun p hp => ?_) hoC trivial (.tail _ H.l)
    (JWi ((I, oI) :: news) (cntTo n0 n1 n2 k) vs.length) (fun _ _ _ mm => mm x = some (.bool true)) (asg_four hh hkind hx hy hz hu hxy (fun _ => trivial) fun i v ys nw hP j => ?_) (fun i ys nw j => ?_) (fun i ys nw j => j.1 ▸ .tail _ H.l) ⟨rfl, Nat.zero_le _, rfl⟩ (fun _ h => h) ?_ ?_ hs
  · rcases List.mem_cons.mp hp with rfl | hp
    · exact .head _
    · exact .tail _ (.tail _ (.tail _ hp))
  · rcases List.mem_cons.mp hp with rfl | hp
    · exact ⟨ne.1, ne.2.1⟩
    · exact (om p hp).2
  · obtain ⟨xr, r, t1, t2, t3, rfl, _, hm⟩ := H.r.get hP
    exact ⟨xr, _, _, _, _, rfl, by rw [j.1]; exact .tail _ hm, fun mm h1 _ _ _ => h1⟩
  · rw [j.2.2, PySem.sizeLine_eq]
    have h1 := j.2.1
    unfold trues
    rw [List.length_replicate]
    omega
  · rintro i v ys nw I3 oI3 oC3 C3 D4 m₃ h tk E' hi hv ⟨rfl, hle, rfl⟩ hB _ hC3 F' N' off' ne'
    refine wpAny_tests_nil ?_
    rw [if_pos rfl]
    refine wpAny_mono (turn I3 oI3 oC3 C3 D4 m₃ _ h tk E' hB hC3 F' N') (fun v' s' hq => ?_) fun _ _ e => e
    obtain ⟨rfl, tk', rfl⟩ := hq
    exact EltE.go F' N' off' ⟨rfl, hi, trues_next _⟩
  · rintro ys nw ⟨rfl, _, rfl⟩
    refine ⟨news, .head _, fun p hp => .tail _ hp, fun p hp => (om p hp).1, rfl, hk, ?_⟩
    rw [cntTo_next hg, hlen]
end
theorem fib_pos : ∀ k, 1 ≤ fib k
  | 0 => by decide
  | 1 => by decide
  | k + 2 => by
    have h1 := fib_pos (k + 1)
    have h2 := fib_pos k
    show 1 ≤ fib (k + 1) + fib k
    omega
theorem fib_fits {g l : Int} {k : Nat} (hg : 1 ≤ g) (h : g * fib k ≤ l) : 1 ≤ fib k ∧ fib k ≤ l := by
  have h1 := fib_pos k
  refine ⟨h1, ?_⟩
  have h2 : (g - 1) * fib k ≥ 0 := Int.mul_nonneg (by omega) (by omega)
  rw [Int.sub_mul, Int.one_mul] at h2
  omega
theorem keepR {a b c r0 r1 r2 d e f g due eu co me lo up : Addr × Obj} {r : Led} : ∀ p ∈ a :: r0 :: r1 :: r2 :: eu :: me :: up :: r, p ∈ a :: b :: c :: r0 :: r1 :: r2 :: d :: e :: f :: g :: due :: eu :: co :: me :: lo :: up :: r :=
  sub_cons (.head _) (sub_cons (.tail _ (.tail _ (.tail _ (.head _)))) (sub_cons (.tail _ (.tail _ (.tail _ (.tail _ (.head _))))) (sub_cons (.tail _ (.tail _ (.tail _ (.tail _ (.tail _ (.head _)))))) (sub_cons (.tail _ (.tail _ (.tail _ (.tail _ (.tail _ (.tail _ (.tail _ (.tail _ (.tail _ (.tail _ (.tail _ (.head _)))))))))))) (sub_cons (.tail _ (.tail _ (.tail _ (.tail _ (.tail _ (.tail _ (.tail _ (.tail _ (.tail _ (.tail _ (.tail _ (.tail _ (.tail _ (.head _)))))))))))))) (sub_cons (.tail _ (.tail _ (.tail _ (.tail _ (.tail _ (.tail _ (.tail _ (.tail _ (.tail _ (.tail _ (.tail _ (.tail _ (.tail _ (.tail _ (.tail _ (.head _)))))))))))))))) (fun q hq => .tail _ (.tail _ (.tail _ (.tail _ (.tail _ (.tail _ (.tail _ (.tail _ (.tail _ (.tail _ (.tail _ (.tail _ (.tail _ (.tail _ (.tail _ (.tail _ (hq)))))))))))))))))))))))
theorem trues_all (cn : Nat) : trues 3 ++ trues cn ++ [Value.bool true, Value.bool true] = trues (3 + cn + 2) := by
  rw [show [Value.bool true, Value.bool true] = trues 2 from rfl, trues_add, trues_add]
noncomputable def JG (base : Led) (n : Nat) (gs : List Int) (j : Nat) (ys : List Value) (nw : Led) : Prop := nw = base ∧ j ≤ n ∧ IntsAre ys (gs.take j)
section
variable {prog : Program} {w : World} {A : Around} {E : Value → Shared → Prop} {s : Shared} {env : Env} {h₀ : Heap} {L : Addr} {m : Str → Option Value}
open LCg in
theorem comp_two {elt : Expr} {x : Str} {px : Pos} {scope : Scope} {cl : List (Str × Addr)} {Fin : Shared → List Value → Led → Prop}
    (hh : A.handled = none) (hkind : scope.kind = .function) (hx : scope.names.lookup x = some .local) {ax : Addr} {a b : Value} {ep : Nat} {news : Led} (F : Fr h₀ L s.heap m) (N : News h₀ L s.heap news) (hl : (ax, listOf #[a, b] ep) ∈ news)
    (turn : ∀ (k : Nat) v I oI oC C D m₂ h tk (E' : Value → Shared → Prop), [a, b][k]? = some v → k < 2 → m₂ x = some v → NsObj oC m₂ → Fr h₀ L h m → News h₀ L h ((I, oI) :: (C, oC) :: (D, lst (trues k)) :: news) → Off3 I C D news → ((@Ne Nat I C) ∧ (@Ne Nat I D) ∧ (@Ne Nat C D)) →
      wpAny (model prog w) A (eval elt (compEnvC scope cl C env)) (EltE h₀ L m I C D oI oC (trues k) (JV news 2 trues (k + 1)) { s with heap := h, toks := tk }) E' { s with heap := h, toks := tk })
    (done : ∀ g, Fin { s with heap := g } (trues 2) news) :
    wpAny (model prog w) A (pyIter (.ref ax)) (fun it s₂ => ∃ news₀, Fr h₀ L s₂.heap m ∧ News h₀ L s₂.heap news₀ ∧ CompW prog w A h₀ L m env (.Name x px) [] elt scope cl (fun _ => True) [] (Fin s₂) it s₂ news₀) E s := by
  refine comp_listE (vs := [a, b]) hh F N hl (JV news 2 trues) (fun _ v _ mm => mm x = some v) (asg_name hkind hx (fun _ _ _ => trivial) fun i v ys nw mm _ _ hm => hm) (fun k ys nw j => ?_) (fun i ys nw j => j.1 ▸ hl) ⟨rfl, Nat.zero_le _, rfl⟩ (fun _ h => h) ?_ ?_
  · rw [j.2.2, PySem.sizeLine_eq]
    have := j.2.1
    unfold trues
    rw [List.length_replicate]
    omega
  · rintro k v ys nw I oI oC C D m₂ h tk E' hk hv ⟨rfl, _, rfl⟩ hm _ hC F' N' off ne
    refine wpAny_tests_nil ?_
    rw [if_pos rfl]
    exact turn k v I oI oC C D m₂ h tk E' hv hk hm hC F' N' off ne
  · rintro g ys nw ⟨rfl, _, rfl⟩
    exact done g
open LCg in
theorem comp_gains {elt : Expr} {x y z u : Str} {px py pz pu tp : Pos} {kk : Nat} {scope : Scope} {cl : List (Str × Addr)} {Fin : Shared → List Value → Led → Prop}
    (hh : A.handled = none) (hkind : scope.kind = .function) (hx : scope.names.lookup x = some .local) (hy : scope.names.lookup y = some .local) (hz : scope.names.lookup z = some .local) (hu : scope.names.lookup u = some .local) (hxy : x ≠ y ∧ x ≠ z ∧ x ≠ u ∧ y ≠ z ∧ y ≠ u ∧ z ≠ u)
    {R : Addr} {vs : List Value} {ep : Nat} {rs : List Row} {news : Led} (F : Fr h₀ L s.heap m) (N : News h₀ L s.heap news) (hl : (R, listOf vs.toArray ep) ∈ news) (hr : RowsAre news vs rs) (hn : vs.length ≤ 64)
    (turn : ∀ (a : Int) ta I3 oI3 oC3 C3 D4 m₃ ys h tk (E' : Value → Shared → Prop), m₃ y = some (.int a ta) → NsObj oC3 m₃ → Fr h₀ L h m → News h₀ L h ((I3, oI3) :: (C3, oC3) :: (D4, lst ys) :: news) →
      wpAny (model prog w) A (eval elt (compEnvC scope cl C3 env)) (fun v s' => v = .int a ta ∧ ∃ tk', s' = { s with heap := h, toks := tk' }) E' { s with heap := h, toks := tk })
    (done : ∀ g ys, IntsAre ys (rs.map Row.gain) → Fin { s with heap := g } ys news) :
    wpAny (model prog w) A (pyIter (.ref R)) (fun it s₂ => ∃ news₀, Fr h₀ L s₂.heap m ∧ News h₀ L s₂.heap news₀ ∧ CompW prog w A h₀ L m env (.Tuple [.Name x px, .Name y py, .Name z pz, .Name u pu] kk tp) [] elt scope cl (fun _ => True) [] (Fin s₂) it s₂ news₀) E s := by
  have hlen := hr.length
  refine comp_listE (vs := vs) hh F N hl (JG news vs.length (rs.map Row.gain)) (fun k _ _ mm => ∃ r t, rs[k]? = some r ∧ mm y = some (.int r.gain t)) (asg_four hh hkind hx hy hz hu hxy (fun _ => trivial) fun i v ys nw hP j => ?_) (fun k ys nw j => ?_) (fun i ys nw j => j.1 ▸ hl) ⟨rfl, Nat.zero_le _, .nil⟩ (fun _ h => h) ?_ ?_
  · obtain ⟨xr, r, t1, t2, t3, rfl, hri, hm⟩ := hr.get hP
    exact ⟨xr, _, _, _, _, rfl, by rw [j.1]; exact hm, fun mm _ h2 _ _ => ⟨r, t1, hri, h2⟩⟩
  · rw [j.2.2.length, PySem.sizeLine_eq, List.length_take]
    have := j.2.1
    omega
  · rintro k v ys nw I oI oC C D m₂ h tk E' hk hv ⟨rfl, _, hys⟩ ⟨r, t, hri, hm⟩ _ hC F' N' off ne
    refine wpAny_tests_nil ?_
    rw [if_pos rfl]
    refine wpAny_mono (turn r.gain t I oI oC C D m₂ _ h tk E' hm hC F' N') (fun v' s' hq => ?_) fun _ _ e => e
    obtain ⟨rfl, tk', rfl⟩ := hq
    refine EltE.go F' N' off ⟨rfl, hk, ?_⟩
    rw [List.take_add_one, List.getElem?_map, hri]
    exact ints_app hys
  · rintro g ys nw ⟨rfl, _, hys⟩
    refine done g ys ?_
    rw [hlen, ← List.length_map (f := Row.gain), List.take_length] at hys
    exact hys
end
theorem notIn_trues {prog : Program} {w : World} {A : Around} {E : Value → Shared → Prop} {s : Shared} {l : Addr} {vs : List Value} {n : Nat} {Q : Value → Shared → Prop} (hl : s.heap.IsList l vs.toArray) (hv : vs = trues n) (h : Q (.bool true) s) : wpAny (model prog w) A (compareOp .NotIn (.bool false) (.ref l)) Q E s := by
  refine PySem.SeqAt.notIn_listAt (fun _ => false) hl (fun y hy => ?_) ?_
  · have hy' : y ∈ vs := by simpa using hy
    rw [hv] at hy'
    unfold trues at hy'
    rw [(List.mem_replicate.mp hy').2]
    exact PySem.SeqAt.EqAt.bool_bool true false
  · have e : (vs.toArray.any fun _ => false) = false := by simp
    rw [e]; exact h
set_option maxHeartbeats 1000000
/-- a run, as a relation: from the turn i on -/
inductive Chain (way draw : Int) : Nat → Int → Int → List Row → Int → Prop
  | stop {i : Nat} {U : Int} : Chain way draw i U 0 [] U
  | step {i : Nat} {U L : Int} {rs : List Row} {G : Int} (hL : 0 < L) : Chain way draw (i + 1) L ((rowOf way draw i U L).r.natAbs : Int) rs G → Chain way draw i U L (rowOf way draw i U L :: rs) G
structure RowFacts (U L : Int) (r : Row) : Prop where
  eq : U = r.q * L + r.r
  lo : -L < r.r
  hi : r.r < L
  two : (r.r = U % L ∧ r.gain = 0) ∨ (r.r = -(-U % L) ∧ r.gain = gainOf true U L)
theorem row_facts {way draw U L : Int} {i : Nat} (hL : 0 < L) : RowFacts U L (rowOf way draw i U L) := by
  have h1 := Int.emod_nonneg U (Int.ne_of_gt hL)
  have h2 := Int.emod_lt_of_pos U hL
  have h3 := Int.emod_nonneg (-U) (Int.ne_of_gt hL)
  have h4 := Int.emod_lt_of_pos (-U) hL
  have h5 := Int.mul_ediv_add_emod U L
  have h6 := Int.mul_ediv_add_emod (-U) L
  unfold rowOf
  split
  · refine ⟨?_, ?_, ?_, .inr ⟨rfl, rfl⟩⟩
    · show U = unQ U L * L + unR U L
      unfold unQ unR
      rw [Int.neg_mul, Int.mul_comm]; omega
    · show -L < unR U L; unfold unR; omega
    · show unR U L < L; unfold unR; omega
  · refine ⟨?_, ?_, ?_, .inl ⟨rfl, rfl⟩⟩
    · show U = ovQ U L * L + ovR U L
      unfold ovQ ovR
      rw [Int.mul_comm]; omega
    · show -L < ovR U L; unfold ovR; omega
    · show ovR U L < L; unfold ovR; omega
theorem chain_exists (way draw : Int) : ∀ (n : Nat) (i : Nat) (U L : Int), L.toNat ≤ n → 0 ≤ L → ∃ rs G, Chain way draw i U L rs G
  | 0, i, U, L, hn, h0 => by
    obtain rfl : L = 0 := by omega
    exact ⟨[], U, .stop⟩
  | n + 1, i, U, L, hn, h0 => by
    by_cases hL : 0 < L
    · have f := row_facts (way := way) (draw := draw) (U := U) (i := i) hL
      have h1 := f.lo
      have h2 := f.hi
      obtain ⟨rs, G, h⟩ := chain_exists way draw n (i + 1) L ((rowOf way draw i U L).r.natAbs : Int) (by omega) (by omega)
      exact ⟨_, G, .step hL h⟩
    · obtain rfl : L = 0 := by omega
      exact ⟨[], U, .stop⟩
theorem run_done {way draw : Int} {R0 : Run} {rs : List Row} {U : Int} : ∀ (n i : Nat), runTo way draw R0 i = ⟨rs, U, 0⟩ → runTo way draw R0 (i + n) = ⟨rs, U, 0⟩
  | 0, i, h => h
  | n + 1, i, h => run_stay (run_done n i h) rfl
theorem run_chain {way draw : Int} {R0 : Run} {i : Nat} {U L : Int} {rs : List Row} {G : Int} (h : Chain way draw i U L rs G) : ∀ (rs0 : List Row) (n : Nat), runTo way draw R0 i = ⟨rs0, U, L⟩ → rs.length ≤ n → runTo way draw R0 (i + n) = ⟨rs0 ++ rs, G, 0⟩ := by
  induction h with
  | stop => intro rs0 n h _; rw [List.append_nil]; exact run_done n _ h
  | step hL _ ih =>
    intro rs0 n h hn
    obtain ⟨k, rfl⟩ : ∃ k, n = k + 1 := ⟨n - 1, by simp only [List.length_cons] at hn; omega⟩
    have h1 := run_next h (Int.ne_of_gt hL)
    have h2 := ih _ k h1 (by simp only [List.length_cons] at hn; omega)
    rw [show ∀ i : Nat, i + (k + 1) = i + 1 + k from fun i => by omega, h2, List.append_assoc]
    rfl
theorem chain_back {way draw : Int} {i : Nat} {U L : Int} {rs : List Row} {G : Int} (h : Chain way draw i U L rs G) : back G rs = (U, L) := by
  induction h with
  | stop => rfl
  | step hL _ ih =>
    rename_i i U L rs G _
    have f := row_facts (way := way) (draw := draw) (U := U) (i := i) hL
    simp only [back, ih]
    have e := f.eq
    congr 1
    split <;> omega
theorem chain_gcd {way draw : Int} {i : Nat} {U L : Int} {rs : List Row} {G : Int} (h : Chain way draw i U L rs G) : (0 < L ∨ 0 ≤ U) → G = (Int.gcd U L : Int) := by
  induction h with
  | stop => intro h; rcases h with h | h <;> simp <;> omega
  | step hL _ ih =>
    rename_i i U L rs G _
    intro _
    have f := row_facts (way := way) (draw := draw) (U := U) (i := i) hL
    rw [ih (.inr (Int.le_of_lt hL))]
    have e := f.eq
    have e2 : Int.gcd U L = Int.gcd (rowOf way draw i U L).r L := by
      rw [e, Int.gcd_mul_right_add_left, ← e]
    rw [e2, Int.gcd_comm]
    simp [Int.gcd_eq_natAbs_gcd_natAbs]
/-- Euclid's run is as long as any other and its gains -/
theorem chain_gain {way draw : Int} {i : Nat} {U L : Int} {rs : List Row} {G : Int} (h : Chain way draw i U L rs G) : (el U L : Int) = rs.length + (rs.map Row.gain).sum := by
  induction h with
  | stop => rw [el_zero (by omega)]; rfl
  | step hL _ ih =>
    rename_i i U L rs G _
    have f := row_facts (way := way) (draw := draw) (U := U) (i := i) hL
    have h1 := Int.emod_nonneg U (Int.ne_of_gt hL)
    have h2 := Int.emod_lt_of_pos U hL
    have hn := neg_mod (U := U) hL
    rw [el_pos hL]
    simp only [List.length_cons, List.map_cons, List.sum_cons]
    rcases f.two with ⟨er, eg⟩ | ⟨er, eg⟩
    · rw [show ((rowOf way draw i U L).r.natAbs : Int) = U % L from by omega] at ih
      rw [eg]; push_cast; omega
    · rw [show ((rowOf way draw i U L).r.natAbs : Int) = -U % L from by have := Int.emod_nonneg (-U) (Int.ne_of_gt hL); omega] at ih
      have hg : (rowOf way draw i U L).gain = if -U % L < U % L then 1 else if -U % L > U % L then -1 else 0 := by
        rw [eg]; unfold gainOf unR ovR; simp
      rw [hg]
      by_cases hz : U % L = 0
      · rw [if_pos hz] at hn
        rw [hn] at ih ⊢
        rw [hz]
        simp only [Int.lt_irrefl, if_false, gt_iff_lt]
        push_cast; omega
      · rw [if_neg hz] at hn
        rw [hn] at ih ⊢
        by_cases ha : 2 * (U % L) < L
        · have k := el_swap (L := L) (r := U % L) (by omega) ha
          rw [if_neg (by omega), if_pos (by omega)]
          push_cast; omega
        · by_cases hb : 2 * (U % L) = L
          · rw [if_neg (by omega), if_neg (by omega)]
            rw [show L - U % L = U % L from by omega] at ih
            push_cast; omega
          · have k := el_swap (L := L) (r := L - U % L) (by omega) (by omega)
            rw [show L - (L - U % L) = U % L from by omega] at k
            rw [if_pos (by omega)]
            push_cast; omega
set_option maxHeartbeats 1000000
theorem row_false {way draw U L : Int} {i : Nat} (h : pick way draw i U L = false) : rowOf way draw i U L = ⟨0, ovQ U L, ovR U L⟩ := by
  unfold rowOf; rw [if_neg (by rw [h]; decide)]
theorem chain_false {way draw : Int} {i : Nat} {U L : Int} {rs : List Row} {G : Int} (h : Chain way draw i U L rs G) : (∀ j, i ≤ j → ∀ U L, pick way draw j U L = false) → rs.length = el U L := by
  induction h with
  | stop => intro _; rw [el_zero (by omega)]; rfl
  | step hL _ ih =>
    rename_i i U L rs G _
    intro hf
    have ih := ih fun j hj => hf j (by omega)
    have h1 := Int.emod_nonneg U (Int.ne_of_gt hL)
    rw [row_false (hf i (Nat.le_refl _) U L)] at ih
    rw [el_pos hL, List.length_cons, ih]
    rw [show (((⟨0, ovQ U L, ovR U L⟩ : Row).r.natAbs : Nat) : Int) = U % L from by unfold ovR; show ((U % L).natAbs : Int) = _; omega]
    omega
theorem pick0 {draw U L : Int} {i : Nat} : pick 0 draw i U L = false := by unfold pick; simp
theorem pick1 {draw U L : Int} {i : Nat} : pick 1 draw i U L = decide (-U % L < U % L) := by
  unfold pick unR ovR; simp
theorem pick2 {draw U L : Int} {i : Nat} (h0 : 0 ≤ draw) (h1 : draw < 2 ^ 24) (hi : 24 ≤ i) : pick 2 draw i U L = false := by
  have e : draw / 2 ^ i = 0 := by
    apply Int.ediv_eq_zero_of_lt h0
    have h2 : (2 : Nat) ^ 24 ≤ 2 ^ i := Nat.pow_le_pow_right (by decide) hi
    have h3 : ((2 : Int) ^ 24) ≤ 2 ^ i := by exact_mod_cast h2
    omega
  unfold pick; rw [e]; simp
theorem chain_nl {draw : Int} {i : Nat} {U L : Int} {rs : List Row} {G : Int} (h : Chain 1 draw i U L rs G) : rs.length = nl U L := by
  induction h with
  | stop => rw [nl_zero (by omega)]; rfl
  | step hL _ ih =>
    rename_i i U L rs G _
    have h1 := Int.emod_nonneg U (Int.ne_of_gt hL)
    have h2 := Int.emod_nonneg (-U) (Int.ne_of_gt hL)
    have e : ((rowOf 1 draw i U L).r.natAbs : Int) = nr U L := by
      unfold rowOf
      rw [pick1]
      unfold nr
      split
      · next hp =>
        have hp := of_decide_eq_true hp
        show ((unR U L).natAbs : Int) = _
        unfold unR; omega
      · next hp =>
        have hp : ¬ (-U % L < U % L) := fun z => hp (decide_eq_true z)
        show ((ovR U L).natAbs : Int) = _
        unfold ovR; omega
    rw [e] at ih
    rw [nl_pos hL, List.length_cons, ih]; omega
theorem chain_len2 {draw : Int} (h0 : 0 ≤ draw) (h1 : draw < 2 ^ 24) {way : Int} {i : Nat} {U L : Int} {rs : List Row} {G : Int} (h : Chain way draw i U L rs G) : way = 2 → L < 2 ^ 8 → rs.length ≤ (24 - i) + 16 := by
  induction h with
  | stop => intro _ _; simp
  | step hL hc ih =>
    rename_i i U L rs G
    intro hw hb
    by_cases hi : 24 ≤ i
    · subst hw
      have e := chain_false (Chain.step hL hc) fun j hj U L => pick2 h0 h1 (by omega)
      have := el_bound 8 U L hb
      omega
    · have f := row_facts (way := way) (draw := draw) (U := U) (i := i) hL
      have a := f.lo
      have b := f.hi
      have ih := ih hw (by omega)
      rw [List.length_cons]; omega
theorem lame {g : Int} (hg : 0 < g) : ∀ (n : Nat) (U L : Int), g ∣ U → g ∣ L → el U L = n + 1 → g * fib n ≤ L
  | 0, U, L, hU, hL, h => by
    have h0 : 0 < L := Int.not_le.mp fun z => by rw [el_zero (by omega)] at h; omega
    show g * 1 ≤ L
    rw [Int.mul_one]; exact Int.le_of_dvd h0 hL
  | 1, U, L, hU, hL, h => by
    have h0 : 0 < L := Int.not_le.mp fun z => by rw [el_zero (by omega)] at h; omega
    rw [el_pos h0] at h
    have h1 : 0 < U % L := Int.not_le.mp fun z => by rw [el_zero (by omega)] at h; omega
    have h2 := Int.emod_lt_of_pos U h0
    rw [el_pos h1] at h
    have h3 : ¬ 0 < L % (U % L) := fun z => by rw [el_pos z] at h; omega
    have h4 := Int.emod_nonneg L (Int.ne_of_gt h1)
    have hr : g ∣ U % L := by rw [Int.emod_def]; exact Int.dvd_sub hU (Int.dvd_mul_of_dvd_left hL)
    have h5 : g ≤ U % L := Int.le_of_dvd h1 hr
    show g * 2 ≤ L
    have h6 : 2 * (U % L) ≤ L := Int.not_lt.mp fun z => h3 (by rw [mod_once (L := L) (x := U % L) (r := L - U % L) (by omega) (by omega) (by omega)]; omega)
    omega
  | n + 2, U, L, hU, hL, h => by
    have h0 : 0 < L := Int.not_le.mp fun z => by rw [el_zero (by omega)] at h; omega
    rw [el_pos h0] at h
    have h1 : 0 < U % L := Int.not_le.mp fun z => by rw [el_zero (by omega)] at h; omega
    have h2 := Int.emod_lt_of_pos U h0
    have hr : g ∣ U % L := by rw [Int.emod_def]; exact Int.dvd_sub hU (Int.dvd_mul_of_dvd_left hL)
    have hs : g ∣ L % (U % L) := by rw [Int.emod_def]; exact Int.dvd_sub hL (Int.dvd_mul_of_dvd_left hr)
    have k1 := lame hg (n + 1) L (U % L) hL hr (by omega)
    rw [el_pos h1] at h
    have k2 := lame hg n (U % L) (L % (U % L)) hr hs (by omega)
    have h6 : U % L + L % (U % L) ≤ L := by
      by_cases z : 2 * (U % L) ≤ L
      · have := Int.emod_lt_of_pos L h1; omega
      · rw [mod_once (L := L) (x := U % L) (r := L - U % L) (by omega) (by omega) (by omega)]; omega
    show g * (fib (n + 1) + fib n) ≤ L
    rw [Int.mul_add]; omega
set_option maxHeartbeats 1000000
noncomputable def scale (m : Int) (r : Row) : Row := ⟨r.gain, r.q, r.r * m⟩
theorem mod_scale {U L m : Int} (hm : 0 < m) : U * m % (L * m) = U % L * m := by
  rw [Int.mul_comm U m, Int.mul_comm L m, Int.mul_emod_mul_of_pos _ _ hm, Int.mul_comm]
theorem div_scale {U L m : Int} (hm : 0 < m) : U * m / (L * m) = U / L := by
  rw [Int.mul_comm U m, Int.mul_comm L m, Int.mul_ediv_mul_of_pos _ _ hm]
theorem lt_scale {a b m : Int} (hm : 0 < m) : a * m < b * m ↔ a < b := Int.mul_lt_mul_right hm
theorem row_scale {way draw U L m : Int} {i : Nat} (hm : 0 < m) : rowOf way draw i (U * m) (L * m) = scale m (rowOf way draw i U L) := by
  have e1 : ovR (U * m) (L * m) = ovR U L * m := mod_scale hm
  have e2 : unR (U * m) (L * m) = unR U L * m := by unfold unR; rw [← Int.neg_mul, mod_scale hm, Int.neg_mul]
  have e3 : ovQ (U * m) (L * m) = ovQ U L := div_scale hm
  have e4 : unQ (U * m) (L * m) = unQ U L := by unfold unQ; rw [← Int.neg_mul, div_scale hm]
  have l1 : (-(unR U L * m) < ovR U L * m) ↔ (-(unR U L) < ovR U L) := by rw [← Int.neg_mul]; exact lt_scale hm
  have l2 : (-(unR U L * m) > ovR U L * m) ↔ (-(unR U L) > ovR U L) := by rw [← Int.neg_mul]; exact lt_scale hm
  have p : pick way draw i (U * m) (L * m) = pick way draw i U L := by unfold pick; rw [e1, e2]; simp only [l1]
  have g : gainOf true (U * m) (L * m) = gainOf true U L := by unfold gainOf; rw [e1, e2]; simp only [l1, l2]
  unfold rowOf scale
  rw [p, e1, e2, e3, e4, g]
  split <;> rfl
theorem chain_scale {way draw m : Int} (hm : 0 < m) {i : Nat} {U L : Int} {rs : List Row} {G : Int} (h : Chain way draw i U L rs G) : Chain way draw i (U * m) (L * m) (rs.map (scale m)) (G * m) := by
  induction h with
  | stop => rw [Int.zero_mul]; exact .stop
  | step hL _ ih =>
    rename_i i U L rs G _
    rw [List.map_cons, ← row_scale hm]
    refine .step (Int.mul_pos hL hm) ?_
    rw [row_scale hm]
    have e : (((scale m (rowOf way draw i U L)).r.natAbs : Nat) : Int) = ((rowOf way draw i U L).r.natAbs : Int) * m := by
      unfold scale
      show (((rowOf way draw i U L).r * m).natAbs : Int) = _
      have hm' : (m.natAbs : Int) = m := by omega
      rw [Int.natAbs_mul, Int.natCast_mul, hm']
    rw [e]
    exact ih
theorem q_fits {U L q r : Int} (hL : 0 < L) (e : U = q * L + r) (h1 : -(2 ^ 40) < U) (h2 : U < 2 ^ 40) (h3 : L < 2 ^ 40) (h4 : -L < r) (h5 : r < L) : -(2 ^ 60) < q ∧ q < 2 ^ 60 := by
  have e2 : q * L = q + q * (L - 1) := by rw [Int.mul_sub]; omega
  by_cases hq : 0 ≤ q
  · have := Int.mul_nonneg hq (show 0 ≤ L - 1 by omega)
    omega
  · have := Int.mul_nonneg (show 0 ≤ -q by omega) (show 0 ≤ L - 1 by omega)
    rw [Int.neg_mul] at this
    omega
theorem chain_ok {way draw : Int} {i : Nat} {U L : Int} {rs : List Row} {G : Int} (h : Chain way draw i U L rs G) : -(2 ^ 40) < U → U < 2 ^ 40 → L < 2 ^ 40 → BackOk G rs := by
  induction h with
  | stop =>
    intro h1 h2 _
    refine ⟨fun k => ?_, fun r hr => nomatch hr⟩
    rw [List.drop_nil]
    simp only [back]
    omega
  | step hL hc ih =>
    rename_i i U L rs G
    intro h1 h2 h3
    have f := row_facts (way := way) (draw := draw) (U := U) (i := i) hL
    have a := f.lo
    have b := f.hi
    have ih := ih (by omega) h3 (by omega)
    refine ⟨fun k => ?_, fun r hr => ?_⟩
    · cases k with
      | zero => rw [List.drop_zero, chain_back (Chain.step hL hc)]; show -(2 ^ 60) < U ∧ U < 2 ^ 60; omega
      | succ k => exact ih.u k
    · rcases List.mem_cons.mp hr with rfl | hr
      · exact q_fits hL f.eq h1 h2 h3 a b
      · exact ih.q r hr
set_option maxHeartbeats 1000000
theorem gain_scale (m : Int) (rs : List Row) : (rs.map (scale m)).map Row.gain = rs.map Row.gain := by
  rw [List.map_map]; rfl
theorem divs_gcd {u l g : Int} (hl : 1 ≤ l) (hg1 : g ∈ divs u l l.toNat) (hg2 : ∀ a, a ∈ divs u l l.toNat → a ≤ g) : g = (Int.gcd u l : Int) := by
  have q := divs_mem.mp hg1
  have d1 : (Int.gcd u l : Int) ∣ u := Int.gcd_dvd_left u l
  have d2 : (Int.gcd u l : Int) ∣ l := Int.gcd_dvd_right u l
  have h0 : 0 < (Int.gcd u l : Int) := by
    have : Int.gcd u l ≠ 0 := fun e => by
      rw [e] at d2
      have := Int.zero_dvd.mp d2
      omega
    omega
  have h1 : (Int.gcd u l : Int) ≤ l := Int.le_of_dvd (by omega) d2
  have h2 := hg2 _ (divs_mem.mpr ⟨⟨by omega, by omega⟩, Int.emod_eq_zero_of_dvd d1, Int.emod_eq_zero_of_dvd d2⟩)
  have h3 : g ∣ (Int.gcd u l : Int) := Int.dvd_coe_gcd (Int.dvd_of_emod_eq_zero q.2.1) (Int.dvd_of_emod_eq_zero q.2.2)
  have h4 := Int.le_of_dvd h0 h3
  omega
theorem plain {u l ms dr g : Int} (hu : -2000 ≤ u ∧ u ≤ 2000) (hl : 1 ≤ l ∧ l ≤ 169) (hm : 1 ≤ ms ∧ ms ≤ 1000000) (hd : 0 ≤ dr ∧ dr < 2 ^ 24) (hg1 : g ∈ divs u l l.toNat) (hg2 : ∀ a, a ∈ divs u l l.toNat → a ≤ g) : ∃ rs0 rs1 rs2, PlainOk u l ms dr g rs0 rs1 rs2 := by
  have hl0 : 0 < l := by omega
  have hm0 : 0 < ms := by omega
  obtain ⟨t0, G0, C0⟩ := chain_exists 0 dr l.toNat 0 u l (Nat.le_refl _) (by omega)
  obtain ⟨t1, G1, C1⟩ := chain_exists 1 dr l.toNat 0 u l (Nat.le_refl _) (by omega)
  obtain ⟨t2, G2, C2⟩ := chain_exists 2 dr l.toNat 0 u l (Nat.le_refl _) (by omega)
  have hg := divs_gcd hl.1 hg1 hg2
  have g0 : G0 = g := (chain_gcd C0 (.inl hl0)).trans hg.symm
  have g1 : G1 = g := (chain_gcd C1 (.inl hl0)).trans hg.symm
  have g2 : G2 = g := (chain_gcd C2 (.inl hl0)).trans hg.symm
  subst g0; subst g1; subst g2
  have S0 := chain_scale hm0 C0
  have S1 := chain_scale hm0 C1
  have S2 := chain_scale hm0 C2
  have hb8 : l < 2 ^ 8 := by omega
  have n0 := chain_false C0 fun _ _ _ _ => pick0
  have n1 := chain_nl C1
  have n2 := chain_len2 hd.1 hd.2 C2 rfl hb8
  have b0 := el_bound 8 u l hb8
  have b1 := nl_bound 8 u l hb8
  have hU := mul_up hu hm
  have hL := mul_low hl hm
  have e0 := el_pos (U := u) hl0
  have e1 := nl_pos (U := u) hl0
  refine ⟨t0.map (scale ms), t1.map (scale ms), t2.map (scale ms), ?_, ?_, ?_, ?_, ?_, ?_, ?_, ?_⟩
  · exact run_chain S0 [] 64 rfl (by rw [List.length_map]; omega)
  · exact run_chain S1 [] 64 rfl (by rw [List.length_map]; omega)
  · exact run_chain S2 [] 64 rfl (by rw [List.length_map]; omega)
  · intro rs hrs
    simp only [List.mem_cons, List.not_mem_nil, or_false] at hrs
    rcases hrs with rfl | rfl | rfl
    · exact ⟨chain_back S0, chain_ok S0 (by omega) (by omega) (by omega)⟩
    · exact ⟨chain_back S1, chain_ok S1 (by omega) (by omega) (by omega)⟩
    · exact ⟨chain_back S2, chain_ok S2 (by omega) (by omega) (by omega)⟩
  · refine ⟨nl u l - 1, by omega, by rw [List.length_map]; omega, few_is _ u l hl0 (by omega), fun i hi p hp e => ?_⟩
    have := few_low i u l hl0 ⟨p, hp, e⟩
    omega
  · rw [List.length_map, n0]
    have q := divs_mem.mp hg1
    exact ⟨by omega, by omega, lame (by omega) _ u l (Int.dvd_of_emod_eq_zero q.2.1) (Int.dvd_of_emod_eq_zero q.2.2) (by omega)⟩
  · rw [gain_scale, List.length_map, List.length_map, n0]; exact chain_gain C1
  · rw [gain_scale, List.length_map, List.length_map, n0]; exact chain_gain C2
set_option maxHeartbeats 8000000
/-- behind a call whose frames below were written upon: the caller's ground stands again -/
theorem back_turn {h₀ g g' h : Heap} {L L' : Addr} {m m' : Str → Option Value} {news' : Led} (FG : Fr h₀ L g m) (T : KtsTurn [L] g g') (F' : Fr g' L' h m') (N' : News g' L' h news') :
    Fr h₀ L h m ∧ News h₀ L h news' := by
  obtain ⟨oL, es, ep, hL, hd, hk, hf⟩ := FG.ns
  obtain ⟨sl, hs⟩ := T.up hL
  have none0 : ∀ b, g'.get? b = none → h₀.get? b = none := fun b e => by
    cases q : h₀.get? b with
    | none => rfl
    | some o =>
      obtain ⟨s1, h1⟩ := T.up (FG.keep b o q)
      rw [e] at h1
      cases h1
  refine ⟨⟨⟨_, es, ep, F'.keep _ _ hs, hd, hk, hf⟩, fun b o e => ?_, FG.above⟩, fun p hp => ⟨(N' p hp).1, fun q => ?_, none0 _ (N' p hp).2.2⟩⟩
  · refine F'.keep b o (T.other b o (FG.keep b o e) fun z => ?_)
    rw [List.mem_singleton.mp z, kts_self FG] at e
    cases e
  · have z := (N' p hp).2.2
    rw [q, hs] at z
    cases z
theorem call_try {prog : Program} {w : World} {A A₀ : Around} {s : Shared} {base h₀ : Heap} {L : Addr} {m : Str → Option Value} {news : Led} {K : Frag} {p : Program} {loose : List Str} {mean : ExcName → Option Value} {mg mb : Str → Option Value}
    {env : Env} {R : Result → Shared → Prop} {name qual : Str} {params : Arguments} {body : List Stmt} {scope : Scope} {dV kV doc pm cdv ct oc : Value} {an od : Option Addr} {osl : Array (Option Value)} {f : Addr} {args : Args} {binds : List (Str × Value)}
    (B : Below A₀ base [] h₀) (F : Fr h₀ L s.heap m) (X₀ : K.In h₀) (N : News h₀ L s.heap news) (T : Top p loose mean mg mb h₀) (hA : A.frames = some [env]) (hf : env.frame = some L) (hke : env.scope.kind = .function)
    (ho : K.lookup f = some ⟨oc, od, .func (fnOf name qual params body scope dV kV doc pm an cdv ct), osl⟩) (hcd : codeIn K cdv qual = true) (hroom : A.depth < recursionLimit)
    (hbind : BindsTo s (fnOf name qual params body scope dV kV doc pm an cdv ct) args binds) (hloc : ∀ y ∈ binds, scope.names.lookup y.1 = some .local)
    (h : ∀ g L' h₁, Fr h₀ L g m → Fr g L' h₁ (fun y => binds.reverse.lookup y) → News g L' h₁ news → Below A base [env] g → K.In g → Top p loose mean mg mb g → KtsDicts ([env].filterMap (·.frame)) g →
      wpAny (model prog w) (A.deeper (envOf qual scope L' f cdv)) (execs body (envOf qual scope L' f cdv))
        (fun fl s' => LeaveS0 ([env].filterMap (·.frame)) h₀ L m g R (match fl with | .ret v => v | _ => .none) s')
        (fun e s' => wpAny (model prog w) (A.deeper (envOf qual scope L' f cdv)) (leaving (envOf qual scope L' f cdv) e) (fun _ s'' => R (.error e) s'') (fun e' s'' => R (.error e') s'') s')
        { s with heap := h₁, toks := s.toks + binds.length })
    (hco : scope.isCoroutine = false) (hgen : scope.isGenerator = false) (hk : scope.kind = .function)
    (hcell : ∀ x ∈ scope.names, x.2 ≠ .cell) : codeAny (model prog w) A (.call (.ref f) args) R s := by
  have X := X₀.keeps F.keep
  obtain ⟨FG, BG, st, _⟩ := groundX (R := R) B F N hA hf hke
  have hfs : [env].filterMap (·.frame) = [L] := by simp [hf]
  have hD : KtsDicts ([env].filterMap (·.frame)) (hideAll s.heap (news.map (·.1))) := fun b hb => by
    rw [hfs] at hb
    obtain ⟨o, es, ep, e, hd, _⟩ := FG.ns
    rw [List.mem_singleton.mp hb]
    exact ⟨o, es, ep, e, hd⟩
  refine codeAny_call_def (fd := fnOf name qual params body scope dV kV doc pm an cdv ct) (body := body) (binds := binds) hroom (X _ _ ho) rfl (T.nolimit.keeps F.keep) (codeRec_of X hcd) rfl hbind hcell hloc (fun h₁ hns hk₁ => ?_) hco hgen hk
  refine wpAny_mono (h _ s.heap.objs.size h₁ FG ⟨hns, fun b o e => hk₁ b o (of_hideAll _ e), Nat.le_of_eq (hideAll_size _ _)⟩
    (fun q hq => ⟨hk₁ _ _ (N q hq).1, Nat.ne_of_lt (Heap.lt_size (N q hq).1), hideAll_none _ (List.mem_map_of_mem hq)⟩) BG (X₀.keeps st) (T.keeps st) hD) (fun fl s' hl => ?_) fun _ _ y => y
  obtain ⟨g', L', m', news', T', F', N', k⟩ := hl
  rw [hfs] at T'
  obtain ⟨F₂, N₂⟩ := back_turn FG T' F' N'
  exact k F₂ N₂
/-- «raise X» with the class's name alone: the made exception has no arguments -/
theorem raise_bare {prog : Program} {w : World} {A : Around} {E : Value → Shared → Prop} {s : Shared} {env : Env} {X N I newId initId : String}
    {x : Str} {np pos : Pos} {Q : Flow → Shared → Prop} (hh : A.handled = none) (hc : ExcClass X N I) (FC : ExcCallFacts X newId initId)
    (hself : isSubtype (.type X) (.type X) = pure true)
    (hx : wpAny (model prog w) A (eval (.Name x np) env) (fun v s₁ => v = .type X ∧ s₁ = s) E s)
    (h : ∀ h' e, Heap.MadeExc s.heap h' e X [] → E (.ref e) { s with heap := h' }) :
    wpAny (model prog w) A (exec (.Raise (some (.Name x np)) none pos) env) Q E s := by
  show wpAny (model prog w) A (do standAt pos; raiseStmt env (some (do let v ← eval (.Name x np) env; standAt pos; pure v)) none) Q E s
  refine wpAny_bind (wpAny_standAt ?_)
  unfold raiseStmt
  dsimp only
  refine wpAny_bind (wpAny_bind (wpAny_mono hx (fun v s₁ h₁ => wpAny_bind (wpAny_standAt (wpAny_pure ?_))) fun _ _ e => e))
  obtain ⟨rfl, rfl⟩ := h₁
  refine wpAny_bind (wpAny_pure ?_)
  dsimp only
  refine wpAny_bind (wpAny_holding ?_)
  unfold excFromValue isExcClass
  refine wpAny_bind (wpAny_bind (wpAny_pure ?_))
  simp only [if_true]
  rw [hc.base]
  refine wpAny_pure ?_
  simp only [if_true]
  refine wpAny_bind ?_
  refine wpAny_call_exc FC (hrest := Nat.zero_le _) fun h' e hn => ?_
  obtain ⟨t, he, _⟩ := hn.there
  have hT : ({ s₁ with heap := h' } : Shared).TypeIs (.ref e) X := ⟨_, he, rfl⟩
  refine wpAny_bind (wpAny_isInstance hT hc.base ?_)
  simp only [Bool.not_true, Bool.false_eq_true, if_false]
  refine wpAny_pure ?_
  refine wpAny_bind (wpAny_pure ?_)
  simp only [if_true]
  refine wpAny_bind (wpAny_holding ?_)
  unfold raisedFor
  simp only [Bool.false_eq_true, if_false]
  refine wpAny_bind (wpAny_typeOf hT ?_)
  refine wpAny_bind (call_issubclass (issubclass_self hc hself) ?_)
  refine wpAny_bind (wpAny_truthy_bool ?_)
  simp only [if_true]
  refine wpAny_pure ?_
  unfold setFlight raiseNew
  refine wpAny_bind (wpAny_bind (wpAny_field (i := 1) (x := Value.none) he rfl rfl ?_))
  rw [if_neg (by decide)]
  refine wpAny_pure (wpAny_bind (wpAny_handled ?_))
  rw [hh]
  first
    | exact wpAny_throw (h h' e hn)
    | exact wpAny_bind (wpAny_pure (wpAny_throw (h h' e hn)))
set_option maxHeartbeats 4000000
theorem c68 : ∀ (w : World) (va : Int) (ta : Tok) (p : Program) (loose : List Str) (mean : ExcName → Option Value) (mg mb : Str → Option Value)
    (dp un : Nat) (gd : Option (List Code)) (cn : Str) (cs : Scope) (a : Addr) (ccd : Value) (cl : List (Str × Addr)) (A₀ : Around) (base h₀ : Heap) (L : Addr) (m : Str → Option Value)
    (news : Led) (s : Shared) (Q E : Value → Shared → Prop),
    Below A₀ base [] h₀ → Fr h₀ L s.heap m → (hd.heap_39 w.params).In base → Top p loose mean mg mb base → (hd.heap_39 w.params).In h₀ → News h₀ L s.heap news → Top p loose mean mg mb h₀ → cs.kind = .function →
    dp + 8 < recursionLimit → un + 64 < cLine →
    (∀ h' tk', Fr h₀ L h' m → News h₀ L h' news → Q (.bool true) { s with heap := h', toks := tk' }) →
    wpAny (model PySem.Challenge.rw_wz0050_01.row.prog w) (ktrTop dp un gd cn cs L a ccd cl []) (call (.ref 68) [.int va ta]) Q E s := by
  k_with_none
  k_with "ne" => (first | (refine Nat.ne_of_lt ?_; k_extra "neL") | (refine Nat.ne_of_gt ?_; k_extra "neL") | with_reducible assumption | (refine Ne.symm ?_; with_reducible assumption) | k_extra "neA")
  k_with "neL" => (first | with_reducible assumption | with_reducible exact ltS0 _ | k_extra "neS" | ((fail_if_success with_reducible show _ < 37); (fail_if_success with_reducible show _ < 30); with_reducible refine ltS ?_; k_extra "neL"))
  k_with "neS" => (with_reducible rename (@LT.lt Nat _ _ _ ∧ _) => q; first | (refine ltRt q ?_; first | exact q.1 | exact q.2.1 | exact q.2.2.1 | exact q.2.2.2.1 | exact q.2.2.2.2.1 | exact q.2.2.2.2.2.1 | exact q.2.2.2.2.2.2.1 | exact q.2.2.2.2.2.2.2.1 | exact q.2.2.2.2.2.2.2.2.1 | exact q.2.2.2.2.2.2.2.2.2.1 | exact q.2.2.2.2.2.2.2.2.2.2.1 | exact q.2.2.2.2.2.2.2.2.2.2.2.1 | exact q.2.2.2.2.2.2.2.2.2.2.2.2.1 | exact q.2.2.2.2.2.2.2.2.2.2.2.2.2.1 | exact q.2.2.2.2.2.2.2.2.2.2.2.2.2.2.1 | exact q.2.2.2.2.2.2.2.2.2.2.2.2.2.2.2.1 | exact q.2.2.2.2.2.2.2.2.2.2.2.2.2.2.2.2.1 | exact q.2.2.2.2.2.2.2.2.2.2.2.2.2.2.2.2.2.1) | (clear q; k_extra "neS"))
  k_with "neA" => (with_reducible rename (@Ne _ _ _ ∧ _) => q; first | (refine neLt q ?_; first | exact q.1.symm | exact q.2.1.symm | exact q.2.2.1.symm | exact q.2.2.2.1.symm | exact q.2.2.2.2.1.symm | exact q.2.2.2.2.2.1.symm | exact q.2.2.2.2.2.2.1.symm | exact q.2.2.2.2.2.2.2.1.symm | exact q.2.2.2.2.2.2.2.2.1.symm | exact q.2.2.2.2.2.2.2.2.2.1.symm | exact q.2.2.2.2.2.2.2.2.2.2.1.symm | exact q.2.2.2.2.2.2.2.2.2.2.2.1.symm | exact q.2.2.2.2.2.2.2.2.2.2.2.2.1.symm | exact q.2.2.2.2.2.2.2.2.2.2.2.2.2.1.symm | exact q.2.2.2.2.2.2.2.2.2.2.2.2.2.2.1.symm | exact q.2.2.2.2.2.2.2.2.2.2.2.2.2.2.2.1.symm | exact q.2.2.2.2.2.2.2.2.2.2.2.2.2.2.2.2.1.symm | exact q.2.2.2.2.2.2.2.2.2.2.2.2.2.2.2.2.2.1.symm) | (refine neRt q ?_; first | exact q.1 | exact q.2.1 | exact q.2.2.1 | exact q.2.2.2.1 | exact q.2.2.2.2.1 | exact q.2.2.2.2.2.1 | exact q.2.2.2.2.2.2.1 | exact q.2.2.2.2.2.2.2.1 | exact q.2.2.2.2.2.2.2.2.1 | exact q.2.2.2.2.2.2.2.2.2.1 | exact q.2.2.2.2.2.2.2.2.2.2.1 | exact q.2.2.2.2.2.2.2.2.2.2.2.1 | exact q.2.2.2.2.2.2.2.2.2.2.2.2.1 | exact q.2.2.2.2.2.2.2.2.2.2.2.2.2.1 | exact q.2.2.2.2.2.2.2.2.2.2.2.2.2.2.1 | exact q.2.2.2.2.2.2.2.2.2.2.2.2.2.2.2.1 | exact q.2.2.2.2.2.2.2.2.2.2.2.2.2.2.2.2.1 | exact q.2.2.2.2.2.2.2.2.2.2.2.2.2.2.2.2.2.1) | (clear q; k_extra "neA"))
  k_with "call ref" => (k_here; k_dflt (refine wpAny_call ?_); k_dflt (refine' code_def ?zqk1 ?zqk2 ?zqk3 ?zqk4 ?zqk5 ?zqkA ?zqkF ?zqkK ?zqk6 ?zqk7 ?zqk8 ?zqk9 ?zqkB ?_ ?zqc2 ?zqc3 ?zqc4 ?zqc5; (case zqkA => exact rfl); (case zqkF => exact rfl); (case zqkK => exact rfl); (case zqk1 => k_asm); (case zqk2 => k_asm); (case zqk3 => k_asm); (case zqk4 => k_asm); (case zqk5 => k_asm); (case zqk6 => k_is); (case zqk7 => k_is); (case zqk8 => ktr_room); (case zqk9 => exact BindsTo.of_eq rfl); (case zqc5 => decide); (case zqkB => exact locs rfl); (case zqc2 => exact rfl); (case zqc3 => exact rfl); (case zqc4 => exact rfl); k_whole; intro g' L' h' FG' F' N' B' X' T'; (try dsimp only); (try k_lift B'); (try k_fold)))
  k_with "exec Raise some none" => (k_here; (with_reducible rename Fr _ _ _ _ => kF); k_dflt (refine' raise_bare ?zqhh excClass_ZeroDivisionError PySem.F.excCall_ZeroDivisionError ?zqhs ?zqhx ?_; (case zqhh => rfl); (case zqhs => (rw [isSubtype_type]; kernel_rfl)); (case zqhx => (refine' name_B kF ?zqk1 ?zqk2 ?zqk3 ?zqk4 ?zqk5 ?_; (case zqk1 => k_asm); (case zqk2 => k_asm); (case zqk3 => k_is); (case zqk4 => boot_by_name); (case zqk5 => decide); exact ⟨rfl, rfl⟩))); intro h' e' hx')
  intro w va ta p loose mean mg mb dp un gd cn cs a ccd cl A₀ base h₀ L m news s Q E B F XB TB X N T hk hdp hun ret
  refine wpAny_call ?_
  k_dflt (refine' call_try ?k1 ?k2 ?k3 ?k4 ?k5 ?kA ?kF ?kK ?k6 ?k7 ?k8 ?k9 ?kB ?_ ?c2 ?c3 ?c4 ?c5; (case kA => exact rfl); (case kF => exact rfl); (case kK => exact hk); (case k1 => k_asm); (case k2 => k_asm); (case k3 => exact X); (case k4 => k_asm); (case k5 => exact T); (case k6 => k_is); (case k7 => k_is); (case k8 => ktr_room); (case k9 => exact BindsTo.of_eq rfl); (case c5 => decide); (case kB => exact locs rfl); (case c2 => exact rfl); (case c3 => exact rfl); (case c4 => exact rfl); k_whole; intro g' L' h' FG' F' N' B' X' T' D'; (try dsimp only); (try k_lift B'); (try k_fold))
  k_steps
  have hs : (Str.empty == Str.ofString "") = true := by decide
  rw [hs]
  exact ret _ _ (by assumption) (by assumption)
set_option maxHeartbeats 4000000
/-- the law's end: it gave True, and the tables only grew -/
theorem good_true {cl : Str → Option Addr} {mean : ExcName → Option Value} {args : List WData} {s₁ s' : Shared} {L : Addr} {m : Str → Option Value} {news : Led} {a37 a30 : Array Value}
    (F : Fr s₁.heap L s'.heap m) (N : News s₁.heap L s'.heap news) (hg : s'.gens = #[]) (hos : s'.os = s₁.os) (h37 : (37, tabObj a37) ∈ news) (h30 : (30, tabObj a30) ∈ news) :
    GoodW PySem.Challenge.rw_wz0050_01.row.claim cl mean args s₁ (.ok (.ret (.bool true))) s' ∧ GrownAll [(41, 37), (34, 30)] s'.heap :=
  ⟨goodW_bool F hg (raisesW_false (by wrow_none_raised)) (postW_of (by wrow_shape) (by wtm_val) (by w_fin)) hos, GrownAt.of N h37, GrownAt.of N h30, True.intro⟩
set_option maxHeartbeats 1000000
theorem open_cellsT {h₀ h : Heap} {L : Addr} {base rest : Led} {a b c : Addr × Obj} {o37 o30 : Obj} {c8 c7 D3 : Addr} {o8 o7 : Obj} {v8 v7 : Option Value} {tl : Led} {ys : List Value} (hbase : base = a :: b :: c :: (c8, o8) :: (c7, o7) :: tl) (N : News h₀ L h ((D3, LCg.lst ys) :: (37, o37) :: (30, o30) :: rest)) (hb : ∀ p ∈ base, p ∈ rest) (h8 : o8.data = .cell v8) (h7 : o7.data = .cell v7)
    (o3 : LCg.Off1 D3 ((37, o37) :: (30, o30) :: rest)) (hoT : OffT rest) : ∃ rest2, ((37, o37) ∈ rest2 ∧ (30, o30) ∈ rest2) ∧ (∀ p ∈ rest2, p.1 ≠ c8) ∧ (∀ p ∈ rest2, p.1 ≠ c7) ∧ (∀ x R vs ep tu G rs, RunL rest x R vs ep tu G rs → RunL rest2 x R vs ep tu G rs) ∧ (@Ne Nat D3 c8 ∧ @Ne Nat D3 c7) ∧ News h₀ L h ((D3, LCg.lst ys) :: (37, o37) :: (30, o30) :: (base ++ rest2)) := by
  obtain ⟨r2, _, h1, h2, hR, hD, hN⟩ := open_cells hbase N hb h8 h7 o3
  have m8 : (c8, o8) ∈ rest := hb _ (by rw [hbase]; simp)
  have m7 : (c7, o7) ∈ rest := hb _ (by rw [hbase]; simp)
  have e8 := hoT.a _ m8
  have e8' := hoT.b _ m8
  have e7 := hoT.a _ m7
  have e7' := hoT.b _ m7
  refine ⟨(37, o37) :: (30, o30) :: r2, ⟨.head _, .tail _ (.head _)⟩, fun p hp => ?_, fun p hp => ?_, fun x R vs ep tu G rs H => (hR x R vs ep tu G rs H).mono fun p hp => .tail _ (.tail _ hp), hD, fun p hp => ?_⟩
  · simp only [List.mem_cons] at hp
    rcases hp with rfl | rfl | hp
    · exact fun z => e8 z.symm
    · exact fun z => e8' z.symm
    · exact h1 p hp
  · simp only [List.mem_cons] at hp
    rcases hp with rfl | rfl | hp
    · exact fun z => e7 z.symm
    · exact fun z => e7' z.symm
    · exact h2 p hp
  · rcases List.mem_cons.mp hp with rfl | hp
    · exact hN _ (.head _)
    · rcases List.mem_cons.mp hp with rfl | hp
      · exact hN _ (.tail _ (.head _))
      · rcases List.mem_cons.mp hp with rfl | hp
        · exact hN _ (.tail _ (.tail _ (.head _)))
        · rcases List.mem_append.mp hp with hp | hp
          · exact hN _ (.tail _ (.tail _ (.tail _ (List.mem_append_left _ hp))))
          · rcases List.mem_cons.mp hp with rfl | hp
            · exact hN _ (.tail _ (.head _))
            · rcases List.mem_cons.mp hp with rfl | hp
              · exact hN _ (.tail _ (.tail _ (.head _)))
              · exact hN _ (.tail _ (.tail _ (.tail _ (List.mem_append_right _ hp))))
set_option maxHeartbeats 8000000
noncomputable def Stop (p : Prop) : Prop := p
theorem Stop.mk {p : Prop} (h : Stop p) : p := h
set_option maxHeartbeats 40000000 in
theorem tryit : PySem.Challenge.rw_wz0050_01.Holds := hd (by
  k_with_none
  k_with "ne" => (first | (refine Nat.ne_of_lt ?_; k_extra "neL") | (refine Nat.ne_of_gt ?_; k_extra "neL") | with_reducible assumption | (refine Ne.symm ?_; with_reducible assumption) | k_extra "neA")
  k_with "neL" => (first | with_reducible assumption | with_reducible exact ltS0 _ | k_extra "neS" | ((fail_if_success with_reducible show _ < 37); (fail_if_success with_reducible show _ < 30); with_reducible refine ltS ?_; k_extra "neL"))
  k_with "neS" => (with_reducible rename (@LT.lt Nat _ _ _ ∧ _) => q; first | (refine ltRt q ?_; first | exact q.1 | exact q.2.1 | exact q.2.2.1 | exact q.2.2.2.1 | exact q.2.2.2.2.1 | exact q.2.2.2.2.2.1 | exact q.2.2.2.2.2.2.1 | exact q.2.2.2.2.2.2.2.1 | exact q.2.2.2.2.2.2.2.2.1 | exact q.2.2.2.2.2.2.2.2.2.1 | exact q.2.2.2.2.2.2.2.2.2.2.1 | exact q.2.2.2.2.2.2.2.2.2.2.2.1 | exact q.2.2.2.2.2.2.2.2.2.2.2.2.1 | exact q.2.2.2.2.2.2.2.2.2.2.2.2.2.1 | exact q.2.2.2.2.2.2.2.2.2.2.2.2.2.2.1 | exact q.2.2.2.2.2.2.2.2.2.2.2.2.2.2.2.1 | exact q.2.2.2.2.2.2.2.2.2.2.2.2.2.2.2.2.1 | exact q.2.2.2.2.2.2.2.2.2.2.2.2.2.2.2.2.2.1 | exact q.2 | exact q.2.2 | exact q.2.2.2 | exact q.2.2.2.2 | exact q.2.2.2.2.2 | exact q.2.2.2.2.2.2 | exact q.2.2.2.2.2.2.2 | exact q.2.2.2.2.2.2.2.2 | exact q.2.2.2.2.2.2.2.2.2 | exact q.2.2.2.2.2.2.2.2.2.2 | exact q.2.2.2.2.2.2.2.2.2.2.2 | exact q.2.2.2.2.2.2.2.2.2.2.2.2 | exact q.2.2.2.2.2.2.2.2.2.2.2.2.2 | exact q.2.2.2.2.2.2.2.2.2.2.2.2.2.2 | exact q.2.2.2.2.2.2.2.2.2.2.2.2.2.2.2 | exact q.2.2.2.2.2.2.2.2.2.2.2.2.2.2.2.2 | exact q.2.2.2.2.2.2.2.2.2.2.2.2.2.2.2.2.2) | (clear q; k_extra "neS"))
  k_with "neA" => (with_reducible rename (@Ne _ _ _ ∧ _) => q; first | (refine neLt q ?_; first | exact q.1.symm | exact q.2.1.symm | exact q.2.2.1.symm | exact q.2.2.2.1.symm | exact q.2.2.2.2.1.symm | exact q.2.2.2.2.2.1.symm | exact q.2.2.2.2.2.2.1.symm | exact q.2.2.2.2.2.2.2.1.symm | exact q.2.2.2.2.2.2.2.2.1.symm | exact q.2.2.2.2.2.2.2.2.2.1.symm | exact q.2.2.2.2.2.2.2.2.2.2.1.symm | exact q.2.2.2.2.2.2.2.2.2.2.2.1.symm | exact q.2.2.2.2.2.2.2.2.2.2.2.2.1.symm | exact q.2.2.2.2.2.2.2.2.2.2.2.2.2.1.symm | exact q.2.2.2.2.2.2.2.2.2.2.2.2.2.2.1.symm | exact q.2.2.2.2.2.2.2.2.2.2.2.2.2.2.2.1.symm | exact q.2.2.2.2.2.2.2.2.2.2.2.2.2.2.2.2.1.symm | exact q.2.2.2.2.2.2.2.2.2.2.2.2.2.2.2.2.2.1.symm | exact q.2.symm | exact q.2.2.symm | exact q.2.2.2.symm | exact q.2.2.2.2.symm | exact q.2.2.2.2.2.symm | exact q.2.2.2.2.2.2.symm | exact q.2.2.2.2.2.2.2.symm | exact q.2.2.2.2.2.2.2.2.symm | exact q.2.2.2.2.2.2.2.2.2.symm | exact q.2.2.2.2.2.2.2.2.2.2.symm | exact q.2.2.2.2.2.2.2.2.2.2.2.symm | exact q.2.2.2.2.2.2.2.2.2.2.2.2.symm | exact q.2.2.2.2.2.2.2.2.2.2.2.2.2.symm | exact q.2.2.2.2.2.2.2.2.2.2.2.2.2.2.symm | exact q.2.2.2.2.2.2.2.2.2.2.2.2.2.2.2.symm | exact q.2.2.2.2.2.2.2.2.2.2.2.2.2.2.2.2.symm | exact q.2.2.2.2.2.2.2.2.2.2.2.2.2.2.2.2.2.symm) | (refine neRt q ?_; first | exact q.1 | exact q.2.1 | exact q.2.2.1 | exact q.2.2.2.1 | exact q.2.2.2.2.1 | exact q.2.2.2.2.2.1 | exact q.2.2.2.2.2.2.1 | exact q.2.2.2.2.2.2.2.1 | exact q.2.2.2.2.2.2.2.2.1 | exact q.2.2.2.2.2.2.2.2.2.1 | exact q.2.2.2.2.2.2.2.2.2.2.1 | exact q.2.2.2.2.2.2.2.2.2.2.2.1 | exact q.2.2.2.2.2.2.2.2.2.2.2.2.1 | exact q.2.2.2.2.2.2.2.2.2.2.2.2.2.1 | exact q.2.2.2.2.2.2.2.2.2.2.2.2.2.2.1 | exact q.2.2.2.2.2.2.2.2.2.2.2.2.2.2.2.1 | exact q.2.2.2.2.2.2.2.2.2.2.2.2.2.2.2.2.1 | exact q.2.2.2.2.2.2.2.2.2.2.2.2.2.2.2.2.2.1 | exact q.2 | exact q.2.2 | exact q.2.2.2 | exact q.2.2.2.2 | exact q.2.2.2.2.2 | exact q.2.2.2.2.2.2 | exact q.2.2.2.2.2.2.2 | exact q.2.2.2.2.2.2.2.2 | exact q.2.2.2.2.2.2.2.2.2 | exact q.2.2.2.2.2.2.2.2.2.2 | exact q.2.2.2.2.2.2.2.2.2.2.2 | exact q.2.2.2.2.2.2.2.2.2.2.2.2 | exact q.2.2.2.2.2.2.2.2.2.2.2.2.2 | exact q.2.2.2.2.2.2.2.2.2.2.2.2.2.2 | exact q.2.2.2.2.2.2.2.2.2.2.2.2.2.2.2 | exact q.2.2.2.2.2.2.2.2.2.2.2.2.2.2.2.2 | exact q.2.2.2.2.2.2.2.2.2.2.2.2.2.2.2.2.2) | (clear q; k_extra "neA"))
  k_with "subs" => (first | exact sub_nil | exact sub_self | (refine sub_cons (by k_mem) ?_; k_extra "subs") | (refine sub_skip ?_; k_extra "subs"))
  k_with "call type:enumerate" => (k_here; k_dflt (refine' enumL (vs := [_, _, _, _]) ?zqF ?zqN ?zql ?_; (case zqF => k_asm); (case zqN => k_asm); (case zql => k_mem); k_whole); intro e' it' oi' h' F' N' l1 l2 l3; have lE : ∀ p : Addr × Obj, p ∈ (_ : Led) → p.1 < _ := l1; (try k_lt l1))
  k_with "exec Assign cons ListComp" => (k_here; first | k_dflt (refine wpAny_Assign_Name ?_ (by with_unfolding_all rfl)) | (with_reducible show wpAny _ _ (exec (Stmt.Assign [Expr.Name _ _] _ _) _) _ _ _; with_reducible refine Stop.mk ?_))
  k_with "subscriptTail Name Slice ref ref" => (k_here; k_dflt (refine' slice_cell ?zqF ?zqN ?zql ?zqi ?zqh4 ?_ ?zqs ?zqt ?zqz; (case zqF => k_asm); (case zqN => k_asm); (case zql => is_list); (case zqi => assumption); (case zqh4 => assumption); (case zqs => with_unfolding_all rfl); (case zqt => kmk_pure); (case zqz => size_fits)); intro D' h' ws' ms' F' N' l1 hI' hC'; (try k_lt l1))
  k_with "call builtin:sum" => (k_here; k_dflt (refine' sum_ints ?zqF ?zqN rfl ?zqhl ?zqhi ?_; (case zqF => k_asm); (case zqN => k_asm); (case zqhl => exact listAt (by k_asm) (by k_mem)); (case zqhi => assumption); k_whole); intro h' tk' t' F' N')
  k_with "subscriptTail Name Constant ref int" => (k_here; k_dflt (refine' atL (vs := [_, _, _, _]) ?zqN ?zqa ?zqh1 ?zqh2 ?zqhx ?_; (case zqN => k_asm); (case zqa => k_mem); (case zqh1 => decide); (case zqh2 => decide); (case zqhx => rfl); k_whole))
  k_with "call ref" => (k_here; (first | with_reducible show wpAny _ _ (call (Value.ref 75) _) _ _ _ | with_reducible show wpAny _ _ (call (Value.ref 82) _) _ _ _ | with_reducible show wpAny _ _ (call (Value.ref 87) _) _ _ _ | with_reducible show wpAny _ _ (call (Value.ref 94) _) _ _ _ | with_reducible show wpAny _ _ (call (Value.ref 68) _) _ _ _); with_reducible refine Stop.mk ?_)
  k_with "binaryOp Mult int int" => (k_here; k_dflt (refine' mulB ?zqa ?zqb ?_; (case zqa => exact ⟨by omega, by omega⟩); (case zqb => exact ⟨by omega, by omega⟩)); intro t' tk')
  k_with "binaryOp Add ref ref" => (k_here; k_dflt first | ((with_reducible refine' catL ?zqF ?zqN ?zqa ?zqb ?zqhl ?zqhw ?_); (case zqF => k_asm); (case zqN => k_asm); (case zqa => k_mem); (case zqb => k_mem); (case zqhl => first | exact trues_len (by omega) | (simp only [List.length_append, List.length_cons, List.length_nil, trues, List.length_replicate]; omega)); (case zqhw => first | exact trues_len (by omega) | (simp only [List.length_append, List.length_cons, List.length_nil, trues, List.length_replicate]; omega)); k_whole) | ((with_reducible refine' catT ?zqF ?zqN ?zqa ?zqb ?zqhv ?zqhw ?zqhz ?_); (case zqF => k_asm); (case zqN => k_asm); (case zqa => k_mem); (case zqb => k_mem); (case zqhv => exact List.cons_ne_nil _ _); (case zqhw => exact List.cons_ne_nil _ _); (case zqhz => exact Nat.le_of_ble_eq_true rfl); k_whole); intro D' h' F' N' l1; (try simp only [List.cons_append, List.nil_append, trues_add] at N'); (try k_lt l1))
  k_with "call builtin:len" => (k_here; k_dflt (refine' lenL ?zqN ?zqm ?zqc ?zqd ?zqf ?_; (case zqN => k_asm); (case zqm => k_mem); (case zqc => rfl); (case zqd => rfl); (case zqf => omega); k_whole); intro t' tk')
  k_with "exec Raise some none" => (k_here; (with_reducible rename Fr _ _ _ _ => kF); k_dflt (refine' Raise_classB ?zqhh excClass_ZeroDivisionError ?zqhs ?zqhx ?_; (case zqhh => rfl); (case zqhs => (rw [isSubtype_type]; kernel_rfl)); (case zqhx => (refine' name_B kF ?zqk1 ?zqk2 ?zqk3 ?zqk4 ?zqk5 ?_; (case zqk1 => k_asm); (case zqk2 => k_asm); (case zqk3 => k_is); (case zqk4 => boot_by_name); (case zqk5 => decide); exact ⟨rfl, rfl⟩))); intro h' e' hx')
  k_with "eval ListComp" => (k_here; with_reducible refine Stop.mk ?_)
  k_go0
  refine opaq ?_
  intro Qe Ee hQe
  (with_reducible rename Fr _ _ _ _ => F0)
  refine frOpaque F0 ?_
  clear F0
  intro m0 F0
  k_steps
  unfold Stop
  k_dflt (refine' LCE_eval ?F ?k1 ?k2 ?k3 ?k4 ?kx ?ky ?kz ?_ ?k6)
  k_dflt (case F => k_asm)
  k_dflt (case k1 => with_unfolding_all rfl)
  k_dflt (case k2 => decide)
  k_dflt (case k3 => rfl)
  k_dflt (case k4 => decide)
  k_dflt (case kx => rfl)
  k_dflt (case ky => rfl)
  k_dflt (case kz => decide)
  k_dflt (case k6 => intro _; rfl)
  k_steps
  have lE := (‹∀ p : Addr × Obj, p ∈ (_ : Led) → p.1 < _›)
  k_dflt (refine' enum_cells rfl ?F ?N ?hio lE ?hei ?hb ?turn ?done ?mono)
  k_dflt (case F => k_asm)
  k_dflt (case N => k_asm)
  case hio => assumption
  case hei => assumption
  case hb => decide
  k_dflt (case mono => exact fun ys f D h tk F' N' o1 => f D h tk F' (News.sub N' (sub_cons (.head _) (sub_skip (sub_skip sub_self)))) (off1_of fun p hp => off1_mem o1 p (.tail _ hp)))
  k_dflt (case turn =>
    rintro i t f tf ys oe oi oC C D m₂ h tk E' hi hf j hx hy hC F' N' off
    k_steps
    unfold Stop
    k_dflt (refine' LC_evalF ?F ?k1 ?k2 ?k3 ?k4 ?_ ?k6)
    k_dflt (case F => k_asm)
    k_dflt (case k1 => with_unfolding_all rfl)
    k_dflt (case k2 => decide)
    k_dflt (case k3 => rfl)
    k_dflt (case k4 => decide)
    k_dflt (case k6 => intro _; rfl)
    k_steps
    k_dflt (refine' comp_intsE (fun c => 0 ≤ c ∧ c < 1000000) rfl rfl rfl ?F3 ?N3 ?hl3 ?hi3 ?hv3 ?turn3 ?done3)
    k_dflt (case F3 => k_asm)
    k_dflt (case N3 => k_asm)
    k_dflt (case hl3 => k_mem)
    k_dflt (case hi3 => assumption)
    k_dflt (case hv3 => rw [IntsAre.length (by assumption)]; omega)
    k_dflt (case turn3 =>
      rintro k a ta ys' I oI oC3 C3 D3 m₃ h tk E' hk hx3 hC3 F' N' off3 ne3 j3
      k_steps
      k_dflt (refine' EltE.go ?F4 ?N4 off3 (j3.next hk (fmod_million _)))
      k_dflt (case F4 => k_asm)
      k_dflt (case N4 => k_asm))
    k_dflt (case done3 =>
      rintro g ys' cs hcs hlen hall D3 h tk F' N' o1
      replace N' : News _ _ h ((D3, listOf ys'.toArray ys'.length) :: _) := N'
      have hsum := sum_small hall
      have h15 : cs.length ≤ 15 := by omega
      k_steps
      k_dflt (refine' EnE.go ?F5 ?N5 off (j.next hi ⟨by omega, by omega⟩))
      k_dflt (case F5 => k_asm)
      k_dflt (case N5 => exact News.sub (by k_asm) (by k_extra "subs")))
    )
  k_dflt (case done =>
    rintro c0 c1 c2 c3 t0 t1 t2 t3 hc0 hc1 hc2 hc3 D h tk F' N' o1
    replace N' : News _ _ h ((D, listOf #[.int c0 t0, .int c1 t1, .int c2 t2, .int c3 t3] 4) :: _) := N'
    simp only [LCg.Off1, and_true] at o1
    show wpAny _ _ _ _ _ _
    k_steps
    have hub := up_bound c0
    have hlb := low_bound c1
    have hmb := mea_bound c2
    generalize c0.fmod 4001 - 2000 = u at *
    generalize 1 + c1.fmod 169 = l at *
    generalize 1 + c2.fmod 1000000 = ms at *
    unfold Stop
    k_dflt (refine' LC_evalF ?F6 ?j1 ?j2 ?j3 ?j4 ?_ ?j6)
    k_dflt (case F6 => k_asm)
    k_dflt (case j1 => with_unfolding_all rfl)
    k_dflt (case j2 => decide)
    k_dflt (case j3 => rfl)
    k_dflt (case j4 => decide)
    k_dflt (case j6 => intro _; rfl)
    k_steps
    k_dflt (refine' comp_rangeI (n := l.toNat) (divs u l) rfl rfl rfl rfl ?F7 ?N7 ?hr7 ?hs7 ?hn7 ?hl7 ?turn7 ?done7)
    k_dflt (case F7 => k_asm)
    k_dflt (case N7 => k_asm)
    k_dflt (case hr7 => assumption)
    k_dflt (case hs7 => exact small_one (by omega) (by omega) (by omega) (by omega))
    k_dflt (case hn7 => exact (rangeSize_nat _ _).trans (by omega))
    case hl7 => exact fun k hk => Nat.le_trans (divs_len u l k) (by omega)
    k_dflt (case turn7 =>
      rintro k ta ys I oI oC C D m₂ h tk E' hk hx hC F' N' off ne j
      refine wpAny_tests_one ?_
      k_steps
      all_goals first
        | (k_dflt (refine' EltE.go ?F8 ?N8 off ⟨rfl, hk, ?J8⟩)
           k_dflt (case F8 => k_asm)
           k_dflt (case N8 => k_asm)
           case J8 => rw [divs_yes (fmod0 (by omega) (by assumption)) (fmod0 (by omega) (by assumption))]; exact ints_app j)
        | (k_dflt (refine' SkipE.go ?F9 ?N9 off ⟨rfl, hk, ?J9⟩)
           k_dflt (case F9 => k_asm)
           k_dflt (case N9 => k_asm)
           case J9 =>
             rw [divs_no (by first | exact fun h => fmodN (by omega) (by assumption) h.2 | exact fun h => fmodN (by omega) (by assumption) h.1)]
             exact j)
      )
    k_dflt (case done7 =>
      rintro g ys hys D9 h tk F' N' o2
      simp only [LCg.Off1, and_true] at o2
      replace N' : News _ _ h ((D9, listOf ys.toArray ys.length) :: _) := N'
      show wpAny _ _ _ _ _ _
      k_steps
      k_dflt (refine' max_list_N rfl ?Fa ?Na ?hla hys (divs_pos hlb.1) ?_)
      k_dflt (case Fa => k_asm)
      k_dflt (case Na => k_asm)
      k_dflt (case hla => exact listAt (by k_asm) (by k_mem))
      intro h' g1 tg tkg F' N' hg1 hg2
      k_steps
      unfold Stop
      k_dflt (refine' LC_assignF ?Fb ?y0 ?y5 ?y1 ?y2 ?y3 ?y4 ?y7 ?y8 ?_ ?y6)
      k_dflt (case Fb => k_asm)
      k_dflt (case y0 => rfl)
      k_dflt (case y5 => with_unfolding_all rfl)
      k_dflt (case y1 => with_unfolding_all rfl)
      k_dflt (case y2 => decide)
      k_dflt (case y3 => rfl)
      k_dflt (case y4 => decide)
      k_dflt (case y7 => rfl)
      k_dflt (case y8 => rfl)
      k_dflt (case y6 => intro _; rfl)
      k_steps
      k_dflt (refine' comp_runs' (u * ms) (l * ms) c3 rfl rfl rfl ?Fc ?Nc ?zc37 ?zc30 ?zcr ?zcoT ?zcturn ?zcdone)
      k_dflt (case Fc => k_asm)
      k_dflt (case Nc => k_asm)
      k_dflt (case zc37 => k_mem)
      k_dflt (case zc30 => k_mem)
      k_dflt (case zcr => assumption)
      case zcoT =>
        simp only [List.dropLast]
        repeat (refine OffT.ne ?_ (by first | (refine neN ?_; k_extra "ne") | omega) (by first | (refine neN ?_; k_extra "ne") | omega))
        exact OffT.nil
      k_dflt (case zcturn =>
        rintro base hbase k ta ys' I oI oC C D2 m₂ h tk E' b37 b30 rest hk hx hC F' N' off ne hoI hyl t37 t30 hoT hb hruns
        simp only [List.dropLast] at hbase
        have N2 := expand3 N' hb
        rw [hbase] at N2
        simp only [List.cons_append, List.nil_append] at N2
        k_steps
        unfold Stop
        have hUm := mul_up hub hmb
        have hLm := mul_low hlb hmb
        k_dflt (refine' DoesG.use (news := (I, oI) :: (C, oC) :: (D2, LCg.lst ys') :: rest) (a37 := b37) (a30 := b30) (c75 _ D2 (u * ms) (l * ms) (0 + (k : Int)) c3 _ _ _ _ hUm.1 hUm.2 hLm.1 hLm.2 hc3.1 hc3.2) ?vB ?vF ?vX ?vN ?vsub ?vT ?vk ?v37 ?v30 ?voff ⟨_, .tail _ (.tail _ (.head _))⟩ ?vdp ?vun ?_)
        k_dflt (case vB => k_asm)
        k_dflt (case vF => k_asm)
        k_dflt (case vX => k_asm)
        k_dflt (case vN => exact N')
        case vsub => exact sub5
        k_dflt (case vT => k_asm)
        k_dflt (case vk => rfl)
        case v37 => exact t37.cons.cons.cons
        case v30 => exact t30.cons.cons.cons
        case voff => exact ((hoT.ne (Ne.symm off.1.2.2) (Ne.symm off.2.1.2.2)).ne (Ne.symm off.1.2.1) (Ne.symm off.2.1.2.1)).ne (Ne.symm off.1.1) (Ne.symm off.2.1.1)
        k_dflt (case vdp => decide)
        k_dflt (case vun => decide)
        rintro r r2 d37 d30 h3 tk3 F3 N3 gr u37 u30 uoff hr
        rw [Int.zero_add] at hr
        obtain ⟨j4, off4, N4⟩ := JR.next hyl hk hb hruns N3 gr off hC hoI u37 u30 uoff hr
        exact EltE.go F3 N4 off4 j4
        )
      k_dflt (case zcdone =>
        rintro base hbase g ys3 b37 b30 rest hyl t37 t30 hoT hb hruns D3 h tk F' N' o3
        simp only [List.dropLast] at hbase
        obtain ⟨rs0, rs1, rs2, PL⟩ := plain hub hlb hmb hc3 hg1 hg2
        obtain ⟨v0, v1, v2, rfl⟩ := three hyl
        obtain ⟨x0, R0, vs0, ep0, tu0, rfl, H0⟩ := (hruns 0 _ rfl).open PL.r0
        obtain ⟨x1, R1, vs1, ep1, tu1, rfl, H1⟩ := (hruns 1 _ rfl).open PL.r1
        obtain ⟨x2, R2, vs2, ep2, tu2, rfl, H2⟩ := (hruns 2 _ rfl).open PL.r2
        obtain ⟨rest2, ht2, hn8, hn7, hdrop, hD3, N5⟩ := open_cellsT hbase N' hb (by assumption) (by assumption) o3 hoT
        replace H0 := hdrop _ _ _ _ _ _ _ H0
        replace H1 := hdrop _ _ _ _ _ _ _ H1
        replace H2 := hdrop _ _ _ _ _ _ _ H2
        obtain ⟨hD8, hD7⟩ := hD3
        clear N' hruns hdrop hb t37 t30 hoT hyl o3
        rw [hbase] at N5
        clear hbase
        simp only [List.cons_append, List.nil_append] at N5
        replace N5 : News _ _ h ((D3, listOf #[.ref x0, .ref x1, .ref x2] 3) :: _) := N5
        have hgb : 1 ≤ g1 ∧ g1 ≤ 169 := by have q := divs_mem.mp hg1; omega
        show wpAny _ _ _ _ _ _
        k_steps
        unfold Stop
        k_dflt (refine' LC_evalF ?Fe ?z1 ?z2 ?z3 ?z4 ?_ ?z6)
        k_dflt (case Fe => k_asm)
        k_dflt (case z1 => with_unfolding_all rfl)
        k_dflt (case z2 => decide)
        k_dflt (case z3 => rfl)
        k_dflt (case z4 => decide)
        k_dflt (case z6 => intro _; rfl)
        k_steps
        k_dflt (refine' comp_runsV (g1 * ms) (rowsTo R0 R1 R2) rfl (fun k R _ => [R0, R1, R2][k]? = some R) rfl rfl rfl rfl (by decide) ?Ff ?Nf (.head _) (hR3 (H0.mono ?zs0) (H1.mono ?zs1) (H2.mono ?zs2) rfl rfl rfl) (fun k _ => rowsTo_len _ _ _ k) ?fturn ?fdone)
        k_dflt (case Ff => k_asm)
        k_dflt (case Nf => k_asm)
        case zs0 => (repeat refine sub_skip ?_); exact sub_self
        case zs1 => (repeat refine sub_skip ?_); exact sub_self
        case zs2 => (repeat refine sub_skip ?_); exact sub_self
        k_dflt (case fturn =>
          rintro k X R vs ep tu rs I oI oC C D4 m₂ h tk E' hk H hg hx hy hC F' N' off ne
          k_steps
          k_dflt (refine' EltE.go ?Fg ?Ng off ⟨rfl, hk, (rowsTo_next hg).symm⟩)
          k_dflt (case Fg => k_asm)
          k_dflt (case Ng => k_asm)
          )
        k_dflt (case fdone =>
          rintro g D4 h tk F' N' o4
          replace N' : News _ _ h ((D4, listOf #[.ref R0, .ref R1, .ref R2] 3) :: _) := N'
          simp only [LCg.Off1] at o4
          show wpAny _ _ _ _ _ _
          k_steps
          unfold Stop
          with_reducible rename News _ _ _ _ => N7
          replace N7 := News.sub N7 keep8
          k_dflt (refine' LC_assignF ?Fh ?r0 ?r5 ?r1 ?r2 ?r3 ?r4 ?r7 ?r8 ?_ ?r6)
          k_dflt (case Fh => k_asm)
          k_dflt (case r0 => rfl)
          k_dflt (case r5 => with_unfolding_all rfl)
          k_dflt (case r1 => with_unfolding_all rfl)
          k_dflt (case r2 => decide)
          k_dflt (case r3 => rfl)
          k_dflt (case r4 => decide)
          k_dflt (case r7 => rfl)
          k_dflt (case r8 => rfl)
          k_dflt (case r6 => intro _; rfl)
          k_steps
          k_dflt (refine' comp_runsV (g1 * ms) trues rfl (fun _ _ rs => Mine.back (g1 * ms) rs = (u * ms, l * ms) ∧ BackOk (g1 * ms) rs) rfl rfl rfl rfl (by decide) ?Fi ?Ni ?li (hR3 (H0.mono ?qs0) (H1.mono ?qs1) (H2.mono ?qs2) (PL.back _ (.head _)) (PL.back _ (.tail _ (.head _))) (PL.back _ (.tail _ (.tail _ (.head _))))) (fun k hk => trues_len (by omega)) ?iturn ?idone)
          k_dflt (case Fi => k_asm)
          k_dflt (case Ni => k_asm)
          case li => exact .tail _ (.head _)
          case qs0 => (repeat refine sub_skip ?_); exact sub_self
          case qs1 => (repeat refine sub_skip ?_); exact sub_self
          case qs2 => (repeat refine sub_skip ?_); exact sub_self
          k_dflt (case iturn =>
            rintro k X R vs ep tu rs I oI oC C D5 m₂ h tk E' hk H ⟨hbk, hbo⟩ hx hy hC F' N' off ne
            k_steps
            unfold Stop
            k_dflt (refine' DoesP.use (c82 _ R vs ep rs (g1 * ms) _ H.n hbo) ?uB ?uF ?uX ?uN ?uT ?uk ?upre ?udp ?uun ?_)
            k_dflt (case uB => k_asm)
            k_dflt (case uF => k_asm)
            k_dflt (case uX => k_asm)
            k_dflt (case uN => k_asm)
            k_dflt (case uT => k_asm)
            k_dflt (case uk => rfl)
            case upre => exact ⟨.tail _ (.tail _ (.tail _ (.tail _ H.l))), H.r.mono fun p hp => .tail _ (.tail _ (.tail _ (.tail _ hp)))⟩
            k_dflt (case udp => decide)
            k_dflt (case uun => decide)
            rintro r tl h3 tk3 F3 N3 ob ⟨xb, tb1, tb2, rfl, hm⟩
            rw [hbk] at hm
            replace hm : (xb, tupO [.int (u * ms) tb1, .int (l * ms) tb2]) ∈ tl := hm
            have N4 := News.sub N3 (sub_cons (List.mem_append_left _ hm) fun p hp => List.mem_append_right _ hp)
            clear N3
            show wpAny _ _ _ _ _ _
            k_steps
            k_dflt (refine' EltE.go ?Fj ?Nj off ⟨rfl, hk, ?Jj⟩)
            k_dflt (case Fj => k_asm)
            k_dflt (case Nj => exact News.sub (by k_asm) (sub_skip (sub_skip (sub_skip sub_self))))
            case Jj => exact trues_next k
            )
          k_dflt (case idone =>
            rintro g D5 h tk F' N' o5
            replace N' : News _ _ h ((D5, listOf (trues 3).toArray 3) :: _) := N'
            simp only [LCg.Off1] at o5
            have hl0 : rs0.length ≤ 64 := by rw [← H0.r.length]; exact H0.n
            have hl1 : rs1.length ≤ 64 := by rw [← H1.r.length]; exact H1.n
            have hl2 : rs2.length ≤ 64 := by rw [← H2.r.length]; exact H2.n
            have hcnt := cntTo_le 3 hl0 hl1 hl2
            show wpAny _ _ _ _ _ _
            k_steps
            unfold Stop
            k_dflt (refine' LC2_evalF ?Fk ?s0 ?s1 ?s2 ?s3 ?s4 ?_ ?s6)
            k_dflt (case Fk => k_asm)
            k_dflt (case s0 => intro _ _; rfl)
            k_dflt (case s1 => with_unfolding_all rfl)
            k_dflt (case s2 => decide)
            k_dflt (case s3 => rfl)
            k_dflt (case s4 => decide)
            k_dflt (case s6 => intro _; rfl)
            k_steps
            k_dflt (refine' out_runsV (g1 * ms) rs0.length rs1.length rs2.length rfl rfl rfl rfl (by decide) ?Fl ?Nl ?ll (hR3 (Good := fun k _ rs => [rs0.length, rs1.length, rs2.length][k]? = some rs.length) (H0.mono ?ps0) (H1.mono ?ps1) (H2.mono ?ps2) rfl rfl rfl) ?lturn ?ldone)
            k_dflt (case Fl => k_asm)
            k_dflt (case Nl => k_asm)
            case ll => exact .tail _ (.tail _ (.head _))
            case ps0 => (repeat refine sub_skip ?_); exact sub_self
            case ps1 => (repeat refine sub_skip ?_); exact sub_self
            case ps2 => (repeat refine sub_skip ?_); exact sub_self
            k_dflt (case lturn =>
              rintro k X R vs ep tu rs I oI oC C D6 m₂ h tk E' hk H hg hx hC F' N' off ne
              k_steps
              k_dflt (refine' in_rowsV rfl rfl rfl rfl rfl rfl (by decide) H hk hg (cntTo_le k hl0 hl1 hl2) ?Fm ?Nm off ne hC ?mturn rfl)
              k_dflt (case Fm => k_asm)
              k_dflt (case Nm => k_asm)
              k_dflt (case mturn =>
                rintro I3 oI3 oC3 C3 D7 m₃ ys h tk E' hx3 hC3 F' N'
                k_steps
                all_goals exact ⟨rfl, _, rfl⟩)
              )
            k_dflt (case ldone =>
              rintro g D6 h tk F' N' o6
              replace N' : News _ _ h ((D6, listOf (trues (cntTo rs0.length rs1.length rs2.length 3)).toArray (trues (cntTo rs0.length rs1.length rs2.length 3)).length) :: _) := N'
              generalize cntTo rs0.length rs1.length rs2.length 3 = cn at *
              simp only [LCg.Off1] at o6
              have N8 := News.sub N' (sub_cons (by repeat (first | exact H0.l | apply List.Mem.tail)) (sub_cons (by repeat (first | exact H1.l | apply List.Mem.tail)) (sub_cons (by repeat (first | exact H2.l | apply List.Mem.tail)) sub_self)))
              clear N'
              have hv0 := H0.r.length
              have hv1 := H1.r.length
              have hv2 := H2.r.length
              obtain ⟨n, hn11, hn1, hyes, hno⟩ := PL.few
              have hfit := fib_fits hgb.1 PL.lame.2.2
              have hla := PL.lame.2.2
              have hlb0 := PL.lame.1
              show wpAny _ _ _ _ _ _
              k_steps
              unfold Stop
              k_dflt (refine' Does.use (c87 _ u l _ _ n hn11 (by omega) hyes hno) ?aB ?aF ?aX ?aN ?aT ?ak ?adp ?aun ?_)
              k_dflt (case aB => k_asm)
              k_dflt (case aF => k_asm)
              k_dflt (case aX => k_asm)
              k_dflt (case aN => k_asm)
              k_dflt (case aT => k_asm)
              k_dflt (case ak => rfl)
              k_dflt (case adp => decide)
              k_dflt (case aun => decide)
              rintro r tl h3 tk3 F3 N3 ob ⟨t3, rfl⟩
              have N4 := News.sub N3 (fun p hp => List.mem_append_right tl hp)
              clear N3
              show wpAny _ _ _ _ _ _
              k_steps
              unfold Stop
              k_dflt (refine' Does.use (c94 _ (vs0.length : Int) _ (by omega) (by omega)) ?bB ?bF ?bX ?bN ?bT ?bk ?bdp ?bun ?_)
              k_dflt (case bB => k_asm)
              k_dflt (case bF => k_asm)
              k_dflt (case bX => k_asm)
              k_dflt (case bN => k_asm)
              k_dflt (case bT => k_asm)
              k_dflt (case bk => rfl)
              k_dflt (case bdp => decide)
              k_dflt (case bun => decide)
              rintro r tl h3 tk3 F3 N3 ob ⟨t3, rfl⟩
              have N4 := News.sub N3 (fun p hp => List.mem_append_right tl hp)
              clear N3
              rw [show (vs0.length : Int).toNat - 1 = rs0.length - 1 from by omega]
              generalize fib (rs0.length - 1) = fb at *
              show wpAny _ _ _ _ _ _
              k_steps
              unfold Stop
              with_reducible rename News _ _ _ _ => N9
              rw [show ((vs1.length : Int) == (n : Int) + 1) = true from beq_of (by omega), show decide (g1 * fb ≤ l) = true from decide_eq_true hla, trues_all] at N9
              replace N9 := News.sub N9 keepR
              k_dflt (refine' LC_evalF ?Fo ?t1 ?t2 ?t3 ?t4 ?_ ?t6)
              k_dflt (case Fo => k_asm)
              k_dflt (case t1 => with_unfolding_all rfl)
              k_dflt (case t2 => decide)
              k_dflt (case t3 => rfl)
              k_dflt (case t4 => decide)
              k_dflt (case t6 => intro _; rfl)
              k_steps
              k_dflt (refine' comp_two rfl rfl rfl ?Fp ?Np ?lp ?pturn ?pdone)
              k_dflt (case Fp => k_asm)
              k_dflt (case Np => k_asm)
              k_dflt (case lp => exact .head _)
              k_dflt (case pturn =>
                rintro k v I oI oC C D7 m₂ h tk E' hv hk hx hC F' N' off ne
                match k, hv with
                | 0, hv =>
                  obtain rfl := (Option.some.inj hv).symm
                  k_steps
                  unfold Stop
                  k_dflt (refine' LC_evalF ?Fq0 ?m10 ?m20 ?m30 ?m40 ?_ ?m60)
                  k_dflt (case Fq0 => k_asm)
                  k_dflt (case m10 => with_unfolding_all rfl)
                  k_dflt (case m20 => decide)
                  k_dflt (case m30 => rfl)
                  k_dflt (case m40 => decide)
                  k_dflt (case m60 => intro _; rfl)
                  k_steps
                  k_dflt (refine' comp_gains rfl rfl rfl rfl rfl rfl (by decide) ?Fr0 ?Nr0 ?lr0 (H1.r.mono ?sr0) H1.n ?rturn0 ?rdone0)
                  k_dflt (case Fr0 => k_asm)
                  k_dflt (case Nr0 => k_asm)
                  k_dflt (case lr0 => k_mem)
                  case sr0 => (repeat refine sub_skip ?_); exact sub_self
                  k_dflt (case rturn0 =>
                    rintro a ta I3 oI3 oC3 C3 D4 m₃ ys h tk E' hx3 hC3 F' N'
                    k_steps
                    all_goals exact ⟨rfl, _, rfl⟩)
                  k_dflt (case rdone0 =>
                    rintro g ys hys D10 h tk F' N' o10
                    replace N' : News _ _ h ((D10, listOf ys.toArray ys.length) :: _) := N'
                    have hgs := PL.g1
                    rw [← hv0, ← hv1] at hgs
                    show wpAny _ _ _ _ _ _
                    k_steps
                    k_dflt (refine' EltE.go ?Fs0 ?Ns0 off ⟨rfl, hk, ?Js0⟩)
                    k_dflt (case Fs0 => k_asm)
                    k_dflt (case Ns0 => exact News.sub (by k_asm) (sub_skip sub_self))
                    case Js0 =>
                      rw [← trues_next]
                      refine congrArg (fun b => trues 0 ++ [Value.bool b]) ?_
                      first | rfl | exact beq_of hgs | (simp; omega))
                | 1, hv =>
                  obtain rfl := (Option.some.inj hv).symm
                  k_steps
                  unfold Stop
                  k_dflt (refine' LC_evalF ?Fq1 ?m11 ?m21 ?m31 ?m41 ?_ ?m61)
                  k_dflt (case Fq1 => k_asm)
                  k_dflt (case m11 => with_unfolding_all rfl)
                  k_dflt (case m21 => decide)
                  k_dflt (case m31 => rfl)
                  k_dflt (case m41 => decide)
                  k_dflt (case m61 => intro _; rfl)
                  k_steps
                  k_dflt (refine' comp_gains rfl rfl rfl rfl rfl rfl (by decide) ?Fr1 ?Nr1 ?lr1 (H2.r.mono ?sr1) H2.n ?rturn1 ?rdone1)
                  k_dflt (case Fr1 => k_asm)
                  k_dflt (case Nr1 => k_asm)
                  k_dflt (case lr1 => k_mem)
                  case sr1 => (repeat refine sub_skip ?_); exact sub_self
                  k_dflt (case rturn1 =>
                    rintro a ta I3 oI3 oC3 C3 D4 m₃ ys h tk E' hx3 hC3 F' N'
                    k_steps
                    all_goals exact ⟨rfl, _, rfl⟩)
                  k_dflt (case rdone1 =>
                    rintro g ys hys D10 h tk F' N' o10
                    replace N' : News _ _ h ((D10, listOf ys.toArray ys.length) :: _) := N'
                    have hgs := PL.g2
                    rw [← hv0, ← hv2] at hgs
                    show wpAny _ _ _ _ _ _
                    k_steps
                    k_dflt (refine' EltE.go ?Fs1 ?Ns1 off ⟨rfl, hk, ?Js1⟩)
                    k_dflt (case Fs1 => k_asm)
                    k_dflt (case Ns1 => exact News.sub (by k_asm) (sub_skip sub_self))
                    case Js1 =>
                      rw [← trues_next]
                      refine congrArg (fun b => trues 1 ++ [Value.bool b]) ?_
                      first | rfl | exact beq_of hgs | (simp; omega))
                )
              k_dflt (case pdone =>
                rintro g D8 h tk F' N' o8
                replace N' : News _ _ h ((D8, listOf (trues 2).toArray 2) :: _) := N'
                simp only [LCg.Off1] at o8
                show wpAny _ _ _ _ _ _
                k_steps
                k_dflt (refine' notIn_trues ?Nv (trues_add _ _) ?_)
                k_dflt (case Nv => exact listAt (by k_asm) (.head _))
                k_steps
                unfold Stop
                k_dflt (refine' c68 _ _ _ _ _ _ _ _ _ _ _ _ _ _ _ _ _ _ _ _ _ _ _ _ _ ?dB ?dF ?dXB ?dTB ?dX ?dN ?dT ?dk ?ddp ?dun ?_)
                k_dflt (case dB => k_asm)
                k_dflt (case dF => k_asm)
                k_dflt (case dXB => k_asm)
                k_dflt (case dTB => k_asm)
                k_dflt (case dX => k_asm)
                k_dflt (case dN => k_asm)
                k_dflt (case dT => k_asm)
                k_dflt (case dk => rfl)
                k_dflt (case ddp => decide)
                k_dflt (case dun => decide)
                intro h9 tk9 F9 N9
                refine hQe _ _ ?_
                exact good_true F9 N9 (by assumption) rfl (by repeat (first | exact ht2.1 | apply List.Mem.tail)) (by repeat (first | exact ht2.2 | apply List.Mem.tail))))))))))
end Mine
set_option maxRecDepth 100000 in
theorem PySem.Challenge.cw_wz0050_01_holds : PySem.Challenge.rw_wz0050_01.Holds :=
  Mine.tryit
