import PyProof.Rows.All
import Wide.All
import OpenK.AllK
import Wide.FinOn
import PySem.Challenge.RW_bd0030_01
open PySem PySem.W PyProof.Rows PySem.Calls
set_option Elab.async false
set_option maxRecDepth 100000
set_option maxHeartbeats 8000000
set_option rowWalk.seconds 0
set_option compiler.extract_closed false
namespace Mine
/-- what is left to prove, kept from the walk's eyes -/
structure Hid (P : Prop) : Prop where
  out : P
theorem lawUp (h : PySem.Challenge.rw_bd0030_01.row.wellSaid = true → PySem.Challenge.rw_bd0030_01.row.Holds) : PySem.Challenge.rw_bd0030_01.Holds := by
  w_on; o_law
  exact h (by assumption)
theorem two {A B C : Prop} (m : C) (_ : A) (_ : B) : C := m
noncomputable def hd : { T : Prop × Prop // Hid T.1 → Hid T.2 → PySem.Challenge.rw_bd0030_01.Holds } := ⟨(_, _), fun hL hC => by
  w_on; refine lawUp fun said => ?_
  refine two (A := type_of% hL.out) (B := type_of% hC.out) ?main ?hl ?hc
  case main =>
    k_head
    w_witness2
  case hl => exact hL.out
  case hc => exact hC.out⟩

theorem left_of {p q : Program} {loose : List Str} {Xt : Shared → Bool} {α : Type} {Yf : Shared → α} {Ya : World → α} {N : Nat}
    (e : opening p = plainProg p.main.scope.names) (hN : Nat.ble 600 N = true) (f : ∀ s, fenceModules? p s = some s)
    (h : ∀ (w : World) (os : OsState), (topFrom treeTable p w N ⟨boot_heap w.params, Array.mk [], boot_drawn, boot_toks, os⟩).map (fun s => (openSeen q loose (importedModules p.main.body) Xt true s, Yf s)) = some (openGood q loose, Ya w)) :
    LeftO p q loose Xt Yf Ya N := fun w => by
  obtain ⟨⟨s1, s2, s3, s4, s5⟩, hs, hv⟩ := Option.map_eq_some_iff.mp (boot_open e hN f w)
  simp only [Prod.mk.injEq] at hv
  obtain ⟨rfl, rfl, rfl, rfl⟩ := hv
  unfold openEnds
  rw [hs]
  exact h w s5
theorem left : hd.val.1 := by
  refine left_of (by kernel_rfl) (by kernel_rfl) (fun s => by kernel_rfl) (fun w os => ?_)
  unfold topFrom
  rw [PySem.W.Fast.te14082659384304107361, PySem.W.Fast.te4187177175401517315]
  kernel_rfl
theorem head : hd.val.2 → PySem.Challenge.rw_bd0030_01.Holds := fun h => hd.property ⟨left⟩ ⟨h⟩
theorem hideG {P : Prop} (h : ∀ G : Prop, G = P → G) : P := h P rfl
theorem gen_Q {α : Type} {prog : Program} {w : World} {A : Around} {e : Sem α} {Q : α → Shared → Prop} {E : Value → Shared → Prop} {s : Shared} (h : ∀ Q0 : α → Shared → Prop, Q0 = Q → wpAny (model prog w) A e Q0 E s) : wpAny (model prog w) A e Q E s := h Q rfl
theorem open_Q {α : Type} {Q Q' : α → Shared → Prop} {a : α} {s : Shared} (h : Q = Q') (g : Q' a s) : Q a s := h ▸ g
local macro_rules | `(tactic| walk_at $s:str) => `(tactic| k_extra $s)
set_option hygiene false in
local macro_rules | `(tactic| k_unfold) => `(tactic| ((first | (refine open_Q hQ9 ?_; clear hQ9 Q9) | refine open_Q (α := Flow) (by with_reducible assumption) ?_); (try dsimp only)))
/-! # Bd1 -/
theorem fill1 : (hd.heap_1 = hd.heap_1) ∧ (Challenge.rw_bd0030_01 = Challenge.rw_bd0030_01) := by w_top off; k_with_none; k_fill; exact ⟨rfl, rfl⟩
local macro_rules | `(tactic| k_room) => `(tactic| ((try simp only [depth_under_make, depth_under_kw, depth_in1, depth_deeper, depth_caller, recursionLimit]); (try dsimp only [ktrTop]); omega))
local macro_rules | `(tactic| k_units) => `(tactic| ((try simp only [units_in1, units_deeper, Around.mark_units, units_caller, cLine]); (try dsimp only [ktrTop]); omega))
local macro_rules | `(tactic| ktr_room) => `(tactic| k_room)
abbrev PR : Program := PySem.Challenge.rw_bd0030_01.row.prog

abbrev ents (P : Params) (k1 k2 k3 k4 k5 k6 k7 k8 : Tok) (v1 v2 v3 v4 v5 v6 v7 v8 : Value) : List DictEntry :=
  [⟨PyData.keyHash P (Str.ofString "stream_id"), .str (Str.ofString "stream_id") k1, v1⟩,
   ⟨PyData.keyHash P (Str.ofString "_weight"), .str (Str.ofString "_weight") k2, v2⟩,
   ⟨PyData.keyHash P (Str.ofString "children"), .str (Str.ofString "children") k3, v3⟩,
   ⟨PyData.keyHash P (Str.ofString "parent"), .str (Str.ofString "parent") k4, v4⟩,
   ⟨PyData.keyHash P (Str.ofString "child_queue"), .str (Str.ofString "child_queue") k5, v5⟩,
   ⟨PyData.keyHash P (Str.ofString "active"), .str (Str.ofString "active") k6, v6⟩,
   ⟨PyData.keyHash P (Str.ofString "last_weight"), .str (Str.ofString "last_weight") k7, v7⟩,
   ⟨PyData.keyHash P (Str.ofString "_deficit"), .str (Str.ofString "_deficit") k8, v8⟩]
abbrev tupO (l : Int) (u : Tok) (c : Addr) (n : Nat) : Obj := { cls := .type "tuple", data := .seq #[.int l u, .ref c] n }

/-- the ledger bears a stream of number i at c -/
def StrmIn (w : World) (news : List (Addr × Obj)) (c : Addr) (i : Int) : Prop :=
  ∃ (d : Addr) (k1 k2 k3 k4 k5 k6 k7 k8 j : Tok) (b2 b3 b4 b5 b6 b7 b8 : Value) (e : Nat),
    (c, instObj 180 d) ∈ news ∧ (d, dictOf (ents w.params k1 k2 k3 k4 k5 k6 k7 k8 (.int i j) b2 b3 b4 b5 b6 b7 b8) e) ∈ news
/-- the ledger bears an entry of level l, of a stream of number i, at t -/
def EntIn (w : World) (news : List (Addr × Obj)) (t : Addr) (l i : Int) : Prop :=
  ∃ (u : Tok) (c : Addr) (n : Nat), (t, tupO l u c n) ∈ news ∧ StrmIn w news c i
theorem StrmIn.mono {w : World} {news news' : List (Addr × Obj)} {c : Addr} {i : Int} (h : StrmIn w news c i) (hs : ∀ p ∈ news, p ∈ news') : StrmIn w news' c i := by
  obtain ⟨d, k1, k2, k3, k4, k5, k6, k7, k8, j, b2, b3, b4, b5, b6, b7, b8, e, h1, h2⟩ := h
  exact ⟨d, k1, k2, k3, k4, k5, k6, k7, k8, j, b2, b3, b4, b5, b6, b7, b8, e, hs _ h1, hs _ h2⟩
theorem EntIn.mono {w : World} {news news' : List (Addr × Obj)} {t : Addr} {l i : Int} (h : EntIn w news t l i) (hs : ∀ p ∈ news, p ∈ news') : EntIn w news' t l i := by
  obtain ⟨u, c, n, h1, h2⟩ := h
  exact ⟨u, c, n, hs _ h1, h2.mono hs⟩

abbrev klt (a b : Int × Int) : Bool := decide (a.1 < b.1 ∨ (a.1 = b.1 ∧ a.2 < b.2))

section
variable {w : World} {p : Program} {loose : List Str} {mean : ExcName → Option Value} {mg mb : Str → Option Value}
    {dp un : Nat} {gd : Option (List Code)} {cn : Str} {cs : Scope} {a : Addr} {ccd : Value} {cl : List (Str × Addr)} {outer : List Env} {A₀ : Around} {base h₀ : Heap} {L : Addr} {m : Str → Option Value} {news : List (Addr × Obj)} {s : Shared}
    {Q E : Value → Shared → Prop}
theorem ahead_call {t1 t2 : Addr} {k1 k2 : Int × Int}
    (B : Below A₀ base outer h₀) (F : Fr h₀ L s.heap m) (X : (hd.heap_1 w.params).In h₀) (N : News h₀ L s.heap news) (T : Top p loose mean mg mb h₀) (hk : cs.kind = .function)
    (hdp : dp + 5 < 1000) (hun : un + 30 < 9900)
    (e1 : EntIn w news t1 k1.1 k1.2) (e2 : EntIn w news t2 k2.1 k2.2)
    (ret : ∀ h' tk', Fr h₀ L h' m → News h₀ L h' news → Q (.bool (klt k1 k2)) { s with heap := h', toks := tk' }) :
    wpAny (model PR w) (ktrTop dp un gd cn cs L a ccd cl outer) (call (.ref 28) [.ref t1, .ref t2]) Q E s := by
  obtain ⟨u1, c1, n1, m1, d1, ka, kb, kc, kd, ke, kf, kg, kh, j1, b2, b3, b4, b5, b6, b7, b8, e1, m3, m5⟩ := e1
  obtain ⟨u2, c2, n2, m2, d2, qa, qb, qc, qd, qe, qf, qg, qh, j2, g2, g3, g4, g5, g6, g7, g8, e2, m4, m6⟩ := e2
  obtain ⟨l1, i1⟩ := k1
  obtain ⟨l2, i2⟩ := k2
  dsimp only at m1 m2 m5 m6 ret ⊢
  refine wpAny_call ?_
  k_dflt ktr_enter
  k_steps
  · have e : klt (l1, i1) (l2, i2) = decide (l1 < l2) := by simp only [klt]; (apply decide_eq_decide.mpr; constructor <;> omega)
    simp only [e] at ret
    exact ret _ _ (by assumption) (by assumption)
  · have e : klt (l1, i1) (l2, i2) = decide (i1 < i2) := by simp only [klt]; (apply decide_eq_decide.mpr; constructor <;> omega)
    simp only [e] at ret
    exact ret _ _ (by assumption) (by assumption)
end
/-! # Bd2 -/
theorem fill2 : (hd.heap_1 = hd.heap_1) ∧ (Challenge.rw_bd0030_01 = Challenge.rw_bd0030_01) := by w_top off; k_with_none; k_fill; exact ⟨rfl, rfl⟩
theorem my_item {prog : Program} {w : World} {A : Around} {E : Value → Shared → Prop} {s : Shared} {h₀ : Heap} {L : Addr} {news : List (Addr × Obj)} {value slice : PySem.Expr} {l : Addr} {vs : List Value} {c : Nat} {k : Int} {u : Tok} {v : Value} {Q : Value → Shared → Prop}
    (N : News h₀ L s.heap news) (hm : (l, W.listOf vs.toArray c) ∈ news) (h0 : 0 ≤ k) (hhi : k < 2 ^ 63) (hx : vs[k.toNat]? = some v) (h : Q v s)
    (hs : subscripted slice false (.ref l) (.int k u) = operate [.ref l, .int k u] (getItem (.ref l) (.int k u)) := by with_unfolding_all rfl) :
    wpAny (model prog w) A (subscriptTail value slice (.ref l) (.int k u)) Q E s :=
  item_litK ⟨_, (N _ hm).1, rfl, c, rfl⟩ h0 hhi hx h hs
theorem kwBd21 : True := by
  k_with_none
  k_with "call builtin:len" => (k_here; (with_reducible show wpAny _ _ (call (Value.builtin "len") [Value.ref _]) _ _ _); k_dflt ((refine' kst_len (by k_asm) (by k_mem) rfl (by ((try simp only [List.length_map]); omega)) ?_); k_whole))
  k_with "subscriptTail" => (k_here; (with_reducible show wpAny _ _ (subscriptTail _ _ (Value.ref _) (Value.int _ _)) _ _ _); (with_unfolding_all refine' my_item (by k_asm) (by k_mem) (by omega) (by omega) (by assumption) ?_ (by with_unfolding_all rfl); k_whole))
  k_with "eval Name" => (k_here; k_dflt (refine' nameX_L (by k_asm) (by assumption) ?_ (by rfl) (by rfl); k_whole))
  k_with "call ref" => (k_here; k_dflt (refine' ahead_call (by k_asm) (by k_asm) (by k_asm) (by k_asm) (by k_asm) (by rfl) (by k_room) (by k_units) (by assumption) (by assumption) ?_); intro _ _ _ _)
  trivial
theorem my_fits {j : Nat} (h : j ≤ 2000) : Builtin.List.listFitsIndex (j : Int) = true := by
  unfold Builtin.List.listFitsIndex; simp; omega
theorem kwBd22 : True := by
  k_with "call builtin:list.insert" => (k_here; (with_reducible show wpAny _ _ (call (Value.builtin _) [Value.ref _, Value.int _ _, _]) _ _ _); k_dflt ((refine' kl_insert (by k_asm) (by k_asm) (by first | exact my_fits (by omega) | rfl) rfl (by exact ‹Upd _ _ _ _ _›) (by (simp only [List.length_map, sizeLine_eq]; omega)) ?_)); intro _ _ _)
  k_with "loadName" => (k_here; k_dflt (refine' ldn (by k_asm) (by assumption) ?_ (by rfl) (by rfl); k_whole))
  trivial
def Stop (p : Prop) : Prop := p
theorem stop_here {p : Prop} (h : Stop p) : p := h
theorem stop_off {p : Prop} (h : p) : Stop p := h
theorem kwBd23 : True := by
  k_with "exec While BoolOp cons nil" => (refine stop_here ?_)
  trivial
/-- where the item comes to stand, looked for from place p downwards -/
def plc (k : Int × Int) (ks : List (Int × Int)) : Nat → Nat
  | 0 => 0
  | p + 1 => if klt k (ks.getD p (0, 0)) then plc k ks p else p + 1

section
variable {w : World} {p : Program} {loose : List Str} {mean : ExcName → Option Value} {mg mb : Str → Option Value}
    {dp un : Nat} {gd : Option (List Code)} {cn : Str} {cs : Scope} {a : Addr} {ccd : Value} {cl : List (Str × Addr)} {outer : List Env} {A₀ : Around} {base h₀ : Heap} {L : Addr} {m : Str → Option Value} {s : Shared}
    {Q E : Value → Shared → Prop}
theorem push_call {q it : Addr} {k : Int × Int} {its : List Addr} {ks : List (Int × Int)} {n : Nat} {news news' : List (Addr × Obj)}
    (B : Below A₀ base outer h₀) (F : Fr h₀ L s.heap m) (X : (hd.heap_1 w.params).In h₀) (N : News h₀ L s.heap news) (T : Top p loose mean mg mb h₀) (hk : cs.kind = .function)
    (hdp : dp + 10 < 1000) (hun : un + 60 < 9900)
    (U : Upd q (W.listOf (its.map Value.ref).toArray n) (W.listOf ((its.take (plc k ks its.length) ++ it :: its.drop (plc k ks its.length)).map Value.ref).toArray (n + 1)) news news') (hz : its.length ≤ 1000)
    (he : ∀ j (hj : j < its.length), EntIn w news its[j] (ks.getD j (0, 0)).1 (ks.getD j (0, 0)).2) (ei : EntIn w news it k.1 k.2)
    (ret : ∀ h' tk', Fr h₀ L h' m → News h₀ L h' news' → Q .none { s with heap := h', toks := tk' }) :
    wpAny (model PR w) (ktrTop dp un gd cn cs L a ccd cl outer) (call (.ref 35) [.ref q, .ref it]) Q E s := by
  have hq : (q, W.listOf (its.map Value.ref).toArray n) ∈ news := by
    obtain ⟨pre, post, rfl, _⟩ := U.split
    exact List.mem_append.mpr (.inr (.head _))
  refine wpAny_call ?_
  k_dflt ktr_enter
  k_steps
  refine stop_off ?_
  (rename Fr _ _ _ _ => F1); (rename News _ _ _ _ => N1)
  refine While_inv (fun j m₁ news₁ => news₁ = news ∧ j ≤ its.length ∧ plc k ks j = plc k ks its.length ∧ m₁ (Str.ofString "queue") = some (.ref q) ∧ m₁ (Str.ofString "item") = some (.ref it) ∧ ∃ tk, m₁ (Str.ofString "place") = some (.int (j : Int) tk)) (n₀ := its.length) F1 N1 ⟨rfl, Nat.le_refl _, rfl, rfl, rfl, _, by simp only [if_true, List.length_map]; rfl⟩ ?_
  clear F1 N1
  rintro j m₁ news₁ h₁ tk₁ F₁ N₁ ⟨rfl, hj, hp, h1, h2, tk, h3⟩
  cases j with
  | zero =>
    simp only [Int.ofNat_zero] at h3
    have e0 : plc k ks its.length = 0 := by rw [← hp]; rfl
    rw [e0] at U
    k_steps
    (rename News _ _ _ _ => NN); exact ret _ _ (by assumption) NN
  | succ j =>
    have he' := he j hj
    have hx : (its.map Value.ref)[(((j + 1 : Nat) : Int) - 1).toNat]? = some (.ref its[j]) := by
      have : (((j + 1 : Nat) : Int) - 1).toNat = j := by omega
      rw [this, List.getElem?_map, List.getElem?_eq_getElem hj]; rfl
    k_steps
    · have e : (((j + 1 : Nat) : Int) - 1) = (j : Int) := by omega
      have ep : plc k ks (j + 1) = plc k ks j := by simp only [plc]; rw [if_pos (decide_eq_true (by assumption))]
      refine WhileStep.intro (n' := j) (by assumption) (by assumption) (Nat.lt_succ_self _) ⟨rfl, by omega, ep ▸ hp, ?_, ?_, ?_⟩
      · with_unfolding_all exact h1
      · with_unfolding_all exact h2
      · with_unfolding_all exact ⟨_, congrArg (fun z => some (Value.int z _)) e⟩
    · have ep : plc k ks (j + 1) = j + 1 := by simp only [plc]; rw [if_neg (by simp_all)]
      have e0 : plc k ks its.length = j + 1 := by rw [← hp, ep]
      rw [e0] at U
      have q0 : kl_ins (its.map Value.ref) ((j + 1 : Nat) : Int) (.ref it) = ((its.take (j + 1) ++ it :: its.drop (j + 1)).map Value.ref) := by
        unfold kl_ins
        rw [if_neg (by omega), List.length_map]
        rw [show min ((j + 1 : Nat) : Int).toNat its.length = j + 1 from by omega]
        simp [List.map_take, List.map_drop]
      rw [← q0] at U
      k_steps
      (rename News _ _ _ _ => NN); exact ret _ _ (by assumption) NN
end
/-! # Bd3 -/
theorem fill3 : (hd.heap_1 = hd.heap_1) ∧ (Challenge.rw_bd0030_01 = Challenge.rw_bd0030_01) := by w_top off; k_with_none; k_fill; exact ⟨rfl, rfl⟩
local macro_rules | `(tactic| k_all) => `(tactic| assumption)
local macro_rules | `(tactic| k_mem) => `(tactic| first | exact List.Mem.head _ | ktr_member | (refine' List.mem_cons_of_mem _ ?_; k_mem))
structure Tr where
  many : Nat
  par : Nat → Nat
  nm : Nat → Int
  wt : Nat → Int
  lf : Nat → Bool
  sa : Nat → Addr
  da : Nat → Addr
  qa : Nat → Addr
def Tr.kid (T : Tr) (v c : Nat) : Prop := 1 ≤ c ∧ c ≤ T.many ∧ T.par c = v
def Tr.lev (T : Tr) (cnt : Nat → Nat) (c : Nat) : Int := (256 * (cnt c : Int)) / T.wt c
def Tr.dfc (T : Tr) (cnt : Nat → Nat) (c : Nat) : Int := (256 * (cnt c : Int)) % T.wt c
def Tr.key (T : Tr) (cnt : Nat → Nat) (c : Nat) : Int × Int := (T.lev cnt c, T.nm c)
structure Tr.WF (T : Tr) : Prop where
  up : ∀ c, 1 ≤ c → c ≤ T.many → T.par c < c
  w1 : ∀ c, c ≤ T.many → 1 ≤ T.wt c
  w2 : ∀ c, c ≤ T.many → T.wt c ≤ 256
  nmI : ∀ u v, u ≤ T.many → v ≤ T.many → T.nm u = T.nm v → u = v
  saI : ∀ u v, u ≤ T.many → v ≤ T.many → T.sa u = T.sa v → u = v
  daI : ∀ u v, u ≤ T.many → v ≤ T.many → T.da u = T.da v → u = v
  qaI : ∀ u v, u ≤ T.many → v ≤ T.many → T.qa u = T.qa v → u = v
  lf0 : ∀ v, v ≤ T.many → T.lf v = false → ∃ c, T.kid v c
  lf1 : ∀ v c, v ≤ T.many → T.kid v c → T.lf v = false
  sm : T.many ≤ 900

/-- the queue of v, as the ledger bears it: its children in their order, each with its tuple -/
structure Que (T : Tr) (news : List (Addr × Obj)) (cnt : Nat → Nat) (v : Nat) (qs : List (Nat × Addr)) : Prop where
  all : ∀ c, c ∈ qs.map (·.1) ↔ T.kid v c
  srt : (qs.map (·.1)).Pairwise fun a b => klt (T.key cnt a) (T.key cnt b) = true
  tup : ∀ q ∈ qs, ∃ u n, (q.2, tupO (T.lev cnt q.1) u (T.sa q.1) n) ∈ news
  len : qs.length ≤ 900

def Node (w : World) (T : Tr) (news : List (Addr × Obj)) (cnt : Nat → Nat) (v : Nat) : Prop :=
  (T.sa v, instObj 180 (T.da v)) ∈ news ∧
  (∃ (k1 k2 k3 k4 k5 k6 k7 k8 j1 j2 j7 j8 : Tok) (b3 b4 : Value) (lw : Int),
    (T.da v, dictOf (ents w.params k1 k2 k3 k4 k5 k6 k7 k8 (.int (T.nm v) j1) (.int (T.wt v) j2) b3 b4 (.ref (T.qa v)) (.bool (T.lf v)) (.int lw j7) (.int (T.dfc cnt v) j8)) 8) ∈ news) ∧
  ∃ qs n, (T.qa v, W.listOf ((qs.map (·.2)).map Value.ref).toArray n) ∈ news ∧ Que T news cnt v qs

def One (h₀ : Heap) (L : Addr) (I : Addr) (o : Obj) (ax : Addr) (lo : Obj) (Q : Flow → Shared → Prop) (s₁ : Shared) (f : Flow) (s₃ : Shared) : Prop :=
  f = .next ∧ ∃ h' tk' m' all nx, s₃ = { s₁ with heap := h', toks := tk' } ∧ Fr h₀ L h' m' ∧ News h₀ L h' all ∧ (I, o) ∈ all ∧ (ax, lo) ∈ nx ∧ (∀ p ∈ nx, p ∈ all ∧ p.1 ≠ I) ∧
    ∀ h tk, Fr h₀ L h m' → News h₀ L h nx → Q .next { s₁ with heap := h, toks := tk }

theorem One.intro {h₀ h' : Heap} {L I ax : Addr} {o lo : Obj} {Q : Flow → Shared → Prop} {s₁ : Shared} {m' : Str → Option Value} {all : List (Addr × Obj)} {tk' : Nat}
    (F : Fr h₀ L h' m') (N : News h₀ L h' all) (hI : (I, o) ∈ all) (hax : (ax, lo) ∈ all) (hne : @Ne Nat ax I)
    (h : ∀ h tk, Fr h₀ L h m' → News h₀ L h (all.filter (fun q => decide (@Ne Nat q.1 I))) → Q .next { s₁ with heap := h, toks := tk }) : One h₀ L I o ax lo Q s₁ .next { s₁ with heap := h', toks := tk' } :=
  ⟨rfl, h', tk', m', all, _, rfl, F, N, hI, List.mem_filter.mpr ⟨hax, decide_eq_true hne⟩, fun _ hq => ⟨(List.mem_filter.mp hq).1, of_decide_eq_true (List.mem_filter.mp hq).2⟩, h⟩

theorem for_one {prog : Program} {w : World} {A : Around} {E : Value → Shared → Prop} {s : Shared} {h₀ : Heap} {env : Env} {target : PySem.Expr} {body : List Stmt} {Q : Flow → Shared → Prop}
    {ax : Addr} {v : Value} {n : Nat} {m₀ : Str → Option Value} {news : List (Addr × Obj)}
    {L : Addr} (hL : env.locals = L) (hh : A.handled = none) (F : Fr h₀ L s.heap m₀) (N : News h₀ L s.heap news) (hm : (ax, W.listOf #[v] n) ∈ news)
    (turn : ∀ (I : Nat) o h tk, (∀ p ∈ news, p.1 < I) → Fr h₀ L h m₀ → News h₀ L h ((I, o) :: news) →
      wpAny (model prog w) A (assign target env v) (fun _ s₂ => wpAny (model prog w) A (execs body env) (One h₀ L I o ax (W.listOf #[v] n) Q { s with heap := h, toks := tk }) E s₂) E { s with heap := h, toks := tk }) :
    wpAny (model prog w) A (pyIter (.ref ax)) (fun it s₂ => TurnsAt prog w A h₀ env target body Q E it s₂) E s := by
  subst hL
  refine iter_listTurns (lo := W.listOf #[v] n) (vs := [v]) (n := n) hh F N hm rfl rfl ?_
  intro I hlt
  refine ItemsRest.val fun h tk F1 => ?_
  refine AllObj.cons fun o hc => ?_
  refine AllObj.nil fun N1 => ?_
  refine wpAny_mono (turn I o h tk hlt F1 N1) (fun _ s₂ h₂ => wpAny_mono h₂ (fun f s₃ h₃ => ?_) fun _ _ e => e) fun _ _ e => e
  obtain ⟨rfl, h', tk', m', all, nx, rfl, F2, N2, hI, hax, hnx, hQ⟩ := h₃
  refine ⟨h', tk', m', nx, rfl, F2, fun p hp => ?_, fun p hp q hq => ?_, ⟨hax, trivial⟩, fun h tk F3 N3 => hQ h tk F3 N3⟩
  · rcases List.mem_append.mp hp with hp | hp
    · rw [List.mem_singleton.mp hp]; exact N2 _ hI
    · exact N2 _ (hnx p hp).1
  · rw [List.mem_singleton.mp hq]; exact (hnx p hp).2

def Stop2 (p : Prop) : Prop := p
theorem stop2 {p : Prop} (h : Stop2 p) : p := h
theorem kwBd31 : True := by
  k_with_none
  k_with "call ref" => (k_here; k_dflt (first | (show wpAny _ _ (call (Value.ref 35) _) _ _ _) | (show wpAny _ _ (call (Value.ref 128) _) _ _ _)); refine stop2 ?_)
  k_with "exec For Tuple Name cons nil" => (k_here; (rename Fr _ _ _ _ => lF9); (with_unfolding_all refine' For_turns lF9 ?_; k_whole); (revert lF9; intro _))
  k_with "pyIter ref" => ((with_reducible show wpAny _ _ (pyIter (Value.ref _)) (fun it s₂ => TurnsAt _ _ _ _ _ _ _ _ _ it s₂) _ _); refine stop2 ?_)
  trivial
theorem pop0 {prog : Program} {w : World} {A : Around} {E : Value → Shared → Prop} {s : Shared} {h₀ : Heap} {L D : Addr} {m : Str → Option Value} {news news' : List (Addr × Obj)} {n : Nat} {t : Addr} {ts : List Addr} {u : Tok} {Q : Value → Shared → Prop}
    (F : Fr h₀ L s.heap m) (N : News h₀ L s.heap news) (U : Upd D (W.listOf ((t :: ts).map Value.ref).toArray n) (W.listOf (ts.map Value.ref).toArray (n + 1)) news news')
    (hz : ts.length ≤ 1000) (h : ∀ h', Fr h₀ L h' m → News h₀ L h' news' → Q (.ref t) { s with heap := h' }) : wpAny (model prog w) A (call (.builtin "list.pop") [.ref D, .int 0 u]) Q E s :=
  kl_popAt (k := 0) (p := []) (q := ts.map Value.ref) (y := .ref t) F N rfl (by simp [seqIndex?]) rfl U (by simp [sizeLine_eq]; omega) h

section
variable {w : World} {p : Program} {loose : List Str} {mean : ExcName → Option Value} {mg mb : Str → Option Value}
    {dp un : Nat} {gd : Option (List Code)} {cn : Str} {cs : Scope} {a : Addr} {ccd : Value} {cl : List (Str × Addr)} {outer : List Env} {A₀ : Around} {base h₀ : Heap} {L : Addr} {m : Str → Option Value} {s : Shared}
    {Q E : Value → Shared → Prop}
theorem kwBd32 : True := by
  k_with "call builtin:list.pop" => (k_here; (with_reducible show wpAny _ _ (call (Value.builtin _) [Value.ref _, Value.int _ _]) _ _ _); k_dflt (refine' pop0 (by k_asm) (by k_asm) (by k_upd) (by omega) ?_); intro _ _ _)
  trivial
theorem sched_body {lfc : Bool} {sv dv qv sc dc qc t : Nat} {ts : List Addr} {ks : List (Int × Int)} {n n1 : Nat} {rest : List (Addr × Obj)} {P : Int → List (Addr × Obj) → Prop}
    {k1 k2 k3 k4 k5 k6 k7 k8 j1 j2 j7 j8 : Tok} {b3 b4 : Value} {nv wv lw df : Int}
    {l1 l2 l3 l4 l5 l6 l7 l8 i1 i2 i7 i8 u : Tok} {c3 c4 : Value} {nc wc lc fc lev : Int}
    (B : Below A₀ base outer h₀) (F : Fr h₀ L s.heap m) (X : (hd.heap_1 w.params).In h₀) (T : Top p loose mean mg mb h₀) (hk : cs.kind = .function)
    (hdp : dp + 20 < 1000) (hun : un + 120 < 9900)
    (N : News h₀ L s.heap ((qv, W.listOf ((t :: ts).map Value.ref).toArray n) ::
      (dv, dictOf (ents w.params k1 k2 k3 k4 k5 k6 k7 k8 (.int nv j1) (.int wv j2) b3 b4 (.ref qv) (.bool false) (.int lw j7) (.int df j8)) 8) ::
      (dc, dictOf (ents w.params l1 l2 l3 l4 l5 l6 l7 l8 (.int nc i1) (.int wc i2) c3 c4 (.ref qc) (.bool lfc) (.int lc i7) (.int fc i8)) 8) :: rest))
    (m1 : (sv, instObj 180 dv) ∈ rest) (m2 : (sc, instObj 180 dc) ∈ rest) (m3 : (t, tupO lev u sc n1) ∈ rest)
    (d1 : qv ≠ dv) (d2 : qv ≠ dc) (d3 : dv ≠ dc) (o1 : ∀ p ∈ rest, p.1 ≠ qv) (o2 : ∀ p ∈ rest, p.1 ≠ dv) (o3 : ∀ p ∈ rest, p.1 ≠ dc)
    (hz : ts.length ≤ 900) (hw : 1 ≤ wc) (hw2 : wc ≤ 256)
    (leaf : lfc = true → P nc rest)
    (hent : ∀ r rest2, P r rest2 → (sc, instObj 180 dc) ∈ rest2 → ∀ j (hj : j < ts.length), EntIn w rest2 ts[j] (ks.getD j (0, 0)).1 (ks.getD j (0, 0)).2)
    (rec : lfc = false → ∀ (dp' un' : Nat) (gd' : Option (List Code)) (cn' : Str) (cs' : Scope) (a' : Addr) (ccd' : Value) (cl' : List (Str × Addr)) (outer' : List Env) (A₀' : Around) (base' g : Heap) (L' : Addr) (m' : Str → Option Value) (s' : Shared)
      (Q' E' : Value → Shared → Prop) (pl : Nat), Below A₀' base' outer' g → Fr g L' s'.heap m' → (hd.heap_1 w.params).In g → Top p loose mean mg mb g → cs'.kind = .function → dp' ≤ dp + 2 → un' ≤ un + 20 →
      News g L' s'.heap ((pl, W.listOf #[.ref t] 1) :: (qv, W.listOf (ts.map Value.ref).toArray (n + 1)) ::
        (dv, dictOf (ents w.params k1 k2 k3 k4 k5 k6 k7 k8 (.int nv j1) (.int wv j2) b3 b4 (.ref qv) (.bool false) (.int lw j7) (.int df j8)) 8) ::
        (dc, dictOf (ents w.params l1 l2 l3 l4 l5 l6 l7 l8 (.int nc i1) (.int wc i2) c3 c4 (.ref qc) (.bool lfc) (.int lc i7) (.int fc i8)) 8) :: rest) →
      (qv < pl ∧ dv < pl ∧ dc < pl ∧ AllLt pl rest) →
      (∀ r j h' tk' rest2 (l1 l2 l3 l4 l5 l6 l7 l8 i1 i2 i7 i8 : Tok) (c3 c4 : Value) (lc : Int), Fr g L' h' m' →
        News g L' h' ((pl, W.listOf #[.ref t] 1) :: (qv, W.listOf (ts.map Value.ref).toArray (n + 1)) ::
          (dv, dictOf (ents w.params k1 k2 k3 k4 k5 k6 k7 k8 (.int nv j1) (.int wv j2) b3 b4 (.ref qv) (.bool false) (.int lw j7) (.int df j8)) 8) ::
          (dc, dictOf (ents w.params l1 l2 l3 l4 l5 l6 l7 l8 (.int nc i1) (.int wc i2) c3 c4 (.ref qc) (.bool lfc) (.int lc i7) (.int fc i8)) 8) :: rest2) →
        (sv, instObj 180 dv) ∈ rest2 → (sc, instObj 180 dc) ∈ rest2 → (t, tupO lev u sc n1) ∈ rest2 →
        (∀ p ∈ rest2, p.1 ≠ qv) → (∀ p ∈ rest2, p.1 ≠ dv) → (∀ p ∈ rest2, p.1 ≠ dc) → (∀ p ∈ rest2, p.1 ≠ pl) → P r rest2 → Q' (.int r j) { s' with heap := h', toks := tk' }) →
      wpAny (model PR w) (ktrTop dp' un' gd' cn' cs' L' a' ccd' cl' outer') (call (.ref 128) [.ref sc]) Q' E' s')
    (ret : ∀ r j rest2 nF h' tk' (tt : Nat) (u' : Tok) (n' : Nat) (l1 l2 l3 l4 l5 l6 l7 l8 i1 i2 i7 i8 j7 : Tok) (c3 c4 : Value) (lc lw : Int), Fr h₀ L h' m → News h₀ L h' nF → P r rest2 → (∀ p ∈ rest2, p ∈ nF) →
      (qv, W.listOf ((ts.take (plc (lev + (256 + fc).fdiv wc, nc) ks ts.length) ++ tt :: ts.drop (plc (lev + (256 + fc).fdiv wc, nc) ks ts.length)).map Value.ref).toArray n') ∈ nF →
      (tt, tupO (lev + (256 + fc).fdiv wc) u' sc 0) ∈ nF →
      (dv, dictOf (ents w.params k1 k2 k3 k4 k5 k6 k7 k8 (.int nv j1) (.int wv j2) b3 b4 (.ref qv) (.bool false) (.int lw j7) (.int df j8)) 8) ∈ nF →
      (dc, dictOf (ents w.params l1 l2 l3 l4 l5 l6 l7 l8 (.int nc i1) (.int wc i2) c3 c4 (.ref qc) (.bool lfc) (.int lc i7) (.int ((256 + fc).fmod wc) i8)) 8) ∈ nF →
      Q (.int r j) { s with heap := h', toks := tk' }) :
    wpAny (model PR w) (ktrTop dp un gd cn cs L a ccd cl outer) (call (.ref 128) [.ref sv]) Q E s := by
  cases lfc with
  | true =>
    have hP := leaf rfl
    have hE := hent _ _ hP m2
    clear rec leaf hent
    refine wpAny_call ?_
    k_dflt ktr_enter
    k_steps
    unfold Stop2
    (rename Fr _ _ _ _ => F1); (rename News _ _ _ _ => N1)
    with_unfolding_all refine for_one (by rfl) (by rfl) F1 N1 (by k_mem) ?_
    clear F1 N1
    intro I o h1 tk1 hI F1 N1
    k_lt hI
    k_steps
    unfold Stop2
    (rename Fr _ _ _ _ => F2); (rename News _ _ _ _ => N2)
    refine' push_call (k := (_, nc)) (its := ts) (ks := ks) ?B F2 ?X N2 ?T ?k ?d ?u ?U (by omega) ?e1 ?e2 ?_
    case B => k_asm
    case X => k_asm
    case T => k_asm
    case k => rfl
    case d => k_room
    case u => k_units
    case U => k_dflt k_upd
    case e1 => exact fun j hj => (hE j hj).mono (fun p hp => by repeat (first | exact hp | refine List.mem_cons_of_mem _ ?_))
    case e2 => exact ⟨_, sc, 0, by k_mem, dc, _, _, _, _, _, _, _, _, _, _, _, _, _, _, _, _, _, by k_mem, by k_mem⟩
    clear F2 N2
    intro h2 tk2 F2 N2
    k_steps
    refine One.intro F2 N2 (by k_mem) (by k_mem) (by k_ne) ?_
    clear F2 N2
    intro h3 tk3 F3 N3
    k_steps
    (rename Fr _ _ _ _ => F4); (rename News _ _ _ _ => N4)
    refine' ret _ _ rest _ _ _ _ _ _ _ _ _ _ _ _ _ _ _ _ _ _ _ _ _ _ _ F4 N4 hP ?ra ?rb ?rc ?rd ?re
    case ra => exact fun q hq => List.mem_filter.mpr ⟨by repeat (first | exact hq | refine List.mem_cons_of_mem _ ?_), decide_eq_true (tbn_neAll hI.2.2.2.2 q hq)⟩
    case rb => exact List.mem_filter.mpr ⟨by k_mem, decide_eq_true (by k_ne)⟩
    case rc => exact List.mem_filter.mpr ⟨by k_mem, decide_eq_true (by k_ne)⟩
    case rd => exact List.mem_filter.mpr ⟨by k_mem, decide_eq_true (by k_ne)⟩
    case re => exact List.mem_filter.mpr ⟨by k_mem, decide_eq_true (by k_ne)⟩
  | false =>
    clear leaf
    refine wpAny_call ?_
    k_dflt ktr_enter
    k_steps
    unfold Stop2
    (rename Fr _ _ _ _ => F1); (rename News _ _ _ _ => N1)
    refine' rec rfl _ _ _ _ _ _ _ _ _ _ _ _ _ _ _ _ _ _ ?B F1 ?X ?T ?k ?d ?u N1 ?lt ?_
    case B => k_asm
    case X => k_asm
    case T => k_asm
    case k => rfl
    case d => k_room
    case u => k_units
    case lt => assumption
    clear F1 N1 rec
    intro r jr h2 tk2 rest2 l1 l2 l3 l4 l5 l6 l7 l8 i1 i2 i7 i8 c3 c4 lc F2 N2 m1 m2 m3 o1 o2 o3 o4 hP
    have hE := hent _ _ hP m2
    clear hent
    k_steps
    unfold Stop2
    (rename Fr _ _ _ _ => F1); (rename News _ _ _ _ => N1)
    with_unfolding_all refine for_one (by rfl) (by rfl) F1 N1 (by k_mem) ?_
    clear F1 N1
    intro I o h1 tk1 hI F1 N1
    k_lt hI
    k_steps
    unfold Stop2
    (rename Fr _ _ _ _ => F2); (rename News _ _ _ _ => N2)
    refine' push_call (k := (_, nc)) (its := ts) (ks := ks) ?B F2 ?X N2 ?T ?k ?d ?u ?U (by omega) ?e1 ?e2 ?_
    case B => k_asm
    case X => k_asm
    case T => k_asm
    case k => rfl
    case d => k_room
    case u => k_units
    case U => k_dflt k_upd
    case e1 => exact fun j hj => (hE j hj).mono (fun p hp => by repeat (first | exact hp | refine List.mem_cons_of_mem _ ?_))
    case e2 => exact ⟨_, sc, 0, by k_mem, dc, _, _, _, _, _, _, _, _, _, _, _, _, _, _, _, _, _, by k_mem, by k_mem⟩
    clear F2 N2
    intro h2 tk2 F2 N2
    k_steps
    refine One.intro F2 N2 (by k_mem) (by k_mem) (by k_ne) ?_
    clear F2 N2
    intro h3 tk3 F3 N3
    k_steps
    (rename Fr _ _ _ _ => F4); (rename News _ _ _ _ => N4)
    refine' ret _ _ rest2 _ _ _ _ _ _ _ _ _ _ _ _ _ _ _ _ _ _ _ _ _ _ _ F4 N4 hP ?ra ?rb ?rc ?rd ?re
    case ra => exact fun q hq => List.mem_filter.mpr ⟨by repeat (first | exact hq | refine List.mem_cons_of_mem _ ?_), decide_eq_true (tbn_neAll hI.2.2.2.2 q hq)⟩
    case rb => exact List.mem_filter.mpr ⟨by k_mem, decide_eq_true (by k_ne)⟩
    case rc => exact List.mem_filter.mpr ⟨by k_mem, decide_eq_true (by k_ne)⟩
    case rd => exact List.mem_filter.mpr ⟨by k_mem, decide_eq_true (by k_ne)⟩
    case re => exact List.mem_filter.mpr ⟨by k_mem, decide_eq_true (by k_ne)⟩
end
/-! # Bd4 -/
/-! ## plain law: numbers -/
theorem lev_step {k : Nat} {w : Int} (hw : 1 ≤ w) : (256 * ((k + 1 : Nat) : Int)) / w = (256 * (k : Int)) / w + (256 + (256 * (k : Int)) % w).fdiv w := by
  have e1 := Int.mul_ediv_add_emod (256 * (k : Int)) w
  rw [Int.fdiv_eq_ediv_of_nonneg _ (by omega)]
  have e2 : 256 * ((k + 1 : Nat) : Int) = (256 + (256 * (k : Int)) % w) + w * ((256 * (k : Int)) / w) := by
    rw [Int.natCast_add, Int.mul_add]; omega
  rw [e2, Int.add_mul_ediv_left _ _ (by omega)]
  omega
theorem dfc_step {k : Nat} {w : Int} (hw : 1 ≤ w) : (256 * ((k + 1 : Nat) : Int)) % w = (256 + (256 * (k : Int)) % w).fmod w := by
  have e1 := Int.mul_ediv_add_emod (256 * (k : Int)) w
  rw [Int.fmod_eq_emod_of_nonneg _ (by omega)]
  have e2 : 256 * ((k + 1 : Nat) : Int) = (256 + (256 * (k : Int)) % w) + w * ((256 * (k : Int)) / w) := by
    rw [Int.natCast_add, Int.mul_add]; omega
  rw [e2, Int.add_mul_emod_self_left]

theorem klt_irr (a : Int × Int) : klt a a = false := by simp [klt]
theorem klt_trans {a b c : Int × Int} (h1 : klt a b = true) (h2 : klt b c = true) : klt a c = true := by
  simp only [klt, decide_eq_true_eq] at *; omega
theorem klt_asymm {a b : Int × Int} (h1 : klt a b = true) : klt b a = false := by
  simp only [klt, decide_eq_true_eq, decide_eq_false_iff_not] at *; omega
theorem klt_total {a b : Int × Int} (h1 : klt a b = false) (h2 : a.2 ≠ b.2) : klt b a = true := by
  simp only [klt, decide_eq_true_eq, decide_eq_false_iff_not] at *; omega

theorem plc_le (k : Int × Int) (ks : List (Int × Int)) : ∀ n, plc k ks n ≤ n
  | 0 => Nat.le_refl _
  | n + 1 => by
    simp only [plc]
    split
    · exact Nat.le_succ_of_le (plc_le k ks n)
    · exact Nat.le_refl _
theorem plc_ge (k : Int × Int) (ks : List (Int × Int)) : ∀ n j, plc k ks n ≤ j → j < n → klt k (ks.getD j (0, 0)) = true
  | 0, _, _, h => absurd h (Nat.not_lt_zero _)
  | n + 1, j, h1, h2 => by
    simp only [plc] at h1
    split at h1
    · rename_i hc
      by_cases e : j = n
      · rw [e]; exact hc
      · exact plc_ge k ks n j h1 (by omega)
    · omega
theorem plc_lt (k : Int × Int) (ks : List (Int × Int)) : ∀ n p, plc k ks n = p + 1 → klt k (ks.getD p (0, 0)) = false
  | 0, _, h => by simp [plc] at h
  | n + 1, p, h => by
    simp only [plc] at h
    split at h
    · exact plc_lt k ks n p h
    · rename_i hc
      have : n = p := by omega
      rw [← this]; simpa using hc

theorem getD_key {os : List Nat} {key : Nat → Int × Int} {j : Nat} (h : j < os.length) : (os.map key).getD j (0, 0) = key os[j] := by
  simp [List.getD, h]
theorem ins_sorted {key : Nat → Int × Int} {os : List Nat} {c : Nat} {k : Int × Int} {ks : List (Int × Int)} (hs : os.Pairwise fun a b => klt (key a) (key b) = true) (hc : ∀ o ∈ os, (key o).2 ≠ k.2)
    (hk : key c = k) (hks : ks = os.map key) :
    (os.take (plc k ks os.length) ++ c :: os.drop (plc k ks os.length)).Pairwise fun a b => klt (key a) (key b) = true := by
  subst hks
  generalize hp : plc k (os.map key) os.length = p
  have hple : p ≤ os.length := hp ▸ plc_le _ _ _
  have hge : ∀ j (h : j < os.length), p ≤ j → klt k (key os[j]) = true := fun j h hj => by
    have := plc_ge k (os.map key) os.length j (hp ▸ hj) h
    rwa [getD_key h] at this
  have hlt : ∀ j (h : j < os.length), j < p → klt (key os[j]) k = true := fun j h hj => by
    obtain ⟨q, rfl⟩ : ∃ q, p = q + 1 := ⟨p - 1, by omega⟩
    have hq : q < os.length := by omega
    have h1 := plc_lt k (os.map key) os.length q hp
    rw [getD_key hq] at h1
    have h2 : klt (key os[q]) k = true := klt_total h1 (fun e => hc _ (List.getElem_mem hq) e.symm)
    by_cases e : j = q
    · subst e; exact h2
    · exact klt_trans (List.pairwise_iff_getElem.mp hs j q h hq (by omega)) h2
  rw [List.pairwise_append]
  refine ⟨hs.sublist (List.take_sublist _ _), List.pairwise_cons.mpr ⟨fun b hb => ?_, hs.sublist (List.drop_sublist _ _)⟩, fun a ha b hb => ?_⟩
  · rw [hk]
    obtain ⟨i, hi, rfl⟩ := List.getElem_of_mem hb
    rw [List.getElem_drop]
    exact hge _ _ (Nat.le_add_right _ _)
  · obtain ⟨i, hi, rfl⟩ := List.getElem_of_mem ha
    have hi1 : i < min p os.length := by simpa using hi
    have hi' : i < p ∧ i < os.length := by omega
    rw [List.getElem_take]
    rcases List.mem_cons.mp hb with rfl | hb
    · rw [hk]; exact hlt _ _ hi'.1
    · obtain ⟨i2, hi2, rfl⟩ := List.getElem_of_mem hb
      have hi2' : i2 < os.length - p := by simpa using hi2
      rw [List.getElem_drop]
      exact List.pairwise_iff_getElem.mp hs i (p + i2) hi'.2 (by omega) (by omega)

/-! ## the plain step -/
def bump (c : Nat) (cnt : Nat → Nat) : Nat → Nat := fun x => if x = c then cnt x + 1 else cnt x
def Best (T : Tr) (cnt : Nat → Nat) (v c : Nat) : Prop := T.kid v c ∧ ∀ o, T.kid v o → o ≠ c → klt (T.key cnt c) (T.key cnt o) = true
inductive Sch (T : Tr) : Nat → (Nat → Nat) → Int → (Nat → Nat) → Prop
  | leaf {v c : Nat} {cnt : Nat → Nat} : Best T cnt v c → T.lf c = true → Sch T v cnt (T.nm c) (bump c cnt)
  | node {v c : Nat} {cnt cnt' : Nat → Nat} {r : Int} : Best T cnt v c → T.lf c = false → Sch T c cnt r cnt' → Sch T v cnt r (bump c cnt')
theorem Sch.keeps {T : Tr} (W : T.WF) {v : Nat} {cnt cnt' : Nat → Nat} {r : Int} (h : Sch T v cnt r cnt') : ∀ x, cnt' x ≠ cnt x → v ≤ T.par x ∧ 1 ≤ x ∧ x ≤ T.many := by
  induction h with
  | @leaf v c cnt hb hl =>
    intro x hx
    have e : x = c := by
      by_cases e : x = c
      · exact e
      · exact absurd (by simp [bump, e]) hx
    subst e
    exact ⟨Nat.le_of_eq hb.1.2.2.symm, hb.1.1, hb.1.2.1⟩
  | @node v c cnt cnt' r hb hl _ ih =>
    intro x hx
    by_cases e : x = c
    · subst e
      exact ⟨Nat.le_of_eq hb.1.2.2.symm, hb.1.1, hb.1.2.1⟩
    · have := ih x (by simpa [bump, e] using hx)
      have h2 := W.up c hb.1.1 hb.1.2.1
      rw [hb.1.2.2] at h2
      exact ⟨by omega, this.2⟩
theorem Sch.same {T : Tr} (W : T.WF) {v : Nat} {cnt cnt' : Nat → Nat} {r : Int} (h : Sch T v cnt r cnt') {x : Nat} (hx : 1 ≤ x → x ≤ T.many → T.par x < v) : cnt' x = cnt x := by
  by_cases e : cnt' x = cnt x
  · exact e
  · obtain ⟨h1, h2, h3⟩ := h.keeps W x e
    exact absurd (hx h2 h3) (by omega)

/-! ## the ledger -/
theorem news_fun {h₀ h : Heap} {L a : Addr} {news : List (Addr × Obj)} {o o' : Obj} (N : News h₀ L h news) (h1 : (a, o) ∈ news) (h2 : (a, o') ∈ news) : o = o' :=
  Option.some.inj ((N _ h1).1.symm.trans (N _ h2).1)
theorem news_ne {h₀ h : Heap} {L : Addr} {a b : Nat} {news : List (Addr × Obj)} {o o' : Obj} (N : News h₀ L h news) (h1 : (a, o) ∈ news) (h2 : (b, o') ∈ news) (hc : o.cls ≠ o'.cls) : a ≠ b := by
  rintro rfl; exact hc (congrArg Obj.cls (news_fun N h1 h2))

theorem Que.mono {T : Tr} {news news' : List (Addr × Obj)} {cnt : Nat → Nat} {v : Nat} {qs : List (Nat × Addr)} (h : Que T news cnt v qs) (hs : ∀ p ∈ news, p.2.cls = .type "tuple" → p ∈ news') : Que T news' cnt v qs :=
  ⟨h.all, h.srt, fun q hq => let ⟨u, n, hm⟩ := h.tup q hq; ⟨u, n, hs _ hm rfl⟩, h.len⟩
theorem Que.congr {T : Tr} {news : List (Addr × Obj)} {cnt cnt' : Nat → Nat} {v : Nat} {qs : List (Nat × Addr)} (h : Que T news cnt v qs) (hc : ∀ x, T.kid v x → cnt' x = cnt x) : Que T news cnt' v qs := by
  have e : ∀ x ∈ qs.map (·.1), T.lev cnt' x = T.lev cnt x := fun x hx => by unfold Tr.lev; rw [hc x ((h.all x).mp hx)]
  refine ⟨h.all, ?_, fun q hq => ?_, h.len⟩
  · refine h.srt.imp_of_mem ?_
    intro a b ha hb hab
    unfold Tr.key at hab ⊢
    rw [e a ha, e b hb]; exact hab
  · rw [e q.1 (List.mem_map_of_mem hq)]; exact h.tup q hq
theorem Node.to {w : World} {T : Tr} {news news' : List (Addr × Obj)} {cnt : Nat → Nat} {u : Nat} (n : Node w T news cnt u)
    (keep : ∀ p ∈ news, (p.2.cls = .type "tuple" ∨ p.2.cls = .ref 180 ∨ p.1 = T.da u ∨ p.1 = T.qa u) → p ∈ news') : Node w T news' cnt u := by
  obtain ⟨h1, ⟨k1, k2, k3, k4, k5, k6, k7, k8, j1, j2, j7, j8, b3, b4, lw, h2⟩, qs, n, h3, h4⟩ := n
  exact ⟨keep _ h1 (.inr (.inl rfl)), ⟨k1, k2, k3, k4, k5, k6, k7, k8, j1, j2, j7, j8, b3, b4, lw, keep _ h2 (.inr (.inr (.inl rfl)))⟩, qs, n, keep _ h3 (.inr (.inr (.inr rfl))), h4.mono fun p hp hc => keep p hp (.inl hc)⟩
theorem Node.mono {w : World} {T : Tr} {news news' : List (Addr × Obj)} {cnt : Nat → Nat} {u : Nat} (n : Node w T news cnt u) (keep : ∀ p ∈ news, p ∈ news') : Node w T news' cnt u := n.to fun p hp _ => keep p hp
theorem Node.congr {w : World} {T : Tr} {news : List (Addr × Obj)} {cnt cnt' : Nat → Nat} {u : Nat} (n : Node w T news cnt u) (h0 : cnt' u = cnt u) (hc : ∀ x, T.kid u x → cnt' x = cnt x) : Node w T news cnt' u := by
  obtain ⟨h1, ⟨k1, k2, k3, k4, k5, k6, k7, k8, j1, j2, j7, j8, b3, b4, lw, h2⟩, qs, n, h3, h4⟩ := n
  refine ⟨h1, ⟨k1, k2, k3, k4, k5, k6, k7, k8, j1, j2, j7, j8, b3, b4, lw, ?_⟩, qs, n, h3, h4.congr hc⟩
  have e : T.dfc cnt' u = T.dfc cnt u := by unfold Tr.dfc; rw [h0]
  rw [e]; exact h2
theorem Node.strm {w : World} {T : Tr} {news : List (Addr × Obj)} {cnt : Nat → Nat} {u : Nat} (n : Node w T news cnt u) : StrmIn w news (T.sa u) (T.nm u) := by
  obtain ⟨h1, ⟨k1, k2, k3, k4, k5, k6, k7, k8, j1, j2, j7, j8, b3, b4, lw, h2⟩, _⟩ := n
  exact ⟨_, k1, k2, k3, k4, k5, k6, k7, k8, j1, _, b3, b4, _, _, _, _, 8, h1, h2⟩
/-! # Bd5 -/
theorem cls_ld : Value.type "list" ≠ Value.type "dict" := by decide
theorem cls_dl : Value.type "dict" ≠ Value.type "list" := by decide
theorem cls_td : Value.type "tuple" ≠ Value.type "dict" := by decide
theorem cls_tl : Value.type "tuple" ≠ Value.type "list" := by decide
theorem cls_rd : Value.ref 180 ≠ Value.type "dict" := by intro e; cases e
theorem cls_rl : Value.ref 180 ≠ Value.type "list" := by intro e; cases e

def SchedOk (w : World) (T : Tr) (p : Program) (loose : List Str) (mean : ExcName → Option Value) (mg mb : Str → Option Value) (v c0 : Nat) : Prop :=
  ∀ (dp un : Nat) (gd : Option (List Code)) (cn : Str) (cs : Scope) (a : Addr) (ccd : Value) (cl : List (Str × Addr)) (outer : List Env) (A₀ : Around) (base h₀ : Heap) (L : Addr) (m : Str → Option Value) (s : Shared) (Q E : Value → Shared → Prop)
    (news : List (Addr × Obj)) (cnt : Nat → Nat),
    Below A₀ base outer h₀ → Fr h₀ L s.heap m → (hd.heap_1 w.params).In h₀ → Top p loose mean mg mb h₀ → cs.kind = .function → dp + c0 < 1000 → un + 10 * c0 < 9900 → News h₀ L s.heap news → (∀ u, v ≤ u → u ≤ T.many → Node w T news cnt u) →
    (∀ r j h' tk' news' cnt', Sch T v cnt r cnt' → Fr h₀ L h' m → News h₀ L h' news' → (∀ u, v ≤ u → u ≤ T.many → Node w T news' cnt' u) →
      (∀ q ∈ news, (∀ u, v ≤ u → u ≤ T.many → q.1 ≠ T.da u ∧ q.1 ≠ T.qa u) → q ∈ news') → Q (.int r j) { s with heap := h', toks := tk' }) →
    wpAny (model PR w) (ktrTop dp un gd cn cs L a ccd cl outer) (call (.ref 128) [.ref (T.sa v)]) Q E s

section
variable {h₀ h : Heap} {L : Addr} {w : World} {T : Tr} {news : List (Addr × Obj)} {cnt : Nat → Nat} {v : Nat}
/-- an object or a tuple of the ledger stands at none of the trees' dicts or queues -/
theorem off_kind (N : News h₀ L h news) {u : Nat} (hN : Node w T news cnt u) {q : Addr × Obj} (hq : q ∈ news) (hc : q.2.cls = .type "tuple" ∨ q.2.cls = .ref 180) : q.1 ≠ T.da u ∧ q.1 ≠ T.qa u := by
  obtain ⟨_, ⟨_, _, _, _, _, _, _, _, _, _, _, _, _, _, _, h2⟩, _, _, h3, _⟩ := hN
  obtain ⟨a, o⟩ := q
  refine ⟨news_ne N hq h2 ?_, news_ne N hq h3 ?_⟩
  · rcases hc with e | e
    · rw [show o.cls = _ from e]; exact cls_td
    · rw [show o.cls = _ from e]; exact cls_rd
  · rcases hc with e | e
    · rw [show o.cls = _ from e]; exact cls_tl
    · rw [show o.cls = _ from e]; exact cls_rl
theorem off_dq (N : News h₀ L h news) {u u' : Nat} (hN : Node w T news cnt u) (hN' : Node w T news cnt u') : T.da u ≠ T.qa u' := by
  obtain ⟨_, ⟨_, _, _, _, _, _, _, _, _, _, _, _, _, _, _, h2⟩, _⟩ := hN
  obtain ⟨_, _, _, _, h3, _⟩ := hN'
  exact news_ne N h2 h3 cls_dl
end
theorem allLt_at {d : Nat} {l : List (Addr × Obj)} (h : AllLt d l) (q : Addr × Obj) (hq : q ∈ l) : @LT.lt Nat _ q.1 d := tb_ltOf h q hq
theorem sched_all {w : World} {T : Tr} {p : Program} {loose : List Str} {mean : ExcName → Option Value} {mg mb : Str → Option Value} (hW : T.WF) :
    ∀ D v, v ≤ T.many → T.many < v + D → T.lf v = false → SchedOk w T p loose mean mg mb v (20 + 3 * D) := by
  intro D
  induction D with
  | zero => intro v h1 h2; omega
  | succ D ih =>
    intro v hv hD hl dp un gd cn cs a ccd cl outer A₀ base h₀ L m s Q E news cnt B F X Tp hk hdp hun N hN ret
    have TK : ∀ q ∈ news, (q.2.cls = .type "tuple" ∨ q.2.cls = .ref 180) → ∀ u, v ≤ u → u ≤ T.many → q.1 ≠ T.da u ∧ q.1 ≠ T.qa u := fun q hq hc u h1 h2 => off_kind N (hN u h1 h2) hq hc
    have DQ : ∀ u u', v ≤ u → u ≤ T.many → v ≤ u' → u' ≤ T.many → T.da u ≠ T.qa u' := fun u u' h1 h2 h3 h4 => off_dq N (hN u h1 h2) (hN u' h3 h4)
    have hNv := hN v (Nat.le_refl _) hv
    obtain ⟨a1, ⟨k1, k2, k3, k4, k5, k6, k7, k8, j1, j2, j7, j8, b3, b4, lw, a2⟩, qs, n, a3, q3⟩ := hNv
    rw [hl] at a2
    obtain ⟨c0, hc0⟩ := hW.lf0 v hv hl
    have hne := (q3.all c0).mpr hc0
    obtain ⟨⟨c, t⟩, qs', rfl⟩ : ∃ x r, qs = x :: r := by
      cases qs with
      | nil => cases hne
      | cons x r => exact ⟨x, r, rfl⟩
    have hkc : T.kid v c := (q3.all c).mp (.head _)
    obtain ⟨hc1, hcm, hpc⟩ := id hkc
    have hvc : v < c := by have := hW.up c hc1 hcm; omega
    have hNc := hN c (Nat.le_of_lt hvc) hcm
    obtain ⟨b1, ⟨l1, l2, l3, l4, l5, l6, l7, l8, i1, i2, i7, i8, c3, c4, lc, b2⟩, qc, nq, b5, q4⟩ := hNc
    obtain ⟨u, n1, t1⟩ := q3.tup (c, t) (.head _)
    have hsrt := List.pairwise_cons.mp q3.srt
    have hbest : Best T cnt v c := ⟨hkc, fun o ho hne => by
      rcases List.mem_cons.mp ((q3.all o).mpr ho) with e | e
      · exact absurd e hne
      · exact hsrt.1 o e⟩
    have hqk : ∀ q ∈ qs', T.kid v q.1 := fun q hq => (q3.all q.1).mp (.tail _ (List.mem_map_of_mem hq))
    have hqc : ∀ q ∈ qs', q.1 ≠ c := fun q hq e => by
      have := hsrt.1 q.1 (List.mem_map_of_mem hq)
      rw [e] at this
      have h2 := klt_irr (T.key cnt c)
      rw [this] at h2; cases h2
    have d1 : T.qa v ≠ T.da v := Ne.symm (DQ v v (Nat.le_refl _) hv (Nat.le_refl _) hv)
    have d2 : T.qa v ≠ T.da c := Ne.symm (DQ c v (Nat.le_of_lt hvc) hcm (Nat.le_refl _) hv)
    have d3 : T.da v ≠ T.da c := fun e => by have := hW.daI v c hv hcm e; omega
    -- the ledger, with the three that change in front
    obtain ⟨rest, hrest⟩ : ∃ rest : List (Addr × Obj), ∀ q, q ∈ rest ↔ q ∈ news ∧ q.1 ≠ T.qa v ∧ q.1 ≠ T.da v ∧ q.1 ≠ T.da c :=
      ⟨news.filter fun q => decide (q.1 ≠ T.qa v ∧ q.1 ≠ T.da v ∧ q.1 ≠ T.da c), fun q => by rw [List.mem_filter, decide_eq_true_eq]⟩
    have N1 : News h₀ L s.heap ((T.qa v, W.listOf ((t :: qs'.map (·.2)).map Value.ref).toArray n) ::
        (T.da v, dictOf (ents w.params k1 k2 k3 k4 k5 k6 k7 k8 (.int (T.nm v) j1) (.int (T.wt v) j2) b3 b4 (.ref (T.qa v)) (.bool false) (.int lw j7) (.int (T.dfc cnt v) j8)) 8) ::
        (T.da c, dictOf (ents w.params l1 l2 l3 l4 l5 l6 l7 l8 (.int (T.nm c) i1) (.int (T.wt c) i2) c3 c4 (.ref (T.qa c)) (.bool (T.lf c)) (.int lc i7) (.int (T.dfc cnt c) i8)) 8) :: rest) := by
      intro q hq
      rcases List.mem_cons.mp hq with rfl | hq
      · exact N _ a3
      rcases List.mem_cons.mp hq with rfl | hq
      · exact N _ a2
      rcases List.mem_cons.mp hq with rfl | hq
      · exact N _ b2
      · exact N _ ((hrest q).mp hq).1
    have keepU : ∀ u, v < u → u ≤ T.many → ∀ q ∈ news, (q.2.cls = .type "tuple" ∨ q.2.cls = .ref 180 ∨ q.1 = T.da u ∨ q.1 = T.qa u) → q.1 ≠ T.qa v ∧ q.1 ≠ T.da v := by
      intro u h1 h2 q hq hc
      rcases hc with e | e | e | e
      · have := TK q hq (.inl e) v (Nat.le_refl _) hv; exact ⟨this.2, this.1⟩
      · have := TK q hq (.inr e) v (Nat.le_refl _) hv; exact ⟨this.2, this.1⟩
      · rw [e]; exact ⟨DQ u v (by omega) h2 (Nat.le_refl _) hv, fun e => by have := hW.daI u v h2 hv e; omega⟩
      · rw [e]; exact ⟨fun e => by have := hW.qaI u v h2 hv e; omega, Ne.symm (DQ v u (Nat.le_refl _) hv (by omega) h2)⟩
    have keepC : ∀ u, v < u → u ≤ T.many → u ≠ c → ∀ q ∈ news, (q.2.cls = .type "tuple" ∨ q.2.cls = .ref 180 ∨ q.1 = T.da u ∨ q.1 = T.qa u) → q.1 ≠ T.da c := by
      intro u h1 h2 h3 q hq hc
      rcases hc with e | e | e | e
      · exact (TK q hq (.inl e) c (by omega) hcm).1
      · exact (TK q hq (.inr e) c (by omega) hcm).1
      · rw [e]; exact fun e => h3 (hW.daI u c h2 hcm e)
      · rw [e]; exact Ne.symm (DQ c u (by omega) hcm (by omega) h2)
    have m1 : (T.sa v, instObj 180 (T.da v)) ∈ rest := (hrest _).mpr ⟨a1, (TK _ a1 (.inr rfl) v (Nat.le_refl _) hv).2, (TK _ a1 (.inr rfl) v (Nat.le_refl _) hv).1, (TK _ a1 (.inr rfl) c (by omega) hcm).1⟩
    have m2 : (T.sa c, instObj 180 (T.da c)) ∈ rest := (hrest _).mpr ⟨b1, (TK _ b1 (.inr rfl) v (Nat.le_refl _) hv).2, (TK _ b1 (.inr rfl) v (Nat.le_refl _) hv).1, (TK _ b1 (.inr rfl) c (by omega) hcm).1⟩
    have tupR : ∀ q ∈ news, q.2.cls = .type "tuple" → q ∈ rest := fun q hq hc => (hrest q).mpr ⟨hq, (TK q hq (.inl hc) v (Nat.le_refl _) hv).2, (TK q hq (.inl hc) v (Nat.le_refl _) hv).1, (TK q hq (.inl hc) c (by omega) hcm).1⟩
    have m3 := tupR _ t1 rfl
    have bq : (T.qa c, W.listOf ((qc.map (·.2)).map Value.ref).toArray nq) ∈ rest := (hrest _).mpr ⟨b5, fun e => by have := hW.qaI c v hcm hv e; omega, Ne.symm (DQ v c (Nat.le_refl _) hv (by omega) hcm), Ne.symm (DQ c c (by omega) hcm (by omega) hcm)⟩
    refine sched_body (lfc := T.lf c) (t := t) (ts := qs'.map (·.2)) (ks := qs'.map fun q => T.key cnt q.1) (rest := rest)
      (P := fun r rest2 => ∃ cnt', (T.lf c = true → cnt' = cnt ∧ r = T.nm c) ∧ (T.lf c = false → Sch T c cnt r cnt') ∧ (∀ x, (1 ≤ x → x ≤ T.many → T.par x < c) → cnt' x = cnt x) ∧
        (∀ u, v < u → u ≤ T.many → u ≠ c → Node w T rest2 cnt' u) ∧ (∃ qs n, (T.qa c, W.listOf ((qs.map (·.2)).map Value.ref).toArray n) ∈ rest2 ∧ Que T rest2 cnt' c qs) ∧
        (∀ q ∈ qs', ∃ u n, (q.2, tupO (T.lev cnt q.1) u (T.sa q.1) n) ∈ rest2) ∧ (T.sa v, instObj 180 (T.da v)) ∈ rest2 ∧ (T.sa c, instObj 180 (T.da c)) ∈ rest2 ∧
        (∀ q ∈ news, (∀ u, v ≤ u → u ≤ T.many → q.1 ≠ T.da u ∧ q.1 ≠ T.qa u) → q ∈ rest2))
      B F X Tp hk (by omega) (by omega) N1 m1 m2 m3 d1 d2 d3 (fun q hq => ((hrest q).mp hq).2.1) (fun q hq => ((hrest q).mp hq).2.2.1) (fun q hq => ((hrest q).mp hq).2.2.2)
      (by have := q3.len; simp only [List.length_cons, List.length_map] at this ⊢; omega) (hW.w1 c hcm) (hW.w2 c hcm) ?leaf ?hent ?rec ?ret
    case leaf =>
      intro hlf
      refine ⟨cnt, fun _ => ⟨rfl, rfl⟩, fun e => absurd (hlf.symm.trans e) (by decide), fun _ _ => rfl, fun u h1 h2 h3 => ?_, ⟨qc, nq, bq, q4.mono tupR⟩, fun q hq => ?_, m1, m2, fun q hq ho => ?_⟩
      · exact (hN u (by omega) h2).to fun q hq hc => (hrest q).mpr ⟨hq, (keepU u h1 h2 q hq hc).1, (keepU u h1 h2 q hq hc).2, keepC u h1 h2 h3 q hq hc⟩
      · obtain ⟨u, n, hm⟩ := q3.tup q (.tail _ hq)
        exact ⟨u, n, tupR _ hm rfl⟩
      · exact (hrest q).mpr ⟨hq, (ho v (Nat.le_refl _) hv).2, (ho v (Nat.le_refl _) hv).1, (ho c (by omega) hcm).1⟩
    case hent =>
      rintro r rest2 ⟨cnt', _, _, _, hnodes, _, htup, _⟩ _ j hj
      have hj' : j < qs'.length := by simpa using hj
      obtain ⟨u, n, hm⟩ := htup qs'[j] (List.getElem_mem hj')
      have hk2 := hqk qs'[j] (List.getElem_mem hj')
      have hn2 := hqc qs'[j] (List.getElem_mem hj')
      have hu := hW.up _ hk2.1 hk2.2.1
      rw [hk2.2.2] at hu
      have hs := (hnodes _ hu hk2.2.1 hn2).strm
      have e1 : (qs'.map (·.2))[j] = qs'[j].2 := by simp
      have e2 : (qs'.map fun q => T.key cnt q.1).getD j (0, 0) = T.key cnt qs'[j].1 := by simp [List.getD, hj']
      rw [e1, e2]
      exact ⟨u, _, n, hm, hs⟩
    case rec =>
      intro hlf dp' un' gd' cn' cs' a' ccd' cl' outer' A₀' base' g L' m' s' Q' E' pl B' F' X' Tp' hk' hd' hu' N' hlt cont
      have hltR : ∀ q ∈ rest, @LT.lt Nat _ q.1 pl := fun q hq => allLt_at hlt.2.2.2 q hq
      -- the ledger ahead of the inner call
      have inN : ∀ q ∈ news, q.1 ≠ T.qa v → q.1 ≠ T.da v → q ∈ ((pl, W.listOf #[.ref t] 1) :: (T.qa v, W.listOf ((qs'.map (·.2)).map Value.ref).toArray (n + 1)) ::
          (T.da v, dictOf (ents w.params k1 k2 k3 k4 k5 k6 k7 k8 (.int (T.nm v) j1) (.int (T.wt v) j2) b3 b4 (.ref (T.qa v)) (.bool false) (.int lw j7) (.int (T.dfc cnt v) j8)) 8) ::
          (T.da c, dictOf (ents w.params l1 l2 l3 l4 l5 l6 l7 l8 (.int (T.nm c) i1) (.int (T.wt c) i2) c3 c4 (.ref (T.qa c)) (.bool (T.lf c)) (.int lc i7) (.int (T.dfc cnt c) i8)) 8) :: rest) := by
        intro q hq h1 h2
        by_cases h3 : q.1 = T.da c
        · obtain ⟨qa, qo⟩ := q
          have h3' : qa = T.da c := h3
          subst h3'
          rw [news_fun N hq b2]
          exact .tail _ (.tail _ (.tail _ (.head _)))
        · exact .tail _ (.tail _ (.tail _ (.tail _ ((hrest q).mpr ⟨hq, h1, h2, h3⟩))))
      have ltN : ∀ q ∈ news, q.1 ≠ T.qa v → q.1 ≠ T.da v → @LT.lt Nat _ q.1 pl := by
        intro q hq h1 h2
        by_cases h3 : q.1 = T.da c
        · rw [h3]; exact hlt.2.2.1
        · exact hltR q ((hrest q).mpr ⟨hq, h1, h2, h3⟩)
      have nodes' : ∀ u, v < u → u ≤ T.many → Node w T _ cnt u := fun u h1 h2 => (hN u (by omega) h2).to fun q hq hc => inN q hq (keepU u h1 h2 q hq hc).1 (keepU u h1 h2 q hq hc).2
      refine ih c hcm (by omega) hlf dp' un' gd' cn' cs' a' ccd' cl' outer' A₀' base' g L' m' s' Q' E' _ cnt B' F' X' Tp' hk' (by omega) (by omega) N' (fun u h1 h2 => nodes' u (by omega) h2) ?_
      intro r j h' tk' news2 cnt' hS F2 N2 nodes2 keep2
      have same : ∀ x, (1 ≤ x → x ≤ T.many → T.par x < c) → cnt' x = cnt x := fun x hx => hS.same hW hx
      have ltD : ∀ u, v < u → u ≤ T.many → @LT.lt Nat _ (T.da u) pl ∧ @LT.lt Nat _ (T.qa u) pl := by
        intro u h1 h2
        obtain ⟨_, ⟨_, _, _, _, _, _, _, _, _, _, _, _, _, _, _, e2⟩, _, _, e3, _⟩ := hN u (by omega) h2
        have f2 := keepU u h1 h2 _ e2 (.inr (.inr (.inl rfl)))
        have f3 := keepU u h1 h2 _ e3 (.inr (.inr (.inr rfl)))
        exact ⟨ltN _ e2 f2.1 f2.2, ltN _ e3 f3.1 f3.2⟩
      have nodes3 : ∀ u, v < u → u ≤ T.many → Node w T news2 cnt' u := by
        intro u h1 h2
        by_cases h3 : c ≤ u
        · exact nodes2 u h3 h2
        · have h3' : u < c := by omega
          refine ((nodes' u h1 h2).to fun q hq hc => keep2 q hq fun u' h4 h5 => ?_).congr (same u fun h4 h5 => by have := hW.up u h4 h5; omega) (fun x hx => same x fun _ _ => by rw [hx.2.2]; exact h3')
          have hn' := nodes' u' (by omega) h5
          rcases hc with e | e | e | e
          · exact off_kind N' hn' hq (.inl e)
          · exact off_kind N' hn' hq (.inr e)
          · rw [e]; exact ⟨fun e => by have := hW.daI u u' h2 h5 e; omega, off_dq N' (nodes' u h1 h2) hn'⟩
          · rw [e]; exact ⟨Ne.symm (off_dq N' hn' (nodes' u h1 h2)), fun e => by have := hW.qaI u u' h2 h5 e; omega⟩
      have p1 := keep2 _ (.head _) fun u h1 h2 => ⟨Nat.ne_of_gt (ltD u (by omega) h2).1, Nat.ne_of_gt (ltD u (by omega) h2).2⟩
      have p2 := keep2 _ (.tail _ (.head _)) fun u h1 h2 => ⟨Ne.symm (DQ u v (by omega) h2 (Nat.le_refl _) hv), fun e => by have := hW.qaI v u hv h2 e; omega⟩
      have p3 := keep2 _ (.tail _ (.tail _ (.head _))) fun u h1 h2 => ⟨fun e => by have := hW.daI v u hv h2 e; omega, DQ v u (Nat.le_refl _) hv (by omega) h2⟩
      have inR : ∀ q ∈ rest, (∀ u, c ≤ u → u ≤ T.many → q.1 ≠ T.da u ∧ q.1 ≠ T.qa u) → q ∈ news2 := fun q hq ho => keep2 q (.tail _ (.tail _ (.tail _ (.tail _ hq)))) ho
      have TK2 : ∀ q ∈ news, (q.2.cls = .type "tuple" ∨ q.2.cls = .ref 180) → ∀ u, c ≤ u → u ≤ T.many → q.1 ≠ T.da u ∧ q.1 ≠ T.qa u := fun q hq hc u h1 h2 => TK q hq hc u (by omega) h2
      have e1 := inR _ m1 (TK2 _ a1 (.inr rfl))
      have e2 := inR _ m2 (TK2 _ b1 (.inr rfl))
      have e3 := inR _ m3 (TK2 _ t1 (.inl rfl))
      have hc' := same c (fun _ _ => by rw [hpc]; exact hvc)
      obtain ⟨_, ⟨x1, x2, x3, x4, x5, x6, x7, x8, y1, y2, y7, y8, z3, z4, lc', b2'⟩, qc', nq', b5', q4'⟩ := nodes2 c (Nat.le_refl _) hcm
      have hdf : T.dfc cnt' c = T.dfc cnt c := by unfold Tr.dfc; rw [hc']
      rw [hdf] at b2'
      obtain ⟨rest2, hrest2⟩ : ∃ rest2 : List (Addr × Obj), ∀ q, q ∈ rest2 ↔ q ∈ news2 ∧ q.1 ≠ T.qa v ∧ q.1 ≠ T.da v ∧ q.1 ≠ T.da c ∧ @Ne Nat q.1 pl :=
        ⟨news2.filter fun q => decide (q.1 ≠ T.qa v ∧ q.1 ≠ T.da v ∧ q.1 ≠ T.da c ∧ @Ne Nat q.1 pl), fun q => by rw [List.mem_filter, decide_eq_true_eq]⟩
      -- what is of a tuple's or an object's kind, or a node's own, stays
      have K2 : ∀ q ∈ news2, (q.2.cls = .type "tuple" ∨ q.2.cls = .ref 180) → q ∈ rest2 := by
        intro q hq hc
        obtain ⟨qa, qo⟩ := q
        refine (hrest2 _).mpr ⟨hq, news_ne N2 hq p2 ?_, news_ne N2 hq p3 ?_, news_ne N2 hq b2' ?_, news_ne N2 hq p1 ?_⟩
        · rcases hc with e | e
          · rw [show qo.cls = _ from e]; exact cls_tl
          · rw [show qo.cls = _ from e]; exact cls_rl
        · rcases hc with e | e
          · rw [show qo.cls = _ from e]; exact cls_td
          · rw [show qo.cls = _ from e]; exact cls_rd
        · rcases hc with e | e
          · rw [show qo.cls = _ from e]; exact cls_td
          · rw [show qo.cls = _ from e]; exact cls_rd
        · rcases hc with e | e
          · rw [show qo.cls = _ from e]; exact cls_tl
          · rw [show qo.cls = _ from e]; exact cls_rl
      have KQ : ∀ u, v < u → u ≤ T.many → ∀ q ∈ news2, q.1 = T.qa u → q ∈ rest2 := by
        intro u h1 h2 q hq e
        refine (hrest2 _).mpr ⟨hq, ?_, ?_, ?_, ?_⟩
        · rw [e]; exact fun e => by have := hW.qaI u v h2 hv e; omega
        · rw [e]; exact Ne.symm (DQ v u (Nat.le_refl _) hv (by omega) h2)
        · rw [e]; exact Ne.symm (DQ c u (by omega) hcm (by omega) h2)
        · rw [e]; exact Nat.ne_of_lt (ltD u h1 h2).2
      have KD : ∀ u, v < u → u ≤ T.many → u ≠ c → ∀ q ∈ news2, q.1 = T.da u → q ∈ rest2 := by
        intro u h1 h2 h3 q hq e
        refine (hrest2 _).mpr ⟨hq, ?_, ?_, ?_, ?_⟩
        · rw [e]; exact DQ u v (by omega) h2 (Nat.le_refl _) hv
        · rw [e]; exact fun e => by have := hW.daI u v h2 hv e; omega
        · rw [e]; exact fun e => h3 (hW.daI u c h2 hcm e)
        · rw [e]; exact Nat.ne_of_lt (ltD u h1 h2).1
      refine cont r j h' tk' rest2 x1 x2 x3 x4 x5 x6 x7 x8 y1 y2 y7 y8 z3 z4 lc' F2 (fun q hq => ?_) (K2 _ e1 (.inr rfl)) (K2 _ e2 (.inr rfl)) (K2 _ e3 (.inl rfl))
        (fun q hq => ((hrest2 q).mp hq).2.1) (fun q hq => ((hrest2 q).mp hq).2.2.1) (fun q hq => ((hrest2 q).mp hq).2.2.2.1) (fun q hq => ((hrest2 q).mp hq).2.2.2.2)
        ⟨cnt', fun e => absurd (hlf.symm.trans e) (by decide), fun _ => hS, same, fun u h1 h2 h3 => ?_, ⟨qc', nq', KQ c hvc hcm _ b5' rfl, q4'.mono fun q hq hc => K2 q hq (.inl hc)⟩, fun q hq => ?_, K2 _ e1 (.inr rfl), K2 _ e2 (.inr rfl), fun q hq ho => ?_⟩
      · rcases List.mem_cons.mp hq with rfl | hq
        · exact N2 _ p1
        rcases List.mem_cons.mp hq with rfl | hq
        · exact N2 _ p2
        rcases List.mem_cons.mp hq with rfl | hq
        · exact N2 _ p3
        rcases List.mem_cons.mp hq with rfl | hq
        · exact N2 _ b2'
        · exact N2 _ ((hrest2 q).mp hq).1
      · refine (nodes3 u h1 h2).to fun q hq hc => ?_
        rcases hc with e | e | e | e
        · exact K2 q hq (.inl e)
        · exact K2 q hq (.inr e)
        · exact KD u h1 h2 h3 q hq e
        · exact KQ u h1 h2 q hq e
      · obtain ⟨u, n, hm⟩ := q3.tup q (.tail _ hq)
        exact ⟨u, n, K2 _ (inR _ (tupR _ hm rfl) (TK2 _ hm (.inl rfl))) (.inl rfl)⟩
      · have q1 := inR q ((hrest q).mpr ⟨hq, (ho v (Nat.le_refl _) hv).2, (ho v (Nat.le_refl _) hv).1, (ho c (by omega) hcm).1⟩) fun u h1 h2 => ho u (by omega) h2
        exact (hrest2 q).mpr ⟨q1, (ho v (Nat.le_refl _) hv).2, (ho v (Nat.le_refl _) hv).1, (ho c (by omega) hcm).1, Nat.ne_of_lt (ltN q hq (ho v (Nat.le_refl _) hv).2 (ho v (Nat.le_refl _) hv).1)⟩
    case ret =>
      rintro r j rest2 nF h' tk' tt u' n' x1 x2 x3 x4 x5 x6 x7 x8 y1 y2 y7 y8 y9 z3 z4 lc' lw' F2 N2 ⟨cnt', hleaf, hnode, same, hnodes, ⟨qc', nq', b5', q4'⟩, htup, e1, e2, hkeep⟩ hsub mq mt mdv mdc
      have hc' := same c (fun _ _ => by rw [hpc]; exact hvc)
      have hv' := same v (fun h1 h2 => by have := hW.up v h1 h2; omega)
      have hbc : ∀ x, x ≠ c → bump c cnt' x = cnt' x := fun x hx => by simp [bump, hx]
      have hbcc : bump c cnt' c = cnt c + 1 := by simp [bump, hc']
      have hlev : T.lev cnt c + (256 + T.dfc cnt c).fdiv (T.wt c) = T.lev (bump c cnt') c := by
        unfold Tr.lev Tr.dfc; rw [hbcc]; exact (lev_step (hW.w1 c hcm)).symm
      have hdfc : (256 + T.dfc cnt c).fmod (T.wt c) = T.dfc (bump c cnt') c := by
        unfold Tr.dfc; rw [hbcc]; exact (dfc_step (hW.w1 c hcm)).symm
      have hq' : ∀ q ∈ qs', bump c cnt' q.1 = cnt q.1 := fun q hq => by
        rw [hbc _ (hqc q hq)]; exact same _ (fun _ _ => by rw [(hqk q hq).2.2]; exact hvc)
      rw [hdfc] at mdc
      rw [hlev] at mq mt
      refine ret r j h' tk' nF (bump c cnt') ?_ F2 N2 (fun u h1 h2 => ?_) (fun q hq ho => hsub q (hkeep q hq ho))
      · cases hlf : T.lf c with
        | true =>
          obtain ⟨rfl, rfl⟩ := hleaf hlf
          exact .leaf hbest hlf
        | false => exact .node hbest hlf (hnode hlf)
      · by_cases huv : u = v
        · subst huv
          have hdv : T.dfc (bump c cnt') u = T.dfc cnt u := by unfold Tr.dfc; rw [hbc u (by omega), hv']
          refine ⟨hsub _ e1, ⟨k1, k2, k3, k4, k5, k6, k7, k8, j1, j2, y9, j8, b3, b4, lw', by rw [hl, hdv]; exact mdv⟩, qs'.take (plc (T.lev (bump c cnt') c, T.nm c) (qs'.map fun q => T.key cnt q.1) (qs'.map (·.2)).length) ++ (c, tt) :: qs'.drop (plc (T.lev (bump c cnt') c, T.nm c) (qs'.map fun q => T.key cnt q.1) (qs'.map (·.2)).length), n', ?_, ?_⟩
          · simp only [List.map_append, List.map_cons, List.map_take, List.map_drop] at mq ⊢
            exact mq
          · generalize hp : plc (T.lev (bump c cnt') c, T.nm c) (qs'.map fun q => T.key cnt q.1) (qs'.map (·.2)).length = pp at mq ⊢
            have hmem : ∀ q, q ∈ qs'.take pp ++ (c, tt) :: qs'.drop pp ↔ q = (c, tt) ∨ q ∈ qs' := by
              intro q
              rw [List.mem_append, List.mem_cons]
              constructor
              · rintro (h | h | h)
                · exact .inr (List.mem_of_mem_take h)
                · exact .inl h
                · exact .inr (List.mem_of_mem_drop h)
              · rintro (h | h)
                · exact .inr (.inl h)
                · have h2 : q ∈ qs'.take pp ++ qs'.drop pp := by rw [List.take_append_drop]; exact h
                  rcases List.mem_append.mp h2 with h | h
                  · exact .inl h
                  · exact .inr (.inr h)
            refine ⟨fun x => ?_, ?_, fun q hq => ?_, ?_⟩
            · rw [← q3.all x]
              simp only [List.mem_map, List.mem_cons, hmem]
              constructor
              · rintro ⟨q, h | h, rfl⟩
                · exact ⟨(c, t), .inl rfl, by rw [h]⟩
                · exact ⟨q, .inr h, rfl⟩
              · rintro ⟨q, h | h, rfl⟩
                · exact ⟨(c, tt), .inl rfl, by rw [h]⟩
                · exact ⟨q, .inr h, rfl⟩
            · rw [List.map_append, List.map_cons, List.map_take, List.map_drop, ← hp]
              have hks : (qs'.map fun q => T.key cnt q.1) = (qs'.map (·.1)).map (T.key (bump c cnt')) := by
                rw [List.map_map]
                refine List.map_congr_left fun q hq => ?_
                show T.key cnt q.1 = T.key (bump c cnt') q.1
                unfold Tr.key Tr.lev; rw [hq' q hq]
              rw [hks, show (qs'.map (·.2)).length = (qs'.map (·.1)).length from by simp]
              refine ins_sorted (k := (T.lev (bump c cnt') c, T.nm c)) ?_ ?_ rfl rfl
              · refine hsrt.2.imp_of_mem ?_
                intro a b ha hb hab
                obtain ⟨qa, hqa, rfl⟩ := List.mem_map.mp ha
                obtain ⟨qb, hqb, rfl⟩ := List.mem_map.mp hb
                unfold Tr.key Tr.lev at hab ⊢
                rw [hq' qa hqa, hq' qb hqb]; exact hab
              · intro o ho e
                obtain ⟨qo, hqo, rfl⟩ := List.mem_map.mp ho
                exact hqc qo hqo (hW.nmI _ _ (hqk qo hqo).2.1 hcm e)
            · rcases (hmem q).mp hq with rfl | hq
              · exact ⟨u', 0, mt⟩
              · obtain ⟨u2, n2, hm⟩ := htup q hq
                refine ⟨u2, n2, ?_⟩
                have : T.lev (bump c cnt') q.1 = T.lev cnt q.1 := by unfold Tr.lev; rw [hq' q hq]
                rw [this]; exact hsub _ hm
            · have := q3.len
              simp only [List.length_append, List.length_cons, List.length_take, List.length_drop] at this ⊢
              omega
        · have h1' : v < u := by omega
          by_cases huc : u = c
          · subst huc
            refine ⟨hsub _ e2, ⟨x1, x2, x3, x4, x5, x6, x7, x8, y1, y2, y7, y8, z3, z4, lc', mdc⟩, qc', nq', hsub _ b5', (q4'.mono fun q hq _ => hsub q hq).congr fun x hx => hbc x fun e => ?_⟩
            have := hW.up x hx.1 hx.2.1
            rw [hx.2.2, e] at this
            exact absurd this (Nat.lt_irrefl _)
          · refine ((hnodes u h1' h2 huc).mono hsub).congr (hbc u huc) fun x hx => hbc x fun e => ?_
            rw [e] at hx
            have : T.par c = u := hx.2.2
            rw [hpc] at this
            omega
/-! # Bd6 -/
/-- a turn's end: the iterator stands, the word holds of the rest of the ledger -/
def TEnd (h₀ : Heap) (L : Addr) (I : Addr) (o : Obj) (J : (Str → Option Value) → List (Addr × Obj) → Prop) (Q : Flow → Shared → Prop) (s₁ : Shared) (f : Flow) (s₂ : Shared) : Prop :=
  match f with
  | .ret v => Q (.ret v) s₂
  | .brk => Q .next s₂
  | _ => ∃ h' tk m' all, s₂ = { s₁ with heap := h', toks := tk } ∧ Fr h₀ L h' m' ∧ News h₀ L h' all ∧ (I, o) ∈ all ∧ J m' (all.filter fun q => decide (@Ne Nat q.1 I))
theorem TEnd.next {h₀ h' : Heap} {L I : Addr} {o : Obj} {J : (Str → Option Value) → List (Addr × Obj) → Prop} {Q : Flow → Shared → Prop} {s₁ : Shared} {tk : Nat} {m' : Str → Option Value} {all : List (Addr × Obj)}
    (F : Fr h₀ L h' m') (N : News h₀ L h' all) (hI : (I, o) ∈ all) (hJ : J m' (all.filter fun q => decide (@Ne Nat q.1 I))) : TEnd h₀ L I o J Q s₁ .next { s₁ with heap := h', toks := tk } := ⟨h', tk, m', all, rfl, F, N, hI, hJ⟩
theorem TEnd.ret {h₀ : Heap} {L I : Addr} {o : Obj} {J : (Str → Option Value) → List (Addr × Obj) → Prop} {Q : Flow → Shared → Prop} {s₁ s₂ : Shared} {v : Value} (h : Q (.ret v) s₂) : TEnd h₀ L I o J Q s₁ (.ret v) s₂ := h

theorem mem_off {I : Nat} {all : List (Addr × Obj)} {q : Addr × Obj} (h : q ∈ all) (hne : @Ne Nat q.1 I) : q ∈ all.filter fun q => decide (@Ne Nat q.1 I) := List.mem_filter.mpr ⟨h, decide_eq_true hne⟩
theorem mem_offK {h₀ h : Heap} {L I a : Addr} {all : List (Addr × Obj)} {o o' : Obj} (N : News h₀ L h all) (hI : (I, o) ∈ all) (hm : (a, o') ∈ all) (hc : o'.cls ≠ o.cls) : (a, o') ∈ all.filter fun q => decide (@Ne Nat q.1 I) :=
  mem_off hm (news_ne N hm hI hc)

section
variable {prog9 : Program} {w9 : World} {A9 : Around} {E9 : Value → Shared → Prop} {s9 : Shared} {env9 : Env} {h₀ : Heap} {x9 : Str} {px9 : Pos} {body9 : List Stmt} {Q9 : Flow → Shared → Prop} {L9 : Addr} {m₀ : Str → Option Value} {news9 : List (Addr × Obj)}

theorem turns_J {I : Addr} {fp9 : List Addr} {n9 : Nat} {P9 : Nat → Value → Prop} {St9 : Nat → Heap → Prop} (cI : Value) (J : Nat → (Str → Option Value) → List (Addr × Obj) → Prop)
    (W : Walks prog9 w9 A9 I fp9 [I] n9 P9 St9) (hL : env9.locals = L9) (hIf : I ∈ fp9) (hfp : ∀ b ∈ fp9, b = I ∨ (∃ q, h₀.get? b = some q) ∨ ∃ lo, ∀ i m l9, J i m l9 → (b, lo) ∈ l9) (hI0 : h₀.get? I = none)
    (hob : ∀ i h, St9 i h → ∃ o, h.get? I = some o ∧ o.cls = cI) (hLf : L9 ∉ fp9) (hnw : ∀ p ∈ news9, p.1 ≠ I) (hst : St9 0 s9.heap) (F : Fr h₀ L9 s9.heap m₀) (N : News h₀ L9 s9.heap news9) (h0 : J 0 m₀ news9)
    (turn : ∀ i v m₁ news₁ h tk o, i < n9 → P9 i v → o.cls = cI → J i m₁ news₁ → (∀ p ∈ news₁, p.1 ≠ I) → Fr h₀ L9 h m₁ → News h₀ L9 h ((I, o) :: news₁) →
      wpAny (model prog9 w9) A9 (assign (.Name x9 px9) env9 v) (fun _ s₃ => wpAny (model prog9 w9) A9 (execs body9 env9) (TEnd h₀ L9 I o (J (i + 1)) Q9 { s9 with heap := h, toks := tk }) E9 s₃) E9 { s9 with heap := h, toks := tk })
    (done : ∀ m₁ news₁ h tk, J n9 m₁ news₁ → Fr h₀ L9 h m₁ → News h₀ L9 h news₁ → Q9 .next { s9 with heap := h, toks := tk }) :
    TurnsAt prog9 w9 A9 h₀ env9 (.Name x9 px9) body9 Q9 E9 (.ref I) s9 := by
  subst hL
  refine ⟨I, fp9, [I], n9, _, _, St9, m₀, news9, J, rfl, KTurns.ofWalks W (fun i v s9 Q9 E9 _ q => by show wpAny _ _ (pure () : Sem Unit) _ _ _; exact wpAny_pure q), hLf, (fun b hb => by rw [List.mem_singleton.mp hb]; exact hI0), (fun p hp hI => hnw p hp (List.mem_singleton.mp hI)), hst, F, N, h0, ?_, ?_⟩
  · intro i v m₁ news₁ h₁ tk₁ own hin hP hJ hoff hown hownh hall hst' F₁ N₁
    obtain ⟨o, ho, hoc⟩ := hob _ _ hst'
    have hio : (I, o) ∈ own := hall I hIf hI0 o ho
    have hoff' : ∀ p ∈ news₁, p.1 ≠ I := fun p hp e => hoff p hp (by rw [e]; exact List.mem_singleton.mpr rfl)
    refine wpAny_mono (turn i v m₁ news₁ h₁ tk₁ o hin hP hoc hJ hoff' F₁ (fun p hp => by
      rcases List.mem_cons.mp hp with rfl | hp
      · exact N₁ _ (List.mem_append_left _ hio)
      · exact N₁ _ (List.mem_append_right _ hp))) (fun _ s₂ h₂ => wpAny_mono h₂ (fun f s₃ h₃ => ?_) fun _ _ e => e) fun _ _ e => e
    have fin : (∃ h' tk m' all, s₃ = { ({ s9 with heap := h₁, toks := tk₁ } : Shared) with heap := h', toks := tk } ∧ Fr h₀ env9.locals h' m' ∧ News h₀ env9.locals h' all ∧ (I, o) ∈ all ∧ J (i + 1) m' (all.filter fun q => decide (@Ne Nat q.1 I))) →
        LoopStepU h₀ env9.locals [I] own (J (i + 1)) { s9 with heap := h₁, toks := tk₁ } .next s₃ := by
      rintro ⟨h', tk, m', all, rfl, F', N', hI, hJ'⟩
      refine ⟨rfl, h', tk, m', _, rfl, F', fun p hp => ?_, fun p hp hI => (of_decide_eq_true (List.mem_filter.mp hp).2) (List.mem_singleton.mp hI), hJ'⟩
      rcases List.mem_append.mp hp with hp | hp
      · obtain ⟨pa, po⟩ := p
        have hpa := N₁ _ (List.mem_append_left news₁ hp)
        have e3 : h₁.get? pa = some po := hownh _ hp
        rcases hfp pa (hown _ hp) with e | ⟨q, e⟩ | ⟨lo, e⟩
        · subst e
          have e2 : po = o := Option.some.inj (e3.symm.trans ho)
          subst e2
          exact N' _ hI
        · exact absurd (hpa.2.2.symm.trans e) (by simp)
        · have h4 := e _ _ _ hJ
          have e2 : po = lo := Option.some.inj (e3.symm.trans (N₁ _ (List.mem_append_right own h4)).1)
          subst e2
          exact N' _ (List.mem_filter.mp (e _ _ _ hJ')).1
      · exact N' p (List.mem_filter.mp hp).1
    cases f with
    | ret v => exact .ret h₃
    | brk => exact .brk h₃
    | next => exact .next (fin h₃)
    | cont => exact .cont (fin h₃)
  · intro h' tk m' news' F' N' _ hJ
    exact done m' news' h' tk hJ F' N'

theorem iter_rangeJ {r9 : Addr} {a₀ b₀ : Int} {t₀ u₀ v₀ : Tok} {n9 : Nat} (J : Nat → (Str → Option Value) → List (Addr × Obj) → Prop)
    (hL : env9.locals = L9) (hh : A9.handled = none) (hr : IsRange s9.heap r9 a₀ b₀ 1 t₀ u₀ v₀) (hsmall : Builtin.Range.small a₀ b₀ 1 = true) (hn : Builtin.Range.rangeSize a₀ b₀ 1 = (n9 : Int)) (F : Fr h₀ L9 s9.heap m₀) (N : News h₀ L9 s9.heap news9) (h0 : J 0 m₀ news9)
    (H : ∀ I : Nat, (∀ p ∈ news9, p.1 < I) →
      (∀ (i : Nat) t m₁ news₁ h tk o, i < n9 → o.cls = .type "range_iterator" → J i m₁ news₁ → (∀ p ∈ news₁, p.1 ≠ I) → Fr h₀ L9 h m₁ → News h₀ L9 h ((I, o) :: news₁) →
        wpAny (model prog9 w9) A9 (assign (.Name x9 px9) env9 (.int (a₀ + (i : Int)) t)) (fun _ s₃ => wpAny (model prog9 w9) A9 (execs body9 env9) (TEnd h₀ L9 I o (J (i + 1)) Q9 { s9 with heap := h, toks := tk }) E9 s₃) E9 { s9 with heap := h, toks := tk }) ∧
      (∀ m₁ news₁ h tk, J n9 m₁ news₁ → Fr h₀ L9 h m₁ → News h₀ L9 h news₁ → Q9 .next { s9 with heap := h, toks := tk })) :
    wpAny (model prog9 w9) A9 (pyIter (.ref r9)) (fun it s₂ => TurnsAt prog9 w9 A9 h₀ env9 (.Name x9 px9) body9 Q9 E9 it s₂) E9 s9 := by
  refine wpAny_pyIter_range hr hsmall ?_
  have W : Walks prog9 w9 A9 s9.heap.objs.size [s9.heap.objs.size] [s9.heap.objs.size] n9 (fun i v => i < n9 ∧ ∃ t, v = .int (a₀ + i * 1) t)
      (fun i h => IsRangeIter h s9.heap.objs.size (a₀ + (i : Nat) * 1) ((n9 : Int) - (i : Nat)) 1) := (Walks.range hh _ a₀ 1 n9).bound
  obtain ⟨turn, done⟩ := H s9.heap.objs.size (fun p hp => Heap.lt_size (N p hp).1)
  refine turns_J (.type "range_iterator") J W hL (List.mem_singleton.mpr rfl) (fun b hb => .inl (List.mem_singleton.mp hb)) (next_is_new F) (fun i h hs => ⟨_, hs, rfl⟩) ?_ (fun p hp => Nat.ne_of_lt (Heap.lt_size (N p hp).1)) (by show IsRangeIter _ _ _ _ _; rw [hn]; simpa using Heap.get?_push_size _ rfl) (F.push _) (fun p hp => ⟨Heap.get?_push_of_some _ (N p hp).1, (N p hp).2⟩) h0 ?_ done
  · intro hm
    exact absurd F.ns.lt ((List.mem_singleton.mp hm) ▸ Nat.lt_irrefl _)
  · rintro i v m₁ news₁ h tk o hi ⟨_, t, rfl⟩ hoc hJ hoff F₁ N₁
    have e : a₀ + (i : Int) * 1 = a₀ + (i : Int) := by omega
    rw [e]
    exact turn i t m₁ news₁ h tk o hi hoc hJ hoff F₁ N₁

theorem iter_listJ {l9 : Addr} {vs9 : List Value} {c9 : Nat} (J : Nat → (Str → Option Value) → List (Addr × Obj) → Prop)
    (hL : env9.locals = L9) (hh : A9.handled = none) (F : Fr h₀ L9 s9.heap m₀) (N : News h₀ L9 s9.heap news9) (hm : (l9, PySem.W.listOf vs9.toArray c9) ∈ news9) (hJl : ∀ i m l', J i m l' → (l9, PySem.W.listOf vs9.toArray c9) ∈ l') (h0 : J 0 m₀ news9)
    (H : ∀ I : Nat, (∀ p ∈ news9, p.1 < I) →
      (∀ (i : Nat) v m₁ news₁ h tk o, i < vs9.length → vs9[i]? = some v → o.cls = .type "list_iterator" → J i m₁ news₁ → (∀ p ∈ news₁, p.1 ≠ I) → Fr h₀ L9 h m₁ → News h₀ L9 h ((I, o) :: news₁) →
        wpAny (model prog9 w9) A9 (assign (.Name x9 px9) env9 v) (fun _ s₃ => wpAny (model prog9 w9) A9 (execs body9 env9) (TEnd h₀ L9 I o (J (i + 1)) Q9 { s9 with heap := h, toks := tk }) E9 s₃) E9 { s9 with heap := h, toks := tk }) ∧
      (∀ m₁ news₁ h tk, J vs9.length m₁ news₁ → Fr h₀ L9 h m₁ → News h₀ L9 h news₁ → Q9 .next { s9 with heap := h, toks := tk })) :
    wpAny (model prog9 w9) A9 (pyIter (.ref l9)) (fun it s₂ => TurnsAt prog9 w9 A9 h₀ env9 (.Name x9 px9) body9 Q9 E9 it s₂) E9 s9 := by
  have hax := N _ hm
  have hl : s9.heap.IsList l9 vs9.toArray := ⟨_, hax.1, rfl, c9, rfl⟩
  have hlt : l9 < s9.heap.objs.size := Heap.lt_size hax.1
  refine wpAny_pyIter_list hl ?_
  have W := Walks.list (prog := prog9) (w := w9) hh s9.heap.objs.size l9 (Nat.ne_of_lt hlt) vs9.toArray
  obtain ⟨turn, done⟩ := H s9.heap.objs.size (fun p hp => Heap.lt_size (N p hp).1)
  have hsz : vs9.toArray.size = vs9.length := List.size_toArray
  rw [hsz] at W
  refine turns_J (.type "list_iterator") J W hL (List.mem_cons.mpr (.inl rfl)) (fun b hb => ?_) (next_is_new F) (fun i h hs => ?_) ?_ (fun p hp => Nat.ne_of_lt (Heap.lt_size (N p hp).1)) ⟨⟨_, Heap.get?_push_size _ rfl, rfl, rfl⟩, hl.at fun o e => Heap.get?_push_of_some _ e⟩ (F.push _) (fun p hp => ⟨Heap.get?_push_of_some _ (N p hp).1, (N p hp).2⟩) h0 ?_ done
  · rcases List.mem_cons.mp hb with e | hb
    · exact .inl e
    · exact .inr (.inr ⟨_, fun i m l' hj => (List.mem_singleton.mp hb) ▸ hJl i m l' hj⟩)
  · obtain ⟨⟨o, ho, hc, _⟩, _⟩ := hs
    exact ⟨o, ho, hc⟩
  · intro hI
    rcases List.mem_cons.mp hI with e | hI
    · exact absurd F.ns.lt (e ▸ Nat.lt_irrefl _)
    · exact hax.2.1 (List.mem_singleton.mp hI).symm
  · intro i v m₁ news₁ h tk o hi hP hoc hJ hoff F₁ N₁
    exact turn i v m₁ news₁ h tk o hi (by simpa using hP) hoc hJ hoff F₁ N₁
end
/-! # Bd7 -/
theorem fill7 : (hd.heap_1 = hd.heap_1) ∧ (Challenge.rw_bd0030_01 = Challenge.rw_bd0030_01) := by w_top off; k_with_none; k_fill; exact ⟨rfl, rfl⟩
theorem kwBd71 : True := by
  k_with_none
  k_with "eval Name" => (k_here; k_dflt (refine' nameX_L (by k_asm) (by first | assumption | with_unfolding_all assumption) ?_ (by rfl) (by rfl); k_whole))
  k_with "loadName" => (k_here; k_dflt (refine' ldn (by k_asm) (by first | assumption | with_unfolding_all assumption) ?_ (by rfl) (by rfl); k_whole))
  k_with "exec For Name Call cons nil" => (k_here; (rename Fr _ _ _ _ => lF9); (with_unfolding_all refine' For_turns lF9 ?_; k_whole); (revert lF9; intro _))
  k_with "exec For Name Name cons nil" => (k_here; (rename Fr _ _ _ _ => lF9); (with_unfolding_all refine' For_turns lF9 ?_; k_whole); (revert lF9; intro _))
  k_with "pyIter ref" => ((with_reducible show wpAny _ _ (pyIter (Value.ref _)) (fun it s₂ => TurnsAt _ _ _ _ _ _ _ _ _ it s₂) _ _); refine stop2 ?_)
  trivial
/-- an int of a list of the ledger at a place that lies in it -/
theorem int_item {prog : Program} {w : World} {A : Around} {E : Value → Shared → Prop} {s : Shared} {h₀ : Heap} {L : Addr} {news : List (Addr × Obj)} {value slice : PySem.Expr} {l : Addr} {vs : List Value} {c : Nat} {ns : List Int} {k : Int} {j : Nat} {u : Tok} {Q : Value → Shared → Prop}
    (N : News h₀ L s.heap news) (hm : (l, PySem.W.listOf vs.toArray c) ∈ news) (hi : IntsAre vs ns) (hk : k = (j : Int)) (h1 : j < ns.length) (hfit : j < 2000) (h : ∀ t, Q (.int (ns.getD j 0) t) s)
    (hs : subscripted slice false (.ref l) (.int k u) = operate [.ref l, .int k u] (getItem (.ref l) (.int k u)) := by with_unfolding_all rfl) :
    wpAny (model prog w) A (subscriptTail value slice (.ref l) (.int k u)) Q E s := by
  subst hk
  exact item_anyK (hl := ⟨_, (N _ hm).1, rfl, c, rfl⟩) hi (by omega) (by omega) (by omega) h hs
theorem kwBd72 : True := by
  k_with "subscriptTail" => (k_here; (with_reducible show wpAny _ _ (subscriptTail _ _ (Value.ref _) (Value.int _ _)) _ _ _); (with_unfolding_all refine' int_item (by k_asm) (by k_mem) (by assumption) (by exact rfl) (by omega) (by omega) ?_ (by with_unfolding_all rfl); k_whole); intro _)
  trivial
theorem my_small {a b : Int} (h0 : 0 ≤ a) (ha : a ≤ 4000) (hb0 : 0 ≤ b) (hb : b ≤ 4000) : Builtin.Range.small a b 1 = true := by
  unfold Builtin.Range.small
  rw [rangeSize_nat]
  simp only [Builtin.Range.rangeFitsLong, Bool.and_eq_true, Bool.or_eq_true, decide_eq_true_eq]
  refine ⟨⟨⟨⟨by omega, by omega⟩, by omega⟩, by omega⟩, .inr ?_⟩
  rw [if_pos (by omega)]
  simp only [decide_eq_true_eq, Bool.and_eq_true]
  omega
theorem filter_own {I : Nat} {o : Obj} {l : List (Addr × Obj)} (h : ∀ p ∈ l, p.1 ≠ I) : (((I, o) :: l : List (Addr × Obj)).filter fun q => decide (@Ne Nat q.1 I)) = l := by
  rw [List.filter_cons, if_neg (by simp)]
  exact List.filter_eq_self.mpr fun q hq => decide_eq_true (h q hq)
def part (ns ws : List Int) (v : Nat) (k : Nat) (o : Nat) : Int :=
  ws.getD o 0 * ((256 * (k : Int)).fdiv (ws.getD v 0) + (if ns.getD o 0 < ns.getD v 0 then 1 else 0))
def ahd (ns ws : List Int) (v k : Nat) : List Nat → Int
  | [] => k
  | o :: r => ahd ns ws v k r + (if o = v then 0 else -((-(part ns ws v k o)).fdiv 256))

section
variable {w : World} {p : Program} {loose : List Str} {mean : ExcName → Option Value} {mg mb : Str → Option Value}
    {dp un : Nat} {gd : Option (List Code)} {cn : Str} {cs : Scope} {a : Addr} {ccd : Value} {cl : List (Str × Addr)} {outer : List Env} {A₀ : Around} {base h₀ : Heap} {L : Addr} {m : Str → Option Value} {s : Shared}
    {Q E : Value → Shared → Prop}
theorem share_call {news : List (Addr × Obj)} {v M : Nat} {tv tm : Tok} {sl nl wl : Nat} {sv nv wv : List Value} {sc nc wc : Nat} {os : List Nat} {ns ws : List Int}
    (B : Below A₀ base outer h₀) (F : Fr h₀ L s.heap m) (X : (hd.heap_1 w.params).In h₀) (N : News h₀ L s.heap news) (T : Top p loose mean mg mb h₀) (hk : cs.kind = .function)
    (hdp : dp + 10 < 1000) (hun : un + 60 < 9900)
    (ms : (sl, PySem.W.listOf sv.toArray sc) ∈ news) (mn : (nl, PySem.W.listOf nv.toArray nc) ∈ news) (mw : (wl, PySem.W.listOf wv.toArray wc) ∈ news)
    (is : IntsAre sv (os.map fun (o : Nat) => (o : Int))) (iN : IntsAre nv ns) (iw : IntsAre wv ws) (ho : ∀ o ∈ os, o < ns.length) (hnw : ns.length = ws.length) (hv : v < ns.length) (hln : ns.length ≤ 900) (hM : M ≤ 1000)
    (hw : ∀ o, o < ws.length → 1 ≤ ws.getD o 0 ∧ ws.getD o 0 ≤ 256)
    (ret : ∀ (r : Nat) j h' tk', r ≤ M → (∀ k, k < r → ahd ns ws v k os.reverse < M) → (r = M ∨ (M : Int) ≤ ahd ns ws v r os.reverse) → Fr h₀ L h' m → News h₀ L h' news → Q (.int (r : Int) j) { s with heap := h', toks := tk' }) :
    wpAny (model PR w) (ktrTop dp un gd cn cs L a ccd cl outer) (call (.ref 196) [.int (v : Int) tv, .ref sl, .ref nl, .ref wl, .int (M : Int) tm]) Q E s := by
  refine wpAny_call ?_
  k_dflt ktr_enter
  k_steps
  unfold Stop2
  (rename Fr _ _ _ _ => F1); (rename News _ _ _ _ => N1); (rename IsRange _ _ _ _ _ _ _ _ => R1)
  refine iter_rangeJ (n9 := M) (fun i m₁ l => l = news ∧ m₁ (Str.ofString "v") = some (.int (v : Int) tv) ∧ m₁ (Str.ofString "sisters") = some (.ref sl) ∧ m₁ (Str.ofString "names") = some (.ref nl) ∧ m₁ (Str.ofString "weights") = some (.ref wl) ∧
      m₁ (Str.ofString "many") = some (.int (M : Int) tm) ∧ ∀ k, k < i → ahd ns ws v k os.reverse < M) (by rfl) (by rfl) R1 (my_small (by omega) (by omega) (by omega) (by omega)) (by rw [rangeSize_nat]; omega) F1 N1 ⟨rfl, rfl, rfl, rfl, rfl, rfl, fun k hk => absurd hk (Nat.not_lt_zero _)⟩ ?_
  intro I hI
  clear F1 N1 R1
  refine ⟨?_, ?_⟩
  · rintro i t m₁ news₁ h1 tk1 o hi hoc ⟨rfl, e1, e2, e3, e4, e5, hJ⟩ hoff F1 N1
    have hwv := (hw v (by omega)).1
    have hwv2 := (hw v (by omega)).2
    simp only [Int.zero_add]
    k_steps
    unfold Stop2
    (rename Fr _ _ _ _ => F2); (rename News _ _ _ _ => N2)
    refine iter_listJ (vs9 := sv) (c9 := sc) (fun j m₂ l => l = _ ∧ m₂ (Str.ofString "v") = some (.int (v : Int) tv) ∧ m₂ (Str.ofString "sisters") = some (.ref sl) ∧ m₂ (Str.ofString "names") = some (.ref nl) ∧ m₂ (Str.ofString "weights") = some (.ref wl) ∧
        m₂ (Str.ofString "many") = some (.int (M : Int) tm) ∧ m₂ (Str.ofString "k") = some (.int (i : Int) t) ∧ (∃ u, m₂ (Str.ofString "level") = some (.int ((256 * (i : Int)).fdiv (ws.getD v 0)) u)) ∧ ∃ u, m₂ (Str.ofString "ahead") = some (.int (ahd ns ws v i (os.take j).reverse) u))
      (by rfl) (by rfl) F2 N2 (by k_mem) (fun j m₂ l' h => by rw [h.1]; k_mem) ⟨rfl, by with_unfolding_all exact e1, by with_unfolding_all exact e2, by with_unfolding_all exact e3, by with_unfolding_all exact e4, by with_unfolding_all exact e5, by with_unfolding_all exact rfl, by with_unfolding_all exact ⟨_, rfl⟩, by with_unfolding_all exact ⟨_, rfl⟩⟩ ?_
    intro I2 hI2
    clear F2 N2
    refine ⟨?_, ?_⟩
    · rintro j v2 m₂ news₂ h2 tk2 o2 hj hv2 ho2 ⟨rfl, f1, f2, f3, f4, f5, f6, ⟨u1, f7⟩, u2, f8⟩ hoff2 F2 N2
      have hj' : j < os.length := by have := is.length; simp at this; omega
      obtain ⟨t3, hx⟩ := is.get j (os[j] : Int) (by simp [hj'])
      rw [hx] at hv2
      cases hv2
      have hoj := ho os[j] (List.getElem_mem hj')
      have hwo := (hw os[j] (by omega)).1
      have hwo2 := (hw os[j] (by omega)).2
      have et : (os.take (j + 1)).reverse = os[j] :: (os.take j).reverse := by rw [← List.take_append_getElem hj', List.reverse_append]; rfl
      k_steps
      · have hne : os[j] ≠ v := by omega
        have hlt : ns.getD os[j] 0 < ns.getD v 0 := by assumption
        have e : ahd ns ws v i (os.take j).reverse + -((-(ws.getD os[j] 0 * ((256 * (i : Int)).fdiv (ws.getD v 0) + 1))).fdiv 256) = ahd ns ws v i (os.take (j + 1)).reverse := by
          rw [et]; simp only [ahd, part]; rw [if_neg hne, if_pos hlt]
        (rename Fr _ _ _ _ => F3); (rename News _ _ _ _ => N3)
        exact TEnd.next F3 N3 (.head _) ⟨filter_own hoff2, by with_unfolding_all exact f1, by with_unfolding_all exact f2, by with_unfolding_all exact f3, by with_unfolding_all exact f4, by with_unfolding_all exact f5, by with_unfolding_all exact f6, by with_unfolding_all exact ⟨_, f7⟩, by with_unfolding_all exact ⟨_, congrArg (fun z => some (Value.int z _)) e⟩⟩
      · have hne : os[j] ≠ v := by omega
        have hlt : ¬ ns.getD os[j] 0 < ns.getD v 0 := by assumption
        have e : ahd ns ws v i (os.take j).reverse + -((-(ws.getD os[j] 0 * ((256 * (i : Int)).fdiv (ws.getD v 0) + 0))).fdiv 256) = ahd ns ws v i (os.take (j + 1)).reverse := by
          rw [et]; simp only [ahd, part]; rw [if_neg hne, if_neg hlt]
        (rename Fr _ _ _ _ => F3); (rename News _ _ _ _ => N3)
        exact TEnd.next F3 N3 (.head _) ⟨filter_own hoff2, by with_unfolding_all exact f1, by with_unfolding_all exact f2, by with_unfolding_all exact f3, by with_unfolding_all exact f4, by with_unfolding_all exact f5, by with_unfolding_all exact f6, by with_unfolding_all exact ⟨_, f7⟩, by with_unfolding_all exact ⟨_, congrArg (fun z => some (Value.int z _)) e⟩⟩
      · have hne : os[j] = v := by omega
        have e : ahd ns ws v i (os.take j).reverse = ahd ns ws v i (os.take (j + 1)).reverse := by
          rw [et]; simp only [ahd]; rw [if_pos hne, Int.add_zero]
        rw [e] at f8
        (rename Fr _ _ _ _ => F3); (rename News _ _ _ _ => N3)
        exact TEnd.next F3 N3 (.head _) ⟨filter_own hoff2, by with_unfolding_all exact f1, by with_unfolding_all exact f2, by with_unfolding_all exact f3, by with_unfolding_all exact f4, by with_unfolding_all exact f5, by with_unfolding_all exact f6, by with_unfolding_all exact ⟨_, f7⟩, by with_unfolding_all exact ⟨_, f8⟩⟩
    · rintro m₂ news₂ h2 tk2 ⟨rfl, f1, f2, f3, f4, f5, f6, ⟨u1, f7⟩, u2, f8⟩ F2 N2
      have hlen : sv.length = os.length := by have := is.length; simpa using this
      rw [hlen, List.take_length] at f8
      k_steps
      · refine TEnd.ret ?_
        try dsimp only
        k_steps
        (rename Fr _ _ _ _ => F3); (rename News _ _ _ _ => N3)
        exact ret i _ _ _ (by omega) hJ (.inr (by omega)) F3 (fun p hp => N3 p (.tail _ (.tail _ hp)))
      · (rename Fr _ _ _ _ => F3); (rename News _ _ _ _ => N3)
        refine TEnd.next F3 (all := (I, o) :: news₁) (fun p hp => N3 p (.tail _ hp)) (.head _) ⟨filter_own hoff, by with_unfolding_all exact f1, by with_unfolding_all exact f2, by with_unfolding_all exact f3, by with_unfolding_all exact f4, by with_unfolding_all exact f5, fun k hk => ?_⟩
        by_cases e : k = i
        · subst e; omega
        · exact hJ k (by omega)
  · rintro m₁ news₁ h1 tk1 ⟨rfl, e1, e2, e3, e4, e5, hJ⟩ F1 N1
    k_steps
    (rename Fr _ _ _ _ => F3); (rename News _ _ _ _ => N3)
    exact ret M _ _ _ (Nat.le_refl _) hJ (.inl rfl) F3 N3
end
/-! # Bd8 -/
theorem fill8 : (hd.heap_1 = hd.heap_1) ∧ (Challenge.rw_bd0030_01 = Challenge.rw_bd0030_01) := by w_top off; k_with_none; k_fill; exact ⟨rfl, rfl⟩
theorem comp_rest_J {prog9 : Program} {w9 : World} {A9 : Around} {h₀9 : Heap} {L9 : Addr} {m9 : Str → Option Value} {env9 : Env} {elt9 : PySem.Expr} {x9 : Str} {scope9 : Scope} {cl9 : List (Str × Addr)} {s9 : Shared} {S9 : List (Addr × Obj) → Prop} {P9 : Nat → Value → Prop}
    {Fin9 : List Value → List (Addr × Obj) → Prop} {news9 : List (Addr × Obj)} {n9 : Nat} (J : Nat → List Value → List (Addr × Obj) → Prop) (h0 : J 0 [] news9)
    (turn : ∀ i v ys news9 I oI C oC D m₂ h tk (E' : Value → Shared → Prop), i < n9 → P9 i v → J i ys news9 → LCg.NsObj oC m₂ → m₂ x9 = some v → Fr h₀9 L9 h m9 → News h₀9 L9 h ((I, oI) :: (C, oC) :: (D, LCg.lst ys) :: news9) → LCg.Off3 I C D news9 → ((@Ne Nat I C) ∧ (@Ne Nat I D) ∧ (@Ne Nat C D)) →
      wpAny (model prog9 w9) A9 (eval elt9 (compEnvC scope9 cl9 C env9)) (LCg.CompEnd h₀9 L9 m9 { s9 with heap := h, toks := tk } I oI C oC D (LCg.lst ys) S9 (fun y news' => J (i + 1) (ys ++ [y]) news')) E' { s9 with heap := h, toks := tk })
    (fin : ∀ ys news9, J n9 ys news9 → Fin9 ys news9) : LCg.CompRest prog9 w9 A9 h₀9 L9 m9 env9 elt9 x9 scope9 cl9 s9 S9 P9 Fin9 n9 0 [] news9 := by
  have key : ∀ (j i : Nat) (ys : List Value) (news9 : List (Addr × Obj)), i + j = n9 → J i ys news9 → LCg.CompRest prog9 w9 A9 h₀9 L9 m9 env9 elt9 x9 scope9 cl9 s9 S9 P9 Fin9 j i ys news9 := by
    intro j
    induction j with
    | zero =>
      intro i ys news9 hi hJ
      have e : i = n9 := by omega
      subst e
      exact LCg.CompRest.zero (fin ys news9 hJ)
    | succ j ih =>
      intro i ys news9 hi hJ
      refine LCg.CompRest.succ ?_
      intro v I oI C oC D m₂ h tk E' hv hC hx F N off ne
      refine wpAny_mono (turn i v ys news9 I oI C oC D m₂ h tk E' (by omega) hv hJ hC hx F N off ne) (fun y s₂ hq => ?_) fun _ _ e => e
      obtain ⟨h', tk', nw, e, F', N', off', hS, hJ'⟩ := hq
      exact ⟨h', tk', nw, e, F', N', off', hS, ih (i + 1) _ _ (by omega) hJ'⟩
  exact key n9 0 [] news9 (by omega) h0

theorem my_src {prog9 : Program} {w9 : World} {A9 : Around} {h₀9 : Heap} {L9 : Addr} {m9 : Str → Option Value} {env9 : Env} {elt9 : PySem.Expr} {x9 : Str} {scope9 : Scope} {cl9 : List (Str × Addr)} {Fin9 : Shared → List Value → List (Addr × Obj) → Prop} {r9 : Addr} {a9 b9 : Int} {t9 u9 v9 : Tok} {n9 : Nat} {news9 : List (Addr × Obj)} {s9 : Shared}
    (hh : A9.handled = none) (F : Fr h₀9 L9 s9.heap m9) (N : News h₀9 L9 s9.heap news9) (hr : IsRange s9.heap r9 a9 b9 1 t9 u9 v9) (hsm : Builtin.Range.small a9 b9 1 = true) (hn : Builtin.Range.rangeSize a9 b9 1 = ((n9 : Nat) : Int)) (hsz : n9 ≤ sizeLine)
    (h : ∀ g, LCg.CompRest prog9 w9 A9 h₀9 L9 m9 env9 elt9 x9 scope9 cl9 { s9 with heap := g } (fun _ => True) (fun i v => ∃ t, v = .int (a9 + (i : Int)) t) (Fin9 { s9 with heap := g }) n9 0 [] news9) :
    LCg.CompSrc prog9 w9 A9 h₀9 L9 m9 env9 elt9 x9 scope9 cl9 Fin9 (.ref r9) s9 := LCg.CompSrc.range hh F N hr hsm hn hsz h

structure Rc where
  s : Nat
  d : Nat
  c : Nat
  q : Nat
def RcIn (w : World) (l : List (Addr × Obj)) (nv wv : Int) (r : Rc) : Prop :=
  (r.s, instObj 180 r.d) ∈ l ∧
  (∃ (k1 k2 k3 k4 k5 k6 k7 k8 j1 j2 j7 j8 : Tok), (r.d, dictOf (ents w.params k1 k2 k3 k4 k5 k6 k7 k8 (.int nv j1) (.int wv j2) (.ref r.c) .none (.ref r.q) (.bool true) (.int 0 j7) (.int 0 j8)) 8) ∈ l) ∧
  (∃ n, (r.c, PySem.W.listOf #[] n) ∈ l) ∧ ∃ n, (r.q, PySem.W.listOf #[] n) ∈ l

theorem RcIn.mono {w : World} {l l' : List (Addr × Obj)} {nv wv : Int} {r : Rc} (h : RcIn w l nv wv r) (hs : ∀ p ∈ l, p ∈ l') : RcIn w l' nv wv r := by
  obtain ⟨h1, ⟨k1, k2, k3, k4, k5, k6, k7, k8, j1, j2, j7, j8, h2⟩, ⟨n1, h3⟩, n2, h4⟩ := h
  exact ⟨hs _ h1, ⟨k1, k2, k3, k4, k5, k6, k7, k8, j1, j2, j7, j8, hs _ h2⟩, ⟨n1, hs _ h3⟩, n2, hs _ h4⟩
/-- the streams made so far -/
def MadeJ (w : World) (ns ws : List Int) (base : List (Addr × Obj)) (i : Nat) (ys : List Value) (l : List (Addr × Obj)) : Prop :=
  (∀ p ∈ base, p ∈ l) ∧ ∃ st : List Rc, st.length = i ∧ ys = st.map (fun r => Value.ref r.s) ∧ (∀ j (hj : j < st.length), RcIn w l (ns.getD j 0) (ws.getD j 0) st[j]) ∧
    (∀ r ∈ st, r.d < r.s ∧ r.s < r.c ∧ r.c < r.q) ∧ st.Pairwise (fun a b => a.q < b.d) ∧ (∀ r ∈ st, ∀ p ∈ base, @LT.lt Nat _ p.1 r.d)
theorem MadeJ.step {w : World} {ns ws : List Int} {base : List (Addr × Obj)} {i : Nat} {ys : List Value} {l : List (Addr × Obj)} (h : MadeJ w ns ws base i ys l) {x d c q : Nat} {n1 n2 : Nat} {k1 k2 k3 k4 k5 k6 k7 k8 j1 j2 j7 j8 : Tok}
    (hd : AllLt d l) (h1 : d < x) (h2 : x < c) (h3 : c < q) : MadeJ w ns ws base (i + 1) (ys ++ [.ref x]) ((q, PySem.W.listOf #[] n2) :: (c, PySem.W.listOf #[] n1) :: (x, instObj 180 d) ::
      (d, dictOf (ents w.params k1 k2 k3 k4 k5 k6 k7 k8 (.int (ns.getD i 0) j1) (.int (ws.getD i 0) j2) (.ref c) .none (.ref q) (.bool true) (.int 0 j7) (.int 0 j8)) 8) :: l) := by
  obtain ⟨hb, st, hst, rfl, hrc, hord, hpw, hnew⟩ := h
  have sub : ∀ p ∈ l, p ∈ ((q, PySem.W.listOf #[] n2) :: (c, PySem.W.listOf #[] n1) :: (x, instObj 180 d) ::
      (d, dictOf (ents w.params k1 k2 k3 k4 k5 k6 k7 k8 (.int (ns.getD i 0) j1) (.int (ws.getD i 0) j2) (.ref c) .none (.ref q) (.bool true) (.int 0 j7) (.int 0 j8)) 8) :: l) := fun p hp => .tail _ (.tail _ (.tail _ (.tail _ hp)))
  refine ⟨fun p hp => sub p (hb p hp), st ++ [⟨x, d, c, q⟩], by simp [hst], by simp, fun j hj => ?_, fun r hr => ?_, ?_, fun r hr p hp => ?_⟩
  · by_cases e : j < st.length
    · rw [List.getElem_append_left e]; exact (hrc j e).mono sub
    · have e2 : j = i := by simp at hj; omega
      have e3 : (st ++ [(⟨x, d, c, q⟩ : Rc)])[j] = ⟨x, d, c, q⟩ := by
        rw [List.getElem_append_right (by omega)]; simp
      rw [e3, e2]
      exact ⟨.tail _ (.tail _ (.head _)), ⟨k1, k2, k3, k4, k5, k6, k7, k8, j1, j2, j7, j8, .tail _ (.tail _ (.tail _ (.head _)))⟩, ⟨n1, .tail _ (.head _)⟩, n2, .head _⟩
  · rcases List.mem_append.mp hr with hr | hr
    · exact hord r hr
    · rw [List.mem_singleton.mp hr]; exact ⟨h1, h2, h3⟩
  · refine List.pairwise_append.mpr ⟨hpw, List.pairwise_singleton _ _, fun a ha b hb2 => ?_⟩
    rw [List.mem_singleton.mp hb2]
    obtain ⟨j, hj, rfl⟩ := List.getElem_of_mem ha
    obtain ⟨_, _, _, n, hm⟩ := hrc j hj
    exact allLt_at hd _ hm
  · rcases List.mem_append.mp hr with hr | hr
    · exact hnew r hr p hp
    · rw [List.mem_singleton.mp hr]; exact allLt_at hd _ (hb p hp)
theorem made_end {h₀9 h9 : Heap} {L9 : Addr} {m9 : Str → Option Value} {s9 : Shared} {I C D x d c q : Nat} {oI oC oD o1 o2 o3 o4 : Obj} {l : List (Addr × Obj)} {R : Value → List (Addr × Obj) → Prop} {tk : Nat} {y : Value}
    (F : Fr h₀9 L9 h9 m9) (N : News h₀9 L9 h9 ((q, o1) :: (c, o2) :: (x, o3) :: (d, o4) :: (I, oI) :: (C, oC) :: (D, oD) :: l)) (hd : I < d ∧ C < d ∧ D < d ∧ AllLt d l) (hx : d < x) (hc : x < c) (hq : c < q) (off : LCg.Off3 I C D l)
    (hR : R y ((q, o1) :: (c, o2) :: (x, o3) :: (d, o4) :: l)) : LCg.CompEnd h₀9 L9 m9 s9 I oI C oC D oD (fun _ => True) R y { s9 with heap := h9, toks := tk } := by
  refine LCg.CompEnd.intro F N ((q, o1) :: (c, o2) :: (x, o3) :: (d, o4) :: l) (fun p hp => ?_) ?_ trivial hR
  · simp only [List.mem_cons] at hp ⊢
    rcases hp with h | h | h | h | h | h | h | h <;> simp [h]
  · refine ⟨⟨?_, ?_, ?_⟩, ⟨?_, ?_, ?_⟩, ⟨?_, ?_, ?_⟩, ⟨?_, ?_, ?_⟩, off⟩ <;> (show (_ : Nat) ≠ _) <;> omega


/-! ## the streams, by their numbers -/
structure Lay (n : Nat) (sa da ca qa : Nat → Nat) (base : List (Addr × Obj)) : Prop where
  o1 : ∀ v, v < n → da v < sa v ∧ sa v < ca v ∧ ca v < qa v
  o2 : ∀ u v, u < v → v < n → qa u < da v
  new : ∀ v, v < n → ∀ p ∈ base, @LT.lt Nat _ p.1 (da v)
theorem Lay.da {n : Nat} {sa da ca qa : Nat → Nat} {base : List (Addr × Obj)} (h : Lay n sa da ca qa base) {u v : Nat} (hu : u < n) (hv : v < n) (e : da u = da v) : u = v := by
  rcases Nat.lt_trichotomy u v with l | l | l
  · have := h.o2 u v l hv; have := h.o1 u hu; omega
  · exact l
  · have := h.o2 v u l hu; have := h.o1 v hv; omega
theorem Lay.sa {n : Nat} {sa da ca qa : Nat → Nat} {base : List (Addr × Obj)} (h : Lay n sa da ca qa base) {u v : Nat} (hu : u < n) (hv : v < n) (e : sa u = sa v) : u = v := by
  rcases Nat.lt_trichotomy u v with l | l | l
  · have := h.o2 u v l hv; have := h.o1 u hu; have := h.o1 v hv; omega
  · exact l
  · have := h.o2 v u l hu; have := h.o1 v hv; have := h.o1 u hu; omega
theorem Lay.qa {n : Nat} {sa da ca qa : Nat → Nat} {base : List (Addr × Obj)} (h : Lay n sa da ca qa base) {u v : Nat} (hu : u < n) (hv : v < n) (e : qa u = qa v) : u = v := by
  rcases Nat.lt_trichotomy u v with l | l | l
  · have := h.o2 u v l hv; have := h.o1 u hu; have := h.o1 v hv; omega
  · exact l
  · have := h.o2 v u l hu; have := h.o1 v hv; have := h.o1 u hu; omega
theorem Lay.ca {n : Nat} {sa da ca qa : Nat → Nat} {base : List (Addr × Obj)} (h : Lay n sa da ca qa base) {u v : Nat} (hu : u < n) (hv : v < n) (e : ca u = ca v) : u = v := by
  rcases Nat.lt_trichotomy u v with l | l | l
  · have := h.o2 u v l hv; have := h.o1 u hu; have := h.o1 v hv; omega
  · exact l
  · have := h.o2 v u l hu; have := h.o1 v hv; have := h.o1 u hu; omega
/-- any two of the streams' addresses differ -/
theorem Lay.ne {n : Nat} {sa da ca qa : Nat → Nat} {base : List (Addr × Obj)} (h : Lay n sa da ca qa base) {u v : Nat} (hu : u < n) (hv : v < n) : ca u ≠ qa v ∧ da u ≠ qa v ∧ da u ≠ ca v ∧ da u ≠ sa v ∧ sa u ≠ ca v ∧ sa u ≠ qa v := by
  have a := h.o1 u hu
  have b := h.o1 v hv
  rcases Nat.lt_trichotomy u v with l | l | l
  · have := h.o2 u v l hv; omega
  · subst l; omega
  · have := h.o2 v u l hu; omega
theorem MadeJ.fns {w : World} {ns ws : List Int} {base : List (Addr × Obj)} {n : Nat} {ys : List Value} {l : List (Addr × Obj)} (h : MadeJ w ns ws base n ys l) :
    ∃ sa da ca qa : Nat → Nat, Lay n sa da ca qa base ∧ ys = (List.range n).map (fun v => Value.ref (sa v)) ∧ ∀ v, v < n → RcIn w l (ns.getD v 0) (ws.getD v 0) ⟨sa v, da v, ca v, qa v⟩ := by
  obtain ⟨hb, st, rfl, rfl, hrc, hord, hpw, hnew⟩ := h
  let g : Nat → Rc := fun v => if h : v < st.length then st[v] else ⟨0, 0, 0, 0⟩
  have hg : ∀ v (h : v < st.length), g v = st[v] := fun v h => dif_pos h
  refine ⟨fun v => (g v).s, fun v => (g v).d, fun v => (g v).c, fun v => (g v).q, ⟨fun v hv => ?_, fun u v huv hv => ?_, fun v hv p hp => ?_⟩, ?_, fun v hv => ?_⟩
  · show (g v).d < (g v).s ∧ _
    rw [hg v hv]; exact hord _ (List.getElem_mem hv)
  · show (g u).q < (g v).d
    rw [hg v hv, hg u (by omega)]; exact List.pairwise_iff_getElem.mp hpw u v (by omega) hv huv
  · show _ < (g v).d
    rw [hg v hv]; exact hnew _ (List.getElem_mem hv) p hp
  · apply List.ext_getElem
    · simp
    · intro i h1 h2
      have hi : i < st.length := by simpa using h1
      simp [hg i hi]
  · have := hrc v hv
    show RcIn w l _ _ ⟨(g v).s, (g v).d, (g v).c, (g v).q⟩
    rw [hg v hv]; exact this

def Tr.at (T : Tr) (i : Nat) (lf : Nat → Bool) : Tr := { T with many := i, lf := lf }
def NodeB (w : World) (T : Tr) (ca : Nat → Nat) (news : List (Addr × Obj)) (v : Nat) : Prop :=
  (T.sa v, instObj 180 (T.da v)) ∈ news ∧
  (∃ (k1 k2 k3 k4 k5 k6 k7 k8 j1 j2 j7 j8 : Tok) (b4 : Value),
    (T.da v, dictOf (ents w.params k1 k2 k3 k4 k5 k6 k7 k8 (.int (T.nm v) j1) (.int (T.wt v) j2) (.ref (ca v)) b4 (.ref (T.qa v)) (.bool (T.lf v)) (.int 0 j7) (.int 0 j8)) 8) ∈ news) ∧
  (∃ (xs : List Value) (n : Nat), xs.length ≤ T.many ∧ (ca v, PySem.W.listOf xs.toArray n) ∈ news) ∧
  ∃ qs n, (T.qa v, PySem.W.listOf ((qs.map (·.2)).map Value.ref).toArray n) ∈ news ∧ Que T news (fun _ => 0) v qs
theorem NodeB.to {w : World} {T : Tr} {ca : Nat → Nat} {news news' : List (Addr × Obj)} {u : Nat} (n : NodeB w T ca news u)
    (keep : ∀ p ∈ news, (p.2.cls = .type "tuple" ∨ p.2.cls = .ref 180 ∨ p.1 = T.da u ∨ p.1 = ca u ∨ p.1 = T.qa u) → p ∈ news') : NodeB w T ca news' u := by
  obtain ⟨h1, ⟨k1, k2, k3, k4, k5, k6, k7, k8, j1, j2, j7, j8, b4, h2⟩, ⟨xs, nx, hx, h5⟩, qs, n, h3, h4⟩ := n
  exact ⟨keep _ h1 (.inr (.inl rfl)), ⟨k1, k2, k3, k4, k5, k6, k7, k8, j1, j2, j7, j8, b4, keep _ h2 (.inr (.inr (.inl rfl)))⟩, ⟨xs, nx, hx, keep _ h5 (.inr (.inr (.inr (.inl rfl))))⟩, qs, n, keep _ h3 (.inr (.inr (.inr (.inr rfl)))), h4.mono fun p hp hc => keep p hp (.inl hc)⟩
theorem NodeB.off {w : World} {T : Tr} {ca : Nat → Nat} {h₀ h : Heap} {L I : Addr} {o : Obj} {all : List (Addr × Obj)} {u : Nat} (n : NodeB w T ca all u) (N : News h₀ L h all) (hI : (I, o) ∈ all) (ho : o.cls = .type "range_iterator") : NodeB w T ca (all.filter fun q => decide (@Ne Nat q.1 I)) u := by
  have c1 : ∀ x : Value, x = .type "tuple" → x ≠ o.cls := fun x e => by rw [e, ho]; decide
  have c2 : ∀ x : Value, x = .ref 180 → x ≠ o.cls := fun x e => by rw [e, ho]; intro e; cases e
  have c3 : ∀ x : Value, x = .type "dict" → x ≠ o.cls := fun x e => by rw [e, ho]; decide
  have c4 : ∀ x : Value, x = .type "list" → x ≠ o.cls := fun x e => by rw [e, ho]; decide
  obtain ⟨h1, ⟨k1, k2, k3, k4, k5, k6, k7, k8, j1, j2, j7, j8, b4, h2⟩, ⟨xs, nx, hx, h5⟩, qs, n, h3, h4⟩ := n
  exact ⟨mem_offK N hI h1 (c2 _ rfl), ⟨k1, k2, k3, k4, k5, k6, k7, k8, j1, j2, j7, j8, b4, mem_offK N hI h2 (c3 _ rfl)⟩, ⟨xs, nx, hx, mem_offK N hI h5 (c4 _ rfl)⟩, qs, n, mem_offK N hI h3 (c4 _ rfl), h4.mono fun p hp hc => mem_offK N hI hp (c1 _ hc)⟩
theorem NodeB.strm {w : World} {T : Tr} {ca : Nat → Nat} {news : List (Addr × Obj)} {u : Nat} (n : NodeB w T ca news u) : StrmIn w news (T.sa u) (T.nm u) := by
  obtain ⟨h1, ⟨k1, k2, k3, k4, k5, k6, k7, k8, j1, j2, j7, j8, b4, h2⟩, _⟩ := n
  exact ⟨_, k1, k2, k3, k4, k5, k6, k7, k8, j1, _, _, b4, _, _, _, _, 8, h1, h2⟩
theorem NodeB.start {w : World} {T : Tr} {ca : Nat → Nat} {news : List (Addr × Obj)} {u : Nat} (h : RcIn w news (T.nm u) (T.wt u) ⟨T.sa u, T.da u, ca u, T.qa u⟩) : NodeB w (T.at 0 fun _ => true) ca news u := by
  obtain ⟨h1, ⟨k1, k2, k3, k4, k5, k6, k7, k8, j1, j2, j7, j8, h2⟩, ⟨n1, h3⟩, n2, h4⟩ := h
  refine ⟨h1, ⟨k1, k2, k3, k4, k5, k6, k7, k8, j1, j2, j7, j8, _, h2⟩, ⟨[], n1, Nat.le_refl _, h3⟩, [], n2, h4, ⟨fun c => ⟨fun h => (nomatch h), fun h => ?_⟩, .nil, fun q hq => (nomatch hq), by simp⟩⟩
  have a := h.1
  have b : c ≤ 0 := h.2.1
  omega
/-! # BdA -/
theorem fillA : (hd.heap_1 = hd.heap_1) ∧ (Challenge.rw_bd0030_01 = Challenge.rw_bd0030_01) := by w_top off; k_with_none; k_fill; exact ⟨rfl, rfl⟩
theorem kwBdA1 : True := by
  k_with_none
  k_with "eval Name" => (k_here; k_dflt (refine' nameX_L (by k_asm) (by first | assumption | with_unfolding_all assumption) ?_ (by rfl) (by rfl); k_whole))
  k_with "loadName" => (k_here; k_dflt (refine' ldn (by k_asm) (by first | assumption | with_unfolding_all assumption) ?_ (by rfl) (by rfl); k_whole))
  k_with "exec For Name Call cons nil" => (k_here; (rename Fr _ _ _ _ => lF9); (with_unfolding_all refine' For_turns lF9 ?_; k_whole); (revert lF9; intro _))
  k_with "exec For Name Name cons nil" => (k_here; (rename Fr _ _ _ _ => lF9); (with_unfolding_all refine' For_turns lF9 ?_; k_whole); (revert lF9; intro _))
  k_with "pyIter ref" => ((with_reducible show wpAny _ _ (pyIter (Value.ref _)) (fun it s₂ => TurnsAt _ _ _ _ _ _ _ _ _ it s₂) _ _); refine stop2 ?_)
  k_with "subscriptTail" => (k_here; (with_reducible show wpAny _ _ (subscriptTail _ _ (Value.ref _) (Value.int _ _)) _ _ _); (with_unfolding_all refine' int_item (by k_asm) (by k_mem) (by assumption) (by exact rfl) (by omega) (by omega) ?_ (by with_unfolding_all rfl); k_whole); intro _)
  k_with "call builtin:len" => (k_here; (with_reducible show wpAny _ _ (call (Value.builtin "len") [Value.ref _]) _ _ _); k_dflt (refine' kst_len (by k_asm) (by k_mem) (by exact IntsAre.length (by assumption)) (by omega) ?_; k_whole))
  k_with "exec Assign cons ListComp" => (k_here; k_dflt (refine LCg.Assign_ListComp_U (F₀ := by k_asm) (by rfl) (by with_unfolding_all rfl) (by rfl) (by decide) (by rfl) (by decide) (by rfl) (by rfl) (by rfl) ?_))
  k_with "CompSrc" => (refine stop2 ?_)
  k_with "eval Name" => (k_here; (with_reducible show wpAny _ _ (eval (Expr.Name _ _) (compEnvC _ _ _ _)) _ _ _); k_dflt (first | (refine' LCgL.ld_own (by k_asm) (by k_mem) (by assumption) (by assumption) ?_ (by exact rfl) (by exact rfl)) | (refine' kcf_cell (by k_asm) (by exact rfl) (by k_mem) (by k_asm) ?_ (by exact rfl) (by exact rfl)) | (refine' LCgL.ld_global (by k_asm) (by k_asm) (by k_asm) (by k_is) ?_) | (refine' LCgL.ld_built (by k_asm) (by k_asm) (by k_asm) (by k_is) (by boot_by_name) (by decide) ?_)))
  k_with "call ref" => (k_here; k_dflt (show wpAny _ _ (call (Value.ref 35) _) _ _ _); refine stop2 ?_)
  k_with "subscriptTail" => (k_here; (with_reducible show wpAny _ _ (subscriptTail _ _ (Value.ref _) (Value.int _ _)) _ _ _); (with_unfolding_all refine' my_item (by k_asm) (by k_mem) (by omega) (by omega) (by assumption) ?_ (by with_unfolding_all rfl); k_whole))
  trivial
section
variable {w : World} {p : Program} {loose : List Str} {mean : ExcName → Option Value} {mg mb : Str → Option Value}
    {dp un : Nat} {gd : Option (List Code)} {cn : Str} {cs : Scope} {a : Addr} {ccd : Value} {cl : List (Str × Addr)} {outer : List Env} {A₀ : Around} {base h₀ : Heap} {L : Addr} {m : Str → Option Value} {s : Shared}
    {Q E : Value → Shared → Prop}
theorem add_call {sp ep cp qp sc ec tt0 : Nat} {ts : List Addr} {ks : List (Int × Int)} {xs : List Value} {nq nx : Nat} {rest : List (Addr × Obj)}
    {k1 k2 k3 k4 k5 k6 k7 k8 j1 j2 j7 j8 : Tok} {b4 : Value} {nv wv df : Int}
    {l1 l2 l3 l4 l5 l6 l7 l8 i1 i2 i7 i8 : Tok} {c3 c4 c5 c7 c8 : Value} {nc wc : Int} {bp bc : Bool}
    (B : Below A₀ base outer h₀) (F : Fr h₀ L s.heap m) (X : (hd.heap_1 w.params).In h₀) (T : Top p loose mean mg mb h₀) (hk : cs.kind = .function)
    (hdp : dp + 20 < 1000) (hun : un + 120 < 9900)
    (N : News h₀ L s.heap ((qp, PySem.W.listOf (ts.map Value.ref).toArray nq) :: (cp, PySem.W.listOf xs.toArray nx) ::
      (ep, dictOf (ents w.params k1 k2 k3 k4 k5 k6 k7 k8 (.int nv j1) (.int wv j2) (.ref cp) b4 (.ref qp) (.bool bp) (.int 0 j7) (.int df j8)) 8) ::
      (ec, dictOf (ents w.params l1 l2 l3 l4 l5 l6 l7 l8 (.int nc i1) (.int wc i2) c3 c4 c5 (.bool bc) c7 c8) 8) :: rest))
    (m1 : (sp, instObj 180 ep) ∈ rest) (m2 : (sc, instObj 180 ec) ∈ rest)
    (d1 : qp ≠ cp) (d2 : qp ≠ ep) (d3 : qp ≠ ec) (d4 : cp ≠ ep) (d5 : cp ≠ ec) (d6 : ep ≠ ec) (o1 : ∀ q ∈ rest, q.1 ≠ qp) (o2 : ∀ q ∈ rest, q.1 ≠ cp) (o3 : ∀ q ∈ rest, q.1 ≠ ep) (o4 : ∀ q ∈ rest, q.1 ≠ ec)
    (hz : ts.length ≤ 900) (hxs : xs.length ≤ 900)
    (hE : ∀ j (hj : j < ts.length), EntIn w rest ts[j] (ks.getD j (0, 0)).1 (ks.getD j (0, 0)).2)
    (ret : ∀ nF h' tk' (tt : Nat) (u' : Tok) (n1 n2 : Nat) (x : Value), Fr h₀ L h' m → News h₀ L h' nF → (∀ q ∈ rest, q ∈ nF) →
      (qp, PySem.W.listOf ((ts.take (plc (0, nc) ks ts.length) ++ tt :: ts.drop (plc (0, nc) ks ts.length)).map Value.ref).toArray n1) ∈ nF → (cp, PySem.W.listOf (xs.toArray.push x) n2) ∈ nF → (tt, tupO 0 u' sc 0) ∈ nF →
      (ep, dictOf (ents w.params k1 k2 k3 k4 k5 k6 k7 k8 (.int nv j1) (.int wv j2) (.ref cp) b4 (.ref qp) (.bool bp) (.int 0 j7) (.int df j8)) 8) ∈ nF →
      (ec, dictOf (ents w.params l1 l2 l3 l4 l5 l6 l7 l8 (.int nc i1) (.int wc i2) c3 (.ref sp) c5 (.bool bc) c7 c8) 8) ∈ nF →
      Q .none { s with heap := h', toks := tk' }) :
    wpAny (model PR w) (ktrTop dp un gd cn cs L a ccd cl outer) (call (.ref 106) [.ref sp, .ref sc]) Q E s := by
  refine wpAny_call ?_
  k_dflt ktr_enter
  k_steps
  unfold Stop2
  (rename Fr _ _ _ _ => F2); (rename News _ _ _ _ => N2)
  refine' push_call (k := (_, nc)) (its := ts) (ks := ks) ?B F2 ?X N2 ?T ?k ?d ?u ?U (by omega) ?e1 ?e2 ?_
  case B => k_asm
  case X => k_asm
  case T => k_asm
  case k => rfl
  case d => k_room
  case u => k_units
  case U => k_dflt k_upd
  case e1 => exact fun j hj => (hE j hj).mono (fun p hp => by repeat (first | exact hp | refine List.mem_cons_of_mem _ ?_))
  case e2 => exact ⟨_, sc, 0, by k_mem, ec, _, _, _, _, _, _, _, _, _, _, _, _, _, _, _, _, _, by k_mem, by k_mem⟩
  clear F2 N2
  intro h2 tk2 F2 N2
  k_steps
  (rename Fr _ _ _ _ => F4); (rename News _ _ _ _ => N4)
  refine' ret _ _ _ _ _ _ _ _ F4 N4 ?ra ?rb ?rc ?rd ?re ?rf
  case ra => exact fun q hq => by repeat (first | exact hq | refine List.mem_cons_of_mem _ ?_)
  case rb => k_mem
  case rc => k_mem
  case rd => k_mem
  case re => k_mem
  case rf => k_mem
end
/-! # BdB -/
theorem lev0 (T : Tr) (c : Nat) : T.lev (fun _ => 0) c = 0 := by unfold Tr.lev; simp
theorem dfc0 (T : Tr) (c : Nat) : T.dfc (fun _ => 0) c = 0 := by unfold Tr.dfc; simp
theorem Que.up {T : Tr} {lf : Nat → Bool} {l : List (Addr × Obj)} {i u : Nat} {qs : List (Nat × Addr)} (h : Que (T.at i lf) l (fun _ => 0) u qs) (hu : T.par (i + 1) ≠ u) : Que (T.at (i + 1) lf) l (fun _ => 0) u qs := by
  refine ⟨fun c => ?_, h.srt, h.tup, h.len⟩
  rw [h.all c]
  constructor
  · rintro ⟨a, b, e⟩; exact ⟨a, Nat.le_succ_of_le b, e⟩
  · rintro ⟨a, b, e⟩
    refine ⟨a, ?_, e⟩
    have b' : c ≤ i + 1 := b
    show c ≤ i
    by_cases e2 : c = i + 1
    · subst e2; exact absurd e hu
    · omega
theorem NodeB.up {w : World} {T : Tr} {lf : Nat → Bool} {ca : Nat → Nat} {l : List (Addr × Obj)} {i u : Nat} (h : NodeB w (T.at i lf) ca l u) (hu : T.par (i + 1) ≠ u) : NodeB w (T.at (i + 1) lf) ca l u := by
  obtain ⟨h1, h2, ⟨xs, nx, hx, h5⟩, qs, n, h3, h4⟩ := h
  exact ⟨h1, h2, ⟨xs, nx, Nat.le_succ_of_le hx, h5⟩, qs, n, h3, h4.up hu⟩
theorem NodeB.open {w : World} {T : Tr} {lf : Nat → Bool} {ca : Nat → Nat} {l : List (Addr × Obj)} {i u : Nat} (h : NodeB w (T.at i lf) ca l u) :
    (T.sa u, instObj 180 (T.da u)) ∈ l ∧
    (∃ (k1 k2 k3 k4 k5 k6 k7 k8 j1 j2 j7 j8 : Tok) (b4 : Value),
      (T.da u, dictOf (ents w.params k1 k2 k3 k4 k5 k6 k7 k8 (.int (T.nm u) j1) (.int (T.wt u) j2) (.ref (ca u)) b4 (.ref (T.qa u)) (.bool (lf u)) (.int 0 j7) (.int 0 j8)) 8) ∈ l) ∧
    (∃ (xs : List Value) (n : Nat), xs.length ≤ i ∧ (ca u, PySem.W.listOf xs.toArray n) ∈ l) ∧
    ∃ qs n, (T.qa u, PySem.W.listOf ((qs.map (·.2)).map Value.ref).toArray n) ∈ l ∧ Que (T.at i lf) l (fun _ => 0) u qs := h
theorem len_below : ∀ (k : Nat) (l : List Nat), l.Nodup → (∀ x ∈ l, x < k) → l.length ≤ k
  | 0, l, _, h => by
    cases l with
    | nil => exact Nat.le_refl _
    | cons a t => exact absurd (h a List.mem_cons_self) (Nat.not_lt_zero _)
  | k + 1, l, hn, h => by
    by_cases e : k ∈ l
    · have h1 := len_below k (l.erase k) (hn.erase _) fun x hx => by
        have h2 := (List.Nodup.mem_erase_iff hn).mp hx
        have h3 := h x h2.2
        have h4 := h2.1
        omega
      rw [List.length_erase_of_mem e] at h1
      omega
    · have h1 := len_below k l hn fun x hx => by
        have h3 := h x hx
        have h4 : x ≠ k := fun e2 => e (e2 ▸ hx)
        omega
      omega
/-- tuples and instances of the ledger stand apart from dicts and lists -/
theorem kind_ne {h₀ h : Heap} {L : Addr} {l : List (Addr × Obj)} (N : News h₀ L h l) {q : Addr × Obj} (hq : q ∈ l) (hc : q.2.cls = .type "tuple" ∨ q.2.cls = .ref 180) {a : Nat} {o : Obj} (ha : (a, o) ∈ l) (ho : o.cls = .type "dict" ∨ o.cls = .type "list") : @Ne Nat q.1 a := by
  obtain ⟨qa, qo⟩ := q
  refine news_ne N hq ha ?_
  intro e
  have e' : qo.cls = o.cls := e
  rcases hc with c | c <;> rcases ho with d | d <;> rw [show qo.cls = _ from c, d] at e' <;> first | (cases e'; done) | exact absurd e' (by decide)
section
variable {w : World} {p : Program} {loose : List Str} {mean : ExcName → Option Value} {mg mb : Str → Option Value}
    {dp un : Nat} {gd : Option (List Code)} {cn : Str} {cs : Scope} {a : Addr} {ccd : Value} {cl : List (Str × Addr)} {outer : List Env} {A₀ : Around} {base h₀ : Heap} {L : Addr} {m : Str → Option Value} {s : Shared}
    {Q E : Value → Shared → Prop}
theorem add_turn {T : Tr} {ca : Nat → Nat} {base' : List (Addr × Obj)} {n i pp : Nat} {l : List (Addr × Obj)}
    (B : Below A₀ base outer h₀) (F : Fr h₀ L s.heap m) (X : (hd.heap_1 w.params).In h₀) (Tp : Top p loose mean mg mb h₀) (hk : cs.kind = .function)
    (hdp : dp + 20 < 1000) (hun : un + 120 < 9900) (N : News h₀ L s.heap l) (hlay : Lay n T.sa T.da ca T.qa base') (hnodes : ∀ u, u < n → NodeB w (T.at i fun _ => true) ca l u)
    (hi : i + 1 < n) (hpar : T.par (i + 1) = pp) (hpp : pp < i + 1) (hn : n ≤ 900) (hnm : ∀ u v, u < n → v < n → T.nm u = T.nm v → u = v) (hup : ∀ c, 1 ≤ c → c < n → T.par c < c)
    (ret : ∀ nF h' tk', Fr h₀ L h' m → News h₀ L h' nF → (∀ u, u < n → NodeB w (T.at (i + 1) fun _ => true) ca nF u) → (∀ q ∈ l, (∀ u, u < n → q.1 ≠ T.da u ∧ q.1 ≠ ca u ∧ q.1 ≠ T.qa u) → q ∈ nF) → Q .none { s with heap := h', toks := tk' }) :
    wpAny (model PR w) (ktrTop dp un gd cn cs L a ccd cl outer) (call (.ref 106) [.ref (T.sa pp), .ref (T.sa (i + 1))]) Q E s := by
  have hp : pp < n := by omega
  obtain ⟨a1, ⟨k1, k2, k3, k4, k5, k6, k7, k8, j1, j2, j7, j8, b4, a2⟩, ⟨xs, nx, hxl, a3⟩, qs, nq, a4, q4⟩ := (hnodes pp hp).open
  obtain ⟨b1, ⟨l1, l2, l3, l4, l5, l6, l7, l8, i1, i2, i7, i8, c4, b2⟩, ⟨ys, ny, hyl, b3⟩, qs', nq', b5, q5⟩ := (hnodes (i + 1) hi).open
  have d1 : @Ne Nat (T.qa pp) (ca pp) := Ne.symm (hlay.ne hp hp).1
  have d2 : @Ne Nat (T.qa pp) (T.da pp) := Ne.symm (hlay.ne hp hp).2.1
  have d3 : @Ne Nat (T.qa pp) (T.da (i + 1)) := Ne.symm (hlay.ne hi hp).2.1
  have d4 : @Ne Nat (ca pp) (T.da pp) := Ne.symm (hlay.ne hp hp).2.2.1
  have d5 : @Ne Nat (ca pp) (T.da (i + 1)) := Ne.symm (hlay.ne hi hp).2.2.1
  have d6 : @Ne Nat (T.da pp) (T.da (i + 1)) := fun e => by have := hlay.da hp hi e; omega
  obtain ⟨rest, hrest⟩ : ∃ rest : List (Addr × Obj), ∀ q, q ∈ rest ↔ q ∈ l ∧ @Ne Nat q.1 (T.qa pp) ∧ @Ne Nat q.1 (ca pp) ∧ @Ne Nat q.1 (T.da pp) ∧ @Ne Nat q.1 (T.da (i + 1)) :=
    ⟨l.filter fun q => decide (@Ne Nat q.1 (T.qa pp) ∧ @Ne Nat q.1 (ca pp) ∧ @Ne Nat q.1 (T.da pp) ∧ @Ne Nat q.1 (T.da (i + 1))), fun q => by rw [List.mem_filter, decide_eq_true_eq]⟩
  have K : ∀ q ∈ l, (q.2.cls = .type "tuple" ∨ q.2.cls = .ref 180) → q ∈ rest := fun q hq hc => (hrest q).mpr ⟨hq, kind_ne N hq hc a4 (.inr rfl), kind_ne N hq hc a3 (.inr rfl), kind_ne N hq hc a2 (.inl rfl), kind_ne N hq hc b2 (.inl rfl)⟩
  have KD : ∀ u, u < n → u ≠ pp → u ≠ i + 1 → ∀ q ∈ l, q.1 = T.da u → q ∈ rest := fun u hu h1 h2 q hq e => (hrest q).mpr ⟨hq, by rw [e]; exact (hlay.ne hu hp).2.1, by rw [e]; exact (hlay.ne hu hp).2.2.1, by rw [e]; exact fun e => h1 (hlay.da hu hp e), by rw [e]; exact fun e => h2 (hlay.da hu hi e)⟩
  have KC : ∀ u, u < n → u ≠ pp → ∀ q ∈ l, q.1 = ca u → q ∈ rest := fun u hu h1 q hq e => (hrest q).mpr ⟨hq, by rw [e]; exact (hlay.ne hu hp).1, by rw [e]; exact fun e => h1 (hlay.ca hu hp e), by rw [e]; exact Ne.symm (hlay.ne hp hu).2.2.1, by rw [e]; exact Ne.symm (hlay.ne hi hu).2.2.1⟩
  have KQ : ∀ u, u < n → u ≠ pp → ∀ q ∈ l, q.1 = T.qa u → q ∈ rest := fun u hu h1 q hq e => (hrest q).mpr ⟨hq, by rw [e]; exact fun e => h1 (hlay.qa hu hp e), by rw [e]; exact Ne.symm (hlay.ne hp hu).1, by rw [e]; exact Ne.symm (hlay.ne hp hu).2.1, by rw [e]; exact Ne.symm (hlay.ne hi hu).2.1⟩
  have hqk : ∀ q ∈ qs, 1 ≤ q.1 ∧ q.1 ≤ i ∧ T.par q.1 = pp := fun q hq => (q4.all q.1).mp (List.mem_map_of_mem hq)
  refine add_call (ks := qs.map fun q => (T.at i fun _ => true).key (fun _ => 0) q.1) (ts := qs.map (·.2)) (rest := rest) (tt0 := 0) (xs := xs) (nx := nx) (nq := nq) (k1 := k1) (k2 := k2) (k3 := k3) (k4 := k4) (k5 := k5) (k6 := k6) (k7 := k7) (k8 := k8) (j1 := j1) (j2 := j2) (j7 := j7) (j8 := j8) (b4 := b4) (l1 := l1) (l2 := l2) (l3 := l3) (l4 := l4) (l5 := l5) (l6 := l6) (l7 := l7) (l8 := l8) (i1 := i1) (i2 := i2) (i7 := i7) (i8 := i8) (c4 := c4) (nv := T.nm pp) (wv := T.wt pp) (nc := T.nm (i + 1)) (wc := T.wt (i + 1)) (df := 0) (c3 := .ref (ca (i + 1))) (c5 := .ref (T.qa (i + 1))) (c7 := .int 0 i7) (c8 := .int 0 i8) (bp := true) (bc := true) B F X Tp hk hdp hun ?hN (K _ a1 (.inr rfl)) (K _ b1 (.inr rfl)) d1 d2 d3 d4 d5 d6
    (fun q hq => ((hrest q).mp hq).2.1) (fun q hq => ((hrest q).mp hq).2.2.1) (fun q hq => ((hrest q).mp hq).2.2.2.1) (fun q hq => ((hrest q).mp hq).2.2.2.2) (by have := q4.len; simpa using this) (by have h : xs.length ≤ i := hxl; omega) ?hE ?hret
  case hN =>
    intro q hq
    rcases List.mem_cons.mp hq with rfl | hq
    · exact N _ a4
    rcases List.mem_cons.mp hq with rfl | hq
    · exact N _ a3
    rcases List.mem_cons.mp hq with rfl | hq
    · exact N _ a2
    rcases List.mem_cons.mp hq with rfl | hq
    · exact N _ b2
    · exact N _ ((hrest q).mp hq).1
  case hE =>
    intro j hj
    have hj' : j < qs.length := by simpa using hj
    obtain ⟨u, n0, hm⟩ := q4.tup qs[j] (List.getElem_mem hj')
    have hk2 := hqk qs[j] (List.getElem_mem hj')
    have hu := hup qs[j].1 hk2.1 (by omega)
    have hs : StrmIn w rest (T.sa qs[j].1) (T.nm qs[j].1) := (((hnodes qs[j].1 (by omega)).to fun q hq hc => by
      rcases hc with e | e | e | e | e
      · exact K q hq (.inl e)
      · exact K q hq (.inr e)
      · exact KD _ (by omega) (by omega) (by omega) q hq e
      · exact KC _ (by omega) (by omega) q hq e
      · exact KQ _ (by omega) (by omega) q hq e) : NodeB w (T.at i fun _ => true) ca rest qs[j].1).strm
    have e1 : (qs.map (·.2))[j] = qs[j].2 := by simp
    have e2 : (qs.map fun q => (T.at i fun _ => true).key (fun _ => 0) q.1).getD j (0, 0) = (T.at i fun _ => true).key (fun _ => 0) qs[j].1 := by simp [List.getD, hj']
    rw [e1, e2]
    exact ⟨u, _, n0, K _ hm (.inl rfl), hs⟩
  case hret =>
    intro nF h' tk' tt u' n1 n2 x F2 N2 hsub mq mc mt md me
    refine ret nF h' tk' F2 N2 (fun u hu => ?_) fun q hq ho => hsub q ((hrest q).mpr ⟨hq, (ho pp hp).2.2, (ho pp hp).2.1, (ho pp hp).1, (ho (i + 1) hi).1⟩)
    by_cases e1 : u = pp
    · subst e1
      have hkey : ∀ c, (T.at i fun _ => true).key (fun _ => 0) c = (0, T.nm c) := fun c => by
        show ((T.at i fun _ => true).lev (fun _ => 0) c, T.nm c) = _
        rw [lev0]
      rw [List.push_toArray] at mc
      refine ⟨hsub _ (K _ a1 (.inr rfl)), ⟨k1, k2, k3, k4, k5, k6, k7, k8, j1, j2, j7, j8, b4, md⟩, ⟨xs ++ [x], n2, by show (xs ++ [x]).length ≤ i + 1; simp; omega, mc⟩,
        qs.take (plc (0, T.nm (i + 1)) (qs.map fun q => (T.at i fun _ => true).key (fun _ => 0) q.1) (qs.map (·.2)).length) ++ (i + 1, tt) :: qs.drop (plc (0, T.nm (i + 1)) (qs.map fun q => (T.at i fun _ => true).key (fun _ => 0) q.1) (qs.map (·.2)).length), n1, ?_, ?_⟩
      · simp only [List.map_append, List.map_cons, List.map_take, List.map_drop] at mq ⊢
        exact mq
      · generalize hpl : plc (0, T.nm (i + 1)) (qs.map fun q => (T.at i fun _ => true).key (fun _ => 0) q.1) (qs.map (·.2)).length = pl at mq ⊢
        have hmem : ∀ q, q ∈ qs.take pl ++ (i + 1, tt) :: qs.drop pl ↔ q = (i + 1, tt) ∨ q ∈ qs := by
          intro q
          rw [List.mem_append, List.mem_cons]
          constructor
          · rintro (h | h | h)
            · exact .inr (List.mem_of_mem_take h)
            · exact .inl h
            · exact .inr (List.mem_of_mem_drop h)
          · rintro (h | h)
            · exact .inr (.inl h)
            · have h2 : q ∈ qs.take pl ++ qs.drop pl := by rw [List.take_append_drop]; exact h
              rcases List.mem_append.mp h2 with h | h
              · exact .inl h
              · exact .inr (.inr h)
        refine ⟨fun c => ?_, ?_, fun q hq => ?_, ?_⟩
        · have hall := q4.all c
          simp only [List.mem_map] at hall
          simp only [List.mem_map, hmem]
          constructor
          · rintro ⟨q, h | h, rfl⟩
            · rw [h]; exact ⟨Nat.succ_le_succ (Nat.zero_le _), Nat.le_refl _, hpar⟩
            · have := hqk q h; exact ⟨this.1, Nat.le_succ_of_le this.2.1, this.2.2⟩
          · rintro ⟨h1, h2, h3⟩
            have h2' : c ≤ i + 1 := h2
            by_cases e : c = i + 1
            · exact ⟨(i + 1, tt), .inl rfl, e.symm⟩
            · obtain ⟨q, hq, rfl⟩ := hall.mpr ⟨h1, by show c ≤ i; omega, h3⟩
              exact ⟨q, .inr hq, rfl⟩
        · rw [List.map_append, List.map_cons, List.map_take, List.map_drop, ← hpl]
          have hks : (qs.map fun q => (T.at i fun _ => true).key (fun _ => 0) q.1) = (qs.map (·.1)).map ((T.at i fun _ => true).key (fun _ => 0)) := by rw [List.map_map]; rfl
          rw [hks, show (qs.map (·.2)).length = (qs.map (·.1)).length from by simp]
          refine ins_sorted (key := (T.at i fun _ => true).key (fun _ => 0)) (k := (0, T.nm (i + 1))) q4.srt ?_ (hkey _) rfl
          intro o ho e
          obtain ⟨qo, hqo, rfl⟩ := List.mem_map.mp ho
          rw [hkey] at e
          have := hqk qo hqo
          have := hnm _ _ (by omega) hi e
          omega
        · rcases (hmem q).mp hq with rfl | hq
          · refine ⟨u', 0, ?_⟩
            show (tt, tupO ((T.at (i + 1) fun _ => true).lev (fun _ => 0) (i + 1)) u' (T.sa (i + 1)) 0) ∈ nF
            rw [lev0]; exact mt
          · obtain ⟨u2, n3, hm⟩ := q4.tup q hq
            exact ⟨u2, n3, hsub _ (K _ hm (.inl rfl))⟩
        · have hb : qs.length ≤ i := by
            have hnd : (qs.map (·.1)).Nodup := q4.srt.imp fun {a b} hab e => by rw [e, klt_irr] at hab; cases hab
            have h9 := len_below i ((qs.map (·.1)).map (· - 1)) ?_ ?_
            · simpa using h9
            · show List.Pairwise _ _
              rw [List.pairwise_map]
              refine hnd.imp_of_mem fun {a b} ha hb hab e => hab ?_
              have h1 := ((q4.all a).mp ha).1
              have h2 := ((q4.all b).mp hb).1
              omega
            · intro x hx
              obtain ⟨c, hc, rfl⟩ := List.mem_map.mp hx
              have h1 := ((q4.all c).mp hc).1
              have h2 : c ≤ i := ((q4.all c).mp hc).2.1
              omega
          simp only [List.length_append, List.length_cons, List.length_take, List.length_drop]
          omega
    · have hpu : T.par (i + 1) ≠ u := by rw [hpar]; exact fun e => e1 e.symm
      by_cases e2 : u = i + 1
      · subst e2
        refine NodeB.up ⟨hsub _ (K _ b1 (.inr rfl)), ⟨l1, l2, l3, l4, l5, l6, l7, l8, i1, i2, i7, i8, _, me⟩, ⟨ys, ny, hyl, hsub _ (KC _ hi e1 _ b3 rfl)⟩, qs', nq', hsub _ (KQ _ hi e1 _ b5 rfl), q5.mono fun q hq hc => hsub _ (K q hq (.inl hc))⟩ hpu
      · refine NodeB.up ((hnodes u hu).to fun q hq hc => hsub q ?_) hpu
        rcases hc with e | e | e | e | e
        · exact K q hq (.inl e)
        · exact K q hq (.inr e)
        · exact KD u hu e1 e2 q hq e
        · exact KC u hu e1 q hq e
        · exact KQ u hu e1 q hq e
end
/-! # Bd9 -/
def madeT (ns as ws : List Int) (kids : Nat → List Int) (sa da qa : Nat → Nat) : Tr :=
  { many := ns.length - 1, par := fun v => (as.getD v 0).toNat, nm := fun v => ns.getD v 0, wt := fun v => ws.getD v 0, lf := fun u => decide (kids u = []), sa := sa, da := da, qa := qa }
theorem off1_mem {D : Addr} : ∀ {l : List (Addr × Obj)}, LCg.Off1 D l → ∀ q ∈ l, @Ne Nat q.1 D
  | [], _, _, h => nomatch h
  | _ :: _, x, q, h => by
    rcases List.mem_cons.mp h with rfl | h
    · exact x.1
    · exact off1_mem x.2 q h
theorem NodeB.relf {w : World} {T : Tr} {lf lf' : Nat → Bool} {ca : Nat → Nat} {l : List (Addr × Obj)} {i u : Nat} (h : NodeB w (T.at i lf) ca l u) (e : lf u = lf' u) : NodeB w (T.at i lf') ca l u := by
  obtain ⟨h1, ⟨k1, k2, k3, k4, k5, k6, k7, k8, j1, j2, j7, j8, b4, h2⟩, h5, qs, n, h3, h4⟩ := h
  refine ⟨h1, ⟨k1, k2, k3, k4, k5, k6, k7, k8, j1, j2, j7, j8, b4, ?_⟩, h5, qs, n, h3, ⟨h4.all, h4.srt, h4.tup, h4.len⟩⟩
  have e2 : (T.at i lf).lf u = (T.at i lf').lf u := e
  rw [e2] at h2
  exact h2
theorem my_ne {prog : Program} {w : World} {A : Around} {E : Value → Shared → Prop} {s : Shared} {h₀ : Heap} {L : Addr} {news : List (Addr × Obj)} {a b : Addr} {xs : List Value} {ms : List Int} {c n : Nat} {b' : Bool} {Q : Value → Shared → Prop}
    (N : News h₀ L s.heap news) (hm : (a, PySem.W.listOf xs.toArray c) ∈ news) (hb : (b, PySem.W.listOf #[] n) ∈ news) (hi : IntsAre xs ms) (hu : A.units + 64 < cLine) (e : (!decide (ms = [])) = b') (h : Q (.bool b') s) :
    wpAny (model prog w) A (compareOp .NotEq (.ref a) (.ref b)) Q E s := by
  subst e
  exact ke_ne_ints (ys := []) ⟨_, (N _ hm).1, rfl, c, rfl⟩ ⟨_, (N _ hb).1, rfl, n, rfl⟩ hi .nil hu h
theorem kwBd91 : True := by
  k_with_none
  k_with "compareOp NotEq ref ref" => (k_here; (with_reducible show wpAny _ _ (compareOp CmpOp.NotEq (Value.ref _) (Value.ref _)) _ _ _); k_dflt (refine' my_ne (by k_asm) (by k_mem) (by k_mem) (by assumption) (by k_units) (by assumption) ?_; k_whole))
  trivial
theorem at_ref {bs : List Addr} {j : Nat} (h : j < bs.length) : (bs.map Value.ref)[j]? = some (.ref (bs.getD j 0)) := by simp [h]
theorem at_map (f : Nat → Nat) {n j : Nat} (h : j < n) : ((List.range n).map (fun v => Value.ref (f v)))[j]? = some (.ref (f j)) := by simp [h]
theorem fill9 : (hd.heap_1 = hd.heap_1) ∧ (Challenge.rw_bd0030_01 = Challenge.rw_bd0030_01) := by w_top off; k_fill; exact ⟨rfl, rfl⟩
theorem kwBd92 : True := by
  k_with "eval Name" => (k_here; k_dflt (refine' nameX_L (by k_asm) (by first | assumption | with_unfolding_all assumption) ?_ (by rfl) (by rfl); k_whole))
  k_with "loadName" => (k_here; k_dflt (refine' ldn (by k_asm) (by first | assumption | with_unfolding_all assumption) ?_ (by rfl) (by rfl); k_whole))
  k_with "exec For Name Call cons nil" => (k_here; (rename Fr _ _ _ _ => lF9); (with_unfolding_all refine' For_turns lF9 ?_; k_whole); (revert lF9; intro _))
  k_with "exec For Name Name cons nil" => (k_here; (rename Fr _ _ _ _ => lF9); (with_unfolding_all refine' For_turns lF9 ?_; k_whole); (revert lF9; intro _))
  k_with "pyIter ref" => ((with_reducible show wpAny _ _ (pyIter (Value.ref _)) (fun it s₂ => TurnsAt _ _ _ _ _ _ _ _ _ it s₂) _ _); refine stop2 ?_)
  k_with "subscriptTail" => (k_here; (with_reducible show wpAny _ _ (subscriptTail _ _ (Value.ref _) (Value.int _ _)) _ _ _); (with_unfolding_all refine' int_item (by k_asm) (by k_mem) (by assumption) (by exact rfl) (by omega) (by omega) ?_ (by with_unfolding_all rfl); k_whole); intro _)
  k_with "call builtin:len" => (k_here; (with_reducible show wpAny _ _ (call (Value.builtin "len") [Value.ref _]) _ _ _); k_dflt (refine' kst_len (by k_asm) (by k_mem) (by exact IntsAre.length (by assumption)) (by omega) ?_; k_whole))
  k_with "exec Assign cons ListComp" => (k_here; k_dflt (refine LCg.Assign_ListComp_U (F₀ := by k_asm) (by rfl) (by with_unfolding_all rfl) (by rfl) (by decide) (by rfl) (by decide) (by rfl) (by rfl) (by rfl) ?_))
  k_with "CompSrc" => (refine stop2 ?_)
  k_with "eval Name" => (k_here; (with_reducible show wpAny _ _ (eval (Expr.Name _ _) (compEnvC _ _ _ _)) _ _ _); k_dflt (first | (refine' LCgL.ld_own (by k_asm) (by k_mem) (by assumption) (by assumption) ?_ (by exact rfl) (by exact rfl)) | (refine' kcf_cell (by k_asm) (by exact rfl) (by k_mem) (by k_asm) ?_ (by exact rfl) (by exact rfl)) | (refine' LCgL.ld_global (by k_asm) (by k_asm) (by k_asm) (by k_is) ?_) | (refine' LCgL.ld_built (by k_asm) (by k_asm) (by k_asm) (by k_is) (by boot_by_name) (by decide) ?_)))
  k_with "call ref" => (k_here; k_dflt (show wpAny _ _ (call (Value.ref 106) _) _ _ _); refine stop2 ?_)
  k_with "subscriptTail" => (k_here; (with_reducible show wpAny _ _ (subscriptTail _ _ (Value.ref _) (Value.int _ _)) _ _ _); (with_unfolding_all refine' my_item (by k_asm) (by k_mem) (by omega) (by omega) (by assumption) ?_ (by with_unfolding_all rfl); k_whole))
  trivial
section
variable {w : World} {p : Program} {loose : List Str} {mean : ExcName → Option Value} {mg mb : Str → Option Value}
    {dp un : Nat} {gd : Option (List Code)} {cn : Str} {cs : Scope} {a : Addr} {ccd : Value} {cl : List (Str × Addr)} {outer : List Env} {A₀ : Around} {base h₀ : Heap} {L : Addr} {m : Str → Option Value} {s : Shared}
    {Q E : Value → Shared → Prop}
theorem made_call {news : List (Addr × Obj)} {nl al wl bl : Nat} {nv av wv : List Value} {bs : List Addr} {nc ac wc bc : Nat} {ns as ws : List Int} {kids : Nat → List Int}
    (B : Below A₀ base outer h₀) (F : Fr h₀ L s.heap m) (X : (hd.heap_1 w.params).In h₀) (N : News h₀ L s.heap news) (T : Top p loose mean mg mb h₀) (hk : cs.kind = .function)
    (hdp : dp + 60 < 1000) (hun : un + 400 < 9900)
    (mn : (nl, PySem.W.listOf nv.toArray nc) ∈ news) (ma : (al, PySem.W.listOf av.toArray ac) ∈ news) (mw : (wl, PySem.W.listOf wv.toArray wc) ∈ news) (mb' : (bl, PySem.W.listOf (bs.map Value.ref).toArray bc) ∈ news)
    (iN : IntsAre nv ns) (ia : IntsAre av as) (iw : IntsAre wv ws) (hnw : ns.length = ws.length) (hna : ns.length = as.length) (hln : ns.length ≤ 900) (hw : ∀ o, o < ws.length → 1 ≤ ws.getD o 0 ∧ ws.getD o 0 ≤ 256) (hab : ∀ v, 1 ≤ v → v < ns.length → 0 ≤ as.getD v 0 ∧ as.getD v 0 < v) (hnm : ∀ u v, u < ns.length → v < ns.length → ns.getD u 0 = ns.getD v 0 → u = v) (hn1 : 1 ≤ ns.length) (hbs : bs.length = ns.length) (hkb : ∀ u, u < ns.length → ∃ kv kc, (bs.getD u 0, PySem.W.listOf kv.toArray kc) ∈ news ∧ IntsAre kv (kids u))
    (ret : ∀ (sa da ca qa : Nat → Nat) (D : Nat) (l' : List (Addr × Obj)) h' tk', Lay ns.length sa da ca qa news → (∀ u, u < ns.length → (@Ne Nat D (da u)) ∧ (@Ne Nat D (ca u)) ∧ (@Ne Nat D (qa u))) → Fr h₀ L h' m → News h₀ L h' l' → (∀ p ∈ news, p ∈ l') →
      (D, LCg.lst ((List.range ns.length).map (fun v => Value.ref (sa v)))) ∈ l' → (∀ u, u < ns.length → NodeB w (madeT ns as ws kids sa da qa) ca l' u) → Q (.ref D) { s with heap := h', toks := tk' }) :
    wpAny (model PR w) (ktrTop dp un gd cn cs L a ccd cl outer) (call (.ref 189) [.ref nl, .ref al, .ref wl, .ref bl]) Q E s := by
  refine wpAny_call ?_
  k_dflt (refine' code_defC ?k1 ?k2 ?k3 ?k4 ?k5 ?kA ?kF ?kK ?k6 ?k7 ?k8 ?k9 ?kB ?kD ?_ ?c2 ?c3 ?c4; (case kA => exact rfl); (case kF => exact rfl); (case kK => assumption); (case k1 => k_asm); (case k2 => k_asm); (case k3 => k_asm); (case k4 => k_asm); (case k5 => k_asm); (case k6 => k_is); (case k7 => k_is); (case k8 => k_room); (case k9 => exact BindsTo.of_eq rfl); (case kB => exact rfl); (case kD => decide +kernel); (case c2 => exact rfl); (case c3 => exact rfl); (case c4 => exact rfl); k_whole; intro g' L' h' tk' cells' FG' F' N' Y' B' X' T' l1; (try k_lt l1); (have hY := CellsAre.two Y'); (obtain ⟨oc1, oc2, hE, dc1, dc2⟩ := hY); subst hE; clear Y'; (try simp only [List.cons_append, List.nil_append] at N'); (try dsimp only); (try k_fold))
  k_steps
  unfold Stop2
  (rename Fr _ _ _ _ => F1); (rename News _ _ _ _ => N1); (rename IsRange _ _ _ _ _ _ _ _ => R1)
  refine my_src (n9 := ns.length) (by rfl) F1 N1 R1 (my_small (by omega) (by omega) (by omega) (by omega)) (by rw [rangeSize_nat]; omega) (by rw [sizeLine_eq]; omega) ?_
  intro g2
  refine comp_rest_J (fun i ys l => MadeJ w ns ws ((L' + 1 + 1, oc1) :: (L' + 1, oc2) :: news) i ys l) ⟨fun _ hp => hp, [], rfl, rfl, fun j hj => absurd hj (Nat.not_lt_zero _), fun r hr => (nomatch hr), .nil, fun r hr => (nomatch hr)⟩ ?_ ?_
  · rintro i v ys l I oI C oC D m₂ h tk E' hi ⟨t, rfl⟩ hJ hC hx F2 N2 off ne
    have hsub := hJ.1
    have c1 := hsub (L' + 1 + 1, oc1) (by k_mem)
    have c2 := hsub (L' + 1, oc2) (by k_mem)
    have mn2 := hsub (nl, _) (by k_mem)
    have mw2 := hsub (wl, _) (by k_mem)
    simp only [Int.zero_add] at hx
    have hww := hw i (by omega)
    have hw1 := hww.1
    have hw2 := hww.2
    clear F1 N1 R1
    k_steps
    (rename Fr _ _ _ _ => F3); (rename News _ _ _ _ => N3)
    refine' made_end F3 N3 ?hd ?hx ?hc ?hq off ?hR
    case hd => assumption
    case hx => omega
    case hc => omega
    case hq => omega
    case hR => exact hJ.step (by tbn_find) (by omega) (by omega) (by omega)
  · rintro ys l hJ D h tk F2 N2 o1
    have hsub := hJ.1
    have c1 := hsub (L' + 1 + 1, oc1) (by k_mem)
    have c2 := hsub (L' + 1, oc2) (by k_mem)
    have mn2 := hsub (nl, _) (by k_mem)
    have mw2 := hsub (wl, _) (by k_mem)
    have ma2 := hsub (al, _) (by k_mem)
    have mb2 := hsub (bl, _) (by k_mem)
    obtain ⟨sa, da, ca, qa, hlay, rfl, hrc⟩ := hJ.fns
    have hsub' : ∀ p ∈ news, p ∈ ((L' + 1 + 1, oc1) :: (L' + 1, oc2) :: news : List (Addr × Obj)) := fun p hp => .tail _ (.tail _ hp)
    have hDn : ∀ u, u < ns.length → (@Ne Nat D (da u)) ∧ (@Ne Nat D (ca u)) ∧ (@Ne Nat D (qa u)) := by
      intro u hu
      obtain ⟨_, ⟨_, _, _, _, _, _, _, _, _, _, _, _, y1⟩, ⟨_, y2⟩, _, y3⟩ := hrc u hu
      exact ⟨fun e => off1_mem o1 _ y1 e.symm, fun e => off1_mem o1 _ y2 e.symm, fun e => off1_mem o1 _ y3 e.symm⟩
    clear F1 N1 R1 hJ
    k_steps
    unfold Stop2
    (rename Fr _ _ _ _ => F1); (rename News _ _ _ _ => N1); (rename IsRange _ _ _ _ _ _ _ _ => R1)
    obtain ⟨TT, hTT⟩ : ∃ TT : Tr, TT = { many := ns.length - 1, par := fun v => (as.getD v 0).toNat, nm := fun v => ns.getD v 0, wt := fun v => ws.getD v 0, lf := fun _ => true, sa := sa, da := da, qa := qa } := ⟨_, rfl⟩
    refine iter_rangeJ (n9 := ns.length - 1) (fun i m₁ l₂ => m₁ (Str.ofString "above") = some (.ref al) ∧ m₁ (Str.ofString "below") = some (.ref bl) ∧ m₁ (Str.ofString "streams") = some (.ref D) ∧
        (∀ p ∈ ((L' + 1 + 1, oc1) :: (L' + 1, oc2) :: news : List (Addr × Obj)), p ∈ l₂) ∧ (D, LCg.lst ((List.range ns.length).map (fun v => Value.ref (sa v)))) ∈ l₂ ∧ ∀ u, u < ns.length → NodeB w (TT.at i fun _ => true) ca l₂ u)
      (by rfl) (by rfl) R1 (my_small (by omega) (by omega) (by omega) (by omega)) (by rw [rangeSize_nat]; omega) F1 N1 ⟨by with_unfolding_all exact rfl, by with_unfolding_all exact rfl, by with_unfolding_all exact rfl, fun p hp => .tail _ (hsub p hp), .head _, fun u hu => by
        subst hTT; exact NodeB.start ((hrc u hu).mono fun p hp => .tail _ hp)⟩ ?_
    intro I hI
    clear F1 N1 R1
    refine ⟨?_, ?_⟩
    · rintro i t m₁ l₂ h1 tk1 o hi hoc ⟨f1, f2, f3, hb, hD, hnodes⟩ hoff F1 N1
      have e1 : (1 : Int) + (i : Int) = ((i + 1 : Nat) : Int) := by omega
      rw [e1]
      have hpar := hab (i + 1) (by omega) (by omega)
      have hpp : (as.getD (i + 1) 0).toNat < ns.length := by omega
      have i1 := (hnodes _ hpp).open
      have i2 := (hnodes (i + 1) (by omega)).open
      obtain ⟨i1a, ⟨k1, k2, k3, k4, k5, k6, k7, k8, j1, j2, j7, j8, b4, i1b⟩, _⟩ := i1
      have i1c : (sa (as.getD (i + 1) 0).toNat, instObj 180 (da (as.getD (i + 1) 0).toNat)) ∈ l₂ := by rw [hTT] at i1a; exact i1a
      have i1d : (da (as.getD (i + 1) 0).toNat, dictOf (ents w.params k1 k2 k3 k4 k5 k6 k7 k8 (.int (ns.getD (as.getD (i + 1) 0).toNat 0) j1) (.int (ws.getD (as.getD (i + 1) 0).toNat 0) j2) (.ref (ca (as.getD (i + 1) 0).toNat)) b4 (.ref (qa (as.getD (i + 1) 0).toNat)) (.bool true) (.int 0 j7) (.int 0 j8)) 8) ∈ l₂ := by rw [hTT] at i1b; exact i1b
      clear i1a i1b i2
      have hxp : ((List.range ns.length).map (fun v => Value.ref (sa v)))[(as.getD (i + 1) 0).toNat]? = some (.ref (sa (as.getD (i + 1) 0).toNat)) := at_map sa hpp
      have hxv : ((List.range ns.length).map (fun v => Value.ref (sa v)))[((i + 1 : Nat) : Int).toNat]? = some (.ref (sa (i + 1))) := by
        have h9 : i + 1 < ns.length := by omega
        rw [Int.toNat_natCast]; exact at_map sa h9
      have ma3 := hb (al, _) (hsub' _ ma)
      have hD' : (D, PySem.W.listOf ((List.range ns.length).map (fun v => Value.ref (sa v))).toArray _) ∈ l₂ := hD
      k_steps
      unfold Stop2
      (rename Fr _ _ _ _ => F3); (rename News _ _ _ _ => N3)
      have hT1 : TT.sa = sa := by rw [hTT]
      have hT2 : TT.da = da := by rw [hTT]
      have hT3 : TT.qa = qa := by rw [hTT]
      have hoffn : ∀ u, u < ns.length → (I : Nat) ≠ TT.da u ∧ (I : Nat) ≠ ca u ∧ (I : Nat) ≠ TT.qa u := by
        intro u hu
        obtain ⟨_, ⟨_, _, _, _, _, _, _, _, _, _, _, _, _, y1⟩, ⟨_, _, _, y2⟩, _, _, y3, _⟩ := (hnodes u hu).open
        exact ⟨fun e => hoff _ y1 e.symm, fun e => hoff _ y2 e.symm, fun e => hoff _ y3 e.symm⟩
      have hcr := (hnodes (i + 1) (by omega)).open
      clear i1c i1d hxp hxv ma3 hD' hcr
      rw [← hT1]
      refine' add_turn (T := TT) (ca := ca) (n := ns.length) (i := i) (l := (I, o) :: l₂) ?B F3 ?X ?T ?k ?d ?u N3 ?hlay ?hn (by omega) ?hpar (by omega) hln ?hnm ?hup ?ret
      (case B => k_asm); (case X => k_asm); (case T => k_asm); (case k => rfl); (case d => k_room); (case u => k_units)
      case hlay => rw [hT1, hT2, hT3]; exact hlay
      case hn => exact fun u hu => (hnodes u hu).to fun p hp _ => .tail _ hp
      case hpar => rw [hTT]
      case hnm => rw [hTT]; exact hnm
      case hup => rw [hTT]; intro c h1 h2; have h3 := hab c h1 h2; show (as.getD c 0).toNat < c; omega
      intro nF h9 tk9 F4 N4 hn4 hk4
      have hI4 : (I, o) ∈ nF := hk4 _ (.head _) hoffn
      clear F3 N3
      k_steps
      have hoff4 : ∀ p ∈ ((L' + 1 + 1, oc1) :: (L' + 1, oc2) :: news : List (Addr × Obj)), p ∈ nF ∧ @Ne Nat p.1 I := fun p hp => ⟨hk4 p (.tail _ (hb p hp)) fun u hu => by
        have y1 := hlay.new u hu p hp
        have y2 := hlay.o1 u hu
        rw [hT2, hT3]
        exact ⟨Nat.ne_of_lt y1, Nat.ne_of_lt (by omega), Nat.ne_of_lt (by omega)⟩, fun e => hoff p (hb p hp) e⟩
      refine TEnd.next F4 N4 hI4 ⟨by with_unfolding_all exact f1, by with_unfolding_all exact f2, by with_unfolding_all exact f3, fun p hp => mem_off (hoff4 p hp).1 (hoff4 p hp).2, ?_, fun u hu => (hn4 u hu).off N4 hI4 hoc⟩
      rw [hT1]
      exact mem_off (hk4 _ (.tail _ hD) fun u hu => by rw [hT2, hT3]; exact hDn u hu) fun e => hoff _ hD e
    · rintro m₁ l₂ h1 tk1 ⟨f1, f2, f3, hb, hD, hnodes⟩ F1 N1
      have mn3 := hb (nl, _) (hsub' _ mn)
      have c1 := hb (L' + 1 + 1, oc1) (by k_mem)
      have c2 := hb (L' + 1, oc2) (by k_mem)
      k_steps
      unfold Stop2
      (rename Fr _ _ _ _ => F5); (rename News _ _ _ _ => N5); (rename IsRange _ _ _ _ _ _ _ _ => R5)
      refine iter_rangeJ (n9 := ns.length) (fun i m₁ l₂ => m₁ (Str.ofString "below") = some (.ref bl) ∧ m₁ (Str.ofString "streams") = some (.ref D) ∧
        (∀ p ∈ ((L' + 1 + 1, oc1) :: (L' + 1, oc2) :: news : List (Addr × Obj)), p ∈ l₂) ∧ (D, LCg.lst ((List.range ns.length).map (fun v => Value.ref (sa v)))) ∈ l₂ ∧ ∀ u, u < ns.length → NodeB w (TT.at (ns.length - 1) fun u => if u < i then decide (kids u = []) else true) ca l₂ u)
        (by rfl) (by rfl) R5 (my_small (by omega) (by omega) (by omega) (by omega)) (by rw [rangeSize_nat]; omega) F5 N5 ⟨by with_unfolding_all exact f2, by with_unfolding_all exact f3, hb, hD, fun u hu => (hnodes u hu).relf (lf' := fun u => if u < 0 then decide (kids u = []) else true) (by show true = if u < 0 then _ else true; rw [if_neg (Nat.not_lt_zero u)])⟩ ?_
      intro I5 hI5
      clear F5 N5 R5 f1 f2 f3 hb hD hnodes mn3 c1 c2 hI
      have hT1 : TT.sa = sa := by rw [hTT]
      have hT2 : TT.da = da := by rw [hTT]
      have hT3 : TT.qa = qa := by rw [hTT]
      refine ⟨?_, ?_⟩
      · rintro i t m₁ l₂ h1 tk1 o hi hoc ⟨f2, f3, hb, hD, hnodes⟩ hoff F1 N1
        rw [Int.zero_add]
        obtain ⟨kv, kc, hkv, hki⟩ := hkb i hi
        have hkv3 := hb _ (hsub' _ hkv)
        have mb3 := hb (bl, _) (hsub' _ mb')
        have hxb : (bs.map Value.ref)[((i : Nat) : Int).toNat]? = some (.ref (bs.getD i 0)) := by rw [Int.toNat_natCast]; exact at_ref (by omega)
        have hxv : ((List.range ns.length).map (fun v => Value.ref (sa v)))[((i : Nat) : Int).toNat]? = some (.ref (sa i)) := by rw [Int.toNat_natCast]; exact at_map sa hi
        by_cases hk0 : kids i = []
        · have e0 : (!decide (kids i = [])) = false := by rw [hk0]; rfl
          k_steps
          (rename Fr _ _ _ _ => F3); (rename News _ _ _ _ => N3)
          refine TEnd.next F3 N3 (by k_mem) ⟨by with_unfolding_all exact f2, by with_unfolding_all exact f3, fun p hp => mem_off (.tail _ (.tail _ (hb p hp))) fun e => hoff p (hb p hp) e, mem_off (.tail _ (.tail _ hD)) fun e => hoff _ hD e, fun u hu => ((((hnodes u hu).to fun p hp _ => ?_).relf ?_).off N3 (by k_mem) hoc)⟩
          · exact .tail _ (.tail _ hp)
          · show (if u < i then decide (kids u = []) else true) = if u < i + 1 then decide (kids u = []) else true
            by_cases e1 : u = i
            · subst e1; rw [if_neg (Nat.lt_irrefl _), if_pos (Nat.lt_succ_self _), decide_eq_true hk0]
            · by_cases e2 : u < i
              · rw [if_pos e2, if_pos (by omega)]
              · rw [if_neg e2, if_neg (by omega)]
        · have e0 : (!decide (kids i = [])) = true := by rw [decide_eq_false hk0]; rfl
          have hon := (hnodes i hi).open
          rw [if_neg (Nat.lt_irrefl i), hTT] at hon
          obtain ⟨i1a, ⟨k1, k2, k3, k4, k5, k6, k7, k8, j1, j2, j7, j8, b4, i1b⟩, i1c, i1d⟩ := hon
          obtain ⟨rest, hrest⟩ : ∃ rest : List (Addr × Obj), ∀ q, q ∈ rest ↔ q ∈ l₂ ∧ @Ne Nat q.1 (da i) := ⟨l₂.filter fun q => decide (@Ne Nat q.1 (da i)), fun q => by rw [List.mem_filter, decide_eq_true_eq]⟩
          have N1l : News g' L' h1 l₂ := fun p hp => N1 p (.tail _ hp)
          have K : ∀ q ∈ l₂, q.2.cls ≠ .type "dict" → q ∈ rest := fun q hq hc => (hrest q).mpr ⟨hq, news_ne N1l (a := q.1) (o := q.2) hq i1b hc⟩
          have offr : ∀ q ∈ rest, @Ne Nat q.1 (da i) := fun q hq => ((hrest q).mp hq).2
          have offI : ∀ q ∈ rest, @Ne Nat q.1 I5 := fun q hq => hoff q ((hrest q).mp hq).1
          have dI : @Ne Nat (da i) I5 := hoff _ i1b
          have dI' : @Ne Nat I5 (da i) := Ne.symm dI
          have N6 : News g' L' h1 ((da i, dictOf (ents w.params k1 k2 k3 k4 k5 k6 k7 k8 (.int (ns.getD i 0) j1) (.int (ws.getD i 0) j2) (.ref (ca i)) b4 (.ref (qa i)) (.bool true) (.int 0 j7) (.int 0 j8)) 8) :: (I5, o) :: rest) := by
            intro q hq
            rcases List.mem_cons.mp hq with rfl | hq
            · exact N1l _ i1b
            rcases List.mem_cons.mp hq with rfl | hq
            · exact N1 _ (.head _)
            · exact N1l _ ((hrest q).mp hq).1
          have hkv4 := K _ hkv3 (by exact cls_ld)
          have mb4 := K _ mb3 (by exact cls_ld)
          have hD4 : (D, PySem.W.listOf ((List.range ns.length).map (fun v => Value.ref (sa v))).toArray _) ∈ rest := K _ hD (by exact cls_ld)
          have i4 := K _ i1a (by intro e; cases e)
          have hbase : ∀ p ∈ ((L' + 1 + 1, oc1) :: (L' + 1, oc2) :: news : List (Addr × Obj)), p ∈ rest ∧ @Ne Nat p.1 I5 := fun p hp => ⟨(hrest p).mpr ⟨hb p hp, Nat.ne_of_lt (hlay.new i hi p hp)⟩, hoff p (hb p hp)⟩
          clear N1 N1l
          k_steps
          (rename Fr _ _ _ _ => F3); (rename News _ _ _ _ => N3)
          refine TEnd.next F3 N3 (by k_mem) ⟨by with_unfolding_all exact f2, by with_unfolding_all exact f3, fun p hp => mem_off (.tail _ (.tail _ (.tail _ (hbase p hp).1))) (hbase p hp).2, mem_off (.tail _ (.tail _ (.tail _ hD4))) (offI _ hD4), fun u hu => ?_⟩
          refine NodeB.off ?_ N3 (by k_mem) hoc
          by_cases e1 : u = i
          · subst e1
            obtain ⟨xs, nx, hx, hc⟩ := i1c
            obtain ⟨qs, nq, hq, hQ⟩ := i1d
            rw [hTT]
            refine ⟨.tail _ (.tail _ (.tail _ i4)), ⟨k1, k2, k3, k4, k5, k6, k7, k8, j1, j2, j7, j8, b4, ?_⟩, ⟨xs, nx, hx, .tail _ (.tail _ (.tail _ (K _ hc (by exact cls_ld))))⟩, qs, nq, .tail _ (.tail _ (.tail _ (K _ hq (by exact cls_ld)))), ⟨hQ.all, hQ.srt, fun q hq => let ⟨u, n, hm⟩ := hQ.tup q hq; ⟨u, n, .tail _ (.tail _ (.tail _ (K _ hm (by exact cls_td))))⟩, hQ.len⟩⟩
            show (da u, dictOf (ents w.params k1 k2 k3 k4 k5 k6 k7 k8 (.int (ns.getD u 0) j1) (.int (ws.getD u 0) j2) (.ref (ca u)) b4 (.ref (qa u)) (.bool (if u < u + 1 then decide (kids u = []) else true)) (.int 0 j7) (.int 0 j8)) 8) ∈ _
            rw [if_pos (Nat.lt_succ_self u), decide_eq_false hk0]
            k_mem
          · refine ((hnodes u hu).to fun p hp hc => .tail _ (.tail _ (.tail _ ((hrest p).mpr ⟨hp, ?_⟩)))).relf ?_
            · rcases hc with e | e | e | e | e
              · exact offr p (K p hp (by rw [e]; exact cls_td))
              · exact offr p (K p hp (by rw [e]; exact cls_rd))
              · rw [show p.1 = da u from (by rw [← hT2]; exact e)]; exact fun e => e1 (hlay.da hu hi e)
              · rw [e]; exact Ne.symm (hlay.ne hi hu).2.2.1
              · rw [show p.1 = qa u from (by rw [← hT3]; exact e)]; exact Ne.symm (hlay.ne hi hu).2.1
            · show (if u < i then decide (kids u = []) else true) = if u < i + 1 then decide (kids u = []) else true
              by_cases e2 : u < i
              · rw [if_pos e2, if_pos (by omega)]
              · rw [if_neg e2, if_neg (by omega)]
      · rintro m₁ l₂ h1 tk1 ⟨f2, f3, hb, hD, hnodes⟩ F1 N1
        k_steps
        (rename Fr _ _ _ _ => F3); (rename News _ _ _ _ => N3)
        refine ret sa da ca qa D l₂ _ _ ⟨hlay.o1, hlay.o2, fun v hv p hp => hlay.new v hv p (hsub' p hp)⟩ hDn F3 N3 (fun p hp => hb p (hsub' p hp)) hD fun u hu => ?_
        have h9 := (hnodes u hu).relf (lf' := fun u => decide (kids u = [])) (by show (if u < ns.length then decide (kids u = []) else true) = _; rw [if_pos hu])
        rw [hTT] at h9
        exact h9
end
/-! # BdC -/
def OffC (L D : Nat) : Prop := ∀ c, L + 1 ≤ c → c ≤ L + 9 → D ≠ c
theorem OffC.ne {L D c : Nat} (h : OffC L D) (h1 : L + 1 ≤ c) (h2 : c ≤ L + 9) : D ≠ c := h c h1 h2
def OffR (L : Nat) (l : List (Addr × Obj)) : Prop := ∀ q ∈ l, OffC L q.1
theorem OffR.ne {L c : Nat} {l : List (Addr × Obj)} (h : OffR L l) (h1 : L + 1 ≤ c) (h2 : c ≤ L + 9) : ∀ q ∈ l, @Ne Nat q.1 c := fun q hq => h q hq c h1 h2
theorem offC9 {L D : Nat} {l : List (Addr × Obj)} {o1 o2 o3 o4 o5 o6 o7 o8 o9 : Obj} (o : LCg.Off1 D l) (m1 : (L + 1 + 1 + 1 + 1 + 1 + 1 + 1 + 1 + 1, o1) ∈ l) (m2 : (L + 1 + 1 + 1 + 1 + 1 + 1 + 1 + 1, o2) ∈ l) (m3 : (L + 1 + 1 + 1 + 1 + 1 + 1 + 1, o3) ∈ l) (m4 : (L + 1 + 1 + 1 + 1 + 1 + 1, o4) ∈ l) (m5 : (L + 1 + 1 + 1 + 1 + 1, o5) ∈ l) (m6 : (L + 1 + 1 + 1 + 1, o6) ∈ l) (m7 : (L + 1 + 1 + 1, o7) ∈ l) (m8 : (L + 1 + 1, o8) ∈ l) (m9 : (L + 1, o9) ∈ l) : OffC L D := by
  intro c h1 h2
  have h : c = L + 1 + 1 + 1 + 1 + 1 + 1 + 1 + 1 + 1 ∨ c = L + 1 + 1 + 1 + 1 + 1 + 1 + 1 + 1 ∨ c = L + 1 + 1 + 1 + 1 + 1 + 1 + 1 ∨ c = L + 1 + 1 + 1 + 1 + 1 + 1 ∨ c = L + 1 + 1 + 1 + 1 + 1 ∨ c = L + 1 + 1 + 1 + 1 ∨ c = L + 1 + 1 + 1 ∨ c = L + 1 + 1 ∨ c = L + 1 := by omega
  rcases h with rfl | rfl | rfl | rfl | rfl | rfl | rfl | rfl | rfl
  · exact Ne.symm (off1_mem o _ m1)
  · exact Ne.symm (off1_mem o _ m2)
  · exact Ne.symm (off1_mem o _ m3)
  · exact Ne.symm (off1_mem o _ m4)
  · exact Ne.symm (off1_mem o _ m5)
  · exact Ne.symm (off1_mem o _ m6)
  · exact Ne.symm (off1_mem o _ m7)
  · exact Ne.symm (off1_mem o _ m8)
  · exact Ne.symm (off1_mem o _ m9)
theorem fm6 (x : Int) : ∃ M : Nat, 1 ≤ M ∧ M ≤ 6 ∧ 1 + x.fmod 6 = (M : Int) := by
  have h1 := Int.fmod_nonneg_of_pos x (show (0 : Int) < 6 by omega)
  have h2 := Int.fmod_lt_of_pos x (show (0 : Int) < 6 by omega)
  exact ⟨(1 + x.fmod 6).toNat, by omega, by omega, by omega⟩
theorem ints_step {ys : List Value} {f : Nat → Int} {i : Nat} {y : Int} {t : Tok} (h : IntsAre ys ((List.range i).map f)) (e : y = f i) : IntsAre (ys ++ [.int y t]) ((List.range (i + 1)).map f) := by
  rw [List.range_succ, List.map_append, e]
  exact h.append (.cons _ t .nil)
section
variable {prog9 : Program} {w9 : World} {A9 : Around} {E9 : Value → Shared → Prop} {s9 : Shared} {h₀9 : Heap} {L9 : Addr} {m9 : Str → Option Value} {l9 : Addr} {vs9 : List Value} {ns9 : List Int} {Q9 : Value → Shared → Prop}
theorem len0 {k9 : Nat} (F : Fr h₀9 L9 s9.heap m9) (hl : h₀9.IsList l9 vs9.toArray) (hI : IntsAre vs9 ns9) (e : ns9.length = k9) (hfit : (k9 : Int) < 2 ^ 63)
    (h : Q9 (.int (k9 : Int) (s9.toks + 1)) { s9 with toks := s9.toks + 1 + 1 }) : wpAny (model prog9 w9) A9 (call (.builtin "len") [.ref l9]) Q9 E9 s9 := by
  have hl' : s9.heap.IsList l9 vs9.toArray := hl.at fun o e => F.keep _ _ e
  have e2 : vs9.toArray.size = k9 := by rw [List.size_toArray, ← e]; exact hI.length
  exact call_len_list hl' (by rw [e2]; exact hfit) (by rw [e2]; exact h)
theorem item0 {value9 slice9 : PySem.Expr} {k9 : Int} {j9 : Nat} {u9 : Tok} (F : Fr h₀9 L9 s9.heap m9) (hl : h₀9.IsList l9 vs9.toArray) (hI : IntsAre vs9 ns9) (hk : k9 = (j9 : Int)) (h1 : j9 < ns9.length) (hfit : j9 < 2000) (h : ∀ t, Q9 (.int (ns9.getD j9 0) t) s9)
    (hs : subscripted slice9 false (.ref l9) (.int k9 u9) = operate [.ref l9, .int k9 u9] (getItem (.ref l9) (.int k9 u9)) := by with_unfolding_all rfl) :
    wpAny (model prog9 w9) A9 (subscriptTail value9 slice9 (.ref l9) (.int k9 u9)) Q9 E9 s9 := by
  subst hk
  exact item_anyK (hl := hl.at fun o e => F.keep _ _ e) hI (by omega) (by omega) (by omega) h hs
theorem int_itemK {value9 slice9 : PySem.Expr} {k9 : Int} {u9 : Tok} {c9 : Nat} {news9 : List (Addr × Obj)} (N : News h₀9 L9 s9.heap news9) (hm : (l9, PySem.W.listOf vs9.toArray c9) ∈ news9) (hI : IntsAre vs9 ns9) (h0 : 0 ≤ k9) (h1 : k9 < ns9.length) (hfit : k9 < 2000) (h : ∀ t, Q9 (.int (ns9.getD k9.toNat 0) t) s9)
    (hs : subscripted slice9 false (.ref l9) (.int k9 u9) = operate [.ref l9, .int k9 u9] (getItem (.ref l9) (.int k9 u9)) := by with_unfolding_all rfl) :
    wpAny (model prog9 w9) A9 (subscriptTail value9 slice9 (.ref l9) (.int k9 u9)) Q9 E9 s9 :=
  item_anyK (hl := ⟨_, (N _ hm).1, rfl, c9, rfl⟩) hI h0 h1 (by omega) h hs
theorem my_add {a9 b9 : Addr} {k9 : Int} {t9 : Tok} {c9 : Nat} {news9 : List (Addr × Obj)} (F : Fr h₀9 L9 s9.heap m9) (N : News h₀9 L9 s9.heap news9) (ha : (a9, PySem.W.listOf #[.int k9 t9] c9) ∈ news9) (hb : (b9, LCg.lst vs9) ∈ news9) (hI : IntsAre vs9 ns9) (hz : ns9.length ≤ 1000)
    (h : ∀ (D' : Nat) ws n h', Fr h₀9 L9 h' m9 → News h₀9 L9 h' ((D', PySem.W.listOf ws.toArray n) :: news9) → (∀ p ∈ news9, @LT.lt Nat _ p.1 D') → IntsAre ws (k9 :: ns9) → Q9 (.ref D') { s9 with heap := h' }) :
    wpAny (model prog9 w9) A9 (binaryOp .Add (.ref a9) (.ref b9)) Q9 E9 s9 :=
  add_lists_ints (vs := [.int k9 t9]) (ns := [k9]) F N ⟨_, (N _ ha).1, rfl, c9, rfl⟩ ⟨_, (N _ hb).1, rfl, _, rfl⟩ (.cons _ _ .nil) hI (fun h' F' N' hI' => h _ _ _ h' F' N' (fun p hp => Heap.lt_size (N p hp).1) hI') (by rw [sizeLine_eq]; simp; omega)
end
/-! # BdD -/
/-! ## a comprehension whose own name is a cell (an inner comprehension reads it) -/
def OffI (I C D c : Nat) (l : List (Addr × Obj)) : Prop := ∀ p ∈ l, (@Ne Nat p.1 I) ∧ (@Ne Nat p.1 C) ∧ (@Ne Nat p.1 D) ∧ (@Ne Nat p.1 c)
def EndC (h₀ : Heap) (L : Addr) (m : Str → Option Value) (s₁ : Shared) (I : Addr) (oI : Obj) (C : Addr) (oC : Obj) (D : Addr) (oD : Obj) (c : Addr) (oc : Obj) (rest : Value → List (Addr × Obj) → Prop) (y : Value) (s₂ : Shared) : Prop :=
  ∃ h' tk news', s₂ = { s₁ with heap := h', toks := tk } ∧ Fr h₀ L h' m ∧ News h₀ L h' ((I, oI) :: (C, oC) :: (D, oD) :: (c, oc) :: news') ∧ OffI I C D c news' ∧ rest y news'
def RestC (prog : Program) (w : World) (A : Around) (h₀ : Heap) (L : Addr) (m : Str → Option Value) (env : Env) (elt : PySem.Expr) (x : Str) (scope : Scope) (cl : List (Str × Addr)) (s : Shared) (P : Nat → Value → Prop)
    (Fin : List Value → List (Addr × Obj) → Prop) : Nat → Nat → List Value → List (Addr × Obj) → Prop
  | 0, _, ys, news => Fin ys news
  | k + 1, i, ys, news => ∀ v I oI C oC D c oc h tk (E' : Value → Shared → Prop), P i v → oc.data = .cell (some v) → Fr h₀ L h m → News h₀ L h ((I, oI) :: (C, oC) :: (D, LCg.lst ys) :: (c, oc) :: news) → OffI I C D c news →
      ((@Ne Nat I C) ∧ (@Ne Nat I D) ∧ (@Ne Nat C D) ∧ (@Ne Nat I c) ∧ (@Ne Nat C c) ∧ (@Ne Nat D c)) →
      wpAny (model prog w) A (eval elt (compEnvC scope ((x, c) :: cl) C env)) (EndC h₀ L m { s with heap := h, toks := tk } I oI C oC D (LCg.lst ys) c oc (fun y news' => RestC prog w A h₀ L m env elt x scope cl s P Fin k (i + 1) (ys ++ [y]) news')) E' { s with heap := h, toks := tk }
theorem off1_of {D : Addr} : ∀ {l : List (Addr × Obj)}, (∀ p ∈ l, @Ne Nat p.1 D) → LCg.Off1 D l
  | [], _ => trivial
  | _ :: _, h => ⟨h _ List.mem_cons_self, off1_of fun p hp => h p (List.mem_cons_of_mem _ hp)⟩
section
variable {prog : Program} {w : World} {A : Around} {E : Value → Shared → Prop} {s : Shared} {h₀ : Heap} {L : Addr} {m : Str → Option Value} {env : Env}
theorem env_one {M : Model} {scope : Scope} {globals : Addr} {cl : List (Str × Addr)} {qual : Str} {outer : Env} {x : Str} {Q : Env → Shared → Prop} (hcf : ∀ n, cellsFrom n scope.names cl = (x, n) :: cl) (hpc : ∀ h, pushCells h scope.names = h.push { cls := .type "cell", data := .cell none })
    (hQ : Q { scope := scope, locals := s.heap.objs.size, globals := globals, cells := (x, s.heap.objs.size + 1) :: cl, qual := qual, func := none, code := outer.code, frame := outer.frame, builtins := outer.builtins }
      { s with heap := (s.heap.push { cls := .type "dict", data := .dict #[] }).push { cls := .type "cell", data := .cell none } }) :
    wpAny M A (newFunctionEnv scope globals cl [] qual none .none (some outer)) Q E s := by
  simp only [newFunctionEnv, Option.isSome_some, if_true]
  refine wpAny_bind (wpAny_alloc ?_)
  refine wpAny_bind (wpAny_layCells _ (fun name kind cells => by cases hkc : kind == NameKind.cell <;> simp [hkc]) _ _ _ _ ?_)
  rw [hcf, hpc]
  rw [show ({ s with heap := s.heap.push { cls := .type "dict", data := .dict #[] } } : Shared).heap.objs.size = s.heap.objs.size + 1 from Heap.size_push ..]
  refine wpAny_bind ?_
  rw [List.forIn_nil]
  exact wpAny_pure (wpAny_pure hQ)

theorem block_C {elt iter : PySem.Expr} {x : Str} {px : Pos} {scope : Scope} {cl : List (Str × Addr)} {pos : Pos} {s₂ : Shared} {I : Addr} {n : Nat} {P : Nat → Value → Prop} {St : Nat → Heap → Prop} {news : List (Addr × Obj)}
    {Fin : List Value → List (Addr × Obj) → Prop} {RR : Value → Addr → Result → Shared → Prop}
    (W : Walks prog w A I [I] [I] n P St) (hsz : n ≤ sizeLine) (hIo : ∀ i h, St i h → ∃ o, h.get? I = some o)
    (hSt : ∀ i h h' o, St i h → h.get? I = some o → h'.get? I = some o → St i h')
    (hcf : ∀ n, cellsFrom n scope.names cl = (x, n) :: cl) (hpc : ∀ h, pushCells h scope.names = h.push { cls := .type "cell", data := .cell none }) (hkind : scope.kind = .function)
    (hxr : (relabel scope env).names.lookup x = some .cell) (hst : St 0 s₂.heap) (hI : I < s₂.heap.objs.size)
    (F : Fr h₀ L s₂.heap m) (N : News h₀ L s₂.heap news) (hIL : L ≠ I) (hI₀ : h₀.get? I = none) (off : ∀ p ∈ news, p.1 ≠ I)
    (R : RestC prog w A h₀ L m env elt x scope cl s₂ P Fin n 0 [] news)
    (hRR : ∀ D C h tk m' ys news', Fr h₀ L h m → News h₀ L h ((D, LCg.lst ys) :: news') → LCg.Off1 D news' → h.Ns C m' → h₀.get? C = none → h₀.get? D = none → C ≠ L → D ≠ L → C ≠ D → (∀ p ∈ news', p.1 ≠ C) → Fin ys news' → RR (.ref D) C (.ok .next) { s₂ with heap := h, toks := tk }) :
    wpAny (model prog w) A (newList []) (fun acc s₃ => wpAny (model prog w) A (newFunctionEnv scope env.globals cl [] env.qual none .none (some env)) (fun cenv s₄ =>
      codeAny (model prog w) A (.compStart (.ListComp elt [⟨.Name x px, iter, [], 0⟩] scope pos) 0 (.ref I) acc { cenv with scope := relabel scope env }) (RR acc cenv.locals) s₄) E s₃) E s₂ := by
  refine wpAny_newObj_type (env_one hcf hpc ?_)
  dsimp only
  have hz1 : (s₂.heap.push { cls := .type "list", dict := none, data := .seq ([] : List Value).toArray } : Heap).objs.size = s₂.heap.objs.size + 1 := Heap.size_push ..
  generalize hH2 : (s₂.heap.push { cls := .type "list", dict := none, data := .seq ([] : List Value).toArray } : Heap) = H2 at hz1 ⊢
  have hz2 : (H2.push { cls := .type "dict", data := .dict #[] } : Heap).objs.size = H2.objs.size + 1 := Heap.size_push ..
  generalize hH3 : (H2.push { cls := .type "dict", data := .dict #[] } : Heap) = H3 at hz2 ⊢
  generalize hH4 : (H3.push { cls := .type "cell", data := .cell none } : Heap) = H4 at ⊢
  have up2 : ∀ b o, s₂.heap.get? b = some o → H2.get? b = some o := fun b o e => hH2 ▸ Heap.get?_push_of_some _ e
  have up3 : ∀ b o, H2.get? b = some o → H3.get? b = some o := fun b o e => hH3 ▸ Heap.get?_push_of_some _ e
  have up4 : ∀ b o, H3.get? b = some o → H4.get? b = some o := fun b o e => hH4 ▸ Heap.get?_push_of_some _ e
  have old : ∀ b o, s₂.heap.get? b = some o → H4.get? b = some o := fun b o e => up4 _ _ (up3 _ _ (up2 _ _ e))
  have hacc : H4.get? s₂.heap.objs.size = some (LCg.lst []) := up4 _ _ (up3 _ _ (hH2 ▸ Heap.get?_push_size _ rfl))
  have hns : H4.Ns H2.objs.size (fun _ => none) := by
    have h1 := Heap.Ns.new H2 (.type "dict")
    rw [hH3] at h1
    exact h1.keeps up4
  have hcell : H4.IsCell (H2.objs.size + 1) none := by
    rw [← hz2]
    exact ⟨_, hH4 ▸ Heap.get?_push_size _ rfl, rfl⟩
  obtain ⟨D, hD⟩ : ∃ D : Nat, D = s₂.heap.objs.size := ⟨_, rfl⟩
  obtain ⟨C, hC⟩ : ∃ C : Nat, C = H2.objs.size := ⟨_, rfl⟩
  obtain ⟨c, hc⟩ : ∃ c : Nat, c = H2.objs.size + 1 := ⟨_, rfl⟩
  rw [← hc] at hcell
  rw [← hC] at hns
  rw [← hD] at hacc
  have eC : C = D + 1 := by rw [hC, hD]; exact hz1
  have ec : c = D + 2 := by rw [hc, hD, hz1]
  have fresh₀ : ∀ a : Nat, D ≤ a → h₀.get? a = none := fun a ha => by
    cases e : h₀.get? a with
    | none => rfl
    | some o' => have := Heap.lt_size (F.keep a o' e); rw [← hD] at this; exact absurd this (Nat.not_lt.mpr ha)
  have hD₀ : h₀.get? D = none := fresh₀ _ (Nat.le_refl _)
  have hC₀ : h₀.get? C = none := fresh₀ _ (by omega)
  have hc₀ : h₀.get? c = none := fresh₀ _ (by omega)
  have hLlt : @LT.lt Nat _ L D := by rw [hD]; exact F.ns.lt
  have hIlt : @LT.lt Nat _ I D := by rw [hD]; exact hI
  have hDL : @Ne Nat D L := by omega
  have hCL : @Ne Nat C L := by omega
  have hcL : @Ne Nat c L := by omega
  have hIC : @Ne Nat I C := by omega
  have hID : @Ne Nat I D := by omega
  have hCD : @Ne Nat C D := by omega
  have hIc : @Ne Nat I c := by omega
  have hCc : @Ne Nat C c := by omega
  have hDc : @Ne Nat D c := by omega
  have off₀ : OffI I C D c news := fun p hp => by
    have h1 : @LT.lt Nat _ p.1 D := by rw [hD]; exact Heap.lt_size (N p hp).1
    have h2 : @Ne Nat p.1 I := off p hp
    exact ⟨h2, by omega, by omega, by omega⟩
  have hst₁ : St 0 H4 := W.frame _ _ _ hst fun b _ o e => old b o e
  rw [← hD, ← hc, ← hC]
  have loop : ∀ s₃ : Shared, s₃ = { s₂ with heap := H4 } →
      codeAny (model prog w) A (.compLoop (.ListComp elt [⟨.Name x px, iter, [], 0⟩] scope pos) 0 (.ref I) (.ref D) (compEnvC scope ((x, c) :: cl) C env))
        (RR (.ref D) C) s₃ := by
    rintro s₃ rfl
    refine codeAny_compLoop_tests
      (fun k s' => ∃ h' tk i ys m' news' v₀, s' = { s₂ with heap := h', toks := tk } ∧ i ≤ n ∧ k = n + 1 - i ∧ ys.length = i ∧ St i h' ∧ Fr h₀ L h' m ∧ h'.Ns C m' ∧ h'.IsCell c v₀ ∧ News h₀ L h' ((D, LCg.lst ys) :: news') ∧
        OffI I C D c news' ∧ RestC prog w A h₀ L m env elt x scope cl s₂ P Fin (n - i) i ys news') ?_ (n + 1)
      ⟨H4, _, 0, [], _, news, none, rfl, Nat.zero_le _, rfl, rfl, hst₁, F.keeps old, hns, hcell, fun p hp => ?_, off₀, R⟩
    · rintro k s' ⟨h', tk, i, ys, m', news', v₀, rfl, hi, rfl, hyl, hst', F', hn', hcl', N', off', R'⟩
      by_cases hlt : i < n
      · obtain ⟨j, hj⟩ : ∃ j, n - i = j + 1 := ⟨n - i - 1, by omega⟩
        rw [hj] at R'
        refine W.item i _ _ _ hlt hst' fun v h₂ tk₂ hPv hst₂ hk₂ => ?_
        have hcl₂ : h₂.IsCell c v₀ := by
          obtain ⟨o, e, r⟩ := hcl'
          exact ⟨o, hk₂ _ o (by simpa using Ne.symm hIc) e, r⟩
        refine wpAny_assign_Name (wpAny_storeName_cell (by simp [compEnvC, relabel, hkind]) hxr (by simp [compEnvC]) hcl₂ (fun h₃ hc₃ hs₃ => ?_))
        refine wpAny_tests_nil ?_
        simp only [if_true]
        have hst₃ : St (i + 1) h₃ := W.frame _ _ _ hst₂ fun b hb o e => hs₃.extBut b o (by rw [List.mem_singleton.mp hb]; exact hIc) e
        obtain ⟨oI, heI⟩ := hIo _ _ hst₃
        obtain ⟨oc, hec, hoc⟩ := hc₃
        obtain ⟨oC, heC, hoC⟩ := LCg.ns_obj (hn'.at' (h' := h₃) fun o e => hs₃.extBut C o hCc (hk₂ _ o (by simpa using Ne.symm hIC) e))
        have F₃ : Fr h₀ L h₃ m := (LCg.fr_but F' hk₂ hIL hI₀).change hs₃ hcL hc₀
        have N₂ : News h₀ L h₂ ((D, LCg.lst ys) :: news') := LCg.news_but N' hk₂ fun p hp => by
          rcases List.mem_cons.mp hp with rfl | hp
          · exact Ne.symm hID
          · exact (off' p hp).1
        have N₃ : News h₀ L h₃ ((I, oI) :: (C, oC) :: (D, LCg.lst ys) :: (c, oc) :: news') := fun p hp => by
          rcases List.mem_cons.mp hp with rfl | hp
          · exact ⟨heI, Ne.symm hIL, hI₀⟩
          rcases List.mem_cons.mp hp with rfl | hp
          · exact ⟨heC, hCL, hC₀⟩
          rcases List.mem_cons.mp hp with rfl | hp
          · have z := N₂ _ (.head _)
            exact ⟨hs₃.extBut _ _ hDc z.1, z.2⟩
          rcases List.mem_cons.mp hp with rfl | hp
          · exact ⟨hec, hcL, hc₀⟩
          · have z := N₂ p (.tail _ hp)
            exact ⟨hs₃.extBut _ _ (off' p hp).2.2.2 z.1, z.2⟩
        refine wpAny_mono (R' v I oI C oC D c oc h₃ _ _ hPv hoc F₃ N₃ off' ⟨hIC, hID, hCD, hIc, hCc, hDc⟩) (fun y s₄ h₄ => ?_) fun _ _ e => e
        obtain ⟨h₄, tk₄, news₄, rfl, F₄, N₄, off₄, R₄⟩ := h₄
        have zI := (N₄ (I, oI) (.head _)).1
        have zC := (N₄ (C, oC) (.tail _ (.head _))).1
        have zD := (N₄ (D, LCg.lst ys) (.tail _ (.tail _ (.head _)))).1
        have zc := (N₄ (c, oc) (.tail _ (.tail _ (.tail _ (.head _))))).1
        have N₄' : News h₀ L h₄ news₄ := fun p hp => N₄ p (.tail _ (.tail _ (.tail _ (.tail _ hp))))
        have hst₄ : St (i + 1) h₄ := hSt _ _ _ _ hst₃ heI zI
        refine append_at (hsz := by show ys.toArray.size ≤ sizeLine; rw [List.size_toArray, hyl]; exact Nat.le_trans hi hsz) zD fun h₅ hs₅ hD₅ => ?_
        refine ⟨n + 1 - (i + 1), by omega, h₅, tk₄, i + 1, ys ++ [y], _, news₄, some v, rfl, hlt, rfl, by rw [List.length_append, List.length_singleton, hyl], W.frame _ _ _ hst₄ fun b hb o e => hs₅.extBut b o (by rw [List.mem_singleton.mp hb]; exact hID) e, F₄.change hs₅ hDL hD₀,
          (hoC.ns zC).sameBut hs₅ hCD, Heap.IsCell.sameBut ⟨oc, zc, hoc⟩ hs₅ (Ne.symm hDc), fun p hp => ?_, off₄, ?_⟩
        · rcases List.mem_cons.mp hp with rfl | hp
          · exact ⟨hD₅.trans (congrArg some (LCg.lst_snoc ys y)), hDL, hD₀⟩
          · exact ⟨hs₅.extBut _ _ (off₄ p hp).2.2.1 (N₄' p hp).1, (N₄' p hp).2⟩
        · rw [show n - (i + 1) = j by omega]
          exact R₄
      · obtain rfl : i = n := Nat.le_antisymm hi (Nat.not_lt.mp hlt)
        rw [Nat.sub_self] at R'
        refine W.done _ _ _ hst' fun h₂ tk₂ hk₂ => ?_
        exact hRR _ _ h₂ tk₂ _ ys news' (LCg.fr_but F' hk₂ hIL hI₀) (LCg.news_but N' hk₂ fun p hp => by
          rcases List.mem_cons.mp hp with rfl | hp
          · exact Ne.symm hID
          · exact (off' p hp).1) (off1_of fun p hp => (off' p hp).2.2.1) (hn'.at' fun o e => hk₂ _ o (by simpa using Ne.symm hIC) e) hC₀ hD₀ hCL hDL hCD (fun p hp => (off' p hp).2.1) R'
    · rcases List.mem_cons.mp hp with rfl | hp
      · exact ⟨hacc, hDL, hD₀⟩
      · exact ⟨old _ _ (N p hp).1, (N p hp).2⟩
  exact codeAny_compStart_list (loop _ rfl) (W.self 0 _ _ _ hst₁ (loop _ rfl))

def SrcC (prog : Program) (w : World) (A : Around) (h₀ : Heap) (L : Addr) (m : Str → Option Value) (env : Env) (elt : PySem.Expr) (x : Str) (scope : Scope) (cl : List (Str × Addr)) (Fin : Shared → List Value → List (Addr × Obj) → Prop) (xv : Value) (s₁ : Shared) : Prop :=
  ∃ r a b t u v n news, xv = .ref r ∧ A.handled = none ∧ Fr h₀ L s₁.heap m ∧ News h₀ L s₁.heap news ∧ IsRange s₁.heap r a b 1 t u v ∧ Builtin.Range.small a b 1 = true ∧ Builtin.Range.rangeSize a b 1 = ((n : Nat) : Int) ∧ n ≤ sizeLine ∧
    ∀ s₂ : Shared, (∃ h, s₂ = { s₁ with heap := h }) → RestC prog w A h₀ L m env elt x scope cl s₂ (fun i v => ∃ t, v = .int (a + (i : Int)) t) (Fin s₂) n 0 [] news
theorem ListComp_C {elt iter : PySem.Expr} {x : Str} {px : Pos} {scope : Scope} {cl : List (Str × Addr)} {pos : Pos} {Q : Value → Shared → Prop} (F₀ : Fr h₀ L s.heap m)
    (hclos : closureFor scope env = pure cl) (hcf : ∀ n, cellsFrom n scope.names cl = (x, n) :: cl) (hpc : ∀ h, pushCells h scope.names = h.push { cls := .type "cell", data := .cell none }) (hkind : scope.kind = .function)
    (hnames : ∀ y ∈ scope.names, y.2 = .local → scope.names.lookup y.1 = some .local) (hxr : (relabel scope env).names.lookup x = some .cell)
    (h : wpAny (model prog w) A (eval iter env) (SrcC prog w A h₀ L m env elt x scope cl (fun s₂ => LCg.FinE h₀ L m s₂ Q)) E s)
    (hs : ∀ x, foldedSetIterable iter env x = pure x := by intro _; rfl) :
    wpAny (model prog w) A (eval (.ListComp elt [⟨.Name x px, iter, [], 0⟩] scope pos) env) Q E s := by
  rw [eval_ListComp]
  refine wpAny_comprehension_free (use := none) rfl hs hclos hkind hnames (wpAny_mono h (fun xv s₁ h₁ => ?_) fun _ _ e => e)
  obtain ⟨r, a, b, t, u, v, n, news, rfl, hh, F, N, hr, hsm, hn, hsz, R⟩ := h₁
  refine wpAny_pyIter_range hr hsm ?_
  refine block_C (LCg.range_walks hh a n) hsz (fun i h st => ⟨_, st⟩) (fun i h h' o st e e' => by
      have st' : h.get? _ = some _ := st
      show h'.get? _ = some _
      rw [e', ← e]; exact st') hcf hpc hkind hxr (by show IsRangeIter _ _ _ _ _; rw [hn]; simpa using Heap.get?_push_size _ rfl) ?_
    (F.keeps fun _ _ e => Heap.get?_push_of_some _ e) (N.grown fun _ _ e => Heap.get?_push_of_some _ e) (Nat.ne_of_lt F.ns.lt) (next_is_new F) (fun p hp => Nat.ne_of_lt (Heap.lt_size (N p hp).1)) (R _ ⟨_, rfl⟩) ?_
  · show s₁.heap.objs.size < (s₁.heap.push _).objs.size
    rw [Heap.size_push]; exact Nat.lt_succ_self _
  · intro D C h tk m' ys news' F' N' o1 hn hC₀ hD₀ hCL hDL hCD offC fin
    refine ⟨m', hn, fun h'' hs'' => fin D h'' tk (F'.change hs'' hCL hC₀) (fun p hp => ?_) o1⟩
    refine ⟨hs''.extBut _ _ ?_ (N' p hp).1, (N' p hp).2⟩
    rcases List.mem_cons.mp hp with rfl | hp
    · exact Ne.symm hCD
    · exact offC p hp
/-- the turns of such a comprehension, by a word over what is made -/
theorem restC_J {elt : PySem.Expr} {x : Str} {scope : Scope} {cl : List (Str × Addr)} {P : Nat → Value → Prop} {Fin : List Value → List (Addr × Obj) → Prop} {news : List (Addr × Obj)} {n : Nat} (J : Nat → List Value → List (Addr × Obj) → Prop) (h0 : J 0 [] news)
    (turn : ∀ i v ys news I oI C oC D c oc h tk (E' : Value → Shared → Prop), i < n → P i v → J i ys news → oc.data = .cell (some v) → Fr h₀ L h m → News h₀ L h ((I, oI) :: (C, oC) :: (D, LCg.lst ys) :: (c, oc) :: news) → OffI I C D c news →
      ((@Ne Nat I C) ∧ (@Ne Nat I D) ∧ (@Ne Nat C D) ∧ (@Ne Nat I c) ∧ (@Ne Nat C c) ∧ (@Ne Nat D c)) →
      wpAny (model prog w) A (eval elt (compEnvC scope ((x, c) :: cl) C env)) (EndC h₀ L m { s with heap := h, toks := tk } I oI C oC D (LCg.lst ys) c oc (fun y news' => J (i + 1) (ys ++ [y]) news')) E' { s with heap := h, toks := tk })
    (fin : ∀ ys news, J n ys news → Fin ys news) : RestC prog w A h₀ L m env elt x scope cl s P Fin n 0 [] news := by
  have key : ∀ (j i : Nat) (ys : List Value) (news : List (Addr × Obj)), i + j = n → J i ys news → RestC prog w A h₀ L m env elt x scope cl s P Fin j i ys news := by
    intro j
    induction j with
    | zero =>
      intro i ys news hi hJ
      have e : i = n := by omega
      subst e
      exact fin ys news hJ
    | succ j ih =>
      intro i ys news hi hJ v I oI C oC D c oc h tk E' hv hC F N off ne
      refine wpAny_mono (turn i v ys news I oI C oC D c oc h tk E' (by omega) hv hJ hC F N off ne) (fun y s₂ hq => ?_) fun _ _ e => e
      obtain ⟨h', tk', nw, e, F', N', off', hJ'⟩ := hq
      exact ⟨h', tk', nw, e, F', N', off', ih (i + 1) _ _ (by omega) hJ'⟩
  exact key n 0 [] news (by omega) h0
end
/-! # BdE -/
theorem news_pick {h₀ h : Heap} {L : Addr} {l : List (Addr × Obj)} (N : News h₀ L h l) (is : List Nat) : News h₀ L h (is.filterMap fun i => l[i]?) := fun p hp => by
  obtain ⟨i, _, e⟩ := List.mem_filterMap.mp hp
  exact N p (List.mem_of_getElem? e)
theorem news_swap {h₀ h : Heap} {L : Addr} {r b : List (Addr × Obj)} {x : Addr × Obj} (N : News h₀ L h (x :: (r ++ b))) : News h₀ L h (x :: (b ++ r)) := fun p hp => N p (by
  rcases List.mem_cons.mp hp with rfl | hp
  · exact .head _
  rcases List.mem_append.mp hp with hp | hp
  · exact .tail _ (List.mem_append_right _ hp)
  · exact .tail _ (List.mem_append_left _ hp))
theorem my_eq {prog : Program} {w : World} {A : Around} {E : Value → Shared → Prop} {s : Shared} {h₀ : Heap} {L : Addr} {news : List (Addr × Obj)} {a b : Addr} {xs : List Value} {ms : List Int} {c n : Nat} {b' : Bool} {Q : Value → Shared → Prop}
    (N : News h₀ L s.heap news) (hm : (a, PySem.W.listOf xs.toArray c) ∈ news) (hb : (b, PySem.W.listOf #[] n) ∈ news) (hi : IntsAre xs ms) (hu : A.units + 64 < cLine) (e : (decide (ms = [])) = b') (h : Q (.bool b') s) :
    wpAny (model prog w) A (compareOp .Eq (.ref a) (.ref b)) Q E s := by
  subst e
  exact ke_eq_ints (ys := []) ⟨_, (N _ hm).1, rfl, c, rfl⟩ ⟨_, (N _ hb).1, rfl, n, rfl⟩ hi .nil hu h
theorem fr_gen {h₀ h : Heap} {L : Addr} {m : Str → Option Value} (F : Fr h₀ L h m) : ∃ m', m' = m ∧ Fr h₀ L h m' := ⟨m, rfl, F⟩
theorem getD_map {f : Nat → Int} {M k : Nat} (h : k < M) : ((List.range M).map f).getD k 0 = f k := by
  simp [List.getD, h]
theorem names_ok (c : Int) (M : Nat) (hM : M ≤ 6) : ∃ ns : List Int, ns = 0 :: (List.range M).map (fun (k : Nat) => 1 + (5 * (1 + (k : Int)) + c).fmod 7) ∧ ns.length = M + 1 ∧ ∀ u v, u < ns.length → v < ns.length → ns.getD u 0 = ns.getD v 0 → u = v := by
  refine ⟨_, rfl, by simp, ?_⟩
  intro u v hu hv e
  simp only [List.length_cons, List.length_map, List.length_range] at hu hv
  cases u with
  | zero =>
    cases v with
    | zero => rfl
    | succ v =>
      rw [List.getD_cons_zero, List.getD_cons_succ, getD_map (by omega), Int.fmod_eq_emod_of_nonneg _ (by omega)] at e
      omega
  | succ u =>
    cases v with
    | zero =>
      rw [List.getD_cons_zero, List.getD_cons_succ, getD_map (by omega), Int.fmod_eq_emod_of_nonneg _ (by omega)] at e
      omega
    | succ v =>
      rw [List.getD_cons_succ, List.getD_cons_succ, getD_map (by omega), getD_map (by omega), Int.fmod_eq_emod_of_nonneg _ (by omega), Int.fmod_eq_emod_of_nonneg _ (by omega)] at e
      omega
theorem weights_ok (f : Nat → Int) (M : Nat) : ∃ ws : List Int, ws = 1 :: (List.range M).map (fun (k : Nat) => 1 + (f k).fmod 256) ∧ ws.length = M + 1 ∧ ∀ o, o < ws.length → 1 ≤ ws.getD o 0 ∧ ws.getD o 0 ≤ 256 := by
  refine ⟨_, rfl, by simp, ?_⟩
  intro o ho
  simp only [List.length_cons, List.length_map, List.length_range] at ho
  cases o with
  | zero => simp
  | succ o =>
    rw [List.getD_cons_succ, getD_map (by omega), Int.fmod_eq_emod_of_nonneg _ (by omega)]
    omega
theorem above_ok (f : Nat → Int) (M : Nat) (hM : 1 ≤ M) : ∃ as : List Int, as = 0 :: (List.range M).map (fun (k : Nat) => (f k).fmod (1 + (k : Int))) ∧ as.length = M + 1 ∧ as.getD 0 0 = 0 ∧ as.getD 1 0 = 0 ∧ ∀ v, 1 ≤ v → v < as.length → 0 ≤ as.getD v 0 ∧ as.getD v 0 < v := by
  have key : ∀ v, 1 ≤ v → v < M + 1 → 0 ≤ (0 :: (List.range M).map (fun (k : Nat) => (f k).fmod (1 + (k : Int)))).getD v 0 ∧ (0 :: (List.range M).map (fun (k : Nat) => (f k).fmod (1 + (k : Int)))).getD v 0 < v := by
    intro v h1 hv
    cases v with
    | zero => omega
    | succ v =>
      rw [List.getD_cons_succ, getD_map (by omega)]
      have h1 := Int.fmod_nonneg_of_pos (f v) (show (0 : Int) < 1 + (v : Int) by omega)
      have h2 := Int.fmod_lt_of_pos (f v) (show (0 : Int) < 1 + (v : Int) by omega)
      omega
  refine ⟨_, rfl, by simp, rfl, ?_, ?_⟩
  · have := key 1 (by omega) (by omega); omega
  · intro v h1 hv
    simp only [List.length_cons, List.length_map, List.length_range] at hv
    exact key v h1 hv
/-- those beneath u, by the list `above` -/
def kidN (as : List Int) (M u : Nat) : List Nat := ((List.range M).map (· + 1)).filter fun c => decide (as.getD c 0 = (u : Int))
def kidI (as : List Int) (M u : Nat) : List Int := (kidN as M u).map fun (c : Nat) => (c : Int)
theorem kidI_zero (as : List Int) (u : Nat) : kidI as 0 u = [] := rfl
theorem kidI_yes {as : List Int} {j u : Nat} {ys : List Value} {t : Tok} {y : Int} (h : IntsAre ys (kidI as j u)) (e : as.getD (j + 1) 0 = (u : Int)) (hy : y = ((j + 1 : Nat) : Int)) : IntsAre (ys ++ [.int y t]) (kidI as (j + 1) u) := by
  have : kidI as (j + 1) u = kidI as j u ++ [((j + 1 : Nat) : Int)] := by
    unfold kidI kidN
    rw [List.range_succ, List.map_append, List.filter_append, List.map_append]
    have e' : as[j + 1]?.getD 0 = (u : Int) := by simpa [List.getD] using e
    simp [e']
  rw [this, hy]; exact h.append (.cons _ t .nil)
theorem kidI_no {as : List Int} {j u : Nat} {ys : List Value} (h : IntsAre ys (kidI as j u)) (e : as.getD (j + 1) 0 ≠ (u : Int)) : IntsAre ys (kidI as (j + 1) u) := by
  have : kidI as (j + 1) u = kidI as j u := by
    unfold kidI kidN
    rw [List.range_succ, List.map_append, List.filter_append, List.map_append]
    have e' : ¬ as[j + 1]?.getD 0 = (u : Int) := fun h => e (by simpa [List.getD] using h)
    simp [e']
  rw [this]; exact h
/-- those that have somebody beneath them -/
def headN (as : List Int) (M i : Nat) : List Nat := (List.range i).filter fun u => decide (kidI as M u ≠ [])
def headI (as : List Int) (M i : Nat) : List Int := (headN as M i).map fun (c : Nat) => (c : Int)
theorem headI_yes {as : List Int} {M i : Nat} {ys : List Value} {t : Tok} {y : Int} (h : IntsAre ys (headI as M i)) (e : ¬ kidI as M i = []) (hy : y = (i : Int)) : IntsAre (ys ++ [.int y t]) (headI as M (i + 1)) := by
  have : headI as M (i + 1) = headI as M i ++ [(i : Int)] := by
    unfold headI headN
    rw [List.range_succ, List.filter_append, List.map_append]
    simp [e]
  rw [this, hy]; exact h.append (.cons _ t .nil)
theorem headI_no {as : List Int} {M i : Nat} {ys : List Value} (h : IntsAre ys (headI as M i)) (e : kidI as M i = []) : IntsAre ys (headI as M (i + 1)) := by
  have : headI as M (i + 1) = headI as M i := by
    unfold headI headN
    rw [List.range_succ, List.filter_append, List.map_append]
    simp [e]
  rw [this]; exact h
section
variable {prog : Program} {w : World} {A : Around} {E : Value → Shared → Prop} {s₁ : Shared} {h₀ : Heap} {L : Addr} {m : Str → Option Value} {env : Env}
theorem src_C {elt : PySem.Expr} {x : Str} {scope : Scope} {cl : List (Str × Addr)} {Fin : Shared → List Value → List (Addr × Obj) → Prop} {r : Addr} {a b : Int} {t u v : Tok} {n9 : Nat} {news : List (Addr × Obj)}
    (hh : A.handled = none) (F : Fr h₀ L s₁.heap m) (N : News h₀ L s₁.heap news) (hr : IsRange s₁.heap r a b 1 t u v) (hsm : Builtin.Range.small a b 1 = true) (hn : Builtin.Range.rangeSize a b 1 = ((n9 : Nat) : Int)) (hsz : n9 ≤ sizeLine)
    (h : ∀ g, RestC prog w A h₀ L m env elt x scope cl { s₁ with heap := g } (fun i v => ∃ t, v = .int (a + (i : Int)) t) (Fin { s₁ with heap := g }) n9 0 [] news) :
    SrcC prog w A h₀ L m env elt x scope cl Fin (.ref r) s₁ := ⟨r, a, b, t, u, v, n9, news, rfl, hh, F, N, hr, hsm, hn, hsz, fun _ ⟨g, e⟩ => e ▸ h g⟩
theorem src_T {ct elt : PySem.Expr} {x : Str} {scope : Scope} {cl : List (Str × Addr)} {Fin : Shared → List Value → List (Addr × Obj) → Prop} {r : Addr} {a b : Int} {t u v : Tok} {n9 : Nat} {news : List (Addr × Obj)}
    (hh : A.handled = none) (F : Fr h₀ L s₁.heap m) (N : News h₀ L s₁.heap news) (hr : IsRange s₁.heap r a b 1 t u v) (hsm : Builtin.Range.small a b 1 = true) (hn : Builtin.Range.rangeSize a b 1 = ((n9 : Nat) : Int)) (hsz : n9 ≤ sizeLine)
    (h : ∀ g, LCt.CompRestT prog w A h₀ L m env ct elt x scope cl { s₁ with heap := g } (fun _ => True) (fun i v => ∃ t, v = .int (a + (i : Int)) t) (Fin { s₁ with heap := g }) n9 0 [] news) :
    LCt.CompSrcT prog w A h₀ L m env ct elt x scope cl Fin (.ref r) s₁ := LCt.CompSrcT.range hh F N hr hsm hn hsz h
/-- the turns of a comprehension with a test, by a word -/
theorem comp_rest_T {ct elt : PySem.Expr} {x : Str} {scope : Scope} {cl : List (Str × Addr)} {s : Shared} {S : List (Addr × Obj) → Prop} {P : Nat → Value → Prop} {Fin : List Value → List (Addr × Obj) → Prop} {news : List (Addr × Obj)} {n : Nat} (J : Nat → List Value → List (Addr × Obj) → Prop) (h0 : J 0 [] news)
    (turn : ∀ i v ys news I oI C oC D m₂ h tk (E' : Value → Shared → Prop), i < n → P i v → J i ys news → LCg.NsObj oC m₂ → m₂ x = some v → Fr h₀ L h m → News h₀ L h ((I, oI) :: (C, oC) :: (D, LCg.lst ys) :: news) → LCg.Off3 I C D news → ((@Ne Nat I C) ∧ (@Ne Nat I D) ∧ (@Ne Nat C D)) →
      wpAny (model prog w) A (isTrue ct (compEnvC scope cl C env) (eval ct (compEnvC scope cl C env))) (fun ok s' => if ok = true then
        wpAny (model prog w) A (eval elt (compEnvC scope cl C env)) (LCg.CompEnd h₀ L m { s with heap := h, toks := tk } I oI C oC D (LCg.lst ys) S (fun y news' => J (i + 1) (ys ++ [y]) news')) E' s'
        else LCg.CompEnd h₀ L m { s with heap := h, toks := tk } I oI C oC D (LCg.lst ys) S (fun _ news' => J (i + 1) ys news') Value.none s') E' { s with heap := h, toks := tk })
    (fin : ∀ ys news, J n ys news → Fin ys news) : LCt.CompRestT prog w A h₀ L m env ct elt x scope cl s S P Fin n 0 [] news := by
  have key : ∀ (j i : Nat) (ys : List Value) (news : List (Addr × Obj)), i + j = n → J i ys news → LCt.CompRestT prog w A h₀ L m env ct elt x scope cl s S P Fin j i ys news := by
    intro j
    induction j with
    | zero =>
      intro i ys news hi hJ
      have e : i = n := by omega
      subst e
      exact LCt.CompRestT.zero (fin ys news hJ)
    | succ j ih =>
      intro i ys news hi hJ
      refine LCt.CompRestT.succ ?_
      intro v I oI C oC D m₂ h tk E' hv hC hx F N off ne
      refine wpAny_mono (turn i v ys news I oI C oC D m₂ h tk E' (by omega) hv hJ hC hx F N off ne) (fun ok s₂ hq => ?_) fun _ _ e => e
      cases ok with
      | true =>
        simp only [if_true] at hq ⊢
        refine wpAny_mono hq (fun y s₃ hq => ?_) fun _ _ e => e
        obtain ⟨h', tk', nw, e, F', N', off', hS, hJ'⟩ := hq
        exact ⟨h', tk', nw, e, F', N', off', hS, ih (i + 1) _ _ (by omega) hJ'⟩
      | false =>
        simp only [Bool.false_eq_true, if_false] at hq ⊢
        obtain ⟨h', tk', nw, e, F', N', off', hS, hJ'⟩ := hq
        exact ⟨h', tk', nw, e, F', N', off', hS, ih (i + 1) _ _ (by omega) hJ'⟩
  exact key n 0 [] news (by omega) h0
end
/-! # BdF -/
section
variable {prog9 : Program} {w9 : World} {A9 : Around} {E9 : Value → Shared → Prop} {s9 : Shared} {h₀9 : Heap} {L9 : Addr} {m9 : Str → Option Value} {l9 : Addr} {vs9 : List Value} {ns9 : List Int} {Q9 : Value → Shared → Prop} {value9 slice9 : PySem.Expr} {news9 : List (Addr × Obj)}
theorem my_slice {x9 y9 : Int} {tx9 ty9 : Tok} (F : Fr h₀9 L9 s9.heap m9) (N : News h₀9 L9 s9.heap news9) (hl : h₀9.IsList l9 vs9.toArray) (hi : IntsAre vs9 ns9) (h0 : 0 ≤ x9) (h1 : 0 ≤ y9) (hz : ns9.length ≤ 1000)
    (h : ∀ (D' : Nat) ws (ms : List Int) h', Fr h₀9 L9 h' m9 → News h₀9 L9 h' ((D', PySem.W.listOf (List.toArray ws) 0) :: news9) → (∀ p ∈ news9, @LT.lt Nat _ p.1 D') → IntsAre ws ms → ms.length ≤ y9.toNat - x9.toNat → Q9 (.ref D') { s9 with heap := h' })
    (hs : subscripted slice9 false (.ref l9) (.ref s9.heap.objs.size) = operate [.ref s9.heap.objs.size, .ref l9] (getItem (.ref l9) (.ref s9.heap.objs.size))) (ht : ∀ r, letTemporaryGo value9 (.ref l9) r = pure ()) :
    wpAny (model prog9 w9) A9 (subscriptTail value9 slice9 (.ref l9) (.ref s9.heap.objs.size)) Q9 E9 { s9 with heap := s9.heap.push { cls := .type "slice", data := .fields #[.int x9 tx9, .int y9 ty9, .none] } } :=
  kmk_slice_ints F N (hl.at fun o e => F.keep _ _ e) (.int _ _) (.int _ _) hi (kmk_run hi h0 h1) rfl (fun D ws h' F' N' l1 hI' _ _ => h D ws _ h' F' N' l1 hI' (by rw [List.length_take]; omega)) hs ht (by rw [List.size_toArray, hi.length, sizeLine_eq]; omega)
theorem my_rev {c9 : Nat} {t9 : Tok} (F : Fr h₀9 L9 s9.heap m9) (N : News h₀9 L9 s9.heap news9) (hm : (l9, PySem.W.listOf vs9.toArray c9) ∈ news9) (hi : IntsAre vs9 ns9) (hz : ns9.length ≤ 1000)
    (h : ∀ (D' : Nat) ws h', Fr h₀9 L9 h' m9 → News h₀9 L9 h' ((D', PySem.W.listOf (List.toArray ws) 0) :: news9) → (∀ p ∈ news9, @LT.lt Nat _ p.1 D') → IntsAre ws ns9.reverse → Q9 (.ref D') { s9 with heap := h' })
    (hs : subscripted slice9 false (.ref l9) (.ref s9.heap.objs.size) = operate [.ref s9.heap.objs.size, .ref l9] (getItem (.ref l9) (.ref s9.heap.objs.size))) (ht : ∀ r, letTemporaryGo value9 (.ref l9) r = pure ()) :
    wpAny (model prog9 w9) A9 (subscriptTail value9 slice9 (.ref l9) (.ref s9.heap.objs.size)) Q9 E9 { s9 with heap := s9.heap.push { cls := .type "slice", data := .fields #[.none, .none, .int (-1) t9] } } :=
  krv_ints F N ⟨_, (N _ hm).1, rfl, c9, rfl⟩ (.int _ _) hi (fun D ws h' F' N' l1 hI' _ => h D ws h' F' N' l1 hI') hs ht (by rw [List.size_toArray, hi.length, sizeLine_eq]; omega)
theorem my_sorted {c9 : Nat} (F : Fr h₀9 L9 s9.heap m9) (N : News h₀9 L9 s9.heap news9) (hm : (l9, PySem.W.listOf vs9.toArray c9) ∈ news9) (hi : IntsAre vs9 ns9) (hz : ns9.length < 64)
    (h : ∀ (D' : Nat) vs' ns' c h', Fr h₀9 L9 h' m9 → News h₀9 L9 h' ((D', PySem.W.listOf (List.toArray vs') c) :: news9) → (∀ p ∈ news9, @LT.lt Nat _ p.1 D') → IntsAre vs' ns' → ns'.Perm ns9 → Q9 (.ref D') { s9 with heap := h' }) :
    wpAny (model prog9 w9) A9 (call (.builtin "sorted") [.ref l9]) Q9 E9 s9 :=
  kso_sorted F N ⟨_, (N _ hm).1, rfl, c9, rfl⟩ hi hz fun D vs' ns' c h' F' N' l1 hI' _ hp _ _ => h D vs' ns' c h' F' N' l1 hI' hp
theorem my_count {c9 : Nat} {k9 : Int} {t9 : Tok} (N : News h₀9 L9 s9.heap news9) (hm : (l9, PySem.W.listOf vs9.toArray c9) ∈ news9) (hi : IntsAre vs9 ns9)
    (h : Q9 (.int ((ns9.count k9 : Nat) : Int) s9.toks) { s9 with toks := s9.toks + 1 }) : wpAny (model prog9 w9) A9 (call (.builtin "list.count") [.ref l9, .int k9 t9]) Q9 E9 s9 :=
  count_list_ints ⟨_, (N _ hm).1, rfl, c9, rfl⟩ hi h
theorem my_add2 {a9 b9 : Addr} {ks9 : List Int} {us9 : List Value} {c9 d9 : Nat} (F : Fr h₀9 L9 s9.heap m9) (N : News h₀9 L9 s9.heap news9) (ha : (a9, PySem.W.listOf us9.toArray c9) ∈ news9) (hb : (b9, PySem.W.listOf vs9.toArray d9) ∈ news9) (hI1 : IntsAre us9 ks9) (hI : IntsAre vs9 ns9) (hz : ks9.length + ns9.length ≤ 1000)
    (h : ∀ (D' : Nat) ws n h', Fr h₀9 L9 h' m9 → News h₀9 L9 h' ((D', PySem.W.listOf (List.toArray ws) n) :: news9) → (∀ p ∈ news9, @LT.lt Nat _ p.1 D') → IntsAre ws (ks9 ++ ns9) → Q9 (.ref D') { s9 with heap := h' }) :
    wpAny (model prog9 w9) A9 (binaryOp .Add (.ref a9) (.ref b9)) Q9 E9 s9 :=
  add_lists_ints F N ⟨_, (N _ ha).1, rfl, c9, rfl⟩ ⟨_, (N _ hb).1, rfl, d9, rfl⟩ hI1 hI (fun h' F' N' hI' => h _ _ _ h' F' N' (fun p hp => Heap.lt_size (N p hp).1) hI') (by rw [sizeLine_eq]; omega)
theorem my_set {c9 : Nat} {k9 : Int} {t9 : Tok} {v9 : Value} {D9 : Addr} {Q : Unit → Shared → Prop} (F : Fr h₀9 L9 s9.heap m9) (N : News h₀9 L9 s9.heap ((D9, PySem.W.listOf vs9.toArray c9) :: news9)) (off : ∀ p ∈ news9, p.1 ≠ D9) (h0 : 0 ≤ k9) (h1 : k9 < vs9.length) (hfit : k9 < 2 ^ 63)
    (h : ∀ h', Fr h₀9 L9 h' m9 → News h₀9 L9 h' ((D9, PySem.W.listOf (vs9.set k9.toNat v9).toArray c9) :: news9) → Q () { s9 with heap := h' }) :
    wpAny (model prog9 w9) A9 (setItem (.ref D9) (.int k9 t9) v9) Q E9 s9 := by
  have z := N _ (.head _)
  have hs : vs9.toArray.size = vs9.length := List.size_toArray
  refine ki_setAt z.1 h0 hfit (by omega) (h _ (F.change (Heap.SameBut.update ..) z.2.1 z.2.2) (ki_turn (pre := []) (post := news9) _ N (fun p hp => nomatch hp) off ?_ ?_))
  · show vs9.toArray.setIfInBounds k9.toNat v9 = (vs9.set k9.toNat v9).toArray
    apply Array.toList_inj.mp
    simp
  · simp
theorem my_srcL {x9 : Str} {elt9 : PySem.Expr} {scope9 : Scope} {cl9 : List (Str × Addr)} {env9 : Env} {Fin9 : Shared → List Value → List (Addr × Obj) → Prop} {c9 : Nat}
    (hh : A9.handled = none) (F : Fr h₀9 L9 s9.heap m9) (N : News h₀9 L9 s9.heap news9) (hm : (l9, PySem.W.listOf vs9.toArray c9) ∈ news9) (hsz : vs9.length ≤ 1000)
    (h : ∀ g, LCg.CompRest prog9 w9 A9 h₀9 L9 m9 env9 elt9 x9 scope9 cl9 { s9 with heap := g } (LCg.SrcAt h₀9 l9 vs9.toArray) (fun i v => vs9[i]? = some v) (Fin9 { s9 with heap := g }) vs9.length 0 [] news9) :
    LCg.CompSrc prog9 w9 A9 h₀9 L9 m9 env9 elt9 x9 scope9 cl9 Fin9 (.ref l9) s9 := by
  refine LCg.CompSrc.ledger hh F N hm (by rw [List.size_toArray, sizeLine_eq]; omega) fun g => ?_
  have e1 : (fun (i : Nat) (v : Value) => vs9.toArray[i]? = some v) = (fun i v => vs9[i]? = some v) := by funext i v; rw [List.getElem?_toArray]
  have e2 : vs9.toArray.size = vs9.length := List.size_toArray
  rw [e1, e2]; exact h g
end
theorem news_drop3 {h₀ h : Heap} {L : Addr} {a x y z : Addr × Obj} {r : List (Addr × Obj)} (N : News h₀ L h (a :: x :: y :: z :: r)) : News h₀ L h (a :: r) := fun p hp => N p (by
  rcases List.mem_cons.mp hp with rfl | hp
  · exact .head _
  · exact .tail _ (.tail _ (.tail _ (.tail _ hp))))
theorem srcAt_mem {h₀ : Heap} {l : Addr} {vs : List Value} {c : Nat} {news : List (Addr × Obj)} (h : (l, PySem.W.listOf vs.toArray c) ∈ news) : LCg.SrcAt h₀ l vs.toArray news := .inr ⟨_, h, rfl, _, rfl⟩
theorem fm_idx (x : Int) {n : Nat} (h : 1 ≤ n) : 0 ≤ x.fmod (n : Int) ∧ x.fmod (n : Int) < n :=
  ⟨Int.fmod_nonneg_of_pos x (by omega), Int.fmod_lt_of_pos x (by omega)⟩
theorem headI_at {as : List Int} {M i k : Nat} (h : k < (headI as M i).length) : ∃ a, a ∈ headN as M i ∧ (headI as M i).getD k 0 = (a : Int) := by
  unfold headI at h ⊢
  simp only [List.length_map] at h
  refine ⟨(headN as M i)[k], List.getElem_mem h, ?_⟩
  simp [List.getD, h]
theorem head0 {as : List Int} {M : Nat} (hM : 1 ≤ M) (h1 : as.getD 1 0 = 0) : 0 ∈ headN as M (M + 1) := by
  unfold headN
  rw [List.mem_filter]
  refine ⟨List.mem_range.mpr (by omega), decide_eq_true ?_⟩
  intro e
  have : ((1 : Nat) : Int) ∈ kidI as M 0 := by
    unfold kidI kidN
    refine List.mem_map_of_mem (List.mem_filter.mpr ⟨List.mem_map.mpr ⟨0, List.mem_range.mpr (by omega), rfl⟩, ?_⟩)
    exact decide_eq_true h1
  rw [e] at this; cases this
theorem head_len {as : List Int} {M : Nat} (hM : 1 ≤ M) (h1 : as.getD 1 0 = 0) : 1 ≤ (headI as M (M + 1)).length := by
  unfold headI
  rw [List.length_map]
  exact List.length_pos_of_mem (head0 hM h1)
theorem head_len_le {as : List Int} {M i : Nat} : (headI as M i).length ≤ i := by
  unfold headI headN
  rw [List.length_map]
  exact Nat.le_trans (List.length_filter_le _ _) (by simp)
/-- a word that the walk leaves alone -/
def Hold (P : Flow → Shared → Prop) (f : Flow) (s : Shared) : Prop := P f s
theorem perm_nat {ns : List Int} {as : List Nat} (h : ns.Perm (as.map fun (a : Nat) => (a : Int))) : ∃ bs : List Nat, bs.Perm as ∧ ns = bs.map fun (a : Nat) => (a : Int) := by
  refine ⟨ns.map Int.toNat, ?_, ?_⟩
  · have := h.map Int.toNat
    rw [List.map_map, show (Int.toNat ∘ fun (a : Nat) => (a : Int)) = id from by funext a; simp, List.map_id] at this
    exact this
  · rw [List.map_map]
    have : ∀ x ∈ ns, ((fun (a : Nat) => (a : Int)) ∘ Int.toNat) x = x := fun x hx => by
      obtain ⟨a, _, rfl⟩ := List.mem_map.mp (h.mem_iff.mp hx)
      simp
    rw [List.map_congr_left this, List.map_id']
/-! # BdG -/
def NoCell (o : Obj) : Prop := ∀ v, o.data ≠ .cell v
theorem noCell_list (xs : Array Value) (n : Nat) : NoCell (PySem.W.listOf xs n) := fun v e => by cases e
theorem noCell_tup (l : Int) (u : Tok) (c : Addr) (n : Nat) : NoCell (tupO l u c n) := fun v e => by cases e
theorem noCell_inst (c d : Addr) : NoCell (instObj c d) := fun v e => by cases e
theorem noCell_dict (es : List DictEntry) (n : Nat) : NoCell (dictOf es n) := fun v e => by cases e
theorem NodeB.tod {w : World} {T : Tr} {ca : Nat → Nat} {news news' : List (Addr × Obj)} {u : Nat} (n : NodeB w T ca news u) (keep : ∀ p ∈ news, NoCell p.2 → p ∈ news') : NodeB w T ca news' u := by
  obtain ⟨h1, ⟨k1, k2, k3, k4, k5, k6, k7, k8, j1, j2, j7, j8, b4, h2⟩, ⟨xs, nx, hx, h5⟩, qs, n, h3, h4⟩ := n
  exact ⟨keep _ h1 (noCell_inst _ _), ⟨k1, k2, k3, k4, k5, k6, k7, k8, j1, j2, j7, j8, b4, keep _ h2 (noCell_dict _ _)⟩, ⟨xs, nx, hx, keep _ h5 (noCell_list _ _)⟩, qs, n, keep _ h3 (noCell_list _ _),
    ⟨h4.all, h4.srt, fun q hq => let ⟨u, n, hm⟩ := h4.tup q hq; ⟨u, n, keep _ hm (noCell_tup _ _ _ _)⟩, h4.len⟩⟩
theorem Node.tod {w : World} {T : Tr} {news news' : List (Addr × Obj)} {cnt : Nat → Nat} {u : Nat} (n : Node w T news cnt u) (keep : ∀ p ∈ news, NoCell p.2 → p ∈ news') : Node w T news' cnt u := by
  obtain ⟨h1, ⟨k1, k2, k3, k4, k5, k6, k7, k8, j1, j2, j7, j8, b3, b4, lw, h2⟩, qs, n, h3, h4⟩ := n
  exact ⟨keep _ h1 (noCell_inst _ _), ⟨k1, k2, k3, k4, k5, k6, k7, k8, j1, j2, j7, j8, b3, b4, lw, keep _ h2 (noCell_dict _ _)⟩, qs, n, keep _ h3 (noCell_list _ _),
    ⟨h4.all, h4.srt, fun q hq => let ⟨u, n, hm⟩ := h4.tup q hq; ⟨u, n, keep _ hm (noCell_tup _ _ _ _)⟩, h4.len⟩⟩
theorem NodeB.node {w : World} {T : Tr} {ca : Nat → Nat} {news : List (Addr × Obj)} {u : Nat} (n : NodeB w T ca news u) : Node w T news (fun _ => 0) u := by
  obtain ⟨h1, ⟨k1, k2, k3, k4, k5, k6, k7, k8, j1, j2, j7, j8, b4, h2⟩, _, qs, n, h3, h4⟩ := n
  refine ⟨h1, ⟨k1, k2, k3, k4, k5, k6, k7, k8, j1, j2, j7, j8, .ref (ca u), b4, 0, ?_⟩, qs, n, h3, h4⟩
  have e : T.dfc (fun _ => 0) u = 0 := by unfold Tr.dfc; simp
  rw [e]; exact h2
def offL (L : Nat) (l : List (Addr × Obj)) : List (Addr × Obj) := l.filter fun q => decide (@LT.lt Nat _ q.1 (L + 1) ∨ @LT.lt Nat _ (L + 9) q.1)
theorem offL_R (L : Nat) (l : List (Addr × Obj)) : OffR L (offL L l) := fun q hq c h1 h2 e => by
  have := of_decide_eq_true (List.mem_filter.mp hq).2
  have e' : (q.1 : Nat) = c := e
  omega
theorem offL_sub {L : Nat} {l : List (Addr × Obj)} : ∀ p ∈ offL L l, p ∈ l := fun p hp => (List.mem_filter.mp hp).1
theorem nine {L k : Nat} (h1 : L + 1 ≤ k) (h2 : k ≤ L + 9) : k = L + 1 + 1 + 1 + 1 + 1 + 1 + 1 + 1 + 1 ∨ k = L + 1 + 1 + 1 + 1 + 1 + 1 + 1 + 1 ∨ k = L + 1 + 1 + 1 + 1 + 1 + 1 + 1 ∨ k = L + 1 + 1 + 1 + 1 + 1 + 1 ∨ k = L + 1 + 1 + 1 + 1 + 1 ∨ k = L + 1 + 1 + 1 + 1 ∨ k = L + 1 + 1 + 1 ∨ k = L + 1 + 1 ∨ k = L + 1 := by omega
theorem mem_offL {h₀ h : Heap} {L : Nat} {l : List (Addr × Obj)} (N : News h₀ L h l) (c : ∀ k : Nat, L + 1 ≤ k → k ≤ L + 9 → ∃ o v, (k, o) ∈ l ∧ o.data = .cell v) (p : Addr × Obj) (hp : p ∈ l) (hn : NoCell p.2) : p ∈ offL L l := by
  refine List.mem_filter.mpr ⟨hp, decide_eq_true ?_⟩
  obtain ⟨a, o⟩ := p
  show @LT.lt Nat _ a (L + 1) ∨ @LT.lt Nat _ (L + 9) a
  rcases Nat.lt_or_ge a (L + 1) with h1 | h1
  · exact .inl h1
  rcases Nat.lt_or_ge (L + 9) a with h2 | h2
  · exact .inr h2
  obtain ⟨o', v, hm, hd⟩ := c a h1 h2
  have e : o = o' := news_fun N hp hm
  subst e
  exact absurd hd (hn v)
theorem news_two {h₀ h : Heap} {L : Addr} {l E r : List (Addr × Obj)} (N : News h₀ L h l) (hE : ∀ p ∈ E, p ∈ l) (hr : ∀ p ∈ r, p ∈ l) : News h₀ L h (E ++ r) := fun p hp => N p (by
  rcases List.mem_append.mp hp with hp | hp
  · exact hE p hp
  · exact hr p hp)
theorem pick_mem {l : List (Addr × Obj)} (is : List Nat) : ∀ p ∈ (is.filterMap fun i => l[i]?), p ∈ l := fun p hp => by
  obtain ⟨i, _, e⟩ := List.mem_filterMap.mp hp
  exact List.mem_of_getElem? e
/-! # BdH -/
/-! ## the law's own count of turns -/
def Rsp (ns ws as : List Int) (M v T r : Nat) (p : Nat) : Prop := r ≤ T ∧ (∀ k, k < r → ahd ns ws v k (kidN as M p).reverse < T) ∧ (r = T ∨ (T : Int) ≤ ahd ns ws v r (kidN as M p).reverse)
structure TS (ns ws as : List Int) (M : Nat) (q : Nat → Nat) (i : Nat) (t : Nat → Nat) : Prop where
  zero : t 0 = q 0
  done : ∀ v, 1 ≤ v → v ≤ M → v ≤ i → ∃ r, t v = q v + r ∧ Rsp ns ws as M v (t (as.getD v 0).toNat) r (as.getD v 0).toNat
  todo : ∀ v, v ≤ M → i < v → t v = q v
  bnd : ∀ v, v ≤ M → t v ≤ 16 * (v + 1)
theorem TS.start {ns ws as : List Int} {M : Nat} {q : Nat → Nat} (h : ∀ v, q v ≤ 16) : TS ns ws as M q 0 q :=
  ⟨rfl, fun v h1 _ h2 => by omega, fun v _ _ => rfl, fun v _ => by have := h v; omega⟩
theorem TS.step {ns ws as : List Int} {M i r : Nat} {q t : Nat → Nat} (h : TS ns ws as M q i t) (hq : ∀ v, q v ≤ 16) (hi : i < M) (hup : ∀ v, 1 ≤ v → v ≤ M → (as.getD v 0).toNat < v) (hr : Rsp ns ws as M (i + 1) (t (as.getD (i + 1) 0).toNat) r (as.getD (i + 1) 0).toNat) :
    TS ns ws as M q (i + 1) (fun v => if v = i + 1 then q v + r else t v) := by
  refine ⟨?_, fun v h1 h2 h3 => ?_, fun v h2 h3 => ?_, fun v h2 => ?_⟩
  · show (if 0 = i + 1 then q 0 + r else t 0) = q 0
    rw [if_neg (by omega)]; exact h.zero
  · have hv := hup v h1 h2
    show ∃ r', (if v = i + 1 then q v + r else t v) = q v + r' ∧ Rsp ns ws as M v (if (as.getD v 0).toNat = i + 1 then _ else _) r' _
    rw [if_neg (show ¬ (as.getD v 0).toNat = i + 1 by omega)]
    by_cases e : v = i + 1
    · subst e
      exact ⟨r, if_pos rfl, hr⟩
    · obtain ⟨r', h4, h5⟩ := h.done v h1 h2 (by omega)
      exact ⟨r', by rw [if_neg e]; exact h4, h5⟩
  · show (if v = i + 1 then q v + r else t v) = q v
    rw [if_neg (by omega)]; exact h.todo v h2 (by omega)
  · show (if v = i + 1 then q v + r else t v) ≤ _
    by_cases e : v = i + 1
    · rw [if_pos e]
      have h1 := hup (i + 1) (by omega) (by omega)
      have h2 := h.bnd (as.getD (i + 1) 0).toNat (by omega)
      have h3 := hr.1
      have h4 := hq v
      omega
    · rw [if_neg e]; exact h.bnd v h2
theorem ts_set {tn : List Int} {t : Nat → Nat} {M i x : Nat} {y : Int} (hl : tn.length = M + 1) (h : ∀ v, v ≤ M → tn.getD v 0 = (t v : Int)) (hi : i < M) (e : y = (x : Int)) : ∀ v, v ≤ M → (tn.set (i + 1) y).getD v 0 = (((if v = i + 1 then x else t v) : Nat) : Int) := by
  intro v hv
  by_cases e2 : v = i + 1
  · subst e2
    rw [if_pos rfl, ← e]
    simp [List.getD, show i + 1 < tn.length by omega]
  · rw [if_neg e2, ← h v hv]
    simp [List.getD, List.getElem?_set, show ¬ i + 1 = v by omega]
theorem kidN_mem {as : List Int} {M u c : Nat} : c ∈ kidN as M u ↔ 1 ≤ c ∧ c ≤ M ∧ as.getD c 0 = (u : Int) := by
  unfold kidN
  rw [List.mem_filter, decide_eq_true_eq, List.mem_map]
  constructor
  · rintro ⟨⟨a, ha, rfl⟩, h⟩
    have := List.mem_range.mp ha
    exact ⟨by omega, by omega, h⟩
  · rintro ⟨h1, h2, h3⟩
    exact ⟨⟨c - 1, List.mem_range.mpr (by omega), by omega⟩, h3⟩
theorem count_le {as : List Nat} (v : Nat) (h : as.length ≤ 16) : as.count v ≤ 16 := Nat.le_trans List.count_le_length h
theorem count_int {as : List Nat} (v : Nat) : (as.map fun (a : Nat) => (a : Int)).count (v : Int) = as.count v := by
  induction as with
  | nil => rfl
  | cons a l ih =>
    rw [List.map_cons, List.count_cons, List.count_cons, ih]
    congr 1
    simp only [beq_iff_eq]
    by_cases e : a = v
    · subst e; simp
    · rw [if_neg e, if_neg (by omega)]
/-! # Pl1 -/
/-! ## plain law: what the greedy turns come to -/
def Tr.keyN (T : Tr) (k c : Nat) : Int × Int := ((256 * (k : Int)) / T.wt c, T.nm c)
theorem klt_iff {a b : Int × Int} : klt a b = true ↔ (a.1 < b.1 ∨ (a.1 = b.1 ∧ a.2 < b.2)) := by simp only [klt, decide_eq_true_eq]
theorem keyN_up {T : Tr} {c j k : Nat} {x : Int × Int} (hw : 1 ≤ T.wt c) (h : j ≤ k) (h1 : klt x (T.keyN j c) = true) : klt x (T.keyN k c) = true := by
  have e : (256 * (j : Int)) / T.wt c ≤ (256 * (k : Int)) / T.wt c := Int.ediv_le_ediv (by omega) (by omega)
  rw [klt_iff] at *
  simp only [Tr.keyN] at *
  omega
theorem keyN_dn {T : Tr} {c j k : Nat} {x : Int × Int} (hw : 1 ≤ T.wt c) (h : j ≤ k) (h1 : klt (T.keyN k c) x = true) : klt (T.keyN j c) x = true := by
  have e : (256 * (j : Int)) / T.wt c ≤ (256 * (k : Int)) / T.wt c := Int.ediv_le_ediv (by omega) (by omega)
  rw [klt_iff] at *
  simp only [Tr.keyN] at *
  omega
def Gr (T : Tr) (cnt : Nat → Nat) : Prop := ∀ u c o, T.kid u c → T.kid u o → c ≠ o → 1 ≤ cnt c → klt (T.keyN (cnt c - 1) c) (T.keyN (cnt o) o) = true
theorem Gr.bump {T : Tr} (W : T.WF) {cnt : Nat → Nat} {v c : Nat} (h : Gr T cnt) (hb : Best T cnt v c) : Gr T (bump c cnt) := by
  intro u c' o hc' ho hne h1
  by_cases e : c' = c
  · subst e
    have hu : u = v := by rw [← hc'.2.2, ← hb.1.2.2]
    subst hu
    have e1 : Mine.bump c' cnt c' = cnt c' + 1 := by simp [Mine.bump]
    have e2 : Mine.bump c' cnt o = cnt o := by simp [Mine.bump, Ne.symm hne]
    rw [e1, e2]
    exact hb.2 o ho (Ne.symm hne)
  · have e1 : Mine.bump c cnt c' = cnt c' := by simp [Mine.bump, e]
    rw [e1] at h1 ⊢
    have hg := h u c' o hc' ho hne h1
    by_cases e2 : o = c
    · subst e2
      have e3 : Mine.bump o cnt o = cnt o + 1 := by simp [Mine.bump]
      rw [e3]
      exact keyN_up (W.w1 _ ho.2.1) (Nat.le_succ _) hg
    · have e3 : Mine.bump c cnt o = cnt o := by simp [Mine.bump, e2]
      rw [e3]; exact hg
theorem Best.congr {T : Tr} {cnt cnt' : Nat → Nat} {v c : Nat} (h : Best T cnt v c) (e : ∀ x, T.kid v x → cnt' x = cnt x) : Best T cnt' v c := by
  refine ⟨h.1, fun o ho hne => ?_⟩
  have := h.2 o ho hne
  unfold Tr.key Tr.lev at this ⊢
  rw [e c h.1, e o ho]; exact this
theorem Sch.gr {T : Tr} (W : T.WF) {v : Nat} {cnt cnt' : Nat → Nat} {r : Int} (h : Sch T v cnt r cnt') (g : Gr T cnt) : Gr T cnt' := by
  induction h with
  | leaf hb _ => exact g.bump W hb
  | @node v c cnt cnt' r hb _ hs ih =>
    refine (ih g).bump W (hb.congr fun x hx => hs.same W fun _ _ => ?_)
    have := W.up c hb.1.1 hb.1.2.1
    rw [hb.1.2.2] at this
    rw [hx.2.2]; exact this
/-! sums -/
def kidsL (T : Tr) (u : Nat) : List Nat := ((List.range T.many).map (· + 1)).filter fun c => decide (T.par c = u)
theorem mem_kidsL {T : Tr} {u c : Nat} : c ∈ kidsL T u ↔ T.kid u c := by
  unfold kidsL Tr.kid
  rw [List.mem_filter, decide_eq_true_eq, List.mem_map]
  constructor
  · rintro ⟨⟨a, ha, rfl⟩, h⟩
    have := List.mem_range.mp ha
    exact ⟨by omega, by omega, h⟩
  · rintro ⟨h1, h2, h3⟩
    exact ⟨⟨c - 1, List.mem_range.mpr (by omega), by omega⟩, h3⟩
theorem kidsL_nodup (T : Tr) (u : Nat) : (kidsL T u).Nodup := by
  refine List.Nodup.sublist List.filter_sublist ?_
  rw [List.nodup_iff_pairwise_ne, List.pairwise_map]
  exact (List.nodup_iff_pairwise_ne.mp List.nodup_range).imp fun {a b} h e => h (by omega)
def sm (f : Nat → Nat) : List Nat → Nat
  | [] => 0
  | a :: l => f a + sm f l
theorem sm_append (f : Nat → Nat) (a b : List Nat) : sm f (a ++ b) = sm f a + sm f b := by
  induction a with
  | nil => simp [sm]
  | cons x a ih => simp only [List.cons_append, sm, ih]; omega
theorem sm_reverse (f : Nat → Nat) (l : List Nat) : sm f l.reverse = sm f l := by
  induction l with
  | nil => rfl
  | cons x l ih => rw [List.reverse_cons, sm_append, ih]; simp only [sm]; omega
theorem sm_bump {c : Nat} {cnt : Nat → Nat} : ∀ {l : List Nat}, l.Nodup → sm (bump c cnt) l = sm cnt l + (if c ∈ l then 1 else 0)
  | [], _ => by simp [sm]
  | a :: l, h => by
    have h1 := List.nodup_cons.mp h
    simp only [sm, sm_bump h1.2]
    by_cases e : a = c
    · subst e
      have : a ∉ l := h1.1
      simp [bump, this]; omega
    · have e' : c ≠ a := Ne.symm e
      by_cases e2 : c ∈ l <;> simp [bump, e, e', e2] <;> omega
theorem Sch.sums {T : Tr} (W : T.WF) {v : Nat} {cnt cnt' : Nat → Nat} {r : Int} (h : Sch T v cnt r cnt') :
    ∀ u, u ≤ T.many → T.lf u = false → sm cnt' (kidsL T u) + cnt u = sm cnt (kidsL T u) + cnt' u + (if u = v then 1 else 0) := by
  induction h with
  | @leaf v c cnt hb hl =>
    intro u hu hlu
    rw [sm_bump (kidsL_nodup T u)]
    have e1 : u ≠ c := fun e => by rw [e, hl] at hlu; cases hlu
    have e2 : bump c cnt u = cnt u := by simp [bump, e1]
    rw [e2]
    have e3 : (c ∈ kidsL T u) = (u = v) := by
      rw [mem_kidsL]
      exact propext ⟨fun h => by rw [← h.2.2, hb.1.2.2], fun h => h ▸ hb.1⟩
    simp only [e3]; omega
  | @node v c cnt cnt' r hb hl hs ih =>
    intro u hu hlu
    have := ih u hu hlu
    rw [sm_bump (kidsL_nodup T u)]
    have e3 : (c ∈ kidsL T u) = (u = v) := by
      rw [mem_kidsL]
      exact propext ⟨fun h => by rw [← h.2.2, hb.1.2.2], fun h => h ▸ hb.1⟩
    simp only [e3]
    by_cases e1 : u = c
    · have e2 : bump c cnt' u = cnt' u + 1 := by simp [bump, e1]
      rw [e2]; rw [if_pos e1] at this; omega
    · have e2 : bump c cnt' u = cnt' u := by simp [bump, e1]
      rw [e2]; rw [if_neg e1] at this; omega
theorem Sch.out {T : Tr} (W : T.WF) {v : Nat} {cnt cnt' : Nat → Nat} {r : Int} (h : Sch T v cnt r cnt') :
    ∃ x, 1 ≤ x ∧ x ≤ T.many ∧ T.lf x = true ∧ r = T.nm x ∧ ∀ y, T.lf y = true → cnt' y = cnt y + (if y = x then 1 else 0) := by
  induction h with
  | @leaf v c cnt hb hl => exact ⟨c, hb.1.1, hb.1.2.1, hl, rfl, fun y _ => by simp only [bump]; split <;> rfl⟩
  | @node v c cnt cnt' r hb hl hs ih =>
    obtain ⟨x, h1, h2, h3, h4, h5⟩ := ih
    refine ⟨x, h1, h2, h3, h4, fun y hy => ?_⟩
    have e : y ≠ c := fun e => by rw [e, hl] at hy; cases hy
    simp only [bump, if_neg e]; exact h5 y hy
theorem Sch.zero {T : Tr} {v : Nat} {cnt cnt' : Nat → Nat} {r : Int} (h : Sch T v cnt r cnt') : cnt' 0 = cnt 0 := by
  induction h with
  | @leaf v c cnt hb hl => have := hb.1.1; simp only [bump]; rw [if_neg (by omega)]
  | @node v c cnt cnt' r hb hl hs ih => have := hb.1.1; simp only [bump]; rw [if_neg (by omega)]; exact ih

/-- what a run of requests `vs` with the answers `rs` comes to -/
structure Ran (T : Tr) (vs : List Nat) (rs : List Int) (cnt : Nat → Nat) : Prop where
  gr : Gr T cnt
  zero : cnt 0 = 0
  sums : ∀ u, u ≤ T.many → T.lf u = false → sm cnt (kidsL T u) = cnt u + vs.count u
  outs : ∀ y, y ≤ T.many → rs.count (T.nm y) = if T.lf y = true then cnt y else 0
theorem Ran.start (T : Tr) : Ran T [] [] (fun _ => 0) := by
  refine ⟨fun u c o _ _ _ h => absurd h (by simp), rfl, fun u _ _ => ?_, fun y _ => by simp⟩
  simp only [List.count_nil, Nat.add_zero]
  induction kidsL T u with
  | nil => rfl
  | cons a l ih => simp only [sm, ih]
theorem Ran.step {T : Tr} (W : T.WF) {vs : List Nat} {rs : List Int} {cnt cnt' : Nat → Nat} {v : Nat} {r : Int} (h : Ran T vs rs cnt) (hs : Sch T v cnt r cnt') : Ran T (vs ++ [v]) (rs ++ [r]) cnt' := by
  refine ⟨hs.gr W h.gr, hs.zero.trans h.zero, fun u hu hl => ?_, fun y hy => ?_⟩
  · have h1 := hs.sums W u hu hl
    have h2 := h.sums u hu hl
    rw [List.count_append, List.count_singleton]
    simp only [beq_iff_eq]
    by_cases e : u = v
    · rw [if_pos e] at h1; rw [if_pos e.symm]; omega
    · rw [if_neg e] at h1; rw [if_neg (Ne.symm e)]; omega
  · obtain ⟨x, h1, h2, h3, h4, h5⟩ := hs.out W
    rw [List.count_append, List.count_singleton, h.outs y hy]
    simp only [beq_iff_eq]
    by_cases hl : T.lf y = true
    · rw [if_pos hl, if_pos hl, h5 y hl]
      by_cases e : y = x
      · subst e; rw [if_pos rfl, if_pos h4]
      · rw [if_neg e, if_neg]
        intro e2
        exact e (W.nmI y x hy h2 (by rw [← h4, e2]))
    · rw [if_neg hl, if_neg hl, if_neg]
      intro e2
      have : x = y := W.nmI x y h2 hy (by rw [← h4, e2])
      rw [this] at h3; exact hl h3

/-! what stands ahead -/
def sx (v : Nat) (f : Nat → Nat) : List Nat → Nat
  | [] => 0
  | o :: l => (if o = v then 0 else f o) + sx v f l
theorem sx_sm {v : Nat} {f : Nat → Nat} : ∀ {l : List Nat}, l.Nodup → sx v f l + (if v ∈ l then f v else 0) = sm f l
  | [], _ => by simp [sx, sm]
  | a :: l, h => by
    have h1 := List.nodup_cons.mp h
    have ih := sx_sm (v := v) (f := f) h1.2
    simp only [sx, sm]
    by_cases e : a = v
    · subst e
      have : a ∉ l := h1.1
      simp [this] at ih ⊢; omega
    · have e' : v ≠ a := Ne.symm e
      by_cases e2 : v ∈ l <;> simp [e, e', e2] at ih ⊢ <;> omega
section
variable {T : Tr} {ns ws : List Int} {cnt : Nat → Nat} {u v : Nat}
theorem part_eq (hn : ∀ x, T.nm x = ns.getD x 0) (hw : ∀ x, T.wt x = ws.getD x 0) {k o : Nat} (w1 : 1 ≤ T.wt v) :
    part ns ws v k o = T.wt o * ((256 * (k : Int)) / T.wt v + (if T.nm o < T.nm v then 1 else 0)) := by
  unfold part
  rw [hw, hw, hn, hn, Int.fdiv_eq_ediv_of_nonneg _ (by rw [← hw]; omega)]
theorem part_hi (hn : ∀ x, T.nm x = ns.getD x 0) (hw : ∀ x, T.wt x = ws.getD x 0) {k o : Nat} (w1 : 1 ≤ T.wt v) (w2 : 1 ≤ T.wt o) (h : klt (T.keyN k v) (T.keyN (cnt o) o) = true) :
    -((-(part ns ws v k o)).fdiv 256) ≤ (cnt o : Int) := by
  rw [klt_iff] at h
  simp only [Tr.keyN] at h
  rw [Int.fdiv_eq_ediv_of_nonneg _ (by omega), part_eq hn hw w1]
  have hx : (256 * (k : Int)) / T.wt v + (if T.nm o < T.nm v then 1 else 0) ≤ (256 * (cnt o : Int)) / T.wt o := by
    split <;> omega
  have h2 : T.wt o * ((256 * (k : Int)) / T.wt v + (if T.nm o < T.nm v then 1 else 0)) ≤ T.wt o * ((256 * (cnt o : Int)) / T.wt o) := Int.mul_le_mul_of_nonneg_left hx (by omega)
  have h3 : T.wt o * ((256 * (cnt o : Int)) / T.wt o) ≤ 256 * (cnt o : Int) := Int.mul_ediv_self_le (by omega)
  generalize T.wt o * ((256 * (k : Int)) / T.wt v + (if T.nm o < T.nm v then 1 else 0)) = p at *
  omega
theorem part_lo (hn : ∀ x, T.nm x = ns.getD x 0) (hw : ∀ x, T.wt x = ws.getD x 0) {k o : Nat} (w1 : 1 ≤ T.wt v) (w2 : 1 ≤ T.wt o) (h : 1 ≤ cnt o → klt (T.keyN (cnt o - 1) o) (T.keyN k v) = true) :
    (cnt o : Int) ≤ -((-(part ns ws v k o)).fdiv 256) := by
  rw [Int.fdiv_eq_ediv_of_nonneg _ (by omega), part_eq hn hw w1]
  have hk0 : 0 ≤ (256 * (k : Int)) / T.wt v := Int.ediv_nonneg (by omega) (by omega)
  rcases Nat.eq_zero_or_pos (cnt o) with h0 | h0
  · have h1 : 0 ≤ (256 * (k : Int)) / T.wt v + (if T.nm o < T.nm v then 1 else 0) := by split <;> omega
    have h2 : 0 ≤ T.wt o * ((256 * (k : Int)) / T.wt v + (if T.nm o < T.nm v then 1 else 0)) := Int.mul_nonneg (by omega) h1
    generalize T.wt o * ((256 * (k : Int)) / T.wt v + (if T.nm o < T.nm v then 1 else 0)) = p at *
    omega
  · have h := h h0
    rw [klt_iff] at h
    simp only [Tr.keyN] at h
    have hx : (256 * ((cnt o - 1 : Nat) : Int)) / T.wt o + 1 ≤ (256 * (k : Int)) / T.wt v + (if T.nm o < T.nm v then 1 else 0) := by
      split <;> omega
    have h2 := Int.mul_le_mul_of_nonneg_left hx (show 0 ≤ T.wt o by omega)
    have h3 : 256 * ((cnt o - 1 : Nat) : Int) < T.wt o * ((256 * ((cnt o - 1 : Nat) : Int)) / T.wt o + 1) := by
      have a := Int.mul_ediv_add_emod (256 * ((cnt o - 1 : Nat) : Int)) (T.wt o)
      have b := Int.emod_lt_of_pos (256 * ((cnt o - 1 : Nat) : Int)) (show 0 < T.wt o by omega)
      rw [Int.mul_add, Int.mul_one]
      omega
    generalize T.wt o * ((256 * (k : Int)) / T.wt v + (if T.nm o < T.nm v then 1 else 0)) = p at *
    omega
theorem ahd_hi {k : Nat} : ∀ {l : List Nat}, (∀ o ∈ l, o ≠ v → -((-(part ns ws v k o)).fdiv 256) ≤ (cnt o : Int)) → ahd ns ws v k l ≤ k + (sx v cnt l : Nat)
  | [], _ => by simp [ahd, sx]
  | a :: l, h => by
    have ih := ahd_hi (fun o ho => h o (.tail _ ho))
    have h1 := h a (.head _)
    simp only [ahd, sx]
    by_cases e : a = v
    · simp only [e, if_true]; omega
    · have := h1 e
      simp only [e, if_false]; omega
theorem ahd_lo {k : Nat} : ∀ {l : List Nat}, (∀ o ∈ l, o ≠ v → (cnt o : Int) ≤ -((-(part ns ws v k o)).fdiv 256)) → (k : Int) + (sx v cnt l : Nat) ≤ ahd ns ws v k l
  | [], _ => by simp [ahd, sx]
  | a :: l, h => by
    have ih := ahd_lo (fun o ho => h o (.tail _ ho))
    have h1 := h a (.head _)
    simp only [ahd, sx]
    by_cases e : a = v
    · simp only [e, if_true]; omega
    · have := h1 e
      simp only [e, if_false]; omega
end
/-- what the law reckons is what the turns come to -/
theorem share_is {T : Tr} {ns ws : List Int} (W : T.WF) (hn : ∀ x, T.nm x = ns.getD x 0) (hw : ∀ x, T.wt x = ws.getD x 0) {cnt : Nat → Nat} (g : Gr T cnt) {u v M r : Nat} (hk : T.kid u v) (hs : sm cnt (kidsL T u) = M)
    (h1 : r ≤ M) (h2 : ∀ k, k < r → ahd ns ws v k (kidsL T u).reverse < M) (h3 : r = M ∨ (M : Int) ≤ ahd ns ws v r (kidsL T u).reverse) : r = cnt v := by
  have hv : v ∈ kidsL T u := mem_kidsL.mpr hk
  have nd : (kidsL T u).reverse.Nodup := List.pairwise_reverse.mpr ((kidsL_nodup T u).imp fun h => Ne.symm h)
  have e1 := sx_sm (v := v) (f := cnt) nd
  rw [if_pos (List.mem_reverse.mpr hv), sm_reverse, hs] at e1
  have wv := W.w1 v hk.2.1
  have kid_of : ∀ o ∈ (kidsL T u).reverse, T.kid u o := fun o ho => mem_kidsL.mp (List.mem_reverse.mp ho)
  have hi : ∀ k, k < cnt v → ahd ns ws v k (kidsL T u).reverse < M := fun k hk2 => by
    have := ahd_hi (ns := ns) (ws := ws) (v := v) (k := k) (cnt := cnt) (l := (kidsL T u).reverse) fun o ho hne =>
      part_hi hn hw wv (W.w1 o (kid_of o ho).2.1) (keyN_dn wv (show k ≤ cnt v - 1 by omega) (g u v o hk (kid_of o ho) (Ne.symm hne) (by omega)))
    omega
  have lo : (M : Int) ≤ ahd ns ws v (cnt v) (kidsL T u).reverse := by
    have := ahd_lo (ns := ns) (ws := ws) (v := v) (k := cnt v) (cnt := cnt) (l := (kidsL T u).reverse) fun o ho hne =>
      part_lo hn hw wv (W.w1 o (kid_of o ho).2.1) (fun h0 => g u o v (kid_of o ho) hk hne h0)
    omega
  rcases Nat.lt_trichotomy r (cnt v) with h | h | h
  · have a := hi r h
    rcases h3 with h3 | h3
    · omega
    · omega
  · exact h
  · have := h2 _ h
    omega

theorem madeT_wf {ns as ws : List Int} {sa da ca qa : Nat → Nat} {M : Nat} (hM : M ≤ 6) (hl : ns.length = M + 1) (lw : ws.length = M + 1) (la : as.length = M + 1) (bas : ∀ v, 1 ≤ v → v < as.length → 0 ≤ as.getD v 0 ∧ as.getD v 0 < v)
    (bws : ∀ o, o < ws.length → 1 ≤ ws.getD o 0 ∧ ws.getD o 0 ≤ 256) (dns : ∀ u v, u < ns.length → v < ns.length → ns.getD u 0 = ns.getD v 0 → u = v) (lay : Lay ns.length sa da ca qa []) :
    (madeT ns as ws (fun u => kidI as M u) sa da qa).WF := by
  have hm : (madeT ns as ws (fun u => kidI as M u) sa da qa).many = M := by show ns.length - 1 = M; omega
  refine ⟨fun c h1 h2 => ?_, fun c h => ?_, fun c h => ?_, fun u v h1 h2 e => ?_, fun u v h1 h2 e => ?_, fun u v h1 h2 e => ?_, fun u v h1 h2 e => ?_, fun v h e => ?_, fun v c h hk => ?_, ?_⟩
  all_goals (try rw [hm] at h)
  all_goals (try rw [hm] at h1)
  all_goals (try rw [hm] at h2)
  · have := bas c h1 (by omega)
    show (as.getD c 0).toNat < c
    omega
  · exact (bws c (by omega)).1
  · exact (bws c (by omega)).2
  · exact dns u v (by omega) (by omega) e
  · exact lay.sa (by omega) (by omega) e
  · exact lay.da (by omega) (by omega) e
  · exact lay.qa (by omega) (by omega) e
  · have e2 : ¬ kidI as M v = [] := of_decide_eq_false e
    have : ∃ c, c ∈ kidN as M v := by
      cases hq : kidN as M v with
      | nil => exact absurd (by unfold kidI; rw [hq]; rfl) e2
      | cons a l => exact ⟨a, .head _⟩
    obtain ⟨c, hc⟩ := this
    obtain ⟨h1, h2, h3⟩ := kidN_mem.mp hc
    refine ⟨c, h1, by rw [hm]; exact h2, ?_⟩
    show (as.getD c 0).toNat = v
    omega
  · obtain ⟨h1, h2, h3⟩ := hk
    rw [hm] at h2
    have hb := bas c h1 (by omega)
    have h4 : (as.getD c 0).toNat = v := h3
    refine decide_eq_false fun e => ?_
    have : (c : Int) ∈ kidI as M v := List.mem_map_of_mem (kidN_mem.mpr ⟨h1, h2, by omega⟩)
    have e' : kidI as M v = [] := e
    rw [e'] at this; cases this
  · rw [hm]; omega
theorem kidsL_eq {ns as ws : List Int} {sa da qa : Nat → Nat} {M u : Nat} (hl : ns.length = M + 1) (la : as.length = M + 1) (bas : ∀ v, 1 ≤ v → v < as.length → 0 ≤ as.getD v 0 ∧ as.getD v 0 < v) :
    kidsL (madeT ns as ws (fun u => kidI as M u) sa da qa) u = kidN as M u := by
  unfold kidsL kidN
  have hm : (madeT ns as ws (fun u => kidI as M u) sa da qa).many = M := by show ns.length - 1 = M; omega
  rw [hm]
  apply List.filter_congr
  intro c hc
  obtain ⟨a, ha, rfl⟩ := List.mem_map.mp hc
  have := List.mem_range.mp ha
  have hb := bas (a + 1) (by omega) (by omega)
  show decide ((as.getD (a + 1) 0).toNat = u) = decide (as.getD (a + 1) 0 = (u : Int))
  apply decide_eq_decide.mpr
  omega
/-- the law's count is what came -/
theorem turns_eq {ns as ws : List Int} {sa da ca qa : Nat → Nat} {M : Nat} (hM : M ≤ 6) (hl : ns.length = M + 1) (lw : ws.length = M + 1) (la : as.length = M + 1) (bas : ∀ v, 1 ≤ v → v < as.length → 0 ≤ as.getD v 0 ∧ as.getD v 0 < v)
    (W : (madeT ns as ws (fun u => kidI as M u) sa da qa).WF) {vs : List Nat} {rs : List Int} {cnt q t : Nat → Nat} (R : Ran (madeT ns as ws (fun u => kidI as M u) sa da qa) vs rs cnt)
    (ts : TS ns ws as M q M t) (hq : ∀ v, q v = vs.count v) : ∀ v, v ≤ M → t v = q v + cnt v := by
  have hm : (madeT ns as ws (fun u => kidI as M u) sa da qa).many = M := by show ns.length - 1 = M; omega
  intro v
  induction v using Nat.strongRecOn with
  | _ v ih =>
    intro hv
    rcases Nat.eq_zero_or_pos v with h0 | h0
    · subst h0; rw [ts.zero, R.zero, Nat.add_zero]
    · obtain ⟨r, h1, h2, h3, h4⟩ := ts.done v h0 hv hv
      have hb := bas v h0 (by omega)
      have hp : (as.getD v 0).toNat < v := by omega
      have hk : (madeT ns as ws (fun u => kidI as M u) sa da qa).kid (as.getD v 0).toNat v := ⟨h0, by rw [hm]; exact hv, rfl⟩
      have hlf := W.lf1 _ v (by rw [hm]; omega) hk
      have hs := R.sums (as.getD v 0).toNat (by rw [hm]; omega) hlf
      have hpt := ih _ hp (by omega)
      rw [← kidsL_eq (ws := ws) (sa := sa) (da := da) (qa := qa) hl la bas] at h3 h4
      have := share_is W (fun _ => rfl) (fun _ => rfl) R.gr (M := t (as.getD v 0).toNat) (r := r) hk (by rw [hs, hpt, hq]; omega) h2 h3 h4
      rw [h1, this]
structure Same (T T' : Tr) : Prop where
  m : T'.many = T.many
  p : T'.par = T.par
  n : T'.nm = T.nm
  w : T'.wt = T.wt
  l : T'.lf = T.lf
theorem best_det {T T' : Tr} (S : Same T T') {cnt cnt2 : Nat → Nat} {v c c2 : Nat} (e : ∀ x, x ≤ T.many → cnt x = cnt2 x) (h : Best T cnt v c) (h2 : Best T' cnt2 v c2) : c = c2 := by
  by_cases hc : c = c2
  · exact hc
  · have k2 : T.kid v c2 := by
      obtain ⟨a, b, d⟩ := h2.1
      rw [S.m] at b; rw [S.p] at d
      exact ⟨a, b, d⟩
    have k1 : T'.kid v c := by
      obtain ⟨a, b, d⟩ := h.1
      exact ⟨a, by rw [S.m]; exact b, by rw [S.p]; exact d⟩
    have a1 := h.2 c2 k2 (Ne.symm hc)
    have a2 := h2.2 c k1 hc
    have e1 : T'.key cnt2 c = T.key cnt c := by unfold Tr.key Tr.lev; rw [S.n, S.w, e c h.1.2.1]
    have e2 : T'.key cnt2 c2 = T.key cnt c2 := by unfold Tr.key Tr.lev; rw [S.n, S.w, e c2 k2.2.1]
    rw [e1, e2] at a2
    have := klt_asymm a1
    rw [a2] at this; cases this
theorem sch_det {T T' : Tr} (S : Same T T') {v : Nat} {cnt cnt' : Nat → Nat} {r : Int} (h : Sch T v cnt r cnt') :
    ∀ {cnt2 cnt2' : Nat → Nat} {r2 : Int}, Sch T' v cnt2 r2 cnt2' → (∀ x, x ≤ T.many → cnt x = cnt2 x) → r = r2 ∧ ∀ x, x ≤ T.many → cnt' x = cnt2' x := by
  induction h with
  | @leaf v c cnt hb hl =>
    intro cnt2 cnt2' r2 h2 e
    cases h2 with
    | leaf hb2 hl2 =>
      have hc := best_det S e hb hb2
      subst hc
      refine ⟨by rw [S.n], fun x hx => ?_⟩
      simp only [bump]
      rw [e x hx]
    | node hb2 hl2 _ =>
      have hc := best_det S e hb hb2
      subst hc
      rw [S.l, hl] at hl2; cases hl2
  | @node v c cnt cnt' r hb hl hs ih =>
    intro cnt2 cnt2' r2 h2 e
    cases h2 with
    | leaf hb2 hl2 =>
      have hc := best_det S e hb hb2
      subst hc
      rw [S.l, hl] at hl2; cases hl2
    | node hb2 hl2 hs2 =>
      have hc := best_det S e hb hb2
      subst hc
      obtain ⟨h3, h4⟩ := ih hs2 e
      refine ⟨h3, fun x hx => ?_⟩
      simp only [bump]
      rw [h4 x hx]
/-! # BdI -/
/-! ## a comprehension over a list, whose turns know the iterator's class -/
abbrev ItC : Value := .type "list_iterator"
def RestL (prog : Program) (w : World) (A : Around) (h₀ : Heap) (L : Addr) (m : Str → Option Value) (env : Env) (elt : PySem.Expr) (x : Str) (scope : Scope) (cl : List (Str × Addr)) (s : Shared) (S : List (Addr × Obj) → Prop) (P : Nat → Value → Prop)
    (Fin : List Value → List (Addr × Obj) → Prop) : Nat → Nat → List Value → List (Addr × Obj) → Prop
  | 0, _, ys, news => Fin ys news
  | k + 1, i, ys, news => ∀ v I oI C oC D m₂ h tk (E' : Value → Shared → Prop), P i v → oI.cls = ItC → LCg.NsObj oC m₂ → m₂ x = some v → Fr h₀ L h m → News h₀ L h ((I, oI) :: (C, oC) :: (D, LCg.lst ys) :: news) → LCg.Off3 I C D news → ((@Ne Nat I C) ∧ (@Ne Nat I D) ∧ (@Ne Nat C D)) →
      wpAny (model prog w) A (eval elt (compEnvC scope cl C env)) (LCg.CompEnd h₀ L m { s with heap := h, toks := tk } I oI C oC D (LCg.lst ys) S (fun y news' => RestL prog w A h₀ L m env elt x scope cl s S P Fin k (i + 1) (ys ++ [y]) news')) E' { s with heap := h, toks := tk }
section
variable {prog : Program} {w : World} {A : Around} {E : Value → Shared → Prop} {s : Shared} {h₀ : Heap} {L : Addr} {m : Str → Option Value} {env : Env}
theorem block_L {elt iter : PySem.Expr} {x : Str} {px : Pos} {scope : Scope} {cl : List (Str × Addr)} {pos : Pos} {s₂ : Shared} {I ax : Addr} {n : Nat} {P : Nat → Value → Prop} {St : Nat → Heap → Prop} {S : List (Addr × Obj) → Prop} {news : List (Addr × Obj)}
    {Fin : List Value → List (Addr × Obj) → Prop} {RR : Value → Addr → Result → Shared → Prop}
    (W : Walks prog w A I [I, ax] [I] n P St) (hsz : n ≤ sizeLine) (hIo : ∀ i h, St i h → ∃ o, h.get? I = some o ∧ o.cls = ItC)
    (hSt : ∀ i h h' o nw, St i h → h.get? I = some o → h'.get? I = some o → (∀ b o, h₀.get? b = some o → h'.get? b = some o) → News h₀ L h' nw → S nw → St i h')
    (hcell : ∀ y ∈ scope.names, y.2 ≠ .cell) (hkind : scope.kind = .function) (hx : scope.names.lookup x = some .local) (hst : St 0 s₂.heap) (hIs : I < s₂.heap.objs.size) (hax : ax < s₂.heap.objs.size)
    (F : Fr h₀ L s₂.heap m) (N : News h₀ L s₂.heap news) (hIL : L ≠ I) (hI₀ : h₀.get? I = none) (off : ∀ p ∈ news, p.1 ≠ I) (hS : S news)
    (R : RestL prog w A h₀ L m env elt x scope cl s₂ S P Fin n 0 [] news)
    (hRR : ∀ D C h tk m' ys news', Fr h₀ L h m → News h₀ L h ((D, LCg.lst ys) :: news') → LCg.Off1 D news' → h.Ns C m' → h₀.get? C = none → h₀.get? D = none → C ≠ L → D ≠ L → C ≠ D → (∀ p ∈ news', p.1 ≠ C) → Fin ys news' → RR (.ref D) C (.ok .next) { s₂ with heap := h, toks := tk }) :
    wpAny (model prog w) A (newList []) (fun acc s₃ => wpAny (model prog w) A (newFunctionEnv scope env.globals cl [] env.qual none .none (some env)) (fun cenv s₄ =>
      codeAny (model prog w) A (.compStart (.ListComp elt [⟨.Name x px, iter, [], 0⟩] scope pos) 0 (.ref I) acc { cenv with scope := relabel scope env }) (RR acc cenv.locals) s₄) E s₃) E s₂ := by
  refine wpAny_newObj_type (wpAny_newFunctionEnv hcell (by intro y hy; simp at hy) (fun h₁ hns₁ hsb₁ => ?_) hkind)
  dsimp only at hns₁ hsb₁ ⊢
  generalize hH2 : (s₂.heap.push { cls := .type "list", dict := none, data := .seq ([] : List Value).toArray } : Heap) = H2 at hns₁ hsb₁ ⊢
  have hz : H2.objs.size = s₂.heap.objs.size + 1 := by rw [← hH2, Heap.size_push]
  obtain ⟨D, hD⟩ : ∃ D : Nat, D = s₂.heap.objs.size := ⟨_, rfl⟩
  obtain ⟨C, hC⟩ : ∃ C : Nat, C = H2.objs.size := ⟨_, rfl⟩
  have eC : C = D + 1 := by rw [hC, hD]; exact hz
  have hlt : ∀ b : Nat, b < D → (@Ne Nat b C) ∧ (@Ne Nat b D) := fun b hb => ⟨by omega, by omega⟩
  have hI : (I : Nat) < D := by rw [hD]; exact hIs
  have haD : (ax : Nat) < D := by rw [hD]; exact hax
  have hLD : (L : Nat) < D := by rw [hD]; exact F.ns.lt
  rw [← hC] at hns₁ hsb₁
  have old : ∀ b o, s₂.heap.get? b = some o → h₁.get? b = some o := fun b o e => hsb₁.extBut b o (hlt b (by rw [hD]; exact Heap.lt_size e)).1 (Heap.get?_push_of_some _ (hH2 ▸ Heap.get?_push_of_some _ e))
  have hCD : @Ne Nat C D := by omega
  have hacc : h₁.get? D = some (LCg.lst []) := by
    rw [hD] at hCD ⊢
    exact hsb₁.extBut _ _ (Ne.symm hCD) (Heap.get?_push_of_some _ (hH2 ▸ Heap.get?_push_size _ rfl))
  have fresh₀ : ∀ a : Nat, D ≤ a → h₀.get? a = none := fun a ha => by
    cases e : h₀.get? a with
    | none => rfl
    | some o' => have := Heap.lt_size (F.keep a o' e); rw [← hD] at this; exact absurd this (Nat.not_lt.mpr ha)
  have hD₀ : h₀.get? D = none := fresh₀ _ (Nat.le_refl _)
  have hC₀ : h₀.get? C = none := fresh₀ _ (by omega)
  have hDL : @Ne Nat D L := Ne.symm (hlt L hLD).2
  have hCL : @Ne Nat C L := Ne.symm (hlt L hLD).1
  have hIC : @Ne Nat I C := (hlt I hI).1
  have hID : @Ne Nat I D := (hlt I hI).2
  have offp : ∀ b ∈ [I, ax], (@Ne Nat b C) ∧ (@Ne Nat b D) := fun b hb => by
    rcases List.mem_cons.mp hb with rfl | hb
    · exact ⟨hIC, hID⟩
    · rw [List.mem_singleton.mp hb]; exact hlt _ haD
  have off₀ : LCg.Off3 I C D news := LCg.Off3.of fun p hp => ⟨off p hp, hlt p.1 (by rw [hD]; exact Heap.lt_size (N p hp).1)⟩
  have hst₁ : St 0 h₁ := W.frame _ _ _ hst fun b _ o e => old b o e
  rw [← hD, ← hC]
  have loop : ∀ s₃ : Shared, s₃ = { s₂ with heap := h₁, toks := s₂.toks + ([] : List (Str × Value)).length } →
      codeAny (model prog w) A (.compLoop (.ListComp elt [⟨.Name x px, iter, [], 0⟩] scope pos) 0 (.ref I) (.ref D) (compEnvC scope cl C env)) (RR (.ref D) C) s₃ := by
    rintro s₃ rfl
    refine codeAny_compLoop_tests
      (fun k s' => ∃ h' tk i ys m' news', s' = { s₂ with heap := h', toks := tk } ∧ i ≤ n ∧ k = n + 1 - i ∧ ys.length = i ∧ St i h' ∧ Fr h₀ L h' m ∧ h'.Ns C m' ∧ News h₀ L h' ((D, LCg.lst ys) :: news') ∧
        LCg.Off3 I C D news' ∧ S news' ∧ RestL prog w A h₀ L m env elt x scope cl s₂ S P Fin (n - i) i ys news') ?_ (n + 1)
      ⟨h₁, _, 0, [], _, news, rfl, Nat.zero_le _, rfl, rfl, hst₁, F.keeps old, hns₁, fun p hp => ?_, off₀, hS, R⟩
    · rintro k s' ⟨h', tk, i, ys, m', news', rfl, hi, rfl, hyl, hst', F', hn', N', off', hS', R'⟩
      by_cases hlt2 : i < n
      · obtain ⟨j, hj⟩ : ∃ j, n - i = j + 1 := ⟨n - i - 1, by omega⟩
        rw [hj] at R'
        refine W.item i _ _ _ hlt2 hst' fun v h₂ tk₂ hPv hst₂ hk₂ => ?_
        refine wpAny_assign_Name (wpAny_storeName_local (lookup_relabel_local hx) (hn'.at' fun o e => hk₂ _ o (by simpa using Ne.symm hIC) e) (fun h₃ hn₃ hs₃ => ?_) (by simp [compEnvC, relabel, hkind]))
        refine wpAny_tests_nil ?_
        simp only [if_true]
        have hst₃ : St (i + 1) h₃ := W.frame _ _ _ hst₂ fun b hb o e => hs₃.extBut b o (offp b hb).1 e
        obtain ⟨oI, heI, hcI⟩ := hIo _ _ hst₃
        obtain ⟨oC, heC, hoC⟩ := LCg.ns_obj hn₃
        have F₃ : Fr h₀ L h₃ m := (LCg.fr_but F' hk₂ hIL hI₀).change hs₃ hCL hC₀
        have off3 := off'.mem
        have N₂ : News h₀ L h₂ ((D, LCg.lst ys) :: news') := LCg.news_but N' hk₂ fun p hp => by
          rcases List.mem_cons.mp hp with rfl | hp
          · exact Ne.symm hID
          · exact (off3 p hp).1
        have N₃ : News h₀ L h₃ ((I, oI) :: (C, oC) :: (D, LCg.lst ys) :: news') := fun p hp => by
          rcases List.mem_cons.mp hp with rfl | hp
          · exact ⟨heI, Ne.symm hIL, hI₀⟩
          rcases List.mem_cons.mp hp with rfl | hp
          · exact ⟨heC, hCL, hC₀⟩
          have z := N₂ p hp
          refine ⟨hs₃.extBut _ _ ?_ z.1, z.2⟩
          rcases List.mem_cons.mp hp with rfl | hp
          · exact Ne.symm hCD
          · exact (off3 p hp).2.1
        refine wpAny_mono (R' v I oI C oC D _ h₃ _ _ hPv hcI hoC (by simp) F₃ N₃ off' ⟨hIC, hID, hCD⟩) (fun y s₄ h₄ => ?_) fun _ _ e => e
        obtain ⟨h₄, tk₄, news₄, rfl, F₄, N₄, off₄, hS₄, R₄⟩ := h₄
        have zI := (N₄ (I, oI) (.head _)).1
        have zC := (N₄ (C, oC) (.tail _ (.head _))).1
        have zD := (N₄ (D, LCg.lst ys) (.tail _ (.tail _ (.head _)))).1
        have N₄' : News h₀ L h₄ news₄ := fun p hp => N₄ p (.tail _ (.tail _ (.tail _ hp)))
        have hst₄ : St (i + 1) h₄ := hSt _ _ _ _ _ hst₃ heI zI F₄.keep N₄' hS₄
        refine append_at (hsz := by show ys.toArray.size ≤ sizeLine; rw [List.size_toArray, hyl]; exact Nat.le_trans hi hsz) zD fun h₅ hs₅ hD₅ => ?_
        have off4 := off₄.mem
        refine ⟨n + 1 - (i + 1), by omega, h₅, tk₄, i + 1, ys ++ [y], _, news₄, rfl, hlt2, rfl, by rw [List.length_append, List.length_singleton, hyl], W.frame _ _ _ hst₄ fun b hb o e => hs₅.extBut b o (offp b hb).2 e, F₄.change hs₅ hDL hD₀,
          (hoC.ns zC).sameBut hs₅ hCD, fun p hp => ?_, off₄, hS₄, ?_⟩
        · rcases List.mem_cons.mp hp with rfl | hp
          · exact ⟨hD₅.trans (congrArg some (LCg.lst_snoc ys y)), hDL, hD₀⟩
          · exact ⟨hs₅.extBut _ _ (off4 p hp).2.2 (N₄' p hp).1, (N₄' p hp).2⟩
        · rw [show n - (i + 1) = j by omega]
          exact R₄
      · obtain rfl : i = n := Nat.le_antisymm hi (Nat.not_lt.mp hlt2)
        rw [Nat.sub_self] at R'
        refine W.done _ _ _ hst' fun h₂ tk₂ hk₂ => ?_
        have off3 := off'.mem
        exact hRR _ _ h₂ tk₂ _ ys news' (LCg.fr_but F' hk₂ hIL hI₀) (LCg.news_but N' hk₂ fun p hp => by
          rcases List.mem_cons.mp hp with rfl | hp
          · exact Ne.symm hID
          · exact (off3 p hp).1) off'.one (hn'.at' fun o e => hk₂ _ o (by simpa using Ne.symm hIC) e) hC₀ hD₀ hCL hDL hCD (fun p hp => (off3 p hp).2.1) R'
    · rcases List.mem_cons.mp hp with rfl | hp
      · exact ⟨hacc, hDL, hD₀⟩
      · exact ⟨old _ _ (N p hp).1, (N p hp).2⟩
  exact codeAny_compStart_list (loop _ rfl) (W.self 0 _ _ _ hst₁ (loop _ rfl))
def SrcM (prog : Program) (w : World) (A : Around) (h₀ : Heap) (L : Addr) (m : Str → Option Value) (env : Env) (elt : PySem.Expr) (x : Str) (scope : Scope) (cl : List (Str × Addr)) (Fin : Shared → List Value → List (Addr × Obj) → Prop) (xv : Value) (s₁ : Shared) : Prop :=
  ∃ (ax : Addr) (vs : List Value) (c : Nat) (news : List (Addr × Obj)), xv = .ref ax ∧ A.handled = none ∧ Fr h₀ L s₁.heap m ∧ News h₀ L s₁.heap news ∧ (ax, PySem.W.listOf vs.toArray c) ∈ news ∧ vs.length ≤ 1000 ∧
    ∀ s₂ : Shared, (∃ h, s₂ = { s₁ with heap := h }) → RestL prog w A h₀ L m env elt x scope cl s₂ (LCg.SrcAt h₀ ax vs.toArray) (fun i v => vs[i]? = some v) (Fin s₂) vs.length 0 [] news
theorem Assign_comp_L {elt iter : PySem.Expr} {x y : Str} {px py : Pos} {scope : Scope} {cl : List (Str × Addr)} {pos spos : Pos} {Q : Flow → Shared → Prop} (F₀ : Fr h₀ L s.heap m) (hLe : env.locals = L)
    (hsw : swapsWith (.ListComp elt [⟨.Name x px, iter, [], 0⟩] scope pos) (some (.Name y py)) spos.line env = pure true)
    (hclos : closureFor scope env = pure cl) (hcell : ∀ z ∈ scope.names, z.2 ≠ .cell) (hkind : scope.kind = .function)
    (hnames : ∀ z ∈ scope.names, z.2 = .local → scope.names.lookup z.1 = some .local) (hx : scope.names.lookup x = some .local)
    (hy : env.kindOf y = some .local) (hp : (env.scope.kind == .class || (env.scope.kind == .module && env.locals != env.globals)) = false)
    (h : wpAny (model prog w) A (eval iter env) (SrcM prog w A h₀ L m env elt x scope cl (fun s₂ => LCg.FinA h₀ L m s₂ y Q)) E s)
    (hs : ∀ x, foldedSetIterable iter env x = pure x := by intro _; rfl) :
    wpAny (model prog w) A (exec (.Assign [.Name y py] (.ListComp elt [⟨.Name x px, iter, [], 0⟩] scope pos) spos) env) Q E s := by
  subst hLe
  rw [exec_Assign_Name_used _ _ _ _ hsw]
  refine wpAny_bind (wpAny_standAt (wpAny_bind ?_))
  show wpAny _ A (do let _ ← comprehension (.ListComp elt [⟨.Name x px, iter, [], 0⟩] scope pos) scope env _ (newList []) false (eval iter env) (some (assign (.Name y py) env))) _ _ s
  refine wpAny_bind (wpAny_mono (wpAny_comprehension_free (use := some (assign (.Name y py) env)) (Q := fun _ s' => Q .next s') rfl hs hclos hkind hnames
    (wpAny_mono h (fun xv s₁ h₁ => ?_) fun _ _ e => e)) (fun _ s' hq => wpAny_pure (wpAny_pure hq)) fun _ _ e => e)
  obtain ⟨ax, vs, c, news, rfl, hh, F, N, hm, hsz, R⟩ := h₁
  have S : LCg.SrcAt h₀ ax vs.toArray news := srcAt_mem hm
  have hl := S.list F.keep N
  have hax : ax < s₁.heap.objs.size := Heap.lt_size (N _ hm).1
  have esz : vs.toArray.size = vs.length := List.size_toArray
  refine wpAny_pyIter_list hl ?_
  have up : ∀ b o, s₁.heap.get? b = some o → (s₁.heap.push { cls := .type "list_iterator", data := .fields #[.ref ax, .int 0 0] }).get? b = some o := fun b o e => Heap.get?_push_of_some _ e
  have W := Walks.list (prog := prog) (w := w) hh s₁.heap.objs.size ax (Nat.ne_of_lt hax) vs.toArray
  have e1 : (fun (i : Nat) (v : Value) => vs.toArray[i]? = some v) = (fun i v => vs[i]? = some v) := by funext i v; rw [List.getElem?_toArray]
  rw [esz, e1] at W
  refine block_L W (by rw [sizeLine_eq]; omega) (fun i h st => by obtain ⟨o, e, q, _⟩ := st.1; exact ⟨o, e, q⟩) LCg.list_st hcell hkind hx ⟨⟨_, Heap.get?_push_size _ rfl, rfl, rfl⟩, hl.push _⟩ ?_ ?_
    (F.keeps up) (N.grown up) (Nat.ne_of_lt F.ns.lt) (next_is_new F) (fun p hp => Nat.ne_of_lt (Heap.lt_size (N p hp).1)) S (R _ ⟨_, rfl⟩) ?_
  · show s₁.heap.objs.size < (s₁.heap.push _).objs.size
    rw [Heap.size_push]; exact Nat.lt_succ_self _
  · show ax < (s₁.heap.push _).objs.size
    rw [Heap.size_push]; exact Nat.lt_succ_of_lt hax
  · intro D C h' tk m' ys news' F' N' o1 hn hC₀ hD₀ hCL hDL hCD offC fin
    show wpAny _ A (assign (.Name y py) env (.ref D)) _ _ _
    refine wpAny_assign_Name (wpAny_storeName_local hy F'.ns (fun h₂ hn₂ hs₂ => ?_) hp)
    have hL₀ : h₀.get? env.locals = none := Heap.get?_none_of_le F'.above
    have F₂ : Fr h₀ env.locals h₂ (fun z => if z = y then some (.ref D) else m z) := ⟨hn₂, fun b o e => hs₂.extBut b o (fun q => by rw [q, hL₀] at e; cases e) (F'.keep b o e), F'.above⟩
    refine ⟨m', hn.sameBut hs₂ hCL, fun h'' hs'' => fin D h'' _ (F₂.change hs'' hCL hC₀) (fun p hp => ?_) o1⟩
    have z : h₂.get? p.1 = some p.2 := hs₂.extBut _ _ (N' p hp).2.1 (N' p hp).1
    refine ⟨hs''.extBut _ _ ?_ z, (N' p hp).2⟩
    rcases List.mem_cons.mp hp with rfl | hp
    · exact Ne.symm hCD
    · exact offC p hp
theorem restL_J {elt : PySem.Expr} {x : Str} {scope : Scope} {cl : List (Str × Addr)} {S : List (Addr × Obj) → Prop} {P : Nat → Value → Prop} {Fin : List Value → List (Addr × Obj) → Prop} {news : List (Addr × Obj)} {n : Nat} (J : Nat → List Value → List (Addr × Obj) → Prop) (h0 : J 0 [] news)
    (turn : ∀ i v ys news I oI C oC D m₂ h tk (E' : Value → Shared → Prop), i < n → P i v → J i ys news → oI.cls = ItC → LCg.NsObj oC m₂ → m₂ x = some v → Fr h₀ L h m → News h₀ L h ((I, oI) :: (C, oC) :: (D, LCg.lst ys) :: news) → LCg.Off3 I C D news → ((@Ne Nat I C) ∧ (@Ne Nat I D) ∧ (@Ne Nat C D)) →
      wpAny (model prog w) A (eval elt (compEnvC scope cl C env)) (LCg.CompEnd h₀ L m { s with heap := h, toks := tk } I oI C oC D (LCg.lst ys) S (fun y news' => J (i + 1) (ys ++ [y]) news')) E' { s with heap := h, toks := tk })
    (fin : ∀ ys news, J n ys news → Fin ys news) : RestL prog w A h₀ L m env elt x scope cl s S P Fin n 0 [] news := by
  have key : ∀ (j i : Nat) (ys : List Value) (news : List (Addr × Obj)), i + j = n → J i ys news → RestL prog w A h₀ L m env elt x scope cl s S P Fin j i ys news := by
    intro j
    induction j with
    | zero =>
      intro i ys news hi hJ
      have e : i = n := by omega
      subst e
      exact fin ys news hJ
    | succ j ih =>
      intro i ys news hi hJ v I oI C oC D m₂ h tk E' hv hcI hC hx F N off ne
      refine wpAny_mono (turn i v ys news I oI C oC D m₂ h tk E' (by omega) hv hJ hcI hC hx F N off ne) (fun y s₂ hq => ?_) fun _ _ e => e
      obtain ⟨h', tk', nw, e, F', N', off', hS, hJ'⟩ := hq
      exact ⟨h', tk', nw, e, F', N', off', hS, ih (i + 1) _ _ (by omega) hJ'⟩
  exact key n 0 [] news (by omega) h0
end
/-! # BdJ -/
section
variable {w : World} {T T' : Tr} {news news' : List (Addr × Obj)} {cnt c' : Nat → Nat} {h₀ h : Heap} {L : Addr}
theorem Node.tox {u : Nat} (n : Node w T news cnt u) (ka : ∀ p ∈ news, (p.1 = T.sa u ∨ p.1 = T.da u ∨ p.1 = T.qa u) → p ∈ news') (kt : ∀ t l u c n, (t, tupO l u c n) ∈ news → (t, tupO l u c n) ∈ news') : Node w T news' cnt u := by
  obtain ⟨h1, ⟨k1, k2, k3, k4, k5, k6, k7, k8, j1, j2, j7, j8, b3, b4, lw, h2⟩, qs, n, h3, h4⟩ := n
  exact ⟨ka _ h1 (.inl rfl), ⟨k1, k2, k3, k4, k5, k6, k7, k8, j1, j2, j7, j8, b3, b4, lw, ka _ h2 (.inr (.inl rfl))⟩, qs, n, ka _ h3 (.inr (.inr rfl)),
    ⟨h4.all, h4.srt, fun q hq => let ⟨u, n, hm⟩ := h4.tup q hq; ⟨u, n, kt _ _ _ _ _ hm⟩, h4.len⟩⟩
theorem Node.three {I C D u : Nat} {oI oC : Obj} {ys : List Value} {m : Str → Option Value} (N : News h₀ L h news) (hI : (I, oI) ∈ news) (cI : oI.cls = ItC) (hC : (C, oC) ∈ news) (nC : LCg.NsObj oC m) (hD : (D, LCg.lst ys) ∈ news)
    (o1 : @Ne Nat (T.sa u) I ∧ @Ne Nat (T.sa u) C ∧ @Ne Nat (T.sa u) D) (o2 : @Ne Nat (T.da u) I ∧ @Ne Nat (T.da u) C ∧ @Ne Nat (T.da u) D) (o3 : @Ne Nat (T.qa u) I ∧ @Ne Nat (T.qa u) C ∧ @Ne Nat (T.qa u) D)
    (n : Node w T news cnt u) : Node w T (news.filter fun q => decide (@Ne Nat q.1 I ∧ @Ne Nat q.1 C ∧ @Ne Nat q.1 D)) cnt u := by
  refine n.tox (fun p hp e => List.mem_filter.mpr ⟨hp, decide_eq_true ?_⟩) (fun t l u c n hm => List.mem_filter.mpr ⟨hm, decide_eq_true ⟨fun e => ?_, fun e => ?_, fun e => ?_⟩⟩)
  · rcases e with e | e | e
    · rw [e]; exact o1
    · rw [e]; exact o2
    · rw [e]; exact o3
  · have e1 : t = I := e
    subst e1
    have := news_fun N hm hI
    rw [← this] at cI
    exact absurd (show Value.type "tuple" = Value.type "list_iterator" from cI) (by decide)
  · have e1 : t = C := e
    subst e1
    obtain ⟨es, ep, hd, _⟩ := nC
    rw [← news_fun N hm hC] at hd
    cases hd
  · have e1 : t = D := e
    subst e1
    have := congrArg Obj.cls (news_fun N hm hD)
    exact absurd (show Value.type "tuple" = Value.type "list" from this) (by decide)
theorem Node.other {v : Nat} (N : News h₀ L h news) (hN : ∀ u, u ≤ T.many → Node w T news cnt u) (n : Node w T' news c' v)
    (f1 : ∀ u, u ≤ T.many → @Ne Nat (T'.sa v) (T.da u) ∧ @Ne Nat (T'.sa v) (T.qa u)) (f2 : ∀ u, u ≤ T.many → @Ne Nat (T'.da v) (T.da u) ∧ @Ne Nat (T'.da v) (T.qa u)) (f3 : ∀ u, u ≤ T.many → @Ne Nat (T'.qa v) (T.da u) ∧ @Ne Nat (T'.qa v) (T.qa u))
    (keep : ∀ q ∈ news, (∀ u, u ≤ T.many → @Ne Nat q.1 (T.da u) ∧ @Ne Nat q.1 (T.qa u)) → q ∈ news') : Node w T' news' c' v := by
  refine n.tox (fun p hp e => keep p hp fun u hu => ?_) (fun t l u c n hm => keep _ hm fun u hu => ?_)
  · rcases e with e | e | e
    · rw [e]; exact f1 u hu
    · rw [e]; exact f2 u hu
    · rw [e]; exact f3 u hu
  · exact off_kind N (hN u hu) hm (.inl rfl)
end
section
variable {w : World} {p : Program} {loose : List Str} {mean : ExcName → Option Value} {mg mb : Str → Option Value}
    {dp un : Nat} {gd : Option (List Code)} {cn : Str} {cs : Scope} {a : Addr} {ccd : Value} {cl : List (Str × Addr)} {outer : List Env} {A₀ : Around} {base h₀ : Heap} {L : Addr} {m : Str → Option Value} {s : Shared}
    {Q E : Value → Shared → Prop}
theorem sched_tree {T : Tr} {news : List (Addr × Obj)} {cnt : Nat → Nat} {v : Nat} (hW : T.WF) (hv : v ≤ T.many) (hl : T.lf v = false) (hm : T.many ≤ 6)
    (B : Below A₀ base outer h₀) (F : Fr h₀ L s.heap m) (X : (hd.heap_1 w.params).In h₀) (N : News h₀ L s.heap news) (Tp : Top p loose mean mg mb h₀) (hk : cs.kind = .function) (hdp : dp + 60 < 1000) (hun : un + 500 < 9900)
    (hN : ∀ u, u ≤ T.many → Node w T news cnt u)
    (ret : ∀ r j h' tk' news' cnt', Sch T v cnt r cnt' → Fr h₀ L h' m → News h₀ L h' news' → (∀ u, u ≤ T.many → Node w T news' cnt' u) → (∀ q ∈ news, (∀ u, u ≤ T.many → @Ne Nat q.1 (T.da u) ∧ @Ne Nat q.1 (T.qa u)) → q ∈ news') → Q (.int r j) { s with heap := h', toks := tk' }) :
    wpAny (model PR w) (ktrTop dp un gd cn cs L a ccd cl outer) (call (.ref 128) [.ref (T.sa v)]) Q E s := by
  refine sched_all hW (T.many + 1) v hv (by omega) hl dp un gd cn cs a ccd cl outer A₀ base h₀ L m s Q E news cnt B F X Tp hk (by omega) (by omega) N (fun u _ h2 => hN u h2) (fun r j h' tk' news' cnt' hs F' N' hN' keep => ret r j h' tk' news' cnt' hs F' N' (fun u hu => ?_) (fun q hq hf => keep q hq fun u _ h2 => hf u h2))
  rcases Nat.lt_or_ge u v with h1 | h1
  · have hup : ∀ x, 1 ≤ x → x ≤ T.many → T.par x < x := fun x h1 h2 => hW.up x h1 h2
    refine ((hN u hu).to (fun q hq hc => keep q hq fun u' h2 h3 => ?_)).congr (hs.same hW fun a b => by have := hup u a b; omega) (fun x hx => hs.same hW fun _ _ => by rw [hx.2.2]; exact h1)
    rcases hc with c | c | c | c
    · exact off_kind N (hN u' h3) hq (.inl c)
    · exact off_kind N (hN u' h3) hq (.inr c)
    · rw [c]
      exact ⟨fun e => by have := hW.daI u u' hu h3 e; omega, off_dq N (hN u hu) (hN u' h3)⟩
    · rw [c]
      exact ⟨fun e => off_dq N (hN u' h3) (hN u hu) e.symm, fun e => by have := hW.qaI u u' hu h3 e; omega⟩
  · exact hN' u h1 hu
end
/-! # BdK -/
section
variable {w : World} {T T' : Tr} {news news' : List (Addr × Obj)} {cnt c' : Nat → Nat} {h₀ h : Heap} {L : Addr}
theorem tree_list_ne {n D u : Nat} {x : Addr} (N : News h₀ L h news) (hn : 1 ≤ n) (hT : (D, LCg.lst ((List.range n).map fun v => Value.ref (T'.sa v))) ∈ news) (i0 : (T'.sa 0, instObj 180 x) ∈ news) (nu : Node w T news cnt u) : @Ne Nat D (T.da u) ∧ @Ne Nat D (T.qa u) := by
  obtain ⟨h1, ⟨k1, k2, k3, k4, k5, k6, k7, k8, j1, j2, j7, j8, b3, b4, lw, h2⟩, qs, n2, h3, h4⟩ := nu
  refine ⟨news_ne N hT h2 (show Value.type "list" ≠ Value.type "dict" from cls_ld), fun e => ?_⟩
  subst e
  have e1 := news_fun N hT h3
  have e2 : ((List.range n).map fun v => Value.ref (T'.sa v)) = (qs.map (·.2)).map Value.ref := by
    have := congrArg Obj.data e1
    injection this with a b
    exact Array.toList_inj.mpr a
  obtain ⟨k, rfl⟩ : ∃ k, n = k + 1 := ⟨n - 1, by omega⟩
  rw [List.range_succ_eq_map, List.map_cons] at e2
  cases qs with
  | nil => cases e2
  | cons q qs =>
    rw [List.map_cons, List.map_cons] at e2
    injection e2 with e3 e4
    injection e3 with e5
    obtain ⟨uu, nn, hm⟩ := h4.tup q (.head _)
    rw [← e5] at hm
    have := congrArg Obj.cls (news_fun N hm i0)
    have e6 : Value.type "tuple" = Value.ref 180 := this
    cases e6
theorem Node.offI {I u : Nat} {o : Obj} (N : News h₀ L h news) (hI : (I, o) ∈ news) (ho : o.cls = .type "range_iterator") (n : Node w T news cnt u) : Node w T (news.filter fun q => decide (@Ne Nat q.1 I)) cnt u := by
  have c1 : ∀ x : Value, x = .type "tuple" → x ≠ o.cls := fun x e => by rw [e, ho]; decide
  have c2 : ∀ x : Value, x = .ref 180 → x ≠ o.cls := fun x e => by rw [e, ho]; intro e; cases e
  have c3 : ∀ x : Value, x = .type "dict" → x ≠ o.cls := fun x e => by rw [e, ho]; decide
  have c4 : ∀ x : Value, x = .type "list" → x ≠ o.cls := fun x e => by rw [e, ho]; decide
  obtain ⟨h1, ⟨k1, k2, k3, k4, k5, k6, k7, k8, j1, j2, j7, j8, b3, b4, lw, h2⟩, qs, n, h3, h4⟩ := n
  exact ⟨mem_offK N hI h1 (c2 _ rfl), ⟨k1, k2, k3, k4, k5, k6, k7, k8, j1, j2, j7, j8, b3, b4, lw, mem_offK N hI h2 (c3 _ rfl)⟩, qs, n, mem_offK N hI h3 (c4 _ rfl), h4.mono fun p hp hc => mem_offK N hI hp (c1 _ hc)⟩
end
theorem headN_mem {as : List Int} {M i c : Nat} (h : c ∈ headN as M i) : c < i ∧ ¬ kidI as M c = [] := by
  unfold headN at h
  obtain ⟨h1, h2⟩ := List.mem_filter.mp h
  exact ⟨List.mem_range.mp h1, of_decide_eq_true h2⟩
def Fre (M : Nat) (da qa : Nat → Addr) (a : Nat) : Prop := ∀ u, u ≤ M → @Ne Nat a (da u) ∧ @Ne Nat a (qa u)
/-! # the law -/
theorem kc_nine {cm : Str → Option Value} {n₁ n₂ n₃ n₄ n₅ n₆ n₇ n₈ n₉ : Str} {c₁ c₂ c₃ c₄ c₅ c₆ c₇ c₈ c₉ : Addr} {cells : List (Addr × Obj)} (x : CellsAre cm [(n₁, c₁), (n₂, c₂), (n₃, c₃), (n₄, c₄), (n₅, c₅), (n₆, c₆), (n₇, c₇), (n₈, c₈), (n₉, c₉)] cells) :
    ∃ o₁ o₂ o₃ o₄ o₅ o₆ o₇ o₈ o₉, cells = [(c₁, o₁), (c₂, o₂), (c₃, o₃), (c₄, o₄), (c₅, o₅), (c₆, o₆), (c₇, o₇), (c₈, o₈), (c₉, o₉)] ∧ o₁.data = .cell (cm n₁) ∧ o₂.data = .cell (cm n₂) ∧ o₃.data = .cell (cm n₃) ∧ o₄.data = .cell (cm n₄) ∧ o₅.data = .cell (cm n₅) ∧ o₆.data = .cell (cm n₆) ∧ o₇.data = .cell (cm n₇) ∧ o₈.data = .cell (cm n₈) ∧ o₉.data = .cell (cm n₉) := by
  cases x with | cons h r => obtain ⟨o₂, o₃, o₄, o₅, o₆, o₇, o₈, o₉, rfl, h₂, h₃, h₄, h₅, h₆, h₇, h₈, h₉⟩ := kc_eight r; exact ⟨_, o₂, o₃, o₄, o₅, o₆, o₇, o₈, o₉, rfl, h, h₂, h₃, h₄, h₅, h₆, h₇, h₈, h₉⟩
theorem fillLaw : (hd.heap_1 = hd.heap_1) ∧ (Challenge.rw_bd0030_01 = Challenge.rw_bd0030_01) := by w_top off; k_with_none; k_fill; exact ⟨rfl, rfl⟩
local macro_rules | `(tactic| cells_open $x:ident) => `(tactic| (obtain ⟨o1, o2, o3, o4, o5, o6, o7, o8, o9, he, dc1, dc2, dc3, dc4, dc5, dc6, dc7, dc8, dc9⟩ := Mine.kc_nine $x; subst he))
noncomputable def st1 : { P : Prop // Hid P → PySem.Challenge.rw_bd0030_01.Holds } := ⟨_, fun hP9 => by
  w_top off
  show PySem.Challenge.rw_bd0030_01.Holds
  apply Mine.head
  delta hd
  dsimp only
  k_fill
  intro w s₀ s₁ mg mb G Y fa o pm cd doc dV kV ho hd hcd hD hmg hg args vals as hpre hlay hrd hwl hlo
  have KX := kIn_of Y
  have V := (Ground.X G).2
  refine Ground.open G ?_
  intro T B D TE TW
  try (refine guard_noD D (by decide +kernel) ?_; clear D)
  have TA := at_of_top T
  (obtain ⟨_, _, he, B0⟩ := based_of_top T rfl hmg ho hd; have he' : cd = _ := he; subst he'; clear he)
  clear hmg
  wrow_args hpre hlay hrd hwl hlo
  refine enter_call ?_
  w_top on
  try refine codeAny_mono ?_ (fun _ _ g => GoodW.toG g)
  have K0 := below_caller (Top.heap T)
  w_call any ho hd hcd hD T F
  clear hd TA
  k_drop
  all_goals try k_fold
  rename World => w
  rename IntsAre _ _ => hI
  rename Heap.IsList _ _ _ => hL
  rename Fr _ _ _ _ => F
  rename News _ _ _ _ => N
  rename Top _ _ _ _ _ _ => T
  rename Below _ _ _ _ => K0
  rename (hd.heap_1 _).In _ => KX
  rename Heap => h1
  rename Shared => s1
  rename ¬ _ < _ => hcond
  refine wpAny_mono (Q := Hold fun f s' => f = Flow.ret (.bool true) ∧ ∃ h' tk' m', s' = { s1 with heap := h', toks := tk' } ∧ Fr s1.heap s1.heap.objs.size h' m') (E := fun _ _ => False) ?bodyC ?qC ?eC
  case eC => exact fun _ _ h => h.elim
  case qC =>
    rintro f s' ⟨rfl, h', tk', m', rfl, F'⟩
    clear F N
    k_steps
    all_goals w_report
  clear_value qk ek
  rename Ground _ _ _ _ _ _ _ _ _ => G
  rename Tables _ _ _ _ => Bt
  rename LooseAre _ _ _ => V
  rename TopE _ _ _ _ => TE
  rename TopW _ _ _ => TW
  rename CellsAre _ _ _ => X0
  rename Reads _ _ _ _ => r0
  rename ReadsAll _ _ _ _ => ra
  rename Well _ _ _ _ => w1
  rename Dflts _ _ _ _ _ _ => hD
  first | rename Heap.CodeRec _ _ _ => hcd | rename Heap.CodeRec _ _ _ _ => hcd | rename Heap.CodeRec _ _ _ _ _ => hcd
  rename Heap.IsList s1.heap _ _ => hL
  rename IntsAre _ _ => hI
  rename List Value => sv
  rename List Int => script
  rename_i sl las hr9 hc9 tk1 o1 o2 o3 o4 o5 o6 o7 o8 o9 dc1 dc2 dc3 dc4 dc5 dc6 dc7 dc8 dc9
  (first | (replace dc1 : o1.data = .cell none := by with_unfolding_all exact dc1) | (replace dc1 : o1.data = .cell (some (.ref sl)) := by with_unfolding_all exact dc1))
  (first | (replace dc2 : o2.data = .cell none := by with_unfolding_all exact dc2) | (replace dc2 : o2.data = .cell (some (.ref sl)) := by with_unfolding_all exact dc2))
  (first | (replace dc3 : o3.data = .cell none := by with_unfolding_all exact dc3) | (replace dc3 : o3.data = .cell (some (.ref sl)) := by with_unfolding_all exact dc3))
  (first | (replace dc4 : o4.data = .cell none := by with_unfolding_all exact dc4) | (replace dc4 : o4.data = .cell (some (.ref sl)) := by with_unfolding_all exact dc4))
  (first | (replace dc5 : o5.data = .cell none := by with_unfolding_all exact dc5) | (replace dc5 : o5.data = .cell (some (.ref sl)) := by with_unfolding_all exact dc5))
  (first | (replace dc6 : o6.data = .cell none := by with_unfolding_all exact dc6) | (replace dc6 : o6.data = .cell (some (.ref sl)) := by with_unfolding_all exact dc6))
  (first | (replace dc7 : o7.data = .cell none := by with_unfolding_all exact dc7) | (replace dc7 : o7.data = .cell (some (.ref sl)) := by with_unfolding_all exact dc7))
  (first | (replace dc8 : o8.data = .cell none := by with_unfolding_all exact dc8) | (replace dc8 : o8.data = .cell (some (.ref sl)) := by with_unfolding_all exact dc8))
  (first | (replace dc9 : o9.data = .cell none := by with_unfolding_all exact dc9) | (replace dc9 : o9.data = .cell (some (.ref sl)) := by with_unfolding_all exact dc9))
  clear hr9 hc9
  clear r0 ra w1
  clear G Bt V TE TW X0 hD hcd
  rename_i u1 u2 u3 u4 u5 u6 u7 u8 u9
  revert w s₀ s1 mg mb Y fa o pm doc ho hg KX T u1 u2 script u3 u4 u5 u6 u7 u8 u9 sl sv las hL hI hcond K0 h1 tk1 F o1 o2 o3 o4 o5 o6 o7 o8 o9 N qk ek dc1 dc2 dc3 dc4 dc5 dc6 dc7 dc8 dc9
  exact hP9.out⟩
local macro_rules | `(tactic| k_ne) => `(tactic| first | assumption | omega | exact OffC.ne (by assumption) (by omega) (by omega))
local macro_rules | `(tactic| k_all) => `(tactic| first | exact List.forall_mem_nil _ | (refine' List.forall_mem_cons.mpr ⟨?a, ?b⟩; (case a => k_ne); (case b => k_all)) | assumption | exact OffR.ne (by assumption) (by omega) (by omega))
theorem kwLaw : True := by
  k_with_none
  k_with "execs cons" => (k_here; (with_reducible refine wpAny_execs_cons ?_); refine gen_Q fun Q9 hQ9 => ?_)
  k_with "eval Name" => (k_here; k_dflt (refine' nameX_L (by k_asm) (by first | assumption | with_unfolding_all assumption) ?_ (by rfl) (by rfl); k_whole))
  k_with "loadName" => (k_here; k_dflt (refine' ldn (by k_asm) (by first | assumption | with_unfolding_all assumption) ?_ (by rfl) (by rfl); k_whole))
  k_with "exec For Name Call cons nil" => (k_here; (rename Fr _ _ _ _ => lF9); (with_unfolding_all refine' For_turns lF9 ?_; k_whole); (revert lF9; intro _))
  k_with "exec For Name Name cons nil" => (k_here; (rename Fr _ _ _ _ => lF9); (with_unfolding_all refine' For_turns lF9 ?_; k_whole); (revert lF9; intro _))
  k_with "pyIter ref" => ((with_reducible show wpAny _ _ (pyIter (Value.ref _)) (fun it s₂ => TurnsAt _ _ _ _ _ _ _ _ _ it s₂) _ _); refine stop2 ?_)
  k_with "subscriptTail" => (k_here; (with_reducible show wpAny _ _ (subscriptTail _ _ (Value.ref _) (Value.int _ _)) _ _ _); (with_unfolding_all refine' my_item (by k_asm) (by k_mem) (by omega) (by omega) (by assumption) ?_ (by with_unfolding_all rfl); k_whole))
  k_with "subscriptTail" => (k_here; (with_reducible show wpAny _ _ (subscriptTail _ _ (Value.ref _) (Value.int _ _)) _ _ _); (with_unfolding_all refine' int_itemK (by k_asm) (by k_mem) (by assumption) (by omega) (by omega) (by omega) ?_ (by with_unfolding_all rfl); k_whole); intro _)
  k_with "subscriptTail" => (k_here; (with_reducible show wpAny _ _ (subscriptTail _ _ (Value.ref _) (Value.int _ _)) _ _ _); (with_unfolding_all refine' int_item (by k_asm) (by k_mem) (by assumption) (by exact rfl) (by omega) (by omega) ?_ (by with_unfolding_all rfl); k_whole); intro _)
  k_with "CompSrc" => (refine stop2 ?_)
  k_with "eval Name" => (k_here; (with_reducible show wpAny _ _ (eval (Expr.Name _ _) (compEnvC _ _ _ _)) _ _ _); k_dflt (first | (refine' LCgL.ld_own (by k_asm) (by k_mem) (by assumption) (by assumption) ?_ (by exact rfl) (by exact rfl)) | (refine' kcf_cell (by k_asm) (by exact rfl) (by k_mem) (by k_asm) ?_ (by exact rfl) (by exact rfl)) | (refine' LCgL.ld_global (by k_asm) (by k_asm) (by k_asm) (by k_is) ?_) | (refine' LCgL.ld_built (by k_asm) (by k_asm) (by k_asm) (by k_is) (by boot_by_name) (by decide) ?_)))
  k_with "call builtin:len" => (k_here; (with_reducible show wpAny _ _ (call (Value.builtin "len") [Value.ref _]) _ _ _); k_dflt (refine' kst_len (by k_asm) (by k_mem) (by exact IntsAre.length (by assumption)) (by omega) ?_; k_whole))
  k_with "call builtin:len" => (k_here; (with_reducible show wpAny _ _ (call (Value.builtin "len") [Value.ref _]) _ _ _); k_dflt (refine' len0 (by k_asm) (by with_reducible assumption) (by assumption) (by exact rfl) (by omega) ?_; k_whole))
  k_with "subscriptTail" => (k_here; (with_reducible show wpAny _ _ (subscriptTail _ _ (Value.ref _) (Value.int _ _)) _ _ _); (with_unfolding_all refine' item0 (by k_asm) (by with_reducible assumption) (by assumption) (by exact rfl) (by omega) (by omega) ?_ (by with_unfolding_all rfl); k_whole); intro _)
  k_with "binaryOp Add ref ref" => (k_here; (with_reducible show wpAny _ _ (binaryOp _ (Value.ref _) (Value.ref _)) _ _ _); k_dflt ((refine' my_add (by k_asm) (by k_asm) (by k_mem) (by k_mem) (by assumption) (by (simp only [List.length_map, List.length_range]; omega)) ?_)); intro _ _ _ _ _ _ l9q _; (try k_lt l9q); (try (revert l9q; intro _)))
  k_with "compareOp NotEq ref ref" => (k_here; (with_reducible show wpAny _ _ (compareOp CmpOp.NotEq (Value.ref _) (Value.ref _)) _ _ _); k_dflt (refine' my_ne (by k_asm) (by k_mem) (by k_mem) (by assumption) (by k_units) (by assumption) ?_; k_whole))
  k_with "compareOp Eq ref ref" => (k_here; (with_reducible show wpAny _ _ (compareOp CmpOp.Eq (Value.ref _) (Value.ref _)) _ _ _); k_dflt (refine' my_eq (by k_asm) (by k_mem) (by k_mem) (by assumption) (by k_units) (by assumption) ?_; k_whole))
  k_with "eval ListComp" => (refine stop2 ?_)
  k_with "SrcC" => (refine stop2 ?_)
  k_with "CompSrcT" => (refine stop2 ?_)
  k_with "exec Assign cons ListComp" => (refine stop2 ?_)
  k_with "subscriptTail" => (k_here; (with_reducible show wpAny _ _ (subscriptTail _ _ (Value.ref _) (Value.int _ _)) _ _ _); (refine' my_item (by k_asm) (by k_mem) (by omega) (by omega) (by with_reducible assumption) ?_ (by with_unfolding_all rfl); k_whole))
  k_with "subscriptTail Name Name ref int" => (k_here; (with_reducible show wpAny _ _ (subscriptTail _ _ (Value.ref _) (Value.int _ _)) _ _ _); (refine' my_item (by k_asm) (by k_mem) (by omega) (by omega) (by with_reducible assumption) ?_ (by with_unfolding_all rfl); k_whole))
  k_with "subscriptTail Subscript Name Name Name ref int" => (k_here; (with_reducible show wpAny _ _ (subscriptTail _ _ (Value.ref _) (Value.int _ _)) _ _ _); (refine' my_item (by k_asm) (by k_mem) (by omega) (by omega) (by with_reducible assumption) ?_ (by with_unfolding_all rfl); k_whole))
  k_with "subscriptTail Name Slice ref ref" => (k_here; (with_reducible show wpAny _ _ (subscriptTail _ _ (Value.ref _) (Value.ref _)) _ _ _); k_dflt (refine' my_slice (by k_asm) (by k_asm) (by with_reducible assumption) (by assumption) (by omega) (by omega) (by omega) ?_ (by with_unfolding_all rfl) (by kmk_pure)); intro _ _ _ _ _ _ l9q _ _; (try k_lt l9q); (try (revert l9q; intro _)))
  k_with "subscriptTail Name BinOp ref int" => (k_here; (with_reducible show wpAny _ _ (subscriptTail _ _ (Value.ref _) (Value.int _ _)) _ _ _); (with_unfolding_all refine' int_itemK (by k_asm) (by k_mem) (by assumption) (by omega) (by omega) (by omega) ?_ (by with_unfolding_all rfl); k_whole); intro _)
  k_with "binaryOp Add ref ref" => (k_here; (with_reducible show wpAny _ _ (binaryOp _ (Value.ref _) (Value.ref _)) _ _ _); k_dflt ((refine' my_add2 (by k_asm) (by k_asm) (by k_mem) (by k_mem) (by exact .cons _ _ (.cons _ _ (.cons _ _ (.cons _ _ .nil)))) (by assumption) (by (simp only [List.length_cons, List.length_nil]; omega)) ?_)); intro _ _ _ _ _ _ l9q _; (try k_lt l9q); (try (revert l9q; intro _)))
  k_with "call builtin:sorted" => (k_here; (with_reducible show wpAny _ _ (call (Value.builtin _) [Value.ref _]) _ _ _); k_dflt (refine' my_sorted (by k_asm) (by k_asm) (by k_mem) (by assumption) (by assumption) ?_); intro _ _ _ _ _ _ _ l9q _ _; (try k_lt l9q); (try (revert l9q; intro _)))
  k_with "call ref" => (k_here; k_dflt (first | (show wpAny _ _ (call (Value.ref 189) _) _ _ _) | (show wpAny _ _ (call (Value.ref 196) _) _ _ _) | (show wpAny _ _ (call (Value.ref 128) _) _ _ _)); refine stop2 ?_)
  k_with "call builtin:list.count" => (k_here; (with_reducible show wpAny _ _ (call (Value.builtin _) [Value.ref _, Value.int _ _]) _ _ _); k_dflt (refine' my_count (by k_asm) (by k_mem) (by assumption) ?_; k_whole))
  k_with "exec If" => (refine stop2 ?_)
  k_with "exec Assign" => ((with_reducible show wpAny _ _ (exec (Stmt.Assign [PySem.Expr.Subscript _ _ _] (PySem.Expr.Subscript _ _ _) _) _) _ _ _); refine stop2 ?_)
  k_with "subscriptTail Name Constant ref int" => (k_here; (with_reducible show wpAny _ _ (subscriptTail _ _ (Value.ref _) (Value.int _ _)) _ _ _); (refine' my_item (by k_asm) (by k_mem) (by omega) (by omega) (by with_reducible assumption) ?_ (by with_unfolding_all rfl); k_whole))
  k_with "getMethod ref" => (k_here; (with_reducible show wpAny _ _ (getMethod (Value.ref _) (PySem.Str.ofString "count") _) _ _ _); k_dflt (refine' listMethod_K (by k_asm) (by k_mem) PySem.F.slot_list_count PySem.F.type_list_count ?_))
  k_with "subscriptTail Subscript Name Constant Constant ref int" => (k_here; (with_reducible show wpAny _ _ (subscriptTail _ _ (Value.ref _) (Value.int _ _)) _ _ _); (refine' my_item (by k_asm) (by k_mem) (by omega) (by omega) (by with_reducible assumption) ?_ (by with_unfolding_all rfl); k_whole))
  trivial
noncomputable def st2 : { P : Prop // Hid P → st1.val } := ⟨_, fun hP9 => by
  w_top off
  intro w s₀ s1 mg mb Y fa o pm doc ho hg KX T _ _ script _ _ _ _ _ _ _ sl sv las hL hI hcond K0 h1 tk1 F o1 o2 o3 o4 o5 o6 o7 o8 o9 N qk ek dc1 dc2 dc3 dc4 dc5 dc6 dc7 dc8 dc9
  try k_fold
  k_steps
  unfold Stop2
  refine wpAny_Assign_Name ?_
  refine LCg.ListComp_U (F₀ := by k_asm) (by with_unfolding_all rfl) (by decide) (by rfl) (by decide) (by rfl) ?_
  k_steps
  unfold Stop2
  rename_i u1 u2 u3 u4 u5 u6 u7 u8 u9 u10 u11 u12 u13 u14 u15 u16 u17 u18 u19 u20
  revert w s₀ s1 mg mb Y fa o pm doc ho hg KX T u1 u2 script u3 u4 u5 u6 u7 u8 u9 sl sv las hL hI hcond K0 h1 tk1 u10 o1 o2 o3 o4 o5 o6 o7 o8 o9 u11 qk ek dc1 dc2 dc3 dc4 dc5 dc6 dc7 dc8 dc9 Q9 hQ9 u12 u13 u14 u15 u16 u17 u18 u19 u20
  exact hP9.out⟩
noncomputable def st3 : { P : Prop // Hid P → st2.val } := ⟨_, fun hP9 => by
  w_top off
  intro w s₀ s1 mg mb Y fa o pm doc ho hg KX T _ _ script _ _ _ _ _ _ _ sl sv las hL hI hcond K0 h1 tk1 _ o1 o2 o3 o4 o5 o6 o7 o8 o9 _ qk ek dc1 dc2 dc3 dc4 dc5 dc6 dc7 dc8 dc9 Q9 hQ9 _ _ _ _ _ _ _ _ _
  rename Fr _ _ _ _ => F1; rename News _ _ _ _ => N1
  rename IsRange _ _ _ _ _ _ _ _ => R1
  refine my_src (n9 := 14) (by rfl) F1 N1 R1 (my_small (by omega) (by omega) (by omega) (by omega)) (by rfl) (by rw [sizeLine_eq]; omega) ?_
  intro g2
  have ⟨base, hbase⟩ : ∃ b, News _ _ _ b ∧ b = _ := ⟨_, N1, rfl⟩
  refine comp_rest_J (fun i ys l => l = base ∧ ∃ ns : List Int, ns.length = i ∧ IntsAre ys ns) ⟨hbase.2.symm, [], rfl, .nil⟩ ?_ ?_
  · rintro i v ys l I oI C oC D m₂ h tk E' hi ⟨t, rfl⟩ ⟨rfl, ns, hl, hns⟩ hC hx F2 N2 off ne
    simp only [Int.zero_add] at hx
    clear F1 N1 R1
    rw [hbase.2] at N2
    k_steps
    all_goals (rename Fr _ _ _ _ => F3; rename News _ _ _ _ => N3)
    all_goals (refine LCg.CompEnd.intro F3 N3 l (fun p hp => ?_) off trivial ⟨rfl, ?_⟩; (· rw [hbase.2] at hp; exact hp))
    · exact ⟨ns ++ [_], by simp [hl], hns.append (.cons _ _ .nil)⟩
    · exact ⟨ns ++ [_], by simp [hl], hns.append (.cons _ _ .nil)⟩
  rintro ys l ⟨rfl, numbers, hnl, hnI⟩ D h tk F2 N2 o1
  rw [hbase.2] at N2 o1
  clear F1 N1 R1
  have hD := offC9 (L := s1.heap.objs.size) o1 (by k_mem) (by k_mem) (by k_mem) (by k_mem) (by k_mem) (by k_mem) (by k_mem) (by k_mem) (by k_mem)
  clear o1 hbase
  k_steps
  unfold Stop2
  refine LCg.ListComp_U (F₀ := by k_asm) (by with_unfolding_all rfl) (by decide) (by rfl) (by decide) (by rfl) ?_
  k_steps
  unfold Stop2
  rename _ = Data.cell (some (Value.int _ _)) => dm
  rename _ = Data.cell (some (Value.ref D)) => dn
  rename IsRange _ _ _ _ _ _ _ _ => R1; rename News _ _ _ _ => N1; rename Fr _ _ _ _ => F1
  obtain ⟨M, hM1, hM6, hMe⟩ := fm6 (numbers.getD (Int.toNat 0) 0 + 2)
  rw [hMe] at R1 dm
  replace dm := (⟨_, dm⟩ : ∃ t, _ = Data.cell (some (Value.int (M : Int) t)))
  obtain ⟨tM, dm⟩ := dm
  rename_i u1 u2 u3 u4 u5 u6 u7 u8 u9 u10 u11 u12 u13 u14 u15 u16 u17 u18 u19 u20 u21 u22 u23 u24 u25 u26 u27 u28 u29 u30 u31
  revert w s₀ s1 mg mb Y fa o pm doc ho hg KX T u1 u2 script u3 u4 u5 u6 u7 u8 u9 sl sv las hL hI hcond K0 h1 tk1 o1 o2 o3 o4 o5 o6 o7 o8 o9 qk ek dc1 dc2 dc3 dc4 dc5 dc6 dc7 dc8 dc9 u10 u11 u12 u13 u14 u15 g2 ys l numbers hnl hnI D h tk hD u16 u17 dn u18 u19 u20 Q9 hQ9 u21 u22 u23 u24 u25 u26 u27 u28 u29 u30 F1 N1 u31 M R1 hM1 hM6 hMe tM dm
  exact hP9.out⟩
noncomputable def st4 : { P : Prop // Hid P → st3.val } := ⟨_, fun hP9 => by
  w_top off
  intro w s₀ s1 mg mb Y fa o pm doc ho hg KX T _ _ script _ _ _ _ _ _ _ sl sv las hL hI hcond K0 h1 tk1 o1 o2 o3 o4 o5 o6 o7 o8 o9 qk ek dc1 dc2 dc3 dc4 dc5 dc6 dc7 dc8 dc9 _ _ _ _ _ _ g2 ys l numbers hnl hnI D h tk hD _ _ dn _ _ _ Q9 hQ9 _ _ _ _ _ _ _ _ _ _ F1 N1 _ M R1 hM1 hM6 hMe tM dm
  refine my_src (n9 := M) (by rfl) F1 N1 R1 (my_small (by omega) (by omega) (by omega) (by omega)) (by rw [rangeSize_nat]; omega) (by rw [sizeLine_eq]; omega) ?_
  intro g3
  have ⟨base, hbase⟩ : ∃ b, News _ _ _ b ∧ b = _ := ⟨_, N1, rfl⟩
  refine comp_rest_J (fun i ys l => l = base ∧ IntsAre ys ((List.range i).map fun (k : Nat) => 1 + (5 * (1 + (k : Int)) + numbers.getD 1 0).fmod 7)) ⟨hbase.2.symm, .nil⟩ ?_ ?_
  · rintro i v ys l I oI C oC D m₂ h tk E' hi ⟨t, rfl⟩ ⟨rfl, hns⟩ hC hx F2 N2 off ne
    clear F1 N1 R1
    rw [hbase.2] at N2
    k_steps
    rename Fr _ _ _ _ => F3; rename News _ _ _ _ => N3
    refine LCg.CompEnd.intro F3 N3 l (fun p hp => ?_) off trivial ⟨rfl, ints_step hns rfl⟩
    rw [hbase.2] at hp; exact hp
  rintro ys2 l2 ⟨rfl, hI2⟩ D2 h2 tk2 F2 N2 o1
  rw [hbase.2] at N2 o1
  clear F1 N1 R1
  have hD2 := offC9 (L := s1.heap.objs.size) o1 (by k_mem) (by k_mem) (by k_mem) (by k_mem) (by k_mem) (by k_mem) (by k_mem) (by k_mem) (by k_mem)
  clear o1 hbase
  k_steps
  unfold Stop2
  refine LCg.ListComp_U (F₀ := by k_asm) (by with_unfolding_all rfl) (by decide) (by rfl) (by decide) (by rfl) ?_
  k_steps
  unfold Stop2
  rename Fr _ _ _ _ => F1; rename News _ _ _ _ => N1; rename IsRange _ _ _ _ _ _ _ _ => R1
  rename IntsAre _ (0 :: _) => hnames
  rename_i nl nv nc z1 lN z2 z3 z4 z5 z6 z7 z8 z9 z10 z11 z12 z13
  have oN : OffC s1.heap.objs.size nl := fun c q1 q2 => by omega
  clear lN z5 z6 z13
  rename_i u1 u2 u3 u4 u5 u6 u7 u8 u9 u10 u11 u12 u13 u14 u15 u16 u17 u18 u19 u20 u21 u22 u23 u24 u25 u26 u27 u28 u29
  revert w s₀ s1 mg mb Y fa o pm doc ho hg KX T u1 u2 script u3 u4 u5 u6 u7 u8 u9 sl sv las hL hI hcond K0 h1 tk1 o1 o2 o3 o4 o5 o6 o7 o8 o9 qk ek dc1 dc2 dc3 dc4 dc5 dc6 dc7 dc8 dc9 u10 u11 u12 u13 u14 u15 g2 ys l numbers hnl hnI D h tk hD u16 u17 dn u18 u19 u20 u21 u22 u23 u24 u25 u26 u27 u28 u29 M hM1 hM6 hMe tM dm g3 ys2 l2 hI2 D2 h2 tk2 hD2 nl nv nc z1 hnames z2 Q9 hQ9 z3 z4 z7 z8 z9 z10 z11 z12 R1 F1 N1 oN
  exact hP9.out⟩
noncomputable def st5 : { P : Prop // Hid P → st4.val } := ⟨_, fun hP9 => by
  w_top off
  intro w s₀ s1 mg mb Y fa o pm doc ho hg KX T _ _ script _ _ _ _ _ _ _ sl sv las hL hI hcond K0 h1 tk1 o1 o2 o3 o4 o5 o6 o7 o8 o9 qk ek dc1 dc2 dc3 dc4 dc5 dc6 dc7 dc8 dc9 _ _ _ _ _ _ g2 ys l numbers hnl hnI D h tk hD _ _ dn _ _ _ _ _ _ _ _ _ _ _ _ M hM1 hM6 hMe tM dm g3 ys2 l2 hI2 D2 h2 tk2 hD2 nl nv nc z1 hnames z2 Q9 hQ9 z3 z4 z7 z8 z9 z10 z11 z12 R1 F1 N1 oN
  refine my_src (n9 := M) (by rfl) F1 N1 R1 (my_small (by omega) (by omega) (by omega) (by omega)) (by rw [rangeSize_nat]; omega) (by rw [sizeLine_eq]; omega) ?_
  intro g4
  have ⟨base, hbase⟩ : ∃ b, News _ _ _ b ∧ b = _ := ⟨_, N1, rfl⟩
  refine comp_rest_J (fun i ys l => l = base ∧ IntsAre ys ((List.range i).map fun (k : Nat) => 1 + (numbers.getD (1 + (1 + (k : Int))).toNat 0).fmod 256)) ⟨hbase.2.symm, .nil⟩ ?_ ?_
  · rintro i v ys l I oI C oC D m₂ h tk E' hi ⟨t, rfl⟩ ⟨rfl, hns⟩ hC hx F2 N2 off ne
    clear F1 N1 R1
    rw [hbase.2] at N2
    k_steps
    rename Fr _ _ _ _ => F3; rename News _ _ _ _ => N3
    refine LCg.CompEnd.intro F3 N3 l (fun p hp => ?_) off trivial ⟨rfl, ints_step hns rfl⟩
    rw [hbase.2] at hp; exact hp
  rintro ys3 l3 ⟨rfl, hI3⟩ D3 h3 tk3 F2 N2 o1
  rw [hbase.2] at N2 o1
  clear F1 N1 R1
  have hD3 := offC9 (L := s1.heap.objs.size) o1 (by k_mem) (by k_mem) (by k_mem) (by k_mem) (by k_mem) (by k_mem) (by k_mem) (by k_mem) (by k_mem)
  clear o1 hbase
  k_steps
  unfold Stop2
  refine LCg.ListComp_U (F₀ := by k_asm) (by with_unfolding_all rfl) (by decide) (by rfl) (by decide) (by rfl) ?_
  k_steps
  unfold Stop2
  rename Fr _ _ _ _ => F1; rename News _ _ _ _ => N1; rename IsRange _ _ _ _ _ _ _ _ => R1
  rename IntsAre _ (1 :: _) => hweights
  rename_i wl wv wc y1 lW y2 y3 y4 y5 y6 y7 y8 y9 y10 y11 y12 y13
  have oW : OffC s1.heap.objs.size wl := fun c q1 q2 => by omega
  clear lW y5 y6 y13
  rename_i u1 u2 u3 u4 u5 u6 u7 u8 u9 u10 u11 u12 u13 u14 u15 u16 u17 u18 u19 u20 u21 u22 u23 u24 u25 u26 u27 u28 u29
  revert w s₀ s1 mg mb Y fa o pm doc ho hg KX T u1 u2 script u3 u4 u5 u6 u7 u8 u9 sl sv las hL hI hcond K0 h1 tk1 o1 o2 o3 o4 o5 o6 o7 o8 o9 qk ek dc1 dc2 dc3 dc4 dc5 dc6 dc7 dc8 dc9 u10 u11 u12 u13 u14 u15 g2 ys l numbers hnl hnI D h tk hD u16 u17 dn u18 u19 u20 u21 u22 u23 u24 u25 u26 u27 u28 u29 M hM1 hM6 hMe tM dm g3 ys2 l2 hI2 D2 h2 tk2 hD2 nl nv nc z1 hnames z2 z3 z4 z7 z8 z9 z10 z11 z12 oN g4 ys3 l3 hI3 D3 h3 tk3 hD3 wl wv wc y1 hweights y2 Q9 hQ9 y3 y4 y7 y8 y9 y10 y11 y12 R1 F1 N1 oW
  exact hP9.out⟩
noncomputable def st6 : { P : Prop // Hid P → st5.val } := ⟨_, fun hP9 => by
  w_top off
  intro w s₀ s1 mg mb Y fa o pm doc ho hg KX T _ _ script _ _ _ _ _ _ _ sl sv las hL hI hcond K0 h1 tk1 o1 o2 o3 o4 o5 o6 o7 o8 o9 qk ek dc1 dc2 dc3 dc4 dc5 dc6 dc7 dc8 dc9 _ _ _ _ _ _ g2 ys l numbers hnl hnI D h tk hD _ _ dn _ _ _ _ _ _ _ _ _ _ _ _ M hM1 hM6 hMe tM dm g3 ys2 l2 hI2 D2 h2 tk2 hD2 nl nv nc z1 hnames z2 z3 z4 z7 z8 z9 z10 z11 z12 oN g4 ys3 l3 hI3 D3 h3 tk3 hD3 wl wv wc y1 hweights y2 Q9 hQ9 y3 y4 y7 y8 y9 y10 y11 y12 R1 F1 N1 oW
  refine my_src (n9 := M) (by rfl) F1 N1 R1 (my_small (by omega) (by omega) (by omega) (by omega)) (by rw [rangeSize_nat]; omega) (by rw [sizeLine_eq]; omega) ?_
  intro g5
  have ⟨base, hbase⟩ : ∃ b, News _ _ _ b ∧ b = _ := ⟨_, N1, rfl⟩
  refine comp_rest_J (fun i ys l => l = base ∧ IntsAre ys ((List.range i).map fun (k : Nat) => (numbers.getD (7 + (1 + (k : Int))).toNat 0).fmod (1 + (k : Int)))) ⟨hbase.2.symm, .nil⟩ ?_ ?_
  · rintro i v ys l I oI C oC D m₂ h tk E' hi ⟨t, rfl⟩ ⟨rfl, hns⟩ hC hx F2 N2 off ne
    clear F1 N1 R1
    rw [hbase.2] at N2
    have hv0 : (1 : Int) + (i : Int) ≠ 0 := by omega
    have hv1 : (1 : Int) + (i : Int) < 2 ^ 30 := by omega
    k_steps
    rename Fr _ _ _ _ => F3; rename News _ _ _ _ => N3
    refine LCg.CompEnd.intro F3 N3 l (fun p hp => ?_) off trivial ⟨rfl, ints_step hns rfl⟩
    rw [hbase.2] at hp; exact hp
  rintro ys4 l4 ⟨rfl, hI4⟩ D4 h4 tk4 F2 N2 o1
  rw [hbase.2] at N2 o1
  clear F1 N1 R1
  have hD4 := offC9 (L := s1.heap.objs.size) o1 (by k_mem) (by k_mem) (by k_mem) (by k_mem) (by k_mem) (by k_mem) (by k_mem) (by k_mem) (by k_mem)
  clear o1 hbase
  k_steps
  unfold Stop2
  refine wpAny_Assign_Name ?_
  rename Fr _ _ _ _ => F1; rename News _ _ _ _ => N1
  rename IntsAre _ (0 :: (List.range M).map fun (k : Nat) => (numbers.getD (7 + (1 + (k : Int))).toNat 0).fmod (1 + (k : Int))) => habove
  rename_i al av ac x1 lA x2 oA dA
  have oAl : OffC s1.heap.objs.size al := fun c q1 q2 => by omega
  clear lA
  rename_i u1 u2 u3 u4 u5 u6 u7 u8 u9 u10 u11 u12 u13 u14 u15 u16 u17 u18 u19 u20 u21 u22 u23 u24 u25 u26 u27 u28 u29
  revert w s₀ s1 mg mb Y fa o pm doc ho hg KX T u1 u2 script u3 u4 u5 u6 u7 u8 u9 sl sv las hL hI hcond K0 h1 tk1 o1 o2 o3 o4 o5 o6 o7 o8 o9 qk ek dc1 dc2 dc3 dc4 dc5 dc6 dc7 dc8 dc9 u10 u11 u12 u13 u14 u15 g2 ys l numbers hnl hnI D h tk hD u16 u17 dn u18 u19 u20 u21 u22 u23 u24 u25 u26 u27 u28 u29 M hM1 hM6 hMe tM dm g3 ys2 l2 hI2 D2 h2 tk2 hD2 nl nv nc z1 hnames z2 z3 z4 z7 z8 z9 z10 z11 z12 oN g4 ys3 l3 hI3 D3 h3 tk3 hD3 wl wv wc y1 hweights y2 y3 y4 y7 y8 y9 y10 y11 y12 oW g5 ys4 l4 hI4 D4 h4 tk4 hD4 al av ac x1 habove x2 oA F1 N1 dA Q9 hQ9 oAl
  exact hP9.out⟩
noncomputable def st7 : { P : Prop // Hid P → st6.val } := ⟨_, fun hP9 => by
  w_top off
  intro w s₀ s1 mg mb Y fa o pm doc ho hg KX T _ _ script _ _ _ _ _ _ _ sl sv las hL hI hcond K0 h1 tk1 o1 o2 o3 o4 o5 o6 o7 o8 o9 qk ek dc1 dc2 dc3 dc4 dc5 dc6 dc7 dc8 dc9 _ _ _ _ _ _ g2 ys l numbers hnl hnI D h tk hD _ _ dn _ _ _ _ _ _ _ _ _ _ _ _ M hM1 hM6 hMe tM dm g3 ys2 l2 hI2 D2 h2 tk2 hD2 nl nv nc z1 hnames z2 z3 z4 z7 z8 z9 z10 z11 z12 oN g4 ys3 l3 hI3 D3 h3 tk3 hD3 wl wv wc y1 hweights y2 y3 y4 y7 y8 y9 y10 y11 y12 oW g5 ys4 l4 hI4 D4 h4 tk4 hD4 al av ac x1 habove x2 oA F1 N1 dA Q9 hQ9 oAl
  have N2 := news_pick N1 [0, 3, 6, 9, 10, 11, 12, 13, 14, 15, 16, 17, 18]
  simp only [List.filterMap_cons, List.filterMap_nil, List.getElem?_cons_zero, List.getElem?_cons_succ] at N2
  clear N1
  obtain ⟨m1, em, F2⟩ := fr_gen F1
  have en : m1 (Str.ofString "names") = some (.ref nl) := by rw [em]; with_unfolding_all rfl
  have ew : m1 (Str.ofString "weights") = some (.ref wl) := by rw [em]; with_unfolding_all rfl
  clear em F1
  clear hI2 hI3 hI4; clear z7; clear y7
  obtain ⟨ns, ens, lns, dns⟩ := names_ok (numbers.getD 1 0) M hM6
  rw [← ens] at hnames
  obtain ⟨ws, ews, lws, bws⟩ := weights_ok (fun (k : Nat) => numbers.getD (1 + (1 + (k : Int))).toNat 0) M
  rw [← ews] at hweights
  obtain ⟨as, eas, las', as0, as1, bas⟩ := above_ok (fun (k : Nat) => numbers.getD (7 + (1 + (k : Int))).toNat 0) M hM1
  rw [← eas] at habove
  clear ens ews eas
  refine ListComp_C (F₀ := F2) (by with_unfolding_all rfl) (by intro _; rfl) (by intro _; rfl) (by rfl) (by decide) (by rfl) ?_
  k_steps
  unfold Stop2
  rename Fr _ _ _ _ => F1; rename News _ _ _ _ => N1; rename IsRange _ _ _ _ _ _ _ _ => R1
  refine src_C (n9 := M + 1) (by rfl) F1 N1 R1 (my_small (by omega) (by omega) (by omega) (by omega)) (by rw [rangeSize_nat]; omega) (by rw [sizeLine_eq]; omega) ?_
  intro g6
  have ⟨base, hbase⟩ : ∃ b, News _ _ _ b ∧ b = _ := ⟨_, N1, rfl⟩
  have cA : (s1.heap.objs.size + 1 + 1 + 1 + 1, oA) ∈ base := by rw [hbase.2]; k_mem
  obtain ⟨oM, cM, dM⟩ : ∃ o, (s1.heap.objs.size + 1 + 1 + 1, o) ∈ base ∧ o.data = Data.cell (some (Value.int (M : Int) tM)) := ⟨_, by rw [hbase.2]; k_mem, dm⟩
  have mA : (al, PySem.W.listOf av.toArray ac) ∈ base := by rw [hbase.2]; k_mem
  refine restC_J (fun i ys l => ∃ (bs : List Addr) (r : List (Addr × Obj)), ys = bs.map Value.ref ∧ bs.length = i ∧ l = r ++ base ∧ OffR s1.heap.objs.size r ∧ ∀ u, u < i → ∃ kv kc, (bs.getD u 0, PySem.W.listOf kv.toArray kc) ∈ r ∧ IntsAre kv (kidI as M u)) ⟨[], [], rfl, rfl, hbase.2.symm, fun q hq => (nomatch hq), fun u hu => absurd hu (Nat.not_lt_zero _)⟩ ?_ ?_
  · rintro i v ys l I oI C oC D7 c oc h tk E' hi ⟨t, rfl⟩ ⟨bs, r, rfl, rfl, rfl, hr, hk⟩ hoc F3 N3 off ne
    clear F1 N1 R1
    have cA2 := List.mem_append_right r cA
    have cM2 := List.mem_append_right r cM
    have mA2 := List.mem_append_right r mA
    refine LCt.ListComp_T (F₀ := F3) (by with_unfolding_all rfl) (by decide) (by rfl) (by decide) (by rfl) ?_
    k_steps
    unfold Stop2
    rename Fr _ _ _ _ => F4; rename News _ _ _ _ => N4; rename IsRange _ _ _ _ _ _ _ _ => R4
    refine src_T (n9 := M) (by rfl) F4 N4 R4 (my_small (by omega) (by omega) (by omega) (by omega)) (by rw [rangeSize_nat]; omega) (by rw [sizeLine_eq]; omega) ?_
    intro g7
    have ⟨base2, hb2⟩ : ∃ b, News _ _ _ b ∧ b = _ := ⟨_, N4, rfl⟩
    refine comp_rest_T (fun j ys l => l = base2 ∧ IntsAre ys (kidI as j bs.length)) ⟨hb2.2.symm, .nil⟩ ?_ ?_
    · rintro j v ys l I2 oI2 C2 oC2 D8 m₂ h tk E' hj ⟨t2, rfl⟩ ⟨rfl, hns⟩ hC hx F5 N5 off5 ne5
      clear F4 N4 R4
      rw [hb2.2] at N5
      have hj1 : (1 + (j : Int)).toNat = j + 1 := by omega
      k_steps
      · rename Fr _ _ _ _ => F6; rename News _ _ _ _ => N6; rename as.getD _ _ = _ => hq
        rw [hj1] at hq
        refine LCg.CompEnd.intro F6 N6 l (fun p hp => ?_) off5 trivial ⟨rfl, kidI_yes hns (by omega) (by omega)⟩
        rw [hb2.2] at hp; exact hp
      · rename Fr _ _ _ _ => F6; rename News _ _ _ _ => N6; rename ¬ as.getD _ _ = _ => hq
        rw [hj1] at hq
        refine LCg.CompEnd.intro F6 N6 l (fun p hp => ?_) off5 trivial ⟨rfl, kidI_no hns (by omega)⟩
        rw [hb2.2] at hp; exact hp
    · rintro ys l ⟨rfl, hns⟩ D8 h tk F5 N5 o1
      rw [hb2.2] at N5 o1
      have o1' := off1_mem o1
      refine ⟨h, tk, (D8, LCg.lst ys) :: (r ++ base), rfl, F5, fun p hp => N5 p ?_, fun p hp => ?_, bs ++ [D8], (D8, LCg.lst ys) :: r, by simp, by simp, rfl, fun q hq => ?_, fun u hu => ?_⟩
      · simp only [List.mem_cons] at hp ⊢
        rcases hp with h | h | h | h | h | h <;> simp [h]
      · rcases List.mem_cons.mp hp with rfl | hp
        · exact ⟨Ne.symm (o1' (I, oI) (by k_mem)), Ne.symm (o1' (C, oC) (by k_mem)), Ne.symm (o1' (D7, LCg.lst (bs.map Value.ref)) (by k_mem)), Ne.symm (o1' (c, oc) (by k_mem))⟩
        · exact off p hp
      · rcases List.mem_cons.mp hq with rfl | hq
        · have hsub : ∀ p ∈ base, (@Ne Nat p.1 D8) := fun p hp => o1' p (by simp [hp])
          rw [hbase.2] at hsub
          exact offC9 (L := s1.heap.objs.size) (off1_of hsub) (by k_mem) (by k_mem) (by k_mem) (by k_mem) (by k_mem) (by k_mem) (by k_mem) (by k_mem) (by k_mem)
        · exact hr q hq
      · by_cases e : u = bs.length
        · subst e
          exact ⟨ys, _, by simp [LCg.lst]; exact .inl rfl, hns⟩
        · obtain ⟨kv, kc, h1, h2⟩ := hk u (by omega)
          exact ⟨kv, kc, by rw [show (bs ++ [D8]).getD u 0 = bs.getD u 0 by simp [List.getD, List.getElem?_append_left (show u < bs.length by omega)]]; exact .tail _ h1, h2⟩
  rintro ys7 l7 ⟨bs, r7, rfl, lbs, rfl, hr7, hk7⟩ D7 h7 tk7 F2 N2 o1
  rw [hbase.2] at N2 o1
  clear F1 N1 R1
  have hD7 : OffC s1.heap.objs.size D7 := offC9 (L := s1.heap.objs.size) (off1_of fun p hp => off1_mem o1 p (List.mem_append_right _ hp)) (by k_mem) (by k_mem) (by k_mem) (by k_mem) (by k_mem) (by k_mem) (by k_mem) (by k_mem) (by k_mem)
  have N3 := news_swap N2
  simp only [List.cons_append, List.nil_append] at N3
  clear N2 o1 hbase cA cM dM mA
  k_steps
  unfold Stop2
  refine wpAny_Assign_Name ?_
  rename_i u1 u2 u3 u4 u5 u6 u7 u8 u9 u10 u11 u12 u13 u14 u15 u16 u17 u18 u19 u20 u21 u22 u23 u24 u25 u26 u27 u28 u29 u30 u31 u32 u33 u34 u35 u36 u37 u38 u39 u40
  revert w s₀ s1 mg mb Y fa o pm doc ho hg KX T u1 u2 script u3 u4 u5 u6 u7 u8 u9 sl sv las hL hI hcond K0 h1 tk1 o1 o2 o3 o4 o5 o6 o7 o8 o9 qk ek dc1 dc2 dc3 dc4 dc5 dc6 dc7 dc8 dc9 u10 u11 u12 u13 u14 u15 g2 ys l numbers hnl hnI D h tk hD u16 u17 dn u18 u19 u20 u21 u22 u23 u24 u25 u26 u27 u28 u29 M hM1 hM6 hMe tM dm g3 ys2 l2 D2 h2 tk2 hD2 nl nv nc z1 z2 z3 z4 z8 z9 z10 z11 z12 oN g4 ys3 l3 D3 h3 tk3 hD3 wl wv wc y1 y2 y3 y4 y8 y9 y10 y11 y12 oW g5 ys4 l4 D4 h4 tk4 hD4 al av ac x1 x2 oA dA oAl m1 en ew ns hnames lns dns ws hweights lws bws as habove las' as0 as1 bas u30 u31 u32 u33 u34 u35 g6 base oM bs r7 lbs hr7 hk7 D7 h7 tk7 hD7 u36 u37 u38 u39 u40 Q9 hQ9
  exact hP9.out⟩
noncomputable def st8 : { P : Prop // Hid P → st7.val } := ⟨_, fun hP9 => by
  w_top off
  intro w s₀ s1 mg mb Y fa o pm doc ho hg KX T _ _ script _ _ _ _ _ _ _ sl sv las hL hI hcond K0 h1 tk1 o1 o2 o3 o4 o5 o6 o7 o8 o9 qk ek dc1 dc2 dc3 dc4 dc5 dc6 dc7 dc8 dc9 _ _ _ _ _ _ g2 ys l numbers hnl hnI D h tk hD _ _ dn _ _ _ _ _ _ _ _ _ _ _ _ M hM1 hM6 hMe tM dm g3 ys2 l2 D2 h2 tk2 hD2 nl nv nc z1 z2 z3 z4 z8 z9 z10 z11 z12 oN g4 ys3 l3 D3 h3 tk3 hD3 wl wv wc y1 y2 y3 y4 y8 y9 y10 y11 y12 oW g5 ys4 l4 D4 h4 tk4 hD4 al av ac x1 x2 oA dA oAl m1 en ew ns hnames lns dns ws hweights lws bws as habove las' as0 as1 bas _ _ _ _ _ _ g6 base oM bs r7 lbs hr7 hk7 D7 h7 tk7 hD7 _ _ _ _ _ Q9 hQ9
  refine LCt.ListComp_T (F₀ := by k_asm) (by with_unfolding_all rfl) (by decide) (by rfl) (by decide) (by rfl) ?_
  k_steps
  unfold Stop2
  rename Fr _ _ _ _ => F1; rename News _ _ _ _ => N1; rename IsRange _ _ _ _ _ _ _ _ => R1
  refine src_T (n9 := M + 1) (by rfl) F1 N1 R1 (my_small (by omega) (by omega) (by omega) (by omega)) (by rw [rangeSize_nat]; omega) (by rw [sizeLine_eq]; omega) ?_
  intro g8
  have ⟨base, hbase⟩ : ∃ b, News _ _ _ b ∧ b = _ := ⟨_, N1, rfl⟩
  refine comp_rest_T (fun i ys l => l = base ∧ IntsAre ys (headI as M i)) ⟨hbase.2.symm, .nil⟩ ?_ ?_
  · rintro i v ys l I oI C oC D8 m₂ h tk E' hi ⟨t, rfl⟩ ⟨rfl, hns⟩ hC hx F2 N2 off ne
    clear F1 N1 R1
    rw [hbase.2] at N2
    simp only [Int.zero_add] at hx
    obtain ⟨kv, kc, hkv, hki⟩ := hk7 i hi
    have hxb : (bs.map Value.ref)[((i : Nat) : Int).toNat]? = some (.ref (bs.getD i 0)) := by rw [Int.toNat_natCast]; exact at_ref (by omega)
    by_cases hk0 : kidI as M i = []
    · have e0 : (!decide (kidI as M i = [])) = false := by rw [hk0]; rfl
      k_steps
      rename Fr _ _ _ _ => F3; rename News _ _ _ _ => N3
      refine LCg.CompEnd.intro F3 N3 l (fun p hp => ?_) off trivial ⟨rfl, headI_no hns hk0⟩
      rw [hbase.2] at hp
      first | exact hp | exact .tail _ hp
    · have e0 : (!decide (kidI as M i = [])) = true := by rw [decide_eq_false hk0]; rfl
      k_steps
      rename Fr _ _ _ _ => F3; rename News _ _ _ _ => N3
      refine LCg.CompEnd.intro F3 N3 l (fun p hp => ?_) off trivial ⟨rfl, headI_yes hns hk0 rfl⟩
      rw [hbase.2] at hp
      first | exact hp | exact .tail _ hp
  rintro ys8 l8 ⟨rfl, hI8⟩ D8 h8 tk8 F2 N2 o1
  rw [hbase.2] at N2 o1
  clear F1 N1 R1
  have hD8 := offC9 (L := s1.heap.objs.size) o1 (by k_mem) (by k_mem) (by k_mem) (by k_mem) (by k_mem) (by k_mem) (by k_mem) (by k_mem) (by k_mem)
  clear o1 hbase
  k_steps
  unfold Stop2
  refine wpAny_Assign_Name ?_
  rename_i u1 u2 u3 u4 u5 u6 u7 u8 u9 u10 u11 u12 u13 u14 u15 u16 u17 u18 u19 u20 u21 u22 u23 u24 u25 u26 u27 u28 u29 u30 u31 u32 u33 u34 u35 u36 u37 u38 u39 u40 u41 u42 u43 u44 u45 u46 u47 u48 u49
  revert w s₀ s1 mg mb Y fa o pm doc ho hg KX T u1 u2 script u3 u4 u5 u6 u7 u8 u9 sl sv las hL hI hcond K0 h1 tk1 o1 o2 o3 o4 o5 o6 o7 o8 o9 qk ek dc1 dc2 dc3 dc4 dc5 dc6 dc7 dc8 dc9 u10 u11 u12 u13 u14 u15 g2 ys l numbers hnl hnI D h tk hD u16 u17 dn u18 u19 u20 u21 u22 u23 u24 u25 u26 u27 u28 u29 M hM1 hM6 hMe tM dm g3 ys2 l2 D2 h2 tk2 hD2 nl nv nc z1 z2 z3 z4 z8 z9 z10 z11 z12 oN g4 ys3 l3 D3 h3 tk3 hD3 wl wv wc y1 y2 y3 y4 y8 y9 y10 y11 y12 oW g5 ys4 l4 D4 h4 tk4 hD4 al av ac x1 x2 oA dA oAl m1 en ew ns hnames lns dns ws hweights lws bws as habove las' as0 as1 bas u30 u31 u32 u33 u34 u35 g6 base oM bs r7 lbs hr7 hk7 D7 h7 tk7 hD7 u36 u37 u38 u39 u40 u41 u42 u43 u44 g8 ys8 l8 hI8 D8 h8 tk8 hD8 u45 u46 u47 u48 u49 Q9 hQ9
  exact hP9.out⟩
noncomputable def st9 : { P : Prop // Hid P → st8.val } := ⟨_, fun hP9 => by
  w_top off
  intro w s₀ s1 mg mb Y fa o pm doc ho hg KX T _ _ script _ _ _ _ _ _ _ sl sv las hL hI hcond K0 h1 tk1 o1 o2 o3 o4 o5 o6 o7 o8 o9 qk ek dc1 dc2 dc3 dc4 dc5 dc6 dc7 dc8 dc9 _ _ _ _ _ _ g2 ys l numbers hnl hnI D h tk hD _ _ dn _ _ _ _ _ _ _ _ _ _ _ _ M hM1 hM6 hMe tM dm g3 ys2 l2 D2 h2 tk2 hD2 nl nv nc z1 z2 z3 z4 z8 z9 z10 z11 z12 oN g4 ys3 l3 D3 h3 tk3 hD3 wl wv wc y1 y2 y3 y4 y8 y9 y10 y11 y12 oW g5 ys4 l4 D4 h4 tk4 hD4 al av ac x1 x2 oA dA oAl m1 en ew ns hnames lns dns ws hweights lws bws as habove las' as0 as1 bas _ _ _ _ _ _ g6 base oM bs r7 lbs hr7 hk7 D7 h7 tk7 hD7 _ _ _ _ _ _ _ _ _ g8 ys8 l8 hI8 D8 h8 tk8 hD8 _ _ _ _ _ Q9 hQ9
  refine LCg.ListComp_U (F₀ := by k_asm) (by with_unfolding_all rfl) (by decide) (by rfl) (by decide) (by rfl) ?_
  k_steps
  unfold Stop2
  rename Fr _ _ _ _ => F1; rename News _ _ _ _ => N1
  rename IntsAre _ ([2, 0, 1, 0] ++ _) => hSrc
  rename_i pD pw ms ph pF pN pI hL9 pl qD qw qn qh ql
  clear pF pN
  have hql : qw.length = 4 + ms.length := by have := hSrc.length; simp at this; omega
  refine my_srcL (vs9 := qw) (c9 := qn) (by rfl) F1 N1 (by k_mem) (by omega) ?_
  intro g9
  have ⟨base, hbase⟩ : ∃ b, News _ _ _ b ∧ b = _ := ⟨_, N1, rfl⟩
  have mq : (qD, PySem.W.listOf qw.toArray qn) ∈ base := by rw [hbase.2]; k_mem
  have hl1 := head_len hM1 as1
  have hl2 := @head_len_le as M (M + 1)
  refine comp_rest_J (fun i ys l => l = base ∧ ∃ aks : List Nat, aks.length = i ∧ IntsAre ys (aks.map fun (a : Nat) => (a : Int)) ∧ ∀ a ∈ aks, a ∈ headN as M (M + 1)) ⟨hbase.2.symm, [], rfl, .nil, fun a ha => nomatch ha⟩ ?_ ?_
  · rintro i v ys l I oI C oC D9 m₂ h tk E' hi hv ⟨rfl, aks, hl, hns, hmem⟩ hC hx F2 N2 off ne
    obtain ⟨t, hx2⟩ := hSrc.get i (([2, 0, 1, 0] ++ ms)[i]'(by simp; omega)) (by simp)
    rw [hv] at hx2
    cases hx2
    generalize ([2, 0, 1, 0] ++ ms)[i]'(by simp; omega) = x at hx
    have hfm := fm_idx x hl1
    have hfm1 := hfm.1
    have hfm2 := hfm.2
    have hd1 : ((headI as M (M + 1)).length : Int) ≠ 0 := by omega
    have hd2 : ((headI as M (M + 1)).length : Int) < 2 ^ 30 := by omega
    clear F1 N1
    rw [hbase.2] at N2
    k_steps
    rename Fr _ _ _ _ => F3; rename News _ _ _ _ => N3
    obtain ⟨a, ha, e⟩ := headI_at (as := as) (M := M) (i := M + 1) (k := (x.fmod ((headI as M (M + 1)).length : Int)).toNat) (by omega)
    refine LCg.CompEnd.intro F3 N3 l (fun p hp => ?_) off (srcAt_mem mq) ⟨rfl, aks ++ [a], by simp [hl], ?_, fun b hb => ?_⟩
    · rw [hbase.2] at hp; exact hp
    · rw [List.map_append]; exact hns.append (e ▸ .cons _ _ .nil)
    · rcases List.mem_append.mp hb with hb | hb
      · exact hmem b hb
      · rw [List.mem_singleton.mp hb]; exact ha
  rintro ys9 l9 ⟨rfl, aks, haL, hI9, hak⟩ D9 h9 tk9 F2 N2 o1
  rw [hbase.2] at N2 o1
  clear F1 N1
  have hD9 := offC9 (L := s1.heap.objs.size) o1 (by k_mem) (by k_mem) (by k_mem) (by k_mem) (by k_mem) (by k_mem) (by k_mem) (by k_mem) (by k_mem)
  have N3 := news_drop3 N2
  clear o1 hbase mq N2 hSrc pl ql
  have haz : aks.length ≤ 16 := by omega
  have haz2 : (aks.map fun (a : Nat) => (a : Int)).length < 64 := by rw [List.length_map]; omega
  clear hql haL hL9
  rename_i u1 u2 u3 u4 u5 u6 u7 u8 u9 u10 u11 u12 u13 u14 u15 u16 u17 u18 u19 u20 u21 u22 u23 u24 u25 u26 u27 u28 u29 u30 u31 u32 u33 u34 u35 u36 u37 u38 u39 u40 u41 u42 u43 u44 u45 u46 u47 u48 u49 u50 u51 u52
  revert w s₀ s1 mg mb Y fa o pm doc ho hg KX T u1 u2 script u3 u4 u5 u6 u7 u8 u9 sl sv las hL hI hcond K0 h1 tk1 o1 o2 o3 o4 o5 o6 o7 o8 o9 qk ek dc1 dc2 dc3 dc4 dc5 dc6 dc7 dc8 dc9 u10 u11 u12 u13 u14 u15 g2 ys l numbers hnl hnI D h tk hD u16 u17 dn u18 u19 u20 u21 u22 u23 u24 u25 u26 u27 u28 u29 M hM1 hM6 hMe tM dm g3 ys2 l2 D2 h2 tk2 hD2 nl nv nc z1 z2 z3 z4 z8 z9 z10 z11 z12 oN g4 ys3 l3 D3 h3 tk3 hD3 wl wv wc y1 y2 y3 y4 y8 y9 y10 y11 y12 oW g5 ys4 l4 D4 h4 tk4 hD4 al av ac x1 x2 oA dA oAl m1 en ew ns hnames lns dns ws hweights lws bws as habove las' as0 as1 bas u30 u31 u32 u33 u34 u35 g6 base oM bs r7 lbs hr7 hk7 D7 h7 tk7 hD7 u36 u37 u38 u39 u40 u41 u42 u43 u44 g8 ys8 l8 hI8 D8 h8 tk8 hD8 u45 u46 u47 Q9 hQ9 u48 u49 u50 u51 u52 pD pw ms ph pI qD qw qn qh g9 hl1 hl2 ys9 l9 aks hI9 hak D9 h9 tk9 F2 hD9 N3 haz haz2
  exact hP9.out⟩
noncomputable def st10 : { P : Prop // Hid P → st9.val } := ⟨_, fun hP9 => by
  w_top off
  intro w s₀ s1 mg mb Y fa o pm doc ho hg KX T _ _ script _ _ _ _ _ _ _ sl sv las hL hI hcond K0 h1 tk1 o1 o2 o3 o4 o5 o6 o7 o8 o9 qk ek dc1 dc2 dc3 dc4 dc5 dc6 dc7 dc8 dc9 _ _ _ _ _ _ g2 ys l numbers hnl hnI D h tk hD _ _ dn _ _ _ _ _ _ _ _ _ _ _ _ M hM1 hM6 hMe tM dm g3 ys2 l2 D2 h2 tk2 hD2 nl nv nc z1 z2 z3 z4 z8 z9 z10 z11 z12 oN g4 ys3 l3 D3 h3 tk3 hD3 wl wv wc y1 y2 y3 y4 y8 y9 y10 y11 y12 oW g5 ys4 l4 D4 h4 tk4 hD4 al av ac x1 x2 oA dA oAl m1 en ew ns hnames lns dns ws hweights lws bws as habove las' as0 as1 bas _ _ _ _ _ _ g6 base oM bs r7 lbs hr7 hk7 D7 h7 tk7 hD7 _ _ _ _ _ _ _ _ _ g8 ys8 l8 hI8 D8 h8 tk8 hD8 _ _ _ Q9 hQ9 _ _ _ _ _ pD pw ms ph pI qD qw qn qh g9 hl1 hl2 ys9 l9 aks hI9 hak D9 h9 tk9 F2 hD9 N3 haz haz2
  k_steps
  unfold Stop2
  rename Fr _ _ _ _ => F1; rename News _ _ _ _ => N1
  rename IntsAre _ _ => hS
  rename List.Perm _ _ => hP
  rename_i y1 oQ dQ sD sw sn sc y2 lS od y3 lO y4
  obtain ⟨ok, hok, esn⟩ := perm_nat hP
  subst esn
  have hz3 : (ok.map fun (a : Nat) => (a : Int)).length ≤ 1000 := by rw [List.length_map, hok.length_eq]; omega
  have oS : OffC s1.heap.objs.size sD := fun c q1 q2 => by omega
  have oO : OffC s1.heap.objs.size od := fun c q1 q2 => by omega
  have hoS : sD < od := lO.1
  have hoD : D9 < od := lO.2.1
  obtain ⟨rest, hrest⟩ : ∃ rest, News _ _ _ (_ :: _ :: rest) ∧ rest = _ := ⟨_, N1, rfl⟩
  refine wpAny_mono (Q := Hold fun f s' => f = Flow.next ∧ ∃ (h' : Heap) (tk' : Nat) (zD : Nat) (zv : List Value) (zc oc : Nat) (zk : List Nat), s' = { s1 with heap := h', toks := tk' } ∧ Fr s1.heap s1.heap.objs.size h' (fun y => if y = Str.ofString "orders" then some (Value.ref od) else m1 y) ∧
    News s1.heap s1.heap.objs.size h' ((od, PySem.W.listOf [Value.ref D9, Value.ref zD].toArray oc) :: (zD, PySem.W.listOf zv.toArray zc) :: rest) ∧ IntsAre zv (zk.map fun (a : Nat) => (a : Int)) ∧ zk.Perm aks ∧ OffC s1.heap.objs.size zD) (E := fun _ _ => False) ?bodyX ?qX ?eX
  case eX => exact fun _ _ h => h.elim
  case bodyX =>
    refine wpAny_If ?_
    (k_steps)
    · unfold Stop2
      have hx1 : [Value.ref D9, Value.ref sD][(1 : Int).toNat]? = some (.ref sD) := rfl
      refine wpAny_Assign_Subscript ?_ (by with_unfolding_all rfl)
      k_steps
      rename Fr _ _ _ _ => F3; rename News _ _ _ _ => N3
      rename IntsAre _ (List.reverse _) => hR
      rename_i zD zw z1 z2 z3 z4 lz z5
      refine ⟨rfl, z5, _, zD, zw, 0, 0, ok.reverse, rfl, F3, fun p hp => ?_, by rw [List.map_reverse]; exact hR, (List.reverse_perm ok).trans hok, fun c q1 q2 => by omega⟩
      rcases List.mem_cons.mp hp with rfl | hp
      · exact N3 _ (by k_mem)
      rcases List.mem_cons.mp hp with rfl | hp
      · exact N3 _ (by k_mem)
      rw [hrest.2] at hp
      exact N3 p (.tail _ (.tail _ (.tail _ hp)))
    · rename Fr _ _ _ _ => F3; rename News _ _ _ _ => N3
      refine ⟨rfl, _, _, sD, sw, sc, 0, ok, rfl, F3, fun p hp => ?_, hS, hok, oS⟩
      rcases List.mem_cons.mp hp with rfl | hp
      · exact N3 _ (by k_mem)
      rcases List.mem_cons.mp hp with rfl | hp
      · exact N3 _ (by k_mem)
      rw [hrest.2] at hp
      exact N3 p (.tail _ (.tail _ hp))
  intro f s' hq
  obtain ⟨rfl, h10, tk10, zD, zv, zc, oc, zk, rfl, F2, N2, hZ, hzk, oZ⟩ := hq
  rw [hrest.2] at N2
  clear hrest F1 N1 hS hok hoS hz3 oS hP y2 lS y3 lO
  try dsimp only
  rename_i u1 u2 u3 u4 u5 u6 u7 u8 u9 u10 u11 u12 u13 u14 u15 u16 u17 u18 u19 u20 u21 u22 u23 u24 u25 u26 u27 u28 u29 u30 u31 u32 u33 u34 u35 u36 u37 u38 u39 u40 u41 u42 u43 u44 u45 u46 u47 u48 u49 u50 u51 u52
  revert w s₀ s1 mg mb Y fa o pm doc ho hg KX T u1 u2 script u3 u4 u5 u6 u7 u8 u9 sl sv las hL hI hcond K0 h1 tk1 o1 o2 o3 o4 o5 o6 o7 o8 o9 qk ek dc1 dc2 dc3 dc4 dc5 dc6 dc7 dc8 dc9 u10 u11 u12 u13 u14 u15 g2 ys l numbers hnl hnI D h tk hD u16 u17 dn u18 u19 u20 u21 u22 u23 u24 u25 u26 u27 u28 u29 M hM1 hM6 hMe tM dm g3 ys2 l2 D2 h2 tk2 hD2 nl nv nc z1 z2 z3 z4 z8 z9 z10 z11 z12 oN g4 ys3 l3 D3 h3 tk3 hD3 wl wv wc u30 y2 y3 u31 y8 y9 y10 y11 y12 oW g5 ys4 l4 D4 h4 tk4 hD4 al av ac x1 x2 oA dA oAl m1 en ew ns hnames lns dns ws hweights lws bws as habove las' as0 as1 bas u32 u33 u34 u35 u36 u37 g6 base oM bs r7 lbs hr7 hk7 D7 h7 tk7 hD7 u38 u39 u40 u41 u42 u43 u44 u45 u46 g8 ys8 l8 hI8 D8 h8 tk8 hD8 u47 u48 u49 u50 u51 u52 pD pw ms ph pI qD qw qn qh g9 hl1 hl2 ys9 l9 aks hI9 hak D9 h9 tk9 hD9 haz haz2 y1 oQ dQ sD sw sc od y4 Q9 hQ9 ok oO hoD rest h10 tk10 zD zv zc oc zk F2 N2 hZ hzk oZ
  exact hP9.out⟩
noncomputable def st11 : { P : Prop // Hid P → st10.val } := ⟨_, fun hP9 => by
  w_top off
  intro w s₀ s1 mg mb Y fa o pm doc ho hg KX T _ _ script _ _ _ _ _ _ _ sl sv las hL hI hcond K0 h1 tk1 o1 o2 o3 o4 o5 o6 o7 o8 o9 qk ek dc1 dc2 dc3 dc4 dc5 dc6 dc7 dc8 dc9 _ _ _ _ _ _ g2 ys l numbers hnl hnI D h tk hD _ _ dn _ _ _ _ _ _ _ _ _ _ _ _ M hM1 hM6 hMe tM dm g3 ys2 l2 D2 h2 tk2 hD2 nl nv nc z1 z2 z3 z4 z8 z9 z10 z11 z12 oN g4 ys3 l3 D3 h3 tk3 hD3 wl wv wc _ y2 y3 _ y8 y9 y10 y11 y12 oW g5 ys4 l4 D4 h4 tk4 hD4 al av ac x1 x2 oA dA oAl m1 en ew ns hnames lns dns ws hweights lws bws as habove las' as0 as1 bas _ _ _ _ _ _ g6 base oM bs r7 lbs hr7 hk7 D7 h7 tk7 hD7 _ _ _ _ _ _ _ _ _ g8 ys8 l8 hI8 D8 h8 tk8 hD8 _ _ _ _ _ _ pD pw ms ph pI qD qw qn qh g9 hl1 hl2 ys9 l9 aks hI9 hak D9 h9 tk9 hD9 haz haz2 y1 oQ dQ sD sw sc od y4 Q9 hQ9 ok oO hoD rest h10 tk10 zD zv zc oc zk F2 N2 hZ hzk oZ
  k_steps
  unfold Stop2
  rename Fr _ _ _ _ => F1; rename News _ _ _ _ => N1
  have lna : ns.length = as.length := by omega
  have lnw : ns.length = ws.length := by omega
  have ⟨base, hbase⟩ : ∃ b, News _ _ _ b ∧ b = _ := ⟨_, N1, rfl⟩
  have hkb : ∀ u, u < ns.length → ∃ kv kc, (bs.getD u 0, PySem.W.listOf kv.toArray kc) ∈ base ∧ IntsAre kv (kidI as M u) := by
    intro u hu
    obtain ⟨kv, kc, h1, h2⟩ := hk7 u (by omega)
    exact ⟨kv, kc, by rw [hbase.2]; k_mem, h2⟩
  rw [hbase.2] at hkb
  refine made_call (h₀ := s1.heap) (kids := fun u => kidI as M u) (nv := nv) (av := av) (wv := wv) (bs := bs) (ns := ns) (as := as) (ws := ws) (nl := nl) (al := al) (wl := wl) (bl := D7) (B := K0) (F := F1) (X := KX) (N := N1) (T := T) (hk := by rfl) (hdp := by decide) (hun := by decide) (mn := by k_mem) (ma := by k_mem) (mw := by k_mem) (mb' := by k_mem) (iN := hnames) (ia := habove) (iw := hweights) (hnw := lnw) (hna := lna) (hln := by omega) (hw := bws) (hab := fun v h1 h2 => bas v h1 (by omega)) (hnm := dns) (hn1 := by omega) (hbs := by omega) (hkb := hkb) (ret := ?ret1)
  intro sa0 da0 ca0 qa0 T0 l0 h11 tk11 lay0 hDn0 F2 N2 sub0 hT0 nod0
  have N3 := news_two N2 sub0 (fun p hp => hp)
  simp only [List.cons_append] at N3
  clear sub0
  clear N1 N2 F1 hbase hkb
  rename_i u1 u2 u3 u4 u5 u6 u7 u8 u9 u10 u11 u12 u13 u14 u15 u16 u17 u18 u19 u20 u21 u22 u23 u24 u25 u26 u27 u28 u29 u30 u31 u32 u33 u34 u35 u36 u37 u38 u39 u40 u41 u42 u43 u44 u45 u46 u47 u48 u49 u50 u51 u52 u53
  revert w s₀ s1 mg mb Y fa o pm doc ho hg KX T u1 u2 script u3 u4 u5 u6 u7 u8 u9 sl sv las hL hI hcond K0 h1 tk1 o1 o2 o3 o4 o5 o6 o7 o8 o9 qk ek dc1 dc2 dc3 dc4 dc5 dc6 dc7 dc8 dc9 u10 u11 u12 u13 u14 u15 g2 ys l numbers hnl hnI D h tk hD u16 u17 dn u18 u19 u20 u21 u22 u23 u24 u25 u26 u27 u28 u29 M hM1 hM6 hMe tM dm g3 ys2 l2 D2 h2 tk2 hD2 nl nv nc z1 z2 z3 z4 z8 z9 z10 z11 z12 oN g4 ys3 l3 D3 h3 tk3 hD3 wl wv wc u30 y2 y3 u31 y8 y9 y10 y11 y12 oW g5 ys4 l4 D4 h4 tk4 hD4 al av ac x1 x2 oA dA oAl m1 en ew ns hnames lns dns ws hweights lws bws as habove las' as0 as1 bas u32 u33 u34 u35 u36 u37 g6 u38 oM bs r7 lbs hr7 hk7 D7 h7 tk7 hD7 u39 u40 u41 u42 u43 u44 u45 u46 u47 g8 ys8 l8 hI8 D8 h8 tk8 hD8 u48 u49 u50 u51 u52 u53 pD pw ms ph pI qD qw qn qh g9 hl1 hl2 ys9 l9 aks hI9 hak D9 h9 tk9 hD9 haz haz2 y1 oQ dQ sD sw sc od y4 ok oO hoD rest h10 tk10 zD zv zc oc zk hZ hzk oZ Q9 hQ9 lna lnw base sa0 da0 ca0 qa0 T0 l0 h11 tk11 lay0 hDn0 F2 hT0 nod0 N3
  exact hP9.out⟩
noncomputable def st12 : { P : Prop // Hid P → st11.val } := ⟨_, fun hP9 => by
  w_top off
  intro w s₀ s1 mg mb Y fa o pm doc ho hg KX T _ _ script _ _ _ _ _ _ _ sl sv las hL hI hcond K0 h1 tk1 o1 o2 o3 o4 o5 o6 o7 o8 o9 qk ek dc1 dc2 dc3 dc4 dc5 dc6 dc7 dc8 dc9 _ _ _ _ _ _ g2 ys l numbers hnl hnI D h tk hD _ _ dn _ _ _ _ _ _ _ _ _ _ _ _ M hM1 hM6 hMe tM dm g3 ys2 l2 D2 h2 tk2 hD2 nl nv nc z1 z2 z3 z4 z8 z9 z10 z11 z12 oN g4 ys3 l3 D3 h3 tk3 hD3 wl wv wc _ y2 y3 _ y8 y9 y10 y11 y12 oW g5 ys4 l4 D4 h4 tk4 hD4 al av ac x1 x2 oA dA oAl m1 en ew ns hnames lns dns ws hweights lws bws as habove las' as0 as1 bas _ _ _ _ _ _ g6 _ oM bs r7 lbs hr7 hk7 D7 h7 tk7 hD7 _ _ _ _ _ _ _ _ _ g8 ys8 l8 hI8 D8 h8 tk8 hD8 _ _ _ _ _ _ pD pw ms ph pI qD qw qn qh g9 hl1 hl2 ys9 l9 aks hI9 hak D9 h9 tk9 hD9 haz haz2 y1 oQ dQ sD sw sc od y4 ok oO hoD rest h10 tk10 zD zv zc oc zk hZ hzk oZ Q9 hQ9 lna lnw base sa0 da0 ca0 qa0 T0 l0 h11 tk11 lay0 hDn0 F2 hT0 nod0 N3
  k_steps
  unfold Stop2
  rename Fr _ _ _ _ => F1; rename News _ _ _ _ => N1
  have ⟨base, hbase⟩ : ∃ b, News _ _ _ b ∧ b = _ := ⟨_, N1, rfl⟩
  have hkb : ∀ u, u < ns.length → ∃ kv kc, (bs.getD u 0, PySem.W.listOf kv.toArray kc) ∈ base ∧ IntsAre kv (kidI as M u) := by
    intro u hu
    obtain ⟨kv, kc, h1, h2⟩ := hk7 u (by omega)
    have h3 := List.mem_append_left l0 h1
    exact ⟨kv, kc, by rw [hbase.2]; k_mem, h2⟩
  rw [hbase.2] at hkb
  refine made_call (h₀ := s1.heap) (kids := fun u => kidI as M u) (nv := nv) (av := av) (wv := wv) (bs := bs) (ns := ns) (as := as) (ws := ws) (nl := nl) (al := al) (wl := wl) (bl := D7) (B := K0) (F := F1) (X := KX) (N := N1) (T := T) (hk := by rfl) (hdp := by decide) (hun := by decide) (mn := by k_mem) (ma := by k_mem) (mw := by k_mem) (mb' := by k_mem) (iN := hnames) (ia := habove) (iw := hweights) (hnw := lnw) (hna := lna) (hln := by omega) (hw := bws) (hab := fun v h1 h2 => bas v h1 (by omega)) (hnm := dns) (hn1 := by omega) (hbs := by omega) (hkb := hkb) (ret := ?ret1)
  intro sa1 da1 ca1 qa1 T1 l1 h12 tk12 lay1 hDn1 F2 N2 sub1 hT1 nod1
  have cls : ∀ k : Nat, s1.heap.objs.size + 1 ≤ k → k ≤ s1.heap.objs.size + 9 → ∃ o v, (k, o) ∈ l1 ∧ o.data = Data.cell v := by
    intro k q1 q2
    rcases nine q1 q2 with rfl | rfl | rfl | rfl | rfl | rfl | rfl | rfl | rfl
    · exact ⟨_, _, sub1 _ (by k_mem), by assumption⟩
    · exact ⟨_, _, sub1 _ (by k_mem), by assumption⟩
    · exact ⟨_, _, sub1 _ (by k_mem), by assumption⟩
    · exact ⟨_, _, sub1 _ (by k_mem), by assumption⟩
    · exact ⟨_, _, sub1 _ (by k_mem), by assumption⟩
    · exact ⟨_, _, sub1 _ (by k_mem), by assumption⟩
    · exact ⟨_, _, sub1 _ (by k_mem), by assumption⟩
    · exact ⟨_, _, sub1 _ (by k_mem), by assumption⟩
    · exact ⟨_, _, sub1 _ (by k_mem), by assumption⟩
  have hin := mem_offL N2 cls
  have N3 := news_two N2 (fun p hp => sub1 p (pick_mem [0, 1, 2, 3, 4, 5, 6, 7, 8, 9, 10, 11, 12, 13, 14, 15, 16, 17] p hp)) (@offL_sub s1.heap.objs.size l1)
  simp only [List.filterMap_cons, List.filterMap_nil, List.getElem?_cons_zero, List.getElem?_cons_succ, List.cons_append, List.nil_append] at N3
  have hr1 : OffR s1.heap.objs.size (offL s1.heap.objs.size l1) := offL_R _ _
  have sub0 : ∀ p ∈ l0, p ∈ l1 := fun p hp => sub1 p (by have h9 := List.mem_append_right r7 hp; repeat (first | with_reducible exact h9 | refine List.mem_cons_of_mem _ ?_))
  have subk : ∀ p ∈ r7, p ∈ l1 := fun p hp => sub1 p (by have h9 := List.mem_append_left l0 hp; repeat (first | with_reducible exact h9 | refine List.mem_cons_of_mem _ ?_))
  have hT0R := hin _ (sub0 _ hT0) (noCell_list _ _)
  have hT1R := hin _ hT1 (noCell_list _ _)
  have nod0R : ∀ u, u < ns.length → NodeB w (madeT ns as ws (fun u => kidI as M u) sa0 da0 qa0) ca0 (offL s1.heap.objs.size l1) u := fun u hu => (nod0 u hu).tod fun p hp hn => hin p (sub0 p hp) hn
  have nod1R : ∀ u, u < ns.length → NodeB w (madeT ns as ws (fun u => kidI as M u) sa1 da1 qa1) ca1 (offL s1.heap.objs.size l1) u := fun u hu => (nod1 u hu).tod fun p hp hn => hin p hp hn
  have hkR : ∀ u, u < ns.length → ∃ kv kc, (bs.getD u 0, PySem.W.listOf kv.toArray kc) ∈ offL s1.heap.objs.size l1 ∧ IntsAre kv (kidI as M u) ∧ ∀ v, v < ns.length → @LT.lt Nat _ (bs.getD u 0) (da0 v) := fun u hu => by
    obtain ⟨kv, kc, h1, h2⟩ := hk7 u (by omega)
    exact ⟨kv, kc, hin _ (subk _ h1) (noCell_list _ _), h2, fun v hv => lay0.new v hv (bs.getD u 0, PySem.W.listOf kv.toArray kc) (by repeat (first | with_reducible exact h1 | refine List.mem_cons_of_mem _ ?_))⟩
  have lay1' : ∀ v, v < ns.length → ∀ p ∈ l0, @LT.lt Nat _ p.1 (da1 v) := fun v hv p hp => lay1.new v hv p (by have h9 := List.mem_append_right r7 hp; repeat (first | with_reducible exact h9 | refine List.mem_cons_of_mem _ ?_))
  have oT0 : OffC s1.heap.objs.size T0 := fun c h1 h2 => OffR.ne hr1 h1 h2 _ hT0R
  have oT1 : OffC s1.heap.objs.size T1 := fun c h1 h2 => OffR.ne hr1 h1 h2 _ hT1R
  have sep : ∀ u v, u < ns.length → v < ns.length → @LT.lt Nat _ (da0 u) (da1 v) ∧ @LT.lt Nat _ (qa0 u) (da1 v) ∧ @LT.lt Nat _ T0 (da1 v) := fun u v hu hv => by
    obtain ⟨h1, ⟨k1, k2, k3, k4, k5, k6, k7, k8, j1, j2, j7, j8, b4, h2⟩, _, qs, n, h3, h4⟩ := nod0 u hu
    exact ⟨lay1' v hv _ h2, lay1' v hv _ h3, lay1' v hv _ hT0⟩
  have low0 : ∀ v, v < ns.length → @LT.lt Nat _ od (da0 v) ∧ @LT.lt Nat _ zD (da0 v) ∧ @LT.lt Nat _ D9 (da0 v) ∧ @LT.lt Nat _ D7 (da0 v) ∧ @LT.lt Nat _ al (da0 v) ∧ @LT.lt Nat _ wl (da0 v) ∧ @LT.lt Nat _ nl (da0 v) ∧ @LT.lt Nat _ (s1.heap.objs.size + 9) (da0 v) := fun v hv =>
    ⟨lay0.new v hv (od, PySem.W.listOf #[Value.ref D9, Value.ref zD] oc) (by k_mem), lay0.new v hv (zD, PySem.W.listOf zv.toArray zc) (by k_mem), lay0.new v hv (D9, LCg.lst ys9) (by k_mem), lay0.new v hv (D7, LCg.lst (List.map Value.ref bs)) (by k_mem), lay0.new v hv (al, PySem.W.listOf av.toArray ac) (by k_mem), lay0.new v hv (wl, PySem.W.listOf wv.toArray wc) (by k_mem), lay0.new v hv (nl, PySem.W.listOf nv.toArray nc) (by k_mem), lay0.new v hv (s1.heap.objs.size + 1 + 1 + 1 + 1 + 1 + 1 + 1 + 1 + 1, o1) (by k_mem)⟩
  have lay0s := lay0.o1
  have lay0o := lay0.o2
  have lay1s := lay1.o1
  have lay1o := lay1.o2
  clear N1 N2 F1 hbase hkb sub1 cls hin sub0 subk hk7 nod1 hT1 hr7 hT0 nod0
  generalize offL s1.heap.objs.size l1 = R at N3 hr1 hT0R hT1R nod0R nod1R hkR
  k_steps
  unfold Stop2
  rename Fr _ _ _ _ => F1; rename News _ _ _ _ => N1
  rename_i lT y12 lLT y13 oTr dTr
  rename_i u1 u2 u3 u4 u5 u6 u7 u8 u9 u10 u11 u12 u13 u14 u15 u16 u17 u18 u19 u20 u21 u22 u23 u24 u25 u26 u27 u28 u29 u30 u31 u32 u33 u34 u35 u36 u37 u38 u39 u40 u41 u42 u43 u44 u45 u46 u47 u48 u49 u50 u51 u52 u53 u54 u55
  revert w s₀ s1 mg mb Y fa o pm doc ho hg KX T u1 u2 script u3 u4 u5 u6 u7 u8 u9 sl sv las hL hI hcond K0 h1 tk1 o1 o2 o3 o4 o5 o6 o7 o8 o9 qk ek dc1 dc2 dc3 dc4 dc5 dc6 dc7 dc8 dc9 u10 u11 u12 u13 u14 u15 g2 ys l numbers hnl hnI D h tk hD u16 u17 dn u18 u19 u20 u21 u22 u23 u24 u25 u26 u27 u28 u29 M hM1 hM6 hMe tM dm g3 ys2 l2 D2 h2 tk2 hD2 nl nv nc z1 z2 z3 z4 z8 z9 z10 z11 z12 oN g4 ys3 l3 D3 h3 tk3 hD3 wl wv wc u30 y2 y3 u31 y8 y9 y10 y11 u32 oW g5 ys4 l4 D4 h4 tk4 hD4 al av ac x1 x2 oA dA oAl m1 en ew ns hnames lns dns ws hweights lws bws as habove las' as0 as1 bas u33 u34 u35 u36 u37 u38 g6 u39 oM bs r7 lbs D7 h7 tk7 hD7 u40 u41 u42 u43 u44 u45 u46 u47 u48 g8 ys8 l8 hI8 D8 h8 tk8 hD8 u49 u50 u51 u52 u53 u54 pD pw ms ph pI qD qw qn qh g9 hl1 hl2 ys9 l9 aks hI9 hak D9 h9 tk9 hD9 haz haz2 y1 oQ dQ sD sw sc od y4 ok oO hoD rest h10 tk10 zD zv zc oc zk hZ hzk oZ lna lnw u55 sa0 da0 ca0 qa0 T0 l0 h11 tk11 lay0 hDn0 base sa1 da1 ca1 qa1 T1 l1 h12 tk12 lay1 hDn1 lay1' oT0 oT1 sep low0 lay0s lay0o lay1s lay1o R hr1 hT0R hT1R nod0R nod1R hkR lT y12 lLT y13 oTr F1 N1 dTr Q9 hQ9
  exact hP9.out⟩
noncomputable def st13 : { P : Prop // Hid P → st12.val } := ⟨_, fun hP9 => by
  w_top off
  intro w s₀ s1 mg mb Y fa o pm doc ho hg KX T _ _ script _ _ _ _ _ _ _ sl sv las hL hI hcond K0 h1 tk1 o1 o2 o3 o4 o5 o6 o7 o8 o9 qk ek dc1 dc2 dc3 dc4 dc5 dc6 dc7 dc8 dc9 _ _ _ _ _ _ g2 ys l numbers hnl hnI D h tk hD _ _ dn _ _ _ _ _ _ _ _ _ _ _ _ M hM1 hM6 hMe tM dm g3 ys2 l2 D2 h2 tk2 hD2 nl nv nc z1 z2 z3 z4 z8 z9 z10 z11 z12 oN g4 ys3 l3 D3 h3 tk3 hD3 wl wv wc _ y2 y3 _ y8 y9 y10 y11 _ oW g5 ys4 l4 D4 h4 tk4 hD4 al av ac x1 x2 oA dA oAl m1 en ew ns hnames lns dns ws hweights lws bws as habove las' as0 as1 bas _ _ _ _ _ _ g6 _ oM bs r7 lbs D7 h7 tk7 hD7 _ _ _ _ _ _ _ _ _ g8 ys8 l8 hI8 D8 h8 tk8 hD8 _ _ _ _ _ _ pD pw ms ph pI qD qw qn qh g9 hl1 hl2 ys9 l9 aks hI9 hak D9 h9 tk9 hD9 haz haz2 y1 oQ dQ sD sw sc od y4 ok oO hoD rest h10 tk10 zD zv zc oc zk hZ hzk oZ lna lnw _ sa0 da0 ca0 qa0 T0 l0 h11 tk11 lay0 hDn0 base sa1 da1 ca1 qa1 T1 l1 h12 tk12 lay1 hDn1 lay1' oT0 oT1 sep low0 lay0s lay0o lay1s lay1o R hr1 hT0R hT1R nod0R nod1R hkR lT y12 lLT y13 oTr F1 N1 dTr Q9 hQ9
  refine LCg.Assign_ListComp_U (F₀ := by k_asm) (by rfl) (by with_unfolding_all rfl) (by rfl) (by decide) (by rfl) (by decide) (by rfl) (by rfl) (by rfl) ?_
  k_steps
  unfold Stop2
  rename Fr _ _ _ _ => F1; rename News _ _ _ _ => N1; rename IsRange _ _ _ _ _ _ _ _ => R1
  refine my_src (n9 := M + 1) (by rfl) F1 N1 R1 (my_small (by omega) (by omega) (by omega) (by omega)) (by rw [rangeSize_nat]; omega) (by rw [sizeLine_eq]; omega) ?_
  intro g13
  have ⟨base, hbase⟩ : ∃ b, News _ _ _ b ∧ b = _ := ⟨_, N1, rfl⟩
  have mQ : (D9, LCg.lst ys9) ∈ base := by rw [hbase.2]; k_mem
  refine comp_rest_J (fun i ys l => l = base ∧ IntsAre ys ((List.range i).map fun (k : Nat) => (((aks.map fun (a : Nat) => (a : Int)).count (k : Int) : Nat) : Int))) ⟨hbase.2.symm, .nil⟩ ?_ ?_
  · rintro i v ys l I oI C oC D m₂ h tk E' hi ⟨t, rfl⟩ ⟨rfl, hns⟩ hC hx F2 N2 off ne
    clear F1 N1 R1
    rw [hbase.2] at N2
    simp only [Int.zero_add] at hx
    k_steps
    rename Fr _ _ _ _ => F3; rename News _ _ _ _ => N3
    refine LCg.CompEnd.intro F3 N3 l (fun p hp => ?_) off trivial ⟨rfl, ints_step hns rfl⟩
    rw [hbase.2] at hp; exact hp
  rintro ys13 l13 ⟨rfl, hI13⟩ tD h13 tk13 F2 N2 oX1
  have otD := off1_mem oX1
  obtain ⟨m2, em, F3⟩ := fr_gen F2
  have en2 : m2 (Str.ofString "names") = some (.ref nl) := by rw [em]; with_unfolding_all exact en
  have ew2 : m2 (Str.ofString "weights") = some (.ref wl) := by rw [em]; with_unfolding_all exact ew
  have eo2 : m2 (Str.ofString "orders") = some (.ref od) := by rw [em]; with_unfolding_all rfl
  have et2 : m2 (Str.ofString "turns") = some (.ref tD) := by rw [em]; with_unfolding_all rfl
  have mO : (od, PySem.W.listOf #[Value.ref D9, Value.ref zD] oc) ∈ l13 := by rw [hbase.2]; k_mem
  have mZ : (zD, PySem.W.listOf zv.toArray zc) ∈ l13 := by rw [hbase.2]; k_mem
  have mAl : (al, PySem.W.listOf av.toArray ac) ∈ l13 := by rw [hbase.2]; k_mem
  have mWl : (wl, PySem.W.listOf wv.toArray wc) ∈ l13 := by rw [hbase.2]; k_mem
  have mNl : (nl, PySem.W.listOf nv.toArray nc) ∈ l13 := by rw [hbase.2]; k_mem
  have mBl : (D7, LCg.lst (List.map Value.ref bs)) ∈ l13 := by rw [hbase.2]; k_mem
  have mT : (lT, PySem.W.listOf #[Value.ref T0, Value.ref T1] 0) ∈ l13 := by rw [hbase.2]; k_mem
  obtain ⟨oMa, cMa, dMa⟩ : ∃ o, (s1.heap.objs.size + 1 + 1 + 1, o) ∈ l13 ∧ o.data = Data.cell (some (Value.int (M : Int) tM)) := ⟨_, by rw [hbase.2]; k_mem, dm⟩
  obtain ⟨oAb, cAb, dAb⟩ : ∃ o, (s1.heap.objs.size + 1 + 1 + 1 + 1, o) ∈ l13 ∧ o.data = Data.cell (some (Value.ref al)) := ⟨_, by rw [hbase.2]; k_mem, by assumption⟩
  obtain ⟨oBe, cBe, dBe⟩ : ∃ o, (s1.heap.objs.size + 1 + 1 + 1 + 1 + 1, o) ∈ l13 ∧ o.data = Data.cell (some (Value.ref D7)) := ⟨_, by rw [hbase.2]; k_mem, by assumption⟩
  obtain ⟨oTs, cTs, dTs⟩ : ∃ o, (s1.heap.objs.size + 1 + 1 + 1 + 1 + 1 + 1 + 1 + 1, o) ∈ l13 ∧ o.data = Data.cell (some (Value.ref lT)) := ⟨_, by rw [hbase.2]; k_mem, by assumption⟩
  have cG : (s1.heap.objs.size + 1 + 1 + 1 + 1 + 1 + 1 + 1 + 1 + 1, o1) ∈ l13 := by rw [hbase.2]; k_mem
  have hRl : ∀ p ∈ R, p ∈ l13 := fun p h9 => by rw [hbase.2]; repeat (first | with_reducible exact h9 | refine List.mem_cons_of_mem _ ?_)
  have hT0 := hRl _ hT0R
  have hT1 := hRl _ hT1R
  have nod0 : ∀ u, u < ns.length → Node w (madeT ns as ws (fun u => kidI as M u) sa0 da0 qa0) l13 (fun _ => 0) u := fun u hu => ((nod0R u hu).tod fun p hp _ => hRl p hp).node
  have nod1 : ∀ u, u < ns.length → Node w (madeT ns as ws (fun u => kidI as M u) sa1 da1 qa1) l13 (fun _ => 0) u := fun u hu => ((nod1R u hu).tod fun p hp _ => hRl p hp).node
  have hk8 : ∀ u, u < ns.length → ∃ kv kc, (bs.getD u 0, PySem.W.listOf kv.toArray kc) ∈ l13 ∧ IntsAre kv (kidI as M u) ∧ ∀ v, v < ns.length → @LT.lt Nat _ (bs.getD u 0) (da0 v) := fun u hu => by
    obtain ⟨kv, kc, h1, h2, h3⟩ := hkR u hu
    exact ⟨kv, kc, hRl _ h1, h2, h3⟩
  have oLT : OffC s1.heap.objs.size lT := fun c q1 q2 => by omega
  have lLT2 : AllLt lT R := lLT.2.2.2.2.2.2.2.2.2.2.2.2.2.2.2.2.2.2
  have fT : ∀ p ∈ R, @LT.lt Nat _ p.1 lT := fun p hp => tb_ltOf lLT2 p hp
  have frT : ∀ u, u < ns.length → @Ne Nat lT (da0 u) ∧ @Ne Nat lT (qa0 u) ∧ @Ne Nat lT (da1 u) ∧ @Ne Nat lT (qa1 u) := fun u hu => by
    obtain ⟨_, ⟨k1, k2, k3, k4, k5, k6, k7, k8, j1, j2, j7, j8, b4, h2⟩, _, qs, n, h3, h4⟩ := nod0R u hu
    obtain ⟨_, ⟨q1, q2, q3, q4, q5, q6, q7, q8, i1, i2, i7, i8, c4, g2⟩, _, qt, nn, g3, g4⟩ := nod1R u hu
    have a1 := fT _ h2
    have a2 := fT _ h3
    have a3 := fT _ g2
    have a4 := fT _ g3
    exact ⟨Ne.symm (Nat.ne_of_lt a1), Ne.symm (Nat.ne_of_lt a2), Ne.symm (Nat.ne_of_lt a3), Ne.symm (Nat.ne_of_lt a4)⟩
  clear oX1 F1 N1 R1 F2 em hbase lLT lLT2 fT hRl hkR nod0R nod1R hT0R hT1R hr1 lay0 lay1 lay1' hDn0 hDn1
  rename_i u1 u2 u3 u4 u5 u6 u7 u8 u9 u10 u11 u12 u13 u14 u15 u16 u17 u18 u19 u20 u21 u22 u23 u24 u25 u26 u27 u28 u29 u30 u31 u32 u33 u34 u35 u36 u37 u38 u39 u40 u41 u42 u43 u44 u45 u46 u47 u48 u49 u50 u51 u52 u53 u54 u55 u56 u57 u58 u59 u60 u61 u62 u63
  revert w s₀ s1 mg mb Y fa o pm doc ho hg KX T u1 u2 script u3 u4 u5 u6 u7 u8 u9 sl sv las hL hI hcond K0 h1 tk1 o1 o2 o3 o4 o5 o6 o7 o8 o9 qk ek dc1 dc2 dc3 dc4 dc5 dc6 dc7 dc8 dc9 u10 u11 u12 u13 u14 u15 g2 ys l numbers hnl hnI D h tk hD u16 u17 dn u18 u19 u20 u21 u22 u23 u24 u25 u26 u27 u28 u29 M hM1 hM6 hMe tM dm g3 ys2 l2 D2 h2 tk2 hD2 nl nv nc z1 z2 z3 z4 z8 z9 z10 z11 z12 oN g4 ys3 l3 D3 h3 tk3 hD3 wl wv wc u30 y2 y3 u31 y8 y9 y10 y11 u32 oW g5 ys4 l4 D4 h4 tk4 hD4 al av ac x1 x2 oA dA oAl m1 en ew ns hnames lns dns ws hweights lws bws as habove las' as0 as1 bas u33 u34 u35 u36 u37 u38 g6 u39 oM bs r7 lbs D7 h7 tk7 hD7 u40 u41 u42 u43 u44 u45 u46 u47 u48 g8 ys8 l8 hI8 D8 h8 tk8 hD8 u49 u50 u51 u52 u53 u54 pD pw ms ph pI qD qw qn qh g9 hl1 hl2 ys9 l9 aks hI9 hak D9 h9 tk9 hD9 haz haz2 y1 oQ dQ sD sw sc od y4 ok oO hoD rest h10 tk10 zD zv zc oc zk hZ hzk oZ lna lnw u55 sa0 da0 ca0 qa0 T0 l0 h11 tk11 base sa1 da1 ca1 qa1 T1 l1 h12 tk12 oT0 oT1 sep low0 lay0s lay0o lay1s lay1o R lT y12 y13 oTr u56 u57 dTr Q9 hQ9 u58 u59 u60 u61 u62 u63 g13 ys13 l13 hI13 mQ tD h13 tk13 N2 otD m2 F3 en2 ew2 eo2 et2 mO mZ mAl mWl mNl mBl mT oMa cMa dMa oAb cAb dAb oBe cBe dBe oTs cTs dTs cG hT0 hT1 nod0 nod1 hk8 oLT frT
  exact hP9.out⟩
noncomputable def st14 : { P : Prop // Hid P → st13.val } := ⟨_, fun hP9 => by
  w_top off
  intro w s₀ s1 mg mb Y fa o pm doc ho hg KX T _ _ script _ _ _ _ _ _ _ sl sv las hL hI hcond K0 h1 tk1 o1 o2 o3 o4 o5 o6 o7 o8 o9 qk ek dc1 dc2 dc3 dc4 dc5 dc6 dc7 dc8 dc9 _ _ _ _ _ _ g2 ys l numbers hnl hnI D h tk hD _ _ dn _ _ _ _ _ _ _ _ _ _ _ _ M hM1 hM6 hMe tM dm g3 ys2 l2 D2 h2 tk2 hD2 nl nv nc z1 z2 z3 z4 z8 z9 z10 z11 z12 oN g4 ys3 l3 D3 h3 tk3 hD3 wl wv wc _ y2 y3 _ y8 y9 y10 y11 _ oW g5 ys4 l4 D4 h4 tk4 hD4 al av ac x1 x2 oA dA oAl m1 en ew ns hnames lns dns ws hweights lws bws as habove las' as0 as1 bas _ _ _ _ _ _ g6 _ oM bs r7 lbs D7 h7 tk7 hD7 _ _ _ _ _ _ _ _ _ g8 ys8 l8 hI8 D8 h8 tk8 hD8 _ _ _ _ _ _ pD pw ms ph pI qD qw qn qh g9 hl1 hl2 ys9 l9 aks hI9 hak D9 h9 tk9 hD9 haz haz2 y1 oQ dQ sD sw sc od y4 ok oO hoD rest h10 tk10 zD zv zc oc zk hZ hzk oZ lna lnw _ sa0 da0 ca0 qa0 T0 l0 h11 tk11 base sa1 da1 ca1 qa1 T1 l1 h12 tk12 oT0 oT1 sep low0 lay0s lay0o lay1s lay1o R lT y12 y13 oTr _ _ dTr Q9 hQ9 _ _ _ _ _ _ g13 ys13 l13 hI13 mQ tD h13 tk13 N2 otD m2 F3 en2 ew2 eo2 et2 mO mZ mAl mWl mNl mBl mT oMa cMa dMa oAb cAb dAb oBe cBe dBe oTs cTs dTs cG hT0 hT1 nod0 nod1 hk8 oLT frT
  k_steps
  unfold Stop2
  rename Fr _ _ _ _ => F1; rename News _ _ _ _ => N1; rename IsRange _ _ _ _ _ _ _ _ => R1
  have hq16 : ∀ v, aks.count v ≤ 16 := fun v => count_le v haz
  have hup : ∀ v, 1 ≤ v → v ≤ M → (as.getD v 0).toNat < v := fun v h1 h2 => by have := bas v h1 (by omega); omega
  refine iter_rangeJ (n9 := M) (fun i m₁ l => m₁ (Str.ofString "names") = some (.ref nl) ∧ m₁ (Str.ofString "weights") = some (.ref wl) ∧ m₁ (Str.ofString "orders") = some (.ref od) ∧ m₁ (Str.ofString "turns") = some (.ref tD) ∧
      ∃ (tv : List Value) (tc : Nat) (tn : List Int) (tt : Nat → Nat), l = (tD, PySem.W.listOf tv.toArray tc) :: l13 ∧ IntsAre tv tn ∧ tn.length = M + 1 ∧ (∀ v, v ≤ M → tn.getD v 0 = (tt v : Int)) ∧ TS ns ws as M (fun v => aks.count v) i tt)
    (by rfl) (by rfl) R1 (my_small (by omega) (by omega) (by omega) (by omega)) (by rw [rangeSize_nat]; omega) F1 N1
    ⟨en2, ew2, eo2, et2, ys13, _, _, fun v => aks.count v, rfl, hI13, by simp, fun v hv => by rw [getD_map (by omega), count_int], TS.start hq16⟩ ?_
  intro I hI
  clear F1 N1 R1
  refine ⟨?_, ?_⟩
  · intro i t m₁ news₁ h1 tk1 o hi hoc hJ9 hoff F1 N1
    refine hideG fun G hG => ?_
    obtain ⟨f1, f2, f3, f4, tv, tc, tn, tt, rfl, hit, hlt, htt, hts⟩ := hJ9
    have e1 : (1 + (i : Int)).toNat = i + 1 := by omega
    have hp := bas (i + 1) (by omega) (by omega)
    obtain ⟨p, hpe⟩ : ∃ p : Nat, as.getD (1 + (i : Int)).toNat 0 = (p : Int) := ⟨(as.getD (i + 1) 0).toNat, by rw [e1]; omega⟩
    have hpi : p < i + 1 := by rw [e1] at hpe; omega
    obtain ⟨kv, kc, hkv, hki, _⟩ := hk8 p (by omega)
    subst hG
    have hxb : (bs.map Value.ref)[(as.getD (1 + (i : Int)).toNat 0).toNat]? = some (.ref (bs.getD p 0)) := by rw [hpe, Int.toNat_natCast]; exact at_ref (by omega)
    (k_steps)
    unfold Stop2
    rename Fr _ _ _ _ => F2; rename News _ _ _ _ => N2
    have ev : (1 + (i : Int)) = ((i + 1 : Nat) : Int) := by omega
    have eT : tn.getD (as.getD (1 + (i : Int)).toNat 0).toNat 0 = (tt p : Int) := by rw [hpe, Int.toNat_natCast]; exact htt p (by omega)
    have eV : tn.getD (1 + (i : Int)).toNat 0 = (aks.count (i + 1) : Nat) := by rw [e1, htt (i + 1) (by omega), hts.todo (i + 1) (by omega) (by omega)]
    rw [eT, eV, ev]
    have hb9 := hts.bnd p (by omega)
    refine share_call (h₀ := s1.heap) (v := i + 1) (M := tt p) (os := kidN as M p) (ns := ns) (ws := ws) (sl := bs.getD p 0) (nl := nl) (wl := wl) (sv := kv) (nv := nv) (wv := wv) (sc := kc) (nc := nc) (wc := wc) (B := K0) (F := F2) (X := KX) (N := N2) (T := T) (hk := by rfl) (hdp := by decide) (hun := by decide) (ms := by k_mem) (mn := by k_mem) (mw := by k_mem) (is := hki) (iN := hnames) (iw := hweights) (ho := fun o ho => by have := kidN_mem.mp ho; omega) (hnw := lnw) (hv := by omega) (hln := by omega) (hM := by omega) (hw := bws) (ret := ?ret1)
    intro r j h2 tk2 hr1 hr2 hr3 F3 N3
    clear F2 N2
    (k_steps)
    have N4 : News s1.heap s1.heap.objs.size h2 ((tD, PySem.W.listOf tv.toArray tc) :: (I, o) :: l13) := fun p hp => N3 p (by
      rcases List.mem_cons.mp hp with rfl | hp
      · exact .tail _ (.head _)
      rcases List.mem_cons.mp hp with rfl | hp
      · exact .head _
      · exact .tail _ (.tail _ hp))
    have hlv : tv.length = M + 1 := by have := hit.length; omega
    have htI : @Ne Nat tD I := hoff (tD, _) (.head _)
    refine my_set (vs9 := tv) (c9 := tc) (news9 := (I, o) :: l13) F3 N4 (fun p hp => by
      rcases List.mem_cons.mp hp with rfl | hp
      · exact Ne.symm htI
      · exact otD p hp) (by omega) (by omega) (by omega) ?_
    intro h3 F4 N5
    have e3 : ((i + 1 : Nat) : Int).toNat = i + 1 := by omega
    rw [e3] at N5
    (k_steps)
    have hpp : (as.getD (i + 1) 0).toNat = p := by rw [e1] at hpe; rw [hpe]; exact Int.toNat_natCast p
    refine TEnd.next F4 N5 (.tail _ (.head _)) ?_
    rw [List.filter_cons_of_pos (by simpa using htI), filter_own (fun p hp => hoff p (.tail _ hp))]
    refine ⟨by with_unfolding_all exact f1, by with_unfolding_all exact f2, by with_unfolding_all exact f3, by with_unfolding_all exact f4, _, tc, tn.set (i + 1) ((aks.count (i + 1) : Nat) + (r : Int)), _, rfl, ints_set hit _, by rw [List.length_set]; exact hlt, ts_set (x := aks.count (i + 1) + r) hlt htt hi (by omega), ?_⟩
    have := hts.step hq16 hi hup (r := r) (by rw [hpp]; exact ⟨hr1, hr2, hr3⟩)
    have e9 : (fun v => if v = i + 1 then aks.count (i + 1) + r else tt v) = (fun v => if v = i + 1 then aks.count v + r else tt v) := by
      funext v
      by_cases e : v = i + 1
      · subst e; rfl
      · rw [if_neg e, if_neg e]
    rw [e9]; exact this
  intro m₁ news₁ h1 tk1 hJ9 F1 N1
  refine hideG fun G hG => ?_
  obtain ⟨f1, f2, f3, f4, tv, tc, tn, tt, rfl, hit, hlt, htt, hts⟩ := hJ9
  subst hG
  rename_i u1 u2 u3 u4 u5 u6 u7 u8 u9 u10 u11 u12 u13 u14 u15 u16 u17 u18 u19 u20 u21 u22 u23 u24 u25 u26 u27 u28 u29 u30 u31 u32 u33 u34 u35 u36 u37 u38 u39 u40 u41 u42 u43 u44 u45 u46 u47 u48 u49 u50 u51 u52 u53 u54 u55 u56 u57 u58 u59 u60 u61 u62 u63 u64 u65 u66 u67 u68 u69 u70 u71 u72 u73 u74
  revert w s₀ s1 mg mb Y fa o pm doc ho hg KX T u1 u2 script u3 u4 u5 u6 u7 u8 u9 sl sv las hL u10 hcond K0 u11 u12 o1 o2 o3 o4 o5 o6 o7 o8 o9 qk ek dc1 dc2 dc3 dc4 dc5 dc6 dc7 dc8 dc9 u13 u14 u15 u16 u17 u18 g2 ys l numbers hnl hnI D h tk hD u19 u20 dn u21 u22 u23 u24 u25 u26 u27 u28 u29 u30 u31 u32 M hM1 hM6 hMe tM dm g3 ys2 l2 D2 h2 tk2 hD2 nl nv nc z1 z2 z3 z4 z8 z9 z10 z11 z12 oN g4 ys3 l3 D3 h3 tk3 hD3 wl wv wc u33 y2 y3 u34 y8 y9 y10 y11 u35 oW g5 ys4 l4 D4 h4 tk4 hD4 al av ac x1 x2 oA dA oAl m1 en ew ns hnames lns dns ws hweights lws bws as habove las' as0 as1 bas u36 u37 u38 u39 u40 u41 g6 u42 oM bs r7 lbs D7 h7 tk7 hD7 u43 u44 u45 u46 u47 u48 u49 u50 u51 g8 ys8 l8 hI8 D8 h8 tk8 hD8 u52 u53 u54 u55 u56 u57 pD pw ms ph pI qD qw qn qh g9 hl1 hl2 ys9 l9 aks hI9 hak D9 h9 tk9 hD9 haz haz2 y1 oQ dQ sD sw sc od y4 ok oO hoD rest h10 tk10 zD zv zc oc zk hZ hzk oZ lna lnw u58 sa0 da0 ca0 qa0 T0 l0 h11 tk11 base sa1 da1 ca1 qa1 T1 l1 h12 tk12 oT0 oT1 sep low0 lay0s lay0o lay1s lay1o R lT y12 y13 oTr u59 u60 dTr u61 u62 u63 u64 u65 u66 g13 ys13 l13 hI13 mQ tD h13 tk13 u67 otD m2 en2 ew2 eo2 et2 mO mZ mAl mWl mNl mBl mT oMa cMa dMa oAb cAb dAb oBe cBe dBe oTs cTs dTs cG hT0 hT1 nod0 nod1 hk8 oLT frT Q9 hQ9 u68 u69 u70 u71 u72 u73 u74 hq16 hup I hI m₁ h1 tk1 F1 f1 f2 f3 f4 tv tc tn tt N1 hit hlt htt hts
  exact hP9.out⟩
noncomputable def st15 : { P : Prop // Hid P → st14.val } := ⟨_, fun hP9 => by
  w_top off
  intro w s₀ s1 mg mb Y fa o pm doc ho hg KX T _ _ script _ _ _ _ _ _ _ sl sv las hL _ hcond K0 _ _ o1 o2 o3 o4 o5 o6 o7 o8 o9 qk ek dc1 dc2 dc3 dc4 dc5 dc6 dc7 dc8 dc9 _ _ _ _ _ _ g2 ys l numbers hnl hnI D h tk hD _ _ dn _ _ _ _ _ _ _ _ _ _ _ _ M hM1 hM6 hMe tM dm g3 ys2 l2 D2 h2 tk2 hD2 nl nv nc z1 z2 z3 z4 z8 z9 z10 z11 z12 oN g4 ys3 l3 D3 h3 tk3 hD3 wl wv wc _ y2 y3 _ y8 y9 y10 y11 _ oW g5 ys4 l4 D4 h4 tk4 hD4 al av ac x1 x2 oA dA oAl m1 en ew ns hnames lns dns ws hweights lws bws as habove las' as0 as1 bas _ _ _ _ _ _ g6 _ oM bs r7 lbs D7 h7 tk7 hD7 _ _ _ _ _ _ _ _ _ g8 ys8 l8 hI8 D8 h8 tk8 hD8 _ _ _ _ _ _ pD pw ms ph pI qD qw qn qh g9 hl1 hl2 ys9 l9 aks hI9 hak D9 h9 tk9 hD9 haz haz2 y1 oQ dQ sD sw sc od y4 ok oO hoD rest h10 tk10 zD zv zc oc zk hZ hzk oZ lna lnw _ sa0 da0 ca0 qa0 T0 l0 h11 tk11 base sa1 da1 ca1 qa1 T1 l1 h12 tk12 oT0 oT1 sep low0 lay0s lay0o lay1s lay1o R lT y12 y13 oTr _ _ dTr _ _ _ _ _ _ g13 ys13 l13 hI13 mQ tD h13 tk13 _ otD m2 en2 ew2 eo2 et2 mO mZ mAl mWl mNl mBl mT oMa cMa dMa oAb cAb dAb oBe cBe dBe oTs cTs dTs cG hT0 hT1 nod0 nod1 hk8 oLT frT Q9 hQ9 _ _ _ _ _ _ _ hq16 hup I hI m₁ h1 tk1 F1 f1 f2 f3 f4 tv tc tn tt N1 hit hlt htt hts
  clear hq16 hup
  obtain ⟨TA, hTA⟩ : ∃ T : Tr, T = madeT ns as ws (fun u => kidI as M u) sa0 da0 qa0 := ⟨_, rfl⟩
  obtain ⟨TB, hTB⟩ : ∃ T : Tr, T = madeT ns as ws (fun u => kidI as M u) sa1 da1 qa1 := ⟨_, rfl⟩
  have wfA : TA.WF := by rw [hTA]; exact madeT_wf (ca := ca0) hM6 lns lws (by omega) bas bws dns ⟨lay0s, lay0o, fun v hv p hp => nomatch hp⟩
  have wfB : TB.WF := by rw [hTB]; exact madeT_wf (ca := ca1) hM6 lns lws (by omega) bas bws dns ⟨lay1s, lay1o, fun v hv p hp => nomatch hp⟩
  have mA : TA.many = M := by rw [hTA]; show ns.length - 1 = M; omega
  have mB : TB.many = M := by rw [hTB]; show ns.length - 1 = M; omega
  have saA : TA.sa = sa0 := by rw [hTA]; rfl
  have daA : TA.da = da0 := by rw [hTA]; rfl
  have qaA : TA.qa = qa0 := by rw [hTA]; rfl
  have saB : TB.sa = sa1 := by rw [hTB]; rfl
  have daB : TB.da = da1 := by rw [hTB]; rfl
  have qaB : TB.qa = qa1 := by rw [hTB]; rfl
  have nodA : ∀ u, u ≤ M → Node w TA l13 (fun _ => 0) u := fun u hu => by rw [hTA]; exact nod0 u (by omega)
  have nodB : ∀ u, u ≤ M → Node w TB l13 (fun _ => 0) u := fun u hu => by rw [hTB]; exact nod1 u (by omega)
  clear nod0 nod1
  have hT0' : (T0, LCg.lst ((List.range (M + 1)).map fun v => Value.ref (TA.sa v))) ∈ l13 := by rw [saA, ← lns]; exact hT0
  have hT1' : (T1, LCg.lst ((List.range (M + 1)).map fun v => Value.ref (TB.sa v))) ∈ l13 := by rw [saB, ← lns]; exact hT1
  clear hT0 hT1
  have N2 : News s1.heap s1.heap.objs.size h1 l13 := fun p hp => N1 p (.tail _ hp)
  have ordA : ∀ u, u ≤ M → @LT.lt Nat _ (TA.da u) (TA.sa u) ∧ @LT.lt Nat _ (TA.sa u) (TA.qa u) := fun u hu => by
    rw [saA, daA, qaA]
    have a := lay0s u (by omega)
    exact ⟨a.1, by omega⟩
  have ordB : ∀ u, u ≤ M → @LT.lt Nat _ (TB.da u) (TB.sa u) ∧ @LT.lt Nat _ (TB.sa u) (TB.qa u) := fun u hu => by
    rw [saB, daB, qaB]
    have a := lay1s u (by omega)
    exact ⟨a.1, by omega⟩
  have sepAB : ∀ u v, u ≤ M → v ≤ M → @LT.lt Nat _ (TA.qa u) (TB.da v) ∧ @LT.lt Nat _ (TA.da u) (TB.da v) := fun u v hu hv => by
    rw [daA, qaA, daB]
    have a := sep u v (by omega) (by omega)
    exact ⟨a.2.1, a.1⟩
  have freL : ∀ a : Nat, (∀ v, v ≤ M → @LT.lt Nat _ a (TA.da v)) → Fre M TA.da TA.qa a ∧ Fre M TB.da TB.qa a := fun a ha => by
    refine ⟨fun u hu => ?_, fun u hu => ?_⟩
    · have h1 := ha u hu
      have h2 := ordA u hu
      exact ⟨by omega, by omega⟩
    · have h1 := ha u hu
      have h2 := ordB u hu
      have h3 := sepAB u u hu hu
      exact ⟨by omega, by omega⟩
  have low : ∀ v, v ≤ M → @LT.lt Nat _ od (TA.da v) ∧ @LT.lt Nat _ zD (TA.da v) ∧ @LT.lt Nat _ D9 (TA.da v) ∧ @LT.lt Nat _ D7 (TA.da v) ∧ @LT.lt Nat _ al (TA.da v) ∧ @LT.lt Nat _ wl (TA.da v) ∧ @LT.lt Nat _ nl (TA.da v) ∧ @LT.lt Nat _ (s1.heap.objs.size + 9) (TA.da v) := fun v hv => by rw [daA]; exact low0 v (by omega)
  have fO := freL od fun v hv => (low v hv).1
  have fZ := freL zD fun v hv => (low v hv).2.1
  have fQ := freL D9 fun v hv => (low v hv).2.2.1
  have fBl := freL D7 fun v hv => (low v hv).2.2.2.1
  have fNl := freL nl fun v hv => (low v hv).2.2.2.2.2.2.1
  have fC : ∀ c : Nat, c ≤ s1.heap.objs.size + 9 → Fre M TA.da TA.qa c ∧ Fre M TB.da TB.qa c := fun c hc => freL c fun v hv => by
    have := (low v hv).2.2.2.2.2.2.2
    omega
  have fK : ∀ u, u ≤ M → ∃ kv kc, (bs.getD u 0, PySem.W.listOf kv.toArray kc) ∈ l13 ∧ IntsAre kv (kidI as M u) ∧ Fre M TA.da TA.qa (bs.getD u 0) ∧ Fre M TB.da TB.qa (bs.getD u 0) := fun u hu => by
    obtain ⟨kv, kc, h1, h2, h3⟩ := hk8 u (by omega)
    exact ⟨kv, kc, h1, h2, freL _ fun v hv => by rw [daA]; exact h3 v (by omega)⟩
  have fT : Fre M TA.da TA.qa lT ∧ Fre M TB.da TB.qa lT := ⟨fun u hu => by rw [daA, qaA]; exact ⟨(frT u (by omega)).1, (frT u (by omega)).2.1⟩, fun u hu => by rw [daB, qaB]; exact (frT u (by omega)).2.2⟩
  have f0 : Fre M TA.da TA.qa T0 ∧ Fre M TB.da TB.qa T0 := ⟨fun u hu => tree_list_ne N2 (by omega) hT0' (nodA 0 (by omega)).1 (nodA u hu), fun u hu => tree_list_ne N2 (by omega) hT0' (nodA 0 (by omega)).1 (nodB u hu)⟩
  have f1' : Fre M TA.da TA.qa T1 ∧ Fre M TB.da TB.qa T1 := ⟨fun u hu => tree_list_ne N2 (by omega) hT1' (nodB 0 (by omega)).1 (nodA u hu), fun u hu => tree_list_ne N2 (by omega) hT1' (nodB 0 (by omega)).1 (nodB u hu)⟩
  have dq_of : ∀ {T : Tr} {u : Nat}, Node w T l13 (fun _ => 0) u → @Ne Nat tD (T.da u) ∧ @Ne Nat tD (T.qa u) := fun nu => by
    obtain ⟨g1, ⟨k1, k2, k3, k4, k5, k6, k7, k8, j1, j2, j7, j8, b3, b4, lw, g2⟩, qs, n2, g3, g4⟩ := nu
    exact ⟨Ne.symm (otD _ g2), Ne.symm (otD _ g3)⟩
  have fD : Fre M TA.da TA.qa tD ∧ Fre M TB.da TB.qa tD := ⟨fun u hu => dq_of (nodA u hu), fun u hu => dq_of (nodB u hu)⟩
  clear low low0 freL frT hk8 sep dq_of N2
  k_steps
  unfold Stop2
  rename Fr _ _ _ _ => F1; rename News _ _ _ _ => N1; rename IsRange _ _ _ _ _ _ _ _ => R1
  rename_i u1 u2 u3 u4 u5 u6 u7 u8 u9 u10 u11 u12 u13 u14 u15 u16 u17 u18 u19 u20 u21 u22 u23 u24 u25 u26 u27 u28 u29 u30 u31 u32 u33 u34 u35 u36 u37 u38 u39 u40 u41 u42 u43 u44 u45 u46 u47 u48 u49 u50 u51 u52 u53 u54 u55 u56 u57 u58 u59 u60 u61 u62 u63 u64 u65 u66 u67 u68 u69 u70 u71 u72 u73 u74 u75 u76 u77 u78 u79 u80 u81 u82
  revert w s₀ s1 mg mb Y fa o pm doc ho hg KX T u1 u2 script u3 u4 u5 u6 u7 u8 u9 sl sv las hL u10 hcond K0 u11 u12 o1 o2 o3 o4 o5 o6 o7 o8 o9 qk ek dc1 dc2 dc3 dc4 dc5 dc6 dc7 dc8 dc9 u13 u14 u15 u16 u17 u18 g2 ys l numbers hnl hnI D h tk hD u19 u20 dn u21 u22 u23 u24 u25 u26 u27 u28 u29 u30 u31 u32 M hM1 hM6 hMe tM dm g3 ys2 l2 D2 h2 tk2 hD2 nl nv nc z1 z2 z3 z4 z8 z9 z10 z11 z12 oN g4 ys3 l3 D3 h3 tk3 hD3 wl wv wc u33 y2 y3 u34 y8 y9 y10 y11 u35 oW g5 ys4 l4 D4 h4 tk4 hD4 al av ac x1 x2 oA dA oAl m1 en ew ns hnames lns dns ws hweights lws bws as habove las' as0 as1 bas u36 u37 u38 u39 u40 u41 g6 u42 oM bs r7 lbs D7 h7 tk7 hD7 u43 u44 u45 u46 u47 u48 u49 u50 u51 g8 ys8 l8 hI8 D8 h8 tk8 hD8 u52 u53 u54 u55 u56 u57 pD pw ms ph pI qD qw qn qh g9 hl1 hl2 ys9 l9 aks hI9 hak D9 h9 tk9 hD9 haz haz2 y1 oQ dQ sD sw sc od y4 ok oO hoD rest h10 tk10 zD zv zc oc zk hZ hzk oZ lna lnw u58 sa0 da0 ca0 qa0 T0 l0 h11 tk11 base sa1 da1 ca1 qa1 T1 l1 h12 tk12 oT0 oT1 lay0s lay0o lay1s lay1o R lT y12 y13 oTr u59 u60 dTr u61 u62 u63 u64 u65 u66 g13 ys13 l13 hI13 mQ tD h13 tk13 u67 otD m2 en2 ew2 eo2 et2 mO mZ mAl mWl mNl mBl mT oMa cMa dMa oAb cAb dAb oBe cBe dBe oTs cTs dTs cG oLT u68 u69 u70 u71 u72 u73 u74 I hI m₁ h1 tk1 f1 f2 f3 f4 tv tc tn tt u75 hit hlt htt hts TA hTA TB hTB wfA wfB mA mB saA daA qaA saB daB qaB nodA nodB hT0' hT1' ordA ordB sepAB fO fZ fQ fBl fNl fC fK fT f0 f1' fD Q9 hQ9 u76 u77 u78 u79 u80 u81 R1 F1 N1 u82
  exact hP9.out⟩
noncomputable def st16 : { P : Prop // Hid P → st15.val } := ⟨_, fun hP9 => by
  w_top off
  intro w s₀ s1 mg mb Y fa o pm doc ho hg KX T _ _ script _ _ _ _ _ _ _ sl sv las hL _ hcond K0 _ _ o1 o2 o3 o4 o5 o6 o7 o8 o9 qk ek dc1 dc2 dc3 dc4 dc5 dc6 dc7 dc8 dc9 _ _ _ _ _ _ g2 ys l numbers hnl hnI D h tk hD _ _ dn _ _ _ _ _ _ _ _ _ _ _ _ M hM1 hM6 hMe tM dm g3 ys2 l2 D2 h2 tk2 hD2 nl nv nc z1 z2 z3 z4 z8 z9 z10 z11 z12 oN g4 ys3 l3 D3 h3 tk3 hD3 wl wv wc _ y2 y3 _ y8 y9 y10 y11 _ oW g5 ys4 l4 D4 h4 tk4 hD4 al av ac x1 x2 oA dA oAl m1 en ew ns hnames lns dns ws hweights lws bws as habove las' as0 as1 bas _ _ _ _ _ _ g6 _ oM bs r7 lbs D7 h7 tk7 hD7 _ _ _ _ _ _ _ _ _ g8 ys8 l8 hI8 D8 h8 tk8 hD8 _ _ _ _ _ _ pD pw ms ph pI qD qw qn qh g9 hl1 hl2 ys9 l9 aks hI9 hak D9 h9 tk9 hD9 haz haz2 y1 oQ dQ sD sw sc od y4 ok oO hoD rest h10 tk10 zD zv zc oc zk hZ hzk oZ lna lnw _ sa0 da0 ca0 qa0 T0 l0 h11 tk11 base sa1 da1 ca1 qa1 T1 l1 h12 tk12 oT0 oT1 lay0s lay0o lay1s lay1o R lT y12 y13 oTr _ _ dTr _ _ _ _ _ _ g13 ys13 l13 hI13 mQ tD h13 tk13 _ otD m2 en2 ew2 eo2 et2 mO mZ mAl mWl mNl mBl mT oMa cMa dMa oAb cAb dAb oBe cBe dBe oTs cTs dTs cG oLT _ _ _ _ _ _ _ I hI m₁ h1 tk1 f1 f2 f3 f4 tv tc tn tt _ hit hlt htt hts TA hTA TB hTB wfA wfB mA mB saA daA qaA saB daB qaB nodA nodB hT0' hT1' ordA ordB sepAB fO fZ fQ fBl fNl fC fK fT f0 f1' fD Q9 hQ9 _ _ _ _ _ _ R1 F1 N1 _
  obtain ⟨base, hbase⟩ : ∃ b, b = (tD, PySem.W.listOf tv.toArray tc) :: l13 := ⟨_, rfl⟩
  rw [← hbase] at N1
  have hsubB : ∀ p ∈ l13, p ∈ base := fun p hp => by rw [hbase]; exact .tail _ hp
  have nk9 : ∀ u, u ≤ M → @Ne Nat (bs.getD u 0) (s1.heap.objs.size + 1 + 1 + 1 + 1 + 1 + 1 + 1 + 1 + 1) := fun u hu e => by
    obtain ⟨kv, kc, q1, _⟩ := fK u hu
    have e' : bs.getD u 0 = s1.heap.objs.size + 1 + 1 + 1 + 1 + 1 + 1 + 1 + 1 + 1 := e
    rw [e'] at q1
    have q2 := news_fun N1 (hsubB _ q1) (hsubB _ cG)
    rw [← q2] at dc1
    cases dc1
  refine iter_rangeJ (n9 := 2) (fun g m₁ l => m₁ (Str.ofString "names") = some (.ref nl) ∧ m₁ (Str.ofString "orders") = some (.ref od) ∧ m₁ (Str.ofString "turns") = some (.ref tD) ∧
      (∃ (og : Obj) (cv : Option Value), (s1.heap.objs.size + 1 + 1 + 1 + 1 + 1 + 1 + 1 + 1 + 1, og) ∈ l ∧ og.data = Data.cell cv) ∧
      (∀ p ∈ base, @Ne Nat p.1 (s1.heap.objs.size + 1 + 1 + 1 + 1 + 1 + 1 + 1 + 1 + 1) → Fre M TA.da TA.qa p.1 → Fre M TB.da TB.qa p.1 → p ∈ l) ∧
      ∃ (c0 c1 : Nat → Nat) (r0 r1 : List Int), (g = 0 → r0 = []) ∧ (g ≤ 1 → r1 = []) ∧ Ran TA (if 0 < g then aks else []) r0 c0 ∧ Ran TB (if 1 < g then zk else []) r1 c1 ∧ (∀ u, u ≤ M → Node w TA l c0 u) ∧ (∀ u, u ≤ M → Node w TB l c1 u))
    (by rfl) (by rfl) R1 (my_small (by omega) (by omega) (by omega) (by omega)) (by rw [rangeSize_nat]; omega) F1 N1
    ⟨f1, f3, f4, ⟨o1, _, hsubB _ cG, dc1⟩, fun p hp _ _ _ => hp, fun _ => 0, fun _ => 0, [], [], fun _ => rfl, fun _ => rfl, Ran.start _, Ran.start _, fun u hu => (nodA u hu).mono hsubB, fun u hu => (nodB u hu).mono hsubB⟩ ?_
  intro I hI
  clear F1 N1 R1
  refine ⟨?_, ?_⟩
  · intro i t m₁ news₁ h2 tk2 o hi hoc hJ9 hoff F1 N1
    refine hideG fun G hG => ?_
    obtain ⟨g1, g3, g4, ⟨og, cv, mg, dg⟩, hbk, c0, c1, r0, r1, z0, z1, R0, R1, n0, n1⟩ := hJ9
    have hK : ∃ (TG TO : Tr) (cG0 cO : Nat → Nat) (oA TD : Nat) (ov : List Value) (oc2 : Nat) (ks : List Nat),
        TG.WF ∧ TG.many = M ∧ (∀ u, u ≤ M → TG.lf u = decide (kidI as M u = [])) ∧ (∀ u, TG.nm u = ns.getD u 0) ∧ ks.Perm aks ∧
        [Value.ref D9, Value.ref zD][((i : Nat) : Int).toNat]? = some (.ref oA) ∧ (oA, PySem.W.listOf ov.toArray oc2) ∈ base ∧ @Ne Nat oA (s1.heap.objs.size + 1 + 1 + 1 + 1 + 1 + 1 + 1 + 1 + 1) ∧ (Fre M TA.da TA.qa oA ∧ Fre M TB.da TB.qa oA) ∧ IntsAre ov (ks.map fun (a : Nat) => (a : Int)) ∧
        [Value.ref T0, Value.ref T1][((i : Nat) : Int).toNat]? = some (.ref TD) ∧ (TD, LCg.lst ((List.range (M + 1)).map fun v => Value.ref (TG.sa v))) ∈ base ∧ @Ne Nat TD (s1.heap.objs.size + 1 + 1 + 1 + 1 + 1 + 1 + 1 + 1 + 1) ∧ (Fre M TA.da TA.qa TD ∧ Fre M TB.da TB.qa TD) ∧
        (∀ a : Nat, Fre M TA.da TA.qa a ∧ Fre M TB.da TB.qa a → Fre M TG.da TG.qa a) ∧
        Ran TG [] [] cG0 ∧ (∀ u, u ≤ M → Node w TG news₁ cG0 u) ∧ (∀ u, u ≤ M → Node w TO news₁ cO u) ∧
        (∀ v, v ≤ M → Fre M TG.da TG.qa (TO.sa v) ∧ Fre M TG.da TG.qa (TO.da v) ∧ Fre M TG.da TG.qa (TO.qa v)) ∧
        (∀ v rs cnt, v ≤ M → Ran TG ks rs cnt → tn.getD v 0 = (aks.count v + cnt v : Nat)) ∧
        (∀ l rs cnt, Ran TG ks rs cnt → (∀ u, u ≤ M → Node w TG l cnt u) → (∀ u, u ≤ M → Node w TO l cO u) →
          ∃ (c0 c1 : Nat → Nat) (r0 r1 : List Int), (i + 1 = 0 → r0 = []) ∧ (i + 1 ≤ 1 → r1 = []) ∧ Ran TA (if 0 < i + 1 then aks else []) r0 c0 ∧ Ran TB (if 1 < i + 1 then zk else []) r1 c1 ∧ (∀ u, u ≤ M → Node w TA l c0 u) ∧ (∀ u, u ≤ M → Node w TB l c1 u)) := by
      rcases (show i = 0 ∨ i = 1 by omega) with rfl | rfl
      · have e0 := z0 rfl
        have e1 := z1 (by omega)
        subst e0 e1
        refine ⟨TA, TB, c0, c1, D9, T0, ys9, _, aks, wfA, mA, fun u _ => by rw [hTA]; rfl, fun u => by rw [hTA]; rfl, List.Perm.refl _, rfl, hsubB _ mQ, OffC.ne hD9 (by omega) (by omega), fQ, hI9, rfl, hsubB _ hT0', OffC.ne oT0 (by omega) (by omega), f0, fun a h => h.1, R0, n0, n1, fun v hv => ?_, fun v rs cnt hv hR => ?_, fun l rs cnt hR h1 h2 => ⟨cnt, c1, rs, [], fun h => absurd h (by omega), fun _ => rfl, hR, R1, h1, h2⟩⟩
        · have b := ordB v hv
          exact ⟨fun u hu => by have a := sepAB u v hu hv; exact ⟨by omega, by omega⟩, fun u hu => by have a := sepAB u v hu hv; exact ⟨by omega, by omega⟩, fun u hu => by have a := sepAB u v hu hv; exact ⟨by omega, by omega⟩⟩
        · rw [hTA] at hR wfA
          rw [htt v hv, turns_eq (ca := ca0) hM6 lns lws (by omega) bas wfA hR hts (fun v => rfl) v hv]
      · have e1 := z1 (by omega)
        subst e1
        refine ⟨TB, TA, c1, c0, zD, T1, zv, zc, zk, wfB, mB, fun u _ => by rw [hTB]; rfl, fun u => by rw [hTB]; rfl, hzk, rfl, hsubB _ mZ, OffC.ne oZ (by omega) (by omega), fZ, hZ, rfl, hsubB _ hT1', OffC.ne oT1 (by omega) (by omega), f1', fun a h => h.2, R1, n1, n0, fun v hv => ?_, fun v rs cnt hv hR => ?_, fun l rs cnt hR h1 h2 => ⟨c0, cnt, r0, rs, fun h => absurd h (by omega), fun h => absurd h (by omega), R0, hR, h2, h1⟩⟩
        · have b := ordA v hv
          exact ⟨fun u hu => by have a := sepAB v u hv hu; have c := ordB u hu; exact ⟨by omega, by omega⟩, fun u hu => by have a := sepAB v u hv hu; have c := ordB u hu; exact ⟨by omega, by omega⟩, fun u hu => by have a := sepAB v u hv hu; have c := ordB u hu; exact ⟨by omega, by omega⟩⟩
        · rw [hTB] at hR wfB
          rw [htt v hv, turns_eq (ca := ca1) hM6 lns lws (by omega) bas wfB hR hts (fun v => (hzk.count_eq v).symm) v hv]
    obtain ⟨TG, TO, cG0, cO, oA, TD, ov, oc2, ks, wfG, mG, lfG, nmG, hks, hx1, mOA, neOA, frOA, hov, hx2, mTD, neTD, frTD, frG, RG, nG, nO, sepO, tnG, finG⟩ := hK
    subst hG
    rw [Int.zero_add]
    clear n0 n1 R0 R1
    have offL9 : ∀ p ∈ news₁, NoCell p.2 → @Ne Nat p.1 (s1.heap.objs.size + 1 + 1 + 1 + 1 + 1 + 1 + 1 + 1 + 1) := fun p hp hn e => by
      obtain ⟨pa, po⟩ := p
      have e' : pa = s1.heap.objs.size + 1 + 1 + 1 + 1 + 1 + 1 + 1 + 1 + 1 := e
      subst e'
      have := news_fun (fun q hq => N1 q (.tail _ hq)) hp mg
      subst this
      exact hn _ dg
    obtain ⟨rest, hrest⟩ : ∃ rest : List (Addr × Obj), ∀ q, q ∈ rest ↔ q ∈ news₁ ∧ @Ne Nat q.1 (s1.heap.objs.size + 1 + 1 + 1 + 1 + 1 + 1 + 1 + 1 + 1) := ⟨news₁.filter fun q => decide (@Ne Nat q.1 (s1.heap.objs.size + 1 + 1 + 1 + 1 + 1 + 1 + 1 + 1 + 1)), fun q => by rw [List.mem_filter, decide_eq_true_eq]⟩
    have N2 : News s1.heap s1.heap.objs.size h2 ((s1.heap.objs.size + 1 + 1 + 1 + 1 + 1 + 1 + 1 + 1 + 1, og) :: (I, o) :: rest) := fun p hp => by
      rcases List.mem_cons.mp hp with rfl | hp
      · exact N1 _ (.tail _ mg)
      rcases List.mem_cons.mp hp with rfl | hp
      · exact N1 _ (.head _)
      · exact N1 _ (.tail _ ((hrest p).mp hp).1)
    have offg : ∀ q ∈ rest, @Ne Nat q.1 (s1.heap.objs.size + 1 + 1 + 1 + 1 + 1 + 1 + 1 + 1 + 1) := fun q hq => ((hrest q).mp hq).2
    have offIg : @Ne Nat I (s1.heap.objs.size + 1 + 1 + 1 + 1 + 1 + 1 + 1 + 1 + 1) := Ne.symm (hoff _ mg)
    have nGr : ∀ u, u ≤ M → Node w TG rest cG0 u := fun u hu => (nG u hu).tod fun p hp hn => (hrest p).mpr ⟨hp, offL9 p hp hn⟩
    have nOr : ∀ u, u ≤ M → Node w TO rest cO u := fun u hu => (nO u hu).tod fun p hp hn => (hrest p).mpr ⟨hp, offL9 p hp hn⟩
    have hbr : ∀ p ∈ base, @Ne Nat p.1 (s1.heap.objs.size + 1 + 1 + 1 + 1 + 1 + 1 + 1 + 1 + 1) → Fre M TA.da TA.qa p.1 → Fre M TB.da TB.qa p.1 → p ∈ rest := fun p hp h1 h2 h3 => (hrest p).mpr ⟨hbk p hp h1 h2 h3, h1⟩
    have mO' := hbr _ (hsubB _ mO) (OffC.ne oO (by omega) (by omega)) fO.1 fO.2
    have oT' := hbr _ (hsubB _ mT) (OffC.ne oLT (by omega) (by omega)) fT.1 fT.2
    clear N1 nG nO offL9
    (k_steps)
    unfold Stop2
    rename _ = Data.cell (some (Value.int (i : Int) _)) => dg2
    rename Fr _ _ _ _ => F2; rename News _ _ _ _ => N3; rename Obj => og2
    refine Assign_comp_L (F₀ := by k_asm) (by rfl) (by with_unfolding_all rfl) (by rfl) (by decide) (by rfl) (by decide) (by rfl) (by rfl) (by rfl) ?_
    (k_steps)
    have mOA' := hbr _ mOA neOA frOA.1 frOA.2
    have mTD' := hbr _ mTD neTD frTD.1 frTD.2
    have cTs' := hbr _ (hsubB _ cTs) (by show (_ : Nat) ≠ _; omega) (fC _ (by omega)).1 (fC _ (by omega)).2
    have hlo : ov.length = ks.length := by have := hov.length; simpa using this
    have hkl : ks.length ≤ 16 := by rw [hks.length_eq]; exact haz
    obtain ⟨BS, hBS⟩ : ∃ b, b = ((s1.heap.objs.size + 1 + 1 + 1 + 1 + 1 + 1 + 1 + 1 + 1, og2) :: (I, o) :: rest) := ⟨_, rfl⟩
    have sBS : ∀ p ∈ rest, p ∈ BS := fun p hp => by rw [hBS]; exact .tail _ (.tail _ hp)
    have mgB : (s1.heap.objs.size + 1 + 1 + 1 + 1 + 1 + 1 + 1 + 1 + 1, og2) ∈ BS := by rw [hBS]; exact .head _
    have frg : Fre M TG.da TG.qa (s1.heap.objs.size + 1 + 1 + 1 + 1 + 1 + 1 + 1 + 1 + 1) := frG _ (fC _ (by omega))
    rw [← hBS] at N3
    refine ⟨oA, ov, oc2, BS, rfl, by rfl, F2, N3, sBS _ mOA', by omega, ?_⟩
    rintro _ ⟨g16, rfl⟩
    refine restL_J (fun i2 ys l => (∀ p ∈ BS, Fre M TG.da TG.qa p.1 → p ∈ l) ∧ ∃ (cnt : Nat → Nat) (rs : List Int), IntsAre ys rs ∧ Ran TG (ks.take i2) rs cnt ∧ ∀ u, u ≤ M → Node w TG l cnt u) ⟨fun p hp _ => hp, cG0, [], .nil, RG, fun u hu => (nGr u hu).mono sBS⟩ ?_ ?_
    · intro i2 v ys l Ic oI C oC D m₂ h3 tk3 E' hi2 hv hJ8 cI hC hx F4 N4 off ne
      refine hideG fun G hG => ?_
      obtain ⟨hkp, cnt, rs, hys, hR, hNd⟩ := hJ8
      have hi3 : i2 < ks.length := by omega
      obtain ⟨t3, hx9⟩ := hov.get i2 (ks[i2] : Int) (by simp [hi3])
      rw [hv] at hx9
      cases hx9
      have hkm : ks[i2] ∈ aks := hks.mem_iff.mp (List.getElem_mem hi3)
      obtain ⟨kM', kk⟩ := headN_mem (hak _ hkm)
      have etake : ks.take (i2 + 1) = ks.take i2 ++ [ks[i2]] := (List.take_append_getElem hi3).symm
      generalize ks[i2] = k at hx hkm kM' kk etake hv
      have kM : k ≤ M := by omega
      have hlf : TG.lf k = false := by rw [lfG k kM]; exact decide_eq_false kk
      have hxk : ((List.range (M + 1)).map fun v => Value.ref (TG.sa v))[((k : Nat) : Int).toNat]? = some (.ref (TG.sa k)) := by rw [Int.toNat_natCast]; exact at_map _ (by omega)
      obtain ⟨a1, ⟨q1, q2, q3, q4, q5, q6, q7, q8, j1, j2, j7, j8, b3, b4, lw, a2⟩, _⟩ := id (hNd k kM)
      subst hG
      have c8 := hkp _ (sBS _ cTs') (frG _ (fC _ (by omega)))
      have c9 := hkp _ mgB frg
      have mT2 := hkp _ (sBS _ oT') (frG _ fT)
      have mTD2 := hkp _ (sBS _ mTD') (frG _ frTD)
      (k_steps)
      unfold Stop2
      rename Fr _ _ _ _ => F5; rename News _ _ _ _ => N5
      have off3 := off.mem
      have sl : ∀ p ∈ l, p ∈ ((Ic, oI) :: (C, oC) :: (D, LCg.lst ys) :: l : List (Addr × Obj)) := fun p hp => .tail _ (.tail _ (.tail _ hp))
      have hN5 : ∀ u, u ≤ TG.many → Node w TG ((Ic, oI) :: (C, oC) :: (D, LCg.lst ys) :: l) cnt u := fun u hu => (hNd u (by omega)).mono sl
      have tri : ∀ u, u ≤ M → (@Ne Nat (TG.sa u) Ic ∧ @Ne Nat (TG.sa u) C ∧ @Ne Nat (TG.sa u) D) ∧ (@Ne Nat (TG.da u) Ic ∧ @Ne Nat (TG.da u) C ∧ @Ne Nat (TG.da u) D) ∧ (@Ne Nat (TG.qa u) Ic ∧ @Ne Nat (TG.qa u) C ∧ @Ne Nat (TG.qa u) D) := fun u hu => by
        obtain ⟨z1, ⟨_, _, _, _, _, _, _, _, _, _, _, _, _, _, _, z2⟩, qs, n2, z3, z4⟩ := hNd u hu
        exact ⟨off3 _ z1, off3 _ z2, off3 _ z3⟩
      refine sched_tree (h₀ := s1.heap) (T := TG) (v := k) (cnt := cnt) wfG (by omega) hlf (by omega) (B := K0) (F := F5) (X := KX) (N := N5) (Tp := T) (hk := by rfl) (hdp := by decide) (hun := by decide) hN5 ?_
      intro r j h4 tk4 news4 cnt4 hs F6 N6 hN6 keep
      have kfree : ∀ q ∈ ((Ic, oI) :: (C, oC) :: (D, LCg.lst ys) :: l : List (Addr × Obj)), Fre M TG.da TG.qa q.1 → q ∈ news4 := fun q hq hf => keep q hq fun u hu => hf u (by omega)
      have mI : (Ic, oI) ∈ news4 := kfree _ (.head _) fun u hu => ⟨Ne.symm (tri u hu).2.1.1, Ne.symm (tri u hu).2.2.1⟩
      have mC : (C, oC) ∈ news4 := kfree _ (.tail _ (.head _)) fun u hu => ⟨Ne.symm (tri u hu).2.1.2.1, Ne.symm (tri u hu).2.2.2.1⟩
      have mD : (D, LCg.lst ys) ∈ news4 := kfree _ (.tail _ (.tail _ (.head _))) fun u hu => ⟨Ne.symm (tri u hu).2.1.2.2, Ne.symm (tri u hu).2.2.2.2⟩
      have keepF : ∀ p ∈ l, Fre M TG.da TG.qa p.1 → p ∈ (news4.filter fun q => decide (@Ne Nat q.1 Ic ∧ @Ne Nat q.1 C ∧ @Ne Nat q.1 D)) := fun p hp hf => List.mem_filter.mpr ⟨kfree p (sl p hp) hf, decide_eq_true (off3 p hp)⟩
      refine LCg.CompEnd.intro F6 N6 (news4.filter fun q => decide (@Ne Nat q.1 Ic ∧ @Ne Nat q.1 C ∧ @Ne Nat q.1 D)) (fun p hp => ?_) (LCg.Off3.of fun p hp => of_decide_eq_true (List.mem_filter.mp hp).2) (srcAt_mem (keepF _ (hkp _ (sBS _ mOA') (frG _ frOA)) (frG _ frOA)))
        ⟨fun p hp hf => keepF p (hkp p hp hf) hf, cnt4, rs ++ [r], hys.append (.cons _ _ .nil), ?_, fun u hu => (hN6 u (by omega)).three N6 mI cI mC hC mD (tri u hu).1 (tri u hu).2.1 (tri u hu).2.2⟩
      · rcases List.mem_cons.mp hp with rfl | hp
        · exact mI
        rcases List.mem_cons.mp hp with rfl | hp
        · exact mC
        rcases List.mem_cons.mp hp with rfl | hp
        · exact mD
        · exact (List.mem_filter.mp hp).1
      · rw [etake]; exact hR.step wfG hs
    rintro ys l2 ⟨hkp, cnt, rs, hys, hR, hNd⟩ sD2 h3 tk3 F3 N4 oX
    rw [hlo, List.take_length] at hR
    have nO2 : ∀ u, u ≤ M → Node w TO l2 cO u := fun u hu => Node.other (T := TG) (T' := TO) (news := BS) N3 (fun u hu => (nGr u (by omega)).mono sBS) ((nOr u hu).mono sBS) (fun u' hu' => (sepO u hu).1 u' (by omega)) (fun u' hu' => (sepO u hu).2.1 u' (by omega)) (fun u' hu' => (sepO u hu).2.2 u' (by omega)) (fun q hq hf => hkp q hq fun u hu => hf u (by omega))
    have frI : Fre M TG.da TG.qa I := fun u hu => by
      obtain ⟨_, ⟨_, _, _, _, _, _, _, _, _, _, _, _, _, _, _, y2⟩, _, _, y3, _⟩ := nGr u hu
      exact ⟨Ne.symm (hoff _ ((hrest _).mp y2).1), Ne.symm (hoff _ ((hrest _).mp y3).1)⟩
    have mI2 : (I, o) ∈ l2 := hkp _ (by rw [hBS]; exact .tail _ (.head _)) frI
    clear oX F2 N3
    have toL : ∀ p ∈ base, @Ne Nat p.1 (s1.heap.objs.size + 1 + 1 + 1 + 1 + 1 + 1 + 1 + 1 + 1) → Fre M TA.da TA.qa p.1 → Fre M TB.da TB.qa p.1 → p ∈ l2 := fun p hp h1 h2 h3 => hkp _ (sBS _ (hbr p hp h1 h2 h3)) (frG _ ⟨h2, h3⟩)
    have cM2 := toL _ (hsubB _ cMa) (by show (_ : Nat) ≠ _; omega) (fC _ (by omega)).1 (fC _ (by omega)).2
    have cB2 := toL _ (hsubB _ cBe) (by show (_ : Nat) ≠ _; omega) (fC _ (by omega)).1 (fC _ (by omega)).2
    have mN2 := toL _ (hsubB _ mNl) (OffC.ne oN (by omega) (by omega)) fNl.1 fNl.2
    have mB2 := toL _ (hsubB _ mBl) (OffC.ne hD7 (by omega) (by omega)) fBl.1 fBl.2
    have mD2 := toL (tD, PySem.W.listOf tv.toArray tc) (by rw [hbase]; exact .head _) (Ne.symm (otD _ cG)) fD.1 fD.2
    (k_steps)
    unfold Stop2
    rename Fr _ _ _ _ => F5; rename News _ _ _ _ => N5; rename IsRange _ _ _ _ _ _ _ _ => R5
    refine iter_rangeJ (n9 := M + 1) (fun i3 m₃ l => l = (sD2, LCg.lst ys) :: l2 ∧ m₃ (Str.ofString "names") = some (.ref nl) ∧ m₃ (Str.ofString "orders") = some (.ref od) ∧ m₃ (Str.ofString "turns") = some (.ref tD) ∧ m₃ (Str.ofString "served") = some (.ref sD2))
      (by rfl) (by rfl) R5 (my_small (by omega) (by omega) (by omega) (by omega)) (by rw [rangeSize_nat]; omega) F5 N5
      ⟨rfl, by with_unfolding_all exact g1, by with_unfolding_all exact g3, by with_unfolding_all exact g4, by with_unfolding_all rfl⟩ ?_
    intro I3 hI3
    clear F5 N5 R5
    refine ⟨?_, ?_⟩
    · intro i3 t3 m₃ news₃ h4 tk4 o3 hi3 hoc3 hJ7 hoff3 F5 N5
      refine hideG fun G hG => ?_
      obtain ⟨rfl, p1, p2, p3, p4⟩ := hJ7
      obtain ⟨kv, kc, mkv, ikv, fkA, fkB⟩ := fK i3 (by omega)
      subst hG
      rw [Int.zero_add]
      have mkv2 := toL _ (hsubB _ mkv) (nk9 i3 (by omega)) fkA fkB
      have hxb : (bs.map Value.ref)[((i3 : Nat) : Int).toNat]? = some (.ref (bs.getD i3 0)) := by rw [Int.toNat_natCast]; exact at_ref (by omega)
      have hout := hR.outs i3 (by omega)
      rw [nmG, lfG i3 (by omega)] at hout
      have htn := tnG i3 rs cnt (by omega) hR
      have ei : ((i3 : Nat) : Int).toNat = i3 := Int.toNat_natCast i3
      by_cases hk0 : kidI as M i3 = []
      · have e0 : decide (kidI as M i3 = []) = true := decide_eq_true hk0
        have hq0 : aks.count i3 = 0 := List.count_eq_zero.mpr fun hm => (headN_mem (hak _ hm)).2 hk0
        have heq : ((rs.count (ns.getD ((i3 : Nat) : Int).toNat 0) : Nat) : Int) = tn.getD ((i3 : Nat) : Int).toNat 0 := by
          rw [ei, htn, hout, e0, hq0]; simp
        (k_steps)
        unfold Stop2
        refine wpAny_If ?_
        (k_steps)
        · exfalso; rename ¬ _ = _ => hbad; rw [ei] at heq; exact hbad heq
        · rename Fr _ _ _ _ => F6; rename News _ _ _ _ => N6
          exact TEnd.next F6 (all := (I3, o3) :: (sD2, LCg.lst ys) :: l2) (fun p hp => N6 p (.tail _ hp)) (.head _) ⟨filter_own hoff3, by with_unfolding_all exact p1, by with_unfolding_all exact p2, by with_unfolding_all exact p3, by with_unfolding_all exact p4⟩
      · have e0 : decide (kidI as M i3 = []) = false := decide_eq_false hk0
        have heq : ((rs.count (ns.getD ((i3 : Nat) : Int).toNat 0) : Nat) : Int) = 0 := by
          rw [ei, hout, e0]; simp
        (k_steps)
        unfold Stop2
        refine wpAny_If ?_
        (k_steps)
        · exfalso; rename ¬ _ = _ => hbad; rw [ei] at heq; exact hbad heq
        · rename Fr _ _ _ _ => F6; rename News _ _ _ _ => N6
          exact TEnd.next F6 (all := (I3, o3) :: (sD2, LCg.lst ys) :: l2) (fun p hp => N6 p (.tail _ hp)) (.head _) ⟨filter_own hoff3, by with_unfolding_all exact p1, by with_unfolding_all exact p2, by with_unfolding_all exact p3, by with_unfolding_all exact p4⟩
    · rintro m₃ news₃ h4 tk4 ⟨rfl, p1, p2, p3, p4⟩ F5 N5
      (k_steps)
      rename Fr _ _ _ _ => F6; rename News _ _ _ _ => N6
      refine TEnd.next F6 N6 (.tail _ mI2) ⟨by with_unfolding_all exact p1, by with_unfolding_all exact p2, by with_unfolding_all exact p3, ⟨og2, _, mem_off (.tail _ (hkp _ mgB frg)) (Ne.symm offIg), dg2⟩,
        fun p hp h1 h2 h3 => mem_off (.tail _ (toL p hp h1 h2 h3)) (hoff p ((hrest p).mp (hbr p hp h1 h2 h3)).1), ?_⟩
      exact finG _ rs cnt hR (fun u hu => ((hNd u hu).mono fun p hp => .tail _ hp).offI N6 (.tail _ mI2) hoc) (fun u hu => ((nO2 u hu).mono fun p hp => .tail _ hp).offI N6 (.tail _ mI2) hoc)
  rintro m₁ news₁ h2 tk2 ⟨g1, g3, g4, ⟨og, cv, mg, dg⟩, hbk, c0, c1, r0, r1, z0, z1, R0, R1, n0, n1⟩ F1 N1
  rw [if_pos (by decide)] at R0 R1
  rename_i u1 u2 u3 u4 u5 u6 u7 u8 u9 u10 u11 u12 u13 u14 u15 u16 u17 u18 u19 u20 u21 u22 u23 u24 u25 u26 u27 u28 u29 u30 u31 u32 u33 u34 u35 u36 u37 u38 u39 u40 u41 u42 u43 u44 u45 u46 u47 u48 u49 u50 u51 u52 u53 u54 u55 u56 u57 u58 u59 u60 u61 u62 u63 u64 u65 u66 u67 u68 u69 u70 u71 u72 u73 u74 u75 u76 u77 u78 u79 u80 u81 u82 u83 u84 u85 u86 u87 u88 u89 u90 u91 u92
  revert w s₀ s1 u1 mb Y fa o pm doc ho hg KX T u2 u3 script u4 u5 u6 u7 u8 u9 u10 sl sv las hL u11 hcond K0 u12 u13 o1 o2 o3 o4 o5 o6 o7 o8 o9 qk ek dc1 dc2 dc3 dc4 dc5 dc6 dc7 dc8 dc9 u14 u15 u16 u17 u18 u19 g2 ys l numbers hnl hnI D h tk hD u20 u21 dn u22 u23 u24 u25 u26 u27 u28 u29 u30 u31 u32 u33 M hM1 hM6 hMe tM dm u34 ys2 l2 D2 u35 u36 hD2 nl nv nc u37 z2 z3 z4 z8 z9 z10 z11 z12 oN u38 ys3 l3 D3 h3 tk3 hD3 wl wv wc u39 y2 y3 u40 y8 y9 y10 y11 u41 oW g5 ys4 l4 D4 h4 tk4 hD4 al av ac x1 x2 oA dA oAl m1 en ew ns hnames lns dns ws hweights lws bws as habove las' as0 as1 bas u42 u43 u44 u45 u46 u47 g6 u48 oM bs r7 lbs D7 h7 tk7 hD7 u49 u50 u51 u52 u53 u54 u55 u56 u57 g8 ys8 l8 hI8 D8 h8 tk8 hD8 u58 u59 u60 u61 u62 u63 pD pw ms ph pI qD qw qn qh g9 hl1 hl2 ys9 l9 aks hI9 hak D9 h9 tk9 hD9 haz haz2 y1 oQ dQ sD sw sc od y4 ok oO hoD rest h10 tk10 zD zv zc oc zk hZ hzk oZ lna lnw u64 sa0 da0 ca0 qa0 T0 l0 h11 tk11 u65 sa1 da1 ca1 qa1 T1 l1 h12 tk12 oT0 oT1 lay0s lay0o lay1s lay1o R lT y12 y13 oTr u66 u67 dTr u68 u69 u70 u71 u72 u73 g13 ys13 l13 hI13 mQ tD h13 tk13 u74 otD m2 en2 ew2 eo2 et2 mO mZ mAl mWl mNl mBl mT oMa cMa dMa oAb cAb dAb oBe cBe dBe oTs cTs dTs cG oLT u75 u76 u77 u78 u79 u80 u81 u82 u83 u84 h1 tk1 f1 f2 f3 f4 tv tc tn tt u85 hit hlt htt hts TA hTA TB hTB wfA wfB mA mB saA daA qaA saB daB qaB nodA nodB hT0' hT1' ordA ordB sepAB fO fZ fQ fBl fNl fC fK fT f0 f1' fD Q9 hQ9 u86 u87 u88 u89 u90 u91 u92 base hbase hsubB nk9 I hI m₁ news₁ h2 tk2 g1 g3 g4 og cv mg dg hbk c0 c1 r0 r1 z0 z1 R0 R1 n0 n1 F1 N1
  exact hP9.out⟩
theorem st17 : st16.val := by
  w_top off
  intro w s₀ s1 _ mb Y fa o pm doc ho hg KX T _ _ script _ _ _ _ _ _ _ sl sv las hL _ hcond K0 _ _ o1 o2 o3 o4 o5 o6 o7 o8 o9 qk ek dc1 dc2 dc3 dc4 dc5 dc6 dc7 dc8 dc9 _ _ _ _ _ _ g2 ys l numbers hnl hnI D h tk hD _ _ dn _ _ _ _ _ _ _ _ _ _ _ _ M hM1 hM6 hMe tM dm _ ys2 l2 D2 _ _ hD2 nl nv nc _ z2 z3 z4 z8 z9 z10 z11 z12 oN _ ys3 l3 D3 h3 tk3 hD3 wl wv wc _ y2 y3 _ y8 y9 y10 y11 _ oW g5 ys4 l4 D4 h4 tk4 hD4 al av ac x1 x2 oA dA oAl m1 en ew ns hnames lns dns ws hweights lws bws as habove las' as0 as1 bas _ _ _ _ _ _ g6 _ oM bs r7 lbs D7 h7 tk7 hD7 _ _ _ _ _ _ _ _ _ g8 ys8 l8 hI8 D8 h8 tk8 hD8 _ _ _ _ _ _ pD pw ms ph pI qD qw qn qh g9 hl1 hl2 ys9 l9 aks hI9 hak D9 h9 tk9 hD9 haz haz2 y1 oQ dQ sD sw sc od y4 ok oO hoD rest h10 tk10 zD zv zc oc zk hZ hzk oZ lna lnw _ sa0 da0 ca0 qa0 T0 l0 h11 tk11 _ sa1 da1 ca1 qa1 T1 l1 h12 tk12 oT0 oT1 lay0s lay0o lay1s lay1o R lT y12 y13 oTr _ _ dTr _ _ _ _ _ _ g13 ys13 l13 hI13 mQ tD h13 tk13 _ otD m2 en2 ew2 eo2 et2 mO mZ mAl mWl mNl mBl mT oMa cMa dMa oAb cAb dAb oBe cBe dBe oTs cTs dTs cG oLT _ _ _ _ _ _ _ _ _ _ h1 tk1 f1 f2 f3 f4 tv tc tn tt _ hit hlt htt hts TA hTA TB hTB wfA wfB mA mB saA daA qaA saB daB qaB nodA nodB hT0' hT1' ordA ordB sepAB fO fZ fQ fBl fNl fC fK fT f0 f1' fD Q9 hQ9 _ _ _ _ _ _ _ base hbase hsubB nk9 I hI m₁ news₁ h2 tk2 g1 g3 g4 og cv mg dg hbk c0 c1 r0 r1 z0 z1 R0 R1 n0 n1 F1 N1
  have ceq : ∀ x, x ≤ M → c0 x = c1 x := fun x hx => by
    have wfA' := wfA
    have wfB' := wfB
    rw [hTA] at R0 wfA'
    rw [hTB] at R1 wfB'
    have a := turns_eq (ca := ca0) hM6 lns lws (by omega) bas wfA' R0 hts (fun v => rfl) x hx
    have b := turns_eq (ca := ca1) hM6 lns lws (by omega) bas wfB' R1 hts (fun v => (hzk.count_eq v).symm) x hx
    omega
  have lf0 : ¬ kidI as M 0 = [] := (headN_mem (head0 hM1 as1)).2
  have lf0A : TA.lf 0 = false := by rw [hTA]; exact decide_eq_false lf0
  have lf0B : TB.lf 0 = false := by rw [hTB]; exact decide_eq_false lf0
  have sameAB : Same TA TB := by rw [hTA, hTB]; exact ⟨rfl, rfl, rfl, rfl, rfl⟩
  have cT3 := hbk _ (hsubB _ cTs) (by show (_ : Nat) ≠ _; omega) (fC _ (by omega)).1 (fC _ (by omega)).2
  have mT3 := hbk _ (hsubB _ mT) (OffC.ne oLT (by omega) (by omega)) fT.1 fT.2
  have m03 := hbk _ (hsubB _ hT0') (OffC.ne oT0 (by omega) (by omega)) f0.1 f0.2
  have m13 := hbk _ (hsubB _ hT1') (OffC.ne oT1 (by omega) (by omega)) f1'.1 f1'.2
  have sepA : ∀ v, v ≤ M → Fre M TA.da TA.qa (TB.sa v) ∧ Fre M TA.da TA.qa (TB.da v) ∧ Fre M TA.da TA.qa (TB.qa v) := fun v hv => by
    have b := ordB v hv
    exact ⟨fun u hu => by have a := sepAB u v hu hv; exact ⟨by omega, by omega⟩, fun u hu => by have a := sepAB u v hu hv; exact ⟨by omega, by omega⟩, fun u hu => by have a := sepAB u v hu hv; exact ⟨by omega, by omega⟩⟩
  have sepB : ∀ v, v ≤ M → Fre M TB.da TB.qa (TA.sa v) ∧ Fre M TB.da TB.qa (TA.da v) ∧ Fre M TB.da TB.qa (TA.qa v) := fun v hv => by
    have b := ordA v hv
    exact ⟨fun u hu => by have a := sepAB v u hv hu; have c := ordB u hu; exact ⟨by omega, by omega⟩, fun u hu => by have a := sepAB v u hv hu; have c := ordB u hu; exact ⟨by omega, by omega⟩, fun u hu => by have a := sepAB v u hv hu; have c := ordB u hu; exact ⟨by omega, by omega⟩⟩
  have fC8 := fC (s1.heap.objs.size + 1 + 1 + 1 + 1 + 1 + 1 + 1 + 1) (by omega)
  clear hbk mg R0 R1 z0 z1 g1 g3 g4 hts htt hit
  k_steps
  unfold Stop2
  rename Fr _ _ _ _ => F2; rename News _ _ _ _ => N2; rename IsRange _ _ _ _ _ _ _ _ => R2
  refine iter_rangeJ (n9 := 6) (fun k m₂ l => (s1.heap.objs.size + 1 + 1 + 1 + 1 + 1 + 1 + 1 + 1, oTs) ∈ l ∧ (lT, PySem.W.listOf #[Value.ref T0, Value.ref T1] 0) ∈ l ∧ (T0, LCg.lst ((List.range (M + 1)).map fun v => Value.ref (TA.sa v))) ∈ l ∧ (T1, LCg.lst ((List.range (M + 1)).map fun v => Value.ref (TB.sa v))) ∈ l ∧
      ∃ d0 d1 : Nat → Nat, (∀ x, x ≤ M → d0 x = d1 x) ∧ (∀ u, u ≤ M → Node w TA l d0 u) ∧ (∀ u, u ≤ M → Node w TB l d1 u))
    (by rfl) (by rfl) R2 (my_small (by omega) (by omega) (by omega) (by omega)) (by rw [rangeSize_nat]; omega) F2 N2 ⟨cT3, mT3, m03, m13, c0, c1, ceq, n0, n1⟩ ?_
  intro I hI
  clear F2 N2 R2
  clear cT3 mT3 m03 m13 n0 n1 ceq
  refine ⟨?_, ?_⟩
  · intro i t m₂ news₂ h3 tk3 o hi hoc hJ9 hoff F2 N2
    refine hideG fun G hG => ?_
    obtain ⟨q1, q2, q3, q4, d0, d1, hd, nA, nB⟩ := hJ9
    have hxT0 : [Value.ref T0, Value.ref T1][(0 : Int).toNat]? = some (.ref T0) := rfl
    have hxT1 : [Value.ref T0, Value.ref T1][(1 : Int).toNat]? = some (.ref T1) := rfl
    have hxA : ((List.range (M + 1)).map fun v => Value.ref (TA.sa v))[(0 : Int).toNat]? = some (.ref (TA.sa 0)) := at_map TA.sa (by omega)
    have hxB : ((List.range (M + 1)).map fun v => Value.ref (TB.sa v))[(0 : Int).toNat]? = some (.ref (TB.sa 0)) := at_map TB.sa (by omega)
    obtain ⟨a1, ⟨_, _, _, _, _, _, _, _, _, _, _, _, _, _, _, a2⟩, _⟩ := id (nA 0 (by omega))
    subst hG
    (k_steps)
    unfold Stop2
    refine wpAny_If ?_
    (k_steps)
    unfold Stop2
    rename Fr _ _ _ _ => F3; rename News _ _ _ _ => N3
    have hN3 : ∀ u, u ≤ TA.many → Node w TA ((I, o) :: news₂) d0 u := fun u hu => (nA u (by omega)).mono fun p hp => .tail _ hp
    have hM3 : ∀ u, u ≤ M → Node w TB ((I, o) :: news₂) d1 u := fun u hu => (nB u hu).mono fun p hp => .tail _ hp
    have frIA : Fre M TA.da TA.qa I := fun u hu => by
      obtain ⟨_, ⟨_, _, _, _, _, _, _, _, _, _, _, _, _, _, _, y2⟩, _, _, y3, _⟩ := nA u hu
      exact ⟨Ne.symm (hoff _ y2), Ne.symm (hoff _ y3)⟩
    have frIB : Fre M TB.da TB.qa I := fun u hu => by
      obtain ⟨_, ⟨_, _, _, _, _, _, _, _, _, _, _, _, _, _, _, y2⟩, _, _, y3, _⟩ := nB u hu
      exact ⟨Ne.symm (hoff _ y2), Ne.symm (hoff _ y3)⟩
    refine sched_tree (h₀ := s1.heap) (T := TA) (v := 0) (cnt := d0) wfA (by omega) lf0A (by omega) (B := K0) (F := F3) (X := KX) (N := N3) (Tp := T) (hk := by rfl) (hdp := by decide) (hun := by decide) hN3 ?_
    intro r j h4 tk4 news4 cnt4 hs F4 N4 hN4 keep
    have kf : ∀ q ∈ ((I, o) :: news₂ : List (Addr × Obj)), Fre M TA.da TA.qa q.1 → q ∈ news4 := fun q hq hf => keep q hq fun u hu => hf u (by omega)
    have q1' := kf _ (.tail _ q1) fC8.1
    have q2' := kf _ (.tail _ q2) fT.1
    have q3' := kf _ (.tail _ q3) f0.1
    have q4' := kf _ (.tail _ q4) f1'.1
    have hI4 := kf _ (.head _) frIA
    have nB4 : ∀ u, u ≤ M → Node w TB news4 d1 u := fun u hu => Node.other (T := TA) (T' := TB) (news := (I, o) :: news₂) N3 hN3 (hM3 u hu) (fun u' hu' => (sepA u hu).1 u' (by omega)) (fun u' hu' => (sepA u hu).2.1 u' (by omega)) (fun u' hu' => (sepA u hu).2.2 u' (by omega)) keep
    clear F3 N3 a1 a2 keep kf
    refine hideG fun G hG => ?_
    obtain ⟨b1, ⟨_, _, _, _, _, _, _, _, _, _, _, _, _, _, _, b2⟩, _⟩ := id (nB4 0 (by omega))
    subst hG
    (k_steps)
    unfold Stop2
    rename Fr _ _ _ _ => F5; rename News _ _ _ _ => N5
    refine sched_tree (h₀ := s1.heap) (T := TB) (v := 0) (cnt := d1) wfB (by omega) lf0B (by omega) (B := K0) (F := F5) (X := KX) (N := N5) (Tp := T) (hk := by rfl) (hdp := by decide) (hun := by decide) (fun u hu => nB4 u (by omega)) ?_
    intro r' j' h5 tk5 news5 cnt5 hs2 F6 N6 hN6 keep
    have kf : ∀ q ∈ news4, Fre M TB.da TB.qa q.1 → q ∈ news5 := fun q hq hf => keep q hq fun u hu => hf u (by omega)
    have p1 := kf _ q1' fC8.2
    have p2 := kf _ q2' fT.2
    have p3 := kf _ q3' f0.2
    have p4 := kf _ q4' f1'.2
    have hI5 := kf _ hI4 frIB
    have nA5 : ∀ u, u ≤ M → Node w TA news5 cnt4 u := fun u hu => Node.other (T := TB) (T' := TA) (news := news4) N5 (fun u hu => nB4 u (by omega)) (hN4 u (by omega)) (fun u' hu' => (sepB u hu).1 u' (by omega)) (fun u' hu' => (sepB u hu).2.1 u' (by omega)) (fun u' hu' => (sepB u hu).2.2 u' (by omega)) keep
    have hdet := sch_det sameAB hs hs2 (fun x hx => hd x (by omega))
    have hrr := hdet.1
    have hcc := hdet.2
    subst hrr
    clear F5 N5 b1 b2 keep kf hN4 nB4 hI4
    (k_steps)
    · exfalso; rename ¬ _ = _ => hb; exact hb rfl
    · rename Fr _ _ _ _ => F7; rename News _ _ _ _ => N7
      exact TEnd.next F7 (all := news5) (fun p hp => N7 p hp) hI5 ⟨mem_off p1 (hoff _ q1), mem_off p2 (hoff _ q2), mem_off p3 (hoff _ q3), mem_off p4 (hoff _ q4), cnt4, cnt5, fun x hx => hcc x (by omega), fun u hu => (nA5 u hu).offI N7 hI5 hoc, fun u hu => (hN6 u (by omega)).offI N7 hI5 hoc⟩
  intro m₂ news₂ h3 tk3 _ F2 N2
  (k_steps)
  rename Fr _ _ _ _ => F7
  exact ⟨rfl, _, _, _, rfl, F7⟩
theorem law_holds : PySem.Challenge.rw_bd0030_01.Holds :=
  st1.property ⟨st2.property ⟨st3.property ⟨st4.property ⟨st5.property ⟨st6.property ⟨st7.property ⟨st8.property ⟨st9.property ⟨st10.property ⟨st11.property ⟨st12.property ⟨st13.property ⟨st14.property ⟨st15.property ⟨st16.property ⟨st17⟩⟩⟩⟩⟩⟩⟩⟩⟩⟩⟩⟩⟩⟩⟩⟩
end Mine
theorem PySem.Challenge.cw_bd0030_01_holds : PySem.Challenge.rw_bd0030_01.Holds := by
  exact Mine.law_holds
