import PyProof.Rows.All
import Wide.All
import OpenK.AllK
import Wide.FinOn
import PySem.Challenge.RW_mq0060_01
set_option Elab.async false

section
open PySem PySem.W PyProof.Rows
set_option maxRecDepth 100000
set_option maxHeartbeats 8000000
namespace Mine
open_top hd for PySem.Challenge.rw_mq0060_01
end Mine

end

section
open PySem PySem.W PyProof.Rows
set_option maxRecDepth 100000
set_option maxHeartbeats 8000000
namespace Mine

abbrev PR : Program := PySem.Challenge.rw_mq0060_01.row.prog
abbrev Led := List (Addr × Obj)

/-- a mark that no rule of the walk knows: the walk stands still there -/
def Stop (P : Prop) : Prop := P
theorem Stop.mk {P : Prop} (h : Stop P) : P := h
theorem Stop.out {P : Prop} (h : P) : Stop P := h

/-! ## plain numbers -/
def gstep (c : Nat) : Nat := if c % 2 = 1 then (c / 2) ^^^ 3988292384 else c / 2
def iter (f : Nat → Nat) : Nat → Nat → Nat
  | 0, c => c
  | n + 1, c => f (iter f n c)
def gen (c : Nat) : Nat := iter gstep 8 c

abbrev MM : Nat := 4294967295
def crcF (c : Nat) (ns : List Nat) : Nat := ns.foldl (fun c o => gen (c ^^^ o)) c
def told (ns : List Nat) : Nat := crcF MM ns ^^^ MM
theorem xor_and_add : ∀ (n a b : Nat), a < n → (a ^^^ b) + 2 * (a &&& b) = a + b := by
  intro n
  induction n with
  | zero => intro a b h; omega
  | succ n ih =>
    intro a b h
    by_cases h0 : a = 0
    · subst h0; simp
    · have e := ih (a / 2) (b / 2) (by omega)
      have h1 : (a ^^^ b) / 2 = a / 2 ^^^ b / 2 := Nat.xor_div_two
      have h2 : (a &&& b) / 2 = a / 2 &&& b / 2 := Nat.and_div_two
      have h3 := @Nat.and_mod_two_eq_one a b
      have h4 := @Nat.xor_mod_two_eq_one a b
      rw [← h1, ← h2] at e
      omega
theorem bitXor_nat (a b : Nat) : Builtin.bitXor (a : Int) (b : Int) = ((a ^^^ b : Nat) : Int) := by
  rw [bitXor_and, bitAnd_pp (Int.natCast_nonneg a) (Int.natCast_nonneg b)]
  have e : (a ^^^ b) + 2 * (a &&& b) = a + b := by
    exact xor_and_add (a + 1) a b (by omega)
  simp only [Int.toNat_natCast]
  omega
theorem bitAnd_one_nat (a : Nat) : Builtin.bitAnd (a : Int) 1 = ((a % 2 : Nat) : Int) := by
  rw [bitAnd_m1]; omega
theorem fdiv_two_nat (a : Nat) : (a : Int).fdiv (2 ^ Int.toNat 1) = ((a / 2 : Nat) : Int) := by
  rw [Int.fdiv_eq_ediv_of_nonneg _ (by decide)]
  rw [show (2 : Int) ^ Int.toNat 1 = 2 from rfl]; omega

/-! ## a loop over a range, its target a local name -/
section
variable {prog : Program} {w : World} {A : Around} {E : Value → Shared → Prop} {s : Shared} {env : Env} {h₀ : Heap} {x : Str} {body : List Stmt} {Q : Flow → Shared → Prop}
theorem rng_loop {r : Addr} {a₀ b₀ c₀ : Int} {t₀ u₀ v₀ : Tok} {n : Nat} {m₀ : Str → Option Value} {news : Led} (J : Nat → (Str → Option Value) → Led → Prop)
    (hh : A.handled = none) (hr : IsRange s.heap r a₀ b₀ c₀ t₀ u₀ v₀) (hsmall : Builtin.Range.small a₀ b₀ c₀ = true) (hsz : Builtin.Range.rangeSize a₀ b₀ c₀ = (n : Int))
    (F : Fr h₀ env.locals s.heap m₀) (N : News h₀ env.locals s.heap news) (hj : J 0 m₀ news)
    (turn : ∀ i t m₁ nx h tk own, i < n → OwnOff own (nx.map (·.1)) → J i m₁ nx → Fr h₀ env.locals h (fun y => if y = x then some (.int (a₀ + (i : Int) * c₀) t) else m₁ y) → News h₀ env.locals h (nx ++ own) →
      wpAny (model prog w) A (execs body env) (InvPostG h₀ env.locals (J (i + 1)) own { s with heap := h, toks := tk } Q) E { s with heap := h, toks := tk })
    (done : ∀ m₁ nx h tk, J n m₁ nx → Fr h₀ env.locals h m₁ → News h₀ env.locals h nx → Q .next { s with heap := h, toks := tk }) :
    wpAny (model prog w) A (pyIter (.ref r)) (fun it s₂ => LoopAtV prog w A h₀ env x body Q E it s₂) E s := by
  refine wpAny_pyIter_range hr hsmall ?_
  have W : Walks prog w A s.heap.objs.size [s.heap.objs.size] [s.heap.objs.size] n (fun i v => ∃ t, v = .int (a₀ + i * c₀) t)
      (fun i h => IsRangeIter h s.heap.objs.size (a₀ + (i : Nat) * c₀) ((n : Int) - (i : Nat)) c₀) := Walks.range hh _ a₀ c₀ n
  refine kdr_loop J W (fun _ h => h) (fun _ h => h) ?_ ?_ ?_ ?_ (by show IsRangeIter _ _ _ _ _; rw [hsz]; simpa using Heap.get?_push_size _ rfl) (F.push _) (fun p hp => ⟨Heap.get?_push_of_some _ (N p hp).1, (N p hp).2⟩) hj ?_ ?_
  · intro i h hi b hb
    rw [List.mem_singleton.mp hb]
    exact ⟨_, hi⟩
  · intro hm
    exact absurd F.ns.lt ((List.mem_singleton.mp hm) ▸ Nat.lt_irrefl _)
  · intro b hb
    rw [List.mem_singleton.mp hb]
    exact next_is_new F
  · intro p hp hI
    exact absurd (Heap.lt_size (N p hp).1) ((List.mem_singleton.mp hI) ▸ Nat.lt_irrefl _)
  · rintro i v m₁ nx h tk own hi ⟨t, rfl⟩ hoff hJ F₁ N₁
    exact turn i t m₁ nx h tk own hi hoff hJ F₁ N₁
  · intro m₁ nx h tk hJ F₁ N₁
    exact done m₁ nx h tk hJ F₁ N₁
end
theorem map_named {m : Str → Option Value} {x : Str} {v : Value} (h : m x = some v) : m = fun y => if y = x then some v else m y := by
  funext y
  by_cases e : y = x
  · rw [if_pos e, e, h]
  · rw [if_neg e]
abbrev toI (ns : List Nat) : List Int := ns.map fun n : Nat => (n : Int)
theorem crcF_take {c : Nat} {ns : List Nat} {i o : Nat} (h : ns[i]? = some o) : crcF c (ns.take (i + 1)) = gen (crcF c (ns.take i) ^^^ o) := by
  unfold crcF
  rw [List.take_add_one, h]
  simp
theorem ints_get {vs : List Value} {ns : List Nat} {i : Nat} {y : Value} (h : IntsAre vs (toI ns)) (hy : vs[i]? = some y) : ∃ o t, ns[i]? = some o ∧ y = .int (o : Nat) t := by
  have hl : vs.length = ns.length := by rw [h.length]; simp
  have hi : i < vs.length := by
    rcases Nat.lt_or_ge i vs.length with q | q
    · exact q
    · rw [List.getElem?_eq_none q] at hy; cases hy
  have hi' : i < ns.length := hl ▸ hi
  obtain ⟨t, ht⟩ := h.get i ((ns[i]'hi' : Nat) : Int) (by rw [List.getElem?_map, List.getElem?_eq_getElem hi']; rfl)
  rw [ht] at hy
  exact ⟨_, t, List.getElem?_eq_getElem hi', (Option.some.inj hy).symm⟩
theorem int_is {x y : Int} {t : Tok} (h : x = y) : some (Value.int x t) = some (Value.int y t) := by rw [h]
end Mine
namespace Mine
def Codes (h : Heap) : Prop := CodeHd h 41 37 ∧ CodeHd h 48 44 ∧ CodeHd h 60 58
theorem Codes.keeps {h h' : Heap} (c : Codes h) (k : ∀ b o, h.get? b = some o → h'.get? b = some o) : Codes h' := ⟨c.1.keeps k, c.2.1.keeps k, c.2.2.keeps k⟩

/-- what a call does, of whatever frame it is called: from the ledger `news` -/
def CallW (w : World) (p : Program) (loose : List Str) (mean : ExcName → Option Value) (mg mb : Str → Option Value) (D U : Nat) (fv : Value) (args : List Value) (news : Led) (Post : Value → Led → Prop) : Prop :=
  ∀ (dp un : Nat) (gd : Option (List Code)) (cn : Str) (cs : Scope) (a : Addr) (ccd : Value) (cl : List (Str × Addr)) (outer : List Env) (A₀ : Around) (base h₀ : Heap) (L : Addr) (m : Str → Option Value) (s : Shared) (Q E : Value → Shared → Prop),
    Below A₀ base outer h₀ → Fr h₀ L s.heap m → (Mine.hd.heap_39 w.params).In h₀ → News h₀ L s.heap news → Top p loose mean mg mb h₀ → Codes h₀ → cs.kind = .function → dp + D < recursionLimit → un + U < cLine →
    (∀ r new h' tk', Fr h₀ L h' m → News h₀ L h' new → Post r new → Q r { s with heap := h', toks := tk' }) →
    wpAny (model PR w) (ktrTop dp un gd cn cs L a ccd cl outer) (call fv args) Q E s

def Hi (a : Addr) : Prop := a ≠ 37 ∧ a ≠ 44 ∧ a ≠ 58
theorem nh37 : ¬ Hi 37 := fun h => h.1 rfl
theorem nh44 : ¬ Hi 44 := fun h => h.2.1 rfl
theorem nh58 : ¬ Hi 58 := fun h => h.2.2 rfl
/-- everything but the tables stays -/
def Keep (old new : Led) : Prop := ∀ p ∈ old, Hi p.1 → p ∈ new
theorem Keep.refl (l : Led) : Keep l l := fun _ h _ => h
theorem Keep.trans {a b c : Led} (h : Keep a b) (k : Keep b c) : Keep a c := fun p hp h1 => k p (h p hp h1) h1
theorem Keep.cons {l : Led} {q : Addr × Obj} : Keep l (q :: l) := fun _ h _ => List.mem_cons_of_mem _ h

/-- iterators and tables of names: what a loop turns -/
def Vola (o : Obj) : Prop := (∃ vs n t, o.data = .fields vs ∧ vs[1]? = some (.int n t)) ∨ ∃ es ep, o.data = .dict es ep
def Solid (o : Obj) : Prop := ¬ Vola o
def KeepS (old new : Led) : Prop := ∀ p ∈ old, Hi p.1 → Solid p.2 → p ∈ new
def KeepT (old new : Led) : Prop := ∀ p ∈ old, (¬ Hi p.1 ∨ Solid p.2) → p ∈ new
theorem Keep.s {a b : Led} (h : Keep a b) : KeepS a b := fun p hp h1 _ => h p hp h1
theorem KeepT.s {a b : Led} (h : KeepT a b) : KeepS a b := fun p hp _ h2 => h p hp (.inr h2)
theorem KeepS.refl (l : Led) : KeepS l l := fun _ h _ _ => h
theorem KeepS.trans {a b c : Led} (h : KeepS a b) (k : KeepS b c) : KeepS a c := fun p hp h1 h2 => k p (h p hp h1 h2) h1 h2
theorem KeepT.refl (l : Led) : KeepT l l := fun _ h _ => h
theorem KeepT.cons {l : Led} {q : Addr × Obj} : KeepT l (q :: l) := fun _ h _ => List.mem_cons_of_mem _ h
theorem KeepT.trans {a b c : Led} (h : KeepT a b) (k : KeepT b c) : KeepT a c := fun p hp h1 => k p (h p hp h1) h1
theorem News.same {h₀ h : Heap} {L a : Addr} {news : Led} {o o' : Obj} (N : News h₀ L h news) (h1 : (a, o) ∈ news) (h2 : (a, o') ∈ news) : o = o' := by
  have e1 := (N _ h1).1
  have e2 := (N _ h2).1
  exact Option.some.inj (e1.symm.trans e2)

/-- the ledger without one address -/
def off (I : Addr) (l : Led) : Led := l.filter fun p => p.1 != I
theorem mem_off {I : Addr} {l : Led} {p : Addr × Obj} : p ∈ off I l ↔ p ∈ l ∧ p.1 ≠ I := by unfold off; rw [List.mem_filter]; simp
theorem off_ne {I : Addr} {l : Led} : ∀ p ∈ off I l, p.1 ≠ I := fun _ hp => (mem_off.mp hp).2
theorem off_sub {I : Addr} {l : Led} : ∀ p ∈ off I l, p ∈ l := fun _ hp => (mem_off.mp hp).1
theorem off_keepT {h₀ h : Heap} {L I : Addr} {new : Led} {oI : Obj} (N : News h₀ L h new) (hI : (I, oI) ∈ new) (hv : Vola oI) (hlt : Hi I) : KeepT new (off I new) := by
  rintro ⟨a, o⟩ hp hs
  refine mem_off.mpr ⟨hp, ?_⟩
  rintro rfl
  rcases hs with hs | hs
  · exact hs hlt
  · exact hs ((News.same N hp hI) ▸ hv)

def TabAt (news : Led) (P : Addr) (line col : Nat) (qual : Str) : Prop :=
  ∃ ps, (P, tabObj ps) ∈ news ∧ (ps = #[] ∨ ∃ c' oc vs t, ps = #[rawInt line, rawInt col, .ref c'] ∧ Hi c' ∧ (c', oc) ∈ news ∧ oc.data = .fields vs ∧ vs[1]? = some (.str qual t))
theorem solid_code {oc : Obj} {vs : Array Value} {q : Str} {t : Tok} (h1 : oc.data = .fields vs) (h2 : vs[1]? = some (.str q t)) : Solid oc := by
  rintro (⟨vs', n, t', e1, e2⟩ | ⟨es, ep, e⟩)
  · rw [h1] at e1; cases e1; rw [h2] at e2; cases e2
  · rw [h1] at e; cases e
theorem TabAt.mono {a b : Led} {P : Addr} {line col : Nat} {q : Str} (hP : ¬ Hi P) (k : KeepT a b) (h : TabAt a P line col q) : TabAt b P line col q := by
  obtain ⟨ps, h1, h2⟩ := h
  refine ⟨ps, k _ h1 (.inl hP), ?_⟩
  rcases h2 with h2 | ⟨c', oc, vs, t, e, hlt, hm, hd, hv⟩
  · exact .inl h2
  · exact .inr ⟨c', oc, vs, t, e, hlt, k _ hm (.inr (solid_code hd hv)), hd, hv⟩
abbrev qlam (n : Str) : Str := (n ++ (".<locals>." : Str)) ++ ("<lambda>" : Str)
def Tabs (news : Led) : Prop := TabAt news 37 37 17 (qlam (Str.ofString "_law_told")) ∧ TabAt news 44 40 17 (qlam (Str.ofString "_law_put")) ∧ TabAt news 58 69 14 (qlam (Str.ofString "law"))
theorem Tabs.mono {a b : Led} (k : KeepT a b) (h : Tabs a) : Tabs b := ⟨h.1.mono nh37 k, h.2.1.mono nh44 k, h.2.2.mono nh58 k⟩
theorem Tabs.above {a : Led} {I : Addr} (h : Tabs a) (hI : ∀ p ∈ a, p.1 < I) : Hi I := by
  obtain ⟨_, h1, _⟩ := h.1
  obtain ⟨_, h2, _⟩ := h.2.1
  obtain ⟨_, h3, _⟩ := h.2.2
  exact ⟨Nat.ne_of_gt (hI _ h1), Nat.ne_of_gt (hI _ h2), Nat.ne_of_gt (hI _ h3)⟩

/-- values in the ledger -/
abbrev tupOf (vs : List Value) (k : Nat) : Obj := { cls := .type "tuple", data := .seq vs.toArray k }
def Tup2 (news : Led) (v : Value) (c n : Nat) : Prop := ∃ a t u k, v = .ref a ∧ Hi a ∧ (a, tupOf [.int (c : Nat) t, .int (n : Nat) u] k) ∈ news
def IntsL (news : Led) (v : Value) (ns : List Int) : Prop := ∃ a vs k, v = .ref a ∧ Hi a ∧ (a, listOf vs.toArray k) ∈ news ∧ IntsAre vs ns
theorem solid_seq {o : Obj} {vs : Array Value} {k : Nat} (h : o.data = .seq vs k) : Solid o := by
  rintro (⟨vs', n, t', e1, e2⟩ | ⟨es, ep, e⟩)
  · rw [h] at e1; cases e1
  · rw [h] at e; cases e
theorem Tup2.mono {a b : Led} {v : Value} {c n : Nat} (k : KeepS a b) (h : Tup2 a v c n) : Tup2 b v c n := by
  obtain ⟨x, t, u, q, e, hl, hm⟩ := h
  exact ⟨x, t, u, q, e, hl, k _ hm hl (solid_seq rfl)⟩
theorem IntsL.mono {a b : Led} {v : Value} {ns : List Int} (k : KeepS a b) (h : IntsL a v ns) : IntsL b v ns := by
  obtain ⟨x, vs, q, e, hl, hm, hi⟩ := h
  exact ⟨x, vs, q, e, hl, k _ hm hl (solid_seq rfl), hi⟩
end Mine

end

section
open PySem PySem.W PyProof.Rows
set_option maxRecDepth 100000
set_option maxHeartbeats 8000000
namespace Mine
example : PySem.Challenge.rw_mq0060_01 = PySem.Challenge.rw_mq0060_01 ∧ Mine.hd.heap_39 = Mine.hd.heap_39 := by
  k_fill
  exact ⟨rfl, rfl⟩
local macro_rules | `(tactic| walk_at "pyIter ref") => `(tactic| refine Stop.mk ?_)

theorem gen_spec {w : World} {p : Program} {loose : List Str} {mean : ExcName → Option Value} {mg mb : Str → Option Value} 
    {dp un : Nat} {gd : Option (List Code)} {cn : Str} {cs : Scope} {a : Addr} {ccd : Value} {cl : List (Str × Addr)} {outer : List Env} {A₀ : Around} {base h₀ : Heap} {L : Addr} {m : Str → Option Value} {news : List (Addr × Obj)} {s : Shared} {Q E : Value → Shared → Prop} {c : Nat} {t : Tok}
    (B : Below A₀ base outer h₀) (F : Fr h₀ L s.heap m) (X : (Mine.hd.heap_39 w.params).In h₀) (N : News h₀ L s.heap news) (T : Top p loose mean mg mb h₀) (hk : cs.kind = .function)
    (hd : dp + 1 < recursionLimit) (hu : un + 8 < cLine)
    (ret : ∀ t h' tk', Fr h₀ L h' m → News h₀ L h' news → Q (.int (gen c : Nat) t) { s with heap := h', toks := tk' }) :
    wpAny (model PR w) (ktrTop dp un gd cn cs L a ccd cl outer) (call (.ref 30) [.int (c : Nat) t]) Q E s := by
  refine wpAny_call ?_
  k_dflt cell_enter
  k_steps
  refine Stop.out ?_
  refine rng_loop (n := 8) (news := news) (fun i m₁ nx => nx = news ∧ ∃ t, m₁ (Str.ofString "crc") = some (.int (iter gstep i c : Nat) t)) rfl (by assumption) (by decide) (by rfl) (by assumption) (by assumption) ⟨rfl, t, rfl⟩ ?_ ?_
  · rintro i t₁ m₁ nx h tk own hi hoff ⟨rfl, t₂, hm⟩ F₁ N₁
    rw [map_named hm] at F₁
    k_steps
    · rename Builtin.bitAnd _ _ ≠ _ => hb
      refine InvEndG.intro (nx := nx) (by assumption) (by assumption) ⟨rfl, _, int_is ?_⟩ hoff (fun p hp => List.mem_append_left _ hp) (fun p hp => List.mem_append_right _ hp)
      rw [bitAnd_one_nat] at hb
      rw [fdiv_two_nat]
      refine (bitXor_nat _ 3988292384).trans ?_
      rw [iter, gstep, if_pos (by omega)]
    · rename Builtin.bitAnd _ _ = _ => hb
      refine InvEndG.intro (nx := nx) (by assumption) (by assumption) ⟨rfl, _, int_is ?_⟩ hoff (fun p hp => List.mem_append_left _ hp) (fun p hp => List.mem_append_right _ hp)
      rw [bitAnd_one_nat] at hb
      rw [fdiv_two_nat, iter, gstep, if_neg (by omega)]
  · rintro m₁ nx h tk ⟨rfl, t₂, hm⟩ F₁ N₁
    rw [map_named hm] at F₁
    dsimp only
    k_steps
    exact ret _ _ _ (by assumption) (by assumption)
end Mine

end

section
open PySem PySem.W PyProof.Rows
set_option maxRecDepth 100000
set_option maxHeartbeats 8000000
namespace Mine
section
variable {prog : Program} {w : World} {A : Around} {s : Shared} {env : Env} {h₀ : Heap} {body : List Stmt}

/-- the loop, over the whole state -/
theorem for_core {target : PySem.Expr} {R : Result → Shared → Prop} {I : Addr} {fp : List Addr} {n : Nat} {P : Nat → Value → Prop} {St : Nat → Heap → Prop}
    (W : Walks prog w A I fp [I] n P St) (Inv : Nat → Shared → Prop) (h0 : Inv 0 s) (hst : St 0 s.heap)
    (turn : ∀ i v (s₁ : Shared) h₁ tk₁, i < n → P i v → Inv i s₁ → St (i + 1) h₁ → (∀ b o, b ∉ [I] → s₁.heap.get? b = some o → h₁.get? b = some o) →
      wpAny (model prog w) A (assign target env v) (fun _ s₂ => wpAny (model prog w) A (execs body env) (fun f s₃ => match f with
        | .next | .cont => Inv (i + 1) s₃ ∧ St (i + 1) s₃.heap
        | .brk => R (.ok .next) s₃
        | .ret v => R (.ok (.ret v)) s₃) (fun _ _ => False) s₂) (fun _ _ => False) { s₁ with heap := h₁, toks := tk₁ })
    (done : ∀ (s₁ : Shared) h₁ tk₁, Inv n s₁ → (∀ b o, b ∉ [I] → s₁.heap.get? b = some o → h₁.get? b = some o) → R (.ok .next) { s₁ with heap := h₁, toks := tk₁ })
    (ht : ∀ v, letOwnedTupleGo target (.ref I) v = pure () := by intro _; rfl) :
    codeAny (model prog w) A (.forLoop target (.ref I) body [] env) R s := by
  refine codeAny_forLoop (fun k s' => ∃ i, Inv i s' ∧ St i s'.heap ∧ i ≤ n ∧ k = n + 1 - i) ?_ (n + 1) ⟨0, h0, hst, Nat.zero_le _, rfl⟩ ht
  rintro k s' ⟨i, hI, hs', hi, rfl⟩
  by_cases hlt : i < n
  · refine W.item i _ _ _ hlt hs' fun v h₁ tk₁ hP hst₁ hk₁ => ?_
    refine wpAny_mono (turn i v s' h₁ tk₁ hlt hP hI hst₁ hk₁) (fun _ s₂ h₂ => wpAny_mono h₂ (fun f s₃ h₃ => ?_) fun _ _ e => e.elim) fun _ _ e => e.elim
    cases f with
    | next => exact ⟨n + 1 - (i + 1), by omega, i + 1, h₃.1, h₃.2, hlt, rfl⟩
    | cont => exact ⟨n + 1 - (i + 1), by omega, i + 1, h₃.1, h₃.2, hlt, rfl⟩
    | brk => exact h₃
    | ret v => exact h₃
  · have hin : i = n := by omega
    subst hin
    refine W.done _ _ _ hs' fun h₁ tk₁ hk₁ => wpAny_execs_nil ?_
    exact done s' h₁ tk₁ hI hk₁

/-- how a turn ends -/
def TEnd (s : Shared) (h₀ : Heap) (L : Addr) (I : Addr) (oI : Obj) (S : Led → Prop) (J : (Str → Option Value) → Led → Prop) (Q : Flow → Shared → Prop) (f : Flow) (s₂ : Shared) : Prop := match f with
  | .ret v => Q (.ret v) s₂
  | .brk => Q .next s₂
  | _ => ∃ h' tk m' nx, s₂ = { s with heap := h', toks := tk } ∧ Fr h₀ L h' m' ∧ News h₀ L h' ((I, oI) :: nx) ∧ (∀ p ∈ nx, p.1 ≠ I) ∧ S nx ∧ J m' nx

theorem TEnd.intro {L I : Addr} {oI : Obj} {S : Led → Prop} {J : (Str → Option Value) → Led → Prop} {Q : Flow → Shared → Prop} {h' : Heap} {tk : Nat} {m' : Str → Option Value} {nx : Led}
    (F : Fr h₀ L h' m') (N : News h₀ L h' ((I, oI) :: nx)) (off : ∀ p ∈ nx, p.1 ≠ I) (hS : S nx) (hJ : J m' nx) : TEnd s h₀ L I oI S J Q .next { s with heap := h', toks := tk } := ⟨h', tk, m', nx, rfl, F, N, off, hS, hJ⟩

section
variable {E : Value → Shared → Prop} {Q : Flow → Shared → Prop} {x : Str} {px : Pos} {I : Addr} {fp : List Addr} {n : Nat} {P : Nat → Value → Prop} {St : Nat → Heap → Prop} {S : Led → Prop} {m₀ : Str → Option Value} {news : Led} {c : Addr}

/-- a name of the frame's own for target -/
theorem for_local (W : Walks prog w A I fp [I] n P St) (J : Nat → (Str → Option Value) → Led → Prop)
    (hIo : ∀ i h, St i h → ∃ o, h.get? I = some o)
    (hSt : ∀ i h h' o nw, St i h → h.get? I = some o → h'.get? I = some o → (∀ b o, h₀.get? b = some o → h'.get? b = some o) → News h₀ env.locals h' nw → S nw → St i h')
    (hx : env.kindOf x = some .local) (hp : (env.scope.kind == .class || (env.scope.kind == .module && env.locals != env.globals)) = false)
    (hLf : env.locals ∉ fp) (hI₀ : h₀.get? I = none) (off : ∀ p ∈ news, p.1 ≠ I) (hst : St 0 s.heap) (F : Fr h₀ env.locals s.heap m₀) (N : News h₀ env.locals s.heap news) (hS : S news) (hJ : J 0 m₀ news)
    (turn : ∀ i v m₁ nx h tk oI, i < n → P i v → (∀ p ∈ nx, p.1 ≠ I) → S nx → J i m₁ nx → St (i + 1) h → Fr h₀ env.locals h (fun y => if y = x then some v else m₁ y) → News h₀ env.locals h ((I, oI) :: nx) →
      wpAny (model prog w) A (execs body env) (TEnd s h₀ env.locals I oI S (J (i + 1)) Q) (fun _ _ => False) { s with heap := h, toks := tk })
    (done : ∀ m₁ nx h tk, S nx → J n m₁ nx → Fr h₀ env.locals h m₁ → News h₀ env.locals h nx → Q .next { s with heap := h, toks := tk }) :
    codeAny (model prog w) A (.forLoop (.Name x px) (.ref I) body [] env) (fun r s' => match r with | .ok f => Q f s' | .error e => cameBackBy (model prog w) A env E e s') s := by
  have hLI : env.locals ≠ I := fun e => hLf (e ▸ W.sub I (List.mem_singleton.mpr rfl))
  refine for_core W (fun i s' => ∃ h tk m nx, s' = { s with heap := h, toks := tk } ∧ Fr h₀ env.locals h m ∧ News h₀ env.locals h nx ∧ (∀ p ∈ nx, p.1 ≠ I) ∧ S nx ∧ J i m nx) ⟨s.heap, s.toks, m₀, news, rfl, F, N, off, hS, hJ⟩ hst ?_ ?_
  · rintro i v s₁ h₁ tk₁ hi hP ⟨h, tk, m, nx, rfl, F₁, N₁, off₁, hS₁, hJ₁⟩ hst₁ hk₁
    have F₂ : Fr h₀ env.locals h₁ m := LCg.fr_but F₁ hk₁ hLI hI₀
    have N₂ : News h₀ env.locals h₁ nx := LCg.news_but N₁ hk₁ off₁
    refine wpAny_assign_Name (wpAny_storeName_local hx F₂.ns (fun h₂ hn₂ hs₂ => ?_) hp)
    have hst₂ : St (i + 1) h₂ := W.frame _ _ _ hst₁ fun b hb o e => (hs₂.2 b fun q => hLf (q ▸ hb)).trans e
    obtain ⟨oI, hoI⟩ := hIo _ _ hst₂
    have N₃ : News h₀ env.locals h₂ ((I, oI) :: nx) := fun p hp => by
      rcases List.mem_cons.mp hp with rfl | hp
      · exact ⟨hoI, fun e => hLI e.symm, hI₀⟩
      · exact N₂.set hs₂ p hp
    refine wpAny_mono (turn i v m nx h₂ _ oI hi hP off₁ hS₁ hJ₁ hst₂ (F₂.set hn₂ hs₂) N₃) (fun f s₃ h₃ => ?_) fun _ _ e => e
    have fin : (∃ h' tk m' nx, s₃ = { s with heap := h', toks := tk } ∧ Fr h₀ env.locals h' m' ∧ News h₀ env.locals h' ((I, oI) :: nx) ∧ (∀ p ∈ nx, p.1 ≠ I) ∧ S nx ∧ J (i + 1) m' nx) →
        (∃ h tk m nx, s₃ = { s with heap := h, toks := tk } ∧ Fr h₀ env.locals h m ∧ News h₀ env.locals h nx ∧ (∀ p ∈ nx, p.1 ≠ I) ∧ S nx ∧ J (i + 1) m nx) ∧ St (i + 1) s₃.heap := by
      rintro ⟨h', tk, m', nx', rfl, F', N', off', hS', hJ'⟩
      have N'' : News h₀ env.locals h' nx' := fun p hp => N' p (List.mem_cons_of_mem _ hp)
      exact ⟨⟨h', tk, m', nx', rfl, F', N'', off', hS', hJ'⟩, hSt _ _ _ _ _ hst₂ hoI (N' _ List.mem_cons_self).1 F'.keep N'' hS'⟩
    cases f with
    | ret v => exact h₃
    | brk => exact h₃
    | next => exact fin h₃
    | cont => exact fin h₃
  · rintro s₁ h₁ tk₁ ⟨h, tk, m, nx, rfl, F₁, N₁, off₁, hS₁, hJ₁⟩ hk₁
    exact done m nx h₁ tk₁ hS₁ hJ₁ (LCg.fr_but F₁ hk₁ hLI hI₀) (LCg.news_but N₁ hk₁ off₁)

/-- a cell for target: the ledger bears it -/
theorem for_cell (W : Walks prog w A I fp [I] n P St) (J : Nat → (Str → Option Value) → Led → Prop)
    (hIo : ∀ i h, St i h → ∃ o, h.get? I = some o)
    (hSt : ∀ i h h' o nw, St i h → h.get? I = some o → h'.get? I = some o → (∀ b o, h₀.get? b = some o → h'.get? b = some o) → News h₀ env.locals h' nw → S nw → St i h')
    (hfun : env.scope.kind = .function) (hx : env.kindOf x = some .cell) (hc : env.cells.lookup x = some c)
    (hLI : env.locals ≠ I) (hcf : c ∉ fp) (hI₀ : h₀.get? I = none) (off : ∀ p ∈ news, p.1 ≠ I) (hst : St 0 s.heap) (F : Fr h₀ env.locals s.heap m₀) (N : News h₀ env.locals s.heap news) (hS : S news) (hJ : J 0 m₀ news)
    (hcell : ∀ i m nx, J i m nx → ∃ o v, (c, o) ∈ nx ∧ o.data = .cell v)
    (turn : ∀ i v m₁ nx h tk oI oc, i < n → P i v → (∀ p ∈ nx, p.1 ≠ I) → S nx → J i m₁ nx → St (i + 1) h → oc.data = .cell (some v) → Fr h₀ env.locals h m₁ → News h₀ env.locals h ((I, oI) :: (c, oc) :: nx.filter fun p => p.1 != c) →
      wpAny (model prog w) A (execs body env) (TEnd s h₀ env.locals I oI S (J (i + 1)) Q) (fun _ _ => False) { s with heap := h, toks := tk })
    (done : ∀ m₁ nx h tk, S nx → J n m₁ nx → Fr h₀ env.locals h m₁ → News h₀ env.locals h nx → Q .next { s with heap := h, toks := tk }) :
    codeAny (model prog w) A (.forLoop (.Name x px) (.ref I) body [] env) (fun r s' => match r with | .ok f => Q f s' | .error e => cameBackBy (model prog w) A env E e s') s := by
  refine for_core W (fun i s' => ∃ h tk m nx, s' = { s with heap := h, toks := tk } ∧ Fr h₀ env.locals h m ∧ News h₀ env.locals h nx ∧ (∀ p ∈ nx, p.1 ≠ I) ∧ S nx ∧ J i m nx) ⟨s.heap, s.toks, m₀, news, rfl, F, N, off, hS, hJ⟩ hst ?_ ?_
  · rintro i v s₁ h₁ tk₁ hi hP ⟨h, tk, m, nx, rfl, F₁, N₁, off₁, hS₁, hJ₁⟩ hst₁ hk₁
    have F₂ : Fr h₀ env.locals h₁ m := LCg.fr_but F₁ hk₁ hLI hI₀
    have N₂ : News h₀ env.locals h₁ nx := LCg.news_but N₁ hk₁ off₁
    obtain ⟨o, v₀, hmem, hdat⟩ := hcell i m nx hJ₁
    have hco := N₂ _ hmem
    refine wpAny_assign_Name (wpAny_storeName_cell hfun hx hc ⟨o, hco.1, hdat⟩ fun h₂ hv hs₂ => ?_)
    obtain ⟨oc, hoc, hcd⟩ := hv
    have hst₂ : St (i + 1) h₂ := W.frame _ _ _ hst₁ fun b hb o e => (hs₂.2 b fun q => hcf (q ▸ hb)).trans e
    obtain ⟨oI, hoI⟩ := hIo _ _ hst₂
    have N₃ : News h₀ env.locals h₂ ((I, oI) :: (c, oc) :: nx.filter fun p => p.1 != c) := fun p hp => by
      rcases List.mem_cons.mp hp with rfl | hp
      · exact ⟨hoI, fun e => hLI e.symm, hI₀⟩
      · rcases List.mem_cons.mp hp with rfl | hp
        · exact ⟨hoc, hco.2⟩
        · obtain ⟨hp1, hp2⟩ := List.mem_filter.mp hp
          exact ⟨(hs₂.2 p.1 (by simpa using hp2)).trans (N₂ p hp1).1, (N₂ p hp1).2⟩
    refine wpAny_mono (turn i v m nx h₂ _ oI oc hi hP off₁ hS₁ hJ₁ hst₂ hcd (F₂.change hs₂ hco.2.1 hco.2.2) N₃) (fun f s₃ h₃ => ?_) fun _ _ e => e
    have fin : (∃ h' tk m' nx, s₃ = { s with heap := h', toks := tk } ∧ Fr h₀ env.locals h' m' ∧ News h₀ env.locals h' ((I, oI) :: nx) ∧ (∀ p ∈ nx, p.1 ≠ I) ∧ S nx ∧ J (i + 1) m' nx) →
        (∃ h tk m nx, s₃ = { s with heap := h, toks := tk } ∧ Fr h₀ env.locals h m ∧ News h₀ env.locals h nx ∧ (∀ p ∈ nx, p.1 ≠ I) ∧ S nx ∧ J (i + 1) m nx) ∧ St (i + 1) s₃.heap := by
      rintro ⟨h', tk, m', nx', rfl, F', N', off', hS', hJ'⟩
      have N'' : News h₀ env.locals h' nx' := fun p hp => N' p (List.mem_cons_of_mem _ hp)
      exact ⟨⟨h', tk, m', nx', rfl, F', N'', off', hS', hJ'⟩, hSt _ _ _ _ _ hst₂ hoI (N' _ List.mem_cons_self).1 F'.keep N'' hS'⟩
    cases f with
    | ret v => exact h₃
    | brk => exact h₃
    | next => exact fin h₃
    | cont => exact fin h₃
  · rintro s₁ h₁ tk₁ ⟨h, tk, m, nx, rfl, F₁, N₁, off₁, hS₁, hJ₁⟩ hk₁
    exact done m nx h₁ tk₁ hS₁ hJ₁ (LCg.fr_but F₁ hk₁ hLI hI₀) (LCg.news_but N₁ hk₁ off₁)
end
end
abbrev itL (ax : Addr) (i : Nat) : Obj := { cls := .type "list_iterator", data := .fields #[.ref ax, .int (i : Nat) 0] }
abbrev rngObj (a b c : Int) (t u v : Tok) : Obj := { cls := .type "range", dict := none, data := .fields #[.int a t, .int b u, .int c v], slots := #[] }
abbrev itG (x left step : Int) : Obj := { cls := .type "range_iterator", dict := none, data := .fields #[rawInt x, rawInt left, rawInt step], slots := #[] }
theorem iter_vola (ax : Addr) (i : Nat) : Vola (itL ax i) := .inl ⟨_, _, _, rfl, rfl⟩
theorem iterG_vola (x l c : Int) : Vola (itG x l c) := .inl ⟨_, _, _, rfl, rfl⟩

section
variable {prog : Program} {w : World} {A : Around} {s : Shared} {env : Env} {h₀ : Heap} {body : List Stmt} {E : Value → Shared → Prop} {Q : Flow → Shared → Prop} {x : Str} {px : Pos} {I : Addr} {m₀ : Str → Option Value} {news : Led} {c : Addr}
theorem pyIter_led {L ax : Addr} {m : Str → Option Value} {its : List Value} {k : Nat} {Q : Value → Shared → Prop} (F : Fr h₀ L s.heap m) (N : News h₀ L s.heap news) (hp : (ax, listOf its.toArray k) ∈ news)
    (h : ∀ (I : Addr) h', Fr h₀ L h' m → News h₀ L h' ((I, itL ax 0) :: news) → (∀ p ∈ news, p.1 < I) → Q (.ref I) { s with heap := h' }) :
    wpAny (model prog w) A (pyIter (.ref ax)) Q E s :=
  wpAny_pyIter_list (items := its.toArray) ⟨_, (N _ hp).1, rfl, k, rfl⟩ (h _ _ (F.push _) (News.push F N _ rfl) (fun q hq => Heap.lt_size (N q hq).1))
theorem pyIter_rng {L ax : Addr} {m : Str → Option Value} {a b c : Int} {t u v : Tok} {Q : Value → Shared → Prop} (F : Fr h₀ L s.heap m) (N : News h₀ L s.heap news) (hp : (ax, rngObj a b c t u v) ∈ news) (hsmall : Builtin.Range.small a b c = true)
    (h : ∀ (I : Addr) h', Fr h₀ L h' m → News h₀ L h' ((I, itG a (Builtin.Range.rangeSize a b c) c) :: news) → (∀ p ∈ news, p.1 < I) → Q (.ref I) { s with heap := h' }) :
    wpAny (model prog w) A (pyIter (.ref ax)) Q E s :=
  wpAny_pyIter_range (N _ hp).1 hsmall (h _ _ (F.push _) (News.push F N _ rfl) (fun q hq => Heap.lt_size (N q hq).1))

theorem for_list {ax : Addr} {its : List Value} {k : Nat} (J : Nat → (Str → Option Value) → Led → Prop) (hh : A.handled = none)
    (hx : env.kindOf x = some .local) (hp : (env.scope.kind == .class || (env.scope.kind == .module && env.locals != env.globals)) = false)
    (F : Fr h₀ env.locals s.heap m₀) (N : News h₀ env.locals s.heap ((I, itL ax 0) :: news)) (hI : ∀ p ∈ news, p.1 < I) (hax : (ax, listOf its.toArray k) ∈ news) (hJ : J 0 m₀ news)
    (turn : ∀ i v m₁ nx h tk oI, its[i]? = some v → (∀ p ∈ nx, p.1 ≠ I) → (ax, listOf its.toArray k) ∈ nx → J i m₁ nx → Vola oI → Fr h₀ env.locals h (fun y => if y = x then some v else m₁ y) → News h₀ env.locals h ((I, oI) :: nx) →
      wpAny (model prog w) A (execs body env) (TEnd s h₀ env.locals I oI (fun nx => (ax, listOf its.toArray k) ∈ nx) (J (i + 1)) Q) (fun _ _ => False) { s with heap := h, toks := tk })
    (done : ∀ m₁ nx h tk, (ax, listOf its.toArray k) ∈ nx → J its.length m₁ nx → Fr h₀ env.locals h m₁ → News h₀ env.locals h nx → Q .next { s with heap := h, toks := tk }) :
    codeAny (model prog w) A (.forLoop (.Name x px) (.ref I) body [] env) (fun r s' => match r with | .ok f => Q f s' | .error e => cameBackBy (model prog w) A env E e s') s := by
  have hne : ax ≠ I := Nat.ne_of_lt (hI _ hax)
  have hst : s.heap.IsListIter I ax 0 ∧ s.heap.IsList ax its.toArray := ⟨⟨_, (N _ List.mem_cons_self).1, rfl, rfl⟩, ⟨_, (N _ (List.mem_cons_of_mem _ hax)).1, rfl, k, rfl⟩⟩
  refine for_local (S := fun nx => (ax, listOf its.toArray k) ∈ nx) (news := news) (Walks.list hh I ax hne its.toArray) J (fun i h st => by obtain ⟨o, e, _⟩ := st.1; exact ⟨o, e⟩) ?_ hx hp ?_ (N _ List.mem_cons_self).2.2 (fun p hp => Nat.ne_of_lt (hI p hp)) hst F
    (fun p hp => N p (List.mem_cons_of_mem _ hp)) hax hJ ?_ ?_
  · intro i h h2 o nw st e e2 _ N9 hS
    exact ⟨by obtain ⟨o', q, r⟩ := st.1; rw [e] at q; cases q; exact ⟨o, e2, r⟩, ⟨_, (N9 _ hS).1, rfl, k, rfl⟩⟩
  · intro hm
    rcases List.mem_cons.mp hm with e | hm
    · exact (N _ List.mem_cons_self).2.1 e.symm
    · exact (N _ (List.mem_cons_of_mem _ hax)).2.1 (List.mem_singleton.mp hm).symm
  · intro i v m₁ nx h tk oI hi hP hoff hS hJ' hst' F₄ N₄
    refine turn i v m₁ nx h tk oI (by simpa using hP) hoff hS hJ' ?_ F₄ N₄
    obtain ⟨⟨o', q, hc', hd'⟩, _⟩ := hst'
    have e := (N₄ _ List.mem_cons_self).1
    rw [q] at e; cases e
    exact .inl ⟨_, _, _, hd', rfl⟩
  · intro m₁ nx h tk hS hJ' F₄ N₄
    exact done m₁ nx h tk hS (by simpa using hJ') F₄ N₄

theorem for_rng {a₀ b₀ c₀ : Int} {n : Nat} (J : Nat → (Str → Option Value) → Led → Prop) (hh : A.handled = none)
    (hx : env.kindOf x = some .local) (hp : (env.scope.kind == .class || (env.scope.kind == .module && env.locals != env.globals)) = false)
    (hsz : Builtin.Range.rangeSize a₀ b₀ c₀ = (n : Int)) (F : Fr h₀ env.locals s.heap m₀) (N : News h₀ env.locals s.heap ((I, itG a₀ (Builtin.Range.rangeSize a₀ b₀ c₀) c₀) :: news)) (hI : ∀ p ∈ news, p.1 < I) (hJ : J 0 m₀ news)
    (turn : ∀ i t m₁ nx h tk oI, i < n → (∀ p ∈ nx, p.1 ≠ I) → J i m₁ nx → Vola oI → Fr h₀ env.locals h (fun y => if y = x then some (.int (a₀ + (i : Int) * c₀) t) else m₁ y) → News h₀ env.locals h ((I, oI) :: nx) →
      wpAny (model prog w) A (execs body env) (TEnd s h₀ env.locals I oI (fun _ => True) (J (i + 1)) Q) (fun _ _ => False) { s with heap := h, toks := tk })
    (done : ∀ m₁ nx h tk, J n m₁ nx → Fr h₀ env.locals h m₁ → News h₀ env.locals h nx → Q .next { s with heap := h, toks := tk }) :
    codeAny (model prog w) A (.forLoop (.Name x px) (.ref I) body [] env) (fun r s' => match r with | .ok f => Q f s' | .error e => cameBackBy (model prog w) A env E e s') s := by
  rw [hsz] at N
  refine for_local (S := fun _ => True) (news := news) (Walks.range hh I a₀ c₀ n) J (fun i h st => ⟨_, st⟩) (fun i h h2 o nw st e e2 _ N9 hS => e2.trans (e.symm.trans st)) hx hp (fun hm => (N _ List.mem_cons_self).2.1 (List.mem_singleton.mp hm).symm) (N _ List.mem_cons_self).2.2 (fun p hp => Nat.ne_of_lt (hI p hp))
    (by show IsRangeIter _ _ _ _ _; simpa using (N _ List.mem_cons_self).1) F (fun p hp => N p (List.mem_cons_of_mem _ hp)) trivial hJ ?_ ?_
  · rintro i v m₁ nx h tk oI hi ⟨t, rfl⟩ hoff hS hJ' hst' F₄ N₄
    refine turn i t m₁ nx h tk oI hi hoff hJ' ?_ F₄ N₄
    have e := (N₄ _ List.mem_cons_self).1
    rw [hst'] at e; cases e
    exact iterG_vola _ _ _
  · intro m₁ nx h tk _ hJ' F₄ N₄
    exact done m₁ nx h tk hJ' F₄ N₄

theorem for_rngC {a₀ b₀ c₀ : Int} {n : Nat} (J : Nat → (Str → Option Value) → Led → Prop) (hh : A.handled = none)
    (hfun : env.scope.kind = .function) (hx : env.kindOf x = some .cell) (hc : env.cells.lookup x = some c)
    (hsz : Builtin.Range.rangeSize a₀ b₀ c₀ = (n : Int)) (F : Fr h₀ env.locals s.heap m₀) (N : News h₀ env.locals s.heap ((I, itG a₀ (Builtin.Range.rangeSize a₀ b₀ c₀) c₀) :: news)) (hI : ∀ p ∈ news, p.1 < I) (hJ : J 0 m₀ news)
    (hcell : ∀ i m nx, J i m nx → ∃ o v, (c, o) ∈ nx ∧ o.data = .cell v)
    (turn : ∀ i t m₁ nx h tk oI oc, i < n → (∀ p ∈ nx, p.1 ≠ I) → J i m₁ nx → Vola oI → oc.data = .cell (some (.int (a₀ + (i : Int) * c₀) t)) → Fr h₀ env.locals h m₁ → News h₀ env.locals h ((I, oI) :: (c, oc) :: off c nx) →
      wpAny (model prog w) A (execs body env) (TEnd s h₀ env.locals I oI (fun _ => True) (J (i + 1)) Q) (fun _ _ => False) { s with heap := h, toks := tk })
    (done : ∀ m₁ nx h tk, J n m₁ nx → Fr h₀ env.locals h m₁ → News h₀ env.locals h nx → Q .next { s with heap := h, toks := tk }) :
    codeAny (model prog w) A (.forLoop (.Name x px) (.ref I) body [] env) (fun r s' => match r with | .ok f => Q f s' | .error e => cameBackBy (model prog w) A env E e s') s := by
  rw [hsz] at N
  have hcI : c ≠ I := by
    obtain ⟨o, v, hm, _⟩ := hcell 0 m₀ news hJ
    exact Nat.ne_of_lt (hI _ hm)
  refine for_cell (S := fun _ => True) (news := news) (c := c) (Walks.range hh I a₀ c₀ n) J (fun i h st => ⟨_, st⟩) (fun i h h2 o nw st e e2 _ N9 hS => e2.trans (e.symm.trans st)) hfun hx hc (fun e => (N _ List.mem_cons_self).2.1 e.symm) (fun hm => hcI (List.mem_singleton.mp hm)) (N _ List.mem_cons_self).2.2 (fun p hp => Nat.ne_of_lt (hI p hp))
    (by show IsRangeIter _ _ _ _ _; simpa using (N _ List.mem_cons_self).1) F (fun p hp => N p (List.mem_cons_of_mem _ hp)) trivial hJ hcell ?_ ?_
  · rintro i v m₁ nx h tk oI oc hi ⟨t, rfl⟩ hoff hS hJ' hst' hcd F₄ N₄
    refine turn i t m₁ nx h tk oI oc hi hoff hJ' ?_ hcd F₄ N₄
    have e := (N₄ _ List.mem_cons_self).1
    rw [hst'] at e; cases e
    exact iterG_vola _ _ _
  · intro m₁ nx h tk _ hJ' F₄ N₄
    exact done m₁ nx h tk hJ' F₄ N₄
end
end Mine

end

section
open PySem PySem.W PyProof.Rows
set_option maxRecDepth 100000
set_option maxHeartbeats 8000000
namespace Mine
example : PySem.Challenge.rw_mq0060_01 = PySem.Challenge.rw_mq0060_01 ∧ Mine.hd.heap_39 = Mine.hd.heap_39 := by
  k_fill
  exact ⟨rfl, rfl⟩

section
variable {prog : Program} {w : World} {A : Around} {E : Value → Shared → Prop} {s : Shared} {h₀ : Heap} {L : Addr} {m : Str → Option Value} {news : Led}
theorem iter_list {ax : Addr} {its : List Value} {k : Nat} {Q : Value → Shared → Prop} (F : Fr h₀ L s.heap m) (N : News h₀ L s.heap news) (hp : (ax, listOf its.toArray k) ∈ news)
    (h : ∀ (I : Addr) h', Fr h₀ L h' m → News h₀ L h' ((I, itL ax 0) :: news) → (∀ p ∈ news, p.1 < I) → Q (.ref I) { s with heap := h' }) :
    wpAny (model prog w) A (call (.builtin "iter") [.ref ax]) Q E s := by
  refine Calls.call_function_entry (by decide +kernel) (by decide +kernel) kdk_entry_iter (kdk_args_iter _) ?_
  unfold Builtin.«iter»
  refine wpAny_bind (m := someArgs "iter" 1 2 _) (wpAny_of_eq (a := [Value.ref ax]) (by first | rfl | kernel_rfl!) ?_)
  show wpAny _ _ (pyIter (.ref ax) >>= _) _ _ _
  refine wpAny_bind (wpAny_pyIter_list (items := its.toArray) ⟨_, (N _ hp).1, rfl, k, rfl⟩ ?_)
  exact wpAny_pure ⟨_, rfl, h _ _ (F.push _) (News.push F N _ rfl) (fun q hq => Heap.lt_size (N q hq).1)⟩
theorem iter_range {ax : Addr} {a b c : Int} {t u v : Tok} {Q : Value → Shared → Prop} (F : Fr h₀ L s.heap m) (N : News h₀ L s.heap news) (hp : (ax, rngObj a b c t u v) ∈ news) (hsmall : Builtin.Range.small a b c = true)
    (h : ∀ (I : Addr) h', Fr h₀ L h' m → News h₀ L h' ((I, itG a (Builtin.Range.rangeSize a b c) c) :: news) → (∀ p ∈ news, p.1 < I) → Q (.ref I) { s with heap := h' }) :
    wpAny (model prog w) A (call (.builtin "iter") [.ref ax]) Q E s := by
  refine Calls.call_function_entry (by decide +kernel) (by decide +kernel) kdk_entry_iter (kdk_args_iter _) ?_
  unfold Builtin.«iter»
  refine wpAny_bind (m := someArgs "iter" 1 2 _) (wpAny_of_eq (a := [Value.ref ax]) (by first | rfl | kernel_rfl!) ?_)
  show wpAny _ _ (pyIter (.ref ax) >>= _) _ _ _
  refine wpAny_bind (wpAny_pyIter_range (N _ hp).1 hsmall ?_)
  exact wpAny_pure ⟨_, rfl, h _ _ (F.push _) (News.push F N _ rfl) (fun q hq => Heap.lt_size (N q hq).1)⟩
theorem next_list {it ax : Addr} {i : Nat} {its : List Value} {k : Nat} {x : Value} {Q : Value → Shared → Prop} (F : Fr h₀ L s.heap m) (N : News h₀ L s.heap ((it, itL ax i) :: news)) (off : ∀ p ∈ news, p.1 ≠ it) (hp : (ax, listOf its.toArray k) ∈ news) (hx : its[i]? = some x)
    (h : ∀ h', Fr h₀ L h' m → News h₀ L h' ((it, itL ax (i + 1)) :: news) → Q x { s with heap := h' }) :
    wpAny (model prog w) A (call (.builtin "next") [.ref it]) Q E s := by
  have hm := N _ List.mem_cons_self
  have hit : s.heap.IsListIter it ax i := ⟨_, hm.1, rfl, rfl⟩
  have hl : s.heap.IsList ax its.toArray := ⟨_, (N _ (List.mem_cons_of_mem _ hp)).1, rfl, k, rfl⟩
  refine Calls.call_function_entry (by decide +kernel) (by decide +kernel) kdk_entry_next (kdk_args_next _) ?_
  unfold Builtin.«next»
  refine wpAny_bind (m := someArgs "next" 1 2 _) (wpAny_of_eq (a := [Value.ref it]) (by first | rfl | kernel_rfl!) ?_)
  dsimp only
  refine wpAny_bind (wpAny_specialOf (name := Str.ofString "__next__") hit.typeIs slot_listiter_next.lookup ?_)
  refine wpAny_ite_split (fun hab => absurd hab (by decide)) (fun _ => ?_)
  obtain ⟨ol, hol, _, nl, hdl⟩ := hl
  refine wpAny_bind (wpAny_callSpecial?_slot (name := Str.ofString "__next__") hit.typeIs slot_listiter_next
    (wpAny_call_entry slot_listiter_next hit.typeIs entry_listiter_next ?_ (args_listiter_next _)))
  show wpAny _ _ (field (.ref it) 0 >>= _) _ _ s
  refine wpAny_bind (wpAny_field hm.1 rfl (x := .ref ax) rfl ?_)
  show wpAny _ _ (if (Value.ref ax == Value.none) = true then _ else _) _ _ s
  rw [if_neg (show ¬ ((Value.ref ax == Value.none) = true) from Bool.false_ne_true)]
  show wpAny _ _ (field (.ref it) 1 >>= _) _ _ s
  refine wpAny_bind (wpAny_field hm.1 rfl (x := .int i 0) rfl ?_)
  show wpAny _ _ (seqItems? (.ref ax) >>= _) _ _ s
  refine wpAny_bind (wpAny_seqItems hol hdl ?_)
  have hx' : its.toArray[i]? = some x := by simpa using hx
  simp only [Int.toNat_natCast, hx']
  refine wpAny_bind (wpAny_setField hm.1 rfl (by simp) (wpAny_pure ⟨x, rfl, wpAny_pure ⟨_, rfl, ?_⟩⟩))
  have hs : Heap.SameBut it s.heap (s.heap.update it (Obj.mapFields (·.setIfInBounds 1 (rawInt ((i : Int) + 1))))) := Heap.SameBut.update ..
  refine h _ (F.change hs hm.2.1 hm.2.2) fun p hp => ?_
  rcases List.mem_cons.mp hp with rfl | hp
  · refine ⟨Heap.get?_update_self _ hm.1 rfl, hm.2⟩
  · exact ⟨hs.extBut _ _ (off p hp) (N p (List.mem_cons_of_mem _ hp)).1, (N p (List.mem_cons_of_mem _ hp)).2⟩
end

/-- a function stands at that address -/
def FnOk (K : Frag) (news : Led) (f : Addr) : Prop := (∃ o fd, (f, o) ∈ news ∧ Hi f ∧ o.data = .func fd) ∨ ∃ o fd, K.lookup f = some o ∧ o.data = .func fd
def FnAtH (f : Addr) (h : Heap) : Prop := ∃ o fd, h.get? f = some o ∧ o.data = .func fd
theorem FnOk.at {K : Frag} {news : Led} {f : Addr} {h₀ h : Heap} {L : Addr} {m : Str → Option Value} (x : FnOk K news f) (X : K.In h₀) (F : Fr h₀ L h m) (N : News h₀ L h news) : FnAtH f h := by
  rcases x with ⟨o, fd, hm, _, hd⟩ | ⟨o, fd, hl, hd⟩
  · exact ⟨o, fd, (N _ hm).1, hd⟩
  · exact ⟨o, fd, F.keep _ _ (X _ _ hl), hd⟩
theorem solid_fn {o : Obj} {fd : FuncData} (h : o.data = .func fd) : Solid o := by
  rintro (⟨vs', n, t', e1, e2⟩ | ⟨es, ep, e⟩)
  · rw [h] at e1; cases e1
  · rw [h] at e; cases e
theorem FnOk.mono {K : Frag} {a b : Led} {f : Addr} (k : KeepS a b) (x : FnOk K a f) : FnOk K b f := by
  rcases x with ⟨o, fd, hm, hl, hd⟩ | x
  · exact .inl ⟨o, fd, k _ hm hl (solid_fn hd), hl, hd⟩
  · exact .inr x
section
variable {M : Model} {A : Around} {E : Value → Shared → Prop} {s : Shared} {env : Env} {pos : Pos} {Q : Value → Shared → Prop}
theorem callWith_fn {f : Addr} {first : List Value} {e : PySem.Expr} {rest : List PySem.Expr} (h : wpAny M A (spliced (backTo pos (starEach (e :: rest) env))) (fun vs s₁ => FnAtH f s₁.heap ∧ wpAny M A (call (.ref f) (first ++ vs)) Q E s₁) E s)
    (he : starEach (e :: rest) env = (false, eval e env) :: starEach rest env := by rfl) (hplain : (backTo pos (starEach rest env)).any (·.1) = false := by rfl) :
    wpAny M A (callWith pos (.ref f) first (backTo pos (starEach (e :: rest) env)) []) Q E s := by
  rw [he] at h ⊢
  refine callWith_of (P := FnAtH f) (by show ((false || (backTo pos (starEach rest env)).any (·.1)) || false) = false; rw [hplain]; rfl) (fun h ⟨o, fd, e1, e2⟩ => ⟨.frame, .inl rfl, (Looks.ld (part := none) e1).andThen ?_⟩) (Calls.evalArgs_plain h)
  rw [e2]
  exact .now
end
section
variable {prog : Program} {w : World} {A : Around} {E : Value → Shared → Prop} {s : Shared} {h₀ : Heap} {L : Addr} {m : Str → Option Value} {news : Led} {Q : Value → Shared → Prop}
def Start (news : Led) (v : Value) : Prop := (∃ c t, v = .int c t) ∨ ∃ a o, v = .ref a ∧ Hi a ∧ (a, o) ∈ news ∧ o.cls = .type "tuple"
theorem is15 {v : Value} (X : (Mine.hd.heap_39 w.params).In h₀) (F : Fr h₀ L s.heap m) (N : News h₀ L s.heap news) (hv : Start news v) (h : Q (.bool false) s) : wpAny (model prog w) A (compareOp .Is v (.ref 15)) Q E s := by
  rcases hv with ⟨c, t, rfl⟩ | ⟨a, o, rfl, hl, hm, hc⟩
  · exact wpAny_is_other rfl (by intro e; cases e) h
  · have h15 : h₀.get? 15 = some { cls := .type "object" } := X 15 _ (by rfl)
    show wpAny _ A (do return .bool (← isSame (.ref a) (.ref 15))) Q E s
    refine wpAny_bind ?_
    show wpAny _ A (if (a == 15) = true then pure true else _) _ E s
    have hne : a ≠ 15 := fun e => by have := (N _ hm).2.2; rw [e, h15] at this; cases this
    rw [if_neg (by simpa using hne)]
    refine wpAny_bind (wpAny_load (N _ hm).1 (wpAny_bind (wpAny_load (F.keep _ _ h15) ?_)))
    split
    · rename_i h1 h2 _ _; exact absurd h2 (by decide)
    · exact wpAny_pure (wpAny_pure h)
end
local macro_rules | `(tactic| walk_at "pyIter ref") => `(tactic| refine Stop.mk ?_)
local macro_rules | `(tactic| walk_at "exec For Name Name cons nil") => `(tactic| refine Stop.mk ?_)
local macro_rules | `(tactic| walk_at "callWith ref") => `(tactic| refine Stop.mk ?_)
local macro_rules | `(tactic| walk_at "call ref") => `(tactic| refine Stop.mk ?_)

theorem red_list {w : World} {p : Program} {loose : List Str} {mean : ExcName → Option Value} {mg mb : Str → Option Value} {D U : Nat} {f : Addr} {ax : Addr} {its : List Value} {k : Nat} {v0 : Value} {news : Led}
    (R : Nat → Led → Value → Prop) (hR : ∀ i a b v, KeepS a b → R i a v → R i b v)
    (hax : (ax, listOf its.toArray k) ∈ news) (hal : Hi ax) (hT : Tabs news) (hf : FnOk (Mine.hd.heap_39 w.params) news f) (hv : Start news v0) (h0 : R 0 news v0)
    (step : ∀ i v y nx, its[i]? = some y → Keep news nx → Tabs nx → R i nx v → CallW w p loose mean mg mb D U (.ref f) [v, y] nx (fun r new => Keep nx new ∧ Tabs new ∧ R (i + 1) new r)) :
    CallW w p loose mean mg mb (D + 1) (U + 10) (.ref 23) [.ref f, .ref ax, v0] news (fun r new => Keep news new ∧ Tabs new ∧ R its.length new r) := by
  unfold CallW
  intro dp un gd cn cs a ccd cl outer A₀ base h₀ L m s Q E B F X N T hC hk hd hu ret
  refine wpAny_call ?_
  k_dflt (refine' code_def ?k1 ?k2 ?k3 ?k4 ?k5 ?kA ?kF ?kK ?k6 ?k7 ?k8 ?k9 ?kB ?_ ?c2 ?c3 ?c4 ?c5; (case kA => exact rfl); (case kF => exact rfl); (case kK => assumption); (case k1 => k_asm); (case k2 => k_asm); (case k3 => k_asm); (case k4 => k_asm); (case k5 => k_asm); (case k6 => k_is); (case k7 => k_is); (case k8 => ktr_room); (case k9 => exact binds_K (by k_in) rfl (by k_is) rfl rfl rfl); (case c5 => decide); (case kB => exact locs rfl); (case c2 => exact rfl); (case c3 => exact rfl); (case c4 => exact rfl); k_whole; intro g' L' h' FG' F' N' B' X' T'; (try dsimp only); (try k_fold))
  k_steps
  refine iter_list F' N' hax ?_
  intro I h₁ F₁ N₁ hI
  dsimp only
  k_steps
  rename Fr g' L' _ _ => F₂
  rename News g' L' _ _ => N₂
  refine is15 X' F₂ (fun p hp => N₂ p (List.mem_cons_of_mem _ hp)) hv ?_
  k_steps
  refine Stop.out (wpAny_For ?_)
  k_steps
  rename Fr g' L' _ _ => F₃
  rename News g' L' _ _ => N₃
  have hI58 : Hi I := hT.above hI
  have hne : ax ≠ I := Nat.ne_of_lt (hI _ hax)
  have hIL : L' ≠ I := fun e => (N₃ _ List.mem_cons_self).2.1 e.symm
  refine Stop.out ((Walks.list rfl I ax hne its.toArray).self 0 _ _ _ (by exact ⟨⟨_, (N₃ _ List.mem_cons_self).1, rfl, rfl⟩, ⟨_, (N₃ _ (List.mem_cons_of_mem _ hax)).1, rfl, k, rfl⟩⟩) ?_)
  refine for_local (S := fun nx => (ax, listOf its.toArray k) ∈ nx) (news := news) (Walks.list rfl I ax hne its.toArray) (fun i m nx => ∃ v, m (Str.ofString "value") = some v ∧ m (Str.ofString "function") = some (.ref f) ∧ Keep news nx ∧ Tabs nx ∧ R i nx v)
    (fun i h st => by obtain ⟨o, e, _⟩ := st.1; exact ⟨o, e⟩) ?_ rfl rfl ?_ (N₃ _ List.mem_cons_self).2.2 (fun p hp => Nat.ne_of_lt (hI p hp)) (by exact ⟨⟨_, (N₃ _ List.mem_cons_self).1, rfl, rfl⟩, ⟨_, (N₃ _ (List.mem_cons_of_mem _ hax)).1, rfl, k, rfl⟩⟩) F₃ (fun p hp => N₃ p (List.mem_cons_of_mem _ hp)) hax ⟨v0, rfl, rfl, Keep.refl _, hT, h0⟩ ?_ ?_
  · intro i h h2 o nw st e e2 _ N9 hS
    exact ⟨by obtain ⟨o', q, r⟩ := st.1; rw [e] at q; cases q; exact ⟨o, e2, r⟩, ⟨_, (N9 _ hS).1, rfl, k, rfl⟩⟩
  · intro hm
    rcases List.mem_cons.mp hm with e | hm
    · exact hIL e
    · exact (N₃ _ (List.mem_cons_of_mem _ hax)).2.1 (List.mem_singleton.mp hm).symm
  · rintro i v m₁ nx h tk oI hi hP hoff hS ⟨v₁, hm1, hm2, hkp, hTn, hRn⟩ hst' F₄ N₄
    have hy : its[i]? = some v := by simpa using hP
    have hvol : Vola oI := by
      obtain ⟨⟨o', q, hc', hd'⟩, _⟩ := hst'
      have e := (N₄ _ List.mem_cons_self).1
      rw [q] at e; cases e
      exact .inl ⟨_, _, _, hd', rfl⟩
    rw [map_named hm1, map_named hm2] at F₄
    k_steps
    refine Stop.out (callWith_fn ?_)
    k_steps
    · exact (hf.mono hkp.s).at X' F₄ (fun p hp => N₄ p (List.mem_cons_of_mem _ hp))
    · refine Stop.out (step i v₁ v ((I, oI) :: nx) hy (hkp.trans Keep.cons) (hTn.mono KeepT.cons) (hR _ _ _ _ KeepT.cons.s hRn) _ _ _ _ _ _ _ _ _ _ _ _ _ _ _ _ _ B' F₄ X' N₄ T' (hC.keeps FG'.keep) rfl (by show dp + 1 + D < _; omega) (by show un + 3 + U < _; omega) ?_)
      rintro r new h5 tk5 F₅ N₅ ⟨hk5, hT5, hR5⟩
      k_steps
      rename Fr g' L' _ _ => F₆
      rename News g' L' _ _ => N₆
      have hIn : (I, oI) ∈ new := hk5 _ List.mem_cons_self hI58
      have hkT := off_keepT N₆ hIn hvol hI58
      refine TEnd.intro (nx := off I new) F₆ ?_ off_ne ?_ ⟨r, rfl, rfl, ?_, hT5.mono hkT, hR _ _ _ _ hkT.s hR5⟩
      · intro q hq
        rcases List.mem_cons.mp hq with rfl | hq
        · exact N₆ _ hIn
        · exact N₆ _ (off_sub _ hq)
      · exact mem_off.mpr ⟨hk5 _ (List.mem_cons_of_mem _ hS) hal, hne⟩
      · intro q hq hl
        exact mem_off.mpr ⟨hk5 _ (List.mem_cons_of_mem _ (hkp _ hq hl)) hl, Nat.ne_of_lt (hI _ hq)⟩
  · rintro m₁ nx h tk hS ⟨v₁, hm1, hm2, hkp, hTn, hRn⟩ F₄ N₄
    rw [map_named hm1] at F₄
    dsimp only
    k_steps
    exact ret _ _ _ _ (by assumption) (by assumption) ⟨hkp, hTn, by simpa using hRn⟩
theorem red_range {w : World} {p : Program} {loose : List Str} {mean : ExcName → Option Value} {mg mb : Str → Option Value} {D U : Nat} {f : Addr} {ax : Addr} {n : Nat} {ta tb tc : Tok} {v0 : Value} {news : Led}
    (R : Nat → Led → Value → Prop) (hR : ∀ i a b v, KeepS a b → R i a v → R i b v)
    (hax : (ax, rngObj 0 (n : Nat) 1 ta tb tc) ∈ news) (hn : n ≤ 1000) (hT : Tabs news) (hf : FnOk (Mine.hd.heap_39 w.params) news f) (hv : Start news v0) (h0 : R 0 news v0)
    (step : ∀ i v (z : Int) (tz : Tok) nx, i < n → Keep news nx → Tabs nx → R i nx v → CallW w p loose mean mg mb D U (.ref f) [v, .int z tz] nx (fun r new => Keep nx new ∧ Tabs new ∧ R (i + 1) new r)) :
    CallW w p loose mean mg mb (D + 1) (U + 10) (.ref 23) [.ref f, .ref ax, v0] news (fun r new => Keep news new ∧ Tabs new ∧ R n new r) := by
  unfold CallW
  intro dp un gd cn cs a ccd cl outer A₀ base h₀ L m s Q E B F X N T hC hk hd hu ret
  refine wpAny_call ?_
  k_dflt (refine' code_def ?k1 ?k2 ?k3 ?k4 ?k5 ?kA ?kF ?kK ?k6 ?k7 ?k8 ?k9 ?kB ?_ ?c2 ?c3 ?c4 ?c5; (case kA => exact rfl); (case kF => exact rfl); (case kK => assumption); (case k1 => k_asm); (case k2 => k_asm); (case k3 => k_asm); (case k4 => k_asm); (case k5 => k_asm); (case k6 => k_is); (case k7 => k_is); (case k8 => ktr_room); (case k9 => exact binds_K (by k_in) rfl (by k_is) rfl rfl rfl); (case c5 => decide); (case kB => exact locs rfl); (case c2 => exact rfl); (case c3 => exact rfl); (case c4 => exact rfl); k_whole; intro g' L' h' FG' F' N' B' X' T'; (try dsimp only); (try k_fold))
  k_steps
  have hsm : Builtin.Range.small 0 (n : Nat) 1 = true := small_one (by omega) (by omega) (by omega) (by omega)
  have hrs : Builtin.Range.rangeSize 0 (n : Nat) 1 = (n : Int) := (rangeSize_nat 0 (n : Nat)).trans (by omega)
  refine iter_range F' N' hax hsm ?_
  rw [hrs]
  intro I h₁ F₁ N₁ hI
  dsimp only
  k_steps
  rename Fr g' L' _ _ => F₂
  rename News g' L' _ _ => N₂
  refine is15 X' F₂ (fun p hp => N₂ p (List.mem_cons_of_mem _ hp)) hv ?_
  k_steps
  refine Stop.out (wpAny_For ?_)
  k_steps
  rename Fr g' L' _ _ => F₃
  rename News g' L' _ _ => N₃
  have hI58 : Hi I := hT.above hI
  have hIL : L' ≠ I := fun e => (N₃ _ List.mem_cons_self).2.1 e.symm
  refine Stop.out ((Walks.range rfl I 0 1 n).self 0 _ _ _ (by show IsRangeIter _ _ _ _ _; simpa using (N₃ _ List.mem_cons_self).1) ?_)
  refine for_local (S := fun _ => True) (news := news) (Walks.range rfl I 0 1 n) (fun i m nx => ∃ v, m (Str.ofString "value") = some v ∧ m (Str.ofString "function") = some (.ref f) ∧ Keep news nx ∧ Tabs nx ∧ R i nx v)
    (fun i h st => ⟨_, st⟩) ?_ rfl rfl ?_ (N₃ _ List.mem_cons_self).2.2 (fun p hp => Nat.ne_of_lt (hI p hp)) (by show IsRangeIter _ _ _ _ _; simpa using (N₃ _ List.mem_cons_self).1) F₃ (fun p hp => N₃ p (List.mem_cons_of_mem _ hp)) trivial ⟨v0, rfl, rfl, Keep.refl _, hT, h0⟩ ?_ ?_
  · intro i h h2 o nw st e e2 _ N9 hS
    exact e2.trans (e.symm.trans st)
  · intro hm
    exact hIL (List.mem_singleton.mp hm)
  · rintro i v m₁ nx h tk oI hi hP hoff hS ⟨v₁, hm1, hm2, hkp, hTn, hRn⟩ hst' F₄ N₄
    obtain ⟨tz, rfl⟩ := hP
    have hvol : Vola oI := by
      have e := (N₄ _ List.mem_cons_self).1
      rw [hst'] at e; cases e
      exact iterG_vola _ _ _
    rw [map_named hm1, map_named hm2] at F₄
    k_steps
    refine Stop.out (callWith_fn ?_)
    k_steps
    · exact (hf.mono hkp.s).at X' F₄ (fun p hp => N₄ p (List.mem_cons_of_mem _ hp))
    · refine Stop.out (step i v₁ _ tz ((I, oI) :: nx) hi (hkp.trans Keep.cons) (hTn.mono KeepT.cons) (hR _ _ _ _ KeepT.cons.s hRn) _ _ _ _ _ _ _ _ _ _ _ _ _ _ _ _ _ B' F₄ X' N₄ T' (hC.keeps FG'.keep) rfl (by show dp + 1 + D < _; omega) (by show un + 3 + U < _; omega) ?_)
      rintro r new h5 tk5 F₅ N₅ ⟨hk5, hT5, hR5⟩
      k_steps
      rename Fr g' L' _ _ => F₆
      rename News g' L' _ _ => N₆
      have hIn : (I, oI) ∈ new := hk5 _ List.mem_cons_self hI58
      have hkT := off_keepT N₆ hIn hvol hI58
      refine TEnd.intro (nx := off I new) F₆ ?_ off_ne trivial ⟨r, rfl, rfl, ?_, hT5.mono hkT, hR _ _ _ _ hkT.s hR5⟩
      · intro q hq
        rcases List.mem_cons.mp hq with rfl | hq
        · exact N₆ _ hIn
        · exact N₆ _ (off_sub _ hq)
      · intro q hq hl
        exact mem_off.mpr ⟨hk5 _ (List.mem_cons_of_mem _ (hkp _ hq hl)) hl, Nat.ne_of_lt (hI _ hq)⟩
  · rintro m₁ nx h tk hS ⟨v₁, hm1, hm2, hkp, hTn, hRn⟩ F₄ N₄
    rw [map_named hm1] at F₄
    dsimp only
    k_steps
    exact ret _ _ _ _ (by assumption) (by assumption) ⟨hkp, hTn, hRn⟩

theorem walks_shift {prog : Program} {w : World} {A : Around} {I : Addr} {fp wr : List Addr} {n : Nat} {P : Nat → Value → Prop} {St : Nat → Heap → Prop} (W : Walks prog w A I fp wr (n + 1) P St) :
    Walks prog w A I fp wr n (fun i v => P (i + 1) v) (fun i h => St (i + 1) h) where
  sub := W.sub
  frame := fun i => W.frame (i + 1)
  item := fun i s Q E hi => W.item (i + 1) s Q E (Nat.succ_lt_succ hi)
  done := W.done
  self := fun i => W.self (i + 1)
theorem red_list1 {w : World} {p : Program} {loose : List Str} {mean : ExcName → Option Value} {mg mb : Str → Option Value} {D U : Nat} {f : Addr} {ax : Addr} {its : List Value} {k : Nat} {v0 : Value} {n : Nat} {news : Led}
    (R : Nat → Led → Value → Prop) (hR : ∀ i a b v, KeepS a b → R i a v → R i b v)
    (hax : (ax, listOf its.toArray k) ∈ news) (hal : Hi ax) (hT : Tabs news) (hf : FnOk (Mine.hd.heap_39 w.params) news f) (hv0 : its[0]? = some v0) (hn : its.length = n + 1) (h0 : R 0 news v0)
    (step : ∀ i v y nx, its[i + 1]? = some y → Keep news nx → Tabs nx → R i nx v → CallW w p loose mean mg mb D U (.ref f) [v, y] nx (fun r new => Keep nx new ∧ Tabs new ∧ R (i + 1) new r)) :
    CallW w p loose mean mg mb (D + 1) (U + 10) (.ref 23) [.ref f, .ref ax] news (fun r new => Keep news new ∧ Tabs new ∧ R n new r) := by
  unfold CallW
  intro dp un gd cn cs a ccd cl outer A₀ base h₀ L m s Q E B F X N T hC hk hd hu ret
  refine wpAny_call ?_
  k_dflt (refine' code_def ?k1 ?k2 ?k3 ?k4 ?k5 ?kA ?kF ?kK ?k6 ?k7 ?k8 ?k9 ?kB ?_ ?c2 ?c3 ?c4 ?c5; (case kA => exact rfl); (case kF => exact rfl); (case kK => assumption); (case k1 => k_asm); (case k2 => k_asm); (case k3 => k_asm); (case k4 => k_asm); (case k5 => k_asm); (case k6 => k_is); (case k7 => k_is); (case k8 => ktr_room); (case k9 => exact binds_K (by k_in) rfl (by k_is) rfl rfl rfl); (case c5 => decide); (case kB => exact locs rfl); (case c2 => exact rfl); (case c3 => exact rfl); (case c4 => exact rfl); k_whole; intro g' L' h' FG' F' N' B' X' T'; (try dsimp only); (try k_fold))
  k_steps
  refine iter_list F' N' hax ?_
  intro I h₁ F₁ N₁ hI
  dsimp only
  k_steps
  rename Fr g' L' _ _ => F₂
  rename News g' L' _ _ => N₂
  refine next_list F₂ N₂ (fun p hp => Nat.ne_of_lt (hI p hp)) hax hv0 ?_
  intro h₂ F₂ N₂
  dsimp only
  k_steps
  refine Stop.out (wpAny_For ?_)
  k_steps
  rename Fr g' L' _ _ => F₃
  rename News g' L' _ _ => N₃
  have hI58 : Hi I := hT.above hI
  have hne : ax ≠ I := Nat.ne_of_lt (hI _ hax)
  have W : ∀ A : Around, A.handled = none → Walks PR w A I [I, ax] [I] n (fun i v => its.toArray[i + 1]? = some v) (fun i h => h.IsListIter I ax (i + 1) ∧ h.IsList ax its.toArray) := by
    intro A hA
    have W0 := Walks.list (prog := PR) (w := w) (A := A) hA I ax hne its.toArray
    have e : its.toArray.size = n + 1 := by simpa using hn
    rw [e] at W0
    exact walks_shift W0
  have hIL : L' ≠ I := fun e => (N₃ _ List.mem_cons_self).2.1 e.symm
  refine Stop.out ((W _ rfl).self 0 _ _ _ (by exact ⟨⟨_, (N₃ _ List.mem_cons_self).1, rfl, rfl⟩, ⟨_, (N₃ _ (List.mem_cons_of_mem _ hax)).1, rfl, k, rfl⟩⟩) ?_)
  refine for_local (S := fun nx => (ax, listOf its.toArray k) ∈ nx) (news := news) (W _ rfl) (fun i m nx => ∃ v, m (Str.ofString "value") = some v ∧ m (Str.ofString "function") = some (.ref f) ∧ Keep news nx ∧ Tabs nx ∧ R i nx v)
    (fun i h st => by obtain ⟨o, e, _⟩ := st.1; exact ⟨o, e⟩) ?_ rfl rfl ?_ (N₃ _ List.mem_cons_self).2.2 (fun p hp => Nat.ne_of_lt (hI p hp)) (by exact ⟨⟨_, (N₃ _ List.mem_cons_self).1, rfl, rfl⟩, ⟨_, (N₃ _ (List.mem_cons_of_mem _ hax)).1, rfl, k, rfl⟩⟩) F₃ (fun p hp => N₃ p (List.mem_cons_of_mem _ hp)) hax ⟨v0, rfl, rfl, Keep.refl _, hT, h0⟩ ?_ ?_
  · intro i h h2 o nw st e e2 _ N9 hS
    exact ⟨by obtain ⟨o', q, r⟩ := st.1; rw [e] at q; cases q; exact ⟨o, e2, r⟩, ⟨_, (N9 _ hS).1, rfl, k, rfl⟩⟩
  · intro hm
    rcases List.mem_cons.mp hm with e | hm
    · exact hIL e
    · exact (N₃ _ (List.mem_cons_of_mem _ hax)).2.1 (List.mem_singleton.mp hm).symm
  · rintro i v m₁ nx h tk oI hi hP hoff hS ⟨v₁, hm1, hm2, hkp, hTn, hRn⟩ hst' F₄ N₄
    have hy : its[i + 1]? = some v := by simpa using hP
    have hvol : Vola oI := by
      obtain ⟨⟨o', q, hc', hd'⟩, _⟩ := hst'
      have e := (N₄ _ List.mem_cons_self).1
      rw [q] at e; cases e
      exact .inl ⟨_, _, _, hd', rfl⟩
    rw [map_named hm1, map_named hm2] at F₄
    k_steps
    refine Stop.out (callWith_fn ?_)
    k_steps
    · exact (hf.mono hkp.s).at X' F₄ (fun p hp => N₄ p (List.mem_cons_of_mem _ hp))
    · refine Stop.out (step i v₁ v ((I, oI) :: nx) hy (hkp.trans Keep.cons) (hTn.mono KeepT.cons) (hR _ _ _ _ KeepT.cons.s hRn) _ _ _ _ _ _ _ _ _ _ _ _ _ _ _ _ _ B' F₄ X' N₄ T' (hC.keeps FG'.keep) rfl (by show dp + 1 + D < _; omega) (by show un + 3 + U < _; omega) ?_)
      rintro r new h5 tk5 F₅ N₅ ⟨hk5, hT5, hR5⟩
      k_steps
      rename Fr g' L' _ _ => F₆
      rename News g' L' _ _ => N₆
      have hIn : (I, oI) ∈ new := hk5 _ List.mem_cons_self hI58
      have hkT := off_keepT N₆ hIn hvol hI58
      refine TEnd.intro (nx := off I new) F₆ ?_ off_ne ?_ ⟨r, rfl, rfl, ?_, hT5.mono hkT, hR _ _ _ _ hkT.s hR5⟩
      · intro q hq
        rcases List.mem_cons.mp hq with rfl | hq
        · exact N₆ _ hIn
        · exact N₆ _ (off_sub _ hq)
      · exact mem_off.mpr ⟨hk5 _ (List.mem_cons_of_mem _ hS) hal, hne⟩
      · intro q hq hl
        exact mem_off.mpr ⟨hk5 _ (List.mem_cons_of_mem _ (hkp _ hq hl)) hl, Nat.ne_of_lt (hI _ hq)⟩
  · rintro m₁ nx h tk hS ⟨v₁, hm1, hm2, hkp, hTn, hRn⟩ F₄ N₄
    rw [map_named hm1] at F₄
    dsimp only
    k_steps
    exact ret _ _ _ _ (by assumption) (by assumption) ⟨hkp, hTn, hRn⟩

end Mine

end

section
open PySem PySem.W PyProof.Rows
set_option maxRecDepth 100000
set_option maxHeartbeats 8000000
namespace Mine

/-- a lambda without free names stands in the ledger, with its code -/
def LamAt (news : Led) (f : Addr) (qual : Str) (params : Arguments) (body : PySem.Expr) (scope : Scope) (pm : Value) : Prop :=
  ∃ c' ctv oc vs t, Hi f ∧ Hi c' ∧ (f, kla_obj "<lambda>" qual params body scope [] pm c' ctv) ∈ news ∧ (c', oc) ∈ news ∧ oc.data = .fields vs ∧ vs[1]? = some (.str qual t)
theorem LamAt.mono {a b : Led} {f : Addr} {qual : Str} {params : Arguments} {body : PySem.Expr} {scope : Scope} {pm : Value} (k : KeepS a b) (h : LamAt a f qual params body scope pm) : LamAt b f qual params body scope pm := by
  obtain ⟨c', ctv, oc, vs, t, h1, h2, h3, h4, h5, h6⟩ := h
  exact ⟨c', ctv, oc, vs, t, h1, h2, k _ h3 h1 (solid_fn rfl), k _ h4 h2 (solid_code h5 h6), h5, h6⟩
theorem LamAt.fnOk {K : Frag} {a : Led} {f : Addr} {qual : Str} {params : Arguments} {body : PySem.Expr} {scope : Scope} {pm : Value} (h : LamAt a f qual params body scope pm) : FnOk K a f := by
  obtain ⟨c', ctv, oc, vs, t, h1, h2, h3, h4, h5, h6⟩ := h
  exact .inl ⟨_, _, h3, h1, rfl⟩

section
variable {M : Model} {A : Around} {E : Value → Shared → Prop} {s : Shared} {h₀ : Heap} {L a c P : Addr} {m mg mb : Str → Option Value} {cn : Str} {cs : Scope} {ccd : Value} {cl : List (Str × Addr)} {news : Led}
  {p : Program} {loose : List Str} {mean : ExcName → Option Value} {params : Arguments} {body : PySem.Expr} {scope : Scope} {pos : Pos}
theorem TabAt.other {news : Led} {P P' line col : Nat} {q : Str} {c' f : Addr} {oc of' : Obj} {ps : Array Value} (hP : ¬ Hi P) (hne : P' ≠ P) (h : TabAt news P' line col q) :
    TabAt ((f, of') :: (c', oc) :: (P, tabObj ps) :: off P news) P' line col q := by
  obtain ⟨ps', h1, h2⟩ := h
  have up : ∀ p ∈ news, p.1 ≠ P → p ∈ (f, of') :: (c', oc) :: (P, tabObj ps) :: off P news := fun p hp hn => List.mem_cons_of_mem _ (List.mem_cons_of_mem _ (List.mem_cons_of_mem _ (mem_off.mpr ⟨hp, hn⟩)))
  refine ⟨ps', up _ h1 hne, ?_⟩
  rcases h2 with h2 | ⟨c'', oc', vs, t, e, hlt, hm, hd, hv⟩
  · exact .inl h2
  · exact .inr ⟨c'', oc', vs, t, e, hlt, up _ hm (fun e => hP (e ▸ hlt)), hd, hv⟩

theorem lam_mk {Q : Value → Shared → Prop} (hP : P = 37 ∨ P = 44 ∨ P = 58) (F : Fr h₀ L s.heap m) (N : News h₀ L s.heap news) (T : Top p loose mean mg mb h₀) (C : CodeHd h₀ c P) (hcd : ccd = .ref c)
    (hdef : defaultsOf params (envX cn cs L a ccd cl) = ([], [])) (hcl : closureFor scope (envX cn cs L a ccd cl) = pure []) (hT : Tabs news) (hTP : TabAt news P pos.line pos.col (qlam cn))
    (only : ∀ new, TabAt new P pos.line pos.col (qlam cn) → (∀ P' line col q, P' ≠ P → TabAt news P' line col q → TabAt new P' line col q) → Tabs new)
    (h : ∀ f new h' tk, Fr h₀ L h' m → News h₀ L h' new → Keep news new → Tabs new → LamAt new f (qlam cn) params body scope ((mg "__name__").getD .none) → Q (.ref f) { s with heap := h', toks := tk }) :
    wpAny M A (eval (.Lambda params body scope pos) (envX cn cs L a ccd cl)) Q E s := by
  have hP58 : ¬ Hi P := by rcases hP with rfl | rfl | rfl; exact nh37; exact nh44; exact nh58
  refine kla_eval hdef ?_
  obtain ⟨ps, h1, h2⟩ := id hTP
  rcases h2 with rfl | ⟨c', oc, vs, t, rfl, hlt, hm, hd, hv⟩
  · have N₁ : News h₀ L s.heap ((P, tabObj #[]) :: off P news) := fun q hq => by
      rcases List.mem_cons.mp hq with rfl | hq
      · exact N _ h1
      · exact N _ (off_sub _ hq)
    refine kla_nest (clos := []) F N₁ T C hcd (UpdF.head off_ne) (by trivial) (by rfl) hcl ?_
    intro f c' oc vs t ctv h' tk F' N' hd hv hl1 hl2
    have hc58 : Hi c' := by
      have all : ∀ T o, (T, o) ∈ news → T < c' := by
        intro T o hm
        by_cases e : T = P
        · rw [e]; exact hl1 _ List.mem_cons_self
        · exact hl1 _ (List.mem_cons_of_mem _ (mem_off.mpr ⟨hm, e⟩))
      exact hT.above fun p hp => all p.1 p.2 hp
    have hf58 : Hi f := hT.above fun p hp => by
      by_cases e : p.1 = P
      · exact Nat.lt_trans (e ▸ hl1 _ List.mem_cons_self) hl2
      · exact Nat.lt_trans (hl1 _ (List.mem_cons_of_mem _ (mem_off.mpr ⟨hp, e⟩))) hl2
    refine h f _ h' tk F' N' ?_ ?_ ⟨c', ctv, oc, vs, t, hf58, hc58, List.mem_cons_self, List.mem_cons_of_mem _ List.mem_cons_self, hd, hv⟩
    · intro q hq hlt
      exact List.mem_cons_of_mem _ (List.mem_cons_of_mem _ (List.mem_cons_of_mem _ (mem_off.mpr ⟨hq, fun e => hP58 (e ▸ hlt)⟩)))
    · exact only _ ⟨_, List.mem_cons_of_mem _ (List.mem_cons_of_mem _ List.mem_cons_self), .inr ⟨c', oc, vs, t, rfl, hc58, List.mem_cons_of_mem _ List.mem_cons_self, hd, hv⟩⟩ (fun P' line col q hne hh => TabAt.other hP58 hne hh)
  · refine kla_hit (clos := []) (c' := c') F N T C hcd h1 (by trivial) ?_ hcl ?_
    · simp [codeAmong, rawInt]
    intro f ctv h' tk F' N' hl
    have hf58 : Hi f := hT.above hl
    refine h f _ h' tk F' N' Keep.cons (hT.mono KeepT.cons) ⟨c', ctv, oc, vs, t, hf58, hlt, List.mem_cons_self, List.mem_cons_of_mem _ hm, hd, hv⟩
end
section
variable {prog : Program} {w : World} {A : Around} {E : Value → Shared → Prop} {s : Shared} {h₀ : Heap} {L : Addr} {m : Str → Option Value} {news : Led} {Q : Value → Shared → Prop}
theorem rng_into {h' : Heap} {a b c : Int} {t u v : Tok} (F₀ : Fr h₀ L s.heap m) (R : IsRange h' s.heap.objs.size a b c t u v) (N' : News h₀ L h' news) : News h₀ L h' ((s.heap.objs.size, rngObj a b c t u v) :: news) := by
  intro q hq
  rcases List.mem_cons.mp hq with rfl | hq
  · exact ⟨R, Nat.ne_of_gt F₀.ns.lt, next_is_new F₀⟩
  · exact N' _ hq
theorem rng1 {n : Int} {t : Tok} (F : Fr h₀ L s.heap m) (N : News h₀ L s.heap news)
    (h : ∀ r h' tk t₁ u₁ v₁, Fr h₀ L h' m → News h₀ L h' ((r, rngObj 0 n 1 t₁ u₁ v₁) :: news) → (∀ p ∈ news, p.1 < r) → Q (.ref r) { s with heap := h', toks := tk }) :
    wpAny (model prog w) A (call (.type "range") [.int n t]) Q E s :=
  range1_rows F N fun h' tk t₁ u₁ v₁ R F' N' _ => h _ h' tk t₁ u₁ v₁ F' (rng_into F R N') fun p hp => Heap.lt_size (N p hp).1
theorem rng2 {a b : Int} {t u : Tok} (F : Fr h₀ L s.heap m) (N : News h₀ L s.heap news)
    (h : ∀ r h' tk t₁ u₁ v₁, Fr h₀ L h' m → News h₀ L h' ((r, rngObj a b 1 t₁ u₁ v₁) :: news) → (∀ p ∈ news, p.1 < r) → Q (.ref r) { s with heap := h', toks := tk }) :
    wpAny (model prog w) A (call (.type "range") [.int a t, .int b u]) Q E s :=
  range2_rows F N fun h' tk t₁ u₁ v₁ R F' N' _ => h _ h' tk t₁ u₁ v₁ F' (rng_into F R N') fun p hp => Heap.lt_size (N p hp).1
theorem rng3 {a b c : Int} {t u v : Tok} (F : Fr h₀ L s.heap m) (N : News h₀ L s.heap news) (hc : c ≠ 0) (hp : Builtin.divisionGoesByPylong (b - a) c = false)
    (h : ∀ r h' tk t₁ u₁ v₁, Fr h₀ L h' m → News h₀ L h' ((r, rngObj a b c t₁ u₁ v₁) :: news) → (∀ p ∈ news, p.1 < r) → Q (.ref r) { s with heap := h', toks := tk }) :
    wpAny (model prog w) A (call (.type "range") [.int a t, .int b u, .int c v]) Q E s :=
  range3_rows F N hc (fun h' tk t₁ u₁ v₁ R F' N' _ => h _ h' tk t₁ u₁ v₁ F' (rng_into F R N') fun p hp => Heap.lt_size (N p hp).1) (.inl hp)
end
end Mine

end

section
open PySem PySem.W PyProof.Rows
set_option maxRecDepth 100000
set_option maxHeartbeats 8000000
namespace Mine
example : PySem.Challenge.rw_mq0060_01 = PySem.Challenge.rw_mq0060_01 ∧ Mine.hd.heap_39 = Mine.hd.heap_39 := by
  k_fill
  exact ⟨rfl, rfl⟩
local macro_rules | `(tactic| walk_at "pyIter ref") => `(tactic| refine Stop.mk ?_)
local macro_rules | `(tactic| walk_at "call ref") => `(tactic| refine Stop.mk ?_)
local macro_rules | `(tactic| walk_at "eval Lambda") => `(tactic| refine Stop.mk ?_)

theorem told_spec {w : World} {p : Program} {loose : List Str} {mean : ExcName → Option Value} {mg mb : Str → Option Value} {v : Value} {ns : List Nat} {news : Led}
    (hT : Tabs news) (hv : IntsL news v (toI ns)) (hn : ns.length ≤ 1000) :
    CallW w p loose mean mg mb 10 100 (.ref 42) [v] news (fun r new => Keep news new ∧ Tabs new ∧ Tup2 new r (told ns) ns.length) := by
  unfold CallW
  intro dp un gd cn cs a ccd cl outer A₀ base h₀ L m s Q E B F X N T hC hk hd hu ret
  obtain ⟨ax, vs, k, rfl, hal, hax, hI⟩ := hv
  refine wpAny_call ?_
  k_dflt cell_enter
  k_steps
  rename Fr _ _ _ _ => F'
  rename News _ _ _ _ => N'
  rename Top _ _ _ _ _ _ => T'
  rename Frag.In _ _ => X'
  rename Fr h₀ L _ _ => FG
  have hC' := hC.keeps FG.keep
  refine Stop.out (lam_mk (c := 41) (P := 37) (.inl rfl) F' N' T' hC'.1 rfl rfl rfl hT hT.1 ?_ ?_)
  · intro new h1 h2
    exact ⟨h1, h2 _ _ _ _ (by decide) hT.2.1, h2 _ _ _ _ (by decide) hT.2.2⟩
  intro f new h₁ tk₁ F₁ N₁ hKn hTn hLam
  dsimp only
  k_steps
  refine Stop.out (red_list (D := 8) (U := 80) (its := vs) (k := k) (fun i nx v => (∃ t, v = .int (crcF MM (ns.take i) : Nat) t) ∧ LamAt nx f _ _ _ _ _) (fun i a b v hk h => ⟨h.1, h.2.mono hk⟩) (hKn _ hax hal) hal hTn hLam.fnOk (.inl ⟨_, _, rfl⟩) ⟨⟨_, rfl⟩, hLam⟩ ?_ _ _ _ _ _ _ _ _ _ _ _ _ _ _ _ _ _ (by assumption) F₁ X' N₁ T' hC' rfl (by show dp + 1 + _ < _; omega) (by show un + 3 + _ < _; omega) ?_)
  · rintro i v y nx hy hkn hTx ⟨⟨t, rfl⟩, hL⟩
    obtain ⟨o, u, ho, rfl⟩ := ints_get hI hy
    unfold CallW
    intro dp un gd cn cs a ccd cl outer A₀ base h₀ L m s Q E B F X N T hC hk hd hu ret
    obtain ⟨c', ctv, oc, vs', t', h1, h2, h3, h4, h5, h6⟩ := id hL
    refine wpAny_call ?_
    refine kla_code B F X N T rfl rfl hk h3 (codeRec_news N h4 h5 h6) (by show dp < _; omega) rfl (locs rfl) ?_ rfl rfl rfl (by decide)
    intro g' L' h' FG' F' N' B' X' T'
    dsimp only
    k_steps
    rw [bitXor_nat]
    refine Stop.out (gen_spec B' F' X' N' T' rfl (by show dp + 1 + 1 < _; omega) (by show un + 3 + 8 < _; omega) ?_)
    intro t₅ h₅ tk₅ F₅ N₅
    k_steps
    exact ret _ _ _ _ (by assumption) (by assumption) ⟨Keep.refl _, hTx, ⟨_, by rw [crcF_take ho]⟩, hL⟩
  · rintro r new' h₂ tk₂ F₂ N₂ ⟨hK2, hT2, ⟨t2, rfl⟩, _⟩
    dsimp only
    k_steps
    rename News _ _ _ _ => N₃
    have hvl : vs.length = ns.length := by rw [hI.length]; simp
    have hax' := hK2 _ (hKn _ hax hal) hal
    refine len_list (items := vs.toArray) ⟨_, (N₃ _ hax').1, rfl, k, rfl⟩ (by rw [List.size_toArray, hvl]; omega) ?_
    k_steps
    rename News h₀ L _ _ => kN
    rename Fr h₀ L _ _ => kF
    rename ∀ p ∈ new', _ => hl
    have e1 : Builtin.bitXor ((crcF MM (ns.take vs.length) : Nat) : Int) 4294967295 = ((told ns : Nat) : Int) := by
      rw [hvl, List.take_length]
      exact bitXor_nat _ 4294967295
    have e2 : ((vs.toArray.size : Nat) : Int) = ((ns.length : Nat) : Int) := by rw [List.size_toArray, hvl]
    rw [e1, e2] at kN
    exact ret _ _ _ _ kF kN ⟨(hKn.trans hK2).trans Keep.cons, hT2.mono KeepT.cons, _, _, _, _, rfl, hT2.above hl, List.mem_cons_self⟩
end Mine

end

section
open PySem PySem.W PyProof.Rows
set_option maxRecDepth 100000
set_option maxHeartbeats 8000000
namespace Mine
example : PySem.Challenge.rw_mq0060_01 = PySem.Challenge.rw_mq0060_01 ∧ Mine.hd.heap_39 = Mine.hd.heap_39 := by
  k_fill
  exact ⟨rfl, rfl⟩
local macro_rules | `(tactic| walk_at "pyIter ref") => `(tactic| refine Stop.mk ?_)
local macro_rules | `(tactic| walk_at "call ref") => `(tactic| refine Stop.mk ?_)
local macro_rules | `(tactic| walk_at "eval Lambda") => `(tactic| refine Stop.mk ?_)
local macro_rules | `(tactic| walk_at "call type:range") => `(tactic| refine Stop.mk ?_)

theorem put_spec {w : World} {p : Program} {loose : List Str} {mean : ExcName → Option Value} {mg mb : Str → Option Value} {v1 v2 : Value} {c1 n1 c2 n2 : Nat} {news : Led}
    (hT : Tabs news) (hv1 : Tup2 news v1 c1 n1) (hv2 : Tup2 news v2 c2 n2) (hn : n2 ≤ 1000) :
    CallW w p loose mean mg mb 10 100 (.ref 49) [v1, v2] news (fun r new => Keep news new ∧ Tabs new ∧ Tup2 new r (iter gen n2 c1 ^^^ c2) (n1 + n2)) := by
  unfold CallW
  intro dp un gd cn cs a ccd cl outer A₀ base h₀ L m s Q E B F X N T hC hk hd hu ret
  obtain ⟨a1, t1, u1, k1, rfl, hl1, hm1⟩ := hv1
  obtain ⟨a2, t2, u2, k2, rfl, hl2, hm2⟩ := hv2
  refine wpAny_call ?_
  k_dflt cell_enter
  k_steps
  rename Fr _ _ _ _ => F'
  rename News _ _ _ _ => N'
  rename Top _ _ _ _ _ _ => T'
  rename Frag.In _ _ => X'
  rename Fr h₀ L _ _ => FG
  have hC' := hC.keeps FG.keep
  refine Stop.out (lam_mk (c := 48) (P := 44) (.inr (.inl rfl)) F' N' T' hC'.2.1 rfl rfl rfl hT hT.2.1 ?_ ?_)
  · intro new h1 h2
    exact ⟨h2 _ _ _ _ (by decide) hT.1, h1, h2 _ _ _ _ (by decide) hT.2.2⟩
  intro f new h₁ tk₁ F₁ N₁ hKn hTn hLam
  dsimp only
  have hm1' := hKn _ hm1 hl1
  have hm2' := hKn _ hm2 hl2
  k_steps
  refine Stop.out (rng1 F₁ N₁ ?_)
  intro r h₂ tk₂ ta tb tc F₂ N₂ hr
  dsimp only
  have hq1 := List.mem_cons_of_mem (r, rngObj 0 (n2 : Nat) 1 ta tb tc) hm1'
  have hq2 := List.mem_cons_of_mem (r, rngObj 0 (n2 : Nat) 1 ta tb tc) hm2'
  k_steps
  have hLam2 := hLam.mono (Keep.cons (q := (r, rngObj 0 (n2 : Nat) 1 ta tb tc))).s
  refine Stop.out (red_range (D := 8) (U := 80) (n := n2) (fun i nx v => (∃ t, v = .int (iter gen i c1 : Nat) t) ∧ LamAt nx f _ _ _ _ _) (fun i a b v hk h => ⟨h.1, h.2.mono hk⟩) List.mem_cons_self hn (hTn.mono KeepT.cons) hLam2.fnOk (.inl ⟨_, _, rfl⟩) ⟨⟨_, rfl⟩, hLam2⟩ ?_ _ _ _ _ _ _ _ _ _ _ _ _ _ _ _ _ _ (by assumption) F₂ X' N₂ T' hC' rfl (by show dp + 1 + _ < _; omega) (by show un + 3 + _ < _; omega) ?_)
  · rintro i v z tz nx hi hkn hTx ⟨⟨t, rfl⟩, hL⟩
    unfold CallW
    intro dp un gd cn cs a ccd cl outer A₀ base h₀ L m s Q E B F X N T hC hk hd hu ret
    obtain ⟨c', ctv, oc, vs', t', h1, h2, h3, h4, h5, h6⟩ := id hL
    refine wpAny_call ?_
    refine kla_code B F X N T rfl rfl hk h3 (codeRec_news N h4 h5 h6) (by show dp < _; omega) rfl (locs rfl) ?_ rfl rfl rfl (by decide)
    intro g' L' h' FG' F' N' B' X' T'
    dsimp only
    k_steps
    refine Stop.out (gen_spec B' F' X' N' T' rfl (by show dp + 1 + 1 < _; omega) (by show un + 3 + 8 < _; omega) ?_)
    intro t₅ h₅ tk₅ F₅ N₅
    k_steps
    exact ret _ _ _ _ (by assumption) (by assumption) ⟨Keep.refl _, hTx, ⟨_, rfl⟩, hL⟩
  · rintro r' new' h₃ tk₃ F₃ N₃ ⟨hK2, hT2, ⟨t2, rfl⟩, _⟩
    dsimp only
    have hs1 := hK2 _ hq1 hl1
    have hs2 := hK2 _ hq2 hl2
    k_steps
    rename News h₀ L _ _ => kN
    rename Fr h₀ L _ _ => kF
    rename ∀ p ∈ new', _ => hl
    rw [bitXor_nat, ← Int.natCast_add] at kN
    exact ret _ _ _ _ kF kN ⟨((hKn.trans Keep.cons).trans hK2).trans Keep.cons, hT2.mono KeepT.cons, _, _, _, _, rfl, hT2.above hl, List.mem_cons_self⟩
end Mine

end

section
open PySem PySem.W PyProof.Rows
set_option maxRecDepth 100000
set_option maxHeartbeats 2000000
namespace Mine
example : PySem.Challenge.rw_mq0060_01 = PySem.Challenge.rw_mq0060_01 ∧ Mine.hd.heap_39 = Mine.hd.heap_39 := by
  k_fill
  exact ⟨rfl, rfl⟩
local macro_rules | `(tactic| walk_at "pyIter ref") => `(tactic| refine Stop.mk ?_)
local macro_rules | `(tactic| walk_at "exec For Name Name cons nil") => `(tactic| refine Stop.mk ?_)
local macro_rules | `(tactic| walk_at "call builtin:list.append") => `(tactic| refine Stop.mk ?_)

def kindOf (x : Int) : Int := (x.fdiv 256).fmod 3
def pstep (P : List (List Nat) × List Nat) (x : Int) : List (List Nat) × List Nat :=
  let P1 := if kindOf x ≠ 1 then (P.1 ++ [P.2], []) else P
  if kindOf x ≠ 2 then (P1.1, P1.2 ++ [(x.fmod 256).toNat]) else P1

theorem pfold_len (xs : List Int) : ∀ i, ((xs.take i).foldl pstep ([], [])).1.length ≤ i ∧ ((xs.take i).foldl pstep ([], [])).2.length ≤ i := by
  intro i
  induction i with
  | zero => simp
  | succ i ih =>
    rw [List.take_add_one, List.foldl_append]
    cases h : xs[i]? with
    | none => simp; omega
    | some x =>
      simp only [Option.toList_some, List.foldl_cons, List.foldl_nil]
      generalize (xs.take i).foldl pstep ([], []) = P at ih
      unfold pstep
      simp only
      split <;> split <;> (try simp only [List.length_append, List.length_cons, List.length_nil]) <;> omega
theorem pfold_succ {xs : List Int} {i : Nat} {x : Int} (h : xs[i]? = some x) : (xs.take (i + 1)).foldl pstep ([], []) = pstep ((xs.take i).foldl pstep ([], [])) x := by
  rw [List.take_add_one, h, List.foldl_append]; rfl

inductive AllIn (nx : Led) (A b : Addr) : List Value → List (List Nat) → Prop
  | nil : AllIn nx A b [] []
  | cons {a : Addr} {va : List Value} {ka : Nat} {as : List Value} {ns : List Nat} {r : List (List Nat)} : Hi a → a ≠ A → a ≠ b → (a, listOf va.toArray ka) ∈ nx → IntsAre va (toI ns) → AllIn nx A b as r → AllIn nx A b (.ref a :: as) (ns :: r)
theorem AllIn.move {nx ny : Led} {A b b' : Addr} {as : List Value} {r : List (List Nat)} (h : AllIn nx A b as r) (k : ∀ a va ka, Hi a → a ≠ A → a ≠ b → (a, listOf va ka) ∈ nx → a ≠ b' ∧ (a, listOf va ka) ∈ ny) : AllIn ny A b' as r := by
  induction h with
  | nil => exact .nil
  | cons h1 h2 h3 h4 h5 _ ih =>
    obtain ⟨q1, q2⟩ := k _ _ _ h1 h2 h3 h4
    exact .cons h1 h2 q1 q2 h5 ih
theorem AllIn.snoc {nx : Led} {A b a : Addr} {as va : List Value} {ka : Nat} {ns : List Nat} {r : List (List Nat)} (h : AllIn nx A b as r) (h1 : Hi a) (h2 : a ≠ A) (h3 : a ≠ b) (h4 : (a, listOf va.toArray ka) ∈ nx) (h5 : IntsAre va (toI ns)) :
    AllIn nx A b (as ++ [.ref a]) (r ++ [ns]) := by
  induction h with
  | nil => exact .cons h1 h2 h3 h4 h5 .nil
  | cons g1 g2 g3 g4 g5 _ ih => exact .cons g1 g2 g3 g4 g5 ih
theorem AllIn.length {nx : Led} {A b : Addr} {as : List Value} {r : List (List Nat)} (h : AllIn nx A b as r) : as.length = r.length := by
  induction h with
  | nil => rfl
  | cons _ _ _ _ _ _ ih => simp [ih]
structure PIx (nx : Led) (A : Addr) (init : List (List Nat)) (last : List Nat) (as : List Value) (b : Addr) (k kb : Nat) (vb : List Value) : Prop where
  hA : (A, listOf (as ++ [Value.ref b]).toArray k) ∈ nx
  hb : (b, listOf vb.toArray kb) ∈ nx
  hi : IntsAre vb (toI last)
  A58 : Hi A
  b58 : Hi b
  ne : A ≠ b
  all : AllIn nx A b as init
section
variable {nx ny : Led} {A b D : Addr} {init : List (List Nat)} {last : List Nat} {as vb : List Value} {k kb : Nat}
theorem PIx.mono (h : PIx nx A init last as b k kb vb) (q : KeepS nx ny) : PIx ny A init last as b k kb vb :=
  ⟨q _ h.hA h.A58 (solid_seq rfl), q _ h.hb h.b58 (solid_seq rfl), h.hi, h.A58, h.b58, h.ne, h.all.move fun _ _ _ h1 _ h3 h4 => ⟨h3, q _ h4 h1 (solid_seq rfl)⟩⟩
theorem PIx.cast {P : List (List Nat) × List Nat} (h : PIx nx A init last as b k kb vb) (e : P = (init, last)) : PIx nx A P.1 P.2 as b k kb vb := by rw [e]; exact h
theorem PIx.newp (h : PIx nx A init last as b k kb vb) (hD : ∀ p ∈ nx, p.1 < D) (h58 : Hi D) :
    PIx ((A, listOf ((as ++ [Value.ref b]) ++ [Value.ref D]).toArray (k + 1)) :: off A ((D, listOf #[] 0) :: nx)) A (init ++ [last]) [] (as ++ [.ref b]) D (k + 1) 0 [] := by
  have up : ∀ p ∈ nx, p.1 ≠ A → p ∈ (A, listOf ((as ++ [Value.ref b]) ++ [Value.ref D]).toArray (k + 1)) :: off A ((D, listOf #[] 0) :: nx) := fun p hp hn => List.mem_cons_of_mem _ (mem_off.mpr ⟨List.mem_cons_of_mem _ hp, hn⟩)
  have hDA : D ≠ A := Nat.ne_of_gt (hD _ h.hA)
  refine ⟨List.mem_cons_self, List.mem_cons_of_mem _ (mem_off.mpr ⟨List.mem_cons_self, hDA⟩), .nil, h.A58, h58, hDA.symm, ?_⟩
  refine (h.all.move fun a va ka h1 h2 _ h4 => ⟨Nat.ne_of_lt (hD _ h4), up _ h4 h2⟩).snoc h.b58 h.ne.symm (Nat.ne_of_lt (hD _ h.hb)) (up _ h.hb h.ne.symm) h.hi
theorem PIx.push {o : Nat} {t : Tok} (h : PIx nx A init last as b k kb vb) : PIx ((b, listOf (vb ++ [Value.int (o : Nat) t]).toArray (kb + 1)) :: off b nx) A init (last ++ [o]) as b k (kb + 1) (vb ++ [Value.int (o : Nat) t]) := by
  have up : ∀ p ∈ nx, p.1 ≠ b → p ∈ (b, listOf (vb ++ [Value.int (o : Nat) t]).toArray (kb + 1)) :: off b nx := fun p hp hn => List.mem_cons_of_mem _ (mem_off.mpr ⟨hp, hn⟩)
  refine ⟨up _ h.hA h.ne, List.mem_cons_self, ?_, h.A58, h.b58, h.ne, h.all.move fun a va ka h1 h2 h3 h4 => ⟨h3, up _ h4 h3⟩⟩
  have e : toI (last ++ [o]) = toI last ++ [(o : Int)] := by simp
  rw [e]
  exact IntsAre.append h.hi (.cons _ _ .nil)
theorem Tabs.upd {h₀ h : Heap} {L : Addr} {o o' : Obj} (N : News h₀ L h nx) (hD : (D, o) ∈ nx) (hd : ∀ vs, o.data ≠ .fields vs) (h58 : Hi D) (hT : Tabs nx) : Tabs ((D, o') :: off D nx) := by
  have up : ∀ p ∈ nx, p.1 ≠ D → p ∈ (D, o') :: off D nx := fun p hp hn => List.mem_cons_of_mem _ (mem_off.mpr ⟨hp, hn⟩)
  have one : ∀ {P line col : Nat} {q : Str}, ¬ Hi P → TabAt nx P line col q → TabAt ((D, o') :: off D nx) P line col q := by
    intro P line col q hP ⟨ps, h1, h2⟩
    refine ⟨ps, up _ h1 (fun e => hP ((show P = D from e) ▸ h58)), ?_⟩
    rcases h2 with h2 | ⟨c', oc, vs, t, e, hlt, hm, hd', hv⟩
    · exact .inl h2
    · refine .inr ⟨c', oc, vs, t, e, hlt, up _ hm ?_, hd', hv⟩
      rintro rfl
      exact hd vs ((News.same N hD hm) ▸ hd')
  exact ⟨one nh37 hT.1, one nh44 hT.2.1, one nh58 hT.2.2⟩
end
structure Mid (news led : Led) (I : Addr) (oI : Obj) (A : Addr) (init : List (List Nat)) (last : List Nat) (as : List Value) (b : Addr) (k kb : Nat) (vb : List Value) : Prop where
  hI : (I, oI) ∈ led
  kp : Keep news led
  tb : Tabs led
  px : PIx led A init last as b k kb vb
  nA : ∀ p ∈ news, p.1 ≠ A
  nb : ∀ p ∈ news, p.1 ≠ b
  vol : Vola oI
  i58 : Hi I
section
variable {news led : Led} {I A b D : Addr} {oI : Obj} {init : List (List Nat)} {last : List Nat} {as vb : List Value} {k kb : Nat} {h₀ h : Heap} {L : Addr}
theorem vola_ne_seq {N : News h₀ L h led} {o : Obj} {vs : Array Value} {n : Nat} {a : Addr} (hI : (I, oI) ∈ led) (vol : Vola oI) (ha : (a, o) ∈ led) (hd : o.data = .seq vs n) : I ≠ a := by
  rintro rfl
  exact solid_seq hd ((News.same N ha hI) ▸ vol)
theorem Mid.newp (M : Mid news led I oI A init last as b k kb vb) (N : News h₀ L h ((D, listOf #[] 0) :: led)) (hD : ∀ p ∈ led, p.1 < D) :
    Mid news ((A, listOf ((as ++ [Value.ref b]) ++ [Value.ref D]).toArray (k + 1)) :: off A ((D, listOf #[] 0) :: led)) I oI A (init ++ [last]) [] (as ++ [.ref b]) D (k + 1) 0 [] := by
  have N' : News h₀ L h led := fun p hp => N p (List.mem_cons_of_mem _ hp)
  have h58 : Hi D := M.tb.above hD
  have hIA : I ≠ A := vola_ne_seq (N := N') M.hI M.vol M.px.hA rfl
  refine ⟨List.mem_cons_of_mem _ (mem_off.mpr ⟨List.mem_cons_of_mem _ M.hI, hIA⟩), fun p hp hl => List.mem_cons_of_mem _ (mem_off.mpr ⟨List.mem_cons_of_mem _ (M.kp p hp hl), M.nA p hp⟩), ?_, M.px.newp hD h58, M.nA, fun p hp => ?_, M.vol, M.i58⟩
  · exact Tabs.upd N (List.mem_cons_of_mem _ M.px.hA) (fun vs e => by cases e) M.px.A58 (M.tb.mono KeepT.cons)
  · intro e
    have hl : Hi p.1 := e ▸ h58
    exact absurd e (Nat.ne_of_lt (hD _ (M.kp p hp hl)))
theorem Mid.push {o : Nat} {t : Tok} (M : Mid news led I oI A init last as b k kb vb) (N : News h₀ L h led) :
    Mid news ((b, listOf (vb ++ [Value.int (o : Nat) t]).toArray (kb + 1)) :: off b led) I oI A init (last ++ [o]) as b k (kb + 1) (vb ++ [Value.int (o : Nat) t]) := by
  have hIb : I ≠ b := vola_ne_seq (N := N) M.hI M.vol M.px.hb rfl
  exact ⟨List.mem_cons_of_mem _ (mem_off.mpr ⟨M.hI, hIb⟩), fun p hp hl => List.mem_cons_of_mem _ (mem_off.mpr ⟨M.kp p hp hl, M.nb p hp⟩), Tabs.upd N M.px.hb (fun vs e => by cases e) M.px.b58 M.tb, M.px.push, M.nA, M.nb, M.vol, M.i58⟩
theorem Mid.fin (M : Mid news led I oI A init last as b k kb vb) (N : News h₀ L h led) (hIn : ∀ p ∈ news, p.1 ≠ I) :
    News h₀ L h ((I, oI) :: off I led) ∧ Keep news (off I led) ∧ Tabs (off I led) ∧ PIx (off I led) A init last as b k kb vb := by
  have kT := off_keepT N M.hI M.vol M.i58
  refine ⟨fun q hq => ?_, fun p hp hl => mem_off.mpr ⟨M.kp p hp hl, hIn p hp⟩, M.tb.mono kT, M.px.mono kT.s⟩
  rcases List.mem_cons.mp hq with rfl | hq
  · exact N _ M.hI
  · exact N _ (off_sub _ hq)
end
theorem ints_getZ {vs : List Value} {xs : List Int} {i : Nat} {y : Value} (h : IntsAre vs xs) (hy : vs[i]? = some y) : ∃ x t, xs[i]? = some x ∧ y = .int x t := by
  have hl : vs.length = xs.length := h.length
  have hi : i < vs.length := by
    rcases Nat.lt_or_ge i vs.length with q | q
    · exact q
    · rw [List.getElem?_eq_none q] at hy; cases hy
  have hi' : i < xs.length := hl ▸ hi
  obtain ⟨t, ht⟩ := h.get i (xs[i]'hi') (List.getElem?_eq_getElem hi')
  rw [ht] at hy
  exact ⟨_, t, List.getElem?_eq_getElem hi', (Option.some.inj hy).symm⟩
section
variable {prog : Program} {w : World} {A : Around} {E : Value → Shared → Prop} {s : Shared} {h₀ : Heap} {L : Addr} {m : Str → Option Value} {news : Led} {Q : Value → Shared → Prop}
theorem append_led {D : Addr} {vs : List Value} {k : Nat} {x : Value} (F : Fr h₀ L s.heap m) (N : News h₀ L s.heap news) (hD : (D, listOf vs.toArray k) ∈ news) (hsz : vs.length ≤ 1000)
    (h : ∀ h', Fr h₀ L h' m → News h₀ L h' ((D, listOf (vs ++ [x]).toArray (k + 1)) :: off D news) → Q .none { s with heap := h' }) : wpAny (model prog w) A (call (.builtin "list.append") [.ref D, x]) Q E s := by
  have N₁ : News h₀ L s.heap ((D, listOf vs.toArray k) :: off D news) := fun q hq => by
    rcases List.mem_cons.mp hq with rfl | hq
    · exact N _ hD
    · exact N _ (off_sub _ hq)
  refine append_K F N₁ (Upd.head off_ne) (fun h' F' N' => h h' F' ?_) (by rw [List.size_toArray, sizeLine_eq]; omega)
  rw [List.push_toArray] at N'
  exact N'
end
section
variable {prog : Program} {w : World} {A : Around} {E : Value → Shared → Prop} {s : Shared} {h₀ : Heap} {L : Addr} {m : Str → Option Value} {news : Led} {Q : Value → Shared → Prop}
theorem item_neg1 {value slice : PySem.Expr} {D : Addr} {as : List Value} {x : Value} {k : Nat} {t : Tok} (N : News h₀ L s.heap news) (hD : (D, listOf (as ++ [x]).toArray k) ∈ news) (h : Q x s)
    (hs : subscripted slice false (.ref D) (.int (-1) t) = operate [.ref D, .int (-1) t] (getItem (.ref D) (.int (-1) t)) := by with_unfolding_all rfl) :
    wpAny (model prog w) A (subscriptTail value slice (.ref D) (.int (-1) t)) Q E s := by
  have hl : s.heap.IsList D (as ++ [x]).toArray := ⟨_, (N _ hD).1, rfl, k, rfl⟩
  refine tail_any hl.typeIs slot_list_getitem.lookup (wpAny_getItem_list_neg hl (by decide) (by simp; omega) (by decide) ?_ h) hs
  have e : (-1 + (((as ++ [x]).toArray.size : Nat) : Int)).toNat = as.length := by simp; omega
  rw [e]
  simp
end
theorem allLt_mem {d : Nat} {l : Led} (h : AllLt d l) : ∀ p ∈ l, p.1 < d := by
  induction l with
  | nil => intro p hp; cases hp
  | cons q r ih =>
    intro p hp
    rcases List.mem_cons.mp hp with rfl | hp
    · exact h.1
    · exact ih h.2 p hp
theorem mod256 (x : Int) : x.fmod 256 = (((x.fmod 256).toNat : Nat) : Int) := by
  have := Int.fmod_nonneg_of_pos x (show (0 : Int) < 256 by decide)
  omega
def AllLL (nx : Led) : List Value → List (List Nat) → Prop
  | [], [] => True
  | v :: vs, ns :: r => IntsL nx v (toI ns) ∧ AllLL nx vs r
  | _, _ => False
def LL (nx : Led) (v : Value) (pss : List (List Nat)) : Prop := ∃ a vs k, v = .ref a ∧ Hi a ∧ (a, listOf vs.toArray k) ∈ nx ∧ AllLL nx vs pss
def piecesOf (xs : List Int) : List (List Nat) := (xs.foldl pstep ([], [])).1 ++ [(xs.foldl pstep ([], [])).2]
theorem AllIn.toLL {nx : Led} {A b : Addr} {as : List Value} {r : List (List Nat)} {ns : List Nat} (h : AllIn nx A b as r) (hb : IntsL nx (.ref b) (toI ns)) : AllLL nx (as ++ [.ref b]) (r ++ [ns]) := by
  induction h with
  | nil => exact ⟨hb, trivial⟩
  | cons h1 h2 h3 h4 h5 _ ih => exact ⟨⟨_, _, _, rfl, h1, h4, h5⟩, ih⟩

theorem pieces_spec {w : World} {p : Program} {loose : List Str} {mean : ExcName → Option Value} {mg mb : Str → Option Value} {v : Value} {xs : List Int} {news : Led}
    (hT : Tabs news) (hv : IntsL news v xs) (hn : xs.length ≤ 60) :
    CallW w p loose mean mg mb 10 100 (.ref 56) [v] news (fun r new => Keep news new ∧ Tabs new ∧ LL new r (piecesOf xs)) := by
  unfold CallW
  intro dp un gd cn cs a ccd cl outer A₀ base h₀ L m s Q E B F X N T hC hk hd hu ret
  obtain ⟨ax, vs, k, rfl, hal, hax, hI⟩ := hv
  refine wpAny_call ?_
  k_dflt cell_enter
  k_steps
  rename Frag.In _ _ => X'
  rename Top _ _ _ _ _ _ => T'
  rename Fr h₀ L _ _ => FG
  refine Stop.out (wpAny_For ?_)
  k_steps
  rename Fr _ _ _ _ => F₁
  rename News _ _ _ _ => N₁
  rename _ ∧ AllLt _ _ => hall
  rename ∀ p ∈ news, _ => hin
  rename_i _ D₀ _ A _ _
  have hA58 : Hi A := hT.above (allLt_mem hall.2)
  have hD58 : Hi D₀ := hT.above hin
  refine Stop.out (pyIter_led (its := vs) (k := k) F₁ N₁ (List.mem_cons_of_mem _ (List.mem_cons_of_mem _ hax)) ?_)
  intro I h₂ F₂ N₂ hI'
  have hIn : ∀ p ∈ news, p.1 ≠ I := fun p hp => Nat.ne_of_lt (hI' p (List.mem_cons_of_mem _ (List.mem_cons_of_mem _ hp)))
  have hI58 : Hi I := (hT.mono (KeepT.cons.trans KeepT.cons)).above hI'
  have hAn : ∀ p ∈ news, p.1 ≠ A := fun p hp => Nat.ne_of_lt (allLt_mem hall.2 p hp)
  refine for_list (its := vs) (k := k) (fun i m nx => m (Str.ofString "pieces") = some (.ref A) ∧ Keep news nx ∧ Tabs nx ∧ ∃ as b k' kb vb, PIx nx A ((xs.take i).foldl pstep ([], [])).1 ((xs.take i).foldl pstep ([], [])).2 as b k' kb vb ∧ ∀ p ∈ news, p.1 ≠ b) rfl rfl rfl F₂ N₂ hI' (List.mem_cons_of_mem _ (List.mem_cons_of_mem _ hax)) ?_ ?_ ?_
  · refine ⟨rfl, Keep.cons.trans Keep.cons, hT.mono (KeepT.cons.trans KeepT.cons), [], D₀, 0, 0, [], ⟨List.mem_cons_self, List.mem_cons_of_mem _ List.mem_cons_self, .nil, hA58, hD58, Nat.ne_of_gt hall.1, .nil⟩, fun p hp => Nat.ne_of_lt (hin p hp)⟩
  · rintro i v m₁ nx h tk oI hv hoff hS ⟨hm1, hkp, hTn, as, b, k', kb, vb, hP, hnb⟩ hvol F₃ N₃
    obtain ⟨x, t, hx, rfl⟩ := ints_getZ hI hv
    have hlen := pfold_len xs i
    have hil : i < xs.length := by
      rcases Nat.lt_or_ge i xs.length with q | q
      · exact q
      · rw [List.getElem?_eq_none q] at hx; cases hx
    rw [pfold_succ hx]
    generalize (xs.take i).foldl pstep ([], []) = P at hP hlen ⊢
    have hasl := hP.all.length
    have hvbl : vb.length = P.2.length := by rw [hP.hi.length]; simp
    rw [map_named hm1] at F₃
    have M : Mid news ((I, oI) :: nx) I oI A P.1 P.2 as b k' kb vb := ⟨List.mem_cons_self, hkp.trans Keep.cons, hTn.mono KeepT.cons, hP.mono KeepT.cons.s, hAn, hnb, hvol, hI58⟩
    have hA' := M.px.hA
    have hb' := M.px.hb
    k_steps
    · rename Fr _ _ _ _ => F₄
      rename News _ _ _ _ => N₄
      rename _ ∧ AllLt _ _ => hlt
      have hltm : ∀ p ∈ (I, oI) :: nx, p.1 < _ := allLt_mem hlt
      rename Int.fmod _ _ ≠ _ => hk1
      have M2 := M.newp N₄ hltm
      have hA2 := M2.px.hA
      have hb2 := M2.px.hb
      refine Stop.out (append_led F₄ N₄ (List.mem_cons_of_mem _ M.px.hA) (by simp; omega) ?_)
      intro h₅ F₅ N₅
      dsimp only
      k_steps
      · rename Int.fmod _ 3 ≠ 2 => hk2
        rename News _ _ _ _ => N₆
        refine item_neg1 N₆ hA2 ?_
        k_steps
        rename Fr _ _ _ _ => F₇
        rename News _ _ _ _ => N₇
        refine Stop.out (append_led F₇ N₇ hb2 (by simp) ?_)
        intro h₈ F₈ N₈
        dsimp only
        rw [mod256 x] at N₈
        have M3 := fun t9 => M2.push (o := (x.fmod 256).toNat) (t := t9) N₇
        k_steps
        rename Fr _ _ _ _ => F₉
        rename News _ _ _ _ => N₉
        obtain ⟨N₁₀, k₉, t₉, p₉⟩ := (M3 _).fin N₉ hIn
        have e : pstep P x = (P.1 ++ [P.2], [] ++ [(x.fmod 256).toNat]) := by
          unfold pstep kindOf; simp only [if_pos hk1, if_pos hk2]
        exact TEnd.intro F₉ N₁₀ off_ne (k₉ _ hax hal) ⟨rfl, k₉, t₉, _, _, _, _, _, p₉.cast e, (M3 0).nb⟩
      · rename Int.fmod _ 3 = 2 => hk2
        rename Fr _ _ _ _ => F₉
        rename News _ _ _ _ => N₉
        obtain ⟨N₁₀, k₉, t₉, p₉⟩ := M2.fin N₉ hIn
        have e : pstep P x = (P.1 ++ [P.2], []) := by
          unfold pstep kindOf; simp only [if_pos hk1, if_neg (not_not_intro hk2)]
        exact TEnd.intro F₉ N₁₀ off_ne (k₉ _ hax hal) ⟨rfl, k₉, t₉, _, _, _, _, _, p₉.cast e, M2.nb⟩
    · rename Int.fmod _ 3 = 1 => hk1
      rename Int.fmod _ 3 ≠ 2 => hk2
      rename News _ _ _ _ => N₆
      refine item_neg1 N₆ hA' ?_
      k_steps
      rename Fr _ _ _ _ => F₇
      rename News _ _ _ _ => N₇
      refine Stop.out (append_led F₇ N₇ hb' (by omega) ?_)
      intro h₈ F₈ N₈
      dsimp only
      rw [mod256 x] at N₈
      have M3 := fun t9 => M.push (o := (x.fmod 256).toNat) (t := t9) N₇
      k_steps
      rename Fr _ _ _ _ => F₉
      rename News _ _ _ _ => N₉
      obtain ⟨N₁₀, k₉, t₉, p₉⟩ := (M3 _).fin N₉ hIn
      have e : pstep P x = (P.1, P.2 ++ [(x.fmod 256).toNat]) := by
        unfold pstep kindOf; simp only [if_neg (not_not_intro hk1), if_pos hk2]
      exact TEnd.intro F₉ N₁₀ off_ne (k₉ _ hax hal) ⟨rfl, k₉, t₉, _, _, _, _, _, p₉.cast e, (M3 0).nb⟩
    · rename Int.fmod _ 3 = 1 => hk1
      rename Int.fmod _ 3 = 2 => hk2
      rw [hk1] at hk2
      cases hk2
  · rintro m₁ nx h tk hS ⟨hm1, hkp, hTn, as, b, k', kb, vb, hP, hnb⟩ F₃ N₃
    rw [map_named hm1] at F₃
    dsimp only
    k_steps
    refine ret _ _ _ _ (by assumption) (by assumption) ⟨hkp, hTn, A, _, _, rfl, hA58, hP.hA, ?_⟩
    have e : vs.length = xs.length := hI.length
    rw [e, List.take_length] at hP
    exact hP.all.toLL ⟨b, vb, kb, rfl, hP.b58, hP.hb, hP.hi⟩
end Mine

end

section
open PySem PySem.W PyProof.Rows
set_option maxRecDepth 100000
set_option maxHeartbeats 2000000
namespace Mine
section
variable {prog : Program} {w : World} {A : Around} {s : Shared} {h₀ : Heap} {L : Addr} {m : Str → Option Value} {env : Env} {elt : PySem.Expr} {x : Str} {scope : Scope} {cl : List (Str × Addr)} {S : Led → Prop} {P : Nat → Value → Prop} {Fin : List Value → Led → Prop} {n : Nat}
/-- how an element's turn ends -/
def CEnd (s : Shared) (h₀ : Heap) (L : Addr) (m : Str → Option Value) (I : Addr) (oI : Obj) (C : Addr) (oC : Obj) (D : Addr) (oD : Obj) (S : Led → Prop) (K : Value → Led → Prop) (y : Value) (s₂ : Shared) : Prop :=
  ∃ h' tk' nz', s₂ = { s with heap := h', toks := tk' } ∧ Fr h₀ L h' m ∧ News h₀ L h' ((I, oI) :: (C, oC) :: (D, oD) :: nz') ∧ LCg.Off3 I C D nz' ∧ S nz' ∧ K y nz'
theorem CEnd.intro {I C D : Addr} {oI oC oD : Obj} {K : Value → Led → Prop} {y : Value} {h' : Heap} {tk' : Nat} {nz' : Led} (F : Fr h₀ L h' m) (N : News h₀ L h' ((I, oI) :: (C, oC) :: (D, oD) :: nz')) (o : LCg.Off3 I C D nz') (hS : S nz') (hK : K y nz') :
    CEnd s h₀ L m I oI C oC D oD S K y { s with heap := h', toks := tk' } := ⟨h', tk', nz', rfl, F, N, o, hS, hK⟩
theorem rest_ind (Inv : Nat → List Value → Led → Prop)
    (step : ∀ i ys nz v I oI C oC D m₂ h tk (E' : Value → Shared → Prop), i < n → Inv i ys nz → P i v → LCg.NsObj oC m₂ → m₂ x = some v → Fr h₀ L h m → News h₀ L h ((I, oI) :: (C, oC) :: (D, LCg.lst ys) :: nz) → LCg.Off3 I C D nz → ((@Ne Nat I C) ∧ (@Ne Nat I D) ∧ (@Ne Nat C D)) →
      wpAny (model prog w) A (eval elt (compEnvC scope cl C env)) (CEnd s h₀ L m I oI C oC D (LCg.lst ys) S (fun y nz' => Inv (i + 1) (ys ++ [y]) nz')) E' { s with heap := h, toks := tk })
    (fin : ∀ ys nz, Inv n ys nz → Fin ys nz) : ∀ k i ys nz, i + k = n → Inv i ys nz → LCg.CompRest prog w A h₀ L m env elt x scope cl s S P Fin k i ys nz := by
  intro k
  induction k with
  | zero => intro i ys nz e h; exact LCg.CompRest.zero (fin ys nz (by rw [← e]; exact h))
  | succ k ih =>
    intro i ys nz e h
    refine LCg.CompRest.succ ?_
    intro v I oI C oC D m₂ hh tk E' hP hC hx F N off ne
    refine wpAny_mono (step i ys nz v I oI C oC D m₂ hh tk E' (by omega) h hP hC hx F N off ne) (fun y s₂ h₂ => ?_) fun _ _ e => e
    obtain ⟨h', tk', nz', rfl, F', N', o', hS, hI⟩ := h₂
    exact ⟨h', tk', nz', rfl, F', N', o', hS, ih (i + 1) (ys ++ [y]) nz' (by omega) hI⟩
end
section
variable {prog : Program} {w : World} {A : Around} {E : Value → Shared → Prop} {s : Shared} {h₀ : Heap} {L : Addr} {m : Str → Option Value} {env : Env} {elt iter : PySem.Expr} {x : Str} {px pos : Pos} {scope : Scope} {cl : List (Str × Addr)}
/-- how an element's turn ends, the iterator's kind known -/
def KEnd (s : Shared) (h₀ : Heap) (L : Addr) (m : Str → Option Value) (I C D : Addr) (oI oC oD : Obj) (S : Led → Prop) (K : Value → Led → Prop) (y : Value) (s₂ : Shared) : Prop :=
  ∃ h' tk' nz', s₂ = { s with heap := h', toks := tk' } ∧ Fr h₀ L h' m ∧ News h₀ L h' ((I, oI) :: (C, oC) :: (D, oD) :: nz') ∧ (∀ p ∈ nz', p.1 ≠ I ∧ p.1 ≠ C ∧ p.1 ≠ D) ∧ S nz' ∧ K y nz'
theorem KEnd.intro {S : Led → Prop} {I C D : Addr} {oI oC oD : Obj} {K : Value → Led → Prop} {y : Value} {h' : Heap} {tk' : Nat} {nz' : Led} (F : Fr h₀ L h' m) (N : News h₀ L h' ((I, oI) :: (C, oC) :: (D, oD) :: nz')) (o : ∀ p ∈ nz', p.1 ≠ I ∧ p.1 ≠ C ∧ p.1 ≠ D) (hS : S nz') (hK : K y nz') :
    KEnd s h₀ L m I C D oI oC oD S K y { s with heap := h', toks := tk' } := ⟨h', tk', nz', rfl, F, N, o, hS, hK⟩
/-- where the loop of a comprehension stands: i taken, ys made -/
def CAt (s : Shared) (h₀ : Heap) (L : Addr) (m : Str → Option Value) (I C D : Addr) (S : Led → Prop) (Inv : List Value → Led → Prop) (ys : List Value) (s' : Shared) : Prop :=
  ∃ h tk m' nz, s' = { s with heap := h, toks := tk } ∧ Fr h₀ L h m ∧ h.Ns C m' ∧ News h₀ L h ((D, LCg.lst ys) :: nz) ∧ (∀ p ∈ nz, p.1 ≠ I ∧ p.1 ≠ C ∧ p.1 ≠ D) ∧ S nz ∧ Inv ys nz

theorem comp_loop {R : Result → Shared → Prop} {I C D : Addr} {fp : List Addr} {n : Nat} {P : Nat → Value → Prop} {St : Nat → Heap → Prop} {S : Led → Prop} (W : Walks prog w A I fp [I] n P St) (Inv : Nat → List Value → Led → Prop)
    (hIo : ∀ i h, St i h → ∃ o, h.get? I = some o)
    (hSt : ∀ i h h' o nw, St i h → h.get? I = some o → h'.get? I = some o → (∀ b o, h₀.get? b = some o → h'.get? b = some o) → News h₀ L h' nw → S nw → St i h')
    (hkind : scope.kind = .function) (hx : scope.names.lookup x = some .local) (hsz : n ≤ sizeLine) (hCf : C ∉ fp) (hDf : D ∉ fp)
    (hI₀ : h₀.get? I = none) (hC₀ : h₀.get? C = none) (hD₀ : h₀.get? D = none) (hIL : I ≠ L) (hCL : C ≠ L) (hDL : D ≠ L) (hIC : I ≠ C) (hID : I ≠ D) (hCD : C ≠ D)
    (hst : St 0 s.heap) (h0 : CAt s h₀ L m I C D S (Inv 0) [] s)
    (turn : ∀ i v ys nz m₂ h tk oI oC, i < n → P i v → ys.length = i → Inv i ys nz → S nz → St (i + 1) h → LCg.NsObj oC m₂ → m₂ x = some v → Fr h₀ L h m → News h₀ L h ((I, oI) :: (C, oC) :: (D, LCg.lst ys) :: nz) → (∀ p ∈ nz, p.1 ≠ I ∧ p.1 ≠ C ∧ p.1 ≠ D) →
      wpAny (model prog w) A (eval elt (compEnvC scope cl C env)) (KEnd s h₀ L m I C D oI oC (LCg.lst ys) S (fun y nz' => Inv (i + 1) (ys ++ [y]) nz')) (fun _ _ => False) { s with heap := h, toks := tk })
    (done : ∀ s' ys, ys.length = n → CAt s h₀ L m I C D S (Inv n) ys s' → R (.ok .next) s') :
    codeAny (model prog w) A (.compLoop (.ListComp elt [⟨.Name x px, iter, [], 0⟩] scope pos) 0 (.ref I) (.ref D) (compEnvC scope cl C env)) R s := by
  refine codeAny_compLoop_list (fun k s' => ∃ i ys, k = n + 1 - i ∧ i ≤ n ∧ ys.length = i ∧ St i s'.heap ∧ CAt s h₀ L m I C D S (Inv i) ys s') ?_ (n + 1) ⟨0, [], rfl, Nat.zero_le _, rfl, hst, h0⟩
  rintro k s' ⟨i, ys, rfl, hi, hyl, hst', h, tk, m', nz, rfl, F, hn, N, off, hS, hInv⟩
  have hnD : News h₀ L h nz := fun p hp => N p (List.mem_cons_of_mem _ hp)
  by_cases hlt : i < n
  · refine W.item i _ _ _ hlt hst' fun v h₁ tk₁ hP hst₁ hk₁ => ?_
    have F₁ : Fr h₀ L h₁ m := LCg.fr_but F hk₁ hIL.symm hI₀
    have N₁ : News h₀ L h₁ ((D, LCg.lst ys) :: nz) := LCg.news_but N hk₁ fun p hp => by
      rcases List.mem_cons.mp hp with rfl | hp
      · exact hID.symm
      · exact (off p hp).1
    have hn₁ : h₁.Ns C m' := hn.at' fun o e => hk₁ _ o (by simpa using hIC.symm) e
    refine wpAny_assign_Name (wpAny_storeName_local (lookup_relabel_local hx) hn₁ (fun h₂ hn₂ hs₂ => ?_) (by simp [compEnvC, relabel, hkind]))
    have hst₂ : St (i + 1) h₂ := W.frame _ _ _ hst₁ fun b hb o e => hs₂.extBut b o (fun q => hCf (by have q' : b = C := q; rw [← q']; exact hb)) e
    obtain ⟨oI, hoI⟩ := hIo _ _ hst₂
    obtain ⟨oC, hoC, hC⟩ := LCg.ns_obj hn₂
    have F₂ : Fr h₀ L h₂ m := F₁.change hs₂ hCL hC₀
    have N₂ : News h₀ L h₂ ((I, oI) :: (C, oC) :: (D, LCg.lst ys) :: nz) := fun p hp => by
      rcases List.mem_cons.mp hp with rfl | hp
      · exact ⟨hoI, hIL, hI₀⟩
      · rcases List.mem_cons.mp hp with rfl | hp
        · exact ⟨hoC, hCL, hC₀⟩
        · refine ⟨hs₂.extBut _ _ ?_ (N₁ p hp).1, (N₁ p hp).2⟩
          rcases List.mem_cons.mp hp with rfl | hp
          · exact hCD.symm
          · exact (off p hp).2.1
    refine wpAny_mono (turn i v ys nz _ h₂ _ oI oC hlt hP hyl hInv hS hst₂ hC (by simp) F₂ N₂ off) (fun y s₄ h₄ => ?_) fun _ _ e => e.elim
    obtain ⟨h₄, tk₄, nz₄, rfl, F₄, N₄, off₄, hS₄, hI₄⟩ := h₄
    have zI := (N₄ (I, oI) List.mem_cons_self).1
    have zC := (N₄ (C, oC) (List.mem_cons_of_mem _ List.mem_cons_self)).1
    have zD := (N₄ (D, LCg.lst ys) (List.mem_cons_of_mem _ (List.mem_cons_of_mem _ List.mem_cons_self))).1
    have N₄' : News h₀ L h₄ nz₄ := fun p hp => N₄ p (List.mem_cons_of_mem _ (List.mem_cons_of_mem _ (List.mem_cons_of_mem _ hp)))
    have hst₄ : St (i + 1) h₄ := hSt _ _ _ _ _ hst₂ hoI zI F₄.keep N₄' hS₄
    refine append_at (hsz := by show ys.toArray.size ≤ sizeLine; rw [List.size_toArray, hyl]; exact Nat.le_trans hi hsz) zD fun h₅ hs₅ hD₅ => ?_
    refine ⟨n + 1 - (i + 1), by omega, i + 1, ys ++ [y], rfl, hlt, by rw [List.length_append, List.length_singleton, hyl], W.frame _ _ _ hst₄ fun b hb o e => hs₅.extBut b o (fun q => hDf (q ▸ hb)) e, h₅, tk₄, _, nz₄, rfl, F₄.change hs₅ hDL hD₀, (hC.ns zC).sameBut hs₅ hCD, fun p hp => ?_, off₄, hS₄, hI₄⟩
    rcases List.mem_cons.mp hp with rfl | hp
    · exact ⟨hD₅.trans (congrArg some (LCg.lst_snoc ys y)), hDL, hD₀⟩
    · exact ⟨hs₅.extBut _ _ (off₄ p hp).2.2 (N₄' p hp).1, (N₄' p hp).2⟩
  · obtain rfl : i = n := Nat.le_antisymm hi (Nat.not_lt.mp hlt)
    refine W.done _ _ _ hst' fun h₁ tk₁ hk₁ => ?_
    refine done _ ys hyl ⟨h₁, tk₁, m', nz, rfl, LCg.fr_but F hk₁ hIL.symm hI₀, hn.at' fun o e => hk₁ _ o (by simpa using hIC.symm) e, LCg.news_but N hk₁ fun p hp => ?_, off, hS, hInv⟩
    rcases List.mem_cons.mp hp with rfl | hp
    · exact hID.symm
    · exact (off p hp).1
end
section
variable {prog : Program} {w : World} {A : Around} {E : Value → Shared → Prop} {s : Shared} {h₀ : Heap} {L : Addr} {m : Str → Option Value} {env : Env} {elt iter : PySem.Expr} {x : Str} {px pos : Pos} {scope : Scope} {cl : List (Str × Addr)} {news : Led}
theorem comp_block {RR : Value → Addr → Result → Shared → Prop} {I : Addr} {oI₀ : Obj} {fp : List Addr} {n : Nat} {P : Nat → Value → Prop} {St : Nat → Heap → Prop} {S : Led → Prop} (W : Walks prog w A I fp [I] n P St) (Inv : Nat → List Value → Led → Prop)
    (hIo : ∀ i h, St i h → ∃ o, h.get? I = some o)
    (hSt : ∀ i h h' o nw, St i h → h.get? I = some o → h'.get? I = some o → (∀ b o, h₀.get? b = some o → h'.get? b = some o) → News h₀ L h' nw → S nw → St i h')
    (hcell : ∀ y ∈ scope.names, y.2 ≠ .cell) (hkind : scope.kind = .function) (hx : scope.names.lookup x = some .local) (hsz : n ≤ sizeLine) (hfp : ∀ b ∈ fp, b < s.heap.objs.size)
    (F : Fr h₀ L s.heap m) (N : News h₀ L s.heap ((I, oI₀) :: news)) (off : ∀ p ∈ news, p.1 ≠ I) (hst : St 0 s.heap) (hS : S news) (hInv : Inv 0 [] news)
    (turn : ∀ C D i v ys nz m₂ (s₄ : Shared) h tk oI oC, (∃ g tk, s₄ = { s with heap := g, toks := tk }) → (∀ p ∈ (I, oI₀) :: news, p.1 < D) → D < C → i < n → P i v → ys.length = i → Inv i ys nz → S nz → St (i + 1) h → LCg.NsObj oC m₂ → m₂ x = some v → Fr h₀ L h m → News h₀ L h ((I, oI) :: (C, oC) :: (D, LCg.lst ys) :: nz) → (∀ p ∈ nz, p.1 ≠ I ∧ p.1 ≠ C ∧ p.1 ≠ D) →
      wpAny (model prog w) A (eval elt (compEnvC scope cl C env)) (KEnd s₄ h₀ L m I C D oI oC (LCg.lst ys) S (fun y nz' => Inv (i + 1) (ys ++ [y]) nz')) (fun _ _ => False) { s₄ with heap := h, toks := tk })
    (done : ∀ C D h tk m' ys nz, ys.length = n → Fr h₀ L h m → h.Ns C m' → News h₀ L h ((D, LCg.lst ys) :: nz) → (∀ p ∈ nz, p.1 ≠ I ∧ p.1 ≠ C ∧ p.1 ≠ D) → h₀.get? C = none → C ≠ L → C ≠ D → (∀ p ∈ (I, oI₀) :: news, p.1 < D) → S nz → Inv n ys nz → RR (.ref D) C (.ok .next) { s with heap := h, toks := tk }) :
    wpAny (model prog w) A (newList []) (fun acc s₃ => wpAny (model prog w) A (newFunctionEnv scope env.globals cl [] env.qual none .none (some env)) (fun cenv s₄ =>
      codeAny (model prog w) A (.compStart (.ListComp elt [⟨.Name x px, iter, [], 0⟩] scope pos) 0 (.ref I) acc { cenv with scope := relabel scope env }) (RR acc cenv.locals) s₄) E s₃) E s := by
  refine wpAny_newObj_type (wpAny_newFunctionEnv hcell (by intro y hy; simp at hy) (fun h₁ hns₁ hsb₁ => ?_) hkind)
  dsimp only at hns₁ hsb₁ ⊢
  generalize hH2 : s.heap.push { cls := .type "list", dict := none, data := .seq ([] : List Value).toArray } = H2 at hns₁ hsb₁ ⊢
  have hC : H2.objs.size = s.heap.objs.size + 1 := by rw [← hH2, Heap.size_push]
  have hDC : s.heap.objs.size < H2.objs.size := by rw [hC]; exact Nat.lt_succ_self _
  have lt : ∀ b, b < s.heap.objs.size → b ≠ H2.objs.size ∧ b ≠ s.heap.objs.size := fun b hb => ⟨Nat.ne_of_lt (Nat.lt_trans hb hDC), Nat.ne_of_lt hb⟩
  have old : ∀ b o, s.heap.get? b = some o → h₁.get? b = some o := fun b o e => hsb₁.extBut b o (lt b (Heap.lt_size e)).1 (Heap.get?_push_of_some _ (hH2 ▸ Heap.get?_push_of_some _ e))
  have hacc : h₁.get? s.heap.objs.size = some (LCg.lst []) := hsb₁.extBut _ _ (Nat.ne_of_lt hDC) (Heap.get?_push_of_some _ (hH2 ▸ Heap.get?_push_size _ rfl))
  have fresh₀ : ∀ a, s.heap.objs.size ≤ a → h₀.get? a = none := fun a ha => by
    cases e : h₀.get? a with
    | none => rfl
    | some o' => exact absurd (Heap.lt_size (F.keep a o' e)) (Nat.not_lt.mpr ha)
  have hLl := lt L F.ns.lt
  have hIm := N _ List.mem_cons_self
  have hIl := lt I (Heap.lt_size hIm.1)
  have hst₁ : St 0 h₁ := W.frame _ _ _ hst fun b _ o e => old b o e
  have hD₀ := fresh₀ _ (Nat.le_refl _)
  have hC₀ := fresh₀ _ (Nat.le_of_lt hDC)
  have hlt : ∀ p ∈ (I, oI₀) :: news, p.1 < s.heap.objs.size := fun p hp => Heap.lt_size (N p hp).1
  have loop : ∀ s₃ : Shared, s₃ = { s with heap := h₁, toks := s.toks + ([] : List (Str × Value)).length } →
      codeAny (model prog w) A (.compLoop (.ListComp elt [⟨.Name x px, iter, [], 0⟩] scope pos) 0 (.ref I) (.ref s.heap.objs.size) (compEnvC scope cl H2.objs.size env)) (RR (.ref s.heap.objs.size) H2.objs.size) s₃ := by
    rintro s₃ rfl
    refine comp_loop (S := S) W Inv hIo hSt hkind hx hsz (fun hm => (lt _ (hfp _ hm)).1 rfl) (fun hm => (lt _ (hfp _ hm)).2 rfl) hIm.2.2 hC₀ hD₀ hIm.2.1 hLl.1.symm hLl.2.symm hIl.1 hIl.2 (Nat.ne_of_gt hDC) hst₁
      ⟨h₁, _, _, news, rfl, F.keeps old, hns₁, fun p hp => ?_, fun p hp => ⟨off p hp, (lt _ (hlt p (List.mem_cons_of_mem _ hp))).1, (lt _ (hlt p (List.mem_cons_of_mem _ hp))).2⟩, hS, hInv⟩ ?_ ?_
    · rcases List.mem_cons.mp hp with rfl | hp
      · exact ⟨hacc, hLl.2.symm, hD₀⟩
      · exact ⟨old _ _ (N p (List.mem_cons_of_mem _ hp)).1, (N p (List.mem_cons_of_mem _ hp)).2⟩
    · intro i v ys nz m₂ h tk oI oC
      exact turn H2.objs.size s.heap.objs.size i v ys nz m₂ _ h tk oI oC ⟨_, _, rfl⟩ hlt hDC
    · rintro s' ys hyl ⟨h, tk, m', nz, rfl, F', hn', N', off', hS', hI'⟩
      exact done _ _ h tk m' ys nz hyl F' hn' N' off' hC₀ hLl.1.symm (Nat.ne_of_gt hDC) hlt hS' hI'
  exact codeAny_compStart_list (loop _ rfl) (W.self 0 _ _ _ hst₁ (loop _ rfl))

/-- a comprehension's value -/
theorem comp_eval {Q : Value → Shared → Prop} (hclos : closureFor scope env = pure cl) (hkind : scope.kind = .function) (hnames : ∀ y ∈ scope.names, y.2 = .local → scope.names.lookup y.1 = some .local)
    (h : wpAny (model prog w) A (eval iter env) (fun xv s₁ => wpAny (model prog w) A (pyIter xv) (fun it s₂ => wpAny (model prog w) A (newList []) (fun acc s₃ => wpAny (model prog w) A (newFunctionEnv scope env.globals cl [] env.qual none .none (some env)) (fun cenv s₄ =>
      codeAny (model prog w) A (.compStart (.ListComp elt [⟨.Name x px, iter, [], 0⟩] scope pos) 0 it acc { cenv with scope := relabel scope env }) (compPost (model prog w) A E none Q acc cenv.locals) s₄) E s₃) E s₂) E s₁) E s)
    (hs : ∀ x, foldedSetIterable iter env x = pure x := by intro _; rfl) :
    wpAny (model prog w) A (eval (.ListComp elt [⟨.Name x px, iter, [], 0⟩] scope pos) env) Q E s := by
  rw [eval_ListComp]
  exact wpAny_comprehension_free (use := none) rfl hs hclos hkind hnames h
/-- a comprehension stored under a local name -/
theorem comp_store {y : Str} {py spos : Pos} {Q : Flow → Shared → Prop} (hsw : swapsWith (.ListComp elt [⟨.Name x px, iter, [], 0⟩] scope pos) (some (.Name y py)) spos.line env = pure true)
    (hclos : closureFor scope env = pure cl) (hkind : scope.kind = .function) (hnames : ∀ y ∈ scope.names, y.2 = .local → scope.names.lookup y.1 = some .local)
    (h : wpAny (model prog w) A (eval iter env) (fun xv s₁ => wpAny (model prog w) A (pyIter xv) (fun it s₂ => wpAny (model prog w) A (newList []) (fun acc s₃ => wpAny (model prog w) A (newFunctionEnv scope env.globals cl [] env.qual none .none (some env)) (fun cenv s₄ =>
      codeAny (model prog w) A (.compStart (.ListComp elt [⟨.Name x px, iter, [], 0⟩] scope pos) 0 it acc { cenv with scope := relabel scope env }) (compPost (model prog w) A E (some (assign (.Name y py) env)) (fun _ s' => Q .next s') acc cenv.locals) s₄) E s₃) E s₂) E s₁) E s)
    (hs : ∀ x, foldedSetIterable iter env x = pure x := by intro _; rfl) :
    wpAny (model prog w) A (exec (.Assign [.Name y py] (.ListComp elt [⟨.Name x px, iter, [], 0⟩] scope pos) spos) env) Q E s := by
  rw [exec_Assign_Name_used _ _ _ _ hsw]
  refine wpAny_bind (wpAny_standAt (wpAny_bind ?_))
  show wpAny _ A (do let _ ← comprehension (.ListComp elt [⟨.Name x px, iter, [], 0⟩] scope pos) scope env _ (newList []) false (eval iter env) (some (assign (.Name y py) env))) _ _ s
  exact wpAny_bind (wpAny_mono (wpAny_comprehension_free (use := some (assign (.Name y py) env)) (Q := fun _ s' => Q .next s') rfl hs hclos hkind hnames h) (fun _ s' hq => wpAny_pure (wpAny_pure hq)) fun _ _ e => e)
theorem post_eval {Q : Value → Shared → Prop} {C D : Addr} {h : Heap} {tk : Nat} {m' : Str → Option Value} {ys : List Value} {nz : Led} (F : Fr h₀ L h m) (hn : h.Ns C m') (N : News h₀ L h ((D, LCg.lst ys) :: nz)) (off : ∀ p ∈ nz, p.1 ≠ C) (hC₀ : h₀.get? C = none) (hCL : C ≠ L) (hCD : C ≠ D)
    (k : ∀ h'', Fr h₀ L h'' m → News h₀ L h'' ((D, LCg.lst ys) :: nz) → Q (.ref D) { s with heap := h'', toks := tk }) : compPost (model prog w) A E none Q (.ref D) C (.ok .next) { s with heap := h, toks := tk } := by
  refine ⟨m', hn, fun h'' hs'' => k h'' (F.change hs'' hCL hC₀) fun p hp => ⟨hs''.extBut _ _ ?_ (N p hp).1, (N p hp).2⟩⟩
  rcases List.mem_cons.mp hp with rfl | hp
  · exact hCD.symm
  · exact off p hp
theorem post_store {y : Str} {py : Pos} {Q : Value → Shared → Prop} {C D : Addr} {h : Heap} {tk : Nat} {m' : Str → Option Value} {ys : List Value} {nz : Led} (hL : env.locals = L) (hy : env.kindOf y = some .local) (hp : (env.scope.kind == .class || (env.scope.kind == .module && env.locals != env.globals)) = false)
    (F : Fr h₀ L h m) (hn : h.Ns C m') (N : News h₀ L h ((D, LCg.lst ys) :: nz)) (off : ∀ p ∈ nz, p.1 ≠ C) (hC₀ : h₀.get? C = none) (hCL : C ≠ L) (hCD : C ≠ D)
    (k : ∀ h'' tk'', Fr h₀ L h'' (fun z => if z = y then some (.ref D) else m z) → News h₀ L h'' ((D, LCg.lst ys) :: nz) → Q .none { s with heap := h'', toks := tk'' }) :
    compPost (model prog w) A E (some (assign (.Name y py) env)) Q (.ref D) C (.ok .next) { s with heap := h, toks := tk } := by
  subst hL
  show wpAny _ A (assign (.Name y py) env (.ref D)) _ _ _
  refine wpAny_assign_Name (wpAny_storeName_local hy F.ns (fun h₂ hn₂ hs₂ => ?_) hp)
  have F₂ := F.set hn₂ hs₂
  refine ⟨m', hn.sameBut hs₂ hCL, fun h'' hs'' => k h'' _ (F₂.change hs'' hCL hC₀) fun p hp => ?_⟩
  have z : h₂.get? p.1 = some p.2 := hs₂.extBut _ _ (N p hp).2.1 (N p hp).1
  refine ⟨hs''.extBut _ _ ?_ z, (N p hp).2⟩
  rcases List.mem_cons.mp hp with rfl | hp
  · exact hCD.symm
  · exact off p hp
end
section
variable {h₀ h h' : Heap} {L I C D : Addr} {oI oC : Obj} {ys : List Value} {nz new : Led} {m₂ : Str → Option Value}
theorem Tabs.drop {o : Obj} (N : News h₀ L h new) (hD : (D, o) ∈ new) (hd : ∀ vs q t, o.data = .fields vs → vs[1]? ≠ some (.str q t)) (hh : Hi D) (hT : Tabs new) : Tabs (off D new) := by
  have one : ∀ {P line col : Nat} {q : Str}, ¬ Hi P → TabAt new P line col q → TabAt (off D new) P line col q := by
    intro P line col q hP ⟨ps, h1, h2⟩
    refine ⟨ps, mem_off.mpr ⟨h1, fun e => hP ((show P = D from e) ▸ hh)⟩, ?_⟩
    rcases h2 with h2 | ⟨c', oc, vs, t, e, hlt, hm, hd', hv⟩
    · exact .inl h2
    · refine .inr ⟨c', oc, vs, t, e, hlt, mem_off.mpr ⟨hm, ?_⟩, hd', hv⟩
      rintro rfl
      exact hd vs q t ((News.same N hD hm) ▸ hd') hv
  exact ⟨one nh37 hT.1, one nh44 hT.2.1, one nh58 hT.2.2⟩
theorem hi_of_tabs {a : Addr} (hT : Tabs nz) (hn : ∀ p ∈ nz, p.1 ≠ a) : Hi a := by
  obtain ⟨_, h1, _⟩ := hT.1
  obtain ⟨_, h2, _⟩ := hT.2.1
  obtain ⟨_, h3, _⟩ := hT.2.2
  exact ⟨(hn _ h1).symm, (hn _ h2).symm, (hn _ h3).symm⟩
theorem vola_not_code (hv : Vola oI) : ∀ vs q t, oI.data = .fields vs → vs[1]? ≠ some (.str q t) := by
  intro vs q t e e2
  rcases hv with ⟨vs', n, t', e1, e3⟩ | ⟨es, ep, e1⟩
  · rw [e] at e1; cases e1; rw [e2] at e3; cases e3
  · rw [e] at e1; cases e1
theorem comp_fin (off3 : ∀ p ∈ nz, p.1 ≠ I ∧ p.1 ≠ C ∧ p.1 ≠ D) (hTz : Tabs nz) (N : News h₀ L h' new) (hK : Keep ((I, oI) :: (C, oC) :: (D, LCg.lst ys) :: nz) new) (hT : Tabs new) (hI : Vola oI) (hC : LCg.NsObj oC m₂) :
    ∃ nz', News h₀ L h' ((I, oI) :: (C, oC) :: (D, LCg.lst ys) :: nz') ∧ (∀ p ∈ nz', p.1 ≠ I ∧ p.1 ≠ C ∧ p.1 ≠ D) ∧ Keep nz nz' ∧ Tabs nz' ∧ ∀ v c n, Tup2 new v c n → Tup2 nz' v c n := by
  have hiI : Hi I := hi_of_tabs hTz fun p hp => (off3 p hp).1
  have hiC : Hi C := hi_of_tabs hTz fun p hp => (off3 p hp).2.1
  have hiD : Hi D := hi_of_tabs hTz fun p hp => (off3 p hp).2.2
  have mI := hK _ List.mem_cons_self hiI
  have mC := hK _ (List.mem_cons_of_mem _ List.mem_cons_self) hiC
  have mD := hK _ (List.mem_cons_of_mem _ (List.mem_cons_of_mem _ List.mem_cons_self)) hiD
  obtain ⟨es, ep, hCd, _⟩ := hC
  have hCv : Vola oC := .inr ⟨es, ep, hCd⟩
  have sub : ∀ p ∈ off I (off C (off D new)), p ∈ new := fun p hp => off_sub _ (off_sub _ (off_sub _ hp))
  have N1 : News h₀ L h' (off D new) := fun p hp => N p (off_sub _ hp)
  have N2 : News h₀ L h' (off C (off D new)) := fun p hp => N1 p (off_sub _ hp)
  by_cases hCD : C = D
  · exfalso
    subst hCD
    have e := News.same N mC mD
    rw [e] at hCd; cases hCd
  by_cases hID : I = D
  · exfalso
    subst hID
    exact solid_seq (o := LCg.lst ys) rfl ((News.same N mI mD) ▸ hI)
  have mC1 : (C, oC) ∈ off D new := mem_off.mpr ⟨mC, hCD⟩
  have T1 : Tabs (off D new) := Tabs.drop N mD (fun vs q t e => by cases e) hiD hT
  have T2 : Tabs (off C (off D new)) := Tabs.drop N1 mC1 (vola_not_code hCv) hiC T1
  have T3 : Tabs (off I (off C (off D new))) := by
    by_cases hIC : I = C
    · subst hIC
      refine T2.mono fun p hp _ => mem_off.mpr ⟨hp, off_ne _ hp⟩
    · exact Tabs.drop N2 (mem_off.mpr ⟨mem_off.mpr ⟨mI, hID⟩, hIC⟩) (vola_not_code hI) hiI T2
  refine ⟨off I (off C (off D new)), fun p hp => ?_, fun p hp => ⟨off_ne _ hp, off_ne _ (off_sub _ hp), off_ne _ (off_sub _ (off_sub _ hp))⟩, fun p hp hl => ?_, T3, fun v c n hv => ?_⟩
  · rcases List.mem_cons.mp hp with rfl | hp
    · exact N _ mI
    · rcases List.mem_cons.mp hp with rfl | hp
      · exact N _ mC
      · rcases List.mem_cons.mp hp with rfl | hp
        · exact N _ mD
        · exact N _ (sub _ hp)
  · obtain ⟨a, b, c⟩ := off3 p hp
    exact mem_off.mpr ⟨mem_off.mpr ⟨mem_off.mpr ⟨hK _ (List.mem_cons_of_mem _ (List.mem_cons_of_mem _ (List.mem_cons_of_mem _ hp))) hl, c⟩, b⟩, a⟩
  · obtain ⟨a, t, u, k, rfl, ha, hm⟩ := hv
    refine ⟨a, t, u, k, rfl, ha, mem_off.mpr ⟨mem_off.mpr ⟨mem_off.mpr ⟨hm, ?_⟩, ?_⟩, ?_⟩⟩
    · rintro rfl
      have e : Value.type "tuple" = Value.type "list" := congrArg Obj.cls (News.same N hm mD)
      exact absurd e (by decide)
    · rintro rfl
      exact solid_seq rfl ((News.same N hm mC) ▸ hCv)
    · rintro rfl
      exact solid_seq rfl ((News.same N hm mI) ▸ hI)
end
end Mine

end

section
open PySem PySem.W PyProof.Rows
set_option maxRecDepth 100000
set_option maxHeartbeats 2000000
namespace Mine
example : PySem.Challenge.rw_mq0060_01 = PySem.Challenge.rw_mq0060_01 ∧ Mine.hd.heap_39 = Mine.hd.heap_39 := by
  k_fill
  exact ⟨rfl, rfl⟩
local macro_rules | `(tactic| walk_at "pyIter ref") => `(tactic| refine Stop.mk ?_)
local macro_rules | `(tactic| walk_at "exec For Name Name cons nil") => `(tactic| refine Stop.mk ?_)
local macro_rules | `(tactic| walk_at "exec For Name Call cons nil") => `(tactic| refine Stop.mk ?_)
local macro_rules | `(tactic| walk_at "call type:range") => `(tactic| refine Stop.mk ?_)

section
variable {prog : Program} {w : World} {A : Around} {E : Value → Shared → Prop} {s : Shared} {h₀ : Heap} {L a : Addr} {m : Str → Option Value} {news : Led} {cn : Str} {cs : Scope} {ccd : Value} {cl : List (Str × Addr)} {x : Str} {c : Addr} {v : Value}
theorem store_led {o : Obj} {v₀ : Option Value} {Q : Unit → Shared → Prop} (F : Fr h₀ L s.heap m) (N : News h₀ L s.heap news) (hm : (c, o) ∈ news) (hd : o.data = .cell v₀)
    (h : ∀ h' o', Fr h₀ L h' m → News h₀ L h' ((c, o') :: off c news) → o'.data = .cell (some v) → Q () { s with heap := h' })
    (hc : cl.lookup x = some c := by rfl) (hk : cs.kind = .function := by rfl) (hx : (envX cn cs L a ccd cl).kindOf x = some .cell := by rfl) : wpAny (model prog w) A (storeName (envX cn cs L a ccd cl) x v) Q E s := by
  have N₁ : News h₀ L s.heap ((c, o) :: off c news) := fun q hq => by
    rcases List.mem_cons.mp hq with rfl | hq
    · exact N _ hm
    · exact N _ (off_sub _ hq)
  exact storeX_C F N₁ hc (UpdF.head off_ne) hd h hk hx
theorem name_led {pos : Pos} {o : Obj} {Q : Value → Shared → Prop} (N : News h₀ L s.heap news) (hm : (c, o) ∈ news) (hd : o.data = .cell (some v)) (h : Q v s) (hc : cl.lookup x = some c := by rfl)
    (hk : cs.kind = .function := by rfl) (hx : (envX cn cs L a ccd cl).kindOf x = some .cell := by rfl) (hb : (x == ("__debug__" : Str)) = false := by decide) :
    wpAny (model prog w) A (eval (.Name x pos) (envX cn cs L a ccd cl)) Q E s := nameX_C N hc hm hd h hk hx hb
theorem load_led {o : Obj} {Q : Value → Shared → Prop} (N : News h₀ L s.heap news) (hm : (c, o) ∈ news) (hd : o.data = .cell (some v)) (h : Q v s) (hc : cl.lookup x = some c := by rfl)
    (hk : cs.kind = .function := by rfl) (hx : (envX cn cs L a ccd cl).kindOf x = some .cell := by rfl) :
    wpAny (model prog w) A (loadName (envX cn cs L a ccd cl) x) Q E s := wpAny_loadName_cell hk hx hc ⟨o, (N _ hm).1, hd⟩ h
end
def bitK (N o : Nat) : Nat → Nat
  | 0 => N
  | k + 1 => 2 * bitK N o k + o / 2 ^ k % 2
def bitsN (ns : List Nat) : Nat := ns.foldl (fun N o => bitK N o 8) 0
/-- a cell that holds an int -/
def CellI (nx : Led) (c : Addr) (n : Nat) : Prop := ∃ oc t, (c, oc) ∈ nx ∧ oc.data = .cell (some (.int (n : Nat) t))
theorem solid_cell {o : Obj} {v : Option Value} (h : o.data = .cell v) : Solid o := by
  rintro (⟨vs', n, t', e1, e2⟩ | ⟨es, ep, e⟩)
  · rw [h] at e1; cases e1
  · rw [h] at e; cases e
theorem CellI.mono {a b : Led} {c : Addr} {n : Nat} (h58 : Hi c) (k : KeepS a b) (h : CellI a c n) : CellI b c n := by
  obtain ⟨oc, t, h1, h2⟩ := h
  exact ⟨oc, t, k _ h1 h58 (solid_cell h2), h2⟩

theorem cell_step {h₀ h h' : Heap} {L I c : Addr} {nx : Led} {oI o o' : Obj} {v : Option Value} (N : News h₀ L h ((I, oI) :: nx)) (N' : News h₀ L h' ((c, o') :: off c ((I, oI) :: nx))) (hoff : ∀ p ∈ nx, p.1 ≠ I) (hc : (c, o) ∈ nx) (hd : o.data = .cell v) (h58 : Hi c) (hT : Tabs nx) :
    ∃ ny, News h₀ L h' ((I, oI) :: ny) ∧ (∀ p ∈ ny, p.1 ≠ I) ∧ (∀ p ∈ nx, p.1 ≠ c → p ∈ ny) ∧ Tabs ny ∧ (c, o') ∈ ny := by
  have hcI : c ≠ I := hoff _ hc
  refine ⟨(c, o') :: off c nx, fun q hq => ?_, fun q hq => ?_, fun q hq hn => List.mem_cons_of_mem _ (mem_off.mpr ⟨hq, hn⟩), Tabs.upd (fun q hq => N q (List.mem_cons_of_mem _ hq)) hc (fun vs e => by rw [hd] at e; cases e) h58 hT, List.mem_cons_self⟩
  · rcases List.mem_cons.mp hq with rfl | hq
    · exact N' _ (List.mem_cons_of_mem _ (mem_off.mpr ⟨List.mem_cons_self, hcI.symm⟩))
    · rcases List.mem_cons.mp hq with rfl | hq
      · exact N' _ List.mem_cons_self
      · exact N' _ (List.mem_cons_of_mem _ (mem_off.mpr ⟨List.mem_cons_of_mem _ (off_sub _ hq), off_ne _ hq⟩))
  · rcases List.mem_cons.mp hq with rfl | hq
    · exact hcI
    · exact hoff _ (off_sub _ hq)
theorem fdiv_pow (a j : Nat) : (a : Int).fdiv (2 ^ j) = ((a / 2 ^ j : Nat) : Int) := by
  rw [Int.fdiv_eq_ediv_of_nonneg _ (Int.le_of_lt (kbt_pos j)), ← kbt_cast]
  rfl
theorem fmod_two (a : Nat) : (a : Int).fmod 2 = ((a % 2 : Nat) : Int) := by
  rw [Int.fmod_eq_emod_of_nonneg _ (by decide)]; rfl
theorem bit_val (N o j : Nat) : 2 * (N : Int) + ((o : Int).fdiv (2 ^ (0 + (j : Int) * 1).toNat)).fmod 2 = ((2 * N + o / 2 ^ j % 2 : Nat) : Int) := by
  rw [show (0 + (j : Int) * 1).toNat = j by omega, fdiv_pow, fmod_two]
  omega
theorem bitsN_succ {ns : List Nat} {i o : Nat} (h : ns[i]? = some o) : bitsN (ns.take (i + 1)) = bitK (bitsN (ns.take i)) o 8 := by
  unfold bitsN
  rw [List.take_add_one, h, List.foldl_append]; rfl
theorem bitK_lt {N b o : Nat} (h : N < 2 ^ b) : ∀ k, bitK N o k < 2 ^ (b + k) := by
  intro k
  induction k with
  | zero => exact h
  | succ k ih =>
    show 2 * bitK N o k + o / 2 ^ k % 2 < 2 ^ (b + (k + 1))
    rw [show b + (k + 1) = (b + k) + 1 by omega, Nat.pow_succ]
    have : o / 2 ^ k % 2 < 2 := Nat.mod_lt _ (by decide)
    omega
theorem bitsN_lt (ns : List Nat) : bitsN ns < 2 ^ (8 * ns.length) := by
  have go : ∀ (ns : List Nat) (N b : Nat), N < 2 ^ b → ns.foldl (fun N o => bitK N o 8) N < 2 ^ (b + 8 * ns.length) := by
    intro ns
    induction ns with
    | nil => intro N b h; simpa using h
    | cons o r ih =>
      intro N b h
      have := ih (bitK N o 8) (b + 8) (bitK_lt h 8)
      rw [List.foldl_cons, List.length_cons, show b + 8 * (r.length + 1) = b + 8 + 8 * r.length by omega]
      exact this
  have := go ns 0 0 (by decide)
  rw [Nat.zero_add] at this
  exact this
def num0 (ns : List Nat) : Nat := (bitsN ns * 2 ^ 32) ^^^ (MM * 2 ^ (8 * ns.length))
def divstep (x k : Nat) : Nat := if x / 2 ^ (k + 32) % 2 = 1 then x ^^^ (4374732215 * 2 ^ k) else x
def divI (T x : Nat) : Nat → Nat
  | 0 => x
  | i + 1 => divstep (divI T x i) (T - 1 - i)
theorem num0_val (ns : List Nat) : Builtin.bitXor ((bitsN ns : Nat) * 2 ^ Int.toNat 32) (4294967295 * 2 ^ (8 * (ns.length : Int)).toNat) = ((num0 ns : Nat) : Int) := by
  unfold num0
  rw [← bitXor_nat, show (8 * (ns.length : Int)).toNat = 8 * ns.length by omega]
  rw [Int.natCast_mul, Int.natCast_mul, kbt_cast, kbt_cast]
  rfl
theorem down_small {n : Nat} (h : n ≤ 7) : Builtin.Range.small (8 * (n : Int) - 1) (-1) (-1) = true := by
  have : n = 0 ∨ n = 1 ∨ n = 2 ∨ n = 3 ∨ n = 4 ∨ n = 5 ∨ n = 6 ∨ n = 7 := by omega
  rcases this with rfl | rfl | rfl | rfl | rfl | rfl | rfl | rfl <;> decide
theorem down_size {n : Nat} (h : n ≤ 7) : Builtin.Range.rangeSize (8 * (n : Int) - 1) (-1) (-1) = ((8 * n : Nat) : Int) := by
  have : n = 0 ∨ n = 1 ∨ n = 2 ∨ n = 3 ∨ n = 4 ∨ n = 5 ∨ n = 6 ∨ n = 7 := by omega
  rcases this with rfl | rfl | rfl | rfl | rfl | rfl | rfl | rfl <;> decide
theorem div_test {x n j : Nat} (h : j < 8 * n) : ((x : Int).fdiv (2 ^ (8 * (n : Int) - 1 + (j : Int) * -1 + 32).toNat)).fmod 2 = ((x / 2 ^ (8 * n - 1 - j + 32) % 2 : Nat) : Int) := by
  rw [show (8 * (n : Int) - 1 + (j : Int) * -1 + 32).toNat = 8 * n - 1 - j + 32 by omega, fdiv_pow, fmod_two]
theorem div_new {x n j : Nat} (h : j < 8 * n) : Builtin.bitXor (x : Int) (4374732215 * 2 ^ (8 * (n : Int) - 1 + (j : Int) * -1).toNat) = ((x ^^^ (4374732215 * 2 ^ (8 * n - 1 - j)) : Nat) : Int) := by
  rw [← bitXor_nat, show (8 * (n : Int) - 1 + (j : Int) * -1).toNat = 8 * n - 1 - j by omega, Int.natCast_mul, kbt_cast]
  rfl
section
variable {prog : Program} {w : World} {A : Around} {E : Value → Shared → Prop} {s : Shared} {h₀ : Heap} {L : Addr} {m : Str → Option Value} {news : Led}
theorem sum_led {D : Addr} {vs : List Value} {ns : List Int} {k : Nat} {Q : Value → Shared → Prop} (hh : A.handled = none) (F : Fr h₀ L s.heap m) (N : News h₀ L s.heap news) (hm : (D, listOf vs.toArray k) ∈ news) (hi : IntsAre vs ns)
    (h : ∀ h' tk t', Fr h₀ L h' m → News h₀ L h' news → Q (.int ns.sum t') { s with heap := h', toks := tk }) :
    wpAny (model prog w) A (call (.builtin "sum") [.ref D]) Q E s := by
  have hl : s.heap.IsList D vs.toArray := ⟨_, (N _ hm).1, rfl, k, rfl⟩
  obtain ⟨xs, hx⟩ := hi.allInts.items
  have hn : numsOf vs.toArray.toList = ns := by rw [show vs.toArray.toList = vs from rfl, hi.numsOf]
  rw [hx] at hl hn
  rw [nums_intItems] at hn
  refine sum_intListG hh hl fun h' tk t' hk => ?_
  have := h h' tk t' (F.keeps hk) (N.grown hk)
  rw [preSum_eq, List.take_of_length_le (by simp), hn]
  exact this
end
def revT (x : Nat) (k : Nat) : Nat := x / 2 ^ k % 2 * 2 ^ (31 - k)
def revL (x n : Nat) : List Nat := (List.range n).map (revT x)
def divided (ns : List Nat) : Nat := (revL (divI (8 * ns.length) (num0 ns) (8 * ns.length) ^^^ MM) 32).sum
theorem revL_succ (x n : Nat) : toI (revL x (n + 1)) = toI (revL x n) ++ [((revT x n : Nat) : Int)] := by
  unfold revL toI
  rw [List.range_succ]; simp
theorem sum_toI (l : List Nat) : (toI l).sum = ((l.sum : Nat) : Int) := by
  induction l with
  | nil => rfl
  | cons a r ih => simp only [List.map_cons, List.sum_cons]; rw [ih]; omega
theorem rev_val {x i : Nat} (h : i < 32) : ((x : Int).fdiv (2 ^ (0 + (i : Int)).toNat)).fmod 2 * 2 ^ (31 - (0 + (i : Int))).toNat = ((revT x i : Nat) : Int) := by
  unfold revT
  rw [show (0 + (i : Int)).toNat = i by omega, show (31 - (0 + (i : Int))).toNat = 31 - i by omega, fdiv_pow, fmod_two, Int.natCast_mul, kbt_cast]
def KeepC (c : Addr) (old new : Led) : Prop := ∀ p ∈ old, Hi p.1 → p.1 ≠ c → p ∈ new

theorem divided_spec {w : World} {p : Program} {loose : List Str} {mean : ExcName → Option Value} {mg mb : Str → Option Value} {v : Value} {ns : List Nat} {news : Led}
    (hT : Tabs news) (hv : IntsL news v (toI ns)) (hn : ns.length ≤ 7) :
    CallW w p loose mean mg mb 10 100 (.ref 35) [v] news (fun r new => Keep news new ∧ Tabs new ∧ ∃ t, r = .int (divided ns : Nat) t) := by
  unfold CallW
  intro dp un gd cn cs a ccd cl outer A₀ base h₀ L m s Q E B F X N T hC hk hd hu ret
  obtain ⟨ax, vs, k, rfl, hal, hax, hI⟩ := hv
  refine wpAny_call ?_
  k_dflt (refine' code_defC ?k1 ?k2 ?k3 ?k4 ?k5 ?kA ?kF ?kK ?k6 ?k7 ?k8 ?k9 ?kB ?kD ?_ ?c2 ?c3 ?c4; (case kA => exact rfl); (case kF => exact rfl); (case kK => assumption); (case k1 => k_asm); (case k2 => k_asm); (case k3 => k_asm); (case k4 => k_asm); (case k5 => k_asm); (case k6 => k_is); (case k7 => k_is); (case k8 => ktr_room); (case k9 => exact BindsTo.of_eq rfl); (case kB => exact rfl); (case kD => decide +kernel); (case c2 => exact rfl); (case c3 => exact rfl); (case c4 => exact rfl); k_whole; intro g' L' h' tk' cells' FG' F' N' Y' B' X' T' l1)
  k_cells Y'
  (try simp only [List.cons_append, List.nil_append] at N')
  (try dsimp only); (try k_fold)
  k_steps
  have hc58 : Hi (L' + 1) := hT.above fun p hp => Nat.lt_succ_of_lt (l1 p hp)
  have hnc : ∀ p ∈ news, p.1 ≠ L' + 1 := fun p hp => Nat.ne_of_lt (Nat.lt_succ_of_lt (l1 p hp))
  rename _ = Data.cell _ => hcd
  refine store_led F' N' List.mem_cons_self hcd ?_
  intro h₁ o₁ F₁ N₁ hd₁
  dsimp only
  k_steps
  refine Stop.out (wpAny_For ?_)
  k_steps
  have N₂ : News g' L' h₁ ((L' + 1, o₁) :: news) := fun q hq => by
    rcases List.mem_cons.mp hq with rfl | hq
    · exact N₁ _ List.mem_cons_self
    · exact N₁ _ (List.mem_cons_of_mem _ (mem_off.mpr ⟨List.mem_cons_of_mem _ hq, hnc _ hq⟩))
  refine Stop.out (pyIter_led (its := vs) (k := k) F₁ N₂ (List.mem_cons_of_mem _ hax) ?_)
  intro I h₂ F₂ N₃ hI'
  have hIn : ∀ p ∈ news, p.1 ≠ I := fun p hp => Nat.ne_of_lt (hI' p (List.mem_cons_of_mem _ hp))
  have hI58 : Hi I := (hT.mono KeepT.cons).above hI'
  have hIc : I ≠ L' + 1 := Nat.ne_of_gt (hI' _ List.mem_cons_self)
  refine for_list (its := vs) (k := k) (fun i m nx => m (Str.ofString "row") = some (.ref ax) ∧ Keep news nx ∧ Tabs nx ∧ CellI nx (L' + 1) (bitsN (ns.take i))) rfl rfl rfl F₂ N₃ hI' (List.mem_cons_of_mem _ hax) ⟨rfl, Keep.cons, hT.mono KeepT.cons, o₁, _, List.mem_cons_self, hd₁⟩ ?_ ?_
  · rintro i v m₁ nx h tk oI hv hoff hS ⟨hm1, hkp, hTn, oc, tc, hcm, hcv⟩ hvol F₃ N₄
    obtain ⟨o, t, ho, rfl⟩ := ints_get hI hv
    rw [map_named hm1] at F₃
    k_steps
    refine Stop.out (wpAny_For ?_)
    k_steps
    refine Stop.out (rng1 F₃ N₄ ?_)
    intro r h₄ tk₄ ta tb tc' F₅ N₅ hr
    dsimp only
    k_steps
    refine Stop.out (pyIter_rng F₅ N₅ List.mem_cons_self (by decide) ?_)
    intro I2 h₆ F₆ N₆ hI2
    have hI2' : ∀ p ∈ (I, oI) :: nx, p.1 < I2 := fun p hp => hI2 p (List.mem_cons_of_mem _ hp)
    refine for_rng (n := 8) (fun j m nx' => m (Str.ofString "row") = some (.ref ax) ∧ m (Str.ofString "octet") = some (.int (o : Nat) t) ∧ KeepC (L' + 1) ((I, oI) :: nx) nx' ∧ Tabs nx' ∧ CellI nx' (L' + 1) (bitK (bitsN (ns.take i)) o j)) rfl rfl rfl rfl F₆ N₆ hI2 ⟨rfl, rfl, fun p hp _ _ => List.mem_cons_of_mem _ hp, hTn.mono (KeepT.cons.trans KeepT.cons), oc, tc, List.mem_cons_of_mem _ (List.mem_cons_of_mem _ hcm), hcv⟩ ?_ ?_
    · rintro j t₇ m₂ ny h tk oI2 hj hoff2 ⟨hq1, hq2, hkc, hTy, oc2, tc2, hcm2, hcv2⟩ hvol2 F₇ N₇
      rw [map_named hq1, map_named hq2] at F₇
      have hcm3 := List.mem_cons_of_mem (I2, oI2) hcm2
      k_steps
      refine store_led F₇ N₇ hcm3 hcv2 ?_
      intro h₈ o₈ F₈ N₈ hd₈
      obtain ⟨nz, N₉, off₉, k₉, t₉, m₉⟩ := cell_step N₇ N₈ hoff2 hcm2 hcv2 hc58 hTy
      dsimp only
      k_steps
      refine TEnd.intro F₈ N₉ off₉ trivial ⟨rfl, rfl, fun p hp h1 h2 => k₉ _ (hkc p hp h1 h2) h2, t₉, o₈, _, m₉, hd₈.trans (congrArg Data.cell (int_is (bit_val _ _ _)))⟩
    · rintro m₂ ny h tk ⟨hq1, hq2, hkc, hTy, hcell⟩ F₇ N₇
      dsimp only
      k_steps
      have hIy : (I, oI) ∈ ny := hkc _ List.mem_cons_self hI58 hIc
      have kT := off_keepT N₇ hIy hvol hI58
      have hkn : Keep news (off I ny) := fun p hp hl => mem_off.mpr ⟨hkc _ (List.mem_cons_of_mem _ (hkp p hp hl)) hl (hnc p hp), hIn p hp⟩
      refine TEnd.intro (nx := off I ny) F₇ (fun q hq => ?_) off_ne (hkn _ hax hal) ⟨hq1, hkn, hTy.mono kT, ?_⟩
      · rcases List.mem_cons.mp hq with rfl | hq
        · exact N₇ _ hIy
        · exact N₇ _ (off_sub _ hq)
      · rw [bitsN_succ ho]
        exact hcell.mono hc58 kT.s
  · rintro m₁ nx h tk hS ⟨hm1, hkp, hTn, oc, tc, hcm, hcv⟩ F₃ N₄
    rw [map_named hm1] at F₃
    dsimp only
    k_steps
    have hvl : vs.length = ns.length := by rw [hI.length]; simp
    rw [hvl, List.take_length] at hcv
    have hN56 : bitsN ns < 2 ^ 56 := Nat.lt_of_lt_of_le (bitsN_lt ns) (Nat.pow_le_pow_right (by decide) (by omega))
    refine len_list (items := vs.toArray) ⟨_, (N₄ _ hS).1, rfl, k, rfl⟩ (by rw [List.size_toArray, hvl]; omega) ?_
    rw [List.size_toArray, hvl]
    k_steps
    rename Fr _ _ _ _ => F₅
    rename News _ _ _ _ => N₅
    rw [num0_val]
    refine store_led F₅ N₅ hcm hcv ?_
    intro h₆ o₆ F₆ N₆ hd₆
    have hcn : ∀ p ∈ nx, p.1 ≠ L' + 1 → p ∈ (L' + 1, o₆) :: off (L' + 1) nx := fun p hp h1 => List.mem_cons_of_mem _ (mem_off.mpr ⟨hp, h1⟩)
    have hT₆ : Tabs ((L' + 1, o₆) :: off (L' + 1) nx) := Tabs.upd N₅ hcm (fun vs e => by rw [hcv] at e; cases e) hc58 hTn
    have hK₆ : Keep news ((L' + 1, o₆) :: off (L' + 1) nx) := fun p hp hl => hcn _ (hkp p hp hl) (hnc p hp)
    have hm₆ : (L' + 1, o₆) ∈ (L' + 1, o₆) :: off (L' + 1) nx := List.mem_cons_self
    generalize (L' + 1, o₆) :: off (L' + 1) nx = nx₆ at N₆ hT₆ hK₆ hm₆
    clear hcn
    dsimp only
    k_steps
    refine Stop.out (wpAny_For ?_)
    k_steps
    rename Fr _ _ _ _ => F₇
    rename News _ _ _ _ => N₇
    refine Stop.out (rng3 F₇ N₇ (by decide) (PyProof.noPylong_small (by omega)) ?_)
    intro r h₈ tk₈ ta tb tc' F₈ N₈ hr
    dsimp only
    k_steps
    refine Stop.out (pyIter_rng F₈ N₈ List.mem_cons_self (down_small hn) ?_)
    intro I2 h₉ F₉ N₉ hI2
    refine for_rng (n := 8 * ns.length) (fun j m nx' => Keep news nx' ∧ Tabs nx' ∧ CellI nx' (L' + 1) (divI (8 * ns.length) (num0 ns) j)) rfl rfl rfl (down_size hn) F₉ N₉ hI2 ⟨hK₆.trans Keep.cons, hT₆.mono KeepT.cons, o₆, _, List.mem_cons_of_mem _ hm₆, hd₆⟩ ?_ ?_
    · rintro j t₇ m₂ ny h tk oI2 hj hoff2 ⟨hkc, hTy, oc2, tc2, hcm2, hcv2⟩ hvol2 F₇ N₇
      have hcm3 := List.mem_cons_of_mem (I2, oI2) hcm2
      k_steps
      · rename Int.fmod _ _ = _ => htest
        refine load_led N₇ hcm3 hcv2 ?_
        k_steps
        rw [div_new hj]
        refine store_led F₇ N₇ hcm3 hcv2 ?_
        intro h₈ o₈ F₈ N₈ hd₈
        obtain ⟨nz, N₉, off₉, k₉, t₉, m₉⟩ := cell_step N₇ N₈ hoff2 hcm2 hcv2 hc58 hTy
        dsimp only
        k_steps
        rw [div_test hj] at htest
        refine TEnd.intro F₈ N₉ off₉ trivial ⟨fun p hp hl => k₉ _ (hkc p hp hl) (hnc p hp), t₉, o₈, _, m₉, hd₈.trans (congrArg Data.cell (int_is ?_))⟩
        rw [divI, divstep, if_pos (by omega)]
      · rename Int.fmod _ _ ≠ _ => htest
        rw [div_test hj] at htest
        refine TEnd.intro F₇ N₇ hoff2 trivial ⟨hkc, hTy, oc2, _, hcm2, hcv2.trans (congrArg Data.cell (int_is ?_))⟩
        rw [divI, divstep, if_neg (by omega)]
    · rintro m₂ ny h tk ⟨hkc, hTy, oc2, tc2, hcm2, hcv2⟩ F₇ N₇
      dsimp only
      generalize hR : divI (8 * ns.length) (num0 ns) (8 * ns.length) = R at hcv2
      k_steps
      refine load_led N₇ hcm2 hcv2 ?_
      k_steps
      rw [show Builtin.bitXor (R : Int) 4294967295 = ((R ^^^ MM : Nat) : Int) from bitXor_nat R 4294967295]
      refine store_led F₇ N₇ hcm2 hcv2 ?_
      intro h₈ o₈ F₈ N₈ hd₈
      have hT₈ : Tabs ((L' + 1, o₈) :: off (L' + 1) ny) := Tabs.upd N₇ hcm2 (fun vs e => by rw [hcv2] at e; cases e) hc58 hTy
      have hK₈ : Keep news ((L' + 1, o₈) :: off (L' + 1) ny) := fun p hp hl => List.mem_cons_of_mem _ (mem_off.mpr ⟨hkc p hp hl, hnc p hp⟩)
      have hm₈ : (L' + 1, o₈) ∈ (L' + 1, o₈) :: off (L' + 1) ny := List.mem_cons_self
      generalize (L' + 1, o₈) :: off (L' + 1) ny = nx₈ at N₈ hT₈ hK₈ hm₈
      dsimp only
      k_steps
      refine Stop.out (rng1 F₈ N₈ ?_)
      intro r h₉ tk₉ ta' tb' tc₃ F₉ N₉ hr9
      dsimp only
      refine LCg.CompSrc.range (n := 32) rfl F₉ N₉ (N₉ _ List.mem_cons_self).1 (by decide) (by rfl) (by decide) ?_
      intro g₁
      refine rest_ind (n := 32) (fun i ys nz => IntsAre ys (toI (revL (R ^^^ MM) i)) ∧ Keep news nz ∧ Tabs nz ∧ (L' + 1, o₈) ∈ nz) ?_ ?_ 32 0 [] _ rfl ⟨.nil, hK₈.trans Keep.cons, hT₈.mono KeepT.cons, List.mem_cons_of_mem _ hm₈⟩
      · rintro i ys nz v I oI C oC D m₃ h tk E' hi ⟨hys, hkz, hTz, hmz⟩ ⟨tz, rfl⟩ hC9 hx9 F₁₁ N₁₁ hoff9 hne9
        have hmz' : (L' + 1, o₈) ∈ (I, oI) :: (C, oC) :: (D, LCg.lst ys) :: nz := List.mem_cons_of_mem _ (List.mem_cons_of_mem _ (List.mem_cons_of_mem _ hmz))
        k_steps
        rw [rev_val hi]
        exact CEnd.intro F₁₁ N₁₁ hoff9 trivial ⟨by rw [revL_succ]; exact IntsAre.append hys (.cons _ _ .nil), hkz, hTz, hmz⟩
      · rintro ys nz ⟨hys, hkz, hTz, hmz⟩
        intro D h₁₀ tk₁₀ F₁₀ N₁₀ hoff
        dsimp only
        k_steps
        rename News h₀ L _ _ => kN
        rename Fr h₀ L _ _ => kF
        exact ret _ _ _ _ kF kN ⟨hkz.trans Keep.cons, hTz.mono KeepT.cons, _, by rw [sum_toI, divided, hR]⟩
end Mine

end

section
namespace Mine
theorem pstep_facts (P : List (List Nat) × List Nat) (x : Int) : (pstep P x).1.length ≤ P.1.length + 1 ∧ (pstep P x).1.flatten.length + (pstep P x).2.length ≤ P.1.flatten.length + P.2.length + 1 ∧
    ((∀ o ∈ P.1.flatten, o < 256) → (∀ o ∈ P.2, o < 256) → (∀ o ∈ (pstep P x).1.flatten, o < 256) ∧ ∀ o ∈ (pstep P x).2, o < 256) := by
  have hm : (x.fmod 256).toNat < 256 := by
    have := Int.fmod_lt_of_pos x (show (0 : Int) < 256 by decide)
    have := Int.fmod_nonneg_of_pos x (show (0 : Int) < 256 by decide)
    omega
  unfold pstep
  simp only
  split <;> split
  · refine ⟨by simp, by simp; try omega, fun h1 h2 => ⟨?_, ?_⟩⟩
    · intro o ho
      simp only [List.flatten_append, List.flatten_cons, List.flatten_nil, List.append_nil, List.mem_append] at ho
      exact ho.elim (h1 o) (h2 o)
    · intro o ho
      simp only [List.nil_append, List.mem_singleton] at ho
      rw [ho]; exact hm
  · refine ⟨by simp, by simp; try omega, fun h1 h2 => ⟨h1, ?_⟩⟩
    intro o ho
    simp only [List.mem_append, List.mem_singleton] at ho
    rcases ho with ho | ho
    · exact h2 o ho
    · rw [ho]; exact hm
  · refine ⟨by simp, by simp; try omega, fun h1 h2 => ⟨?_, ?_⟩⟩
    · intro o ho
      simp only [List.flatten_append, List.flatten_cons, List.flatten_nil, List.append_nil, List.mem_append] at ho
      exact ho.elim (h1 o) (h2 o)
    · intro o ho; simp at ho
  · exact ⟨by omega, by omega, fun h1 h2 => ⟨h1, h2⟩⟩
theorem pfold_facts (xs : List Int) : ∀ (P : List (List Nat) × List Nat), (xs.foldl pstep P).1.length ≤ P.1.length + xs.length ∧ (xs.foldl pstep P).1.flatten.length + (xs.foldl pstep P).2.length ≤ P.1.flatten.length + P.2.length + xs.length ∧
    ((∀ o ∈ P.1.flatten, o < 256) → (∀ o ∈ P.2, o < 256) → (∀ o ∈ (xs.foldl pstep P).1.flatten, o < 256) ∧ ∀ o ∈ (xs.foldl pstep P).2, o < 256) := by
  induction xs with
  | nil => intro P; exact ⟨by simp, by simp, fun a b => ⟨a, b⟩⟩
  | cons x r ih =>
    intro P
    obtain ⟨a, b, c⟩ := ih (pstep P x)
    obtain ⟨a', b', c'⟩ := pstep_facts P x
    simp only [List.foldl_cons, List.length_cons]
    refine ⟨by omega, by omega, fun h1 h2 => ?_⟩
    obtain ⟨g1, g2⟩ := c' h1 h2
    exact c g1 g2
theorem pieces_len {xs : List Int} (h : xs.length ≤ 7) : 1 ≤ (piecesOf xs).length ∧ (piecesOf xs).length ≤ 8 ∧ (piecesOf xs).flatten.length ≤ 7 ∧ ∀ o ∈ (piecesOf xs).flatten, o < 256 := by
  obtain ⟨a, b, c⟩ := pfold_facts xs ([], [])
  obtain ⟨d, e⟩ := c (by simp) (by simp)
  unfold piecesOf
  simp only [List.length_nil, List.flatten_nil] at a b
  refine ⟨by simp, by simp; omega, by simp only [List.flatten_append, List.flatten_cons, List.flatten_nil, List.append_nil, List.length_append]; omega, ?_⟩
  intro o ho
  simp only [List.flatten_append, List.flatten_cons, List.flatten_nil, List.append_nil, List.mem_append] at ho
  exact ho.elim (d o) (e o)
end Mine

end

section
namespace Mine
theorem xor_pp (x y p : Nat) : (x ^^^ p) ^^^ (y ^^^ p) = x ^^^ y := by
  rw [Nat.xor_comm y p, Nat.xor_assoc, ← Nat.xor_assoc p p y, Nat.xor_self, Nat.zero_xor]
theorem xor_cancel (x p : Nat) : (x ^^^ p) ^^^ p = x := by rw [Nat.xor_assoc, Nat.xor_self, Nat.xor_zero]
theorem gstep_xor (a b : Nat) : gstep (a ^^^ b) = gstep a ^^^ gstep b := by
  have h1 : (a ^^^ b) / 2 = a / 2 ^^^ b / 2 := Nat.xor_div_two
  have h2 := @Nat.xor_mod_two_eq_one a b
  unfold gstep
  rw [h1]
  by_cases ha : a % 2 = 1 <;> by_cases hb : b % 2 = 1
  · rw [if_pos ha, if_pos hb, if_neg (by rw [h2]; simp [ha, hb]), xor_pp]
  · rw [if_pos ha, if_neg hb, if_pos (by rw [h2]; simp [ha, hb])]
    rw [Nat.xor_assoc, Nat.xor_comm (b / 2), ← Nat.xor_assoc]
  · rw [if_neg ha, if_pos hb, if_pos (by rw [h2]; simp [ha, hb]), Nat.xor_assoc]
  · rw [if_neg ha, if_neg hb, if_neg (by rw [h2]; simp [ha, hb])]
theorem iter_xor {f : Nat → Nat} (hf : ∀ a b, f (a ^^^ b) = f a ^^^ f b) (n a b : Nat) : iter f n (a ^^^ b) = iter f n a ^^^ iter f n b := by
  induction n with
  | zero => rfl
  | succ n ih => show f (iter f n (a ^^^ b)) = f (iter f n a) ^^^ f (iter f n b); rw [ih, hf]
theorem gen_xor (a b : Nat) : gen (a ^^^ b) = gen a ^^^ gen b := iter_xor gstep_xor 8 a b
theorem iter_out (f : Nat → Nat) (n a : Nat) : iter f n (f a) = f (iter f n a) := by
  induction n with
  | zero => rfl
  | succ n ih => show f (iter f n (f a)) = f (f (iter f n a)); rw [ih]
theorem iter_add (f : Nat → Nat) (n k a : Nat) : iter f (n + k) a = iter f n (iter f k a) := by
  induction n with
  | zero => rw [Nat.zero_add]; rfl
  | succ n ih => rw [Nat.succ_add]; show f (iter f (n + k) a) = f (iter f n (iter f k a)); rw [ih]
theorem crcF_xor (ns : List Nat) : ∀ c d, crcF (c ^^^ d) ns = crcF c ns ^^^ iter gen ns.length d := by
  induction ns with
  | nil => intro c d; rfl
  | cons o r ih =>
    intro c d
    show crcF (gen ((c ^^^ d) ^^^ o)) r = crcF (gen (c ^^^ o)) r ^^^ gen (iter gen r.length d)
    rw [show (c ^^^ d) ^^^ o = (c ^^^ o) ^^^ d by rw [Nat.xor_assoc, Nat.xor_comm d o, ← Nat.xor_assoc], gen_xor, ih, iter_out]
theorem crcF_append (c : Nat) (A B : List Nat) : crcF c (A ++ B) = crcF (crcF c A) B := by unfold crcF; rw [List.foldl_append]
theorem told_append (A B : List Nat) : told (A ++ B) = iter gen B.length (told A) ^^^ told B := by
  unfold told
  rw [crcF_append]
  generalize crcF MM A = c
  have e : c = MM ^^^ (c ^^^ MM) := by rw [Nat.xor_comm, xor_cancel]
  rw [show crcF c B = crcF (MM ^^^ (c ^^^ MM)) B by rw [← e], crcF_xor, Nat.xor_comm (crcF MM B), Nat.xor_assoc]
theorem told_nil : told [] = 0 := by unfold told crcF; exact Nat.xor_self _
theorem iter_gen_zero (n : Nat) : iter gen n 0 = 0 := by
  induction n with
  | zero => rfl
  | succ n ih => show gen (iter gen n 0) = 0; rw [ih]; decide
end Mine

end

section
namespace Mine
abbrev POLY : Nat := 4374732215
def red (y : Nat) : Nat := if y / 2 ^ 32 % 2 = 1 then y ^^^ POLY else y
def numOf (bs : List Nat) : Nat := bs.foldl (fun N b => 2 * N + b) 0
def bits8 (o : Nat) : List Nat := (List.range 8).map fun i => o / 2 ^ i % 2
def bitsL (ns : List Nat) : List Nat := ns.flatMap bits8

theorem xor_mul_pow (a b k : Nat) : (a ^^^ b) * 2 ^ k = a * 2 ^ k ^^^ b * 2 ^ k := by
  rw [← Nat.shiftLeft_eq, ← Nat.shiftLeft_eq, ← Nat.shiftLeft_eq, Nat.shiftLeft_xor_distrib]
theorem and_low {a b k : Nat} (h : a < 2 ^ k) : a &&& (b * 2 ^ k) = 0 := by
  apply Nat.eq_of_testBit_eq
  intro i
  rw [Nat.testBit_and, Nat.zero_testBit]
  by_cases hi : i < k
  · rw [← Nat.shiftLeft_eq, Nat.testBit_shiftLeft]
    simp [Nat.not_le.mpr hi]
  · rw [Nat.testBit_lt_two_pow (Nat.lt_of_lt_of_le h (Nat.pow_le_pow_right (by decide) (Nat.not_lt.mp hi)))]
    rfl
theorem add_low {a b k : Nat} (h : a < 2 ^ k) : a + b * 2 ^ k = a ^^^ (b * 2 ^ k) := by
  have e := xor_and_add (a + 1) a (b * 2 ^ k) (by omega)
  rw [and_low h] at e
  omega
theorem pow_split (a b : Nat) : 2 ^ (a + b) = 2 ^ a * 2 ^ b := Nat.pow_add 2 a b

/-- one step of the division, on the register -/
theorem divstep_reg {y m k : Nat} (hm : m < 2 ^ k) : divstep (y * 2 ^ k ^^^ m * 2 ^ 32) k = red y * 2 ^ k ^^^ m * 2 ^ 32 := by
  have e : (y * 2 ^ k ^^^ m * 2 ^ 32) / 2 ^ (k + 32) = y / 2 ^ 32 := by
    rw [Nat.xor_div_two_pow]
    rw [show y * 2 ^ k / 2 ^ (k + 32) = y / 2 ^ 32 by
      rw [pow_split, Nat.mul_comm (2 ^ k) (2 ^ 32)]; exact Nat.mul_div_mul_right _ _ (Nat.two_pow_pos k)]
    rw [show m * 2 ^ 32 / 2 ^ (k + 32) = 0 by
      apply Nat.div_eq_of_lt; rw [pow_split]; exact (Nat.mul_lt_mul_right (Nat.two_pow_pos 32)).mpr hm]
    exact Nat.xor_zero _
  unfold divstep red
  rw [e]
  by_cases h : y / 2 ^ 32 % 2 = 1
  · rw [if_pos h, if_pos h, xor_mul_pow, Nat.xor_assoc, Nat.xor_comm (m * 2 ^ 32), ← Nat.xor_assoc]
  · rw [if_neg h, if_neg h]
theorem divI_shift (T x i : Nat) : divI (T + 1) x (i + 1) = divI T (divstep x T) i := by
  induction i with
  | zero => show divstep x (T + 1 - 1 - 0) = divstep x T; rfl
  | succ i ih =>
    show divstep (divI (T + 1) x (i + 1)) (T + 1 - 1 - (i + 1)) = divstep (divI T (divstep x T) i) (T - 1 - i)
    rw [ih, show T + 1 - 1 - (i + 1) = T - 1 - i by omega]
theorem numOf_go (bs : List Nat) : ∀ N, bs.foldl (fun N b => 2 * N + b) N = N * 2 ^ bs.length + numOf bs := by
  induction bs with
  | nil => intro N; simp [numOf]
  | cons b r ih =>
    intro N
    unfold numOf
    rw [List.foldl_cons, List.foldl_cons, ih, ih (2 * 0 + b), List.length_cons, Nat.pow_succ, Nat.add_mul, show 2 * 0 + b = b by omega]
    have : 2 * N * 2 ^ r.length = N * (2 ^ r.length * 2) := by rw [Nat.mul_comm 2 N, Nat.mul_assoc, Nat.mul_comm 2 (2 ^ _)]
    omega
theorem numOf_cons (b : Nat) (r : List Nat) : numOf (b :: r) = b * 2 ^ r.length + numOf r := by
  show (b :: r).foldl (fun N b => 2 * N + b) 0 = _
  rw [List.foldl_cons, numOf_go]; simp
theorem numOf_lt (bs : List Nat) (h : ∀ b ∈ bs, b < 2) : numOf bs < 2 ^ bs.length := by
  induction bs with
  | nil => simp [numOf]
  | cons b r ih =>
    rw [numOf_cons, List.length_cons, Nat.pow_succ]
    have h1 := ih fun c hc => h c (List.mem_cons_of_mem _ hc)
    have h2 := h b List.mem_cons_self
    have : b * 2 ^ r.length ≤ 1 * 2 ^ r.length := Nat.mul_le_mul_right _ (by omega)
    omega
def regF (R : Nat) (bs : List Nat) : Nat := bs.foldl (fun R b => red (2 * R ^^^ b * 2 ^ 32)) R
theorem div_reg (bs : List Nat) (h : ∀ b ∈ bs, b < 2) : ∀ R, divI bs.length (R * 2 ^ bs.length ^^^ numOf bs * 2 ^ 32) bs.length = regF R bs := by
  induction bs with
  | nil => intro R; simp [divI, regF, numOf]
  | cons b r ih =>
    intro R
    rw [List.length_cons, divI_shift]
    have hm := numOf_lt r fun c hc => h c (List.mem_cons_of_mem _ hc)
    have e : R * 2 ^ (r.length + 1) ^^^ numOf (b :: r) * 2 ^ 32 = (2 * R ^^^ b * 2 ^ 32) * 2 ^ r.length ^^^ numOf r * 2 ^ 32 := by
      rw [numOf_cons, Nat.add_comm (b * 2 ^ r.length), add_low hm, xor_mul_pow, xor_mul_pow, Nat.xor_comm (numOf r * 2 ^ 32), ← Nat.xor_assoc]
      congr 1
      rw [show R * 2 ^ (r.length + 1) = 2 * R * 2 ^ r.length by rw [Nat.pow_succ, Nat.mul_comm 2 R, Nat.mul_assoc, Nat.mul_comm (2 ^ _) 2],
        show b * 2 ^ r.length * 2 ^ 32 = b * 2 ^ 32 * 2 ^ r.length by rw [Nat.mul_assoc, Nat.mul_assoc, Nat.mul_comm (2 ^ r.length)]]
    rw [e, divstep_reg hm, ih fun c hc => h c (List.mem_cons_of_mem _ hc)]
    rfl

/-! the register, read from behind -/
def rv : Nat → Nat → Nat
  | 0, _ => 0
  | n + 1, x => 2 * rv n x + x / 2 ^ n % 2
theorem rev_sum (x : Nat) : ∀ n, n ≤ 32 → (revL x n).sum = rv n x * 2 ^ (32 - n) := by
  intro n
  induction n with
  | zero => intro _; simp [revL, rv]
  | succ n ih =>
    intro h
    have e : revL x (n + 1) = revL x n ++ [revT x n] := by unfold revL; rw [List.range_succ]; simp
    rw [e, List.sum_append, ih (by omega)]
    simp only [List.sum_cons, List.sum_nil, Nat.add_zero]
    unfold revT
    show rv n x * 2 ^ (32 - n) + _ = (2 * rv n x + x / 2 ^ n % 2) * 2 ^ (32 - (n + 1))
    rw [show 32 - n = (31 - n) + 1 by omega, show 32 - (n + 1) = 31 - n by omega, Nat.pow_succ, Nat.add_mul]
    have : rv n x * (2 ^ (31 - n) * 2) = 2 * rv n x * 2 ^ (31 - n) := by rw [Nat.mul_comm 2 (rv n x), Nat.mul_assoc, Nat.mul_comm 2]
    omega
theorem two_xor {a b p q : Nat} (hp : p < 2) (hq : q < 2) : (2 * a + p) ^^^ (2 * b + q) = 2 * (a ^^^ b) + (p ^^^ q) := by
  have h1 : ((2 * a + p) ^^^ (2 * b + q)) / 2 = (2 * a + p) / 2 ^^^ (2 * b + q) / 2 := Nat.xor_div_two
  have h2 := @Nat.xor_mod_two_eq_one (2 * a + p) (2 * b + q)
  rw [show (2 * a + p) / 2 = a by omega, show (2 * b + q) / 2 = b by omega] at h1
  have hpq : p ^^^ q = (p + q) % 2 := by
    have : (p = 0 ∨ p = 1) ∧ (q = 0 ∨ q = 1) := by omega
    obtain ⟨rfl | rfl, rfl | rfl⟩ := this <;> rfl
  rw [hpq]
  omega
theorem bit_xor (x y n : Nat) : (x ^^^ y) / 2 ^ n % 2 = (x / 2 ^ n % 2) ^^^ (y / 2 ^ n % 2) := by
  rw [Nat.xor_div_two_pow]
  generalize x / 2 ^ n = a
  generalize y / 2 ^ n = b
  have := @Nat.xor_mod_two_pow a b 1
  simpa using this
theorem rv_xor (n x y : Nat) : rv n (x ^^^ y) = rv n x ^^^ rv n y := by
  induction n with
  | zero => simp [rv]
  | succ n ih =>
    show 2 * rv n (x ^^^ y) + (x ^^^ y) / 2 ^ n % 2 = (2 * rv n x + x / 2 ^ n % 2) ^^^ (2 * rv n y + y / 2 ^ n % 2)
    rw [two_xor (Nat.mod_lt _ (by decide)) (Nat.mod_lt _ (by decide)), ih, bit_xor]
theorem rv_double (n R : Nat) : rv (n + 1) (2 * R) = rv n R := by
  induction n with
  | zero => show 2 * 0 + 2 * R / 2 ^ 0 % 2 = 0; simp
  | succ n ih =>
    show 2 * rv (n + 1) (2 * R) + 2 * R / 2 ^ (n + 1) % 2 = 2 * rv n R + R / 2 ^ n % 2
    rw [ih, show 2 * R / 2 ^ (n + 1) = R / 2 ^ n by rw [Nat.pow_succ, Nat.mul_comm 2 R]; exact Nat.mul_div_mul_right _ _ (by decide)]
theorem rv_high (n b : Nat) (h : n ≤ 32) : rv n (b * 2 ^ 32) = 0 := by
  induction n with
  | zero => rfl
  | succ n ih =>
    show 2 * rv n (b * 2 ^ 32) + b * 2 ^ 32 / 2 ^ n % 2 = 0
    rw [ih (by omega), show (2 : Nat) ^ 32 = 2 ^ (31 - n) * 2 * 2 ^ n by rw [Nat.mul_assoc, Nat.mul_comm 2, ← Nat.pow_succ, ← Nat.pow_add]; congr 1; omega]
    rw [← Nat.mul_assoc, Nat.mul_div_cancel _ (Nat.two_pow_pos n), ← Nat.mul_assoc]
    omega
theorem rv_poly : rv 32 POLY = 3988292384 := by decide +kernel
theorem rv_MM : rv 32 MM = MM := by decide +kernel
theorem red_rv {R b : Nat} (hR : R < 2 ^ 32) (hb : b < 2) : rv 32 (red (2 * R ^^^ b * 2 ^ 32)) = gstep (rv 32 R ^^^ b) := by
  have e1 : rv 32 (2 * R ^^^ b * 2 ^ 32) = rv 31 R := by rw [rv_xor, rv_high _ _ (Nat.le_refl _), Nat.xor_zero, rv_double]
  have e2 : rv 32 R = 2 * rv 31 R + R / 2 ^ 31 % 2 := rfl
  have e3 : (2 * R ^^^ b * 2 ^ 32) / 2 ^ 32 = R / 2 ^ 31 ^^^ b := by
    rw [Nat.xor_div_two_pow, Nat.mul_div_cancel _ (Nat.two_pow_pos 32)]
    congr 1
    rw [show (2 : Nat) ^ 32 = 2 * 2 ^ 31 from rfl]
    exact Nat.mul_div_mul_left _ _ (by decide)
  have hr : R / 2 ^ 31 < 2 := by omega
  have e4 : (rv 32 R ^^^ b) = 2 * rv 31 R + (R / 2 ^ 31 ^^^ b) := by
    rw [e2, Nat.mod_eq_of_lt hr]
    have := two_xor (a := rv 31 R) (b := 0) hr hb
    simpa using this
  have hx : R / 2 ^ 31 ^^^ b < 2 := Nat.xor_lt_two_pow (n := 1) hr hb
  unfold red gstep
  rw [e3, e4]
  generalize R / 2 ^ 31 ^^^ b = c at hx
  by_cases hc : c = 1
  · rw [if_pos (by omega), if_pos (by omega), rv_xor, e1, rv_poly, show (2 * rv 31 R + c) / 2 = rv 31 R by omega]
  · rw [if_neg (by omega), if_neg (by omega), e1, show (2 * rv 31 R + c) / 2 = rv 31 R by omega]
theorem red_lt {R b : Nat} (hR : R < 2 ^ 32) (hb : b < 2) : red (2 * R ^^^ b * 2 ^ 32) < 2 ^ 32 := by
  have h33 : 2 * R ^^^ b * 2 ^ 32 < 2 ^ 33 := Nat.xor_lt_two_pow (by omega) (by omega)
  generalize 2 * R ^^^ b * 2 ^ 32 = y at h33
  unfold red
  split
  · rename_i h
    have h34 : y ^^^ POLY < 2 ^ 33 := Nat.xor_lt_two_pow h33 (by decide)
    have e : (y ^^^ POLY) / 2 ^ 32 = y / 2 ^ 32 ^^^ 1 := by rw [Nat.xor_div_two_pow]; rfl
    have e2 : y / 2 ^ 32 = 1 := by omega
    rw [e2] at e
    have e3 : (y ^^^ POLY) / 2 ^ 32 = 0 := e
    omega
  · omega
def gF (S : Nat) (bs : List Nat) : Nat := bs.foldl (fun S b => gstep (S ^^^ b)) S
theorem reg_rv (bs : List Nat) (h : ∀ b ∈ bs, b < 2) : ∀ R, R < 2 ^ 32 → rv 32 (regF R bs) = gF (rv 32 R) bs := by
  induction bs with
  | nil => intro R _; rfl
  | cons b r ih =>
    intro R hR
    have hb := h b List.mem_cons_self
    show rv 32 (regF (red (2 * R ^^^ b * 2 ^ 32)) r) = gF (gstep (rv 32 R ^^^ b)) r
    rw [ih (fun c hc => h c (List.mem_cons_of_mem _ hc)) _ (red_lt hR hb), red_rv hR hb]

/-! an octet is eight bits -/
theorem gstep_pow (k : Nat) : gstep (2 ^ (k + 1)) = 2 ^ k := by
  unfold gstep
  rw [Nat.pow_succ, if_neg (by omega)]; omega
theorem iter_pow (k : Nat) : iter gstep k (2 ^ k) = 1 := by
  induction k with
  | zero => rfl
  | succ k ih =>
    show gstep (iter gstep k (2 ^ (k + 1))) = 1
    rw [← iter_out gstep k, gstep_pow, ih]
theorem iter_gstep_zero (k : Nat) : iter gstep k 0 = 0 := by
  induction k with
  | zero => rfl
  | succ k ih => show gstep (iter gstep k 0) = 0; rw [ih]; decide
theorem oct_bits (S o : Nat) : ∀ k, gF S ((List.range k).map fun i => o / 2 ^ i % 2) = iter gstep k (S ^^^ (o % 2 ^ k)) := by
  intro k
  induction k with
  | zero => simp [gF, iter, Nat.mod_one]
  | succ k ih =>
    rw [List.range_succ, List.map_append]
    unfold gF at ih ⊢
    rw [List.foldl_append, ih]
    show gstep (iter gstep k (S ^^^ o % 2 ^ k) ^^^ o / 2 ^ k % 2) = gstep (iter gstep k (S ^^^ o % 2 ^ (k + 1)))
    have e : o % 2 ^ (k + 1) = o % 2 ^ k ^^^ (o / 2 ^ k % 2) * 2 ^ k := by
      rw [← add_low (Nat.mod_lt _ (Nat.two_pow_pos k)), Nat.mod_pow_succ, Nat.mul_comm]
    rw [e, ← Nat.xor_assoc, iter_xor gstep_xor k (S ^^^ o % 2 ^ k)]
    congr 2
    have hb : o / 2 ^ k % 2 = 0 ∨ o / 2 ^ k % 2 = 1 := by omega
    rcases hb with hb | hb
    · rw [hb, Nat.zero_mul, iter_gstep_zero]
    · rw [hb, Nat.one_mul, iter_pow]
theorem gF_append (S : Nat) (a b : List Nat) : gF S (a ++ b) = gF (gF S a) b := by unfold gF; rw [List.foldl_append]
theorem crc_bits (ns : List Nat) (h : ∀ o ∈ ns, o < 256) : ∀ c, crcF c ns = gF c (bitsL ns) := by
  induction ns with
  | nil => intro c; rfl
  | cons o r ih =>
    intro c
    show crcF (gen (c ^^^ o)) r = gF c (bits8 o ++ bitsL r)
    rw [gF_append, ← ih fun x hx => h x (List.mem_cons_of_mem _ hx)]
    congr 1
    unfold bits8
    rw [oct_bits, Nat.mod_eq_of_lt (h o List.mem_cons_self)]
    rfl
theorem bits_lt (ns : List Nat) : ∀ b ∈ bitsL ns, b < 2 := by
  intro b hb
  obtain ⟨o, _, hb⟩ := List.mem_flatMap.mp hb
  obtain ⟨i, _, rfl⟩ := List.mem_map.mp hb
  exact Nat.mod_lt _ (by decide)
theorem bits_len (ns : List Nat) : (bitsL ns).length = 8 * ns.length := by
  induction ns with
  | nil => rfl
  | cons o r ih =>
    show (bits8 o ++ bitsL r).length = _
    rw [List.length_append, ih, List.length_cons]
    simp [bits8]; omega
theorem bitK_num (N o : Nat) : ∀ k, bitK N o k = ((List.range k).map fun i => o / 2 ^ i % 2).foldl (fun N b => 2 * N + b) N := by
  intro k
  induction k with
  | zero => rfl
  | succ k ih =>
    rw [List.range_succ, List.map_append, List.foldl_append, ← ih]; rfl
theorem bitsN_num (ns : List Nat) : bitsN ns = numOf (bitsL ns) := by
  have go : ∀ (ns : List Nat) (N : Nat), ns.foldl (fun N o => bitK N o 8) N = (bitsL ns).foldl (fun N b => 2 * N + b) N := by
    intro ns
    induction ns with
    | nil => intro N; rfl
    | cons o r ih =>
      intro N
      show r.foldl (fun N o => bitK N o 8) (bitK N o 8) = (bits8 o ++ bitsL r).foldl (fun N b => 2 * N + b) N
      rw [List.foldl_append, ih, bitK_num]; rfl
  exact go ns 0
theorem divided_told (ns : List Nat) (h : ∀ o ∈ ns, o < 256) : divided ns = told ns := by
  unfold divided told
  rw [rev_sum _ 32 (Nat.le_refl _), rv_xor, rv_MM]
  have e : num0 ns = MM * 2 ^ (bitsL ns).length ^^^ numOf (bitsL ns) * 2 ^ 32 := by
    unfold num0
    rw [bitsN_num, bits_len, Nat.xor_comm]
  rw [e, ← bits_len ns, div_reg _ (bits_lt ns), reg_rv _ (bits_lt ns) _ (by decide), rv_MM, crc_bits ns h]
  simp
end Mine

end

section
open PySem PySem.W PyProof.Rows
set_option maxRecDepth 100000
set_option maxHeartbeats 4000000
namespace Mine
/-- the text of law, and its names: read off the written part -/
def lawFd : Option (List Stmt × Scope) := match PySem.Challenge.pw_mq0060_01.main.body.getLast? with
  | some (.FunctionDef _ _ b _ _ _ sc _ _ _) => some (b, sc)
  | _ => none
def lawStmts : List Stmt := match lawFd with | some p => p.1 | none => []
def lawScope : Scope := match lawFd with | some p => p.2 | none => default
def lawEnv (L fa : Addr) : Env := envOfC (Str.ofString "law") lawScope L fa (.ref 60)
def toldP (ns : List Nat) : Nat × Nat := (told ns, ns.length)
def AllT (nx : Led) : List Value → List (Nat × Nat) → Prop
  | [], [] => True
  | v :: vs, c :: r => Tup2 nx v c.1 c.2 ∧ AllT nx vs r
  | _, _ => False
theorem AllT.mono {a b : Led} (k : KeepS a b) : ∀ {vs : List Value} {cs : List (Nat × Nat)}, AllT a vs cs → AllT b vs cs
  | [], [], _ => trivial
  | _ :: _, _ :: _, h => ⟨h.1.mono k, AllT.mono k h.2⟩
theorem AllT.snoc {a : Led} {v : Value} {c : Nat × Nat} : ∀ {vs : List Value} {cs : List (Nat × Nat)}, AllT a vs cs → Tup2 a v c.1 c.2 → AllT a (vs ++ [v]) (cs ++ [c])
  | [], [], _, h => ⟨h, trivial⟩
  | _ :: _, _ :: _, q, h => ⟨q.1, AllT.snoc q.2 h⟩
theorem AllLL.get {nx : Led} : ∀ {vs : List Value} {pss : List (List Nat)} {i : Nat} {v : Value}, AllLL nx vs pss → vs[i]? = some v → ∃ ns, pss[i]? = some ns ∧ IntsL nx v (toI ns)
  | _ :: _, ns :: _, 0, v, h, e => ⟨ns, rfl, by cases e; exact h.1⟩
  | _ :: vs, _ :: r, i + 1, v, h, e => AllLL.get (vs := vs) (pss := r) (i := i) h.2 e
  | [], [], _, _, _, e => by simp at e
theorem AllLL.length {nx : Led} : ∀ {vs : List Value} {pss : List (List Nat)}, AllLL nx vs pss → vs.length = pss.length
  | [], [], _ => rfl
  | _ :: _, _ :: _, h => by rw [List.length_cons, List.length_cons, AllLL.length h.2]
theorem AllLL.mono {a b : Led} (k : KeepS a b) : ∀ {vs : List Value} {pss : List (List Nat)}, AllLL a vs pss → AllLL b vs pss
  | [], [], _ => trivial
  | _ :: _, _ :: _, h => ⟨h.1.mono k, AllLL.mono k h.2⟩
/-- a cell, and what it holds -/
def CellV (nx : Led) (c : Addr) (v : Option Value) : Prop := ∃ o, (c, o) ∈ nx ∧ o.data = .cell v
theorem CellV.mono {a b : Led} {c : Addr} {v : Option Value} (hc : Hi c) (k : KeepS a b) (h : CellV a c v) : CellV b c v := by
  obtain ⟨o, h1, h2⟩ := h
  exact ⟨o, k _ h1 hc (solid_cell h2), h2⟩

/-- what stands while law runs, from `made = {}` on -/
structure LS (L d D ap : Addr) (ys vsp : List Value) (kp : Nat) (pss : List (List Nat)) (nx : Led) : Prop where
  tabs : Tabs nx
  cM : CellV nx (L + 1) (some (.ref d))
  cI : ∃ v, CellV nx (L + 1 + 1) v
  cJ : ∃ v, CellV nx (L + 1 + 1 + 1) v
  cW : ∃ v, CellV nx (L + 1 + 1 + 1 + 1) v
  pr : (D, LCg.lst ys) ∈ nx
  at' : AllT nx ys (pss.map toldP)
  pc : (ap, listOf vsp.toArray kp) ∈ nx
  al : AllLL nx vsp pss
end Mine

end

section
open PySem PySem.W PyProof.Rows PySem.Spec
set_option maxRecDepth 100000
set_option maxHeartbeats 4000000
namespace Mine
section
variable {prog : Program} {w : World} {A : Around} {E : Value → Shared → Prop} {s : Shared} {h₀ : Heap} {L : Addr} {news : Led} {Q : Value → Shared → Prop}
theorem tup_reads {v : Value} {c n : Nat} (N : News h₀ L s.heap news) (h : Tup2 news v c n) : Reads s.heap v (.tuple [.int (c : Nat), .int (n : Nat)]) [] := by
  obtain ⟨a, t, u, k, rfl, _, hm⟩ := h
  exact reads_tuple_at (N _ hm).1 rfl rfl (ReadsAll.cons (Reads.int _ _) (ReadsAll.cons (Reads.int _ _) ReadsAll.nil))
theorem eqv_self (c n : Nat) : PyData.eqv (.tuple [.int (c : Nat), .int (n : Nat)]) (.tuple [.int (c : Nat), .int (n : Nat)]) = true := by
  simp [PyData.eqv, PyData.eqvAll]
theorem ne_tup {v u : Value} {c n : Nat} (N : News h₀ L s.heap news) (h1 : Tup2 news v c n) (h2 : Tup2 news u c n) (hu : A.units + 64 < cLine) (h : Q (.bool false) s) : wpAny (model prog w) A (compareOp .NotEq v u) Q E s :=
  ne_dataH (tup_reads N h1) (tup_reads N h2) rfl rfl hu (by rw [eqv_self]; exact h)
theorem eq_tup {v u : Value} {c n : Nat} (N : News h₀ L s.heap news) (h1 : Tup2 news v c n) (h2 : Tup2 news u c n) (hu : A.units + 64 < cLine) (h : Q (.bool true) s) : wpAny (model prog w) A (compareOp .Eq v u) Q E s :=
  eq_dataH (tup_reads N h1) (tup_reads N h2) rfl rfl hu (by rw [eqv_self]; exact h)
end
/-- what is a sequence stays -/
def KeepQ (old new : Led) : Prop := ∀ p ∈ old, Hi p.1 → (∃ vs k, p.2.data = .seq vs k) → p ∈ new
theorem KeepS.q {a b : Led} (h : KeepS a b) : KeepQ a b := fun p hp h1 ⟨_, _, e⟩ => h p hp h1 (solid_seq e)
theorem Tup2.monoQ {a b : Led} {v : Value} {c n : Nat} (k : KeepQ a b) (h : Tup2 a v c n) : Tup2 b v c n := by
  obtain ⟨x, t, u, q, e, hl, hm⟩ := h
  exact ⟨x, t, u, q, e, hl, k _ hm hl ⟨_, _, rfl⟩⟩
theorem IntsL.monoQ {a b : Led} {v : Value} {ns : List Int} (k : KeepQ a b) (h : IntsL a v ns) : IntsL b v ns := by
  obtain ⟨x, vs, q, e, hl, hm, hi⟩ := h
  exact ⟨x, vs, q, e, hl, k _ hm hl ⟨_, _, rfl⟩, hi⟩
theorem AllT.monoQ {a b : Led} (k : KeepQ a b) : ∀ {vs : List Value} {cs : List (Nat × Nat)}, AllT a vs cs → AllT b vs cs
  | [], [], _ => trivial
  | _ :: _, _ :: _, h => ⟨h.1.monoQ k, AllT.monoQ k h.2⟩
theorem AllLL.monoQ {a b : Led} (k : KeepQ a b) : ∀ {vs : List Value} {pss : List (List Nat)}, AllLL a vs pss → AllLL b vs pss
  | [], [], _ => trivial
  | _ :: _, _ :: _, h => ⟨h.1.monoQ k, AllLL.monoQ k h.2⟩
theorem AllT.get {nx : Led} : ∀ {vs : List Value} {cs : List (Nat × Nat)} {i : Nat} {v : Value}, AllT nx vs cs → vs[i]? = some v → ∃ c, cs[i]? = some c ∧ Tup2 nx v c.1 c.2
  | _ :: _, c :: _, 0, v, h, e => ⟨c, rfl, by cases e; exact h.1⟩
  | _ :: vs, _ :: r, i + 1, v, h, e => AllT.get (vs := vs) (cs := r) (i := i) h.2 e
  | [], [], _, _, _, e => by simp at e
theorem AllT.length {nx : Led} : ∀ {vs : List Value} {cs : List (Nat × Nat)}, AllT nx vs cs → vs.length = cs.length
  | [], [], _ => rfl
  | _ :: _, _ :: _, h => by rw [List.length_cons, List.length_cons, AllT.length h.2]
/-- an entry that is no sequence turned -/
theorem upd_keepQ {h₀ h : Heap} {L c : Addr} {nx : Led} {o o' : Obj} (N : News h₀ L h nx) (hm : (c, o) ∈ nx) (hd : ∀ vs k, o.data ≠ .seq vs k) : KeepQ nx ((c, o') :: off c nx) := by
  rintro ⟨a, q⟩ hp _ ⟨vs, k, e⟩
  refine List.mem_cons_of_mem _ (mem_off.mpr ⟨hp, ?_⟩)
  rintro rfl
  exact hd vs k ((News.same N hp hm) ▸ e)

/-- the pieces a .. b, put together -/
def seg (pss : List (List Nat)) (a b : Nat) : List Nat := ((pss.drop a).take (b + 1 - a)).flatten
/-- what made holds -/
def MadeInv (pss : List (List Nat)) (nx : Led) (kvs : List (Int × Value)) (size i : Nat) : Prop :=
  ∀ a b, a ≤ b → b < pss.length → (b + 1 - a < size ∨ (b + 1 - a = size ∧ a < i)) → ∃ v, valueAt kvs ((a * 32 + b : Nat) : Int) = some v ∧ Tup2 nx v (told (seg pss a b)) (seg pss a b).length
theorem MadeInv.monoQ {pss : List (List Nat)} {a b : Led} {kvs : List (Int × Value)} {size i : Nat} (k : KeepQ a b) (h : MadeInv pss a kvs size i) : MadeInv pss b kvs size i := by
  intro x y h1 h2 h3
  obtain ⟨v, e, t⟩ := h x y h1 h2 h3
  exact ⟨v, e, t.monoQ k⟩
theorem MadeInv.le {pss : List (List Nat)} {nx : Led} {kvs : List (Int × Value)} {size i size' i' : Nat} (h : MadeInv pss nx kvs size i)
    (q : ∀ a b, a ≤ b → b < pss.length → (b + 1 - a < size' ∨ (b + 1 - a = size' ∧ a < i')) → (b + 1 - a < size ∨ (b + 1 - a = size ∧ a < i))) : MadeInv pss nx kvs size' i' :=
  fun a b h1 h2 h3 => h a b h1 h2 (q a b h1 h2 h3)

structure HiA (L d D ap : Addr) : Prop where
  h1 : Hi (L + 1)
  h2 : Hi (L + 1 + 1)
  h3 : Hi (L + 1 + 1 + 1)
  h4 : Hi (L + 1 + 1 + 1 + 1)
  hd : Hi d
  hD : Hi D
  ha : Hi ap
/-- what stands while law runs, from `made = {}` on -/
structure LX (w : World) (L d D ap : Addr) (ys vsp : List Value) (kp : Nat) (pss : List (List Nat)) (vi vj vw : Option Value) (kvs : List (Int × Value)) (od : Obj) (nx : Led) : Prop where
  hi : HiA L d D ap
  tabs : Tabs nx
  cM : CellV nx (L + 1) (some (.ref d))
  cI : CellV nx (L + 1 + 1) vi
  cJ : CellV nx (L + 1 + 1 + 1) vj
  cW : CellV nx (L + 1 + 1 + 1 + 1) vw
  pr : (D, LCg.lst ys) ∈ nx
  at' : AllT nx ys (pss.map toldP)
  pc : (ap, listOf vsp.toArray kp) ∈ nx
  al : AllLL nx vsp pss
  dm : (d, od) ∈ nx
  dd : od.IsDictOf (intKind PR w) kvs
section
variable {w : World} {L d D ap : Addr} {ys vsp : List Value} {kp : Nat} {pss : List (List Nat)} {vi vj vw : Option Value} {kvs : List (Int × Value)} {od : Obj} {nx ny : Led} {h₀ h : Heap}
theorem CellV.keep {a b : Led} {c : Addr} {v : Option Value} (hc : Hi c) (k : Keep a b) (h : CellV a c v) : CellV b c v := h.mono hc k.s
theorem LX.keep (x : LX w L d D ap ys vsp kp pss vi vj vw kvs od nx) (k : Keep nx ny) (t : Tabs ny) : LX w L d D ap ys vsp kp pss vi vj vw kvs od ny :=
  ⟨x.hi, t, x.cM.keep x.hi.h1 k, x.cI.keep x.hi.h2 k, x.cJ.keep x.hi.h3 k, x.cW.keep x.hi.h4 k, k _ x.pr x.hi.hD, x.at'.mono k.s, k _ x.pc x.hi.ha, x.al.mono k.s, k _ x.dm x.hi.hd, x.dd⟩
theorem LX.cons {q : Addr × Obj} (x : LX w L d D ap ys vsp kp pss vi vj vw kvs od nx) : LX w L d D ap ys vsp kp pss vi vj vw kvs od (q :: nx) := x.keep Keep.cons (x.tabs.mono KeepT.cons)
theorem LX.offI {I : Addr} {oI : Obj} (x : LX w L d D ap ys vsp kp pss vi vj vw kvs od nx) (N : News h₀ L h nx) (hI : (I, oI) ∈ nx) (hv : Vola oI) (hh : Hi I) (hne : d ≠ I) : LX w L d D ap ys vsp kp pss vi vj vw kvs od (off I nx) :=
  have k := off_keepT N hI hv hh
  ⟨x.hi, x.tabs.mono k, x.cM.mono x.hi.h1 k.s, x.cI.mono x.hi.h2 k.s, x.cJ.mono x.hi.h3 k.s, x.cW.mono x.hi.h4 k.s, k.s _ x.pr x.hi.hD (solid_seq rfl), x.at'.mono k.s, k.s _ x.pc x.hi.ha (solid_seq rfl), x.al.mono k.s, mem_off.mpr ⟨x.dm, hne⟩, x.dd⟩
theorem CellV.other {c c' : Addr} {o' : Obj} {v : Option Value} (x : CellV nx c v) (hne : c ≠ c') : CellV ((c', o') :: off c' nx) c v := by
  obtain ⟨o, h1, h2⟩ := x
  exact ⟨o, List.mem_cons_of_mem _ (mem_off.mpr ⟨h1, hne⟩), h2⟩
theorem dict_ne {c : Addr} {o : Obj} {v : Option Value} (N : News h₀ L h nx) (dm : (d, od) ∈ nx) (dd : od.IsDictOf (intKind PR w) kvs) (hm : (c, o) ∈ nx) (hd : o.data = .cell v) : d ≠ c := by
  rintro rfl
  have e := News.same N dm hm
  obtain ⟨_, _, _, e1, _⟩ := dd
  rw [e, hd] at e1; cases e1
theorem seq_ne {a c : Addr} {o q : Obj} {vs : Array Value} {k : Nat} (N : News h₀ L h nx) (hm : (c, o) ∈ nx) (hd : ∀ vs k, o.data ≠ .seq vs k) (hq : (a, q) ∈ nx) (e : q.data = .seq vs k) : a ≠ c := by
  rintro rfl
  exact hd vs k ((News.same N hq hm) ▸ e)
theorem LX.setI {o o' : Obj} {v₀ v : Option Value} (x : LX w L d D ap ys vsp kp pss vi vj vw kvs od nx) (N : News h₀ L h nx) (hm : (L + 1 + 1, o) ∈ nx) (hd : o.data = .cell v₀) (hd' : o'.data = .cell v) : LX w L d D ap ys vsp kp pss v vj vw kvs od ((L + 1 + 1, o') :: off (L + 1 + 1) nx) :=
  have q := upd_keepQ (o' := o') N hm (fun vs k e => by rw [hd] at e; cases e)
  ⟨x.hi, Tabs.upd N hm (fun vs e => by rw [hd] at e; cases e) x.hi.h2 x.tabs, x.cM.other (Nat.ne_of_lt (Nat.lt_succ_self _)), ⟨_, List.mem_cons_self, hd'⟩, x.cJ.other (Nat.ne_of_gt (Nat.lt_succ_self _)), x.cW.other (Nat.ne_of_gt (Nat.lt_succ_of_lt (Nat.lt_succ_self _))),
   q _ x.pr x.hi.hD ⟨_, _, rfl⟩, x.at'.monoQ q, q _ x.pc x.hi.ha ⟨_, _, rfl⟩, x.al.monoQ q, List.mem_cons_of_mem _ (mem_off.mpr ⟨x.dm, dict_ne N x.dm x.dd hm hd⟩), x.dd⟩
theorem LX.setJ {o o' : Obj} {v₀ v : Option Value} (x : LX w L d D ap ys vsp kp pss vi vj vw kvs od nx) (N : News h₀ L h nx) (hm : (L + 1 + 1 + 1, o) ∈ nx) (hd : o.data = .cell v₀) (hd' : o'.data = .cell v) : LX w L d D ap ys vsp kp pss vi v vw kvs od ((L + 1 + 1 + 1, o') :: off (L + 1 + 1 + 1) nx) :=
  have q := upd_keepQ (o' := o') N hm (fun vs k e => by rw [hd] at e; cases e)
  ⟨x.hi, Tabs.upd N hm (fun vs e => by rw [hd] at e; cases e) x.hi.h3 x.tabs, x.cM.other (Nat.ne_of_lt (Nat.lt_succ_of_lt (Nat.lt_succ_self _))), x.cI.other (Nat.ne_of_lt (Nat.lt_succ_self _)), ⟨_, List.mem_cons_self, hd'⟩, x.cW.other (Nat.ne_of_gt (Nat.lt_succ_self _)),
   q _ x.pr x.hi.hD ⟨_, _, rfl⟩, x.at'.monoQ q, q _ x.pc x.hi.ha ⟨_, _, rfl⟩, x.al.monoQ q, List.mem_cons_of_mem _ (mem_off.mpr ⟨x.dm, dict_ne N x.dm x.dd hm hd⟩), x.dd⟩
theorem LX.setW {o o' : Obj} {v₀ v : Option Value} (x : LX w L d D ap ys vsp kp pss vi vj vw kvs od nx) (N : News h₀ L h nx) (hm : (L + 1 + 1 + 1 + 1, o) ∈ nx) (hd : o.data = .cell v₀) (hd' : o'.data = .cell v) : LX w L d D ap ys vsp kp pss vi vj v kvs od ((L + 1 + 1 + 1 + 1, o') :: off (L + 1 + 1 + 1 + 1) nx) :=
  have q := upd_keepQ (o' := o') N hm (fun vs k e => by rw [hd] at e; cases e)
  ⟨x.hi, Tabs.upd N hm (fun vs e => by rw [hd] at e; cases e) x.hi.h4 x.tabs, x.cM.other (Nat.ne_of_lt (Nat.lt_succ_of_lt (Nat.lt_succ_of_lt (Nat.lt_succ_self _)))), x.cI.other (Nat.ne_of_lt (Nat.lt_succ_of_lt (Nat.lt_succ_self _))), x.cJ.other (Nat.ne_of_lt (Nat.lt_succ_self _)), ⟨_, List.mem_cons_self, hd'⟩,
   q _ x.pr x.hi.hD ⟨_, _, rfl⟩, x.at'.monoQ q, q _ x.pc x.hi.ha ⟨_, _, rfl⟩, x.al.monoQ q, List.mem_cons_of_mem _ (mem_off.mpr ⟨x.dm, dict_ne N x.dm x.dd hm hd⟩), x.dd⟩
theorem dict_data (dd : od.IsDictOf (intKind PR w) kvs) : ∃ es ep, od.data = .dict es ep := by
  obtain ⟨_, _, _, e1, _⟩ := dd
  exact ⟨_, _, e1⟩
theorem LX.setD {o' : Obj} {kvs' : List (Int × Value)} (x : LX w L d D ap ys vsp kp pss vi vj vw kvs od nx) (N : News h₀ L h nx) (hd' : o'.IsDictOf (intKind PR w) kvs') : LX w L d D ap ys vsp kp pss vi vj vw kvs' o' ((d, o') :: off d nx) ∧ KeepQ nx ((d, o') :: off d nx) := by
  obtain ⟨es, ep, e⟩ := dict_data x.dd
  have q := upd_keepQ (o' := o') N x.dm (fun vs k e' => by rw [e] at e'; cases e')
  have ne : ∀ {c v}, CellV nx c v → CellV ((d, o') :: off d nx) c v := fun {c v} y => by
    obtain ⟨o, h1, h2⟩ := id y
    exact y.other (dict_ne N x.dm x.dd h1 h2).symm
  exact ⟨⟨x.hi, Tabs.upd N x.dm (fun vs e' => by rw [e] at e'; cases e') x.hi.hd x.tabs, ne x.cM, ne x.cI, ne x.cJ, ne x.cW, q _ x.pr x.hi.hD ⟨_, _, rfl⟩, x.at'.monoQ q, q _ x.pc x.hi.ha ⟨_, _, rfl⟩, x.al.monoQ q, List.mem_cons_self, hd'⟩, q⟩
end
section
variable {prog : Program} {w : World} {A : Around} {E : Value → Shared → Prop} {s : Shared} {h₀ : Heap} {L d : Addr} {m : Str → Option Value} {news : Led} {o : Obj} {kvs : List (Int × Value)}
theorem dset_led {Q : Unit → Shared → Prop} {k : Int} {t : Tok} {v : Value} (F : Fr h₀ L s.heap m) (N : News h₀ L s.heap news) (hm : (d, o) ∈ news) (hd : o.IsDictOf (intKind prog w) kvs) (hsz : kvs.length ≤ 10000)
    (h : ∀ h' o' tk, Fr h₀ L h' m → News h₀ L h' ((d, o') :: off d news) → o'.IsDictOf (intKind prog w) (stored kvs k v) → Q () { s with heap := h', toks := tk }) : wpAny (model prog w) A (setItem (.ref d) (.int k t) v) Q E s := by
  have N₁ : News h₀ L s.heap ((d, o) :: off d news) := fun q hq => by
    rcases List.mem_cons.mp hq with rfl | hq
    · exact N _ hm
    · exact N _ (off_sub _ hq)
  exact kda_set (knd := intKind prog w) F N₁ (UpdF.head off_ne) hd (intKind_is _ _ _ _) (by rw [sizeLine_eq]; omega) (fun h' o' F' N' hd' => h h' o' _ F' N' hd')
end
end Mine

end

section
open PySem PySem.W PyProof.Rows
set_option maxRecDepth 100000
namespace Mine
theorem find_upd {kvs : List (Int × Value)} {k k' : Int} {v : Value} (hne : k' ≠ k) : (kvs.map fun kv => if kv.1 = k then (kv.1, v) else kv).find? (fun kv => kv.1 = k') = kvs.find? (fun kv => kv.1 = k') := by
  induction kvs with
  | nil => rfl
  | cons a r ih =>
    rw [List.map_cons, List.find?_cons, List.find?_cons, ih]
    by_cases h : a.1 = k
    · have e : a.1 ≠ k' := fun e => hne (e.symm.trans h)
      simp [h, hne.symm]
    · simp [h]
theorem valueAt_other {kvs : List (Int × Value)} {k k' : Int} {v : Value} (hne : k' ≠ k) : valueAt (stored kvs k v) k' = valueAt kvs k' := by
  unfold valueAt stored
  split
  · exact congrArg _ (find_upd hne)
  · rw [List.find?_append]
    have : List.find? (fun kv : Int × Value => decide (kv.1 = k')) [(k, v)] = none := by simp [hne.symm]
    rw [this]; simp
theorem valueAt_self {kvs : List (Int × Value)} {k : Int} {v : Value} : valueAt (stored kvs k v) k = some v := by
  unfold valueAt stored
  split
  · rename_i h
    induction kvs with
    | nil => simp at h
    | cons a r ih =>
      rw [List.map_cons, List.find?_cons]
      by_cases e : a.1 = k
      · simp [e]
      · simp only [e, if_false, decide_false]
        exact ih (by simpa [List.find?_cons, e] using h)
  · rename_i h
    have h' : kvs.find? (fun kv => decide (kv.1 = k)) = none := by
      rw [List.find?_eq_none]
      intro x hx e
      exact h (List.any_eq_true.mpr ⟨x, hx, e⟩)
    rw [List.find?_append, h']
    simp
theorem seg_self {pss : List (List Nat)} {i : Nat} {ns : List Nat} (h : pss[i]? = some ns) : seg pss i i = ns := by
  unfold seg
  rw [show i + 1 - i = 1 by omega]
  have hl : i < pss.length := by
    rcases Nat.lt_or_ge i pss.length with q | q
    · exact q
    · rw [List.getElem?_eq_none q] at h; cases h
  rw [List.getElem?_eq_getElem hl] at h
  have e : (pss.drop i).take 1 = [ns] := by
    rw [List.drop_eq_getElem_cons hl, Option.some.inj h, List.take_succ_cons, List.take_zero]
  rw [e]
  simp
theorem seg_append (pss : List (List Nat)) {a k b : Nat} (h1 : a ≤ k) (h2 : k < b) : seg pss a b = seg pss a k ++ seg pss (k + 1) b := by
  unfold seg
  rw [← List.flatten_append]
  congr 1
  rw [show b + 1 - a = (k + 1 - a) + (b + 1 - (k + 1)) by omega, List.take_add, List.drop_drop]
  rw [show a + (k + 1 - a) = k + 1 by omega]
theorem seg_all {pss : List (List Nat)} (h : 1 ≤ pss.length) : seg pss 0 (pss.length - 1) = pss.flatten := by
  unfold seg
  rw [List.drop_zero, List.take_of_length_le (by omega)]
theorem flat_take_le (l : List (List Nat)) : ∀ n, (l.take n).flatten.length ≤ l.flatten.length := by
  induction l with
  | nil => intro n; simp
  | cons a r ih =>
    intro n
    cases n with
    | zero => simp
    | succ n => rw [List.take_succ_cons, List.flatten_cons, List.flatten_cons, List.length_append, List.length_append]; have := ih n; omega
theorem flat_drop_le (l : List (List Nat)) : ∀ n, (l.drop n).flatten.length ≤ l.flatten.length := by
  induction l with
  | nil => intro n; simp
  | cons a r ih =>
    intro n
    cases n with
    | zero => simp
    | succ n => rw [List.drop_succ_cons, List.flatten_cons, List.length_append]; have := ih n; omega
theorem seg_len (pss : List (List Nat)) (a b : Nat) : (seg pss a b).length ≤ pss.flatten.length := Nat.le_trans (flat_take_le _ _) (flat_drop_le _ _)
theorem seg_put (pss : List (List Nat)) {a k b : Nat} (h1 : a ≤ k) (h2 : k < b) : iter gen (seg pss (k + 1) b).length (told (seg pss a k)) ^^^ told (seg pss (k + 1) b) = told (seg pss a b) ∧ (seg pss a k).length + (seg pss (k + 1) b).length = (seg pss a b).length := by
  rw [seg_append pss h1 h2, told_append, List.length_append]
  exact ⟨rfl, rfl⟩
theorem MadeInv.store {pss : List (List Nat)} {nx ny : Led} {kvs : List (Int × Value)} {size i size' i' x y : Nat} {v : Value} (h : MadeInv pss nx kvs size i) (hq : pss.length ≤ 8) (k : KeepQ nx ny) (hxy : y < 8) (hv : Tup2 ny v (told (seg pss x y)) (seg pss x y).length)
    (q : ∀ a b, a ≤ b → b < pss.length → (b + 1 - a < size' ∨ (b + 1 - a = size' ∧ a < i')) → (a = x ∧ b = y) ∨ (b + 1 - a < size ∨ (b + 1 - a = size ∧ a < i))) : MadeInv pss ny (stored kvs ((x * 32 + y : Nat) : Int) v) size' i' := by
  intro a b h1 h2 h3
  by_cases e : a = x ∧ b = y
  · obtain ⟨rfl, rfl⟩ := e
    exact ⟨v, valueAt_self, hv⟩
  · obtain ⟨u, e1, e2⟩ := h a b h1 h2 ((q a b h1 h2 h3).resolve_left e)
    refine ⟨u, ?_, e2.monoQ k⟩
    rw [valueAt_other (by omega)]
    exact e1
end Mine

end

section
open PySem PySem.W PyProof.Rows PySem.Spec
set_option maxRecDepth 100000
set_option maxHeartbeats 4000000
namespace Mine
/-- the names that stand all through -/
structure Nm (m : Str → Option Value) (ap D n : Nat) (tq : Tok) : Prop where
  h1 : m (Str.ofString "pieces") = some (.ref ap)
  h2 : m (Str.ofString "pairs") = some (.ref D)
  h3 : m (Str.ofString "count") = some (.int (n : Nat) tq)
theorem stored_len (kvs : List (Int × Value)) (k : Int) (v : Value) : (stored kvs k v).length ≤ kvs.length + 1 := by
  unfold stored
  split
  · simp
  · simp
section
variable {prog : Program} {w : World} {A : Around} {E : Value → Shared → Prop} {s : Shared} {h₀ : Heap} {L : Addr} {m : Str → Option Value} {news : Led} {Q : Value → Shared → Prop}
theorem item_led {value slice : PySem.Expr} {D : Addr} {as : List Value} {x : Value} {k i : Nat} {t : Tok} (N : News h₀ L s.heap news) (hD : (D, listOf as.toArray k) ∈ news) (hx : as[i]? = some x) (hi : i < 1000) (h : Q x s)
    (hs : subscripted slice false (.ref D) (.int (i : Nat) t) = operate [.ref D, .int (i : Nat) t] (getItem (.ref D) (.int (i : Nat) t)) := by with_unfolding_all rfl) :
    wpAny (model prog w) A (subscriptTail value slice (.ref D) (.int (i : Nat) t)) Q E s := by
  have hl : s.heap.IsList D as.toArray := ⟨_, (N _ hD).1, rfl, k, rfl⟩
  refine tail_any hl.typeIs slot_list_getitem.lookup (wpAny_getItem_list hl (by omega) (by omega) ?_ h) hs
  simpa using hx
theorem ditem_led {value slice : PySem.Expr} {d : Addr} {o : Obj} {kvs : List (Int × Value)} {v : Value} {k : Int} {t : Tok} (N : News h₀ L s.heap news) (hm : (d, o) ∈ news) (hd : o.IsDictOf (intKind prog w) kvs) (hl : valueAt kvs k = some v) (h : ∀ tk, Q v { s with toks := tk })
    (hs : subscripted slice false (.ref d) (.int k t) = operate [.ref d, .int k t] (getItem (.ref d) (.int k t)) := by with_unfolding_all rfl) (hg : ∀ r, letTemporaryGo value (.ref d) r = pure () := by intro _; with_unfolding_all rfl) :
    wpAny (model prog w) A (subscriptTail value slice (.ref d) (.int k t)) Q E s :=
  kda_item (knd := intKind prog w) N hm hd (intKind_is _ _ _ _) hl (h _) hs hg
end
section
variable {w : World} {L d D ap : Addr} {ys vsp : List Value} {kp : Nat} {pss : List (List Nat)} {vi vj vw v : Option Value} {kvs : List (Int × Value)} {od oc : Obj} {nx : Led} {h₀ : Heap}
theorem LX.turnI (x : LX w L d D ap ys vsp kp pss vi vj vw kvs od nx) (N : ∃ h, News h₀ L h nx) (hd : oc.data = .cell v) : LX w L d D ap ys vsp kp pss v vj vw kvs od ((L + 1 + 1, oc) :: off (L + 1 + 1) nx) ∧ KeepQ nx ((L + 1 + 1, oc) :: off (L + 1 + 1) nx) := by
  obtain ⟨h, N⟩ := N
  obtain ⟨o, h1, h2⟩ := x.cI
  exact ⟨x.setI N h1 h2 hd, upd_keepQ N h1 (fun vs k e => by rw [h2] at e; cases e)⟩
theorem LX.upJ (x : LX w L d D ap ys vsp kp pss vi vj vw kvs od nx) (N : ∃ h, News h₀ L h nx) (hd : oc.data = .cell v) : LX w L d D ap ys vsp kp pss vi v vw kvs od ((L + 1 + 1 + 1, oc) :: off (L + 1 + 1 + 1) nx) ∧ KeepQ nx ((L + 1 + 1 + 1, oc) :: off (L + 1 + 1 + 1) nx) := by
  obtain ⟨h, N⟩ := N
  obtain ⟨o, h1, h2⟩ := x.cJ
  exact ⟨x.setJ N h1 h2 hd, upd_keepQ N h1 (fun vs k e => by rw [h2] at e; cases e)⟩
theorem LX.upW (x : LX w L d D ap ys vsp kp pss vi vj vw kvs od nx) (N : ∃ h, News h₀ L h nx) (hd : oc.data = .cell v) : LX w L d D ap ys vsp kp pss vi vj v kvs od ((L + 1 + 1 + 1 + 1, oc) :: off (L + 1 + 1 + 1 + 1) nx) ∧ KeepQ nx ((L + 1 + 1 + 1 + 1, oc) :: off (L + 1 + 1 + 1 + 1) nx) := by
  obtain ⟨h, N⟩ := N
  obtain ⟨o, h1, h2⟩ := x.cW
  exact ⟨x.setW N h1 h2 hd, upd_keepQ N h1 (fun vs k e => by rw [h2] at e; cases e)⟩
/-- an update behind the iterator's entry -/
theorem upd_behind {h : Heap} {I c : Addr} {oI o' : Obj} {nz : Led} (hne : c ≠ I) (N : News h₀ L h ((c, o') :: off c ((I, oI) :: nz))) : News h₀ L h ((I, oI) :: (c, o') :: off c nz) := by
  intro q hq
  rcases List.mem_cons.mp hq with rfl | hq
  · exact N _ (List.mem_cons_of_mem _ (mem_off.mpr ⟨List.mem_cons_self, hne.symm⟩))
  · rcases List.mem_cons.mp hq with rfl | hq
    · exact N _ List.mem_cons_self
    · exact N _ (List.mem_cons_of_mem _ (mem_off.mpr ⟨List.mem_cons_of_mem _ (off_sub _ hq), off_ne _ hq⟩))
theorem upd_off {I c : Addr} {o' : Obj} {nz : Led} (hne : c ≠ I) (ho : ∀ p ∈ nz, p.1 ≠ I) : ∀ p ∈ (c, o') :: off c nz, p.1 ≠ I := by
  intro p hp
  rcases List.mem_cons.mp hp with rfl | hp
  · exact hne
  · exact ho _ (off_sub _ hp)
end
section
variable {prog : Program} {w : World} {A : Around} {E : Value → Shared → Prop} {s : Shared} {h₀ : Heap} {L : Addr} {news : Led} {Q : Value → Shared → Prop}
theorem ne_nil {a b : Addr} {k1 k2 : Nat} (N : News h₀ L s.heap news) (h1 : (a, listOf #[] k1) ∈ news) (h2 : (b, listOf #[] k2) ∈ news) (hu : A.units + 64 < cLine) (h : Q (.bool false) s) : wpAny (model prog w) A (compareOp .NotEq (.ref a) (.ref b)) Q E s :=
  ne_dataH (reads_list_at (N _ h1).1 rfl rfl ReadsAll.nil) (reads_list_at (N _ h2).1 rfl rfl ReadsAll.nil) rfl rfl hu (by rw [show PyData.eqv (.list []) (.list []) = true by simp [PyData.eqv, PyData.eqvAll]]; exact h)
end
theorem AllT.rep {nx : Led} {vs : List Value} {n k : Nat} {a : Nat × Nat} {v : Value} (h : AllT nx vs (List.replicate n a)) (e : vs[k]? = some v) : Tup2 nx v a.1 a.2 := by
  obtain ⟨c, hc, ht⟩ := h.get e
  rw [List.getElem?_replicate] at hc
  split at hc
  · cases hc; exact ht
  · cases hc
end Mine

end

section
open PySem PySem.W PyProof.Rows
set_option maxRecDepth 100000
set_option maxHeartbeats 2000000
namespace Mine
section
variable {prog : Program} {w : World} {A : Around} {E : Value → Shared → Prop} {s : Shared} {h₀ : Heap} {L : Addr} {m : Str → Option Value} {env : Env} {elt iter ct : PySem.Expr} {x : Str} {px pos : Pos} {scope : Scope} {cl : List (Str × Addr)} {news : Led}
/-- how a turn whose test fails ends -/
def FEnd (s : Shared) (h₀ : Heap) (L : Addr) (m : Str → Option Value) (I C D : Addr) (oI oC oD : Obj) (nz : Led) (ok : Bool) (s₂ : Shared) : Prop :=
  ok = false ∧ ∃ h' tk', s₂ = { s with heap := h', toks := tk' } ∧ Fr h₀ L h' m ∧ News h₀ L h' ((I, oI) :: (C, oC) :: (D, oD) :: nz)

theorem compT_loop {R : Result → Shared → Prop} {I C D : Addr} {fp : List Addr} {n : Nat} {P : Nat → Value → Prop} {St : Nat → Heap → Prop} {nz : Led} (W : Walks prog w A I fp [I] n P St)
    (hIo : ∀ i h, St i h → ∃ o, h.get? I = some o)
    (hSt : ∀ i h h' o, St i h → h.get? I = some o → h'.get? I = some o → News h₀ L h' nz → St i h')
    (hkind : scope.kind = .function) (hx : scope.names.lookup x = some .local) (hCf : C ∉ fp)
    (hI₀ : h₀.get? I = none) (hC₀ : h₀.get? C = none) (hIL : I ≠ L) (hCL : C ≠ L) (hIC : I ≠ C) (hID : I ≠ D) (hCD : C ≠ D)
    (hst : St 0 s.heap) (F : Fr h₀ L s.heap m) (hn : ∃ m', s.heap.Ns C m') (N : News h₀ L s.heap ((D, LCg.lst []) :: nz)) (off : ∀ p ∈ nz, p.1 ≠ I ∧ p.1 ≠ C ∧ p.1 ≠ D)
    (turn : ∀ i v m₂ h tk oI oC, i < n → P i v → LCg.NsObj oC m₂ → m₂ x = some v → Fr h₀ L h m → News h₀ L h ((I, oI) :: (C, oC) :: (D, LCg.lst []) :: nz) →
      wpAny (model prog w) A (isTrue ct (compEnvC scope cl C env) (eval ct (compEnvC scope cl C env))) (FEnd s h₀ L m I C D oI oC (LCg.lst []) nz) (fun _ _ => False) { s with heap := h, toks := tk })
    (done : ∀ h tk m', Fr h₀ L h m → h.Ns C m' → News h₀ L h ((D, LCg.lst []) :: nz) → R (.ok .next) { s with heap := h, toks := tk }) :
    codeAny (model prog w) A (.compLoop (.ListComp elt [⟨.Name x px, iter, [ct], 0⟩] scope pos) 0 (.ref I) (.ref D) (compEnvC scope cl C env)) R s := by
  refine kct_loop (fun k s' => ∃ i h tk m', k = n + 1 - i ∧ i ≤ n ∧ s' = { s with heap := h, toks := tk } ∧ St i h ∧ Fr h₀ L h m ∧ h.Ns C m' ∧ News h₀ L h ((D, LCg.lst []) :: nz)) ?_ (n + 1) ?_
  · rintro k s' ⟨i, h, tk, m', rfl, hi, rfl, hst', F, hn, N⟩
    by_cases hlt : i < n
    · refine W.item i _ _ _ hlt hst' fun v h₁ tk₁ hP hst₁ hk₁ => ?_
      refine wpAny_pure ?_
      have F₁ : Fr h₀ L h₁ m := LCg.fr_but F hk₁ hIL.symm hI₀
      have N₁ : News h₀ L h₁ ((D, LCg.lst []) :: nz) := LCg.news_but N hk₁ fun p hp => by
        rcases List.mem_cons.mp hp with rfl | hp
        · exact hID.symm
        · exact (off p hp).1
      have hn₁ : h₁.Ns C m' := hn.at' fun o e => hk₁ _ o (by simpa using hIC.symm) e
      refine wpAny_assign_Name (wpAny_storeName_local (lookup_relabel_local hx) hn₁ (fun h₂ hn₂ hs₂ => ?_) (by simp [compEnvC, relabel, hkind]))
      have hst₂ : St (i + 1) h₂ := W.frame _ _ _ hst₁ fun b hb o e => hs₂.extBut b o (fun q => hCf (by have q' : b = C := q; rw [← q']; exact hb)) e
      obtain ⟨oI, hoI⟩ := hIo _ _ hst₂
      obtain ⟨oC, hoC, hC⟩ := LCg.ns_obj hn₂
      have F₂ : Fr h₀ L h₂ m := F₁.change hs₂ hCL hC₀
      have N₂ : News h₀ L h₂ ((I, oI) :: (C, oC) :: (D, LCg.lst []) :: nz) := fun p hp => by
        rcases List.mem_cons.mp hp with rfl | hp
        · exact ⟨hoI, hIL, hI₀⟩
        · rcases List.mem_cons.mp hp with rfl | hp
          · exact ⟨hoC, hCL, hC₀⟩
          · refine ⟨hs₂.extBut _ _ ?_ (N₁ p hp).1, (N₁ p hp).2⟩
            rcases List.mem_cons.mp hp with rfl | hp
            · exact hCD.symm
            · exact (off p hp).2.1
      refine wpAny_mono (turn i v _ h₂ _ oI oC hlt hP hC (by simp) F₂ N₂) (fun ok s₄ h₄ => ?_) fun _ _ e => e.elim
      obtain ⟨rfl, h₄, tk₄, rfl, F₄, N₄⟩ := h₄
      have zI := (N₄ (I, oI) List.mem_cons_self).1
      have zC := (N₄ (C, oC) (List.mem_cons_of_mem _ List.mem_cons_self)).1
      have N₄' : News h₀ L h₄ ((D, LCg.lst []) :: nz) := fun p hp => N₄ p (List.mem_cons_of_mem _ (List.mem_cons_of_mem _ hp))
      have hst₄ : St (i + 1) h₄ := hSt _ _ _ _ hst₂ hoI zI fun p hp => N₄' p (List.mem_cons_of_mem _ hp)
      exact ⟨n + 1 - (i + 1), by omega, i + 1, h₄, tk₄, _, rfl, hlt, rfl, hst₄, F₄, hC.ns zC, N₄'⟩
    · obtain rfl : i = n := Nat.le_antisymm hi (Nat.not_lt.mp hlt)
      refine W.done _ _ _ hst' fun h₁ tk₁ hk₁ => ?_
      refine done h₁ tk₁ m' (LCg.fr_but F hk₁ hIL.symm hI₀) (hn.at' fun o e => hk₁ _ o (by simpa using hIC.symm) e) (LCg.news_but N hk₁ fun p hp => ?_)
      rcases List.mem_cons.mp hp with rfl | hp
      · exact hID.symm
      · exact (off p hp).1
  · obtain ⟨m', hn⟩ := hn
    exact ⟨0, s.heap, s.toks, m', rfl, Nat.zero_le _, rfl, hst, F, hn, N⟩

theorem compT_block {RR : Value → Addr → Result → Shared → Prop} {I : Addr} {oI₀ : Obj} {fp : List Addr} {n : Nat} {P : Nat → Value → Prop} {St : Nat → Heap → Prop} (W : Walks prog w A I fp [I] n P St)
    (hIo : ∀ i h, St i h → ∃ o, h.get? I = some o)
    (hSt : ∀ i h h' o, St i h → h.get? I = some o → h'.get? I = some o → News h₀ L h' news → St i h')
    (hcell : ∀ y ∈ scope.names, y.2 ≠ .cell) (hkind : scope.kind = .function) (hx : scope.names.lookup x = some .local) (hfp : ∀ b ∈ fp, b < s.heap.objs.size)
    (F : Fr h₀ L s.heap m) (N : News h₀ L s.heap ((I, oI₀) :: news)) (off : ∀ p ∈ news, p.1 ≠ I) (hst : St 0 s.heap)
    (turn : ∀ C D i v m₂ (s₄ : Shared) h tk oI oC, (∃ g tk, s₄ = { s with heap := g, toks := tk }) → (∀ p ∈ (I, oI₀) :: news, p.1 < D) → D < C → i < n → P i v → LCg.NsObj oC m₂ → m₂ x = some v → Fr h₀ L h m → News h₀ L h ((I, oI) :: (C, oC) :: (D, LCg.lst []) :: news) →
      wpAny (model prog w) A (isTrue ct (compEnvC scope cl C env) (eval ct (compEnvC scope cl C env))) (FEnd s₄ h₀ L m I C D oI oC (LCg.lst []) news) (fun _ _ => False) { s₄ with heap := h, toks := tk })
    (done : ∀ C D h tk m', Fr h₀ L h m → h.Ns C m' → News h₀ L h ((D, LCg.lst []) :: news) → (∀ p ∈ news, p.1 ≠ I ∧ p.1 ≠ C ∧ p.1 ≠ D) → h₀.get? C = none → C ≠ L → C ≠ D → (∀ p ∈ (I, oI₀) :: news, p.1 < D) → RR (.ref D) C (.ok .next) { s with heap := h, toks := tk }) :
    wpAny (model prog w) A (newList []) (fun acc s₃ => wpAny (model prog w) A (newFunctionEnv scope env.globals cl [] env.qual none .none (some env)) (fun cenv s₄ =>
      codeAny (model prog w) A (.compStart (.ListComp elt [⟨.Name x px, iter, [ct], 0⟩] scope pos) 0 (.ref I) acc { cenv with scope := relabel scope env }) (RR acc cenv.locals) s₄) E s₃) E s := by
  refine wpAny_newObj_type (wpAny_newFunctionEnv hcell (by intro y hy; simp at hy) (fun h₁ hns₁ hsb₁ => ?_) hkind)
  dsimp only at hns₁ hsb₁ ⊢
  generalize hH2 : s.heap.push { cls := .type "list", dict := none, data := .seq ([] : List Value).toArray } = H2 at hns₁ hsb₁ ⊢
  have hC : H2.objs.size = s.heap.objs.size + 1 := by rw [← hH2, Heap.size_push]
  have hDC : s.heap.objs.size < H2.objs.size := by rw [hC]; exact Nat.lt_succ_self _
  have lt : ∀ b, b < s.heap.objs.size → b ≠ H2.objs.size ∧ b ≠ s.heap.objs.size := fun b hb => ⟨Nat.ne_of_lt (Nat.lt_trans hb hDC), Nat.ne_of_lt hb⟩
  have old : ∀ b o, s.heap.get? b = some o → h₁.get? b = some o := fun b o e => hsb₁.extBut b o (lt b (Heap.lt_size e)).1 (Heap.get?_push_of_some _ (hH2 ▸ Heap.get?_push_of_some _ e))
  have hacc : h₁.get? s.heap.objs.size = some (LCg.lst []) := hsb₁.extBut _ _ (Nat.ne_of_lt hDC) (Heap.get?_push_of_some _ (hH2 ▸ Heap.get?_push_size _ rfl))
  have fresh₀ : ∀ a, s.heap.objs.size ≤ a → h₀.get? a = none := fun a ha => by
    cases e : h₀.get? a with
    | none => rfl
    | some o' => exact absurd (Heap.lt_size (F.keep a o' e)) (Nat.not_lt.mpr ha)
  have hLl := lt L F.ns.lt
  have hIm := N _ List.mem_cons_self
  have hIl := lt I (Heap.lt_size hIm.1)
  have hst₁ : St 0 h₁ := W.frame _ _ _ hst fun b _ o e => old b o e
  have hD₀ := fresh₀ _ (Nat.le_refl _)
  have hC₀ := fresh₀ _ (Nat.le_of_lt hDC)
  have hlt : ∀ p ∈ (I, oI₀) :: news, p.1 < s.heap.objs.size := fun p hp => Heap.lt_size (N p hp).1
  have hoff : ∀ p ∈ news, p.1 ≠ I ∧ p.1 ≠ H2.objs.size ∧ p.1 ≠ s.heap.objs.size := fun p hp => ⟨off p hp, (lt _ (hlt p (List.mem_cons_of_mem _ hp))).1, (lt _ (hlt p (List.mem_cons_of_mem _ hp))).2⟩
  have N₁ : News h₀ L h₁ ((s.heap.objs.size, LCg.lst []) :: news) := fun p hp => by
    rcases List.mem_cons.mp hp with rfl | hp
    · exact ⟨hacc, hLl.2.symm, hD₀⟩
    · exact ⟨old _ _ (N p (List.mem_cons_of_mem _ hp)).1, (N p (List.mem_cons_of_mem _ hp)).2⟩
  have loop : ∀ s₃ : Shared, s₃ = { s with heap := h₁, toks := s.toks + ([] : List (Str × Value)).length } →
      codeAny (model prog w) A (.compLoop (.ListComp elt [⟨.Name x px, iter, [ct], 0⟩] scope pos) 0 (.ref I) (.ref s.heap.objs.size) (compEnvC scope cl H2.objs.size env)) (RR (.ref s.heap.objs.size) H2.objs.size) s₃ := by
    rintro s₃ rfl
    refine compT_loop W hIo hSt hkind hx (fun hm => (lt _ (hfp _ hm)).1 rfl) hIm.2.2 hC₀ hIm.2.1 hLl.1.symm hIl.1 hIl.2 (Nat.ne_of_gt hDC) hst₁ (F.keeps old) ⟨_, hns₁⟩ N₁ hoff ?_ ?_
    · intro i v m₂ h tk oI oC
      exact turn H2.objs.size s.heap.objs.size i v m₂ _ h tk oI oC ⟨_, _, rfl⟩ hlt hDC
    · intro h tk m' F' hn' N'
      exact done _ _ h tk m' F' hn' N' hoff hC₀ hLl.1.symm (Nat.ne_of_gt hDC) hlt
  exact codeAny_compStart_list (loop _ rfl) (W.self 0 _ _ _ hst₁ (loop _ rfl))

theorem compT_eval {Q : Value → Shared → Prop} (hclos : closureFor scope env = pure cl) (hkind : scope.kind = .function) (hnames : ∀ y ∈ scope.names, y.2 = .local → scope.names.lookup y.1 = some .local)
    (h : wpAny (model prog w) A (eval iter env) (fun xv s₁ => wpAny (model prog w) A (pyIter xv) (fun it s₂ => wpAny (model prog w) A (newList []) (fun acc s₃ => wpAny (model prog w) A (newFunctionEnv scope env.globals cl [] env.qual none .none (some env)) (fun cenv s₄ =>
      codeAny (model prog w) A (.compStart (.ListComp elt [⟨.Name x px, iter, [ct], 0⟩] scope pos) 0 it acc { cenv with scope := relabel scope env }) (compPost (model prog w) A E none Q acc cenv.locals) s₄) E s₃) E s₂) E s₁) E s)
    (hs : ∀ x, foldedSetIterable iter env x = pure x := by intro _; rfl) :
    wpAny (model prog w) A (eval (.ListComp elt [⟨.Name x px, iter, [ct], 0⟩] scope pos) env) Q E s := by
  rw [eval_ListComp]
  exact wpAny_comprehension_free (use := none) rfl hs hclos hkind hnames h
end
end Mine

end

section
open PySem PySem.W PyProof.Rows
set_option maxRecDepth 100000
set_option maxHeartbeats 2000000
namespace Mine
/-! a comprehension of two clauses: [elt for x in itx for y in ity] -/
section
variable {prog : Program} {w : World} {A : Around} {E : Value → Shared → Prop} {R : Result → Shared → Prop} {s : Shared} {env : Env} {elt itx ity tx ty : PySem.Expr} {scope : Scope} {pos : Pos} {acc it : Value}
theorem compTurn_out (it : Value) :
    compTurn (.ListComp elt [⟨tx, itx, [], 0⟩, ⟨ty, ity, [], 0⟩] scope pos) 0 it acc env = (standAt itx.pos >>= fun _ => pyNext it >>= fun r => match r with
      | none => pure (.done .next)
      | some v => letOwnedTupleGo tx it v >>= fun _ => assign tx env v >>= fun _ =>
        eval ity env >>= fun x => standAt ity.pos >>= fun _ => foldedSetIterable ity env x >>= fun x => holding [x] (pyIter x) >>= fun it2 =>
          runOwn (.compStart (.ListComp elt [⟨tx, itx, [], 0⟩, ⟨ty, ity, [], 0⟩] scope pos) 1 it2 acc env) env >>= fun _ =>
          again (.compLoop (.ListComp elt [⟨tx, itx, [], 0⟩, ⟨ty, ity, [], 0⟩] scope pos) 0 it acc env)) := by rfl
theorem compTurn_in (it : Value) :
    compTurn (.ListComp elt [⟨tx, itx, [], 0⟩, ⟨ty, ity, [], 0⟩] scope pos) 1 it acc env = (standAt ity.pos >>= fun _ => pyNext it >>= fun r => match r with
      | none => pure (.done .next)
      | some v => letOwnedTupleGo ty it v >>= fun _ => assign ty env v >>= fun _ =>
        (eval elt env >>= fun x => call (.builtin "list.append") [acc, x] >>= fun _ => pure ()) >>= fun _ =>
          again (.compLoop (.ListComp elt [⟨tx, itx, [], 0⟩, ⟨ty, ity, [], 0⟩] scope pos) 1 it acc env)) := by rfl
theorem start_in
    (h0 : codeAny (model prog w) A (.compLoop (.ListComp elt [⟨tx, itx, [], 0⟩, ⟨ty, ity, [], 0⟩] scope pos) 1 it acc env) R s)
    (h : wpAny (model prog w) A (pyIter it) (fun it' s' => codeAny (model prog w) A (.compLoop (.ListComp elt [⟨tx, itx, [], 0⟩, ⟨ty, ity, [], 0⟩] scope pos) 1 it' acc env) R s')
      (notedBy (model prog w) A env fun x s' => R (.error x) s') s) :
    codeAny (model prog w) A (.compStart (.ListComp elt [⟨tx, itx, [], 0⟩, ⟨ty, ity, [], 0⟩] scope pos) 1 it acc env) R s := by
  refine codeAny_of_tree ?_
  show wpAny _ _ ((compStart (.ListComp elt [⟨tx, itx, [], 0⟩, ⟨ty, ity, [], 0⟩] scope pos) 1 it acc env).onRaise (fun x => do noteFrame x env; standAt theWindowsPlace)) _ _ s
  refine wpAny_notedAt ?_
  unfold compStart
  show wpAny _ _ (ask >>= _) _ _ s
  refine wpAny_bind (wpAny_askSetting (wpAny_ite ?_))
  split
  · first
      | exact wpAny_bind (wpAny_pure (wpAny_pure (And.intro rfl h0)))
      | exact wpAny_pure (And.intro rfl h0)
  · first
      | exact wpAny_bind (wpAny_rule (wpAny_bind (wpAny_standAt (wpAny_bind (wpAny_mono h (fun it' s' h' => wpAny_pure (And.intro rfl h')) fun _ _ x => x)))))
      | (refine wpAny_bind (wpAny_rule ?_); show wpAny _ _ (standAt ity.pos >>= _) _ _ s; exact wpAny_bind (wpAny_standAt (wpAny_bind (wpAny_mono h (fun it' s' h' => wpAny_pure (And.intro rfl h')) fun _ _ x => x))))
theorem loop_in (I : Nat → Shared → Prop)
    (turn : ∀ n s, I n s → wpAny (model prog w) A (pyNext it) (fun r s₁ => match r with
      | none => R (.ok .next) s₁
      | some v => wpAny (model prog w) A (assign ty env v) (fun _ s₂ => wpAny (model prog w) A (eval elt env) (fun x s₃ =>
          wpAny (model prog w) A (call (.builtin "list.append") [acc, x]) (fun _ s₄ => ∃ m, m < n ∧ I m s₄) (notedBy (model prog w) A env fun e s' => R (.error e) s') s₃)
          (notedBy (model prog w) A env fun e s' => R (.error e) s') s₂) (notedBy (model prog w) A env fun e s' => R (.error e) s') s₁) (notedBy (model prog w) A env fun e s' => R (.error e) s') s)
    (n : Nat) (h : I n s) (ht : ∀ v, letOwnedTupleGo ty it v = pure () := by intro _; rfl) :
    codeAny (model prog w) A (.compLoop (.ListComp elt [⟨tx, itx, [], 0⟩, ⟨ty, ity, [], 0⟩] scope pos) 1 it acc env) R s := by
  refine codeAny_loop rfl I (fun n s hI => ?_) n h
  show wpAny _ _ ((compTurn (.ListComp elt [⟨tx, itx, [], 0⟩, ⟨ty, ity, [], 0⟩] scope pos) 1 it acc env).onRaise (fun x => do noteFrame x env; theTreesLotGoes x)) _ _ s
  refine wpAny_noted ?_
  rw [compTurn_in]
  refine wpAny_bind (wpAny_standAt (wpAny_bind (wpAny_mono (turn n s hI) (fun r s₁ h₁ => ?_) fun _ _ h' => h')))
  cases r with
  | none => exact wpAny_pure h₁
  | some v =>
    refine wpAny_bind (wpAny_of_eq (ht v) ?_)
    exact wpAny_bind (wpAny_mono h₁ (fun _ s₂ h₂ => wpAny_bind (wpAny_bind (wpAny_mono h₂ (fun x s₃ h₃ => wpAny_bind (wpAny_mono h₃
      (fun _ s₄ h₄ => wpAny_pure (wpAny_pure ⟨rfl, h₄⟩)) fun _ _ h' => h')) fun _ _ h' => h'))) fun _ _ h' => h')
theorem loop_out (I : Nat → Shared → Prop)
    (turn : ∀ n s, I n s → wpAny (model prog w) A (pyNext it) (fun r s₁ => match r with
      | none => R (.ok .next) s₁
      | some v => wpAny (model prog w) A (assign tx env v) (fun _ s₂ => wpAny (model prog w) A (eval ity env) (fun xv s₃ => wpAny (model prog w) A (pyIter xv) (fun it2 s₄ =>
          codeAny (model prog w) A (.compStart (.ListComp elt [⟨tx, itx, [], 0⟩, ⟨ty, ity, [], 0⟩] scope pos) 1 it2 acc env) (fun r s₅ => match r with
            | .ok _ => ∃ m, m < n ∧ I m s₅
            | .error e => cameBackBy (model prog w) A env (notedBy (model prog w) A env fun e s' => R (.error e) s') e s₅) s₄)
          (notedBy (model prog w) A env fun e s' => R (.error e) s') s₃) (notedBy (model prog w) A env fun e s' => R (.error e) s') s₂) (notedBy (model prog w) A env fun e s' => R (.error e) s') s₁) (notedBy (model prog w) A env fun e s' => R (.error e) s') s)
    (n : Nat) (h : I n s) (ht : ∀ v, letOwnedTupleGo tx it v = pure () := by intro _; rfl) (hs : ∀ x, foldedSetIterable ity env x = pure x := by intro _; rfl) :
    codeAny (model prog w) A (.compLoop (.ListComp elt [⟨tx, itx, [], 0⟩, ⟨ty, ity, [], 0⟩] scope pos) 0 it acc env) R s := by
  refine codeAny_loop rfl I (fun n s hI => ?_) n h
  show wpAny _ _ ((compTurn (.ListComp elt [⟨tx, itx, [], 0⟩, ⟨ty, ity, [], 0⟩] scope pos) 0 it acc env).onRaise (fun x => do noteFrame x env; theTreesLotGoes x)) _ _ s
  refine wpAny_noted ?_
  rw [compTurn_out]
  refine wpAny_bind (wpAny_standAt (wpAny_bind (wpAny_mono (turn n s hI) (fun r s₁ h₁ => ?_) fun _ _ h' => h')))
  cases r with
  | none => exact wpAny_pure h₁
  | some v =>
    refine wpAny_bind (wpAny_of_eq (ht v) ?_)
    refine wpAny_bind (wpAny_mono h₁ (fun _ s₂ h₂ => ?_) fun _ _ h' => h')
    refine wpAny_bind (wpAny_mono h₂ (fun xv s₃ h₃ => ?_) fun _ _ h' => h')
    refine wpAny_bind (wpAny_standAt (wpAny_bind (wpAny_of_eq (hs xv) (wpAny_bind (wpAny_holding (wpAny_mono h₃ (fun it2 s₄ h₄ => ?_) fun _ _ h' => h'))))))
    refine wpAny_bind (wpAny_runOwn (codeAny_mono h₄ (fun r s₅ h₅ => ?_)))
    cases r with
    | ok f => exact wpAny_pure ⟨rfl, h₅⟩
    | error e => exact h₅
end
end Mine
namespace Mine
section
variable {prog : Program} {w : World} {A : Around} {E : Value → Shared → Prop} {s : Shared} {h₀ : Heap} {L : Addr} {m : Str → Option Value} {env : Env} {itx ity : PySem.Expr} {x y : Str} {px px2 py py2 pos : Pos} {scope : Scope} {cl : List (Str × Addr)} {news : Led}
theorem flat_in {tx : PySem.Expr} {R : Result → Shared → Prop} {a C D I2 : Addr} {vs ys : List Value} {k : Nat} {nx : Led} (hh : A.handled = none)
    (hkind : scope.kind = .function) (hy : scope.names.lookup y = some .local) (hdb : (y == ("__debug__" : Str)) = false)
    (hax : (a, listOf vs.toArray k) ∈ nx) (F : Fr h₀ L s.heap m) (hn : ∃ m', s.heap.Ns C m') (N : News h₀ L s.heap ((D, LCg.lst ys) :: nx)) (hit : s.heap.IsListIter I2 a 0)
    (off : ∀ p ∈ nx, p.1 ≠ I2 ∧ p.1 ≠ C ∧ p.1 ≠ D) (h2C : I2 ≠ C) (h2D : I2 ≠ D) (hCD : C ≠ D) (h2L : I2 ≠ L) (hCL : C ≠ L) (h20 : h₀.get? I2 = none) (hC0 : h₀.get? C = none) (hsz : ys.length + vs.length ≤ 10000)
    (done : ∀ h tk m', Fr h₀ L h m → h.Ns C m' → News h₀ L h ((D, LCg.lst (ys ++ vs)) :: nx) → R (.ok .next) { s with heap := h, toks := tk }) :
    codeAny (model prog w) A (.compLoop (.ListComp (.Name y py2) [⟨tx, itx, [], 0⟩, ⟨.Name y py, ity, [], 0⟩] scope pos) 1 (.ref I2) (.ref D) (compEnvC scope cl C env)) R s := by
  have hne : a ≠ I2 := (off _ hax).1
  have haC : a ≠ C := (off _ hax).2.1
  have haD : a ≠ D := (off _ hax).2.2
  have W := Walks.list (prog := prog) (w := w) (A := A) hh I2 a hne vs.toArray
  have hvs : vs.toArray.size = vs.length := List.size_toArray
  refine loop_in (fun q s' => ∃ j h tk m', q = vs.length + 1 - j ∧ j ≤ vs.length ∧ s' = { s with heap := h, toks := tk } ∧ h.IsListIter I2 a j ∧ Fr h₀ L h m ∧ h.Ns C m' ∧ News h₀ L h ((D, LCg.lst (ys ++ vs.take j)) :: nx)) ?_ (vs.length + 1) ?_
  · rintro q s' ⟨j, h, tk, m', rfl, hj, rfl, hst, F, hn, N⟩
    have hl : h.IsList a vs.toArray := ⟨_, (N _ (List.mem_cons_of_mem _ hax)).1, rfl, k, rfl⟩
    by_cases hlt : j < vs.length
    · refine W.item j _ _ _ (by rw [hvs]; exact hlt) ⟨hst, hl⟩ fun v h₁ tk₁ hP hst₁ hk₁ => ?_
      have F₁ : Fr h₀ L h₁ m := LCg.fr_but F hk₁ h2L.symm h20
      have N₁ : News h₀ L h₁ ((D, LCg.lst (ys ++ vs.take j)) :: nx) := LCg.news_but N hk₁ fun p hp => by
        rcases List.mem_cons.mp hp with rfl | hp
        · exact h2D.symm
        · exact (off p hp).1
      have hn₁ : h₁.Ns C m' := hn.at' fun o e => hk₁ _ o (by simpa using h2C.symm) e
      refine wpAny_assign_Name (wpAny_storeName_local (lookup_relabel_local hy) hn₁ (fun h₂ hn₂ hs₂ => ?_) (by simp [compEnvC, relabel, hkind]))
      have F₂ : Fr h₀ L h₂ m := F₁.change hs₂ hCL hC0
      have N₂ : News h₀ L h₂ ((D, LCg.lst (ys ++ vs.take j)) :: nx) := fun p hp => by
        refine ⟨hs₂.extBut _ _ ?_ (N₁ p hp).1, (N₁ p hp).2⟩
        rcases List.mem_cons.mp hp with rfl | hp
        · exact hCD.symm
        · exact (off p hp).2.1
      have hit₂ : h₂.IsListIter I2 a (j + 1) := hst₁.1.at fun o e => hs₂.extBut _ o h2C e
      refine wpAny_Name (wpAny_loadName_local (v := v) (by simp [compEnvC, relabel, hkind]) (lookup_relabel_local hy) hn₂ (by simp) ?_) hdb
      have hD2 := (N₂ _ List.mem_cons_self).1
      have hDL := (N₂ _ List.mem_cons_self).2
      refine append_at (hsz := by rw [List.size_toArray, List.length_append, List.length_take, sizeLine_eq]; omega) hD2 fun h₅ hs₅ hD₅ => ?_
      have hv : vs[j]? = some v := by simpa using hP
      refine ⟨vs.length + 1 - (j + 1), by omega, j + 1, h₅, _, _, rfl, hlt, rfl, hit₂.at fun o e => hs₅.extBut _ o h2D e, F₂.change hs₅ hDL.1 hDL.2, hn₂.sameBut hs₅ hCD, fun p hp => ?_⟩
      rcases List.mem_cons.mp hp with rfl | hp
      · refine ⟨hD₅.trans ?_, hDL⟩
        rw [List.take_add_one, hv, Option.toList_some, ← List.append_assoc]
        exact congrArg some (LCg.lst_snoc _ v)
      · exact ⟨hs₅.extBut _ _ (off p hp).2.2 (N₂ p (List.mem_cons_of_mem _ hp)).1, (N₂ p (List.mem_cons_of_mem _ hp)).2⟩
    · obtain rfl : j = vs.length := Nat.le_antisymm hj (Nat.not_lt.mp hlt)
      refine W.done _ _ _ (by rw [hvs]; exact ⟨hst, hl⟩) fun h₁ tk₁ hk₁ => ?_
      rw [List.take_length] at N
      refine done h₁ tk₁ m' (LCg.fr_but F hk₁ h2L.symm h20) (hn.at' fun o e => hk₁ _ o (by simpa using h2C.symm) e) (LCg.news_but N hk₁ fun p hp => ?_)
      rcases List.mem_cons.mp hp with rfl | hp
      · exact h2D.symm
      · exact (off p hp).1
  · obtain ⟨m', hn⟩ := hn
    exact ⟨0, s.heap, s.toks, m', rfl, Nat.zero_le _, rfl, hit, F, hn, by rw [List.take_zero, List.append_nil]; exact N⟩
end
end Mine

namespace Mine
theorem allLL_get {nx : Led} : ∀ {vs : List Value} {pss : List (List Nat)} {i : Nat} {v : Value}, AllLL nx vs pss → vs[i]? = some v → ∃ ns, pss[i]? = some ns ∧ IntsL nx v (toI ns)
  | _ :: _, ns :: _, 0, v, h, e => ⟨ns, rfl, by cases e; exact h.1⟩
  | _ :: vs, _ :: r, i + 1, v, h, e => allLL_get (vs := vs) (pss := r) (i := i) h.2 e
  | [], [], _, _, _, e => by simp at e
theorem allLL_len {nx : Led} : ∀ {vs : List Value} {pss : List (List Nat)}, AllLL nx vs pss → vs.length = pss.length
  | [], [], _ => rfl
  | _ :: _, _ :: _, h => by rw [List.length_cons, List.length_cons, allLL_len h.2]
theorem flat_len_le (l : List (List Nat)) : ∀ n, (l.take n).flatten.length ≤ l.flatten.length := by
  induction l with
  | nil => intro n; simp
  | cons a r ih =>
    intro n
    cases n with
    | zero => simp
    | succ n => rw [List.take_succ_cons, List.flatten_cons, List.flatten_cons, List.length_append, List.length_append]; have := ih n; omega
section
variable {prog : Program} {w : World} {A : Around} {E : Value → Shared → Prop} {s : Shared} {h₀ : Heap} {L : Addr} {m : Str → Option Value} {env : Env} {itx : PySem.Expr} {x y : Str} {px px2 py py2 pos : Pos} {scope : Scope} {cl : List (Str × Addr)} {news : Led}
theorem flat_out {R : Result → Shared → Prop} {ap C D I : Addr} {its : List Value} {kp : Nat} {pss : List (List Nat)} {nx : Led} (hh : A.handled = none)
    (hkind : scope.kind = .function) (hx : scope.names.lookup x = some .local) (hy : scope.names.lookup y = some .local) (hdx : (x == ("__debug__" : Str)) = false) (hdb : (y == ("__debug__" : Str)) = false)
    (hap : (ap, listOf its.toArray kp) ∈ nx) (hal : AllLL nx its pss) (htot : pss.flatten.length ≤ 5000) (F : Fr h₀ L s.heap m) (hn : ∃ m', s.heap.Ns C m') (N : News h₀ L s.heap ((D, LCg.lst []) :: nx)) (hit : s.heap.IsListIter I ap 0)
    (off : ∀ p ∈ nx, p.1 ≠ I ∧ p.1 ≠ C ∧ p.1 ≠ D) (hIC : I ≠ C) (hID : I ≠ D) (hCD : C ≠ D) (hIL : I ≠ L) (hCL : C ≠ L) (hI0 : h₀.get? I = none) (hC0 : h₀.get? C = none)
    (done : ∀ h tk m' ys, IntsAre ys (toI pss.flatten) → Fr h₀ L h m → h.Ns C m' → News h₀ L h ((D, LCg.lst ys) :: nx) → R (.ok .next) { s with heap := h, toks := tk })
    (hs : ∀ v, foldedSetIterable (.Name x px2) (compEnvC scope cl C env) v = pure v := by intro _; rfl) :
    codeAny (model prog w) A (.compLoop (.ListComp (.Name y py2) [⟨.Name x px, itx, [], 0⟩, ⟨.Name y py, .Name x px2, [], 0⟩] scope pos) 0 (.ref I) (.ref D) (compEnvC scope cl C env)) R s := by
  have hne : ap ≠ I := (off _ hap).1
  have W := Walks.list (prog := prog) (w := w) (A := A) hh I ap hne its.toArray
  have hvs : its.toArray.size = its.length := List.size_toArray
  have hlen := allLL_len hal
  refine loop_out (fun q s' => ∃ i h tk m' ys, q = its.length + 1 - i ∧ i ≤ its.length ∧ s' = { s with heap := h, toks := tk } ∧ h.IsListIter I ap i ∧ Fr h₀ L h m ∧ h.Ns C m' ∧ News h₀ L h ((D, LCg.lst ys) :: nx) ∧ IntsAre ys (toI (pss.take i).flatten)) ?_ (its.length + 1) ?_ (hs := hs)
  · rintro q s' ⟨i, h, tk, m', ys, rfl, hi, rfl, hst, F, hn, N, hys⟩
    have hl : h.IsList ap its.toArray := ⟨_, (N _ (List.mem_cons_of_mem _ hap)).1, rfl, kp, rfl⟩
    by_cases hlt : i < its.length
    · refine W.item i _ _ _ (by rw [hvs]; exact hlt) ⟨hst, hl⟩ fun v h₁ tk₁ hP hst₁ hk₁ => ?_
      have F₁ : Fr h₀ L h₁ m := LCg.fr_but F hk₁ hIL.symm hI0
      have N₁ : News h₀ L h₁ ((D, LCg.lst ys) :: nx) := LCg.news_but N hk₁ fun p hp => by
        rcases List.mem_cons.mp hp with rfl | hp
        · exact hID.symm
        · exact (off p hp).1
      have hn₁ : h₁.Ns C m' := hn.at' fun o e => hk₁ _ o (by simpa using hIC.symm) e
      refine wpAny_assign_Name (wpAny_storeName_local (lookup_relabel_local hx) hn₁ (fun h₂ hn₂ hs₂ => ?_) (by simp [compEnvC, relabel, hkind]))
      have F₂ : Fr h₀ L h₂ m := F₁.change hs₂ hCL hC0
      have N₂ : News h₀ L h₂ ((D, LCg.lst ys) :: nx) := fun p hp => by
        refine ⟨hs₂.extBut _ _ ?_ (N₁ p hp).1, (N₁ p hp).2⟩
        rcases List.mem_cons.mp hp with rfl | hp
        · exact hCD.symm
        · exact (off p hp).2.1
      have hit₂ : h₂.IsListIter I ap (i + 1) := hst₁.1.at fun o e => hs₂.extBut _ o hIC e
      refine wpAny_Name (wpAny_loadName_local (v := v) (by simp [compEnvC, relabel, hkind]) (lookup_relabel_local hx) hn₂ (by simp) ?_) hdx
      have hv : its[i]? = some v := by simpa using hP
      obtain ⟨ns, hns, a, vs, k, rfl, _, hax, hia⟩ := allLL_get hal hv
      refine wpAny_pyIter_list (items := vs.toArray) ⟨_, (N₂ _ (List.mem_cons_of_mem _ hax)).1, rfl, k, rfl⟩ ?_
      obtain ⟨oI, hoI, hcI⟩ := hit₂
      have hlt2 : ∀ p ∈ (D, LCg.lst ys) :: nx, p.1 < h₂.objs.size := fun p hp => Heap.lt_size (N₂ p hp).1
      have hIlt : I < h₂.objs.size := Heap.lt_size hoI
      have hClt : C < h₂.objs.size := hn₂.lt
      have hLlt : L < h₂.objs.size := F₂.ns.lt
      have fresh₀ : h₀.get? h₂.objs.size = none := next_is_new F₂
      have hsum : ys.length + vs.length ≤ 10000 := by
        have e1 : ys.length = (pss.take i).flatten.length := by rw [hys.length, toI, List.length_map]
        have e2 : vs.length = ns.length := by rw [hia.length, toI, List.length_map]
        have e3 : (pss.take (i + 1)).flatten = (pss.take i).flatten ++ ns := by rw [List.take_add_one, hns]; simp
        have e4 := flat_len_le pss (i + 1)
        rw [e3, List.length_append] at e4
        omega
      have both : ∀ s₃ : Shared, s₃.heap = h₂.push { cls := .type "list_iterator", data := .fields #[.ref a, .int ((0 : Nat) : Int) 0] } → (∃ tk, s₃ = { s with heap := s₃.heap, toks := tk }) →
          codeAny (model prog w) A (.compLoop (.ListComp (.Name y py2) [⟨.Name x px, itx, [], 0⟩, ⟨.Name y py, .Name x px2, [], 0⟩] scope pos) 1 (.ref h₂.objs.size) (.ref D) (compEnvC scope cl C env)) (fun r s₅ => match r with
            | .ok _ => ∃ m_1, m_1 < its.length + 1 - i ∧ ∃ i h tk m' ys, m_1 = its.length + 1 - i ∧ i ≤ its.length ∧ s₅ = { s with heap := h, toks := tk } ∧ h.IsListIter I ap i ∧ Fr h₀ L h m ∧ h.Ns C m' ∧ News h₀ L h ((D, LCg.lst ys) :: nx) ∧ IntsAre ys (toI (pss.take i).flatten)
            | .error e => cameBackBy (model prog w) A (compEnvC scope cl C env) (notedBy (model prog w) A (compEnvC scope cl C env) fun e s' => R (.error e) s') e s₅) s₃ := by
        rintro s₃ hs3 ⟨tk₃, hs3'⟩
        have up : ∀ b o, h₂.get? b = some o → s₃.heap.get? b = some o := fun b o e => by rw [hs3]; exact Heap.get?_push_of_some _ e
        refine flat_in (a := a) (vs := vs) (k := k) (ys := ys) (nx := (I, oI) :: nx) hh hkind hy hdb (List.mem_cons_of_mem _ hax) (F₂.keeps up) ⟨_, hn₂.at' fun o e => up _ o e⟩ ?_ ⟨_, by rw [hs3]; exact Heap.get?_push_size _ rfl, rfl, rfl⟩ ?_ (Nat.ne_of_gt hClt) (Nat.ne_of_gt (hlt2 _ List.mem_cons_self)) hCD (Nat.ne_of_gt hLlt) hCL fresh₀ hC0 hsum ?_
        · intro p hp
          rcases List.mem_cons.mp hp with rfl | hp
          · exact ⟨up _ _ (N₂ _ List.mem_cons_self).1, (N₂ _ List.mem_cons_self).2⟩
          · rcases List.mem_cons.mp hp with rfl | hp
            · exact ⟨up _ _ hoI, hIL, hI0⟩
            · exact ⟨up _ _ (N₂ _ (List.mem_cons_of_mem _ hp)).1, (N₂ _ (List.mem_cons_of_mem _ hp)).2⟩
        · intro p hp
          rcases List.mem_cons.mp hp with rfl | hp
          · exact ⟨Nat.ne_of_lt hIlt, hIC, hID⟩
          · exact ⟨Nat.ne_of_lt (hlt2 _ (List.mem_cons_of_mem _ hp)), (off p hp).2⟩
        · intro h₅ tk₅ m₅ F₅ hn₅ N₅
          refine ⟨its.length + 1 - (i + 1), by omega, i + 1, h₅, tk₅, m₅, ys ++ vs, rfl, hlt, by rw [hs3'], ⟨oI, (N₅ _ (List.mem_cons_of_mem _ List.mem_cons_self)).1, hcI⟩, F₅, hn₅, fun p hp => ?_, ?_⟩
          · rcases List.mem_cons.mp hp with rfl | hp
            · exact N₅ _ List.mem_cons_self
            · exact N₅ _ (List.mem_cons_of_mem _ (List.mem_cons_of_mem _ hp))
          · have e3 : (pss.take (i + 1)).flatten = (pss.take i).flatten ++ ns := by rw [List.take_add_one, hns]; simp
            rw [e3, toI, List.map_append]
            exact IntsAre.append hys hia
      refine start_in (both _ rfl ⟨_, rfl⟩) ?_
      have hneA : a ≠ h₂.objs.size := Nat.ne_of_lt (hlt2 _ (List.mem_cons_of_mem _ hax))
      refine (Walks.list (prog := prog) (w := w) (A := A) hh h₂.objs.size a hneA vs.toArray).self 0 _ _ _ ⟨⟨_, Heap.get?_push_size _ rfl, rfl, rfl⟩, ⟨_, Heap.get?_push_of_some _ (N₂ _ (List.mem_cons_of_mem _ hax)).1, rfl, k, rfl⟩⟩ ?_
      exact both _ rfl ⟨_, rfl⟩
    · obtain rfl : i = its.length := Nat.le_antisymm hi (Nat.not_lt.mp hlt)
      refine W.done _ _ _ (by rw [hvs]; exact ⟨hst, hl⟩) fun h₁ tk₁ hk₁ => ?_
      rw [hlen, List.take_length] at hys
      refine done h₁ tk₁ m' ys hys (LCg.fr_but F hk₁ hIL.symm hI0) (hn.at' fun o e => hk₁ _ o (by simpa using hIC.symm) e) (LCg.news_but N hk₁ fun p hp => ?_)
      rcases List.mem_cons.mp hp with rfl | hp
      · exact hID.symm
      · exact (off p hp).1
  · obtain ⟨m', hn⟩ := hn
    exact ⟨0, s.heap, s.toks, m', [], rfl, Nat.zero_le _, rfl, hit, F, hn, N, .nil⟩
end
end Mine
namespace Mine
section
variable {prog : Program} {w : World} {A : Around} {E : Value → Shared → Prop} {s : Shared} {h₀ : Heap} {L : Addr} {m : Str → Option Value} {env : Env} {itx : PySem.Expr} {x y : Str} {px px2 py py2 pos : Pos} {scope : Scope} {cl : List (Str × Addr)} {news : Led}
theorem flat_block {RR : Value → Addr → Result → Shared → Prop} {I ap : Addr} {its : List Value} {kp : Nat} {pss : List (List Nat)} (hh : A.handled = none)
    (hcell : ∀ y ∈ scope.names, y.2 ≠ .cell) (hkind : scope.kind = .function) (hx : scope.names.lookup x = some .local) (hy : scope.names.lookup y = some .local) (hdx : (x == ("__debug__" : Str)) = false) (hdb : (y == ("__debug__" : Str)) = false)
    (hap : (ap, listOf its.toArray kp) ∈ news) (hal : AllLL news its pss) (htot : pss.flatten.length ≤ 5000) (F : Fr h₀ L s.heap m) (N : News h₀ L s.heap ((I, itL ap 0) :: news)) (off : ∀ p ∈ news, p.1 ≠ I)
    (done : ∀ C D h tk m' ys, IntsAre ys (toI pss.flatten) → Fr h₀ L h m → h.Ns C m' → News h₀ L h ((D, LCg.lst ys) :: news) → (∀ p ∈ news, p.1 ≠ C) → h₀.get? C = none → C ≠ L → C ≠ D → (∀ p ∈ (I, itL ap 0) :: news, p.1 < D) → RR (.ref D) C (.ok .next) { s with heap := h, toks := tk })
    (hs : ∀ C v, foldedSetIterable (.Name x px2) (compEnvC scope cl C env) v = pure v := by intro _ _; rfl) :
    wpAny (model prog w) A (newList []) (fun acc s₃ => wpAny (model prog w) A (newFunctionEnv scope env.globals cl [] env.qual none .none (some env)) (fun cenv s₄ =>
      codeAny (model prog w) A (.compStart (.ListComp (.Name y py2) [⟨.Name x px, itx, [], 0⟩, ⟨.Name y py, .Name x px2, [], 0⟩] scope pos) 0 (.ref I) acc { cenv with scope := relabel scope env }) (RR acc cenv.locals) s₄) E s₃) E s := by
  refine wpAny_newObj_type (wpAny_newFunctionEnv hcell (by intro y hy; simp at hy) (fun h₁ hns₁ hsb₁ => ?_) hkind)
  dsimp only at hns₁ hsb₁ ⊢
  generalize hH2 : s.heap.push { cls := .type "list", dict := none, data := .seq ([] : List Value).toArray } = H2 at hns₁ hsb₁ ⊢
  have hC : H2.objs.size = s.heap.objs.size + 1 := by rw [← hH2, Heap.size_push]
  have hDC : s.heap.objs.size < H2.objs.size := by rw [hC]; exact Nat.lt_succ_self _
  have lt : ∀ b, b < s.heap.objs.size → b ≠ H2.objs.size ∧ b ≠ s.heap.objs.size := fun b hb => ⟨Nat.ne_of_lt (Nat.lt_trans hb hDC), Nat.ne_of_lt hb⟩
  have old : ∀ b o, s.heap.get? b = some o → h₁.get? b = some o := fun b o e => hsb₁.extBut b o (lt b (Heap.lt_size e)).1 (Heap.get?_push_of_some _ (hH2 ▸ Heap.get?_push_of_some _ e))
  have hacc : h₁.get? s.heap.objs.size = some (LCg.lst []) := hsb₁.extBut _ _ (Nat.ne_of_lt hDC) (Heap.get?_push_of_some _ (hH2 ▸ Heap.get?_push_size _ rfl))
  have fresh₀ : ∀ a, s.heap.objs.size ≤ a → h₀.get? a = none := fun a ha => by
    cases e : h₀.get? a with
    | none => rfl
    | some o' => exact absurd (Heap.lt_size (F.keep a o' e)) (Nat.not_lt.mpr ha)
  have hLl := lt L F.ns.lt
  have hIm := N _ List.mem_cons_self
  have hIl := lt I (Heap.lt_size hIm.1)
  have hD₀ := fresh₀ _ (Nat.le_refl _)
  have hC₀ := fresh₀ _ (Nat.le_of_lt hDC)
  have hlt : ∀ p ∈ (I, itL ap 0) :: news, p.1 < s.heap.objs.size := fun p hp => Heap.lt_size (N p hp).1
  have hoff : ∀ p ∈ news, p.1 ≠ I ∧ p.1 ≠ H2.objs.size ∧ p.1 ≠ s.heap.objs.size := fun p hp => ⟨off p hp, (lt _ (hlt p (List.mem_cons_of_mem _ hp))).1, (lt _ (hlt p (List.mem_cons_of_mem _ hp))).2⟩
  have N₁ : News h₀ L h₁ ((s.heap.objs.size, LCg.lst []) :: news) := fun p hp => by
    rcases List.mem_cons.mp hp with rfl | hp
    · exact ⟨hacc, hLl.2.symm, hD₀⟩
    · exact ⟨old _ _ (N p (List.mem_cons_of_mem _ hp)).1, (N p (List.mem_cons_of_mem _ hp)).2⟩
  have hit : h₁.IsListIter I ap 0 := ⟨_, old _ _ hIm.1, rfl, rfl⟩
  have loop : ∀ s₃ : Shared, s₃ = { s with heap := h₁, toks := s.toks + ([] : List (Str × Value)).length } →
      codeAny (model prog w) A (.compLoop (.ListComp (.Name y py2) [⟨.Name x px, itx, [], 0⟩, ⟨.Name y py, .Name x px2, [], 0⟩] scope pos) 0 (.ref I) (.ref s.heap.objs.size) (compEnvC scope cl H2.objs.size env)) (RR (.ref s.heap.objs.size) H2.objs.size) s₃ := by
    rintro s₃ rfl
    refine flat_out hh hkind hx hy hdx hdb hap hal htot (F.keeps old) ⟨_, hns₁⟩ N₁ hit hoff hIl.1 hIl.2 (Nat.ne_of_gt hDC) hIm.2.1 hLl.1.symm hIm.2.2 hC₀ ?_ (hs := hs _)
    intro h tk m' ys hys F' hn' N'
    exact done _ _ h tk m' ys hys F' hn' N' (fun p hp => (hoff p hp).2.1) hC₀ hLl.1.symm (Nat.ne_of_gt hDC) hlt
  have W := Walks.list (prog := prog) (w := w) (A := A) hh I ap (off _ hap) its.toArray
  exact codeAny_compStart_list (loop _ rfl) (W.self 0 _ _ _ ⟨hit, ⟨_, old _ _ (N _ (List.mem_cons_of_mem _ hap)).1, rfl, kp, rfl⟩⟩ (loop _ rfl))
/-- a comprehension of two clauses stored under a local name -/
theorem flat_store {elt ty ity : PySem.Expr} {tx : PySem.Expr} {z : Str} {pz spos : Pos} {Q : Flow → Shared → Prop} (hsw : swapsWith (.ListComp elt [⟨tx, itx, [], 0⟩, ⟨ty, ity, [], 0⟩] scope pos) (some (.Name z pz)) spos.line env = pure true)
    (hclos : closureFor scope env = pure cl) (hkind : scope.kind = .function) (hnames : ∀ y ∈ scope.names, y.2 = .local → scope.names.lookup y.1 = some .local)
    (h : wpAny (model prog w) A (eval itx env) (fun xv s₁ => wpAny (model prog w) A (pyIter xv) (fun it s₂ => wpAny (model prog w) A (newList []) (fun acc s₃ => wpAny (model prog w) A (newFunctionEnv scope env.globals cl [] env.qual none .none (some env)) (fun cenv s₄ =>
      codeAny (model prog w) A (.compStart (.ListComp elt [⟨tx, itx, [], 0⟩, ⟨ty, ity, [], 0⟩] scope pos) 0 it acc { cenv with scope := relabel scope env }) (compPost (model prog w) A E (some (assign (.Name z pz) env)) (fun _ s' => Q .next s') acc cenv.locals) s₄) E s₃) E s₂) E s₁) E s)
    (hs : ∀ x, foldedSetIterable itx env x = pure x := by intro _; rfl) :
    wpAny (model prog w) A (exec (.Assign [.Name z pz] (.ListComp elt [⟨tx, itx, [], 0⟩, ⟨ty, ity, [], 0⟩] scope pos) spos) env) Q E s := by
  rw [exec_Assign_Name_used _ _ _ _ hsw]
  refine wpAny_bind (wpAny_standAt (wpAny_bind ?_))
  show wpAny _ A (do let _ ← comprehension (.ListComp elt [⟨tx, itx, [], 0⟩, ⟨ty, ity, [], 0⟩] scope pos) scope env _ (newList []) false (eval itx env) (some (assign (.Name z pz) env))) _ _ s
  exact wpAny_bind (wpAny_mono (wpAny_comprehension_free (use := some (assign (.Name z pz) env)) (Q := fun _ s' => Q .next s') rfl hs hclos hkind hnames h) (fun _ s' hq => wpAny_pure (wpAny_pure hq)) fun _ _ e => e)
end
end Mine

end

section
open PySem PySem.W PyProof.Rows
set_option maxRecDepth 100000
set_option maxHeartbeats 4000000
namespace Mine
example : PySem.Challenge.rw_mq0060_01 = PySem.Challenge.rw_mq0060_01 ∧ Mine.hd.heap_39 = Mine.hd.heap_39 := by
  k_fill
  exact ⟨rfl, rfl⟩
local macro_rules | `(tactic| walk_at "pyIter ref") => `(tactic| refine Stop.mk ?_)
local macro_rules | `(tactic| walk_at "exec For Name Call cons nil") => `(tactic| refine Stop.mk ?_)
local macro_rules | `(tactic| walk_at "call type:range") => `(tactic| refine Stop.mk ?_)
local macro_rules | `(tactic| walk_at "call ref") => `(tactic| refine Stop.mk ?_)
local macro_rules | `(tactic| walk_at "eval Lambda") => `(tactic| refine Stop.mk ?_)
local macro_rules | `(tactic| walk_at "exec Assign cons ListComp") => `(tactic| refine Stop.mk ?_)
local macro_rules | `(tactic| walk_at "eval ListComp") => `(tactic| refine Stop.mk ?_)
local macro_rules | `(tactic| walk_at "setItem ref int") => `(tactic| refine Stop.mk ?_)
local macro_rules | `(tactic| walk_at "subscriptTail Name Name ref int") => `(tactic| refine Stop.mk ?_)
local macro_rules | `(tactic| walk_at "subscriptTail Name BinOp ref int") => `(tactic| refine Stop.mk ?_)
local macro_rules | `(tactic| walk_at "subscriptTail Name Constant ref int") => `(tactic| refine Stop.mk ?_)
local macro_rules | `(tactic| walk_at "compareOp NotEq ref ref") => `(tactic| refine Stop.mk ?_)

/-- the body of the inner loop -/
def turnStmts : List Stmt := match lawStmts with
  | _ :: _ :: _ :: _ :: _ :: .For _ _ (.For _ _ b _ _ :: _) _ _ :: _ => b
  | _ => []
/-- what a turn leaves as it is -/
def KeepX (L d : Addr) (old new : Led) : Prop := ∀ p ∈ old, Hi p.1 → p.1 ≠ L + 1 + 1 → p.1 ≠ L + 1 + 1 + 1 → p.1 ≠ L + 1 + 1 + 1 + 1 → p.1 ≠ d → p ∈ new

theorem law_turn {w : World} {p : Program} {loose : List Str} {mean : ExcName → Option Value} {mg mb : Str → Option Value} {A₀ : Around} {base h₀ : Heap} {L fa : Addr} {m : Str → Option Value} {nz₀ : Led} {s : Shared} {Q : Flow → Shared → Prop} {E : Value → Shared → Prop}
    {d D ap I : Addr} {oI od : Obj} {ys vsp : List Value} {kp : Nat} {pss : List (List Nat)} {tq ts t : Tok} {vj vw : Option Value} {kvs : List (Int × Value)} {size i : Nat}
    (B : Below A₀ base [] h₀) (F : Fr h₀ L s.heap m) (X : (Mine.hd.heap_39 w.params).In h₀) (N : News h₀ L s.heap ((I, oI) :: nz₀)) (T : Top p loose mean mg mb h₀) (hC : Codes h₀)
    (hm : Nm m ap D pss.length tq) (hsz : m (Str.ofString "size") = some (.int (size : Nat) ts))
    (hq8 : pss.length ≤ 8) (htot : pss.flatten.length ≤ 7) (h2 : 2 ≤ size) (hsi : i + size ≤ pss.length) (hoff : ∀ p ∈ nz₀, p.1 ≠ I) (hvol : Vola oI)
    (x : LX w L d D ap ys vsp kp pss (some (.int (i : Nat) t)) vj vw kvs od nz₀) (hmi : MadeInv pss nz₀ kvs size i) (hl : kvs.length ≤ 5000)
    (ret : ∀ h' tk' ny kvs' od' vj' vw', Fr h₀ L h' m → News h₀ L h' ((I, oI) :: ny) → (∀ p ∈ ny, p.1 ≠ I) → LX w L d D ap ys vsp kp pss (some (.int (i : Nat) t)) vj' vw' kvs' od' ny → MadeInv pss ny kvs' size (i + 1) → kvs'.length ≤ kvs.length + 1 → KeepX L d nz₀ ny → Q .next { s with heap := h', toks := tk' }) :
    wpAny (model PR w) (callerA.deeper (lawEnv L fa)) (execs turnStmts (lawEnv L fa)) Q E s := by
  conv in turnStmts => whnf
  unfold lawEnv
  conv in (occs := *) lawScope => all_goals whnf
  rw [map_named hm.h1, map_named hm.h2, map_named hm.h3, map_named hsz] at F
  have x₂ := x.cons (q := (I, oI))
  obtain ⟨oM, hM1, hM2⟩ := x₂.cM
  obtain ⟨oi, hI1, hI2⟩ := x₂.cI
  obtain ⟨oj, hJ1, hJ2⟩ := x₂.cJ
  k_steps
  rename Fr _ _ _ _ => F₁
  refine store_led F₁ N hJ1 hJ2 ?_
  intro h₂ oj' F₂ N₂ hj2
  obtain ⟨j, hj⟩ : ∃ j, j = i + size - 1 := ⟨_, rfl⟩
  obtain ⟨tj, hj2⟩ : ∃ tj, oj'.data = .cell (some (.int (j : Nat) tj)) := ⟨_, hj2.trans (congrArg Data.cell (int_is (by omega)))⟩
  have hjI : L + 1 + 1 + 1 ≠ I := by
    obtain ⟨o, h1, _⟩ := x.cJ
    exact hoff _ h1
  have N₃ := upd_behind hjI N₂
  obtain ⟨x₃, kq⟩ := x.upJ ⟨_, fun p hp => N p (List.mem_cons_of_mem _ hp)⟩ hj2
  have hmi₃ := hmi.monoQ kq
  have hoff₃ := upd_off (o' := oj') hjI hoff
  have kx₃ : KeepX L d nz₀ ((L + 1 + 1 + 1, oj') :: off (L + 1 + 1 + 1) nz₀) := fun p hp _ _ h2 _ _ => List.mem_cons_of_mem _ (mem_off.mpr ⟨hp, h2⟩)
  generalize (L + 1 + 1 + 1, oj') :: off (L + 1 + 1 + 1) nz₀ = n3 at N₃ x₃ hmi₃ hoff₃ kx₃
  clear N N₂ hM1 hM2 hI1 hI2 hJ1 hJ2 x₂ kq hj2
  have x₄ := x₃.cons (q := (I, oI))
  obtain ⟨oM, hM1, hM2⟩ := x₄.cM
  obtain ⟨oi, hI1, hI2⟩ := x₄.cI
  obtain ⟨oj, hJ1, hJ2⟩ := x₄.cJ
  dsimp only
  k_steps
  refine Stop.out (wpAny_Assign_Name ?_ (by with_unfolding_all rfl))
  refine comp_eval (by with_unfolding_all rfl) rfl (by decide) ?_
  k_steps
  refine Stop.out (rng2 F₂ N₃ ?_)
  intro r h₄ tk₄ ta tb tc F₄ N₄ hr
  dsimp only
  k_steps
  refine Stop.out (pyIter_rng F₄ N₄ List.mem_cons_self ?_ ?_)
  · exact small_one (by omega) (by omega) (by omega) (by omega)
  intro I' h₅ F₅ N₅ hI'
  obtain ⟨n, hn⟩ : ∃ n, n + 1 = size := ⟨size - 1, by omega⟩
  have hrs : Builtin.Range.rangeSize (i : Nat) (j : Nat) 1 = ((n : Nat) : Int) := (rangeSize_nat (i : Nat) (j : Nat)).trans (by omega)
  rw [hrs] at N₅
  have kp₁ : Keep n3 ((r, rngObj (i : Nat) (j : Nat) 1 ta tb tc) :: (I, oI) :: n3) := Keep.cons.trans Keep.cons
  have x₅ : LX w L d D ap ys vsp kp pss (some (.int (i : Nat) t)) (some (.int (j : Nat) tj)) vw kvs od ((r, rngObj (i : Nat) (j : Nat) 1 ta tb tc) :: (I, oI) :: n3) := x₃.cons.cons
  have hmi₅ : MadeInv pss ((r, rngObj (i : Nat) (j : Nat) 1 ta tb tc) :: (I, oI) :: n3) kvs size i := hmi₃.monoQ kp₁.s.q
  refine comp_block (n := n) (S := fun _ => True) (Walks.range rfl I' (i : Nat) 1 n)
    (fun k zs nz => Keep ((r, rngObj (i : Nat) (j : Nat) 1 ta tb tc) :: (I, oI) :: n3) nz ∧ Tabs nz ∧ AllT nz zs (List.replicate k (told (seg pss i j), (seg pss i j).length))) (fun i h st => ⟨_, st⟩) (fun i h h2 o nw st e e2 _ N9 hS => e2.trans (e.symm.trans st)) (by decide) rfl rfl (by rw [sizeLine_eq]; omega) ?_ F₅ N₅ (fun p hp => Nat.ne_of_lt (hI' p hp)) ?_ trivial ⟨Keep.refl _, x₅.tabs, trivial⟩ ?_ ?_
  · intro b hb
    rw [List.mem_singleton.mp hb]
    exact Heap.lt_size (N₅ _ List.mem_cons_self).1
  · show IsRangeIter _ _ _ _ _
    simpa using (N₅ _ List.mem_cons_self).1
  · rintro C D' k v zs nz m₂ s₄ h tk oI' oC ⟨g₄, tk₄, rfl⟩ hlD hDC hk ⟨tv, rfl⟩ hyl ⟨hkz, hTz, hys⟩ _ hst hnC hmx F₆ N₆ hoff₆
    have x₆ := (x₅.keep hkz hTz).cons (q := (D', LCg.lst zs)) |>.cons (q := (C, oC)) |>.cons (q := (I', oI'))
    have hmi₆ := hmi₅.monoQ hkz.s.q
    obtain ⟨oM, hM1, hM2⟩ := x₆.cM
    obtain ⟨oi, hI1, hI2⟩ := x₆.cI
    obtain ⟨oj, hJ1, hJ2⟩ := x₆.cJ
    k_steps
    rw [show ((i : Int) * 32 + ((i : Int) + (k : Int) * 1)) = ((i * 32 + (i + k) : Nat) : Int) by omega]
    obtain ⟨v1, e1, t1⟩ := hmi₆ i (i + k) (by omega) (by omega) (.inl (by omega))
    refine Stop.out (ditem_led N₆ x₆.dm x₆.dd e1 ?_)
    intro tk₇
    dsimp only
    k_steps
    rw [show (((i : Int) + (k : Int) * 1 + 1) * 32 + (j : Int)) = (((i + k + 1) * 32 + j : Nat) : Int) by omega]
    obtain ⟨v2, e2, t2⟩ := hmi₆ (i + k + 1) j (by omega) (by omega) (.inl (by omega))
    refine Stop.out (ditem_led N₆ x₆.dm x₆.dd e2 ?_)
    intro tk₈
    dsimp only
    k_steps
    have up : KeepT nz ((I', oI') :: (C, oC) :: (D', LCg.lst zs) :: nz) := KeepT.cons.trans (KeepT.cons.trans KeepT.cons)
    refine Stop.out (put_spec x₆.tabs (t1.mono up.s) (t2.mono up.s) (Nat.le_trans (seg_len _ _ _) (by omega)) _ _ _ _ _ _ _ _ _ _ _ _ _ _ _ _ _ B F₆ X N₆ T hC rfl (by decide) (by decide) ?_)
    rintro r' n₂ h₇ tk₉ F₇ N₇ ⟨hK₂, hT₃, htup⟩
    have hvI : Vola oI' := by
      have e := (N₆ _ List.mem_cons_self).1
      rw [show h.get? I' = _ from hst] at e; cases e
      exact iterG_vola _ _ _
    obtain ⟨nz', N₈, off₈, k₈, t₈, u₈⟩ := comp_fin hoff₆ hTz N₇ hK₂ hT₃ hvI hnC
    obtain ⟨q1, q2⟩ := seg_put pss (a := i) (k := i + k) (b := j) (by omega) (by omega)
    rw [q1, q2] at htup
    exact KEnd.intro F₇ N₈ off₈ trivial ⟨hkz.trans k₈, t₈, by rw [List.replicate_succ']; exact (hys.mono k₈.s).snoc (u₈ _ _ _ htup)⟩
  · intro C D' h tk m' zs nz hyl F₆ hn₆ N₆ hoff₆ hC₀ hCL hCD hlD _ ⟨hkz, hTz, hys⟩
    refine post_eval F₆ hn₆ N₆ (fun p hp => (hoff₆ p hp).2.1) hC₀ hCL hCD ?_
    intro h₇ F₇ N₇
    have hiI : Hi I := hi_of_tabs x₃.tabs hoff₃
    have hmI : (I, oI) ∈ (D', LCg.lst zs) :: nz := List.mem_cons_of_mem _ (hkz _ (List.mem_cons_of_mem _ List.mem_cons_self) hiI)
    have hDI : D' ≠ I := Nat.ne_of_gt (hlD _ (List.mem_cons_of_mem _ (List.mem_cons_of_mem _ List.mem_cons_self)))
    have hiD' : Hi D' := x₅.tabs.above fun p hp => hlD p (List.mem_cons_of_mem _ hp)
    have hdI : d ≠ I := hoff₃ _ x₃.dm
    have kT := off_keepT N₇ hmI hvol hiI
    have x₇ := ((x₅.keep hkz hTz).cons (q := (D', LCg.lst zs))).offI N₇ hmI hvol hiI hdI
    have hmi₇ := (hmi₅.monoQ hkz.s.q).monoQ (KeepT.cons (q := (D', LCg.lst zs)) |>.trans kT).s.q
    have hys₇ := hys.mono (KeepT.cons (q := (D', LCg.lst zs)) |>.trans kT).s
    have hD₇ : (D', LCg.lst zs) ∈ off I ((D', LCg.lst zs) :: nz) := mem_off.mpr ⟨List.mem_cons_self, hDI⟩
    have kx₇ : ∀ p ∈ n3, Hi p.1 → p ∈ off I ((D', LCg.lst zs) :: nz) := fun p hp hh => mem_off.mpr ⟨List.mem_cons_of_mem _ (hkz _ (List.mem_cons_of_mem _ (List.mem_cons_of_mem _ hp)) hh), hoff₃ _ hp⟩
    have N₈ : News h₀ L h₇ ((I, oI) :: off I ((D', LCg.lst zs) :: nz)) := fun q hq => by
      rcases List.mem_cons.mp hq with rfl | hq
      · exact N₇ _ hmI
      · exact N₇ _ (off_sub _ hq)
    have hoff₇ : ∀ p ∈ off I ((D', LCg.lst zs) :: nz), p.1 ≠ I := off_ne
    generalize off I ((D', LCg.lst zs) :: nz) = n5 at N₈ x₇ hmi₇ hys₇ hD₇ kx₇ hoff₇
    clear N₇ N₆ F₆ kT hmI hkz hTz hys hn₆ hoff₆
    obtain ⟨ow, hW1, hW2⟩ := x₇.cW
    have hWI : L + 1 + 1 + 1 + 1 ≠ I := hoff₇ _ hW1
    refine store_led F₇ N₈ (List.mem_cons_of_mem _ hW1) hW2 ?_
    intro h₈ ow' F₈ N₉ hw2
    have N₁₀ := upd_behind hWI N₉
    obtain ⟨x₈, kq⟩ := x₇.upW ⟨_, fun p hp => N₈ p (List.mem_cons_of_mem _ hp)⟩ hw2
    have hmi₈ := hmi₇.monoQ kq
    have hys₈ := hys₇.monoQ kq
    have hD₈ := kq _ hD₇ hiD' ⟨_, _, rfl⟩
    have hoff₈ := upd_off (o' := ow') hWI hoff₇
    have kx₈ : KeepX L d nz₀ ((L + 1 + 1 + 1 + 1, ow') :: off (L + 1 + 1 + 1 + 1) n5) := fun p hp q0 q1 q2 q3 q4 => List.mem_cons_of_mem _ (mem_off.mpr ⟨kx₇ _ (kx₃ p hp q0 q1 q2 q3 q4) q0, q3⟩)
    generalize (L + 1 + 1 + 1 + 1, ow') :: off (L + 1 + 1 + 1 + 1) n5 = n6 at N₁₀ x₈ hmi₈ hys₈ hD₈ hoff₈ kx₈
    clear N₈ N₉ kq hw2 hW1 hW2 x₇ hmi₇ hys₇ hD₇ hoff₇ kx₇
    clear hM1 hM2 hI1 hI2 hJ1 hJ2 x₄
    have x₉ := x₈.cons (q := (I, oI))
    obtain ⟨oM, hM1, hM2⟩ := x₉.cM
    obtain ⟨oi, hI1, hI2⟩ := x₉.cI
    obtain ⟨oj, hJ1, hJ2⟩ := x₉.cJ
    obtain ⟨ow, hW1, hW2⟩ := x₉.cW
    have hz0 : zs[0]? = some zs[0] := List.getElem?_eq_getElem (by omega)
    dsimp only
    k_steps
    refine Stop.out (compT_eval (by with_unfolding_all rfl) rfl (by decide) ?_)
    k_steps
    refine Stop.out (pyIter_led F₈ N₁₀ (List.mem_cons_of_mem _ hD₈) ?_)
    intro I2 h₉ F₉ N₁₁ hI2l
    have hne2 : D' ≠ I2 := Nat.ne_of_lt (hI2l _ (List.mem_cons_of_mem _ hD₈))
    refine compT_block (Walks.list rfl I2 D' hne2 zs.toArray) (fun i h st => by obtain ⟨o, e, _⟩ := st.1; exact ⟨o, e⟩) ?_ (by decide) rfl rfl ?_ F₉ N₁₁ (fun p hp => Nat.ne_of_lt (hI2l p hp)) ?_ ?_ ?_
    · intro i h h2 o st e e2 N9
      exact ⟨by obtain ⟨o', q, r⟩ := st.1; rw [e] at q; cases q; exact ⟨o, e2, r⟩, ⟨_, (N9 _ (List.mem_cons_of_mem _ hD₈)).1, rfl, _, rfl⟩⟩
    · intro b hb
      rcases List.mem_cons.mp hb with rfl | hb
      · exact Heap.lt_size (N₁₁ _ List.mem_cons_self).1
      · rw [List.mem_singleton.mp hb]; exact Heap.lt_size (N₁₁ _ (List.mem_cons_of_mem _ (List.mem_cons_of_mem _ hD₈))).1
    · exact ⟨⟨_, (N₁₁ _ List.mem_cons_self).1, rfl, rfl⟩, ⟨_, (N₁₁ _ (List.mem_cons_of_mem _ (List.mem_cons_of_mem _ hD₈))).1, rfl, _, rfl⟩⟩
    · rintro C3 D3 k v m₂ s₄ h tk oI3 oC ⟨g₄, tk₄, rfl⟩ hlD3 hDC3 hk hP hnC hmx F₁₂ N₁₂
      have x₁₂ := x₉.cons (q := (D3, LCg.lst [])) |>.cons (q := (C3, oC)) |>.cons (q := (I2, oI3))
      obtain ⟨ow3, hW3, hW4⟩ := x₁₂.cW
      clear hM1 hM2 hI1 hI2 hJ1 hJ2 hW1 hW2
      have hv : zs[k]? = some v := by simpa using hP
      have up₁₂ : KeepT n6 ((I2, oI3) :: (C3, oC) :: (D3, LCg.lst []) :: (I, oI) :: n6) := (KeepT.cons.trans (KeepT.cons.trans (KeepT.cons.trans KeepT.cons)))
      have tv := (hys₈.rep hv).mono up₁₂.s
      have t0 := (hys₈.rep hz0).mono up₁₂.s
      have hD₁₂ := up₁₂ _ hD₈ (.inr (solid_seq rfl))
      obtain ⟨va, hva⟩ : ∃ a, v = .ref a := by obtain ⟨a, _, _, _, e, _⟩ := tv; exact ⟨a, e⟩
      obtain ⟨va0, hva0⟩ : ∃ a, zs[0] = .ref a := by obtain ⟨a, _, _, _, e, _⟩ := t0; exact ⟨a, e⟩
      rw [hva0] at t0
      subst hva
      k_steps
      refine Stop.out (item_led (i := 0) N₁₂ hD₁₂ (hz0.trans (congrArg some hva0)) (by decide) ?_)
      dsimp only
      k_steps
      refine Stop.out (ne_tup N₁₂ tv t0 (Nat.le_of_ble_eq_true rfl) ?_)
      k_steps
      exact ⟨rfl, h, _, rfl, F₁₂, N₁₂⟩
    · intro C3 D3 h tk m' F₁₂ hn₁₂ N₁₂ hoff₁₂ hC₀ hCL hCD hlD3
      refine post_eval F₁₂ hn₁₂ N₁₂ (fun p hp => (hoff₁₂ p hp).2.1) hC₀ hCL hCD ?_
      intro h₁₃ F₁₃ N₁₃
      clear F₁₂ hn₁₂ N₁₂ hoff₁₂
      have x₁₃ := x₉.cons (q := (D3, LCg.lst []))
      obtain ⟨oM, hM1, hM2⟩ := x₁₃.cM
      obtain ⟨oi, hI1, hI2⟩ := x₁₃.cI
      obtain ⟨oj, hJ1, hJ2⟩ := x₁₃.cJ
      obtain ⟨ow, hW1, hW2⟩ := x₁₃.cW
      dsimp only
      k_steps
      rename Fr h₀ L _ _ => F₁₄
      rename News h₀ L _ _ => N₁₄
      refine Stop.out (ne_nil N₁₄ (List.mem_cons_of_mem _ List.mem_cons_self) List.mem_cons_self (Nat.le_of_ble_eq_true rfl) ?_)
      clear hM1 hM2 hI1 hI2 hJ1 hJ2 hW1 hW2
      generalize hoN : (_, _) :: (D3, LCg.lst []) :: (I, oI) :: n6 = n14 at N₁₄
      have x₁₄ : LX w L d D ap ys vsp kp pss (some (.int (i : Nat) t)) (some (.int (j : Nat) tj)) (some (.ref D')) kvs od n14 := by rw [← hoN]; exact x₁₃.cons
      have k₁₄ : KeepT ((I, oI) :: n6) n14 := by rw [← hoN]; exact KeepT.cons.trans KeepT.cons
      have hsub : ∀ p ∈ (I, oI) :: n6, p ∈ n14 := by rw [← hoN]; exact fun p hp => List.mem_cons_of_mem _ (List.mem_cons_of_mem _ hp)
      clear hoN
      obtain ⟨oM, hM1, hM2⟩ := x₁₄.cM
      obtain ⟨oi, hI1, hI2⟩ := x₁₄.cI
      obtain ⟨oj, hJ1, hJ2⟩ := x₁₄.cJ
      obtain ⟨ow, hW1, hW2⟩ := x₁₄.cW
      k_steps
      have hD₁₄ := hsub _ (List.mem_cons_of_mem _ hD₈)
      have t0 := hys₈.rep hz0
      obtain ⟨va0, hva0⟩ : ∃ a, zs[0] = .ref a := by obtain ⟨a, _, _, _, e, _⟩ := t0; exact ⟨a, e⟩
      rw [hva0] at t0
      refine Stop.out (item_led (i := 0) N₁₄ hD₁₄ (hz0.trans (congrArg some hva0)) (by decide) ?_)
      dsimp only
      k_steps
      rw [show ((i : Int) * 32 + (j : Int)) = ((i * 32 + j : Nat) : Int) by omega]
      refine Stop.out (dset_led F₁₄ N₁₄ x₁₄.dm x₁₄.dd (by omega) ?_)
      intro h₁₅ o₁₅ tk₁₅ F₁₅ N₁₅ hd₁₅
      obtain ⟨x₁₅, kq⟩ := x₁₄.setD N₁₄ hd₁₅
      have hmI := hsub _ List.mem_cons_self
      have hmI₁₅ : (I, oI) ∈ (d, o₁₅) :: off d n14 := List.mem_cons_of_mem _ (mem_off.mpr ⟨hmI, hdI.symm⟩)
      have x₁₆ := x₁₅.offI N₁₅ hmI₁₅ hvol hiI hdI
      have kT := off_keepT N₁₅ hmI₁₅ hvol hiI
      have kfin : KeepQ n14 (off I ((d, o₁₅) :: off d n14)) := fun p hp hh hs => kT.s.q _ (kq p hp hh hs) hh hs
      have k6 : KeepQ n6 n14 := (KeepT.cons.trans k₁₄).s.q
      have kxf : KeepX L d nz₀ (off I ((d, o₁₅) :: off d n14)) := fun p hp q0 q1 q2 q3 q4 => mem_off.mpr ⟨List.mem_cons_of_mem _ (mem_off.mpr ⟨hsub _ (List.mem_cons_of_mem _ (kx₈ p hp q0 q1 q2 q3 q4)), q4⟩), hoff _ hp⟩
      have N₁₆ : News h₀ L h₁₅ ((I, oI) :: off I ((d, o₁₅) :: off d n14)) := fun q hq => by
        rcases List.mem_cons.mp hq with rfl | hq
        · exact N₁₅ _ hmI₁₅
        · exact N₁₅ _ (off_sub _ hq)
      have hmf := (hmi₈.monoQ k6).store (size' := size) (i' := i + 1) (x := i) (y := j) (v := .ref va0) hq8 kfin (by omega) ((t0.monoQ k6).monoQ kfin) (by intro a b h1 h2 h3; omega)
      dsimp only
      k_steps
      rw [← map_named hsz, ← map_named hm.h3, ← map_named hm.h2, ← map_named hm.h1] at F₁₅
      exact ret _ _ _ _ _ _ _ F₁₅ N₁₆ off_ne x₁₆ hmf (stored_len _ _ _) kxf
end Mine

end

section
open PySem PySem.W PyProof.Rows
set_option maxRecDepth 100000
set_option maxHeartbeats 4000000
namespace Mine
example : PySem.Challenge.rw_mq0060_01 = PySem.Challenge.rw_mq0060_01 ∧ Mine.hd.heap_39 = Mine.hd.heap_39 := by
  k_fill
  exact ⟨rfl, rfl⟩
local macro_rules | `(tactic| walk_at "pyIter ref") => `(tactic| refine Stop.mk ?_)
local macro_rules | `(tactic| walk_at "exec For Name Call cons nil") => `(tactic| refine Stop.mk ?_)
local macro_rules | `(tactic| walk_at "call type:range") => `(tactic| refine Stop.mk ?_)
local macro_rules | `(tactic| walk_at "call ref") => `(tactic| refine Stop.mk ?_)
local macro_rules | `(tactic| walk_at "eval Lambda") => `(tactic| refine Stop.mk ?_)
local macro_rules | `(tactic| walk_at "exec Assign cons ListComp") => `(tactic| refine Stop.mk ?_)
local macro_rules | `(tactic| walk_at "eval ListComp") => `(tactic| refine Stop.mk ?_)
local macro_rules | `(tactic| walk_at "setItem ref int") => `(tactic| refine Stop.mk ?_)
local macro_rules | `(tactic| walk_at "subscriptTail Name Name ref int") => `(tactic| refine Stop.mk ?_)

theorem law_a {w : World} {p : Program} {loose : List Str} {mean : ExcName → Option Value} {mg mb : Str → Option Value} {A₀ : Around} {base h₀ : Heap} {L fa : Addr} {m : Str → Option Value} {nx : Led} {s : Shared} {Q : Flow → Shared → Prop} {E : Value → Shared → Prop}
    {D ap : Addr} {ys vsp : List Value} {kp : Nat} {pss : List (List Nat)} {tq : Tok} {vi vj vw : Option Value}
    (B : Below A₀ base [] h₀) (F : Fr h₀ L s.heap m) (X : (Mine.hd.heap_39 w.params).In h₀) (N : News h₀ L s.heap nx) (T : Top p loose mean mg mb h₀) (hC : Codes h₀)
    (hi1 : Hi (L + 1)) (hi2 : Hi (L + 1 + 1)) (hi3 : Hi (L + 1 + 1 + 1)) (hi4 : Hi (L + 1 + 1 + 1 + 1)) (hiD : Hi D) (hia : Hi ap)
    (hm : Nm m ap D pss.length tq)
    (hq1 : 1 ≤ pss.length) (hq8 : pss.length ≤ 8)
    (hT : Tabs nx) (cM : CellV nx (L + 1) none) (cI : CellV nx (L + 1 + 1) vi) (cJ : CellV nx (L + 1 + 1 + 1) vj) (cW : CellV nx (L + 1 + 1 + 1 + 1) vw)
    (pr : (D, LCg.lst ys) ∈ nx) (at' : AllT nx ys (pss.map toldP)) (pc : (ap, listOf vsp.toArray kp) ∈ nx) (al : AllLL nx vsp pss)
    (ret : ∀ d od kvs m' ny h' tk' vi', Fr h₀ L h' m' → News h₀ L h' ny → Nm m' ap D pss.length tq →
      LX w L d D ap ys vsp kp pss vi' vj vw kvs od ny → MadeInv pss ny kvs 2 0 → kvs.length ≤ 8 →
      wpAny (model PR w) (callerA.deeper (lawEnv L fa)) (execs (lawStmts.drop 5) (lawEnv L fa)) Q E { s with heap := h', toks := tk' }) :
    wpAny (model PR w) (callerA.deeper (lawEnv L fa)) (execs (lawStmts.drop 3) (lawEnv L fa)) Q E s := by
  conv in (List.drop 3 lawStmts) => whnf
  unfold lawEnv at ret ⊢
  conv in (occs := *) lawScope => all_goals whnf
  have hm0 := hm
  rw [map_named hm.h1, map_named hm.h2, map_named hm.h3] at F
  k_steps
  rename_i d hh od F₁ N₁ hlt _ _ _ hid _
  obtain ⟨oM, cM1, cM2⟩ := cM
  refine store_led F₁ N₁ (List.mem_cons_of_mem _ cM1) cM2 ?_
  intro h₂ oM' F₂ N₂ hoM'
  have hdM : d ≠ L + 1 := Nat.ne_of_gt (hlt _ cM1)
  have hid' : Hi d := hT.above hlt
  have q1 := upd_keepQ (o' := oM') N₁ (List.mem_cons_of_mem _ cM1) (fun vs k e => by rw [cM2] at e; cases e)
  have x0 : LX w L d D ap ys vsp kp pss vi vj vw [] od ((L + 1, oM') :: off (L + 1) ((d, od) :: nx)) := by
    have up : ∀ {c v}, CellV nx c v → c ≠ L + 1 → CellV ((L + 1, oM') :: off (L + 1) ((d, od) :: nx)) c v := by
      rintro c v ⟨o, h1, h2⟩ hne
      exact CellV.other ⟨o, List.mem_cons_of_mem _ h1, h2⟩ hne
    have cq : KeepQ nx ((d, od) :: nx) := fun p hp _ _ => List.mem_cons_of_mem _ hp
    refine ⟨⟨hi1, hi2, hi3, hi4, hid', hiD, hia⟩, Tabs.upd N₁ (List.mem_cons_of_mem _ cM1) (fun vs e => by rw [cM2] at e; cases e) hi1 (hT.mono KeepT.cons), ⟨_, List.mem_cons_self, hoM'⟩, up cI (Nat.ne_of_gt (Nat.lt_succ_self _)), up cJ (Nat.ne_of_gt (Nat.lt_succ_of_lt (Nat.lt_succ_self _))), up cW (Nat.ne_of_gt (Nat.lt_succ_of_lt (Nat.lt_succ_of_lt (Nat.lt_succ_self _)))), ?_, (at'.monoQ cq).monoQ q1, ?_, (al.monoQ cq).monoQ q1, List.mem_cons_of_mem _ (mem_off.mpr ⟨List.mem_cons_self, hdM⟩), hid⟩
    · exact q1 _ (List.mem_cons_of_mem _ pr) hiD ⟨_, _, rfl⟩
    · exact q1 _ (List.mem_cons_of_mem _ pc) hia ⟨_, _, rfl⟩
  generalize (L + 1, oM') :: off (L + 1) ((d, od) :: nx) = n2 at N₂ x0
  clear N₁ q1
  dsimp only
  k_steps
  refine Stop.out (wpAny_For ?_)
  k_steps
  refine Stop.out (rng1 F₂ N₂ ?_)
  intro r h₃ tk₃ ta tb tc F₃ N₃ hr
  dsimp only
  k_steps
  refine Stop.out (pyIter_rng F₃ N₃ List.mem_cons_self ?_ ?_)
  · exact small_one (by omega) (by omega) (by omega) (by omega)
  intro I h₄ F₄ N₄ hI
  have hrs : Builtin.Range.rangeSize 0 (pss.length : Nat) 1 = ((pss.length : Nat) : Int) := (rangeSize_nat 0 (pss.length : Nat)).trans (by omega)
  refine for_rngC (n := pss.length) (c := L + 1 + 1) (fun i m nx => Nm m ap D pss.length tq ∧ ∃ vi' kvs od, LX w L d D ap ys vsp kp pss vi' vj vw kvs od nx ∧ kvs.length ≤ i ∧ MadeInv pss nx kvs 1 i ∧ ∃ h, News h₀ L h nx) rfl rfl rfl rfl hrs F₄ N₄ hI ⟨⟨rfl, rfl, rfl⟩, vi, [], od, x0.cons, Nat.le_refl _, ?_, _, N₃⟩ ?_ ?_ ?_
  · intro a b h1 h2 h3; omega
  · rintro i m' ny ⟨_, vi', kvs, od', x, _⟩
    obtain ⟨o, h1, h2⟩ := x.cI
    exact ⟨o, _, h1, h2⟩
  · rintro i t m' ny h tk oI oc hi hoff ⟨hnm, vi', kvs, od', x, hl, hmi, hN⟩ hvol hoc F₅ N₅
    rw [show (0 + (i : Int) * 1) = ((i : Nat) : Int) by omega] at hoc
    obtain ⟨x₁, kq⟩ := x.turnI hN hoc
    have hmi₁ := hmi.monoQ kq
    have hoff₁ : ∀ p ∈ (L + 1 + 1, oc) :: off (L + 1 + 1) ny, p.1 ≠ I := by
      obtain ⟨o, h1, _⟩ := x.cI
      exact upd_off (hoff _ h1) hoff
    generalize (L + 1 + 1, oc) :: off (L + 1 + 1) ny = nz at N₅ x₁ hmi₁ hoff₁
    clear hoc kq x hmi hN
    have x₂ := x₁.cons (q := (I, oI))
    obtain ⟨oM, hM1, hM2⟩ := x₂.cM
    obtain ⟨oi, hI1, hI2⟩ := x₂.cI
    have hyl : ys.length = pss.length := by rw [x₂.at'.length]; simp
    have hyi : ys[i]? = some ys[i] := List.getElem?_eq_getElem (by omega)
    obtain ⟨c, hc, htu⟩ := x₁.at'.get hyi
    rw [map_named hnm.h2] at F₅
    k_steps
    refine Stop.out (item_led N₅ x₂.pr hyi (by omega) ?_)
    dsimp only
    k_steps
    rw [show ((i : Int) * 32 + (i : Int)) = ((i * 32 + i : Nat) : Int) by omega]
    refine Stop.out (dset_led F₅ N₅ x₂.dm x₂.dd (by omega) ?_)
    intro h₆ o₆ tk₆ F₆ N₆ hd₆
    have hdI : d ≠ I := hoff₁ _ x₁.dm
    have N₇ := upd_behind hdI N₆
    obtain ⟨x₃, kq₃⟩ := x₁.setD (fun p hp => N₅ p (List.mem_cons_of_mem _ hp)) hd₆
    dsimp only
    k_steps
    rw [← map_named hnm.h2] at F₆
    have hpi : pss[i]? = some pss[i] := List.getElem?_eq_getElem hi
    rw [List.getElem?_map, hpi] at hc
    have hc' : toldP pss[i] = c := Option.some.inj hc
    subst hc'
    refine TEnd.intro F₆ N₇ (upd_off hdI hoff₁) trivial ⟨hnm, _, _, _, x₃, ?_, ?_, _, fun p hp => N₇ p (List.mem_cons_of_mem _ hp)⟩
    · exact Nat.le_trans (stored_len _ _ _) (by omega)
    · refine hmi₁.store hq8 kq₃ (by omega) ?_ ?_
      · rw [seg_self hpi]
        exact htu.monoQ kq₃
      · intro a b h1 h2 h3; omega
  · rintro m' ny h tk ⟨hnm, vi', kvs, od', x, hl, hmi, hN⟩ F₅ N₅
    dsimp only
    exact ret d od' kvs m' ny h tk vi' F₅ N₅ hnm x (hmi.le (by intro a b h1 h2 h3; omega)) (by omega)
end Mine

end

section
open PySem PySem.W PyProof.Rows
set_option maxRecDepth 100000
set_option maxHeartbeats 4000000
namespace Mine
example : PySem.Challenge.rw_mq0060_01 = PySem.Challenge.rw_mq0060_01 ∧ Mine.hd.heap_39 = Mine.hd.heap_39 := by
  k_fill
  exact ⟨rfl, rfl⟩
local macro_rules | `(tactic| walk_at "pyIter ref") => `(tactic| refine Stop.mk ?_)
local macro_rules | `(tactic| walk_at "exec For Name Call cons nil") => `(tactic| refine Stop.mk ?_)
local macro_rules | `(tactic| walk_at "call type:range") => `(tactic| refine Stop.mk ?_)

theorem law_c {w : World} {p : Program} {loose : List Str} {mean : ExcName → Option Value} {mg mb : Str → Option Value} {A₀ : Around} {base h₀ : Heap} {L fa : Addr} {m : Str → Option Value} {nx : Led} {s : Shared} {Q : Flow → Shared → Prop} {E : Value → Shared → Prop}
    {d D ap : Addr} {od : Obj} {ys vsp : List Value} {kp : Nat} {pss : List (List Nat)} {tq : Tok} {vi vj vw : Option Value} {kvs : List (Int × Value)}
    (B : Below A₀ base [] h₀) (F : Fr h₀ L s.heap m) (X : (Mine.hd.heap_39 w.params).In h₀) (N : News h₀ L s.heap nx) (T : Top p loose mean mg mb h₀) (hC : Codes h₀)
    (hm : Nm m ap D pss.length tq) (hq1 : 1 ≤ pss.length) (hq8 : pss.length ≤ 8) (htot : pss.flatten.length ≤ 7)
    (x : LX w L d D ap ys vsp kp pss vi vj vw kvs od nx) (hmi : MadeInv pss nx kvs 2 0) (hl : kvs.length ≤ 8)
    (ret : ∀ od kvs m' ny h' tk' vi vj vw, Fr h₀ L h' m' → News h₀ L h' ny → Nm m' ap D pss.length tq →
      LX w L d D ap ys vsp kp pss vi vj vw kvs od ny → MadeInv pss ny kvs (pss.length + 1) 0 →
      wpAny (model PR w) (callerA.deeper (lawEnv L fa)) (execs (lawStmts.drop 6) (lawEnv L fa)) Q E { s with heap := h', toks := tk' }) :
    wpAny (model PR w) (callerA.deeper (lawEnv L fa)) (execs (lawStmts.drop 5) (lawEnv L fa)) Q E s := by
  conv in (List.drop 5 lawStmts) => whnf
  unfold lawEnv at ret ⊢
  conv in (occs := *) lawScope => all_goals whnf
  rw [map_named hm.h1, map_named hm.h2, map_named hm.h3] at F
  k_steps
  refine Stop.out (wpAny_For ?_)
  k_steps
  refine Stop.out (rng2 F N ?_)
  intro r h₃ tk₃ ta tb tc F₃ N₃ hr
  dsimp only
  k_steps
  refine Stop.out (pyIter_rng F₃ N₃ List.mem_cons_self ?_ ?_)
  · exact small_one (by omega) (by omega) (by omega) (by omega)
  intro I h₄ F₄ N₄ hI
  obtain ⟨n, hn⟩ : ∃ n, n + 1 = pss.length := ⟨pss.length - 1, by omega⟩
  have hrs : Builtin.Range.rangeSize 2 ((pss.length : Nat) + 1) 1 = ((n : Nat) : Int) := (rangeSize_nat 2 ((pss.length : Nat) + 1)).trans (by omega)
  refine for_rng (n := n) (fun t m nx => Nm m ap D pss.length tq ∧ ∃ vi vj vw kvs od, LX w L d D ap ys vsp kp pss vi vj vw kvs od nx ∧ kvs.length ≤ 8 + 8 * t ∧ MadeInv pss nx kvs (2 + t) 0 ∧ ∃ h, News h₀ L h nx) rfl rfl rfl hrs F₄ N₄ hI ⟨⟨rfl, rfl, rfl⟩, vi, vj, vw, kvs, od, x.cons, hl, hmi.monoQ Keep.cons.s.q, _, N₃⟩ ?_ ?_
  · rintro t t₇ m₂ ny h tk oI ht hoff ⟨hnm, vi, vj, vw, kvs, od, x, hl, hmi, hN⟩ hvol F₅ N₅
    have hiI : Hi I := hi_of_tabs x.tabs hoff
    rw [show ((2 : Int) + (t : Int) * 1) = ((2 + t : Nat) : Int) by omega, map_named hnm.h3] at F₅
    k_steps
    refine Stop.out (wpAny_For ?_)
    k_steps
    rw [show ((pss.length : Int) - ((2 + t : Nat) : Int) + 1) = ((n - t : Nat) : Int) by omega]
    refine Stop.out (rng1 F₅ N₅ ?_)
    intro r2 h₆ tk₆ ta tb tc F₆ N₆ hr2
    dsimp only
    k_steps
    refine Stop.out (pyIter_rng F₆ N₆ List.mem_cons_self ?_ ?_)
    · exact small_one (by omega) (by omega) (by omega) (by omega)
    intro I2 h₇ F₇ N₇ hI2
    have hrs2 : Builtin.Range.rangeSize 0 ((n - t : Nat) : Int) 1 = ((n - t : Nat) : Int) := (rangeSize_nat 0 ((n - t : Nat) : Int)).trans (by omega)
    have x₅ := (x.cons (q := (I, oI))).cons (q := (r2, rngObj 0 ((n - t : Nat) : Int) 1 ta tb tc))
    have hcells : I ≠ d ∧ I ≠ L + 1 + 1 ∧ I ≠ L + 1 + 1 + 1 ∧ I ≠ L + 1 + 1 + 1 + 1 := by
      obtain ⟨_, c1, _⟩ := x.cI
      obtain ⟨_, c2, _⟩ := x.cJ
      obtain ⟨_, c3, _⟩ := x.cW
      exact ⟨(hoff _ x.dm).symm, (hoff _ c1).symm, (hoff _ c2).symm, (hoff _ c3).symm⟩
    refine for_rngC (n := n - t) (c := L + 1 + 1) (fun i m nx => Nm m ap D pss.length tq ∧ m (Str.ofString "size") = some (.int ((2 + t : Nat) : Int) t₇) ∧ (I, oI) ∈ nx ∧ ∃ vi vj vw kvs od, LX w L d D ap ys vsp kp pss vi vj vw kvs od nx ∧ kvs.length ≤ 8 + 8 * t + i ∧ MadeInv pss nx kvs (2 + t) i ∧ ∃ h, News h₀ L h nx)
      rfl rfl rfl rfl hrs2 F₇ N₇ hI2 ⟨⟨hnm.h1, hnm.h2, rfl⟩, rfl, List.mem_cons_of_mem _ List.mem_cons_self, vi, vj, vw, kvs, od, x₅, by omega, hmi.monoQ (Keep.cons.trans Keep.cons).s.q, _, N₆⟩ ?_ ?_ ?_
    · rintro i m' nz ⟨_, _, _, vi', _, _, _, _, x, _⟩
      obtain ⟨o, h1, h2⟩ := x.cI
      exact ⟨o, _, h1, h2⟩
    · rintro i t₈ m₃ nz h tk oI2 oc hi hoff2 ⟨hnm, hsz, hIm, vi, vj, vw, kvs, od, x, hl, hmi, hN⟩ hvol2 hoc F₈ N₈
      rw [show (0 + (i : Int) * 1) = ((i : Nat) : Int) by omega] at hoc
      obtain ⟨x₁, kq⟩ := x.turnI hN hoc
      have hmi₁ := hmi.monoQ kq
      have hoff₁ : ∀ p ∈ (L + 1 + 1, oc) :: off (L + 1 + 1) nz, p.1 ≠ I2 := by
        obtain ⟨o, h1, _⟩ := x.cI
        exact upd_off (hoff2 _ h1) hoff2
      have hIm₁ : (I, oI) ∈ (L + 1 + 1, oc) :: off (L + 1 + 1) nz := List.mem_cons_of_mem _ (mem_off.mpr ⟨hIm, hcells.2.1⟩)
      refine law_turn (size := 2 + t) (i := i) B F₈ X N₈ T hC hnm hsz hq8 htot (by omega) (by omega) hoff₁ hvol2 x₁ hmi₁ (by omega) ?_
      intro h' tk' ny' kvs' od' vj' vw' F₉ N₉ hoff₉ x₉ hmi₉ hl₉ kx₉
      exact TEnd.intro F₉ N₉ hoff₉ trivial ⟨hnm, hsz, kx₉ _ hIm₁ hiI hcells.2.1 hcells.2.2.1 hcells.2.2.2 hcells.1, _, _, _, _, _, x₉, by omega, hmi₉, _, fun p hp => N₉ p (List.mem_cons_of_mem _ hp)⟩
    · rintro m₃ nz h tk ⟨hnm, hsz, hIm, vi, vj, vw, kvs, od, x, hl, hmi, hN⟩ F₈ N₈
      dsimp only
      k_steps
      have x₉ := x.offI N₈ hIm hvol hiI hcells.1.symm
      have kT := off_keepT N₈ hIm hvol hiI
      refine TEnd.intro (nx := off I nz) F₈ ?_ off_ne trivial ⟨hnm, _, _, _, _, _, x₉, by omega, (hmi.monoQ kT.s.q).le (by intro a b h1 h2 h3; omega), _, fun p hp => N₈ p (off_sub _ hp)⟩
      intro q hq
      rcases List.mem_cons.mp hq with rfl | hq
      · exact N₈ _ hIm
      · exact N₈ _ (off_sub _ hq)
  · rintro m' ny h tk ⟨hnm, vi, vj, vw, kvs, od, x, hl, hmi, hN⟩ F₅ N₅
    dsimp only
    exact ret od kvs m' ny h tk vi vj vw F₅ N₅ hnm x (hmi.le (by intro a b h1 h2 h3; omega))
end Mine

end

section
open PySem PySem.W PyProof.Rows
set_option maxRecDepth 100000
set_option maxHeartbeats 4000000
namespace Mine
example : PySem.Challenge.rw_mq0060_01 = PySem.Challenge.rw_mq0060_01 ∧ Mine.hd.heap_39 = Mine.hd.heap_39 := by
  k_fill
  exact ⟨rfl, rfl⟩
local macro_rules | `(tactic| walk_at "pyIter ref") => `(tactic| refine Stop.mk ?_)
local macro_rules | `(tactic| walk_at "call ref") => `(tactic| refine Stop.mk ?_)
local macro_rules | `(tactic| walk_at "eval Lambda") => `(tactic| refine Stop.mk ?_)
section
variable {w : World} {p : Program} {loose : List Str} {mean : ExcName → Option Value} {mg mb : Str → Option Value} {D U : Nat} {fv : Value} {args : List Value} {news : Led}
theorem CallW.mono {Post Post' : Value → Led → Prop} (h : CallW w p loose mean mg mb D U fv args news Post) (i : ∀ r new, Post r new → Post' r new) : CallW w p loose mean mg mb D U fv args news Post' := by
  unfold CallW at h ⊢
  intro dp un gd cn cs a ccd cl outer A₀ base h₀ L m s Q E B F X N T hC hk hd hu ret
  exact h dp un gd cn cs a ccd cl outer A₀ base h₀ L m s Q E B F X N T hC hk hd hu fun r new h' tk' F' N' P => ret r new h' tk' F' N' (i _ _ P)
theorem map_toldP {qss : List (List Nat)} {i : Nat} {c : Nat × Nat} (h : (qss.map toldP)[i]? = some c) : ∃ ns, qss[i]? = some ns ∧ c = (told ns, ns.length) := by
  rw [List.getElem?_map] at h
  cases e : qss[i]? with
  | none => rw [e] at h; cases h
  | some ns => rw [e] at h; cases h; exact ⟨ns, rfl, rfl⟩
theorem get_len_le {qss : List (List Nat)} {i : Nat} {ns : List Nat} (h : qss[i]? = some ns) : ns.length ≤ qss.flatten.length := by
  induction qss generalizing i with
  | nil => simp at h
  | cons a r ih =>
    rw [List.flatten_cons, List.length_append]
    cases i with
    | zero => simp at h; subst h; omega
    | succ i => have := ih (i := i) (by simpa using h); omega
theorem take_flat {qss : List (List Nat)} {i : Nat} {ns : List Nat} (h : qss[i]? = some ns) : (qss.take (i + 1)).flatten = (qss.take i).flatten ++ ns := by
  rw [List.take_add_one, h]; simp
theorem AllT.append {nx : Led} : ∀ {vs us : List Value} {cs ds : List (Nat × Nat)}, AllT nx vs cs → AllT nx us ds → AllT nx (vs ++ us) (cs ++ ds)
  | [], _, [], _, _, h => h
  | _ :: _, _, _ :: _, _, h, k => ⟨h.1, AllT.append h.2 k⟩
theorem AllT.reverse {nx : Led} : ∀ {vs : List Value} {cs : List (Nat × Nat)}, AllT nx vs cs → AllT nx vs.reverse cs.reverse
  | [], [], _ => trivial
  | v :: vs, c :: cs, h => by
    rw [List.reverse_cons, List.reverse_cons]
    exact AllT.append (AllT.reverse h.2) ⟨h.1, trivial⟩
theorem fn49 : FnOk (Mine.hd.heap_39 w.params) news 49 := .inr ⟨_, _, by rfl, rfl⟩

theorem red_put1 {Da : Addr} {ys : List Value} {k n : Nat} {qss : List (List Nat)} (hD : (Da, listOf ys.toArray k) ∈ news) (hi : Hi Da) (hT : Tabs news) (hat : AllT news ys (qss.map toldP)) (hq : qss.length = n + 1) (htot : qss.flatten.length ≤ 1000) :
    CallW w p loose mean mg mb 11 110 (.ref 23) [.ref 49, .ref Da] news (fun r new => Keep news new ∧ Tabs new ∧ Tup2 new r (told qss.flatten) qss.flatten.length) := by
  have hyl : ys.length = n + 1 := by rw [hat.length, List.length_map, hq]
  have hy0 : ys[0]? = some ys[0] := List.getElem?_eq_getElem (by omega)
  refine (red_list1 (D := 10) (U := 100) (n := n) (fun i nx v => Tup2 nx v (told (qss.take (i + 1)).flatten) (qss.take (i + 1)).flatten.length) (fun i a b v hk h => h.mono hk) hD hi hT fn49 hy0 hyl ?_ ?_).mono ?_
  · obtain ⟨c, hc, ht⟩ := hat.get hy0
    obtain ⟨ns, hns, rfl⟩ := map_toldP hc
    rw [take_flat hns, List.take_zero]
    exact ht
  · intro i v y nx hy hk hTx hR
    obtain ⟨c, hc, ht⟩ := (hat.mono hk.s).get hy
    obtain ⟨ns, hns, rfl⟩ := map_toldP hc
    refine (put_spec hTx hR ht (Nat.le_trans (get_len_le hns) htot)).mono ?_
    rintro r new ⟨h1, h2, h3⟩
    refine ⟨h1, h2, ?_⟩
    rw [take_flat hns, told_append, List.length_append]
    exact h3
  · rintro r new ⟨h1, h2, h3⟩
    rw [List.take_of_length_le (by omega)] at h3
    exact ⟨h1, h2, h3⟩

theorem red_put0 {Da : Addr} {ys : List Value} {k : Nat} {v0 : Value} {qss : List (List Nat)} (hD : (Da, listOf ys.toArray k) ∈ news) (hi : Hi Da) (hT : Tabs news) (hat : AllT news ys (qss.map toldP)) (hv : Tup2 news v0 0 0) (htot : qss.flatten.length ≤ 1000) :
    CallW w p loose mean mg mb 11 110 (.ref 23) [.ref 49, .ref Da, v0] news (fun r new => Keep news new ∧ Tabs new ∧ Tup2 new r (told qss.flatten) qss.flatten.length) := by
  have hyl : ys.length = qss.length := by rw [hat.length, List.length_map]
  have hst : Start news v0 := by
    obtain ⟨a, t, u, k, rfl, hl, hm⟩ := hv
    exact .inr ⟨a, _, rfl, hl, hm, rfl⟩
  refine (red_list (D := 10) (U := 100) (fun i nx v => Tup2 nx v (told (qss.take i).flatten) (qss.take i).flatten.length) (fun i a b v hk h => h.mono hk) hD hi hT fn49 hst ?_ ?_).mono ?_
  · rw [List.take_zero, List.flatten_nil, told_nil]
    exact hv
  · intro i v y nx hy hk hTx hR
    obtain ⟨c, hc, ht⟩ := (hat.mono hk.s).get hy
    obtain ⟨ns, hns, rfl⟩ := map_toldP hc
    refine (put_spec hTx hR ht (Nat.le_trans (get_len_le hns) htot)).mono ?_
    rintro r new ⟨h1, h2, h3⟩
    refine ⟨h1, h2, ?_⟩
    rw [take_flat hns, told_append, List.length_append]
    exact h3
  · rintro r new ⟨h1, h2, h3⟩
    rw [hyl, List.take_length] at h3
    exact ⟨h1, h2, h3⟩
end
end Mine

end

section
open PySem PySem.W PyProof.Rows
set_option maxRecDepth 100000
set_option maxHeartbeats 4000000
namespace Mine
example : PySem.Challenge.rw_mq0060_01 = PySem.Challenge.rw_mq0060_01 ∧ Mine.hd.heap_39 = Mine.hd.heap_39 := by
  k_fill
  exact ⟨rfl, rfl⟩
local macro_rules | `(tactic| walk_at "pyIter ref") => `(tactic| refine Stop.mk ?_)
local macro_rules | `(tactic| walk_at "call ref") => `(tactic| refine Stop.mk ?_)
local macro_rules | `(tactic| walk_at "eval Lambda") => `(tactic| refine Stop.mk ?_)
/-- the lambda of law: its parameters, its body, its names -/
def lamOf : Option (Arguments × PySem.Expr × Scope) := match lawStmts.drop 9 with
  | .If (.Compare (.Call _ (.Lambda a b sc _ :: _) _ _) _ _ _) _ _ _ :: _ => some (a, b, sc)
  | _ => none
def IsLam (a : Arguments) (b : PySem.Expr) (sc : Scope) : Prop := lamOf = some (a, b, sc)
section
variable {w : World} {p : Program} {loose : List Str} {mean : ExcName → Option Value} {mg mb : Str → Option Value} {D U : Nat} {fv : Value} {args : List Value} {news : Led}
theorem lam_spec {f : Addr} {q : Str} {params : Arguments} {body : PySem.Expr} {scope : Scope} {pm v y : Value} {c1 n1 c2 n2 : Nat} (hl : IsLam params body scope) (hT : Tabs news) (hL : LamAt news f q params body scope pm) (h1 : Tup2 news v c1 n1) (h2 : Tup2 news y c2 n2) (hn : n1 ≤ 1000) :
    CallW w p loose mean mg mb 12 120 (.ref f) [v, y] news (fun r new => Keep news new ∧ Tabs new ∧ Tup2 new r (iter gen n1 c2 ^^^ c1) (n2 + n1)) := by
  unfold IsLam at hl
  conv at hl in lamOf => whnf
  simp only [Option.some.injEq, Prod.mk.injEq] at hl
  obtain ⟨rfl, rfl, rfl⟩ := hl
  unfold CallW
  intro dp un gd cn cs a ccd cl outer A₀ base h₀ L m s Q E B F X N T hC hk hd hu ret
  obtain ⟨c', ctv, oc, vs', t', g1, g2, g3, g4, g5, g6⟩ := id hL
  refine wpAny_call ?_
  refine kla_code B F X N T rfl rfl hk g3 (codeRec_news N g4 g5 g6) (by show dp < _; omega) rfl (locs rfl) ?_ rfl rfl rfl (by decide)
  intro g' L' h' FG' F' N' B' X' T'
  dsimp only
  k_steps
  refine Stop.out (put_spec hT h2 h1 hn _ _ _ _ _ _ _ _ _ _ _ _ _ _ _ _ _ B' F' X' N' T' (hC.keeps FG'.keep) rfl (by show dp + 1 + _ < _; omega) (by show un + 3 + _ < _; omega) ?_)
  rintro r new h5 tk5 F₅ N₅ ⟨hk5, hT5, hR5⟩
  k_steps
  exact ret _ _ _ _ (by assumption) (by assumption) ⟨hk5, hT5, hR5⟩

theorem red_lam {f Da : Addr} {q : Str} {params : Arguments} {body : PySem.Expr} {scope : Scope} {pm : Value} {ys : List Value} {k n : Nat} {qss : List (List Nat)} (hl : IsLam params body scope) (hL : LamAt news f q params body scope pm)
    (hD : (Da, listOf ys.toArray k) ∈ news) (hi : Hi Da) (hT : Tabs news) (hat : AllT news ys (qss.map toldP)) (hq : qss.length = n + 1) (htot : ∀ i, (qss.take i).reverse.flatten.length ≤ 1000) :
    CallW w p loose mean mg mb 13 130 (.ref 23) [.ref f, .ref Da] news (fun r new => Keep news new ∧ Tabs new ∧ Tup2 new r (told qss.reverse.flatten) qss.reverse.flatten.length) := by
  have hyl : ys.length = n + 1 := by rw [hat.length, List.length_map, hq]
  have hy0 : ys[0]? = some ys[0] := List.getElem?_eq_getElem (by omega)
  refine (red_list1 (D := 12) (U := 120) (n := n) (fun i nx v => Tup2 nx v (told (qss.take (i + 1)).reverse.flatten) (qss.take (i + 1)).reverse.flatten.length ∧ LamAt nx f q params body scope pm) (fun i a b v hk h => ⟨h.1.mono hk, h.2.mono hk⟩) hD hi hT hL.fnOk hy0 hyl ?_ ?_).mono ?_
  · obtain ⟨c, hc, ht⟩ := hat.get hy0
    obtain ⟨ns, hns, rfl⟩ := map_toldP hc
    rw [List.take_add_one, hns, List.take_zero]
    simp
    exact ⟨ht, hL⟩
  · rintro i v y nx hy hk hTx ⟨hR, hLx⟩
    obtain ⟨c, hc, ht⟩ := (hat.mono hk.s).get hy
    obtain ⟨ns, hns, rfl⟩ := map_toldP hc
    refine (lam_spec hl hTx hLx hR ht (htot _)).mono ?_
    rintro r new ⟨h1, h2, h3⟩
    refine ⟨h1, h2, ?_, hLx.mono h1.s⟩
    rw [List.take_add_one, hns, Option.toList_some, List.reverse_append, List.reverse_singleton, List.singleton_append, List.flatten_cons, told_append, List.length_append]
    exact h3
  · rintro r new ⟨h1, h2, h3, _⟩
    rw [List.take_of_length_le (by omega)] at h3
    exact ⟨h1, h2, h3⟩
end
end Mine

end

section
open PySem PySem.W PyProof.Rows
set_option maxRecDepth 100000
set_option maxHeartbeats 4000000
namespace Mine
example : PySem.Challenge.rw_mq0060_01 = PySem.Challenge.rw_mq0060_01 ∧ Mine.hd.heap_39 = Mine.hd.heap_39 := by
  k_fill
  exact ⟨rfl, rfl⟩
local macro_rules | `(tactic| walk_at "pyIter ref") => `(tactic| refine Stop.mk ?_)
local macro_rules | `(tactic| walk_at "call ref") => `(tactic| refine Stop.mk ?_)
local macro_rules | `(tactic| walk_at "call builtin:len") => `(tactic| refine Stop.mk ?_)
local macro_rules | `(tactic| walk_at "execs cons If") => `(tactic| refine Stop.mk ?_)
local macro_rules | `(tactic| walk_at "exec Assign cons ListComp") => `(tactic| refine Stop.mk ?_)

/-- the names once row and due stand -/
structure Nm2 (m : Str → Option Value) (ap D n R U : Nat) (tq : Tok) : Prop where
  nm : Nm m ap D n tq
  h4 : m (Str.ofString "row") = some (.ref R)
  h5 : m (Str.ofString "due") = some (.ref U)
/-- what row and due are -/
structure LR (R U : Addr) (rs : List Value) (pss : List (List Nat)) (nx : Led) : Prop where
  hiR : Hi R
  hiU : Hi U
  mR : (R, LCg.lst rs) ∈ nx
  iR : IntsAre rs (toI pss.flatten)
  tU : Tup2 nx (.ref U) (told pss.flatten) pss.flatten.length
theorem LR.keep {R U : Addr} {rs : List Value} {pss : List (List Nat)} {a b : Led} (x : LR R U rs pss a) (k : KeepS a b) : LR R U rs pss b :=
  ⟨x.hiR, x.hiU, k _ x.mR x.hiR (solid_seq rfl), x.iR, x.tU.mono k⟩

theorem law_d {w : World} {p : Program} {loose : List Str} {mean : ExcName → Option Value} {mg mb : Str → Option Value} {A₀ : Around} {base h₀ : Heap} {L fa : Addr} {m : Str → Option Value} {nx : Led} {s : Shared} {Q : Flow → Shared → Prop} {E : Value → Shared → Prop}
    {d D ap : Addr} {od : Obj} {ys vsp : List Value} {kp : Nat} {pss : List (List Nat)} {tq : Tok} {vi vj vw : Option Value} {kvs : List (Int × Value)}
    (B : Below A₀ base [] h₀) (F : Fr h₀ L s.heap m) (X : (Mine.hd.heap_39 w.params).In h₀) (N : News h₀ L s.heap nx) (T : Top p loose mean mg mb h₀) (hC : Codes h₀)
    (hm : Nm m ap D pss.length tq) (htot : pss.flatten.length ≤ 7) (hoct : ∀ o ∈ pss.flatten, o < 256)
    (x : LX w L d D ap ys vsp kp pss vi vj vw kvs od nx)
    (ret : ∀ U R rs m' ny h' tk', Fr h₀ L h' m' → News h₀ L h' ny → Nm2 m' ap D pss.length R U tq → Keep nx ny → Tabs ny → LR R U rs pss ny →
      wpAny (model PR w) (callerA.deeper (lawEnv L fa)) (execs (lawStmts.drop 8) (lawEnv L fa)) Q E { s with heap := h', toks := tk' }) :
    wpAny (model PR w) (callerA.deeper (lawEnv L fa)) (execs (lawStmts.drop 6) (lawEnv L fa)) Q E s := by
  conv in (List.drop 6 lawStmts) => whnf
  unfold lawEnv at ret ⊢
  conv in (occs := *) lawScope => all_goals whnf
  rw [map_named hm.h1, map_named hm.h2, map_named hm.h3] at F
  k_steps
  refine Stop.out (flat_store (by with_unfolding_all rfl) (by with_unfolding_all rfl) rfl (by decide) ?_)
  k_steps
  refine Stop.out (pyIter_led F N x.pc ?_)
  intro I h₁ F₁ N₁ hI
  refine flat_block rfl (by decide) rfl rfl rfl (by decide) (by decide) x.pc x.al (by omega) F₁ N₁ (fun p hp => Nat.ne_of_lt (hI p hp)) ?_
  intro C R h₂ tk₂ m' rs hrs F₂ hn₂ N₂ hoffC hC₀ hCL hCR hlR
  refine post_store rfl rfl rfl F₂ hn₂ N₂ hoffC hC₀ hCL hCR ?_
  intro h₃ tk₃ F₃ N₃
  have hiR : Hi R := x.tabs.above fun p hp => hlR p (List.mem_cons_of_mem _ hp)
  have x₃ := x.cons (q := (R, LCg.lst rs))
  have hrl : rs.length = pss.flatten.length := by rw [hrs.length, List.length_map]
  clear F₁ N₁ F₂ hn₂ N₂
  dsimp only
  k_steps
  refine Stop.out (divided_spec (ns := pss.flatten) x₃.tabs ⟨R, rs, _, rfl, hiR, List.mem_cons_self, hrs⟩ htot _ _ _ _ _ _ _ _ _ _ _ _ _ _ _ _ _ B F₃ X N₃ T hC rfl (by decide) (by decide) ?_)
  rintro r n₄ h₄ tk₄ F₄ N₄ ⟨hK, hT₄, t₄, rfl⟩
  have hR₄ := hK _ List.mem_cons_self hiR
  dsimp only
  k_steps
  refine Stop.out (len_list (items := rs.toArray) ⟨_, (N₄ _ hR₄).1, rfl, _, rfl⟩ (by rw [List.size_toArray]; omega) ?_)
  rw [List.size_toArray, hrl, divided_told _ hoct]
  k_steps
  rename ∀ p ∈ n₄, _ => hl₅
  rename Fr _ _ _ _ => F₅
  rename News _ _ _ _ => N₅
  refine Stop.out (ret _ R rs _ _ _ _ F₅ N₅ ⟨⟨rfl, rfl, rfl⟩, rfl, rfl⟩ ((Keep.cons.trans hK).trans Keep.cons) (hT₄.mono KeepT.cons) ⟨hiR, hT₄.above hl₅, List.mem_cons_of_mem _ hR₄, hrs, _, _, _, _, rfl, hT₄.above hl₅, List.mem_cons_self⟩)
end Mine

end

section
open PySem PySem.W PyProof.Rows
set_option maxRecDepth 100000
set_option maxHeartbeats 4000000
namespace Mine
example : PySem.Challenge.rw_mq0060_01 = PySem.Challenge.rw_mq0060_01 ∧ Mine.hd.heap_39 = Mine.hd.heap_39 := by
  k_fill
  exact ⟨rfl, rfl⟩
local macro_rules | `(tactic| walk_at "pyIter ref") => `(tactic| refine Stop.mk ?_)
local macro_rules | `(tactic| walk_at "call ref") => `(tactic| refine Stop.mk ?_)
local macro_rules | `(tactic| walk_at "call builtin:len") => `(tactic| refine Stop.mk ?_)
local macro_rules | `(tactic| walk_at "execs cons If") => `(tactic| refine Stop.mk ?_)
local macro_rules | `(tactic| walk_at "execs cons Assign") => `(tactic| refine Stop.mk ?_)
local macro_rules | `(tactic| walk_at "eval Lambda") => `(tactic| refine Stop.mk ?_)
local macro_rules | `(tactic| walk_at "subscriptTail Name BinOp ref int") => `(tactic| refine Stop.mk ?_)
local macro_rules | `(tactic| walk_at "subscriptTail Name Slice ref ref") => `(tactic| refine Stop.mk ?_)
local macro_rules | `(tactic| walk_at "compareOp NotEq ref ref") => `(tactic| refine Stop.mk ?_)

theorem Tup2.ref {nx : Led} {v : Value} {c n : Nat} (h : Tup2 nx v c n) : ∃ a, v = .ref a := by obtain ⟨a, _, _, _, e, _⟩ := h; exact ⟨a, e⟩
theorem tup_new {nx : Led} {D3 : Addr} {c n : Nat} {t u : Tok} {k : Nat} (h : Hi D3) : Tup2 ((D3, tupOf [.int (c : Nat) t, .int (n : Nat) u] k) :: nx) (.ref D3) c n := ⟨_, _, _, _, rfl, h, List.mem_cons_self⟩
theorem law_e {w : World} {p : Program} {loose : List Str} {mean : ExcName → Option Value} {mg mb : Str → Option Value} {A₀ : Around} {base h₀ : Heap} {L fa : Addr} {m : Str → Option Value} {nx : Led} {s : Shared} {Q : Flow → Shared → Prop} {E : Value → Shared → Prop}
    {d D ap R U : Addr} {od : Obj} {rs ys vsp : List Value} {kp : Nat} {pss : List (List Nat)} {tq : Tok} {vi vj vw : Option Value} {kvs : List (Int × Value)}
    (B : Below A₀ base [] h₀) (F : Fr h₀ L s.heap m) (X : (Mine.hd.heap_39 w.params).In h₀) (N : News h₀ L s.heap nx) (T : Top p loose mean mg mb h₀) (hC : Codes h₀)
    (hm : Nm2 m ap D pss.length R U tq) (hq1 : 1 ≤ pss.length) (htot : pss.flatten.length ≤ 7)
    (x : LX w L d D ap ys vsp kp pss vi vj vw kvs od nx) (y : LR R U rs pss nx) (hmi : MadeInv pss nx kvs (pss.length + 1) 0)
    (ret : ∀ m' ny h' tk', Fr h₀ L h' m' → News h₀ L h' ny → Nm2 m' ap D pss.length R U tq → Keep nx ny → Tabs ny →
      wpAny (model PR w) (callerA.deeper (lawEnv L fa)) (execs (lawStmts.drop 9) (lawEnv L fa)) Q E { s with heap := h', toks := tk' }) :
    wpAny (model PR w) (callerA.deeper (lawEnv L fa)) (execs (lawStmts.drop 8) (lawEnv L fa)) Q E s := by
  conv in (List.drop 8 lawStmts) => whnf
  unfold lawEnv at ret ⊢
  conv in (occs := *) lawScope => all_goals whnf
  rw [map_named hm.nm.h1, map_named hm.nm.h2, map_named hm.nm.h3, map_named hm.h4, map_named hm.h5] at F
  obtain ⟨oM, hM1, hM2⟩ := x.cM
  refine wpAny_execs_cons ?_
  obtain ⟨n, hn⟩ : ∃ n, pss.length = n + 1 := ⟨pss.length - 1, by omega⟩
  k_steps
  obtain ⟨v1, e1, t1⟩ := hmi 0 n (by omega) (by omega) (.inl (by omega))
  rw [show ((pss.length : Int) - 1) = ((0 * 32 + n : Nat) : Int) by omega]
  refine Stop.out (ditem_led N x.dm x.dd e1 ?_)
  rw [show n = pss.length - 1 by omega, seg_all hq1] at t1
  obtain ⟨a1, rfl⟩ := t1.ref
  intro tk₁
  dsimp only
  k_steps
  refine Stop.out (ne_tup N t1 y.tU (Nat.le_of_ble_eq_true rfl) ?_)
  k_steps
  refine Stop.out (red_put1 (n := n) (qss := pss) x.pr x.hi.hD x.tabs x.at' hn (by omega) _ _ _ _ _ _ _ _ _ _ _ _ _ _ _ _ _ B F X N T hC rfl (by decide) (by decide) ?_)
  rintro r₂ n₂ h₂ tk₂ F₂ N₂ ⟨hK₂, hT₂, t₂⟩
  have y₂ := y.keep hK₂.s
  have x₂ := x.keep hK₂ hT₂
  obtain ⟨a₂, rfl⟩ := t₂.ref
  dsimp only
  k_steps
  refine Stop.out (ne_tup N₂ t₂ y₂.tU (Nat.le_of_ble_eq_true rfl) ?_)
  k_steps
  rename ∀ p ∈ n₂, _ => hl₃
  rename Fr _ _ _ _ => F₃
  rename News _ _ _ _ => N₃
  rename_i D3 h₃
  obtain ⟨ta, tb, k3, N₃⟩ : ∃ ta tb k3, News h₀ L h₃ ((D3, tupOf [.int ((0 : Nat) : Int) ta, .int ((0 : Nat) : Int) tb] k3) :: n₂) := ⟨_, _, _, N₃⟩
  have t0 := tup_new (nx := n₂) (c := 0) (n := 0) (t := ta) (u := tb) (k := k3) (x₂.tabs.above hl₃)
  refine Stop.out (red_put0 (qss := pss) (x₂.cons).pr x.hi.hD (x₂.cons).tabs (x₂.cons).at' t0 (by omega) _ _ _ _ _ _ _ _ _ _ _ _ _ _ _ _ _ B F₃ X N₃ T hC rfl (by decide) (by decide) ?_)
  rintro r₄ n₄ h₄ tk₄ F₄ N₄ ⟨hK₄, hT₄, t₄⟩
  have y₄ := (y₂.keep Keep.cons.s).keep hK₄.s
  have x₄ := x₂.cons.keep hK₄ hT₄
  obtain ⟨a₄, rfl⟩ := t₄.ref
  dsimp only
  k_steps
  refine Stop.out (ne_tup N₄ t₄ y₄.tU (Nat.le_of_ble_eq_true rfl) ?_)
  k_steps
  refine Stop.out (ret _ _ _ _ F₄ N₄ ⟨⟨rfl, rfl, rfl⟩, rfl, rfl⟩ ((hK₂.trans Keep.cons).trans hK₄) hT₄)
end Mine

end

section
open PySem PySem.W PyProof.Rows
set_option maxRecDepth 100000
set_option maxHeartbeats 4000000
namespace Mine
example : PySem.Challenge.rw_mq0060_01 = PySem.Challenge.rw_mq0060_01 ∧ Mine.hd.heap_39 = Mine.hd.heap_39 := by
  k_fill
  exact ⟨rfl, rfl⟩
local macro_rules | `(tactic| walk_at "pyIter ref") => `(tactic| refine Stop.mk ?_)
local macro_rules | `(tactic| walk_at "call ref") => `(tactic| refine Stop.mk ?_)
local macro_rules | `(tactic| walk_at "call builtin:len") => `(tactic| refine Stop.mk ?_)
local macro_rules | `(tactic| walk_at "execs cons If") => `(tactic| refine Stop.mk ?_)
local macro_rules | `(tactic| walk_at "execs cons Assign") => `(tactic| refine Stop.mk ?_)
local macro_rules | `(tactic| walk_at "eval Lambda") => `(tactic| refine Stop.mk ?_)
local macro_rules | `(tactic| walk_at "subscriptTail Name Slice ref ref") => `(tactic| refine Stop.mk ?_)
local macro_rules | `(tactic| walk_at "compareOp NotEq ref ref") => `(tactic| refine Stop.mk ?_)

section
variable {prog : Program} {w : World} {A : Around} {E : Value → Shared → Prop} {s : Shared} {h₀ : Heap} {L : Addr} {m : Str → Option Value} {news : Led} {Q : Value → Shared → Prop}
theorem rev_led {value slice : PySem.Expr} {h : Heap} {tk : Nat} {D : Addr} {ys : List Value} {k : Nat} {vk : Value} {ops : List Value} (F : Fr h₀ L h m) (N : News h₀ L h news) (hD : (D, listOf ys.toArray k) ∈ news) (hy : ys.length ≤ 1000) (pk : IsPart vk (some (-1)))
    (next : ∀ D' h', Fr h₀ L h' m → News h₀ L h' ((D', listOf ys.reverse.toArray 0) :: news) → (∀ p ∈ news, p.1 < D') → Q (.ref D') { s with heap := h', toks := tk })
    (hs : subscripted slice false (.ref D) (.ref h.objs.size) = operate ops (getItem (.ref D) (.ref h.objs.size)) := by with_unfolding_all rfl) (ht : ∀ r, letTemporaryGo value (.ref D) r = pure () := by intro _; with_unfolding_all rfl) :
    wpAny (model prog w) A (subscriptTail value slice (.ref D) (.ref h.objs.size)) Q E { s with heap := h.push { cls := .type "slice", data := .fields #[.none, .none, vk] }, toks := tk } :=
  krv_lit (s := { s with heap := h, toks := tk }) (its := ys.toArray) (zs := ys.reverse) F N ⟨_, (N _ hD).1, rfl, k, rfl⟩ pk rfl next hs ht (by rw [List.size_toArray, sizeLine_eq]; omega)
end
theorem law_f {w : World} {p : Program} {loose : List Str} {mean : ExcName → Option Value} {mg mb : Str → Option Value} {A₀ : Around} {base h₀ : Heap} {L fa : Addr} {m : Str → Option Value} {nx : Led} {s : Shared} {Q : Flow → Shared → Prop} {E : Value → Shared → Prop}
    {d D ap R U : Addr} {od : Obj} {rs ys vsp : List Value} {kp : Nat} {pss : List (List Nat)} {tq : Tok} {vi vj vw : Option Value} {kvs : List (Int × Value)}
    (B : Below A₀ base [] h₀) (F : Fr h₀ L s.heap m) (X : (Mine.hd.heap_39 w.params).In h₀) (N : News h₀ L s.heap nx) (T : Top p loose mean mg mb h₀) (hC : Codes h₀)
    (hm : Nm2 m ap D pss.length R U tq) (hq1 : 1 ≤ pss.length) (hq8 : pss.length ≤ 8) (htot : pss.flatten.length ≤ 7)
    (x : LX w L d D ap ys vsp kp pss vi vj vw kvs od nx) (y : LR R U rs pss nx)
    (ret : ∀ m' ny h' tk', Fr h₀ L h' m' → News h₀ L h' ny → Nm2 m' ap D pss.length R U tq → Keep nx ny → Tabs ny →
      wpAny (model PR w) (callerA.deeper (lawEnv L fa)) (execs (lawStmts.drop 10) (lawEnv L fa)) Q E { s with heap := h', toks := tk' }) :
    wpAny (model PR w) (callerA.deeper (lawEnv L fa)) (execs (lawStmts.drop 9) (lawEnv L fa)) Q E s := by
  conv in (List.drop 9 lawStmts) => whnf
  unfold lawEnv at ret ⊢
  conv in (occs := *) lawScope => all_goals whnf
  rw [map_named hm.nm.h1, map_named hm.nm.h2, map_named hm.nm.h3, map_named hm.h4, map_named hm.h5] at F
  refine wpAny_execs_cons ?_
  obtain ⟨n, hn⟩ : ∃ n, pss.length = n + 1 := ⟨pss.length - 1, by omega⟩
  k_steps
  refine Stop.out (lam_mk (c := 60) (P := 58) (.inr (.inr rfl)) F N T hC.2.2 rfl rfl rfl x.tabs x.tabs.2.2 ?_ ?_)
  · intro new h1 h2
    exact ⟨h2 _ _ _ _ (by decide) x.tabs.1, h2 _ _ _ _ (by decide) x.tabs.2.1, h1⟩
  intro f n₁ h₁ tk₁ F₁ N₁ hK₁ hT₁ hLam
  have x₁ := x.keep hK₁ hT₁
  have y₁ := y.keep hK₁.s
  k_steps
  have hyl : ys.length = pss.length := by rw [x₁.at'.length, List.length_map]
  refine Stop.out (rev_led F₁ N₁ x₁.pr (by omega) (IsPart.int _ _) ?_)
  intro D2 h₂ F₂ N₂ hD2
  have hiD2 : Hi D2 := x₁.tabs.above hD2
  have x₂ := x₁.cons (q := (D2, listOf ys.reverse.toArray 0))
  have hLam₂ := hLam.mono (Keep.cons (q := (D2, listOf ys.reverse.toArray 0))).s
  have at₂ := x₂.at'.reverse
  rw [← List.map_reverse] at at₂
  k_steps
  refine Stop.out (red_lam (n := n) (qss := pss.reverse) (show IsLam _ _ _ by with_unfolding_all rfl) hLam₂ List.mem_cons_self hiD2 x₂.tabs at₂ (by rw [List.length_reverse]; exact hn) ?_ _ _ _ _ _ _ _ _ _ _ _ _ _ _ _ _ _ B F₂ X N₂ T hC rfl (by decide) (by decide) ?_)
  · intro i
    rw [List.take_reverse, List.reverse_reverse]
    exact Nat.le_trans (flat_drop_le _ _) (by omega)
  rintro r₃ n₃ h₃ tk₃ F₃ N₃ ⟨hK₃, hT₃, t₃⟩
  rw [List.reverse_reverse] at t₃
  have y₃ := (y₁.keep Keep.cons.s).keep hK₃.s
  obtain ⟨a₃, rfl⟩ := t₃.ref
  dsimp only
  k_steps
  refine Stop.out (ne_tup N₃ t₃ y₃.tU (Nat.le_of_ble_eq_true rfl) ?_)
  k_steps
  refine Stop.out (ret _ _ _ _ F₃ N₃ ⟨⟨rfl, rfl, rfl⟩, rfl, rfl⟩ ((hK₁.trans Keep.cons).trans hK₃) hT₃)
end Mine

end

section
open PySem PySem.W PyProof.Rows
set_option maxRecDepth 100000
set_option maxHeartbeats 4000000
namespace Mine
example : PySem.Challenge.rw_mq0060_01 = PySem.Challenge.rw_mq0060_01 ∧ Mine.hd.heap_39 = Mine.hd.heap_39 := by
  k_fill
  exact ⟨rfl, rfl⟩
local macro_rules | `(tactic| walk_at "pyIter ref") => `(tactic| refine Stop.mk ?_)
local macro_rules | `(tactic| walk_at "call ref") => `(tactic| refine Stop.mk ?_)
local macro_rules | `(tactic| walk_at "call builtin:len") => `(tactic| refine Stop.mk ?_)
local macro_rules | `(tactic| walk_at "exec Assign cons ListComp") => `(tactic| refine Stop.mk ?_)
local macro_rules | `(tactic| walk_at "subscriptTail Name Slice ref ref") => `(tactic| refine Stop.mk ?_)
local macro_rules | `(tactic| walk_at "compareOp Eq ref ref") => `(tactic| refine Stop.mk ?_)

theorem AllLL.append {nx : Led} : ∀ {vs us : List Value} {cs ds : List (List Nat)}, AllLL nx vs cs → AllLL nx us ds → AllLL nx (vs ++ us) (cs ++ ds)
  | [], _, [], _, _, h => h
  | _ :: _, _, _ :: _, _, h, k => ⟨h.1, AllLL.append h.2 k⟩
theorem AllLL.reverse {nx : Led} : ∀ {vs : List Value} {cs : List (List Nat)}, AllLL nx vs cs → AllLL nx vs.reverse cs.reverse
  | [], [], _ => trivial
  | v :: vs, c :: cs, h => by
    rw [List.reverse_cons, List.reverse_cons]
    exact AllLL.append (AllLL.reverse h.2) ⟨h.1, trivial⟩
theorem flat_rev_len (l : List (List Nat)) : l.reverse.flatten.length = l.flatten.length := by
  induction l with
  | nil => rfl
  | cons a r ih => rw [List.reverse_cons, List.flatten_append, List.length_append, ih, List.flatten_cons, List.length_append]; simp; omega
theorem law_g {w : World} {p : Program} {loose : List Str} {mean : ExcName → Option Value} {mg mb : Str → Option Value} {A₀ : Around} {base h₀ : Heap} {L fa : Addr} {m : Str → Option Value} {nx : Led} {s : Shared} {Q : Flow → Shared → Prop} {E : Value → Shared → Prop}
    {d D ap R U : Addr} {od : Obj} {rs ys vsp : List Value} {kp : Nat} {pss : List (List Nat)} {tq : Tok} {vi vj vw : Option Value} {kvs : List (Int × Value)}
    (B : Below A₀ base [] h₀) (F : Fr h₀ L s.heap m) (X : (Mine.hd.heap_39 w.params).In h₀) (N : News h₀ L s.heap nx) (T : Top p loose mean mg mb h₀) (hC : Codes h₀)
    (hm : Nm2 m ap D pss.length R U tq) (hq1 : 1 ≤ pss.length) (hq8 : pss.length ≤ 8) (htot : pss.flatten.length ≤ 7) (hoct : ∀ o ∈ pss.flatten, o < 256)
    (x : LX w L d D ap ys vsp kp pss vi vj vw kvs od nx) (y : LR R U rs pss nx)
    (ret : ∀ m' ny h' tk', Fr h₀ L h' m' → News h₀ L h' ny → Tabs ny → Q (.ret (.bool true)) { s with heap := h', toks := tk' }) :
    wpAny (model PR w) (callerA.deeper (lawEnv L fa)) (execs (lawStmts.drop 10) (lawEnv L fa)) Q E s := by
  conv in (List.drop 10 lawStmts) => whnf
  unfold lawEnv
  conv in (occs := *) lawScope => all_goals whnf
  rw [map_named hm.nm.h1, map_named hm.nm.h2, map_named hm.nm.h3, map_named hm.h4, map_named hm.h5] at F
  obtain ⟨n, hn⟩ : ∃ n, pss.length = n + 1 := ⟨pss.length - 1, by omega⟩
  have hyl : ys.length = pss.length := by rw [x.at'.length, List.length_map]
  have hvl : vsp.length = pss.length := x.al.length
  k_steps
  refine Stop.out (flat_store (by with_unfolding_all rfl) (by with_unfolding_all rfl) rfl (by decide) ?_)
  k_steps
  refine Stop.out (rev_led F N x.pc (by omega) (IsPart.int _ _) ?_)
  intro D2 h₁ F₁ N₁ hD2
  have hiD2 : Hi D2 := x.tabs.above hD2
  have x₁ := x.cons (q := (D2, listOf vsp.reverse.toArray 0))
  have al₁ := x₁.al.reverse
  k_steps
  refine Stop.out (pyIter_led F₁ N₁ List.mem_cons_self ?_)
  intro I h₂ F₂ N₂ hI
  refine flat_block rfl (by decide) rfl rfl rfl (by decide) (by decide) List.mem_cons_self al₁ (by rw [flat_rev_len]; omega) F₂ N₂ (fun p hp => Nat.ne_of_lt (hI p hp)) ?_
  intro C V h₃ tk₃ m' zs hzs F₃ hn₃ N₃ hoffC hC₀ hCL hCV hlV
  refine post_store rfl rfl rfl F₃ hn₃ N₃ hoffC hC₀ hCL hCV ?_
  intro h₄ tk₄ F₄ N₄
  have hiV : Hi V := x₁.tabs.above fun p hp => hlV p (List.mem_cons_of_mem _ hp)
  have x₄ := x₁.cons (q := (V, LCg.lst zs))
  have y₄ := y.keep ((Keep.cons (q := (D2, listOf vsp.reverse.toArray 0))).trans (Keep.cons (q := (V, LCg.lst zs)))).s
  clear F₁ N₁ F₂ N₂ F₃ hn₃ N₃
  dsimp only
  k_steps
  refine Stop.out (rev_led F₄ N₄ x₄.pr (by omega) (IsPart.int _ _) ?_)
  intro D5 h₅ F₅ N₅ hD5
  have hiD5 : Hi D5 := x₄.tabs.above hD5
  have x₅ := x₄.cons (q := (D5, listOf ys.reverse.toArray 0))
  have y₅ := y₄.keep (Keep.cons (q := (D5, listOf ys.reverse.toArray 0))).s
  have at₅ := x₅.at'.reverse
  rw [← List.map_reverse] at at₅
  have hV₅ : (V, LCg.lst zs) ∈ (D5, listOf ys.reverse.toArray 0) :: (V, LCg.lst zs) :: (D2, listOf vsp.reverse.toArray 0) :: nx := List.mem_cons_of_mem _ List.mem_cons_self
  k_steps
  refine Stop.out (red_put1 (n := n) (qss := pss.reverse) List.mem_cons_self hiD5 x₅.tabs at₅ (by rw [List.length_reverse]; exact hn) (by rw [flat_rev_len]; omega) _ _ _ _ _ _ _ _ _ _ _ _ _ _ _ _ _ B F₅ X N₅ T hC rfl (by decide) (by decide) ?_)
  rintro r₆ n₆ h₆ tk₆ F₆ N₆ ⟨hK₆, hT₆, t₆⟩
  have y₆ := y₅.keep hK₆.s
  have hV₆ := hK₆ _ hV₅ hiV
  obtain ⟨a₆, rfl⟩ := t₆.ref
  clear N₅ F₅ N₄ F₄ at₅ x₅ x₄ y₅ y₄
  dsimp only
  k_steps
  refine Stop.out (divided_spec (ns := pss.reverse.flatten) hT₆ ⟨V, zs, _, rfl, hiV, hV₆, hzs⟩ (by rw [flat_rev_len]; omega) _ _ _ _ _ _ _ _ _ _ _ _ _ _ _ _ _ B F₆ X N₆ T hC rfl (by decide) (by decide) ?_)
  rintro r n₇ h₇ tk₇ F₇ N₇ ⟨hK₇, hT₇, t₇, rfl⟩
  have y₇ := y₆.keep hK₇.s
  have t₇' := t₆.mono hK₇.s
  have hrl : rs.length = pss.flatten.length := by rw [y.iR.length, List.length_map]
  dsimp only
  k_steps
  refine Stop.out (len_list (items := rs.toArray) ⟨_, (N₇ _ y₇.mR).1, rfl, _, rfl⟩ (by rw [List.size_toArray]; omega) ?_)
  rw [List.size_toArray, hrl, divided_told _ (by intro o ho; exact hoct o (by rw [List.mem_flatten] at ho ⊢; obtain ⟨l, h1, h2⟩ := ho; exact ⟨l, List.mem_reverse.mp h1, h2⟩)), ← flat_rev_len pss]
  k_steps
  rename ∀ p ∈ n₇, _ => hl₈
  rename Fr _ _ _ _ => F₈
  rename News _ _ _ _ => N₈
  rename_i D9 h₉
  have t₉ := tup_new (nx := n₇) (c := told pss.reverse.flatten) (n := pss.reverse.flatten.length) (t := t₇) (u := tk₇ + 1) (k := 0) (hT₇.above hl₈)
  refine Stop.out (eq_tup N₈ (t₇'.mono Keep.cons.s) t₉ (Nat.le_of_ble_eq_true rfl) ?_)
  exact ret _ _ _ _ F₈ N₈ (hT₇.mono KeepT.cons)
end Mine

end

section
open PySem PySem.W PyProof.Rows
set_option maxRecDepth 100000
set_option maxHeartbeats 4000000
namespace Mine
example : PySem.Challenge.rw_mq0060_01 = PySem.Challenge.rw_mq0060_01 ∧ Mine.hd.heap_39 = Mine.hd.heap_39 := by
  k_fill
  exact ⟨rfl, rfl⟩
local macro_rules | `(tactic| walk_at "pyIter ref") => `(tactic| refine Stop.mk ?_)
local macro_rules | `(tactic| walk_at "call ref") => `(tactic| refine Stop.mk ?_)
local macro_rules | `(tactic| walk_at "call builtin:len") => `(tactic| refine Stop.mk ?_)
local macro_rules | `(tactic| walk_at "exec Assign cons ListComp") => `(tactic| refine Stop.mk ?_)
local macro_rules | `(tactic| walk_at "execs cons Assign") => `(tactic| refine Stop.mk ?_)

theorem len7 {vs : List Value} {l : List Int} (_h : IntsAre vs ([80, 331, 3] ++ l.take 4)) : ([80, 331, 3] ++ l.take 4).length ≤ 7 := by
  rw [List.length_append, List.length_take]; simp; omega
theorem len_flat {pss : List (List Nat)} {i : Nat} {ns : List Nat} (h : pss[i]? = some ns) : ns.length ≤ pss.flatten.length := by
  induction pss generalizing i with
  | nil => simp at h
  | cons a r ih =>
    rw [List.flatten_cons, List.length_append]
    cases i with
    | zero => simp at h; subst h; omega
    | succ i => have := ih (i := i) (by simpa using h); omega
theorem take_map_succ {pss : List (List Nat)} {i : Nat} {ns : List Nat} (h : pss[i]? = some ns) : (pss.take (i + 1)).map toldP = (pss.take i).map toldP ++ [toldP ns] := by
  rw [List.take_add_one, h]; simp
theorem list_vola {h₀ h : Heap} {L I ap : Addr} {oI : Obj} {i : Nat} {led : Led} (hst : h.IsListIter I ap i) (N : News h₀ L h ((I, oI) :: led)) : Vola oI := by
  obtain ⟨o', q, _, hd'⟩ := hst
  have e := (N _ List.mem_cons_self).1
  rw [q] at e; cases e
  exact .inl ⟨_, _, _, hd', rfl⟩
theorem law_s {w : World} {p : Program} {loose : List Str} {mean : ExcName → Option Value} {mg mb : Str → Option Value} {A₀ : Around} {base h₀ : Heap} {L fa sa : Addr} {m : Str → Option Value} {nx : Led} {s : Shared} {Q : Flow → Shared → Prop} {E : Value → Shared → Prop}
    {vss : List Value} {ls : List Int}
    (B : Below A₀ base [] h₀) (F : Fr h₀ L s.heap m) (X : (Mine.hd.heap_39 w.params).In h₀) (N : News h₀ L s.heap nx) (T : Top p loose mean mg mb h₀) (hC : Codes h₀)
    (hm : m (Str.ofString "script") = some (.ref sa)) (hsl : h₀.IsList sa vss.toArray) (hI : IntsAre vss ls) (hlen : ls.length ≤ 63)
    (hi1 : Hi (L + 1)) (hi2 : Hi (L + 1 + 1)) (hi3 : Hi (L + 1 + 1 + 1)) (hi4 : Hi (L + 1 + 1 + 1 + 1))
    (hT : Tabs nx) (cM : CellV nx (L + 1) none) (cI : CellV nx (L + 1 + 1) none) (cJ : CellV nx (L + 1 + 1 + 1) none) (cW : CellV nx (L + 1 + 1 + 1 + 1) none)
    (ret : ∀ m' ny h' tk', Fr h₀ L h' m' → News h₀ L h' ny → Tabs ny → Q (.ret (.bool true)) { s with heap := h', toks := tk' }) :
    wpAny (model PR w) (callerA.deeper (lawEnv L fa)) (execs lawStmts (lawEnv L fa)) Q E s := by
  conv in lawStmts => whnf
  unfold lawEnv
  conv in (occs := *) lawScope => all_goals whnf
  rw [map_named hm] at F
  refine wpAny_execs_cons ?_
  k_steps
  rename_i l1 _ hl1 D1 ws1 _ hI1 _ _ hl2 D' ws' h' F₁ N₁ hI₁ hl3
  have hD' : Hi D' := hT.above (allLt_mem hl3.2.2)
  have kk : KeepT nx ((D', listOf ws'.toArray 0) :: (D1, listOf ws1.toArray 0) :: (l1, listOf #[Value.int 80 s.toks, Value.int 331 (s.toks + 1), Value.int 3 (s.toks + 1 + 1)] 0) :: nx) := KeepT.cons.trans (KeepT.cons.trans KeepT.cons)
  have hDm : (D', listOf ws'.toArray 0) ∈ (D', listOf ws'.toArray 0) :: (D1, listOf ws1.toArray 0) :: (l1, listOf #[Value.int 80 s.toks, Value.int 331 (s.toks + 1), Value.int 3 (s.toks + 1 + 1)] 0) :: nx := List.mem_cons_self
  generalize (D', listOf ws'.toArray 0) :: (D1, listOf ws1.toArray 0) :: (l1, listOf #[Value.int 80 s.toks, Value.int 331 (s.toks + 1), Value.int 3 (s.toks + 1 + 1)] 0) :: nx = n0 at N₁ kk hDm
  have hx7 := len7 hI₁
  refine Stop.out (pieces_spec (hT.mono kk) ⟨_, _, _, rfl, hD', hDm, hI₁⟩ (Nat.le_trans hx7 (by decide)) _ _ _ _ _ _ _ _ _ _ _ _ _ _ _ _ _ B F₁ X N₁ T hC rfl (by decide) (by decide) ?_)
  rintro r n₁ h₂ tk₂ F₂ N₂ ⟨hK₁, hT₂, ap, vsp, kp, rfl, hap, hapm, hall⟩
  obtain ⟨hq1, hq8, htot, hoct⟩ := pieces_len hx7
  generalize piecesOf _ = pss at hall hq1 hq8 htot hoct
  have kk₁ : KeepS nx n₁ := kk.s.trans hK₁.s
  clear kk hK₁ hDm hD' hI₁ hl1 hl2 hl3 hI1
  dsimp only
  k_steps
  refine Stop.out (wpAny_execs_cons ?_)
  k_steps
  refine Stop.out (comp_store (by with_unfolding_all rfl) (by with_unfolding_all rfl) rfl (by decide) ?_)
  k_steps
  rename Fr _ _ _ _ => F₃
  rename News _ _ _ _ => N₃
  refine Stop.out (pyIter_led F₃ N₃ hapm ?_)
  intro I h₄ F₄ N₄ hIlt
  have hne : ap ≠ I := Nat.ne_of_lt (hIlt _ hapm)
  have hvl := hall.length
  refine comp_block (n := vsp.length) (S := fun nx => (ap, listOf vsp.toArray kp) ∈ nx) (P := fun i v => vsp.toArray[i]? = some v) (St := fun i h => h.IsListIter I ap i ∧ h.IsList ap vsp.toArray) (fp := [I, ap]) (Walks.list rfl I ap hne vsp.toArray)
    (fun i ys nz => Keep n₁ nz ∧ Tabs nz ∧ AllT nz ys ((pss.take i).map toldP)) (fun i h st => by obtain ⟨o, e, _⟩ := st.1; exact ⟨o, e⟩) ?_ (by decide) rfl rfl (by rw [hvl, sizeLine_eq]; omega) ?_ F₄ N₄ (fun p hp => Nat.ne_of_lt (hIlt p hp)) ?_ hapm ⟨Keep.refl _, hT₂, trivial⟩ ?_ ?_
  · intro i h h2 o nw st e e2 _ N9 hS
    exact ⟨by obtain ⟨o', q, r⟩ := st.1; rw [e] at q; cases q; exact ⟨o, e2, r⟩, ⟨_, (N9 _ hS).1, rfl, kp, rfl⟩⟩
  · intro b hb
    rcases List.mem_cons.mp hb with rfl | hb
    · exact Heap.lt_size (N₄ _ List.mem_cons_self).1
    · rw [List.mem_singleton.mp hb]; exact Heap.lt_size (N₄ _ (List.mem_cons_of_mem _ hapm)).1
  · exact ⟨⟨_, (N₄ _ List.mem_cons_self).1, rfl, rfl⟩, ⟨_, (N₄ _ (List.mem_cons_of_mem _ hapm)).1, rfl, kp, rfl⟩⟩
  · rintro C D i v ys nz m₂ s₄ h tk oI oC ⟨g₄, tk₄, rfl⟩ hlD hDC hi hP hyl ⟨hkz, hTz, hys⟩ hS hst hnC hmx F₅ N₅ hoff
    obtain ⟨ns, hns, hin⟩ := hall.get (i := i) (by simpa using hP)
    k_steps
    have up : KeepT nz ((I, oI) :: (C, oC) :: (D, LCg.lst ys) :: nz) := KeepT.cons.trans (KeepT.cons.trans KeepT.cons)
    refine Stop.out (told_spec (hTz.mono up) (hin.mono (hkz.s.trans up.s)) (Nat.le_trans (len_flat hns) (Nat.le_trans htot (by decide))) _ _ _ _ _ _ _ _ _ _ _ _ _ _ _ _ _ B F₅ X N₅ T hC rfl (by decide) (by decide) ?_)
    rintro r n₂ h₆ tk₆ F₆ N₆ ⟨hK₂, hT₃, htup⟩
    obtain ⟨nz', N₇, off₇, k₇, t₇, u₇⟩ := comp_fin hoff hTz N₆ hK₂ hT₃ (list_vola hst.1 N₅) hnC
    exact KEnd.intro F₆ N₇ off₇ (k₇ _ hS hap) ⟨hkz.trans k₇, t₇, by rw [take_map_succ hns]; exact (hys.mono k₇.s).snoc (u₇ _ _ _ htup)⟩
  · intro C D h tk m' ys nz hyl F₅ hn₅ N₅ hoff hC₀ hCL hCD hlD hS ⟨hkz, hTz, hys⟩
    refine post_store rfl rfl rfl F₅ hn₅ N₅ (fun p hp => (hoff p hp).2.1) hC₀ hCL hCD ?_
    intro h₆ tk₆ F₆ N₆
    rw [hvl, List.take_length] at hys
    have hyq : ys.length = pss.length := hyl.trans hvl
    have hiD : Hi D := hT₂.above fun p hp => hlD p (List.mem_cons_of_mem _ hp)
    k_steps
    refine Stop.out (wpAny_execs_cons ?_)
    k_steps
    refine Stop.out (len_list (items := ys.toArray) ⟨_, (N₆ _ List.mem_cons_self).1, rfl, _, rfl⟩ (by rw [List.size_toArray]; omega) ?_)
    rw [List.size_toArray, hyq]
    k_steps
    rename Fr _ _ _ _ => F₇
    rename News _ _ _ _ => N₇
    have kfin : KeepS nx ((D, LCg.lst ys) :: nz) := kk₁.trans (hkz.s.trans Keep.cons.s)
    refine Stop.out (law_a B F₇ X N₇ T hC hi1 hi2 hi3 hi4 hiD hap ⟨rfl, rfl, rfl⟩ hq1 hq8 (hTz.mono KeepT.cons) (cM.mono hi1 kfin) (cI.mono hi2 kfin) (cJ.mono hi3 kfin) (cW.mono hi4 kfin) List.mem_cons_self (hys.mono Keep.cons.s) (List.mem_cons_of_mem _ hS) (hall.mono (hkz.s.trans Keep.cons.s)) ?_)
    intro d od kvs m8 n8 h8 tk8 vi8 F₈ N₈ hm₈ x₈ hmi₈ hl₈
    refine law_c B F₈ X N₈ T hC hm₈ hq1 hq8 htot x₈ hmi₈ hl₈ ?_
    intro od9 kvs9 m9 n9 h9 tk9 vi9 vj9 vw9 F₉ N₉ hm₉ x₉ hmi₉
    refine law_d B F₉ X N₉ T hC hm₉ htot hoct x₉ ?_
    intro U R rs m10 n10 h10 tk10 F₁₀ N₁₀ hm₁₀ hK₁₀ hT₁₀ y₁₀
    have x₁₀ := x₉.keep hK₁₀ hT₁₀
    refine law_e B F₁₀ X N₁₀ T hC hm₁₀ hq1 htot x₁₀ y₁₀ (hmi₉.monoQ hK₁₀.s.q) ?_
    intro m11 n11 h11 tk11 F₁₁ N₁₁ hm₁₁ hK₁₁ hT₁₁
    have x₁₁ := x₁₀.keep hK₁₁ hT₁₁
    have y₁₁ := y₁₀.keep hK₁₁.s
    refine law_f B F₁₁ X N₁₁ T hC hm₁₁ hq1 hq8 htot x₁₁ y₁₁ ?_
    intro m12 n12 h12 tk12 F₁₂ N₁₂ hm₁₂ hK₁₂ hT₁₂
    refine law_g B F₁₂ X N₁₂ T hC hm₁₂ hq1 hq8 htot hoct (x₁₁.keep hK₁₂ hT₁₂) (y₁₁.keep hK₁₂.s) ?_
    intro m13 n13 h13 tk13 F₁₃ N₁₃ hT₁₃
    exact ret _ _ _ _ F₁₃ N₁₃ hT₁₃
end Mine

end

section
open PySem PySem.W PyProof.Rows
set_option maxRecDepth 100000
set_option maxHeartbeats 4000000
namespace Mine
local macro_rules | `(tactic| walk_at "execs cons Assign") => `(tactic| refine Stop.mk ?_)
theorem first_state {h₀ h : Heap} {L : Addr} {w₀ w₁ w₂ w₃ : Obj} (N : News h₀ L h [(L + 1 + 1 + 1 + 1, w₃), (L + 1 + 1 + 1, w₂), (L + 1 + 1, w₁), (L + 1, w₀), (44, tabObj #[]), (37, tabObj #[]), (58, tabObj #[])])
    (d₃ : w₃.data = .cell none) (d₂ : w₂.data = .cell none) (d₁ : w₁.data = .cell none) (d₀ : w₀.data = .cell none) :
    ∃ led, News h₀ L h led ∧ Tabs led ∧ CellV led (L + 1) none ∧ CellV led (L + 1 + 1) none ∧ CellV led (L + 1 + 1 + 1) none ∧ CellV led (L + 1 + 1 + 1 + 1) none := by
  refine ⟨_, N, ⟨⟨#[], ?_, .inl rfl⟩, ⟨#[], ?_, .inl rfl⟩, ⟨#[], ?_, .inl rfl⟩⟩, ⟨w₀, ?_, d₀⟩, ⟨w₁, ?_, d₁⟩, ⟨w₂, ?_, d₂⟩, ⟨w₃, ?_, d₃⟩⟩ <;> simp
theorem hi_add {L : Nat} (h : 44 < L ∧ 37 < L ∧ 58 < L) (k : Nat) : Hi (L + k) := ⟨Nat.ne_of_gt (Nat.lt_of_lt_of_le h.2.1 (Nat.le_add_right _ _)), Nat.ne_of_gt (Nat.lt_of_lt_of_le h.1 (Nat.le_add_right _ _)), Nat.ne_of_gt (Nat.lt_of_lt_of_le h.2.2 (Nat.le_add_right _ _))⟩

theorem post_true (a : List WData) : PySem.Challenge.rw_mq0060_01.row.claim.post a (.bool true) a = true := by
  kc_post

theorem law_holds : PySem.Challenge.rw_mq0060_01.Holds := by
  refine Mine.hd ?_
  w_strict (k_go0; (all_goals try k_fold); k_steps)
  rename IntsAre _ _ => hI
  rename _ = #[] => hgen
  rename_i hcond1 hcond2 hD h1 tk1 cw3 cw2 cw1 cw0 dc3 dc2 dc1 dc0 XC X T B F c2 c1 N hl₀
  obtain ⟨led, N₁, hT₁, cM₁, cI₁, cJ₁, cW₁⟩ := first_state N dc3 dc2 dc1 dc0
  refine Stop.out (law_s B F X N₁ T ⟨c1, c2, codeHd⟩ (by with_unfolding_all rfl) lifted hI (by omega) (hi_add hl₀ 1) (hi_add hl₀ 2) (hi_add hl₀ 3) (hi_add hl₀ 4) hT₁ cM₁ cI₁ cJ₁ cW₁ ?_)
  intro m' ny h' tk' F' N' hT'
  clear N N₁ hD
  refine ⟨goodW_bool F' hgen ?_ ?_, ?_⟩
  · intro cls
    rfl
  · exact post_true _
  · obtain ⟨⟨p1, h1, _⟩, ⟨p2, h2, _⟩, ⟨p3, h3, _⟩⟩ := hT'
    exact ⟨GrownAt.of N' h2, GrownAt.of N' h1, GrownAt.of N' h3, trivial⟩
end Mine

end

set_option maxRecDepth 100000 in
set_option maxHeartbeats 8000000 in
theorem PySem.Challenge.cw_mq0060_01_holds : PySem.Challenge.rw_mq0060_01.Holds :=
  Mine.law_holds
