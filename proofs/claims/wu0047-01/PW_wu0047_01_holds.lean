import PyProof.Rows.All
import Wide.All
import OpenK.AllK
import Wide.FinOn
import Lean
import PySem.Challenge.RW_wu0047_01
open PySem PySem.W PyProof.Rows
open PySem.Calls PySem.Spec
set_option Elab.async false
set_option maxRecDepth 100000
set_option maxHeartbeats 8000000
namespace Mine
open_top hd for PySem.Challenge.rw_wu0047_01
section
/-! the plain functions -/
noncomputable def more (ns : List Int) (v : Int) : List Int := if ((ns.any fun x => x == v) == false) = true then ns ++ ns.map (fun x => Builtin.bitXor x v) else ns
/-- the ring's number at a beat -/
noncomputable def at6 (r : List Int) (b : Int) : Int := r.getD (b.fmod 6).toNat 0
noncomputable def throwGo (r : List Int) (b : Int) : Nat → Int → List Int → Int
  | 0, t, _ => t
  | n + 1, t, sums => if ((sums.any fun x => x == at6 r b) == true) = true then t else throwGo r b n (t + 1) (more sums (at6 r (b + t + 1)))
noncomputable def throwP (r : List Int) (b : Int) : Int := throwGo r b 6 0 [0]
theorem map_two {m' m₀ : Str → Option Value} {a b : Str} {v w : Value} (h : ∀ z, z ≠ a → z ≠ b → m' z = m₀ z) (hb : m' b = some w) :
    (fun y => if y = a then some v else m' y) = fun y => if y = a then some v else if y = b then some w else m₀ y := by
  funext y
  by_cases h1 : y = a
  · simp only [if_pos h1]
  · by_cases h2 : y = b
    · subst h2; simp only [if_neg h1, if_pos]; exact hb
    · simp only [if_neg h1, if_neg h2]; exact h y h1 h2
noncomputable def freshGo (r : List Int) : Nat → Int → List Int → List Int
  | 0, _, _ => []
  | n + 1, j, sums => if (more sums (at6 r j)).length > sums.length then j :: freshGo r n (j + 1) (more sums (at6 r j)) else freshGo r n (j + 1) (more sums (at6 r j))
noncomputable def freshP (r : List Int) (b : Int) : List Int := freshGo r 6 b [0]
theorem map_one {m' m₀ : Str → Option Value} {a : Str} {v : Value} (h : ∀ z, z ≠ a → m' z = m₀ z) : (fun y => if y = a then some v else m' y) = fun y => if y = a then some v else m₀ y := by
  funext y
  by_cases h1 : y = a
  · simp only [if_pos h1]
  · simp only [if_neg h1]; exact h y h1
/-- the map a turn begins with: the loop's name a, a stored name b, a stored name c that nothing reads before it is stored anew -/
theorem map_three {m' m₀ : Str → Option Value} {a b c : Str} {v w : Value} (h : ∀ z, z ≠ a → z ≠ b → z ≠ c → m' z = m₀ z) (hb : m' b = some w) :
    (fun y => if y = a then some v else m' y) = fun y => if y = a then some v else if y = b then some w else if y = c then m' y else m₀ y := by
  funext y
  by_cases h1 : y = a
  · simp only [if_pos h1]
  · by_cases h2 : y = b
    · subst h2; simp only [if_neg h1, if_pos]; exact hb
    · by_cases h3 : y = c
      · simp only [if_neg h1, if_neg h2, if_pos h3]
      · simp only [if_neg h1, if_neg h2, if_neg h3]; exact h y h1 h2 h3
theorem map_all2 {m' m₀ : Str → Option Value} {a b : Str} {w : Value} (h : ∀ z, z ≠ a → z ≠ b → m' z = m₀ z) (hb : m' b = some w) :
    m' = fun y => if y = a then m' y else if y = b then some w else m₀ y := by
  funext y
  by_cases h1 : y = a
  · simp only [if_pos h1]
  · by_cases h2 : y = b
    · subst h2; simp only [if_neg h1, if_pos]; exact hb
    · simp only [if_neg h1, if_neg h2]; exact h y h1 h2
theorem map_all3 {m' m₀ : Str → Option Value} {a b c : Str} {w : Value} (h : ∀ z, z ≠ a → z ≠ b → z ≠ c → m' z = m₀ z) (hb : m' b = some w) :
    m' = fun y => if y = a then m' y else if y = b then some w else if y = c then m' y else m₀ y := by
  funext y
  by_cases h1 : y = a
  · simp only [if_pos h1]
  · by_cases h2 : y = b
    · subst h2; simp only [if_neg h1, if_pos]; exact hb
    · by_cases h3 : y = c
      · simp only [if_neg h1, if_neg h2, if_pos h3]
      · simp only [if_neg h1, if_neg h2, if_neg h3]; exact h y h1 h2 h3
theorem ints_push {vs : List Value} {ns : List Int} {n : Int} {t : Tok} (h : IntsAre vs ns) : IntsAre (vs ++ [.int n t]) (ns ++ [n]) := by
  induction h with
  | nil => exact .cons n t .nil
  | cons k u _ ih => exact .cons k u ih
noncomputable def bisGo (ns : List Int) (x : Int) : Nat → Int → Int → Int
  | 0, lo, _ => lo
  | f + 1, lo, hi => if lo < hi then (if x < ns.getD ((lo + hi).fdiv 2).toNat 0 then bisGo ns x f lo ((lo + hi).fdiv 2) else bisGo ns x f ((lo + hi).fdiv 2 + 1) hi) else lo
noncomputable def bisP (ns : List Int) (x : Int) : Int := bisGo ns x ns.length 0 ns.length
noncomputable def insP (ns : List Int) (x : Int) : List Int := ns.take (bisP ns x).toNat ++ x :: ns.drop (bisP ns x).toNat
theorem bisGo_range (ns : List Int) (x : Int) : ∀ (f : Nat) (lo hi : Int), lo ≤ hi → lo ≤ bisGo ns x f lo hi ∧ bisGo ns x f lo hi ≤ hi
  | 0, lo, hi, h => ⟨Int.le_refl _, h⟩
  | f + 1, lo, hi, h => by
    unfold bisGo
    have e : (lo + hi).fdiv 2 = (lo + hi) / 2 := Int.fdiv_eq_ediv_of_nonneg _ (by decide)
    rw [e]
    split
    · split
      · have := bisGo_range ns x f lo ((lo + hi) / 2) (by omega); omega
      · have := bisGo_range ns x f ((lo + hi) / 2 + 1) hi (by omega); omega
    · omega
theorem bisP_range (ns : List Int) (x : Int) : 0 ≤ bisP ns x ∧ bisP ns x ≤ ns.length := bisGo_range ns x _ _ _ (by omega)
noncomputable def jugGo (r th : List Int) : Nat → Int → List Int → Bool
  | 0, _, _ => true
  | n + 1, b, row =>
    if 0 < th.getD b.toNat 0 then
      (if row.take 1 = [b] then (if insP row.tail (b + th.getD b.toNat 0) = freshP r (b + 1) then jugGo r th n (b + 1) (insP row.tail (b + th.getD b.toNat 0)) else false) else false)
    else (if row = freshP r (b + 1) then jugGo r th n (b + 1) row else false)
noncomputable def jugP (r th : List Int) : Bool := jugGo r th 6 0 (freshP r 0)
theorem fresh_len (r : List Int) : ∀ (n : Nat) (j : Int) (sums : List Int), (freshGo r n j sums).length ≤ n
  | 0, _, _ => Nat.le_refl _
  | n + 1, j, sums => by
    unfold freshGo
    split
    · rw [List.length_cons]; exact Nat.succ_le_succ (fresh_len r n _ _)
    · exact Nat.le_succ_of_le (fresh_len r n _ _)
theorem freshP_len (r : List Int) (b : Int) : (freshP r b).length ≤ 6 := fresh_len r 6 b [0]
noncomputable def signsAt (op cl : List Int) (p : Int) : List Str := (if (op.any fun x => x == p) = true then [Str.ofString "("] else []) ++ (if (cl.any fun x => x == p) = true then [Str.ofString ")"] else [])
noncomputable def signsP (order op cl : List Int) : List Str := order.flatMap (signsAt op cl)
noncomputable def textP (order op cl : List Int) : Str := PySem.Txt.join (Str.ofString "") (signsP order op cl)
theorem strs_push {vs : List Value} {ys : List Str} {y : Str} {t : Tok} (h : StrsAre vs ys) : StrsAre (vs ++ [.str y t]) (ys ++ [y]) := by
  induction h with
  | nil => exact .cons y t .nil
  | cons z u _ ih => exact .cons z u ih
theorem strs_length {vs : List Value} {ys : List Str} (h : StrsAre vs ys) : vs.length = ys.length := by
  induction h with
  | nil => rfl
  | cons z u _ ih => simp only [List.length_cons, ih]
theorem ints_at {vs : List Value} {ns : List Int} (h : IntsAre vs ns) : ∀ {i : Nat} {v : Value}, vs[i]? = some v → ∃ n t, v = .int n t ∧ ns[i]? = some n := by
  induction h with
  | nil => intro i v e; simp at e
  | cons n t _ ih => intro i v e; cases i with
    | zero => exact ⟨n, t, by simpa using e.symm, rfl⟩
    | succ i => exact ih (by simpa using e)
theorem map_all1 {m' m₀ : Str → Option Value} {a : Str} (h : ∀ z, z ≠ a → m' z = m₀ z) : m' = fun y => if y = a then m' y else m₀ y := by
  funext y
  by_cases h1 : y = a
  · simp only [if_pos h1]
  · simp only [if_neg h1]; exact h y h1

end
section
/-! the ledger -/
theorem led_front {h₀ h : Heap} {L : Addr} {news : List (Addr × Obj)} {p : Addr × Obj} (N : News h₀ L h news) (hm : p ∈ news) : News h₀ L h (p :: news) :=
  fun q hq => (List.mem_cons.mp hq).elim (fun e => e ▸ N p hm) (N q)
theorem led_sub {h₀ h : Heap} {L : Addr} {news news' : List (Addr × Obj)} (N : News h₀ L h news') (hs : ∀ p ∈ news, p ∈ news') : News h₀ L h news := fun p hp => N p (hs p hp)
theorem sub_cons {p : Addr × Obj} {news news' : List (Addr × Obj)} (hp : p ∈ news') (hs : ∀ p ∈ news, p ∈ news') : ∀ q ∈ p :: news, q ∈ news' :=
  fun q hq => (List.mem_cons.mp hq).elim (fun e => e ▸ hp) (hs q)
theorem sub_skip {p : Addr × Obj} {news news' : List (Addr × Obj)} (hs : ∀ p ∈ news, p ∈ news') : ∀ q ∈ news, q ∈ p :: news' := fun q hq => List.mem_cons_of_mem _ (hs q hq)
theorem sub_refl {news : List (Addr × Obj)} : ∀ q ∈ news, q ∈ news := fun _ h => h
theorem sub_nil {news : List (Addr × Obj)} : ∀ q ∈ ([] : List (Addr × Obj)), q ∈ news := fun _ h => nomatch h
theorem led_ne {h₀ h : Heap} {L a b : Addr} {o o' : Obj} {news : List (Addr × Obj)} (N : News h₀ L h news) (h1 : (a, o) ∈ news) (h2 : (b, o') ∈ news) (hc : o.cls ≠ o'.cls) : a ≠ b := by
  rintro rfl
  exact hc (congrArg Obj.cls (Option.some.inj ((N.get h1).symm.trans (N.get h2))))
theorem listCls_ne_range {vs : Array Value} {n : Nat} {x y : Int} : (listOf vs n).cls ≠ (itR x y).cls := by intro e; exact absurd (Value.type.inj e) (by decide)
theorem allLt_all {d : Addr} : ∀ {l : List (Addr × Obj)}, AllLt d l → ∀ p ∈ l, p.1 < d
  | [], _, _, h => nomatch h
  | _ :: _, ⟨h1, h2⟩, p, h => (List.mem_cons.mp h).elim (fun e => e ▸ h1) (allLt_all h2 p)
theorem lt_all_ne {d : Addr} {l : List (Addr × Obj)} (h : ∀ p ∈ l, p.1 < d) : ∀ p ∈ l, p.1 ≠ d := fun p hp => Nat.ne_of_lt (h p hp)
theorem lt_cons {p : Addr × Obj} {d : Addr} {l : List (Addr × Obj)} (hp : p.1 < d) (hs : ∀ q ∈ l, q.1 < d) : ∀ q ∈ p :: l, q.1 < d := fun q hq => (List.mem_cons.mp hq).elim (fun e => e ▸ hp) (hs q)
theorem fr_eq {h₀ h : Heap} {L : Addr} {m m' : Str → Option Value} (F : Fr h₀ L h m) (e : m = m') : Fr h₀ L h m' := e ▸ F
theorem room0 {d a b : Nat} (h : d + a < recursionLimit) (e : Nat.ble b a = true) : d + b < recursionLimit := Nat.lt_of_le_of_lt (Nat.add_le_add_left (Nat.le_of_ble_eq_true e) d) h
theorem room1 {d a b : Nat} (h : d + a < recursionLimit) (e : Nat.ble (1 + b) a = true) : d + 1 + b < recursionLimit := by
  rw [Nat.add_assoc]
  exact room0 h e
theorem room2 {d a : Nat} (h : d + a < recursionLimit) : d < recursionLimit := Nat.lt_of_le_of_lt (Nat.le_add_right d a) h
theorem unit0 {d a b : Nat} (h : d + a < cLine) (e : Nat.ble b a = true) : d + b < cLine := Nat.lt_of_le_of_lt (Nat.add_le_add_left (Nat.le_of_ble_eq_true e) d) h
theorem unit1 {d a b c : Nat} (h : d + a < cLine) (e : Nat.ble (c + b) a = true) : d + c + b < cLine := by
  rw [Nat.add_assoc]
  exact unit0 h e

end
local macro_rules | `(tactic| ktr_enter) => `(tactic| k_extra "enter")
local macro_rules | `(tactic| k_room) => `(tactic| ktr_room)
local macro_rules | `(tactic| k_all) => `(tactic| k_extra "all")
local macro_rules | `(tactic| k_ne) => `(tactic| (refine neN ?_; (try dsimp only); first | k_extra "ne" | omega))
local macro_rules | `(tactic| ktr_room) => `(tactic| k_extra "room")
local macro_rules | `(tactic| ktr_units) => `(tactic| k_extra "units")
local macro_rules | `(tactic| ke_room) => `(tactic| k_extra "units")
local macro_rules | `(tactic| walk_at $s:str) => `(tactic| k_extra $s)
section
theorem entry_hasattr : entryFor table "hasattr" = some Builtin.«hasattr» := entryFor_of_tree (by kernel_rfl)
theorem kind_hasattr : builtinKind "hasattr" = none := by kernel_rfl
theorem plain_hasattr : plainId "hasattr" = true := by decide +kernel
theorem args_hasattr (a b : Value) : argsOk "hasattr" ⟨[a, b], []⟩ := by unfold argsOk; kernel_rfl
theorem slot_mdget : Slot "method_descriptor" "__get__" "method_descriptor.__get__" :=
  .of (owner := "method_descriptor") (n := "__get__") (by rw [typeLookup_type, builtinLookup_eq_fast]; kernel_rfl) (by decide +kernel) (by decide +kernel) (by decide +kernel)
    (by first | exact .inl (by decide +kernel) | exact .inr (by decide +kernel)) (by rw [isSubtype_type]; kernel_rfl)
theorem entry_mdget : entryFor table "method_descriptor.__get__" = some Builtin.«method_descriptor.__get__» := entryFor_of_tree (by kernel_rfl)
theorem args_mdget (a b c : Value) : argsOk "method_descriptor.__get__" ⟨[a, b, c], []⟩ := by unfold argsOk; kernel_rfl
theorem type_lgi : typeOf (.builtin "list.__getitem__") = pure (.type "method_descriptor") := by show builtinType _ = _; rw [builtinType_eq_fast]; kernel_rfl

theorem run_mdget {prog : Program} {w : World} {A : Around} {E : Value → Shared → Prop} {s : Shared} {l : Addr} {items : Array Value} {n : Nat} {Q : PySem.Fin → Shared → Prop}
    (ho : s.heap.get? l = some (listOf items n))
    (h : ∀ v o, Q (.done (.ret (.ref v))) { s with heap := s.heap.push o }) :
    wpAny (model prog w) A (Builtin.«method_descriptor.__get__» ⟨[.builtin "list.__getitem__", .ref l, .type "list"], []⟩) Q E s := by
  obtain ⟨hp, g, d, tk, os⟩ := s
  have e3 : isSubtype (.type "list") (.type (".".intercalate ("list.__getitem__".cutAt '.').dropLast)) = pure true := by
    rw [show ".".intercalate ("list.__getitem__".cutAt '.').dropLast = "list" from by decide +kernel, isSubtype_type]; kernel_rfl
  unfold Builtin.«method_descriptor.__get__»
  repeat (any_goals (first | assumption | exact h _ _ | wp_step))

theorem run_hasattr {prog : Program} {w : World} {A : Around} {E : Value → Shared → Prop} {s : Shared} {l : Addr} {items : Array Value} {n : Nat} {t : Tok} {Q : PySem.Fin → Shared → Prop}
    (ho : s.heap.get? l = some (listOf items n))
    (h : ∀ o tk, Q (.done (.ret (.bool true))) { s with heap := s.heap.push o, toks := tk }) :
    wpAny (model prog w) A (Builtin.«hasattr» ⟨[.ref l, .str "__getitem__" t], []⟩) Q E s := by
  obtain ⟨hp, g, d, tk, os⟩ := s
  have hT : ∀ tk', (⟨hp, g, d, tk', os⟩ : Shared).TypeIs (.ref l) "list" := fun _ => ⟨_, ho, rfl⟩
  have e1 := slot_list_getitem.lookup
  have e4 := type_lgi
  have e5 := slot_mdget.lookup
  have e6 : typeLookup (.type "method_descriptor") "__set__" = pure none := by rw [typeLookup_type, builtinLookup_eq_fast]; kernel_rfl
  have e7 : typeLookup (.type "method_descriptor") "__delete__" = pure none := by rw [typeLookup_type, builtinLookup_eq_fast]; kernel_rfl
  have f3 := F.slot_list_getattribute.lookup
  have f4 := F.slot_list_getattribute.bind (.ref l)
  have e3 : isSubtype (.type "list") (.type "module") = pure false := by rw [isSubtype_type]; kernel_rfl
  wp_walk
  refine codeAny_call_builtin F.slot_list_getattribute.plain am_entry_list_getattribute (F.slot_list_getattribute.check _ _ _ _ _ _ _ _ (hT _) (F.args_list_getattribute_2 _ _) ?_)
  unfold Builtin.«object.__getattribute__»
  wp_walk
  refine codeAny_call_builtin slot_mdget.plain entry_mdget (slot_mdget.check _ _ _ _ _ _ _ _ (show Shared.TypeIs _ (.builtin "list.__getitem__") "method_descriptor" from type_lgi) (args_mdget _ _ _) ?_)
  refine run_mdget ho ?_
  intro v o
  repeat (any_goals (first | assumption | exact h _ _ | wp_step))
  all_goals trace_state

theorem hasattr_K {prog : Program} {w : World} {A : Around} {E : Value → Shared → Prop} {s : Shared} {h₀ : Heap} {L l : Addr} {m : Str → Option Value} {news : List (Addr × Obj)} {items : Array Value} {n : Nat} {t : Tok} {Q : Value → Shared → Prop}
    (F : Fr h₀ L s.heap m) (N : News h₀ L s.heap news) (hm : (l, listOf items n) ∈ news)
    (h : ∀ h' tk', Fr h₀ L h' m → News h₀ L h' news → Q (.bool true) { s with heap := h', toks := tk' }) :
    wpAny (model prog w) A (call (.builtin "hasattr") [.ref l, .str "__getitem__" t]) Q E s :=
  Calls.call_function_entry kind_hasattr plain_hasattr entry_hasattr (args_hasattr _ _)
    (run_hasattr (N.get hm) fun o tk => ⟨_, rfl, h _ _ (F.push o) fun p hp => ⟨Heap.get?_push_of_some _ (N p hp).1, (N p hp).2⟩⟩)

end
section
/-! loops by an invariant of one's own -/
section
variable {prog : Program} {w : World} {A : Around} {E : Value → Shared → Prop} {s : Shared} {env : Env} {h₀ : Heap} {x : Str} {body : List Stmt} {Q : Flow → Shared → Prop}

theorem UnrPost.mono {L I : Addr} {it : Obj} {s₁ : Shared} {rest rest' : (Str → Option Value) → List (Addr × Obj) → Prop} {f : Flow} {s₂ : Shared}
    (h : UnrPost h₀ L s₁ I it rest Q f s₂) (hr : ∀ m n, rest m n → (∀ p ∈ n, p.1 ≠ I) → rest' m n) : UnrPost h₀ L s₁ I it rest' Q f s₂ := by
  have k : UnrEnd h₀ L s₁ I it rest s₂ → UnrEnd h₀ L s₁ I it rest' s₂ := by
    rintro ⟨h', tk, m', n', e, F, N, o, r⟩
    exact ⟨h', tk, m', n', e, F, N, o, hr _ _ r o⟩
  cases f with
  | ret v => exact h
  | brk => exact h
  | next => exact k h
  | cont => exact k h

/-- a for over range(a₀, a₀ + n) by an invariant over the frame's map and the ledger -/
theorem range_inv {r : Addr} {a₀ b₀ : Int} {t₀ u₀ v₀ : Tok} {n : Nat} {m₀ : Str → Option Value} {news : List (Addr × Obj)} (J : Nat → (Str → Option Value) → List (Addr × Obj) → Prop)
    (hh : A.handled = none) (hr : IsRange s.heap r a₀ b₀ 1 t₀ u₀ v₀) (hsmall : Builtin.Range.small a₀ b₀ 1 = true) (hn : Builtin.Range.rangeSize a₀ b₀ 1 = (n : Int)) (F : Fr h₀ env.locals s.heap m₀) (N : News h₀ env.locals s.heap news)
    (j0 : J 0 m₀ news)
    (turn : ∀ i I m₁ news₁ t h tk, i < n → J i m₁ news₁ → (∀ p ∈ news₁, p.1 ≠ I) → Fr h₀ env.locals h (fun y => if y = x then some (.int (a₀ + (i : Int)) t) else m₁ y) →
      News h₀ env.locals h ((I, itR (a₀ + ((i + 1 : Nat) : Int)) ((n : Int) - ((i + 1 : Nat) : Int))) :: news₁) →
      wpAny (model prog w) A (execs body env) (UnrPost h₀ env.locals { s with heap := h, toks := tk } I (itR (a₀ + ((i + 1 : Nat) : Int)) ((n : Int) - ((i + 1 : Nat) : Int))) (J (i + 1)) Q) E { s with heap := h, toks := tk })
    (done : ∀ m₁ news₁ h tk, J n m₁ news₁ → Fr h₀ env.locals h m₁ → News h₀ env.locals h news₁ → Q .next { s with heap := h, toks := tk }) :
    wpAny (model prog w) A (pyIter (.ref r)) (fun it s₂ => LoopAtV prog w A h₀ env x body Q E it s₂) E s := by
  refine iter_rangeUnr hh hr hsmall hn F N fun I hI => ?_
  have key : ∀ k i m₁ news₁, k + i = n → J i m₁ news₁ → (∀ p ∈ news₁, p.1 ≠ I) → RangeRest prog w A E h₀ env x body Q s I a₀ n k i m₁ news₁ := by
    intro k
    induction k with
    | zero =>
      intro i m₁ news₁ e j _
      have e' : i = n := by omega
      subst e'
      exact RangeRest.zero fun h tk F N => done _ _ _ _ j F N
    | succ k ih =>
      intro i m₁ news₁ e j o
      refine RangeRest.succ fun t h tk F N => ?_
      exact wpAny_mono (turn i I m₁ news₁ t h tk (by omega) j o F N) (fun f s₂ p => UnrPost.mono p fun m' n' j' o' => ih _ _ _ (by omega) j' o') fun _ _ e => e
  exact key n 0 m₀ news (by omega) j0 fun p hp => Nat.ne_of_lt (hI p hp)
end
theorem off_cons {p : Addr × Obj} {I : Addr} {news : List (Addr × Obj)} (hp : p.1 ≠ I) (hs : ∀ q ∈ news, q.1 ≠ I) : ∀ q ∈ p :: news, q.1 ≠ I := fun q hq => (List.mem_cons.mp hq).elim (fun e => e ▸ hp) (hs q)
theorem ws_intro {h₀ h' : Heap} {L : Addr} {s : Shared} {J : Nat → (Str → Option Value) → List (Addr × Obj) → Prop} {n n' tk : Nat} {m₂ : Str → Option Value} {news₂ : List (Addr × Obj)}
    (F : Fr h₀ L h' m₂) (N : News h₀ L h' news₂) (h : n' < n ∧ J n' m₂ news₂) : WhileStep h₀ L s J n .next { s with heap := h', toks := tk } := WhileStep.intro F N h.1 h.2
section
variable {prog : Program} {w : World} {A : Around} {E : Value → Shared → Prop} {s : Shared} {env : Env} {h₀ : Heap} {x : Str} {body : List Stmt} {Q : Flow → Shared → Prop}

/-- a for over a list of the ledger, of any length, that the turns leave alone -/
theorem list_inv {ax : Addr} {vs : List Value} {n : Nat} {m₀ : Str → Option Value} {news : List (Addr × Obj)} (J : Nat → (Str → Option Value) → List (Addr × Obj) → Prop)
    (hh : A.handled = none) (F : Fr h₀ env.locals s.heap m₀) (N : News h₀ env.locals s.heap news) (hm : (ax, listOf vs.toArray n) ∈ news)
    (j0 : J 0 m₀ news) (keep : ∀ i m n', J i m n' → (ax, listOf vs.toArray n) ∈ n')
    (turn : ∀ i v I it m₁ news₁ h tk, vs[i]? = some v → J i m₁ news₁ → (∀ p ∈ news₁, p.1 ≠ I) → it.cls = .type "list_iterator" → Fr h₀ env.locals h (fun y => if y = x then some v else m₁ y) →
      News h₀ env.locals h ((I, it) :: news₁) →
      wpAny (model prog w) A (execs body env) (UnrPost h₀ env.locals { s with heap := h, toks := tk } I it (J (i + 1)) Q) E { s with heap := h, toks := tk })
    (done : ∀ m₁ news₁ h tk, J vs.length m₁ news₁ → Fr h₀ env.locals h m₁ → News h₀ env.locals h news₁ → Q .next { s with heap := h, toks := tk }) :
    wpAny (model prog w) A (pyIter (.ref ax)) (fun it s₂ => LoopAtV prog w A h₀ env x body Q E it s₂) E s := by
  refine iter_listUnr (lo := listOf vs.toArray n) (n := n) hh F N hm rfl rfl fun I hI => ?_
  have key : ∀ (r : List Value) i m₁ news₁, vs.drop i = r → i ≤ vs.length → J i m₁ news₁ → (∀ p ∈ news₁, p.1 ≠ I) → ListRest prog w A E h₀ env x body Q s I (ax, listOf vs.toArray n) r m₁ news₁ := by
    intro r
    induction r with
    | nil =>
      intro i m₁ news₁ e hle j _
      have hi : vs.length = i := by
        have := congrArg List.length e
        simp only [List.length_drop, List.length_nil] at this
        omega
      subst hi
      exact ListRest.zero fun h tk F N => done _ _ _ _ j F N
    | cons v r ih =>
      intro i m₁ news₁ e hle j o
      have hv : vs[i]? = some v := by
        have := congrArg (·[0]?) e
        simpa using this
      have hr : vs.drop (i + 1) = r := by
        have := congrArg List.tail e
        simpa using this
      have hlt : i < vs.length := (List.getElem?_eq_some_iff.mp hv).1
      refine ListRest.succ fun it h tk hc F N => ?_
      exact wpAny_mono (turn i v I it m₁ news₁ h tk hv j o hc F N) (fun f s₂ p => UnrPost.mono p fun m' n' j' o' => ⟨keep _ _ _ j', ih _ _ _ hr hlt j' o'⟩) fun _ _ e => e
  exact key vs 0 m₀ news (by simp) (Nat.zero_le _) j0 fun p hp => Nat.ne_of_lt (hI p hp)
end

end
section
theorem more_len (ns : List Int) (v : Int) : (more ns v).length ≤ 2 * ns.length := by
  unfold more; split
  · rw [List.length_append, List.length_map]; omega
  · omega
theorem more_spec {w : World} {mg mb : Str → Option Value} {loose : List Str} {mean : ExcName → Option Value} {dp un : Nat} {gd : Option (List Code)} {cn : Str} {cs : Scope} {ca : Addr} {ccd : Value} {cl : List (Str × Addr)} {outer : List Env} {A₀ : Around} {base h₀ : Heap} {L : Addr} {m : Str → Option Value} {news : List (Addr × Obj)} {s : Shared} {Q E : Value → Shared → Prop} {l : Addr} {n : Nat} {vs : List Value} {ns : List Int} {i : Int} {tk : Tok} :
    (Mine.hd.heap_39 w.params).In h₀ → Below A₀ base outer h₀ → Fr h₀ L s.heap m → Top Mine.hd.view_39 loose mean mg mb h₀ → cs.kind = .function → News h₀ L s.heap news → (l, listOf vs.toArray n) ∈ news → IntsAre vs ns → ns.length ≤ 1000 → dp + 20 < recursionLimit → un + 200 < cLine →
    (∀ r vs' n' h' tk', Fr h₀ L h' m → News h₀ L h' ((r, listOf vs'.toArray n') :: news) → IntsAre vs' (more ns i) → (more ns i).length ≤ 2 * ns.length → (@Eq Nat r l ∨ AllLt r news) → Q (.ref r) { s with heap := h', toks := tk' }) →
    wpAny (model PySem.Challenge.rw_wu0047_01.row.prog w) (ktrTop dp un gd cn cs L ca ccd cl outer) (call (.ref 114) [.ref l, .int i tk]) Q E s := by
  k_fill
  w_top off
  k_with_none
  k_with "enter" => first
    | (refine' code_def (by k_asm) (by k_asm) (by k_asm) (by k_asm) (by k_asm) rfl rfl (by assumption) (by k_is) (by k_is) (by ktr_room) (by first | exact BindsTo.of_eq rfl | exact binds_K (by k_in) rfl (by k_is) rfl rfl rfl | exact kp_binds (by k_in) (fun _ => rfl)) (by exact locs rfl) ?_ (by exact rfl) (by exact rfl) (by exact rfl) (by decide); k_whole; intro _ _ _ _ _ _ _ _ _; (try dsimp only); (try k_fold))
    | (refine' code_defC (by k_asm) (by k_asm) (by k_asm) (by k_asm) (by k_asm) rfl rfl (by assumption) (by k_is) (by k_is) (by ktr_room) (by first | exact BindsTo.of_eq rfl | exact binds_K (by k_in) rfl (by k_is) rfl rfl rfl | fail "k_enter: no rule for these arguments") (by exact rfl) (by decide +kernel) ?_ (by exact rfl) (by exact rfl) (by exact rfl); k_whole; intro _ _ _ _ _ _ _ N' Y' _ _ _ _; k_cells Y'; (try simp only [List.cons_append, List.nil_append] at N'); (try dsimp only); (try k_fold))
  k_with "room" => first | k_dflt (exact Mine.room1 (by assumption) rfl) | k_dflt (exact Mine.room0 (by assumption) rfl) | k_dflt (exact Mine.room2 (by assumption))
  k_with "units" => first | k_dflt (exact Mine.unit1 (by assumption) rfl) | k_dflt (exact Mine.unit0 (by assumption) rfl)
  k_with "all" => first | assumption | exact Mine.lt_all_ne (by assumption) | (refine' List.forall_mem_cons.mpr ⟨?ka1, ?ka2⟩; (case ka1 => k_ne); (case ka2 => k_all))
  k_with "pyIter ref" => k_extra "my iter"
  k_with "UnrEnd" => k_extra "my end"
  k_with "call builtin:list.append" => k_extra "my append"
  k_with "exec While Compare cons nil" => k_extra "my while"
  k_with "lt" => first | assumption | (rename _ ∧ _ => hcN; first | exact hcN.1 | exact hcN.2.1 | exact hcN.2.2.1 | exact hcN.2.2.2.1 | exact hcN.2.2.2.2.1 | exact hcN.2.2.2.2.2.1 | exact hcN.2.2.2.2.2.2.1 | exact hcN.2.2.2.2.2.2.2.1 | exact hcN.2.2.2.2.2.2.2.2.1 | exact hcN.2.2.2.2.2.2.2.2.2.1 | exact hcN.2.2.2.2.2.2.2.2.2.2.1 | exact hcN.2.2.2.2.2.2.2.2.2.2.2.1 | exact hcN.2 | exact hcN.2.2 | exact hcN.2.2.2 | exact hcN.2.2.2.2 | exact hcN.2.2.2.2.2 | exact hcN.2.2.2.2.2.2 | (clear hcN; k_extra "lt"))
  k_with "ne" => with_reducible first | assumption | (refine Nat.ne_of_lt ?_; k_extra "lt") | (refine Nat.ne_of_gt ?_; k_extra "lt")
  k_with "call builtin:hasattr" => (k_here; with_unfolding_all refine' hasattr_K (by k_asm) (by k_asm) (by k_mem) ?_; k_whole; intro _ _ _ _; (try k_fold))
  intro X B F T hk N hm hi hl hd hu hret
  replace N := led_front N hm
  refine wpAny_call ?_
  k_dflt ktr_enter
  k_steps
  · refine hret _ _ _ _ _ (by assumption) (led_sub (by assumption) (sub_cons (by k_mem) (by repeat' first | exact sub_refl | apply sub_skip))) ?_ (more_len _ _) (Or.inr ?_)
    · rw [more, if_pos (by assumption)]; assumption
    · rename _ ∧ _ ∧ _ ∧ AllLt _ _ => hA; exact hA.2.2.2
  · refine hret _ _ _ _ _ (by assumption) (led_sub (by assumption) (sub_cons (by k_mem) (by repeat' first | exact sub_refl | apply sub_skip))) ?_ (more_len _ _) (Or.inl rfl)
    rw [more, if_neg (by simp only [*]; decide)]; assumption

end
section

noncomputable def JThrow (ns : List Int) (b : Int) (m₀ : Str → Option Value) (news₀ : List (Addr × Obj)) (i : Nat) (m' : Str → Option Value) (n' : List (Addr × Obj)) : Prop :=
  ∃ rr vs' k ns', (∀ z, z ≠ Str.ofString "throw" → z ≠ Str.ofString "sums" → m' z = m₀ z) ∧ m' (Str.ofString "sums") = some (.ref rr) ∧ n' = (rr, listOf vs'.toArray k) :: news₀ ∧ IntsAre vs' ns' ∧ ns'.length ≤ 2 ^ i ∧
    throwP ns b = throwGo ns b (6 - i) i ns'
theorem throwGo_hit {ns ns' : List Int} {b : Int} {i : Nat} (hi : i < 6) (h : ((ns'.any fun x => x == ns.getD (b.fmod 6).toNat 0) == true) = true) : throwGo ns b (6 - i) i ns' = 0 + (i : Int) := by
  rw [show 6 - i = (5 - i) + 1 by omega, throwGo]; unfold at6; rw [if_pos h]; omega
theorem throwGo_miss {ns ns' : List Int} {b : Int} {i : Nat} (hi : i < 6) (h : ((ns'.any fun x => x == ns.getD (b.fmod 6).toNat 0) == true) = false) :
    throwGo ns b (6 - i) i ns' = throwGo ns b (6 - (i + 1)) (i + 1 : Nat) (more ns' (ns.getD ((b + (0 + (i : Int)) + 1).fmod 6).toNat 0)) := by
  rw [show 6 - i = (6 - (i + 1)) + 1 by omega, throwGo]; unfold at6; rw [if_neg (by rw [h]; exact Bool.false_ne_true)]
  rw [Int.zero_add]; rfl
theorem JThrow.start {ns : List Int} {b : Int} {m₀ : Str → Option Value} {news₀ : List (Addr × Obj)} {rr : Addr} {k : Nat} {t : Tok} (h : m₀ (Str.ofString "sums") = some (.ref rr)) :
    JThrow ns b m₀ news₀ 0 m₀ ((rr, listOf #[.int 0 t] k) :: news₀) :=
  ⟨rr, [.int 0 t], k, [0], fun _ _ _ => rfl, h, rfl, IntsAre.cons 0 t .nil, by decide, rfl⟩

theorem JThrow.next {ns ns1 : List Int} {b : Int} {i : Nat} {m₀ m' : Str → Option Value} {news₀ : List (Addr × Obj)} {rr : Addr} {k : Nat} {vs' : List Value}
    (hi : i < 6) (hz : ∀ z, z ≠ Str.ofString "throw" → z ≠ Str.ofString "sums" → m' z = m₀ z) (hs : m' (Str.ofString "sums") = some (.ref rr))
    (h : IntsAre vs' (more ns1 (ns.getD ((b + (0 + (i : Int)) + 1).fmod 6).toNat 0))) (hl : (more ns1 (ns.getD ((b + (0 + (i : Int)) + 1).fmod 6).toNat 0)).length ≤ 2 * ns1.length) (hl1 : ns1.length ≤ 2 ^ i)
    (he : throwP ns b = throwGo ns b (6 - i) i ns1) (miss : ((ns1.any fun x => x == ns.getD (b.fmod 6).toNat 0) == true) = false) : JThrow ns b m₀ news₀ (i + 1) m' ((rr, listOf vs'.toArray k) :: news₀) :=
  ⟨rr, vs', k, _, hz, hs, rfl, h, by rw [Nat.pow_succ]; omega, he.trans (throwGo_miss hi miss)⟩

theorem throw_spec {w : World} {mg mb : Str → Option Value} {loose : List Str} {mean : ExcName → Option Value} {dp un : Nat} {gd : Option (List Code)} {cn : Str} {cs : Scope} {ca : Addr} {ccd : Value} {cl : List (Str × Addr)} {outer : List Env} {A₀ : Around} {base h₀ : Heap} {L : Addr} {m : Str → Option Value} {news : List (Addr × Obj)} {s : Shared} {Q E : Value → Shared → Prop} {l : Addr} {n : Nat} {vs : List Value} {ns : List Int} {b : Int} {tk : Tok} :
    (Mine.hd.heap_39 w.params).In h₀ → Below A₀ base outer h₀ → Fr h₀ L s.heap m → Top Mine.hd.view_39 loose mean mg mb h₀ → cs.kind = .function → News h₀ L s.heap news → (l, listOf vs.toArray n) ∈ news → IntsAre vs ns → ns.length = 6 → 0 ≤ b → b ≤ 30 → dp + 25 < recursionLimit → un + 250 < cLine →
    (∀ h' tk' t, Fr h₀ L h' m → News h₀ L h' news → Q (.int (throwP ns b) t) { s with heap := h', toks := tk' }) →
    wpAny (model PySem.Challenge.rw_wu0047_01.row.prog w) (ktrTop dp un gd cn cs L ca ccd cl outer) (call (.ref 121) [.ref l, .int b tk]) Q E s := by
  k_fill
  intro X B F T hk N hm hi hl hb hb' hd hu hret
  replace N := led_front N hm
  w_top off
  k_with_none
  k_with "enter" => first
    | (refine' code_def (by k_asm) (by k_asm) (by k_asm) (by k_asm) (by k_asm) rfl rfl (by assumption) (by k_is) (by k_is) (by ktr_room) (by first | exact BindsTo.of_eq rfl | exact binds_K (by k_in) rfl (by k_is) rfl rfl rfl | exact kp_binds (by k_in) (fun _ => rfl)) (by exact locs rfl) ?_ (by exact rfl) (by exact rfl) (by exact rfl) (by decide); k_whole; intro _ _ _ _ _ _ _ _ _; (try dsimp only); (try k_fold))
    | (refine' code_defC (by k_asm) (by k_asm) (by k_asm) (by k_asm) (by k_asm) rfl rfl (by assumption) (by k_is) (by k_is) (by ktr_room) (by first | exact BindsTo.of_eq rfl | exact binds_K (by k_in) rfl (by k_is) rfl rfl rfl | fail "k_enter: no rule for these arguments") (by exact rfl) (by decide +kernel) ?_ (by exact rfl) (by exact rfl) (by exact rfl); k_whole; intro _ _ _ _ _ _ _ N' Y' _ _ _ _; k_cells Y'; (try simp only [List.cons_append, List.nil_append] at N'); (try dsimp only); (try k_fold))
  k_with "room" => first | k_dflt (exact Mine.room1 (by assumption) rfl) | k_dflt (exact Mine.room0 (by assumption) rfl) | k_dflt (exact Mine.room2 (by assumption))
  k_with "units" => first | k_dflt (exact Mine.unit1 (by assumption) rfl) | k_dflt (exact Mine.unit0 (by assumption) rfl)
  k_with "all" => first | assumption | exact Mine.lt_all_ne (by assumption) | (refine' List.forall_mem_cons.mpr ⟨?ka1, ?ka2⟩; (case ka1 => k_ne); (case ka2 => k_all))
  k_with "pyIter ref" => k_extra "my iter"
  k_with "UnrEnd" => k_extra "my end"
  k_with "call builtin:list.append" => k_extra "my append"
  k_with "exec While Compare cons nil" => k_extra "my while"
  k_with "lt" => first | assumption | (rename _ ∧ _ => hcN; first | exact hcN.1 | exact hcN.2.1 | exact hcN.2.2.1 | exact hcN.2.2.2.1 | exact hcN.2.2.2.2.1 | exact hcN.2.2.2.2.2.1 | exact hcN.2.2.2.2.2.2.1 | exact hcN.2.2.2.2.2.2.2.1 | exact hcN.2.2.2.2.2.2.2.2.1 | exact hcN.2.2.2.2.2.2.2.2.2.1 | exact hcN.2.2.2.2.2.2.2.2.2.2.1 | exact hcN.2.2.2.2.2.2.2.2.2.2.2.1 | exact hcN.2 | exact hcN.2.2 | exact hcN.2.2.2 | exact hcN.2.2.2.2 | exact hcN.2.2.2.2.2 | exact hcN.2.2.2.2.2.2 | (clear hcN; k_extra "lt"))
  k_with "ne" => with_reducible first | assumption | (refine Nat.ne_of_lt ?_; k_extra "lt") | (refine Nat.ne_of_gt ?_; k_extra "lt")
  k_with "call ref" => (k_here; (with_reducible show wpAny _ _ (call (Value.ref 114) _) _ _ _); k_dflt (refine' more_spec (by k_asm) (by k_asm) (by k_asm) (by k_asm) (by first | exact rfl | assumption) (by k_asm) (by k_mem) (by assumption) (by first | omega | (simp only [List.length_cons, List.length_nil] at *; omega)) (by ktr_room) (by ktr_units) ?_; k_whole; intro _ _ _ _ _ _ _ _ _ hr'; (try simp only [AllLt, and_true] at hr'); (try ((have _ := hr'); clear hr')); (try k_sweep); (try dsimp only); (try k_fold)))
  k_with "my iter" => 
      rename Fr _ _ _ _ => lF
      rename News _ _ _ _ => lN
      rename IsRange _ _ _ _ _ _ _ _ => lR
      with_unfolding_all refine' range_inv (n := 6) (JThrow ns b ?m0 ((l, listOf vs.toArray n) :: news)) (by rfl) lR (by decide) (by decide) lF lN ?j0 ?turn ?done
      case j0 =>
        with_unfolding_all refine JThrow.start ?_
        with_unfolding_all rfl
      case' turn =>
        clear lF lN lR
        intro i I m1 news1 t h tk hI hJ hO F' N'
        unfold JThrow at hJ
        obtain ⟨rr, vs1, k1, ns1, hz, hs, rfl, hi1, hl1, he1⟩ := hJ
        rw [map_two hz hs] at F'
        have hp1 : 2 ^ i ≤ 2 ^ 6 := Nat.pow_le_pow_right (by decide) (Nat.le_of_lt hI)
        try k_fold
      case' done =>
        clear lF lN lR
        intro m1 news1 h tk hJ F' N'
        unfold JThrow at hJ
        obtain ⟨rr, vs1, k1, ns1, hz, hs, rfl, hi1, hl1, he1⟩ := hJ
        try k_fold
  refine wpAny_call ?_
  k_dflt ktr_enter
  k_steps
  · have e : throwP ns b = 6 := he1
    rw [← e]
    exact hret _ _ _ (by assumption) (led_sub (by assumption) (by repeat' first | exact sub_refl | apply sub_skip))
  · have e : throwP ns b = 0 + (i : Int) := he1.trans (throwGo_hit hI (by assumption))
    rw [← e]
    exact hret _ _ _ (by assumption) (led_sub (by assumption) (by repeat' first | exact sub_refl | apply sub_skip))
  · refine' UnrEnd.intro (by assumption) (by assumption) _ ?sub ?off (JThrow.next hI ?z ?s (by assumption) (by assumption) hl1 he1 (by assumption))
    case s => with_unfolding_all rfl
    case z => intro z h1 h2; simp only [if_neg h1, if_neg h2]
    case sub => exact sub_cons (by k_mem) (sub_cons (by k_mem) (by repeat' first | exact sub_refl | apply sub_skip))
    case off => exact off_cons (led_ne (by assumption) (by k_mem) (by k_mem) listCls_ne_range) fun p hp => hO p (List.mem_cons_of_mem _ hp)

end
section

noncomputable def JFresh (ns : List Int) (b : Int) (fl : Addr) (m₀ : Str → Option Value) (news₀ : List (Addr × Obj)) (i : Nat) (m' : Str → Option Value) (n' : List (Addr × Obj)) : Prop :=
  ∃ rr vs' k ns' vf kf fs, (∀ z, z ≠ Str.ofString "later" → z ≠ Str.ofString "sums" → z ≠ Str.ofString "more" → m' z = m₀ z) ∧ m' (Str.ofString "sums") = some (.ref rr) ∧ n' = (fl, listOf (List.toArray vf) kf) :: (rr, listOf (List.toArray vs') k) :: news₀ ∧
    rr ≠ fl ∧ IntsAre vs' ns' ∧ ns'.length ≤ 2 ^ i ∧ IntsAre vf fs ∧ fs.length ≤ i ∧ freshP ns b = fs ++ freshGo ns (6 - i) (b + (i : Int)) ns'
theorem JFresh.start {ns : List Int} {b : Int} {m₀ : Str → Option Value} {news₀ : List (Addr × Obj)} {rr fl : Addr} {k kf : Nat} {t : Tok} (h : m₀ (Str.ofString "sums") = some (.ref rr)) (hne : rr ≠ fl) :
    JFresh ns b fl m₀ news₀ 0 m₀ ((fl, listOf #[] kf) :: (rr, listOf #[.int 0 t] k) :: news₀) :=
  ⟨rr, [.int 0 t], k, [0], [], kf, [], fun _ _ _ _ => rfl, h, rfl, hne, IntsAre.cons 0 t .nil, by decide, .nil, by decide, by simp [freshP]⟩
theorem freshGo_hit {ns ns' : List Int} {b : Int} {i : Nat} (hi : i < 6) (h : (more ns' (ns.getD ((b + (i : Int)).fmod 6).toNat 0)).length > ns'.length) :
    freshGo ns (6 - i) (b + (i : Int)) ns' = (b + (i : Int)) :: freshGo ns (6 - (i + 1)) (b + ((i + 1 : Nat) : Int)) (more ns' (ns.getD ((b + (i : Int)).fmod 6).toNat 0)) := by
  rw [show 6 - i = (6 - (i + 1)) + 1 by omega, freshGo]; unfold at6; rw [if_pos h]
  rw [show b + (i : Int) + 1 = b + ((i + 1 : Nat) : Int) by omega]
theorem freshGo_miss {ns ns' : List Int} {b : Int} {i : Nat} (hi : i < 6) (h : ¬ (more ns' (ns.getD ((b + (i : Int)).fmod 6).toNat 0)).length > ns'.length) :
    freshGo ns (6 - i) (b + (i : Int)) ns' = freshGo ns (6 - (i + 1)) (b + ((i + 1 : Nat) : Int)) (more ns' (ns.getD ((b + (i : Int)).fmod 6).toNat 0)) := by
  rw [show 6 - i = (6 - (i + 1)) + 1 by omega, freshGo]; unfold at6; rw [if_neg h]
  rw [show b + (i : Int) + 1 = b + ((i + 1 : Nat) : Int) by omega]
theorem JFresh.keep {ns ns1 fs : List Int} {b : Int} {i : Nat} {m₀ m' : Str → Option Value} {news₀ : List (Addr × Obj)} {rr fl : Addr} {k kf : Nat} {vs' vf : List Value}
    (hi : i < 6) (hz : ∀ z, z ≠ Str.ofString "later" → z ≠ Str.ofString "sums" → z ≠ Str.ofString "more" → m' z = m₀ z) (hs : m' (Str.ofString "sums") = some (.ref rr)) (hne : rr ≠ fl)
    (h : IntsAre vs' (more ns1 (ns.getD ((b + (i : Int)).fmod 6).toNat 0))) (hl : (more ns1 (ns.getD ((b + (i : Int)).fmod 6).toNat 0)).length ≤ 2 * ns1.length) (hl1 : ns1.length ≤ 2 ^ i)
    (hf : IntsAre vf fs) (hlf : fs.length ≤ i) (he : freshP ns b = fs ++ freshGo ns (6 - i) (b + (i : Int)) ns1)
    (miss : ¬ (more ns1 (ns.getD ((b + (i : Int)).fmod 6).toNat 0)).length > ns1.length) : JFresh ns b fl m₀ news₀ (i + 1) m' ((fl, listOf (List.toArray vf) kf) :: (rr, listOf vs'.toArray k) :: news₀) :=
  ⟨rr, vs', k, _, vf, kf, fs, hz, hs, rfl, hne, h, by rw [Nat.pow_succ]; omega, hf, by omega, he.trans (by rw [freshGo_miss hi miss])⟩
theorem JFresh.push {ns ns1 fs : List Int} {b : Int} {i : Nat} {m₀ m' : Str → Option Value} {news₀ : List (Addr × Obj)} {rr fl : Addr} {k kf : Nat} {vs' vf : List Value} {t : Tok}
    (hi : i < 6) (hz : ∀ z, z ≠ Str.ofString "later" → z ≠ Str.ofString "sums" → z ≠ Str.ofString "more" → m' z = m₀ z) (hs : m' (Str.ofString "sums") = some (.ref rr)) (hne : rr ≠ fl)
    (h : IntsAre vs' (more ns1 (ns.getD ((b + (i : Int)).fmod 6).toNat 0))) (hl : (more ns1 (ns.getD ((b + (i : Int)).fmod 6).toNat 0)).length ≤ 2 * ns1.length) (hl1 : ns1.length ≤ 2 ^ i)
    (hf : IntsAre vf fs) (hlf : fs.length ≤ i) (he : freshP ns b = fs ++ freshGo ns (6 - i) (b + (i : Int)) ns1)
    (hit : (more ns1 (ns.getD ((b + (i : Int)).fmod 6).toNat 0)).length > ns1.length) : JFresh ns b fl m₀ news₀ (i + 1) m' ((fl, listOf ((List.toArray vf).push (.int (b + (i : Int)) t)) kf) :: (rr, listOf vs'.toArray k) :: news₀) :=
  ⟨rr, vs', k, _, vf ++ [.int (b + (i : Int)) t], kf, fs ++ [b + (i : Int)], hz, hs, by rw [List.push_toArray], hne, h, by rw [Nat.pow_succ]; omega, ints_push hf, by rw [List.length_append, List.length_singleton]; omega,
    he.trans (by rw [freshGo_hit hi hit, List.append_assoc]; rfl)⟩
theorem rangeSize6 (b : Int) : Builtin.Range.rangeSize b (b + 6) 1 = ((6 : Nat) : Int) := by rw [rangeSize_nat]; omega

theorem fresh_spec {w : World} {mg mb : Str → Option Value} {loose : List Str} {mean : ExcName → Option Value} {dp un : Nat} {gd : Option (List Code)} {cn : Str} {cs : Scope} {ca : Addr} {ccd : Value} {cl : List (Str × Addr)} {outer : List Env} {A₀ : Around} {base h₀ : Heap} {L : Addr} {m : Str → Option Value} {news : List (Addr × Obj)} {s : Shared} {Q E : Value → Shared → Prop} {l : Addr} {n : Nat} {vs : List Value} {ns : List Int} {b : Int} {tk : Tok} :
    (Mine.hd.heap_39 w.params).In h₀ → Below A₀ base outer h₀ → Fr h₀ L s.heap m → Top Mine.hd.view_39 loose mean mg mb h₀ → cs.kind = .function → News h₀ L s.heap news → (l, listOf vs.toArray n) ∈ news → IntsAre vs ns → ns.length = 6 → 0 ≤ b → b ≤ 30 → dp + 25 < recursionLimit → un + 250 < cLine →
    (∀ r vs' n' h' tk', Fr h₀ L h' m → News h₀ L h' ((r, listOf vs'.toArray n') :: news) → (∀ p ∈ news, p.1 < r) → IntsAre vs' (freshP ns b) → Q (.ref r) { s with heap := h', toks := tk' }) →
    wpAny (model PySem.Challenge.rw_wu0047_01.row.prog w) (ktrTop dp un gd cn cs L ca ccd cl outer) (call (.ref 128) [.ref l, .int b tk]) Q E s := by
  k_fill
  intro X B F T hk N hm hi hl hb hb' hd hu hret
  replace N := led_front N hm
  w_top off
  k_with_none
  k_with "enter" => first
    | (refine' code_def (by k_asm) (by k_asm) (by k_asm) (by k_asm) (by k_asm) rfl rfl (by assumption) (by k_is) (by k_is) (by ktr_room) (by first | exact BindsTo.of_eq rfl | exact binds_K (by k_in) rfl (by k_is) rfl rfl rfl | exact kp_binds (by k_in) (fun _ => rfl)) (by exact locs rfl) ?_ (by exact rfl) (by exact rfl) (by exact rfl) (by decide); k_whole; intro _ _ _ _ _ _ _ _ _; (try dsimp only); (try k_fold))
    | (refine' code_defC (by k_asm) (by k_asm) (by k_asm) (by k_asm) (by k_asm) rfl rfl (by assumption) (by k_is) (by k_is) (by ktr_room) (by first | exact BindsTo.of_eq rfl | exact binds_K (by k_in) rfl (by k_is) rfl rfl rfl | fail "k_enter: no rule for these arguments") (by exact rfl) (by decide +kernel) ?_ (by exact rfl) (by exact rfl) (by exact rfl); k_whole; intro _ _ _ _ _ _ _ N' Y' _ _ _ _; k_cells Y'; (try simp only [List.cons_append, List.nil_append] at N'); (try dsimp only); (try k_fold))
  k_with "room" => first | k_dflt (exact Mine.room1 (by assumption) rfl) | k_dflt (exact Mine.room0 (by assumption) rfl) | k_dflt (exact Mine.room2 (by assumption))
  k_with "units" => first | k_dflt (exact Mine.unit1 (by assumption) rfl) | k_dflt (exact Mine.unit0 (by assumption) rfl)
  k_with "all" => first | assumption | exact Mine.lt_all_ne (by assumption) | (refine' List.forall_mem_cons.mpr ⟨?ka1, ?ka2⟩; (case ka1 => k_ne); (case ka2 => k_all))
  k_with "pyIter ref" => k_extra "my iter"
  k_with "UnrEnd" => k_extra "my end"
  k_with "call builtin:list.append" => k_extra "my append"
  k_with "exec While Compare cons nil" => k_extra "my while"
  k_with "lt" => first | assumption | (rename _ ∧ _ => hcN; first | exact hcN.1 | exact hcN.2.1 | exact hcN.2.2.1 | exact hcN.2.2.2.1 | exact hcN.2.2.2.2.1 | exact hcN.2.2.2.2.2.1 | exact hcN.2.2.2.2.2.2.1 | exact hcN.2.2.2.2.2.2.2.1 | exact hcN.2.2.2.2.2.2.2.2.1 | exact hcN.2.2.2.2.2.2.2.2.2.1 | exact hcN.2.2.2.2.2.2.2.2.2.2.1 | exact hcN.2.2.2.2.2.2.2.2.2.2.2.1 | exact hcN.2 | exact hcN.2.2 | exact hcN.2.2.2 | exact hcN.2.2.2.2 | exact hcN.2.2.2.2.2 | exact hcN.2.2.2.2.2.2 | (clear hcN; k_extra "lt"))
  k_with "ne" => with_reducible first | assumption | (refine Nat.ne_of_lt ?_; k_extra "lt") | (refine Nat.ne_of_gt ?_; k_extra "lt")
  k_with "call ref" => (k_here; (with_reducible show wpAny _ _ (call (Value.ref 114) _) _ _ _); k_dflt (refine' more_spec (by k_asm) (by k_asm) (by k_asm) (by k_asm) (by first | exact rfl | assumption) (by k_asm) (by k_mem) (by assumption) (by first | omega | (simp only [List.length_cons, List.length_nil] at *; omega)) (by ktr_room) (by ktr_units) ?_; k_whole; intro _ _ _ _ _ _ _ _ _ hr'; (try simp only [AllLt, and_true] at hr'); (try ((have _ := hr'); clear hr')); (try k_sweep); (try dsimp only); (try k_fold)))
  k_with "my iter" => 
      rename Fr _ _ _ _ => lF
      rename News _ _ _ _ => lN
      rename IsRange _ _ _ _ _ _ _ _ => lR
      rename _ ∧ _ ∧ AllLt _ _ => lA
      have lA' := allLt_all lA.2.2
      with_unfolding_all refine' range_inv (n := 6) (JFresh ns b _ ?m0 ((l, listOf vs.toArray n) :: news)) (by rfl) lR (small_one (by omega) (by omega) (by omega) (by omega)) (rangeSize6 b) lF lN ?j0 ?turn ?done
      case j0 =>
        with_unfolding_all refine JFresh.start ?_ (Nat.ne_of_lt lA.1)
        with_unfolding_all rfl
      case' turn =>
        clear lF lN lR
        intro i I m1 news1 t h tk hI hJ hO F' N'
        unfold JFresh at hJ
        obtain ⟨rr, vs1, k1, ns1, vf, kf, fs, hz, hs, rfl, hne, hi1, hl1, hif, hlf, he1⟩ := hJ
        rw [map_three hz hs] at F'
        have hp1 : 2 ^ i ≤ 2 ^ 6 := Nat.pow_le_pow_right (by decide) (Nat.le_of_lt hI)
        have hIf := neN (hO _ (List.Mem.head _))
        dsimp only at hIf
        have hne' := neN hne
        have hvl : vf.length ≤ 6 := by rw [hif.length]; omega
        try k_fold
      case' done =>
        clear lF lN lR
        intro m1 news1 h tk hJ F' N'
        unfold JFresh at hJ
        obtain ⟨rr, vs1, k1, ns1, vf, kf, fs, hz, hs, rfl, hne, hi1, hl1, hif, hlf, he1⟩ := hJ
        replace F' := fr_eq F' (map_all3 hz hs)
        try k_fold
  refine wpAny_call ?_
  k_dflt ktr_enter
  k_steps
  · refine hret _ _ _ _ _ (by assumption) (led_sub (by assumption) (sub_cons (by k_mem) (by repeat' first | exact sub_refl | apply sub_skip))) lA' ?_
    rw [he1]; exact (List.append_nil fs).symm ▸ hif
  · refine' UnrEnd.intro (by assumption) (by assumption) _ ?sub ?off (JFresh.push hI ?z ?s ?ne (by assumption) (by assumption) hl1 hif hlf he1 ?hit)
    case s => with_unfolding_all rfl
    case z => intro z h1 h2 h3; simp only [if_neg h1, if_neg h2, if_neg h3]
    case sub => exact sub_cons (by k_mem) (sub_cons (by k_mem) (sub_cons (by k_mem) (by repeat' first | exact sub_refl | apply sub_skip)))
    case off => exact off_cons hIf (off_cons (led_ne (by assumption) (by k_mem) (by k_mem) listCls_ne_range) fun p hp => hO p (List.mem_cons_of_mem _ (List.mem_cons_of_mem _ hp)))
    case ne => k_ne
    case hit => omega
  · refine' UnrEnd.intro (by assumption) (by assumption) _ ?sub ?off (JFresh.keep hI ?z ?s ?ne (by assumption) (by assumption) hl1 hif hlf he1 ?miss)
    case s => with_unfolding_all rfl
    case z => intro z h1 h2 h3; simp only [if_neg h1, if_neg h2, if_neg h3]
    case sub => exact sub_cons (by k_mem) (sub_cons (by k_mem) (sub_cons (by k_mem) (by repeat' first | exact sub_refl | apply sub_skip)))
    case off => exact off_cons hIf (off_cons (led_ne (by assumption) (by k_mem) (by k_mem) listCls_ne_range) fun p hp => hO p (List.mem_cons_of_mem _ (List.mem_cons_of_mem _ hp)))
    case ne => k_ne
    case miss => omega

end
section
noncomputable def JBis (ns : List Int) (x : Int) (m₀ : Str → Option Value) (news₀ : List (Addr × Obj)) (f : Nat) (m' : Str → Option Value) (n' : List (Addr × Obj)) : Prop :=
  ∃ lo hi tl th, (∀ z, z ≠ Str.ofString "lo" → z ≠ Str.ofString "hi" → z ≠ Str.ofString "mid" → m' z = m₀ z) ∧ m' (Str.ofString "lo") = some (.int lo tl) ∧ m' (Str.ofString "hi") = some (.int hi th) ∧ n' = news₀ ∧
    0 ≤ lo ∧ lo ≤ hi ∧ hi ≤ (ns.length : Int) ∧ (hi - lo).toNat ≤ f ∧ bisP ns x = bisGo ns x f lo hi
theorem map_while {m' m₀ : Str → Option Value} {a b c : Str} {v w : Value} (h : ∀ z, z ≠ a → z ≠ b → z ≠ c → m' z = m₀ z) (ha : m' a = some v) (hb : m' b = some w) :
    m' = fun y => if y = a then some v else if y = b then some w else if y = c then m' y else m₀ y := by
  funext y
  by_cases h1 : y = a
  · subst h1; simp only [if_pos]; exact ha
  · by_cases h2 : y = b
    · subst h2; simp only [if_neg h1, if_pos]; exact hb
    · by_cases h3 : y = c
      · simp only [if_neg h1, if_neg h2, if_pos h3]
      · simp only [if_neg h1, if_neg h2, if_neg h3]; exact h y h1 h2 h3
theorem JBis.start {ns : List Int} {x : Int} {m₀ : Str → Option Value} {news₀ : List (Addr × Obj)} {tl th : Tok} (h1 : m₀ (Str.ofString "lo") = some (.int 0 tl)) (h2 : m₀ (Str.ofString "hi") = some (.int (ns.length : Int) th)) :
    JBis ns x m₀ news₀ ns.length m₀ news₀ := ⟨0, ns.length, tl, th, fun _ _ _ _ => rfl, h1, h2, rfl, by omega, by omega, by omega, by omega, rfl⟩
theorem JBis.left {ns : List Int} {x lo hi : Int} {f : Nat} {m₀ m' : Str → Option Value} {news₀ : List (Addr × Obj)} {tl th : Tok} (hz : ∀ z, z ≠ Str.ofString "lo" → z ≠ Str.ofString "hi" → z ≠ Str.ofString "mid" → m' z = m₀ z)
    (h1 : m' (Str.ofString "lo") = some (.int lo tl)) (h2 : m' (Str.ofString "hi") = some (.int ((lo + hi).fdiv 2) th)) (h0 : 0 ≤ lo) (hhi : hi ≤ (ns.length : Int)) (hl : lo < hi) (hf : (hi - lo).toNat ≤ f) (he : bisP ns x = bisGo ns x f lo hi)
    (hx : x < ns.getD ((lo + hi).fdiv 2).toNat 0) : f - 1 < f ∧ JBis ns x m₀ news₀ (f - 1) m' news₀ := by
  obtain ⟨g, rfl⟩ : ∃ g, f = g + 1 := ⟨f - 1, by omega⟩
  have e : (lo + hi).fdiv 2 = (lo + hi) / 2 := Int.fdiv_eq_ediv_of_nonneg _ (by decide)
  refine ⟨by omega, lo, _, tl, th, hz, h1, h2, rfl, h0, by rw [e]; omega, by rw [e]; omega, by rw [e]; omega, ?_⟩
  rw [he, bisGo, if_pos hl, if_pos hx]; rfl
theorem JBis.right {ns : List Int} {x lo hi : Int} {f : Nat} {m₀ m' : Str → Option Value} {news₀ : List (Addr × Obj)} {tl th : Tok} (hz : ∀ z, z ≠ Str.ofString "lo" → z ≠ Str.ofString "hi" → z ≠ Str.ofString "mid" → m' z = m₀ z)
    (h1 : m' (Str.ofString "lo") = some (.int ((lo + hi).fdiv 2 + 1) tl)) (h2 : m' (Str.ofString "hi") = some (.int hi th)) (h0 : 0 ≤ lo) (hhi : hi ≤ (ns.length : Int)) (hl : lo < hi) (hf : (hi - lo).toNat ≤ f) (he : bisP ns x = bisGo ns x f lo hi)
    (hx : ¬ x < ns.getD ((lo + hi).fdiv 2).toNat 0) : f - 1 < f ∧ JBis ns x m₀ news₀ (f - 1) m' news₀ := by
  obtain ⟨g, rfl⟩ : ∃ g, f = g + 1 := ⟨f - 1, by omega⟩
  have e : (lo + hi).fdiv 2 = (lo + hi) / 2 := Int.fdiv_eq_ediv_of_nonneg _ (by decide)
  refine ⟨by omega, _, hi, tl, th, hz, h1, h2, rfl, by rw [e]; omega, by rw [e]; omega, hhi, by rw [e]; omega, ?_⟩
  rw [he, bisGo, if_pos hl, if_neg hx]; rfl
theorem bis_done {ns : List Int} {x lo hi : Int} {f : Nat} (he : bisP ns x = bisGo ns x f lo hi) (hl : ¬ lo < hi) : bisP ns x = lo := by
  cases f with
  | zero => exact he
  | succ f => rw [he, bisGo, if_neg hl]

theorem bisect_spec {w : World} {mg mb : Str → Option Value} {loose : List Str} {mean : ExcName → Option Value} {dp un : Nat} {gd : Option (List Code)} {cn : Str} {cs : Scope} {ca : Addr} {ccd : Value} {cl : List (Str × Addr)} {outer : List Env} {A₀ : Around} {base h₀ : Heap} {L : Addr} {m : Str → Option Value} {news : List (Addr × Obj)} {s : Shared} {Q E : Value → Shared → Prop} {l : Addr} {n : Nat} {vs : List Value} {ns : List Int} {x : Int} {tk t0 : Tok} :
    (Mine.hd.heap_39 w.params).In h₀ → Below A₀ base outer h₀ → Fr h₀ L s.heap m → Top Mine.hd.view_39 loose mean mg mb h₀ → cs.kind = .function → News h₀ L s.heap news → (l, listOf vs.toArray n) ∈ news → IntsAre vs ns → ns.length ≤ 1000 → dp + 20 < recursionLimit → un + 200 < cLine →
    (∀ h' tk' t, Fr h₀ L h' m → News h₀ L h' news → Q (.int (bisP ns x) t) { s with heap := h', toks := tk' }) →
    wpAny (model PySem.Challenge.rw_wu0047_01.row.prog w) (ktrTop dp un gd cn cs L ca ccd cl outer) (call (.ref 67) [.ref l, .int x tk, .int 0 t0, .none]) Q E s := by
  k_fill
  intro X B F T hk N hm hi hl hd hu hret
  replace N := led_front N hm
  w_top off
  k_with_none
  k_with "enter" => first
    | (refine' code_def (by k_asm) (by k_asm) (by k_asm) (by k_asm) (by k_asm) rfl rfl (by assumption) (by k_is) (by k_is) (by ktr_room) (by first | exact BindsTo.of_eq rfl | exact binds_K (by k_in) rfl (by k_is) rfl rfl rfl | exact kp_binds (by k_in) (fun _ => rfl)) (by exact locs rfl) ?_ (by exact rfl) (by exact rfl) (by exact rfl) (by decide); k_whole; intro _ _ _ _ _ _ _ _ _; (try dsimp only); (try k_fold))
    | (refine' code_defC (by k_asm) (by k_asm) (by k_asm) (by k_asm) (by k_asm) rfl rfl (by assumption) (by k_is) (by k_is) (by ktr_room) (by first | exact BindsTo.of_eq rfl | exact binds_K (by k_in) rfl (by k_is) rfl rfl rfl | fail "k_enter: no rule for these arguments") (by exact rfl) (by decide +kernel) ?_ (by exact rfl) (by exact rfl) (by exact rfl); k_whole; intro _ _ _ _ _ _ _ N' Y' _ _ _ _; k_cells Y'; (try simp only [List.cons_append, List.nil_append] at N'); (try dsimp only); (try k_fold))
  k_with "room" => first | k_dflt (exact Mine.room1 (by assumption) rfl) | k_dflt (exact Mine.room0 (by assumption) rfl) | k_dflt (exact Mine.room2 (by assumption))
  k_with "units" => first | k_dflt (exact Mine.unit1 (by assumption) rfl) | k_dflt (exact Mine.unit0 (by assumption) rfl)
  k_with "all" => first | assumption | exact Mine.lt_all_ne (by assumption) | (refine' List.forall_mem_cons.mpr ⟨?ka1, ?ka2⟩; (case ka1 => k_ne); (case ka2 => k_all))
  k_with "pyIter ref" => k_extra "my iter"
  k_with "UnrEnd" => k_extra "my end"
  k_with "call builtin:list.append" => k_extra "my append"
  k_with "exec While Compare cons nil" => k_extra "my while"
  k_with "lt" => first | assumption | (rename _ ∧ _ => hcN; first | exact hcN.1 | exact hcN.2.1 | exact hcN.2.2.1 | exact hcN.2.2.2.1 | exact hcN.2.2.2.2.1 | exact hcN.2.2.2.2.2.1 | exact hcN.2.2.2.2.2.2.1 | exact hcN.2.2.2.2.2.2.2.1 | exact hcN.2.2.2.2.2.2.2.2.1 | exact hcN.2.2.2.2.2.2.2.2.2.1 | exact hcN.2.2.2.2.2.2.2.2.2.2.1 | exact hcN.2.2.2.2.2.2.2.2.2.2.2.1 | exact hcN.2 | exact hcN.2.2 | exact hcN.2.2.2 | exact hcN.2.2.2.2 | exact hcN.2.2.2.2.2 | exact hcN.2.2.2.2.2.2 | (clear hcN; k_extra "lt"))
  k_with "ne" => with_reducible first | assumption | (refine Nat.ne_of_lt ?_; k_extra "lt") | (refine Nat.ne_of_gt ?_; k_extra "lt")
  k_with "my while" => 
      rename Fr _ _ _ _ => lF
      rename News _ _ _ _ => lN
      refine wpAny_noRaise ?_
      with_unfolding_all refine' While_inv (n₀ := ns.length) (JBis ns x ?m0 ((l, listOf vs.toArray n) :: news)) lF lN ?j0 ?turn PassesOwn.never
      case j0 =>
        with_unfolding_all refine' JBis.start ?h1 ?h2
        case h1 => with_unfolding_all exact rfl
        case h2 => with_unfolding_all exact rfl
      case' turn =>
        clear lF lN
        intro f m1 news1 h tk F' N' hJ
        unfold JBis at hJ
        obtain ⟨lo, hi, tl, th, hz, hlo, hhi, rfl, h0, h1, h2, hf, he⟩ := hJ
        replace F' := fr_eq F' (map_while hz hlo hhi)
        try k_fold
  refine wpAny_call ?_
  k_dflt ktr_enter
  k_steps
  · refine' ws_intro (by assumption) (by assumption) (JBis.left ?z ?h1 ?h2 h0 h2 ?hl hf he ?hx)
    case h1 => with_unfolding_all exact rfl
    case h2 => with_unfolding_all exact rfl
    case z => intro z a1 a2 a3; simp only [if_neg a1, if_neg a2, if_neg a3]
    case hl => omega
    case hx => assumption
  · refine' ws_intro (by assumption) (by assumption) (JBis.right ?z ?h1 ?h2 h0 h2 ?hl hf he ?hx)
    case h1 => with_unfolding_all exact rfl
    case h2 => with_unfolding_all exact rfl
    case z => intro z a1 a2 a3; simp only [if_neg a1, if_neg a2, if_neg a3]
    case hl => omega
    case hx => assumption
  · rw [← bis_done he (by assumption)]
    exact hret _ _ _ (by assumption) (led_sub (by assumption) (by repeat' first | exact sub_refl | apply sub_skip))

end
section
theorem ints_take {vs : List Value} {ns : List Int} (h : IntsAre vs ns) : ∀ k, IntsAre (vs.take k) (ns.take k) := by
  induction h with
  | nil => intro k; simp only [List.take_nil]; exact .nil
  | cons n t _ ih => intro k; cases k with
    | zero => exact .nil
    | succ k => exact .cons n t (ih k)
theorem ints_drop {vs : List Value} {ns : List Int} (h : IntsAre vs ns) : ∀ k, IntsAre (vs.drop k) (ns.drop k) := by
  induction h with
  | nil => intro k; simp only [List.drop_nil]; exact .nil
  | cons n t h ih => intro k; cases k with
    | zero => exact .cons n t h
    | succ k => exact ih k
theorem ints_app {vs ws : List Value} {ns ms : List Int} (h : IntsAre vs ns) (h' : IntsAre ws ms) : IntsAre (vs ++ ws) (ns ++ ms) := by
  induction h with
  | nil => exact h'
  | cons n t _ ih => exact .cons n t ih
theorem ins_ints {vs : List Value} {ns : List Int} {x k : Int} {t : Tok} (h : IntsAre vs ns) (hk : k = bisP ns x) : IntsAre (kl_ins vs.toArray.toList k (.int x t)) (insP ns x) := by
  have hr := bisP_range ns x
  have hlen := h.length
  subst hk
  unfold kl_ins insP
  rw [if_neg (by omega), List.toList_toArray, hlen, Nat.min_eq_left (by omega)]
  exact ints_app (ints_take h _) (.cons x t (ints_drop h _))
theorem insort_front {w : World} {mg mb : Str → Option Value} {loose : List Str} {mean : ExcName → Option Value} {dp un : Nat} {gd : Option (List Code)} {cn : Str} {cs : Scope} {ca : Addr} {ccd : Value} {cl : List (Str × Addr)} {outer : List Env} {A₀ : Around} {base h₀ : Heap} {L : Addr} {m : Str → Option Value} {news : List (Addr × Obj)} {s : Shared} {Q E : Value → Shared → Prop} {l : Addr} {n : Nat} {vs : List Value} {ns : List Int} {x : Int} {tk : Tok} :
    (Mine.hd.heap_39 w.params).In h₀ → Below A₀ base outer h₀ → Fr h₀ L s.heap m → Top Mine.hd.view_39 loose mean mg mb h₀ → cs.kind = .function → News h₀ L s.heap news → News h₀ L s.heap ((l, listOf vs.toArray n) :: news) → (∀ p ∈ news, p.1 ≠ l) → IntsAre vs ns → ns.length ≤ 1000 → dp + 25 < recursionLimit → un + 250 < cLine →
    (∀ h' tk', Fr h₀ L h' m → News h₀ L h' ((l, listOf (kl_ins vs.toArray.toList (bisP ns x) (.int x tk)).toArray (n + 1)) :: news) → Q .none { s with heap := h', toks := tk' }) →
    wpAny (model PySem.Challenge.rw_wu0047_01.row.prog w) (ktrTop dp un gd cn cs L ca ccd cl outer) (call (.ref 58) [.ref l, .int x tk]) Q E s := by
  k_fill
  intro X B F T hk N N1 hne hi hl hd hu hret
  clear N
  w_top off
  k_with_none
  k_with "enter" => first
    | (refine' code_def (by k_asm) (by k_asm) (by k_asm) (by k_asm) (by k_asm) rfl rfl (by assumption) (by k_is) (by k_is) (by ktr_room) (by first | exact BindsTo.of_eq rfl | exact binds_K (by k_in) rfl (by k_is) rfl rfl rfl | exact kp_binds (by k_in) (fun _ => rfl)) (by exact locs rfl) ?_ (by exact rfl) (by exact rfl) (by exact rfl) (by decide); k_whole; intro _ _ _ _ _ _ _ _ _; (try dsimp only); (try k_fold))
    | (refine' code_defC (by k_asm) (by k_asm) (by k_asm) (by k_asm) (by k_asm) rfl rfl (by assumption) (by k_is) (by k_is) (by ktr_room) (by first | exact BindsTo.of_eq rfl | exact binds_K (by k_in) rfl (by k_is) rfl rfl rfl | fail "k_enter: no rule for these arguments") (by exact rfl) (by decide +kernel) ?_ (by exact rfl) (by exact rfl) (by exact rfl); k_whole; intro _ _ _ _ _ _ _ N' Y' _ _ _ _; k_cells Y'; (try simp only [List.cons_append, List.nil_append] at N'); (try dsimp only); (try k_fold))
  k_with "room" => first | k_dflt (exact Mine.room1 (by assumption) rfl) | k_dflt (exact Mine.room0 (by assumption) rfl) | k_dflt (exact Mine.room2 (by assumption))
  k_with "units" => first | k_dflt (exact Mine.unit1 (by assumption) rfl) | k_dflt (exact Mine.unit0 (by assumption) rfl)
  k_with "all" => first | assumption | exact Mine.lt_all_ne (by assumption) | (refine' List.forall_mem_cons.mpr ⟨?ka1, ?ka2⟩; (case ka1 => k_ne); (case ka2 => k_all))
  k_with "pyIter ref" => k_extra "my iter"
  k_with "UnrEnd" => k_extra "my end"
  k_with "call builtin:list.append" => k_extra "my append"
  k_with "exec While Compare cons nil" => k_extra "my while"
  k_with "lt" => first | assumption | (rename _ ∧ _ => hcN; first | exact hcN.1 | exact hcN.2.1 | exact hcN.2.2.1 | exact hcN.2.2.2.1 | exact hcN.2.2.2.2.1 | exact hcN.2.2.2.2.2.1 | exact hcN.2.2.2.2.2.2.1 | exact hcN.2.2.2.2.2.2.2.1 | exact hcN.2.2.2.2.2.2.2.2.1 | exact hcN.2.2.2.2.2.2.2.2.2.1 | exact hcN.2.2.2.2.2.2.2.2.2.2.1 | exact hcN.2.2.2.2.2.2.2.2.2.2.2.1 | exact hcN.2 | exact hcN.2.2 | exact hcN.2.2.2 | exact hcN.2.2.2.2 | exact hcN.2.2.2.2.2 | exact hcN.2.2.2.2.2.2 | (clear hcN; k_extra "lt"))
  k_with "ne" => with_reducible first | assumption | (refine Nat.ne_of_lt ?_; k_extra "lt") | (refine Nat.ne_of_gt ?_; k_extra "lt")
  k_with "call ref" => (k_here; (with_reducible show wpAny _ _ (call (Value.ref 67) _) _ _ _); k_dflt (refine' bisect_spec (by k_asm) (by k_asm) (by k_asm) (by k_asm) (by first | exact rfl | assumption) (by k_asm) (by k_mem) (by assumption) (by first | assumption | omega) (by ktr_room) (by ktr_units) ?_; k_whole; intro _ _ _ _ _; (try k_sweep); (try dsimp only); (try k_fold)))
  k_with "call builtin:list.insert" => (k_here; k_dflt (refine' kl_insert (by k_asm) (by k_asm) (by simp only [Builtin.List.listFitsIndex, Bool.and_eq_true, decide_eq_true_eq]; omega) rfl (by k_upd) (by rw [sizeLine_eq]; simp only [List.toList_toArray]; omega) ?_; intro _ _ _; (try k_sweep)))
  have hbr := bisP_range ns x
  have hvl : vs.length = ns.length := hi.length
  refine wpAny_call ?_
  k_dflt ktr_enter
  k_steps
  all_goals exact hret _ _ (by assumption) (led_sub (by assumption) (sub_cons (by k_mem) (by repeat' first | exact sub_refl | apply sub_skip)))
theorem led_out {h₀ h : Heap} {L : Addr} {pre post : List (Addr × Obj)} {p : Addr × Obj} (N : News h₀ L h (pre ++ p :: post)) : News h₀ L h (p :: (pre ++ post)) :=
  fun q hq => N q (by
    rcases List.mem_cons.mp hq with rfl | hq
    · exact List.mem_append_right _ (.head _)
    · exact (List.mem_append.mp hq).elim (List.mem_append_left _) fun h => List.mem_append_right _ (.tail _ h))
theorem led_in {h₀ h : Heap} {L : Addr} {pre post : List (Addr × Obj)} {p : Addr × Obj} (N : News h₀ L h (p :: (pre ++ post))) : News h₀ L h (pre ++ p :: post) :=
  fun q hq => N q (by
    rcases List.mem_append.mp hq with hq | hq
    · exact .tail _ (List.mem_append_left _ hq)
    · rcases List.mem_cons.mp hq with rfl | hq
      · exact .head _
      · exact .tail _ (List.mem_append_right _ hq))
theorem ne_app {l : Addr} {pre post : List (Addr × Obj)} (a : ∀ p ∈ pre, p.1 ≠ l) (b : ∀ p ∈ post, p.1 ≠ l) : ∀ p ∈ pre ++ post, p.1 ≠ l := fun p hp => (List.mem_append.mp hp).elim (a p) (b p)
theorem insort_spec {w : World} {mg mb : Str → Option Value} {loose : List Str} {mean : ExcName → Option Value} {dp un : Nat} {gd : Option (List Code)} {cn : Str} {cs : Scope} {ca : Addr} {ccd : Value} {cl : List (Str × Addr)} {outer : List Env} {A₀ : Around} {base h₀ : Heap} {L : Addr} {m : Str → Option Value} {news : List (Addr × Obj)} {s : Shared} {Q E : Value → Shared → Prop} {news' : List (Addr × Obj)} {l : Addr} {n : Nat} {vs : List Value} {ns : List Int} {x : Int} {tk : Tok} :
    (Mine.hd.heap_39 w.params).In h₀ → Below A₀ base outer h₀ → Fr h₀ L s.heap m → Top Mine.hd.view_39 loose mean mg mb h₀ → cs.kind = .function → News h₀ L s.heap news → Upd l (listOf vs.toArray n) (listOf (kl_ins vs.toArray.toList (bisP ns x) (.int x tk)).toArray (n + 1)) news news' → IntsAre vs ns → ns.length ≤ 1000 → dp + 25 < recursionLimit → un + 250 < cLine →
    (∀ h' tk', Fr h₀ L h' m → News h₀ L h' news' → IntsAre (kl_ins vs.toArray.toList (bisP ns x) (.int x tk)) (insP ns x) → Q .none { s with heap := h', toks := tk' }) →
    wpAny (model PySem.Challenge.rw_wu0047_01.row.prog w) (ktrTop dp un gd cn cs L ca ccd cl outer) (call (.ref 58) [.ref l, .int x tk]) Q E s := by
  intro X B F T hk N U hi hl hd hu hret
  obtain ⟨pre, post, rfl, rfl, a, b⟩ := U.split
  exact insort_front X B F T hk (led_sub (led_out N) fun q hq => .tail _ hq) (led_out N) (ne_app a b) hi hl hd hu fun h' tk' F' N' => hret h' tk' F' (led_in N') (ins_ints hi rfl)

end
section
theorem delitem_front {w : World} {mg mb : Str → Option Value} {loose : List Str} {mean : ExcName → Option Value} {dp un : Nat} {gd : Option (List Code)} {cn : Str} {cs : Scope} {ca : Addr} {ccd : Value} {cl : List (Str × Addr)} {outer : List Env} {A₀ : Around} {base h₀ : Heap} {L : Addr} {m : Str → Option Value} {news : List (Addr × Obj)} {s : Shared} {Q E : Value → Shared → Prop} {l : Addr} {n : Nat} {v : Value} {vs : List Value} {tk : Tok} :
    (Mine.hd.heap_39 w.params).In h₀ → Below A₀ base outer h₀ → Fr h₀ L s.heap m → Top Mine.hd.view_39 loose mean mg mb h₀ → cs.kind = .function → News h₀ L s.heap news → News h₀ L s.heap ((l, listOf (v :: vs).toArray n) :: news) → (∀ p ∈ news, p.1 ≠ l) → vs.length ≤ 1000 → dp + 20 < recursionLimit → un + 200 < cLine →
    (∀ h' tk', Fr h₀ L h' m → News h₀ L h' ((l, listOf vs.toArray (n + 1)) :: news) → Q .none { s with heap := h', toks := tk' }) →
    wpAny (model PySem.Challenge.rw_wu0047_01.row.prog w) (ktrTop dp un gd cn cs L ca ccd cl outer) (call (.ref 49) [.ref l, .int 0 tk]) Q E s := by
  k_fill
  intro X B F T hk N N1 hne hl hd hu hret
  clear N
  w_top off
  k_with_none
  k_with "enter" => first
    | (refine' code_def (by k_asm) (by k_asm) (by k_asm) (by k_asm) (by k_asm) rfl rfl (by assumption) (by k_is) (by k_is) (by ktr_room) (by first | exact BindsTo.of_eq rfl | exact binds_K (by k_in) rfl (by k_is) rfl rfl rfl | exact kp_binds (by k_in) (fun _ => rfl)) (by exact locs rfl) ?_ (by exact rfl) (by exact rfl) (by exact rfl) (by decide); k_whole; intro _ _ _ _ _ _ _ _ _; (try dsimp only); (try k_fold))
    | (refine' code_defC (by k_asm) (by k_asm) (by k_asm) (by k_asm) (by k_asm) rfl rfl (by assumption) (by k_is) (by k_is) (by ktr_room) (by first | exact BindsTo.of_eq rfl | exact binds_K (by k_in) rfl (by k_is) rfl rfl rfl | fail "k_enter: no rule for these arguments") (by exact rfl) (by decide +kernel) ?_ (by exact rfl) (by exact rfl) (by exact rfl); k_whole; intro _ _ _ _ _ _ _ N' Y' _ _ _ _; k_cells Y'; (try simp only [List.cons_append, List.nil_append] at N'); (try dsimp only); (try k_fold))
  k_with "room" => first | k_dflt (exact Mine.room1 (by assumption) rfl) | k_dflt (exact Mine.room0 (by assumption) rfl) | k_dflt (exact Mine.room2 (by assumption))
  k_with "units" => first | k_dflt (exact Mine.unit1 (by assumption) rfl) | k_dflt (exact Mine.unit0 (by assumption) rfl)
  k_with "all" => first | assumption | exact Mine.lt_all_ne (by assumption) | (refine' List.forall_mem_cons.mpr ⟨?ka1, ?ka2⟩; (case ka1 => k_ne); (case ka2 => k_all))
  k_with "pyIter ref" => k_extra "my iter"
  k_with "UnrEnd" => k_extra "my end"
  k_with "call builtin:list.append" => k_extra "my append"
  k_with "exec While Compare cons nil" => k_extra "my while"
  k_with "lt" => first | assumption | (rename _ ∧ _ => hcN; first | exact hcN.1 | exact hcN.2.1 | exact hcN.2.2.1 | exact hcN.2.2.2.1 | exact hcN.2.2.2.2.1 | exact hcN.2.2.2.2.2.1 | exact hcN.2.2.2.2.2.2.1 | exact hcN.2.2.2.2.2.2.2.1 | exact hcN.2.2.2.2.2.2.2.2.1 | exact hcN.2.2.2.2.2.2.2.2.2.1 | exact hcN.2.2.2.2.2.2.2.2.2.2.1 | exact hcN.2.2.2.2.2.2.2.2.2.2.2.1 | exact hcN.2 | exact hcN.2.2 | exact hcN.2.2.2 | exact hcN.2.2.2.2 | exact hcN.2.2.2.2.2 | exact hcN.2.2.2.2.2.2 | (clear hcN; k_extra "lt"))
  k_with "ne" => with_reducible first | assumption | (refine Nat.ne_of_lt ?_; k_extra "lt") | (refine Nat.ne_of_gt ?_; k_extra "lt")
  k_with "delItem ref int" => k_extra "my del"
  k_with "my del" => 
      k_dflt refine' ki_del (k := 0) ?F ?N ?f ?k ?e ?U ?z ?_
      case F => k_asm
      case N => k_asm
      case U => k_dflt k_upd
      case f => decide
      case e => with_unfolding_all exact rfl
      case k => with_unfolding_all exact seqIndex_at (by decide) (by rw [List.size_toArray, List.length_cons]; omega)
      case z => rw [sizeLine_eq]; simp only [List.toList_toArray, List.length_cons]; omega
      intro h' F' N'
      (try k_sweep)
  refine wpAny_call ?_
  k_dflt ktr_enter
  k_steps
  all_goals exact hret _ _ (by assumption) (led_sub (by assumption) (sub_cons (by k_mem) (by repeat' first | exact sub_refl | apply sub_skip)))
theorem delitem_spec {w : World} {mg mb : Str → Option Value} {loose : List Str} {mean : ExcName → Option Value} {dp un : Nat} {gd : Option (List Code)} {cn : Str} {cs : Scope} {ca : Addr} {ccd : Value} {cl : List (Str × Addr)} {outer : List Env} {A₀ : Around} {base h₀ : Heap} {L : Addr} {m : Str → Option Value} {news : List (Addr × Obj)} {s : Shared} {Q E : Value → Shared → Prop} {news' : List (Addr × Obj)} {l : Addr} {n : Nat} {v : Value} {vs : List Value} {tk : Tok} :
    (Mine.hd.heap_39 w.params).In h₀ → Below A₀ base outer h₀ → Fr h₀ L s.heap m → Top Mine.hd.view_39 loose mean mg mb h₀ → cs.kind = .function → News h₀ L s.heap news → Upd l (listOf (v :: vs).toArray n) (listOf vs.toArray (n + 1)) news news' → vs.length ≤ 1000 → dp + 20 < recursionLimit → un + 200 < cLine →
    (∀ h' tk', Fr h₀ L h' m → News h₀ L h' news' → Q .none { s with heap := h', toks := tk' }) →
    wpAny (model PySem.Challenge.rw_wu0047_01.row.prog w) (ktrTop dp un gd cn cs L ca ccd cl outer) (call (.ref 49) [.ref l, .int 0 tk]) Q E s := by
  intro X B F T hk N U hl hd hu hret
  obtain ⟨pre, post, rfl, rfl, a, b⟩ := U.split
  exact delitem_front X B F T hk (led_sub (led_out N) fun q hq => .tail _ hq) (led_out N) (ne_app a b) hl hd hu fun h' tk' F' N' => hret h' tk' F' (led_in N')
theorem delitem_tail {w : World} {mg mb : Str → Option Value} {loose : List Str} {mean : ExcName → Option Value} {dp un : Nat} {gd : Option (List Code)} {cn : Str} {cs : Scope} {ca : Addr} {ccd : Value} {cl : List (Str × Addr)} {outer : List Env} {A₀ : Around} {base h₀ : Heap} {L : Addr} {m : Str → Option Value} {news : List (Addr × Obj)} {s : Shared} {Q E : Value → Shared → Prop} {news' : List (Addr × Obj)} {l : Addr} {n : Nat} {vs : List Value} {tk : Tok} :
    (Mine.hd.heap_39 w.params).In h₀ → Below A₀ base outer h₀ → Fr h₀ L s.heap m → Top Mine.hd.view_39 loose mean mg mb h₀ → cs.kind = .function → News h₀ L s.heap news → Upd l (listOf vs.toArray n) (listOf vs.tail.toArray (n + 1)) news news' → 0 < vs.length → vs.length ≤ 1000 → dp + 20 < recursionLimit → un + 200 < cLine →
    (∀ h' tk', Fr h₀ L h' m → News h₀ L h' news' → Q .none { s with heap := h', toks := tk' }) →
    wpAny (model PySem.Challenge.rw_wu0047_01.row.prog w) (ktrTop dp un gd cn cs L ca ccd cl outer) (call (.ref 49) [.ref l, .int 0 tk]) Q E s := by
  intro X B F T hk N U h0 hl hd hu hret
  cases vs with
  | nil => exact absurd h0 (by decide)
  | cons v vs => exact delitem_spec X B F T hk N U (by rw [List.length_cons] at hl; omega) hd hu hret
theorem ints_tail {vs : List Value} {ns : List Int} (h : IntsAre vs ns) : IntsAre vs.tail ns.tail := by
  cases h with
  | nil => exact .nil
  | cons n t h => exact h

end
section
noncomputable def JJug (r th : List Int) (rl : Addr) (m₀ : Str → Option Value) (news₀ : List (Addr × Obj)) (i : Nat) (m' : Str → Option Value) (n' : List (Addr × Obj)) : Prop :=
  ∃ vr k row, (∀ z, z ≠ Str.ofString "beat" → m' z = m₀ z) ∧ n' = (rl, listOf (List.toArray vr) k) :: news₀ ∧ IntsAre vr row ∧ row.length ≤ 6 + i ∧ jugP r th = jugGo r th (6 - i) (i : Int) row
theorem JJug.start {r th : List Int} {rl : Addr} {m₀ : Str → Option Value} {news₀ : List (Addr × Obj)} {vr : List Value} {k : Nat} (h : IntsAre vr (freshP r 0)) :
    JJug r th rl m₀ news₀ 0 m₀ ((rl, listOf (List.toArray vr) k) :: news₀) := ⟨vr, k, _, fun _ _ => rfl, rfl, h, freshP_len r 0, rfl⟩
theorem jug_step {r th row : List Int} {i : Nat} (hi : i < 6) : jugGo r th (6 - i) (i : Int) row =
    if 0 < th.getD (0 + (i : Int)).toNat 0 then
      (if row.take 1 = [0 + (i : Int)] then (if insP row.tail (0 + (i : Int) + th.getD (0 + (i : Int)).toNat 0) = freshP r (0 + (i : Int) + 1) then jugGo r th (6 - (i + 1)) ((i + 1 : Nat) : Int) (insP row.tail (0 + (i : Int) + th.getD (0 + (i : Int)).toNat 0)) else false) else false)
    else (if row = freshP r (0 + (i : Int) + 1) then jugGo r th (6 - (i + 1)) ((i + 1 : Nat) : Int) row else false) := by
  rw [show 6 - i = (6 - (i + 1)) + 1 by omega, jugGo, Int.zero_add]; rfl
theorem JJug.next {r th row row' : List Int} {rl : Addr} {i : Nat} {m₀ m' : Str → Option Value} {news₀ : List (Addr × Obj)} {vr : List Value} {k : Nat} (hz : ∀ z, z ≠ Str.ofString "beat" → m' z = m₀ z)
    (h : IntsAre vr row') (hf : row' = freshP r (0 + (i : Int) + 1)) (he : jugP r th = jugGo r th (6 - (i + 1)) ((i + 1 : Nat) : Int) row') : JJug r th rl m₀ news₀ (i + 1) m' ((rl, listOf (List.toArray vr) k) :: news₀) :=
  ⟨vr, k, row', hz, rfl, h, by have := freshP_len r (0 + (i : Int) + 1); rw [← hf] at this; omega, he⟩
theorem juggled_spec {w : World} {mg mb : Str → Option Value} {loose : List Str} {mean : ExcName → Option Value} {dp un : Nat} {gd : Option (List Code)} {cn : Str} {cs : Scope} {ca : Addr} {ccd : Value} {cl : List (Str × Addr)} {outer : List Env} {A₀ : Around} {base h₀ : Heap} {L : Addr} {m : Str → Option Value} {news : List (Addr × Obj)} {s : Shared} {Q E : Value → Shared → Prop} {l l2 : Addr} {n n2 : Nat} {vs vt : List Value} {ns th : List Int} :
    (Mine.hd.heap_39 w.params).In h₀ → Below A₀ base outer h₀ → Fr h₀ L s.heap m → Top Mine.hd.view_39 loose mean mg mb h₀ → cs.kind = .function → News h₀ L s.heap news → (l, listOf vs.toArray n) ∈ news → IntsAre vs ns → ns.length = 6 → (l2, listOf vt.toArray n2) ∈ news → IntsAre vt th → th.length = 6 → (∀ t ∈ th, 0 ≤ t ∧ t ≤ 6) → dp + 35 < recursionLimit → un + 400 < cLine →
    (∀ h' tk', Fr h₀ L h' m → News h₀ L h' news → Q (.bool (jugP ns th)) { s with heap := h', toks := tk' }) →
    wpAny (model PySem.Challenge.rw_wu0047_01.row.prog w) (ktrTop dp un gd cn cs L ca ccd cl outer) (call (.ref 140) [.ref l, .ref l2]) Q E s := by
  k_fill
  intro X B F T hk N hm hi hl hm2 hi2 hl2 hth hd hu hret
  replace N := led_front (led_front N hm2) (List.mem_cons_of_mem _ hm)
  w_top off
  k_with_none
  k_with "enter" => first
    | (refine' code_def (by k_asm) (by k_asm) (by k_asm) (by k_asm) (by k_asm) rfl rfl (by assumption) (by k_is) (by k_is) (by ktr_room) (by first | exact BindsTo.of_eq rfl | exact binds_K (by k_in) rfl (by k_is) rfl rfl rfl | exact kp_binds (by k_in) (fun _ => rfl)) (by exact locs rfl) ?_ (by exact rfl) (by exact rfl) (by exact rfl) (by decide); k_whole; intro _ _ _ _ _ _ _ _ _; (try dsimp only); (try k_fold))
    | (refine' code_defC (by k_asm) (by k_asm) (by k_asm) (by k_asm) (by k_asm) rfl rfl (by assumption) (by k_is) (by k_is) (by ktr_room) (by first | exact BindsTo.of_eq rfl | exact binds_K (by k_in) rfl (by k_is) rfl rfl rfl | fail "k_enter: no rule for these arguments") (by exact rfl) (by decide +kernel) ?_ (by exact rfl) (by exact rfl) (by exact rfl); k_whole; intro _ _ _ _ _ _ _ N' Y' _ _ _ _; k_cells Y'; (try simp only [List.cons_append, List.nil_append] at N'); (try dsimp only); (try k_fold))
  k_with "room" => first | k_dflt (exact Mine.room1 (by assumption) rfl) | k_dflt (exact Mine.room0 (by assumption) rfl) | k_dflt (exact Mine.room2 (by assumption))
  k_with "units" => first | k_dflt (exact Mine.unit1 (by assumption) rfl) | k_dflt (exact Mine.unit0 (by assumption) rfl)
  k_with "all" => first | assumption | exact Mine.lt_all_ne (by assumption) | (refine' List.forall_mem_cons.mpr ⟨?ka1, ?ka2⟩; (case ka1 => k_ne); (case ka2 => k_all))
  k_with "pyIter ref" => k_extra "my iter"
  k_with "UnrEnd" => k_extra "my end"
  k_with "call builtin:list.append" => k_extra "my append"
  k_with "exec While Compare cons nil" => k_extra "my while"
  k_with "lt" => first | assumption | (rename _ ∧ _ => hcN; first | exact hcN.1 | exact hcN.2.1 | exact hcN.2.2.1 | exact hcN.2.2.2.1 | exact hcN.2.2.2.2.1 | exact hcN.2.2.2.2.2.1 | exact hcN.2.2.2.2.2.2.1 | exact hcN.2.2.2.2.2.2.2.1 | exact hcN.2.2.2.2.2.2.2.2.1 | exact hcN.2.2.2.2.2.2.2.2.2.1 | exact hcN.2.2.2.2.2.2.2.2.2.2.1 | exact hcN.2.2.2.2.2.2.2.2.2.2.2.1 | exact hcN.2 | exact hcN.2.2 | exact hcN.2.2.2 | exact hcN.2.2.2.2 | exact hcN.2.2.2.2.2 | exact hcN.2.2.2.2.2.2 | (clear hcN; k_extra "lt"))
  k_with "ne" => with_reducible first | assumption | (refine Nat.ne_of_lt ?_; k_extra "lt") | (refine Nat.ne_of_gt ?_; k_extra "lt")
  k_with "call ref" => (k_here; (with_reducible show wpAny _ _ (call (Value.ref 128) _) _ _ _); k_dflt (refine' fresh_spec (by k_asm) (by k_asm) (by k_asm) (by k_asm) (by first | exact rfl | assumption) (by k_asm) (by k_mem) (by assumption) (by first | assumption | omega) (by omega) (by omega) (by ktr_room) (by ktr_units) ?_; k_whole; (first | k_extra "in fresh" | (intro _ _ _ _ _ _ _ lt' _; replace lt' := allLt_of lt'; (try simp only [AllLt, and_true] at lt'); (try ((have _ := lt'); clear lt')))); (try k_sweep); (try dsimp only); (try k_fold)))
  k_with "call ref" => (k_here; (with_reducible show wpAny _ _ (call (Value.ref 58) _) _ _ _); k_dflt (refine' insort_spec (by k_asm) (by k_asm) (by k_asm) (by k_asm) (by first | exact rfl | assumption) (by k_asm) (by k_upd) (by k_extra "ins ints") (by k_extra "ins len") (by ktr_room) (by ktr_units) ?_; k_whole; intro _ _ _ _ _; (try k_sweep); (try dsimp only); (try k_fold)))
  k_with "call ref" => (k_here; (with_reducible show wpAny _ _ (call (Value.ref 49) _) _ _ _); k_dflt (refine' delitem_tail (by k_asm) (by k_asm) (by k_asm) (by k_asm) (by first | exact rfl | assumption) (by k_asm) (by k_upd) (by k_extra "del len0") (by k_extra "del len") (by ktr_room) (by ktr_units) ?_; k_whole; intro _ _ _ _; (try k_sweep); (try dsimp only); (try k_fold)))
  k_with "my iter" => 
      rename Fr _ _ _ _ => lF
      rename News _ _ _ _ => lN
      rename IsRange _ _ _ _ _ _ _ _ => lR
      rename _ ∧ _ ∧ AllLt _ _ => lA
      rename IntsAre _ (freshP ns 0) => hi0
      have lA' := allLt_all lA.2.2
      with_unfolding_all refine' range_inv (n := 6) (JJug ns th _ ?m0 ((l, listOf vs.toArray n) :: (l2, listOf vt.toArray n2) :: news)) (by rfl) lR (by decide) (by decide) lF lN ?j0 ?turn ?done
      case j0 => with_unfolding_all exact JJug.start hi0
      case' turn =>
        clear lF lN lR hi0
        intro i I m1 news1 t h tk hI hJ hO F' N'
        unfold JJug at hJ
        obtain ⟨vr, k1, row, hz, rfl, hi1, hl1, he1⟩ := hJ
        rw [map_one hz] at F'
        have hIf := neN (hO _ (List.Mem.head _))
        dsimp only at hIf
        have hvl : vr.length = row.length := hi1.length
        try k_fold
      case' done =>
        clear lF lN lR hi0
        intro m1 news1 h tk hJ F' N'
        unfold JJug at hJ
        obtain ⟨vr, k1, row, hz, rfl, hi1, hl1, he1⟩ := hJ
        try k_fold
  k_with "del len0" => 
      rename List.take _ _ = _ => hT
      have := congrArg List.length hT
      simp only [List.length_take, List.length_cons, List.length_nil] at this
      omega
  k_with "del len" => omega
  k_with "ins ints" => exact ints_tail (by assumption)
  k_with "ins len" =>  (simp only [List.length_tail]; omega)
  refine wpAny_call ?_
  k_dflt ktr_enter
  k_steps
  · have e : jugP ns th = true := he1
    rw [← e]
    exact hret _ _ (by assumption) (led_sub (by assumption) (by repeat' first | exact sub_refl | apply sub_skip))
  · have hf : insP row.tail (0 + (i : Int) + th.getD (0 + (i : Int)).toNat 0) = freshP ns (0 + (i : Int) + 1) := by assumption
    refine' UnrEnd.intro (by assumption) (by assumption) _ ?sub ?off (JJug.next ?z (by assumption) hf (he1.trans ((jug_step hI).trans ?e)))
    case e => rw [if_pos (by assumption), if_pos (by assumption), if_pos hf]
    case z => intro z h1; simp only [if_neg h1]
    case sub => exact sub_cons (by k_mem) (sub_cons (by k_mem) (by repeat' first | exact sub_refl | apply sub_skip))
    case off => exact off_cons hIf fun p hp => hO p (List.mem_cons_of_mem _ hp)
    all_goals exact ([] : List Int)
  · have e : jugP ns th = false := he1.trans ((jug_step hI).trans (by rw [if_pos (by assumption), if_pos (by assumption), if_neg (by assumption)]))
    rw [← e]
    exact hret _ _ (by assumption) (led_sub (by assumption) (by repeat' first | exact sub_refl | apply sub_skip))
  · have e : jugP ns th = false := he1.trans ((jug_step hI).trans (by rw [if_pos (by assumption), if_neg (by assumption)]))
    rw [← e]
    exact hret _ _ (by assumption) (led_sub (by assumption) (by repeat' first | exact sub_refl | apply sub_skip))
  · have hf : row = freshP ns (0 + (i : Int) + 1) := by assumption
    refine' UnrEnd.intro (by assumption) (by assumption) _ ?sub ?off (JJug.next ?z hi1 hf (he1.trans ((jug_step hI).trans ?e)))
    case e => rw [if_neg (by assumption), if_pos hf]
    case z => intro z h1; simp only [if_neg h1]
    case sub => exact sub_cons (by k_mem) (sub_cons (by k_mem) (by repeat' first | exact sub_refl | apply sub_skip))
    case off => exact off_cons hIf fun p hp => hO p (List.mem_cons_of_mem _ hp)
    all_goals exact ([] : List Int)
  · have e : jugP ns th = false := he1.trans ((jug_step hI).trans (by rw [if_neg (by assumption), if_neg (by assumption)]))
    rw [← e]
    exact hret _ _ (by assumption) (led_sub (by assumption) (by repeat' first | exact sub_refl | apply sub_skip))

end
section
noncomputable def JText (order op cl : List Int) (sl : Addr) (m₀ : Str → Option Value) (news₀ : List (Addr × Obj)) (i : Nat) (m' : Str → Option Value) (n' : List (Addr × Obj)) : Prop :=
  ∃ vg k, (∀ z, z ≠ Str.ofString "place" → m' z = m₀ z) ∧ n' = (sl, listOf (List.toArray vg) k) :: news₀ ∧ StrsAre vg (signsP (order.take i) op cl)
theorem JText.start {order op cl : List Int} {sl : Addr} {m₀ : Str → Option Value} {news₀ : List (Addr × Obj)} {k : Nat} : JText order op cl sl m₀ news₀ 0 m₀ ((sl, listOf #[] k) :: news₀) := ⟨[], k, fun _ _ => rfl, rfl, .nil⟩
theorem signs_len (order op cl : List Int) : (signsP order op cl).length ≤ 2 * order.length := by
  unfold signsP
  induction order with
  | nil => exact Nat.zero_le _
  | cons p r ih =>
    rw [List.flatMap_cons, List.length_append, List.length_cons]
    have : (signsAt op cl p).length ≤ 2 := by unfold signsAt; rw [List.length_append]; split <;> split <;> decide
    omega
theorem signs_next {order op cl : List Int} {i : Nat} {p : Int} (h : order[i]? = some p) : signsP (order.take (i + 1)) op cl = signsP (order.take i) op cl ++ signsAt op cl p := by
  unfold signsP
  rw [List.take_add_one, h, List.flatMap_append]
  simp
theorem signs_size (order op cl : List Int) : ((signsP order op cl).map (·.length)).sum = (signsP order op cl).length := by
  have : ∀ x ∈ signsP order op cl, x.length = 1 := by
    intro x hx
    obtain ⟨p, _, hp⟩ := List.mem_flatMap.mp hx
    unfold signsAt at hp
    rcases List.mem_append.mp hp with hp | hp
    · split at hp
      · rw [List.mem_singleton.mp hp]; rfl
      · cases hp
    · split at hp
      · rw [List.mem_singleton.mp hp]; rfl
      · cases hp
  generalize signsP order op cl = l at this
  induction l with
  | nil => rfl
  | cons x r ih => rw [List.map_cons, List.sum_cons, List.length_cons, this x (.head _), ih fun y hy => this y (.tail _ hy)]; omega
theorem JText.next11 {order op cl : List Int} {i : Nat} {p : Int} {sl : Addr} {m₀ m' : Str → Option Value} {news₀ : List (Addr × Obj)} {k : Nat} {vg : List Value} {t u : Tok} (h : order[i]? = some p) (hz : ∀ z, z ≠ Str.ofString "place" → m' z = m₀ z)
    (hs : StrsAre vg (signsP (order.take i) op cl)) (ha : (op.any fun x => x == p) = true) (hb : (cl.any fun x => x == p) = true) : JText order op cl sl m₀ news₀ (i + 1) m' ((sl, listOf (((List.toArray vg).push (.str (Str.ofString "(") t)).push (.str (Str.ofString ")") u)) k) :: news₀) :=
  ⟨vg ++ [.str (Str.ofString "(") t] ++ [.str (Str.ofString ")") u], k, hz, by simp only [List.push_toArray], by rw [signs_next h]; unfold signsAt; rw [ha, hb]; rw [if_pos rfl, if_pos rfl, ← List.append_assoc]; exact strs_push (strs_push hs)⟩
theorem JText.next10 {order op cl : List Int} {i : Nat} {p : Int} {sl : Addr} {m₀ m' : Str → Option Value} {news₀ : List (Addr × Obj)} {k : Nat} {vg : List Value} {t : Tok} (h : order[i]? = some p) (hz : ∀ z, z ≠ Str.ofString "place" → m' z = m₀ z)
    (hs : StrsAre vg (signsP (order.take i) op cl)) (ha : (op.any fun x => x == p) = true) (hb : (cl.any fun x => x == p) = false) : JText order op cl sl m₀ news₀ (i + 1) m' ((sl, listOf ((List.toArray vg).push (.str (Str.ofString "(") t)) k) :: news₀) :=
  ⟨vg ++ [.str (Str.ofString "(") t], k, hz, by simp only [List.push_toArray], by rw [signs_next h]; unfold signsAt; rw [ha, hb]; rw [if_pos rfl, if_neg Bool.false_ne_true, List.append_nil]; exact strs_push hs⟩
theorem JText.next01 {order op cl : List Int} {i : Nat} {p : Int} {sl : Addr} {m₀ m' : Str → Option Value} {news₀ : List (Addr × Obj)} {k : Nat} {vg : List Value} {t : Tok} (h : order[i]? = some p) (hz : ∀ z, z ≠ Str.ofString "place" → m' z = m₀ z)
    (hs : StrsAre vg (signsP (order.take i) op cl)) (ha : (op.any fun x => x == p) = false) (hb : (cl.any fun x => x == p) = true) : JText order op cl sl m₀ news₀ (i + 1) m' ((sl, listOf ((List.toArray vg).push (.str (Str.ofString ")") t)) k) :: news₀) :=
  ⟨vg ++ [.str (Str.ofString ")") t], k, hz, by simp only [List.push_toArray], by rw [signs_next h]; unfold signsAt; rw [ha, hb]; rw [if_neg Bool.false_ne_true, if_pos rfl, List.nil_append]; exact strs_push hs⟩
theorem JText.next00 {order op cl : List Int} {i : Nat} {p : Int} {sl : Addr} {m₀ m' : Str → Option Value} {news₀ : List (Addr × Obj)} {k : Nat} {vg : List Value} (h : order[i]? = some p) (hz : ∀ z, z ≠ Str.ofString "place" → m' z = m₀ z)
    (hs : StrsAre vg (signsP (order.take i) op cl)) (ha : (op.any fun x => x == p) = false) (hb : (cl.any fun x => x == p) = false) : JText order op cl sl m₀ news₀ (i + 1) m' ((sl, listOf (List.toArray vg) k) :: news₀) :=
  ⟨vg, k, hz, rfl, by rw [signs_next h]; unfold signsAt; rw [ha, hb]; rw [if_neg Bool.false_ne_true, if_neg Bool.false_ne_true, List.append_nil, List.append_nil]; exact hs⟩
theorem text_spec {w : World} {mg mb : Str → Option Value} {loose : List Str} {mean : ExcName → Option Value} {dp un : Nat} {gd : Option (List Code)} {cn : Str} {cs : Scope} {ca : Addr} {ccd : Value} {cl : List (Str × Addr)} {outer : List Env} {A₀ : Around} {base h₀ : Heap} {L : Addr} {m : Str → Option Value} {news : List (Addr × Obj)} {s : Shared} {Q E : Value → Shared → Prop} {l lo lc : Addr} {n no nc : Nat} {vs vo vc : List Value} {order op cls : List Int} :
    (Mine.hd.heap_39 w.params).In h₀ → Below A₀ base outer h₀ → Fr h₀ L s.heap m → Top Mine.hd.view_39 loose mean mg mb h₀ → cs.kind = .function → News h₀ L s.heap news → (l, listOf vs.toArray n) ∈ news → IntsAre vs order → order.length ≤ 100 → (lo, listOf vo.toArray no) ∈ news → IntsAre vo op → (lc, listOf vc.toArray nc) ∈ news → IntsAre vc cls → dp + 25 < recursionLimit → un + 250 < cLine →
    (∀ h' tk' t, Fr h₀ L h' m → News h₀ L h' news → Q (.str (textP order op cls) t) { s with heap := h', toks := tk' }) →
    wpAny (model PySem.Challenge.rw_wu0047_01.row.prog w) (ktrTop dp un gd cn cs L ca ccd cl outer) (call (.ref 154) [.ref l, .ref lo, .ref lc]) Q E s := by
  k_fill
  intro X B F T hk N hm hi hl hm2 hi2 hm3 hi3 hd hu hret
  replace N := led_front (led_front (led_front N hm3) (List.mem_cons_of_mem _ hm2)) (List.mem_cons_of_mem _ (List.mem_cons_of_mem _ hm))
  w_top off
  k_with_none
  k_with "enter" => first
    | (refine' code_def (by k_asm) (by k_asm) (by k_asm) (by k_asm) (by k_asm) rfl rfl (by assumption) (by k_is) (by k_is) (by ktr_room) (by first | exact BindsTo.of_eq rfl | exact binds_K (by k_in) rfl (by k_is) rfl rfl rfl | exact kp_binds (by k_in) (fun _ => rfl)) (by exact locs rfl) ?_ (by exact rfl) (by exact rfl) (by exact rfl) (by decide); k_whole; intro _ _ _ _ _ _ _ _ _; (try dsimp only); (try k_fold))
    | (refine' code_defC (by k_asm) (by k_asm) (by k_asm) (by k_asm) (by k_asm) rfl rfl (by assumption) (by k_is) (by k_is) (by ktr_room) (by first | exact BindsTo.of_eq rfl | exact binds_K (by k_in) rfl (by k_is) rfl rfl rfl | fail "k_enter: no rule for these arguments") (by exact rfl) (by decide +kernel) ?_ (by exact rfl) (by exact rfl) (by exact rfl); k_whole; intro _ _ _ _ _ _ _ N' Y' _ _ _ _; k_cells Y'; (try simp only [List.cons_append, List.nil_append] at N'); (try dsimp only); (try k_fold))
  k_with "room" => first | k_dflt (exact Mine.room1 (by assumption) rfl) | k_dflt (exact Mine.room0 (by assumption) rfl) | k_dflt (exact Mine.room2 (by assumption))
  k_with "units" => first | k_dflt (exact Mine.unit1 (by assumption) rfl) | k_dflt (exact Mine.unit0 (by assumption) rfl)
  k_with "all" => first | assumption | exact Mine.lt_all_ne (by assumption) | (refine' List.forall_mem_cons.mpr ⟨?ka1, ?ka2⟩; (case ka1 => k_ne); (case ka2 => k_all))
  k_with "pyIter ref" => k_extra "my iter"
  k_with "UnrEnd" => k_extra "my end"
  k_with "call builtin:list.append" => k_extra "my append"
  k_with "exec While Compare cons nil" => k_extra "my while"
  k_with "lt" => first | assumption | (rename _ ∧ _ => hcN; first | exact hcN.1 | exact hcN.2.1 | exact hcN.2.2.1 | exact hcN.2.2.2.1 | exact hcN.2.2.2.2.1 | exact hcN.2.2.2.2.2.1 | exact hcN.2.2.2.2.2.2.1 | exact hcN.2.2.2.2.2.2.2.1 | exact hcN.2.2.2.2.2.2.2.2.1 | exact hcN.2.2.2.2.2.2.2.2.2.1 | exact hcN.2.2.2.2.2.2.2.2.2.2.1 | exact hcN.2.2.2.2.2.2.2.2.2.2.2.1 | exact hcN.2 | exact hcN.2.2 | exact hcN.2.2.2 | exact hcN.2.2.2.2 | exact hcN.2.2.2.2.2 | exact hcN.2.2.2.2.2.2 | (clear hcN; k_extra "lt"))
  k_with "ne" => with_reducible first | assumption | (refine Nat.ne_of_lt ?_; k_extra "lt") | (refine Nat.ne_of_gt ?_; k_extra "lt")
  k_with "exec For Name Name cons nil" => k_extra "my for"
  k_with "call builtin:str.join" => k_extra "my join"
  k_with "my for" => 
      rename Fr _ _ _ _ => lF
      with_unfolding_all refine' For_invVF lF ?k1 ?k2 ?_
      case k1 => with_unfolding_all exact rfl
      case k2 => with_unfolding_all exact rfl
  k_with "my iter" => 
      rename Fr _ _ _ _ => lF
      rename News _ _ _ _ => lN
      rename _ ∧ _ ∧ _ ∧ AllLt _ _ => lA
      have lA' := allLt_all lA.2.2.2
      with_unfolding_all refine' list_inv (n := n) (vs := vs) (JText order op cls _ ?m0 ((l, listOf vs.toArray n) :: (lo, listOf vo.toArray no) :: (lc, listOf vc.toArray nc) :: news)) (by rfl) lF lN ?hm ?j0 ?keep ?turn ?done
      case hm => k_mem
      case j0 => with_unfolding_all exact JText.start
      case keep => exact fun i m n' ⟨_, _, _, e, _⟩ => e ▸ List.Mem.tail _ (List.Mem.head _)
      case' turn =>
        clear lF lN
        intro i v I it m1 news1 h tk hv hJ hO hic F' N'
        unfold JText at hJ
        obtain ⟨vg, k1, hz, rfl, hs1⟩ := hJ
        obtain ⟨p, tp, rfl, hp⟩ := ints_at hi hv
        rw [map_one hz] at F'
        have hIf := neN (hO _ (List.Mem.head _))
        dsimp only at hIf
        have hvl : vg.length ≤ 200 := by
          have h1 := signs_len (order.take i) op cls
          have h2 := strs_length hs1
          have h3 : (order.take i).length ≤ order.length := by rw [List.length_take]; omega
          omega
        try k_fold
      case' done =>
        clear lF lN
        intro m1 news1 h tk hJ F' N'
        unfold JText at hJ
        obtain ⟨vg, k1, hz, rfl, hs1⟩ := hJ
        replace F' := fr_eq F' (map_all1 hz)
        try k_fold
  k_with "my join" => 
      rename News _ _ _ _ => lN
      with_unfolding_all refine' join_list (News.isList lN ?lm) ?ls ?lw ?_
      case lm => k_mem
      case ls => with_unfolding_all exact hs1
      case lw =>
        have h1 := signs_size (order.take vs.length) op cls
        have h2 := signs_len (order.take vs.length) op cls
        have h3 : (order.take vs.length).length ≤ order.length := by rw [List.length_take]; omega
        have h4 : (Str.ofString "").length = 0 := rfl
        rw [h1, h4]; omega
      intro t' k'
  refine wpAny_call ?_
  k_dflt ktr_enter
  k_steps
  · have e : order.take vs.length = order := by rw [hi.length]; exact List.take_length
    rw [e]
    exact hret _ _ _ (by assumption) (led_sub (by assumption) (by repeat' first | exact sub_refl | apply sub_skip))
  · refine' UnrEnd.intro (by assumption) (by assumption) _ ?sub ?off (JText.next11 hp ?z hs1 (by assumption) (by assumption))
    case z => intro z h1; simp only [if_neg h1]
    case sub => exact sub_cons (by k_mem) (sub_cons (by k_mem) (by repeat' first | exact sub_refl | apply sub_skip))
    case off => exact off_cons hIf fun p hp => hO p (List.mem_cons_of_mem _ hp)
  · refine' UnrEnd.intro (by assumption) (by assumption) _ ?sub ?off (JText.next10 hp ?z hs1 (by assumption) (by assumption))
    case z => intro z h1; simp only [if_neg h1]
    case sub => exact sub_cons (by k_mem) (sub_cons (by k_mem) (by repeat' first | exact sub_refl | apply sub_skip))
    case off => exact off_cons hIf fun p hp => hO p (List.mem_cons_of_mem _ hp)
  · refine' UnrEnd.intro (by assumption) (by assumption) _ ?sub ?off (JText.next01 hp ?z hs1 (by assumption) (by assumption))
    case z => intro z h1; simp only [if_neg h1]
    case sub => exact sub_cons (by k_mem) (sub_cons (by k_mem) (by repeat' first | exact sub_refl | apply sub_skip))
    case off => exact off_cons hIf fun p hp => hO p (List.mem_cons_of_mem _ hp)
  · refine' UnrEnd.intro (by assumption) (by assumption) _ ?sub ?off (JText.next00 hp ?z hs1 (by assumption) (by assumption))
    case z => intro z h1; simp only [if_neg h1]
    case sub => exact sub_cons (by k_mem) (sub_cons (by k_mem) (by repeat' first | exact sub_refl | apply sub_skip))
    case off => exact off_cons hIf fun p hp => hO p (List.mem_cons_of_mem _ hp)

end
section
/-! rules for a generator's body, beside the kit's -/
section
variable {M : Model} {A : Around} {R : GenEnd} {Y : Protocol} {n : Nat} {s₀ : Shared} {c : Code} {fs : List Frame} {s : Shared} {env : Env}
  {K : Flow → Sem Fin} {H : Value → Sem Fin} {gd : Bool → Bool} {lv : List Value → List Value}

noncomputable abbrev never : Value → Shared → Prop := fun _ _ => False
theorem never_to {E : Value → Shared → Prop} {α : Type} {B : Around} {m : Sem α} {Q : α → Shared → Prop} (h : wpAny M B m Q never s) : wpAny M B m Q E s :=
  wpAny_mono h (fun _ _ x => x) fun _ _ x => x.elim

/-- a statement that neither yields nor raises nor leaves -/
theorem seg_plain {st : Stmt} {rest : List Stmt}
    (h : wpAny M (A.over c fs) (exec st env) (fun f s' => f = .next ∧ Seg M A R Y n s₀ c ((execs rest env).wrap K H gd lv) fs s') never s) :
    Seg M A R Y n s₀ c ((execs (st :: rest) env).wrap K H gd lv) fs s := by
  refine seg_execs_cons (seg_wrap (wpAny_mono h (fun f s' x => ?_) fun _ _ x => x.elim))
  obtain ⟨rfl, x⟩ := x
  exact x

theorem seg_If {test : Expr} {body orelse : List Stmt} {pos : Pos}
    (h : wpAny M (A.over c fs) (isTrue test env (eval test env)) (fun b s' => Seg M A R Y n s₀ c ((execs (if b = true then body else orelse) env).wrap K H gd lv) fs s') never s) :
    Seg M A R Y n s₀ c ((exec (.If test body orelse pos) env).wrap K H gd lv) fs s := by
  rw [PySem.exec_If]
  show Seg M A R Y n s₀ c (.at pos fun _ => ((isTrue test env (eval test env)) >>= fun b => if b = true then execs body env else execs orelse env).wrap K H gd lv) fs s
  refine seg_at ?_
  rw [Sem.bind_eq_wrap', Sem.wrap_wrap]
  refine seg_wrap (wpAny_mono h (fun b s' x => ?_) fun _ _ x => x.elim)
  cases b <;> exact x

theorem seg_For {target iter : Expr} {body orelse : List Stmt} {pos : Pos}
    (h : wpAny M (A.over c fs) (eval iter env) (fun x s₁ => wpAny M (A.over c fs) (pyIter x) (fun it s₂ => ∀ (p : Pos) (g' : Bool) (l' : List Value), g' = gd false →
      Seg M A R Y n s₀ (.forLoop target it body orelse env) (M.den (.forLoop target it body orelse env))
        (.ret (fun r => ((match r with | .ok f => (.pure f : Sem Flow) | .error e => .raise e).onRaise fun (x : Value) => do
          if (← field x 1) == Value.none then unsupported "frame.own-activation:exception-without-traceback"
          setFlight x env.frame).wrap K H gd lv) none g' l' c p [] :: fs) s₂) never s₁) never s)
    (hs : ∀ x, foldedSetIterable iter env x = pure x := by intro _; rfl) :
    Seg M A R Y n s₀ c ((exec (.For target iter body orelse pos) env).wrap K H gd lv) fs s := by
  rw [PySem.exec_For]
  show Seg M A R Y n s₀ c (.at pos fun _ => ((eval iter env) >>= fun v => foldedSetIterable iter env v >>= fun x => standAt iter.pos >>= fun _ => holding [x] (pyIter x) >>= fun it =>
    runOwn (.forLoop target it body orelse env) env).wrap K H gd lv) fs s
  refine seg_at ?_
  rw [Sem.bind_eq_wrap', Sem.wrap_wrap]
  refine seg_wrap (wpAny_mono h (fun v s₁ h₁ => ?_) fun _ _ x => x.elim)
  rw [hs v]
  show Seg M A R Y n s₀ c (.at iter.pos fun _ => (holding [v] (pyIter v) >>= fun it => runOwn (.forLoop target it body orelse env) env).wrap K H gd lv) fs s₁
  refine seg_at ?_
  rw [Sem.bind_eq_wrap', Sem.wrap_wrap]
  refine seg_wrap (wpAny_holding (wpAny_mono h₁ (fun it s₂ h₂ => ?_) fun _ _ x => x.elim))
  exact seg_call fun p => h₂ p _ _ rfl
end

section
variable {prog : Program} {w : World} {A : Around} {R : GenEnd} {Y : Protocol} {n : Nat} {s₀ : Shared} {fs : List Frame} {s : Shared} {env : Env}

/-- what a turn's flow does -/
noncomputable def forK (target : Expr) (it : Value) (body orelse : List Stmt) (env : Env) : Flow → Sem Fin
  | .next | .cont => .pure (.again (.forLoop target it body orelse env))
  | .brk => .pure (.done .next)
  | .ret v => .pure (.done (.ret v))
noncomputable def noteH (env : Env) (e : Value) : Sem Fin := (do noteFrame e env; theTreesLotGoes e : Sem Unit).wrap (fun _ => .raise e) .raise id id

theorem seg_forLoop {target : Expr} {it : Value} {body orelse : List Stmt}
    (h : wpAny (model prog w) (A.over (.forLoop target it body orelse env) fs) (pyNext it) (fun r s₁ => match r with
      | none => Seg (model prog w) A R Y n s₀ (.block orelse env) ((model prog w).den (.block orelse env)) fs s₁
      | some v => wpAny (model prog w) (A.over (.forLoop target it body orelse env) fs) (letOwnedTupleGo target it v) (fun _ s₂ =>
          wpAny (model prog w) (A.over (.forLoop target it body orelse env) fs) (assign target env v) (fun _ s₃ =>
            Seg (model prog w) A R Y n s₀ (.forLoop target it body orelse env) ((execs body env).wrap (forK target it body orelse env) (noteH env) id id) fs s₃) never s₂) never s₁) never s) :
    Seg (model prog w) A R Y n s₀ (.forLoop target it body orelse env) ((model prog w).den (.forLoop target it body orelse env)) fs s := by
  show Seg _ A R Y n s₀ _ ((forTurn target it body orelse env).onRaise (fun x => do noteFrame x env; theTreesLotGoes x)) fs s
  unfold forTurn
  rw [Sem.onRaise_eq_wrap]
  refine seg_at ?_
  show Seg _ A R Y n s₀ _ ((((pyNext it).onRaise fun _ => standAt { target.pos with line := 0 }) >>= fun r => match r with
      | none => again (.block orelse env)
      | some v => letOwnedTupleGo target it v >>= fun _ => assign target env v >>= fun _ => execs body env >>= fun f => match f with
        | .next | .cont => again (.forLoop target it body orelse env)
        | .brk => pure (.done .next)
        | .ret v => pure (.done (.ret v))).wrap _ _ _ _) fs s
  rw [Sem.bind_eq_wrap', Sem.wrap_wrap]
  refine seg_wrap (wpAny_onRaise (wpAny_mono h (fun r s₁ h₁ => ?_) fun _ _ x => x.elim))
  cases r with
  | none => exact seg_again rfl h₁
  | some v =>
    show Seg _ A R Y n s₀ _ ((letOwnedTupleGo target it v >>= fun _ => assign target env v >>= fun _ => execs body env >>= fun f => match f with
        | .next | .cont => again (.forLoop target it body orelse env)
        | .brk => pure (.done .next)
        | .ret v => pure (.done (.ret v))).wrap _ _ _ _) fs s₁
    rw [Sem.bind_eq_wrap', Sem.wrap_wrap]
    refine seg_wrap (wpAny_mono h₁ (fun _ s₂ h₂ => ?_) fun _ _ x => x.elim)
    rw [Sem.bind_eq_wrap', Sem.wrap_wrap]
    refine seg_wrap (wpAny_mono h₂ (fun _ s₃ h₃ => ?_) fun _ _ x => x.elim)
    rw [Sem.bind_eq_wrap', Sem.wrap_wrap]
    rw [Sem.wrap_congr (execs body env) _ _ (K' := forK target it body orelse env) (H' := noteH env) (fun f => by cases f <;> rfl)
      (fun e => by unfold noteH; first | exact Sem.bind_eq_wrap _ _ | (show (do noteFrame e env; theTreesLotGoes e : Sem Unit).bind (fun _ => .raise e) = _; rw [Sem.bind_eq_wrap]))]
    exact h₃

theorem seg_turn {target : Expr} {it : Value} {body orelse : List Stmt}
    (h : Seg (model prog w) A R Y n s₀ (.forLoop target it body orelse env) ((model prog w).den (.forLoop target it body orelse env)) fs s) :
    Seg (model prog w) A R Y n s₀ (.forLoop target it body orelse env) ((execs [] env).wrap (forK target it body orelse env) (noteH env) id id) fs s := seg_again rfl h

theorem seg_block_nil (h : Seg (model prog w) A R Y n s₀ (.block [] env) (leafOf (.ok .next)) fs s) :
    Seg (model prog w) A R Y n s₀ (.block [] env) ((model prog w).den (.block [] env)) fs s := h
end

end
section
/-! a for over a generator function's object -/
section
variable {prog : Program} {w : World} {A : Around} {E : Value → Shared → Prop} {s : Shared}

/-- the next item of a generator function -/
theorem next_gen {a : Addr} {g n : Nat} {gs : GenState} {P : Nat → Shared → Shared → Prop} {Y : Protocol} {Q : Option Value → Shared → Prop} (hh : A.handled = none)
    (hl : s.heap.NoLimit) (hroom : A.depth < recursionLimit) (hg : s.heap.IsGen a g) (hgs : s.gens[g]? = some gs)
    (hgo : gs.Goes (model prog w) A.in1 (fun n s₀ r s₁ => r = .ok (.ret .none) ∧ P n s₀ s₁) Y n (.send .none) (s.setGen g .running))
    (hY : ∀ v s₁ gs', gs'.bare = true → Y (n - 1) (s.setGen g .running) v s₁ (fun r' s'' => match n with
        | 0 => False
        | m + 1 => gs'.Goes (model prog w) A.in1 (fun n s₀ r s₁ => r = .ok (.ret .none) ∧ P n s₀ s₁) Y m r' s'') → Q (some v) (s₁.setGen g gs'))
    (hP : ∀ s₁, P n (s.setGen g .running) s₁ → ∀ h', (∀ b o, s₁.heap.get? b = some o → h'.get? b = some o) → Q none { s₁.setGen g .finished with heap := h' }) :
    wpAny (model prog w) A (pyNext (.ref a)) Q E s := by
  unfold pyNext
  refine wpAny_bind (wpAny_attempt (wpAny_callSpecial?_slot (name := Str.ofString "__next__") hg.typeIs slot_gen_next (wpAny_call_entry slot_gen_next hg.typeIs entry_gen_next ?_ (args_gen_next _))))
  show wpAny _ A.in1 (Builtin.Generator.genWake (.ref a) (.send .none)) _ _ s
  unfold Builtin.Generator.genWake
  refine wpAny_bind (wpAny_holding (wpAny_genNumber hg (wpAny_bind (wpAny_genState hgs ?_))))
  cases gs with
  | running => exact hgo.elim
  | finished => exact hgo.elim
  | _ =>
    refine wpAny_bind (wpAny_roomToWake hl hroom ?_)
    show wpAny _ A.in1 (.resume g (.send .none) [] _) _ _ s
    refine wpAny_resumeQ hgs hgo (fun x s₁ hx => ?_) (fun v s₁ gs' hb hv => wpAny_pure ⟨v, rfl, wpAny_pure (hY v s₁ gs' hb hv)⟩)
    obtain ⟨rfl, hp⟩ := hx
    show wpAny _ A.in1 (newExc (.type "StopIteration") [] >>= _) _ _ _
    refine wpAny_bind ?_
    simp only [newExc, newTuple]
    refine wpAny_bind (wpAny_newObj_type ?_ (by size_fits))
    refine wpAny_bind (m := firstArgMember _ _) (wpAny_of_eq (a := Value.none) (by first | rfl | (simp only [firstArgMember]; rfl)) ?_)
    refine wpAny_newObj_type ?_ (by size_fits)
    simp only [raiseNew]
    refine wpAny_bind (wpAny_bind (wpAny_handled ?_))
    first | rw [show A.in1.handled = none from hh] | rw [hh]
    refine wpAny_throw ?_
    refine wpAny_bind (wpAny_isInstance (T := "StopIteration") (b := true) ⟨_, Heap.get?_push_size _ rfl, rfl⟩ isSubtype_stop ?_)
    exact wpAny_pure (hP s₁ hp _ fun b o hb => Heap.get?_push_of_some _ (Heap.get?_push_of_some _ hb))
end

noncomputable def Old (h₀ h : Heap) : Prop := ∀ b o, h₀.get? b = some o → h.get? b = some o
/-- what the loop leaves alone while the generator sleeps -/
noncomputable def Kept (N₁ Lg : Addr) (fx : List Addr) (h h' : Heap) : Prop := ∀ b o, (N₁ ≤ b ∨ b = Lg ∨ b ∈ fx) → h.get? b = some o → h'.get? b = some o
/-- what the generator leaves alone -/
noncomputable def Spared (N₁ Lg : Addr) (h h' : Heap) : Prop := ∀ b o, b < N₁ → b ≠ Lg → h.get? b = some o → h'.get? b = some o
theorem Spared.refl {N₁ Lg : Addr} {h : Heap} : Spared N₁ Lg h h := fun _ _ _ _ e => e
theorem Spared.trans {N₁ Lg : Addr} {h h' h'' : Heap} (x : Spared N₁ Lg h h') (y : Spared N₁ Lg h' h'') : Spared N₁ Lg h h'' := fun b o a c e => y b o a c (x b o a c e)

noncomputable def GR (N₁ Lg : Addr) : GenEnd := fun n s₀ r s₁ => r = .ok (.ret .none) ∧ (n = 0 ∧ ∃ h tk, s₁ = { s₀ with heap := h, toks := tk } ∧ Spared N₁ Lg s₀.heap h)
noncomputable def GY (h₀ : Heap) (N₁ Lg : Addr) (fx : List Addr) (tot : Nat) (P : Nat → Value → Heap → Prop) : Protocol := fun n s₀ v s₁ kap =>
  n < tot ∧ P (tot - 1 - n) v s₁.heap ∧ (∃ h tk, s₁ = { s₀ with heap := h, toks := tk } ∧ Spared N₁ Lg s₀.heap h) ∧
  ∀ s'', Old h₀ s''.heap → Kept N₁ Lg fx s₁.heap s''.heap → kap (.send .none) s''

noncomputable def GenSt (prog : Program) (w : World) (A : Around) (h₀ : Heap) (a : Addr) (g : Nat) (N₁ Lg : Addr) (fx : List Addr) (tot : Nat) (P : Nat → Value → Heap → Prop) (i : Nat) (s : Shared) : Prop :=
  s.heap.IsGen a g ∧ Old h₀ s.heap ∧ ∃ gs, s.gens[g]? = some gs ∧ ∀ s'', s''.heap = s.heap → gs.Goes (model prog w) A.in1 (GR N₁ Lg) (GY h₀ N₁ Lg fx tot P) (tot - i) (.send .none) s''

/-- the state but for heap, tokens and generators -/
noncomputable def Same (s s' : Shared) : Prop := ∃ h tk gg, s' = { s with heap := h, toks := tk, gens := gg } ∧ (AllBare s.gens → AllBare gg)
theorem Same.refl {s : Shared} : Same s s := ⟨_, _, _, rfl, id⟩
theorem Same.trans {s s' s'' : Shared} (x : Same s s') (y : Same s' s'') : Same s s'' := by
  obtain ⟨h, tk, gg, rfl, b⟩ := x
  obtain ⟨h', tk', gg', rfl, b'⟩ := y
  exact ⟨h', tk', gg', rfl, fun z => b' (b z)⟩
theorem Same.set {s s' : Shared} (x : Same s s') (h : Heap) (tk : Nat) : Same s { s' with heap := h, toks := tk } := by
  obtain ⟨h, tk, gg, rfl, b⟩ := x
  exact ⟨_, _, _, rfl, b⟩
theorem bare_set {gens : Array GenState} {g : Nat} {x : GenState} (h : AllBare gens) (hx : x.bare = true) : AllBare (gens.setIfInBounds g x) := by
  intro y hy
  obtain ⟨i, hi, rfl⟩ := Array.mem_iff_getElem.mp hy
  have hi' : i < gens.size := by simpa using hi
  rw [Array.getElem_setIfInBounds hi']
  split
  · exact hx
  · exact h _ (Array.getElem_mem (by simpa using hi))

section
variable {prog : Program} {w : World} {A : Around} {E : Value → Shared → Prop} {s : Shared} {h₀ : Heap} {a : Addr} {g : Nat} {N₁ Lg : Addr} {fx : List Addr} {tot : Nat} {P : Nat → Value → Heap → Prop} {i : Nat}

theorem old_set {h h' : Heap} (hn : ∀ b o, h₀.get? b = some o → b < N₁ ∧ b ≠ Lg) (x : Old h₀ h) (y : Spared N₁ Lg h h') : Old h₀ h' :=
  fun b o e => y b o (hn b o e).1 (hn b o e).2 (x b o e)

theorem gen_item {Q : Option Value → Shared → Prop} (hh : A.handled = none) (hl : h₀.NoLimit) (hroom : A.depth < recursionLimit) (hn : ∀ b o, h₀.get? b = some o → b < N₁ ∧ b ≠ Lg) (haN : a < N₁) (haL : a ≠ Lg) (hax : a ∈ fx)
    (hi : i < tot) (st : GenSt prog w A h₀ a g N₁ Lg fx tot P i s)
    (hQ : ∀ v s', P i v s'.heap → Same s s' → Spared N₁ Lg s.heap s'.heap → Old h₀ s'.heap →
      (∀ s'', s''.gens = s'.gens → Old h₀ s''.heap → Kept N₁ Lg fx s'.heap s''.heap → GenSt prog w A h₀ a g N₁ Lg fx tot P (i + 1) s'') → Q (some v) s') :
    wpAny (model prog w) A (pyNext (.ref a)) Q E s := by
  obtain ⟨hg, ho, gs, hgs, hgo⟩ := st
  refine next_gen hh (hl.keeps ho) hroom hg hgs (hgo _ rfl) (fun v s₁ gs' hb hv => ?_) (fun s₁ hp h' hk => ?_)
  · obtain ⟨_, hP, ⟨h₁, tk₁, rfl, hs⟩, hkap⟩ := hv
    have e : tot - 1 - (tot - i - 1) = i := by omega
    rw [e] at hP
    refine hQ v _ hP ⟨h₁, tk₁, _, rfl, fun b => bare_set (bare_set b rfl) hb⟩ hs (old_set hn ho hs) fun s'' hgg ho' hk => ?_
    have hg1 : Heap.IsGen h₁ a g := let ⟨o, nm, qn, hoa, r⟩ := hg; ⟨o, nm, qn, hs a o haN haL hoa, r⟩
    have hg' : s''.heap.IsGen a g := let ⟨o, nm, qn, hoa, r⟩ := hg1; ⟨o, nm, qn, hk a o (.inr (.inr hax)) hoa, r⟩
    refine ⟨hg', ho', gs', ?_, fun s3 hs3 => ?_⟩
    · rw [hgg]; exact setGen_self (gs := .running) (setGen_self hgs)
    · have e2 : tot - i = (tot - (i + 1)) + 1 := by omega
      rw [e2] at hkap
      exact hkap s3 (hs3 ▸ ho') (hs3 ▸ hk)
  · have := hp.1
    omega

theorem gen_done {Q : Option Value → Shared → Prop} (hh : A.handled = none) (hl : h₀.NoLimit) (hroom : A.depth < recursionLimit) (hn : ∀ b o, h₀.get? b = some o → b < N₁ ∧ b ≠ Lg)
    (st : GenSt prog w A h₀ a g N₁ Lg fx tot P tot s)
    (hQ : ∀ s', Same s s' → Spared N₁ Lg s.heap s'.heap → Old h₀ s'.heap → Q none s') :
    wpAny (model prog w) A (pyNext (.ref a)) Q E s := by
  obtain ⟨hg, ho, gs, hgs, hgo⟩ := st
  have e : tot - tot = 0 := by omega
  rw [e] at hgo
  refine next_gen hh (hl.keeps ho) hroom hg hgs (hgo _ rfl) (fun v s₁ gs' hb hv => ?_) (fun s₁ hp h' hk => ?_)
  · obtain ⟨_, hP, ⟨h₁, tk₁, rfl, hs⟩, hkap⟩ := hv
    have ho1 : Old h₀ h₁ := old_set hn ho hs
    exact (hkap { s with heap := h₁ } ho1 fun _ _ _ e => e).elim
  · obtain ⟨_, h₁, tk₁, rfl, hs⟩ := hp
    have hs' : Spared N₁ Lg s.heap h' := fun b o x y e => hk b o (hs b o x y e)
    exact hQ _ ⟨h', tk₁, _, rfl, fun b => bare_set (bare_set b rfl) rfl⟩ hs' (old_set hn ho hs')
end

/-- the objects that the sleeping generator leans on -/
noncomputable def gl (h₀ : Heap) (N₁ Lg : Addr) (fx : List Addr) (h : Heap) : List (Addr × Obj) := PyProof.Rows.ownOf h₀ ((List.range h.objs.size).filter fun b => decide (N₁ ≤ b) || decide (b = Lg) || decide (b ∈ fx)) h
theorem gl_mem {h₀ h : Heap} {N₁ Lg : Addr} {fx : List Addr} : ∀ p ∈ gl h₀ N₁ Lg fx h, N₁ ≤ p.1 ∨ p.1 = Lg ∨ p.1 ∈ fx := by
  intro p hp
  have := (List.mem_filter.mp (ownOf_sub p hp)).2
  simpa [Bool.or_eq_true, decide_eq_true_eq, or_assoc] using this
theorem gl_in {h₀ h : Heap} {N₁ Lg : Addr} {fx : List Addr} {b : Addr} {o : Obj} (hb : N₁ ≤ b ∨ b = Lg ∨ b ∈ fx) (hn : h₀.get? b = none) (ho : h.get? b = some o) : (b, o) ∈ gl h₀ N₁ Lg fx h :=
  mem_ownOf (List.mem_filter.mpr ⟨List.mem_range.mpr (Heap.lt_size ho), by simpa [Bool.or_eq_true, decide_eq_true_eq, or_assoc] using hb⟩) hn ho
theorem gl_news {h₀ h : Heap} {N₁ Lg L : Addr} {fx : List Addr} (hL : L < N₁ ∧ L ≠ Lg ∧ L ∉ fx) : News h₀ L h (gl h₀ N₁ Lg fx h) :=
  news_ownOf fun hm => by
    have := (List.mem_filter.mp hm).2
    simp only [Bool.or_eq_true, decide_eq_true_eq] at this
    rcases this with (x | x) | x
    · exact absurd hL.1 (Nat.not_lt.mpr x)
    · exact hL.2.1 x
    · exact hL.2.2 x
theorem gl_kept {h₀ h h' : Heap} {N₁ Lg L : Addr} {fx : List Addr} {n : List (Addr × Obj)} (ho : Old h₀ h) (ho' : Old h₀ h') (N : News h₀ L h' (n ++ gl h₀ N₁ Lg fx h)) : Kept N₁ Lg fx h h' := by
  intro b o hb e
  cases hn : h₀.get? b with
  | none => exact (N _ (List.mem_append_right _ (gl_in hb hn e))).1
  | some o₀ =>
    have := ho b o₀ hn
    rw [e] at this
    cases this
    exact ho' b o hn

section
variable {prog : Program} {w : World} {A : Around} {E : Value → Shared → Prop} {s : Shared} {env : Env} {h₀ : Heap} {target : Expr} {body : List Stmt} {Q : Flow → Shared → Prop}

/-- a turn's end -/
noncomputable def GTurn (h₀ : Heap) (L : Addr) (gl : List (Addr × Obj)) (J : (Str → Option Value) → List (Addr × Obj) → Prop) (Q : Flow → Shared → Prop) (s₁ : Shared) : Flow → Shared → Prop
  | .ret v, s₂ => Q (.ret v) s₂
  | .brk, _ => False
  | _, s₂ => ∃ h' tk m' n', s₂ = { s₁ with heap := h', toks := tk } ∧ Fr h₀ L h' m' ∧ News h₀ L h' (n' ++ gl) ∧ J m' n'
theorem GTurn.next {L : Addr} {gl : List (Addr × Obj)} {J : (Str → Option Value) → List (Addr × Obj) → Prop} {s₁ : Shared} {h' : Heap} {tk : Nat} {m' : Str → Option Value} {n' : List (Addr × Obj)}
    (F : Fr h₀ L h' m') (N : News h₀ L h' (n' ++ gl)) (j : J m' n') : GTurn h₀ L gl J Q s₁ .next { s₁ with heap := h', toks := tk } := ⟨h', tk, m', n', rfl, F, N, j⟩

/-- what a generator's loop starts from -/
noncomputable def GenLoop (prog : Program) (w : World) (A : Around) (h₀ : Heap) (env : Env) (target : Expr) (body : List Stmt) (Q : Flow → Shared → Prop) (xv : Value) (s₁ : Shared) : Prop :=
  ∃ (a : Addr) (g : Nat) (N₁ Lg : Addr) (fx : List Addr) (tot : Nat) (P : Nat → Value → Heap → Prop) (m : Str → Option Value) (news : List (Addr × Obj)) (J : Nat → (Str → Option Value) → List (Addr × Obj) → Prop),
      xv = .ref a ∧ (∀ b o, h₀.get? b = some o → b < N₁ ∧ b ≠ Lg) ∧ a < N₁ ∧ a ≠ Lg ∧ a ∈ fx ∧ (env.locals < N₁ ∧ env.locals ≠ Lg ∧ env.locals ∉ fx) ∧
      GenSt prog w A h₀ a g N₁ Lg fx tot P 0 s₁ ∧ Fr h₀ env.locals s₁.heap m ∧ News h₀ env.locals s₁.heap news ∧ J 0 m news ∧ (∀ i m n, J i m n → ∀ p ∈ n, p.1 < N₁ ∧ p.1 ≠ Lg) ∧
      (∀ i v m₁ n₁ gl s₂, i < tot → P i v s₂.heap → J i m₁ n₁ → (∀ p ∈ gl, N₁ ≤ p.1 ∨ p.1 = Lg ∨ p.1 ∈ fx) → (∀ b o, N₁ ≤ b → h₀.get? b = none → s₂.heap.get? b = some o → (b, o) ∈ gl) → Same s₁ s₂ → Fr h₀ env.locals s₂.heap m₁ → News h₀ env.locals s₂.heap (n₁ ++ gl) →
        wpAny (model prog w) A (assign target env v) (fun _ s₃ => wpAny (model prog w) A (execs body env) (GTurn h₀ env.locals gl (J (i + 1)) Q s₂) never s₃) never s₂) ∧
      ∀ m₁ n₁ s₂, J tot m₁ n₁ → Same s₁ s₂ → Fr h₀ env.locals s₂.heap m₁ → News h₀ env.locals s₂.heap n₁ → Q .next s₂
theorem GenLoop.intro {a : Addr} {g : Nat} {N₁ Lg : Addr} {fx : List Addr} {tot : Nat} {P : Nat → Value → Heap → Prop} {m : Str → Option Value} {news : List (Addr × Obj)} {s₁ : Shared} (J : Nat → (Str → Option Value) → List (Addr × Obj) → Prop)
    (hn : ∀ b o, h₀.get? b = some o → b < N₁ ∧ b ≠ Lg) (haN : a < N₁) (haL : a ≠ Lg) (hax : a ∈ fx) (hL1 : env.locals < N₁) (hL2 : env.locals ≠ Lg) (hL3 : env.locals ∉ fx)
    (st : GenSt prog w A h₀ a g N₁ Lg fx tot P 0 s₁) (F : Fr h₀ env.locals s₁.heap m) (N : News h₀ env.locals s₁.heap news) (j0 : J 0 m news) (hJ : ∀ i m n, J i m n → ∀ p ∈ n, p.1 < N₁ ∧ p.1 ≠ Lg)
    (turn : ∀ i v m₁ n₁ gl s₂, i < tot → P i v s₂.heap → J i m₁ n₁ → (∀ p ∈ gl, N₁ ≤ p.1 ∨ p.1 = Lg ∨ p.1 ∈ fx) → (∀ b o, N₁ ≤ b → h₀.get? b = none → s₂.heap.get? b = some o → (b, o) ∈ gl) → Same s₁ s₂ → Fr h₀ env.locals s₂.heap m₁ → News h₀ env.locals s₂.heap (n₁ ++ gl) →
        wpAny (model prog w) A (assign target env v) (fun _ s₃ => wpAny (model prog w) A (execs body env) (GTurn h₀ env.locals gl (J (i + 1)) Q s₂) never s₃) never s₂)
    (done : ∀ m₁ n₁ s₂, J tot m₁ n₁ → Same s₁ s₂ → Fr h₀ env.locals s₂.heap m₁ → News h₀ env.locals s₂.heap n₁ → Q .next s₂) : GenLoop prog w A h₀ env target body Q (.ref a) s₁ :=
  ⟨a, g, N₁, Lg, fx, tot, P, m, news, J, rfl, hn, haN, haL, hax, ⟨hL1, hL2, hL3⟩, st, F, N, j0, hJ, turn, done⟩

theorem GTurn.ret {L : Addr} {gl : List (Addr × Obj)} {J : (Str → Option Value) → List (Addr × Obj) → Prop} {s₁ s₂ : Shared} {v : Value} (h : Q (.ret v) s₂) : GTurn h₀ L gl J Q s₁ (.ret v) s₂ := h
theorem For_gen {iter : Expr} {pos : Pos} (hh : A.handled = none) (hl : h₀.NoLimit) (hroom : A.depth < recursionLimit)
    (h : wpAny (model prog w) A (eval iter env) (fun xv s₁ => GenLoop prog w A h₀ env target body Q xv s₁) never s)
    (hgo : ∀ a s Q E, (∃ g, s.heap.IsGen a g) → Q () s → ∀ v, wpAny (model prog w) A (letOwnedTupleGo target (.ref a) v) Q E s)
    (hs : ∀ x, foldedSetIterable iter env x = pure x := by intro _; rfl) :
    wpAny (model prog w) A (exec (.For target iter body [] pos) env) Q E s := by
  refine never_to (wpAny_For (wpAny_mono h (fun xv s₁ h₁ => ?_) fun _ _ e => e) hs)
  obtain ⟨a, g, N₁, Lg, fx, tot, P, m, news, J, rfl, hn, haN, haL, hax, hL, st, F, N, j0, hJ, turn, done⟩ := h₁
  refine wpAny_pyIter_gen st.1 ?_
  refine codeAny_forLoop_any (fun k s' => ∃ i m' n', GenSt prog w A h₀ a g N₁ Lg fx tot P i s' ∧ Same s₁ s' ∧ Fr h₀ env.locals s'.heap m' ∧ News h₀ env.locals s'.heap n' ∧ J i m' n' ∧ i ≤ tot ∧ k = tot + 1 - i) ?_ (tot + 1)
    ⟨0, m, news, st, .refl, F, N, j0, Nat.zero_le _, rfl⟩
  rintro k s' ⟨i, m', n', st', sm, F', N', j, hi, rfl⟩
  have next : ∀ h₁ : Heap, Spared N₁ Lg s'.heap h₁ → Old h₀ h₁ → Fr h₀ env.locals h₁ m' ∧ News h₀ env.locals h₁ n' := fun h₁ hk ho =>
    ⟨⟨F'.ns.at' fun o e => hk _ o hL.1 hL.2.1 e, ho, F'.above⟩, fun p hp => ⟨hk _ _ (hJ _ _ _ j p hp).1 (hJ _ _ _ j p hp).2 (N' p hp).1, (N' p hp).2⟩⟩
  by_cases hlt : i < tot
  · refine gen_item hh hl hroom hn haN haL hax hlt st' fun v s₂ hP sm₂ sp ho nx => ?_
    obtain ⟨F₂, N₂⟩ := next _ sp ho
    refine hgo a s₂ _ _ ⟨g, (nx s₂ rfl ho fun _ _ _ e => e).1⟩ ?_ v
    refine never_to (wpAny_mono (turn i v m' n' (gl h₀ N₁ Lg fx s₂.heap) s₂ hlt hP j gl_mem (fun b o hb hn ho => gl_in (.inl hb) hn ho) (sm.trans sm₂) F₂ (N₂.append (gl_news hL))) (fun _ s₃ h₃ => never_to (wpAny_mono h₃ (fun f s₄ h₄ => ?_) fun _ _ e => e)) fun _ _ e => e)
    cases f with
    | ret v => exact h₄
    | brk => exact h₄.elim
    | next =>
      obtain ⟨h', tk, m₂, n₂, rfl, F₃, N₃, j₃⟩ := h₄
      exact ⟨_, by omega, i + 1, m₂, n₂, nx _ rfl F₃.keep (gl_kept ho F₃.keep N₃), (sm.trans sm₂).set _ _, F₃, fun p hp => N₃ p (List.mem_append_left _ hp), j₃, hlt, rfl⟩
    | cont =>
      obtain ⟨h', tk, m₂, n₂, rfl, F₃, N₃, j₃⟩ := h₄
      exact ⟨_, by omega, i + 1, m₂, n₂, nx _ rfl F₃.keep (gl_kept ho F₃.keep N₃), (sm.trans sm₂).set _ _, F₃, fun p hp => N₃ p (List.mem_append_left _ hp), j₃, hlt, rfl⟩
  · have hin : i = tot := by omega
    subst hin
    refine gen_done hh hl hroom hn st' fun s₂ sm₂ sp ho => wpAny_execs_nil ?_
    obtain ⟨F₂, N₂⟩ := next _ sp ho
    exact done m' n' s₂ j (sm.trans sm₂) F₂ N₂

theorem letgo_gen {a g : Addr} {elts : List Expr} {k : Nat} {pos : Pos} {v : Value} {Q : Unit → Shared → Prop} (hg : s.heap.IsGen a g) (h : Q () s) : wpAny (model prog w) A (letOwnedTupleGo (.Tuple elts k pos) (.ref a) v) Q E s := by
  obtain ⟨⟨c, d, dt, sl⟩, nm, qn, ho, hc, hd, _⟩ := hg
  replace hc : c = .type "generator" := hc
  replace hd : dt = _ := hd
  subst hc hd
  unfold letOwnedTupleGo
  cases v with
  | ref t =>
    refine wpAny_bind (wpAny_load ho ?_)
    exact wpAny_pure h
  | _ => exact wpAny_pure h
theorem letgo_name {x : Str} {px : Pos} {it v : Value} {Q : Unit → Shared → Prop} (h : Q () s) : wpAny (model prog w) A (letOwnedTupleGo (.Name x px) it v) Q E s := wpAny_pure h
end

end
section
/-! the call of a generator function; its first wake -/
section
variable {prog : Program} {w : World} {A : Around} {s : Shared} {h₀ : Heap} {L : Addr} {m : Str → Option Value} {news : List (Addr × Obj)} {K : Frag} {E Q : Value → Shared → Prop}
  {name qual : Str} {params : Arguments} {body : List Stmt} {scope : Scope} {dV kV doc pm cdv ct oc : Value} {an od : Option Addr} {osl : Array (Option Value)} {f : Addr} {args : List Value} {binds : List (Str × Value)}

theorem gen_call (F : Fr h₀ L s.heap m) (N : News h₀ L s.heap news) (X : K.In h₀) (hlim : h₀.NoLimit) (hroom : A.depth < recursionLimit)
    (ho : K.lookup f = some ⟨oc, od, .func (fnOf name qual params body scope dV kV doc pm an cdv ct), osl⟩) (hcd : codeIn K cdv qual = true)
    (hbind : BindsTo s (fnOf name qual params body scope dV kV doc pm an cdv ct) ⟨args, []⟩ binds) (hloc : ∀ y ∈ binds, scope.names.lookup y.1 = some .local)
    (hcell : ∀ x ∈ scope.names, x.2 ≠ .cell) (hco : scope.isCoroutine = false) (hgen : scope.isGenerator = true) (hk : scope.kind = .function)
    (h : ∀ h₁ tk Lg, Lg = s.heap.objs.size → h₁.objs.size = Lg + 2 → h₁.Ns Lg (fun y => binds.reverse.lookup y) → h₁.IsGen (Lg + 1) s.gens.size → Old s.heap h₁ → Fr h₀ L h₁ m → News h₀ L h₁ news → L < Lg → (∀ p ∈ news, p.1 < Lg) → h₀.objs.size ≤ Lg →
      Q (.ref (Lg + 1)) { s with heap := h₁, toks := tk, gens := s.gens.push (.fresh (.func body (envOf qual scope Lg f cdv))) }) :
    wpAny (model prog w) A (call (.ref f) args) Q E s := by
  have X' := X.keeps F.keep
  have hL : L < s.heap.objs.size := F.ns.lt
  refine wpAny_call (codeAny_call_generator hroom (X' _ _ ho) rfl hco hgen rfl (codeRec_of X' hcd) (hbind _ _ _ _ ?_))
  refine wpAny_newFunctionEnv hcell hloc (fun h' hn hs => ?_) hk
  have hs' : Heap.SameBut s.heap.objs.size (s.heap.push { cls := .type "frame", data := .dict #[] }) h' := hs
  have hsz : h'.objs.size = s.heap.objs.size + 1 := by rw [hs'.1, Heap.size_push]
  have old : Old s.heap h' := fun b o e => hs'.extBut b o (Nat.ne_of_lt (Heap.lt_size e)) (Heap.get?_push_of_some _ e)
  refine ⟨(hlim.keeps F.keep).keeps old, ?_⟩
  have e1 : (Value.ref h'.objs.size) = .ref (s.heap.objs.size + 1) := by rw [hsz]
  show Q (.ref h'.objs.size) _
  rw [e1]
  refine h _ _ s.heap.objs.size rfl (by rw [Heap.size_push, hsz]) (hn.keeps fun _ _ e => Heap.get?_push_of_some _ e) ?_ (fun b o e => Heap.get?_push_of_some _ (old b o e)) ?_ ?_ hL (fun p hp => Heap.lt_size (N p hp).1) (Nat.le_trans F.above (Nat.le_of_lt hL))
  · rw [← hsz]
    exact ⟨_, _, _, Heap.get?_push_size _ rfl, rfl, rfl, rfl⟩
  · exact ⟨F.ns.keeps fun b o e => Heap.get?_push_of_some _ (old b o e), fun b o e => Heap.get?_push_of_some _ (old b o (F.keep b o e)), F.above⟩
  · exact fun p hp => ⟨Heap.get?_push_of_some _ (old _ _ (N p hp).1), (N p hp).2⟩
end

section
variable {prog : Program} {w : World} {A : Around} {h₀ : Heap} {a : Addr} {g : Nat} {N₁ Lg : Addr} {fx : List Addr} {tot : Nat} {P : Nat → Value → Heap → Prop} {s : Shared} {c : Code}
theorem gen_fresh (hg : s.heap.IsGen a g) (ho : Old h₀ s.heap) (hgs : s.gens[g]? = some (.fresh c))
    (h : ∀ s'', s''.heap = s.heap → Seg (model prog w) A.in1 (GR N₁ Lg) (GY h₀ N₁ Lg fx tot P) tot s'' c ((model prog w).den c) [] s'') : GenSt prog w A h₀ a g N₁ Lg fx tot P 0 s :=
  ⟨hg, ho, _, hgs, fun s'' e => ⟨rfl, h s'' e⟩⟩
end

theorem over_func (dp un gd cn cs L ca ccd cl outer b qual scope L' f cdv) : ((ktrTop dp un gd cn cs L ca ccd cl outer).in1.over (.func b (envOf qual scope L' f cdv)) []) = ktrTop (dp + 1) (un + 4) gd qual scope L' f cdv [] (envX cn cs L ca ccd cl :: outer) := rfl
theorem over_for {dp un gd cn cs L ca ccd cl outer b qual scope L' f cdv k g l p kp ta it bo e} : ((ktrTop dp un gd cn cs L ca ccd cl outer).in1.over (.forLoop ta it bo [] e) [.ret k none g l (.func b (envOf qual scope L' f cdv)) p kp]) = ktrTop (dp + 1) (un + 4) gd qual scope L' f cdv [] (envX cn cs L ca ccd cl :: outer) := rfl

end
section
/-! a for in a generator's body, of which each turn yields -/
section
variable {prog : Program} {w : World} {A : Around} {h₀ : Heap} {N₁ Lg : Addr} {fx : List Addr} {tot : Nat} {P : Nat → Value → Heap → Prop} {env : Env} {target : Expr} {body : List Stmt} {fs : List Frame}

noncomputable def Near (N₁ Lg : Addr) (s₀ s : Shared) : Prop := ∃ h tk, s = { s₀ with heap := h, toks := tk } ∧ Spared N₁ Lg s₀.heap h
theorem Near.refl {s : Shared} : Near N₁ Lg s s := ⟨_, _, rfl, .refl⟩
theorem Near.go {s₀ s : Shared} {h : Heap} {tk : Nat} (x : Near N₁ Lg s₀ s) (y : Spared N₁ Lg s.heap h) : Near N₁ Lg s₀ { s with heap := h, toks := tk } := by
  obtain ⟨h', tk', rfl, z⟩ := x
  exact ⟨_, _, rfl, z.trans y⟩

/-- everything but the frame -/
noncomputable def hold (h₀ : Heap) (L : Addr) (h : Heap) : List (Addr × Obj) := PyProof.Rows.ownOf h₀ ((List.range h.objs.size).filter fun b => decide (b ≠ L)) h
theorem hold_news {h : Heap} {L : Addr} : News h₀ L h (hold h₀ L h) := news_ownOf fun hm => by
  have := (List.mem_filter.mp hm).2
  simp at this
theorem hold_kept {h h' : Heap} {L : Addr} {n : List (Addr × Obj)} (ho : Old h₀ h) (ho' : Old h₀ h') (N : News h₀ L h' n) (hs : ∀ p ∈ hold h₀ L h, p ∈ n) : ∀ b o, b ≠ L → h.get? b = some o → h'.get? b = some o := by
  intro b o hb e
  cases hn : h₀.get? b with
  | none => exact (N _ (hs _ (mem_ownOf (List.mem_filter.mpr ⟨List.mem_range.mpr (Heap.lt_size e), by simpa using hb⟩) hn e))).1
  | some o₀ =>
    have := ho b o₀ hn
    rw [e] at this
    cases this
    exact ho' b o hn

theorem gen_for {I : Addr} {fp wr : List Addr} {n : Nat} {Pk Md : Nat → Value → Heap → Prop} {St : Nat → Heap → Prop}
    (W : KTurns prog w (A.over (.forLoop target (.ref I) body [] env) fs) target I fp wr n Pk Md St)
    (hn : ∀ b o, h₀.get? b = some o → b < N₁ ∧ b ≠ Lg) (hLN : Lg < N₁) (hwr : ∀ b ∈ wr, N₁ ≤ b) (hfp : ∀ b ∈ fp, b ≠ Lg ∧ (N₁ ≤ b ∨ b ∈ fx))
    (J : Nat → (Str → Option Value) → Prop)
    (turn : ∀ i v m s₀ s, i < n → Pk i v s.heap → J i m → Fr h₀ Lg s.heap m → Near N₁ Lg s₀ s →
      (∀ s₀' s' m', Fr h₀ Lg s'.heap m' → J (i + 1) m' → Near N₁ Lg s₀' s' → (∀ b o, b ≠ Lg → (N₁ ≤ b ∨ b ∈ fx) → s.heap.get? b = some o → s'.heap.get? b = some o) →
        Seg (model prog w) A (GR N₁ Lg) (GY h₀ N₁ Lg fx tot P) (n - (i + 1)) s₀' (.forLoop target (.ref I) body [] env) ((model prog w).den (.forLoop target (.ref I) body [] env)) fs s') →
      wpAny (model prog w) (A.over (.forLoop target (.ref I) body [] env) fs) (assign target env v) (fun _ s₂ =>
        Seg (model prog w) A (GR N₁ Lg) (GY h₀ N₁ Lg fx tot P) (n - i) s₀ (.forLoop target (.ref I) body [] env) ((execs body env).wrap (forK target (.ref I) body [] env) (noteH env) id id) fs s₂) never s)
    (done : ∀ m s₀ s, J n m → Fr h₀ Lg s.heap m → Near N₁ Lg s₀ s → Seg (model prog w) A (GR N₁ Lg) (GY h₀ N₁ Lg fx tot P) 0 s₀ (.block [] env) (leafOf (.ok .next)) fs s) :
    ∀ k i m s₀ s, k + i = n → J i m → Fr h₀ Lg s.heap m → St i s.heap → Near N₁ Lg s₀ s →
      Seg (model prog w) A (GR N₁ Lg) (GY h₀ N₁ Lg fx tot P) (n - i) s₀ (.forLoop target (.ref I) body [] env) ((model prog w).den (.forLoop target (.ref I) body [] env)) fs s := by
  have next : ∀ {h h' : Heap} {m : Str → Option Value}, Fr h₀ Lg h m → (∀ b o, b ∉ wr → h.get? b = some o → h'.get? b = some o) → Fr h₀ Lg h' m ∧ Spared N₁ Lg h h' := fun {h h' m} F hk =>
    ⟨⟨F.ns.at' fun o e => hk _ o (fun q => Nat.lt_irrefl _ (Nat.lt_of_lt_of_le hLN (hwr _ q))) e, fun b o e => hk b o (fun q => Nat.lt_irrefl _ (Nat.lt_of_lt_of_le (hn b o e).1 (hwr _ q))) (F.keep b o e), F.above⟩,
     fun b o hb _ e => hk b o (fun q => Nat.lt_irrefl _ (Nat.lt_of_lt_of_le hb (hwr _ q))) e⟩
  intro k
  induction k with
  | zero =>
    intro i m s₀ s e j F st nr
    have e' : i = n := by omega
    subst e'
    refine seg_forLoop (W.done s _ _ st fun h' tk hk => ?_)
    obtain ⟨F', sp⟩ := next F hk
    rw [Nat.sub_self]
    exact seg_block_nil (done m s₀ _ j F' (nr.go sp))
  | succ k ih =>
    intro i m s₀ s e j F st nr
    have hi : i < n := by omega
    refine seg_forLoop (W.item i s _ _ hi st fun v h₁ tk₁ hm hk₁ => ?_)
    obtain ⟨F₁, sp₁⟩ := next F hk₁
    refine W.go i v _ _ _ hm fun h₂ hP st₂ hk₂ => ?_
    obtain ⟨F₂, sp₂⟩ := next F₁ hk₂
    refine turn i v m s₀ _ hi hP j F₂ ((nr.go sp₁).go (s := { s with heap := h₁, toks := tk₁ }) (tk := tk₁) sp₂) fun s₀' s' m' F' j' nr' kp => ih (i + 1) m' s₀' s' (by omega) j' F' (W.frame _ _ _ st₂ fun b hb o eo => kp b o (hfp b hb).1 (hfp b hb).2 eo) nr'
end

section
variable {prog : Program} {w : World} {A : Around} {h₀ : Heap} {s : Shared} {env : Env} {E : Value → Shared → Prop}
theorem asg_pair {x₁ x₂ : Str} {p₁ p₂ pt : Pos} {k : Nat} {T : Addr} {v₁ v₂ : Value} {m : Str → Option Value} {news : List (Addr × Obj)} {Q : Unit → Shared → Prop} (hh : A.handled = none)
    (hx₁ : env.kindOf x₁ = some .local) (hx₂ : env.kindOf x₂ = some .local) (hp : (env.scope.kind == .class || (env.scope.kind == .module && env.locals != env.globals)) = false)
    (hT : s.heap.IsTuple T #[v₁, v₂]) (F : Fr h₀ env.locals s.heap m) (N : News h₀ env.locals s.heap news)
    (h : ∀ h' tk, Fr h₀ env.locals h' (fun y => if y = x₂ then some v₂ else if y = x₁ then some v₁ else m y) → News h₀ env.locals h' news → (∀ b o, b ≠ env.locals → s.heap.get? b = some o → h'.get? b = some o) → Q () { s with heap := h', toks := tk }) :
    wpAny (model prog w) A (assign (.Tuple [.Name x₁ p₁, .Name x₂ p₂] k pt) env (.ref T)) Q E s := by
  refine wpAny_assign_Tuple hh hT rfl rfl fun h₃ hx₃ => ?_
  have kp : ∀ b o, s.heap.get? b = some o → h₃.get? b = some o := fun b o e => hx₃ b o (Nat.ne_of_lt (Heap.lt_size e)) e
  have F₃ : Fr h₀ env.locals h₃ m := ⟨F.ns.keeps kp, fun b o e => kp b o (F.keep b o e), F.above⟩
  have N₃ : News h₀ env.locals h₃ news := fun p q => ⟨kp _ _ (N p q).1, (N p q).2⟩
  show wpAny _ A (do holding [v₂] (assign (.Name x₁ p₁) env v₁); do holding [] (assign (.Name x₂ p₂) env v₂); pure ()) _ _ _
  refine wpAny_bind (wpAny_holding (wpAny_assign_Name (wpAny_storeName_local hx₁ F₃.ns (fun h₄ hn₄ hs₄ => ?_) hp)))
  refine wpAny_bind (wpAny_holding (wpAny_assign_Name (wpAny_storeName_local hx₂ hn₄ (fun h₅ hn₅ hs₅ => wpAny_pure ?_) hp)))
  have F₄ := F₃.set hn₄ hs₄
  exact h h₅ _ (F₄.set hn₅ hs₅) ((N₃.set hs₄).set hs₅) fun b o hb e => hs₅.extBut b o hb (hs₄.extBut b o hb (kp b o e))

noncomputable def PI (x : Str) (i : Nat) (v : Value) (h : Heap) : Prop := ∃ T tt u c, v = .ref T ∧ x.cps[i]? = some c ∧ h.IsTuple T #[.int i tt, .str ⟨#[c]⟩ u]
theorem enumW {x : Str} {t : Tok} {it e : Addr} {h₂ : Heap} {elts : List Expr} {k : Nat} {pos : Pos} (hh : A.handled = none) (hI : h₂.IsStrIter it (strIterType x) x t 0) (hE : IsEnum h₂ e it 0 .none) (hei : e ≠ it) :
    ∃ (P Md : Nat → Value → Heap → Prop) (St : Nat → Heap → Prop), KTurns prog w A (.Tuple elts k pos) e [e, it] [e, it] x.cps.size P Md St ∧ St 0 h₂ ∧ ∀ i v h, P i v h → PI x i v h := by
  have fin : ∀ (St : Nat → Heap → Prop), Draws prog w A.in1 it [it] x.cps.size (fun i v => ∃ c u, x.cps[i]? = some c ∧ v = .str ⟨#[c]⟩ u) St → St 0 h₂ →
      ∃ (P Md : Nat → Value → Heap → Prop) (St : Nat → Heap → Prop), KTurns prog w A (.Tuple elts k pos) e [e, it] [e, it] x.cps.size P Md St ∧ St 0 h₂ ∧ ∀ i v h, P i v h → PI x i v h := by
    intro St D st
    refine ⟨_, _, _, KTurns.ofWalksU (WalksT.enumerateD D e hei (by simpa using hei) (by simp)).toU, ⟨⟨_, hE⟩, st⟩, ?_⟩
    rintro i v h ⟨T, vals, rfl, ⟨tt, y, ⟨c, u, hc, rfl⟩, rfl⟩, hT⟩
    exact ⟨T, tt, u, c, rfl, hc, hT⟩
  cases ha : x.cps.all (· < 128)
  · exact fin _ (Draws.strWide (A := A.in1) hh it x t) (by simpa [strIterType, ha] using hI)
  · exact fin _ (Draws.strAscii (A := A.in1) hh it x t) (by simpa [strIterType, ha] using hI)
end

end
section
structure WsStop (P : Prop) : Prop where
  at_ : P
theorem WsStop.intro {P : Prop} (h : WsStop P) : P := h.at_
theorem sign_ne {c : Nat} (h : c ≠ 92) : (({ cps := #[c] } : Str) == Str.ofString "\\") = false := by
  rw [beq_eq_false_iff_ne]
  intro e
  have : (#[c] : Array Nat) = (Str.ofString "\\").cps := congrArg Str.cps e
  have e2 : (Str.ofString "\\").cps = #[92] := by decide +kernel
  rw [e2] at this
  simp at this
  exact h this
theorem iter_spec {w : World} {mg mb : Str → Option Value} {loose : List Str} {mean : ExcName → Option Value} {dp un : Nat} {gd : Option (List Code)} {cn : Str} {cs : Scope} {ca : Addr} {ccd : Value} {cl : List (Str × Addr)} {outer : List Env} {A₀ : Around} {base h₀ : Heap} {L : Addr} {m : Str → Option Value} {news : List (Addr × Obj)} {s : Shared} {Q E : Value → Shared → Prop} {x : Str} {t : Tok} :
    (Mine.hd.heap_39 w.params).In h₀ → Below A₀ base outer h₀ → Fr h₀ L s.heap m → Top Mine.hd.view_39 loose mean mg mb h₀ → cs.kind = .function → News h₀ L s.heap news → (∀ c ∈ x.cps, c ≠ 92) → dp + 20 < recursionLimit → un + 200 < cLine →
    (∀ a N₁ Lg h' tk' gg, Fr h₀ L h' m → News h₀ L h' news → GenSt PySem.Challenge.rw_wu0047_01.row.prog w (ktrTop dp un gd cn cs L ca ccd cl outer) h₀ a s.gens.size N₁ Lg [a] x.cps.size (PI x) 0 { s with heap := h', toks := tk', gens := gg } →
      (AllBare s.gens → AllBare gg) → (∀ b o, h₀.get? b = some o → b < N₁ ∧ b ≠ Lg) → L < Lg → Lg < a → a < N₁ → (∀ p ∈ news, p.1 < Lg) → Q (.ref a) { s with heap := h', toks := tk', gens := gg }) →
    wpAny (model PySem.Challenge.rw_wu0047_01.row.prog w) (ktrTop dp un gd cn cs L ca ccd cl outer) (call (.ref 74) [.str x t]) Q E s := by
  k_fill
  intro X B F T hk N hx hd hu hret
  refine gen_call F N X T.nolimit ?r (f := 74) rfl ?cd (by first | exact BindsTo.of_eq rfl | exact binds_K (by k_in) rfl (by k_is) rfl rfl rfl) ?lo ?hc ?co ?gn ?kk ?_
  case r => exact Nat.lt_of_le_of_lt (Nat.le_add_right _ _) hd
  case cd => k_is
  case lo => exact locs rfl
  case hc => decide
  case co => exact rfl
  case gn => exact rfl
  case kk => exact rfl
  intro h₁ tk Lg eL hsz hns hg hol F' N' hLL hnL hhL
  refine hret _ (Lg + 2) Lg _ _ _ F' N' ?gs (fun b => AllBare.push b rfl) (fun b o e => have q : b < Lg := Nat.lt_of_lt_of_le (Heap.lt_size e) hhL; ⟨Nat.lt_of_lt_of_le q (Nat.le_add_right _ 2), Nat.ne_of_lt q⟩) hLL (Nat.lt_succ_self _) (Nat.lt_succ_self _) hnL
  refine gen_fresh hg F'.keep (Array.getElem?_push_size ..) ?_
  intro s2 es
  obtain ⟨hp2, g2, d2, tk2, os2⟩ := s2
  dsimp only at es
  have es' := es.symm
  subst es'
  have FL : Fr h₀ Lg h₁ _ := ⟨hns, F'.keep, hhL⟩
  have NL : News h₀ Lg h₁ (hold h₀ Lg h₁) := hold_news
  have hlk : ∀ h', Old h₀ h' → News h₀ Lg h' (hold h₀ Lg h₁) → ∀ b o, b ≠ Lg → h₁.get? b = some o → h'.get? b = some o := fun h' o' N' => hold_kept F'.keep o' N' fun _ q => q
  have hgo : ∃ o, h₁.get? (Lg + 1) = some o := let ⟨o, _, _, q, _⟩ := hg; ⟨o, q⟩
  generalize hold h₀ Lg h₁ = hl at NL hlk
  refine seg_func (seg_plain ?_)
  rw [over_func]
  clear B
  clear hret F' N' hol hns hg
  w_top off
  k_with_none
  k_with "enter" => first
    | (refine' code_def (by k_asm) (by k_asm) (by k_asm) (by k_asm) (by k_asm) rfl rfl (by assumption) (by k_is) (by k_is) (by ktr_room) (by first | exact BindsTo.of_eq rfl | exact binds_K (by k_in) rfl (by k_is) rfl rfl rfl | exact kp_binds (by k_in) (fun _ => rfl)) (by exact locs rfl) ?_ (by exact rfl) (by exact rfl) (by exact rfl) (by decide); k_whole; intro _ _ _ _ _ _ _ _ _; (try dsimp only); (try k_fold))
    | (refine' code_defC (by k_asm) (by k_asm) (by k_asm) (by k_asm) (by k_asm) rfl rfl (by assumption) (by k_is) (by k_is) (by ktr_room) (by first | exact BindsTo.of_eq rfl | exact binds_K (by k_in) rfl (by k_is) rfl rfl rfl | fail "k_enter: no rule for these arguments") (by exact rfl) (by decide +kernel) ?_ (by exact rfl) (by exact rfl) (by exact rfl); k_whole; intro _ _ _ _ _ _ _ N' Y' _ _ _ _; k_cells Y'; (try simp only [List.cons_append, List.nil_append] at N'); (try dsimp only); (try k_fold))
  k_with "room" => first | k_dflt (exact Mine.room1 (by assumption) rfl) | k_dflt (exact Mine.room0 (by assumption) rfl) | k_dflt (exact Mine.room2 (by assumption))
  k_with "units" => first | k_dflt (exact Mine.unit1 (by assumption) rfl) | k_dflt (exact Mine.unit0 (by assumption) rfl)
  k_with "all" => first | assumption | exact Mine.lt_all_ne (by assumption) | (refine' List.forall_mem_cons.mpr ⟨?ka1, ?ka2⟩; (case ka1 => k_ne); (case ka2 => k_all))
  k_with "pyIter ref" => k_extra "my iter"
  k_with "UnrEnd" => k_extra "my end"
  k_with "call builtin:list.append" => k_extra "my append"
  k_with "exec While Compare cons nil" => k_extra "my while"
  k_with "lt" => first | assumption | (rename _ ∧ _ => hcN; first | exact hcN.1 | exact hcN.2.1 | exact hcN.2.2.1 | exact hcN.2.2.2.1 | exact hcN.2.2.2.2.1 | exact hcN.2.2.2.2.2.1 | exact hcN.2.2.2.2.2.2.1 | exact hcN.2.2.2.2.2.2.2.1 | exact hcN.2.2.2.2.2.2.2.2.1 | exact hcN.2.2.2.2.2.2.2.2.2.1 | exact hcN.2.2.2.2.2.2.2.2.2.2.1 | exact hcN.2.2.2.2.2.2.2.2.2.2.2.1 | exact hcN.2 | exact hcN.2.2 | exact hcN.2.2.2 | exact hcN.2.2.2.2 | exact hcN.2.2.2.2.2 | exact hcN.2.2.2.2.2.2 | (clear hcN; k_extra "lt"))
  k_with "ne" => with_reducible first | assumption | (refine Nat.ne_of_lt ?_; k_extra "lt") | (refine Nat.ne_of_gt ?_; k_extra "lt")
  k_with "call type:enumerate" => k_extra "my enum"
  k_with "my enum" => 
      refine call_enumerate_str fun h2 hE hI hsz2 hk2 => ?_
      refine wpAny_pyIter_enum hE ?_
      refine WsStop.intro ?_
  k_steps
  refine seg_plain ?_
  rw [over_func]
  k_steps
  refine seg_execs_cons (seg_For ?_)
  rw [over_func]
  k_steps
  refine WsStop.mk ?_
  intro p g' l' hg'
  replace hg' : g' = false := hg'
  subst hg'
  rename Fr h₀ Lg _ _ => lF
  rename News h₀ Lg _ _ => lN
  have kp := hlk _ lF.keep lN
  obtain ⟨og, hog⟩ := hgo
  have hbig : Lg + 1 < (_ : Heap).objs.size := Heap.lt_size (kp _ _ (Nat.succ_ne_self _) hog)
  have F2 : Fr h₀ Lg h2 _ := ⟨lF.ns.keeps hk2, fun b o e => hk2 b o (lF.keep b o e), lF.above⟩
  obtain ⟨P, Md, St, W, st, hP⟩ := enumW (prog := PySem.Challenge.rw_wu0047_01.row.prog) (w := w) (A := ktrTop (dp + 1) (un + 4) gd _ _ Lg 74 _ [] (envX cn cs L ca ccd cl :: outer)) rfl hI hE (Nat.succ_ne_self _)
  refine gen_for (n := x.cps.size) ((over_for (dp := dp) (un := un)).symm ▸ W) ?hn ?hLN ?hwr ?hfp (fun i m => m (Str.ofString "escape") = some (.bool false)) ?turn ?done x.cps.size 0 _ _ _ rfl ?j0 F2 st ?near
  case hn => exact fun b o e => have q : b < Lg := Nat.lt_of_lt_of_le (Heap.lt_size e) hhL; ⟨Nat.lt_of_lt_of_le q (Nat.le_add_right _ 2), Nat.ne_of_lt q⟩
  case hLN => exact Nat.lt_of_lt_of_le (Nat.lt_succ_self _) (Nat.le_add_right _ 1)
  case j0 => exact rfl
  case hwr =>
    intro b hb
    rcases List.mem_cons.mp hb with rfl | hb
    · exact Nat.le_trans hbig (Nat.le_add_right _ 1)
    · cases List.mem_singleton.mp hb
      exact hbig
  case hfp =>
    intro b hb
    have q : Lg + 2 ≤ b := by
      rcases List.mem_cons.mp hb with rfl | hb
      · exact Nat.le_trans hbig (Nat.le_add_right _ 1)
      · cases List.mem_singleton.mp hb
        exact hbig
    exact ⟨Nat.ne_of_gt (Nat.lt_of_lt_of_le (Nat.lt_succ_of_lt (Nat.lt_succ_self _)) q), .inl q⟩
  case near => exact ⟨_, _, rfl, fun b o _ hb e => hk2 b o (kp b o hb e)⟩
  case done =>
    intro m' s₀ s' j F' nr
    refine seg_leaf (.ok .next) ?_
    dsimp only [Sem.onRaise, Sem.wrap]
    have j' : m' = fun y => if y = Str.ofString "escape" then some (.bool false) else m' y := by
      funext y
      by_cases h : y = Str.ofString "escape"
      · rw [if_pos h, h]; exact j
      · rw [if_neg h]
    replace F' := fr_eq F' j'
    have N3 : News h₀ Lg s'.heap (hold h₀ Lg s'.heap) := hold_news
    have hlk' : ∀ h', Old h₀ h' → News h₀ Lg h' (hold h₀ Lg s'.heap) → ∀ b o, b ≠ Lg → s'.heap.get? b = some o → h'.get? b = some o := fun h' o' N' => hold_kept F'.keep o' N' fun _ q => q
    generalize hold h₀ Lg s'.heap = hl' at N3 hlk'
    obtain ⟨hp5, g5, d5, tk5, os5⟩ := s'
    clear lF lN F2 hlk
    refine seg_execs_cons (seg_If ?_)
    rw [over_func]
    k_steps
    exact seg_execs_nil (seg_execs_nil (seg_end (.ok (.ret .none)) ⟨rfl, rfl, nr⟩))
  case turn =>
    intro i v m' s₀ s' hi hPv j F' nr ih
    obtain ⟨T', tt, u, c, rfl, hc, hT⟩ := hP i v _ hPv
    have j' : m' = fun y => if y = Str.ofString "escape" then some (.bool false) else m' y := by
      funext y
      by_cases h : y = Str.ofString "escape"
      · rw [if_pos h, h]; exact j
      · rw [if_neg h]
    replace F' := fr_eq F' j'
    refine asg_pair (by rfl) (by rfl) (by rfl) (by rfl) hT F' hold_news fun h3 tk3 F3 N3 k3 => ?_
    clear lF lN F2 hlk
    refine seg_execs_cons (seg_If ?_)
    rw [over_for]
    k_steps
    refine seg_execs_cons (seg_If ?_)
    rw [over_for]
    k_steps
    have hcm : c ∈ x.cps := Array.mem_of_getElem? hc
    have hne : (({ cps := #[c] } : Str) == Str.ofString "\\") = false := sign_ne (hx c hcm)
    rw [hne, if_neg Bool.false_ne_true]
    have ei : x.cps.size - i = (x.cps.size - (i + 1)) + 1 := by omega
    rw [ei]
    refine seg_execs_cons (seg_Expr_Yield rfl rfl rfl ?_)
    rw [over_for]
    k_steps
    rename Fr h₀ Lg _ (fun y => if y = Str.ofString "ch" then _ else _) => F4
    rename News h₀ Lg _ (_ :: _) => N4
    rename_i kap hkap
    have kk := hold_kept F'.keep F4.keep N4 fun _ q => List.mem_cons_of_mem _ q
    refine ⟨by omega, ?_, nr.go fun b o _ hb e => kk b o hb e, fun s5 o5 k5 => ?_⟩
    · have ej : x.cps.size - 1 - (x.cps.size - (i + 1)) = i := by omega
      rw [ej]
      exact ⟨_, _, _, c, rfl, hc, ⟨_, N4.get (.head _), rfl, _, rfl⟩⟩
    · refine hkap .none s5 (seg_turn (ih s5 s5 _ ⟨F4.ns.at' fun o e => k5 Lg o (.inr (.inl rfl)) e, o5, F4.above⟩ ?_ .refl fun b o hb hb' e => k5 b o (hb'.elim .inl fun q => .inr (.inr q)) (kk b o hb e)))
      with_unfolding_all exact rfl

end
section
theorem no_quote {x : Str} (hx : ∀ c ∈ x.cps, c ≠ 34) : (Builtin.Str.occurrences x (Str.ofString "\"") 0 x.length 1).isEmpty = true := by
  have e : Str.ofString "\"" = ⟨#[34]⟩ := by decide +kernel
  have h := StrLaws.found_one x 34
  rw [← e] at h
  have h2 : decide (34 ∈ x.cps.toList) = false := by
    rw [decide_eq_false_iff_not]
    intro q
    exact hx 34 (Array.mem_toList_iff.mp q) rfl
  rw [h2] at h
  revert h
  cases (Builtin.Str.occurrences x (Str.ofString "\"") 0 x.length 1).isEmpty <;> simp
theorem strip_spec {w : World} {mg mb : Str → Option Value} {loose : List Str} {mean : ExcName → Option Value} {dp un : Nat} {gd : Option (List Code)} {cn : Str} {cs : Scope} {ca : Addr} {ccd : Value} {cl : List (Str × Addr)} {outer : List Env} {A₀ : Around} {base h₀ : Heap} {L : Addr} {m : Str → Option Value} {news : List (Addr × Obj)} {s : Shared} {Q E : Value → Shared → Prop} {x : Str} {t : Tok} :
    (Mine.hd.heap_39 w.params).In h₀ → Below A₀ base outer h₀ → Fr h₀ L s.heap m → Top Mine.hd.view_39 loose mean mg mb h₀ → cs.kind = .function → News h₀ L s.heap news → (∀ c ∈ x.cps, c ≠ 34) → dp + 10 < recursionLimit → un + 100 < cLine →
    (∀ h' tk' t', Fr h₀ L h' m → News h₀ L h' news → Q (.str x t') { s with heap := h', toks := tk' }) →
    wpAny (model PySem.Challenge.rw_wu0047_01.row.prog w) (ktrTop dp un gd cn cs L ca ccd cl outer) (call (.ref 81) [.str x t]) Q E s := by
  k_fill
  w_top off
  k_with_none
  k_with "enter" => first
    | (refine' code_def (by k_asm) (by k_asm) (by k_asm) (by k_asm) (by k_asm) rfl rfl (by assumption) (by k_is) (by k_is) (by ktr_room) (by first | exact BindsTo.of_eq rfl | exact binds_K (by k_in) rfl (by k_is) rfl rfl rfl | exact kp_binds (by k_in) (fun _ => rfl)) (by exact locs rfl) ?_ (by exact rfl) (by exact rfl) (by exact rfl) (by decide); k_whole; intro _ _ _ _ _ _ _ _ _; (try dsimp only); (try k_fold))
    | (refine' code_defC (by k_asm) (by k_asm) (by k_asm) (by k_asm) (by k_asm) rfl rfl (by assumption) (by k_is) (by k_is) (by ktr_room) (by first | exact BindsTo.of_eq rfl | exact binds_K (by k_in) rfl (by k_is) rfl rfl rfl | fail "k_enter: no rule for these arguments") (by exact rfl) (by decide +kernel) ?_ (by exact rfl) (by exact rfl) (by exact rfl); k_whole; intro _ _ _ _ _ _ _ N' Y' _ _ _ _; k_cells Y'; (try simp only [List.cons_append, List.nil_append] at N'); (try dsimp only); (try k_fold))
  k_with "room" => first | k_dflt (exact Mine.room1 (by assumption) rfl) | k_dflt (exact Mine.room0 (by assumption) rfl) | k_dflt (exact Mine.room2 (by assumption))
  k_with "units" => first | k_dflt (exact Mine.unit1 (by assumption) rfl) | k_dflt (exact Mine.unit0 (by assumption) rfl)
  k_with "all" => first | assumption | exact Mine.lt_all_ne (by assumption) | (refine' List.forall_mem_cons.mpr ⟨?ka1, ?ka2⟩; (case ka1 => k_ne); (case ka2 => k_all))
  k_with "pyIter ref" => k_extra "my iter"
  k_with "UnrEnd" => k_extra "my end"
  k_with "call builtin:list.append" => k_extra "my append"
  k_with "exec While Compare cons nil" => k_extra "my while"
  k_with "lt" => first | assumption | (rename _ ∧ _ => hcN; first | exact hcN.1 | exact hcN.2.1 | exact hcN.2.2.1 | exact hcN.2.2.2.1 | exact hcN.2.2.2.2.1 | exact hcN.2.2.2.2.2.1 | exact hcN.2.2.2.2.2.2.1 | exact hcN.2.2.2.2.2.2.2.1 | exact hcN.2.2.2.2.2.2.2.2.1 | exact hcN.2.2.2.2.2.2.2.2.2.1 | exact hcN.2.2.2.2.2.2.2.2.2.2.1 | exact hcN.2.2.2.2.2.2.2.2.2.2.2.1 | exact hcN.2 | exact hcN.2.2 | exact hcN.2.2.2 | exact hcN.2.2.2.2 | exact hcN.2.2.2.2.2 | exact hcN.2.2.2.2.2.2 | (clear hcN; k_extra "lt"))
  k_with "ne" => with_reducible first | assumption | (refine Nat.ne_of_lt ?_; k_extra "lt") | (refine Nat.ne_of_gt ?_; k_extra "lt")
  intro X B F T hk N hx hd hu hret
  refine wpAny_call ?_
  k_dflt ktr_enter
  k_steps
  · exact hret _ _ _ (by assumption) (by assumption)
  · rename (Builtin.Str.occurrences _ _ _ _ _).isEmpty = false => hno
    rw [no_quote hx] at hno
    cases hno

end
section
noncomputable def parenGo : List Nat → Int → Bool
  | [], o => o == 0
  | c :: r, o => if c = 40 then parenGo r (o + 1) else if c = 41 then (if o - 1 < 0 then false else parenGo r (o - 1)) else parenGo r o
noncomputable def parenP (x : Str) : Bool := parenGo x.cps.toList 0
noncomputable def JChk (x : Str) (m₀ : Str → Option Value) (news₀ : List (Addr × Obj)) (i : Nat) (m' : Str → Option Value) (n' : List (Addr × Obj)) : Prop :=
  ∃ o t, (∀ z, z ≠ Str.ofString "opens" → z ≠ Str.ofString "pos" → z ≠ Str.ofString "ch" → m' z = m₀ z) ∧ m' (Str.ofString "opens") = some (.int o t) ∧ n' = news₀ ∧ parenP x = parenGo (x.cps.toList.drop i) o
theorem JChk.start {x : Str} {m₀ : Str → Option Value} {news₀ : List (Addr × Obj)} {t : Tok} (h : m₀ (Str.ofString "opens") = some (.int 0 t)) : JChk x m₀ news₀ 0 m₀ news₀ := ⟨0, t, fun _ _ _ _ => rfl, h, rfl, rfl⟩
theorem map_chk {m' m₀ : Str → Option Value} {a b c : Str} {u v w : Option Value} (hz : ∀ z, z ≠ c → z ≠ b → z ≠ a → m' z = m₀ z) (ho : m' c = w) :
    (fun y => if y = a then u else if y = b then v else m' y) = fun y => if y = a then u else if y = b then v else if y = c then w else m₀ y := by
  funext y
  by_cases h1 : y = a
  · rw [if_pos h1, if_pos h1]
  · by_cases h2 : y = b
    · rw [if_neg h1, if_neg h1, if_pos h2, if_pos h2]
    · by_cases h3 : y = c
      · rw [if_neg h1, if_neg h1, if_neg h2, if_neg h2, if_pos h3, h3, ho]
      · rw [if_neg h1, if_neg h1, if_neg h2, if_neg h2, if_neg h3, hz y h3 h2 h1]
theorem par_step {x : Str} {i c : Nat} (hc : x.cps[i]? = some c) (o : Int) :
    parenGo (x.cps.toList.drop i) o = if c = 40 then parenGo (x.cps.toList.drop (i + 1)) (o + 1) else if c = 41 then (if o - 1 < 0 then false else parenGo (x.cps.toList.drop (i + 1)) (o - 1)) else parenGo (x.cps.toList.drop (i + 1)) o := by
  have h : x.cps.toList[i]? = some c := by simpa using hc
  have hlt : i < x.cps.toList.length := (List.getElem?_eq_some_iff.mp h).1
  have e : x.cps.toList[i] = c := (List.getElem?_eq_some_iff.mp h).2
  rw [List.drop_eq_getElem_cons hlt, e]; rfl
theorem sign_is {c k : Nat} {y : String} (hy : Str.ofString y = ⟨#[k]⟩) : ((({ cps := #[c] } : Str) == Str.ofString y) = true → c = k) ∧ ((({ cps := #[c] } : Str) == Str.ofString y) = false → c ≠ k) := by
  rw [hy]
  refine ⟨fun h => ?_, fun h => ?_⟩
  · have := eq_of_beq h
    injection this with this
    simpa using this
  · rw [beq_eq_false_iff_ne] at h
    intro e
    exact h (by rw [e])
theorem sign_open : Str.ofString "(" = ⟨#[40]⟩ := by decide +kernel
theorem sign_close : Str.ofString ")" = ⟨#[41]⟩ := by decide +kernel
theorem JChk.open {x : Str} {m₀ m' : Str → Option Value} {news₀ : List (Addr × Obj)} {i c : Nat} {o : Int} {t : Tok} (hz : ∀ z, z ≠ Str.ofString "opens" → z ≠ Str.ofString "pos" → z ≠ Str.ofString "ch" → m' z = m₀ z) (hm : m' (Str.ofString "opens") = some (.int (o + 1) t))
    (hc : x.cps[i]? = some c) (he : parenP x = parenGo (x.cps.toList.drop i) o) (h1 : (({ cps := #[c] } : Str) == Str.ofString "(") = true) : JChk x m₀ news₀ (i + 1) m' news₀ :=
  ⟨o + 1, t, hz, hm, rfl, by rw [he, par_step hc, if_pos ((sign_is sign_open).1 h1)]⟩
theorem JChk.close {x : Str} {m₀ m' : Str → Option Value} {news₀ : List (Addr × Obj)} {i c : Nat} {o : Int} {t : Tok} (hz : ∀ z, z ≠ Str.ofString "opens" → z ≠ Str.ofString "pos" → z ≠ Str.ofString "ch" → m' z = m₀ z) (hm : m' (Str.ofString "opens") = some (.int (o - 1) t))
    (hc : x.cps[i]? = some c) (he : parenP x = parenGo (x.cps.toList.drop i) o) (h1 : (({ cps := #[c] } : Str) == Str.ofString "(") = false) (h2 : (({ cps := #[c] } : Str) == Str.ofString ")") = true) (h3 : ¬ o - 1 < 0) : JChk x m₀ news₀ (i + 1) m' news₀ :=
  ⟨o - 1, t, hz, hm, rfl, by rw [he, par_step hc, if_neg ((sign_is sign_open).2 h1), if_pos ((sign_is sign_close).1 h2), if_neg h3]⟩
theorem JChk.other {x : Str} {m₀ m' : Str → Option Value} {news₀ : List (Addr × Obj)} {i c : Nat} {o : Int} {t : Tok} (hz : ∀ z, z ≠ Str.ofString "opens" → z ≠ Str.ofString "pos" → z ≠ Str.ofString "ch" → m' z = m₀ z) (hm : m' (Str.ofString "opens") = some (.int o t))
    (hc : x.cps[i]? = some c) (he : parenP x = parenGo (x.cps.toList.drop i) o) (h1 : (({ cps := #[c] } : Str) == Str.ofString "(") = false) (h2 : (({ cps := #[c] } : Str) == Str.ofString ")") = false) : JChk x m₀ news₀ (i + 1) m' news₀ :=
  ⟨o, t, hz, hm, rfl, by rw [he, par_step hc, if_neg ((sign_is sign_open).2 h1), if_neg ((sign_is sign_close).2 h2)]⟩
theorem par_false {x : Str} {i c : Nat} {o : Int} (hc : x.cps[i]? = some c) (he : parenP x = parenGo (x.cps.toList.drop i) o) (h1 : (({ cps := #[c] } : Str) == Str.ofString "(") = false) (h2 : (({ cps := #[c] } : Str) == Str.ofString ")") = true) (h3 : o - 1 < 0) : parenP x = false := by
  rw [he, par_step hc, if_neg ((sign_is sign_open).2 h1), if_pos ((sign_is sign_close).1 h2), if_pos h3]
theorem map_chk2 {m' m₀ : Str → Option Value} {a b c : Str} {w : Option Value} (hz : ∀ z, z ≠ c → z ≠ b → z ≠ a → m' z = m₀ z) (ho : m' c = w) :
    m' = fun y => if y = c then w else if y = b then m' y else if y = a then m' y else m₀ y := by
  funext y
  by_cases h3 : y = c
  · rw [if_pos h3, h3, ho]
  · by_cases h2 : y = b
    · rw [if_neg h3, if_pos h2]
    · by_cases h1 : y = a
      · rw [if_neg h3, if_neg h2, if_pos h1]
      · rw [if_neg h3, if_neg h2, if_neg h1, hz y h3 h2 h1]
theorem par_end {x : Str} {o : Int} (he : parenP x = parenGo (x.cps.toList.drop x.cps.size) o) : parenP x = (o == 0) := by
  rw [he, List.drop_of_length_le (by simp)]; rfl
theorem check_spec {w : World} {mg mb : Str → Option Value} {loose : List Str} {mean : ExcName → Option Value} {dp un : Nat} {gd : Option (List Code)} {cn : Str} {cs : Scope} {ca : Addr} {ccd : Value} {cl : List (Str × Addr)} {outer : List Env} {A₀ : Around} {base h₀ : Heap} {L : Addr} {m : Str → Option Value} {news : List (Addr × Obj)} {s : Shared} {Q E : Value → Shared → Prop} {x : Str} {t : Tok} :
    (Mine.hd.heap_39 w.params).In h₀ → Below A₀ base outer h₀ → Fr h₀ L s.heap m → Top Mine.hd.view_39 loose mean mg mb h₀ → cs.kind = .function → News h₀ L s.heap news → (∀ c ∈ x.cps, c ≠ 34) → (∀ c ∈ x.cps, c ≠ 92) → dp + 30 < recursionLimit → un + 300 < cLine →
    (∀ h' tk' gg, Fr h₀ L h' m → News h₀ L h' news → (AllBare s.gens → AllBare gg) → Q (.bool (parenP x)) { s with heap := h', toks := tk', gens := gg }) →
    wpAny (model PySem.Challenge.rw_wu0047_01.row.prog w) (ktrTop dp un gd cn cs L ca ccd cl outer) (call (.ref 88) [.str x t]) Q E s := by
  k_fill
  intro X B F T hk N hq hb hd hu hret
  w_top off
  k_with_none
  k_with "enter" => first
    | (refine' code_def (by k_asm) (by k_asm) (by k_asm) (by k_asm) (by k_asm) rfl rfl (by assumption) (by k_is) (by k_is) (by ktr_room) (by first | exact BindsTo.of_eq rfl | exact binds_K (by k_in) rfl (by k_is) rfl rfl rfl | exact kp_binds (by k_in) (fun _ => rfl)) (by exact locs rfl) ?_ (by exact rfl) (by exact rfl) (by exact rfl) (by decide); k_whole; intro _ _ _ _ _ _ _ _ _; (try dsimp only); (try k_fold))
    | (refine' code_defC (by k_asm) (by k_asm) (by k_asm) (by k_asm) (by k_asm) rfl rfl (by assumption) (by k_is) (by k_is) (by ktr_room) (by first | exact BindsTo.of_eq rfl | exact binds_K (by k_in) rfl (by k_is) rfl rfl rfl | fail "k_enter: no rule for these arguments") (by exact rfl) (by decide +kernel) ?_ (by exact rfl) (by exact rfl) (by exact rfl); k_whole; intro _ _ _ _ _ _ _ N' Y' _ _ _ _; k_cells Y'; (try simp only [List.cons_append, List.nil_append] at N'); (try dsimp only); (try k_fold))
  k_with "room" => first | k_dflt (exact Mine.room1 (by assumption) rfl) | k_dflt (exact Mine.room0 (by assumption) rfl) | k_dflt (exact Mine.room2 (by assumption))
  k_with "units" => first | k_dflt (exact Mine.unit1 (by assumption) rfl) | k_dflt (exact Mine.unit0 (by assumption) rfl)
  k_with "all" => first | assumption | exact Mine.lt_all_ne (by assumption) | (refine' List.forall_mem_cons.mpr ⟨?ka1, ?ka2⟩; (case ka1 => k_ne); (case ka2 => k_all))
  k_with "pyIter ref" => k_extra "my iter"
  k_with "UnrEnd" => k_extra "my end"
  k_with "call builtin:list.append" => k_extra "my append"
  k_with "exec While Compare cons nil" => k_extra "my while"
  k_with "lt" => first | assumption | (rename _ ∧ _ => hcN; first | exact hcN.1 | exact hcN.2.1 | exact hcN.2.2.1 | exact hcN.2.2.2.1 | exact hcN.2.2.2.2.1 | exact hcN.2.2.2.2.2.1 | exact hcN.2.2.2.2.2.2.1 | exact hcN.2.2.2.2.2.2.2.1 | exact hcN.2.2.2.2.2.2.2.2.1 | exact hcN.2.2.2.2.2.2.2.2.2.1 | exact hcN.2.2.2.2.2.2.2.2.2.2.1 | exact hcN.2.2.2.2.2.2.2.2.2.2.2.1 | exact hcN.2 | exact hcN.2.2 | exact hcN.2.2.2 | exact hcN.2.2.2.2 | exact hcN.2.2.2.2.2 | exact hcN.2.2.2.2.2.2 | (clear hcN; k_extra "lt"))
  k_with "ne" => with_reducible first | assumption | (refine Nat.ne_of_lt ?_; k_extra "lt") | (refine Nat.ne_of_gt ?_; k_extra "lt")
  k_with "call ref" => (k_here; (with_reducible show wpAny _ _ (call (Value.ref 81) _) _ _ _); k_dflt (refine' strip_spec (by k_asm) (by k_asm) (by k_asm) (by k_asm) (by first | exact rfl | assumption) (by k_asm) (by assumption) (by ktr_room) (by ktr_units) ?_; k_whole; intro _ _ _ _ _; (try k_sweep); (try dsimp only); (try k_fold)))
  k_with "call ref" => (k_here; (with_reducible show wpAny _ _ (call (Value.ref 74) _) _ _ _); k_dflt (refine' iter_spec (by k_asm) (by k_asm) (by k_asm) (by k_asm) (by first | exact rfl | assumption) (by k_asm) (by assumption) (by ktr_room) (by ktr_units) ?_; k_whole; intro _ _ _ _ _ _ _ _ _ _ _ _ _ _ _; (try dsimp only)))
  k_with "exec For Tuple Call cons nil" => k_extra "my for"
  k_with "my for" => 
      rename Fr _ _ _ _ => lF
      rename Top _ _ _ _ _ _ => lT
      with_unfolding_all refine' For_gen ?hh (Top.nolimit lT) ?hr ?_ ?hgo
      case hh => with_unfolding_all exact rfl
      case hr => ktr_room
      case hgo => with_unfolding_all exact fun a s Q E hg hq v => let ⟨g, hg⟩ := hg; letgo_gen hg hq
  refine wpAny_call ?_
  k_dflt ktr_enter
  k_steps
  rename_i ga gN gL h5 tk5 gg F5 N5 gS gB gh g1 g2 g3 g4
  have e0 : ∀ {p q r : Addr}, p < q → q < r → p < r := Nat.lt_trans
  with_unfolding_all refine' GenLoop.intro (fx := [ga]) (JChk x ?m0 news) gh g3 (Nat.ne_of_gt g2) (.head _) (e0 g1 (e0 g2 g3)) (Nat.ne_of_lt g1) ?hL3 gS F5 N5 ?j0 ?hJ ?turn ?done
  case hL3 => exact fun q => Nat.ne_of_lt (e0 g1 g2) (List.mem_singleton.mp q)
  case j0 =>
    with_unfolding_all refine' JChk.start ?h1
    case h1 => with_unfolding_all exact rfl
  case hJ =>
    intro i m' n' hJ p hp
    unfold JChk at hJ
    obtain ⟨o, t', hz, ho, rfl, he⟩ := hJ
    exact ⟨e0 (g4 p hp) (e0 g2 g3), Nat.ne_of_lt (g4 p hp)⟩
  case turn =>
    intro i v m' n' gl s5 hi hP hJ hgl hgl2 sm F' N'
    unfold JChk at hJ
    obtain ⟨o, t', hz, ho, rfl, he⟩ := hJ
    obtain ⟨T', tt, u, c, rfl, hc, hT⟩ := hP
    obtain ⟨h6, tk6, gg6, rfl, hb6⟩ := sm
    with_unfolding_all refine' asg_pair ?a ?b ?c' ?d hT F' N' ?_
    case a => with_unfolding_all exact rfl
    case b => with_unfolding_all exact rfl
    case c' => with_unfolding_all exact rfl
    case d => with_unfolding_all exact rfl
    intro h7 tk7 F7 N7 k7
    replace F7 := fr_eq F7 (map_chk hz ho)
    clear F' lF k7 N'
    k_steps
    · refine' GTurn.next (by assumption) (by assumption) (JChk.open ?z ?h1 hc he (by assumption))
      case h1 => with_unfolding_all exact rfl
      case z => intro z a1 a2 a3; simp only [if_neg a1, if_neg a2, if_neg a3]
    · dsimp only
      refine GTurn.ret ?_
      dsimp only
      k_steps
      rw [← par_false hc he (by assumption) (by assumption) (by assumption)]
      rename News h₀ L _ (_ ++ _) => kN
      exact hret _ _ _ (by assumption) (fun p hp => kN p (List.mem_append_left _ hp)) fun b => hb6 (gB b)
    · refine' GTurn.next (by assumption) (by assumption) (JChk.close ?z ?h1 hc he (by assumption) (by assumption) (by assumption))
      case h1 => with_unfolding_all exact rfl
      case z => intro z a1 a2 a3; simp only [if_neg a1, if_neg a2, if_neg a3]
    · refine' GTurn.next (by assumption) (by assumption) (JChk.other ?z ?h1 hc he (by assumption) (by assumption))
      case h1 => with_unfolding_all exact rfl
      case z => intro z a1 a2 a3; simp only [if_neg a1, if_neg a2, if_neg a3]
  case done =>
    intro m' n' s5 hJ sm F' N'
    unfold JChk at hJ
    obtain ⟨o, t', hz, ho, rfl, he⟩ := hJ
    obtain ⟨h6, tk6, gg6, rfl, hb6⟩ := sm
    replace F' := fr_eq F' (map_chk2 hz ho)
    dsimp only
    clear lF
    k_steps
    rw [← par_end he]
    exact hret _ _ _ (by assumption) (by assumption) fun b => hb6 (gB b)

end
section
/-! a for over a list of the ledger, of which the turns may make generators -/
section
variable {prog : Program} {w : World} {A : Around} {E : Value → Shared → Prop} {s : Shared} {env : Env} {h₀ : Heap} {x : Str} {body : List Stmt} {Q : Flow → Shared → Prop}

noncomputable def STurn (h₀ : Heap) (L I : Addr) (it : Obj) (J : (Str → Option Value) → List (Addr × Obj) → Prop) (Q : Flow → Shared → Prop) (s₁ : Shared) : Flow → Shared → Prop
  | .ret v, s₂ => Q (.ret v) s₂
  | .brk, _ => False
  | _, s₂ => ∃ m' n', Same s₁ s₂ ∧ Fr h₀ L s₂.heap m' ∧ News h₀ L s₂.heap ((I, it) :: n') ∧ (∀ p ∈ n', p.1 ≠ I) ∧ J m' n'
theorem STurn.next {L I : Addr} {it : Obj} {J : (Str → Option Value) → List (Addr × Obj) → Prop} {s₁ s₂ : Shared} {m' : Str → Option Value} {n' : List (Addr × Obj)}
    (S : Same s₁ s₂) (F : Fr h₀ L s₂.heap m') (N : News h₀ L s₂.heap ((I, it) :: n')) (o : ∀ p ∈ n', p.1 ≠ I) (j : J m' n') : STurn h₀ L I it J Q s₁ .next s₂ := ⟨m', n', S, F, N, o, j⟩
theorem STurn.ret {L I : Addr} {it : Obj} {J : (Str → Option Value) → List (Addr × Obj) → Prop} {s₁ s₂ : Shared} {v : Value} (h : Q (.ret v) s₂) : STurn h₀ L I it J Q s₁ (.ret v) s₂ := h

noncomputable def ListLoop (prog : Program) (w : World) (A : Around) (h₀ : Heap) (env : Env) (x : Str) (body : List Stmt) (Q : Flow → Shared → Prop) (xv : Value) (s₁ : Shared) : Prop :=
  ∃ (ax : Addr) (vs : List Value) (n : Nat) (m : Str → Option Value) (news : List (Addr × Obj)) (J : Nat → (Str → Option Value) → List (Addr × Obj) → Prop),
    xv = .ref ax ∧ Fr h₀ env.locals s₁.heap m ∧ News h₀ env.locals s₁.heap news ∧ (ax, listOf vs.toArray n) ∈ news ∧ J 0 m news ∧ (∀ i m n', J i m n' → (ax, listOf vs.toArray n) ∈ n') ∧
    (∀ i v I it m₁ n₁ s₂, vs[i]? = some v → J i m₁ n₁ → (∀ p ∈ n₁, p.1 ≠ I) → (∀ p ∈ news, p.1 < I) → Same s₁ s₂ → Fr h₀ env.locals s₂.heap (fun y => if y = x then some v else m₁ y) → News h₀ env.locals s₂.heap ((I, it) :: n₁) →
      wpAny (model prog w) A (execs body env) (STurn h₀ env.locals I it (J (i + 1)) Q s₁) never s₂) ∧
    (∀ m₁ n₁ s₂, J vs.length m₁ n₁ → Same s₁ s₂ → Fr h₀ env.locals s₂.heap m₁ → News h₀ env.locals s₂.heap n₁ → Q .next s₂)
theorem ListLoop.intro {ax : Addr} {vs : List Value} {n : Nat} {m : Str → Option Value} {news : List (Addr × Obj)} {s₁ : Shared} (J : Nat → (Str → Option Value) → List (Addr × Obj) → Prop)
    (F : Fr h₀ env.locals s₁.heap m) (N : News h₀ env.locals s₁.heap news) (hm : (ax, listOf vs.toArray n) ∈ news) (j0 : J 0 m news) (keep : ∀ i m n', J i m n' → (ax, listOf vs.toArray n) ∈ n')
    (turn : ∀ i v I it m₁ n₁ s₂, vs[i]? = some v → J i m₁ n₁ → (∀ p ∈ n₁, p.1 ≠ I) → (∀ p ∈ news, p.1 < I) → Same s₁ s₂ → Fr h₀ env.locals s₂.heap (fun y => if y = x then some v else m₁ y) → News h₀ env.locals s₂.heap ((I, it) :: n₁) →
      wpAny (model prog w) A (execs body env) (STurn h₀ env.locals I it (J (i + 1)) Q s₁) never s₂)
    (done : ∀ m₁ n₁ s₂, J vs.length m₁ n₁ → Same s₁ s₂ → Fr h₀ env.locals s₂.heap m₁ → News h₀ env.locals s₂.heap n₁ → Q .next s₂) : ListLoop prog w A h₀ env x body Q (.ref ax) s₁ :=
  ⟨ax, vs, n, m, news, J, rfl, F, N, hm, j0, keep, turn, done⟩

theorem For_listS {iter : Expr} {px pos : Pos} {m₀ : Str → Option Value} (_F : Fr h₀ env.locals s.heap m₀) (hh : A.handled = none) (hx : env.kindOf x = some .local)
    (hp : (env.scope.kind == .class || (env.scope.kind == .module && env.locals != env.globals)) = false)
    (h : wpAny (model prog w) A (eval iter env) (fun xv s₁ => ListLoop prog w A h₀ env x body Q xv s₁) never s)
    (hs : ∀ x, foldedSetIterable iter env x = pure x := by intro _; rfl) :
    wpAny (model prog w) A (exec (.For (.Name x px) iter body [] pos) env) Q E s := by
  refine never_to (wpAny_For (wpAny_mono h (fun xv s₁ h₁ => ?_) fun _ _ e => e) hs)
  obtain ⟨ax, vs, n, m, news, J, rfl, F, N, hm, j0, keep, turn, done⟩ := h₁
  have lst : ∀ {hp : Heap}, hp.get? ax = some (listOf vs.toArray n) → hp.IsList ax vs.toArray := fun e => ⟨_, e, rfl, _, rfl⟩
  refine wpAny_pyIter_list (lst (N _ hm).1) ?_
  have hax : ax < s₁.heap.objs.size := Heap.lt_size (N _ hm).1
  have hIL : s₁.heap.objs.size ≠ env.locals := Nat.ne_of_gt F.ns.lt
  have hIn : ∀ p ∈ news, p.1 < s₁.heap.objs.size := fun p q => Heap.lt_size (N p q).1
  have hI0 : h₀.get? s₁.heap.objs.size = none := Heap.get?_none_of_le (Nat.le_trans F.above (Nat.le_of_lt F.ns.lt))
  have W := Walks.list (prog := prog) (w := w) (A := A) hh s₁.heap.objs.size ax (Nat.ne_of_lt hax) vs.toArray
  generalize hI : s₁.heap.objs.size = I at hax hIL hIn hI0 W
  refine codeAny_forLoop (fun k s' => ∃ i m' n', s'.heap.IsListIter I ax i ∧ Same s₁ s' ∧ Fr h₀ env.locals s'.heap m' ∧ News h₀ env.locals s'.heap n' ∧ (∀ p ∈ n', p.1 ≠ I) ∧ J i m' n' ∧ i ≤ vs.length ∧ k = vs.length + 1 - i) ?_ (vs.length + 1)
    ⟨0, m, news, ?_, ⟨_, _, _, rfl, id⟩, F.push _, fun p q => ⟨Heap.get?_push_of_some _ (N p q).1, (N p q).2⟩, fun p q => Nat.ne_of_lt (hIn p q), j0, Nat.zero_le _, rfl⟩
  · rintro k s' ⟨i, m', n', hit, sm, F', N', ho', j, hi, rfl⟩
    have st := (⟨hit, lst (N' _ (keep _ _ _ j)).1⟩ : s'.heap.IsListIter I ax i ∧ s'.heap.IsList ax vs.toArray)
    have next : ∀ h₁ : Heap, (∀ b o, b ∉ [I] → s'.heap.get? b = some o → h₁.get? b = some o) → Fr h₀ env.locals h₁ m' ∧ News h₀ env.locals h₁ n' := fun h₁ hk =>
      ⟨⟨F'.ns.at' fun o e => hk _ o (fun q => hIL (List.mem_singleton.mp q).symm) e, fun b o e => hk b o (fun q => by rw [List.mem_singleton.mp q, hI0] at e; cases e) (F'.keep b o e), F'.above⟩,
        fun p q => ⟨hk _ _ (fun z => ho' p q (List.mem_singleton.mp z)) (N' p q).1, (N' p q).2⟩⟩
    by_cases hlt : i < vs.length
    · refine W.item i _ _ _ (by simpa using hlt) st fun v h₁ tk hv st₁ hk => ?_
      obtain ⟨F₁, N₁⟩ := next h₁ hk
      obtain ⟨⟨oi, hoi, hic⟩, _⟩ := id st₁
      have NI : News h₀ env.locals h₁ ((I, oi) :: n') := fun p q => by
        rcases List.mem_cons.mp q with rfl | q
        · exact ⟨hoi, hIL, hI0⟩
        · exact N₁ p q
      refine wpAny_assign_Name (wpAny_storeName_local hx F₁.ns (fun h₂ hn₂ hs₂ => ?_) hp)
      refine never_to (wpAny_mono (turn i v I oi m' n' _ (by simpa using hv) j ho' hIn ((sm.set h₁ tk).set h₂ _) (F₁.set hn₂ hs₂) (NI.set hs₂)) (fun f s₃ h₃ => ?_) fun _ _ e => e)
      cases f with
      | ret v => exact h₃
      | brk => exact h₃.elim
      | next =>
        obtain ⟨m₂, n₂, S₃, F₃, N₃, o₃, j₃⟩ := h₃
        exact ⟨_, by omega, i + 1, m₂, n₂, ⟨oi, (N₃ _ (.head _)).1, hic⟩, S₃, F₃, fun p q => N₃ p (.tail _ q), o₃, j₃, hlt, rfl⟩
      | cont =>
        obtain ⟨m₂, n₂, S₃, F₃, N₃, o₃, j₃⟩ := h₃
        exact ⟨_, by omega, i + 1, m₂, n₂, ⟨oi, (N₃ _ (.head _)).1, hic⟩, S₃, F₃, fun p q => N₃ p (.tail _ q), o₃, j₃, hlt, rfl⟩
    · have hin : i = vs.length := by omega
      subst hin
      refine W.done _ _ _ (by simpa using st) fun h₁ tk hk => wpAny_execs_nil ?_
      obtain ⟨F₁, N₁⟩ := next h₁ hk
      exact done m' n' _ j (sm.set h₁ tk) F₁ N₁
  · subst hI
    exact ⟨_, Heap.get?_push_size _ rfl, rfl, rfl⟩
end

end
section
noncomputable def validP (xs : List Str) : List Str := xs.map fun x => if parenP x then x else Str.ofString "('', '')"
theorem strs_at {vs : List Value} {ns : List Str} (h : StrsAre vs ns) : ∀ {i : Nat} {v : Value}, vs[i]? = some v → ∃ n t, v = .str n t ∧ ns[i]? = some n := by
  induction h with
  | nil => intro i v e; simp at e
  | cons n t _ ih => intro i v e; cases i with
    | zero => exact ⟨n, t, by simpa using e.symm, rfl⟩
    | succ i => exact ih (by simpa using e)
noncomputable def JVal (xs : List Str) (r : Addr) (m₀ : Str → Option Value) (news₀ : List (Addr × Obj)) (i : Nat) (m' : Str → Option Value) (n' : List (Addr × Obj)) : Prop :=
  ∃ vg k, (∀ z, z ≠ Str.ofString "v" → m' z = m₀ z) ∧ n' = (r, listOf (List.toArray vg) k) :: news₀ ∧ StrsAre vg (validP (xs.take i)) ∧ vg.length ≤ i
theorem JVal.start {xs : List Str} {r : Addr} {m₀ : Str → Option Value} {news₀ : List (Addr × Obj)} {k : Nat} : JVal xs r m₀ news₀ 0 m₀ ((r, listOf #[] k) :: news₀) := ⟨[], k, fun _ _ => rfl, rfl, .nil, Nat.le_refl _⟩
theorem valid_next {xs : List Str} {i : Nat} {x : Str} (h : xs[i]? = some x) : validP (xs.take (i + 1)) = validP (xs.take i) ++ [if parenP x then x else Str.ofString "('', '')"] := by
  unfold validP
  rw [List.take_add_one, h, List.map_append]; rfl
theorem JVal.yes {xs : List Str} {i : Nat} {x : Str} {r : Addr} {m₀ m' : Str → Option Value} {news₀ : List (Addr × Obj)} {k : Nat} {vg : List Value} {t : Tok} (h : xs[i]? = some x) (hz : ∀ z, z ≠ Str.ofString "v" → m' z = m₀ z)
    (hs : StrsAre vg (validP (xs.take i))) (hl : vg.length ≤ i) (ha : parenP x = true) : JVal xs r m₀ news₀ (i + 1) m' ((r, listOf ((List.toArray vg).push (.str x t)) k) :: news₀) :=
  ⟨vg ++ [.str x t], k, hz, by simp only [List.push_toArray], by rw [valid_next h, ha]; exact strs_push hs, by simp; omega⟩
theorem JVal.no {xs : List Str} {i : Nat} {x : Str} {r : Addr} {m₀ m' : Str → Option Value} {news₀ : List (Addr × Obj)} {k : Nat} {vg : List Value} {t : Tok} (h : xs[i]? = some x) (hz : ∀ z, z ≠ Str.ofString "v" → m' z = m₀ z)
    (hs : StrsAre vg (validP (xs.take i))) (hl : vg.length ≤ i) (ha : parenP x = false) : JVal xs r m₀ news₀ (i + 1) m' ((r, listOf ((List.toArray vg).push (.str (Str.ofString "('', '')") t)) k) :: news₀) :=
  ⟨vg ++ [.str (Str.ofString "('', '')") t], k, hz, by simp only [List.push_toArray], by rw [valid_next h, ha]; exact strs_push hs, by simp; omega⟩
theorem parse_spec {w : World} {mg mb : Str → Option Value} {loose : List Str} {mean : ExcName → Option Value} {dp un : Nat} {gd : Option (List Code)} {cn : Str} {cs : Scope} {ca : Addr} {ccd : Value} {cl : List (Str × Addr)} {outer : List Env} {A₀ : Around} {base h₀ : Heap} {L : Addr} {m : Str → Option Value} {news : List (Addr × Obj)} {s : Shared} {Q E : Value → Shared → Prop} {l : Addr} {n : Nat} {vs : List Value} {xs : List Str} :
    (Mine.hd.heap_39 w.params).In h₀ → Below A₀ base outer h₀ → Fr h₀ L s.heap m → Top Mine.hd.view_39 loose mean mg mb h₀ → cs.kind = .function → News h₀ L s.heap news → (l, listOf vs.toArray n) ∈ news → StrsAre vs xs → (∀ x ∈ xs, ∀ c ∈ x.cps, c ≠ 34 ∧ c ≠ 92) → xs.length ≤ 1000 → dp + 40 < recursionLimit → un + 400 < cLine →
    (∀ r vs' n' h' tk' gg, Fr h₀ L h' m → News h₀ L h' ((r, listOf (List.toArray vs') n') :: news) → (∀ p ∈ news, p.1 < r) → StrsAre vs' (validP xs) → (AllBare s.gens → AllBare gg) → Q (.ref r) { s with heap := h', toks := tk', gens := gg }) →
    wpAny (model PySem.Challenge.rw_wu0047_01.row.prog w) (ktrTop dp un gd cn cs L ca ccd cl outer) (call (.ref 95) [.ref l]) Q E s := by
  k_fill
  intro X B F T hk N hm hi hc hl hd hu hret
  replace N := led_front N hm
  w_top off
  k_with_none
  k_with "enter" => first
    | (refine' code_def (by k_asm) (by k_asm) (by k_asm) (by k_asm) (by k_asm) rfl rfl (by assumption) (by k_is) (by k_is) (by ktr_room) (by first | exact BindsTo.of_eq rfl | exact binds_K (by k_in) rfl (by k_is) rfl rfl rfl | exact kp_binds (by k_in) (fun _ => rfl)) (by exact locs rfl) ?_ (by exact rfl) (by exact rfl) (by exact rfl) (by decide); k_whole; intro _ _ _ _ _ _ _ _ _; (try dsimp only); (try k_fold))
    | (refine' code_defC (by k_asm) (by k_asm) (by k_asm) (by k_asm) (by k_asm) rfl rfl (by assumption) (by k_is) (by k_is) (by ktr_room) (by first | exact BindsTo.of_eq rfl | exact binds_K (by k_in) rfl (by k_is) rfl rfl rfl | fail "k_enter: no rule for these arguments") (by exact rfl) (by decide +kernel) ?_ (by exact rfl) (by exact rfl) (by exact rfl); k_whole; intro _ _ _ _ _ _ _ N' Y' _ _ _ _; k_cells Y'; (try simp only [List.cons_append, List.nil_append] at N'); (try dsimp only); (try k_fold))
  k_with "room" => first | k_dflt (exact Mine.room1 (by assumption) rfl) | k_dflt (exact Mine.room0 (by assumption) rfl) | k_dflt (exact Mine.room2 (by assumption))
  k_with "units" => first | k_dflt (exact Mine.unit1 (by assumption) rfl) | k_dflt (exact Mine.unit0 (by assumption) rfl)
  k_with "all" => first | assumption | exact Mine.lt_all_ne (by assumption) | (refine' List.forall_mem_cons.mpr ⟨?ka1, ?ka2⟩; (case ka1 => k_ne); (case ka2 => k_all))
  k_with "pyIter ref" => k_extra "my iter"
  k_with "UnrEnd" => k_extra "my end"
  k_with "call builtin:list.append" => k_extra "my append"
  k_with "exec While Compare cons nil" => k_extra "my while"
  k_with "lt" => first | assumption | (rename _ ∧ _ => hcN; first | exact hcN.1 | exact hcN.2.1 | exact hcN.2.2.1 | exact hcN.2.2.2.1 | exact hcN.2.2.2.2.1 | exact hcN.2.2.2.2.2.1 | exact hcN.2.2.2.2.2.2.1 | exact hcN.2.2.2.2.2.2.2.1 | exact hcN.2.2.2.2.2.2.2.2.1 | exact hcN.2.2.2.2.2.2.2.2.2.1 | exact hcN.2.2.2.2.2.2.2.2.2.2.1 | exact hcN.2.2.2.2.2.2.2.2.2.2.2.1 | exact hcN.2 | exact hcN.2.2 | exact hcN.2.2.2 | exact hcN.2.2.2.2 | exact hcN.2.2.2.2.2 | exact hcN.2.2.2.2.2.2 | (clear hcN; k_extra "lt"))
  k_with "ne" => with_reducible first | assumption | (refine Nat.ne_of_lt ?_; k_extra "lt") | (refine Nat.ne_of_gt ?_; k_extra "lt")
  k_with "call ref" => (k_here; (with_reducible show wpAny _ _ (call (Value.ref 88) _) _ _ _); k_dflt (refine' check_spec (by k_asm) (by k_asm) (by k_asm) (by k_asm) (by first | exact rfl | assumption) (by k_asm) (by assumption) (by assumption) (by ktr_room) (by ktr_units) ?_; k_whole; intro _ _ _ _ _ _; (try k_sweep); (try dsimp only); (try k_fold)))
  k_with "exec For Name Name cons nil" => k_extra "my for"
  k_with "my for" => 
      rename Fr _ _ _ _ => lF
      with_unfolding_all refine' For_listS lF ?hh ?k1 ?k2 ?_
      case hh => with_unfolding_all exact rfl
      case k1 => with_unfolding_all exact rfl
      case k2 => with_unfolding_all exact rfl
  refine wpAny_call ?_
  k_dflt ktr_enter
  k_steps
  rename Fr _ _ _ _ => lF
  rename News _ _ _ (_ :: _ :: _) => lN
  rename _ ∧ AllLt _ _ => lA
  have lA' := allLt_all lA.2
  with_unfolding_all refine' ListLoop.intro (n := n) (vs := vs) (JVal xs _ ?m0 ((l, listOf vs.toArray n) :: news)) lF lN ?hm ?j0 ?keep ?turn ?done
  case hm => k_mem
  case j0 => with_unfolding_all exact JVal.start
  case keep => exact fun i m n' ⟨_, _, _, e, _⟩ => e ▸ List.Mem.tail _ (List.Mem.head _)
  case turn =>
    clear lF lN
    intro i v I it m1 news1 s2 hv hJ hO hO2 sm F' N'
    unfold JVal at hJ
    obtain ⟨vg, k1, hz, rfl, hs1, hgl⟩ := hJ
    obtain ⟨x, tx, rfl, hx⟩ := strs_at hi hv
    obtain ⟨h6, tk6, gg6, rfl, hb6⟩ := sm
    rw [map_one hz] at F'
    have hIf := neN (hO _ (List.Mem.head _))
    dsimp only at hIf
    have hq1 : ∀ c ∈ x.cps, c ≠ 34 := fun c hc' => (hc x (List.mem_of_getElem? hx) c hc').1
    have hq2 : ∀ c ∈ x.cps, c ≠ 92 := fun c hc' => (hc x (List.mem_of_getElem? hx) c hc').2
    have hil : i < xs.length := (List.getElem?_eq_some_iff.mp hx).1
    have hvl : vg.length ≤ 1000 := by omega
    k_steps
    · rename AllBare _ → AllBare _ => gB2
      refine' STurn.next ⟨_, _, _, rfl, fun b => gB2 (hb6 b)⟩ (by assumption) ?sub ?off (JVal.yes hx ?z hs1 hgl (by assumption))
      case z => intro z h1; simp only [if_neg h1]
      case sub => exact led_sub (by assumption) (sub_cons (by k_mem) (sub_cons (by k_mem) (by repeat' first | exact sub_refl | apply sub_skip)))
      case off => exact off_cons hIf fun p hp => hO p (List.mem_cons_of_mem _ hp)
    · rename AllBare _ → AllBare _ => gB2
      refine' STurn.next ⟨_, _, _, rfl, fun b => gB2 (hb6 b)⟩ (by assumption) ?sub ?off (JVal.no hx ?z hs1 hgl (by assumption))
      case z => intro z h1; simp only [if_neg h1]
      case sub => exact led_sub (by assumption) (sub_cons (by k_mem) (sub_cons (by k_mem) (by repeat' first | exact sub_refl | apply sub_skip)))
      case off => exact off_cons hIf fun p hp => hO p (List.mem_cons_of_mem _ hp)
  case done =>
    clear lF lN
    intro m1 news1 s2 hJ sm F' N'
    unfold JVal at hJ
    obtain ⟨vg, k1, hz, rfl, hs1, hgl⟩ := hJ
    obtain ⟨h6, tk6, gg6, rfl, hb6⟩ := sm
    replace F' := fr_eq F' (map_all1 hz)
    dsimp only
    k_steps
    have e : xs.take vs.length = xs := by rw [strs_length hi]; exact List.take_length
    rw [e] at hs1
    exact hret _ _ _ _ _ _ (by assumption) (led_sub (by assumption) (sub_cons (by k_mem) (by repeat' first | exact sub_refl | apply sub_skip))) lA' hs1 hb6

end
section
structure GStop (P : Prop) : Prop where
  at_ : P
noncomputable def PG (ns : List Int) (i : Nat) (v : Value) (_ : Heap) : Prop := ∃ n t, v = .int n t ∧ ns[i]? = some n
theorem group_spec {w : World} {mg mb : Str → Option Value} {loose : List Str} {mean : ExcName → Option Value} {dp un : Nat} {gd : Option (List Code)} {cn : Str} {cs : Scope} {ca : Addr} {ccd : Value} {cl : List (Str × Addr)} {outer : List Env} {A₀ : Around} {base h₀ : Heap} {L : Addr} {m : Str → Option Value} {news : List (Addr × Obj)} {s : Shared} {Q E : Value → Shared → Prop} {l : Addr} {n : Nat} {vs : List Value} {ns : List Int} :
    (Mine.hd.heap_39 w.params).In h₀ → Below A₀ base outer h₀ → Fr h₀ L s.heap m → Top Mine.hd.view_39 loose mean mg mb h₀ → cs.kind = .function → News h₀ L s.heap news → (l, listOf vs.toArray n) ∈ news → IntsAre vs ns → (∀ x ∈ ns, x ≠ 127 ∧ x ≠ 0) → dp + 20 < recursionLimit → un + 200 < cLine →
    (∀ a N₁ Lg h' tk' gg, Fr h₀ L h' m → News h₀ L h' news → GenSt PySem.Challenge.rw_wu0047_01.row.prog w (ktrTop dp un gd cn cs L ca ccd cl outer) h₀ a s.gens.size N₁ Lg [a, l] ns.length (PG ns) 0 { s with heap := h', toks := tk', gens := gg } →
      (AllBare s.gens → AllBare gg) → (∀ b o, h₀.get? b = some o → b < N₁ ∧ b ≠ Lg) → L < Lg → Lg < a → a < N₁ → (∀ p ∈ news, p.1 < Lg) → Q (.ref a) { s with heap := h', toks := tk', gens := gg }) →
    wpAny (model PySem.Challenge.rw_wu0047_01.row.prog w) (ktrTop dp un gd cn cs L ca ccd cl outer) (call (.ref 102) [.ref l]) Q E s := by
  k_fill
  intro X B F T hk N hm hi hx hd hu hret
  have hlH : l < s.heap.objs.size := Heap.lt_size (N _ hm).1
  have hl0 : h₀.get? l = none := (N _ hm).2.2
  refine gen_call F N X T.nolimit ?r (f := 102) rfl ?cd (by first | exact BindsTo.of_eq rfl | exact binds_K (by k_in) rfl (by k_is) rfl rfl rfl) ?lo ?hc ?co ?gn ?kk ?_
  case r => exact Nat.lt_of_le_of_lt (Nat.le_add_right _ _) hd
  case cd => k_is
  case lo => exact locs rfl
  case hc => decide
  case co => exact rfl
  case gn => exact rfl
  case kk => exact rfl
  intro h₁ tk Lg eL hsz hns hg hol F' N' hLL hnL hhL
  refine hret _ (Lg + 2) Lg _ _ _ F' N' ?gs (fun b => AllBare.push b rfl) (fun b o e => have q : b < Lg := Nat.lt_of_lt_of_le (Heap.lt_size e) hhL; ⟨Nat.lt_of_lt_of_le q (Nat.le_add_right _ 2), Nat.ne_of_lt q⟩) hLL (Nat.lt_succ_self _) (Nat.lt_succ_self _) hnL
  refine gen_fresh hg F'.keep (Array.getElem?_push_size ..) ?_
  intro s2 es
  obtain ⟨hp2, g2, d2, tk2, os2⟩ := s2
  dsimp only at es
  have es' := es.symm
  subst es'
  have hlg : l < Lg := by rw [eL]; exact hlH
  have hl1 : h₁.get? l = some (listOf vs.toArray n) := (N' _ hm).1
  have FL : Fr h₀ Lg h₁ _ := ⟨hns, F'.keep, hhL⟩
  have NL : News h₀ Lg h₁ ((l, listOf vs.toArray n) :: hold h₀ Lg h₁) := fun p q => by
    rcases List.mem_cons.mp q with rfl | q
    · exact ⟨hl1, Nat.ne_of_lt hlg, hl0⟩
    · exact hold_news p q
  have hlk : ∀ h', Old h₀ h' → News h₀ Lg h' ((l, listOf vs.toArray n) :: hold h₀ Lg h₁) → ∀ b o, b ≠ Lg → h₁.get? b = some o → h'.get? b = some o := fun h' o' N' => hold_kept F'.keep o' N' fun _ q => List.mem_cons_of_mem _ q
  have hgo : ∃ o, h₁.get? (Lg + 1) = some o := let ⟨o, _, _, q, _⟩ := hg; ⟨o, q⟩
  generalize hold h₀ Lg h₁ = hl at NL hlk
  refine seg_func (seg_plain ?_)
  rw [over_func]
  clear B
  clear hret F' N' hol hns hg
  w_top off
  k_with_none
  k_with "enter" => first
    | (refine' code_def (by k_asm) (by k_asm) (by k_asm) (by k_asm) (by k_asm) rfl rfl (by assumption) (by k_is) (by k_is) (by ktr_room) (by first | exact BindsTo.of_eq rfl | exact binds_K (by k_in) rfl (by k_is) rfl rfl rfl | exact kp_binds (by k_in) (fun _ => rfl)) (by exact locs rfl) ?_ (by exact rfl) (by exact rfl) (by exact rfl) (by decide); k_whole; intro _ _ _ _ _ _ _ _ _; (try dsimp only); (try k_fold))
    | (refine' code_defC (by k_asm) (by k_asm) (by k_asm) (by k_asm) (by k_asm) rfl rfl (by assumption) (by k_is) (by k_is) (by ktr_room) (by first | exact BindsTo.of_eq rfl | exact binds_K (by k_in) rfl (by k_is) rfl rfl rfl | fail "k_enter: no rule for these arguments") (by exact rfl) (by decide +kernel) ?_ (by exact rfl) (by exact rfl) (by exact rfl); k_whole; intro _ _ _ _ _ _ _ N' Y' _ _ _ _; k_cells Y'; (try simp only [List.cons_append, List.nil_append] at N'); (try dsimp only); (try k_fold))
  k_with "room" => first | k_dflt (exact Mine.room1 (by assumption) rfl) | k_dflt (exact Mine.room0 (by assumption) rfl) | k_dflt (exact Mine.room2 (by assumption))
  k_with "units" => first | k_dflt (exact Mine.unit1 (by assumption) rfl) | k_dflt (exact Mine.unit0 (by assumption) rfl)
  k_with "all" => first | assumption | exact Mine.lt_all_ne (by assumption) | (refine' List.forall_mem_cons.mpr ⟨?ka1, ?ka2⟩; (case ka1 => k_ne); (case ka2 => k_all))
  k_with "pyIter ref" => k_extra "my iter"
  k_with "UnrEnd" => k_extra "my end"
  k_with "call builtin:list.append" => k_extra "my append"
  k_with "exec While Compare cons nil" => k_extra "my while"
  k_with "lt" => first | assumption | (rename _ ∧ _ => hcN; first | exact hcN.1 | exact hcN.2.1 | exact hcN.2.2.1 | exact hcN.2.2.2.1 | exact hcN.2.2.2.2.1 | exact hcN.2.2.2.2.2.1 | exact hcN.2.2.2.2.2.2.1 | exact hcN.2.2.2.2.2.2.2.1 | exact hcN.2.2.2.2.2.2.2.2.1 | exact hcN.2.2.2.2.2.2.2.2.2.1 | exact hcN.2.2.2.2.2.2.2.2.2.2.1 | exact hcN.2.2.2.2.2.2.2.2.2.2.2.1 | exact hcN.2 | exact hcN.2.2 | exact hcN.2.2.2 | exact hcN.2.2.2.2 | exact hcN.2.2.2.2.2 | exact hcN.2.2.2.2.2.2 | (clear hcN; k_extra "lt"))
  k_with "ne" => with_reducible first | assumption | (refine Nat.ne_of_lt ?_; k_extra "lt") | (refine Nat.ne_of_gt ?_; k_extra "lt")
  k_with "pyIter ref" => k_extra "my giter"
  k_with "my giter" => 
      rename Fr h₀ Lg _ _ => lF
      rename News h₀ Lg _ _ => lN
      refine wpAny_pyIter_list (News.isList lN (List.mem_cons_self ..)) ?_
      refine GStop.at_ ?_
  k_steps
  refine seg_execs_cons (seg_For ?_)
  rw [over_func]
  k_steps
  refine GStop.mk ?_
  intro p g' l' hg'
  replace hg' : g' = false := hg'
  subst hg'
  rename Fr h₀ Lg _ _ => lF
  rename News h₀ Lg _ _ => lN
  have kp := hlk _ lF.keep lN
  obtain ⟨og, hog⟩ := hgo
  have hbig : Lg + 1 < (_ : Heap).objs.size := Heap.lt_size (kp _ _ (Nat.succ_ne_self _) hog)
  have F2 := lF.push { cls := .type "list_iterator", data := .fields #[.ref l, .int 0 0] }
  have hlI : (l : Addr) < (_ : Heap).objs.size := Heap.lt_size (kp _ _ (Nat.ne_of_lt hlg) hl1)
  have W := fun (A : Around) (hA : A.handled = none) (x : Str) (px : Pos) => KTurns.ofWalks (target := .Name x px) (Walks.list (prog := PySem.Challenge.rw_wu0047_01.row.prog) (w := w) (A := A) hA _ l (Nat.ne_of_lt hlI) vs.toArray) (fun i v s Q E _ hQ => letgo_name hQ)
  have hsz : vs.length = ns.length := hi.length
  have es : (List.toArray vs).size = ns.length := by simpa using hsz
  rw [es] at W
  have e0 : ns.length - 0 = ns.length := rfl
  refine gen_for (n := ns.length) (W _ rfl _ _) ?hn ?hLN ?hwr ?hfp (fun i m => True) ?turn ?done ns.length 0 _ _ _ rfl trivial F2 ?st ?near
  case hn => exact fun b o e => have q : b < Lg := Nat.lt_of_lt_of_le (Heap.lt_size e) hhL; ⟨Nat.lt_of_lt_of_le q (Nat.le_add_right _ 2), Nat.ne_of_lt q⟩
  case hLN => exact Nat.lt_of_lt_of_le (Nat.lt_succ_self _) (Nat.le_add_right _ 1)
  case hwr =>
    intro b hb
    cases List.mem_singleton.mp hb
    exact hbig
  case hfp =>
    intro b hb
    rcases List.mem_cons.mp hb with rfl | hb
    · exact ⟨Nat.ne_of_gt (Nat.lt_of_lt_of_le (Nat.lt_succ_of_lt (Nat.lt_succ_self _)) hbig), .inl hbig⟩
    · cases List.mem_singleton.mp hb
      exact ⟨Nat.ne_of_lt hlg, .inr (.tail _ (.head _))⟩
  case st => exact ⟨⟨_, Heap.get?_push_size _ rfl, rfl, rfl⟩, ⟨_, Heap.get?_push_of_some _ (kp _ _ (Nat.ne_of_lt hlg) hl1), rfl, _, rfl⟩⟩
  case near => exact ⟨_, _, rfl, fun b o _ hb e => Heap.get?_push_of_some _ (kp b o hb e)⟩
  case done =>
    intro m' s₀ s' j F' nr
    refine seg_leaf (.ok .next) ?_
    dsimp only [Sem.onRaise, Sem.wrap]
    exact seg_execs_nil (seg_end (.ok (.ret .none)) ⟨rfl, rfl, nr⟩)
  case turn =>
    intro i v m' s₀ s' hi' hPv j F' nr ih
    obtain ⟨k, tk', rfl, hk'⟩ := ints_at hi (by simpa using hPv)
    have hm1 : k ∈ ns := List.mem_of_getElem? hk'
    have hk1 := (hx k hm1).1
    have hk2 := (hx k hm1).2
    have N3 : News h₀ Lg s'.heap (hold h₀ Lg s'.heap) := hold_news
    have hlk' : ∀ h' n, Old h₀ h' → News h₀ Lg h' (n ++ hold h₀ Lg s'.heap) → ∀ b o, b ≠ Lg → s'.heap.get? b = some o → h'.get? b = some o := fun h' n o' N' => hold_kept F'.keep o' N' fun _ q => List.mem_append_right _ q
    generalize hold h₀ Lg s'.heap = hl' at N3 hlk'
    obtain ⟨hp5, g5, d5, tk5, os5⟩ := s'
    clear lF lN F2 hlk
    dsimp only at F' N3 hlk' ih
    with_unfolding_all refine' wpAny_assign_Name (wpAny_storeName_local ?k1 F'.ns ?k2 ?k3)
    case k1 => with_unfolding_all exact rfl
    case k3 => with_unfolding_all exact rfl
    intro h4 hn4 hs4
    have F4 := F'.set hn4 hs4
    have N4 := N3.set hs4
    clear F' N3 hn4 hs4
    refine seg_execs_cons (seg_If ?_)
    rw [over_for]
    k_steps
    have q1 : (k == 127) = false := beq_eq_false_iff_ne.mpr hk1
    have q2 : (k == 0) = false := beq_eq_false_iff_ne.mpr hk2
    rw [q1, if_neg Bool.false_ne_true]
    refine seg_execs_nil (seg_execs_cons (seg_If ?_))
    rw [over_for]
    k_steps
    rw [q2, if_neg Bool.false_ne_true]
    have ei : ns.length - i = (ns.length - (i + 1)) + 1 := by omega
    rw [ei]
    refine seg_execs_nil (seg_execs_cons (seg_Expr_Yield rfl rfl rfl ?_))
    rw [over_for]
    k_steps
    rename_i kap hkap
    have kk := hlk' _ [] F4.keep N4
    refine ⟨by omega, ?_, nr.go fun b o _ hb e => kk b o hb e, fun s5 o5 k5 => ?_⟩
    · have ej : ns.length - 1 - (ns.length - (i + 1)) = i := by omega
      rw [ej]
      exact ⟨_, _, rfl, hk'⟩
    · refine hkap .none s5 ?_
      have F5 : Fr h₀ Lg s5.heap _ := ⟨F4.ns.at' fun o e => k5 Lg o (.inr (.inl rfl)) e, o5, F4.above⟩
      have k6 : ∀ b o, b ≠ Lg → (Lg + 2 ≤ b ∨ b ∈ [Lg + 1, l]) → hp5.get? b = some o → s5.heap.get? b = some o := fun b o hb hb' e => k5 b o (hb'.elim .inl fun q => .inr (.inr q)) (kk b o hb e)
      have N5 : News h₀ Lg s5.heap (hold h₀ Lg s5.heap) := hold_news
      have hlk5 : ∀ h', Old h₀ h' → News h₀ Lg h' (hold h₀ Lg s5.heap) → ∀ b o, b ≠ Lg → s5.heap.get? b = some o → h'.get? b = some o := fun h' o' N' => hold_kept F5.keep o' N' fun _ q => q
      generalize hold h₀ Lg s5.heap = hl5 at N5 hlk5
      obtain ⟨hp6, g6, d6, tk6, os6⟩ := s5
      clear F4 N4 hkap hlk' k5
      dsimp only at F5 N5 hlk5 k6 ⊢
      refine seg_plain ?_
      rw [over_for]
      k_steps
      rename Fr h₀ Lg _ _ => F7
      rename News h₀ Lg _ _ => N7
      have k7 := hlk5 _ F7.keep N7
      exact seg_turn (ih _ _ _ F7 trivial ⟨_, _, rfl, fun b o _ hb e => k7 b o hb e⟩ fun b o hb hb' e => k7 b o hb (k6 b o hb hb' e))

end
section
theorem sum_lst {h₀ h : Heap} {L l : Addr} {news : List (Addr × Obj)} {vs : List Value} {n : Nat} (N : News h₀ L h news) (hm : (l, listOf vs.toArray n) ∈ news) : h.IsList l vs.toArray := News.isList N hm
noncomputable def sizesGo (th : List Int) : Nat → List Int → List Int
  | 0, sz => sz
  | f + 1, sz => if sz.sum ≤ 12 then sizesGo th f (sz ++ [at6 th (sz.sum - 1)]) else sz
noncomputable def sizesP (th : List Int) (first : Int) : List Int := sizesGo th 13 [first + 1]
noncomputable def markGo : Int → List Int → List Int → List Int
  | _, mk, [] => mk
  | a, mk, s :: r => markGo (a + s) (if a + s ≤ 12 then insP mk (a + s) else mk) r
noncomputable def marksFrom (th : List Int) (mk : List Int) (firsts : List Int) : List Int := firsts.foldl (fun mk first => markGo 0 mk (sizesP th first)) mk
noncomputable def marksP (ns th : List Int) : List Int := marksFrom th [] (freshP ns 0)
noncomputable def GoodThrows (ns th : List Int) : Prop := ∀ first ∈ freshP ns 0, 12 < (sizesP th first).sum ∧ ∀ x ∈ sizesP th first, x ≠ 127 ∧ x ≠ 0
noncomputable def JOut (ns th : List Int) (mk : Addr) (m₀ : Str → Option Value) (news₀ : List (Addr × Obj)) (i : Nat) (m' : Str → Option Value) (n' : List (Addr × Obj)) : Prop :=
  ∃ vg k gs, (∀ z, z ≠ Str.ofString "first" → z ≠ Str.ofString "sizes" → z ≠ Str.ofString "mark" → z ≠ Str.ofString "size" → m' z = m₀ z) ∧ n' = (mk, listOf (List.toArray vg) k) :: news₀ ∧ IntsAre vg gs ∧ gs.length ≤ 20 * i ∧
    marksP ns th = marksFrom th gs ((freshP ns 0).drop i)
theorem JOut.start {ns th : List Int} {mk : Addr} {m₀ : Str → Option Value} {news₀ : List (Addr × Obj)} {k : Nat} : JOut ns th mk m₀ news₀ 0 m₀ ((mk, listOf #[] k) :: news₀) := ⟨[], k, [], fun _ _ _ _ _ => rfl, rfl, .nil, Nat.le_refl _, rfl⟩
theorem map_out {m' m₀ : Str → Option Value} {a b c d : Str} {v : Value} (hz : ∀ z, z ≠ a → z ≠ b → z ≠ c → z ≠ d → m' z = m₀ z) :
    (fun y => if y = a then some v else m' y) = fun y => if y = a then some v else if y = b then m' y else if y = c then m' y else if y = d then m' y else m₀ y := by
  funext y
  by_cases h1 : y = a
  · rw [if_pos h1, if_pos h1]
  · rw [if_neg h1, if_neg h1]
    by_cases h2 : y = b
    · rw [if_pos h2]
    · rw [if_neg h2]
      by_cases h3 : y = c
      · rw [if_pos h3]
      · rw [if_neg h3]
        by_cases h4 : y = d
        · rw [if_pos h4]
        · rw [if_neg h4]; exact hz y h1 h2 h3 h4
noncomputable def JSz (th : List Int) (first : Int) (sa : Addr) (m₀ : Str → Option Value) (news₀ : List (Addr × Obj)) (f : Nat) (m' : Str → Option Value) (n' : List (Addr × Obj)) : Prop :=
  ∃ vz k sz, m' = m₀ ∧ n' = (sa, listOf (List.toArray vz) k) :: news₀ ∧ IntsAre vz sz ∧ sizesP th first = sizesGo th f sz ∧ sz.length + f ≤ 14
theorem JSz.start {th : List Int} {first : Int} {sa : Addr} {m₀ : Str → Option Value} {news₀ : List (Addr × Obj)} {k : Nat} {t : Tok} : JSz th first sa m₀ news₀ 13 m₀ ((sa, listOf (List.toArray [.int (first + 1) t]) k) :: news₀) :=
  ⟨[.int (first + 1) t], k, [first + 1], rfl, rfl, .cons _ _ .nil, rfl, Nat.le_refl _⟩
theorem sz_done {th : List Int} {first : Int} {f : Nat} {sz : List Int} (h : sizesP th first = sizesGo th f sz) (hn : ¬ sz.sum ≤ 12) : sizesP th first = sz := by
  cases f with
  | zero => exact h
  | succ f => rw [h, sizesGo, if_neg hn]
theorem JSz.next {th : List Int} {first : Int} {sa : Addr} {m₀ : Str → Option Value} {news₀ : List (Addr × Obj)} {f k : Nat} {vz : List Value} {sz : List Int} {t : Tok} (hi : IntsAre vz sz) (he : sizesP th first = sizesGo th f sz) (hl : sz.length + f ≤ 14)
    (hb : 12 < (sizesP th first).sum) (hs : sz.sum ≤ 12) : f - 1 < f ∧ JSz th first sa m₀ news₀ (f - 1) m₀ ((sa, listOf ((List.toArray vz).push (.int (th.getD ((sz.sum - 1).fmod 6).toNat 0) t)) k) :: news₀) := by
  cases f with
  | zero =>
    rw [he] at hb
    exact absurd hs (Int.not_le.mpr hb)
  | succ f =>
    refine ⟨Nat.lt_succ_self _, vz ++ [.int (at6 th (sz.sum - 1)) t], k, sz ++ [at6 th (sz.sum - 1)], rfl, ?_, ints_push hi, ?_, ?_⟩
    · simp only [List.push_toArray, at6]
    · rw [he, sizesGo, if_pos hs]; rfl
    · simp; omega
noncomputable def JMk (gs sz : List Int) (mk : Addr) (m₀ : Str → Option Value) (news₀ : List (Addr × Obj)) (i : Nat) (m' : Str → Option Value) (n' : List (Addr × Obj)) : Prop :=
  ∃ vh k hs a t, (∀ z, z ≠ Str.ofString "mark" → z ≠ Str.ofString "size" → m' z = m₀ z) ∧ m' (Str.ofString "mark") = some (.int a t) ∧ n' = (mk, listOf (List.toArray vh) k) :: news₀ ∧ IntsAre vh hs ∧ hs.length ≤ gs.length + i ∧ markGo 0 gs sz = markGo a hs (sz.drop i)
theorem JMk.start {gs sz : List Int} {mk : Addr} {m₀ : Str → Option Value} {news₀ : List (Addr × Obj)} {vh : List Value} {k : Nat} {t : Tok} (hm : m₀ (Str.ofString "mark") = some (.int 0 t)) (hi : IntsAre vh gs) : JMk gs sz mk m₀ news₀ 0 m₀ ((mk, listOf (List.toArray vh) k) :: news₀) :=
  ⟨vh, k, gs, 0, t, fun _ _ _ => rfl, hm, rfl, hi, Nat.le_refl _, rfl⟩
theorem map_mk {m' m₀ : Str → Option Value} {a b : Str} {v : Value} {w : Option Value} (hz : ∀ z, z ≠ b → z ≠ a → m' z = m₀ z) (hm : m' b = w) :
    (fun y => if y = a then some v else m' y) = fun y => if y = a then some v else if y = b then w else m₀ y := by
  funext y
  by_cases h1 : y = a
  · rw [if_pos h1, if_pos h1]
  · rw [if_neg h1, if_neg h1]
    by_cases h2 : y = b
    · rw [if_pos h2, h2, hm]
    · rw [if_neg h2]; exact hz y h2 h1
theorem mk_tail {mk Lg ga N₁ sa : Addr} {news gl : List (Addr × Obj)} (h1 : ∀ p ∈ news, p.1 < mk) (h2 : mk < Lg) (h3 : Lg < ga) (h4 : ga < N₁) (h5 : mk < sa) (hg : ∀ p ∈ gl, N₁ ≤ p.1 ∨ p.1 = Lg ∨ p.1 ∈ [ga, sa]) : ∀ p ∈ news ++ gl, p.1 ≠ mk := by
  intro p hp
  rcases List.mem_append.mp hp with q | q
  · exact Nat.ne_of_lt (h1 p q)
  · have z : mk < p.1 := by
      rcases hg p q with e | e | e
      · exact Nat.lt_of_lt_of_le (Nat.lt_trans h2 (Nat.lt_trans h3 h4)) e
      · rw [e]; exact h2
      · rcases List.mem_cons.mp e with e | e
        · rw [e]; exact Nat.lt_trans h2 h3
        · rw [List.mem_singleton.mp e]; exact h5
    exact Nat.ne_of_gt z
theorem mark_step {a : Int} {hs sz : List Int} {i : Nat} {k : Int} (h : sz[i]? = some k) : markGo a hs (sz.drop i) = markGo (a + k) (if a + k ≤ 12 then insP hs (a + k) else hs) (sz.drop (i + 1)) := by
  have hlt : i < sz.length := (List.getElem?_eq_some_iff.mp h).1
  have e : sz[i] = k := (List.getElem?_eq_some_iff.mp h).2
  rw [List.drop_eq_getElem_cons hlt, e]; rfl
theorem JMk.yes {gs sz : List Int} {mk : Addr} {m₀ m' : Str → Option Value} {news₀ : List (Addr × Obj)} {i : Nat} {vh : List Value} {k : Nat} {hs : List Int} {a kv : Int} {t : Tok} (hz : ∀ z, z ≠ Str.ofString "mark" → z ≠ Str.ofString "size" → m' z = m₀ z)
    (hm : m' (Str.ofString "mark") = some (.int (a + kv) t)) (hi : IntsAre vh (insP hs (a + kv))) (hl : hs.length ≤ gs.length + i) (he : markGo 0 gs sz = markGo a hs (sz.drop i)) (hk : sz[i]? = some kv) (h12 : a + kv ≤ 12) : JMk gs sz mk m₀ news₀ (i + 1) m' ((mk, listOf (List.toArray vh) k) :: news₀) :=
  ⟨vh, k, insP hs (a + kv), a + kv, t, hz, hm, rfl, hi, by
    have : (insP hs (a + kv)).length ≤ hs.length + 1 := by
      unfold insP
      simp only [List.length_append, List.length_take, List.length_cons, List.length_drop]
      omega
    omega, by rw [he, mark_step hk, if_pos h12]⟩
theorem JMk.no {gs sz : List Int} {mk : Addr} {m₀ m' : Str → Option Value} {news₀ : List (Addr × Obj)} {i : Nat} {vh : List Value} {k : Nat} {hs : List Int} {a kv : Int} {t : Tok} (hz : ∀ z, z ≠ Str.ofString "mark" → z ≠ Str.ofString "size" → m' z = m₀ z)
    (hm : m' (Str.ofString "mark") = some (.int (a + kv) t)) (hi : IntsAre vh hs) (hl : hs.length ≤ gs.length + i) (he : markGo 0 gs sz = markGo a hs (sz.drop i)) (hk : sz[i]? = some kv) (h12 : ¬ a + kv ≤ 12) : JMk gs sz mk m₀ news₀ (i + 1) m' ((mk, listOf (List.toArray vh) k) :: news₀) :=
  ⟨vh, k, hs, a + kv, t, hz, hm, rfl, hi, by omega, by rw [he, mark_step hk, if_neg h12]⟩
theorem JOut.next {ns th : List Int} {mk : Addr} {m₀ m' : Str → Option Value} {news₀ : List (Addr × Obj)} {i : Nat} {vh : List Value} {k : Nat} {gs hs sz : List Int} {a first : Int} (hz : ∀ z, z ≠ Str.ofString "first" → z ≠ Str.ofString "sizes" → z ≠ Str.ofString "mark" → z ≠ Str.ofString "size" → m' z = m₀ z)
    (hi : IntsAre vh hs) (hx : (freshP ns 0)[i]? = some first) (hsz : sizesP th first = sz) (hl : hs.length ≤ gs.length + sz.length) (hl2 : gs.length ≤ 20 * i) (hl3 : sz.length ≤ 14) (he : markGo 0 gs sz = markGo a hs (sz.drop sz.length))
    (hge : marksP ns th = marksFrom th gs ((freshP ns 0).drop i)) : JOut ns th mk m₀ news₀ (i + 1) m' ((mk, listOf (List.toArray vh) k) :: news₀) :=
  ⟨vh, k, hs, hz, rfl, hi, by omega, by
    have hlt : i < (freshP ns 0).length := (List.getElem?_eq_some_iff.mp hx).1
    have e : (freshP ns 0)[i] = first := (List.getElem?_eq_some_iff.mp hx).2
    rw [hge, List.drop_eq_getElem_cons hlt, e]
    show marksFrom th (markGo 0 gs (sizesP th first)) _ = _
    rw [hsz, he, List.drop_length]; rfl⟩
theorem map_mk2 {m' m₀ : Str → Option Value} {a b : Str} {w : Option Value} (hz : ∀ z, z ≠ b → z ≠ a → m' z = m₀ z) (hm : m' b = w) :
    m' = fun y => if y = b then w else if y = a then m' y else m₀ y := by
  funext y
  by_cases h2 : y = b
  · rw [if_pos h2, h2, hm]
  · rw [if_neg h2]
    by_cases h1 : y = a
    · rw [if_pos h1]
    · rw [if_neg h1]; exact hz y h2 h1
theorem map_out2 {m' m₀ : Str → Option Value} {a b c d : Str} (hz : ∀ z, z ≠ a → z ≠ b → z ≠ c → z ≠ d → m' z = m₀ z) :
    m' = fun y => if y = a then m' y else if y = b then m' y else if y = c then m' y else if y = d then m' y else m₀ y := by
  funext y
  by_cases h1 : y = a
  · rw [if_pos h1]
  · rw [if_neg h1]
    by_cases h2 : y = b
    · rw [if_pos h2]
    · rw [if_neg h2]
      by_cases h3 : y = c
      · rw [if_pos h3]
      · rw [if_neg h3]
        by_cases h4 : y = d
        · rw [if_pos h4]
        · rw [if_neg h4]; exact hz y h1 h2 h3 h4
theorem marks_spec {w : World} {mg mb : Str → Option Value} {loose : List Str} {mean : ExcName → Option Value} {dp un : Nat} {gd : Option (List Code)} {cn : Str} {cs : Scope} {ca : Addr} {ccd : Value} {cl : List (Str × Addr)} {outer : List Env} {A₀ : Around} {base h₀ : Heap} {L : Addr} {m : Str → Option Value} {news : List (Addr × Obj)} {s : Shared} {Q E : Value → Shared → Prop} {l l2 : Addr} {n n2 : Nat} {vs vt : List Value} {ns th : List Int} :
    (Mine.hd.heap_39 w.params).In h₀ → Below A₀ base outer h₀ → Fr h₀ L s.heap m → Top Mine.hd.view_39 loose mean mg mb h₀ → cs.kind = .function → News h₀ L s.heap news → (l, listOf vs.toArray n) ∈ news → IntsAre vs ns → ns.length = 6 → (l2, listOf vt.toArray n2) ∈ news → IntsAre vt th → th.length = 6 → GoodThrows ns th → dp + 35 < recursionLimit → un + 400 < cLine →
    (∀ r vs' n' h' tk' gg, Fr h₀ L h' m → News h₀ L h' ((r, listOf (List.toArray vs') n') :: news) → (∀ p ∈ news, p.1 < r) → IntsAre vs' (marksP ns th) → (AllBare s.gens → AllBare gg) → Q (.ref r) { s with heap := h', toks := tk', gens := gg }) →
    wpAny (model PySem.Challenge.rw_wu0047_01.row.prog w) (ktrTop dp un gd cn cs L ca ccd cl outer) (call (.ref 147) [.ref l, .ref l2]) Q E s := by
  k_fill
  intro X B F T hk N hm hi hl hm2 hi2 hl2 hth hd hu hret
  replace N := led_front (led_front N hm2) (List.mem_cons_of_mem _ hm)
  w_top off
  k_with_none
  k_with "enter" => first
    | (refine' code_def (by k_asm) (by k_asm) (by k_asm) (by k_asm) (by k_asm) rfl rfl (by assumption) (by k_is) (by k_is) (by ktr_room) (by first | exact BindsTo.of_eq rfl | exact binds_K (by k_in) rfl (by k_is) rfl rfl rfl | exact kp_binds (by k_in) (fun _ => rfl)) (by exact locs rfl) ?_ (by exact rfl) (by exact rfl) (by exact rfl) (by decide); k_whole; intro _ _ _ _ _ _ _ _ _; (try dsimp only); (try k_fold))
    | (refine' code_defC (by k_asm) (by k_asm) (by k_asm) (by k_asm) (by k_asm) rfl rfl (by assumption) (by k_is) (by k_is) (by ktr_room) (by first | exact BindsTo.of_eq rfl | exact binds_K (by k_in) rfl (by k_is) rfl rfl rfl | fail "k_enter: no rule for these arguments") (by exact rfl) (by decide +kernel) ?_ (by exact rfl) (by exact rfl) (by exact rfl); k_whole; intro _ _ _ _ _ _ _ N' Y' _ _ _ _; k_cells Y'; (try simp only [List.cons_append, List.nil_append] at N'); (try dsimp only); (try k_fold))
  k_with "room" => first | k_dflt (exact Mine.room1 (by assumption) rfl) | k_dflt (exact Mine.room0 (by assumption) rfl) | k_dflt (exact Mine.room2 (by assumption))
  k_with "units" => first | k_dflt (exact Mine.unit1 (by assumption) rfl) | k_dflt (exact Mine.unit0 (by assumption) rfl)
  k_with "all" => first | assumption | exact Mine.lt_all_ne (by assumption) | (refine' List.forall_mem_cons.mpr ⟨?ka1, ?ka2⟩; (case ka1 => k_ne); (case ka2 => k_all))
  k_with "pyIter ref" => k_extra "my iter"
  k_with "UnrEnd" => k_extra "my end"
  k_with "call builtin:list.append" => k_extra "my append"
  k_with "exec While Compare cons nil" => k_extra "my while"
  k_with "lt" => first | assumption | (rename _ ∧ _ => hcN; first | exact hcN.1 | exact hcN.2.1 | exact hcN.2.2.1 | exact hcN.2.2.2.1 | exact hcN.2.2.2.2.1 | exact hcN.2.2.2.2.2.1 | exact hcN.2.2.2.2.2.2.1 | exact hcN.2.2.2.2.2.2.2.1 | exact hcN.2.2.2.2.2.2.2.2.1 | exact hcN.2.2.2.2.2.2.2.2.2.1 | exact hcN.2.2.2.2.2.2.2.2.2.2.1 | exact hcN.2.2.2.2.2.2.2.2.2.2.2.1 | exact hcN.2 | exact hcN.2.2 | exact hcN.2.2.2 | exact hcN.2.2.2.2 | exact hcN.2.2.2.2.2 | exact hcN.2.2.2.2.2.2 | (clear hcN; k_extra "lt"))
  k_with "ne" => with_reducible first | assumption | (refine Nat.ne_of_lt ?_; k_extra "lt") | (refine Nat.ne_of_gt ?_; k_extra "lt")
  k_with "call ref" => (k_here; (with_reducible show wpAny _ _ (call (Value.ref 128) _) _ _ _); k_dflt (refine' fresh_spec (by k_asm) (by k_asm) (by k_asm) (by k_asm) (by first | exact rfl | assumption) (by k_asm) (by k_mem) (by assumption) (by first | assumption | omega) (by omega) (by omega) (by ktr_room) (by ktr_units) ?_; k_whole; (first | k_extra "in fresh" | (intro _ _ _ _ _ _ _ lt' _; replace lt' := allLt_of lt'; (try simp only [AllLt, and_true] at lt'); (try ((have _ := lt'); clear lt')))); (try k_sweep); (try dsimp only); (try k_fold)))
  k_with "call ref" => (k_here; (with_reducible show wpAny _ _ (call (Value.ref 58) _) _ _ _); k_dflt (refine' insort_spec (by k_asm) (by k_asm) (by k_asm) (by k_asm) (by first | exact rfl | assumption) (by k_asm) (by k_upd) (by k_extra "ins ints") (by k_extra "ins len") (by ktr_room) (by ktr_units) ?_; k_whole; intro _ _ _ _ _; (try k_sweep); (try dsimp only); (try k_fold)))
  k_with "call ref" => (k_here; (with_reducible show wpAny _ _ (call (Value.ref 102) _) _ _ _); k_dflt (refine' group_spec (by k_asm) (by k_asm) (by k_asm) (by k_asm) (by first | exact rfl | assumption) (by k_asm) (by k_mem) (by assumption) (by first | assumption | k_extra "grp ok") (by ktr_room) (by ktr_units) ?_; k_whole; intro _ _ _ _ _ _ _ _ _ _ _ _ _ _ _; (try dsimp only)))
  k_with "call builtin:sum" => (k_here; (with_reducible show wpAny _ _ (call (Value.builtin "sum") [Value.ref _]) _ _ _); k_dflt (refine' LSm.sum_ints (by k_asm) (by k_asm) (by with_unfolding_all exact rfl) (by first | exact Mine.sum_lst (by assumption) (by k_mem) | k_asm) (by first | assumption | k_extra "sum ints") ?_; k_whole; intro _ _ _ _ _; (try dsimp only); (try k_fold)))
  k_with "exec For Name Call cons nil" => k_extra "my for"
  k_with "my for" => 
      rename Fr _ _ _ _ => lF
      with_unfolding_all refine' For_listS (x := Str.ofString "first") lF ?hh ?k1 ?k2 ?_
      case hh => with_unfolding_all exact rfl
      case k1 => with_unfolding_all exact rfl
      case k2 => with_unfolding_all exact rfl
  refine wpAny_call ?_
  k_dflt ktr_enter
  k_steps
  rename_i mk hx1 lm1 hx2 fr vf nf hf tkf lF lN hif ltf
  have lN2 := led_sub lN (sub_cons (List.Mem.tail _ (List.Mem.head _)) (sub_cons (List.Mem.head _) (sub_skip (sub_skip sub_refl))))
  have ltn : ∀ p ∈ news, p.1 < fr := allLt_all ltf.2.2.2
  have ltm := neN (Nat.ne_of_lt ltf.1)
  with_unfolding_all refine' ListLoop.intro (n := nf) (vs := vf) (JOut ns th _ ?m0 ((fr, listOf vf.toArray nf) :: (l, listOf vs.toArray n) :: (l2, listOf vt.toArray n2) :: news)) lF lN2 ?hm ?j0 ?keep ?turn ?done
  case hm => exact List.Mem.tail _ (List.Mem.head _)
  case j0 => with_unfolding_all exact JOut.start
  case keep => exact fun i m n' ⟨_, _, _, _, e, _⟩ => e ▸ List.Mem.tail _ (List.Mem.head _)
  case turn =>
    clear lF lN lN2
    intro i v I it m1 news1 s2 hv hJ hO hO2 sm F' N'
    unfold JOut at hJ
    obtain ⟨vg, k1, gs, hz, rfl, hgi, hgl, hge⟩ := hJ
    obtain ⟨first, tx, rfl, hx⟩ := ints_at hif hv
    obtain ⟨h6, tk6, gg6, rfl, hb6⟩ := sm
    replace F' := fr_eq F' (map_out hz)
    have hIf := neN (hO _ (List.Mem.head _))
    have hIl := neN (hO _ (List.Mem.tail _ (List.Mem.head _)))
    dsimp only at hIf hIl
    have hil : i < (freshP ns 0).length := (List.getElem?_eq_some_iff.mp hx).1
    k_with_none
    k_with "enter" => first
      | (refine' code_def (by k_asm) (by k_asm) (by k_asm) (by k_asm) (by k_asm) rfl rfl (by assumption) (by k_is) (by k_is) (by ktr_room) (by first | exact BindsTo.of_eq rfl | exact binds_K (by k_in) rfl (by k_is) rfl rfl rfl | exact kp_binds (by k_in) (fun _ => rfl)) (by exact locs rfl) ?_ (by exact rfl) (by exact rfl) (by exact rfl) (by decide); k_whole; intro _ _ _ _ _ _ _ _ _; (try dsimp only); (try k_fold))
      | (refine' code_defC (by k_asm) (by k_asm) (by k_asm) (by k_asm) (by k_asm) rfl rfl (by assumption) (by k_is) (by k_is) (by ktr_room) (by first | exact BindsTo.of_eq rfl | exact binds_K (by k_in) rfl (by k_is) rfl rfl rfl | fail "k_enter: no rule for these arguments") (by exact rfl) (by decide +kernel) ?_ (by exact rfl) (by exact rfl) (by exact rfl); k_whole; intro _ _ _ _ _ _ _ N' Y' _ _ _ _; k_cells Y'; (try simp only [List.cons_append, List.nil_append] at N'); (try dsimp only); (try k_fold))
    k_with "room" => first | k_dflt (exact Mine.room1 (by assumption) rfl) | k_dflt (exact Mine.room0 (by assumption) rfl) | k_dflt (exact Mine.room2 (by assumption))
    k_with "units" => first | k_dflt (exact Mine.unit1 (by assumption) rfl) | k_dflt (exact Mine.unit0 (by assumption) rfl)
    k_with "all" => first | assumption | exact Mine.lt_all_ne (by assumption) | (refine' List.forall_mem_cons.mpr ⟨?ka1, ?ka2⟩; (case ka1 => k_ne); (case ka2 => k_all))
    k_with "pyIter ref" => k_extra "my iter"
    k_with "UnrEnd" => k_extra "my end"
    k_with "call builtin:list.append" => k_extra "my append"
    k_with "exec While Compare cons nil" => k_extra "my while"
    k_with "lt" => first | assumption | (rename _ ∧ _ => hcN; first | exact hcN.1 | exact hcN.2.1 | exact hcN.2.2.1 | exact hcN.2.2.2.1 | exact hcN.2.2.2.2.1 | exact hcN.2.2.2.2.2.1 | exact hcN.2.2.2.2.2.2.1 | exact hcN.2.2.2.2.2.2.2.1 | exact hcN.2.2.2.2.2.2.2.2.1 | exact hcN.2.2.2.2.2.2.2.2.2.1 | exact hcN.2.2.2.2.2.2.2.2.2.2.1 | exact hcN.2.2.2.2.2.2.2.2.2.2.2.1 | exact hcN.2 | exact hcN.2.2 | exact hcN.2.2.2 | exact hcN.2.2.2.2 | exact hcN.2.2.2.2.2 | exact hcN.2.2.2.2.2.2 | (clear hcN; k_extra "lt"))
    k_with "ne" => with_reducible first | assumption | (refine Nat.ne_of_lt ?_; k_extra "lt") | (refine Nat.ne_of_gt ?_; k_extra "lt")
    k_with "call ref" => (k_here; (with_reducible show wpAny _ _ (call (Value.ref 128) _) _ _ _); k_dflt (refine' fresh_spec (by k_asm) (by k_asm) (by k_asm) (by k_asm) (by first | exact rfl | assumption) (by k_asm) (by k_mem) (by assumption) (by first | assumption | omega) (by omega) (by omega) (by ktr_room) (by ktr_units) ?_; k_whole; (first | k_extra "in fresh" | (intro _ _ _ _ _ _ _ lt' _; replace lt' := allLt_of lt'; (try simp only [AllLt, and_true] at lt'); (try ((have _ := lt'); clear lt')))); (try k_sweep); (try dsimp only); (try k_fold)))
    k_with "call ref" => (k_here; (with_reducible show wpAny _ _ (call (Value.ref 58) _) _ _ _); k_dflt (refine' insort_spec (by k_asm) (by k_asm) (by k_asm) (by k_asm) (by first | exact rfl | assumption) (by k_asm) (by k_upd) (by k_extra "ins ints") (by k_extra "ins len") (by ktr_room) (by ktr_units) ?_; k_whole; intro _ _ _ _ _; (try k_sweep); (try dsimp only); (try k_fold)))
    k_with "call ref" => (k_here; (with_reducible show wpAny _ _ (call (Value.ref 102) _) _ _ _); k_dflt (refine' group_spec (by k_asm) (by k_asm) (by k_asm) (by k_asm) (by first | exact rfl | assumption) (by k_asm) (by k_mem) (by assumption) (by first | assumption | k_extra "grp ok") (by ktr_room) (by ktr_units) ?_; k_whole; intro _ _ _ _ _ _ _ _ _ _ _ _ _ _ _; (try dsimp only)))
    k_with "call builtin:sum" => (k_here; (with_reducible show wpAny _ _ (call (Value.builtin "sum") [Value.ref _]) _ _ _); k_dflt (refine' LSm.sum_ints (by k_asm) (by k_asm) (by with_unfolding_all exact rfl) (by first | exact Mine.sum_lst (by assumption) (by k_mem) | k_asm) (by first | assumption | k_extra "sum ints") ?_; k_whole; intro _ _ _ _ _; (try dsimp only); (try k_fold)))
    k_with "exec For Name Call cons nil" => k_extra "my for"
    k_with "my while" => 
        rename Fr _ _ _ _ => lF
        rename News _ _ _ _ => lN
        refine wpAny_noRaise ?_
        with_unfolding_all refine' While_inv (n₀ := 13) (JSz th first _ ?mw0 _) lF lN ?jw0 ?wturn PassesOwn.never
        case jw0 => with_unfolding_all exact JSz.start
        case' wturn =>
          clear lF lN
          intro f m1 news1 h tk F' N' hJ
          unfold JSz at hJ
          obtain ⟨vz, k2, sz, rfl, rfl, hzi, hze, hzl⟩ := hJ
          try k_fold
    have mf : first ∈ freshP ns 0 := List.mem_of_getElem? hx
    have hb12 := (hth first mf).1
    have hgood := (hth first mf).2
    k_with "grp ok" => 
        have hsz := sz_done hze (by first | assumption | omega)
        rw [hsz] at hgood
        exact hgood
    k_with "my for" => 
        rename Fr _ _ _ _ => lF
        rename Top _ _ _ _ _ _ => lT
        with_unfolding_all refine' For_gen ?hh (Top.nolimit lT) ?hr ?_ ?hgo
        case hh => with_unfolding_all exact rfl
        case hr => ktr_room
        case hgo => with_unfolding_all exact fun a s Q E hg hq v => letgo_name hq
    k_steps
    · exact ws_intro (by assumption) (by assumption) (JSz.next hzi hze hzl hb12 (by assumption))
    · rename_i sa y1 y2 y3 ls z1 z2 y4 y5 y6 y7 y8 y9 hgt y10 y11 ga gN gL h5 tk5 gg F5 N5 gS gB gh g1 g2 g3 g4
      have e0 : ∀ {p q r : Addr}, p < q → q < r → p < r := Nat.lt_trans
      have hsz := sz_done hze hgt
      have hLs := (N5 _ (.head _)).2.1
      have hmL := g4 _ (.tail _ (.tail _ (.head _)))
      have hIL := g4 _ (.tail _ (.head _))
      have N6 := led_sub N5 (sub_cons (.tail _ (.tail _ (.head _))) (sub_cons (.tail _ (.head _)) (sub_skip (sub_skip (sub_skip sub_refl)))))
      with_unfolding_all refine' GenLoop.intro (fx := [ga, sa]) (JMk gs sz mk ?mg0 ((I, it) :: (fr, listOf vf.toArray nf) :: (l, listOf vs.toArray n) :: (l2, listOf vt.toArray n2) :: news)) gh g3 (Nat.ne_of_gt g2) (.head _) (e0 g1 (e0 g2 g3)) (Nat.ne_of_lt g1) ?hL3 gS F5 N6 ?gj0 ?ghJ ?gturn ?gdone
      case hL3 => exact fun q => (List.mem_cons.mp q).elim (fun q => Nat.ne_of_lt (e0 g1 g2) q) fun q => hLs (List.mem_singleton.mp q).symm
      case gj0 =>
        with_unfolding_all refine' JMk.start ?h1 hgi
        case h1 => with_unfolding_all exact rfl
      case ghJ =>
        intro i m' n' hJ p hp
        unfold JMk at hJ
        obtain ⟨vh, k3, hs, a, ta, hzz, hma, rfl, hhi, hhl, hhe⟩ := hJ
        have q : p.1 < gL := by
          rcases List.mem_cons.mp hp with rfl | hp
          · exact hmL
          · rcases List.mem_cons.mp hp with rfl | hp
            · exact hIL
            · exact g4 p (.tail _ (.tail _ (.tail _ hp)))
        exact ⟨e0 q (e0 g2 g3), Nat.ne_of_lt q⟩
      case gturn =>
        intro j v m' n' gl s5 hj hP hJ hgl hgl2 sm F' N'
        unfold JMk at hJ
        obtain ⟨vh, k3, hs, a, ta, hzz, hma, rfl, hhi, hhl, hhe⟩ := hJ
        obtain ⟨kv, tv, rfl, hkv⟩ := hP
        obtain ⟨h6, tk6, gg6, rfl, hb7⟩ := sm
        with_unfolding_all refine' wpAny_assign_Name (wpAny_storeName_local ?k1 F'.ns ?k2 ?k3)
        case k1 => with_unfolding_all exact rfl
        case k3 => with_unfolding_all exact rfl
        intro h7 hn7 hs7
        have F7 := fr_eq (F'.set hn7 hs7) (map_mk hzz hma)
        have N7 := N'.set hs7
        have hta := mk_tail (allLt_all lm1.2.2) hmL g2 g3 ls.2.1 hgl
        clear F' N' hn7 hs7 F5 N5 N6
        simp only [List.cons_append] at N7
        have hjl : j < sz.length := hj
        have hsl : sz.length ≤ 14 := by omega
        have hil6 : (freshP ns 0).length ≤ 6 := freshP_len ns 0
        have hhl2 : hs.length ≤ 200 := by omega
        k_with "ins ints" => assumption
        k_with "ins len" => omega
        k_steps
        · refine' GTurn.next (n' := (mk, _) :: (I, it) :: (fr, listOf vf.toArray nf) :: (l, listOf vs.toArray n) :: (l2, listOf vt.toArray n2) :: news) (by assumption) (by simp only [List.cons_append]; assumption) (JMk.yes ?z ?h1 (by assumption) hhl hhe hkv (by assumption))
          case h1 => with_unfolding_all exact rfl
          case z => intro z a1 a2; simp only [if_neg a1, if_neg a2]
        · refine' GTurn.next (n' := (mk, _) :: (I, it) :: (fr, listOf vf.toArray nf) :: (l, listOf vs.toArray n) :: (l2, listOf vt.toArray n2) :: news) (by assumption) (by simp only [List.cons_append]; assumption) (JMk.no ?z ?h1 hhi hhl hhe hkv (by assumption))
          case h1 => with_unfolding_all exact rfl
          case z => intro z a1 a2; simp only [if_neg a1, if_neg a2]
      case gdone =>
        intro m' n' s5 hJ sm F' N'
        unfold JMk at hJ
        obtain ⟨vh, k3, hs, a, ta, hzz, hma, rfl, hhi, hhl, hhe⟩ := hJ
        obtain ⟨h6, tk6, gg6, rfl, hb7⟩ := sm
        replace F' := fr_eq F' (map_mk2 hzz hma)
        dsimp only
        clear F5 N5 N6
        have hsl : sz.length ≤ 14 := by omega
        k_steps
        refine' STurn.next ⟨_, _, _, rfl, fun b => hb7 (gB (hb6 b))⟩ (by assumption) ?sub ?off (JOut.next ?z hhi hx hsz hhl hgl hsl hhe hge)
        case z => intro z a1 a2 a3 a4; simp only [if_neg a1, if_neg a2, if_neg a3, if_neg a4]
        case sub => exact led_sub (by assumption) (sub_cons (by k_mem) (sub_cons (by k_mem) (by repeat' first | exact sub_refl | apply sub_skip)))
        case off => exact off_cons hIf fun p hp => hO p (List.mem_cons_of_mem _ hp)
  case done =>
    clear lF lN lN2
    intro m1 news1 s2 hJ sm F' N'
    unfold JOut at hJ
    obtain ⟨vg, k1, gs, hz, rfl, hgi, hgl, hge⟩ := hJ
    obtain ⟨h6, tk6, gg6, rfl, hb6⟩ := sm
    replace F' := fr_eq F' (map_out2 hz)
    dsimp only
    k_steps
    have e : marksP ns th = gs := by
      rw [hge, hif.length, List.drop_length]; rfl
    rw [← e] at hgi
    exact hret mk vg k1 _ _ _ (by assumption) (led_sub (by assumption) (sub_cons (by k_mem) (by repeat' first | exact sub_refl | apply sub_skip))) (allLt_all lm1.2.2) hgi hb6

end
section
/-! a list comprehension of one clause by an invariant of one's own -/
open LCg in
section
variable {prog : Program} {w : World} {A : Around} {E : Value → Shared → Prop} {s : Shared} {h₀ : Heap} {L : Addr} {m : Str → Option Value} {env : Env}

theorem comp_loop {elt target iter : Expr} {ifs : List Expr} {scope : Scope} {pos : Pos} {it acc : Value} {env : Env} {R : Result → Shared → Prop} (I : Nat → Shared → Prop)
    (turn : ∀ n s, I n s → wpAny (model prog w) A (pyNext it) (fun r s₁ => match r with
      | none => R (.ok .next) s₁
      | some v => wpAny (model prog w) A (letOwnedTupleGo target it v) (fun _ s₁' => wpAny (model prog w) A (assign target env v) (fun _ s₂ =>
          wpAny (model prog w) A (forIn ifs true fun c r => if r = true then do let ok ← isTrue c env (eval c env); pure (ForInStep.yield ok) else pure (ForInStep.yield r)) (fun ok s₃ =>
            if ok = true then wpAny (model prog w) A (eval elt env) (fun x s₄ => wpAny (model prog w) A (call (.builtin "list.append") [acc, x]) (fun _ s₅ => ∃ m, m < n ∧ I m s₅) never s₄) never s₃
            else ∃ m, m < n ∧ I m s₃) never s₂) never s₁') never s₁) never s)
    (n : Nat) (h : I n s) : codeAny (model prog w) A (.compLoop (.ListComp elt [⟨target, iter, ifs, 0⟩] scope pos) 0 it acc env) R s := by
  refine codeAny_loop rfl I (fun n s hI => ?_) n h
  show wpAny _ A ((compTurn (.ListComp elt [⟨target, iter, ifs, 0⟩] scope pos) 0 it acc env).onRaise (fun x => do noteFrame x env; theTreesLotGoes x)) _ _ s
  refine wpAny_noted ?_
  rw [compTurn_list]
  refine wpAny_bind (wpAny_standAt (wpAny_bind (never_to (wpAny_mono (turn n s hI) (fun r s₁ h₁ => ?_) fun _ _ h' => h'))))
  cases r with
  | none => exact wpAny_pure h₁
  | some v =>
    refine wpAny_bind (wpAny_mono h₁ (fun _ s₁' h₁' => ?_) fun _ _ h' => False.elim h')
    refine wpAny_bind (wpAny_mono h₁' (fun _ s₂ h₂ => wpAny_bind (wpAny_mono h₂ (fun ok s₃ h₃ => ?_) fun _ _ h' => False.elim h')) fun _ _ h' => False.elim h')
    cases ok with
    | false => exact wpAny_pure ⟨rfl, h₃⟩
    | true => exact wpAny_bind (wpAny_bind (wpAny_mono h₃ (fun x s₄ h₄ => wpAny_bind (wpAny_mono h₄ (fun _ s₅ h₅ => wpAny_pure (wpAny_pure ⟨rfl, h₅⟩)) fun _ _ h' => False.elim h')) fun _ _ h' => False.elim h'))

/-- a turn's end -/
noncomputable def CEnd (h₀ : Heap) (L : Addr) (m : Str → Option Value) (s₁ : Shared) (own : List (Addr × Obj)) (C : Addr) (oC : Obj) (D : Addr) (oD : Obj) (M₀ : Addr) (rest : Value → List (Addr × Obj) → Prop) (y : Value) (s₂ : Shared) : Prop :=
  ∃ h' tk n', s₂ = { s₁ with heap := h', toks := tk } ∧ Fr h₀ L h' m ∧ News h₀ L h' ((C, oC) :: (D, oD) :: (n' ++ own)) ∧ (∀ p ∈ n', p.1 < M₀ ∨ C < p.1) ∧ rest y n'
theorem CEnd.intro {s₁ : Shared} {own all : List (Addr × Obj)} {C D M₀ : Addr} {oC oD : Obj} {rest : Value → List (Addr × Obj) → Prop} {y : Value} {h' : Heap} {tk : Nat} (F : Fr h₀ L h' m) (N : News h₀ L h' all) (n' : List (Addr × Obj))
    (sub : ∀ p ∈ (C, oC) :: (D, oD) :: (n' ++ own), p ∈ all) (off : ∀ p ∈ n', p.1 < M₀ ∨ C < p.1) (r : rest y n') : CEnd h₀ L m s₁ own C oC D oD M₀ rest y { s₁ with heap := h', toks := tk } :=
  ⟨h', tk, n', rfl, F, fun p hp => N p (sub p hp), off, r⟩

inductive CompAt (prog : Program) (w : World) (A : Around) (h₀ : Heap) (L : Addr) (m : Str → Option Value) (env : Env) (elt target : Expr) (ifs : List Expr) (scope : Scope) (cl : List (Str × Addr)) (Fin : Value → Addr → Shared → Prop) (it : Value) (s₂ : Shared) : Prop
  | mk (I : Addr) (fp wr : List Addr) (n : Nat) (P Md : Nat → Value → Heap → Prop) (St : Nat → Heap → Prop) (Pn : Nat → List (Addr × Obj) → (Str → Option Value) → Prop) (news : List (Addr × Obj)) (M₀ : Addr) (J : Nat → List Value → List (Addr × Obj) → Prop)
      (h0 : it = .ref I)
      (h1 : KTurns prog w A target I fp wr n P Md St)
      (h2 : n ≤ sizeLine)
      (h3 : (∀ i (s : Shared) Q E, St i s.heap → Q (.ref I) s → wpAny (model prog w) A (pyIter (.ref I)) Q E s))
      (h4 : St 0 s₂.heap)
      (h5 : (∀ b ∈ fp, b < s₂.heap.objs.size ∧ b ≠ L))
      (h6 : (∀ b ∈ wr, M₀ ≤ b))
      (h7 : L < M₀)
      (h8 : M₀ ≤ s₂.heap.objs.size)
      (h9 : Fr h₀ L s₂.heap m)
      (h10 : News h₀ L s₂.heap news)
      (h11 : (∀ p ∈ news, p.1 < M₀))
      (h12 : J 0 [] news)
      (h13 : (∀ i v ys n₁ C m₁ h tk Q, i < n → P i v h → J i ys n₁ → C < h.objs.size → h.Ns C m₁ → News h₀ L h n₁ → (∀ h₃ tk₃ m₂, h₃.Ns C m₂ → Pn i n₁ m₂ → (∀ b o, b ≠ C → h.get? b = some o → h₃.get? b = some o) → Q () { s₂ with heap := h₃, toks := tk₃ }) → wpAny (model prog w) A (assign target (compEnvC scope cl C env) v) Q never { s₂ with heap := h, toks := tk }))
      (h14 : (∀ i ys n₁ own C oC D m₂ h tk, i < n → Pn i n₁ m₂ → J i ys n₁ → NsObj oC m₂ → Fr h₀ L h m → News h₀ L h ((C, oC) :: (D, lst ys) :: (n₁ ++ own)) → (∀ p ∈ n₁, p.1 < M₀ ∨ C < p.1) → M₀ ≤ D → D < C → wpAny (model prog w) A (forIn ifs true fun c r => if r = true then do let ok ← isTrue c (compEnvC scope cl C env) (eval c (compEnvC scope cl C env)); pure (ForInStep.yield ok) else pure (ForInStep.yield r)) (fun ok s' => if ok = true then wpAny (model prog w) A (eval elt (compEnvC scope cl C env)) (CEnd h₀ L m { s₂ with heap := h, toks := tk } own C oC D (lst ys) M₀ (fun y n' => J (i + 1) (ys ++ [y]) n')) never s' else CEnd h₀ L m { s₂ with heap := h, toks := tk } own C oC D (lst ys) M₀ (fun _ n' => J (i + 1) ys n') Value.none s') never { s₂ with heap := h, toks := tk }))
      (h15 : (∀ C oC mC D h tk ys n₁, J n ys n₁ → Fr h₀ L h m → News h₀ L h ((C, oC) :: (D, lst ys) :: n₁) → NsObj oC mC → (∀ p ∈ n₁, p.1 < M₀ ∨ C < p.1) → M₀ ≤ D → D < C → Fin (.ref D) C { s₂ with heap := h, toks := tk })) : CompAt prog w A h₀ L m env elt target ifs scope cl Fin it s₂

theorem comp_block {elt target iter : Expr} {ifs : List Expr} {scope : Scope} {cl : List (Str × Addr)} {pos : Pos} {s₂ : Shared} {it : Value} {RR : Value → Addr → Result → Shared → Prop}
    (hcell : ∀ y ∈ scope.names, y.2 ≠ .cell) (hkind : scope.kind = .function) (hC₂ : CompAt prog w A h₀ L m env elt target ifs scope cl (fun acc C s' => RR acc C (.ok .next) s') it s₂) :
    wpAny (model prog w) A (newList []) (fun acc s₃ => wpAny (model prog w) A (newFunctionEnv scope env.globals cl [] env.qual none .none (some env)) (fun cenv s₄ =>
      codeAny (model prog w) A (.compStart (.ListComp elt [⟨target, iter, ifs, 0⟩] scope pos) 0 it acc { cenv with scope := relabel scope env }) (RR acc cenv.locals) s₄) E s₃) E s₂ := by
  obtain ⟨I, fp, wr, n, P, Md, St, Pn, news, M₀, J, rfl, W, hsz, self, hst, hfp, hwr, hLM, hM, F, N, hnM, j0, asg, turn, done⟩ := hC₂
  refine wpAny_newObj_type (wpAny_newFunctionEnv hcell (by intro y hy; simp at hy) (fun h₁ hns₁ hsb₁ => ?_) hkind)
  dsimp only at hns₁ hsb₁ ⊢
  generalize hH2 : s₂.heap.push { cls := .type "list", dict := none, data := .seq ([] : List Value).toArray } = H2 at hns₁ hsb₁ ⊢
  have hC : H2.objs.size = s₂.heap.objs.size + 1 := by rw [← hH2, Heap.size_push]
  have hDlt : s₂.heap.objs.size < H2.objs.size := by rw [hC]; exact Nat.lt_succ_self _
  have lo : ∀ b, b < s₂.heap.objs.size → b ≠ H2.objs.size := fun b hb => Nat.ne_of_lt (Nat.lt_trans hb hDlt)
  have old : ∀ b o, s₂.heap.get? b = some o → h₁.get? b = some o := fun b o e => hsb₁.extBut b o (lo b (Heap.lt_size e)) (Heap.get?_push_of_some _ (hH2 ▸ Heap.get?_push_of_some _ e))
  have hacc : h₁.get? s₂.heap.objs.size = some (lst []) := hsb₁.extBut _ _ (Nat.ne_of_lt hDlt) (Heap.get?_push_of_some _ (hH2 ▸ Heap.get?_push_size _ rfl))
  have hst₁ : St 0 h₁ := W.frame _ _ _ hst fun b _ o e => old b o e
  have fresh₀ : ∀ a, M₀ ≤ a → h₀.get? a = none := fun a ha => Heap.get?_none_of_le (Nat.le_trans F.above (Nat.le_of_lt (Nat.lt_of_lt_of_le hLM ha)))
  have hDM : M₀ ≤ s₂.heap.objs.size := hM
  have hCM : M₀ ≤ H2.objs.size := Nat.le_trans hDM (Nat.le_of_lt hDlt)
  have hLD : s₂.heap.objs.size ≠ L := Nat.ne_of_gt (Nat.lt_of_lt_of_le hLM hDM)
  have hLC : H2.objs.size ≠ L := Nat.ne_of_gt (Nat.lt_of_lt_of_le hLM hCM)
  have hLw : L ∉ wr := fun q => Nat.lt_irrefl _ (Nat.lt_of_lt_of_le hLM (hwr L q))
  have hLf : L ∉ fp := fun q => (hfp L q).2 rfl
  have hw0 : ∀ b o, h₀.get? b = some o → b ∉ wr := fun b o e q => by rw [fresh₀ b (hwr b q)] at e; cases e
  have hDf : s₂.heap.objs.size ∉ fp := fun q => Nat.lt_irrefl _ (hfp _ q).1
  have hCf : H2.objs.size ∉ fp := fun q => Nat.lt_irrefl _ (Nat.lt_trans (hfp _ q).1 hDlt)
  have hwlt : ∀ b ∈ wr, b < s₂.heap.objs.size := fun b q => (hfp b (W.sub b q)).1
  generalize hDe : s₂.heap.objs.size = D at hDlt lo hacc hDM hLD hDf hwlt
  generalize hCe : H2.objs.size = C at hDlt lo hns₁ hsb₁ hCM hLC hCf
  have offw : ∀ {p : Addr}, (p < M₀ ∨ C < p) → p ∉ wr := fun h q => by
    rcases h with h | h
    · exact Nat.lt_irrefl _ (Nat.lt_of_lt_of_le h (hwr _ q))
    · exact Nat.lt_irrefl _ (Nat.lt_trans h (Nat.lt_trans (hwlt _ q) hDlt))
  have offC : ∀ {p : Addr}, (p < M₀ ∨ C < p) → p ≠ C := fun h => by
    rcases h with h | h
    · exact Nat.ne_of_lt (Nat.lt_of_lt_of_le h hCM)
    · exact Nat.ne_of_gt h
  have offD : ∀ {p : Addr}, (p < M₀ ∨ C < p) → p ≠ D := fun h => by
    rcases h with h | h
    · exact Nat.ne_of_lt (Nat.lt_of_lt_of_le h hDM)
    · exact Nat.ne_of_gt (Nat.lt_trans hDlt h)
  have next : ∀ {h h' : Heap} {n₁ : List (Addr × Obj)} {ys : List Value} {m₁ : Str → Option Value}, Fr h₀ L h m → News h₀ L h ((D, lst ys) :: n₁) → (∀ p ∈ n₁, p.1 < M₀ ∨ C < p.1) → h.Ns C m₁ → (∀ b o, b ∉ wr → h.get? b = some o → h'.get? b = some o) →
      Fr h₀ L h' m ∧ News h₀ L h' ((D, lst ys) :: n₁) ∧ h'.Ns C m₁ := fun {h h' n₁ ys m₁} F' N' o' hn' hk =>
    ⟨⟨F'.ns.at' fun o e => hk _ o hLw e, fun b o e => hk b o (hw0 b o e) (F'.keep b o e), F'.above⟩, fun p hp => ⟨hk _ _ (by
      rcases List.mem_cons.mp hp with rfl | hp
      · exact fun q => hDf (W.sub _ q)
      · exact offw (o' p hp)) (N' p hp).1, (N' p hp).2⟩, hn'.at' fun o e => hk _ o (fun q => hCf (W.sub _ q)) e⟩
  have loop : ∀ s₃ : Shared, s₃ = { s₂ with heap := h₁, toks := s₂.toks + ([] : List (Str × Value)).length } →
      codeAny (model prog w) A (.compLoop (.ListComp elt [⟨target, iter, ifs, 0⟩] scope pos) 0 (.ref I) (.ref D) (compEnvC scope cl C env)) (RR (.ref D) C) s₃ := by
    rintro s₃ rfl
    refine comp_loop (fun k s' => ∃ h' tk i ys m' n', s' = { s₂ with heap := h', toks := tk } ∧ i ≤ n ∧ k = n + 1 - i ∧ ys.length ≤ i ∧ St i h' ∧ Fr h₀ L h' m ∧ h'.Ns C m' ∧ News h₀ L h' ((D, lst ys) :: n') ∧ (∀ p ∈ n', p.1 < M₀ ∨ C < p.1) ∧ J i ys n') ?_ (n + 1)
      ⟨h₁, _, 0, [], _, news, rfl, Nat.zero_le _, rfl, Nat.le_refl _, hst₁, F.keeps old, hns₁, fun p hp => ?_, fun p hp => .inl (hnM p hp), j0⟩
    · rintro k s' ⟨h', tk, i, ys, m', n', rfl, hi, rfl, hyl, hst', F', hn', N', o', j⟩
      by_cases hlt : i < n
      · refine W.item i _ _ _ hlt hst' fun v h₂ tk₂ hm₂ hk₂ => ?_
        obtain ⟨F₂, N₂, hn₂⟩ := next F' N' o' hn' hk₂
        refine W.go i v _ _ _ hm₂ fun h₃ hP₃ st₃ hk₃ => ?_
        obtain ⟨F₃, N₃, hn₃⟩ := next F₂ N₂ o' hn₂ hk₃
        refine asg i v ys n' C _ h₃ _ _ hlt hP₃ j hn₃.lt hn₃ (fun p hp => N₃ p (.tail _ hp)) fun h₄ tk₄ m₄ hn₄ hPn hk₄ => ?_
        obtain ⟨oC, heC, hoC⟩ := ns_obj hn₄
        have hC₀ := fresh₀ C hCM
        have F₄ : Fr h₀ L h₄ m := ⟨F₃.ns.at' fun o e => hk₄ _ o (Ne.symm hLC) e, fun b o e => hk₄ b o (fun q => by rw [q, hC₀] at e; cases e) (F₃.keep b o e), F₃.above⟩
        have st₄ : St (i + 1) h₄ := W.frame _ _ _ st₃ fun b hb o e => hk₄ b o (fun q => hCf (q ▸ hb)) e
        have N₄ : News h₀ L h₄ ((C, oC) :: (D, lst ys) :: (n' ++ PyProof.Rows.ownOf h₀ fp h₄)) := fun p hp => by
          rcases List.mem_cons.mp hp with rfl | hp
          · exact ⟨heC, hLC, hC₀⟩
          · rcases List.mem_cons.mp hp with rfl | hp
            · exact ⟨hk₄ _ _ (Nat.ne_of_lt hDlt) (N₃ _ (.head _)).1, (N₃ _ (.head _)).2⟩
            · rcases List.mem_append.mp hp with hp | hp
              · exact ⟨hk₄ _ _ (offC (o' p hp)) (N₃ _ (.tail _ hp)).1, (N₃ _ (.tail _ hp)).2⟩
              · exact news_ownOf hLf p hp
        have stay : ∀ {h₅ : Heap} {n₅ : List (Addr × Obj)} {ys'}, Fr h₀ L h₅ m → News h₀ L h₅ ((C, oC) :: (D, ys') :: (n₅ ++ PyProof.Rows.ownOf h₀ fp h₄)) → St (i + 1) h₅ := fun {h₅ n₅ ys'} F₅ N₅ => W.frame _ _ _ st₄ fun b hb o e => by
          cases hn0 : h₀.get? b with
          | none => exact (N₅ _ (.tail _ (.tail _ (List.mem_append_right _ (mem_ownOf hb hn0 e))))).1
          | some o₀ =>
            have := F₄.keep b o₀ hn0
            rw [e] at this
            cases this
            exact F₅.keep b o hn0
        refine wpAny_mono (turn i ys n' _ C oC D m₄ h₄ tk₄ hlt hPn j hoC F₄ N₄ o' hDM hDlt) (fun ok s₅ h₅ => ?_) fun _ _ e => e
        cases ok with
        | true =>
          simp only [if_true] at h₅ ⊢
          refine wpAny_mono h₅ (fun y s₆ h₆ => ?_) fun _ _ e => e
          obtain ⟨h₇, tk₇, n₇, rfl, F₇, N₇, o₇, j₇⟩ := h₆
          refine append_at (hsz := by show ys.toArray.size ≤ sizeLine; rw [List.size_toArray]; exact Nat.le_trans (Nat.le_trans hyl hi) hsz) (N₇ _ (.tail _ (.head _))).1 fun h₈ hs₈ hD₈ => ?_
          have hD₀ := fresh₀ D hDM
          refine ⟨n + 1 - (i + 1), by omega, h₈, tk₇, i + 1, ys ++ [y], _, n₇, rfl, hlt, rfl, by rw [List.length_append, List.length_singleton]; exact Nat.succ_le_succ hyl, W.frame _ _ _ (stay F₇ N₇) fun b hb o e => hs₈.extBut b o (fun q => hDf (q ▸ hb)) e, F₇.change hs₈ hLD hD₀,
            (hoC.ns (N₇ _ (.head _)).1).sameBut hs₈ (Nat.ne_of_gt hDlt), fun p hp => ?_, o₇, j₇⟩
          rcases List.mem_cons.mp hp with rfl | hp
          · exact ⟨hD₈.trans (congrArg some (lst_snoc ys y)), hLD, hD₀⟩
          · have z := N₇ p (.tail _ (.tail _ (List.mem_append_left _ hp)))
            exact ⟨hs₈.extBut _ _ (offD (o₇ p hp)) z.1, z.2⟩
        | false =>
          simp only [Bool.false_eq_true, if_false] at h₅ ⊢
          obtain ⟨h₇, tk₇, n₇, rfl, F₇, N₇, o₇, j₇⟩ := h₅
          refine ⟨n + 1 - (i + 1), by omega, h₇, tk₇, i + 1, ys, _, n₇, rfl, hlt, rfl, Nat.le_succ_of_le hyl, stay F₇ N₇, F₇, hoC.ns (N₇ _ (.head _)).1, fun p hp => ?_, o₇, j₇⟩
          rcases List.mem_cons.mp hp with rfl | hp
          · exact N₇ _ (.tail _ (.head _))
          · exact N₇ p (.tail _ (.tail _ (List.mem_append_left _ hp)))
      · obtain rfl : i = n := Nat.le_antisymm hi (Nat.not_lt.mp hlt)
        refine W.done _ _ _ hst' fun h₂ tk₂ hk₂ => ?_
        obtain ⟨F₂, N₂, hn₂⟩ := next F' N' o' hn' hk₂
        obtain ⟨oC, heC, hoC⟩ := ns_obj hn₂
        refine done C oC _ D h₂ tk₂ ys n' j F₂ (fun p hp => ?_) hoC o' hDM hDlt
        rcases List.mem_cons.mp hp with rfl | hp
        · exact ⟨heC, hLC, fresh₀ C hCM⟩
        · exact N₂ p hp
    · rcases List.mem_cons.mp hp with rfl | hp
      · exact ⟨hacc, hLD, fresh₀ D hDM⟩
      · exact ⟨old _ _ (N p hp).1, (N p hp).2⟩
  subst hDe hCe
  exact codeAny_compStart_list (loop _ rfl) (self 0 _ _ _ hst₁ (loop _ rfl))
end
open LCg in
section
variable {prog : Program} {w : World} {A : Around} {E : Value → Shared → Prop} {s : Shared} {h₀ : Heap} {L : Addr} {m : Str → Option Value} {env : Env}

/-- behind the block: its frame goes -/
noncomputable def COut (Q : Value → Shared → Prop) (acc : Value) (C : Addr) (s' : Shared) : Prop := ∃ m, s'.heap.Ns C m ∧ ∀ h', Heap.SameBut C s'.heap h' → Q acc { s' with heap := h' }
theorem COut.intro {Q : Value → Shared → Prop} {acc : Value} {C : Addr} {oC : Obj} {mC : Str → Option Value} {all : List (Addr × Obj)} {h : Heap} {tk : Nat} (hoC : NsObj oC mC) (F : Fr h₀ L h m) (N : News h₀ L h all) (hC : (C, oC) ∈ all) (n' : List (Addr × Obj)) (sub : ∀ p ∈ n', p ∈ all)
    (off : ∀ p ∈ n', p.1 ≠ C) (k : ∀ h', Fr h₀ L h' m → News h₀ L h' n' → Q acc { s with heap := h', toks := tk }) : COut Q acc C { s with heap := h, toks := tk } :=
  ⟨mC, hoC.ns (N _ hC).1, fun h' hs => k h' (F.change hs (N _ hC).2.1 (N _ hC).2.2) fun p hp => ⟨hs.extBut _ _ (off p hp) (N p (sub p hp)).1, (N p (sub p hp)).2⟩⟩

theorem comp_eval {elt target iter : Expr} {ifs : List Expr} {scope : Scope} {cl : List (Str × Addr)} {pos : Pos} {Q : Value → Shared → Prop} (_F : Fr h₀ L s.heap m)
    (hclos : closureFor scope env = pure cl) (hcell : ∀ y ∈ scope.names, y.2 ≠ .cell) (hkind : scope.kind = .function) (hnames : ∀ y ∈ scope.names, y.2 = .local → scope.names.lookup y.1 = some .local)
    (h : wpAny (model prog w) A (eval iter env) (fun xv s₁ => wpAny (model prog w) A (pyIter xv) (fun it s₂ => CompAt prog w A h₀ L m env elt target ifs scope cl (COut Q) it s₂) E s₁) E s)
    (hs : ∀ x, foldedSetIterable iter env x = pure x := by intro _; rfl) :
    wpAny (model prog w) A (eval (.ListComp elt [⟨target, iter, ifs, 0⟩] scope pos) env) Q E s := by
  rw [eval_ListComp]
  refine wpAny_comprehension_free (use := none) rfl hs hclos hkind hnames (wpAny_mono h (fun xv s₁ h₁ => wpAny_mono h₁ (fun it s₂ h₂ => ?_) fun _ _ e => e) fun _ _ e => e)
  exact comp_block hcell hkind h₂

theorem comp_assign {elt target iter : Expr} {ifs : List Expr} {y : Str} {py : Pos} {scope : Scope} {cl : List (Str × Addr)} {pos spos : Pos} {Q : Flow → Shared → Prop} (_F : Fr h₀ L s.heap m)
    (hsw : swapsWith (.ListComp elt [⟨target, iter, ifs, 0⟩] scope pos) (some (.Name y py)) spos.line env = pure true)
    (hclos : closureFor scope env = pure cl) (hcell : ∀ y ∈ scope.names, y.2 ≠ .cell) (hkind : scope.kind = .function) (hnames : ∀ y ∈ scope.names, y.2 = .local → scope.names.lookup y.1 = some .local)
    (h : wpAny (model prog w) A (eval iter env) (fun xv s₁ => wpAny (model prog w) A (pyIter xv) (fun it s₂ => CompAt prog w A h₀ L m env elt target ifs scope cl
      (fun acc C s' => wpAny (model prog w) A (assign (.Name y py) env acc) (fun _ s'' => COut (fun _ s' => Q .next s') .none C s'') E s') it s₂) E s₁) E s)
    (hs : ∀ x, foldedSetIterable iter env x = pure x := by intro _; rfl) :
    wpAny (model prog w) A (exec (.Assign [.Name y py] (.ListComp elt [⟨target, iter, ifs, 0⟩] scope pos) spos) env) Q E s := by
  rw [exec_Assign_Name_used _ _ _ _ hsw]
  refine wpAny_bind (wpAny_standAt (wpAny_bind ?_))
  show wpAny _ A (do let _ ← comprehension (.ListComp elt [⟨target, iter, ifs, 0⟩] scope pos) scope env _ (newList []) false (eval iter env) (some (assign (.Name y py) env))) _ _ s
  refine wpAny_bind (wpAny_mono (wpAny_comprehension_free (use := some (assign (.Name y py) env)) (Q := fun _ s' => Q .next s') rfl hs hclos hkind hnames
    (wpAny_mono h (fun xv s₁ h₁ => wpAny_mono h₁ (fun it s₂ h₂ => ?_) fun _ _ e => e) fun _ _ e => e)) (fun _ s' hq => wpAny_pure (wpAny_pure hq)) fun _ _ e => e)
  exact comp_block hcell hkind h₂

/-- the turn of a block -/
noncomputable def CTurn (prog : Program) (w : World) (A : Around) (h₀ : Heap) (L : Addr) (m : Str → Option Value) (env : Env) (elt : Expr) (ifs : List Expr) (scope : Scope) (cl : List (Str × Addr)) (s₂ : Shared) (n : Nat) (M₀ : Addr) (Pn : Nat → List (Addr × Obj) → (Str → Option Value) → Prop)
    (J : Nat → List Value → List (Addr × Obj) → Prop) : Prop :=
  ∀ i ys n₁ own C oC D m₂ h tk, i < n → Pn i n₁ m₂ → J i ys n₁ → NsObj oC m₂ → Fr h₀ L h m → News h₀ L h ((C, oC) :: (D, lst ys) :: (n₁ ++ own)) → (∀ p ∈ n₁, p.1 < M₀ ∨ C < p.1) → M₀ ≤ D → D < C →
    wpAny (model prog w) A (forIn ifs true fun c r => if r = true then do let ok ← isTrue c (compEnvC scope cl C env) (eval c (compEnvC scope cl C env)); pure (ForInStep.yield ok) else pure (ForInStep.yield r)) (fun ok s' =>
      if ok = true then wpAny (model prog w) A (eval elt (compEnvC scope cl C env)) (CEnd h₀ L m { s₂ with heap := h, toks := tk } own C oC D (lst ys) M₀ (fun y n' => J (i + 1) (ys ++ [y]) n')) never s'
      else CEnd h₀ L m { s₂ with heap := h, toks := tk } own C oC D (lst ys) M₀ (fun _ n' => J (i + 1) ys n') Value.none s') never { s₂ with heap := h, toks := tk }
noncomputable def CDone (h₀ : Heap) (L : Addr) (m : Str → Option Value) (s₂ : Shared) (n : Nat) (M₀ : Addr) (J : Nat → List Value → List (Addr × Obj) → Prop) (Fin : Value → Addr → Shared → Prop) : Prop :=
  ∀ C oC mC D h tk ys n₁, J n ys n₁ → Fr h₀ L h m → News h₀ L h ((C, oC) :: (D, lst ys) :: n₁) → NsObj oC mC → (∀ p ∈ n₁, p.1 < M₀ ∨ C < p.1) → M₀ ≤ D → D < C → Fin (.ref D) C { s₂ with heap := h, toks := tk }

noncomputable def CTurnAll (prog : Program) (w : World) (A : Around) (h₀ : Heap) (L : Addr) (m : Str → Option Value) (env : Env) (elt : Expr) (ifs : List Expr) (scope : Scope) (cl : List (Str × Addr)) (s : Shared) (news : List (Addr × Obj)) (n : Nat)
    (Pn : Nat → List (Addr × Obj) → (Str → Option Value) → Prop) (J : Nat → List Value → List (Addr × Obj) → Prop) : Prop :=
  ∀ s₂ : Shared, (∃ h, s₂ = { s with heap := h }) → ∀ M₀, (∀ p ∈ news, p.1 < M₀) → CTurn prog w A h₀ L m env elt ifs scope cl s₂ n M₀ Pn J
noncomputable def CDoneAll (h₀ : Heap) (L : Addr) (m : Str → Option Value) (s : Shared) (news : List (Addr × Obj)) (n : Nat) (J : Nat → List Value → List (Addr × Obj) → Prop) (Fin : Value → Addr → Shared → Prop) : Prop :=
  ∀ s₂ : Shared, (∃ h, s₂ = { s with heap := h }) → ∀ M₀, (∀ p ∈ news, p.1 < M₀) → CDone h₀ L m s₂ n M₀ J Fin
noncomputable abbrev tupO (v₁ v₂ : Value) : Obj := { cls := .type "tuple", data := .seq #[v₁, v₂] }
noncomputable def PnPair (vs : List Value) (x x₂ : Str) (i : Nat) (n₁ : List (Addr × Obj)) (m₂ : Str → Option Value) : Prop := ∃ t v₁ v₂, vs[i]? = some (.ref t) ∧ (t, tupO v₁ v₂) ∈ n₁ ∧ m₂ x = some v₁ ∧ m₂ x₂ = some v₂
noncomputable def PnName (vs : List Value) (x : Str) (i : Nat) (_ : List (Addr × Obj)) (m₂ : Str → Option Value) : Prop := ∃ v, vs[i]? = some v ∧ m₂ x = some v

theorem asg_comp_pair {x₁ x₂ : Str} {p₁ p₂ pt : Pos} {k : Nat} {T C : Addr} {v₁ v₂ : Value} {m₁ : Str → Option Value} {scope : Scope} {cl : List (Str × Addr)} {Q : Unit → Shared → Prop} (hh : A.handled = none) (hkind : scope.kind = .function)
    (hx₁ : scope.names.lookup x₁ = some .local) (hx₂ : scope.names.lookup x₂ = some .local) (hxx : x₁ ≠ x₂) (hT : IsTup s.heap T #[v₁, v₂]) (hn : s.heap.Ns C m₁)
    (h : ∀ h₃ tk₃ m₂, h₃.Ns C m₂ → (m₂ x₁ = some v₁ ∧ m₂ x₂ = some v₂) → (∀ b o, b ≠ C → s.heap.get? b = some o → h₃.get? b = some o) → Q () { s with heap := h₃, toks := tk₃ }) :
    wpAny (model prog w) A (assign (.Tuple [.Name x₁ p₁, .Name x₂ p₂] k pt) (compEnvC scope cl C env) (.ref T)) Q E s := by
  refine assign_Tuple_tuple hh hT rfl rfl fun h₅ he => ?_
  have he' : ∀ b o, s.heap.get? b = some o → h₅.get? b = some o := fun b o e => he b o (Nat.ne_of_lt (Heap.lt_size e)) e
  refine assignInOrder_cons (wpAny_assign_Name (wpAny_storeName_local (lookup_relabel_local hx₁) (hn.at' fun o e => he' _ o e) (fun h₆ hn₆ hs₆ => ?_) (by simp [compEnvC, relabel, hkind])))
  refine assignInOrder_cons (wpAny_assign_Name (wpAny_storeName_local (lookup_relabel_local hx₂) hn₆ (fun h₃ hn₃ hs₃ => ?_) (by simp [compEnvC, relabel, hkind])))
  refine assignInOrder_nil (h _ _ _ hn₃ ⟨by simp [hxx], by simp⟩ fun b o hb e => hs₃.extBut b o hb (hs₆.extBut b o hb (he' b o e)))

theorem asg_comp_name {x : Str} {px : Pos} {C : Addr} {v : Value} {m₁ : Str → Option Value} {scope : Scope} {cl : List (Str × Addr)} {Q : Unit → Shared → Prop} (hkind : scope.kind = .function) (hx : scope.names.lookup x = some .local) (hn : s.heap.Ns C m₁)
    (h : ∀ h₃ tk₃ m₂, h₃.Ns C m₂ → m₂ x = some v → (∀ b o, b ≠ C → s.heap.get? b = some o → h₃.get? b = some o) → Q () { s with heap := h₃, toks := tk₃ }) :
    wpAny (model prog w) A (assign (.Name x px) (compEnvC scope cl C env) v) Q E s :=
  wpAny_assign_Name (wpAny_storeName_local (lookup_relabel_local hx) hn (fun h₆ hn₆ hs₆ => h _ _ _ hn₆ (by simp) fun b o hb e => hs₆.extBut b o hb e) (by simp [compEnvC, relabel, hkind]))

/-- a block over a list of the ledger, its items pairs -/
theorem iter_pairs {elt : Expr} {x₁ x₂ : Str} {p₁ p₂ pt : Pos} {k : Nat} {ifs : List Expr} {scope : Scope} {cl : List (Str × Addr)} {Fin : Value → Addr → Shared → Prop} {ax : Addr} {vs : List Value} {nk : Nat} {news : List (Addr × Obj)}
    (J : Nat → List Value → List (Addr × Obj) → Prop) (hh : A.handled = none) (hkind : scope.kind = .function) (hx₁ : scope.names.lookup x₁ = some .local) (hx₂ : scope.names.lookup x₂ = some .local) (hxx : x₁ ≠ x₂)
    (F : Fr h₀ L s.heap m) (N : News h₀ L s.heap news) (hm : (ax, listOf vs.toArray nk) ∈ news) (hsz : vs.length ≤ sizeLine) (j0 : J 0 [] news)
    (tup : ∀ i v ys n, vs[i]? = some v → J i ys n → ∃ t v₁ v₂, v = .ref t ∧ (t, tupO v₁ v₂) ∈ n)
    (turn : CTurnAll prog w A h₀ L m env elt ifs scope cl s news vs.length (PnPair vs x₁ x₂) J)
    (done : CDoneAll h₀ L m s news vs.length J Fin) :
    wpAny (model prog w) A (pyIter (.ref ax)) (fun it s₂ => CompAt prog w A h₀ L m env elt (.Tuple [.Name x₁ p₁, .Name x₂ p₂] k pt) ifs scope cl Fin it s₂) E s := by
  have hl : s.heap.IsList ax vs.toArray := N.isList hm
  have hlt : ax < s.heap.objs.size := Heap.lt_size (N _ hm).1
  refine wpAny_pyIter_list hl ?_
  have up : ∀ b o, s.heap.get? b = some o → (s.heap.push { cls := .type "list_iterator", data := .fields #[.ref ax, .int 0 0] }).get? b = some o := fun b o e => Heap.get?_push_of_some _ e
  have W := (Walks.list (prog := prog) (w := w) hh s.heap.objs.size ax (Nat.ne_of_lt hlt) vs.toArray)
  have hlN : ∀ p ∈ news, p.1 < s.heap.objs.size := fun p hp => Heap.lt_size (N p hp).1
  have es : vs.toArray.size = vs.length := List.size_toArray
  have W' := KTurns.ofWalks (target := .Tuple [.Name x₁ p₁, .Name x₂ p₂] k pt) W (fun i v s Q E st hQ => by
    cases v with
    | ref T => exact wpAny_letOwnedTupleGo_listiter st.1 hQ
    | _ => exact wpAny_pure hQ)
  refine ⟨_, _, _, _, _, _, _, PnPair vs x₁ x₂, news, s.heap.objs.size, J, rfl, W', by rw [es]; exact hsz, W.self, ⟨⟨_, Heap.get?_push_size _ rfl, rfl, rfl⟩, hl.push _⟩, fun b hb => ?_, fun b hb => Nat.le_of_eq (List.mem_singleton.mp hb).symm, F.ns.lt, by rw [Heap.size_push]; exact Nat.le_succ _,
    F.keeps up, N.grown up, hlN, j0, ?_, by rw [es]; exact turn _ ⟨_, rfl⟩ _ hlN, by rw [es]; exact done _ ⟨_, rfl⟩ _ hlN⟩
  · rcases List.mem_cons.mp hb with rfl | hb
    · exact ⟨by rw [Heap.size_push]; exact Nat.lt_succ_self _, Nat.ne_of_gt F.ns.lt⟩
    · cases List.mem_singleton.mp hb
      exact ⟨by rw [Heap.size_push]; exact Nat.lt_succ_of_lt hlt, (N _ hm).2.1⟩
  · intro i v ys n₁ C m₁ h tk Q hi hP j hC hn N₁ k
    have hP' : vs[i]? = some v := by simpa using hP
    obtain ⟨t, v₁, v₂, rfl, ht⟩ := tup i v ys n₁ hP' j
    exact asg_comp_pair hh hkind hx₁ hx₂ hxx ⟨_, (N₁ _ ht).1, rfl, _, rfl⟩ hn fun h₃ tk₃ m₂ hn₃ hm₂ hk₃ => k h₃ tk₃ m₂ hn₃ ⟨t, v₁, v₂, hP', ht, hm₂⟩ hk₃

/-- a block over a list of the ledger -/
theorem iter_names {elt : Expr} {x : Str} {px : Pos} {ifs : List Expr} {scope : Scope} {cl : List (Str × Addr)} {Fin : Value → Addr → Shared → Prop} {ax : Addr} {vs : List Value} {nk : Nat} {news : List (Addr × Obj)}
    (J : Nat → List Value → List (Addr × Obj) → Prop) (hh : A.handled = none) (hkind : scope.kind = .function) (hx : scope.names.lookup x = some .local)
    (F : Fr h₀ L s.heap m) (N : News h₀ L s.heap news) (hm : (ax, listOf vs.toArray nk) ∈ news) (hsz : vs.length ≤ sizeLine) (j0 : J 0 [] news)
    (turn : CTurnAll prog w A h₀ L m env elt ifs scope cl s news vs.length (PnName vs x) J)
    (done : CDoneAll h₀ L m s news vs.length J Fin) :
    wpAny (model prog w) A (pyIter (.ref ax)) (fun it s₂ => CompAt prog w A h₀ L m env elt (.Name x px) ifs scope cl Fin it s₂) E s := by
  have hl : s.heap.IsList ax vs.toArray := N.isList hm
  have hlt : ax < s.heap.objs.size := Heap.lt_size (N _ hm).1
  refine wpAny_pyIter_list hl ?_
  have up : ∀ b o, s.heap.get? b = some o → (s.heap.push { cls := .type "list_iterator", data := .fields #[.ref ax, .int 0 0] }).get? b = some o := fun b o e => Heap.get?_push_of_some _ e
  have W := (Walks.list (prog := prog) (w := w) hh s.heap.objs.size ax (Nat.ne_of_lt hlt) vs.toArray)
  have hlN : ∀ p ∈ news, p.1 < s.heap.objs.size := fun p hp => Heap.lt_size (N p hp).1
  have es : vs.toArray.size = vs.length := List.size_toArray
  have W' := KTurns.ofWalks (target := .Name x px) W (fun i v s Q E st hQ => letgo_name hQ)
  refine ⟨_, _, _, _, _, _, _, PnName vs x, news, s.heap.objs.size, J, rfl, W', by rw [es]; exact hsz, W.self, ⟨⟨_, Heap.get?_push_size _ rfl, rfl, rfl⟩, hl.push _⟩, fun b hb => ?_, fun b hb => Nat.le_of_eq (List.mem_singleton.mp hb).symm, F.ns.lt, by rw [Heap.size_push]; exact Nat.le_succ _,
    F.keeps up, N.grown up, hlN, j0, ?_, by rw [es]; exact turn _ ⟨_, rfl⟩ _ hlN, by rw [es]; exact done _ ⟨_, rfl⟩ _ hlN⟩
  · rcases List.mem_cons.mp hb with rfl | hb
    · exact ⟨by rw [Heap.size_push]; exact Nat.lt_succ_self _, Nat.ne_of_gt F.ns.lt⟩
    · cases List.mem_singleton.mp hb
      exact ⟨by rw [Heap.size_push]; exact Nat.lt_succ_of_lt hlt, (N _ hm).2.1⟩
  · intro i v ys n₁ C m₁ h tk Q hi hP j hC hn N₁ k
    exact asg_comp_name hkind hx hn fun h₃ tk₃ m₂ hn₃ hm₂ hk₃ => k h₃ tk₃ m₂ hn₃ ⟨v, by simpa using hP, hm₂⟩ hk₃

/-- a block over a range -/
theorem iter_range {elt : Expr} {x : Str} {px : Pos} {ifs : List Expr} {scope : Scope} {cl : List (Str × Addr)} {Fin : Value → Addr → Shared → Prop} {r : Addr} {a b : Int} {t u v : Tok} {n : Nat} {news : List (Addr × Obj)}
    (J : Nat → List Value → List (Addr × Obj) → Prop) (hh : A.handled = none) (hkind : scope.kind = .function) (hx : scope.names.lookup x = some .local)
    (F : Fr h₀ L s.heap m) (N : News h₀ L s.heap news) (hr : IsRange s.heap r a b 1 t u v) (hsm : Builtin.Range.small a b 1 = true) (hrn : Builtin.Range.rangeSize a b 1 = ((n : Nat) : Int)) (hsz : n ≤ sizeLine) (j0 : J 0 [] news)
    (turn : CTurnAll prog w A h₀ L m env elt ifs scope cl s news n (fun i _ m₂ => ∃ t, m₂ x = some (.int (a + (i : Int)) t)) J)
    (done : CDoneAll h₀ L m s news n J Fin) :
    wpAny (model prog w) A (pyIter (.ref r)) (fun it s₂ => CompAt prog w A h₀ L m env elt (.Name x px) ifs scope cl Fin it s₂) E s := by
  refine wpAny_pyIter_range hr hsm ?_
  have up : ∀ b' o, s.heap.get? b' = some o → (s.heap.push { cls := .type "range_iterator", data := .fields #[rawInt a, rawInt (Builtin.Range.rangeSize a b 1), rawInt 1] }).get? b' = some o := fun b o e => Heap.get?_push_of_some _ e
  have hlN : ∀ p ∈ news, p.1 < s.heap.objs.size := fun p hp => Heap.lt_size (N p hp).1
  have W := range_walks (prog := prog) (w := w) (A := A) (I := s.heap.objs.size) hh a n
  have W' := KTurns.ofWalks (target := .Name x px) W (fun i v s Q E st hQ => letgo_name hQ)
  refine ⟨_, _, _, _, _, _, _, (fun i _ m₂ => ∃ t, m₂ x = some (.int (a + (i : Int)) t)), news, s.heap.objs.size, J, rfl, W', hsz, W.self, by show IsRangeIter _ _ _ _ _; rw [hrn]; simpa using Heap.get?_push_size _ rfl, fun b hb => ?_, fun b hb => Nat.le_of_eq (List.mem_singleton.mp hb).symm, F.ns.lt, by rw [Heap.size_push]; exact Nat.le_succ _,
    F.keeps fun _ _ e => Heap.get?_push_of_some _ e, N.grown fun _ _ e => Heap.get?_push_of_some _ e, hlN, j0, ?_, turn _ ⟨_, rfl⟩ _ hlN, done _ ⟨_, rfl⟩ _ hlN⟩
  · cases List.mem_singleton.mp hb
    exact ⟨by rw [Heap.size_push]; exact Nat.lt_succ_self _, Nat.ne_of_gt F.ns.lt⟩
  · intro i v ys n₁ C m₁ h tk Q hi hP j hC hn N₁ k
    obtain ⟨t', rfl⟩ := hP
    exact asg_comp_name hkind hx hn fun h₃ tk₃ m₂ hn₃ hm₂ hk₃ => k h₃ tk₃ m₂ hn₃ ⟨t', hm₂⟩ hk₃
end

end
section
section
variable {prog : Program} {w : World} {A : Around} {E : Value → Shared → Prop} {s : Shared} {env : Env} {h₀ : Heap} {target : Expr} {body : List Stmt} {Q : Flow → Shared → Prop}
theorem items_inv {ws : List (Addr × String)} {keep : List (Addr × Obj)} {vs : List Value} (J : Nat → (Str → Option Value) → List (Addr × Obj) → Prop) (hk : ∀ i m n, J i m n → SubL keep n)
    (turn : ∀ i v T t h tk m n, vs[i]? = some v → J i m n → IsTup h T #[.int (i : Int) t, v] → Fr h₀ env.locals h m → AllObj ws (fun its => News h₀ env.locals h (its ++ n) →
      wpAny (model prog w) A (assign target env (.ref T)) (fun _ s₂ => wpAny (model prog w) A (execs body env) (UnrPostW h₀ env.locals { s with heap := h, toks := tk } its (J (i + 1)) Q) E s₂) E { s with heap := h, toks := tk }))
    (done : ∀ m n h tk, J vs.length m n → Fr h₀ env.locals h m → News h₀ env.locals h n → Q .next { s with heap := h, toks := tk }) :
    ∀ (r : List Value) (i : Nat) m news, vs.drop i = r → i ≤ vs.length → J i m news → ItemsRest prog w A E h₀ env target body Q s ws keep (enumItems i r) m news := by
  intro r
  induction r with
  | nil =>
    intro i m news e hle j
    have hi : vs.length = i := by
      have := congrArg List.length e
      simp only [List.length_drop, List.length_nil] at this
      omega
    subst hi
    exact ItemsRest.zero fun h tk F N => done _ _ h tk j F N
  | cons v r ih =>
    intro i m news e hle j
    have hv : vs[i]? = some v := by
      have := congrArg (·[0]?) e
      simpa using this
    have hr : vs.drop (i + 1) = r := by
      have := congrArg List.tail e
      simpa using this
    have hlt : i < vs.length := (List.getElem?_eq_some_iff.mp hv).1
    refine ItemsRest.pair fun T t h tk hT F => ?_
    have all : ∀ {ws : List (Addr × String)} {k k' : List (Addr × Obj) → Prop}, AllObj ws k → (∀ its, k its → k' its) → AllObj ws k' := by
      intro ws
      induction ws with
      | nil => exact fun a b => b _ a
      | cons w r ih => exact fun a b o hc => ih (a o hc) fun its q => b _ q
    refine all (turn i v T t h tk m news hv j hT F) fun its k N => wpAny_mono (k N) (fun _ s₂ h₂ => wpAny_mono h₂ (fun f s₃ p => ?_) fun _ _ e => e) fun _ _ e => e
    have up : UnrEndW h₀ env.locals { s with heap := h, toks := tk } its (J (i + 1)) s₃ → UnrEndW h₀ env.locals { s with heap := h, toks := tk } its (fun m' n' => SubL keep n' ∧ ItemsRest prog w A E h₀ env target body Q s ws keep (enumItems (i + 1) r) m' n') s₃ := by
      rintro ⟨h', tk', m', n', e, F', N', o, j'⟩
      exact ⟨h', tk', m', n', e, F', N', o, hk _ _ _ j', ih (i + 1) m' n' hr hlt j'⟩
    cases f with
    | ret v => exact p
    | brk => exact p
    | next => exact up p
    | cont => exact up p
end
noncomputable def pickP (ps : List (List Int × List Int)) (place value : Int) : List (List Int × List Int) :=
  (ps.filter fun p => (p.2.any fun x => x == value) == false).map fun p => (p.1 ++ [place], p.2 ++ p.2.map fun x => Builtin.bitXor x value)
noncomputable def setsAt (ns : List Int) : Nat → List (List Int × List Int)
  | 0 => [([], [0])]
  | i + 1 => setsAt ns i ++ pickP (setsAt ns i) (i : Int) (ns.getD i 0)
inductive SetsIn (n : List (Addr × Obj)) : List Value → List (List Int × List Int) → Prop
  | nil : SetsIn n [] []
  | cons {t a b : Addr} {va vb : List Value} {ka kb : Nat} {p : List Int × List Int} {vs : List Value} {ps : List (List Int × List Int)} (ht : (t, tupO (.ref a) (.ref b)) ∈ n) (ha : (a, listOf va.toArray ka) ∈ n) (hia : IntsAre va p.1)
      (hb : (b, listOf vb.toArray kb) ∈ n) (hib : IntsAre vb p.2) (r : SetsIn n vs ps) : SetsIn n (.ref t :: vs) (p :: ps)
theorem SetsIn.mono {n n' : List (Addr × Obj)} {vs : List Value} {ps : List (List Int × List Int)} (x : SetsIn n vs ps) (h : ∀ q ∈ n, q ∈ n') : SetsIn n' vs ps := by
  induction x with
  | nil => exact .nil
  | cons ht ha hia hb hib _ ih => exact .cons (h _ ht) (h _ ha) hia (h _ hb) hib ih
theorem SetsIn.length {n : List (Addr × Obj)} {vs : List Value} {ps : List (List Int × List Int)} (x : SetsIn n vs ps) : vs.length = ps.length := by
  induction x with
  | nil => rfl
  | cons _ _ _ _ _ _ ih => simp only [List.length_cons, ih]
theorem SetsIn.append {n : List (Addr × Obj)} {vs us : List Value} {ps qs : List (List Int × List Int)} (x : SetsIn n vs ps) (y : SetsIn n us qs) : SetsIn n (vs ++ us) (ps ++ qs) := by
  induction x with
  | nil => exact y
  | cons ht ha hia hb hib _ ih => exact .cons ht ha hia hb hib ih
theorem SetsIn.at {n : List (Addr × Obj)} {vs : List Value} {ps : List (List Int × List Int)} (x : SetsIn n vs ps) : ∀ {i : Nat} {v : Value}, vs[i]? = some v →
    ∃ t a b va vb ka kb p, v = .ref t ∧ ps[i]? = some p ∧ (t, tupO (.ref a) (.ref b)) ∈ n ∧ (a, listOf (List.toArray va) ka) ∈ n ∧ IntsAre va p.1 ∧ (b, listOf (List.toArray vb) kb) ∈ n ∧ IntsAre vb p.2 := by
  induction x with
  | nil => intro i v e; simp at e
  | cons ht ha hia hb hib _ ih =>
    intro i v e
    cases i with
    | zero => exact ⟨_, _, _, _, _, _, _, _, (by simpa using e.symm), rfl, ht, ha, hia, hb, hib⟩
    | succ i => exact ih (by simpa using e)
noncomputable def JCh (ns : List Int) (fL I : Addr) (oM : Obj) (m₀ : Str → Option Value) (news₀ : List (Addr × Obj)) (i : Nat) (m' : Str → Option Value) (n' : List (Addr × Obj)) : Prop :=
  ∃ oP oV ext rest S vS kS cP cV, (∀ z, z ≠ Str.ofString "sets" → m' z = m₀ z) ∧ m' (Str.ofString "sets") = some (.ref S) ∧ n' = (fL + 1 + 1 + 1, oM) :: (fL + 1 + 1, oV) :: (fL + 1, oP) :: rest ∧ rest = ext ++ news₀ ∧ oP.data = .cell cP ∧ oV.data = .cell cV ∧
    (S, listOf (List.toArray vS) kS) ∈ rest ∧ SetsIn ext vS (setsAt ns i) ∧ (∀ p ∈ ext, fL + 1 + 1 + 1 < p.1) ∧ (∀ p ∈ rest, p.1 < fL ∨ fL + 1 + 1 + 1 < p.1) ∧ (∀ p ∈ rest, p.1 < I ∨ I + 1 < p.1) ∧ fL + 1 + 1 + 1 < I
theorem map_set {m' m₀ : Str → Option Value} {a : Str} {v : Value} (hz : ∀ z, z ≠ a → m' z = m₀ z) (h : m' a = some v) : m' = fun y => if y = a then some v else m₀ y := by
  funext y
  by_cases h1 : y = a
  · rw [if_pos h1, h1, h]
  · rw [if_neg h1, hz y h1]
theorem JCh.start {ns : List Int} {fL I S0 tD lb la : Addr} {oM oV oP : Obj} {cP cV : Option Value} {m₀ : Str → Option Value} {news₀ : List (Addr × Obj)} {k1 k2 k3 : Nat} {t : Tok} (hs : m₀ (Str.ofString "sets") = some (.ref S0)) (hP : oP.data = .cell cP) (hV : oV.data = .cell cV)
    (h1 : fL + 1 + 1 + 1 < la) (h2 : la < lb) (h3 : lb < tD) (h4 : tD < S0) (hn : ∀ p ∈ news₀, p.1 < fL)
    (hI : ∀ p ∈ (fL + 1 + 1 + 1, oM) :: (fL + 1 + 1, oV) :: (fL + 1, oP) :: (S0, listOf (List.toArray [.ref tD]) k1) :: (tD, tupO (.ref la) (.ref lb)) :: (lb, listOf (List.toArray [.int 0 t]) k2) :: (la, listOf (List.toArray []) k3) :: news₀, p.1 < I) :
    JCh ns fL I oM m₀ news₀ 0 m₀ ((fL + 1 + 1 + 1, oM) :: (fL + 1 + 1, oV) :: (fL + 1, oP) :: (S0, listOf (List.toArray [.ref tD]) k1) :: (tD, tupO (.ref la) (.ref lb)) :: (lb, listOf (List.toArray [.int 0 t]) k2) :: (la, listOf (List.toArray []) k3) :: news₀) := by
  have e0 : ∀ {p q r : Addr}, p < q → q < r → p < r := Nat.lt_trans
  refine ⟨oP, oV, [(S0, listOf (List.toArray [.ref tD]) k1), (tD, tupO (.ref la) (.ref lb)), (lb, listOf (List.toArray [.int 0 t]) k2), (la, listOf (List.toArray []) k3)], _, S0, [.ref tD], k1, cP, cV, fun _ _ => rfl, hs, rfl, rfl, hP, hV, .head _, ?_, ?_, ?_, fun p hp => .inl (hI p (.tail _ (.tail _ (.tail _ hp)))), hI _ (.head _)⟩
  · exact .cons (va := []) (vb := [.int 0 t]) (.tail _ (.head _)) (.tail _ (.tail _ (.tail _ (.head _)))) .nil (.tail _ (.tail _ (.head _))) (.cons _ _ .nil) .nil
  · intro p hp
    rcases List.mem_cons.mp hp with rfl | hp
    · exact e0 h1 (e0 h2 (e0 h3 h4))
    · rcases List.mem_cons.mp hp with rfl | hp
      · exact e0 h1 (e0 h2 h3)
      · rcases List.mem_cons.mp hp with rfl | hp
        · exact e0 h1 h2
        · cases List.mem_singleton.mp hp
          exact h1
  · intro p hp
    rcases List.mem_cons.mp hp with rfl | hp
    · exact .inr (e0 h1 (e0 h2 (e0 h3 h4)))
    · rcases List.mem_cons.mp hp with rfl | hp
      · exact .inr (e0 h1 (e0 h2 h3))
      · rcases List.mem_cons.mp hp with rfl | hp
        · exact .inr (e0 h1 h2)
        · rcases List.mem_cons.mp hp with rfl | hp
          · exact .inr h1
          · exact .inl (hn p hp)
theorem pick_at {h₀ h : Heap} {L : Addr} {all rest : List (Addr × Obj)} {vs : List Value} {ps : List (List Int × List Int)} {i : Nat} {t : Addr} {v₁ v₂ : Value} (N : News h₀ L h all) (x : SetsIn rest vs ps) (hs : ∀ q ∈ rest, q ∈ all) (hi : vs[i]? = some (.ref t)) (ht : (t, tupO v₁ v₂) ∈ all) :
    ∃ a b va vb ka kb p, v₁ = .ref a ∧ v₂ = .ref b ∧ ps[i]? = some p ∧ (a, listOf (List.toArray va) ka) ∈ all ∧ IntsAre va p.1 ∧ (b, listOf (List.toArray vb) kb) ∈ all ∧ IntsAre vb p.2 := by
  obtain ⟨t', a, b, va, vb, ka, kb, p, e, hp, ht', ha, hia, hb, hib⟩ := x.at hi
  cases e
  have e2 : tupO v₁ v₂ = tupO (.ref a) (.ref b) := Option.some.inj ((N _ ht).1.symm.trans (N _ (hs _ ht')).1)
  injection e2 with _ _ e3 _
  injection e3 with e4 _
  injection e4 with e5
  injection e5 with e6 e7
  injection e7 with e8 _
  exact ⟨a, b, va, vb, ka, kb, p, e6, e8, hp, hs _ ha, hia, hs _ hb, hib⟩
noncomputable def JPick (ps : List (List Int × List Int)) (place value : Int) (I : Addr) (e1 e2 e3 e4 e5 : Addr × Obj) (ext rest₀ news₀ : List (Addr × Obj)) (i : Nat) (ys : List Value) (n₁ : List (Addr × Obj)) : Prop :=
  ∃ ext' rest', n₁ = e1 :: e2 :: e3 :: e4 :: e5 :: rest' ∧ rest' = ext' ++ news₀ ∧ SetsIn ext' ys (pickP (ps.take i) place value) ∧ (∀ q ∈ ext, q ∈ ext') ∧ (∀ p ∈ ext', p ∈ ext ∨ I + 1 < p.1) ∧ (∀ q ∈ rest₀, q ∈ rest') ∧ (∀ p ∈ rest', p ∈ rest₀ ∨ I + 1 < p.1)
noncomputable def JXor (ms : List Int) (value : Int) (n₀ : List (Addr × Obj)) (i : Nat) (ys : List Value) (n₁ : List (Addr × Obj)) : Prop := n₁ = n₀ ∧ IntsAre ys ((ms.take i).map fun x => Builtin.bitXor x value)
theorem JXor.start {ms : List Int} {value : Int} {n₀ : List (Addr × Obj)} : JXor ms value n₀ 0 [] n₀ := ⟨rfl, IntsAre.nil⟩
theorem JPick.start {ps : List (List Int × List Int)} {place value : Int} {I : Addr} {e1 e2 e3 e4 e5 : Addr × Obj} {ext rest₀ news₀ : List (Addr × Obj)} (h : rest₀ = ext ++ news₀) : JPick ps place value I e1 e2 e3 e4 e5 ext rest₀ news₀ 0 [] (e1 :: e2 :: e3 :: e4 :: e5 :: rest₀) :=
  ⟨ext, rest₀, rfl, h, .nil, fun _ h => h, fun _ h => .inl h, fun _ h => h, fun _ h => .inl h⟩
theorem mem5 {α : Type} {q a b c d e : α} {r : List α} (h : q ∈ r) : q ∈ a :: b :: c :: d :: e :: r := List.mem_cons_of_mem _ (List.mem_cons_of_mem _ (List.mem_cons_of_mem _ (List.mem_cons_of_mem _ (List.mem_cons_of_mem _ h))))
theorem mem2a {α : Type} {q a b : α} {r o : List α} (h : q ∈ r) : q ∈ a :: b :: (r ++ o) := List.mem_cons_of_mem _ (List.mem_cons_of_mem _ (List.mem_append_left _ h))
theorem sets_pos (ns : List Int) : ∀ i, 0 < (setsAt ns i).length
  | 0 => Nat.zero_lt_one
  | i + 1 => by rw [setsAt, List.length_append]; exact Nat.lt_of_lt_of_le (sets_pos ns i) (Nat.le_add_right _ _)
theorem pick_len (ps : List (List Int × List Int)) (a v : Int) : (pickP ps a v).length ≤ ps.length := by
  unfold pickP
  rw [List.length_map]
  exact List.length_filter_le _ _
theorem sets_len (ns : List Int) : ∀ i, (setsAt ns i).length ≤ 2 ^ i
  | 0 => Nat.le_refl _
  | i + 1 => by
    have h1 := sets_len ns i
    have h2 := pick_len (setsAt ns i) (i : Int) (ns.getD i 0)
    rw [setsAt, List.length_append, Nat.pow_succ]
    omega
theorem sets_bound (ns : List Int) : ∀ i, ∀ p ∈ setsAt ns i, p.1.length ≤ i ∧ p.2.length ≤ 2 ^ i
  | 0, p, h => by
    rw [setsAt, List.mem_singleton] at h
    subst h
    exact ⟨Nat.le_refl _, Nat.le_refl _⟩
  | i + 1, p, h => by
    have ih := sets_bound ns i
    rw [setsAt] at h
    rw [Nat.pow_succ]
    rcases List.mem_append.mp h with h | h
    · have := ih p h
      omega
    · unfold pickP at h
      obtain ⟨q, hq, rfl⟩ := List.mem_map.mp h
      have := ih q (List.mem_filter.mp hq).1
      simp only [List.length_append, List.length_map, List.length_singleton]
      omega
theorem sets_size {ns : List Int} {rest : List (Addr × Obj)} {vS : List Value} {i : Nat} (h : SetsIn rest vS (setsAt ns i)) (hi : i < 6 ∨ i = 6) : vS.length ≤ sizeLine := by
  rw [h.length]
  refine Nat.le_trans (sets_len ns i) (Nat.le_trans (Nat.pow_le_pow_right (by decide) (show i ≤ 6 by omega)) (by decide))
theorem sets_tup {ps : List (List Int × List Int)} {place value : Int} {I : Addr} {e1 e2 e3 e4 e5 : Addr × Obj} {ext rest news₀ n : List (Addr × Obj)} {vs ys : List Value} {i j : Nat} {v : Value} (h : SetsIn rest vs ps) (hv : vs[j]? = some v) (hJ : JPick ps place value I e1 e2 e3 e4 e5 ext rest news₀ i ys n) :
    ∃ t v₁ v₂, v = .ref t ∧ (t, tupO v₁ v₂) ∈ n := by
  obtain ⟨ext', rest', rfl, _, _, _, _, hs, _⟩ := hJ
  obtain ⟨t, a, b, va, vb, ka, kb, p, rfl, _, ht, _⟩ := h.at hv
  exact ⟨t, _, _, rfl, List.Mem.tail _ (List.Mem.tail _ (List.Mem.tail _ (List.Mem.tail _ (List.Mem.tail _ (hs _ ht)))))⟩
theorem pick_next {ps : List (List Int × List Int)} {place value : Int} {j : Nat} {p : List Int × List Int} (h : ps[j]? = some p) :
    pickP (ps.take (j + 1)) place value = pickP (ps.take j) place value ++ (if ((p.2.any fun x => x == value) == false) = true then [(p.1 ++ [place], p.2 ++ p.2.map fun x => Builtin.bitXor x value)] else []) := by
  unfold pickP
  rw [List.take_add_one, h, List.filter_append, List.map_append]
  congr 1
  show List.map _ (List.filter _ [p]) = _
  rw [List.filter_cons, List.filter_nil]
  split <;> rfl
theorem JPick.skip {ps : List (List Int × List Int)} {place value : Int} {I : Addr} {e1 e2 e3 e4 e5 : Addr × Obj} {ext ext' rest₀ rest' news₀ : List (Addr × Obj)} {j : Nat} {ys : List Value} {p : List Int × List Int} (hp : ps[j]? = some p) (h : (p.2.any fun x => x == value) = true)
    (he : rest' = ext' ++ news₀) (hps : SetsIn ext' ys (pickP (ps.take j) place value)) (hsE : ∀ q ∈ ext, q ∈ ext') (hnE : ∀ q ∈ ext', q ∈ ext ∨ I + 1 < q.1) (hs : ∀ q ∈ rest₀, q ∈ rest') (hn : ∀ q ∈ rest', q ∈ rest₀ ∨ I + 1 < q.1) :
    JPick ps place value I e1 e2 e3 e4 e5 ext rest₀ news₀ (j + 1) ys (e1 :: e2 :: e3 :: e4 :: e5 :: rest') :=
  ⟨ext', rest', rfl, he, by rw [pick_next hp, h]; rw [if_neg (by decide), List.append_nil]; exact hps, hsE, hnE, hs, hn⟩
theorem JPick.pick {ps : List (List Int × List Int)} {place value : Int} {I T a b : Addr} {va vb : List Value} {ka kb : Nat} {e1 e2 e3 e4 e5 : Addr × Obj} {ext ext' rest₀ rest' news₀ : List (Addr × Obj)} {j : Nat} {ys : List Value} {p : List Int × List Int} (hp : ps[j]? = some p) (h : (p.2.any fun x => x == value) = false)
    (he : rest' = ext' ++ news₀) (hps : SetsIn ext' ys (pickP (ps.take j) place value)) (hsE : ∀ q ∈ ext, q ∈ ext') (hnE : ∀ q ∈ ext', q ∈ ext ∨ I + 1 < q.1) (hs : ∀ q ∈ rest₀, q ∈ rest') (hn : ∀ q ∈ rest', q ∈ rest₀ ∨ I + 1 < q.1)
    (hT : I + 1 < T) (hA : I + 1 < a) (hB : I + 1 < b) (hia : IntsAre va (p.1 ++ [place])) (hib : IntsAre vb (p.2 ++ p.2.map fun x => Builtin.bitXor x value)) :
    JPick ps place value I e1 e2 e3 e4 e5 ext rest₀ news₀ (j + 1) (ys ++ [.ref T]) (e1 :: e2 :: e3 :: e4 :: e5 :: (T, tupO (.ref a) (.ref b)) :: (a, listOf (List.toArray va) ka) :: (b, listOf (List.toArray vb) kb) :: rest') := by
  have up : ∀ {l : List (Addr × Obj)}, ∀ q ∈ l, q ∈ (T, tupO (.ref a) (.ref b)) :: (a, listOf (List.toArray va) ka) :: (b, listOf (List.toArray vb) kb) :: l := fun q hq => List.mem_cons_of_mem _ (List.mem_cons_of_mem _ (List.mem_cons_of_mem _ hq))
  have new : ∀ {l l' : List (Addr × Obj)}, (∀ q ∈ l, q ∈ l' ∨ I + 1 < q.1) → ∀ q ∈ (T, tupO (.ref a) (.ref b)) :: (a, listOf (List.toArray va) ka) :: (b, listOf (List.toArray vb) kb) :: l, q ∈ l' ∨ I + 1 < q.1 := by
    intro l l' hn q hq
    rcases List.mem_cons.mp hq with rfl | hq
    · exact .inr hT
    · rcases List.mem_cons.mp hq with rfl | hq
      · exact .inr hA
      · rcases List.mem_cons.mp hq with rfl | hq
        · exact .inr hB
        · exact hn q hq
  refine ⟨(T, tupO (.ref a) (.ref b)) :: (a, listOf (List.toArray va) ka) :: (b, listOf (List.toArray vb) kb) :: ext', _, rfl, by rw [he]; rfl, ?_, fun q hq => up q (hsE q hq), new hnE, fun q hq => up q (hs q hq), new hn⟩
  rw [pick_next hp, h]
  rw [if_pos (by decide)]
  exact (hps.mono up).append (.cons (va := va) (vb := vb) (.head _) (.tail _ (.head _)) hia (.tail _ (.tail _ (.head _))) hib .nil)
theorem JXor.next {ms : List Int} {value y : Int} {n₀ : List (Addr × Obj)} {j : Nat} {ys : List Value} {t : Tok} (hy : ms[j]? = some y) (hi : IntsAre ys ((ms.take j).map fun x => Builtin.bitXor x value)) : JXor ms value n₀ (j + 1) (ys ++ [.int (Builtin.bitXor y value) t]) n₀ :=
  ⟨rfl, by rw [List.take_add_one, hy, List.map_append]; exact ints_push hi⟩
theorem sub_refl.tl {p : Addr × Obj} {l : List (Addr × Obj)} : ∀ q ∈ l, q ∈ p :: l := fun _ h => List.mem_cons_of_mem _ h
theorem ints_append {vs us : List Value} {ns ms : List Int} (h : IntsAre vs ns) (k : IntsAre us ms) : IntsAre (vs ++ us) (ns ++ ms) := by
  induction h with
  | nil => exact k
  | cons n t _ ih => exact .cons n t ih
theorem endw_intro {h₀ h' : Heap} {L : Addr} {s₁ : Shared} {its all n' : List (Addr × Obj)} {rest : (Str → Option Value) → List (Addr × Obj) → Prop} {m' : Str → Option Value} {tk : Nat} (F : Fr h₀ L h' m') (N : News h₀ L h' all) (sub : ∀ p ∈ its ++ n', p ∈ all)
    (off : ∀ p ∈ n', ∀ q ∈ its, p.1 ≠ q.1) (r : rest m' n') : UnrEndW h₀ L s₁ its rest { s₁ with heap := h', toks := tk } := ⟨h', tk, m', n', rfl, F, fun p hp => N p (sub p hp), off, r⟩
theorem JCh.next {ns : List Int} {fL I S' : Addr} {oM oV oP : Obj} {cP cV : Option Value} {m₀ m' : Str → Option Value} {news₀ ext ext' rest rest' : List (Addr × Obj)} {vS us : List Value} {k i : Nat} {x : Int} (hz : ∀ z, z ≠ Str.ofString "sets" → m' z = m₀ z) (hs : m' (Str.ofString "sets") = some (.ref S'))
    (hP : oP.data = .cell cP) (hV : oV.data = .cell cV) (hx : ns[i]? = some x) (hsets : SetsIn ext vS (setsAt ns i)) (hps : SetsIn ext' us (pickP (setsAt ns i) (i : Int) x)) (he' : rest' = ext' ++ news₀) (hrE : ∀ p ∈ ext, fL + 1 + 1 + 1 < p.1) (hsE : ∀ q ∈ ext, q ∈ ext') (hnE : ∀ p ∈ ext', p ∈ ext ∨ I + 1 < p.1) (hnew : ∀ p ∈ rest', p ∈ rest ∨ I + 1 < p.1)
    (hrL : ∀ p ∈ rest, p.1 < fL ∨ fL + 1 + 1 + 1 < p.1) (hrI : ∀ p ∈ rest, p.1 < I ∨ I + 1 < p.1) (hLI : fL + 1 + 1 + 1 < I) (hS' : I + 1 < S') :
    JCh ns fL I oM m₀ news₀ (i + 1) m' ((fL + 1 + 1 + 1, oM) :: (fL + 1 + 1, oV) :: (fL + 1, oP) :: (S', listOf (List.toArray (vS ++ us)) k) :: rest') := by
  have e0 : ∀ {p q r : Addr}, p < q → q < r → p < r := Nat.lt_trans
  have eI : I < I + 1 := Nat.lt_succ_self I
  refine ⟨oP, oV, (S', listOf (List.toArray (vS ++ us)) k) :: ext', _, S', vS ++ us, k, cP, cV, hz, hs, rfl, by rw [he']; rfl, hP, hV, .head _, ?_, ?_, ?_, ?_, hLI⟩
  · have e : ns.getD i 0 = x := by rw [List.getD_eq_getElem?_getD, hx]; rfl
    rw [setsAt, e]
    exact ((hsets.mono hsE).append hps).mono fun q hq => .tail _ hq
  · intro p hp
    rcases List.mem_cons.mp hp with rfl | hp
    · exact e0 hLI (e0 eI hS')
    · rcases hnE p hp with q | q
      · exact hrE p q
      · exact e0 hLI (e0 eI q)
  · intro p hp
    rcases List.mem_cons.mp hp with rfl | hp
    · exact .inr (e0 hLI (e0 eI hS'))
    · rcases hnew p hp with q | q
      · exact hrL p q
      · exact .inr (e0 hLI (e0 eI q))
  · intro p hp
    rcases List.mem_cons.mp hp with rfl | hp
    · exact .inr hS'
    · rcases hnew p hp with q | q
      · exact hrI p q
      · exact .inr q
theorem off_its {I S' fL : Addr} {oE oI o1 o2 o3 oS : Obj} {rest rest' : List (Addr × Obj)} (hLI : fL + 1 + 1 + 1 < I) (hS' : I + 1 < S') (hrI : ∀ p ∈ rest, p.1 < I ∨ I + 1 < p.1) (hnew : ∀ p ∈ rest', p ∈ rest ∨ I + 1 < p.1) :
    ∀ p ∈ (fL + 1 + 1 + 1, o1) :: (fL + 1 + 1, o2) :: (fL + 1, o3) :: (S', oS) :: rest', ∀ q ∈ [(I + 1, oE), (I, oI)], p.1 ≠ q.1 := by
  have e0 : ∀ {p q r : Addr}, p < q → q < r → p < r := Nat.lt_trans
  have eI : I < I + 1 := Nat.lt_succ_self I
  have key : ∀ p ∈ (fL + 1 + 1 + 1, o1) :: (fL + 1 + 1, o2) :: (fL + 1, o3) :: (S', oS) :: rest', p.1 < I ∨ I + 1 < p.1 := by
    intro p hp
    rcases List.mem_cons.mp hp with rfl | hp
    · exact .inl hLI
    · rcases List.mem_cons.mp hp with rfl | hp
      · exact .inl (e0 (Nat.lt_succ_self _) hLI)
      · rcases List.mem_cons.mp hp with rfl | hp
        · exact .inl (e0 (Nat.lt_succ_of_lt (Nat.lt_succ_self _)) hLI)
        · rcases List.mem_cons.mp hp with rfl | hp
          · exact .inr hS'
          · rcases hnew p hp with q | q
            · exact hrI p q
            · exact .inr q
  intro p hp q hq
  rcases List.mem_cons.mp hq with rfl | hq
  · rcases key p hp with z | z
    · exact Nat.ne_of_lt (e0 z eI)
    · exact Nat.ne_of_gt z
  · cases List.mem_singleton.mp hq
    rcases key p hp with z | z
    · exact Nat.ne_of_lt z
    · exact Nat.ne_of_gt (e0 eI z)
noncomputable def JLen (ps : List (List Int × List Int)) (n₀ : List (Addr × Obj)) (i : Nat) (ys : List Value) (n₁ : List (Addr × Obj)) : Prop := n₁ = n₀ ∧ IntsAre ys ((ps.take i).map fun p => (p.1.length : Int))
theorem JLen.start {ps : List (List Int × List Int)} {n₀ : List (Addr × Obj)} : JLen ps n₀ 0 [] n₀ := ⟨rfl, IntsAre.nil⟩
theorem JLen.next {ps : List (List Int × List Int)} {n₀ : List (Addr × Obj)} {j : Nat} {ys : List Value} {t : Tok} {p : List Int × List Int} (hp : ps[j]? = some p) (hi : IntsAre ys ((ps.take j).map fun p => (p.1.length : Int))) : JLen ps n₀ (j + 1) (ys ++ [.int (p.1.length : Int) t]) n₀ :=
  ⟨rfl, by rw [List.take_add_one, hp, List.map_append]; exact ints_push hi⟩
theorem len_tup {ps qs : List (List Int × List Int)} {n₀ ext n : List (Addr × Obj)} {vs ys : List Value} {i j : Nat} {v : Value} (h : SetsIn ext vs ps) (hs : ∀ q ∈ ext, q ∈ n₀) (hv : vs[j]? = some v) (hJ : JLen qs n₀ i ys n) : ∃ t v₁ v₂, v = .ref t ∧ (t, tupO v₁ v₂) ∈ n := by
  obtain ⟨rfl, _⟩ := hJ
  obtain ⟨t, a, b, va, vb, ka, kb, p, rfl, _, ht, _⟩ := h.at hv
  exact ⟨t, _, _, rfl, hs _ ht⟩
noncomputable def maxL : List Nat → Nat
  | [] => 0
  | x :: r => max x (maxL r)
theorem maxL_ge : ∀ {l : List Nat} {x : Nat}, x ∈ l → x ≤ maxL l
  | y :: r, x, h => by
    rw [maxL]
    rcases List.mem_cons.mp h with rfl | h
    · exact Nat.le_max_left _ _
    · exact Nat.le_trans (maxL_ge h) (Nat.le_max_right _ _)
theorem maxL_le : ∀ {l : List Nat} {m : Nat}, (∀ x ∈ l, x ≤ m) → maxL l ≤ m
  | [], _, _ => Nat.zero_le _
  | y :: r, m, h => by
    rw [maxL]
    exact Nat.max_le.mpr ⟨h y (.head _), maxL_le fun x hx => h x (.tail _ hx)⟩
noncomputable def selP (ps : List (List Int × List Int)) (k : Int) : List (List Int) := (ps.filter fun p => (p.1.length : Int) == k).map (·.1)
noncomputable def choicesP (ns : List Int) : List (List Int) := selP (setsAt ns 6) (maxL ((setsAt ns 6).map fun p => p.1.length) : Nat)
theorem most_is {ps : List (List Int × List Int)} {M : Int} (h1 : M ∈ ps.map fun p => (p.1.length : Int)) (h2 : ∀ a ∈ ps.map (fun p => (p.1.length : Int)), a ≤ M) : M = ((maxL (ps.map fun p => p.1.length) : Nat) : Int) := by
  obtain ⟨p, hp, rfl⟩ := List.mem_map.mp h1
  have a1 := maxL_ge (List.mem_map.mpr ⟨p, hp, rfl⟩ : p.1.length ∈ ps.map fun p => p.1.length)
  have a2 : maxL (ps.map fun p => p.1.length) ≤ p.1.length := maxL_le fun x hx => by
    obtain ⟨q, hq, rfl⟩ := List.mem_map.mp hx
    have := h2 _ (List.mem_map.mpr ⟨q, hq, rfl⟩)
    omega
  omega
inductive ListsIn (n : List (Addr × Obj)) : List Value → List (List Int) → Prop
  | nil : ListsIn n [] []
  | cons {a : Addr} {va : List Value} {ka : Nat} {p : List Int} {vs : List Value} {ps : List (List Int)} (ha : (a, listOf va.toArray ka) ∈ n) (hia : IntsAre va p) (r : ListsIn n vs ps) : ListsIn n (.ref a :: vs) (p :: ps)
theorem ListsIn.mono {n n' : List (Addr × Obj)} {vs : List Value} {ps : List (List Int)} (x : ListsIn n vs ps) (h : ∀ q ∈ n, q ∈ n') : ListsIn n' vs ps := by
  induction x with
  | nil => exact .nil
  | cons ha hia _ ih => exact .cons (h _ ha) hia ih
theorem ListsIn.length {n : List (Addr × Obj)} {vs : List Value} {ps : List (List Int)} (x : ListsIn n vs ps) : vs.length = ps.length := by
  induction x with
  | nil => rfl
  | cons _ _ _ ih => simp only [List.length_cons, ih]
theorem ListsIn.append {n : List (Addr × Obj)} {vs us : List Value} {ps qs : List (List Int)} (x : ListsIn n vs ps) (y : ListsIn n us qs) : ListsIn n (vs ++ us) (ps ++ qs) := by
  induction x with
  | nil => exact y
  | cons ha hia _ ih => exact .cons ha hia ih
theorem ListsIn.at {n : List (Addr × Obj)} {vs : List Value} {ps : List (List Int)} (x : ListsIn n vs ps) : ∀ {i : Nat} {v : Value}, vs[i]? = some v → ∃ a va ka p, v = .ref a ∧ ps[i]? = some p ∧ (a, listOf (List.toArray va) ka) ∈ n ∧ IntsAre va p := by
  induction x with
  | nil => intro i v e; simp at e
  | cons ha hia _ ih =>
    intro i v e
    cases i with
    | zero => exact ⟨_, _, _, _, (by simpa using e.symm), rfl, ha, hia⟩
    | succ i => exact ih (by simpa using e)
noncomputable def JSel (ps : List (List Int × List Int)) (k : Int) (ext n₀ : List (Addr × Obj)) (i : Nat) (ys : List Value) (n₁ : List (Addr × Obj)) : Prop := n₁ = n₀ ∧ ListsIn ext ys (selP (ps.take i) k)
theorem JSel.start {ps : List (List Int × List Int)} {k : Int} {ext n₀ : List (Addr × Obj)} : JSel ps k ext n₀ 0 [] n₀ := ⟨rfl, .nil⟩
theorem sel_next {ps : List (List Int × List Int)} {k : Int} {j : Nat} {p : List Int × List Int} (h : ps[j]? = some p) : selP (ps.take (j + 1)) k = selP (ps.take j) k ++ (if ((p.1.length : Int) == k) = true then [p.1] else []) := by
  unfold selP
  rw [List.take_add_one, h, List.filter_append, List.map_append]
  congr 1
  show List.map _ (List.filter _ [p]) = _
  rw [List.filter_cons, List.filter_nil]
  split <;> rfl
theorem JSel.skip {ps : List (List Int × List Int)} {k : Int} {ext n₀ : List (Addr × Obj)} {j : Nat} {ys : List Value} {p : List Int × List Int} (hp : ps[j]? = some p) (h : ((p.1.length : Int) == k) = false) (x : ListsIn ext ys (selP (ps.take j) k)) : JSel ps k ext n₀ (j + 1) ys n₀ :=
  ⟨rfl, by rw [sel_next hp, h]; rw [if_neg (by decide), List.append_nil]; exact x⟩
theorem JSel.pick {ps : List (List Int × List Int)} {k : Int} {ext n₀ : List (Addr × Obj)} {j ka : Nat} {a : Addr} {va ys : List Value} {p : List Int × List Int} (hp : ps[j]? = some p) (h : ((p.1.length : Int) == k) = true) (x : ListsIn ext ys (selP (ps.take j) k)) (ha : (a, listOf (List.toArray va) ka) ∈ ext) (hia : IntsAre va p.1) : JSel ps k ext n₀ (j + 1) (ys ++ [.ref a]) n₀ :=
  ⟨rfl, by rw [sel_next hp, h]; rw [if_pos rfl]; exact x.append (.cons ha hia .nil)⟩
theorem sel_tup {ps qs : List (List Int × List Int)} {k : Int} {n₀ ext ext' n : List (Addr × Obj)} {vs ys : List Value} {i j : Nat} {v : Value} (h : SetsIn ext vs ps) (hs : ∀ q ∈ ext, q ∈ n₀) (hv : vs[j]? = some v) (hJ : JSel qs k ext' n₀ i ys n) : ∃ t v₁ v₂, v = .ref t ∧ (t, tupO v₁ v₂) ∈ n := by
  obtain ⟨rfl, _⟩ := hJ
  obtain ⟨t, a, b, va, vb, ka, kb, p, rfl, _, ht, _⟩ := h.at hv
  exact ⟨t, _, _, rfl, hs _ ht⟩
theorem sel_at {h₀ h : Heap} {L : Addr} {all ext rest : List (Addr × Obj)} {vs : List Value} {ps : List (List Int × List Int)} {i : Nat} {t : Addr} {v₁ v₂ : Value} (N : News h₀ L h all) (x : SetsIn ext vs ps) (hs : ∀ q ∈ ext, q ∈ rest) (hs2 : ∀ q ∈ rest, q ∈ all) (hi : vs[i]? = some (.ref t)) (ht : (t, tupO v₁ v₂) ∈ all) :
    ∃ (a b : Addr) (va : List Value) (ka : Nat) (p : List Int × List Int), v₁ = .ref a ∧ v₂ = .ref b ∧ ps[i]? = some p ∧ (a, listOf (List.toArray va) ka) ∈ all ∧ IntsAre va p.1 ∧ (a, listOf (List.toArray va) ka) ∈ ext := by
  obtain ⟨t', a, b, va, vb, ka, kb, p, e, hp, ht', ha, hia, hb, hib⟩ := x.at hi
  cases e
  have e2 : tupO v₁ v₂ = tupO (.ref a) (.ref b) := Option.some.inj ((N _ ht).1.symm.trans (N _ (hs2 _ (hs _ ht'))).1)
  injection e2 with _ _ e3 _
  injection e3 with e4 _
  injection e4 with e5
  injection e5 with e6 e7
  injection e7 with e8 _
  exact ⟨a, b, va, ka, p, e6, e8, hp, hs2 _ (hs _ ha), hia, ha⟩
theorem off_mono {M₀ C : Addr} {l l' : List (Addr × Obj)} {p : Addr × Obj} (h : p.1 < M₀ ∨ C < p.1) (r : ∀ q ∈ l, q.1 < M₀ ∨ C < q.1) : ∀ q ∈ p :: l, q.1 < M₀ ∨ C < q.1 := fun q hq => (List.mem_cons.mp hq).elim (fun e => e ▸ h) (r q)
theorem three_lt {f i : Nat} (h : f + 1 + 1 + 1 < i) : f + 1 + 1 + 1 < i := h
set_option maxHeartbeats 1000000 in
theorem choices_spec {w : World} {mg mb : Str → Option Value} {loose : List Str} {mean : ExcName → Option Value} {dp un : Nat} {gd : Option (List Code)} {cn : Str} {cs : Scope} {ca : Addr} {ccd : Value} {cl : List (Str × Addr)} {outer : List Env} {A₀ : Around} {base h₀ : Heap} {L : Addr} {m : Str → Option Value} {news : List (Addr × Obj)} {s : Shared} {Q E : Value → Shared → Prop} {l : Addr} {n : Nat} {vs : List Value} {ns : List Int} :
    (Mine.hd.heap_39 w.params).In h₀ → Below A₀ base outer h₀ → Fr h₀ L s.heap m → Top Mine.hd.view_39 loose mean mg mb h₀ → cs.kind = .function → News h₀ L s.heap news → (l, listOf vs.toArray n) ∈ news → IntsAre vs ns → ns.length = 6 → dp + 35 < recursionLimit → un + 400 < cLine →
    (∀ r vr kr ext h' tk', Fr h₀ L h' m → News h₀ L h' ((r, listOf (List.toArray vr) kr) :: (news ++ ext)) → (∀ q ∈ news, q.1 < r) → (∀ p ∈ ext, ∀ q ∈ news, q.1 < p.1) → ListsIn ext vr (choicesP ns) → Q (.ref r) { s with heap := h', toks := tk' }) →
    wpAny (model PySem.Challenge.rw_wu0047_01.row.prog w) (ktrTop dp un gd cn cs L ca ccd cl outer) (call (.ref 133) [.ref l]) Q E s := by
  k_fill
  intro X B F T hk N hm hi hl hd hu hret
  replace N := led_front N hm
  w_top off
  k_with_none
  k_with "enter" => first
    | (refine' code_def (by k_asm) (by k_asm) (by k_asm) (by k_asm) (by k_asm) rfl rfl (by assumption) (by k_is) (by k_is) (by ktr_room) (by first | exact BindsTo.of_eq rfl | exact binds_K (by k_in) rfl (by k_is) rfl rfl rfl | exact kp_binds (by k_in) (fun _ => rfl)) (by exact locs rfl) ?_ (by exact rfl) (by exact rfl) (by exact rfl) (by decide); k_whole; intro _ _ _ _ _ _ _ _ _; (try dsimp only); (try k_fold))
    | (refine' code_defC (by k_asm) (by k_asm) (by k_asm) (by k_asm) (by k_asm) rfl rfl (by assumption) (by k_is) (by k_is) (by ktr_room) (by first | exact BindsTo.of_eq rfl | exact binds_K (by k_in) rfl (by k_is) rfl rfl rfl | fail "k_enter: no rule for these arguments") (by exact rfl) (by decide +kernel) ?_ (by exact rfl) (by exact rfl) (by exact rfl); k_whole; intro _ _ _ _ _ _ _ N' Y' _ _ _ _; k_cells Y'; (try simp only [List.cons_append, List.nil_append] at N'); (try dsimp only); (try k_fold))
  k_with "room" => first | k_dflt (exact Mine.room1 (by assumption) rfl) | k_dflt (exact Mine.room0 (by assumption) rfl) | k_dflt (exact Mine.room2 (by assumption))
  k_with "units" => first | k_dflt (exact Mine.unit1 (by assumption) rfl) | k_dflt (exact Mine.unit0 (by assumption) rfl)
  k_with "all" => first | assumption | exact Mine.lt_all_ne (by assumption) | (refine' List.forall_mem_cons.mpr ⟨?ka1, ?ka2⟩; (case ka1 => k_ne); (case ka2 => k_all))
  k_with "pyIter ref" => k_extra "my iter"
  k_with "UnrEnd" => k_extra "my end"
  k_with "call builtin:list.append" => k_extra "my append"
  k_with "exec While Compare cons nil" => k_extra "my while"
  k_with "lt" => first | assumption | (rename _ ∧ _ => hcN; first | exact hcN.1 | exact hcN.2.1 | exact hcN.2.2.1 | exact hcN.2.2.2.1 | exact hcN.2.2.2.2.1 | exact hcN.2.2.2.2.2.1 | exact hcN.2.2.2.2.2.2.1 | exact hcN.2.2.2.2.2.2.2.1 | exact hcN.2.2.2.2.2.2.2.2.1 | exact hcN.2.2.2.2.2.2.2.2.2.1 | exact hcN.2.2.2.2.2.2.2.2.2.2.1 | exact hcN.2.2.2.2.2.2.2.2.2.2.2.1 | exact hcN.2 | exact hcN.2.2 | exact hcN.2.2.2 | exact hcN.2.2.2.2 | exact hcN.2.2.2.2.2 | exact hcN.2.2.2.2.2.2 | (clear hcN; k_extra "lt"))
  k_with "ne" => with_reducible first | assumption | (refine Nat.ne_of_lt ?_; k_extra "lt") | (refine Nat.ne_of_gt ?_; k_extra "lt")
  k_with "UnrPostW" => k_extra "my endw"
  k_with "UnrEndW" => k_extra "my endw"
  k_with "call type:enumerate" => k_extra "my enum"
  k_with "exec For Tuple Call cons nil" => k_extra "my for"
  k_with "eval ListComp" => k_extra "my comp"
  k_with "call builtin:max" => k_extra "my max"
  k_with "CEnd" => k_extra "my cend"
  k_with "COut" => k_extra "my cout"
  k_with "my for" => 
      rename Fr _ _ _ _ => lF
      refine wpAny_noRaise ?_
      with_unfolding_all refine' For_turns lF ?_ ?hs PassesOwn.never
      case hs => intro _; with_unfolding_all exact rfl
  k_with "my enum" => 
      rename Fr _ _ _ _ => lF
      rename News _ _ _ _ => lN
      have lN2 := led_sub lN (sub_cons (List.Mem.tail _ (List.Mem.tail _ (List.Mem.tail _ (List.Mem.tail _ (List.Mem.head _))))) (sub_cons (List.Mem.tail _ (List.Mem.tail _ (List.Mem.tail _ (List.Mem.tail _ (List.Mem.tail _ (List.Mem.head _)))))) (sub_cons (List.Mem.tail _ (List.Mem.tail _ (List.Mem.tail _ (List.Mem.tail _ (List.Mem.tail _ (List.Mem.tail _ (List.Mem.head _))))))) (sub_cons (List.Mem.head _) (sub_cons (List.Mem.tail _ (List.Mem.head _)) (sub_cons (List.Mem.tail _ (List.Mem.tail _ (List.Mem.head _))) (sub_cons (List.Mem.tail _ (List.Mem.tail _ (List.Mem.tail _ (List.Mem.head _)))) (sub_skip (sub_skip (sub_skip (sub_skip (sub_skip (sub_skip (sub_skip sub_refl))))))))))))))
      with_unfolding_all refine' ktu_enum (lo := listOf vs.toArray n) (vs := vs) (n := n) (xs := enumItems 0 vs) ?eh lF lN2 ?em ?e1 ?e2 ?e3 ?_
      case eh => with_unfolding_all exact rfl
      case em => k_mem
      case e1 => exact rfl
      case e2 => exact rfl
      case e3 => exact rfl
      intro I lI
  refine wpAny_call ?_
  k_dflt ktr_enter
  k_steps
  rename_i g1 fL y5 tk5 yFG yB yX yT ln o1 o2 o3 d1 d2 d3 la y4 lm3 lb y3 lm2 tD y2 lm1 S0 y1 lm0 y0
  refine' items_inv (vs := vs) (JCh ns fL I o1 ?m0 ((l, listOf vs.toArray n) :: news)) ?hk ?turn ?done vs 0 _ _ rfl (Nat.zero_le _) ?j0
  case j0 =>
    with_unfolding_all refine' JCh.start ?hs ?hP ?hV lm3.1 lm2.1 lm1.1 lm0.1 ln lI
    case hs => with_unfolding_all exact rfl
    case hP => exact d3
    case hV => exact d2
  case hk =>
    intro i m n' hJ
    unfold JCh at hJ
    obtain ⟨oP, oV, ext, rest, S, vS, kS, cP, cV, hz, hzs, rfl, hre, _⟩ := hJ
    refine ⟨?_, trivial⟩
    rw [hre]
    exact .tail _ (.tail _ (.tail _ (List.mem_append_right _ (.head _))))
  case done =>
    intro m' n' h tk hJ F' N'
    unfold JCh at hJ
    obtain ⟨oP, oV, ext, rest, S, vS, kS, cP, cV, hz, hzs, rfl, hre, hcP, hcV, hS, hsetsE, hrE, hrL, hrI, hLI⟩ := hJ
    have hl6 : vs.length = 6 := by rw [hi.length]; exact hl
    rw [hl6] at hsetsE
    have hsets : SetsIn rest vS (setsAt ns 6) := hsetsE.mono fun q hq => by rw [hre]; exact List.mem_append_left _ hq
    have hsz := sets_size hsetsE (.inr rfl)
    have hvS : vS.length ≤ 64 := by rw [hsets.length]; exact sets_len ns 6
    have hr3 : ∀ p ∈ rest, p.1 ≠ fL + 1 + 1 + 1 := fun p hp => by
      rcases hrL p hp with q | q
      · exact Nat.ne_of_lt (Nat.lt_trans q (Nat.lt_succ_of_lt (Nat.lt_succ_of_lt (Nat.lt_succ_self _))))
      · exact Nat.ne_of_gt q
    have hsub : ∀ {c3 c2 c1 : Addr × Obj}, ∀ q ∈ rest, q ∈ c3 :: c2 :: c1 :: rest := fun q hq => List.mem_cons_of_mem _ (List.mem_cons_of_mem _ (List.mem_cons_of_mem _ hq))
    replace F' := fr_eq F' (map_set hz hzs)
    clear lI
    k_with "my comp" => 
        rename Fr _ _ _ _ => lF
        with_unfolding_all refine' comp_eval (target := .Tuple _ _ _) lF ?dhclos ?dhcell ?dhkind ?dhnames ?_ ?dhs
        case dhclos => with_unfolding_all exact rfl
        case dhcell => decide
        case dhkind => exact rfl
        case dhnames => decide
        case dhs => intro _; with_unfolding_all exact rfl
    k_with "my iter" => 
        rename Fr _ _ _ _ => lF
        rename News _ _ _ _ => lN
        with_unfolding_all refine' iter_pairs (vs := vS) (nk := kS) (JLen (setsAt ns 6) _) ?dhh ?dhkd ?dhx1 ?dhx2 ?dhxx lF lN ?dhm ?dhsz ?dj0 ?dtup ?dturn ?ddone
        case dhh => with_unfolding_all exact rfl
        case dhkd => exact rfl
        case dhx1 => with_unfolding_all exact rfl
        case dhx2 => with_unfolding_all exact rfl
        case dhxx => decide
        case dhm => exact hsub _ hS
        case dhsz => exact hsz
        case dj0 => with_unfolding_all exact JLen.start
        case dtup => exact fun j v ys n hv hJ => len_tup hsets hsub hv hJ
    k_steps
    · unfold CTurnAll
      intro s3 hs3 M₁ hM1
      obtain ⟨gh3, rfl⟩ := hs3
      unfold CTurn
      intro j2 ys2 n2 own2 C2 oC2 D2 m3 h9 tk9 hj2 hPn2 hJ2 hoC2 F9 N9 off9 hMD2 hDC2
      unfold JLen at hJ2
      obtain ⟨rfl, hiy⟩ := hJ2
      obtain ⟨t7, v₁, v₂, hv7, ht7, hm1, hm2⟩ := hPn2
      obtain ⟨a, b, va, vb, ka, kb, p, rfl, rfl, hp7, ha, hia, hb, hib⟩ := pick_at N9 hsets (fun q hq => mem2a (hsub q hq)) hv7 (mem2a ht7)
      have hpb := sets_bound ns 6 p (List.mem_of_getElem? hp7)
      have hva : va.length ≤ 6 := by rw [hia.length]; exact hpb.1
      have N8 := led_front N9 ha
      simp only [List.cons_append] at N8
      refine wpAny_tests_nil ?_
      k_steps
      exact CEnd.intro (by assumption) (by assumption) _ sub_refl.tl off9 (JLen.next hp7 hiy)
    · unfold CDoneAll
      intro s3 hs3 M₁ hM1
      obtain ⟨gh3, rfl⟩ := hs3
      unfold CDone
      intro C2 oC2 mC2 D2 h9 tk9 ys2 n2 hJ2 F9 N9 hoC2 off9 hMD2 hDC2
      unfold JLen at hJ2
      obtain ⟨rfl, hiy⟩ := hJ2
      have ety : (setsAt ns 6).take vS.length = setsAt ns 6 := by rw [hsets.length]; exact List.take_length
      rw [ety] at hiy
      have hyl : ys2.length ≤ 64 := by rw [hiy.length, List.length_map]; exact sets_len ns 6
      refine COut.intro hoC2 F9 N9 List.mem_cons_self _ sub_refl.tl ?_ ?_
      · intro q hq
        rcases List.mem_cons.mp hq with rfl | hq
        · exact Nat.ne_of_lt hDC2
        · rcases off9 q hq with z | z
          · exact Nat.ne_of_lt (Nat.lt_of_lt_of_le z (Nat.le_of_lt (Nat.lt_of_le_of_lt hMD2 hDC2)))
          · exact Nat.ne_of_gt z
      · intro h10 F10 N10
        clear F9 N9
        have hcD := three_lt (Nat.lt_of_lt_of_le (hM1 (fL + 1 + 1 + 1, o1) List.mem_cons_self) hMD2)
        have hne : 0 < ((setsAt ns 6).map fun p => (p.1.length : Int)).length := by
          rw [List.length_map]
          exact sets_pos ns 6
        k_with "my max" => 
            rename Fr _ _ _ _ => lF
            rename News _ _ _ _ => lN
            with_unfolding_all refine' kso_max lF lN ?mxl hiy hne ?mxh ?_
            case mxl => with_unfolding_all exact ⟨_, (lN _ List.mem_cons_self).1, rfl, _, rfl⟩
            case mxh => with_unfolding_all exact rfl
            intro hq Mx tm tkm Fm Nm hMx hMle
            try k_fold
        k_with "my iter" => 
            rename Fr _ _ _ _ => lF
            rename News _ _ _ _ => lN
            with_unfolding_all refine' iter_pairs (vs := vS) (nk := kS) (JSel (setsAt ns 6) Mx ext _) ?ehh ?ehkd ?ehx1 ?ehx2 ?ehxx lF lN ?ehm ?ehsz ?ej0 ?etup ?eturn ?edone
            case ehh => with_unfolding_all exact rfl
            case ehkd => exact rfl
            case ehx1 => with_unfolding_all exact rfl
            case ehx2 => with_unfolding_all exact rfl
            case ehxx => decide
            case ehm => exact List.mem_cons_of_mem _ (hsub _ hS)
            case ehsz => exact hsz
            case ej0 => with_unfolding_all exact JSel.start
            case etup => exact fun j v ys n hv hJ => sel_tup hsets (fun q hq => List.mem_cons_of_mem _ (hsub q hq)) hv hJ
        k_steps
        · unfold CTurnAll
          intro s4 hs4 M₂ hM2
          obtain ⟨gh4, rfl⟩ := hs4
          unfold CTurn
          intro j3 ys3 n3 own3 C3 oC3 D3 m4 h12 tk12 hj3 hPn3 hJ3 hoC3 F12 N12 off12 hMD3 hDC3
          unfold JSel at hJ3
          obtain ⟨rfl, hls⟩ := hJ3
          obtain ⟨t7, v₁, v₂, hv7, ht7, hm1, hm2⟩ := hPn3
          obtain ⟨a, b, va, ka, p, rfl, rfl, hp7, ha, hia, haE⟩ := sel_at N12 hsetsE (fun q hq => by rw [hre]; exact List.mem_append_left _ hq) (fun q hq => mem2a (List.mem_cons_of_mem _ (hsub q hq))) hv7 (mem2a ht7)
          have hpb := sets_bound ns 6 p (List.mem_of_getElem? hp7)
          have hva : va.length ≤ 6 := by rw [hia.length]; exact hpb.1
          have N13 := led_front N12 ha
          simp only [List.cons_append] at N13
          refine wpAny_tests_one ?_
          k_steps
          · exact CEnd.intro (by assumption) (by assumption) _ sub_refl.tl off12 (JSel.pick hp7 (beq_iff_eq.mpr (by assumption)) hls haE hia)
          · exact CEnd.intro (by assumption) (by assumption) _ sub_refl.tl off12 (JSel.skip hp7 (beq_eq_false_iff_ne.mpr (by assumption)) hls)
        · unfold CDoneAll
          intro s4 hs4 M₂ hM2
          obtain ⟨gh4, rfl⟩ := hs4
          unfold CDone
          intro C3 oC3 mC3 D3 h12 tk12 ys3 n3 hJ3 F12 N12 hoC3 off12 hMD3 hDC3
          unfold JSel at hJ3
          obtain ⟨rfl, hls⟩ := hJ3
          have ety : (setsAt ns 6).take vS.length = setsAt ns 6 := by rw [hsets.length]; exact List.take_length
          rw [ety] at hls
          refine COut.intro hoC3 F12 N12 List.mem_cons_self _ sub_refl.tl ?_ ?_
          · intro q hq
            rcases List.mem_cons.mp hq with rfl | hq
            · exact Nat.ne_of_lt hDC3
            · rcases off12 q hq with z | z
              · exact Nat.ne_of_lt (Nat.lt_of_lt_of_le z (Nat.le_of_lt (Nat.lt_of_le_of_lt hMD3 hDC3)))
              · exact Nat.ne_of_gt z
          · intro h13 F13 N13
            clear F12 N12
            k_steps
            have eM := most_is hMx hMle
            have hout : ListsIn ext ys3 (choicesP ns) := by
              unfold choicesP
              rw [← eM]
              exact hls
            have hD3 : ∀ q ∈ news, q.1 < D3 := fun q hq => Nat.lt_of_lt_of_le (hM2 q (List.mem_cons_of_mem _ (hsub q (by rw [hre]; exact List.mem_append_right _ (List.mem_cons_of_mem _ hq))))) hMD3
            have hxn : ∀ p ∈ ext, ∀ q ∈ news, q.1 < p.1 := fun p hp q hq => Nat.lt_trans (ln q (List.mem_cons_of_mem _ hq)) (Nat.lt_trans (Nat.lt_succ_of_lt (Nat.lt_succ_of_lt (Nat.lt_succ_self _))) (hrE p hp))
            rename News h₀ L _ _ => kN
            refine hret D3 ys3 ys3.length ext _ _ (by assumption) (led_sub kN ?_) hD3 hxn hout
            rw [hre]
            intro q hq
            rcases List.mem_cons.mp hq with rfl | hq
            · exact List.mem_cons_self
            · rcases List.mem_append.mp hq with hq | hq
              · exact List.mem_cons_of_mem _ (List.mem_cons_of_mem _ (List.mem_cons_of_mem _ (List.mem_cons_of_mem _ (List.mem_cons_of_mem _ (List.mem_append_right _ (List.mem_cons_of_mem _ hq))))))
              · exact List.mem_cons_of_mem _ (List.mem_cons_of_mem _ (List.mem_cons_of_mem _ (List.mem_cons_of_mem _ (List.mem_cons_of_mem _ (List.mem_append_left _ hq)))))
  case turn =>
    clear lF lN lN2 lI
    intro i v T t h tk m' n' hv hJ hT F'
    unfold JCh at hJ
    obtain ⟨oP, oV, ext, rest, S, vS, kS, cP, cV, hz, hzs, rfl, hre, hcP, hcV, hS, hsetsE, hrE, hrL, hrI, hLI⟩ := hJ
    have hsets : SetsIn rest vS (setsAt ns i) := hsetsE.mono fun q hq => by rw [hre]; exact List.mem_append_left _ hq
    obtain ⟨x, tx, rfl, hx⟩ := ints_at hi hv
    refine AllObj.cons fun oE hcE => AllObj.cons fun oI hcI => AllObj.nil fun N' => ?_
    dsimp only at hcE hcI
    simp only [List.cons_append, List.nil_append] at N'
    replace F' := fr_eq F' (map_set hz hzs)
    have hr1 : ∀ p ∈ rest, p.1 ≠ fL + 1 := fun p hp => by
      rcases hrL p hp with q | q
      · exact Nat.ne_of_lt (Nat.lt_trans q (Nat.lt_succ_self _))
      · exact Nat.ne_of_gt (Nat.lt_trans (Nat.lt_succ_of_lt (Nat.lt_succ_self _)) q)
    have hr2 : ∀ p ∈ rest, p.1 ≠ fL + 1 + 1 := fun p hp => by
      rcases hrL p hp with q | q
      · exact Nat.ne_of_lt (Nat.lt_trans q (Nat.lt_succ_of_lt (Nat.lt_succ_self _)))
      · exact Nat.ne_of_gt (Nat.lt_trans (Nat.lt_succ_self _) q)
    have hLI2 := three_lt hLI
    have hil : i < 6 := by rw [← hl]; exact (List.getElem?_eq_some_iff.mp hx).1
    k_with "my comp" => 
        rename Fr _ _ _ _ => lF
        with_unfolding_all refine' comp_eval (target := .Tuple _ _ _) lF ?hclos ?hcell ?hkind ?hnames ?_ ?hs
        case hclos => with_unfolding_all exact rfl
        case hcell => decide
        case hkind => exact rfl
        case hnames => decide
        case hs => intro _; with_unfolding_all exact rfl
    k_with "my iter" => 
        rename Fr _ _ _ _ => lF
        rename News _ _ _ _ => lN
        with_unfolding_all refine' iter_pairs (vs := vS) (nk := kS) (JPick (setsAt ns i) (i : Int) x I _ _ _ _ _ ext rest ((l, listOf vs.toArray n) :: news)) ?hh ?hkd ?hx1 ?hx2 ?hxx lF lN ?hm ?hsz ?j0 ?tup ?turn ?done
        case hh => with_unfolding_all exact rfl
        case hkd => exact rfl
        case hx1 => with_unfolding_all exact rfl
        case hx2 => with_unfolding_all exact rfl
        case hxx => decide
        case hm => exact mem5 hS
        case hsz => exact sets_size hsets (.inl hil)
        case j0 => with_unfolding_all exact JPick.start hre
        case tup => exact fun j v ys n hv hJ => sets_tup hsets hv hJ
    k_steps
    · unfold CTurnAll
      intro s2 hs2 M₀ hM0
      obtain ⟨gh, rfl⟩ := hs2
      unfold CTurn
      intro j ys n₁ own C oC D m₂ h7 tk7 hj hPn hJ hoC F7 N7 off7 hMD hDC
      unfold JPick at hJ
      obtain ⟨ext', rest', rfl, hre', hps, hsE, hnE, hsub', hnew⟩ := hJ
      obtain ⟨t7, v₁, v₂, hv7, ht7, hm1, hm2⟩ := hPn
      obtain ⟨a, b, va, vb, ka, kb, p, rfl, rfl, hp7, ha, hia, hb, hib⟩ := pick_at N7 hsets (fun q hq => mem2a (mem5 (hsub' q hq))) hv7 (mem2a ht7)
      have N8 := led_front (led_front N7 hb) (List.mem_cons_of_mem _ ha)
      simp only [List.cons_append] at N8
      have hpb := sets_bound ns i p (List.mem_of_getElem? hp7)
      have hva : va.length ≤ 6 := by rw [hia.length]; omega
      have hvb : vb.length ≤ 64 := by rw [hib.length]; exact Nat.le_trans hpb.2 (Nat.le_trans (Nat.pow_le_pow_right (by decide) (Nat.le_of_lt hil)) (by decide))
      clear N7 ha hb
      refine wpAny_tests_one ?_
      k_with "my comp" => 
          rename Fr _ _ _ _ => lF
          with_unfolding_all refine' comp_eval (target := .Name _ _) lF ?n_hclos ?n_hcell ?n_hkind ?n_hnames ?_ ?n_hs
          case n_hclos => with_unfolding_all exact rfl
          case n_hcell => decide
          case n_hkind => exact rfl
          case n_hnames => decide
          case n_hs => intro _; with_unfolding_all exact rfl
      k_with "my iter" => 
          rename Fr _ _ _ _ => lF
          rename News _ _ _ _ => lN
          with_unfolding_all refine' iter_names (vs := vb) (nk := kb) (JXor p.2 x _) ?n_hh ?n_hkd ?n_hx1 lF lN ?n_hm ?n_hsz ?n_j0 ?n_turn ?n_done
          case n_hh => with_unfolding_all exact rfl
          case n_hkd => exact rfl
          case n_hx1 => with_unfolding_all exact rfl
          case n_hm => exact List.mem_cons_of_mem _ (List.mem_cons_of_mem _ (List.mem_cons_of_mem _ List.mem_cons_self))
          case n_hsz => exact Nat.le_trans hvb (by decide)
          case n_j0 => with_unfolding_all exact JXor.start
      k_steps
      · exact CEnd.intro (by assumption) N8 _ (sub_skip (sub_skip sub_refl)) off7 (JPick.skip hp7 (by assumption) hre' hps hsE hnE hsub' hnew)
      · unfold CTurnAll
        intro s3 hs3 M₁ hM1
        obtain ⟨gh3, rfl⟩ := hs3
        unfold CTurn
        intro j2 ys2 n2 own2 C2 oC2 D2 m3 h9 tk9 hj2 hPn2 hJ2 hoC2 F9 N9 off9 hMD2 hDC2
        unfold JXor at hJ2
        obtain ⟨rfl, hiy⟩ := hJ2
        obtain ⟨v9, hv9, hm9⟩ := hPn2
        obtain ⟨y9, t9, rfl, hy9⟩ := ints_at hib hv9
        simp only [List.cons_append] at N9
        refine wpAny_tests_nil ?_
        k_steps
        exact CEnd.intro (by assumption) N9 _ sub_refl off9 (JXor.next hy9 hiy)
      · rename _ ∧ _ ∧ _ ∧ _ ∧ _ ∧ _ ∧ _ ∧ _ ∧ _ ∧ _ ∧ AllLt _ _ => lA1
        rename IntsAre _ (p.1 ++ _) => hia2
        rename Addr => Dh
        unfold CDoneAll
        intro s3 hs3 M₁ hM1
        obtain ⟨gh3, rfl⟩ := hs3
        unfold CDone
        intro C2 oC2 mC2 D2 h9 tk9 ys2 n2 hJ2 F9 N9 hoC2 off9 hMD2 hDC2
        unfold JXor at hJ2
        obtain ⟨rfl, hiy⟩ := hJ2
        have ety : p.2.take vb.length = p.2 := by rw [hib.length]; exact List.take_length
        rw [ety] at hiy
        have hlow := fun (q : Addr × Obj) hq => Nat.lt_of_lt_of_le (hM1 q hq) hMD2
        have hCD2 := hlow (C, oC) (List.mem_cons_of_mem _ (List.mem_cons_of_mem _ (List.mem_cons_of_mem _ (List.mem_cons_of_mem _ List.mem_cons_self))))
        have hys2 : ys2.length ≤ 64 := by rw [hiy.length, List.length_map, ← hib.length]; exact hvb
        refine COut.intro hoC2 F9 N9 List.mem_cons_self _ sub_refl.tl ?_ ?_
        · intro q hq
          rcases List.mem_cons.mp hq with rfl | hq
          · exact Nat.ne_of_lt hDC2
          · exact Nat.ne_of_lt (Nat.lt_trans (hlow q hq) hDC2)
        · intro h10 F10 N10
          clear F9 N9
          have hD2lt : D2 < h10.objs.size := Heap.lt_size (N10 _ List.mem_cons_self).1
          have hIlt := hlow (I + 1, oE) (List.mem_cons_of_mem _ (List.mem_cons_of_mem _ (List.mem_cons_of_mem _ (List.mem_cons_of_mem _ (List.mem_cons_of_mem _ (List.mem_cons_of_mem _ List.mem_cons_self))))))
          k_steps
          rename Addr => T7
          rename _ ∧ _ ∧ _ ∧ _ ∧ _ ∧ _ ∧ _ ∧ _ ∧ _ ∧ _ ∧ _ ∧ _ ∧ _ ∧ AllLt _ _ => lA2
          rename News _ _ _ _ => N12
          have e0 : ∀ {p q r : Addr}, p < q → q < r → p < r := Nat.lt_trans
          have hCh : C < Dh := lA1.2.2.2.1
          have hIh : I + 1 < Dh := lA1.2.2.2.2.2.1
          have hhT : h10.objs.size < T7 := lA2.1
          refine' CEnd.intro (by assumption) N12 (_ :: _ :: _ :: _ :: _ :: (T7, tupO (.ref Dh) (.ref h10.objs.size)) :: (Dh, _) :: (h10.objs.size, _) :: rest') ?sub ?off (JPick.pick hp7 (by assumption) hre' hps hsE hnE hsub' hnew (e0 (e0 hIlt hD2lt) hhT) hIh (e0 hIlt hD2lt) hia2 (ints_append hib hiy))
          case off =>
            have o5 := off7
            intro q hq
            rcases List.mem_cons.mp hq with rfl | hq
            · exact off7 _ (.head _)
            · rcases List.mem_cons.mp hq with rfl | hq
              · exact off7 _ (.tail _ (.head _))
              · rcases List.mem_cons.mp hq with rfl | hq
                · exact off7 _ (.tail _ (.tail _ (.head _)))
                · rcases List.mem_cons.mp hq with rfl | hq
                  · exact off7 _ (.tail _ (.tail _ (.tail _ (.head _))))
                  · rcases List.mem_cons.mp hq with rfl | hq
                    · exact off7 _ (.tail _ (.tail _ (.tail _ (.tail _ (.head _)))))
                    · rcases List.mem_cons.mp hq with rfl | hq
                      · exact .inr (e0 (e0 hCD2 hD2lt) hhT)
                      · rcases List.mem_cons.mp hq with rfl | hq
                        · exact .inr hCh
                        · rcases List.mem_cons.mp hq with rfl | hq
                          · exact .inr (e0 hCD2 hD2lt)
                          · exact off7 _ (mem5 hq)
          case sub =>
            simp only [List.cons_append]
            exact sub_cons (by k_mem) (sub_cons (by k_mem) (sub_cons (by k_mem) (sub_cons (by k_mem) (sub_cons (by k_mem) (sub_cons (by k_mem) (sub_cons (by k_mem) (sub_cons (by k_mem) (sub_cons (by k_mem) (sub_cons (by k_mem) (by repeat' first | exact sub_refl | apply sub_skip))))))))))
    · unfold CDoneAll
      intro s3 hs3 M₁ hM1
      obtain ⟨gh3, rfl⟩ := hs3
      unfold CDone
      intro C2 oC2 mC2 D2 h9 tk9 ys2 n2 hJ2 F9 N9 hoC2 off9 hMD2 hDC2
      unfold JPick at hJ2
      obtain ⟨ext', rest', rfl, hre', hps, hsE, hnE, hsub', hnew⟩ := hJ2
      have ety : (setsAt ns i).take vS.length = setsAt ns i := by rw [hsets.length]; exact List.take_length
      rw [ety] at hps
      have hyl : ys2.length ≤ 64 := by
        rw [hps.length]
        exact Nat.le_trans (pick_len _ _ _) (Nat.le_trans (sets_len ns i) (Nat.le_trans (Nat.pow_le_pow_right (by decide) (Nat.le_of_lt hil)) (by decide)))
      have hvl : vS.length ≤ 64 := by
        rw [hsets.length]
        exact Nat.le_trans (sets_len ns i) (Nat.le_trans (Nat.pow_le_pow_right (by decide) (Nat.le_of_lt hil)) (by decide))
      have hI1 : I + 1 < D2 := Nat.lt_of_lt_of_le (hM1 (I + 1, oE) List.mem_cons_self) hMD2
      refine COut.intro hoC2 F9 N9 List.mem_cons_self _ sub_refl.tl ?_ ?_
      · intro q hq
        rcases List.mem_cons.mp hq with rfl | hq
        · exact Nat.ne_of_lt hDC2
        · rcases off9 q hq with z | z
          · exact Nat.ne_of_lt (Nat.lt_of_lt_of_le z (Nat.le_of_lt (Nat.lt_of_le_of_lt hMD2 hDC2)))
          · exact Nat.ne_of_gt z
      · intro h10 F10 N10
        clear F9 N9
        have hD2lt : D2 < h10.objs.size := Heap.lt_size (N10 _ List.mem_cons_self).1
        have N11 := led_front N10 (List.mem_cons_of_mem _ (mem5 (hsub' _ hS)))
        clear N10
        have hIS : I + 1 < h10.objs.size := Nat.lt_trans hI1 hD2lt
        k_steps
        rename _ = Data.cell (some (Value.int x tx)) => dV
        rename _ = Data.cell (some (Value.int (i : Int) t)) => dP
        rename News _ _ _ _ => N12
        refine' endw_intro (by assumption) N12 (n' := (fL + 1 + 1 + 1, o1) :: (fL + 1 + 1, _) :: (fL + 1, _) :: (h10.objs.size, listOf (List.toArray (vS ++ ys2)) 0) :: rest') ?sub (off_its hLI hIS hrI hnew) (JCh.next ?z ?h1 dP dV hx hsetsE hps hre' hrE hsE hnE hnew hrL hrI hLI hIS)
        case h1 => with_unfolding_all exact rfl
        case z => intro z h1; simp only [if_neg h1]
        case sub =>
          simp only [List.cons_append, List.nil_append]
          exact sub_cons (by k_mem) (sub_cons (by k_mem) (sub_cons (by k_mem) (sub_cons (by k_mem) (sub_cons (by k_mem) (sub_cons (by k_mem) (by repeat' first | exact sub_refl | apply sub_skip))))))
  

end
section
theorem ints_some : ∀ {l : List Value}, (∀ v ∈ l, ∃ n t, v = .int n t) → ∃ ms, IntsAre l ms
  | [], _ => ⟨[], .nil⟩
  | v :: r, h => by
    obtain ⟨n, t, rfl⟩ := h v (.head _)
    obtain ⟨ms, k⟩ := ints_some fun u hu => h u (.tail _ hu)
    exact ⟨n :: ms, .cons n t k⟩
theorem ints_mem {vs : List Value} {ns : List Int} (h : IntsAre vs ns) : ∀ v ∈ vs, ∃ n t, v = .int n t := by
  induction h with
  | nil => exact fun _ h => nomatch h
  | cons n t _ ih => exact fun v hv => (List.mem_cons.mp hv).elim (fun e => ⟨n, t, e⟩) (ih v)
theorem slice_ints {vs : List Value} {ns : List Int} {lo hi st : Option Int} (h : IntsAre vs ns) : ∃ ms, IntsAre (slicePick vs.toArray lo hi st).toList ms := by
  refine ints_some fun v hv => ?_
  unfold slicePick at hv
  obtain ⟨i, _, e⟩ := List.mem_filterMap.mp (by simpa using hv)
  exact ints_mem h v (List.mem_of_getElem? (by simpa using e))
noncomputable def RingOk (ns : List Int) : Prop := ∀ x ∈ ns, 0 ≤ x ∧ x < 8
noncomputable def JRing (ra : Addr) (m₀ : Str → Option Value) (news₀ : List (Addr × Obj)) (I : Addr) (i : Nat) (m' : Str → Option Value) (n' : List (Addr × Obj)) : Prop :=
  ∃ vg k gs, (∀ z, z ≠ Str.ofString "cell" → z ≠ Str.ofString "number" → m' z = m₀ z) ∧ n' = (ra, listOf (List.toArray vg) k) :: news₀ ∧ IntsAre vg gs ∧ gs.length = i ∧ RingOk gs ∧ (∀ p ∈ news₀, p.1 < I) ∧ ra < I
theorem JRing.start {I ra la : Addr} {oL : Obj} {m₀ : Str → Option Value} {news : List (Addr × Obj)} {k : Nat} (hI : ∀ p ∈ (ra, listOf (List.toArray []) k) :: (la, oL) :: news, p.1 < I) : JRing ra m₀ ((la, oL) :: news) I 0 m₀ ((ra, listOf (List.toArray []) k) :: (la, oL) :: news) :=
  ⟨[], k, [], fun _ _ _ => rfl, rfl, .nil, rfl, (show RingOk [] from fun _ h => nomatch h), fun p hp => hI p (.tail _ hp), hI _ (.head _)⟩
theorem JRing.keep {I ra la : Addr} {oL : Obj} {m₀ m' : Str → Option Value} {news n' : List (Addr × Obj)} {i : Nat} (h : JRing ra m₀ ((la, oL) :: news) I i m' n') : (la, oL) ∈ n' := by
  obtain ⟨vg, k, gs, _, rfl, _⟩ := h
  exact .tail _ (.head _)
theorem JRing.next {I ra la : Addr} {oL : Obj} {m₀ m' : Str → Option Value} {news : List (Addr × Obj)} {i k : Nat} {vg : List Value} {gs : List Int} {x : Int} {t : Tok} (hz : ∀ z, z ≠ Str.ofString "cell" → z ≠ Str.ofString "number" → m' z = m₀ z) (hi : IntsAre vg gs) (hl : gs.length = i) (hr : RingOk gs)
    (hn : ∀ p ∈ (la, oL) :: news, p.1 < I) (hI : ra < I) (hx : 0 ≤ x ∧ x < 8) : JRing ra m₀ ((la, oL) :: news) I (i + 1) m' ((ra, listOf ((List.toArray vg).push (.int x t)) k) :: (la, oL) :: news) :=
  ⟨vg ++ [.int x t], k, gs ++ [x], hz, by simp only [List.push_toArray], ints_push hi, by simp [hl], fun y hy => (List.mem_append.mp hy).elim (hr y) fun e => List.mem_singleton.mp e ▸ hx, hn, hI⟩
theorem mod8 (a : Int) : 0 ≤ a.fmod 8 ∧ a.fmod 8 < 8 := by
  rw [Int.fmod_eq_emod_of_nonneg _ (by decide)]
  omega
theorem off_ring {I ra : Addr} {oE oI oR : Obj} {news₀ : List (Addr × Obj)} (hrI : ra < I) (hn : ∀ p ∈ news₀, p.1 < I) : ∀ p ∈ (ra, oR) :: news₀, ∀ q ∈ [(I + 1, oE), (I, oI)], p.1 ≠ q.1 := by
  intro p hp q hq
  have h1 : p.1 < I := (List.mem_cons.mp hp).elim (fun e => e ▸ hrI) (hn p)
  rcases List.mem_cons.mp hq with rfl | hq
  · exact Nat.ne_of_lt (Nat.lt_succ_of_lt h1)
  · cases List.mem_singleton.mp hq
    exact Nat.ne_of_lt h1
theorem map_ring {m' m₀ : Str → Option Value} {a b : Str} (hz : ∀ z, z ≠ a → z ≠ b → m' z = m₀ z) : m' = fun y => if y = a then m' y else if y = b then m' y else m₀ y := by
  funext y
  by_cases h1 : y = a
  · rw [if_pos h1]
  · rw [if_neg h1]
    by_cases h2 : y = b
    · rw [if_pos h2]
    · rw [if_neg h2]; exact hz y h1 h2
theorem one_lt {a b : Nat} (h : a < b) : a < b + 1 := Nat.lt_succ_of_lt h
theorem ltN {a b : Nat} (h : a < b) : a < b := h
structure MStop (P : Prop) : Prop where
  at_ : P
theorem enum_inv {prog : Program} {w : World} {A : Around} {E : Value → Shared → Prop} {s : Shared} {env : Env} {h₀ : Heap} {body : List Stmt} {Q : Flow → Shared → Prop} {elts : List Expr} {k : Nat} {pos : Pos} {l : Addr} {vs : List Value} {ns : List Int} {n : Nat} {m₀ : Str → Option Value} {news : List (Addr × Obj)}
    (J : Addr → Nat → (Str → Option Value) → List (Addr × Obj) → Prop) (hi : IntsAre vs ns) (hh : A.handled = none) (F : Fr h₀ env.locals s.heap m₀) (N : News h₀ env.locals s.heap news) (hm : (l, listOf (List.toArray vs) n) ∈ news) (j0 : ∀ I, (∀ p ∈ news, p.1 < I) → J I 0 m₀ news)
    (hk : ∀ I i m n', J I i m n' → (l, listOf (List.toArray vs) n) ∈ n')
    (turn : MStop (∀ I i nv tv T t h tk m n oE oI, ns[i]? = some nv → J I i m n → IsTup h T #[.int (i : Int) t, .int nv tv] → Fr h₀ env.locals h m → oE.cls = .type "enumerate" → oI.cls = .type "list_iterator" → News h₀ env.locals h ((I + 1, oE) :: (I, oI) :: n) →
      wpAny (model prog w) A (assign (.Tuple elts k pos) env (.ref T)) (fun _ s₂ => wpAny (model prog w) A (execs body env) (UnrPostW h₀ env.locals { s with heap := h, toks := tk } [(I + 1, oE), (I, oI)] (J I (i + 1)) Q) E s₂) E { s with heap := h, toks := tk }))
    (done : MStop (∀ I m n h tk, J I ns.length m n → Fr h₀ env.locals h m → News h₀ env.locals h n → Q .next { s with heap := h, toks := tk })) :
    wpAny (model prog w) A (call (.type "enumerate") [.ref l]) (fun xv s₁ => wpAny (model prog w) A (pyIter xv) (fun it s₂ => TurnsAt prog w A h₀ env (.Tuple elts k pos) body Q E it s₂) E s₁) E s := by
  refine ktu_enum hh F N hm rfl rfl rfl fun I hI => ?_
  refine items_inv (vs := vs) (keep := [(l, listOf (List.toArray vs) n)]) (J I) (fun i m n' h => And.intro (hk _ _ _ _ h) trivial) ?_ (by rw [hi.length]; exact done.at_ I) vs 0 _ _ rfl (Nat.zero_le _) (j0 I hI)
  intro i v T t h tk m n hv hJ hT F'
  obtain ⟨nv, tv, rfl, hnv⟩ := ints_at hi hv
  exact AllObj.cons fun oE hE => AllObj.cons fun oI hI' => AllObj.nil fun N' => turn.at_ I i nv tv T t h tk m n oE oI hnv hJ hT F' hE hI' N'
theorem ring_enum {prog : Program} {w : World} {A : Around} {E : Value → Shared → Prop} {s : Shared} {env : Env} {h₀ : Heap} {body : List Stmt} {Q : Flow → Shared → Prop} {elts : List Expr} {k : Nat} {pos : Pos} {l ra : Addr} {vs : List Value} {ns : List Int} {n kr : Nat} {m₀ : Str → Option Value} {news : List (Addr × Obj)}
    (hi : IntsAre vs ns) (hh : A.handled = none) (F : Fr h₀ env.locals s.heap m₀) (N : News h₀ env.locals s.heap ((ra, listOf (List.toArray []) kr) :: (l, listOf (List.toArray vs) n) :: news))
    (turn : MStop (∀ I i nv tv T t h tk m n' oE oI, ns[i]? = some nv → JRing ra m₀ ((l, listOf (List.toArray vs) n) :: news) I i m n' → IsTup h T #[.int (i : Int) t, .int nv tv] → Fr h₀ env.locals h m → oE.cls = .type "enumerate" → oI.cls = .type "list_iterator" → News h₀ env.locals h ((I + 1, oE) :: (I, oI) :: n') →
      wpAny (model prog w) A (assign (.Tuple elts k pos) env (.ref T)) (fun _ s₂ => wpAny (model prog w) A (execs body env) (UnrPostW h₀ env.locals { s with heap := h, toks := tk } [(I + 1, oE), (I, oI)] (JRing ra m₀ ((l, listOf (List.toArray vs) n) :: news) I (i + 1)) Q) E s₂) E { s with heap := h, toks := tk }))
    (done : MStop (∀ I m n' h tk, JRing ra m₀ ((l, listOf (List.toArray vs) n) :: news) I ns.length m n' → Fr h₀ env.locals h m → News h₀ env.locals h n' → Q .next { s with heap := h, toks := tk })) :
    wpAny (model prog w) A (call (.type "enumerate") [.ref l]) (fun xv s₁ => wpAny (model prog w) A (pyIter xv) (fun it s₂ => TurnsAt prog w A h₀ env (.Tuple elts k pos) body Q E it s₂) E s₁) E s :=
  enum_inv (JRing ra m₀ ((l, listOf (List.toArray vs) n) :: news)) hi hh F N (.tail _ (.head _)) (fun I hI => JRing.start hI) (fun _ _ _ _ h => JRing.keep h) turn done
set_option maxHeartbeats 1000000 in
theorem ring_spec {w : World} {mg mb : Str → Option Value} {loose : List Str} {mean : ExcName → Option Value} {dp un : Nat} {gd : Option (List Code)} {cn : Str} {cs : Scope} {ca : Addr} {ccd : Value} {cl : List (Str × Addr)} {outer : List Env} {A₀ : Around} {base h₀ : Heap} {L : Addr} {m : Str → Option Value} {news : List (Addr × Obj)} {s : Shared} {Q E : Value → Shared → Prop} {l : Addr} {vs : List Value} {xs : List Int} :
    (Mine.hd.heap_39 w.params).In h₀ → Below A₀ base outer h₀ → Fr h₀ L s.heap m → Top Mine.hd.view_39 loose mean mg mb h₀ → cs.kind = .function → News h₀ L s.heap news → h₀.IsList l vs.toArray → IntsAre vs xs → vs.length ≤ sizeLine → dp + 20 < recursionLimit → un + 200 < cLine →
    (∀ r vr kr ns h' tk', Fr h₀ L h' m → News h₀ L h' ((r, listOf (List.toArray vr) kr) :: news) → (∀ q ∈ news, q.1 < r) → IntsAre vr ns → ns.length = 6 → RingOk ns → Q (.ref r) { s with heap := h', toks := tk' }) →
    wpAny (model PySem.Challenge.rw_wu0047_01.row.prog w) (ktrTop dp un gd cn cs L ca ccd cl outer) (call (.ref 109) [.ref l]) Q E s := by
  k_fill
  intro X B F T hk N hL hi hsz hd hu hret
  w_top off
  k_with_none
  k_with "enter" => first
    | (refine' code_def (by k_asm) (by k_asm) (by k_asm) (by k_asm) (by k_asm) rfl rfl (by assumption) (by k_is) (by k_is) (by ktr_room) (by first | exact BindsTo.of_eq rfl | exact binds_K (by k_in) rfl (by k_is) rfl rfl rfl | exact kp_binds (by k_in) (fun _ => rfl)) (by exact locs rfl) ?_ (by exact rfl) (by exact rfl) (by exact rfl) (by decide); k_whole; intro _ _ _ _ _ _ _ _ _; (try dsimp only); (try k_fold))
    | (refine' code_defC (by k_asm) (by k_asm) (by k_asm) (by k_asm) (by k_asm) rfl rfl (by assumption) (by k_is) (by k_is) (by ktr_room) (by first | exact BindsTo.of_eq rfl | exact binds_K (by k_in) rfl (by k_is) rfl rfl rfl | fail "k_enter: no rule for these arguments") (by exact rfl) (by decide +kernel) ?_ (by exact rfl) (by exact rfl) (by exact rfl); k_whole; intro _ _ _ _ _ _ _ N' Y' _ _ _ _; k_cells Y'; (try simp only [List.cons_append, List.nil_append] at N'); (try dsimp only); (try k_fold))
  k_with "room" => first | k_dflt (exact Mine.room1 (by assumption) rfl) | k_dflt (exact Mine.room0 (by assumption) rfl) | k_dflt (exact Mine.room2 (by assumption))
  k_with "units" => first | k_dflt (exact Mine.unit1 (by assumption) rfl) | k_dflt (exact Mine.unit0 (by assumption) rfl)
  k_with "all" => first | assumption | exact Mine.lt_all_ne (by assumption) | (refine' List.forall_mem_cons.mpr ⟨?ka1, ?ka2⟩; (case ka1 => k_ne); (case ka2 => k_all))
  k_with "pyIter ref" => k_extra "my iter"
  k_with "UnrEnd" => k_extra "my end"
  k_with "call builtin:list.append" => k_extra "my append"
  k_with "exec While Compare cons nil" => k_extra "my while"
  k_with "lt" => first | assumption | (rename _ ∧ _ => hcN; first | exact hcN.1 | exact hcN.2.1 | exact hcN.2.2.1 | exact hcN.2.2.2.1 | exact hcN.2.2.2.2.1 | exact hcN.2.2.2.2.2.1 | exact hcN.2.2.2.2.2.2.1 | exact hcN.2.2.2.2.2.2.2.1 | exact hcN.2.2.2.2.2.2.2.2.1 | exact hcN.2.2.2.2.2.2.2.2.2.1 | exact hcN.2.2.2.2.2.2.2.2.2.2.1 | exact hcN.2.2.2.2.2.2.2.2.2.2.2.1 | exact hcN.2 | exact hcN.2.2 | exact hcN.2.2.2 | exact hcN.2.2.2.2 | exact hcN.2.2.2.2.2 | exact hcN.2.2.2.2.2.2 | (clear hcN; k_extra "lt"))
  k_with "ne" => with_reducible first | assumption | (refine Nat.ne_of_lt ?_; k_extra "lt") | (refine Nat.ne_of_gt ?_; k_extra "lt")
  k_with "UnrPostW" => k_extra "my endw"
  k_with "UnrEndW" => k_extra "my endw"
  k_with "call type:enumerate" => k_extra "my enum"
  k_with "exec For Tuple Call cons nil" => k_extra "my for"
  k_with "subscriptTail Name Slice ref ref" => k_extra "my slice"
  k_with "call builtin:sum" => k_extra "my sum"
  k_with "my for" => 
      rename Fr _ _ _ _ => lF
      refine wpAny_noRaise ?_
      with_unfolding_all refine' For_turns lF ?_ ?hs PassesOwn.never
      case hs => intro _; with_unfolding_all exact rfl
  k_with "my enum" => 
      rename Fr _ _ _ _ => lF
      rename News _ _ _ _ => lN
      have lN2 := led_sub lN (sub_cons (List.Mem.tail _ (List.Mem.head _)) (sub_cons (List.Mem.head _) (sub_skip (sub_skip sub_refl))))
      with_unfolding_all refine' ring_enum (ns := [1, 2, 3, 0, 5, 5]) ?hiw ?eh lF lN2 ?eturn ?edone
      case eh => with_unfolding_all exact rfl
      case hiw => with_unfolding_all exact IntsAre.cons _ _ (IntsAre.cons _ _ (IntsAre.cons _ _ (IntsAre.cons _ _ (IntsAre.cons _ _ (IntsAre.cons _ _ IntsAre.nil)))))
  refine wpAny_call ?_
  k_dflt ktr_enter
  k_steps
  · refine MStop.mk ?_
    intro I i nv tv T t h tk m' n' oE oI hnv hJ hT F' hE hI N'
    unfold JRing at hJ
    obtain ⟨vg, k1, gs, hz, rfl, hgi, hgl, hgr, hnI, hrI⟩ := hJ
    replace F' := fr_eq F' (map_ring hz)
    have hi6 : i < 6 := (List.getElem?_eq_some_iff.mp hnv).1
    have hvl : vg.length ≤ 6 := by rw [hgi.length]; omega
    have hrI1 := one_lt hrI
    have hrI2 := ltN hrI
    rename (∀ p, p ∈ news → p.1 < _) => hnr0
    have hnr := fun p hp => Nat.ne_of_lt (hnr0 p hp)
    k_with "my slice" => 
        rename Fr _ _ _ _ => lF
        rename News _ _ _ _ => lN
        rename Fr h₀ L _ _ => lFG
        obtain ⟨ms, hms⟩ := slice_ints (lo := some (i : Int)) (hi := none) (st := some 6) hi
        with_unfolding_all refine' kmk_slice3_lit (its := vs.toArray) (lo := some (i : Int)) (hi := none) (st := some 6) lF lN ?sl ?sp ?sq ?sk (by decide) rfl ?_ ?ss ?st ?sz
        case sl => exact Heap.IsList.at hL fun o e => lF.keep _ _ (lFG.keep _ _ e)
        case sp => exact IsPart.int _ _
        case sq => exact IsPart.none
        case sk => exact IsPart.int _ _
        case ss => with_unfolding_all rfl
        case st => intro _; with_unfolding_all rfl
        case sz => simpa using hsz
        intro Ds hs' Fs Ns ls
        try k_lt ls
        try k_fold
    k_with "my sum" => 
        rename Fr _ _ _ _ => lF
        rename News _ _ _ _ => lN
        with_unfolding_all refine' LSm.sum_ints lF lN ?sh ?sl2 hms ?_
        case sh => with_unfolding_all exact rfl
        case sl2 => exact News.isList lN List.mem_cons_self
        intro hs2 tk2 t2 F2 N2
        try k_fold
    k_steps
    rename News _ _ _ _ => N12
    refine' endw_intro (by assumption) N12 (n' := (_, listOf ((List.toArray vg).push _) _) :: _ :: news) ?sub ?off (JRing.next ?z hgi hgl hgr hnI hrI (mod8 _))
    case z => intro z a1 a2; simp only [if_neg a1, if_neg a2]
    case sub =>
      simp only [List.cons_append, List.nil_append]
      exact sub_cons (by k_mem) (sub_cons (by k_mem) (sub_cons (by k_mem) (sub_cons (by k_mem) (by repeat' first | exact sub_refl | apply sub_skip))))
    case off => exact off_ring hrI hnI
  · refine MStop.mk ?_
    intro I m' n' h tk hJ F' N'
    unfold JRing at hJ
    obtain ⟨vg, k1, gs, hz, rfl, hgi, hgl, hgr, hnI, hrI⟩ := hJ
    replace F' := fr_eq F' (map_ring hz)
    rename (∀ p, p ∈ news → p.1 < _) => hnr0
    k_steps
    exact hret _ vg k1 gs _ _ (by assumption) (led_sub (by assumption) (sub_cons (by k_mem) (by repeat' first | exact sub_refl | apply sub_skip))) hnr0 hgi hgl hgr

end
section
theorem ListsIn.head {n : List (Addr × Obj)} {vs : List Value} {ps : List (List Int)} (x : ListsIn n vs ps) (h : ps ≠ []) : ∃ a va ka p, vs[Int.toNat 0]? = some (.ref a) ∧ ps.head? = some p ∧ (a, listOf (List.toArray va) ka) ∈ n ∧ IntsAre va p := by
  cases x with
  | nil => exact absurd rfl h
  | cons ha hia r => exact ⟨_, _, _, _, rfl, rfl, ha, hia⟩
theorem maxL_mem : ∀ {l : List Nat}, l ≠ [] → maxL l ∈ l
  | [], h => absurd rfl h
  | x :: r, _ => by
    rw [maxL]
    by_cases e : r = []
    · subst e
      have : max x (maxL []) = x := Nat.max_eq_left (Nat.zero_le _)
      rw [this]
      exact .head _
    · rcases Nat.le_total x (maxL r) with q | q
      · rw [Nat.max_eq_right q]
        exact .tail _ (maxL_mem e)
      · rw [Nat.max_eq_left q]
        exact .head _
theorem choices_ne (ns : List Int) : choicesP ns ≠ [] := by
  intro e
  have hne : ((setsAt ns 6).map fun p => p.1.length) ≠ [] := by
    intro q
    have := sets_pos ns 6
    rw [List.map_eq_nil_iff] at q
    rw [q] at this
    exact absurd this (Nat.lt_irrefl 0)
  obtain ⟨p, hp, hm⟩ := List.mem_map.mp (maxL_mem hne)
  have : p.1 ∈ choicesP ns := by
    unfold choicesP selP
    refine List.mem_map.mpr ⟨p, List.mem_filter.mpr ⟨hp, ?_⟩, rfl⟩
    rw [← hm]
    exact beq_self_eq_true _
  rw [e] at this
  cases this
theorem choices_len {ns p : List Int} (h : p ∈ choicesP ns) : p.length ≤ 6 := by
  unfold choicesP selP at h
  obtain ⟨q, hq, rfl⟩ := List.mem_map.mp h
  exact (sets_bound ns 6 q (List.mem_filter.mp hq).1).1
theorem choices_len0 {ns p : List Int} {va : List Value} (hi : IntsAre va p) (hp : (choicesP ns).head? = some p) : va.length ≤ 6 := by
  rw [hi.length]
  exact choices_len (List.mem_of_mem_head? hp)
theorem choices_size (ns : List Int) : (choicesP ns).length ≤ 64 := by
  unfold choicesP selP
  rw [List.length_map]
  exact Nat.le_trans (List.length_filter_le _ _) (sets_len ns 6)

end
section
theorem throwGo_range (r : List Int) (b : Int) : ∀ (n : Nat) (t : Int) (sums : List Int), t ≤ throwGo r b n t sums ∧ throwGo r b n t sums ≤ t + n
  | 0, t, _ => ⟨Int.le_refl _, by simp [throwGo]⟩
  | n + 1, t, sums => by
    rw [throwGo]
    split
    · exact ⟨Int.le_refl _, by omega⟩
    · have := throwGo_range r b n (t + 1) (more sums (at6 r (b + t + 1)))
      omega
theorem throwP_range (r : List Int) (b : Int) : 0 ≤ throwP r b ∧ throwP r b ≤ 6 := by
  have := throwGo_range r b 6 0 [0]
  unfold throwP
  omega
noncomputable def throwsP (ns : List Int) : List Int := [throwP ns 0, throwP ns 1, throwP ns 2, throwP ns 3, throwP ns 4, throwP ns 5]
theorem throws_range (ns : List Int) : ∀ t ∈ throwsP ns, 0 ≤ t ∧ t ≤ 6 := by
  intro t ht
  unfold throwsP at ht
  simp only [List.mem_cons, List.not_mem_nil, or_false] at ht
  rcases ht with rfl | rfl | rfl | rfl | rfl | rfl <;> exact throwP_range _ _

end
section
noncomputable def thP (ns : List Int) : List Int := (rangeKs 0 6).map fun b => throwP ns b
noncomputable def orderP (st : Int) : List Int := (rangeKs st 6).map fun b => b.fmod 6
noncomputable def freshAt (ns : List Int) (st : Int) : List Int := (freshP ns st).map fun b => b.fmod 6
noncomputable def dueP (ns : List Int) : List Int := ((rangeKs 0 12).filter fun b => at6 ns b != 0).map fun b => b + 1
/-- what the plain law says of a ring -/
structure LawFacts (ns : List Int) : Prop where
  sum : ∀ p, (choicesP ns).head? = some p → (thP ns).sum = 6 * (p.length : Int)
  jug : jugP ns (thP ns) = true
  good : GoodThrows ns (thP ns)
  marks : marksP ns (thP ns) = dueP ns
  gale : ∀ st, 0 ≤ st → st < 6 → ∀ srt : List Int, srt.Perm (freshAt ns st) → srt.Pairwise (· ≤ ·) → srt ∈ choicesP ns ∧ (∀ held ∈ choicesP ns, parenP (textP (orderP st) (freshAt ns st) held) = true) ∧ ∀ held ∈ choicesP ns, parenP (textP (orderP st) held (freshAt ns st)) = (held == srt)

end
section
theorem rangeKs_snoc (a : Int) (n : Nat) : rangeKs a (n + 1) = rangeKs a n ++ [a + (n : Int)] := by
  unfold rangeKs
  rw [List.range_succ, List.map_append]; rfl
/-- a block of ints that makes nothing else -/
noncomputable def JInts (g : Nat → List Int) (n₀ : List (Addr × Obj)) (i : Nat) (ys : List Value) (n₁ : List (Addr × Obj)) : Prop := n₁ = n₀ ∧ IntsAre ys (g i)
theorem JInts.start {g : Nat → List Int} {n₀ : List (Addr × Obj)} (h : g 0 = []) : JInts g n₀ 0 [] n₀ := ⟨rfl, by rw [h]; exact .nil⟩
theorem JInts.next {g : Nat → List Int} {n₀ : List (Addr × Obj)} {i : Nat} {ys : List Value} {k : Int} {t : Tok} (hi : IntsAre ys (g i)) (h : g (i + 1) = g i ++ [k]) : JInts g n₀ (i + 1) (ys ++ [.int k t]) n₀ := ⟨rfl, by rw [h]; exact ints_push hi⟩
theorem JInts.skip {g : Nat → List Int} {n₀ : List (Addr × Obj)} {i : Nat} {ys : List Value} (hi : IntsAre ys (g i)) (h : g (i + 1) = g i) : JInts g n₀ (i + 1) ys n₀ := ⟨rfl, by rw [h]; exact hi⟩
noncomputable def dueTo (ns : List Int) (i : Nat) : List Int := ((rangeKs 0 i).filter fun b => at6 ns b != 0).map fun b => b + 1
theorem due_yes {ns : List Int} {i : Nat} (h : at6 ns (0 + (i : Int)) ≠ 0) : dueTo ns (i + 1) = dueTo ns i ++ [0 + (i : Int) + 1] := by
  unfold dueTo
  rw [rangeKs_snoc, List.filter_append, List.map_append, List.filter_cons, if_pos (bne_iff_ne.mpr h)]; rfl
theorem due_no {ns : List Int} {i : Nat} (h : at6 ns (0 + (i : Int)) = 0) : dueTo ns (i + 1) = dueTo ns i := by
  unfold dueTo
  rw [rangeKs_snoc, List.filter_append, List.map_append, List.filter_cons, if_neg (by rw [h]; decide)]; exact List.append_nil _
theorem due_len (ns : List Int) (i : Nat) : (dueTo ns i).length ≤ i := by
  unfold dueTo
  rw [List.length_map]
  exact Nat.le_trans (List.length_filter_le _ _) (Nat.le_of_eq (rangeKs_length _ _))
theorem due_start {ns : List Int} {n₀ : List (Addr × Obj)} : JInts (dueTo ns) n₀ 0 [] n₀ := JInts.start rfl
noncomputable def orderTo (st : Int) (i : Nat) : List Int := (rangeKs st i).map fun b => b.fmod 6
theorem order_next {st : Int} {i : Nat} : orderTo st (i + 1) = orderTo st i ++ [(st + (i : Int)).fmod 6] := by
  unfold orderTo
  rw [rangeKs_snoc, List.map_append]; rfl
theorem order_len (st : Int) (i : Nat) : (orderTo st i).length = i := by
  unfold orderTo
  rw [List.length_map, rangeKs_length]
theorem order_start {st : Int} {n₀ : List (Addr × Obj)} : JInts (orderTo st) n₀ 0 [] n₀ := JInts.start rfl
noncomputable def fmodTo (l : List Int) (i : Nat) : List Int := (l.take i).map fun b => b.fmod 6
theorem fmod_next {l : List Int} {i : Nat} {x : Int} (h : l[i]? = some x) : fmodTo l (i + 1) = fmodTo l i ++ [x.fmod 6] := by
  unfold fmodTo
  rw [List.take_add_one, h, List.map_append]; rfl
theorem fmod_start {l : List Int} {n₀ : List (Addr × Obj)} : JInts (fmodTo l) n₀ 0 [] n₀ := JInts.start rfl
/-- a block of texts that makes nothing else -/
noncomputable def JStrs (g : Nat → List Str) (n₀ : List (Addr × Obj)) (i : Nat) (ys : List Value) (n₁ : List (Addr × Obj)) : Prop := n₁ = n₀ ∧ StrsAre ys (g i)
theorem JStrs.start {g : Nat → List Str} {n₀ : List (Addr × Obj)} (h : g 0 = []) : JStrs g n₀ 0 [] n₀ := ⟨rfl, by rw [h]; exact .nil⟩
theorem JStrs.next {g : Nat → List Str} {n₀ : List (Addr × Obj)} {i : Nat} {ys : List Value} {x : Str} {t : Tok} (hi : StrsAre ys (g i)) (h : g (i + 1) = g i ++ [x]) : JStrs g n₀ (i + 1) (ys ++ [.str x t]) n₀ := ⟨rfl, by rw [h]; exact strs_push hi⟩
noncomputable def mapTo {α β : Type} (f : α → β) (l : List α) (i : Nat) : List β := (l.take i).map f
theorem map_next {α β : Type} {f : α → β} {l : List α} {i : Nat} {x : α} (h : l[i]? = some x) : mapTo f l (i + 1) = mapTo f l i ++ [f x] := by
  unfold mapTo
  rw [List.take_add_one, h, List.map_append]; rfl
theorem map_start {α : Type} {f : α → Str} {l : List α} {n₀ : List (Addr × Obj)} : JStrs (mapTo f l) n₀ 0 [] n₀ := JStrs.start rfl
theorem cout_off {n₁ : List (Addr × Obj)} {M₀ C D : Addr} {o : Obj} (off : ∀ p ∈ n₁, p.1 < M₀ ∨ C < p.1) (h1 : M₀ ≤ D) (h2 : D < C) : ∀ q ∈ (D, o) :: n₁, q.1 ≠ C := by
  intro q hq
  rcases List.mem_cons.mp hq with rfl | hq
  · exact Nat.ne_of_lt h2
  · rcases off q hq with z | z
    · exact Nat.ne_of_lt (Nat.lt_of_lt_of_le z (Nat.le_of_lt (Nat.lt_of_le_of_lt h1 h2)))
    · exact Nat.ne_of_gt z
theorem fmod6 (a : Int) : 0 ≤ a.fmod 6 ∧ a.fmod 6 < 6 := by
  rw [Int.fmod_eq_emod_of_nonneg _ (by decide)]
  omega
theorem len_short {prog : Program} {w : World} {A : Around} {E : Value → Shared → Prop} {s : Shared} {l : Addr} {vs : List Value} {Q : Value → Shared → Prop} (hl : s.heap.IsList l vs.toArray) (hb : vs.length ≤ 6)
    (h : Q (.int (vs.length : Int) (s.toks + 1)) { s with toks := s.toks + 1 + 1 }) : wpAny (model prog w) A (call (.builtin "len") [.ref l]) Q E s :=
  len_list hl (by rw [List.size_toArray]; omega) (by rw [List.size_toArray]; exact h)
theorem ints_dat {n : List (Addr × Obj)} {vs : List Value} {ns : List Int} (h : IntsAre vs ns) : DatAll n vs (ns.map Dat.int) := by
  induction h with
  | nil => exact .nil
  | cons k t _ ih => exact .cons (.int k t) ih
theorem lists_dat {n : List (Addr × Obj)} {vs : List Value} {ps : List (List Int)} (x : ListsIn n vs ps) : DatAll n vs (ps.map fun p => Dat.list (p.map Dat.int)) := by
  induction x with
  | nil => exact .nil
  | cons ha hia _ ih => exact .cons (.list ha (ints_dat hia)) ih
theorem ok_ints (p : List Int) : kqdOk 8 (Dat.list (p.map Dat.int)) = true := by
  show (p.map Dat.int).all (kqdOk 7) = true
  rw [List.all_eq_true]
  intro d hd
  obtain ⟨k, _, rfl⟩ := List.mem_map.mp hd
  rfl
theorem ok_lists (ps : List (List Int)) : ∀ d ∈ ps.map (fun p => Dat.list (p.map Dat.int)), kqdOk 8 d = true := by
  intro d hd
  obtain ⟨p, _, rfl⟩ := List.mem_map.mp hd
  exact ok_ints p
section
variable {prog : Program} {w : World} {A : Around} {E : Value → Shared → Prop} {s : Shared} {h₀ : Heap} {L a x : Addr} {news ext : List (Addr × Obj)} {vs us : List Value} {ka kx : Nat} {ps : List (List Int)} {p : List Int} {Q : Value → Shared → Prop}
open Classical in
theorem notIn_lists (N : News h₀ L s.heap news) (ma : (a, listOf vs.toArray ka) ∈ news) (Da : ListsIn ext vs ps) (sa : ∀ q ∈ ext, q ∈ news) (mx : (x, listOf us.toArray kx) ∈ news) (hi : IntsAre us p) (hp : p ∈ ps) (hu : A.units + 64 < cLine) (h : Q (.bool false) s) :
    wpAny (model prog w) A (compareOp .NotIn (.ref x) (.ref a)) Q E s := by
  refine kqd_notIn N ma rfl rfl (lists_dat Da) sa (.list mx (ints_dat hi)) (fun _ h => h) (ok_lists ps) (ok_ints p) hu ?_
  have hm : Dat.list (p.map Dat.int) ∈ ps.map fun p => Dat.list (p.map Dat.int) := List.mem_map.mpr ⟨p, hp, rfl⟩
  rw [decide_eq_true hm]
  exact h
end
noncomputable abbrev permL {a b : List Int} (_ : a.Perm b) : List Int := a
theorem sorted_same {a b f : List Int} (pa : a.Perm f) (sa : a.Pairwise (· ≤ ·)) (pb : b.Perm f) (sb : b.Pairwise (· ≤ ·)) : a = b :=
  List.Perm.eq_of_pairwise (le := fun x y => x ≤ y) (fun _ _ _ _ h1 h2 => Int.le_antisymm h1 h2) sa sb (pa.trans pb.symm)
noncomputable def blankS : Str := Str.ofString "('', '')"
noncomputable def dueS (srt order fresh held : List Int) : Str := if held = srt then textP order held fresh else blankS
theorem due_is {srt order fresh held : List Int} (h : held = srt) : dueS srt order fresh held = textP order held fresh := if_pos h
theorem due_not {srt order fresh held : List Int} (h : ¬ held = srt) : dueS srt order fresh held = blankS := if_neg h
theorem mapS_next {α : Type} {f : α → Str} {l : List α} {i : Nat} {x : α} {y : Str} (h : l[i]? = some x) (e : f x = y) : mapTo f l (i + 1) = mapTo f l i ++ [y] := by
  rw [map_next h, e]
theorem strs_map_at {α : Type} {f : α → Str} {l : List α} {vs : List Value} {i : Nat} {v : Value} {x : α} (h : StrsAre vs (l.map f)) (hv : vs[i]? = some v) (hx : l[i]? = some x) : ∃ t, v = .str (f x) t := by
  obtain ⟨y, t, rfl, hy⟩ := strs_at h hv
  rw [List.getElem?_map, hx] at hy
  cases hy
  exact ⟨t, rfl⟩

end
section
open LCg in
section
variable {prog : Program} {w : World} {A : Around} {E : Value → Shared → Prop} {s : Shared} {h₀ : Heap} {L : Addr} {m : Str → Option Value} {env : Env}
noncomputable def PnZip (xs ys : List Value) (x x₂ : Str) (i : Nat) (_ : List (Addr × Obj)) (m₂ : Str → Option Value) : Prop := ∃ v₁ v₂, xs[i]? = some v₁ ∧ ys[i]? = some v₂ ∧ m₂ x = some v₁ ∧ m₂ x₂ = some v₂
/-- a block over zip of two lists of the ledger -/
theorem iter_zip {elt : Expr} {x₁ x₂ : Str} {p₁ p₂ pt : Pos} {k : Nat} {ifs : List Expr} {scope : Scope} {cl : List (Str × Addr)} {Fin : Value → Addr → Shared → Prop} {l1 l2 : Addr} {xs ys : List Value} {n1 n2 : Nat} {news : List (Addr × Obj)}
    (J : Nat → List Value → List (Addr × Obj) → Prop) (hh : A.handled = none) (hkind : scope.kind = .function) (hx₁ : scope.names.lookup x₁ = some .local) (hx₂ : scope.names.lookup x₂ = some .local) (hxx : x₁ ≠ x₂)
    (F : Fr h₀ L s.heap m) (N : News h₀ L s.heap news) (hm1 : (l1, listOf xs.toArray n1) ∈ news) (hm2 : (l2, listOf ys.toArray n2) ∈ news) (hlen : xs.length = ys.length) (hsz : xs.length ≤ sizeLine) (j0 : J 0 [] news)
    (turn : CTurnAll prog w A h₀ L m env elt ifs scope cl s news xs.length (PnZip xs ys x₁ x₂) J)
    (done : CDoneAll h₀ L m s news xs.length J Fin) :
    wpAny (model prog w) A (call (.type "zip") [.ref l1, .ref l2]) (fun xv s₁ => wpAny (model prog w) A (pyIter xv) (fun it s₂ => CompAt prog w A h₀ L m env elt (.Tuple [.Name x₁ p₁, .Name x₂ p₂] k pt) ifs scope cl Fin it s₂) E s₁) E s := by
  have hl1 : s.heap.IsList l1 xs.toArray := N.isList hm1
  have hl2 : s.heap.IsList l2 ys.toArray := N.isList hm2
  have hlt1 : l1 < s.heap.objs.size := Heap.lt_size (N _ hm1).1
  have hlt2 : l2 < s.heap.objs.size := Heap.lt_size (N _ hm2).1
  have hLs : L < s.heap.objs.size := F.ns.lt
  have hn1 := (N _ hm1).2.1
  have hn2 := (N _ hm2).2.1
  have D : ZipApart (s.heap.objs.size + 4) (s.heap.objs.size + 2) (s.heap.objs.size + 3) s.heap.objs.size (s.heap.objs.size + 1) l1 l2 := ktu_apart _ _ _ hlt1 hlt2
  have hlN : ∀ p ∈ news, p.1 < s.heap.objs.size := fun p hp => Heap.lt_size (N p hp).1
  have hmin : min xs.toArray.size ys.toArray.size = xs.length := by
    rw [List.size_toArray, List.size_toArray, ← hlen, Nat.min_self]
  refine call_zip_2 hl1 hl2 fun h' hz hTI hTO hi1 hi2 hsz' hk => ?_
  refine wpAny_pyIter_zip hz ?_
  have W := (KTurns.ofWalksU (elts := [.Name x₁ p₁, .Name x₂ p₂]) (k := k) (pos := pt) (WalksT.zip2 (prog := prog) (w := w) (A := A) hh _ _ _ _ _ _ _ D xs.toArray ys.toArray).toU)
  rw [hmin] at W
  refine ⟨_, _, _, _, _, _, _, PnZip xs ys x₁ x₂, news, s.heap.objs.size, J, rfl, W, hsz, fun i s Q E st hQ => wpAny_pyIter_zip st.1 hQ, ⟨hz, hTI, ⟨_, _, hTO⟩, hi1, hi2, hl1.at fun o e => hk l1 o e, hl2.at fun o e => hk l2 o e⟩, fun b hb => ?_, fun b hb => ?_, hLs, ?_,
    F.keeps hk, N.grown hk, hlN, j0, ?_, turn s ⟨_, rfl⟩ _ hlN, done s ⟨_, rfl⟩ _ hlN⟩
  · show b < h'.objs.size ∧ b ≠ L
    rw [hsz']
    have hb' : b = s.heap.objs.size + 4 ∨ b = s.heap.objs.size + 2 ∨ b = s.heap.objs.size + 3 ∨ b = s.heap.objs.size ∨ b = s.heap.objs.size + 1 ∨ b = l1 ∨ b = l2 := by simpa using hb
    have q : ∀ c : Nat, c < 5 → s.heap.objs.size + c < s.heap.objs.size + 5 ∧ s.heap.objs.size + c ≠ L := fun c hc => ⟨Nat.add_lt_add_left hc _, (ktu_ne c hLs).symm⟩
    rcases hb' with rfl | rfl | rfl | rfl | rfl | rfl | rfl
    · exact q 4 (by decide)
    · exact q 2 (by decide)
    · exact q 3 (by decide)
    · exact q 0 (by decide)
    · exact q 1 (by decide)
    · exact ⟨Nat.lt_of_lt_of_le hlt1 (Nat.le_add_right _ _), hn1⟩
    · exact ⟨Nat.lt_of_lt_of_le hlt2 (Nat.le_add_right _ _), hn2⟩
  · have hb' : b = s.heap.objs.size + 4 ∨ b = s.heap.objs.size + 3 ∨ b = s.heap.objs.size ∨ b = s.heap.objs.size + 1 := by simpa using hb
    rcases hb' with rfl | rfl | rfl | rfl
    · exact Nat.le_add_right _ _
    · exact Nat.le_add_right _ _
    · exact Nat.le_refl _
    · exact Nat.le_add_right _ _
  · show s.heap.objs.size ≤ h'.objs.size
    rw [hsz']
    exact Nat.le_add_right _ _
  · intro i v ys' n₁ C m₁ h tk Q hi hP j hC hn N₁ kk
    obtain ⟨T, vals, rfl, ⟨x, y, hx, hy, rfl⟩, hT⟩ := hP
    exact asg_comp_pair hh hkind hx₁ hx₂ hxx hT hn fun h₃ tk₃ m₂ hn₃ hm₂ hk₃ => kk h₃ tk₃ m₂ hn₃ ⟨x, y, by simpa using hx, by simpa using hy, hm₂⟩ hk₃
end

end
section
theorem join_codes : ∀ l : List Str, (Str.join (Str.ofString "") l).cps.toList = l.flatMap fun x => x.cps.toList
  | [] => rfl
  | [x] => by simp [Str.join]
  | x :: y :: r => by
    have ih := join_codes (y :: r)
    have e : (Str.ofString "").cps.toList = [] := by decide
    show ((x ++ Str.ofString "") ++ Str.join (Str.ofString "") (y :: r)).cps.toList = _
    have h2 : ((x ++ Str.ofString "") ++ Str.join (Str.ofString "") (y :: r)).cps.toList = (x.cps.toList ++ (Str.ofString "").cps.toList) ++ (Str.join (Str.ofString "") (y :: r)).cps.toList := by
      show ((x.cps ++ (Str.ofString "").cps) ++ (Str.join (Str.ofString "") (y :: r)).cps).toList = _
      rw [Array.toList_append, Array.toList_append]
    rw [h2, ih, e, List.append_nil]; rfl
noncomputable def codesAt (op cl : List Int) (p : Int) : List Nat := (if (op.any fun x => x == p) = true then [40] else []) ++ (if (cl.any fun x => x == p) = true then [41] else [])
theorem text_codes (order op cl : List Int) : (textP order op cl).cps.toList = order.flatMap (codesAt op cl) := by
  have h1 : textP order op cl = Str.join (Str.ofString "") (signsP order op cl) := by
    show Builtin.Str.glued (Str.ofString "") (signsP order op cl) = _
    exact StrLaws.glued_eq_join _ _
  rw [h1, join_codes]
  unfold signsP
  rw [List.flatMap_assoc]
  congr 1
  funext p
  unfold signsAt codesAt
  rw [List.flatMap_append]
  congr 1
  · split <;> decide
  · split <;> decide
theorem text_clean (order op cl : List Int) : ∀ c ∈ (textP order op cl).cps, c ≠ 34 ∧ c ≠ 92 := by
  intro c hc
  have hc' : c ∈ (textP order op cl).cps.toList := by simpa using hc
  rw [text_codes] at hc'
  obtain ⟨p, _, hp⟩ := List.mem_flatMap.mp hc'
  unfold codesAt at hp
  rcases List.mem_append.mp hp with hp | hp
  · split at hp
    · rw [List.mem_singleton.mp hp]; decide
    · cases hp
  · split at hp
    · rw [List.mem_singleton.mp hp]; decide
    · cases hp
theorem maps_clean {l : List (List Int)} {f : List Int → Str} {order : List Int} (h : ∀ x, ∃ op cl, f x = textP order op cl) : ∀ x ∈ l.map f, ∀ c ∈ x.cps, c ≠ 34 ∧ c ≠ 92 := by
  intro x hx
  obtain ⟨y, _, rfl⟩ := List.mem_map.mp hx
  obtain ⟨op, cl, e⟩ := h y
  rw [e]
  exact text_clean _ _ _
theorem strs_dat {n : List (Addr × Obj)} {vs : List Value} {ns : List Str} (h : StrsAre vs ns) : DatAll n vs (ns.map Dat.str) := by
  induction h with
  | nil => exact .nil
  | cons k t _ ih => exact .cons (.str k t) ih
theorem ok_strs {ns : List Str} (h : ∀ x ∈ ns, PyData.strOk x = true) : ∀ d ∈ ns.map Dat.str, kqdOk 8 d = true := by
  intro d hd
  obtain ⟨x, hx, rfl⟩ := List.mem_map.mp hd
  exact h x hx
section
variable {prog : Program} {w : World} {A : Around} {E : Value → Shared → Prop} {s : Shared} {h₀ : Heap} {L a b : Addr} {news : List (Addr × Obj)} {vs us : List Value} {ka kb : Nat} {xs ys : List Str} {Q : Value → Shared → Prop}
open Classical in
theorem eq_strs (N : News h₀ L s.heap news) (ma : (a, listOf vs.toArray ka) ∈ news) (sa : StrsAre vs xs) (mb : (b, listOf us.toArray kb) ∈ news) (sb : StrsAre us ys) (hk : ∀ x ∈ xs, PyData.strOk x = true) (e : xs = ys) (hu : A.units + 64 < cLine) (h : Q (.bool true) s) :
    wpAny (model prog w) A (compareOp .Eq (.ref a) (.ref b)) Q E s := by
  refine kqd_eq (n₁ := []) (n₂ := []) N ma rfl rfl (strs_dat sa) (fun _ h => nomatch h) mb rfl rfl (strs_dat sb) (fun _ h => nomatch h) (ok_strs hk) (ok_strs (e ▸ hk)) hu ?_
  have hd : xs.map Dat.str = ys.map Dat.str := by rw [e]
  rw [decide_eq_true hd]
  exact h
end
theorem text_ok (order op cl : List Int) : PyData.strOk (textP order op cl) = true := by
  have h : ∀ c ∈ (textP order op cl).cps.toList, c < 0x110000 := by
    intro c hc
    rw [text_codes] at hc
    obtain ⟨p, _, hp⟩ := List.mem_flatMap.mp hc
    unfold codesAt at hp
    rcases List.mem_append.mp hp with hp | hp
    · split at hp
      · rw [List.mem_singleton.mp hp]; decide
      · cases hp
    · split at hp
      · rw [List.mem_singleton.mp hp]; decide
      · cases hp
  show (textP order op cl).cps.all (· < 0x110000) = true
  rw [Array.all_eq_true']
  intro c hc
  exact decide_eq_true (h c (by simpa using hc))
theorem maps_ok {l : List (List Int)} {f : List Int → Str} (h : ∀ x ∈ l, PyData.strOk (f x) = true) : ∀ x ∈ l.map f, PyData.strOk x = true := by
  intro x hx
  obtain ⟨y, hy, rfl⟩ := List.mem_map.mp hx
  exact h y hy
theorem valid_ahead {order fresh : List Int} {l : List (List Int)} (h : ∀ held ∈ l, parenP (textP order fresh held) = true) : validP (l.map fun held => textP order fresh held) = l.map fun held => textP order fresh held := by
  unfold validP
  rw [List.map_map]
  apply List.map_congr_left
  intro held hh
  show (if parenP (textP order fresh held) = true then _ else _) = _
  rw [if_pos (h held hh)]
theorem valid_due {srt order fresh : List Int} {l : List (List Int)} (h : ∀ held ∈ l, parenP (textP order held fresh) = (held == srt)) : validP (l.map fun held => textP order held fresh) = l.map fun held => dueS srt order fresh held := by
  unfold validP
  rw [List.map_map]
  apply List.map_congr_left
  intro held hh
  show (if parenP (textP order held fresh) = true then textP order held fresh else blankS) = dueS srt order fresh held
  rw [h held hh]
  unfold dueS
  by_cases e : held = srt
  · rw [if_pos (beq_iff_eq.mpr e), if_pos e]
  · rw [if_neg (fun q => e (beq_iff_eq.mp q)), if_neg e]
theorem due_ok {srt order fresh held : List Int} : PyData.strOk (dueS srt order fresh held) = true := by
  unfold dueS
  split
  · exact text_ok _ _ _
  · show PyData.strOk blankS = true
    decide +kernel

end
section
/-! the plain law 1: spans closed under exclusive or -/
noncomputable abbrev xr (x y : Int) : Int := Builtin.bitXor x y
noncomputable def I8 (x : Int) : Prop := 0 ≤ x ∧ x < 8
noncomputable def R8 : List Int := [0, 1, 2, 3, 4, 5, 6, 7]
theorem i8_mem {x : Int} (h : I8 x) : x ∈ R8 := by
  obtain ⟨h1, h2⟩ := h
  have : x = 0 ∨ x = 1 ∨ x = 2 ∨ x = 3 ∨ x = 4 ∨ x = 5 ∨ x = 6 ∨ x = 7 := by omega
  rcases this with rfl | rfl | rfl | rfl | rfl | rfl | rfl | rfl <;> decide
theorem xr_tab2 : ∀ x ∈ R8, ∀ y ∈ R8, 0 ≤ xr x y ∧ xr x y < 8 ∧ xr x y = xr y x := by decide +kernel
theorem xr_tab1 : ∀ x ∈ R8, xr x x = 0 ∧ xr x 0 = x := by decide +kernel
theorem xr_tab3 : ∀ x ∈ R8, ∀ y ∈ R8, ∀ z ∈ R8, xr (xr x y) z = xr x (xr y z) := by decide +kernel
theorem xr_rng {x y : Int} (hx : I8 x) (hy : I8 y) : I8 (xr x y) := ⟨(xr_tab2 x (i8_mem hx) y (i8_mem hy)).1, (xr_tab2 x (i8_mem hx) y (i8_mem hy)).2.1⟩
theorem xr_comm {x y : Int} (hx : I8 x) (hy : I8 y) : xr x y = xr y x := (xr_tab2 x (i8_mem hx) y (i8_mem hy)).2.2
theorem xr_self {x : Int} (hx : I8 x) : xr x x = 0 := (xr_tab1 x (i8_mem hx)).1
theorem xr_zero {x : Int} (hx : I8 x) : xr x 0 = x := (xr_tab1 x (i8_mem hx)).2
theorem xr_assoc {x y z : Int} (hx : I8 x) (hy : I8 y) (hz : I8 z) : xr (xr x y) z = xr x (xr y z) := xr_tab3 x (i8_mem hx) y (i8_mem hy) z (i8_mem hz)
theorem i8_zero : I8 0 := ⟨by decide, by decide⟩
theorem xr_back {x v : Int} (hx : I8 x) (hv : I8 v) : xr (xr x v) v = x := by rw [xr_assoc hx hv hv, xr_self hv, xr_zero hx]
theorem xr_zero' {x : Int} (hx : I8 x) : xr 0 x = x := by rw [xr_comm i8_zero hx, xr_zero hx]
theorem xr_right {x u v : Int} (hx : I8 x) (hu : I8 u) (hv : I8 v) : xr (xr x u) v = xr (xr x v) u := by rw [xr_assoc hx hu hv, xr_comm hu hv, ← xr_assoc hx hv hu]
structure Span (S : List Int) : Prop where
  rng : ∀ x ∈ S, I8 x
  zero : 0 ∈ S
  cl : ∀ x ∈ S, ∀ y ∈ S, xr x y ∈ S
theorem any_mem {S : List Int} {v : Int} : (S.any fun x => x == v) = true ↔ v ∈ S := by
  rw [List.any_eq_true]
  exact ⟨fun ⟨x, hx, e⟩ => (beq_iff_eq.mp e) ▸ hx, fun h => ⟨v, h, beq_iff_eq.mpr rfl⟩⟩
theorem any_not {S : List Int} {v : Int} (h : v ∉ S) : (S.any fun x => x == v) = false := Bool.eq_false_iff.mpr fun e => h (any_mem.mp e)
theorem more_in {S : List Int} {v : Int} (h : v ∈ S) : more S v = S := by
  unfold more
  rw [any_mem.mpr h]; rfl
theorem more_out {S : List Int} {v : Int} (h : v ∉ S) : more S v = S ++ S.map fun x => xr x v := by
  unfold more
  rw [any_not h]; rfl
theorem mem_more {S : List Int} {v x : Int} (hS : Span S) (hv : I8 v) : x ∈ more S v ↔ x ∈ S ∨ (I8 x ∧ xr x v ∈ S) := by
  by_cases h : v ∈ S
  · rw [more_in h]
    refine ⟨.inl, fun q => q.elim id fun ⟨q1, q2⟩ => ?_⟩
    have := hS.cl _ q2 _ h
    rwa [xr_back q1 hv] at this
  · rw [more_out h, List.mem_append, List.mem_map]
    constructor
    · rintro (q | ⟨y, hy, rfl⟩)
      · exact .inl q
      · exact .inr ⟨xr_rng (hS.rng y hy) hv, by rw [xr_back (hS.rng y hy) hv]; exact hy⟩
    · rintro (q | ⟨q1, q2⟩)
      · exact .inl q
      · exact .inr ⟨_, q2, xr_back q1 hv⟩
theorem Span.more {S : List Int} {v : Int} (hS : Span S) (hv : I8 v) : Span (more S v) := by
  refine ⟨fun x hx => ?_, (mem_more hS hv).mpr (.inl hS.zero), fun x hx y hy => ?_⟩
  · exact ((mem_more hS hv).mp hx).elim (hS.rng x) (·.1)
  · have rx : I8 x := ((mem_more hS hv).mp hx).elim (hS.rng x) (·.1)
    have ry : I8 y := ((mem_more hS hv).mp hy).elim (hS.rng y) (·.1)
    refine (mem_more hS hv).mpr ?_
    rcases (mem_more hS hv).mp hx with h1 | ⟨_, h1⟩
    · rcases (mem_more hS hv).mp hy with h2 | ⟨_, h2⟩
      · exact .inl (hS.cl _ h1 _ h2)
      · refine .inr ⟨xr_rng rx ry, ?_⟩
        rw [xr_assoc rx ry hv]; exact hS.cl _ h1 _ h2
    · rcases (mem_more hS hv).mp hy with h2 | ⟨_, h2⟩
      · refine .inr ⟨xr_rng rx ry, ?_⟩
        rw [xr_right rx ry hv]; exact hS.cl _ h1 _ h2
      · refine .inl ?_
        have := hS.cl _ h1 _ h2
        rw [xr_comm ry hv, ← xr_assoc (xr_rng rx hv) hv ry, xr_back rx hv] at this
        exact this
theorem Span.one : Span [0] := ⟨fun x hx => by rw [List.mem_singleton.mp hx]; exact i8_zero, .head _, fun x hx y hy => by rw [List.mem_singleton.mp hx, List.mem_singleton.mp hy]; decide +kernel⟩
theorem more_nodup {S : List Int} {v : Int} (hS : Span S) (hv : I8 v) (nd : S.Nodup) : (more S v).Nodup := by
  by_cases h : v ∈ S
  · rw [more_in h]; exact nd
  · rw [more_out h, List.nodup_append]
    refine ⟨nd, ?_, ?_⟩
    · refine List.pairwise_map.mpr (nd.imp_of_mem fun {a b} ha hb hab e => hab ?_)
      have := congrArg (fun z => xr z v) e
      rwa [xr_back (hS.rng a ha) hv, xr_back (hS.rng b hb) hv] at this
    · intro a ha b hb e
      subst e
      obtain ⟨y, hy, e⟩ := List.mem_map.mp hb
      refine h ?_
      have := hS.cl _ hy _ ha
      rw [← e, ← xr_assoc (hS.rng y hy) (hS.rng y hy) hv, xr_self (hS.rng y hy), xr_zero' hv] at this
      exact this
theorem more_dbl {S : List Int} {v : Int} (h : v ∉ S) : (more S v).length = 2 * S.length := by
  rw [more_out h, List.length_append, List.length_map]; omega
/-- the sums of n numbers from beat b on -/
noncomputable def sp (r : List Int) (b : Int) : Nat → List Int
  | 0 => [0]
  | n + 1 => more (sp r b n) (at6 r (b + (n : Int)))
theorem at6_rng {r : List Int} (hr : RingOk r) (b : Int) : I8 (at6 r b) := by
  unfold at6
  by_cases h : (b.fmod 6).toNat < r.length
  · rw [List.getD_eq_getElem?_getD, List.getElem?_eq_getElem h]
    exact hr _ (List.getElem_mem h)
  · rw [List.getD_eq_getElem?_getD, List.getElem?_eq_none (Nat.le_of_not_lt h)]
    exact i8_zero
theorem sp_span {r : List Int} (hr : RingOk r) (b : Int) : ∀ n, Span (sp r b n)
  | 0 => Span.one
  | n + 1 => (sp_span hr b n).more (at6_rng hr _)
theorem sp_nodup {r : List Int} (hr : RingOk r) (b : Int) : ∀ n, (sp r b n).Nodup
  | 0 => by show [(0 : Int)].Nodup; decide
  | n + 1 => more_nodup (sp_span hr b n) (at6_rng hr _) (sp_nodup hr b n)
theorem sp_up {r : List Int} (hr : RingOk r) {b x : Int} {n : Nat} (h : x ∈ sp r b n) : x ∈ sp r b (n + 1) := (mem_more (sp_span hr b n) (at6_rng hr _)).mpr (.inl h)
theorem sp_le {r : List Int} (hr : RingOk r) {b x : Int} {n m : Nat} (hnm : n ≤ m) (h : x ∈ sp r b n) : x ∈ sp r b m := by
  induction hnm with
  | refl => exact h
  | step _ ih => exact sp_up hr ih
theorem sp_last {r : List Int} (hr : RingOk r) (b : Int) (n : Nat) : at6 r (b + (n : Int)) ∈ sp r b (n + 1) :=
  (mem_more (sp_span hr b n) (at6_rng hr _)).mpr (.inr ⟨at6_rng hr _, by rw [xr_self (at6_rng hr _)]; exact (sp_span hr b n).zero⟩)
theorem sp_has {r : List Int} (hr : RingOk r) (b : Int) {i n : Nat} (h : i < n) : at6 r (b + (i : Int)) ∈ sp r b n := sp_le hr h (sp_last hr b i)
theorem sp_shift {r : List Int} (hr : RingOk r) (b : Int) : ∀ (n : Nat) (x : Int), x ∈ sp r b (n + 1) ↔ x ∈ sp r (b + 1) n ∨ (I8 x ∧ xr x (at6 r b) ∈ sp r (b + 1) n)
  | 0, x => by
    have e : sp r b (0 + 1) = more [0] (at6 r (b + ((0 : Nat) : Int))) := rfl
    have e2 : b + ((0 : Nat) : Int) = b := Int.add_zero b
    rw [e, e2]
    exact mem_more Span.one (at6_rng hr b)
  | n + 1, x => by
    have ih := sp_shift hr b n
    have hv := at6_rng hr b
    have hu := at6_rng hr (b + ((n + 1 : Nat) : Int))
    have eu : b + 1 + (n : Int) = b + ((n + 1 : Nat) : Int) := by omega
    have h1 : x ∈ sp r b (n + 1 + 1) ↔ x ∈ sp r b (n + 1) ∨ (I8 x ∧ xr x (at6 r (b + ((n + 1 : Nat) : Int))) ∈ sp r b (n + 1)) := mem_more (sp_span hr b (n + 1)) hu
    have h2 : ∀ y, y ∈ sp r (b + 1) (n + 1) ↔ y ∈ sp r (b + 1) n ∨ (I8 y ∧ xr y (at6 r (b + ((n + 1 : Nat) : Int))) ∈ sp r (b + 1) n) := fun y => by
      have := mem_more (x := y) (sp_span hr (b + 1) n) (at6_rng hr (b + 1 + (n : Int)))
      rw [eu] at this
      show y ∈ more (sp r (b + 1) n) (at6 r (b + 1 + (n : Int))) ↔ _
      rw [eu]
      exact this
    rw [h1, ih x, ih (xr x _), h2 x, h2 (xr x (at6 r b))]
    constructor
    · rintro ((q | ⟨q1, q2⟩) | ⟨q0, q | ⟨q1, q2⟩⟩)
      · exact .inl (.inl q)
      · exact .inr ⟨q1, .inl q2⟩
      · exact .inl (.inr ⟨q0, q⟩)
      · refine .inr ⟨q0, .inr ⟨xr_rng q0 hv, ?_⟩⟩
        rw [xr_right q0 hv hu]; exact q2
    · rintro ((q | ⟨q1, q2⟩) | ⟨q0, q | ⟨q1, q2⟩⟩)
      · exact .inl (.inl q)
      · exact .inr ⟨q1, .inl q2⟩
      · exact .inl (.inr ⟨q0, q⟩)
      · refine .inr ⟨q0, .inr ⟨xr_rng q0 hu, ?_⟩⟩
        rw [xr_right q0 hu hv]; exact q2
theorem fmod_per (b : Int) : (b + 6).fmod 6 = b.fmod 6 := by
  rw [Int.fmod_eq_emod_of_nonneg _ (by decide), Int.fmod_eq_emod_of_nonneg _ (by decide)]
  omega
theorem at6_per (r : List Int) (b : Int) : at6 r (b + 6) = at6 r b := by
  unfold at6
  rw [fmod_per]
theorem at6_mod (r : List Int) (b : Int) : at6 r (b.fmod 6) = at6 r b := by
  unfold at6
  have : (b.fmod 6).fmod 6 = b.fmod 6 := by
    rw [Int.fmod_eq_emod_of_nonneg _ (by decide), Int.fmod_eq_emod_of_nonneg _ (by decide)]
    omega
  rw [this]
theorem sp_per (r : List Int) (b : Int) : ∀ n, sp r (b + 6) n = sp r b n
  | 0 => rfl
  | n + 1 => by
    show more (sp r (b + 6) n) (at6 r (b + 6 + (n : Int))) = more (sp r b n) (at6 r (b + (n : Int)))
    have e : b + 6 + (n : Int) = b + (n : Int) + 6 := by omega
    rw [sp_per r b n, e, at6_per]

end
section
/-! the plain law 2: insertion in order -/
theorem pw_get {ns : List Int} (hs : ns.Pairwise (· ≤ ·)) {i j : Nat} (hij : i ≤ j) (hj : j < ns.length) : ns.getD i 0 ≤ ns.getD j 0 := by
  have hi : i < ns.length := Nat.lt_of_le_of_lt hij hj
  rw [List.getD_eq_getElem?_getD, List.getD_eq_getElem?_getD, List.getElem?_eq_getElem hi, List.getElem?_eq_getElem hj]
  show ns[i] ≤ ns[j]
  rcases Nat.lt_or_eq_of_le hij with h | h
  · exact List.pairwise_iff_getElem.mp hs i j hi hj h
  · subst h; exact Int.le_refl _
theorem bisGo_ok {ns : List Int} {x : Int} (hs : ns.Pairwise (· ≤ ·)) : ∀ (f : Nat) (lo hi : Int), 0 ≤ lo → lo ≤ hi → hi ≤ ns.length → hi - lo ≤ f →
    (∀ i : Nat, (i : Int) < lo → i < ns.length → ns.getD i 0 ≤ x) → (∀ i : Nat, hi ≤ (i : Int) → i < ns.length → x < ns.getD i 0) →
    (∀ i : Nat, (i : Int) < bisGo ns x f lo hi → i < ns.length → ns.getD i 0 ≤ x) ∧ (∀ i : Nat, bisGo ns x f lo hi ≤ (i : Int) → i < ns.length → x < ns.getD i 0)
  | 0, lo, hi, h0, h1, h2, h3, ha, hb => by
    have e : lo = hi := by omega
    subst e
    exact ⟨ha, hb⟩
  | f + 1, lo, hi, h0, h1, h2, h3, ha, hb => by
    unfold bisGo
    have e : (lo + hi).fdiv 2 = (lo + hi) / 2 := Int.fdiv_eq_ediv_of_nonneg _ (by decide)
    rw [e]
    split
    · rename_i hlt
      have m0 : 0 ≤ (lo + hi) / 2 := by omega
      have m1 : (((lo + hi) / 2).toNat : Int) = (lo + hi) / 2 := Int.toNat_of_nonneg m0
      have mlt : ((lo + hi) / 2).toNat < ns.length := by omega
      split
      · rename_i hx
        refine bisGo_ok hs f lo ((lo + hi) / 2) h0 (by omega) (by omega) (by omega) ha fun i hi' hl => ?_
        exact Int.lt_of_lt_of_le hx (pw_get hs (by omega) hl)
      · rename_i hx
        refine bisGo_ok hs f ((lo + hi) / 2 + 1) hi (by omega) (by omega) h2 (by omega) (fun i hi' hl => ?_) hb
        exact Int.le_trans (pw_get hs (by omega) mlt) (Int.not_lt.mp hx)
    · have e2 : lo = hi := by omega
      subst e2
      exact ⟨ha, hb⟩
theorem insP_perm (ns : List Int) (x : Int) : (insP ns x).Perm (x :: ns) := by
  unfold insP
  refine List.perm_middle.trans ?_
  rw [List.take_append_drop]
theorem insP_sorted {ns : List Int} {x : Int} (hs : ns.Pairwise (· ≤ ·)) : (insP ns x).Pairwise (· ≤ ·) := by
  obtain ⟨r1, r2⟩ := bisP_range ns x
  obtain ⟨ha, hb⟩ := bisGo_ok (x := x) hs ns.length 0 ns.length (Int.le_refl _) (by omega) (Int.le_refl _) (by omega) (fun i h _ => by omega) (fun i h h2 => by omega)
  have ep : ((bisP ns x).toNat : Int) = bisP ns x := Int.toNat_of_nonneg r1
  have hl : ∀ y ∈ ns.take (bisP ns x).toNat, y ≤ x := by
    intro y hy
    obtain ⟨i, hi, e⟩ := List.getElem_of_mem hy
    rw [List.length_take] at hi
    have := ha i (by show (i : Int) < bisP ns x; omega) (by omega)
    rw [List.getD_eq_getElem?_getD, List.getElem?_eq_getElem (by omega)] at this
    rw [List.getElem_take] at e
    exact e ▸ this
  have hr : ∀ y ∈ ns.drop (bisP ns x).toNat, x ≤ y := by
    intro y hy
    obtain ⟨i, hi, e⟩ := List.getElem_of_mem hy
    rw [List.length_drop] at hi
    have := hb ((bisP ns x).toNat + i) (by show bisP ns x ≤ _; omega) (by omega)
    rw [List.getD_eq_getElem?_getD, List.getElem?_eq_getElem (by omega)] at this
    rw [List.getElem_drop] at e
    exact e ▸ Int.le_of_lt this
  unfold insP
  rw [List.pairwise_append]
  refine ⟨hs.sublist (List.take_sublist _ _), ?_, ?_⟩
  · rw [List.pairwise_cons]
    exact ⟨hr, hs.sublist (List.drop_sublist _ _)⟩
  · intro a h1 b h2
    rcases List.mem_cons.mp h2 with rfl | h2
    · exact hl a h1
    · exact Int.le_trans (hl a h1) (hr b h2)
theorem insP_sum (ns : List Int) (x : Int) : (insP ns x).sum = x + ns.sum := by
  unfold insP
  rw [List.sum_append, List.sum_cons]
  have : (ns.take (bisP ns x).toNat ++ ns.drop (bisP ns x).toNat).sum = ns.sum := by rw [List.take_append_drop]
  rw [List.sum_append] at this
  omega
theorem asc_le {l : List Int} (h : l.Pairwise (· < ·)) : l.Pairwise (· ≤ ·) := h.imp fun h => Int.le_of_lt h
theorem asc_nodup {l : List Int} (h : l.Pairwise (· < ·)) : l.Nodup := h.imp fun h => Int.ne_of_lt h
theorem le_unique {a b : List Int} (ha : a.Pairwise (· ≤ ·)) (hb : b.Pairwise (· ≤ ·)) (p : a.Perm b) : a = b :=
  List.Perm.eq_of_pairwise (le := fun x y => x ≤ y) (fun _ _ _ _ h1 h2 => Int.le_antisymm h1 h2) ha hb p
theorem asc_ext {a b : List Int} (ha : a.Pairwise (· < ·)) (hb : b.Pairwise (· < ·)) (h : ∀ x, x ∈ a ↔ x ∈ b) : a = b :=
  le_unique (asc_le ha) (asc_le hb) ((List.perm_ext_iff_of_nodup (asc_nodup ha) (asc_nodup hb)).mpr h)

end
section
/-! the plain law 3: fresh beats and throws -/
theorem fresh_if {S : List Int} {v : Int} (hS : Span S) : ((more S v).length > S.length) ↔ v ∉ S := by
  have h0 : 0 < S.length := List.length_pos_of_mem hS.zero
  constructor
  · intro h e
    rw [more_in e] at h
    exact absurd h (Nat.lt_irrefl _)
  · intro h
    rw [more_dbl h]
    omega
theorem fresh_step {r : List Int} (hr : RingOk r) (b : Int) (n k : Nat) :
    freshGo r (n + 1) (b + (k : Int)) (sp r b k) = if at6 r (b + (k : Int)) ∈ sp r b k then freshGo r n (b + ((k + 1 : Nat) : Int)) (sp r b (k + 1)) else (b + (k : Int)) :: freshGo r n (b + ((k + 1 : Nat) : Int)) (sp r b (k + 1)) := by
  have e : b + ((k + 1 : Nat) : Int) = b + (k : Int) + 1 := by omega
  rw [e]
  show (if (more (sp r b k) (at6 r (b + (k : Int)))).length > (sp r b k).length then _ else _) = _
  by_cases h : at6 r (b + (k : Int)) ∈ sp r b k
  · rw [if_neg (fun q => (fresh_if (sp_span hr b k)).mp q h), if_pos h]; rfl
  · rw [if_pos ((fresh_if (sp_span hr b k)).mpr h), if_neg h]; rfl
theorem fresh_go {r : List Int} (hr : RingOk r) (b : Int) : ∀ (n k : Nat), (∀ x, x ∈ freshGo r n (b + (k : Int)) (sp r b k) ↔ ∃ i : Nat, k ≤ i ∧ i < k + n ∧ x = b + (i : Int) ∧ at6 r x ∉ sp r b i) ∧ (freshGo r n (b + (k : Int)) (sp r b k)).Pairwise (· < ·)
  | 0, k => ⟨fun x => ⟨fun h => absurd (show x ∈ ([] : List Int) from h) List.not_mem_nil, fun ⟨i, h1, h2, _⟩ => by omega⟩, List.Pairwise.nil⟩
  | n + 1, k => by
    obtain ⟨ih, ihs⟩ := fresh_go hr b n (k + 1)
    rw [fresh_step hr]
    by_cases h : at6 r (b + (k : Int)) ∈ sp r b k
    · rw [if_pos h]
      refine ⟨fun x => ?_, ihs⟩
      rw [ih x]
      constructor
      · rintro ⟨i, h1, h2, h3, h4⟩
        exact ⟨i, by omega, by omega, h3, h4⟩
      · rintro ⟨i, h1, h2, h3, h4⟩
        rcases Nat.lt_or_eq_of_le h1 with q | q
        · exact ⟨i, q, by omega, h3, h4⟩
        · subst q; subst h3; exact absurd h h4
    · rw [if_neg h]
      refine ⟨fun x => ?_, ?_⟩
      · rw [List.mem_cons, ih x]
        constructor
        · rintro (rfl | ⟨i, h1, h2, h3, h4⟩)
          · exact ⟨k, Nat.le_refl _, by omega, rfl, h⟩
          · exact ⟨i, by omega, by omega, h3, h4⟩
        · rintro ⟨i, h1, h2, h3, h4⟩
          rcases Nat.lt_or_eq_of_le h1 with q | q
          · exact .inr ⟨i, q, by omega, h3, h4⟩
          · subst q; exact .inl h3
      · rw [List.pairwise_cons]
        refine ⟨fun y hy => ?_, ihs⟩
        obtain ⟨i, h1, _, h3, _⟩ := (ih y).mp hy
        omega
theorem fresh_mem {r : List Int} (hr : RingOk r) {b x : Int} : x ∈ freshP r b ↔ ∃ i : Nat, i < 6 ∧ x = b + (i : Int) ∧ at6 r x ∉ sp r b i := by
  have h := (fresh_go hr b 6 0).1 x
  have e : b + ((0 : Nat) : Int) = b := Int.add_zero b
  rw [e] at h
  refine h.trans ⟨?_, ?_⟩
  · rintro ⟨i, _, h2, h3, h4⟩
    exact ⟨i, by omega, h3, h4⟩
  · rintro ⟨i, h2, h3, h4⟩
    exact ⟨i, Nat.zero_le _, by omega, h3, h4⟩
theorem fresh_asc {r : List Int} (hr : RingOk r) (b : Int) : (freshP r b).Pairwise (· < ·) := by
  have h := (fresh_go hr b 6 0).2
  have e : b + ((0 : Nat) : Int) = b := Int.add_zero b
  rw [e] at h
  exact h
theorem fresh_nz {r : List Int} (hr : RingOk r) {b x : Int} (h : x ∈ freshP r b) : at6 r x ≠ 0 := by
  obtain ⟨i, _, _, h4⟩ := (fresh_mem hr).mp h
  intro e
  rw [e] at h4
  exact h4 (sp_span hr b i).zero
theorem throw_go {r : List Int} (hr : RingOk r) (b : Int) : ∀ (n t : Nat), t + n = 6 → (∀ s : Nat, s < t → at6 r b ∉ sp r (b + 1) s) →
    ∃ T : Nat, throwGo r b n (t : Int) (sp r (b + 1) t) = (T : Int) ∧ T ≤ 6 ∧ at6 r b ∈ sp r (b + 1) T ∧ ∀ s : Nat, s < T → at6 r b ∉ sp r (b + 1) s
  | 0, t, h, hs => by
    have e : t = 6 := by omega
    subst e
    refine ⟨6, rfl, Nat.le_refl _, ?_, hs⟩
    have h2 := sp_last hr (b + 1) 5
    have e2 : b + 1 + ((5 : Nat) : Int) = b + 6 := by omega
    rw [e2, at6_per] at h2
    exact h2
  | n + 1, t, h, hs => by
    show ∃ T : Nat, (if ((sp r (b + 1) t).any fun x => x == at6 r b) == true then (t : Int) else throwGo r b n ((t : Int) + 1) (more (sp r (b + 1) t) (at6 r (b + (t : Int) + 1)))) = (T : Int) ∧ _
    by_cases hm : at6 r b ∈ sp r (b + 1) t
    · rw [any_mem.mpr hm]
      exact ⟨t, rfl, by omega, hm, hs⟩
    · rw [any_not hm]
      have e : b + (t : Int) + 1 = b + 1 + (t : Int) := by omega
      rw [e]
      exact throw_go hr b n (t + 1) (by omega) fun s h1 => by
        rcases Nat.lt_or_eq_of_le (Nat.le_of_lt_succ h1) with q | q
        · exact hs s q
        · subst q; exact hm
theorem throw_is {r : List Int} (hr : RingOk r) (b : Int) : ∃ T : Nat, throwP r b = (T : Int) ∧ T ≤ 6 ∧ at6 r b ∈ sp r (b + 1) T ∧ ∀ s : Nat, s < T → at6 r b ∉ sp r (b + 1) s :=
  throw_go hr b 6 0 rfl fun s h => absurd h (Nat.not_lt_zero _)
theorem mem_one {x : Int} : x ∈ ([0] : List Int) ↔ x = 0 := List.mem_singleton
theorem throw_zero {r : List Int} (hr : RingOk r) {b : Int} : throwP r b = 0 ↔ at6 r b = 0 := by
  obtain ⟨T, e, _, h1, h2⟩ := throw_is hr b
  constructor
  · intro q
    have : T = 0 := by omega
    subst this
    exact mem_one.mp h1
  · intro q
    rcases Nat.eq_zero_or_pos T with z | z
    · rw [e, z]; rfl
    · exact absurd (mem_one.mpr q) (h2 0 z)
/-- where a ball comes down the number is not 0 -/
theorem land_out {r : List Int} (hr : RingOk r) {b : Int} {T : Nat} (h1 : at6 r b ∈ sp r (b + 1) (T + 1)) (h2 : at6 r b ∉ sp r (b + 1) T) : at6 r (b + 1 + (T : Int)) ∉ sp r (b + 1) T := by
  intro q
  have : sp r (b + 1) (T + 1) = sp r (b + 1) T := more_in q
  rw [this] at h1
  exact h2 h1
theorem land_nz {r : List Int} (hr : RingOk r) {b : Int} (h : at6 r b ≠ 0) : 0 < throwP r b ∧ throwP r b ≤ 6 ∧ at6 r (b + throwP r b) ≠ 0 := by
  obtain ⟨T, e, h6, h1, h2⟩ := throw_is hr b
  cases T with
  | zero => exact absurd (mem_one.mp h1) h
  | succ T =>
    have q := land_out hr h1 (h2 T (Nat.lt_succ_self _))
    refine ⟨by omega, by omega, ?_⟩
    have e2 : b + throwP r b = b + 1 + (T : Int) := by omega
    rw [e2]
    intro z
    rw [z] at q
    exact q (sp_span hr (b + 1) T).zero
theorem jug_zero {r : List Int} (hr : RingOk r) {b : Int} (h : at6 r b = 0) : freshP r (b + 1) = freshP r b := by
  have hs : ∀ n x, x ∈ sp r b (n + 1) ↔ x ∈ sp r (b + 1) n := by
    intro n x
    rw [sp_shift hr, h]
    refine ⟨fun q => q.elim id fun ⟨q1, q2⟩ => ?_, .inl⟩
    rwa [xr_zero q1] at q2
  refine asc_ext (fresh_asc hr _) (fresh_asc hr _) fun x => ?_
  rw [fresh_mem hr, fresh_mem hr]
  constructor
  · rintro ⟨i, h1, rfl, h3⟩
    rcases Nat.lt_or_eq_of_le (Nat.le_of_lt_succ h1) with q | q
    · exact ⟨i + 1, by omega, by omega, fun z => h3 ((hs i _).mp z)⟩
    · subst q
      have e : b + 1 + ((5 : Nat) : Int) = b + 6 := by omega
      rw [e, at6_per, h] at h3
      exact absurd (sp_span hr _ _).zero h3
  · rintro ⟨i, h1, rfl, h3⟩
    cases i with
    | zero =>
      have e : b + ((0 : Nat) : Int) = b := Int.add_zero b
      rw [e, h] at h3
      exact absurd (mem_one.mpr rfl) h3
    | succ i => exact ⟨i, by omega, by omega, fun z => h3 ((hs i _).mpr z)⟩
theorem jug_pos {r : List Int} (hr : RingOk r) {b : Int} (h : at6 r b ≠ 0) : ∃ tl, freshP r b = b :: tl ∧ insP tl (b + throwP r b) = freshP r (b + 1) := by
  have hhead : freshP r b = b :: freshGo r 5 (b + ((1 : Nat) : Int)) (sp r b 1) := by
    have := fresh_step hr b 5 0
    have e : b + ((0 : Nat) : Int) = b := Int.add_zero b
    rw [e, if_neg (fun q : at6 r b ∈ sp r b 0 => h (mem_one.mp q))] at this
    exact this
  refine ⟨_, hhead, ?_⟩
  obtain ⟨tm, ts⟩ := fresh_go hr b 5 1
  obtain ⟨T, e, h6, h1, h2⟩ := throw_is hr b
  cases T with
  | zero => exact absurd (mem_one.mp h1) h
  | succ T =>
    have hout := land_out hr h1 (h2 T (Nat.lt_succ_self _))
    have hn := h2 T (Nat.lt_succ_self _)
    have eb : b + throwP r b = b + 1 + (T : Int) := by omega
    rw [eb]
    have vb := at6_rng hr b
    have vl := at6_rng hr (b + 1 + (T : Int))
    have hnot : b + 1 + (T : Int) ∉ freshGo r 5 (b + ((1 : Nat) : Int)) (sp r b 1) := by
      intro q
      obtain ⟨i, i1, i2, i3, i4⟩ := (tm _).mp q
      have ei : i = T + 1 := by omega
      subst ei
      refine i4 ((sp_shift hr b T _).mpr (.inr ⟨vl, ?_⟩))
      rcases (mem_more (sp_span hr (b + 1) T) vl).mp h1 with z | ⟨_, z⟩
      · exact absurd z hn
      · rwa [xr_comm vb vl] at z
    refine le_unique (insP_sorted (asc_le ts)) (asc_le (fresh_asc hr _)) ((insP_perm _ _).trans ?_)
    refine (List.perm_ext_iff_of_nodup (List.nodup_cons.mpr ⟨hnot, asc_nodup ts⟩) (asc_nodup (fresh_asc hr _))).mpr fun y => ?_
    rw [List.mem_cons, tm, fresh_mem hr]
    constructor
    · rintro (rfl | ⟨i, i1, i2, rfl, i4⟩)
      · exact ⟨T, by omega, rfl, hout⟩
      · cases i with
        | zero => omega
        | succ i => exact ⟨i, by omega, by omega, fun z => i4 ((sp_shift hr b i _).mpr (.inl z))⟩
    · rintro ⟨i, i1, rfl, i3⟩
      rcases Nat.lt_or_eq_of_le (Nat.le_of_lt_succ i1) with q | q
      · by_cases hin : at6 r (b + 1 + (i : Int)) ∈ sp r b (i + 1)
        · refine .inl ?_
          have vi := at6_rng hr (b + 1 + (i : Int))
          have hx : xr (at6 r (b + 1 + (i : Int))) (at6 r b) ∈ sp r (b + 1) i := ((sp_shift hr b i _).mp hin).elim (fun z => absurd z i3) (·.2)
          have hbn : at6 r b ∉ sp r (b + 1) i := by
            intro z
            have := (sp_span hr (b + 1) i).cl _ hx _ z
            rw [xr_back vi vb] at this
            exact i3 this
          have hbi : at6 r b ∈ sp r (b + 1) (i + 1) := (mem_more (sp_span hr (b + 1) i) vi).mpr (.inr ⟨vb, by rw [xr_comm vb vi]; exact hx⟩)
          have a1 : ¬ i + 1 < T + 1 := fun z => h2 (i + 1) z hbi
          have a2 : ¬ T + 1 ≤ i := fun z => hbn (sp_le hr z h1)
          omega
        · exact .inr ⟨i + 1, by omega, by omega, by omega, fun z => hin z⟩
      · subst q
        refine .inl ?_
        have e5 : b + 1 + ((5 : Nat) : Int) = b + 6 := by omega
        rw [e5, at6_per] at i3
        have a2 : ¬ T + 1 ≤ 5 := fun z => i3 (sp_le hr z h1)
        omega

end
section
/-! the plain law 4: juggling, the sum of the throws, rulers, marks -/
theorem th_get (r : List Int) {i : Nat} (h : i < 6) : (thP r).getD i 0 = throwP r (i : Int) := by
  have : i = 0 ∨ i = 1 ∨ i = 2 ∨ i = 3 ∨ i = 4 ∨ i = 5 := by omega
  rcases this with rfl | rfl | rfl | rfl | rfl | rfl <;> rfl
theorem jug_go {r : List Int} (hr : RingOk r) : ∀ (n b : Nat), b + n = 6 → jugGo r (thP r) n (b : Int) (freshP r (b : Int)) = true
  | 0, _, _ => rfl
  | n + 1, b, h => by
    have hb : b < 6 := by omega
    have ih := jug_go hr n (b + 1) (by omega)
    have e1 : ((b + 1 : Nat) : Int) = (b : Int) + 1 := by omega
    rw [e1] at ih
    have ht : (thP r).getD (Int.toNat (b : Int)) 0 = throwP r (b : Int) := by rw [Int.toNat_natCast]; exact th_get r hb
    unfold jugGo
    rw [ht]
    by_cases z : at6 r (b : Int) = 0
    · rw [if_neg (by rw [(throw_zero hr).mpr z]; decide), if_pos (jug_zero hr z).symm, ← jug_zero hr z]
      exact ih
    · obtain ⟨tl, e2, e3⟩ := jug_pos hr z
      rw [if_pos (land_nz hr z).1, e2, if_pos (by rfl)]
      show (if insP tl ((b : Int) + throwP r (b : Int)) = freshP r ((b : Int) + 1) then jugGo r (thP r) n ((b : Int) + 1) (insP tl ((b : Int) + throwP r (b : Int))) else false) = true
      rw [if_pos e3, e3]
      exact ih
theorem jug_law {r : List Int} (hr : RingOk r) : jugP r (thP r) = true := jug_go hr 6 0 rfl
theorem fresh_sum {r : List Int} (hr : RingOk r) (b : Int) : (freshP r (b + 1)).sum = (freshP r b).sum + throwP r b := by
  by_cases z : at6 r b = 0
  · rw [jug_zero hr z, (throw_zero hr).mpr z]; omega
  · obtain ⟨tl, e2, e3⟩ := jug_pos hr z
    rw [← e3, e2, insP_sum, List.sum_cons]; omega
theorem sum_add6 : ∀ l : List Int, (l.map fun x => x + 6).sum = l.sum + 6 * (l.length : Int)
  | [] => rfl
  | x :: l => by
    rw [List.map_cons, List.sum_cons, List.sum_cons, sum_add6 l, List.length_cons]
    omega
theorem fresh_per {r : List Int} (hr : RingOk r) (b : Int) : freshP r (b + 6) = (freshP r b).map fun x => x + 6 := by
  refine asc_ext (fresh_asc hr _) (List.pairwise_map.mpr ((fresh_asc hr b).imp fun h => by omega)) fun x => ?_
  rw [fresh_mem hr, List.mem_map]
  constructor
  · rintro ⟨i, h1, rfl, h3⟩
    refine ⟨b + (i : Int), (fresh_mem hr).mpr ⟨i, h1, rfl, ?_⟩, by omega⟩
    rw [sp_per] at h3
    have e : b + 6 + (i : Int) = b + (i : Int) + 6 := by omega
    rw [e, at6_per] at h3
    exact h3
  · rintro ⟨y, hy, rfl⟩
    obtain ⟨i, h1, rfl, h3⟩ := (fresh_mem hr).mp hy
    refine ⟨i, h1, by omega, ?_⟩
    rw [at6_per, sp_per]
    exact h3
theorem throws_sum {r : List Int} (hr : RingOk r) : (thP r).sum = 6 * ((freshP r 0).length : Int) := by
  have h0 := fresh_sum hr 0
  have h1 := fresh_sum hr 1
  have h2 := fresh_sum hr 2
  have h3 := fresh_sum hr 3
  have h4 := fresh_sum hr 4
  have h5 := fresh_sum hr 5
  have h6 := fresh_per hr 0
  have h7 := sum_add6 (freshP r 0)
  have e : (thP r).sum = throwP r 0 + (throwP r 1 + (throwP r 2 + (throwP r 3 + (throwP r 4 + (throwP r 5 + 0))))) := rfl
  simp only [show (0 : Int) + 1 = 1 from rfl, show (1 : Int) + 1 = 2 from rfl, show (2 : Int) + 1 = 3 from rfl, show (3 : Int) + 1 = 4 from rfl, show (4 : Int) + 1 = 5 from rfl, show (5 : Int) + 1 = 6 from rfl, show (0 : Int) + 6 = 6 from rfl] at h0 h1 h2 h3 h4 h5 h6
  rw [h6] at h5
  omega
theorem at6_same (r : List Int) {a b : Int} (h : a % 6 = b % 6) : at6 r a = at6 r b := by
  unfold at6
  rw [Int.fmod_eq_emod_of_nonneg _ (by decide), Int.fmod_eq_emod_of_nonneg _ (by decide), h]
theorem throwGo_same (r : List Int) {a b : Int} (h : a % 6 = b % 6) : ∀ (n : Nat) (t : Int) (S : List Int), throwGo r a n t S = throwGo r b n t S
  | 0, _, _ => rfl
  | n + 1, t, S => by
    unfold throwGo
    rw [at6_same r h, at6_same r (show (a + t + 1) % 6 = (b + t + 1) % 6 by omega), throwGo_same r h n]
theorem throw_same (r : List Int) {a b : Int} (h : a % 6 = b % 6) : throwP r a = throwP r b := throwGo_same r h 6 0 [0]
theorem at6_th (r : List Int) (j : Int) : at6 (thP r) j = throwP r j := by
  have e : j.fmod 6 = j % 6 := Int.fmod_eq_emod_of_nonneg _ (by decide)
  have : (((j.fmod 6).toNat : Nat) : Int) = j % 6 := by rw [e]; omega
  show (thP r).getD (j.fmod 6).toNat 0 = _
  rw [th_get r (by omega), this]
  exact throw_same r (by omega)
theorem sizes_good {r : List Int} (hr : RingOk r) : ∀ (f : Nat) (sz : List Int), at6 r (sz.sum - 1) ≠ 0 → 13 ≤ (f : Int) + sz.sum → (∀ x ∈ sz, 1 ≤ x ∧ x ≤ 6) →
    12 < (sizesGo (thP r) f sz).sum ∧ ∀ x ∈ sizesGo (thP r) f sz, 1 ≤ x ∧ x ≤ 6
  | 0, sz, _, h2, h3 => ⟨by show 12 < sz.sum; omega, h3⟩
  | f + 1, sz, h1, h2, h3 => by
    unfold sizesGo
    split
    · obtain ⟨a1, a2, a3⟩ := land_nz hr h1
      rw [at6_th]
      have es : (sz ++ [throwP r (sz.sum - 1)]).sum = sz.sum + throwP r (sz.sum - 1) := by rw [List.sum_append]; simp
      refine sizes_good hr f _ ?_ ?_ ?_
      · rw [es]
        have e : sz.sum + throwP r (sz.sum - 1) - 1 = sz.sum - 1 + throwP r (sz.sum - 1) := by omega
        rw [e]
        exact a3
      · rw [es]; omega
      · intro x hx
        rcases List.mem_append.mp hx with hx | hx
        · exact h3 x hx
        · rw [List.mem_singleton.mp hx]; omega
    · exact ⟨by omega, h3⟩
theorem good_law {r : List Int} (hr : RingOk r) : GoodThrows r (thP r) := by
  intro first hf
  have hz := fresh_nz hr hf
  obtain ⟨i, h1, h2, _⟩ := (fresh_mem hr).mp hf
  have es : ([first + 1] : List Int).sum = first + 1 := by simp
  obtain ⟨a, b⟩ := sizes_good hr 13 [first + 1] (by rw [es]; have e : first + 1 - 1 = first := by omega
                                                    rw [e]; exact hz) (by rw [es]; omega) (by intro x hx; rw [List.mem_singleton.mp hx]; omega)
  exact ⟨a, fun x hx => ⟨by have := b x hx; omega, by have := b x hx; omega⟩⟩
noncomputable def restGo (r : List Int) : Nat → Int → List Int
  | 0, _ => []
  | f + 1, s => if s ≤ 12 then throwP r (s - 1) :: restGo r f (s + throwP r (s - 1)) else []
theorem sizes_rest (r : List Int) : ∀ (f : Nat) (sz : List Int), sizesGo (thP r) f sz = sz ++ restGo r f sz.sum
  | 0, sz => (List.append_nil sz).symm
  | f + 1, sz => by
    unfold sizesGo restGo
    split
    · rw [sizes_rest r f, at6_th, List.append_assoc, List.sum_append]
      have : ([throwP r (sz.sum - 1)] : List Int).sum = throwP r (sz.sum - 1) := by simp
      rw [this]; rfl
    · rw [List.append_nil]
noncomputable def vis (r : List Int) : Nat → Int → List Int
  | 0, _ => []
  | f + 1, a => if a ≤ 12 then a :: vis r f (a + throwP r (a - 1)) else []
theorem mark_vis (r : List Int) : ∀ (f : Nat) (a : Int) (mk : List Int), mk.Pairwise (· ≤ ·) →
    (markGo a (if a ≤ 12 then insP mk a else mk) (restGo r f a)).Perm (mk ++ vis r (f + 1) a) ∧ (markGo a (if a ≤ 12 then insP mk a else mk) (restGo r f a)).Pairwise (· ≤ ·)
  | 0, a, mk, hs => by
    show (if a ≤ 12 then insP mk a else mk).Perm (mk ++ if a ≤ 12 then [a] else []) ∧ (if a ≤ 12 then insP mk a else mk).Pairwise (· ≤ ·)
    by_cases h : a ≤ 12
    · rw [if_pos h, if_pos h]
      exact ⟨(insP_perm mk a).trans (List.perm_append_singleton a mk).symm, insP_sorted hs⟩
    · rw [if_neg h, if_neg h, List.append_nil]
      exact ⟨.refl _, hs⟩
  | f + 1, a, mk, hs => by
    by_cases h : a ≤ 12
    · have e1 : restGo r (f + 1) a = throwP r (a - 1) :: restGo r f (a + throwP r (a - 1)) := if_pos h
      have e2 : vis r (f + 1 + 1) a = a :: vis r (f + 1) (a + throwP r (a - 1)) := if_pos h
      obtain ⟨p, q⟩ := mark_vis r f (a + throwP r (a - 1)) (insP mk a) (insP_sorted hs)
      rw [if_pos h, e1, e2]
      show (markGo (a + throwP r (a - 1)) (if a + throwP r (a - 1) ≤ 12 then insP (insP mk a) (a + throwP r (a - 1)) else insP mk a) (restGo r f (a + throwP r (a - 1)))).Perm _ ∧ _
      refine ⟨p.trans ?_, q⟩
      refine ((insP_perm mk a).append_right _).trans ?_
      exact List.perm_middle.symm
    · have e1 : restGo r (f + 1) a = [] := if_neg h
      have e2 : vis r (f + 1 + 1) a = [] := if_neg h
      rw [if_neg h, e1, e2, List.append_nil]
      exact ⟨.refl _, hs⟩
theorem marks_vis (r : List Int) : ∀ (firsts mk : List Int), mk.Pairwise (· ≤ ·) →
    (marksFrom (thP r) mk firsts).Perm (mk ++ firsts.flatMap fun j => vis r 14 (j + 1)) ∧ (marksFrom (thP r) mk firsts).Pairwise (· ≤ ·)
  | [], mk, hs => by
    show mk.Perm (mk ++ []) ∧ mk.Pairwise (· ≤ ·)
    rw [List.append_nil]
    exact ⟨.refl _, hs⟩
  | j :: l, mk, hs => by
    have es : ([j + 1] : List Int).sum = j + 1 := by simp
    have e : sizesP (thP r) j = (j + 1) :: restGo r 13 (j + 1) := by
      show sizesGo (thP r) 13 [j + 1] = _
      rw [sizes_rest, es]; rfl
    have e2 : markGo 0 mk (sizesP (thP r) j) = markGo (j + 1) (if j + 1 ≤ 12 then insP mk (j + 1) else mk) (restGo r 13 (j + 1)) := by
      rw [e]
      show markGo (0 + (j + 1)) (if 0 + (j + 1) ≤ 12 then insP mk (0 + (j + 1)) else mk) _ = _
      rw [Int.zero_add]
    obtain ⟨p, q⟩ := mark_vis r 13 (j + 1) mk hs
    rw [← e2] at p q
    obtain ⟨p2, q2⟩ := marks_vis r l (markGo 0 mk (sizesP (thP r) j)) q
    refine ⟨p2.trans ?_, q2⟩
    rw [List.flatMap_cons, ← List.append_assoc]
    exact p.append_right _
theorem vis_fuel {r : List Int} (hr : RingOk r) : ∀ (f g : Nat) (a : Int), at6 r (a - 1) ≠ 0 → 13 ≤ a + (f : Int) → 13 ≤ a + (g : Int) → vis r f a = vis r g a
  | 0, 0, _, _, _, _ => rfl
  | 0, g + 1, a, _, h1, _ => (if_neg (by omega)).symm
  | f + 1, 0, a, _, _, h2 => if_neg (by omega)
  | f + 1, g + 1, a, hz, h1, h2 => by
    unfold vis
    split
    · obtain ⟨a1, a2, a3⟩ := land_nz hr hz
      rw [vis_fuel hr f g (a + throwP r (a - 1)) ?_ (by omega) (by omega)]
      have e : a + throwP r (a - 1) - 1 = a - 1 + throwP r (a - 1) := by omega
      rw [e]; exact a3
    · rfl
theorem balls_due {r : List Int} (hr : RingOk r) : ∀ (k : Nat) (b : Int), 0 ≤ b → b + (k : Int) = 12 →
    ((freshP r b).flatMap fun j => vis r 14 (j + 1)).Perm (((rangeKs b k).filter fun j => at6 r j != 0).map fun j => j + 1)
  | 0, b, h0, h1 => by
    have e : ((freshP r b).flatMap fun j => vis r 14 (j + 1)) = [] := by
      rw [List.flatMap_eq_nil_iff]
      intro j hj
      obtain ⟨i, _, hi, _⟩ := (fresh_mem hr).mp hj
      exact if_neg (by omega)
    rw [e]
    exact .refl _
  | k + 1, b, h0, h1 => by
    have ih := balls_due hr k (b + 1) (by omega) (by omega)
    rw [kll_cons]
    by_cases z : at6 r b = 0
    · rw [jug_zero hr z] at ih
      rw [List.filter_cons, if_neg (by rw [z]; decide)]
      exact ih
    · obtain ⟨tl, e2, e3⟩ := jug_pos hr z
      rw [List.filter_cons, if_pos (bne_iff_ne.mpr z), List.map_cons, e2, List.flatMap_cons]
      obtain ⟨a1, a2, a3⟩ := land_nz hr z
      have eb : b + 1 - 1 = b := by omega
      have ev : vis r 14 (b + 1) = (b + 1) :: vis r 14 (b + throwP r b + 1) := by
        show (if b + 1 ≤ 12 then (b + 1) :: vis r 13 (b + 1 + throwP r (b + 1 - 1)) else []) = _
        rw [if_pos (by omega), eb]
        have e5 : b + 1 + throwP r b = b + throwP r b + 1 := by omega
        have e6 : b + throwP r b + 1 - 1 = b + throwP r b := by omega
        rw [e5, vis_fuel hr 13 14 (b + throwP r b + 1) (by rw [e6]; exact a3) (by omega) (by omega)]
      rw [ev, List.cons_append]
      refine List.Perm.cons _ (List.Perm.trans ?_ ih)
      rw [← e3]
      have h := ((insP_perm tl (b + throwP r b)).flatMap_right (fun j => vis r 14 (j + 1))).symm
      rw [List.flatMap_cons] at h
      exact h
theorem range_asc (b : Int) : ∀ k : Nat, (rangeKs b k).Pairwise (· < ·) := by
  intro k
  unfold rangeKs
  exact List.pairwise_map.mpr (List.pairwise_lt_range.imp fun h => by omega)
theorem marks_law {r : List Int} (hr : RingOk r) : marksP r (thP r) = dueP r := by
  obtain ⟨p, q⟩ := marks_vis r (freshP r 0) [] List.Pairwise.nil
  refine le_unique q ?_ (p.trans (balls_due hr 12 0 (Int.le_refl _) rfl))
  exact asc_le (List.pairwise_map.mpr (((range_asc 0 12).filter _).imp fun h => by omega))

end
section
/-! the plain law 5: the sums of a choice -/
noncomputable def stepC (S : List Int) (v : Int) : List Int := S ++ S.map fun x => xr x v
noncomputable def combF (S l : List Int) : List Int := l.foldl stepC S
theorem combF_cons (S : List Int) (v : Int) (l : List Int) : combF S (v :: l) = combF (stepC S v) l := rfl
theorem combF_append (S l m : List Int) : combF S (l ++ m) = combF (combF S l) m := List.foldl_append
theorem combF_snoc (S l : List Int) (v : Int) : combF S (l ++ [v]) = stepC (combF S l) v := by rw [combF_append]; rfl
theorem stepC_rng {S : List Int} {v : Int} (hS : ∀ x ∈ S, I8 x) (hv : I8 v) : ∀ x ∈ stepC S v, I8 x := by
  intro x hx
  rcases List.mem_append.mp hx with h | h
  · exact hS x h
  · obtain ⟨y, hy, rfl⟩ := List.mem_map.mp h
    exact xr_rng (hS y hy) hv
theorem combF_rng : ∀ (l S : List Int), (∀ x ∈ S, I8 x) → (∀ v ∈ l, I8 v) → ∀ x ∈ combF S l, I8 x
  | [], _, hS, _ => hS
  | v :: l, S, hS, hl => combF_rng l (stepC S v) (stepC_rng hS (hl v (.head _))) fun u hu => hl u (.tail _ hu)
theorem combF_sub : ∀ (l S : List Int), S.Sublist (combF S l)
  | [], S => List.Sublist.refl S
  | v :: l, S => (List.sublist_append_left S _).trans (combF_sub l (stepC S v))
theorem combF_len : ∀ (l S : List Int), (combF S l).length = S.length * 2 ^ l.length
  | [], S => by show S.length = S.length * 1; omega
  | v :: l, S => by
    rw [combF_cons, combF_len l, List.length_cons, Nat.pow_succ]
    have : (stepC S v).length = S.length * 2 := by unfold stepC; rw [List.length_append, List.length_map]; omega
    rw [this, Nat.mul_assoc, Nat.mul_comm 2]
theorem combF_in {U : List Int} (hU : Span U) : ∀ (l S : List Int), (∀ x ∈ S, x ∈ U) → (∀ v ∈ l, v ∈ U) → ∀ x ∈ combF S l, x ∈ U
  | [], _, hS, _ => hS
  | v :: l, S, hS, hl => combF_in hU l (stepC S v) (fun x hx => by
      rcases List.mem_append.mp hx with h | h
      · exact hS x h
      · obtain ⟨y, hy, rfl⟩ := List.mem_map.mp h
        exact hU.cl _ (hS y hy) _ (hl v (.head _))) fun u hu => hl u (.tail _ hu)
theorem stepC_perm {S T : List Int} (v : Int) (p : S.Perm T) : (stepC S v).Perm (stepC T v) := p.append (p.map _)
theorem combF_congr : ∀ (l S T : List Int), S.Perm T → (combF S l).Perm (combF T l)
  | [], _, _, p => p
  | v :: l, S, T, p => combF_congr l _ _ (stepC_perm v p)
theorem stepC_swap {S : List Int} {u v : Int} (hS : ∀ x ∈ S, I8 x) (hu : I8 u) (hv : I8 v) : (stepC (stepC S u) v).Perm (stepC (stepC S v) u) := by
  unfold stepC
  rw [List.map_append, List.map_append, List.map_map, List.map_map]
  have e : S.map ((fun x => xr x v) ∘ fun x => xr x u) = S.map ((fun x => xr x u) ∘ fun x => xr x v) := List.map_congr_left fun x hx => xr_right (hS x hx) hu hv
  rw [e, List.append_assoc, List.append_assoc]
  exact (List.perm_append_comm_assoc _ _ _).append_left _
theorem combF_perm {l m : List Int} (p : l.Perm m) : ∀ {S : List Int}, (∀ x ∈ S, I8 x) → (∀ v ∈ l, I8 v) → (combF S l).Perm (combF S m) := by
  induction p with
  | nil => exact fun _ _ => .refl _
  | cons a _ ih => exact fun hS hl => ih (stepC_rng hS (hl a (.head _))) fun u hu => hl u (.tail _ hu)
  | swap a b l => exact fun hS hl => combF_congr l _ _ (stepC_swap hS (hl b (.head _)) (hl a (.tail _ (.head _))))
  | trans p1 _ ih1 ih2 => exact fun hS hl => (ih1 hS hl).trans (ih2 hS fun u hu => hl u (p1.mem_iff.mpr hu))
noncomputable abbrev comb (l : List Int) : List Int := combF [0] l
theorem one_rng : ∀ x ∈ ([0] : List Int), I8 x := Span.one.rng
theorem comb_zero (l : List Int) : 0 ∈ comb l := (combF_sub l [0]).subset (.head _)
theorem pow_le {a b : Nat} (h : 2 ^ a ≤ 2 ^ b) : a ≤ b := (Nat.pow_le_pow_iff_right (by decide)).mp h
theorem at6_place {ns : List Int} {i : Nat} (h : i < 6) : at6 ns (i : Int) = ns.getD i 0 := by
  show ns.getD (((i : Int).fmod 6).toNat) 0 = _
  have : ((i : Int).fmod 6).toNat = i := by
    rw [Int.fmod_eq_emod_of_nonneg _ (by decide)]
    omega
  rw [this]
structure SetOk (ns : List Int) (i : Nat) (p : List Int × List Int) : Prop where
  asc : p.1.Pairwise (· < ·)
  rng : ∀ x ∈ p.1, 0 ≤ x ∧ x < (i : Int)
  sums : p.2 = comb (p.1.map (at6 ns))
  span : Span p.2
  nd : p.2.Nodup
theorem sets_ok {ns : List Int} (hr : RingOk ns) : ∀ i : Nat, i ≤ 6 → ∀ p ∈ setsAt ns i, SetOk ns i p
  | 0, _, p, hp => by
    cases List.mem_singleton.mp hp
    exact ⟨.nil, fun x hx => absurd hx List.not_mem_nil, rfl, Span.one, by decide⟩
  | i + 1, hi, p, hp => by
    rcases List.mem_append.mp hp with h | h
    · obtain ⟨a, b, c, d, e⟩ := sets_ok hr i (by omega) p h
      exact ⟨a, fun x hx => by have := b x hx; omega, c, d, e⟩
    · obtain ⟨q, hq, rfl⟩ := List.mem_map.mp h
      obtain ⟨hq1, hq2⟩ := List.mem_filter.mp hq
      obtain ⟨a, b, c, d, e⟩ := sets_ok hr i (by omega) q hq1
      have hv : ns.getD i 0 = at6 ns (i : Int) := (at6_place (by omega)).symm
      rw [hv] at hq2 ⊢
      have hn : at6 ns (i : Int) ∉ q.2 := fun z => by
        rw [any_mem.mpr z] at hq2
        exact absurd hq2 (by decide)
      have vr := at6_rng hr (i : Int)
      have em : (q.2 ++ q.2.map fun x => Builtin.bitXor x (at6 ns (i : Int))) = more q.2 (at6 ns (i : Int)) := (more_out hn).symm
      refine ⟨?_, ?_, ?_, ?_, ?_⟩
      · rw [List.pairwise_append]
        refine ⟨a, List.pairwise_singleton _ _, fun x hx y hy => ?_⟩
        rw [List.mem_singleton.mp hy]
        exact (b x hx).2
      · intro x hx
        rcases List.mem_append.mp hx with hx | hx
        · have := b x hx; omega
        · rw [List.mem_singleton.mp hx]; omega
      · show _ = comb ((q.1 ++ [(i : Int)]).map (at6 ns))
        rw [List.map_append]
        show _ = combF [0] (q.1.map (at6 ns) ++ [at6 ns (i : Int)])
        rw [combF_snoc]
        show stepC q.2 (at6 ns (i : Int)) = stepC (comb (q.1.map (at6 ns))) (at6 ns (i : Int))
        rw [← c]
      · show Span (q.2 ++ q.2.map fun x => Builtin.bitXor x (at6 ns (i : Int)))
        rw [em]; exact d.more vr
      · show (q.2 ++ q.2.map fun x => Builtin.bitXor x (at6 ns (i : Int))).Nodup
        rw [em]; exact more_nodup d vr e
theorem sets_full {ns : List Int} (hr : RingOk ns) : ∀ i : Nat, i ≤ 6 → ∀ h : List Int, h.Pairwise (· < ·) → (∀ x ∈ h, 0 ≤ x ∧ x < (i : Int)) → (comb (h.map (at6 ns))).Nodup → (h, comb (h.map (at6 ns))) ∈ setsAt ns i
  | 0, _, h, _, hx, _ => by
    cases h with
    | nil => exact .head _
    | cons x _ => have := hx x (.head _); omega
  | i + 1, hi, h, ha, hx, hn => by
    rcases List.eq_nil_or_concat h with rfl | ⟨g, x, e⟩
    · exact List.mem_append_left _ (sets_full hr i (by omega) [] .nil (fun x hx => absurd hx List.not_mem_nil) hn)
    · rw [List.concat_eq_append] at e
      subst e
      obtain ⟨g1, g2, g3⟩ := List.pairwise_append.mp ha
      have hxr := hx x (List.mem_append_right _ (.head _))
      by_cases ex : x = (i : Int)
      · subst ex
        have hc : comb ((g ++ [(i : Int)]).map (at6 ns)) = stepC (comb (g.map (at6 ns))) (at6 ns (i : Int)) := by
          rw [List.map_append]
          exact combF_snoc _ _ _
        rw [hc] at hn ⊢
        obtain ⟨n1, n2, n3⟩ := List.nodup_append.mp hn
        have hv := at6_rng hr (i : Int)
        have hgr : ∀ x ∈ comb (g.map (at6 ns)), I8 x := combF_rng _ _ one_rng fun v hv' => by
          obtain ⟨y, _, rfl⟩ := List.mem_map.mp hv'
          exact at6_rng hr y
        have hnot : at6 ns (i : Int) ∉ comb (g.map (at6 ns)) := fun z => n3 0 (comb_zero _) 0 (List.mem_map.mpr ⟨_, z, xr_self hv⟩) rfl
        have ih := sets_full hr i (by omega) g g1 (fun y hy => ⟨(hx y (List.mem_append_left _ hy)).1, g3 y hy _ (.head _)⟩) n1
        refine List.mem_append_right _ (List.mem_map.mpr ⟨_, List.mem_filter.mpr ⟨ih, ?_⟩, ?_⟩)
        · show ((comb (g.map (at6 ns))).any fun x => x == ns.getD i 0) == false
          rw [← at6_place (by omega), any_not hnot]; rfl
        · show (g ++ [(i : Int)], comb (g.map (at6 ns)) ++ (comb (g.map (at6 ns))).map fun x => Builtin.bitXor x (ns.getD i 0)) = _
          rw [← at6_place (by omega)]; rfl
      · refine List.mem_append_left _ (sets_full hr i (by omega) _ ha (fun y hy => ⟨(hx y hy).1, ?_⟩) hn)
        rcases List.mem_append.mp hy with hy | hy
        · have := g3 y hy x (.head _); omega
        · rw [List.mem_singleton.mp hy]; omega

end
section
/-! the plain law 6: the fresh places are the foremost choice -/
noncomputable def plc (st : Int) (i : Nat) : Int := (st + (i : Int)).fmod 6
theorem plc_rng (st : Int) (i : Nat) : 0 ≤ plc st i ∧ plc st i < 6 := fmod6 _
theorem plc_inj {st : Int} {i j : Nat} (hi : i < 6) (hj : j < 6) (h : plc st i = plc st j) : i = j := by
  unfold plc at h
  rw [Int.fmod_eq_emod_of_nonneg _ (by decide), Int.fmod_eq_emod_of_nonneg _ (by decide)] at h
  omega
theorem plc_has (st : Int) {x : Int} (h0 : 0 ≤ x) (h6 : x < 6) : ∃ i : Nat, i < 6 ∧ plc st i = x := by
  refine ⟨((x - st) % 6).toNat, by omega, ?_⟩
  unfold plc
  rw [Int.fmod_eq_emod_of_nonneg _ (by decide)]
  omega
theorem at6_plc (ns : List Int) (st : Int) (i : Nat) : at6 ns (plc st i) = at6 ns (st + (i : Int)) := at6_mod ns _
/-- is the i-th beat behind the start fresh -/
noncomputable def isF (ns : List Int) (st : Int) (i : Nat) : Bool := !decide (at6 ns (st + (i : Int)) ∈ sp ns st i)
theorem isF_iff {ns : List Int} {st : Int} {i : Nat} : isF ns st i = true ↔ at6 ns (st + (i : Int)) ∉ sp ns st i := by
  unfold isF
  rw [Bool.not_eq_true', decide_eq_false_iff_not]
noncomputable def offF (ns : List Int) (st : Int) (k : Nat) : List Nat := (List.range k).filter (isF ns st)
theorem off_snoc (p : Nat → Bool) (k : Nat) : (List.range (k + 1)).filter p = (List.range k).filter p ++ if p k = true then [k] else [] := by
  rw [List.range_succ, List.filter_append, List.filter_cons]
  split <;> rfl
theorem fresh_off {ns : List Int} (hr : RingOk ns) (st : Int) : freshP ns st = (offF ns st 6).map fun i : Nat => st + (i : Int) := by
  refine asc_ext (fresh_asc hr st) (List.pairwise_map.mpr ((List.pairwise_lt_range.filter _).imp fun h => by omega)) fun x => ?_
  rw [fresh_mem hr, List.mem_map]
  constructor
  · rintro ⟨i, h1, rfl, h3⟩
    exact ⟨i, List.mem_filter.mpr ⟨List.mem_range.mpr h1, isF_iff.mpr h3⟩, rfl⟩
  · rintro ⟨i, hi, rfl⟩
    obtain ⟨h1, h2⟩ := List.mem_filter.mp hi
    exact ⟨i, List.mem_range.mp h1, rfl, isF_iff.mp h2⟩
theorem freshAt_off {ns : List Int} (hr : RingOk ns) (st : Int) : freshAt ns st = (offF ns st 6).map (plc st) := by
  unfold freshAt
  rw [fresh_off hr, List.map_map]; rfl
theorem freshAt_mem {ns : List Int} (hr : RingOk ns) {st : Int} {i : Nat} (hi : i < 6) : plc st i ∈ freshAt ns st ↔ isF ns st i = true := by
  rw [freshAt_off hr, List.mem_map]
  constructor
  · rintro ⟨j, hj, e⟩
    obtain ⟨h1, h2⟩ := List.mem_filter.mp hj
    have := plc_inj (List.mem_range.mp h1) hi e
    subst this
    exact h2
  · intro h
    exact ⟨i, List.mem_filter.mpr ⟨List.mem_range.mpr hi, h⟩, rfl⟩
theorem plc_nodup (st : Int) (p : Nat → Bool) : (((List.range 6).filter p).map (plc st)).Nodup := by
  refine List.pairwise_map.mpr ((List.pairwise_lt_range.filter p).imp_of_mem fun {a b} ha hb hab e => ?_)
  have := plc_inj (List.mem_range.mp (List.mem_filter.mp ha).1) (List.mem_range.mp (List.mem_filter.mp hb).1) e
  omega
theorem freshAt_nodup {ns : List Int} (hr : RingOk ns) (st : Int) : (freshAt ns st).Nodup := by
  rw [freshAt_off hr]
  exact plc_nodup st _
theorem sp_comb {ns : List Int} (st : Int) : ∀ k, sp ns st k = comb ((offF ns st k).map fun i : Nat => at6 ns (st + (i : Int)))
  | 0 => rfl
  | k + 1 => by
    have ih := sp_comb (ns := ns) st k
    unfold offF at ih ⊢
    rw [off_snoc, List.map_append]
    show more (sp ns st k) (at6 ns (st + (k : Int))) = combF [0] _
    rw [combF_append]
    by_cases h : isF ns st k = true
    · rw [if_pos h, more_out (isF_iff.mp h), ih]; rfl
    · rw [if_neg h]
      have hm : at6 ns (st + (k : Int)) ∈ sp ns st k := Decidable.byContradiction fun z => h (isF_iff.mpr z)
      rw [more_in hm, ih]; rfl
theorem sp_size (ns : List Int) (st : Int) (k : Nat) : (sp ns st k).length = 2 ^ (offF ns st k).length := by
  rw [sp_comb]
  show (combF [0] _).length = _
  rw [combF_len, List.length_map]
  show 1 * _ = _
  rw [Nat.one_mul]
theorem freshAt_vals {ns : List Int} (hr : RingOk ns) (st : Int) : (freshAt ns st).map (at6 ns) = (offF ns st 6).map fun i : Nat => at6 ns (st + (i : Int)) := by
  rw [freshAt_off hr, List.map_map]
  exact List.map_congr_left fun i _ => at6_plc ns st i
theorem vals_rng {ns : List Int} (hr : RingOk ns) (l : List Int) : ∀ v ∈ l.map (at6 ns), I8 v := by
  intro v hv
  obtain ⟨y, _, rfl⟩ := List.mem_map.mp hv
  exact at6_rng hr y
/-- the sorted fresh places are a set of the sets -/
theorem srt_set {ns : List Int} (hr : RingOk ns) {st : Int} {srt : List Int} (hp : srt.Perm (freshAt ns st)) (hs : srt.Pairwise (· ≤ ·)) : (srt, comb (srt.map (at6 ns))) ∈ setsAt ns 6 ∧ srt.Pairwise (· < ·) := by
  have nd : srt.Nodup := (hp.nodup_iff).mpr (freshAt_nodup hr st)
  have asc : srt.Pairwise (· < ·) := hs.imp₂ (fun h1 h2 => by omega) nd
  refine ⟨sets_full hr 6 (Nat.le_refl _) srt asc (fun x hx => ?_) ?_, asc⟩
  · have := hp.mem_iff.mp hx
    obtain ⟨y, _, rfl⟩ := List.mem_map.mp this
    exact fmod6 y
  · have p1 : (comb (srt.map (at6 ns))).Perm (comb ((freshAt ns st).map (at6 ns))) := combF_perm (hp.map _) one_rng (vals_rng hr _)
    rw [freshAt_vals hr, ← sp_comb] at p1
    exact (p1.nodup_iff).mpr (sp_nodup hr st 6)
/-- no set is longer than the fresh places -/
theorem set_short {ns : List Int} (hr : RingOk ns) (st : Int) {p : List Int × List Int} (h : p ∈ setsAt ns 6) : p.1.length ≤ (offF ns st 6).length := by
  obtain ⟨_, b, c, _, e⟩ := sets_ok hr 6 (Nat.le_refl _) p h
  refine pow_le ?_
  rw [← sp_size]
  have e1 : p.2.length = 2 ^ p.1.length := by
    rw [c]
    show (combF [0] _).length = _
    rw [combF_len, List.length_map]
    show 1 * _ = _
    rw [Nat.one_mul]
  rw [← e1]
  refine e.length_le_of_subset fun x hx => ?_
  rw [c] at hx
  refine combF_in (sp_span hr st 6) _ [0] (fun y hy => ?_) (fun v hv => ?_) x hx
  · rw [List.mem_singleton.mp hy]; exact (sp_span hr st 6).zero
  · obtain ⟨y, hy, rfl⟩ := List.mem_map.mp hv
    obtain ⟨i, hi, e2⟩ := plc_has st (b y hy).1 (b y hy).2
    rw [← e2, at6_plc]
    exact sp_has hr st hi
theorem most_len {ns : List Int} (hr : RingOk ns) (st : Int) : maxL ((setsAt ns 6).map fun p => p.1.length) = (offF ns st 6).length := by
  have hs0 : ∃ srt : List Int, srt.Perm (freshAt ns st) ∧ srt.Pairwise (· ≤ ·) := by
    have : ∀ l : List Int, ∃ s : List Int, s.Perm l ∧ s.Pairwise (· ≤ ·) := by
      intro l
      induction l with
      | nil => exact ⟨[], .refl _, .nil⟩
      | cons x l ih =>
        obtain ⟨s, p, q⟩ := ih
        exact ⟨insP s x, (insP_perm s x).trans (p.cons x), insP_sorted q⟩
    exact this _
  obtain ⟨srt, hp, hs⟩ := hs0
  have h1 := (srt_set hr hp hs).1
  have h2 : srt.length = (offF ns st 6).length := by rw [hp.length_eq, freshAt_off hr, List.length_map]
  refine Nat.le_antisymm (maxL_le fun x hx => ?_) ?_
  · obtain ⟨p, hp', rfl⟩ := List.mem_map.mp hx
    exact set_short hr st hp'
  · rw [← h2]
    exact maxL_ge (List.mem_map.mpr ⟨_, h1, rfl⟩)
theorem choice_iff {ns : List Int} (hr : RingOk ns) (st : Int) {h : List Int} : h ∈ choicesP ns ↔ ∃ s, (h, s) ∈ setsAt ns 6 ∧ h.length = (offF ns st 6).length := by
  unfold choicesP selP
  rw [most_len hr st, List.mem_map]
  constructor
  · rintro ⟨p, hp, rfl⟩
    obtain ⟨h1, h2⟩ := List.mem_filter.mp hp
    exact ⟨p.2, h1, by have := beq_iff_eq.mp h2; omega⟩
  · rintro ⟨s, h1, h2⟩
    exact ⟨(h, s), List.mem_filter.mpr ⟨h1, beq_iff_eq.mpr (by show (h.length : Int) = _; omega)⟩, rfl⟩
theorem srt_choice {ns : List Int} (hr : RingOk ns) {st : Int} {srt : List Int} (hp : srt.Perm (freshAt ns st)) (hs : srt.Pairwise (· ≤ ·)) : srt ∈ choicesP ns :=
  (choice_iff hr st).mpr ⟨_, (srt_set hr hp hs).1, by rw [hp.length_eq, freshAt_off hr, List.length_map]⟩
theorem sum_law {ns : List Int} (hr : RingOk ns) {p : List Int} (h : (choicesP ns).head? = some p) : (thP ns).sum = 6 * (p.length : Int) := by
  obtain ⟨s, _, h2⟩ := (choice_iff hr 0).mp (List.mem_of_mem_head? h)
  rw [throws_sum hr, fresh_off hr, List.length_map, h2]
noncomputable def isH (st : Int) (held : List Int) (i : Nat) : Bool := held.any fun x => x == plc st i
theorem isH_iff {st : Int} {held : List Int} {i : Nat} : isH st held i = true ↔ plc st i ∈ held := any_mem
/-- of a prefix no choice holds more than are fresh -/
theorem prefix_le {ns : List Int} (hr : RingOk ns) (st : Int) {held : List Int} (h : held ∈ choicesP ns) {k : Nat} (hk : k ≤ 6) : ((List.range k).filter (isH st held)).length ≤ (offF ns st k).length := by
  obtain ⟨s, h1, _⟩ := (choice_iff hr st).mp h
  obtain ⟨a, b, c, _, e⟩ := sets_ok hr 6 (Nat.le_refl _) _ h1
  dsimp only at a b c e
  have pm : held.Perm (((List.range 6).filter (isH st held)).map (plc st)) := by
    refine (List.perm_ext_iff_of_nodup (asc_nodup a) (plc_nodup st _)).mpr fun x => ?_
    rw [List.mem_map]
    constructor
    · intro hx
      obtain ⟨i, hi, e2⟩ := plc_has st (b x hx).1 (b x hx).2
      exact ⟨i, List.mem_filter.mpr ⟨List.mem_range.mpr hi, isH_iff.mpr (e2 ▸ hx)⟩, e2⟩
    · rintro ⟨i, hi, rfl⟩
      exact isH_iff.mp (List.mem_filter.mp hi).2
  have p2 : (comb (held.map (at6 ns))).Perm (comb ((((List.range 6).filter (isH st held)).map (plc st)).map (at6 ns))) := combF_perm (pm.map _) one_rng (vals_rng hr _)
  have n2 : (comb ((((List.range 6).filter (isH st held)).map (plc st)).map (at6 ns))).Nodup := (p2.nodup_iff).mp (c ▸ e)
  have split6 : ∃ t, (List.range 6).filter (isH st held) = (List.range k).filter (isH st held) ++ t := by
    have : 6 = k + (6 - k) := by omega
    rw [this, List.range_add, List.filter_append]
    exact ⟨_, rfl⟩
  obtain ⟨t, et⟩ := split6
  rw [et, List.map_append, List.map_append] at n2
  have n3 : (comb ((((List.range k).filter (isH st held)).map (plc st)).map (at6 ns))).Nodup := by
    have := combF_append [0] ((((List.range k).filter (isH st held)).map (plc st)).map (at6 ns)) ((t.map (plc st)).map (at6 ns))
    rw [show comb _ = _ from this] at n2
    exact n2.sublist (combF_sub _ _)
  refine pow_le ?_
  rw [← sp_size]
  have e1 : (comb ((((List.range k).filter (isH st held)).map (plc st)).map (at6 ns))).length = 2 ^ ((List.range k).filter (isH st held)).length := by
    show (combF [0] _).length = _
    rw [combF_len, List.length_map, List.length_map]
    show 1 * _ = _
    rw [Nat.one_mul]
  rw [← e1]
  refine n3.length_le_of_subset fun x hx => ?_
  refine combF_in (sp_span hr st k) _ [0] (fun y hy => ?_) (fun v hv => ?_) x hx
  · rw [List.mem_singleton.mp hy]; exact (sp_span hr st k).zero
  · rw [List.map_map] at hv
    obtain ⟨i, hi, rfl⟩ := List.mem_map.mp hv
    show at6 ns (plc st i) ∈ _
    rw [at6_plc]
    exact sp_has hr st (List.mem_range.mp (List.mem_filter.mp hi).1)
theorem held_len {ns : List Int} (hr : RingOk ns) (st : Int) {held : List Int} (h : held ∈ choicesP ns) : ((List.range 6).filter (isH st held)).length = (offF ns st 6).length := by
  obtain ⟨s, h1, h2⟩ := (choice_iff hr st).mp h
  obtain ⟨a, b, _, _, _⟩ := sets_ok hr 6 (Nat.le_refl _) _ h1
  dsimp only at a b
  rw [← h2]
  have pm : held.Perm (((List.range 6).filter (isH st held)).map (plc st)) := by
    refine (List.perm_ext_iff_of_nodup (asc_nodup a) (plc_nodup st _)).mpr fun x => ?_
    rw [List.mem_map]
    constructor
    · intro hx
      obtain ⟨i, hi, e2⟩ := plc_has st (b x hx).1 (b x hx).2
      exact ⟨i, List.mem_filter.mpr ⟨List.mem_range.mpr hi, isH_iff.mpr (e2 ▸ hx)⟩, e2⟩
    · rintro ⟨i, hi, rfl⟩
      exact isH_iff.mp (List.mem_filter.mp hi).2
  rw [pm.length_eq, List.length_map]

end
section
/-! the plain law 7: the brackets -/
noncomputable def scanGo : List (Bool × Bool) → Int → Bool
  | [], o => o == 0
  | p :: r, o => if p.2 = true then (if o + (if p.1 = true then 1 else 0) - 1 < 0 then false else scanGo r (o + (if p.1 = true then 1 else 0) - 1)) else scanGo r (o + (if p.1 = true then 1 else 0))
noncomputable def code2 (p : Bool × Bool) : List Nat := (if p.1 = true then [40] else []) ++ (if p.2 = true then [41] else [])
theorem paren_scan : ∀ (l : List (Bool × Bool)) (o : Int), parenGo (l.flatMap code2) o = scanGo l o
  | [], _ => rfl
  | (a, b) :: r, o => by
    rw [List.flatMap_cons]
    have ih := paren_scan r
    cases a <;> cases b
    · show parenGo (r.flatMap code2) o = scanGo r (o + 0)
      rw [Int.add_zero]; exact ih o
    · show (if o - 1 < 0 then false else parenGo (r.flatMap code2) (o - 1)) = if o + 0 - 1 < 0 then false else scanGo r (o + 0 - 1)
      rw [Int.add_zero, ih]
    · show parenGo (r.flatMap code2) (o + 1) = scanGo r (o + 1)
      exact ih _
    · show (if o + 1 - 1 < 0 then false else parenGo (r.flatMap code2) (o + 1 - 1)) = if o + 1 - 1 < 0 then false else scanGo r (o + 1 - 1)
      rw [ih]
noncomputable def cnt (A : Nat → Bool) : Nat → Int
  | 0 => 0
  | k + 1 => cnt A k + if A k = true then 1 else 0
theorem cnt_len (A : Nat → Bool) : ∀ k, cnt A k = (((List.range k).filter A).length : Int)
  | 0 => rfl
  | k + 1 => by
    rw [off_snoc, List.length_append]
    show cnt A k + _ = _
    rw [cnt_len A k]
    split <;> simp
theorem scan_iff (A B : Nat → Bool) : ∀ (n k : Nat), scanGo ((List.range' k n).map fun i => (A i, B i)) (cnt A k - cnt B k) = true ↔ (∀ j, k ≤ j → j < k + n → B j = true → cnt B (j + 1) ≤ cnt A (j + 1)) ∧ cnt A (k + n) = cnt B (k + n)
  | 0, k => by
    show ((cnt A k - cnt B k) == 0) = true ↔ _
    rw [beq_iff_eq]
    constructor
    · intro h
      exact ⟨fun j h1 h2 => by omega, by show cnt A k = cnt B k; omega⟩
    · rintro ⟨_, h⟩
      have h' : cnt A k = cnt B k := h
      omega
  | n + 1, k => by
    have ih := scan_iff A B n (k + 1)
    have e : List.range' k (n + 1) = k :: List.range' (k + 1) n := rfl
    have ek : k + 1 + n = k + (n + 1) := by omega
    rw [ek] at ih
    have hA : cnt A (k + 1) = cnt A k + if A k = true then 1 else 0 := rfl
    have hB : cnt B (k + 1) = cnt B k + if B k = true then 1 else 0 := rfl
    rw [e, List.map_cons]
    show (if B k = true then (if cnt A k - cnt B k + (if A k = true then 1 else 0) - 1 < 0 then false else scanGo _ (cnt A k - cnt B k + (if A k = true then 1 else 0) - 1)) else scanGo _ (cnt A k - cnt B k + (if A k = true then 1 else 0))) = true ↔ _
    by_cases hb : B k = true
    · rw [if_pos hb] at hB ⊢
      have eo : cnt A k - cnt B k + (if A k = true then 1 else 0) - 1 = cnt A (k + 1) - cnt B (k + 1) := by rw [hA, hB]; omega
      rw [eo]
      by_cases hlt : cnt A (k + 1) - cnt B (k + 1) < 0
      · rw [if_pos hlt]
        constructor
        · intro h; cases h
        · rintro ⟨h1, _⟩
          have := h1 k (Nat.le_refl _) (by omega) hb
          omega
      · rw [if_neg hlt, ih]
        constructor
        · rintro ⟨h1, h2⟩
          refine ⟨fun j j1 j2 j3 => ?_, h2⟩
          rcases Nat.lt_or_eq_of_le j1 with q | q
          · exact h1 j q j2 j3
          · subst q; omega
        · rintro ⟨h1, h2⟩
          exact ⟨fun j j1 j2 j3 => h1 j (by omega) j2 j3, h2⟩
    · rw [if_neg hb] at hB ⊢
      have eo : cnt A k - cnt B k + (if A k = true then 1 else 0) = cnt A (k + 1) - cnt B (k + 1) := by rw [hA, hB]; omega
      rw [eo, ih]
      constructor
      · rintro ⟨h1, h2⟩
        refine ⟨fun j j1 j2 j3 => ?_, h2⟩
        rcases Nat.lt_or_eq_of_le j1 with q | q
        · exact h1 j q j2 j3
        · subst q; exact absurd j3 hb
      · rintro ⟨h1, h2⟩
        exact ⟨fun j j1 j2 j3 => h1 j (by omega) j2 j3, h2⟩
theorem text_scan (st : Int) (op cl : List Int) : parenP (textP (orderP st) op cl) = scanGo ((List.range' 0 6).map fun i => (isH st op i, isH st cl i)) (cnt (isH st op) 0 - cnt (isH st cl) 0) := by
  unfold parenP
  rw [text_codes]
  have e : (orderP st).flatMap (codesAt op cl) = ((List.range' 0 6).map fun i => (isH st op i, isH st cl i)).flatMap code2 := by
    unfold orderP rangeKs
    rw [List.map_map, List.flatMap_map, List.flatMap_map, ← List.range_eq_range']
    rfl
  rw [e]
  exact paren_scan _ _
theorem text_iff (st : Int) (op cl : List Int) : parenP (textP (orderP st) op cl) = true ↔ (∀ j, j < 6 → isH st cl j = true → cnt (isH st cl) (j + 1) ≤ cnt (isH st op) (j + 1)) ∧ cnt (isH st op) 6 = cnt (isH st cl) 6 := by
  rw [text_scan, scan_iff]
  constructor
  · rintro ⟨h1, h2⟩
    exact ⟨fun j j1 j2 => h1 j (Nat.zero_le _) (by omega) j2, h2⟩
  · rintro ⟨h1, h2⟩
    exact ⟨fun j _ j1 j2 => h1 j (by omega) j2, h2⟩
theorem isH_fresh {ns : List Int} (hr : RingOk ns) {st : Int} {i : Nat} (hi : i < 6) : isH st (freshAt ns st) i = isF ns st i := by
  rw [Bool.eq_iff_iff, isH_iff, freshAt_mem hr hi]
theorem filt_fresh {ns : List Int} (hr : RingOk ns) {st : Int} {k : Nat} (hk : k ≤ 6) : (List.range k).filter (isH st (freshAt ns st)) = offF ns st k := by
  unfold offF
  refine List.filter_congr fun i hi => isH_fresh hr ?_
  have := List.mem_range.mp hi
  omega
theorem cnt_le {ns : List Int} (hr : RingOk ns) {st : Int} {held : List Int} (h : held ∈ choicesP ns) {k : Nat} (hk : k ≤ 6) : cnt (isH st held) k ≤ cnt (isH st (freshAt ns st)) k := by
  rw [cnt_len, cnt_len, filt_fresh hr hk]
  have := prefix_le hr st h hk
  omega
theorem cnt_all {ns : List Int} (hr : RingOk ns) {st : Int} {held : List Int} (h : held ∈ choicesP ns) : cnt (isH st held) 6 = cnt (isH st (freshAt ns st)) 6 := by
  rw [cnt_len, cnt_len, filt_fresh hr (Nat.le_refl _), held_len hr st h]
theorem ahead_law {ns : List Int} (hr : RingOk ns) {st : Int} {held : List Int} (h : held ∈ choicesP ns) : parenP (textP (orderP st) (freshAt ns st) held) = true :=
  (text_iff st _ _).mpr ⟨fun j hj _ => cnt_le hr h hj, (cnt_all hr h).symm⟩
theorem behind_law {ns : List Int} (hr : RingOk ns) {st : Int} {srt held : List Int} (hp : srt.Perm (freshAt ns st)) (hs : srt.Pairwise (· ≤ ·)) (h : held ∈ choicesP ns) : parenP (textP (orderP st) held (freshAt ns st)) = (held == srt) := by
  rw [Bool.eq_iff_iff, text_iff, beq_iff_eq]
  constructor
  · rintro ⟨h1, _⟩
    have eqs : ∀ k, k ≤ 6 → cnt (isH st held) k = cnt (isH st (freshAt ns st)) k := by
      intro k
      induction k with
      | zero => exact fun _ => rfl
      | succ k ih =>
        intro hk
        have e := ih (by omega)
        have hle := cnt_le (st := st) hr h hk
        refine Int.le_antisymm hle ?_
        by_cases hf : isH st (freshAt ns st) k = true
        · exact h1 k hk hf
        · show cnt (isH st (freshAt ns st)) k + (if isH st (freshAt ns st) k = true then 1 else 0) ≤ cnt (isH st held) k + (if isH st held k = true then 1 else 0)
          rw [if_neg hf, e]
          split <;> omega
    have same : ∀ i, i < 6 → (isH st held i = true ↔ isH st (freshAt ns st) i = true) := by
      intro i hi
      have e0 := eqs i (by omega)
      have e1 : cnt (isH st held) i + (if isH st held i = true then 1 else 0) = cnt (isH st (freshAt ns st)) i + (if isH st (freshAt ns st) i = true then 1 else 0) := eqs (i + 1) hi
      rw [e0] at e1
      by_cases a : isH st held i = true <;> by_cases b : isH st (freshAt ns st) i = true
      · exact ⟨fun _ => b, fun _ => a⟩
      · rw [if_pos a, if_neg b] at e1; omega
      · rw [if_neg a, if_pos b] at e1; omega
      · exact ⟨fun z => absurd z a, fun z => absurd z b⟩
    obtain ⟨s, m1, _⟩ := (choice_iff hr st).mp h
    obtain ⟨a, b, _, _, _⟩ := sets_ok hr 6 (Nat.le_refl _) _ m1
    dsimp only at a b
    have asc := (srt_set hr hp hs).2
    refine asc_ext a asc fun x => ?_
    constructor
    · intro hx
      obtain ⟨i, hi, e2⟩ := plc_has st (b x hx).1 (b x hx).2
      subst e2
      exact hp.mem_iff.mpr (isH_iff.mp ((same i hi).mp (isH_iff.mpr hx)))
    · intro hx
      have hx' := hp.mem_iff.mp hx
      obtain ⟨y, _, rfl⟩ := List.mem_map.mp hx'
      obtain ⟨i, hi, e2⟩ := plc_has st (fmod6 y).1 (fmod6 y).2
      rw [← e2] at hx' ⊢
      exact isH_iff.mp ((same i hi).mpr (isH_iff.mpr hx'))
  · intro e
    subst e
    have same : ∀ i, isH st held i = isH st (freshAt ns st) i := fun i => by
      rw [Bool.eq_iff_iff, isH_iff, isH_iff]
      exact hp.mem_iff
    have ef : isH st held = isH st (freshAt ns st) := funext same
    rw [ef]
    exact ⟨fun j _ _ => Int.le_refl _, rfl⟩
theorem plain_law {ns : List Int} (_ : ns.length = 6) (hr : RingOk ns) : LawFacts ns where
  sum := fun _ h => sum_law hr h
  jug := jug_law hr
  good := good_law hr
  marks := marks_law hr
  gale := fun _ _ _ _ hp hs => ⟨srt_choice hr hp hs, fun _ h => ahead_law hr h, fun _ h => behind_law hr hp hs h⟩

end
section
/-- the walk beneath hides its end: every level of the proof then bears a letter in the place of the whole promise -/
theorem hideQ {M : Model} {A : Around} {α : Type} {t : Sem α} {Q : α → Shared → Prop} {E : Value → Shared → Prop} {s : Shared} (h : ∀ Q' : α → Shared → Prop, (∀ v s', Q v s' → Q' v s') → wpAny M A t Q' (fun _ _ => False) s) : wpAny M A t Q E s :=
  wpAny_mono (h Q fun _ _ q => q) (fun _ _ q => q) fun _ _ f => f.elim
set_option maxHeartbeats 4000000 in
theorem main0 : PySem.Challenge.rw_wu0047_01.Holds := Mine.hd (by
  k_fill
  intro w s₀ s₁ mg mb G Y fa o pm cd doc dV kV ho hd hcd hD hmg hg args vals as hpre hlay hrd hwl hlo
  have KX := kIn_of Y
  have X := (Ground.X G).1
  have V := (Ground.X G).2
  try w_nolog (first | (have GL := glob_more (Ground.glob G (by first | k_qdec | decide +kernel) (by first | k_qdec | decide +kernel)) V) | (have GL := glob_more (Ground.glob G (by decide +kernel)) V))
  refine Ground.open G ?_
  intro T B D TE TW
  try (refine guard_noD D (by decide +kernel) ?_; clear D)
  obtain ⟨_, _, M⟩ := bmod_of_top T
  have TA := at_of_top T
  clear hmg
  wrow_args hpre hlay hrd hwl hlo
  all_goals (
    first | refine callC_kw (enter_call ?_) | refine enter_call ?_ | refine callC_kw (enter_callW ?_) | refine enter_callW ?_
    w_top on
    have K0 := below_caller (Top.heap T)
    w_call any ho hd hcd hD T F
    clear hd TA
    k_drop)
  rename IntsAre _ _ => hI0
  rename List Int => xs0
  rename Heap.IsList _ _ _ => hL0
  have hb0 := len_ints_list (by lay_of)
  have hz0 : _ ≤ sizeLine := Nat.le_trans (Nat.le_of_eq hI0.length) (Nat.le_trans hb0 (by decide))
  all_goals try k_fold
  refine hideQ fun Qm hQm => ?_
  w_top off
  k_with_none
  k_with "enter" => first
    | (refine' code_def (by k_asm) (by k_asm) (by k_asm) (by k_asm) (by k_asm) rfl rfl (by assumption) (by k_is) (by k_is) (by ktr_room) (by first | exact BindsTo.of_eq rfl | exact binds_K (by k_in) rfl (by k_is) rfl rfl rfl | exact kp_binds (by k_in) (fun _ => rfl)) (by exact locs rfl) ?_ (by exact rfl) (by exact rfl) (by exact rfl) (by decide); k_whole; intro _ _ _ _ _ _ _ _ _; (try dsimp only); (try k_fold))
    | (refine' code_defC (by k_asm) (by k_asm) (by k_asm) (by k_asm) (by k_asm) rfl rfl (by assumption) (by k_is) (by k_is) (by ktr_room) (by first | exact BindsTo.of_eq rfl | exact binds_K (by k_in) rfl (by k_is) rfl rfl rfl | fail "k_enter: no rule for these arguments") (by exact rfl) (by decide +kernel) ?_ (by exact rfl) (by exact rfl) (by exact rfl); k_whole; intro _ _ _ _ _ _ _ N' Y' _ _ _ _; k_cells Y'; (try simp only [List.cons_append, List.nil_append] at N'); (try dsimp only); (try k_fold))
  k_with "room" => first | k_dflt (exact Mine.room1 (by assumption) rfl) | k_dflt (exact Mine.room0 (by assumption) rfl) | k_dflt (exact Mine.room2 (by assumption))
  k_with "units" => first | k_dflt (exact Mine.unit1 (by assumption) rfl) | k_dflt (exact Mine.unit0 (by assumption) rfl)
  k_with "all" => first | assumption | exact Mine.lt_all_ne (by assumption) | (refine' List.forall_mem_cons.mpr ⟨?ka1, ?ka2⟩; (case ka1 => k_ne); (case ka2 => k_all))
  k_with "pyIter ref" => k_extra "my iter"
  k_with "UnrEnd" => k_extra "my end"
  k_with "call builtin:list.append" => k_extra "my append"
  k_with "exec While Compare cons nil" => k_extra "my while"
  k_with "lt" => first | assumption | (rename _ ∧ _ => hcN; first | exact hcN.1 | exact hcN.2.1 | exact hcN.2.2.1 | exact hcN.2.2.2.1 | exact hcN.2.2.2.2.1 | exact hcN.2.2.2.2.2.1 | exact hcN.2.2.2.2.2.2.1 | exact hcN.2.2.2.2.2.2.2.1 | exact hcN.2.2.2.2.2.2.2.2.1 | exact hcN.2.2.2.2.2.2.2.2.2.1 | exact hcN.2.2.2.2.2.2.2.2.2.2.1 | exact hcN.2.2.2.2.2.2.2.2.2.2.2.1 | exact hcN.2 | exact hcN.2.2 | exact hcN.2.2.2 | exact hcN.2.2.2.2 | exact hcN.2.2.2.2.2 | exact hcN.2.2.2.2.2.2 | (clear hcN; k_extra "lt"))
  k_with "ne" => with_reducible first | assumption | (refine Nat.ne_of_lt ?_; k_extra "lt") | (refine Nat.ne_of_gt ?_; k_extra "lt")
  k_with "call ref" => (k_here; (with_reducible show wpAny _ _ (call (Value.ref 109) _) _ _ _); k_dflt (refine' ring_spec (by k_asm) (by k_asm) (by k_asm) (by k_asm) (by first | exact rfl | assumption) (by k_asm) (by assumption) (by assumption) (by assumption) (by ktr_room) (by ktr_units) ?_; k_whole; k_extra "in ring"; (try k_sweep); (try dsimp only); (try k_fold)))
  k_with "call ref" => (k_here; (with_reducible show wpAny _ _ (call (Value.ref 121) _) _ _ _); k_dflt (refine' throw_spec (by k_asm) (by k_asm) (by k_asm) (by k_asm) (by first | exact rfl | assumption) (by k_asm) (by k_mem) (by assumption) (by first | assumption | omega) (by omega) (by omega) (by ktr_room) (by ktr_units) ?_; k_whole; intro _ _ _ _ _; (try k_sweep); (try dsimp only); (try k_fold)))
  k_with "call ref" => (k_here; (with_reducible show wpAny _ _ (call (Value.ref 133) _) _ _ _); k_dflt (refine' choices_spec (by k_asm) (by k_asm) (by k_asm) (by k_asm) (by first | exact rfl | assumption) (by k_asm) (by k_mem) (by assumption) (by first | assumption | omega) (by ktr_room) (by ktr_units) ?_; k_whole; k_extra "in choices"; (try k_sweep); (try dsimp only); (try k_fold)))
  k_with "call ref" => (k_here; (with_reducible show wpAny _ _ (call (Value.ref 140) _) _ _ _); k_dflt (refine' juggled_spec (by k_asm) (by k_asm) (by k_asm) (by k_asm) (by first | exact rfl | assumption) (by k_asm) (by k_mem) (by assumption) (by first | assumption | omega) (by k_mem) (by first | assumption | k_extra "jug ints") (by first | assumption | k_extra "jug len") (by first | assumption | k_extra "jug range") (by ktr_room) (by ktr_units) ?_; k_whole; intro _ _ _ _; (try k_sweep); (try dsimp only); (try k_fold)))
  k_with "call ref" => (k_here; (with_reducible show wpAny _ _ (call (Value.ref 147) _) _ _ _); k_dflt (refine' marks_spec (by k_asm) (by k_asm) (by k_asm) (by k_asm) (by first | exact rfl | assumption) (by k_asm) (by k_mem) (by assumption) (by first | assumption | omega) (by k_mem) (by first | assumption | k_extra "jug ints") (by first | assumption | k_extra "jug len") (by first | assumption | k_extra "marks good") (by ktr_room) (by ktr_units) ?_; k_whole; k_extra "in marks"; (try k_sweep); (try dsimp only); (try k_fold)))
  k_with "call ref" => (k_here; (with_reducible show wpAny _ _ (call (Value.ref 128) _) _ _ _); k_dflt (refine' fresh_spec (by k_asm) (by k_asm) (by k_asm) (by k_asm) (by first | exact rfl | assumption) (by k_asm) (by k_mem) (by assumption) (by first | assumption | omega) (by omega) (by omega) (by ktr_room) (by ktr_units) ?_; k_whole; (first | k_extra "in fresh" | (intro _ _ _ _ _ _ _ lt' _; replace lt' := allLt_of lt'; (try simp only [AllLt, and_true] at lt'); (try ((have _ := lt'); clear lt')))); (try k_sweep); (try dsimp only); (try k_fold)))
  k_with "call ref" => (k_here; (with_reducible show wpAny _ _ (call (Value.ref 154) _) _ _ _); k_dflt (refine' text_spec (by k_asm) (by k_asm) (by k_asm) (by k_asm) (by first | exact rfl | assumption) (by k_asm) (by k_mem) (by assumption) (by first | assumption | omega | k_extra "text len") (by k_mem) (by assumption) (by k_mem) (by assumption) (by ktr_room) (by ktr_units) ?_; k_whole; intro _ _ _ _ _; (try k_sweep); (try dsimp only); (try k_fold)))
  k_with "call ref" => (k_here; (with_reducible show wpAny _ _ (call (Value.ref 95) _) _ _ _); k_dflt (refine' parse_spec (by k_asm) (by k_asm) (by k_asm) (by k_asm) (by first | exact rfl | assumption) (by k_asm) (by k_mem) (by assumption) (by first | assumption | k_extra "parse clean") (by first | assumption | k_extra "parse len") (by ktr_room) (by ktr_units) ?_; k_whole; intro _ _ _ _ _ _ _ _ _ _ _; (try k_sweep); (try dsimp only); (try k_fold)))
  k_with "eval ListComp" => k_extra "my comp"
  k_with "exec Assign cons ListComp" => k_extra "my acomp"
  k_with "subscriptTail Name Constant ref int" => k_extra "my item"
  k_with "call builtin:len" => k_extra "my len"
  k_with "compareOp NotIn ref ref" => k_extra "my notin"
  k_with "call type:zip" => k_extra "my zip"
  k_with "call builtin:sorted" => k_extra "my sorted"
  k_with "compareOp Eq ref ref" => k_extra "my eq"
  k_with "CEnd" => k_extra "my cend"
  k_with "COut" => k_extra "my cout"
  k_with "call builtin:sum" => k_extra "my sum"
  k_with "in ring" => intro ra vr kr ns hr tkr Fr0 Nr0 lr hvr her hbr; have PL := plain_law her hbr
  k_with "in choices" =>
      intro ca0 vc kc ext hc tkc Fc0 Nc0 lc lxc hlc
      obtain ⟨ka0, va0, ka1, p0, hv0, hp0, ha0, hi0⟩ := ListsIn.head hlc (choices_ne _)
      have hlen0 := choices_len0 hi0 hp0
      replace Nc0 := led_front Nc0 (List.mem_cons_of_mem _ (List.mem_append_right _ ha0))
      try simp only [List.cons_append, List.nil_append] at Nc0
      have hx2 : ∀ p ∈ ext, p.1 ≠ s₁.heap.objs.size + 1 + 1 := fun p hp => Nat.ne_of_gt (lxc p hp _ (.tail _ (.tail _ (.tail _ (.head _)))))
      have hx3 : ∀ p ∈ ext, p.1 ≠ s₁.heap.objs.size + 1 + 1 + 1 := fun p hp => Nat.ne_of_gt (lxc p hp _ (.tail _ (.tail _ (.head _))))
      have aK := allLt_of (lxc _ ha0)
      have aC := allLt_of lc
      have aR := allLt_of lr
      simp only [AllLt, and_true] at aK aC aR
      rename LCg.Off1 _ _ => aO
      simp only [LCg.Off1, List.cons_append, List.nil_append, and_true] at aO
  k_with "in marks" =>
      intro ma0 vm km hm0 tkm ggm Fm0 Nm0 lm0 him hbm
      have aM := allLt_of lm0
      simp only [AllLt] at aM
  k_with "in fresh" =>
      intro fa0 vf kf hf tkf Ff0 Nf0 lf0 hif
      replace lf0 := allLt_of lf0
      try simp only [AllLt, and_true] at lf0
  k_with "my comp" => 
      refine MStop.at_ ?_
  k_with "jug ints" => 
      rename IntsAre _ (List.map (fun k => throwP _ k) _) => ht
      with_unfolding_all exact ht
  k_with "jug len" =>  with_unfolding_all exact rfl
  k_with "jug range" =>  with_unfolding_all exact throws_range _
  k_with "marks good" => 
      rename LawFacts _ => pl
      with_unfolding_all exact pl.good
  k_with "my len" => 
      rename News _ _ _ _ => lN
      rename List.length _ ≤ 6 => lb
      with_unfolding_all refine' len_short (News.isList lN List.mem_cons_self) lb ?_
      try k_fold
  k_with "my item" => 
      rename News _ _ _ _ => lN
      rename _[Int.toNat 0]? = some _ => lv
      with_unfolding_all refine' item_listL (News.isList lN ?im) (by decide) (by decide) lv ?_
      case im => exact List.mem_cons_of_mem _ List.mem_cons_self
      try k_fold
  k_steps
  · have h := PL.sum p0 hp0
    rw [← hi0.length] at h
    exact absurd h (by assumption)
  · refine ⟨?_⟩
    k_with "my comp" => 
        rename Fr _ _ _ _ => lF
        with_unfolding_all refine' comp_eval (target := .Name _ _) lF ?a_hclos ?a_hcell ?a_hkind ?a_hnames ?_ ?a_hs
        case a_hclos => with_unfolding_all exact rfl
        case a_hcell => decide
        case a_hkind => exact rfl
        case a_hnames => decide
        case a_hs => intro _; with_unfolding_all exact rfl
    k_with "my iter" => 
        rename Fr _ _ _ _ => lF
        rename News _ _ _ _ => lN
        rename IsRange _ _ _ _ _ _ _ _ => lR
        with_unfolding_all refine' iter_range (n := 12) (JInts (dueTo ns) _) ?a_hh ?a_hkd ?a_hx1 lF lN lR ?a_sm ?a_rn ?a_sz ?a_j0 ?a_turn ?a_done
        case a_hh => with_unfolding_all exact rfl
        case a_hkd => exact rfl
        case a_hx1 => with_unfolding_all exact rfl
        case a_sm => with_unfolding_all decide
        case a_rn => with_unfolding_all decide
        case a_sz => decide
        case a_j0 => with_unfolding_all exact due_start
    k_steps
    · unfold CTurnAll
      intro s3 hs3 M₁ hM1
      obtain ⟨gh3, rfl⟩ := hs3
      unfold CTurn
      intro j2 ys2 n2 own2 C2 oC2 D2 m3 h9 tk9 hj2 hPn2 hJ2 hoC2 F9 N9 off9 hMD2 hDC2
      unfold JInts at hJ2
      obtain ⟨rfl, hiy⟩ := hJ2
      obtain ⟨t2, hm2⟩ := hPn2
      simp only [List.cons_append] at N9
      refine wpAny_tests_one ?_
      k_steps
      · exact CEnd.intro (by assumption) N9 _ sub_refl off9 (JInts.next hiy (due_yes (by assumption)))
      · exact CEnd.intro (by assumption) N9 _ sub_refl off9 (JInts.skip hiy (due_no (by assumption)))
    · unfold CDoneAll
      intro s3 hs3 M₁ hM1
      obtain ⟨gh3, rfl⟩ := hs3
      unfold CDone
      intro C2 oC2 mC2 D2 h9 tk9 ys2 n2 hJ2 F9 N9 hoC2 off9 hMD2 hDC2
      unfold JInts at hJ2
      obtain ⟨rfl, hiy⟩ := hJ2
      have hyl : ys2.length ≤ 12 := by rw [hiy.length]; exact due_len ns 12
      refine COut.intro hoC2 F9 N9 List.mem_cons_self _ sub_refl.tl ?_ ?_
      · exact cout_off off9 hMD2 hDC2
      · intro h10 F10 N10
        clear F9 N9
        have hst := fmod6 (xs0.sum + 2)
        have aD2 := allLt_of fun p hp => Nat.lt_of_lt_of_le (hM1 p hp) hMD2
        simp only [AllLt] at aD2
        k_with "my iter" => 
            rename Fr _ _ _ _ => lF
            rename News _ _ _ _ => lN
            rename IsRange _ _ _ _ _ _ _ _ => lR
            with_unfolding_all refine' iter_range (n := 6) (JInts (orderTo ((xs0.sum + 2).fmod 6)) _) ?b_hh ?b_hkd ?b_hx1 lF lN lR ?b_sm ?b_rn ?b_sz ?b_j0 ?b_turn ?b_done
            case b_hh => with_unfolding_all exact rfl
            case b_hkd => exact rfl
            case b_hx1 => with_unfolding_all exact rfl
            case b_sm => exact small_one (by omega) (by omega) (by omega) (by omega)
            case b_rn => exact rangeSize6 _
            case b_sz => decide
            case b_j0 => with_unfolding_all exact order_start
        k_steps
        · unfold CTurnAll
          intro s4 hs4 M₂ hM2
          obtain ⟨gh4, rfl⟩ := hs4
          unfold CTurn
          intro j3 ys3 n3 own3 C3 oC3 D3 m4 h12 tk12 hj3 hPn3 hJ3 hoC3 F12 N12 off12 hMD3 hDC3
          unfold JInts at hJ3
          obtain ⟨rfl, hiz⟩ := hJ3
          obtain ⟨t3, hm3⟩ := hPn3
          simp only [List.cons_append] at N12
          refine wpAny_tests_nil ?_
          k_steps
          exact CEnd.intro (by assumption) N12 _ sub_refl off12 (JInts.next hiz order_next)
        · unfold CDoneAll
          intro s4 hs4 M₂ hM2
          obtain ⟨gh4, rfl⟩ := hs4
          unfold CDone
          intro C3 oC3 mC3 D3 h12 tk12 ys3 n3 hJ3 F12 N12 hoC3 off12 hMD3 hDC3
          unfold JInts at hJ3
          obtain ⟨rfl, hiz⟩ := hJ3
          have hzl : ys3.length ≤ 6 := by rw [hiz.length]; exact Nat.le_of_eq (order_len _ _)
          refine COut.intro hoC3 F12 N12 List.mem_cons_self _ sub_refl.tl ?_ ?_
          · exact cout_off off12 hMD3 hDC3
          · intro h13 F13 N13
            clear F12 N12
            have aD3 := allLt_of fun p hp => Nat.lt_of_lt_of_le (hM2 p hp) hMD3
            simp only [AllLt] at aD3
            k_with "my iter" => 
                rename Fr _ _ _ _ => lF
                rename News _ _ _ _ => lN
                with_unfolding_all refine' iter_names (vs := vf) (nk := kf) (JInts (fmodTo (freshP ns ((xs0.sum + 2).fmod 6))) _) ?c_hh ?c_hkd ?c_hx1 lF lN ?c_hm ?c_sz ?c_j0 ?c_turn ?c_done
                case c_hh => with_unfolding_all exact rfl
                case c_hkd => exact rfl
                case c_hx1 => with_unfolding_all exact rfl
                case c_hm => exact List.mem_cons_self
                case c_sz => rw [hif.length]; exact Nat.le_trans (freshP_len _ _) (by decide)
                case c_j0 => with_unfolding_all exact fmod_start
            k_steps
            · unfold CTurnAll
              intro s5 hs5 M₃ hM3
              obtain ⟨gh5, rfl⟩ := hs5
              unfold CTurn
              intro j4 ys4 n4 own4 C4 oC4 D4 m5 h15 tk15 hj4 hPn4 hJ4 hoC4 F15 N15 off15 hMD4 hDC4
              unfold JInts at hJ4
              obtain ⟨rfl, hiw⟩ := hJ4
              obtain ⟨v4, hv4, hm4⟩ := hPn4
              obtain ⟨b4, t4, rfl, hb4⟩ := ints_at hif hv4
              simp only [List.cons_append] at N15
              refine wpAny_tests_nil ?_
              k_steps
              exact CEnd.intro (by assumption) N15 _ sub_refl off15 (JInts.next hiw (fmod_next hb4))
            · unfold CDoneAll
              intro s5 hs5 M₃ hM3
              obtain ⟨gh5, rfl⟩ := hs5
              unfold CDone
              intro C4 oC4 mC4 D4 h15 tk15 ys4 n4 hJ4 F15 N15 hoC4 off15 hMD4 hDC4
              unfold JInts at hJ4
              obtain ⟨rfl, hiw⟩ := hJ4
              have hwf : fmodTo (freshP ns ((xs0.sum + 2).fmod 6)) vf.length = freshAt ns ((xs0.sum + 2).fmod 6) := by
                unfold fmodTo
                rw [hif.length, List.take_length]; rfl
              rw [hwf] at hiw
              have hwl : ys4.length ≤ 6 := by rw [hiw.length]; unfold freshAt; rw [List.length_map]; exact freshP_len _ _
              refine COut.intro hoC4 F15 N15 List.mem_cons_self _ sub_refl.tl ?_ ?_
              · exact cout_off off15 hMD4 hDC4
              · intro h16 F16 N16
                clear F15 N15
                have aD4 := allLt_of fun p hp => Nat.lt_of_lt_of_le (hM3 p hp) hMD4
                simp only [AllLt] at aD4
                k_with "my comp" =>  refine MStop.at_ ?_
                k_with "my notin" => 
                    rename News _ _ _ _ => lN
                    rename List.Perm _ _ => lp
                    rename List.Pairwise _ _ => lo
                    rename IntsAre _ _ => li
                    with_unfolding_all refine' notIn_lists (vs := vc) lN ?d_m1 hlc ?d_sub ?d_m2 li (PL.gale _ hst.1 hst.2 _ lp lo).1 ?d_hu ?_
                    case d_m1 => k_mem
                    case d_sub => repeat' first | exact sub_refl | apply sub_skip
                    case d_m2 => k_mem
                    case d_hu => ke_room
                k_with "my acomp" => 
                    rename Fr _ _ _ _ => lF
                    with_unfolding_all refine' comp_assign (target := .Name _ _) lF ?e_sw ?e_hclos ?e_hcell ?e_hkind ?e_hnames ?_ ?e_hs
                    case e_sw => with_unfolding_all exact rfl
                    case e_hclos => with_unfolding_all exact rfl
                    case e_hcell => decide
                    case e_hkind => exact rfl
                    case e_hnames => decide
                    case e_hs => intro _; with_unfolding_all exact rfl
                k_with "my iter" => 
                    rename Fr _ _ _ _ => lF
                    rename News _ _ _ _ => lN
                    with_unfolding_all refine' iter_names (vs := vc) (nk := kc) (JStrs (mapTo (fun held => textP (orderP ((xs0.sum + 2).fmod 6)) (freshAt ns ((xs0.sum + 2).fmod 6)) held) (choicesP ns)) _) ?e_hh ?e_hkd ?e_hx1 lF lN ?e_hm ?e_sz ?e_j0 ?e_turn ?e_done
                    case e_hh => with_unfolding_all exact rfl
                    case e_hkd => exact rfl
                    case e_hx1 => with_unfolding_all exact rfl
                    case e_hm => k_mem
                    case e_sz => rw [hlc.length]; exact Nat.le_trans (choices_size _) (by decide)
                    case e_j0 => with_unfolding_all exact map_start
                k_steps
                · unfold CTurnAll
                  intro s6 hs6 M₄ hM4
                  obtain ⟨gh6, rfl⟩ := hs6
                  unfold CTurn
                  intro j5 ys5 n5 own5 C5 oC5 D5 m6 h18 tk18 hj5 hPn5 hJ5 hoC5 F18 N18 off18 hMD5 hDC5
                  unfold JStrs at hJ5
                  obtain ⟨rfl, hit⟩ := hJ5
                  obtain ⟨v5, hv5, hm5⟩ := hPn5
                  obtain ⟨a5, va5, ka5, p5, rfl, hp5, ha5, hi5⟩ := hlc.at hv5
                  simp only [List.cons_append] at N18
                  replace N18 := led_front N18 (by repeat' first | exact List.mem_append_left _ ha5 | apply List.mem_cons_of_mem)
                  refine wpAny_tests_nil ?_
                  k_with "text len" => exact Nat.le_trans (Nat.le_of_eq (order_len _ _)) (by decide)
                  k_steps
                  exact CEnd.intro (by assumption) (by assumption) _ sub_refl.tl off18 (JStrs.next hit (map_next hp5))
                · unfold CDoneAll
                  intro s6 hs6 M₄ hM4
                  obtain ⟨gh6, rfl⟩ := hs6
                  unfold CDone
                  intro C5 oC5 mC5 D5 h18 tk18 ys5 n5 hJ5 F18 N18 hoC5 off18 hMD5 hDC5
                  unfold JStrs at hJ5
                  obtain ⟨rfl, hit⟩ := hJ5
                  have htf : mapTo (fun held => textP (orderP ((xs0.sum + 2).fmod 6)) (freshAt ns ((xs0.sum + 2).fmod 6)) held) (choicesP ns) vc.length = (choicesP ns).map fun held => textP (orderP ((xs0.sum + 2).fmod 6)) (freshAt ns ((xs0.sum + 2).fmod 6)) held := by
                    unfold mapTo
                    rw [hlc.length, List.take_length]
                  rw [htf] at hit
                  have htl : ys5.length ≤ 64 := by rw [strs_length hit, List.length_map]; exact choices_size _
                  have aD5 := allLt_of fun p hp => Nat.lt_of_lt_of_le (hM4 p hp) hMD5
                  simp only [AllLt] at aD5
                  k_steps
                  refine COut.intro hoC5 (by assumption) (by assumption) List.mem_cons_self _ sub_refl.tl (cout_off off18 hMD5 hDC5) ?_
                  intro h19 F19 N19
                  k_with "my acomp" => 
                      rename Fr _ _ _ _ => lF
                      with_unfolding_all refine' comp_assign (target := .Name _ _) lF ?f_sw ?f_hclos ?f_hcell ?f_hkind ?f_hnames ?_ ?f_hs
                      case f_sw => with_unfolding_all exact rfl
                      case f_hclos => with_unfolding_all exact rfl
                      case f_hcell => decide
                      case f_hkind => exact rfl
                      case f_hnames => decide
                      case f_hs => intro _; with_unfolding_all exact rfl
                  k_with "my iter" => 
                      rename Fr _ _ _ _ => lF
                      rename News _ _ _ _ => lN
                      with_unfolding_all refine' iter_names (vs := vc) (nk := kc) (JStrs (mapTo (fun held => textP (orderP ((xs0.sum + 2).fmod 6)) held (freshAt ns ((xs0.sum + 2).fmod 6))) (choicesP ns)) _) ?f_hh ?f_hkd ?f_hx1 lF lN ?f_hm ?f_sz ?f_j0 ?f_turn ?f_done
                      case f_hh => with_unfolding_all exact rfl
                      case f_hkd => exact rfl
                      case f_hx1 => with_unfolding_all exact rfl
                      case f_hm => k_mem
                      case f_sz => rw [hlc.length]; exact Nat.le_trans (choices_size _) (by decide)
                      case f_j0 => with_unfolding_all exact map_start
                  k_steps
                  · unfold CTurnAll
                    intro s7 hs7 M₅ hM5
                    obtain ⟨gh7, rfl⟩ := hs7
                    unfold CTurn
                    intro j6 ys6 n6 own6 C6 oC6 D6 m7 h21 tk21 hj6 hPn6 hJ6 hoC6 F21 N21 off21 hMD6 hDC6
                    unfold JStrs at hJ6
                    obtain ⟨rfl, hiu⟩ := hJ6
                    obtain ⟨v6, hv6, hm6⟩ := hPn6
                    obtain ⟨a6, va6, ka6, p6, rfl, hp6, ha6, hi6⟩ := hlc.at hv6
                    simp only [List.cons_append] at N21
                    replace N21 := led_front N21 (by repeat' first | exact List.mem_append_left _ ha6 | apply List.mem_cons_of_mem)
                    refine wpAny_tests_nil ?_
                    k_with "text len" => exact Nat.le_trans (Nat.le_of_eq (order_len _ _)) (by decide)
                    k_steps
                    exact CEnd.intro (by assumption) (by assumption) _ sub_refl.tl off21 (JStrs.next hiu (map_next hp6))
                  · unfold CDoneAll
                    intro s7 hs7 M₅ hM5
                    obtain ⟨gh7, rfl⟩ := hs7
                    unfold CDone
                    intro C6 oC6 mC6 D6 h21 tk21 ys6 n6 hJ6 F21 N21 hoC6 off21 hMD6 hDC6
                    unfold JStrs at hJ6
                    obtain ⟨rfl, hiu⟩ := hJ6
                    have hbf : mapTo (fun held => textP (orderP ((xs0.sum + 2).fmod 6)) held (freshAt ns ((xs0.sum + 2).fmod 6))) (choicesP ns) vc.length = (choicesP ns).map fun held => textP (orderP ((xs0.sum + 2).fmod 6)) held (freshAt ns ((xs0.sum + 2).fmod 6)) := by
                      unfold mapTo
                      rw [hlc.length, List.take_length]
                    rw [hbf] at hiu
                    have hbl : ys6.length ≤ 64 := by rw [strs_length hiu, List.length_map]; exact choices_size _
                    have aD6 := allLt_of fun p hp => Nat.lt_of_lt_of_le (hM5 p hp) hMD6
                    simp only [AllLt] at aD6
                    k_steps
                    refine COut.intro hoC6 (by assumption) (by assumption) List.mem_cons_self _ sub_refl.tl (cout_off off21 hMD6 hDC6) ?_
                    intro h22 F22 N22
                    k_with "my acomp" => 
                        rename Fr _ _ _ _ => lF
                        with_unfolding_all refine' comp_assign (target := .Tuple _ _ _) lF ?g_sw ?g_hclos ?g_hcell ?g_hkind ?g_hnames ?_ ?g_hs
                        case g_sw => with_unfolding_all exact rfl
                        case g_hclos => with_unfolding_all exact rfl
                        case g_hcell => decide
                        case g_hkind => exact rfl
                        case g_hnames => decide
                        case g_hs => intro _; with_unfolding_all exact rfl
                    k_with "my zip" => 
                        rename Fr _ _ _ _ => lF
                        rename News _ _ _ _ => lN
                        with_unfolding_all refine' iter_zip (xs := ys6) (ys := vc) (n2 := kc) (JStrs (mapTo (fun held => dueS (permL lp) (orderP ((xs0.sum + 2).fmod 6)) (freshAt ns ((xs0.sum + 2).fmod 6)) held) (choicesP ns)) _) ?g_hh ?g_hkd ?g_hx1 ?g_hx2 ?g_hxx lF lN ?g_hm1 ?g_hm2 ?g_len ?g_sz ?g_j0 ?g_turn ?g_done
                        case g_hh => with_unfolding_all exact rfl
                        case g_hkd => exact rfl
                        case g_hx1 => with_unfolding_all exact rfl
                        case g_hx2 => with_unfolding_all exact rfl
                        case g_hxx => decide
                        case g_hm1 => k_mem
                        case g_hm2 => k_mem
                        case g_len => rw [strs_length hiu, List.length_map, hlc.length]
                        case g_sz => exact Nat.le_trans hbl (by decide)
                        case g_j0 => with_unfolding_all exact map_start
                    k_steps
                    · unfold CTurnAll
                      intro s8 hs8 M₆ hM6
                      obtain ⟨gh8, rfl⟩ := hs8
                      unfold CTurn
                      intro j7 ys7 n7 own7 C7 oC7 D7 m8 h24 tk24 hj7 hPn7 hJ7 hoC7 F24 N24 off24 hMD7 hDC7
                      unfold JStrs at hJ7
                      obtain ⟨rfl, hiv⟩ := hJ7
                      obtain ⟨v7, w7, hv7, hw7, hm7, hm8⟩ := hPn7
                      obtain ⟨a7, va7, ka7, p7, rfl, hp7, ha7, hi7⟩ := hlc.at hw7
                      obtain ⟨t7, rfl⟩ := strs_map_at hiu hv7 hp7
                      simp only [List.cons_append] at N24
                      replace N24 := led_front N24 (by repeat' first | exact List.mem_append_left _ ha7 | apply List.mem_cons_of_mem)
                      have hlen7 : va7.length ≤ 6 := by rw [hi7.length]; exact choices_len (List.mem_of_getElem? hp7)
                      k_with "my sorted" => 
                          rename Fr _ _ _ _ => lF
                          rename News _ _ _ _ => lN
                          with_unfolding_all refine' kso_sorted (vs := ys4) lF lN ?h_l hiw ?h_n ?_
                          case h_l => exact News.isList lN (by k_mem)
                          case h_n => rw [← hiw.length]; omega
                          intro S8 v8 n8 c8 h26 F26 N26 l8 i8 e8 o8a o8b _
                          k_lt l8
                          have hlen8 : v8.length ≤ 6 := by rw [i8.length, e8, ← hiw.length]; exact hwl
                          try k_sweep
                      refine wpAny_tests_nil ?_
                      k_steps
                      · exact CEnd.intro (by assumption) (by assumption) _ (by repeat' first | exact sub_refl | apply sub_skip) off24 (JStrs.next hiv (mapS_next hp7 (due_is (Eq.trans (by assumption) (sorted_same o8a o8b lp lo)))))
                      · refine CEnd.intro (by assumption) (by assumption) _ (by repeat' first | exact sub_refl | apply sub_skip) off24 (JStrs.next hiv (mapS_next hp7 (due_not ?_)))
                        rw [show permL lp = n8 from sorted_same lp lo o8a o8b]
                        assumption
                    · unfold CDoneAll
                      intro s8 hs8 M₆ hM6
                      obtain ⟨gh8, rfl⟩ := hs8
                      unfold CDone
                      intro C7 oC7 mC7 D7 h24 tk24 ys7 n7 hJ7 F24 N24 hoC7 off24 hMD7 hDC7
                      unfold JStrs at hJ7
                      obtain ⟨rfl, hiv⟩ := hJ7
                      have hdf : mapTo (fun held => dueS (permL lp) (orderP ((xs0.sum + 2).fmod 6)) (freshAt ns ((xs0.sum + 2).fmod 6)) held) (choicesP ns) ys6.length = (choicesP ns).map fun held => dueS (permL lp) (orderP ((xs0.sum + 2).fmod 6)) (freshAt ns ((xs0.sum + 2).fmod 6)) held := by
                        unfold mapTo
                        rw [strs_length hiu, List.length_map, List.take_length]
                      rw [hdf] at hiv
                      have hdl : ys7.length ≤ 64 := by rw [strs_length hiv, List.length_map]; exact choices_size _
                      have aD7 := allLt_of fun p hp => Nat.lt_of_lt_of_le (hM6 p hp) hMD7
                      simp only [AllLt] at aD7
                      k_steps
                      refine COut.intro hoC7 (by assumption) (by assumption) List.mem_cons_self _ sub_refl.tl (cout_off off24 hMD7 hDC7) ?_
                      intro h25 F25 N25
                      have hgale := PL.gale _ hst.1 hst.2 _ lp lo
                      have hv1 := valid_ahead hgale.2.1
                      have hv2 := valid_due hgale.2.2
                      have hk1 : ∀ x ∈ validP ((choicesP ns).map fun held => textP (orderP ((xs0.sum + 2).fmod 6)) (freshAt ns ((xs0.sum + 2).fmod 6)) held), PyData.strOk x = true := by
                        rw [hv1]; exact maps_ok fun x _ => text_ok _ _ _
                      have hk2 : ∀ x ∈ validP ((choicesP ns).map fun held => textP (orderP ((xs0.sum + 2).fmod 6)) held (freshAt ns ((xs0.sum + 2).fmod 6))), PyData.strOk x = true := by
                        rw [hv2]; exact maps_ok fun x _ => due_ok
                      k_with "my eq" => 
                          (with_reducible show wpAny _ _ (compareOp CmpOp.Eq (Value.ref _) (Value.ref D5)) _ _ _)
                          rename News _ _ _ _ => lN
                          rename StrsAre _ _ => lv
                          k_dflt (refine' eq_strs lN (List.Mem.head _) lv (List.Mem.tail _ (List.Mem.tail _ (List.Mem.tail _ (List.Mem.head _)))) hit hk1 hv1 ?i_hu ?_)
                          case i_hu => ke_room
                      k_with "my eq" => 
                          (with_reducible show wpAny _ _ (compareOp CmpOp.Eq (Value.ref _) (Value.ref D7)) _ _ _)
                          rename News _ _ _ _ => lN
                          rename StrsAre _ _ => lv
                          k_dflt (refine' eq_strs lN (List.Mem.head _) lv (List.Mem.tail _ (List.Mem.tail _ (List.Mem.head _))) hiv hk2 hv2 ?j_hu ?_)
                          case j_hu => ke_room
                      k_with "parse clean" =>  exact maps_clean fun x => ⟨_, _, rfl⟩
                      k_with "parse len" =>  rw [List.length_map]; exact Nat.le_trans (choices_size _) (by decide)
                      k_steps
                      refine hQm _ _ ?_
                      k_steps
                      rename AllBare _ → AllBare _ => b2
                      have b2' := And.intro b2 trivial
                      clear b2
                      rename AllBare _ → AllBare _ => b1
                      rename Fr _ _ _ _ => lF
                      refine ⟨.inl ⟨.bool true, .bool true, [], rfl, fun _ => rfl, ReadsW.bool _, ?post, fun _ => ⟨List.nodup_nil, fun _ h => nomatch h⟩⟩, .of_keep lF.keep, rfl, b2'.1 (b1 (hbm (AllBare.of_eq hg)))⟩
                      with_unfolding_all exact rfl
        · have h : ¬ marksP ns (thP ns) = dueP ns := by assumption
          exact absurd PL.marks h
  · have h : jugP ns (thP ns) = false := by assumption
    rw [PL.jug] at h
    cases h)

end

end Mine
set_option maxRecDepth 100000 in
set_option maxHeartbeats 4000000 in
theorem PySem.Challenge.cw_wu0047_01_holds : PySem.Challenge.rw_wu0047_01.Holds :=
  Mine.main0
