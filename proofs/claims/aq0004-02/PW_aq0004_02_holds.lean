import PyProof.Rows.All
import Wide.All
import OpenK.AllK
import Wide.FinOn
import PySem.Challenge.RW_aq0004_02
open PySem PySem.W PyProof.Rows PySem.Calls
set_option Elab.async false
set_option maxRecDepth 100000
set_option maxHeartbeats 8000000

namespace Aq
def defAt (p : Program) (i : Nat) : Arguments × List Stmt × Scope := match p.main.body[i]? with
  | some (.FunctionDef _ ps body _ _ _ sc _ _ _) => (ps, body, sc)
  | _ => default
abbrev lst (vs : List Value) (n : Nat) : Obj := listOf vs.toArray n
abbrev bar (b : Array UInt8) : Obj := { cls := .type "bytearray", data := .bytearray b }

theorem iteT {c : Prop} [Decidable c] {a b : Prop} (h : c) (x : a) : if c then a else b := by rw [if_pos h]; exact x
theorem iteF {c : Prop} [Decidable c] {a b : Prop} (h : ¬ c) (x : b) : if c then a else b := by rw [if_neg h]; exact x

/-- what a walk asks of the top: the names of the built-ins are free, the builtins stand -/
structure Wd (h : Heap) (mg mb : Str → Option Value) : Prop where
  g : h.Ns mainGlobals mg
  b : h.Ns builtinsNs mb
  lim : h.NoLimit
  bl : ∀ x : Str, x ≠ "__name__" → mb x = bootBuiltins x
  no : ∀ x : Str, x ∈ [("len" : Str), "range", "bytearray", "bytes", "ord"] → mg x = none
theorem Wd.keeps {h h' : Heap} {mg mb} (W : Wd h mg mb) (k : ∀ b o, h.get? b = some o → h'.get? b = some o) : Wd h' mg mb := ⟨W.g.keeps k, W.b.keeps k, W.lim.keeps k, W.bl, W.no⟩

structure FnAt (h : Heap) (mg : Str → Option Value) (name : Str) (d : Arguments × List Stmt × Scope) (a : Addr) : Prop where
  g : mg name = some (.ref a)
  o : ∃ o pm code doc, h.get? a = some o ∧ o.data = .func (docDef name d.1 d.2.1 d.2.2 pm code doc) ∧ h.CodeRec code name
theorem FnAt.keeps {h h' : Heap} {mg name d a} (W : FnAt h mg name d a) (k : ∀ b o, h.get? b = some o → h'.get? b = some o) : FnAt h' mg name d a :=
  ⟨W.g, let ⟨o, pm, c, doc, h1, h2, h3⟩ := W.o; ⟨o, pm, c, doc, k _ _ h1, h2, h3.keeps k⟩⟩

section
variable {M : Model} {A : Around} {E : Value → Shared → Prop} {s : Shared} {name : Str} {scope : Scope} {L a : Addr} {cd : Value} {h₀ : Heap} {m mg mb : Str → Option Value}
theorem nmB {x : Str} {pos : Pos} {v : Value} {Q : Value → Shared → Prop} (W : Wd h₀ mg mb) (F : Fr h₀ L s.heap m) (hv : bootBuiltins x = some v) (h : Q v s)
    (hm : x ∈ [("len" : Str), "range", "bytearray", "bytes", "ord"] := by decide) (hn : x ≠ "__name__" := by decide)
    (hk : scope.kind = .function := by rfl) (hx : (envOf name scope L a cd).kindOf x = some .globalImplicit := by rfl) (hd : (x == ("__debug__" : Str)) = false := by decide) :
    wpAny M A (eval (.Name x pos) (envOf name scope L a cd)) Q E s := ld_builtin_at F W.g (W.no x hm) W.b ((W.bl x hn).trans hv) h hk hx hd
theorem nmF {x : Str} {pos : Pos} {d} {f : Addr} {Q : Value → Shared → Prop} (W : Wd h₀ mg mb) (F : Fr h₀ L s.heap m) (hf : FnAt h₀ mg x d f) (h : Q (.ref f) s)
    (hk : scope.kind = .function := by rfl) (hx : (envOf name scope L a cd).kindOf x = some .globalImplicit := by rfl) (hd : (x == ("__debug__" : Str)) = false := by decide) :
    wpAny M A (eval (.Name x pos) (envOf name scope L a cd)) Q E s := ld_global_at F W.g hf.g h hk hx hd
end
theorem bb_len : bootBuiltins "len" = some (.builtin "len") := by decide +kernel
theorem bb_range : bootBuiltins "range" = some (.type "range") := by decide +kernel
theorem bb_bytes : bootBuiltins "bytes" = some (.type "bytes") := by decide +kernel
theorem bb_bytearray : bootBuiltins "bytearray" = some (.type "bytearray") := by decide +kernel
theorem bb_ord : bootBuiltins "ord" = some (.builtin "ord") := by decide +kernel

/-- all but the objects at D stay -/
def Kp (D : List Addr) (h h' : Heap) : Prop := ∀ b o, b ∉ D → h.get? b = some o → h'.get? b = some o
theorem Kp.refl {D h} : Kp D h h := fun _ _ _ e => e
theorem Kp.trans {D h h' h''} (a : Kp D h h') (b : Kp D h' h'') : Kp D h h'' := fun x o n e => b x o n (a x o n e)
theorem Kp.mono {D D' h h'} (a : Kp D h h') (s : ∀ x ∈ D, x ∈ D') : Kp D' h h' := fun x o n e => a x o (fun q => n (s x q)) e
theorem Kp.of_same {D a h h'} (s : Heap.SameBut a h h') (hm : a ∈ D) : Kp D h h' := fun x o n e => s.extBut x o (fun q => n (q ▸ hm)) e
theorem kp_fr {D} {base h h' : Heap} {L : Addr} {m : Str → Option Value} (F : Fr base L h m) (k : Kp D h h') (hL : L ∉ D) (hD : ∀ x ∈ D, base.get? x = none) : Fr base L h' m :=
  ⟨F.ns.at fun _ e => k L _ hL e, fun b o e => k b o (fun q => by rw [hD b q] at e; cases e) (F.keep b o e), F.above⟩
theorem kp_news {D} {base h h' : Heap} {L : Addr} {news : List (Addr × Obj)} (N : News base L h news) (k : Kp D h h') : ∀ {l : List (Addr × Obj)}, (∀ p ∈ l, p ∈ news) → (∀ p ∈ l, p.1 ∉ D) → News base L h' l :=
  fun hl hd p hp => ⟨k _ _ (hd p hp) (N p (hl p hp)).1, (N p (hl p hp)).2⟩
theorem news_put {base h : Heap} {L a : Addr} {o : Obj} {news : List (Addr × Obj)} (N : News base L h news) (ha : h.get? a = some o) (hL : a ≠ L) (hb : base.get? a = none) : News base L h ((a, o) :: news) :=
  fun p hp => by rcases List.mem_cons.mp hp with rfl | hp; exact ⟨ha, hL, hb⟩; exact N p hp
theorem news_one {base h : Heap} {L a : Addr} {o : Obj} (ha : h.get? a = some o) (hL : a ≠ L) (hb : base.get? a = none) : News base L h [(a, o)] := news_put News.nil ha hL hb
theorem news_sub {base h : Heap} {L : Addr} {news l : List (Addr × Obj)} (N : News base L h news) (hl : ∀ p ∈ l, p ∈ news) : News base L h l := fun p hp => N p (hl p hp)
theorem lst_isList {h : Heap} {r : Addr} {vs n} (e : h.get? r = some (lst vs n)) : h.IsList r vs.toArray := ⟨_, e, rfl, n, rfl⟩
end Aq

namespace Aq
/-- the first place from i on at which ns stands in xs -/
def findFrom (ns : List Nat) : List Nat → Nat → Option Nat
  | [], off => if ns.isPrefixOf [] then some off else none
  | x :: xs, off => if ns.isPrefixOf (x :: xs) then some off else findFrom ns xs (off + 1)
def find (xs ns : List Nat) (i : Nat) : Option Nat := if ns.isEmpty then none else if i ≤ xs.length then findFrom ns (xs.drop i) i else none
def findI (xs ns : List Nat) (i : Nat) : Int := match find xs ns i with
  | some p => (p : Int)
  | none => -1
def occF (xs ns : List Nat) : Nat → Nat → List Nat
  | 0, _ => []
  | f + 1, i => match find xs ns i with
    | none => []
    | some p => p :: occF xs ns f (p + ns.length)
def occ (xs ns : List Nat) : List Nat := occF xs ns (xs.length + 1) 0
def toZ (l : List Nat) : List Int := l.map fun (n : Nat) => (n : Int)
/-- ns stands in xs at q -/
def hit (xs ns : List Nat) (q : Nat) : Prop := ns <+: xs.drop q

theorem findFrom_some {ns : List Nat} : ∀ {l : List Nat} {off p : Nat}, findFrom ns l off = some p → off ≤ p ∧ p ≤ off + l.length ∧ hit l ns (p - off) ∧ ∀ q, q < p - off → ¬ hit l ns q
  | [], off, p, h => by
    unfold findFrom at h
    split at h
    · cases h; rename_i q; exact ⟨Nat.le_refl _, Nat.le_refl _, by simpa [hit] using q, fun q hq => by omega⟩
    · cases h
  | x :: l, off, p, h => by
    unfold findFrom at h
    split at h
    · cases h; rename_i q; exact ⟨Nat.le_refl _, by simp, by rw [Nat.sub_self]; exact List.isPrefixOf_iff_prefix.mp q, fun q hq => by omega⟩
    · rename_i q0
      obtain ⟨a, b, c, d⟩ := findFrom_some h
      refine ⟨by omega, by simp only [List.length_cons]; omega, ?_, fun q hq => ?_⟩
      · rw [show p - off = (p - (off + 1)) + 1 by omega]; exact c
      · cases q with
        | zero => exact fun e => q0 (List.isPrefixOf_iff_prefix.mpr e)
        | succ q => exact d q (by omega)
theorem findFrom_none {ns : List Nat} : ∀ {l : List Nat} {off : Nat}, findFrom ns l off = none → ∀ q, q ≤ l.length → ¬ hit l ns q
  | [], off, h, q, hq => by
    unfold findFrom at h
    split at h
    · cases h
    · rename_i q0
      intro e
      apply q0
      simpa [hit] using e
  | x :: l, off, h, q, hq => by
    unfold findFrom at h
    split at h
    · cases h
    · rename_i q0
      cases q with
      | zero => exact fun e => q0 (List.isPrefixOf_iff_prefix.mpr e)
      | succ q => exact findFrom_none h q (by simpa using hq)
theorem hit_drop {xs ns : List Nat} {i q : Nat} : hit (xs.drop i) ns q ↔ hit xs ns (i + q) := by unfold hit; rw [List.drop_drop]
theorem hit_len {xs ns : List Nat} {q : Nat} (hne : ns ≠ []) (h : hit xs ns q) : q + ns.length ≤ xs.length := by
  have := h.length_le
  rw [List.length_drop] at this
  have : 0 < ns.length := List.length_pos_iff.mpr hne
  omega
theorem find_some {xs ns : List Nat} {i p : Nat} (h : find xs ns i = some p) : i ≤ p ∧ p + ns.length ≤ xs.length ∧ hit xs ns p ∧ (∀ q, i ≤ q → q < p → ¬ hit xs ns q) ∧ 0 < ns.length := by
  unfold find at h
  split at h
  · cases h
  rename_i hne
  have hne' : ns ≠ [] := by intro e; rw [e] at hne; exact hne rfl
  split at h
  · obtain ⟨a, b, c, d⟩ := findFrom_some h
    rw [hit_drop, show i + (p - i) = p by omega] at c
    refine ⟨a, hit_len hne' c, c, fun q h1 h2 e => d (q - i) (by omega) ?_, List.length_pos_iff.mpr hne'⟩
    rw [hit_drop, show i + (q - i) = q by omega]; exact e
  · cases h
theorem find_none {xs ns : List Nat} {i : Nat} (hne : ns ≠ []) (h : find xs ns i = none) : ∀ q, i ≤ q → ¬ hit xs ns q := by
  unfold find at h
  split at h
  · rename_i e; exact absurd (List.isEmpty_iff.mp e) hne
  split at h
  · intro q hq e
    have := hit_len hne e
    refine findFrom_none h (q - i) (by rw [List.length_drop]; omega) ?_
    rw [hit_drop, show i + (q - i) = q by omega]; exact e
  · intro q hq e
    have := hit_len hne e
    omega
theorem find_is {xs ns : List Nat} {i p : Nat} (hne : ns ≠ []) (h1 : i ≤ p) (h2 : hit xs ns p) (h3 : ∀ q, i ≤ q → q < p → ¬ hit xs ns q) : find xs ns i = some p := by
  cases e : find xs ns i with
  | none => exact absurd h2 (find_none hne e p h1)
  | some r =>
    obtain ⟨a, _, b, c, _⟩ := find_some e
    rcases Nat.lt_trichotomy r p with q | q | q
    · exact absurd b (h3 r a q)
    · rw [q]
    · exact absurd h2 (c p h1 q)
theorem find_no {xs ns : List Nat} {i : Nat} (h : ∀ q, i ≤ q → ¬ hit xs ns q) : find xs ns i = none := by
  cases e : find xs ns i with
  | none => rfl
  | some r => obtain ⟨a, _, b, _⟩ := find_some e; exact absurd b (h r a)

/-- l are the places that a reader from start on finds -/
def Chain (xs ns : List Nat) : Nat → List Nat → Prop
  | start, [] => ∀ q, start ≤ q → ¬ hit xs ns q
  | start, p :: r => start ≤ p ∧ hit xs ns p ∧ (∀ q, start ≤ q → q < p → ¬ hit xs ns q) ∧ Chain xs ns (p + ns.length) r
theorem occF_chain {xs ns : List Nat} (hne : ns ≠ []) : ∀ (f i : Nat), xs.length + 1 ≤ f + i → Chain xs ns i (occF xs ns f i)
  | 0, i, h => fun q hq e => by have := hit_len hne e; have : 0 < ns.length := List.length_pos_iff.mpr hne; omega
  | f + 1, i, h => by
    unfold occF
    cases e : find xs ns i with
    | none => exact find_none hne e
    | some p =>
      obtain ⟨a, _, b, c, d⟩ := find_some e
      exact ⟨a, b, c, occF_chain hne f _ (by omega)⟩
theorem occ_chain {xs ns : List Nat} (hne : ns ≠ []) : Chain xs ns 0 (occ xs ns) := occF_chain hne _ _ (by omega)
theorem chain_occF {xs ns : List Nat} (hne : ns ≠ []) : ∀ (l : List Nat) (f i : Nat), xs.length + 1 ≤ f + i → Chain xs ns i l → occF xs ns f i = l
  | [], f, i, h, c => by
    cases f with
    | zero => rfl
    | succ f => unfold occF; rw [find_no c]
  | p :: r, f, i, h, ⟨c1, c2, c3, c4⟩ => by
    have hl := hit_len hne c2
    have hp : 0 < ns.length := List.length_pos_iff.mpr hne
    cases f with
    | zero => omega
    | succ f =>
      unfold occF
      rw [find_is hne c1 c2 c3]
      show p :: _ = _
      rw [chain_occF hne r f _ (by omega) c4]
theorem chain_occ {xs ns l : List Nat} (hne : ns ≠ []) (c : Chain xs ns 0 l) : occ xs ns = l := chain_occF hne l _ _ (by omega) c

theorem hit_take {xs ns : List Nat} {c q : Nat} (hne : ns ≠ []) : hit (xs.take c) ns q ↔ hit xs ns q ∧ q + ns.length ≤ c := by
  have hp : 0 < ns.length := List.length_pos_iff.mpr hne
  unfold hit
  rw [List.drop_take]
  constructor
  · intro h
    refine ⟨h.trans (List.take_prefix _ _), ?_⟩
    have := h.length_le
    rw [List.length_take] at this
    omega
  · rintro ⟨h, hl⟩
    have e := List.prefix_iff_eq_take.mp h
    rw [e]
    exact List.take_prefix_take_left (by omega)
theorem chain_take {xs ns : List Nat} {c : Nat} (hne : ns ≠ []) : ∀ (l : List Nat) (i : Nat), Chain xs ns i l → Chain (xs.take c) ns i (l.filter fun p => decide (p + ns.length ≤ c))
  | [], i, h => fun q hq e => h q hq ((hit_take hne).mp e).1
  | p :: r, i, ⟨c1, c2, c3, c4⟩ => by
    by_cases hp : p + ns.length ≤ c
    · rw [List.filter_cons_of_pos (by simpa using hp)]
      exact ⟨c1, (hit_take hne).mpr ⟨c2, hp⟩, fun q h1 h2 e => c3 q h1 h2 ((hit_take hne).mp e).1, chain_take hne r _ c4⟩
    · rw [List.filter_cons_of_neg (by simpa using hp)]
      have none : r.filter (fun p => decide (p + ns.length ≤ c)) = [] := by
        have : ∀ (l : List Nat) (j : Nat), p ≤ j → Chain xs ns j l → l.filter (fun p => decide (p + ns.length ≤ c)) = [] := by
          intro l
          induction l with
          | nil => intros; rfl
          | cons a l ih =>
            rintro j hj ⟨d1, d2, d3, d4⟩
            rw [List.filter_cons_of_neg (by simp only [decide_eq_true_eq]; omega)]
            exact ih _ (by omega) d4
        exact this r _ (by omega) c4
      rw [none]
      intro q hq e
      obtain ⟨e1, e2⟩ := (hit_take hne).mp e
      by_cases h : q < p
      · exact c3 q hq h e1
      · omega
theorem occ_take {xs ns : List Nat} {c : Nat} (hne : ns ≠ []) : occ (xs.take c) ns = (occ xs ns).filter fun p => decide (p + ns.length ≤ c) := chain_occ hne (chain_take hne _ _ (occ_chain hne))
theorem occ_nil {ns : List Nat} (hne : ns ≠ []) : occ [] ns = [] := chain_occ hne fun q _ e => by
  have h1 := hit_len hne e
  have h2 : 0 < ns.length := List.length_pos_iff.mpr hne
  rw [List.length_nil] at h1
  omega
theorem occ_empty {xs : List Nat} : occ xs [] = [] := by simp [occ, occF, find]

/-- a c put for each place -/
def mark (xs : List Nat) (n : Nat) : Nat → List Nat → List Nat
  | start, [] => xs.drop start
  | start, p :: r => (xs.drop start).take (p - start) ++ 99 :: mark xs n (p + n) r
theorem hit_at {xs ns : List Nat} {q k : Nat} (h : hit xs ns q) (hk : k < ns.length) : xs[q + k]? = ns[k]? := by
  obtain ⟨t, e⟩ := h
  have : (xs.drop q)[k]? = ns[k]? := by rw [← e, List.getElem?_append_left hk]
  rwa [List.getElem?_drop] at this
theorem mark_free {xs ns : List Nat} (hne : ns ≠ []) (h99 : 99 ∉ ns) : ∀ (l : List Nat) (i : Nat), Chain xs ns i l → ∀ q, ¬ hit (mark xs ns.length i l) ns q
  | [], i, c, q, e => c (i + q) (by omega) (by unfold mark at e; exact hit_drop.mp e)
  | p :: r, i, ⟨c1, c2, c3, c4⟩, q, e => by
    have hl := hit_len hne c2
    have hp : 0 < ns.length := List.length_pos_iff.mpr hne
    unfold mark at e
    have hs : ((xs.drop i).take (p - i)).length = p - i := by rw [List.length_take, List.length_drop]; omega
    by_cases h1 : q + ns.length ≤ p - i
    · refine c3 (i + q) (by omega) (by omega) ?_
      have e2 : hit ((xs.drop i).take (p - i)) ns q := by
        unfold hit at e ⊢
        rw [List.drop_append_of_le_length (by omega)] at e
        exact List.prefix_of_prefix_length_le e (List.prefix_append _ _) (by rw [List.length_drop, hs]; omega)
      exact hit_drop.mp ((hit_take hne).mp e2).1
    · by_cases h2 : q ≤ p - i
      · have := hit_at e (k := p - i - q) (by omega)
        rw [show q + (p - i - q) = p - i by omega, List.getElem?_append_right (by omega), hs, Nat.sub_self] at this
        exact h99 (List.mem_of_getElem? this.symm)
      · refine mark_free hne h99 r _ c4 (q - (p - i) - 1) ?_
        unfold hit at e ⊢
        rw [List.drop_append, hs, List.drop_of_length_le (by omega), List.nil_append, show q - (p - i) = (q - (p - i) - 1) + 1 by omega, List.drop_succ_cons] at e
        exact e
theorem occ_mark {xs ns : List Nat} (hne : ns ≠ []) (h99 : 99 ∉ ns) {l : List Nat} (c : Chain xs ns 0 l) : occ (mark xs ns.length 0 l) ns = [] := chain_occ hne fun q _ => mark_free hne h99 l 0 c q

/-- the places of the c's -/
def marks (n : Nat) : Nat → Nat → List Nat → List Nat
  | _, _, [] => []
  | off, start, p :: r => (off + (p - start)) :: marks n (off + (p - start) + 1) (p + n) r
theorem hit_one {xs : List Nat} {c q : Nat} : hit xs [c] q ↔ xs[q]? = some c := by
  unfold hit
  rw [← List.head?_drop]
  cases h : xs.drop q with
  | nil => simp
  | cons a l => simp [List.cons_prefix_cons, eq_comm]
theorem marks_chain {xs ns : List Nat} (hne : ns ≠ []) (h99 : 99 ∉ xs) : ∀ (l : List Nat) (i : Nat) (pre : List Nat), Chain xs ns i l → Chain (pre ++ mark xs ns.length i l) [99] pre.length (marks ns.length pre.length i l)
  | [], i, pre, c => fun q hq e => by
    rw [hit_one, mark, List.getElem?_append_right hq, List.getElem?_drop] at e
    exact h99 (List.mem_of_getElem? e)
  | p :: r, i, pre, ⟨c1, c2, c3, c4⟩ => by
    have hl := hit_len hne c2
    have hs : ((xs.drop i).take (p - i)).length = p - i := by rw [List.length_take, List.length_drop]; omega
    have el : pre ++ mark xs ns.length i (p :: r) = (pre ++ (xs.drop i).take (p - i)) ++ 99 :: mark xs ns.length (p + ns.length) r := by simp [mark]
    have el2 : pre ++ mark xs ns.length i (p :: r) = (pre ++ (xs.drop i).take (p - i) ++ [99]) ++ mark xs ns.length (p + ns.length) r := by simp [mark]
    have hpl : (pre ++ (xs.drop i).take (p - i)).length = pre.length + (p - i) := by rw [List.length_append, hs]
    refine ⟨by omega, ?_, fun q h1 h2 e => ?_, ?_⟩
    · rw [hit_one, el, List.getElem?_append_right (by omega), hpl, Nat.sub_self]; rfl
    · rw [hit_one, el, List.getElem?_append_left (by omega), List.getElem?_append_right h1] at e
      exact h99 (List.mem_of_mem_drop (List.mem_of_mem_take (List.mem_of_getElem? e)))
    · have := marks_chain hne h99 r (p + ns.length) (pre ++ (xs.drop i).take (p - i) ++ [99]) c4
      rw [← el2] at this
      have e3 : (pre ++ (xs.drop i).take (p - i) ++ [99]).length = pre.length + (p - i) + 1 := by rw [List.length_append, hpl]; rfl
      rw [e3] at this
      exact this
theorem occ_marks {xs ns l : List Nat} (hne : ns ≠ []) (h99 : 99 ∉ xs) (c : Chain xs ns 0 l) : occ (mark xs ns.length 0 l) [99] = marks ns.length 0 0 l :=
  chain_occ (by simp) (by have := marks_chain hne h99 l 0 [] c; simpa using this)
theorem marks_zip {xs ns : List Nat} (hne : ns ≠ []) : ∀ (l : List Nat) (i off j : Nat), Chain xs ns i l → i = off + j * (ns.length - 1) →
    toZ (marks ns.length off i l) = (l.zipIdx j).map fun p => (p.1 : Int) - (p.2 : Int) * ((ns.length : Int) - 1)
  | [], _, _, _, _, _ => rfl
  | p :: r, i, off, j, ⟨c1, c2, c3, c4⟩, h => by
    have hp : 0 < ns.length := List.length_pos_iff.mpr hne
    obtain ⟨k, hk⟩ : ∃ k, ns.length = k + 1 := ⟨ns.length - 1, by omega⟩
    have ih := marks_zip hne r (p + ns.length) (off + (p - i) + 1) (j + 1) c4 (by
      rw [hk] at h ⊢
      rw [Nat.add_sub_cancel, Nat.add_mul, Nat.one_mul] at *
      omega)
    simp only [toZ] at ih ⊢
    simp only [marks, List.map_cons, List.zipIdx_cons, ih]
    congr 1
    rw [hk] at h ⊢
    rw [Nat.add_sub_cancel] at h
    generalize hm : j * k = m at h
    have : ((j : Int) * (((k + 1 : Nat) : Int) - 1)) = (m : Int) := by rw [← hm]; simp
    rw [this]
    omega
theorem marks_range {xs ns l : List Nat} (hne : ns ≠ []) (c : Chain xs ns 0 l) :
    toZ (marks ns.length 0 0 l) = (List.range l.length).map fun k => ((l.getD k 0 : Nat) : Int) - (k : Int) * ((ns.length : Int) - 1) := by
  rw [marks_zip hne l 0 0 0 c (by simp)]
  apply List.ext_getElem
  · simp
  · intro n h1 h2
    simp at h1
    simp [List.getD_eq_getElem?_getD, h1]
theorem chain_short {xs ns : List Nat} (hne : ns ≠ []) : ∀ (l : List Nat) (i : Nat), i ≤ xs.length → Chain xs ns i l → l.length + i ≤ xs.length
  | [], i, hi, _ => by simpa using hi
  | p :: r, i, hi, ⟨c1, c2, c3, c4⟩ => by
    have hl := hit_len hne c2
    have hp : 0 < ns.length := List.length_pos_iff.mpr hne
    have := chain_short hne r (p + ns.length) hl c4
    rw [List.length_cons]
    omega
theorem occ_short {xs ns : List Nat} (hne : ns ≠ []) : (occ xs ns).length ≤ xs.length := by
  have := chain_short hne _ 0 (Nat.zero_le _) (occ_chain (xs := xs) hne)
  omega
theorem mark_length {xs ns : List Nat} : ∀ (l : List Nat) (i : Nat), Chain xs ns i l → ns ≠ [] → i ≤ xs.length → (mark xs ns.length i l).length ≤ (xs.length - i) + l.length
  | [], i, _, _, _ => by simp [mark]
  | p :: r, i, ⟨c1, c2, c3, c4⟩, hne, hi => by
    have hl := hit_len hne c2
    have := mark_length r (p + ns.length) c4 hne hl
    simp only [mark, List.length_append, List.length_take, List.length_drop, List.length_cons]
    omega
end Aq

namespace Aq
abbrev P0 : Program := PySem.Challenge.pw_aq0004_02

section
variable {M : Model} {A : Around} {E : Value → Shared → Prop} {s : Shared} {name : Str} {scope : Scope} {L a : Addr} {cd : Value} {h₀ base : Heap} {m : Str → Option Value} {D : List Addr}
theorem stKp {x : Str} {v : Value} {Q : Unit → Shared → Prop} (F : Fr base L s.heap m) (K : Kp D h₀ s.heap) (hL : L ∈ D)
    (h : ∀ h', Fr base L h' (fun y => if y = x then some v else m y) → Kp D h₀ h' → Q () { s with heap := h', toks := s.toks + 1 })
    (hk : scope.kind = .function := by rfl) (hl : (envOf name scope L a cd).kindOf x = some .local := by rfl) :
    wpAny M A (storeName (envOf name scope L a cd) x v) Q E s :=
  wpAny_storeName_local hl F.ns (fun h' hn hs => h h' (F.set hn hs) (K.trans (Kp.of_same hs hL)))
    (by show (scope.kind == .class || (scope.kind == .module && L != mainGlobals)) = false; rw [hk]; rfl)
end

local macro_rules | `(tactic| walk_at "eval Name") => `(tactic| first
  | refine ld (by assumption) (by assumption) ?_
  | refine nmB (by assumption) (by assumption) bb_len ?_)
local macro_rules | `(tactic| walk_at "loadName") => `(tactic| refine ldn (by assumption) (by assumption) ?_)
local macro_rules | `(tactic| walk_at "storeName") => `(tactic| (refine stKp (by assumption) (by assumption) (.head _) ?_; intro h' F' K'; (try dsimp only)))

section
variable {prog : Program} {w : World} {A : Around} {s : Shared} {base h₀ : Heap} {L a : Addr} {cd : Value} {mg mb : Str → Option Value} {m : Str → Option Value}
  {Q : Flow → Shared → Prop} {E : Value → Shared → Prop} {nv hv : Value}
def genBody : List Stmt := (defAt P0 1).2.1
def genScope : Scope := (defAt P0 1).2.2
def genEnv (L a : Addr) (cd : Value) : Env := envOf "_findall" (defAt P0 1).2.2 L a cd

structure FindSpec (prog : Program) (w : World) (hv nv : Value) (ns : List Nat) (fid : String) (C : Heap → List Nat → Prop) : Prop where
  meth : ∀ {A E s Q pl xs}, C s.heap xs → Q (.builtin fid, [hv]) s → wpAny (model prog w) A (getMethod hv "find" pl) Q E s
  call : ∀ {A E s Q xs} {i : Nat} {t}, ns ≠ [] → C s.heap xs → (∀ t' tk, Q (.int (findI xs ns i) t') { s with toks := tk }) → wpAny (model prog w) A (call (.builtin fid) [hv, nv, .int (i : Int) t]) Q E s
  len : ∀ {A E s Q}, (∀ t' tk, Q (.int (ns.length : Int) t') { s with toks := tk }) → wpAny (model prog w) A (PySem.call (.builtin "len") [nv]) Q E s
  truth : ∀ {A E s Q}, (∀ tk, Q (!ns.isEmpty) { s with toks := tk }) → wpAny (model prog w) A (truthy nv) Q E s

theorem gen_zero (F : Fr base L s.heap m) (K : Kp [L] h₀ s.heap) (h : ∀ h' tk, Fr base L h' (fun y => if y = "i" then some (.int 0 s.toks) else m y) → Kp [L] h₀ h' → Q .next ⟨h', s.gens, s.drawn, tk, s.os⟩) :
   wpAny (model prog w) A (exec (genBody.getD 1 default) (genEnv L a cd)) Q E s := by
  unfold genEnv genBody
  show wpAny _ _ (exec (.Assign [.Name _ _] _ _) _) _ _ _
  repeat walk1
  exact h _ _ (by assumption) (by assumption)
theorem gen_test {ns fid C} (S : FindSpec prog w hv nv ns fid C) (F : Fr base L s.heap m) (hn : m "needle" = some nv) (h : ∀ tk, Q (if ns.isEmpty then .ret .none else .next) { s with toks := tk }) :
   wpAny (model prog w) A (exec (genBody.getD 0 default) (genEnv L a cd)) Q E s := by
  unfold genEnv genBody
  show wpAny _ _ (exec (.If _ _ _ _) _) _ _ _
  iterate 4 walk1
  refine S.truth fun tk => ?_
  replace h := h tk
  cases hb : ns.isEmpty <;> rw [hb] at h
  all_goals repeat walk1
  · exact h
  · exact h
def genLoop : List Stmt := match genBody.getD 2 default with
  | .While _ b _ _ => b
  | _ => []
theorem gen_find {ns fid C} {i : Nat} {t : Tok} {xs} (S : FindSpec prog w hv nv ns fid C) (hne : ns ≠ []) (F : Fr base L s.heap m) (K : Kp [L] h₀ s.heap) (hn : m "needle" = some nv) (hh : m "haystack" = some hv) (hi : m "i" = some (.int i t)) (hC : C s.heap xs)
   (h : ∀ h' tk t', Fr base L h' (fun y => if y = "i" then some (.int (findI xs ns i) t') else m y) → Kp [L] h₀ h' → Heap.SameBut L s.heap h' → Q .next ⟨h', s.gens, s.drawn, tk, s.os⟩) :
   wpAny (model prog w) A (exec (genLoop.getD 0 default) (genEnv L a cd)) Q E s := by
  have K0 : Kp [L] s.heap s.heap := Kp.refl
  unfold genEnv genLoop genBody
  show wpAny _ _ (exec (.Assign [.Name _ _] _ _) _) _ _ _
  repeat walk1
  refine S.meth hC ?_
  repeat walk1
  refine S.call hne hC fun t' tk => ?_
  refine wpAny_storeName_local rfl F.ns (fun h' hn hs => ?_) rfl
  exact h _ _ _ (F.set hn hs) (K.trans (Kp.of_same hs (.head _))) hs
theorem gen_break {i : Int} {t : Tok} (F : Fr base L s.heap m) (hi : m "i" = some (.int i t)) (h : ∀ tk, Q (if i < 0 then .brk else .next) { s with toks := tk }) :
   wpAny (model prog w) A (exec (genLoop.getD 1 default) (genEnv L a cd)) Q E s := by
  unfold genEnv genLoop genBody
  show wpAny _ _ (exec (.If _ _ _ _) _) _ _ _
  by_cases hb : i < 0
  · simp only [if_pos hb] at h
    iterate 6 walk1
    refine iteT (by simpa using hb) ?_
    repeat walk1
    exact h _
  · simp only [if_neg hb] at h
    iterate 6 walk1
    refine iteF (by simpa using hb) ?_
    repeat walk1
    exact h _
theorem gen_aug {ns fid C} {i : Nat} {t : Tok} (S : FindSpec prog w hv nv ns fid C) (W : Wd base mg mb) (F : Fr base L s.heap m) (hn : m "needle" = some nv) (hi : m "i" = some (.int i t))
   (h : ∀ h' tk t', Fr base L h' (fun y => if y = "i" then some (.int ((i + ns.length : Nat) : Int) t') else m y) → Heap.SameBut L s.heap h' → Q .next ⟨h', s.gens, s.drawn, tk, s.os⟩) :
   wpAny (model prog w) A (exec (genLoop.getD 3 default) (genEnv L a cd)) Q E s := by
  have K0 : Kp [L] s.heap s.heap := Kp.refl
  unfold genEnv genLoop genBody
  show wpAny _ _ (exec (.AugAssign _ _ _ _) _) _ _ _
  repeat walk1
  refine S.len fun t' tk => ?_
  iterate 1 walk1
  dsimp only
  refine wpAny_storeName_local rfl F.ns (fun h' hn hs => ?_) rfl
  exact h _ _ _ (F.set (by rw [Int.natCast_add]; exact hn) hs) hs

/-- the place from which the generator's next turn seeks -/
def Cur (base : Heap) (L : Addr) (hv nv : Value) (ns : List Nat) (h : Heap) (i : Nat) : Prop :=
  ∃ m, Fr base L h m ∧ m "haystack" = some hv ∧ m "needle" = some nv ∧ ((m "i" = none ∧ i = 0) ∨ ∃ (p : Nat) (t : Tok), m "i" = some (.int (p : Int) t) ∧ i = p + ns.length)
def Moved (L : Addr) (s s' : Shared) : Prop := ∃ h tk, s' = { s with heap := h, toks := tk } ∧ Kp [L] s.heap h
theorem Moved.refl {L : Addr} {s : Shared} : Moved L s s := ⟨_, _, rfl, Kp.refl⟩
theorem Moved.step {L : Addr} {s s' : Shared} {h : Heap} {tk : Nat} (x : Moved L s s') (k : Kp [L] s'.heap h) : Moved L s { s' with heap := h, toks := tk } := by
  obtain ⟨h1, t1, rfl, k1⟩ := x
  exact ⟨h, tk, rfl, k1.trans k⟩
theorem Cur.uniq {base : Heap} {L : Addr} {hv nv : Value} {ns : List Nat} {h : Heap} {i j : Nat} (x : Cur base L hv nv ns h i) (y : Cur base L hv nv ns h j) : i = j := by
  obtain ⟨m, F, _, _, hi⟩ := x
  obtain ⟨m', F', _, _, hj⟩ := y
  have e : m = m' := by
    obtain ⟨o, es, ep, ho, hd, _, hf⟩ := F.ns
    obtain ⟨o', es', ep', ho', hd', _, hf'⟩ := F'.ns
    rw [ho] at ho'
    cases ho'
    rw [hd] at hd'
    cases hd'
    funext z
    rw [← hf, hf']
  subst e
  rcases hi with ⟨a, rfl⟩ | ⟨p, t, a, rfl⟩ <;> rcases hj with ⟨b, rfl⟩ | ⟨q, u, b, rfl⟩ <;> rw [a] at b <;> first | rfl | cases b
  rfl
def GEnd (base : Heap) (L : Addr) (hv nv : Value) (ns : List Nat) (C : Heap → List Nat → Prop) (s s' : Shared) : Prop :=
  ∃ i xs, Cur base L hv nv ns s.heap i ∧ C s.heap xs ∧ find xs ns i = none ∧ Moved L s s'
def GR (base : Heap) (L : Addr) (hv nv : Value) (ns : List Nat) (C : Heap → List Nat → Prop) : GenEnd := fun _ s r s' => r = .ok (.ret .none) ∧ GEnd base L hv nv ns C s s'
def GY (base : Heap) (L : Addr) (hv nv : Value) (ns : List Nat) (C : Heap → List Nat → Prop) : Protocol := fun n s v s' kap =>
  ∃ i xs p t, Cur base L hv nv ns s.heap i ∧ C s.heap xs ∧ find xs ns i = some p ∧ v = .int (p : Int) t ∧ Moved L s s' ∧ Cur base L hv nv ns s'.heap (p + ns.length) ∧
    (0 < n → ∀ s2 xs', Cur base L hv nv ns s2.heap (p + ns.length) → C s2.heap xs' → kap (.send .none) s2)

def genWhile (L a : Addr) (cd : Value) : Code := .whileLoop (.Constant (.bool true) 0 ⟨6, 10, 6, 14⟩) genLoop [] (genEnv L a cd)
theorem seg_turn {ns fid C} {fs : List Frame} (S : FindSpec prog w hv nv ns fid C) (W : Wd base mg mb) (hne : ns ≠ []) (hCk : ∀ h h' xs, C h xs → Kp [L] h h' → C h' xs)
    (hfs : splitAtGen fs = none) (hfg : fs.any Frame.guarded = false)
    (hend : ∀ n s s', GEnd base L hv nv ns C s s' → Seg (model prog w) A (GR base L hv nv ns C) (GY base L hv nv ns C) n s (genWhile L a cd) (.pure (.done .next)) fs s')
    (n : Nat) (ih : ∀ k, n = k + 1 → ∀ s₀ s i xs m t, Cur base L hv nv ns s₀.heap i → C s₀.heap xs → Moved L s₀ s → Fr base L s.heap m → m "haystack" = some hv → m "needle" = some nv → m "i" = some (.int (i : Nat) t) →
      Seg (model prog w) A (GR base L hv nv ns C) (GY base L hv nv ns C) (k + 1) s₀ (genWhile L a cd) ((model prog w).den (genWhile L a cd)) fs s) :
    ∀ s₀ s i xs m t, Cur base L hv nv ns s₀.heap i → C s₀.heap xs → Moved L s₀ s → Fr base L s.heap m → m "haystack" = some hv → m "needle" = some nv → m "i" = some (.int (i : Nat) t) →
      Seg (model prog w) A (GR base L hv nv ns C) (GY base L hv nv ns C) (n + 1) s₀ (genWhile L a cd) ((model prog w).den (genWhile L a cd)) fs s := by
  intro s₀ s i xs m t hcur hC hmv F hh hn hi
  have hCs : C s.heap xs := by obtain ⟨h, tk, rfl, k⟩ := hmv; exact hCk _ _ _ hC k
  unfold genWhile
  refine seg_whileLoop ?_
  repeat walk1
  refine seg_execs_cons (seg_wrap ?_)
  refine gen_find (K := (Kp.refl : Kp [L] s.heap s.heap)) S hne F hn hh hi hCs fun h1 tk1 t1 F1 K1 hs1 => ?_
  dsimp only
  have hm1 : Moved L s₀ ⟨h1, s.gens, s.drawn, tk1, s.os⟩ := hmv.step (Kp.of_same hs1 (.head _))
  refine seg_execs_cons (seg_wrap ?_)
  refine gen_break (s := ⟨h1, s.gens, s.drawn, tk1, s.os⟩) F1 rfl fun tk2 => ?_
  have hm2 : Moved L s₀ ⟨h1, s.gens, s.drawn, tk2, s.os⟩ := hm1.step Kp.refl
  unfold findI
  cases hf : find xs ns i with
  | none =>
    dsimp only
    rw [if_pos (by decide)]
    exact hend _ _ _ ⟨i, xs, hcur, hC, hf, hm2⟩
  | some p =>
    dsimp only
    rw [if_neg (by omega)]
    dsimp only
    have e : findI xs ns i = p := by simp [findI, hf]
    rw [e] at F1
    refine seg_execs_cons (seg_Expr_Yield hfs rfl hfg ?_)
    refine ld F1 rfl ?_
    intro kap hk
    have hcur2 : Cur base L hv nv ns h1 (p + ns.length) := ⟨_, F1, hh, hn, .inr ⟨p, t1, rfl, rfl⟩⟩
    refine ⟨i, xs, p, t1, hcur, hC, hf, rfl, hm2, hcur2, fun hpos s2 xs' hcur3 hC3 => hk .none s2 ?_⟩
    obtain ⟨k, rfl⟩ : ∃ k, n = k + 1 := ⟨n - 1, by omega⟩
    have hcur3' := hcur3
    obtain ⟨m2, F2, hh2, hn2, hc2⟩ := hcur3
    obtain ⟨t2, hi2⟩ : ∃ t2, m2 "i" = some (.int (p : Int) t2) := by
      rcases hc2 with ⟨_, e2⟩ | ⟨p', t2, e2, e3⟩
      · exfalso
        apply hne
        apply List.eq_nil_of_length_eq_zero
        omega
      · obtain rfl : p = p' := by omega
        exact ⟨t2, e2⟩
    dsimp only
    refine seg_execs_cons (seg_wrap ?_)
    refine gen_aug S W F2 hn2 hi2 fun h3 tk3 t3 F3 hs3 => ?_
    dsimp only
    refine seg_execs_nil (seg_again rfl ?_)
    exact ih k rfl s2 _ _ xs' _ t3 hcur3' hC3 (Moved.refl.step (Kp.of_same hs3 (.head _))) F3 hh2 hn2 rfl
theorem seg_turns {ns fid C} {fs : List Frame} (S : FindSpec prog w hv nv ns fid C) (W : Wd base mg mb) (hne : ns ≠ []) (hCk : ∀ h h' xs, C h xs → Kp [L] h h' → C h' xs)
    (hfs : splitAtGen fs = none) (hfg : fs.any Frame.guarded = false)
    (hend : ∀ n s s', GEnd base L hv nv ns C s s' → Seg (model prog w) A (GR base L hv nv ns C) (GY base L hv nv ns C) n s (genWhile L a cd) (.pure (.done .next)) fs s') :
    ∀ n s₀ s i xs m t, Cur base L hv nv ns s₀.heap i → C s₀.heap xs → Moved L s₀ s → Fr base L s.heap m → m "haystack" = some hv → m "needle" = some nv → m "i" = some (.int (i : Nat) t) →
      Seg (model prog w) A (GR base L hv nv ns C) (GY base L hv nv ns C) (n + 1) s₀ (genWhile L a cd) ((model prog w).den (genWhile L a cd)) fs s := by
  intro n
  induction n with
  | zero => exact fun s₀ s i xs m t hcur hC hmv F hh hn hi => seg_turn S W hne hCk hfs hfg hend 0 (fun k e => by cases e) s₀ s i xs m t hcur hC hmv F hh hn hi
  | succ n ih => exact fun s₀ s i xs m t hcur hC hmv F hh hn hi => seg_turn S W hne hCk hfs hfg hend (n + 1) (fun k e => by cases e; exact ih) s₀ s i xs m t hcur hC hmv F hh hn hi

def GLive (prog : Program) (w : World) (A : Around) (base : Heap) (L : Addr) (hv nv : Value) (ns : List Nat) (C : Heap → List Nat → Prop) (k : Nat) (gs : GenState) (i : Nat) : Prop :=
  ∀ s xs, Cur base L hv nv ns s.heap i → C s.heap xs → gs.Goes (model prog w) A (GR base L hv nv ns C) (GY base L hv nv ns C) (k + 1) (.send .none) s

theorem wrap_pure {f : Flow} : (Sem.pure f : Sem Flow).onRaise (fun (x : Value) => do
        if (← field x 1) == Value.none then unsupported "frame.own-activation:exception-without-traceback"
        setFlight x (genEnv L a cd).frame) = .pure f := rfl

theorem gen_fresh {ns fid C} (S : FindSpec prog w hv nv ns fid C) (W : Wd base mg mb) (hCk : ∀ h h' xs, C h xs → Kp [L] h h' → C h' xs) (k : Nat) :
    GLive prog w A base L hv nv ns C k (.fresh (.func genBody (genEnv L a cd))) 0 := by
  intro s xs hcur hC
  refine ⟨rfl, seg_func ?_⟩
  have hcur0 := hcur
  obtain ⟨m, F, hh, hn, hi⟩ := hcur
  refine seg_execs_cons (seg_wrap ?_)
  refine gen_test S F hn fun tk0 => ?_
  by_cases hne : ns = []
  · rw [show ns.isEmpty = true by rw [hne]; rfl]
    exact seg_end (.ok (.ret .none)) ⟨rfl, 0, xs, hcur0, hC, by simp [find, hne], ⟨_, _, rfl, Kp.refl⟩⟩
  rw [show ns.isEmpty = false by cases ns with | nil => exact absurd rfl hne | cons => rfl]
  refine seg_execs_cons (seg_wrap ?_)
  refine gen_zero (s := { s with toks := tk0 }) F (Kp.refl : Kp [L] s.heap s.heap) fun h1 tk1 F1 K1 => ?_
  dsimp only
  refine seg_execs_cons (seg_While fun p => ?_)
  refine seg_turns S W hne hCk rfl rfl ?_ k s _ 0 xs _ _ hcur0 hC (Moved.refl.step K1) F1 hh hn rfl
  intro n s s' he
  refine seg_leaf (.ok .next) ?_
  exact seg_end (.ok (.ret .none)) ⟨rfl, he⟩

theorem gen_next {ns C ga g gs} {k i : Nat} {xs} {Q : Option Value → Shared → Prop} {E : Value → Shared → Prop} (hh : A.handled = none) (hl : s.heap.NoLimit) (hroom : A.depth < recursionLimit)
    (hg : s.heap.IsGen ga g) (hgs : s.gens[g]? = some gs) (hlive : GLive prog w A.in1 base L hv nv ns C k gs i) (hcur : Cur base L hv nv ns s.heap i) (hC : C s.heap xs) (hCu : ∀ h xs ys, C h xs → C h ys → xs = ys)
    (hY : ∀ p t h' tk gs', find xs ns i = some p → Kp [L] s.heap h' → Cur base L hv nv ns h' (p + ns.length) → gs'.bare = true → (0 < k → GLive prog w A.in1 base L hv nv ns C (k - 1) gs' (p + ns.length)) →
      Q (some (.int (p : Int) t)) { s with heap := h', toks := tk, gens := s.gens.setIfInBounds g gs' })
    (hE : ∀ h' tk, find xs ns i = none → Kp [L] s.heap h' → Q none { s with heap := h', toks := tk, gens := s.gens.setIfInBounds g .finished }) :
    wpAny (model prog w) A (pyNext (.ref ga)) Q E s := by
  have hgo := hlive (s.setGen g .running) xs hcur hC
  have two : ∀ (x y : GenState), (s.gens.setIfInBounds g x).setIfInBounds g y = s.gens.setIfInBounds g y := fun x y => by
    apply Array.ext' ; simp
  unfold pyNext
  refine wpAny_bind (wpAny_attempt (wpAny_callSpecial?_slot (name := Str.ofString "__next__") hg.typeIs slot_gen_next
    (wpAny_call_entry slot_gen_next hg.typeIs entry_gen_next ?_ (args_gen_next _))))
  show wpAny _ A.in1 (Builtin.Generator.genWake (.ref ga) (.send .none)) _ _ s
  unfold Builtin.Generator.genWake
  refine wpAny_bind (wpAny_holding (wpAny_genNumber hg (wpAny_bind (wpAny_genState hgs ?_))))
  cases gs with
  | running => exact hgo.elim
  | finished => exact hgo.elim
  | _ =>
    refine wpAny_bind (wpAny_roomToWake hl hroom ?_)
    refine wpAny_resumeQ hgs hgo (fun x s₁ hx => ?_) (fun v s₁ gs' hb hv => ?_)
    · obtain ⟨rfl, j, ys, hc', hC', hf, h', tk, rfl, hk⟩ := hx
      obtain rfl := hc'.uniq hcur
      obtain rfl := hCu _ _ _ hC' hC
      show wpAny _ A.in1 (newExc (.type "StopIteration") [] >>= _) _ _ _
      simp only [newExc, newTuple]
      refine wpAny_bind (wpAny_bind (wpAny_newObj_type ?_ (by size_fits)))
      refine wpAny_bind (m := firstArgMember _ _) (wpAny_of_eq (a := Value.none) rfl ?_)
      refine wpAny_newObj_type ?_ (by size_fits)
      simp only [raiseNew]
      refine wpAny_bind (wpAny_bind (wpAny_handled ?_))
      rw [show A.in1.handled = none from hh]
      refine wpAny_throw (wpAny_bind (wpAny_isInstance (T := "StopIteration") (b := true) ⟨_, Heap.get?_push_size _ rfl, rfl⟩ isSubtype_stop (wpAny_pure ?_)))
      show Q none ⟨_, (s.gens.setIfInBounds g _).setIfInBounds g _, _, _, _⟩
      rw [two]
      exact hE _ tk hf (hk.trans fun b o _ e => Heap.get?_push_of_some _ (Heap.get?_push_of_some _ e))
    · obtain ⟨j, ys, p, t, hc', hC', hf, rfl, ⟨h', tk, rfl, hk⟩, hc2, hkap⟩ := hv
      obtain rfl := hc'.uniq hcur
      obtain rfl := hCu _ _ _ hC' hC
      refine wpAny_pure ⟨_, rfl, wpAny_pure ?_⟩
      have := hY p t h' tk gs' hf hk hc2 hb ?_
      · simpa [Shared.setGen, two] using this
      · intro hpos s2 ys2 c2 C2
        obtain ⟨k', rfl⟩ : ∃ k', k = k' + 1 := ⟨k - 1, by omega⟩
        exact hkap (by omega) s2 ys2 c2 C2
end
end Aq

namespace Aq
section
variable {prog : Program} {w : World} {A : Around} {s : Shared} {base h₀ : Heap} {L a : Addr} {cd : Value} {mg mb : Str → Option Value} {m : Str → Option Value}
  {E : Value → Shared → Prop} {nv hv : Value}
theorem bind_findall {pm code doc : Value} (x y : Value) : bindArgs (docDef "_findall" (defAt P0 1).1 (defAt P0 1).2.1 (defAt P0 1).2.2 pm code doc) ⟨[x, y], []⟩ = (pure [(("haystack" : Str), x), (("needle" : Str), y)] : Sem (List (Str × Value))) := by
  with_unfolding_all rfl
theorem findall_nocell : ∀ x ∈ (defAt P0 1).2.2.names, x.2 ≠ .cell := by decide
theorem gen_make {f : Addr} {Q : Value → Shared → Prop} (hf : FnAt s.heap mg "_findall" (defAt P0 1) f) (hroom : A.depth < recursionLimit) (hlim : s.heap.NoLimit)
    (h : ∀ h' (ga : Nat) tk (L : Nat) cd, Fr s.heap L h' (fun x => List.lookup x [("needle", nv), ("haystack", hv)]) → h'.IsGen ga s.gens.size → s.heap.objs.size ≤ L → L < ga →
      Q (.ref ga) { s with heap := h', toks := tk, gens := s.gens.push (.fresh (.func genBody (genEnv L f cd))) }) :
    wpAny (model prog w) A (call (.ref f) [hv, nv]) Q E s := by
  obtain ⟨o, pm, code, doc, ho, hd, hcd⟩ := hf.o
  refine wpAny_call (codeAny_call_generator hroom ho hd rfl rfl rfl hcd ?_)
  rw [bind_findall]
  refine wpAny_pure (wpAny_newFunctionEnv findall_nocell (locs (by rfl)) (fun h₁ hns hsb => ⟨hlim.fresh _ hsb, ?_⟩) rfl)
  have k1 : ∀ b o, s.heap.get? b = some o → h₁.get? b = some o := fun b o e => hsb.extBut b o (Nat.ne_of_lt (Heap.lt_size e)) (Heap.get?_push_of_some _ e)
  have hL := hns.lt
  refine h _ h₁.objs.size _ s.heap.objs.size code ⟨hns.push _, fun b o e => Heap.get?_push_of_some _ (k1 b o e), Nat.le_refl _⟩ ⟨_, _, _, Heap.get?_push_size _ rfl, rfl, rfl, rfl⟩ (Nat.le_refl _) hL
end
end Aq

namespace Aq
section
variable {prog : Program} {w : World} {A : Around} {s : Shared} {base h₀ : Heap} {L a : Addr} {cd : Value} {mg mb : Str → Option Value} {m : Str → Option Value}
  {E : Value → Shared → Prop} {nv hv : Value}
theorem append_lst {D : Addr} {vs : List Value} {n : Nat} {v : Value} {Q : Value → Shared → Prop} (hD : s.heap.get? D = some (lst vs n)) (hz : vs.length ≤ 100000)
    (h : ∀ h', Heap.SameBut D s.heap h' → h'.get? D = some (lst (vs ++ [v]) (n + 1)) → Q .none { s with heap := h' }) : wpAny (model prog w) A (call (.builtin "list.append") [.ref D, v]) Q E s := by
  have hT : s.TypeIs (.ref D) "list" := ⟨_, hD, rfl⟩
  refine wpAny_call_entry slot_list_append hT entry_list_append ?_ (args_list_append _ _)
  show wpAny _ _ (updateSeq D (·.push v) >>= fun _ => ret .none) _ _ s
  refine wpAny_bind (wpAny_updateSeq (hz := by have := sizeLine_eq; simp; omega) hD rfl (wpAny_pure ⟨.none, rfl, h _ (Heap.SameBut.update ..) ?_⟩))
  rw [Heap.get?_update_self _ hD rfl]
  simp [Obj.mapSeq]

def FnThen (f : Addr) (h : Heap) (P : Prop) : Prop := (∃ o fd, h.get? f = some o ∧ o.data = .func fd) ∧ P
theorem callWith_f {M : Model} {pos : Pos} {f : Addr} {e : Expr} {rest : List Expr} {env : Env} {Q : Value → Shared → Prop}
    (h : wpAny M A (spliced (backTo pos (starEach (e :: rest) env))) (fun vs s₁ => FnThen f s₁.heap (wpAny M A (call (.ref f) vs) Q E s₁)) E s)
    (he : starEach (e :: rest) env = (false, eval e env) :: starEach rest env := by rfl) (hplain : (backTo pos (starEach rest env)).any (·.1) = false := by rfl) :
    wpAny M A (callWith pos (.ref f) [] (backTo pos (starEach (e :: rest) env)) []) Q E s := by
  rw [he] at h ⊢
  refine callWith_of (P := fun h => ∃ o fd, h.get? f = some o ∧ o.data = .func fd) (by show ((false || (backTo pos (starEach rest env)).any (·.1)) || false) = false; rw [hplain]; rfl) (fun h hp => ?_) (Calls.evalArgs_plain h)
  obtain ⟨o, fd, ho, hd⟩ := hp
  refine ⟨.frame, .inl rfl, (Looks.ld (part := none) ho).andThen ?_⟩
  rw [hd]
  exact .now
local macro_rules | `(tactic| walk_at "callWith ref") => `(tactic| refine callWith_f ?_)
local macro_rules | `(tactic| walk_at "eval Name") => `(tactic| first
  | refine ld (by assumption) (by assumption) ?_
  | refine nmF (by assumption) (by assumption) (by assumption) ?_
  | refine nmB (by assumption) (by assumption) bb_len ?_)
theorem isGen_at {a g Lg c d : Nat} {h1 h2 h3 h4 : Heap} (x : h1.IsGen a g) (k1 : Kp [Lg] h1 h2) (k2 : Heap.SameBut c h2 h3) (k3 : Heap.SameBut d h3 h4) (e1 : a ≠ Lg) (e2 : a ≠ c) (e3 : a ≠ d) : h4.IsGen a g :=
  let ⟨o, nm, qn, ho, r⟩ := x; ⟨o, nm, qn, k3.extBut _ _ e3 (k2.extBut _ _ e2 (k1 _ _ (by simpa using e1) ho)), r⟩
theorem places_body {xs ns : List Nat} {fid : String} {f : Addr} {Q : Flow → Shared → Prop} (S : FindSpec prog w hv nv ns fid (fun _ ys => ys = xs)) (W : Wd base mg mb) (hf : FnAt base mg "_findall" (defAt P0 1) f)
    (hroom : A.depth + 1 < recursionLimit) (hh : A.handled = none) (hz : xs.length ≤ 1000)
    (F : Fr base L s.heap (fun y => List.lookup y [(("needle" : Str), nv), ("hay", hv)]))
    (h : ∀ h' tk D vs n gs, Kp [] s.heap h' → h'.get? D = some (lst vs n) → s.heap.get? D = none → IntsAre vs (toZ (occ xs ns)) → gs.bare = true → Q (.ret (.ref D)) { s with heap := h', toks := tk, gens := s.gens.push gs }) :
    wpAny (model prog w) A (execs (defAt P0 5).2.1 (envOf "_law_places" (defAt P0 5).2.2 L a cd)) Q E s := by
  refine wpAny_execs_cons ?_
  walk1
  refine wpAny_ListComp (by decide) rfl (by decide) ?_
  repeat walk1
  refine ⟨?_, ?_⟩
  · obtain ⟨o, pm, code, doc, ho, hd, _⟩ := (hf.keeps F.keep).o
    exact ⟨o, _, ho, hd⟩
  refine gen_make (mg := mg) (hf.keeps F.keep) (by omega) (W.lim.keeps F.keep) fun h1 ga tk1 Lg cd1 F1 hg hLg hlt => ?_
  refine wpAny_pyIter_gen hg ?_
  refine wpAny_newObj_type ?_ (by size_fits)
  refine wpAny_newFunctionEnv (by decide) (by intro y hy; cases hy) (fun h2 hns2 hsb2 => ?_) rfl
  have k2 : ∀ b o, h1.get? b = some o → h2.get? b = some o := fun b o e => hsb2.extBut b o (by show b ≠ (h1.push _).objs.size; rw [Heap.size_push]; exact Nat.ne_of_lt (Nat.lt_succ_of_lt (Heap.lt_size e))) (Heap.get?_push_of_some _ (Heap.get?_push_of_some _ e))
  have hD : h2.get? h1.objs.size = some (lst [] 0) := hsb2.extBut _ _ (by show h1.objs.size ≠ (h1.push _).objs.size; rw [Heap.size_push]; omega) (Heap.get?_push_of_some _ (Heap.get?_push_size _ rfl))
  have hlg1 : ga < h1.objs.size := by obtain ⟨o, nm, qn, e, _⟩ := hg; exact Heap.lt_size e
  have hC1 : (h1.push { cls := .type "list", data := .seq ([] : List Value).toArray }).objs.size = h1.objs.size + 1 := Heap.size_push ..
  have hsz : s.heap.objs.size < h1.objs.size := by omega
  have hold : ∀ (b : Nat) o, s.heap.get? b = some o → b < s.heap.objs.size := fun b o e => Heap.lt_size e
  have two : ∀ (x y : GenState), (s.gens.push x).setIfInBounds s.gens.size y = s.gens.push y := fun x y => by apply Array.ext'; simp
  refine (fun loop => codeAny_compStart_list loop (wpAny_pyIter_gen (hg.keeps k2) loop)) ?_
  refine codeAny_compLoop_list (fun fu s' => ∃ h' tk gs i fs vs n mc, s' = { s with heap := h', toks := tk, gens := s.gens.push gs } ∧
      GLive prog w A.in1 s.heap Lg hv nv ns (fun _ ys => ys = xs) fu gs i ∧ Cur s.heap Lg hv nv ns h' i ∧ xs.length + 1 ≤ fu + i ∧ fs ++ occF xs ns fu i = occ xs ns ∧
      h'.get? h1.objs.size = some (lst vs n) ∧ IntsAre vs (toZ fs) ∧ fs.length ≤ i ∧ i ≤ xs.length ∧ h'.Ns (h1.objs.size + 1) mc ∧ h'.IsGen ga s.gens.size ∧ (∀ b o, s.heap.get? b = some o → h'.get? b = some o)) ?_ (xs.length + 1) ?_ 
  · rintro fu s' ⟨h', tk, gs, i, fs, vs, n, mc, rfl, hlive, hcur, hfi, hocc, hD', hI, hfl, hil, hns, hg', hk'⟩
    refine gen_next hh (W.lim.keeps fun b o e => hk' b o (F.keep b o e)) (by omega) hg' (by simp) hlive hcur rfl (fun _ a b e1 e2 => e1.trans e2.symm) (fun p t h3 tk3 gs3 hf3 K3 c3 hb3 hl3 => ?_) (fun h3 tk3 hf3 K3 => ?_)
    · obtain ⟨hp1, hp2, _, _, hnl⟩ := find_some hf3
      have hDLg : h1.objs.size ∉ [Lg] := by simp; omega
      have hCLg : h1.objs.size + 1 ∉ [Lg] := by simp; omega
      refine wpAny_assign_Name (wpAny_storeName_local (m := mc) rfl ?_ (fun h4 hn4 hs4 => ?_) rfl)
      · have := hns.at (h' := h3) fun o e => K3 _ o hCLg e
        rw [← hC1] at this; exact this
      refine wpAny_Name (wpAny_loadName_local rfl rfl hn4 rfl ?_) (by decide)
      have hs4' : Heap.SameBut (h1.objs.size + 1) h3 h4 := by rw [← hC1]; exact hs4
      have hvl : vs.length = fs.length := by rw [hI.length]; simp [toZ]
      refine append_lst (s := ⟨h4, _, _, _, _⟩) (D := h1.objs.size) (hs4'.extBut _ _ (Nat.ne_of_lt (Nat.lt_succ_self _)) (K3 _ _ hDLg hD')) (by omega) fun h5 hs5 hD5 => ⟨fu - 1, by omega, ?_⟩
      have hLg4 : Lg ≠ h1.objs.size + 1 := by omega
      have hLg5 : Lg ≠ h1.objs.size := by omega
      have kk : ∀ b o, s.heap.get? b = some o → h5.get? b = some o := fun b o e => by
        have hb := hold b o e
        exact hs5.extBut _ _ (Nat.ne_of_lt (by omega)) (hs4'.extBut _ _ (Nat.ne_of_lt (by omega)) (K3 _ _ (fun q => Nat.ne_of_lt (Nat.lt_of_lt_of_le hb hLg) (List.mem_singleton.mp q)) (hk' b o e)))
      obtain ⟨fu', rfl⟩ : ∃ k, fu = k + 1 := ⟨fu - 1, by omega⟩
      refine ⟨h5, tk3 + 1, gs3, p + ns.length, fs ++ [p], vs ++ [.int (p : Int) t], n + 1, (fun y => if y = "place" then some (.int (p : Int) t) else mc y), ?_, hl3 (by omega), ?_, by omega, ?_, hD5, ?_, by simp; omega, hp2, ?_, ?_, kk⟩
      · dsimp only; rw [two]
      · obtain ⟨m5, F5, a5, b5, c5⟩ := c3
        exact ⟨m5, ⟨(F5.ns.sameBut hs4' hLg4).sameBut hs5 hLg5, kk, F5.above⟩, a5, b5, c5⟩
      · rw [← hocc, List.append_assoc]
        congr 1
        simp only [occF, hf3]
        rfl
      · have : toZ (fs ++ [p]) = toZ fs ++ [(p : Int)] := by simp [toZ]
        rw [this]
        exact hI.append (.cons _ _ .nil)
      · have := hn4.sameBut hs5 (by rw [hC1]; exact Nat.succ_ne_self _)
        rw [hC1] at this; exact this
      · exact isGen_at hg' K3 hs4' hs5 (by omega) (by omega) (by omega)
    · have hCLg : h1.objs.size + 1 ∉ [Lg] := by simp; omega
      have hDLg : h1.objs.size ∉ [Lg] := by simp; omega
      refine ⟨mc, ?_, fun h4 hs4 => ?_⟩
      · have := hns.at (h' := h3) fun o e => K3 _ o hCLg e
        rw [← hC1] at this; exact this
      have hs4' : Heap.SameBut (h1.objs.size + 1) h3 h4 := by rw [← hC1]; exact hs4
      have efs : fs = occ xs ns := by
        rw [← hocc]
        cases fu with
        | zero => simp [occF]
        | succ k => simp [occF, hf3]
      have := h h4 tk3 h1.objs.size vs n .finished (fun b o _ e => ?_) (hs4'.extBut _ _ (Nat.ne_of_lt (Nat.lt_succ_self _)) (K3 _ _ hDLg hD')) ?_ (efs ▸ hI) rfl
      · dsimp only; rw [two]; exact this
      · have hb := hold b o e
        exact hs4'.extBut _ _ (Nat.ne_of_lt (by omega)) (K3 _ _ (fun q => Nat.ne_of_lt (Nat.lt_of_lt_of_le hb hLg) (List.mem_singleton.mp q)) (hk' b o e))
      · cases e : s.heap.get? h1.objs.size with
        | none => rfl
        | some o => have hb := hold _ o e; exact absurd hsz (Nat.not_lt.mpr (Nat.le_of_lt hb))
  · have hcur : Cur s.heap Lg hv nv ns h2 0 := ⟨fun x => List.lookup x [("needle", nv), ("haystack", hv)], ⟨F1.ns.at fun o e => k2 _ o e, fun b o e => k2 b o (F1.keep b o e), F1.above⟩, rfl, rfl, .inl ⟨rfl, rfl⟩⟩
    refine ⟨h2, _, _, 0, [], [], 0, fun _ => none, rfl, gen_fresh S (W.keeps F.keep) (fun _ _ _ e _ => e) _, hcur, by omega, rfl, hD, .nil, Nat.zero_le _, Nat.zero_le _, ?_, hg.keeps k2, fun b o e => k2 b o (F1.keep b o e)⟩
    have := hns2
    rw [show (h1.push { cls := .type "list", data := .seq ([] : List Value).toArray }).objs.size = h1.objs.size + 1 from hC1] at this
    exact this
end
end Aq

namespace Aq
section
variable {prog : Program} {w : World} {A : Around} {s : Shared} {base h₀ : Heap} {L a : Addr} {cd : Value} {mg mb : Str → Option Value} {m : Str → Option Value}
  {E : Value → Shared → Prop} {nv hv : Value}
theorem bind_places {pm code doc : Value} (x y : Value) : bindArgs (docDef "_law_places" (defAt P0 5).1 (defAt P0 5).2.1 (defAt P0 5).2.2 pm code doc) ⟨[x, y], []⟩ = (pure [(("hay" : Str), x), (("needle" : Str), y)] : Sem (List (Str × Value))) := by
  with_unfolding_all rfl
theorem places_nocell : ∀ x ∈ (defAt P0 5).2.2.names, x.2 ≠ .cell := by decide
theorem places_call {xs ns : List Nat} {fid : String} {f fp : Addr} {Q : Value → Shared → Prop} (S : FindSpec prog w hv nv ns fid (fun _ ys => ys = xs)) (W : Wd s.heap mg mb) (hf : FnAt s.heap mg "_findall" (defAt P0 1) f) (hp : FnAt s.heap mg "_law_places" (defAt P0 5) fp)
    (hroom : A.depth + 2 < recursionLimit) (hh : A.handled = none) (hz : xs.length ≤ 1000)
    (h : ∀ h' tk D vs n gs, Kp [] s.heap h' → h'.get? D = some (lst vs n) → s.heap.get? D = none → IntsAre vs (toZ (occ xs ns)) → gs.bare = true → Q (.ref D) { s with heap := h', toks := tk, gens := s.gens.push gs }) :
    wpAny (model prog w) A (call (.ref fp) [hv, nv]) Q E s := by
  obtain ⟨o, pm, code, doc, ho, hd, hcd⟩ := hp.o
  refine wpAny_call (call_plain_ret (by omega) ho hd W.lim hcd (bind_places _ _) (locs (by rfl)) (fun h₁ F => ?_) rfl rfl rfl places_nocell)
  refine places_body S W hf (by show A.depth + 1 + 1 < _; omega) hh hz F fun h' tk D vs n gs k hD hDn hI hb => ?_
  refine h h' tk D vs n gs (fun b o hb' e => k b o hb' (F.keep b o e)) hD ?_ hI hb
  cases e : s.heap.get? D with
  | none => rfl
  | some o => rw [F.keep _ _ e] at hDn; cases hDn
end
end Aq

namespace Aq
namespace B
theorem slot_bytes_find : Slot "bytes" "find" "bytes.find" :=
  .of (owner := "bytes") (n := "find") (by rw [typeLookup_type, builtinLookup_eq_fast]; kernel_rfl) (by decide +kernel) (by decide +kernel) (by decide +kernel)
    (by first | exact .inl (by decide +kernel) | exact .inr (by decide +kernel)) (by rw [isSubtype_type]; kernel_rfl)
theorem entry_bytes_find : entryFor table "bytes.find" = some Builtin.«bytes.find» := by first | exact entryFor_of_fast (by kernel_rfl) | exact entryFor_of_tree (by kernel_rfl)
theorem args_bytes_find (a b c : Value) : argsOk "bytes.find" ⟨[a, b, c], []⟩ := by unfold argsOk; kernel_rfl
theorem ga_bytes : typeLookup (.type "bytes") "__getattribute__" = pure (some (.builtin "bytes.__getattribute__")) := by rw [typeLookup_type, builtinLookup_eq_fast]; kernel_rfl
theorem canon_bytes : (Manifest.canonical "bytes.__getattribute__" != "object.__getattribute__") = false := by decide +kernel
theorem gn_bytes : typeLookup (.type "bytes") "__getattr__" = pure none := by rw [typeLookup_type, builtinLookup_eq_fast]; kernel_rfl
theorem type_bytes_find : typeOf (.builtin "bytes.find") = pure (.type "method_descriptor") := by show builtinType _ = _; rw [builtinType_eq_fast]; kernel_rfl
theorem look_by_buffer : typeLookup (.type "bytes") "__buffer__" = pure (some (.builtin "bytes.__buffer__")) := by rw [typeLookup_type, builtinLookup_eq_fast]; kernel_rfl
theorem look_by_release : typeLookup (.type "bytes") "__release_buffer__" = pure none := by rw [typeLookup_type, builtinLookup_eq_fast]; kernel_rfl
theorem look_int_index : typeLookup (.type "int") "__index__" = pure (some (.builtin "int.__index__")) := by rw [typeLookup_type, builtinLookup_eq_fast]; kernel_rfl
theorem sub_by_by : isSubtype (.type "bytes") (.type "bytes") = pure true := by rw [isSubtype_type]; kernel_rfl
end B
end Aq

namespace Aq
/-- a text of these signs -/
def T (l : List Nat) : Str := ⟨l.toArray⟩
theorem T_length (l : List Nat) : (T l).length = l.length := by simp [T, Str.length]
theorem hit_iff {xs ns : List Nat} {q : Nat} : hit xs ns q ↔ (xs.drop q).take ns.length = ns := by
  unfold hit
  rw [List.prefix_iff_eq_take]
  exact eq_comm
theorem at_iff {xs ns : List Nat} {q : Nat} (hne : ns ≠ []) : StrLaws.At (T xs) (T ns) (T xs).length q ↔ hit xs ns q := by
  unfold StrLaws.At
  rw [StrLaws.subAt_eq, T_length, T_length, beq_iff_eq, hit_iff]
  show q + ns.length ≤ xs.length ∧ List.take ns.length (List.drop q xs) = ns ↔ _
  constructor
  · exact fun h => h.2
  · exact fun h => ⟨hit_len hne (hit_iff.mpr h), h⟩
theorem find3_eq {xs ns : List Nat} {i : Nat} (hne : ns ≠ []) : Txt.find3 (T xs) (T ns) (i : Int) = findI xs ns i := by
  have e : fromIndex (T xs).length (i : Int) = i := by unfold fromIndex; split <;> omega
  unfold Txt.find3 findI
  rw [e]
  rcases StrLaws.occ_head_from (T xs) (T ns) i 1 (Nat.le_refl _) with ⟨h0, hn⟩ | ⟨p, r, h0, h1, h2, h3⟩
  · rw [h0, find_no fun q hq h => hn q hq ((at_iff hne).mpr h)]
  · rw [h0, find_is hne h1 ((at_iff hne).mp h2) fun q h1 h2 h => h3 q h1 h2 ((at_iff hne).mpr h)]
section
variable {prog : Program} {w : World} {A : Around} {s : Shared} {E : Value → Shared → Prop}
theorem find_str {xs ns : List Nat} {t t' : Tok} (hz : ns.length ≤ 100000) : FindSpec prog w (.str (T xs) t) (.str (T ns) t') ns "str.find" (fun _ ys => ys = xs) where
  meth := by
    intro A E s Q pl ys _ h
    walk1
    exact h
  call := by
    intro A E s Q ys i u hne e h
    subst e
    walk1
    rw [find3_eq hne]
    exact h _ _
  len := by
    intro A E s Q h
    refine len_str (by rw [T_length]; omega) ?_
    rw [T_length]
    exact h _ _
  truth := by
    intro A E s Q h
    refine P.truthy_str (by rw [T_length]; omega) ?_
    rw [T_length]
    have e : (((ns.length : Nat) : Int) != 0) = !ns.isEmpty := by cases ns with | nil => rfl | cons a l => simp; omega
    rw [e]
    exact h _
theorem e_by1 : (!"bytes.__buffer__".endsWith ("." ++ "__buffer__")) = false := by decide +kernel
theorem e_by2 : "bytes.__buffer__".dropRight ("__buffer__".length + 1) = "bytes" := by decide +kernel
theorem wpAny_ite_false' {M : Model} {α : Type} {c : Bool} {a b : Sem α} {Q : α → Shared → Prop} (hc : c = false) (h : wpAny M A b Q E s) : wpAny M A (if c = true then a else b) Q E s := by subst hc; exact h
theorem buffer_bytes {M : Model} {id : String} {b : Array UInt8} {t : Tok} {full : Bool} {Q : Option (Array UInt8) → Shared → Prop} (h : Q (some b) s) : wpAny M A (Builtin.Bytes.buffer? id (.bytes b t) full) Q E s := by
  have f2 := B.look_by_buffer
  have f3 := B.look_by_release
  have f4 := B.sub_by_by
  have e1 := e_by1
  have hT : s.TypeIs (.bytes b t) "bytes" := by show typeOf _ = _; rfl
  unfold Builtin.Bytes.buffer?
  wp_walk
  refine wpAny_ite_false' e_by1 ?_
  rw [e_by2]
  wp_walk
  exact h
end
/-- the octets of these signs -/
def By (xs : List Nat) : Array UInt8 := byteArr (toZ xs)
theorem By_toList (xs : List Nat) : (By xs).toList = xs.map fun x => x.toUInt8 := by simp [By, byteArr, toZ]
theorem By_size (xs : List Nat) : (By xs).size = xs.length := by simp [By, byteArr, toZ]
theorem octs_inj : ∀ {xs ys : List Nat}, (∀ x ∈ xs, x < 256) → (∀ x ∈ ys, x < 256) → (xs.map fun x => x.toUInt8) = (ys.map fun x => x.toUInt8) → xs = ys := by
  intro xs ys hx hy h
  have back : ∀ {l : List Nat}, (∀ x ∈ l, x < 256) → (l.map fun x => x.toUInt8).map UInt8.toNat = l := by
    intro l hl
    rw [List.map_map]
    conv => rhs; rw [← List.map_id l]
    apply List.map_congr_left
    intro a ha
    have := hl a ha
    simp [Nat.toUInt8]
    omega
  rw [← back hx, ← back hy, h]
theorem By_at {xs ns : List Nat} (hx : ∀ x ∈ xs, x < 256) (hn : ∀ x ∈ ns, x < 256) {j : Nat} : ((By xs).extract j (j + (By ns).size) == By ns) = true ↔ hit xs ns j := by
  rw [beq_iff_eq, ← Array.toList_inj, Array.toList_extract, By_toList, By_toList, By_size, List.extract_eq_take_drop, Nat.add_sub_cancel_left, hit_iff, ← List.map_drop, ← List.map_take]
  constructor
  · exact octs_inj (fun x hx' => hx x (List.mem_of_mem_drop (List.mem_of_mem_take hx'))) hn
  · exact fun e => by rw [e]
theorem bfind_eq {xs ns : List Nat} (hx : ∀ x ∈ xs, x < 256) (hn : ∀ x ∈ ns, x < 256) (hne : ns ≠ []) {i : Nat} (hi : i + ns.length ≤ xs.length) :
    Builtin.Bytes.find? (By xs) (By ns) i xs.length = find xs ns i := by
  unfold Builtin.Bytes.find?
  rw [By_size]
  cases h : List.find? (fun j => (By xs).extract j (j + ns.length) == By ns) (List.map (fun x => x + i) (List.range (xs.length + 1 - (i + ns.length)))) with
  | none =>
    rw [find_no]
    intro q hq e
    have hl := hit_len hne e
    rw [List.find?_eq_none] at h
    refine h q (List.mem_map.mpr ⟨q - i, List.mem_range.mpr (by omega), by omega⟩) ?_
    have := (By_at hx hn).mpr e
    rw [By_size] at this
    exact this
  | some p =>
    rw [List.find?_eq_some_iff_append] at h
    obtain ⟨h1, as, bs, h2, h3⟩ := h
    have hp : p ∈ List.map (fun x => x + i) (List.range (xs.length + 1 - (i + ns.length))) := by rw [h2]; simp
    obtain ⟨k, hk, rfl⟩ := List.mem_map.mp hp
    have hat : hit xs ns (k + i) := (By_at hx hn).mp (by rw [By_size]; exact h1)
    rw [find_is hne (Nat.le_add_left _ _) hat]
    intro q hq1 hq2 e
    have : q ∈ as := by
      have hk' := List.mem_range.mp hk
      have el : as.length = k := by
        have e1 : (List.map (fun x => x + i) (List.range (xs.length + 1 - (i + ns.length))))[as.length]? = some (k + i) := by rw [h2]; simp
        rw [List.getElem?_map] at e1
        cases e2 : (List.range (xs.length + 1 - (i + ns.length)))[as.length]? with
        | none => rw [e2] at e1; cases e1
        | some z =>
          rw [e2] at e1
          have : z + i = k + i := by simpa using e1
          have e3 := List.getElem?_eq_some_iff.mp e2
          obtain ⟨l1, l2⟩ := e3
          rw [List.getElem_range] at l2
          omega
      have e1 : (List.map (fun x => x + i) (List.range (xs.length + 1 - (i + ns.length))))[q - i]? = some q := by
        rw [List.getElem?_map, List.getElem?_range (by omega)]
        simp; omega
      rw [h2, List.getElem?_append_left (by omega)] at e1
      exact List.mem_of_getElem? e1
    have h4 := h3 q this
    have := (By_at hx hn).mpr e
    rw [By_size] at this
    rw [this] at h4
    cases h4
section
variable {prog : Program} {w : World} {A : Around} {s : Shared} {E : Value → Shared → Prop}
theorem bytes_find_meets {xs ns : List Nat} (hx : ∀ x ∈ xs, x < 256) (hn : ∀ x ∈ ns, x < 256) (hne : ns ≠ []) (t t' : Tok) (i : Nat) (u : Tok) :
    Meets (Builtin.«bytes.find» ⟨[.bytes (By xs) t, .bytes (By ns) t', .int (i : Int) u], []⟩) (fun _ R s => ∀ tk tk', R (.ok (.ret (.int (findI xs ns i) tk'))) { s with toks := tk }) := .of_wp fun prog w A R s h => by
  obtain ⟨hp, g, d, tk, os⟩ := s
  have f1 := B.look_int_index
  unfold Builtin.«bytes.find» Builtin.Bytes.searchM Builtin.Bytes.searchArgs
  repeat (first | (refine buffer_bytes (b := By ns) (t := t') ?_) | wp_step)
  have hw : Builtin.Bytes.window (By xs).size (some (i : Int)) none = ((i : Int), (xs.length : Int)) := by
    unfold Builtin.Bytes.window
    rw [By_size]
    simp
    omega
  rw [hw, By_size ns]
  dsimp only
  have ho : ((if (xs.length : Int) - (i : Int) < (ns.length : Int) then none else some ((i : Int).toNat, (xs.length : Int).toNat)).bind
    fun (x : Nat × Nat) => match x with | (lo, hi) => if false = true then Builtin.Bytes.rfind? (By xs) (By ns) lo hi else Builtin.Bytes.find? (By xs) (By ns) lo hi) = find xs ns i := by
    split
    · rw [find_no]
      · rfl
      · intro q hq e
        have := hit_len hne e
        omega
    · show Builtin.Bytes.find? (By xs) (By ns) (i : Int).toNat (xs.length : Int).toNat = _
      rw [Int.toNat_natCast, Int.toNat_natCast]
      exact bfind_eq hx hn hne (by omega)
  unfold findI at h
  split
  · rename_i j e
    rw [ho] at e
    rw [e] at h
    wp_walk
    exact ⟨_, rfl, h _ _⟩
  · rename_i e
    rw [ho] at e
    rw [e] at h
    wp_walk
    exact ⟨_, rfl, h _ _⟩
end
end Aq

namespace Aq
section
variable {prog : Program} {w : World} {A : Around} {s : Shared} {E : Value → Shared → Prop}
theorem getMethod_bytes {M : Model} {b : Array UInt8} {t : Tok} {pl : Sem Bool} {Q : Value × List Value → Shared → Prop} (h : Q (.builtin "bytes.find", [.bytes b t]) s) : wpAny M A (getMethod (.bytes b t) "find" pl) Q E s := by
  have hT : s.TypeIs (.bytes b t) "bytes" := by show typeOf _ = _; rfl
  unfold getMethod
  refine wpAny_bind (wpAny_specialOf hT B.ga_bytes ?_)
  show wpAny M A (if (Manifest.canonical "bytes.__getattribute__" != "object.__getattribute__") = true then _ else _) Q E s
  rw [B.canon_bytes, if_neg Bool.false_ne_true]
  refine wpAny_bind (wpAny_specialOf hT B.gn_bytes ?_)
  refine wpAny_bind (wpAny_specialOf hT B.slot_bytes_find.lookup ?_)
  refine wpAny_bind (wpAny_of_eq B.type_bytes_find ?_)
  exact wpAny_bind (wpAny_rule (wpAny_pure h))
theorem find_bytes {xs ns : List Nat} {t t' : Tok} (hx : ∀ x ∈ xs, x < 256) (hn : ∀ x ∈ ns, x < 256) (hz : ns.length ≤ 100000) : FindSpec prog w (.bytes (By xs) t) (.bytes (By ns) t') ns "bytes.find" (fun _ ys => ys = xs) where
  meth := fun _ h => getMethod_bytes h
  call := by
    intro A E s Q ys i u hne e h
    subst e
    exact call_meets B.slot_bytes_find (by show typeOf _ = _; rfl) B.entry_bytes_find (B.args_bytes_find _ _ _) (bytes_find_meets hx hn hne t t' i u) fun tk tk' => h tk' tk
  len := by
    intro A E s Q h
    refine len_bytes (by rw [By_size]; omega) ?_
    rw [By_size]
    exact h _ _
  truth := by
    intro A E s Q h
    refine truthy_bytes (by rw [By_size]; omega) ?_
    rw [By_size]
    have e : (((ns.length : Nat) : Int) != 0) = !ns.isEmpty := by cases ns with | nil => rfl | cons a l => simp; omega
    rw [e]
    exact h _
end
end Aq

namespace Aq
def StepP (base : Heap) (L : Addr) (s : Shared) (news : List (Addr × Obj)) (J : (Str → Option Value) → Array GenState → Prop) (Q : Flow → Shared → Prop) (f : Flow) (s' : Shared) : Prop := match f with
  | .next | .cont => ∃ h g tk m, s' = ⟨h, g, s.drawn, tk, s.os⟩ ∧ Fr base L h m ∧ News base L h news ∧ J m g
  | .brk => Q .next s'
  | .ret v => Q (.ret v) s'
theorem stepNext {base : Heap} {L : Addr} {s : Shared} {news : List (Addr × Obj)} {J : (Str → Option Value) → Array GenState → Prop} {Q : Flow → Shared → Prop} {h : Heap} {g : Array GenState} {tk : Nat} {m : Str → Option Value}
    (F : Fr base L h m) (N : News base L h news) (hJ : J m g) : StepP base L s news J Q .next ⟨h, g, s.drawn, tk, s.os⟩ := ⟨h, g, tk, m, rfl, F, N, hJ⟩
section
variable {prog : Program} {w : World} {A : Around} {s : Shared} {base : Heap} {env : Env} {m : Str → Option Value} {E : Value → Shared → Prop}
theorem fr_same {L a : Addr} {h h' : Heap} (F : Fr base L h m) (hs : Heap.SameBut a h h') (hL : L ≠ a) (hb : base.get? a = none) : Fr base L h' m :=
  ⟨F.ns.sameBut hs hL, fun b o e => hs.extBut b o (fun q => by rw [q, hb] at e; cases e) (F.keep b o e), F.above⟩
theorem fr_ext {L a : Addr} {h h' : Heap} (F : Fr base L h m) (hs : Heap.ExtBut a h h') (hL : L ≠ a) (hb : base.get? a = none) : Fr base L h' m :=
  ⟨F.ns.extBut hs hL, fun b o e => hs b o (fun q => by rw [q, hb] at e; cases e) (F.keep b o e), F.above⟩
theorem news_ext {L a : Addr} {h h' : Heap} {news : List (Addr × Obj)} (N : News base L h news) (hs : ∀ b o, b ≠ a → h.get? b = some o → h'.get? b = some o) (ha : ∀ p ∈ news, p.1 ≠ a) : News base L h' news :=
  fun p hp => ⟨hs _ _ (ha p hp) (N p hp).1, (N p hp).2⟩
theorem news_tail {L : Addr} {h : Heap} {p : Addr × Obj} {news : List (Addr × Obj)} (N : News base L h (p :: news)) : News base L h news := fun q hq => N q (.tail _ hq)
theorem base_lt {L a : Addr} {h : Heap} (F : Fr base L h m) (ha : h.objs.size ≤ a) : base.get? a = none := by
  cases e : base.get? a with
  | none => rfl
  | some o => exact absurd (Heap.lt_size (F.keep _ _ e)) (Nat.not_lt.mpr ha)

theorem forList {x : Str} {px : Pos} {body : List Stmt} {l : Addr} {vs : List Value} {k : Nat} {news : List (Addr × Obj)} {Q : Flow → Shared → Prop}
    (hh : A.handled = none) (hx : env.kindOf x = some .local) (hp : (env.scope.kind == .class || (env.scope.kind == .module && env.locals != env.globals)) = false)
    (F : Fr base env.locals s.heap m) (N : News base env.locals s.heap news) (hl : base.get? l = some (lst vs k) ∨ (l, lst vs k) ∈ news)
    (J : Nat → (Str → Option Value) → Array GenState → Prop) (h0 : J 0 m s.gens)
    (step : ∀ E' i v m₁ h g tk it io, vs[i]? = some v → J i m₁ g → Fr base env.locals h (fun y => if y = x then some v else m₁ y) → News base env.locals h ((it, io) :: news) →
      wpAny (model prog w) A (execs body env) (StepP base env.locals s ((it, io) :: news) (J (i + 1)) Q) E' ⟨h, g, s.drawn, tk, s.os⟩)
    (done : ∀ h g tk m', Fr base env.locals h m' → News base env.locals h news → J vs.length m' g → Q .next ⟨h, g, s.drawn, tk, s.os⟩) :
    wpAny (model prog w) A (pyIter (.ref l)) (fun it s₂ => codeAny (model prog w) A (.forLoop (.Name x px) it body [] env) (fun r s' => match r with | .ok f => Q f s' | .error e => cameBackBy (model prog w) A env E e s') s₂) E s := by
  have hls : ∀ h m', Fr base env.locals h m' → News base env.locals h news → h.IsList l vs.toArray := fun h m' F' N' => by
    rcases hl with e | e
    · exact lst_isList (F'.keep _ _ e)
    · exact lst_isList (N' _ e).1
  have hit0 : ∀ h m' , Fr base env.locals h m' → News base env.locals h news → ∀ it, h.objs.size ≤ it → env.locals ≠ it ∧ base.get? it = none ∧ l ≠ it ∧ ∀ p ∈ news, p.1 ≠ it := fun h m' F' N' it hi => by
    refine ⟨?_, base_lt F' hi, ?_, fun p hp' => ?_⟩
    · have := F'.ns.lt; exact Nat.ne_of_lt (Nat.lt_of_lt_of_le this hi)
    · obtain ⟨o, ho, _⟩ := hls h m' F' N'; exact Nat.ne_of_lt (Nat.lt_of_lt_of_le (Heap.lt_size ho) hi)
    · exact Nat.ne_of_lt (Nat.lt_of_lt_of_le (Heap.lt_size (N' p hp').1) hi)
  refine wpAny_pyIter_list (hls _ _ F N) ?_
  obtain ⟨hI1, hI2, hI3, hI4⟩ := hit0 _ _ F N _ (Nat.le_refl _)
  generalize hIe : s.heap.objs.size = I at *
  refine codeAny_forLoop (fun n s' => ∃ h g tk m' i, s' = ⟨h, g, s.drawn, tk, s.os⟩ ∧ h.IsListIter I l i ∧ Fr base env.locals h m' ∧ News base env.locals h news ∧ J i m' g ∧ i ≤ vs.length ∧ n = vs.length + 1 - i) ?_ (vs.length + 1)
    ⟨_, s.gens, s.toks, m, 0, rfl, ⟨_, by rw [← hIe]; exact Heap.get?_push_size _ rfl, rfl, rfl⟩, F.push _, News.pushKeep N _, h0, Nat.zero_le _, rfl⟩
  rintro n s' ⟨h, g, tk, m', i, rfl, hit, F', N', hJ, hi, rfl⟩
  by_cases hlt : i < vs.length
  · obtain ⟨v, hv⟩ : ∃ v, vs[i]? = some v := ⟨vs[i], List.getElem?_eq_getElem hlt⟩
    refine wpAny_pyNext_list_item hit (hls _ _ F' N') (x := v) (by simpa using hv) fun h₁ hit₁ hs₁ => ?_
    have F1 := fr_same F' hs₁ hI1 hI2
    have N1 := news_ext N' (fun b o n e => hs₁.extBut b o n e) hI4
    refine wpAny_assign_Name (wpAny_storeName_local hx F1.ns (fun h₂ hn₂ hs₂ => ?_) hp)
    have F2 := F1.set hn₂ hs₂
    obtain ⟨io, hio, hd⟩ := hit₁
    have N2 : News base env.locals h₂ ((I, io) :: news) := fun p hp' => by
      rcases List.mem_cons.mp hp' with rfl | hp'
      · exact ⟨hs₂.extBut _ _ (Ne.symm hI1) hio, Ne.symm hI1, hI2⟩
      · exact (N1.set hs₂) p hp'
    refine wpAny_mono (step _ i v m' h₂ g (tk + 1) I io hv hJ F2 N2) (fun f s₃ h₃ => ?_) fun _ _ e => e
    cases f with
    | ret v => exact h₃
    | brk => exact h₃
    | cont =>
      obtain ⟨h3, g3, tk3, m3, rfl, F3, N3, J3⟩ := h₃
      exact ⟨vs.length + 1 - (i + 1), by omega, h3, g3, tk3, m3, i + 1, rfl, ⟨io, (N3 _ (.head _)).1, hd⟩, F3, news_tail N3, J3, hlt, rfl⟩
    | next =>
      obtain ⟨h3, g3, tk3, m3, rfl, F3, N3, J3⟩ := h₃
      exact ⟨vs.length + 1 - (i + 1), by omega, h3, g3, tk3, m3, i + 1, rfl, ⟨io, (N3 _ (.head _)).1, hd⟩, F3, news_tail N3, J3, hlt, rfl⟩
  · have : i = vs.length := by omega
    subst this
    refine wpAny_pyNext_list_end hh hit (hls _ _ F' N') (by simp) fun h₁ hs₁ => wpAny_execs_nil ?_
    exact done h₁ g tk m' (fr_ext F' hs₁ hI1 hI2) (news_ext N' (fun b o n e => hs₁ b o n e) hI4) hJ

theorem forRange {x : Str} {px : Pos} {body : List Stmt} {r : Addr} {a b : Int} {n : Nat} {t u v : Tok} {news : List (Addr × Obj)} {Q : Flow → Shared → Prop}
    (hh : A.handled = none) (hx : env.kindOf x = some .local) (hp : (env.scope.kind == .class || (env.scope.kind == .module && env.locals != env.globals)) = false)
    (F : Fr base env.locals s.heap m) (N : News base env.locals s.heap news) (hr : IsRange s.heap r a b 1 t u v) (hsm : Builtin.Range.small a b 1 = true) (hn : Builtin.Range.rangeSize a b 1 = (n : Int))
    (J : Nat → (Str → Option Value) → Array GenState → Prop) (h0 : J 0 m s.gens)
    (step : ∀ E' i m₁ h g tk tv it io, i < n → J i m₁ g → Fr base env.locals h (fun y => if y = x then some (.int (a + (i : Int)) tv) else m₁ y) → News base env.locals h ((it, io) :: news) →
      wpAny (model prog w) A (execs body env) (StepP base env.locals s ((it, io) :: news) (J (i + 1)) Q) E' ⟨h, g, s.drawn, tk, s.os⟩)
    (done : ∀ h g tk m', Fr base env.locals h m' → News base env.locals h news → J n m' g → Q .next ⟨h, g, s.drawn, tk, s.os⟩) :
    wpAny (model prog w) A (pyIter (.ref r)) (fun it s₂ => codeAny (model prog w) A (.forLoop (.Name x px) it body [] env) (fun r s' => match r with | .ok f => Q f s' | .error e => cameBackBy (model prog w) A env E e s') s₂) E s := by
  have hit0 : ∀ h m' , Fr base env.locals h m' → News base env.locals h news → ∀ it, h.objs.size ≤ it → env.locals ≠ it ∧ base.get? it = none ∧ ∀ p ∈ news, p.1 ≠ it := fun h m' F' N' it hi => by
    refine ⟨?_, base_lt F' hi, fun p hp' => ?_⟩
    · have := F'.ns.lt; exact Nat.ne_of_lt (Nat.lt_of_lt_of_le this hi)
    · exact Nat.ne_of_lt (Nat.lt_of_lt_of_le (Heap.lt_size (N' p hp').1) hi)
  refine wpAny_pyIter_range hr hsm ?_
  obtain ⟨hI1, hI2, hI4⟩ := hit0 _ _ F N _ (Nat.le_refl _)
  generalize hIe : s.heap.objs.size = I at *
  rw [hn]
  refine codeAny_forLoop (fun k s' => ∃ h g tk m' i, s' = ⟨h, g, s.drawn, tk, s.os⟩ ∧ IsRangeIter h I (a + (i : Nat) * 1) ((n : Int) - (i : Nat)) 1 ∧ Fr base env.locals h m' ∧ News base env.locals h news ∧ J i m' g ∧ i ≤ n ∧ k = n + 1 - i) ?_ (n + 1)
    ⟨_, s.gens, s.toks, m, 0, rfl, by rw [← hIe]; simpa using Heap.get?_push_size _ rfl, F.push _, News.pushKeep N _, h0, Nat.zero_le _, rfl⟩
  rintro k s' ⟨h, g, tk, m', i, rfl, hit, F', N', hJ, hi, rfl⟩
  by_cases hlt : i < n
  · refine wpAny_pyNext_range_item hit (by omega) fun h₁ hit₁ hs₁ => ?_
    have F1 := fr_same F' hs₁ hI1 hI2
    have N1 := news_ext N' (fun b o n e => hs₁.extBut b o n e) hI4
    refine wpAny_assign_Name (wpAny_storeName_local hx F1.ns (fun h₂ hn₂ hs₂ => ?_) hp)
    have F2 := F1.set hn₂ hs₂
    have N2 := fun io hio => (show News base env.locals h₂ ((I, io) :: news) from fun p hp' => by
      rcases List.mem_cons.mp hp' with rfl | hp'
      · exact ⟨hs₂.extBut _ _ (Ne.symm hI1) hio, Ne.symm hI1, hI2⟩
      · exact (N1.set hs₂) p hp')
    replace N2 := N2 _ hit₁
    rw [Int.mul_one] at F2
    have e1 : a + ((i : Nat) : Int) * 1 + 1 = a + ((i + 1 : Nat) : Int) * 1 := by push_cast; omega
    have e2 : (n : Int) - (i : Int) - 1 = (n : Int) - ((i + 1 : Nat) : Int) := by push_cast; omega
    rw [e1, e2] at N2
    refine wpAny_mono (step _ i m' h₂ g _ _ I _ hlt hJ F2 N2) (fun f s₃ h₃ => ?_) fun _ _ e => e
    cases f with
    | ret v => exact h₃
    | brk => exact h₃
    | cont =>
      obtain ⟨h3, g3, tk3, m3, rfl, F3, N3, J3⟩ := h₃
      exact ⟨n + 1 - (i + 1), by omega, h3, g3, tk3, m3, i + 1, rfl, (N3 _ (.head _)).1, F3, news_tail N3, J3, hlt, rfl⟩
    | next =>
      obtain ⟨h3, g3, tk3, m3, rfl, F3, N3, J3⟩ := h₃
      exact ⟨n + 1 - (i + 1), by omega, h3, g3, tk3, m3, i + 1, rfl, (N3 _ (.head _)).1, F3, news_tail N3, J3, hlt, rfl⟩
  · have : i = n := by omega
    subst this
    refine wpAny_pyNext_range_end hh hit (by omega) fun h₁ hs₁ => wpAny_execs_nil ?_
    exact done h₁ g tk m' (fr_ext F' hs₁ hI1 hI2) (news_ext N' (fun b o n e => hs₁ b o n e) hI4) hJ
end
end Aq

namespace Aq
open Builtin Builtin.Str
local macro_rules | `(tactic| walk_at "callWith ref") => `(tactic| refine callWith_f ?_)
local macro_rules | `(tactic| walk_at "exec For") => `(tactic| refine wpAny_For ?_)
local macro_rules | `(tactic| walk_at "eval Name") => `(tactic| first
  | refine ld (by assumption) (by first | assumption | rfl) ?_
  | refine nmF (by assumption) (by assumption) (by assumption) ?_
  | refine nmB (by assumption) (by assumption) bb_len ?_
  | refine nmB (by assumption) (by assumption) bb_range ?_)
local macro_rules | `(tactic| walk_at "ite") => `(tactic| first
  | refine iteT (by first | assumption | (simp only [decide_eq_true_eq, beq_iff_eq, gt_iff_lt, ge_iff_le]; omega)) ?_
  | refine iteF (by first | assumption | (simp only [decide_eq_true_eq, beq_iff_eq, gt_iff_lt, ge_iff_le]; omega)) ?_)
theorem slice_T {xs : List Nat} {i j : Nat} (hi : i ≤ xs.length) (hij : i ≤ j) : Txt.slice (T xs) (some (i : Int)) (some (j : Int)) = T ((xs.drop i).take (j - i)) := by
  have hT := T_length xs
  have e : Txt.slice (T xs) (some (i : Int)) (some (j : Int)) = Txt.slice (T xs) (some (i : Int)) (some ((min j xs.length : Nat) : Int)) := by
    have : strSliceIndices (some (i : Int)) (some (j : Int)) 1 (T xs).length = strSliceIndices (some (i : Int)) (some ((min j xs.length : Nat) : Int)) 1 (T xs).length := by
      rw [hT]
      have h1 : ¬ ((j : Int) < 0) := by omega
      have h2 : ¬ (((min j xs.length : Nat) : Int) < 0) := by omega
      have h3 : min (j : Int) (xs.length : Int) = ((min j xs.length : Nat) : Int) := by omega
      have h4 : min ((min j xs.length : Nat) : Int) (xs.length : Int) = ((min j xs.length : Nat) : Int) := by omega
      simp only [strSliceIndices, h1, h2, if_false, if_true, h3, h4, gt_iff_lt, Int.zero_lt_one]
    unfold Txt.slice
    rw [this]
  rw [e]
  refine (StrLaws.sliceText_nat (T xs) (a := i) (b := min j xs.length) (by omega) (by rw [hT]; omega)).trans ?_
  show T _ = T _
  congr 1
  show List.take _ (List.drop i xs) = _
  by_cases h : j ≤ xs.length
  · rw [Nat.min_eq_left h]
  · rw [Nat.min_eq_right (by omega), List.take_of_length_le (by rw [List.length_drop]; omega), List.take_of_length_le (by rw [List.length_drop]; omega)]
theorem T_inj {a b : List Nat} : T a = T b ↔ a = b := by
  constructor
  · intro h
    have := congrArg (fun (x : Str) => x.cps.toList) h
    simpa [T] using this
  · rintro rfl; rfl
theorem slice_hit {xs ns : List Nat} {q : Nat} {a b : Int} (ha : a = (q : Int)) (hb : b = (q : Int) + (T ns).length) (hq : q ≤ xs.length) : (Txt.slice (T xs) (some a) (some b) == T ns) = true ↔ hit xs ns q := by
  subst ha
  have e : b = ((q + ns.length : Nat) : Int) := by rw [hb, T_length]; omega
  subst e
  rw [slice_T hq (by omega), beq_iff_eq, T_inj, hit_iff, Nat.add_sub_cancel_left]
/-- the turn of the reader's law at the place p, from st on -/
def Turn (xs ns : List Nat) (st p : Nat) : Prop := st ≤ p ∧ p ≤ xs.length ∧ (∀ q, st ≤ q → q < p → ¬ hit xs ns q) ∧ (p < xs.length → hit xs ns p)
section
variable {prog : Program} {w : World} {A : Around} {s : Shared} {base : Heap} {L a : Addr} {cd : Value} {mg mb : Str → Option Value} {E : Value → Shared → Prop}
def standsLoop : List Stmt := match (defAt P0 3).2.1.getD 1 default with
  | .For _ _ b _ _ => b
  | _ => []
theorem stands_turn {xs ns : List Nat} {t t' : Tok} {news : List (Addr × Obj)} {m : Str → Option Value} {st p : Nat} {t1 t2 : Tok} {Q : Flow → Shared → Prop} (hne : ns ≠ []) (hc : Turn xs ns st p) (W : Wd base mg mb) (hh : A.handled = none)
    (hzx : xs.length ≤ 1000) (hzn : ns.length ≤ 1000)
    (F : Fr base L s.heap m) (N : News base L s.heap news) (hm1 : m "hay" = some (.str (T xs) t)) (hm2 : m "needle" = some (.str (T ns) t')) (hm3 : m "start" = some (.int (st : Int) t1)) (hm4 : m "place" = some (.int (p : Int) t2))
    (h : ∀ h' tk tv m', Fr base L h' m' → News base L h' news → m' "hay" = some (.str (T xs) t) → m' "needle" = some (.str (T ns) t') → m' "start" = some (.int ((p + ns.length : Nat) : Int) tv) → Q .next ⟨h', s.gens, s.drawn, tk, s.os⟩) :
    wpAny (model prog w) A (execs standsLoop (envOf "_law_stands" (defAt P0 3).2.2 L a cd)) Q E s := by
  have hT := T_length xs
  have hTn := T_length ns
  obtain ⟨hc1, hc2, hc3, hc4⟩ := hc
  unfold standsLoop
  show wpAny _ _ (execs (_ :: _) _) _ _ _
  refine wpAny_execs_cons ?_
  repeat walk1
  refine forRange (n := p - st) hh rfl rfl (by assumption) (by assumption) (by assumption) (small_one (by omega) (by omega) (by omega) (by omega)) (by rw [rangeSize_one]; split <;> omega)
    (fun i m₁ g => g = s.gens ∧ m₁ "hay" = some (.str (T xs) t) ∧ m₁ "needle" = some (.str (T ns) t') ∧ m₁ "place" = some (.int (p : Int) t2)) ⟨rfl, hm1, hm2, hm4⟩ ?_ ?_
  · rintro E' i m₁ h₁ g tk tv it io hi ⟨rfl, k1, k2, k3⟩ F1 N1
    refine wpAny_execs_cons ?_
    repeat walk1
    · rename_i hb
      exact absurd ((slice_hit (q := st + i) (by omega) (by omega) (by omega)).mp hb) (hc3 _ (by omega) (by omega))
    · repeat walk1
      refine stepNext (by assumption) (by assumption) ?_
      exact ⟨rfl, k1, k2, k3⟩
  · rintro h₁ g tk m₁ F1 N1 ⟨rfl, k1, k2, k3⟩
    have fin : ∀ {h' tk tv}, Fr base L h' (fun y => if y = "start" then some (Value.int ((p : Int) + ((T ns).length : Nat)) tv) else m₁ y) → News base L h' news → Q .next ⟨h', s.gens, s.drawn, tk, s.os⟩ := by
      intro h' tk tv F' N'
      refine h h' tk tv _ F' N' k1 k2 ?_
      show some _ = some _
      rw [hTn, Int.natCast_add]
    repeat walk1
    all_goals (repeat walk1)
    · rename_i hl _ _ _ _ _ _ hb
      have := (slice_hit (xs := xs) (ns := ns) (q := p) rfl rfl hc2).mpr (hc4 (by omega))
      rw [bne, this] at hb
      cases hb
    · exact fin (by assumption) (by assumption)
    · exact fin (by assumption) (by assumption)
theorem chain_turn {xs ns : List Nat} (hne : ns ≠ []) {l : List Nat} {st : Nat} (hc : Chain xs ns st l) (hs : st ≤ xs.length) :
    match l with
    | [] => Turn xs ns st xs.length
    | p :: r => Turn xs ns st p ∧ p + ns.length ≤ xs.length ∧ Chain xs ns (p + ns.length) r := by
  cases l with
  | nil => exact ⟨hs, Nat.le_refl _, fun q h1 _ => hc q h1, fun h => absurd h (Nat.lt_irrefl _)⟩
  | cons p r =>
    obtain ⟨c1, c2, c3, c4⟩ := hc
    have := hit_len hne c2
    exact ⟨⟨c1, by omega, c3, fun _ => c2⟩, this, c4⟩
theorem stands_body {xs ns l : List Nat} {t t' : Tok} {fd : Addr} {vs : List Value} {n : Nat} {Q : Flow → Shared → Prop} (hne : ns ≠ []) (hc : Chain xs ns 0 l) (W : Wd base mg mb) (hh : A.handled = none)
    (hzx : xs.length ≤ 1000) (hzn : ns.length ≤ 1000)
    (F : Fr base L s.heap (fun y => List.lookup y [(("found" : Str), .ref fd), ("needle", .str (T ns) t'), ("hay", .str (T xs) t)])) (hfd : base.get? fd = some (lst vs n)) (hI : IntsAre vs (toZ l)) (hln : l.length ≤ 1000)
    (h : ∀ h' tk, (∀ b o, base.get? b = some o → h'.get? b = some o) → Q (.ret (.bool true)) ⟨h', s.gens, s.drawn, tk, s.os⟩) :
    wpAny (model prog w) A (execs (defAt P0 3).2.1 (envOf "_law_stands" (defAt P0 3).2.2 L a cd)) Q E s := by
  have N : News base L s.heap [] := News.nil
  have hT := T_length xs
  have hTn := T_length ns
  have hvl : vs.length = l.length := by rw [hI.length]; simp [toZ]
  refine wpAny_execs_cons ?_
  repeat walk1
  rename_i F2 N2
  refine kmk_add_ints F2 N2 (ns := toZ l) (ms := [((T xs).length : Int)]) (lst_isList (vs := vs) (n := n) (F2.keep _ _ hfd)) (lst_isList (vs := [Value.int ((T xs).length : Int) _]) (n := 0) (N2 _ (.head _)).1) hI (.cons _ _ .nil) (fun D us h3 F3 N3 _ hus => ?_) (by
    simp [toZ]
    have := sizeLine_eq
    omega)
  rw [hT] at hus
  have hul : us.length = l.length + 1 := by rw [hus.length]; simp [toZ]
  refine forList hh rfl rfl F3 N3 (.inr (.head _))
    (fun i m₁ g => g = s.gens ∧ m₁ "hay" = some (.str (T xs) t) ∧ m₁ "needle" = some (.str (T ns) t') ∧ (i ≤ l.length → ∃ (st : Nat) (t1 : Tok), m₁ "start" = some (.int (st : Int) t1) ∧ st ≤ xs.length ∧ Chain xs ns st (l.drop i)))
    ⟨rfl, rfl, rfl, fun _ => ⟨0, _, rfl, Nat.zero_le _, hc⟩⟩ ?_ ?_
  · rintro E' i v m₁ h₁ g tk it io hv ⟨rfl, k1, k2, k3⟩ F1 N1
    have hi : i < us.length := by
      rcases Nat.lt_or_ge i us.length with q | q
      · exact q
      · rw [List.getElem?_eq_none q] at hv; cases hv
    obtain ⟨st, t1, k4, k5, k6⟩ := k3 (by omega)
    obtain ⟨u, hu⟩ : ∃ u, v = .int ((toZ l ++ [(xs.length : Int)]).getD i 0) u := by
      have := hus.int_at i v hv
      exact this
    subst hu
    by_cases hil : i < l.length
    · have ed : l.drop i = l[i] :: l.drop (i + 1) := List.drop_eq_getElem_cons hil
      rw [ed] at k6
      have ht := chain_turn hne k6 k5
      obtain ⟨t1, t2, t3⟩ := ht
      have ez : (toZ l ++ [(xs.length : Int)]).getD i 0 = ((l[i] : Nat) : Int) := by
        simp [toZ, List.getD_eq_getElem?_getD, List.getElem?_append, hil]
      rw [ez] at F1
      refine stands_turn hne t1 W hh hzx hzn F1 N1 k1 k2 k4 rfl fun h' tk tv m' F' N' j1 j2 j3 => ⟨_, _, _, _, rfl, F', N', rfl, j1, j2, fun _ => ⟨_, _, j3, t2, t3⟩⟩
    · have hil' : i = l.length := by omega
      subst hil'
      rw [List.drop_length] at k6
      have ht := chain_turn hne k6 k5
      have ez : (toZ l ++ [(xs.length : Int)]).getD l.length 0 = ((xs.length : Nat) : Int) := by
        simp [toZ, List.getD_eq_getElem?_getD, List.getElem?_append]
      rw [ez] at F1
      refine stands_turn hne ht W hh hzx hzn F1 N1 k1 k2 k4 rfl fun h' tk tv m' F' N' j1 j2 j3 => ⟨_, _, _, _, rfl, F', N', rfl, j1, j2, fun q => ?_⟩
      omega
  · rintro h₁ g tk m₁ F1 N1 ⟨rfl, k1, k2, k3⟩
    repeat walk1
    exact h _ _ F1.keep
end
end Aq

namespace Aq
local macro_rules | `(tactic| walk_at "callWith ref") => `(tactic| refine callWith_f ?_)
local macro_rules | `(tactic| walk_at "exec For") => `(tactic| refine wpAny_For ?_)
local macro_rules | `(tactic| walk_at "eval Name") => `(tactic| first
  | refine ld (by assumption) (by first | assumption | rfl) ?_
  | refine nmF (by assumption) (by assumption) (by assumption) ?_
  | refine nmB (by assumption) (by assumption) bb_len ?_
  | refine nmB (by assumption) (by assumption) bb_range ?_)
theorem T_append (a b : List Nat) : T a ++ T b = T (a ++ b) := by
  show Str.mk _ = Str.mk _
  simp [T]
section
variable {prog : Program} {w : World} {A : Around} {s : Shared} {base : Heap} {L a : Addr} {cd : Value} {mg mb : Str → Option Value} {E : Value → Shared → Prop}
theorem add_T {x y : List Nat} {t u : Tok} {Q : Value → Shared → Prop} (hz : x.length + y.length ≤ 100000) (h : ∀ t' k, Q (.str (T (x ++ y)) t') { s with toks := k }) :
    wpAny (model prog w) A (binaryOp .Add (.str (T x) t) (.str (T y) u)) Q E s := by
  refine PyProof.Rows.add_str (fun t' k => ?_) (by rw [T_length, T_length]; have := sizeLine_eq; omega)
  rw [T_append]
  exact h t' k
theorem c_T : ("c" : Str) = T [99] := by decide
theorem slice_T0 {xs : List Nat} {i : Nat} (hi : i ≤ xs.length) : Txt.slice (T xs) (some (i : Int)) none = T (xs.drop i) := by
  refine (StrLaws.sliceText_from (x := T xs) (i := (i : Int)) ⟨by omega, by simpa [T] using hi⟩).trans ?_
  show T _ = T _
  congr 1
  show List.take _ (List.drop _ xs) = _
  rw [Int.toNat_natCast]
  apply List.take_of_length_le
  rw [List.length_drop]
  simp [T]
theorem marked_body {xs ns l : List Nat} {t t' : Tok} {fd : Addr} {vs : List Value} {n : Nat} {Q : Flow → Shared → Prop} (hne : ns ≠ []) (hc : Chain xs ns 0 l) (W : Wd base mg mb) (hh : A.handled = none)
    (hzx : xs.length ≤ 1000) (hzn : ns.length ≤ 1000)
    (F : Fr base L s.heap (fun y => List.lookup y [(("found" : Str), .ref fd), ("needle", .str (T ns) t'), ("hay", .str (T xs) t)])) (hfd : base.get? fd = some (lst vs n)) (hI : IntsAre vs (toZ l)) (hln : l.length ≤ 1000)
    (h : ∀ h' tk tv, (∀ b o, base.get? b = some o → h'.get? b = some o) → Q (.ret (.str (T (mark xs ns.length 0 l)) tv)) ⟨h', s.gens, s.drawn, tk, s.os⟩) :
    wpAny (model prog w) A (execs (defAt P0 4).2.1 (envOf "_law_marked" (defAt P0 4).2.2 L a cd)) Q E s := by
  have N : News base L s.heap [] := News.nil
  have hT := T_length xs
  have hTn := T_length ns
  have hvl : vs.length = l.length := by rw [hI.length]; simp [toZ]
  refine wpAny_execs_cons ?_
  repeat walk1
  rename_i F2 N2
  refine forList (vs := vs) (k := n) hh rfl rfl F2 N2 (.inl hfd)
    (fun i m₁ g => g = s.gens ∧ m₁ "hay" = some (.str (T xs) t) ∧ m₁ "needle" = some (.str (T ns) t') ∧ (∃ (st : Nat) (t1 t2 : Tok) (acc : List Nat), m₁ "start" = some (.int (st : Int) t1) ∧ m₁ "told" = some (.str (T acc) t2) ∧ st ≤ xs.length ∧ Chain xs ns st (l.drop i) ∧ acc ++ mark xs ns.length st (l.drop i) = mark xs ns.length 0 l ∧ acc.length ≤ st + i))
    ⟨rfl, rfl, rfl, 0, _, _, [], rfl, rfl, Nat.zero_le _, hc, rfl, Nat.zero_le _⟩ ?_ ?_
  · rintro E' i v m₁ h₁ g tk it io hv ⟨rfl, k1, k2, st, t1, t2, acc, k3, k4, k5, k6, k7, k8⟩ F1 N1
    have hil : i < l.length := by
      rcases Nat.lt_or_ge i vs.length with q | q
      · omega
      · rw [List.getElem?_eq_none q] at hv; cases hv
    obtain ⟨u, rfl⟩ := hI.int_at i v hv
    have ed : l.drop i = l[i] :: l.drop (i + 1) := List.drop_eq_getElem_cons hil
    have ez : (toZ l).getD i 0 = ((l[i] : Nat) : Int) := by
      simp [toZ, List.getD_eq_getElem?_getD, hil]
    rw [ez] at F1
    generalize l[i] = p at *
    rw [ed] at k6 k7
    obtain ⟨c1, c2, c3, c4⟩ := k6
    have hl := hit_len hne c2
    refine wpAny_execs_cons ?_
    repeat walk1
    rw [slice_T k5 c1]
    have hsl : (List.take (p - st) (List.drop st xs)).length ≤ p - st := by rw [List.length_take]; omega
    refine add_T (by omega) fun t3 tk3 => ?_
    repeat walk1
    rw [c_T]
    refine add_T (by rw [List.length_append, List.length_singleton]; omega) fun t4 tk4 => ?_
    repeat walk1
    refine stepNext (by assumption) (by assumption) ?_
    refine ⟨rfl, k1, k2, p + ns.length, tk4 + 1 + 1 + 1, t4, _, ?_, rfl, hl, c4, ?_, ?_⟩
    · show some _ = some _
      rw [hTn, Int.natCast_add]
    · rw [← k7]
      simp [mark]
    · rw [List.length_append, List.length_append, List.length_singleton]; omega
  · rintro h₁ g tk m₁ F1 N1 ⟨rfl, k1, k2, st, t1, t2, acc, k3, k4, k5, k6, k7, k8⟩
    repeat walk1
    rw [slice_T0 k5]
    rw [hvl] at k8
    refine add_T (by rw [List.length_drop]; omega) fun t3 tk3 => ?_
    rw [hvl, List.drop_length] at k7
    simp only [mark] at k7 h
    rw [k7]
    rename_i F9 N9 _
    exact h _ _ _ F9.keep
end
end Aq

namespace Aq
section
variable {prog : Program} {w : World} {A : Around} {s : Shared} {mg mb : Str → Option Value} {E : Value → Shared → Prop}
theorem bind_stands {pm code doc : Value} (x y z : Value) : bindArgs (docDef "_law_stands" (defAt P0 3).1 (defAt P0 3).2.1 (defAt P0 3).2.2 pm code doc) ⟨[x, y, z], []⟩ = (pure [(("hay" : Str), x), (("needle" : Str), y), ("found", z)] : Sem (List (Str × Value))) := by
  with_unfolding_all rfl
theorem stands_nocell : ∀ x ∈ (defAt P0 3).2.2.names, x.2 ≠ .cell := by decide
theorem bind_marked {pm code doc : Value} (x y z : Value) : bindArgs (docDef "_law_marked" (defAt P0 4).1 (defAt P0 4).2.1 (defAt P0 4).2.2 pm code doc) ⟨[x, y, z], []⟩ = (pure [(("hay" : Str), x), (("needle" : Str), y), ("found", z)] : Sem (List (Str × Value))) := by
  with_unfolding_all rfl
theorem marked_nocell : ∀ x ∈ (defAt P0 4).2.2.names, x.2 ≠ .cell := by decide
theorem stands_call {xs ns l : List Nat} {t t' : Tok} {fd fp : Addr} {vs : List Value} {n : Nat} {Q : Value → Shared → Prop} (hne : ns ≠ []) (hc : Chain xs ns 0 l) (W : Wd s.heap mg mb) (hp : FnAt s.heap mg "_law_stands" (defAt P0 3) fp)
    (hroom : A.depth < recursionLimit) (hh : A.handled = none) (hzx : xs.length ≤ 1000) (hzn : ns.length ≤ 1000)
    (hfd : s.heap.get? fd = some (lst vs n)) (hI : IntsAre vs (toZ l)) (hln : l.length ≤ 1000)
    (h : ∀ h' tk, Kp [] s.heap h' → Q (.bool true) ⟨h', s.gens, s.drawn, tk, s.os⟩) :
    wpAny (model prog w) A (call (.ref fp) [.str (T xs) t, .str (T ns) t', .ref fd]) Q E s := by
  obtain ⟨o, pm, code, doc, ho, hd, hcd⟩ := hp.o
  refine wpAny_call (call_plain_ret hroom ho hd W.lim hcd (bind_stands _ _ _) (locs (by rfl)) (fun h₁ F => ?_) rfl rfl rfl stands_nocell)
  exact stands_body hne hc W hh hzx hzn F hfd hI hln fun h' tk k => h h' tk fun b o _ e => k b o e
theorem marked_call {xs ns l : List Nat} {t t' : Tok} {fd fp : Addr} {vs : List Value} {n : Nat} {Q : Value → Shared → Prop} (hne : ns ≠ []) (hc : Chain xs ns 0 l) (W : Wd s.heap mg mb) (hp : FnAt s.heap mg "_law_marked" (defAt P0 4) fp)
    (hroom : A.depth < recursionLimit) (hh : A.handled = none) (hzx : xs.length ≤ 1000) (hzn : ns.length ≤ 1000)
    (hfd : s.heap.get? fd = some (lst vs n)) (hI : IntsAre vs (toZ l)) (hln : l.length ≤ 1000)
    (h : ∀ h' tk tv, Kp [] s.heap h' → Q (.str (T (mark xs ns.length 0 l)) tv) ⟨h', s.gens, s.drawn, tk, s.os⟩) :
    wpAny (model prog w) A (call (.ref fp) [.str (T xs) t, .str (T ns) t', .ref fd]) Q E s := by
  obtain ⟨o, pm, code, doc, ho, hd, hcd⟩ := hp.o
  refine wpAny_call (call_plain_ret hroom ho hd W.lim hcd (bind_marked _ _ _) (locs (by rfl)) (fun h₁ F => ?_) rfl rfl rfl marked_nocell)
  exact marked_body hne hc W hh hzx hzn F hfd hI hln fun h' tk tv k => h h' tk tv fun b o _ e => k b o e
end
end Aq

namespace Aq
section
variable {prog : Program} {w : World} {A : Around} {s : Shared} {base : Heap} {E : Value → Shared → Prop}
theorem forListC {env : Env} {m : Str → Option Value} {c : Addr} {o : Obj} {ov : Option Value} {x : Str} {px : Pos} {body : List Stmt} {l : Addr} {vs : List Value} {k : Nat} {news : List (Addr × Obj)} {Q : Flow → Shared → Prop}
    (hh : A.handled = none) (hk : env.scope.kind = .function) (hx : env.kindOf x = some .cell) (hc : env.cells.lookup x = some c)
    (F : Fr base env.locals s.heap m) (N : News base env.locals s.heap ((c, o) :: news)) (hd : o.data = .cell ov) (hap : ∀ p ∈ news, p.1 ≠ c) (hl : base.get? l = some (lst vs k))
    (J : Nat → (Str → Option Value) → Array GenState → Prop) (h0 : J 0 m s.gens)
    (step : ∀ E' i v m₁ h g tk it io o', vs[i]? = some v → J i m₁ g → Fr base env.locals h m₁ → News base env.locals h ((it, io) :: (c, o') :: news) → o'.data = .cell (some v) →
      wpAny (model prog w) A (execs body env) (StepP base env.locals s ((it, io) :: (c, o') :: news) (J (i + 1)) Q) E' ⟨h, g, s.drawn, tk, s.os⟩)
    (done : ∀ h g tk m' o ov, Fr base env.locals h m' → News base env.locals h ((c, o) :: news) → o.data = .cell ov → J vs.length m' g → Q .next ⟨h, g, s.drawn, tk, s.os⟩) :
    wpAny (model prog w) A (pyIter (.ref l)) (fun it s₂ => codeAny (model prog w) A (.forLoop (.Name x px) it body [] env) (fun r s' => match r with | .ok f => Q f s' | .error e => cameBackBy (model prog w) A env E e s') s₂) E s := by
  have hls : ∀ h m', Fr base env.locals h m' → h.IsList l vs.toArray := fun h m' F' => lst_isList (F'.keep _ _ hl)
  refine wpAny_pyIter_list (hls _ _ F) ?_
  obtain ⟨hI1, hI2, hI3, hI4⟩ : env.locals ≠ s.heap.objs.size ∧ base.get? s.heap.objs.size = none ∧ c ≠ s.heap.objs.size ∧ ∀ p ∈ ((c, o) :: news), p.1 ≠ s.heap.objs.size :=
    ⟨Nat.ne_of_lt F.ns.lt, base_lt F (Nat.le_refl _), Nat.ne_of_lt (Heap.lt_size (N _ (.head _)).1), fun p hp => Nat.ne_of_lt (Heap.lt_size (N p hp).1)⟩
  have hcL : c ≠ env.locals := (N _ (.head _)).2.1
  have hcb : base.get? c = none := (N _ (.head _)).2.2
  generalize hIe : s.heap.objs.size = I at *
  refine codeAny_forLoop (fun n s' => ∃ h g tk m' o ov i, s' = ⟨h, g, s.drawn, tk, s.os⟩ ∧ h.IsListIter I l i ∧ Fr base env.locals h m' ∧ News base env.locals h ((c, o) :: news) ∧ o.data = .cell ov ∧ J i m' g ∧ i ≤ vs.length ∧ n = vs.length + 1 - i) ?_ (vs.length + 1)
    ⟨_, s.gens, s.toks, m, o, ov, 0, rfl, ⟨_, by rw [← hIe]; exact Heap.get?_push_size _ rfl, rfl, rfl⟩, F.push _, News.pushKeep N _, hd, h0, Nat.zero_le _, rfl⟩
  rintro n s' ⟨h, g, tk, m', o, ov, i, rfl, hit, F', N', hd', hJ, hi, rfl⟩
  have hI4' : ∀ p ∈ ((c, o) :: news), p.1 ≠ I := fun p hp => by
    rcases List.mem_cons.mp hp with rfl | hp
    · exact hI3
    · exact hI4 p (.tail _ hp)
  by_cases hlt : i < vs.length
  · obtain ⟨v, hv⟩ : ∃ v, vs[i]? = some v := ⟨vs[i], List.getElem?_eq_getElem hlt⟩
    refine wpAny_pyNext_list_item hit (hls _ _ F') (x := v) (by simpa using hv) fun h₁ hit₁ hs₁ => ?_
    have F1 := fr_same F' hs₁ hI1 hI2
    have N1 := news_ext N' (fun b o n e => hs₁.extBut b o n e) hI4'
    refine wpAny_assign_Name (wpAny_storeName_cell hk hx hc ⟨o, (N1 _ (.head _)).1, hd'⟩ fun h₂ hv2 hs₂ => ?_)
    have F2 := fr_same F1 hs₂ (Ne.symm hcL) hcb
    obtain ⟨io, hio, hiod⟩ := hit₁
    obtain ⟨o2, ho2, hd2⟩ := hv2
    have N2 : News base env.locals h₂ ((I, io) :: (c, o2) :: news) := fun p hp' => by
      rcases List.mem_cons.mp hp' with rfl | hp'
      · exact ⟨hs₂.extBut _ _ (Ne.symm hI3) hio, Ne.symm hI1, hI2⟩
      · rcases List.mem_cons.mp hp' with rfl | hp'
        · exact ⟨ho2, hcL, hcb⟩
        · exact ⟨hs₂.extBut _ _ (hap p hp') (N1 p (.tail _ hp')).1, (N1 p (.tail _ hp')).2⟩
    refine wpAny_mono (step _ i v m' h₂ g tk I io o2 hv hJ F2 N2 hd2) (fun f s₃ h₃ => ?_) fun _ _ e => e
    cases f with
    | ret v => exact h₃
    | brk => exact h₃
    | cont =>
      obtain ⟨h3, g3, tk3, m3, rfl, F3, N3, J3⟩ := h₃
      exact ⟨vs.length + 1 - (i + 1), by omega, h3, g3, tk3, m3, o2, _, i + 1, rfl, ⟨io, (N3 _ (.head _)).1, hiod⟩, F3, news_tail N3, hd2, J3, hlt, rfl⟩
    | next =>
      obtain ⟨h3, g3, tk3, m3, rfl, F3, N3, J3⟩ := h₃
      exact ⟨vs.length + 1 - (i + 1), by omega, h3, g3, tk3, m3, o2, _, i + 1, rfl, ⟨io, (N3 _ (.head _)).1, hiod⟩, F3, news_tail N3, hd2, J3, hlt, rfl⟩
  · have : i = vs.length := by omega
    subst this
    refine wpAny_pyNext_list_end hh hit (hls _ _ F') (by simp) fun h₁ hs₁ => wpAny_execs_nil ?_
    exact done h₁ g tk m' o ov (fr_ext F' hs₁ hI1 hI2) (news_ext N' (fun b o n e => hs₁ b o n e) hI4') hd' hJ
end
end Aq

namespace Aq
abbrev testsOf (ifs : List Expr) (env : Env) : Sem Bool := forIn ifs true fun c r => if r = true then do let ok ← isTrue c env (eval c env); pure (ForInStep.yield ok) else pure (ForInStep.yield r)
/-- what a comprehension asks of its turns, and what it gives -/
def CompAt (prog : Program) (w : World) (A : Around) (scope : Scope) (cl : List (Str × Addr)) (env : Env) (x : Str) (ifs : List Expr) (elt : Expr) (Q : Value → Shared → Prop) (it : Value) (s : Shared) : Prop :=
  ∃ (I : Addr) (fp wr : List Addr) (n : Nat) (P : Nat → Value → Prop) (St : Nat → Heap → Prop) (J : Nat → List Value → Array GenState → Prop),
    it = .ref I ∧ Walks prog w A I fp wr n P St ∧ n ≤ 100000 ∧ St 0 s.heap ∧ (∀ b ∈ fp, b < s.heap.objs.size) ∧ J 0 [] s.gens ∧
    (∀ E' i v h g tk ys C m, s.heap.objs.size ≤ C → i < n → P i v → J i ys g → h.Ns C m → m x = some v → (∀ b o, b ∉ wr → s.heap.get? b = some o → h.get? b = some o) →
      wpAny (model prog w) A (testsOf ifs (compEnvC scope cl C env)) (fun ok s₃ => if ok = true then wpAny (model prog w) A (eval elt (compEnvC scope cl C env)) (fun y s₄ =>
          ∃ h' tk' g', s₄ = ⟨h', g', s.drawn, tk', s.os⟩ ∧ Kp [] h h' ∧ J (i + 1) (ys ++ [y]) g') E' s₃
        else ∃ h' tk' g', s₃ = ⟨h', g', s.drawn, tk', s.os⟩ ∧ Kp [] h h' ∧ J (i + 1) ys g') E' ⟨h, g, s.drawn, tk, s.os⟩) ∧
    (∀ D h tk g ys k, s.heap.get? D = none → h.get? D = some (lst ys k) → (∀ b o, b ∉ wr → s.heap.get? b = some o → h.get? b = some o) → J n ys g → Q (.ref D) ⟨h, g, s.drawn, tk, s.os⟩)
section
variable {prog : Program} {w : World} {A : Around} {s : Shared} {E : Value → Shared → Prop} {env : Env}
theorem comp_core {elt iter : Expr} {x : Str} {px : Pos} {ifs : List Expr} {scope : Scope} {cl : List (Str × Addr)} {pos : Pos} {RR : Value → Addr → Result → Shared → Prop} {s₂ : Shared} {I : Addr} {fp wr : List Addr} {n : Nat} {P : Nat → Value → Prop} {St : Nat → Heap → Prop} {J : Nat → List Value → Array GenState → Prop}
    (hcell : ∀ y ∈ scope.names, y.2 ≠ .cell) (hkind : scope.kind = .function) (hx : scope.names.lookup x = some .local)
    (W : Walks prog w A I fp wr n P St) (hsz : n ≤ 100000) (hst : St 0 s₂.heap) (hfp : ∀ b ∈ fp, b < s₂.heap.objs.size) (h0 : J 0 [] s₂.gens)
    (turn : ∀ E' i v h g tk ys C m, s₂.heap.objs.size ≤ C → i < n → P i v → J i ys g → h.Ns C m → m x = some v → (∀ b o, b ∉ wr → s₂.heap.get? b = some o → h.get? b = some o) →
      wpAny (model prog w) A (testsOf ifs (compEnvC scope cl C env)) (fun ok s₃ => if ok = true then wpAny (model prog w) A (eval elt (compEnvC scope cl C env)) (fun y s₄ =>
          ∃ h' tk' g', s₄ = ⟨h', g', s₂.drawn, tk', s₂.os⟩ ∧ Kp [] h h' ∧ J (i + 1) (ys ++ [y]) g') E' s₃
        else ∃ h' tk' g', s₃ = ⟨h', g', s₂.drawn, tk', s₂.os⟩ ∧ Kp [] h h' ∧ J (i + 1) ys g') E' ⟨h, g, s₂.drawn, tk, s₂.os⟩)
    (fin : ∀ D C h tk g ys k mc, s₂.heap.get? D = none → s₂.heap.get? C = none → D ≠ C → h.Ns C mc → h.get? D = some (lst ys k) → (∀ b o, b ∉ wr → s₂.heap.get? b = some o → h.get? b = some o) → J n ys g → RR (.ref D) C (.ok .next) ⟨h, g, s₂.drawn, tk, s₂.os⟩) :
    wpAny (model prog w) A (newList []) (fun acc s₃ => wpAny (model prog w) A (newFunctionEnv scope env.globals cl [] env.qual none .none (some env)) (fun cenv s₄ =>
      codeAny (model prog w) A (.compStart (.ListComp elt [⟨.Name x px, iter, ifs, 0⟩] scope pos) 0 (.ref I) acc { cenv with scope := relabel scope env }) (RR acc cenv.locals) s₄) E s₃) E s₂ := by
  refine wpAny_newObj_type (wpAny_newFunctionEnv hcell (by intro y hy; simp at hy) (fun h₁ hns₁ hsb₁ => ?_) hkind)
  dsimp only at hns₁ hsb₁ ⊢
  generalize hH2 : s₂.heap.push { cls := .type "list", dict := none, data := .seq ([] : List Value).toArray } = H2 at hns₁ hsb₁ ⊢
  have hC : H2.objs.size = s₂.heap.objs.size + 1 := by rw [← hH2, Heap.size_push]
  have hDC : s₂.heap.objs.size ≠ H2.objs.size := by rw [hC]; exact Nat.ne_of_lt (Nat.lt_succ_self _)
  have hCle : s₂.heap.objs.size ≤ H2.objs.size := by rw [hC]; exact Nat.le_succ _
  have below : ∀ b, b < s₂.heap.objs.size → b ≠ H2.objs.size ∧ b ≠ s₂.heap.objs.size := fun b hb => ⟨by rw [hC]; exact Nat.ne_of_lt (Nat.lt_succ_of_lt hb), Nat.ne_of_lt hb⟩
  have hDw : s₂.heap.objs.size ∉ wr := fun hm => Nat.lt_irrefl _ (hfp _ (W.sub _ hm))
  have hCw : H2.objs.size ∉ wr := fun hm => by have := hfp _ (W.sub _ hm); rw [hC] at this; exact Nat.lt_irrefl _ (Nat.lt_of_succ_lt this)
  have old : ∀ b o, s₂.heap.get? b = some o → h₁.get? b = some o := fun b o e => hsb₁.extBut b o (below b (Heap.lt_size e)).1 (Heap.get?_push_of_some _ (hH2 ▸ Heap.get?_push_of_some _ e))
  have hacc : h₁.get? s₂.heap.objs.size = some (lst [] 0) := hsb₁.extBut _ _ hDC (Heap.get?_push_of_some _ (hH2 ▸ Heap.get?_push_size _ rfl))
  have hst₁ : St 0 h₁ := W.frame _ _ _ hst fun b _ o e => old b o e
  have fresh : ∀ a, s₂.heap.objs.size ≤ a → s₂.heap.get? a = none := fun a ha => by
    cases e : s₂.heap.get? a with
    | none => rfl
    | some o' => exact absurd (Heap.lt_size e) (Nat.not_lt.mpr ha)
  have loop : ∀ s₃ : Shared, s₃ = { s₂ with heap := h₁, toks := s₂.toks + ([] : List (Str × Value)).length } →
      codeAny (model prog w) A (.compLoop (.ListComp elt [⟨.Name x px, iter, ifs, 0⟩] scope pos) 0 (.ref I) (.ref s₂.heap.objs.size) (compEnvC scope cl H2.objs.size env))
        (RR (.ref s₂.heap.objs.size) H2.objs.size) s₃ := by
    rintro s₃ rfl
    refine codeAny_compLoop_tests (fun fu s' => ∃ h' tk g i ys k mc, s' = ⟨h', g, s₂.drawn, tk, s₂.os⟩ ∧ fu = n + 1 - i ∧ i ≤ n ∧ St i h' ∧ J i ys g ∧ h'.get? s₂.heap.objs.size = some (lst ys k) ∧ ys.length ≤ i ∧ h'.Ns H2.objs.size mc ∧
      (∀ b o, b ∉ wr → s₂.heap.get? b = some o → h'.get? b = some o)) ?_ (n + 1) ⟨h₁, _, s₂.gens, 0, [], 0, _, rfl, rfl, Nat.zero_le _, hst₁, h0, hacc, Nat.le_refl _, hns₁, fun b o _ e => old b o e⟩
    rintro fu s' ⟨h', tk, g, i, ys, k, mc, rfl, rfl, hi, hst', hJ, hD', hyl, hns', hk'⟩
    by_cases hlt : i < n
    · refine W.item i _ _ _ hlt hst' fun v h2 tk2 hP hst2 hk2 => ?_
      refine wpAny_assign_Name (wpAny_storeName_local (lookup_relabel_local hx) (hns'.at' fun o e => hk2 _ o hCw e) (fun h3 hn3 hs3 => ?_) (by simp [compEnvC, relabel, hkind]))
      have hk3 : ∀ b o, b ∉ wr → s₂.heap.get? b = some o → h3.get? b = some o := fun b o hb e => hs3.extBut b o (below b (Heap.lt_size e)).1 (hk2 b o hb (hk' b o hb e))
      have hD3 : h3.get? s₂.heap.objs.size = some (lst ys k) := hs3.extBut _ _ hDC (hk2 _ _ hDw hD')
      have hst3 : St (i + 1) h3 := W.frame _ _ _ hst2 fun b hb o e => hs3.extBut b o (below b (hfp b hb)).1 e
      refine wpAny_mono (turn _ i v h3 g (tk2 + 1) ys H2.objs.size _ hCle hlt hP hJ hn3 (by simp) hk3) (fun ok s3 h3' => ?_) fun _ _ e => e
      cases ok with
      | false =>
        obtain ⟨h4, tk4, g4, rfl, K4, J4⟩ := h3'
        exact ⟨n + 1 - (i + 1), by omega, h4, tk4, g4, i + 1, ys, k, _, rfl, rfl, hlt, W.frame _ _ _ hst3 fun b _ o e => K4 b o (by simp) e, J4, K4 _ _ (by simp) hD3, by omega, hn3.at' fun o e => K4 _ o (by simp) e, fun b o hb e => K4 b o (by simp) (hk3 b o hb e)⟩
      | true =>
        refine wpAny_mono h3' (fun y s4 h4' => ?_) fun _ _ e => e
        obtain ⟨h4, tk4, g4, rfl, K4, J4⟩ := h4'
        refine append_lst (s := ⟨h4, g4, s₂.drawn, tk4, s₂.os⟩) (K4 _ _ (by simp) hD3) (by omega) fun h5 hs5 hD5 => ⟨n + 1 - (i + 1), by omega, ?_⟩
        refine ⟨h5, tk4, g4, i + 1, ys ++ [y], k + 1, _, rfl, rfl, hlt, W.frame _ _ _ hst3 fun b hb o e => hs5.extBut b o (below b (hfp b hb)).2 (K4 b o (by simp) e), J4, hD5, by simp; omega,
          (hn3.at' fun o e => K4 _ o (by simp) e).sameBut hs5 (Ne.symm hDC), fun b o hb e => hs5.extBut b o (below b (Heap.lt_size e)).2 (K4 b o (by simp) (hk3 b o hb e))⟩
    · have : i = n := by omega
      subst this
      refine W.done _ _ _ hst' fun h2 tk2 hk2 => ?_
      exact fin s₂.heap.objs.size H2.objs.size h2 tk2 g ys k mc (fresh _ (Nat.le_refl _)) (fresh _ hCle) hDC (hns'.at' fun o e => hk2 _ o hCw e) (hk2 _ _ hDw hD') (fun b o hb e => hk2 b o hb (hk' b o hb e)) hJ
  exact codeAny_compStart_list (loop _ rfl) (W.self 0 _ _ _ hst₁ (loop _ rfl))
theorem compRule {elt iter : Expr} {x : Str} {px : Pos} {ifs : List Expr} {scope : Scope} {cl : List (Str × Addr)} {pos : Pos} {Q : Value → Shared → Prop}
    (hclos : closureFor scope env = pure cl) (hcell : ∀ y ∈ scope.names, y.2 ≠ .cell) (hkind : scope.kind = .function)
    (hnames : ∀ y ∈ scope.names, y.2 = .local → scope.names.lookup y.1 = some .local) (hx : scope.names.lookup x = some .local)
    (h : wpAny (model prog w) A (eval iter env) (fun xv s₁ => wpAny (model prog w) A (pyIter xv) (fun it s₂ => CompAt prog w A scope cl env x ifs elt Q it s₂) E s₁) E s)
    (hs : ∀ x, foldedSetIterable iter env x = pure x := by intro _; rfl) :
    wpAny (model prog w) A (eval (.ListComp elt [⟨.Name x px, iter, ifs, 0⟩] scope pos) env) Q E s := by
  rw [eval_ListComp]
  refine wpAny_comprehension_free (use := none) rfl hs hclos hkind hnames (wpAny_mono h (fun xv s₁ h₁ => wpAny_mono h₁ (fun it s₂ h₂ => ?_) fun _ _ e => e) fun _ _ e => e)
  obtain ⟨I, fp, wr, n, P, St, J, rfl, W, hsz, hst, hfp, h0, turn, done⟩ := h₂
  refine comp_core (RR := fun acc C => compPost (model prog w) A E none Q acc C) hcell hkind hx W hsz hst hfp h0 turn fun D C h tk g ys k mc hD hC hDC hn hd hk hJ => ?_
  refine ⟨mc, hn, fun h3 hs3 => ?_⟩
  exact done D h3 tk g ys k hD (hs3.extBut _ _ hDC hd) (fun b o hb e => hs3.extBut b o (fun q => by rw [q, hC] at e; cases e) (hk b o hb e)) hJ
theorem compAssign {elt iter : Expr} {x y : Str} {px py : Pos} {ifs : List Expr} {scope : Scope} {cl : List (Str × Addr)} {pos spos : Pos} {Q : Flow → Shared → Prop}
    (hsw : swapsWith (.ListComp elt [⟨.Name x px, iter, ifs, 0⟩] scope pos) (some (.Name y py)) spos.line env = pure true)
    (hclos : closureFor scope env = pure cl) (hcell : ∀ y ∈ scope.names, y.2 ≠ .cell) (hkind : scope.kind = .function)
    (hnames : ∀ y ∈ scope.names, y.2 = .local → scope.names.lookup y.1 = some .local) (hx : scope.names.lookup x = some .local)
    (hy : env.kindOf y = some .local) (hp : (env.scope.kind == .class || (env.scope.kind == .module && env.locals != env.globals)) = false)
    (h : wpAny (model prog w) A (eval iter env) (fun xv s₁ => ∃ m, s₁.heap.Ns env.locals m ∧ wpAny (model prog w) A (pyIter xv) (fun it s₂ => (∀ b o, s₁.heap.get? b = some o → s₂.heap.get? b = some o) ∧
      CompAt prog w A scope cl env x ifs elt (fun v s₃ => (∀ b o, s₁.heap.get? b = some o → s₃.heap.get? b = some o) ∧ ∀ C h' tk, s₁.heap.get? C = none → v ≠ .ref C → h'.Ns env.locals (fun z => if z = y then some v else m z) →
        (∀ b o, b ≠ env.locals → b ≠ C → s₃.heap.get? b = some o → h'.get? b = some o) → Q .next ⟨h', s₃.gens, s₃.drawn, tk, s₃.os⟩) it s₂) E s₁) E s)
    (hs : ∀ x, foldedSetIterable iter env x = pure x := by intro _; rfl) :
    wpAny (model prog w) A (exec (.Assign [.Name y py] (.ListComp elt [⟨.Name x px, iter, ifs, 0⟩] scope pos) spos) env) Q E s := by
  rw [exec_Assign_Name_used _ _ _ _ hsw]
  refine wpAny_bind (wpAny_standAt (wpAny_bind ?_))
  show wpAny _ A (do let _ ← comprehension (.ListComp elt [⟨.Name x px, iter, ifs, 0⟩] scope pos) scope env _ (newList []) false (eval iter env) (some (assign (.Name y py) env))) _ _ s
  refine wpAny_bind (wpAny_mono (wpAny_comprehension_free (use := some (assign (.Name y py) env)) (Q := fun _ s' => Q .next s') rfl hs hclos hkind hnames
    (wpAny_mono h (fun xv s₁ h₁ => ?_) fun _ _ e => e)) (fun _ s' hq => wpAny_pure (wpAny_pure hq)) fun _ _ e => e)
  obtain ⟨m, hm, h₁⟩ := h₁
  refine wpAny_mono h₁ (fun it s₂ h₂ => ?_) fun _ _ e => e
  obtain ⟨hext, I, fp, wr, n, P, St, J, rfl, W, hsz, hst, hfp, h0, turn, done⟩ := h₂
  refine comp_core (RR := fun acc C => compPost (model prog w) A E (some (assign (.Name y py) env)) (fun _ s' => Q .next s') acc C) hcell hkind hx W hsz hst hfp h0 turn fun D C h tk g ys k mc hD hC hDC hn hd hk hJ => ?_
  obtain ⟨hkeep, hdone⟩ := done D h tk g ys k hD hd hk hJ
  have hC1 : s₁.heap.get? C = none := by
    cases e : s₁.heap.get? C with
    | none => rfl
    | some o => rw [hext _ _ e] at hC; cases hC
  have hLC : env.locals ≠ C := by rintro q; obtain ⟨o, _, _, ho, _⟩ := hm; rw [q, hC1] at ho; cases ho
  show wpAny _ A (assign (.Name y py) env (.ref D)) _ _ _
  refine wpAny_assign_Name (wpAny_storeName_local hy (hm.at' fun o e => hkeep _ o e) (fun h₂ hn₂ hs₂ => ?_) hp)
  refine ⟨mc, hn.sameBut hs₂ (Ne.symm hLC), fun h₃ hs₃ => ?_⟩
  exact hdone C h₃ _ hC1 (fun q => hDC (by cases q; rfl)) (hn₂.sameBut hs₃ hLC) fun b o hbL hbC e => hs₃.extBut b o hbC (hs₂.extBut b o hbL e)
/-- over a list -/
theorem pyIter_listX {l : Addr} {vs : List Value} {k : Nat} {x : Str} {ifs : List Expr} {elt : Expr} {scope : Scope} {cl : List (Str × Addr)} {Q : Value → Shared → Prop} {E' : Value → Shared → Prop}
    (hh : A.handled = none) (hl : s.heap.get? l = some (lst vs k)) (hz : vs.length ≤ 100000)
    (J : Nat → List Value → Array GenState → Prop) (h0 : J 0 [] s.gens)
    (turn : ∀ E' i v h g tk ys C m, s.heap.objs.size < C → vs[i]? = some v → J i ys g → h.Ns C m → m x = some v → (∀ b o, s.heap.get? b = some o → h.get? b = some o) →
      wpAny (model prog w) A (testsOf ifs (compEnvC scope cl C env)) (fun ok s₃ => if ok = true then wpAny (model prog w) A (eval elt (compEnvC scope cl C env)) (fun y s₄ =>
          ∃ h' tk' g', s₄ = ⟨h', g', s.drawn, tk', s.os⟩ ∧ Kp [] h h' ∧ J (i + 1) (ys ++ [y]) g') E' s₃
        else ∃ h' tk' g', s₃ = ⟨h', g', s.drawn, tk', s.os⟩ ∧ Kp [] h h' ∧ J (i + 1) ys g') E' ⟨h, g, s.drawn, tk, s.os⟩)
    (done : ∀ D h tk g ys k, s.heap.get? D = none → h.get? D = some (lst ys k) → (∀ b o, s.heap.get? b = some o → h.get? b = some o) → J vs.length ys g → Q (.ref D) ⟨h, g, s.drawn, tk, s.os⟩) :
    wpAny (model prog w) A (pyIter (.ref l)) (fun it s₂ => (∀ b o, s.heap.get? b = some o → s₂.heap.get? b = some o) ∧ CompAt prog w A scope cl env x ifs elt Q it s₂) E' s := by
  refine wpAny_pyIter_list (lst_isList hl) ?_
  have hne : l ≠ s.heap.objs.size := Nat.ne_of_lt (Heap.lt_size hl)
  have up : ∀ {h : Heap}, (∀ b o, b ∉ [s.heap.objs.size] → (s.heap.push { cls := .type "list_iterator", data := .fields #[.ref l, .int 0 0] }).get? b = some o → h.get? b = some o) → ∀ b o, s.heap.get? b = some o → h.get? b = some o :=
    fun hk b o e => hk b o (fun q => Nat.ne_of_lt (Heap.lt_size e) (List.mem_singleton.mp q)) (Heap.get?_push_of_some _ e)
  refine ⟨fun b o e => Heap.get?_push_of_some _ e, _, _, _, _, _, _, J, rfl, Walks.list hh s.heap.objs.size l hne vs.toArray, by simpa using hz, ⟨⟨_, Heap.get?_push_size _ rfl, rfl, rfl⟩, (lst_isList hl).push _⟩, ?_, h0, ?_, ?_⟩
  · intro b hb
    show b < (s.heap.push _).objs.size
    rw [Heap.size_push]
    have := Heap.lt_size hl
    rcases List.mem_cons.mp hb with rfl | hb
    · exact Nat.lt_succ_self _
    · rw [List.mem_singleton.mp hb]; exact Nat.lt_succ_of_lt this
  · intro E' i v h g tk ys C m hC hi hP hJ hn hm hk
    refine turn E' i v h g tk ys C m ?_ (by simpa using hP) hJ hn hm (up hk)
    rw [Heap.size_push] at hC
    exact hC
  · intro D h tk g ys k hD hd hk hJ
    refine done D h tk g ys k ?_ hd (up hk) (by simpa using hJ)
    cases e : s.heap.get? D with
    | none => rfl
    | some o => rw [Heap.get?_push_of_some _ e] at hD; cases hD
theorem pyIter_list {l : Addr} {vs : List Value} {k : Nat} {x : Str} {ifs : List Expr} {elt : Expr} {scope : Scope} {cl : List (Str × Addr)} {Q : Value → Shared → Prop} {E' : Value → Shared → Prop}
    (hh : A.handled = none) (hl : s.heap.get? l = some (lst vs k)) (hz : vs.length ≤ 100000)
    (J : Nat → List Value → Array GenState → Prop) (h0 : J 0 [] s.gens)
    (turn : ∀ E' i v h g tk ys C m, s.heap.objs.size < C → vs[i]? = some v → J i ys g → h.Ns C m → m x = some v → (∀ b o, s.heap.get? b = some o → h.get? b = some o) →
      wpAny (model prog w) A (testsOf ifs (compEnvC scope cl C env)) (fun ok s₃ => if ok = true then wpAny (model prog w) A (eval elt (compEnvC scope cl C env)) (fun y s₄ =>
          ∃ h' tk' g', s₄ = ⟨h', g', s.drawn, tk', s.os⟩ ∧ Kp [] h h' ∧ J (i + 1) (ys ++ [y]) g') E' s₃
        else ∃ h' tk' g', s₃ = ⟨h', g', s.drawn, tk', s.os⟩ ∧ Kp [] h h' ∧ J (i + 1) ys g') E' ⟨h, g, s.drawn, tk, s.os⟩)
    (done : ∀ D h tk g ys k, s.heap.get? D = none → h.get? D = some (lst ys k) → (∀ b o, s.heap.get? b = some o → h.get? b = some o) → J vs.length ys g → Q (.ref D) ⟨h, g, s.drawn, tk, s.os⟩) :
    wpAny (model prog w) A (pyIter (.ref l)) (fun it s₂ => CompAt prog w A scope cl env x ifs elt Q it s₂) E' s := by
  exact wpAny_mono (pyIter_listX hh hl hz J h0 turn done) (fun _ _ q => q.2) fun _ _ e => e
/-- over a range -/
theorem pyIter_rangeC {r : Addr} {a b : Int} {n : Nat} {t u v : Tok} {x : Str} {ifs : List Expr} {elt : Expr} {scope : Scope} {cl : List (Str × Addr)} {Q : Value → Shared → Prop} {E' : Value → Shared → Prop}
    (hh : A.handled = none) (hr : IsRange s.heap r a b 1 t u v) (hsm : Builtin.Range.small a b 1 = true) (hn : Builtin.Range.rangeSize a b 1 = (n : Int)) (hz : n ≤ 100000)
    (J : Nat → List Value → Array GenState → Prop) (h0 : J 0 [] s.gens)
    (turn : ∀ E' i tv h g tk ys C m, s.heap.objs.size < C → i < n → J i ys g → h.Ns C m → m x = some (.int (a + (i : Int)) tv) → (∀ b o, s.heap.get? b = some o → h.get? b = some o) →
      wpAny (model prog w) A (testsOf ifs (compEnvC scope cl C env)) (fun ok s₃ => if ok = true then wpAny (model prog w) A (eval elt (compEnvC scope cl C env)) (fun y s₄ =>
          ∃ h' tk' g', s₄ = ⟨h', g', s.drawn, tk', s.os⟩ ∧ Kp [] h h' ∧ J (i + 1) (ys ++ [y]) g') E' s₃
        else ∃ h' tk' g', s₃ = ⟨h', g', s.drawn, tk', s.os⟩ ∧ Kp [] h h' ∧ J (i + 1) ys g') E' ⟨h, g, s.drawn, tk, s.os⟩)
    (done : ∀ D h tk g ys k, s.heap.get? D = none → h.get? D = some (lst ys k) → (∀ b o, s.heap.get? b = some o → h.get? b = some o) → J n ys g → Q (.ref D) ⟨h, g, s.drawn, tk, s.os⟩) :
    wpAny (model prog w) A (pyIter (.ref r)) (fun it s₂ => CompAt prog w A scope cl env x ifs elt Q it s₂) E' s := by
  refine wpAny_pyIter_range hr hsm ?_
  rw [hn]
  generalize ho : ({ cls := .type "range_iterator", data := .fields #[rawInt a, rawInt (n : Int), rawInt 1] } : Obj) = io
  have up : ∀ {h : Heap}, (∀ b o, b ∉ [s.heap.objs.size] → (s.heap.push io).get? b = some o → h.get? b = some o) → ∀ b o, s.heap.get? b = some o → h.get? b = some o :=
    fun hk b o e => hk b o (fun q => Nat.ne_of_lt (Heap.lt_size e) (List.mem_singleton.mp q)) (Heap.get?_push_of_some _ e)
  refine ⟨_, _, _, _, _, _, J, rfl, Walks.range hh s.heap.objs.size a 1 n, hz, ?_, ?_, h0, ?_, ?_⟩
  · show IsRangeIter _ _ _ _ _
    have := Heap.get?_push_size s.heap (o := io) (by rw [← ho]; rfl)
    rw [← ho] at this ⊢
    simpa using this
  · intro b hb
    show b < (s.heap.push _).objs.size
    rw [Heap.size_push, List.mem_singleton.mp hb]
    exact Nat.lt_succ_self _
  · intro E' i v h g tk ys C m hC hi hP hJ hn' hm hk
    obtain ⟨tv, rfl⟩ := hP
    rw [Int.mul_one] at hm
    refine turn E' i tv h g tk ys C m ?_ hi hJ hn' hm (up hk)
    rw [Heap.size_push] at hC
    exact hC
  · intro D h tk g ys k hD hd hk hJ
    refine done D h tk g ys k ?_ hd (up hk) hJ
    cases e : s.heap.get? D with
    | none => rfl
    | some o => rw [Heap.get?_push_of_some _ e] at hD; cases hD
/-- over a text -/
theorem pyIter_strC {l : List Nat} {t : Tok} {x : Str} {ifs : List Expr} {elt : Expr} {scope : Scope} {cl : List (Str × Addr)} {Q : Value → Shared → Prop} {E' : Value → Shared → Prop}
    (hh : A.handled = none) (hz : l.length ≤ 100000)
    (J : Nat → List Value → Array GenState → Prop) (h0 : J 0 [] s.gens)
    (turn : ∀ E' i c tv h g tk ys C m, s.heap.objs.size < C → l[i]? = some c → J i ys g → h.Ns C m → m x = some (.str (T [c]) tv) → (∀ b o, s.heap.get? b = some o → h.get? b = some o) →
      wpAny (model prog w) A (testsOf ifs (compEnvC scope cl C env)) (fun ok s₃ => if ok = true then wpAny (model prog w) A (eval elt (compEnvC scope cl C env)) (fun y s₄ =>
          ∃ h' tk' g', s₄ = ⟨h', g', s.drawn, tk', s.os⟩ ∧ Kp [] h h' ∧ J (i + 1) (ys ++ [y]) g') E' s₃
        else ∃ h' tk' g', s₃ = ⟨h', g', s.drawn, tk', s.os⟩ ∧ Kp [] h h' ∧ J (i + 1) ys g') E' ⟨h, g, s.drawn, tk, s.os⟩)
    (done : ∀ D h tk g ys k, s.heap.get? D = none → h.get? D = some (lst ys k) → (∀ b o, s.heap.get? b = some o → h.get? b = some o) → J l.length ys g → Q (.ref D) ⟨h, g, s.drawn, tk, s.os⟩) :
    wpAny (model prog w) A (pyIter (.str (T l) t)) (fun it s₂ => CompAt prog w A scope cl env x ifs elt Q it s₂) E' s := by
  refine wpAny_pyIter_str fun io St W st => ?_
  have up : ∀ {h : Heap}, (∀ b o, b ∉ [s.heap.objs.size] → (s.heap.push io).get? b = some o → h.get? b = some o) → ∀ b o, s.heap.get? b = some o → h.get? b = some o :=
    fun hk b o e => hk b o (fun q => Nat.ne_of_lt (Heap.lt_size e) (List.mem_singleton.mp q)) (Heap.get?_push_of_some _ e)
  refine ⟨_, _, _, _, _, _, J, rfl, W A hh, by simpa [T] using hz, st, ?_, h0, ?_, ?_⟩
  · intro b hb
    show b < (s.heap.push _).objs.size
    rw [Heap.size_push, List.mem_singleton.mp hb]
    exact Nat.lt_succ_self _
  · rintro E' i v h g tk ys C m hC hi ⟨c, u, hc, rfl⟩ hJ hn' hm hk
    refine turn E' i c u h g tk ys C m ?_ (by simpa [T] using hc) hJ hn' hm (up hk)
    rw [Heap.size_push] at hC
    exact hC
  · intro D h tk g ys k hD hd hk hJ
    refine done D h tk g ys k ?_ hd (up hk) (by simpa [T] using hJ)
    cases e : s.heap.get? D with
    | none => rfl
    | some o => rw [Heap.get?_push_of_some _ e] at hD; cases hD
end
end Aq

namespace Aq
section
variable {M : Model} {A : Around} {E : Value → Shared → Prop} {s : Shared} {env : Env} {mg mb : Str → Option Value}
/-- names that lead out of the function, in any room -/
theorem nmBg {x : Str} {pos : Pos} {v : Value} {Q : Value → Shared → Prop} (W : Wd s.heap mg mb) (hv : bootBuiltins x = some v) (h : Q v s)
    (hm : x ∈ [("len" : Str), "range", "bytearray", "bytes", "ord"] := by decide) (hn : x ≠ "__name__" := by decide)
    (hg : env.globals = mainGlobals := by rfl) (hb : env.builtins = builtinsNs := by rfl) (hk : env.scope.kind = .function := by rfl) (hx : env.kindOf x = some .globalImplicit := by rfl) (hd : (x == ("__debug__" : Str)) = false := by decide) :
    wpAny M A (eval (.Name x pos) env) Q E s :=
  Name_function_global hk hx (loadGlobal_builtin (env := env) (show s.heap.Ns env.globals mg from hg ▸ W.g) (W.no x hm) (show s.heap.Ns env.builtins mb from hb ▸ W.b) ((W.bl x hn).trans hv) h) hd
theorem nmFg {x : Str} {pos : Pos} {d} {f : Addr} {Q : Value → Shared → Prop} (W : Wd s.heap mg mb) {h₀ : Heap} (hf : FnAt h₀ mg x d f) (h : Q (.ref f) s)
    (hg : env.globals = mainGlobals := by rfl) (hk : env.scope.kind = .function := by rfl) (hx : env.kindOf x = some .globalImplicit := by rfl) (hd : (x == ("__debug__" : Str)) = false := by decide) :
    wpAny M A (eval (.Name x pos) env) Q E s :=
  Name_function_global hk hx (loadGlobal_global (env := env) (show s.heap.Ns env.globals mg from hg ▸ W.g) hf.g h) hd
end
local macro_rules | `(tactic| walk_at "callWith ref") => `(tactic| refine callWith_f ?_)
local macro_rules | `(tactic| walk_at "exec For") => `(tactic| refine wpAny_For ?_)
local macro_rules | `(tactic| walk_at "eval Name") => `(tactic| first
  | refine ldLoc (by assumption) (by first | assumption | rfl) ?_
  | refine ldCN (by assumption) rfl (by news_mem) (by assumption) ?_
  | (refine nmFg (Wd.keeps (by assumption) (Fr.keep (by assumption))) (by assumption) ?_)
  | (refine nmBg (Wd.keeps (by assumption) (Fr.keep (by assumption))) bb_len ?_)
  | (refine nmBg (Wd.keeps (by assumption) (Fr.keep (by assumption))) bb_bytes ?_)
  | (refine nmBg (Wd.keeps (by assumption) (Fr.keep (by assumption))) bb_ord ?_)
  | (refine nmBg (Wd.keeps (by assumption) (Fr.keep (by assumption))) bb_range ?_))
theorem kpN {base h h' : Heap} {L : Addr} {news : List (Addr × Obj)} (N : News base L h news) (k : Kp [] h h') : News base L h' news := kp_news N k (fun _ hp => hp) (by simp)
theorem kpF {base h h' : Heap} {L : Addr} {m : Str → Option Value} (F : Fr base L h m) (k : Kp [] h h') : Fr base L h' m := kp_fr F k (by simp) (by simp)
section
variable {prog : Program} {w : World} {A : Around} {s : Shared} {base : Heap} {L a : Addr} {cd : Value} {mg mb : Str → Option Value} {E : Value → Shared → Prop}
theorem fnThen {P : Prop} {h₀ h : Heap} {mg : Str → Option Value} {x : Str} {d} {f : Addr} (hf : FnAt h₀ mg x d f) (k : ∀ b o, h₀.get? b = some o → h.get? b = some o) (hP : P) : FnThen f h P := by
  obtain ⟨o, pm, code, doc, ho, hd, _⟩ := hf.o
  exact ⟨⟨o, _, k _ _ ho, hd⟩, hP⟩
theorem new_ne {base h : Heap} {L D : Addr} {m : Str → Option Value} (F : Fr base L h m) (hD : h.get? D = none) : D ≠ L ∧ base.get? D = none := by
  refine ⟨?_, F.noneBack hD⟩
  obtain ⟨o, _, _, ho, _⟩ := F.ns
  intro e
  rw [e, ho] at hD
  cases hD
structure Fns (h : Heap) (mg : Str → Option Value) (f1 f3 f4 f5 f6 : Addr) : Prop where
  a1 : FnAt h mg "_findall" (defAt P0 1) f1
  a3 : FnAt h mg "_law_stands" (defAt P0 3) f3
  a4 : FnAt h mg "_law_marked" (defAt P0 4) f4
  a5 : FnAt h mg "_law_places" (defAt P0 5) f5
  a6 : FnAt h mg "_law_good" (defAt P0 6) f6
end
end Aq

namespace Aq
section
variable {prog : Program} {w : World} {A : Around} {E : Value → Shared → Prop} {s : Shared} {a b : Addr} {vs ws : List Value} {n k : Nat} {Q : Value → Shared → Prop}
theorem ints_eqAt {ns : List Int} : ∀ {vs ws : List Value}, IntsAre vs ns → IntsAre ws ns → ∀ j (h1 : j < vs.length) (h2 : j < ws.length), SeqAt.EqAt A s vs[j] ws[j] true := by
  induction ns with
  | nil => intro vs ws hv hw j h1 _; cases hv; cases h1
  | cons m ns ih =>
    intro vs ws hv hw j h1 h2
    obtain ⟨t, vs, rfl, hv'⟩ := hv.cons_inv
    obtain ⟨u, ws, rfl, hw'⟩ := hw.cons_inv
    cases j with
    | zero =>
      have := SeqAt.EqAt.int_int (A := A) (s := s) m t m u
      rw [beq_self_eq_true] at this
      exact this
    | succ j => exact ih hv' hw' j (by simpa using h1) (by simpa using h2)
theorem all_true (n : Nat) : (List.range n).all (fun _ => true) = true := by simp
theorem ne_ints {ns : List Int} (ha : s.heap.get? a = some (lst vs n)) (hb : s.heap.get? b = some (lst ws k)) (hv : IntsAre vs ns) (hw : IntsAre ws ns) (hu : A.units < cLine) (h : Q (.bool false) s) :
    wpAny (model prog w) A (compareOp .NotEq (.ref a) (.ref b)) Q E s := by
  have := SeqAt.RcNeAt.lists (A := A) (s := s) (e := fun _ => true) (lst_isList ha) (lst_isList hb) (by simp [hv.length, hw.length]) hu (fun j h1 h2 => by simpa using ints_eqAt hv hw j (by simpa using h1) (by simpa using h2))
  rw [all_true] at this
  exact this prog w E Q h
theorem eq_ints {ns : List Int} (ha : s.heap.get? a = some (lst vs n)) (hb : s.heap.get? b = some (lst ws k)) (hv : IntsAre vs ns) (hw : IntsAre ws ns) (hu : A.units < cLine) (h : Q (.bool true) s) :
    wpAny (model prog w) A (compareOp .Eq (.ref a) (.ref b)) Q E s := by
  have := SeqAt.RcAt.lists (A := A) (s := s) (e := fun _ => true) (lst_isList ha) (lst_isList hb) (by simp [hv.length, hw.length]) hu (fun j h1 h2 => by simpa using ints_eqAt hv hw j (by simpa using h1) (by simpa using h2))
  rw [all_true] at this
  exact this prog w E Q h
theorem eq_bools (ha : s.heap.get? a = some (lst vs n)) (hb : s.heap.get? b = some (lst ws k)) (hv : ∀ v ∈ vs, v = .bool true) (hw : ∀ v ∈ ws, v = .bool true) (hl : vs.length = ws.length) (hu : A.units < cLine) (h : Q (.bool true) s) :
    wpAny (model prog w) A (compareOp .Eq (.ref a) (.ref b)) Q E s := by
  have := SeqAt.RcAt.lists (A := A) (s := s) (e := fun _ => true) (lst_isList ha) (lst_isList hb) (by simpa using hl) hu (fun j h1 h2 => by
    have e1 := hv _ (List.getElem_mem (l := vs) (n := j) (by simpa using h1))
    have e2 := hw _ (List.getElem_mem (l := ws) (n := j) (by simpa using h2))
    simp only [List.getElem_toArray, e1, e2]
    exact SeqAt.EqAt.same _)
  rw [all_true] at this
  exact this prog w E Q h
end
end Aq

namespace Aq
local macro_rules | `(tactic| walk_at "aq one line more") => `(tactic| skip)
local macro_rules | `(tactic| walk_at "callWith ref") => `(tactic| refine callWith_f ?_)
local macro_rules | `(tactic| walk_at "exec For") => `(tactic| refine wpAny_For ?_)
local macro_rules | `(tactic| walk_at "eval Name") => `(tactic| first
  | refine ldLoc (by assumption) (by first | assumption | rfl) ?_
  | refine ldCN (by assumption) rfl (by repeat (first | exact .head _ | refine .tail _ ?_)) (by assumption) ?_
  | (refine nmFg (Wd.keeps (by assumption) (Fr.keep (by assumption))) (by assumption) ?_)
  | (refine nmBg (Wd.keeps (by assumption) (Fr.keep (by assumption))) bb_len ?_)
  | (refine nmBg (Wd.keeps (by assumption) (Fr.keep (by assumption))) bb_bytes ?_)
  | (refine nmBg (Wd.keeps (by assumption) (Fr.keep (by assumption))) bb_ord ?_)
  | (refine nmBg (Wd.keeps (by assumption) (Fr.keep (by assumption))) bb_range ?_)
  | refine ldVarK (by assumption) (by assumption) ?_
  | refine ldCellK rfl (by assumption) ?_
  | refine nmBg (by assumption) bb_len ?_)
section
variable {M : Model} {A : Around} {E : Value → Shared → Prop} {s : Shared} {scope : Scope} {cl : List (Str × Addr)} {C : Addr} {env : Env}
theorem ldCellK {x : Str} {pos : Pos} {c : Addr} {v : Value} {Q : Value → Shared → Prop} (hc : cl.lookup x = some c) (hv : s.heap.IsCell c (some v)) (h : Q v s)
    (hk : (compEnvC scope cl C env).scope.kind = .function := by rfl) (hl : (compEnvC scope cl C env).kindOf x = some .cell := by rfl) (hd : (x == ("__debug__" : Str)) = false := by decide) :
    wpAny M A (eval (.Name x pos) (compEnvC scope cl C env)) Q E s := wpAny_Name (wpAny_loadName_cell hk hl hc hv h) hd
end
theorem toZ_append (a b : List Nat) : toZ (a ++ b) = toZ a ++ toZ b := by simp [toZ]
theorem toZ_at {l : List Nat} {i : Nat} (h : i < l.length) : (toZ l).getD i 0 = ((l[i] : Nat) : Int) := by simp [toZ, List.getD_eq_getElem?_getD, h]
theorem take_filter {l : List Nat} {i : Nat} (h : i < l.length) (f : Nat → Bool) : (l.take (i + 1)).filter f = (l.take i).filter f ++ if f l[i] then [l[i]] else [] := by
  rw [List.take_add_one, List.getElem?_eq_getElem h, List.filter_append]
  cases hp : f l[i] <;> simp [hp]
theorem toZ_length (l : List Nat) : (toZ l).length = l.length := by simp [toZ]
section
variable {prog : Program} {w : World} {A : Around} {s : Shared} {base : Heap} {L a : Addr} {cd : Value} {mg mb : Str → Option Value} {E : Value → Shared → Prop}
theorem slice_T1 {xs : List Nat} {j : Nat} (hj : j ≤ xs.length) : Txt.slice (T xs) none (some (j : Int)) = T (xs.take j) := by
  refine (StrLaws.sliceText_to (x := T xs) (j := (j : Int)) ⟨by omega, by simpa [T] using hj⟩).trans ?_
  show T _ = T _
  congr 1
def goodEnv (L a : Addr) (cd : Value) : Env := envOfC "_law_good" (defAt P0 6).2.2 L a cd
def cutLoop : List Stmt := match (defAt P0 6).2.1.getD 2 default with
  | .For _ _ b _ _ => b
  | _ => []
theorem cut_turn {xs ns : List Nat} {t t' : Tok} {cut : Nat} {D : Addr} {vs : List Value} {n : Nat} {tc : Tok} {f1 f3 f4 f5 f6 : Addr} {it : Addr} {io o1 o2 o3 : Obj} {m : Str → Option Value} {Q : Flow → Shared → Prop} (hne : ns ≠ []) (W : Wd base mg mb) (hF : Fns base mg f1 f3 f4 f5 f6) (hh : A.handled = none) (hroom : A.depth + 3 < recursionLimit)
    (hzx : xs.length ≤ 400) (hzn : ns.length ≤ 100) (hcut : cut ≤ xs.length)
    (F : Fr base L s.heap m) (N : News base L s.heap [(it, io), (L + 3, o3), (D, lst vs n), (L + 2, o2), (L + 1, o1)]) (h1 : o1.data = .cell (some (.str (T ns) t'))) (h2 : o2.data = .cell (some (.ref D))) (h3 : o3.data = .cell (some (.int (cut : Int) tc)))
    (hI : IntsAre vs (toZ (occ xs ns))) (hm1 : m "hay" = some (.str (T xs) t))
    (hu : A.units < cLine) (h : ∀ h' tk gs, Fr base L h' m → News base L h' [(it, io), (L + 3, o3), (D, lst vs n), (L + 2, o2), (L + 1, o1)] → gs.bare = true → Q .next ⟨h', s.gens.push gs, s.drawn, tk, s.os⟩) :
    wpAny (model prog w) A (execs cutLoop (goodEnv L a cd)) Q E s := by
  have hT := T_length xs
  have hTn := T_length ns
  have ha1 := hF.a1
  have ha5 := hF.a5
  unfold cutLoop goodEnv
  show wpAny _ _ (execs (_ :: _) _) _ _ _
  refine wpAny_execs_cons ?_
  repeat walk1
  refine fnThen ha5 (Fr.keep (by assumption)) ?_
  rw [slice_T1 hcut]
  rename_i F0 N0 _
  refine places_call (find_str (by omega)) (W.keeps F0.keep) (ha1.keeps F0.keep) (ha5.keeps F0.keep) (by omega) hh (by rw [List.length_take]; omega) fun h1' tk1 D1 vs1 n1 gs k1 hD1 hD1n hI1 hgs => ?_
  have F1 := kpF F0 k1
  have N1 := news_put (kpN N0 k1) hD1 (new_ne F0 hD1n).1 (new_ne F0 hD1n).2
  refine compRule (by with_unfolding_all rfl) (by decide) rfl (by decide) rfl ?_
  repeat walk1
  have hvl : vs.length = (occ xs ns).length := by rw [hI.length, toZ_length]
  refine pyIter_list hh (N1 (D, lst vs n) (by simp)).1 (by rw [hvl]; have := occ_short (xs := xs) hne; omega) (fun i ys g => g = s.gens.push gs ∧ IntsAre ys (toZ (((occ xs ns).take i).filter fun p => decide (p + ns.length ≤ cut)))) ⟨rfl, .nil⟩ ?_ ?_
  · rintro E' i v h2' g tk ys C m2 hC hv ⟨rfl, hys⟩ hn2 hm2 hk2
    have hi : i < (occ xs ns).length := by
      rcases Nat.lt_or_ge i vs.length with q | q
      · omega
      · rw [List.getElem?_eq_none q] at hv; cases hv
    obtain ⟨u, rfl⟩ := hI.int_at i v hv
    rw [toZ_at hi] at hm2
    have hc1 : h2'.IsCell (L + 1) (some (.str (T ns) t')) := ⟨o1, hk2 _ _ (N1 (L + 1, o1) (by simp)).1, h1⟩
    have hc3 : h2'.IsCell (L + 1 + 1 + 1) (some (.int (cut : Int) tc)) := ⟨o3, hk2 _ _ (N1 (L + 3, o3) (by simp)).1, h3⟩
    have W2 : Wd h2' mg mb := W.keeps fun b o e => hk2 b o (F1.keep b o e)
    refine wpAny_tests_one ?_
    iterate 7 walk1
    refine ldCellK (c := L + 1) rfl hc1 ?_
    iterate 3 walk1
    refine ldCellK (c := L + 1 + 1 + 1) rfl hc3 ?_
    iterate 3 walk1
    · rename_i hle
      walk1
      refine ⟨_, _, _, rfl, Kp.refl, rfl, ?_⟩
      rw [take_filter hi, if_pos (by rw [decide_eq_true_eq]; rw [hTn] at hle; omega), toZ_append]
      exact hys.append (.cons _ _ .nil)
    · rename_i hle
      refine ⟨_, _, _, rfl, Kp.refl, rfl, ?_⟩
      rw [take_filter hi, if_neg (by rw [decide_eq_true_eq]; rw [hTn] at hle; omega), List.append_nil]
      exact hys
  · rintro D2 h2' tk g ys k hD2n hD2 hk2 ⟨rfl, hys⟩
    rw [hvl, List.take_length, ← occ_take hne] at hys
    refine ne_ints (hk2 _ _ hD1) hD2 hI1 hys hu ?_
    have F2 : Fr base L h2' m := kpF F1 fun b o _ e => hk2 b o e
    have N2 : News base L h2' [(it, io), (L + 3, o3), (D, lst vs n), (L + 2, o2), (L + 1, o1)] := kpN (news_tail N1) fun b o _ e => hk2 b o e
    repeat walk1
    exact h _ _ gs F2 N2 hgs
end
end Aq

namespace Aq
section
variable {prog : Program} {w : World} {A : Around} {s : Shared} {base : Heap} {L a : Addr} {cd : Value} {mg mb : Str → Option Value} {E : Value → Shared → Prop}
abbrev ordScope : Scope := { kind := .function, names := [(".0", .local), ("sign", .local), ("ord", .globalImplicit)], isGenerator := false, isCoroutine := false }
theorem ord_turns {l : List Nat} {t : Tok} {env : Env} {p1 p2 p3 : Pos} {cl : List (Str × Addr)} {Q : Value → Shared → Prop} {E' : Value → Shared → Prop} (hh : A.handled = none) (hz : l.length ≤ 1000) (W : Wd s.heap mg mb) (hg : env.globals = mainGlobals) (hb : env.builtins = builtinsNs)
    (h : ∀ D h tk ys k, s.heap.get? D = none → h.get? D = some (lst ys k) → Kp [] s.heap h → IntsAre ys (toZ l) → Q (.ref D) ⟨h, s.gens, s.drawn, tk, s.os⟩) :
    wpAny (model prog w) A (pyIter (.str (T l) t)) (fun it s₂ => CompAt prog w A ordScope cl env "sign" [] (.Call (.Name "ord" p1) [.Name "sign" p2] [] p3) Q it s₂) E' s := by
  refine pyIter_strC hh (by omega) (fun i ys g => g = s.gens ∧ IntsAre ys (toZ (l.take i))) ⟨rfl, .nil⟩ ?_ ?_
  · rintro E' i c tv h2' g tk ys C m2 hC hc ⟨rfl, hys⟩ hn2 hm2 hk2
    have W2 : Wd h2' mg mb := W.keeps hk2
    refine wpAny_tests_nil ?_
    rw [if_pos rfl]
    walk1
    refine nmBg W2 bb_ord ?_ (hg := hg) (hb := hb)
    iterate 2 walk1
    refine ldVarK hn2 hm2 ?_
    walk1
    walk1
    refine ⟨_, _, _, rfl, Kp.refl, rfl, ?_⟩
    rw [List.take_add_one, hc, Option.toList_some, toZ_append]
    exact hys.append (.cons _ _ .nil)
  · rintro D h2' tk g ys k hDn hD hk ⟨rfl, hys⟩
    rw [List.take_length] at hys
    exact h D h2' tk ys k hDn hD (fun b o _ e => hk b o e) hys
end
end Aq

namespace Aq
local macro_rules | `(tactic| walk_at "callWith ref") => `(tactic| refine callWith_f ?_)
local macro_rules | `(tactic| walk_at "eval ListComp") => `(tactic| refine compRule (by with_unfolding_all rfl) (by decide) rfl (by decide) rfl ?_)
local macro_rules | `(tactic| walk_at "eval ListComp Call cons") => `(tactic| refine compRule (by with_unfolding_all rfl) (by decide) rfl (by decide) rfl ?_)
local macro_rules | `(tactic| walk_at "eval ListComp BinOp cons") => `(tactic| refine compRule (by with_unfolding_all rfl) (by decide) rfl (by decide) rfl ?_)
local macro_rules | `(tactic| walk_at "eval ListComp Name cons") => `(tactic| refine compRule (by with_unfolding_all rfl) (by decide) rfl (by decide) rfl ?_)
local macro_rules | `(tactic| walk_at "exec For") => `(tactic| refine wpAny_For ?_)
local macro_rules | `(tactic| walk_at "eval Name") => `(tactic| first
  | refine ldLoc (by assumption) (by first | assumption | rfl) ?_
  | refine ldCN (by assumption) rfl (by repeat (first | exact .head _ | refine .tail _ ?_)) (by assumption) ?_
  | (refine nmFg (Wd.keeps (by assumption) (Fr.keep (by assumption))) (by assumption) ?_)
  | (refine nmBg (Wd.keeps (by assumption) (Fr.keep (by assumption))) bb_len ?_)
  | (refine nmBg (Wd.keeps (by assumption) (Fr.keep (by assumption))) bb_bytes ?_)
  | (refine nmBg (Wd.keeps (by assumption) (Fr.keep (by assumption))) bb_ord ?_)
  | (refine nmBg (Wd.keeps (by assumption) (Fr.keep (by assumption))) bb_range ?_))
section
variable {prog : Program} {w : World} {A : Around} {s : Shared} {base : Heap} {L a : Addr} {cd : Value} {mg mb : Str → Option Value} {E : Value → Shared → Prop}
theorem good_head {xs ns : List Nat} {t t' : Tok} {f1 f3 f4 f5 f6 : Addr} {o1 o2 o3 : Obj} {m : Str → Option Value} {Q : Flow → Shared → Prop} {rest : List Stmt} (hne : ns ≠ []) (W : Wd base mg mb) (hF : Fns base mg f1 f3 f4 f5 f6) (hh : A.handled = none) (hroom : A.depth + 3 < recursionLimit)
    (hzx : xs.length ≤ 400) (hzn : ns.length ≤ 100) (hm1 : m "hay" = some (.str (T xs) t))
    (F : Fr base L s.heap m) (N : News base L s.heap [(L + 3, o3), (L + 2, o2), (L + 1, o1)]) (h1 : o1.data = .cell (some (.str (T ns) t'))) (h2 : o2.data = .cell none)
    (h : ∀ h' tk gs o2' D vs n, Fr base L h' m → News base L h' [(L + 3, o3), (D, lst vs n), (L + 2, o2'), (L + 1, o1)] → o2'.data = .cell (some (.ref D)) → IntsAre vs (toZ (occ xs ns)) → gs.bare = true →
      wpAny (model prog w) A (execs rest (goodEnv L a cd)) Q E ⟨h', s.gens.push gs, s.drawn, tk, s.os⟩) :
    wpAny (model prog w) A (execs ((defAt P0 6).2.1.getD 0 default :: (defAt P0 6).2.1.getD 1 default :: rest) (goodEnv L a cd)) Q E s := by
  have hT := T_length xs
  have hTn := T_length ns
  have ha1 := hF.a1
  have ha3 := hF.a3
  have ha5 := hF.a5
  unfold goodEnv at h ⊢
  show wpAny _ _ (execs (.Assign _ _ _ :: .If _ _ _ _ :: rest) _) _ _ _
  refine wpAny_execs_cons ?_
  repeat walk1
  refine fnThen ha5 F.keep ?_
  rename_i N0
  refine places_call (find_str (by omega)) (W.keeps F.keep) (ha1.keeps F.keep) (ha5.keeps F.keep) (by omega) hh (by omega) fun h1' tk1 D vs n gs k1 hD hDn hI hgs => ?_
  have F1 := kpF F k1
  have N1 := news_put (kpN N0 k1) hD (new_ne F hDn).1 (new_ne F hDn).2
  repeat walk1
  rename_i F2 N2 h2'
  refine fnThen ha3 (Fr.keep (by assumption)) ?_
  refine stands_call hne (occ_chain hne) (W.keeps (Fr.keep (by assumption))) (ha3.keeps (Fr.keep (by assumption))) (by omega) hh (by omega) (by omega) (N2 _ (.head _)).1 hI (by have := occ_short (xs := xs) hne; omega) fun h3' tk3 k3 => ?_
  have F3 := kpF F2 k3
  have N3 := kpN N2 k3
  repeat walk1
  refine h _ _ gs _ D vs n F3 (news_sub N3 ?_) h2' hI hgs
  intro p hp
  simp only [List.mem_cons, List.mem_append, List.not_mem_nil, or_false] at hp ⊢
  rcases hp with h | h | h | h <;> simp [h]
theorem good_cuts {xs ns : List Nat} {t t' : Tok} {cu : Addr} {cvs : List Value} {cn : Nat} {cs : List Nat} {D : Addr} {vs : List Value} {n : Nat} {f1 f3 f4 f5 f6 : Addr} {o1 o2 o3 : Obj} {m : Str → Option Value} {Q : Flow → Shared → Prop} {rest : List Stmt} (hne : ns ≠ []) (W : Wd base mg mb) (hF : Fns base mg f1 f3 f4 f5 f6) (hh : A.handled = none) (hroom : A.depth + 3 < recursionLimit) (hu : A.units < cLine)
    (hzx : xs.length ≤ 400) (hzn : ns.length ≤ 100) (hm1 : m "hay" = some (.str (T xs) t)) (hm2 : m "cuts" = some (.ref cu)) (hcu : base.get? cu = some (lst cvs cn)) (hcs : IntsAre cvs (toZ cs)) (hcl : ∀ c ∈ cs, c ≤ xs.length)
    (F : Fr base L s.heap m) (N : News base L s.heap [(L + 3, o3), (D, lst vs n), (L + 2, o2), (L + 1, o1)]) (h1 : o1.data = .cell (some (.str (T ns) t'))) (h2 : o2.data = .cell (some (.ref D))) (h3 : o3.data = .cell none)
    (hI : IntsAre vs (toZ (occ xs ns))) (hD : D ≠ L + 3) (hg : AllBare s.gens)
    (h : ∀ h' tk g, Fr base L h' m → News base L h' [(D, lst vs n), (L + 2, o2), (L + 1, o1)] → AllBare g →
      wpAny (model prog w) A (execs rest (goodEnv L a cd)) Q E ⟨h', g, s.drawn, tk, s.os⟩) :
    wpAny (model prog w) A (execs ((defAt P0 6).2.1.getD 2 default :: rest) (goodEnv L a cd)) Q E s := by
  unfold goodEnv at h ⊢
  show wpAny _ _ (execs (.For _ _ _ _ _ :: rest) _) _ _ _
  refine wpAny_execs_cons ?_
  refine wpAny_For ?_
  walk1
  refine forListC (c := L + 3) hh rfl rfl rfl F N h3 ?_ hcu (fun i m' g => m' = m ∧ AllBare g) ⟨rfl, hg⟩ ?_ ?_
  · intro p hp
    rcases List.mem_cons.mp hp with rfl | hp
    · exact hD
    · simp only [List.mem_cons, List.not_mem_nil, or_false] at hp
      rcases hp with rfl | rfl
      · show L + 2 ≠ L + 3; exact Nat.ne_of_lt (Nat.lt_succ_self _)
      · show L + 1 ≠ L + 3; exact Nat.ne_of_lt (Nat.lt_succ_of_lt (Nat.lt_succ_self _))
  · rintro E' i v m₁ h' g tk it io o' hv ⟨rfl, hg'⟩ F1 N1 hd
    obtain ⟨tc, rfl⟩ := hcs.int_at i v hv
    have hi : i < cs.length := by
      rcases Nat.lt_or_ge i cvs.length with q | q
      · rw [hcs.length, toZ_length] at q; exact q
      · rw [List.getElem?_eq_none q] at hv; cases hv
    rw [toZ_at hi] at hd
    refine cut_turn hne W hF hh hroom hzx hzn (hcl _ (List.getElem_mem hi)) F1 N1 h1 h2 hd hI hm1 hu fun h2' tk2 gs F2 N2 hgs => ?_
    exact ⟨_, _, _, _, rfl, F2, N2, rfl, hg'.push hgs⟩
  · rintro h' g tk m' o ov F1 N1 hd ⟨rfl, hg'⟩
    exact h _ _ _ F1 (news_tail N1) hg'
theorem z256 {l : List Nat} (h : ∀ x ∈ l, x < 256) : ∀ n ∈ toZ l, 0 ≤ n ∧ n < 256 := by
  intro n hn
  obtain ⟨x, hx, rfl⟩ := List.mem_map.mp hn
  have := h x hx
  omega
theorem good_octets {xs ns : List Nat} {t t' : Tok} {D : Addr} {vs : List Value} {n : Nat} {f1 f3 f4 f5 f6 : Addr} {o1 o2 : Obj} {m : Str → Option Value} {Q : Flow → Shared → Prop} {rest : List Stmt} (hne : ns ≠ []) (W : Wd base mg mb) (hF : Fns base mg f1 f3 f4 f5 f6) (hh : A.handled = none) (hroom : A.depth + 3 < recursionLimit) (hu : A.units < cLine)
    (hzx : xs.length ≤ 400) (hzn : ns.length ≤ 100) (hx : ∀ x ∈ xs, x < 256) (hn : ∀ x ∈ ns, x < 256) (hm1 : m "hay" = some (.str (T xs) t))
    (F : Fr base L s.heap m) (N : News base L s.heap [(D, lst vs n), (L + 2, o2), (L + 1, o1)]) (h1 : o1.data = .cell (some (.str (T ns) t'))) (h2 : o2.data = .cell (some (.ref D)))
    (hI : IntsAre vs (toZ (occ xs ns))) (hg : AllBare s.gens)
    (h : ∀ h' tk g m', Fr base L h' m' → m' "hay" = some (.str (T xs) t) → News base L h' [(D, lst vs n), (L + 2, o2), (L + 1, o1)] → AllBare g →
      wpAny (model prog w) A (execs rest (goodEnv L a cd)) Q E ⟨h', g, s.drawn, tk, s.os⟩) :
    wpAny (model prog w) A (execs ((defAt P0 6).2.1.getD 3 default :: (defAt P0 6).2.1.getD 4 default :: rest) (goodEnv L a cd)) Q E s := by
  have ha5 := hF.a5
  unfold goodEnv at h ⊢
  show wpAny _ _ (execs (.Assign _ _ _ :: .If _ _ _ _ :: rest) _) _ _ _
  refine wpAny_execs_cons ?_
  repeat walk1
  refine ord_turns (l := xs) (env := envOfC "_law_good" (defAt P0 6).2.2 L a cd) hh (by omega) (W.keeps F.keep) rfl rfl fun D1 hh1 tk1 ys1 kk1 hD1n hD1 K1 hI1 => ?_
  have F1 := kpF F K1
  have N1 := kpN N K1
  clear F
  repeat walk1
  refine call_bytes_ints (lst_isList hD1) hI1 (z256 hx) (by rw [hI1.length, toZ_length]; have := sizeLine_eq; omega) hh fun hh2 tb2 tk2 K2 => ?_
  replace F1 := kpF F1 (fun b o _ e => K2 b o e)
  replace N1 := kpN N1 (fun b o _ e => K2 b o e)
  repeat walk1
  rename_i F2 N2 _ _
  refine ord_turns (l := ns) (env := envOfC "_law_good" (defAt P0 6).2.2 L a cd) hh (by omega) (W.keeps F2.keep) rfl rfl fun D3 hh3 tk3 ys3 kk3 hD3n hD3 K3 hI3 => ?_
  have F3 := kpF F2 K3
  have N3 := kpN N2 K3
  clear F2 N2
  repeat walk1
  refine call_bytes_ints (lst_isList hD3) hI3 (z256 hn) (by rw [hI3.length, toZ_length]; have := sizeLine_eq; omega) hh fun hh4 tb4 tk4 K4 => ?_
  replace F3 := kpF F3 (fun b o _ e => K4 b o e)
  replace N3 := kpN N3 (fun b o _ e => K4 b o e)
  repeat walk1
  refine fnThen ha5 F3.keep ?_
  refine places_call (find_bytes hx hn (by omega)) (W.keeps F3.keep) (hF.a1.keeps F3.keep) (ha5.keeps F3.keep) (by omega) hh (by omega) fun h5 tk5 D5 vs5 n5 gs k5 hD5 hD5n hI5 hgs => ?_
  replace F3 := kpF F3 k5
  replace N3 := kpN N3 k5
  repeat walk1
  have N4 : News base L h5 [(D, lst vs n), (L + 2, o2), (L + 1, o1)] := by assumption
  refine ne_ints hD5 (N4 _ (.head _)).1 hI5 hI hu ?_
  repeat walk1
  exact h _ _ _ _ F3 hm1 N4 (hg.push hgs)
end
end Aq

namespace Aq
open AutoSeq1 in
section
variable {prog : Program} {w : World} {A : Around} {E : Value → Shared → Prop} {s : Shared} {L : Addr} {base : Heap} {m : Str → Option Value} {news : List (Addr × Obj)}
theorem len_N {r : Addr} {vs n xs} {Q : Value → Shared → Prop} (N : News base L s.heap news) (hm : (r, lst vs n) ∈ news) (hi : IntsAre vs xs) (hz : xs.length ≤ 100000)
    (h : ∀ t t', Q (.int xs.length t') { s with toks := t }) : wpAny (model prog w) A (call (.builtin "len") [.ref r]) Q E s := by
  have e : ((vs.toArray.size : Nat) : Int) = xs.length := by rw [List.size_toArray, hi.length]
  refine call_len_list (items := vs.toArray) (lst_isList (N _ hm).1) (by rw [e]; omega) ?_
  rw [e]; exact h _ _
theorem get_lst {value slice : PySem.Expr} {r : Addr} {vs n xs} {i : Nat} {u : Tok} {Q : Value → Shared → Prop} (N : News base L s.heap news) (hm : (r, lst vs n) ∈ news) (hi : IntsAre vs xs) (hl : i < xs.length) (hz : xs.length ≤ 100000)
    (h : ∀ t, Q (.int (xs.getD i 0) t) s) (hs : subscripted slice false (.ref r) (.int (i : Int) u) = operate [.ref r, .int (i : Int) u] (getItem (.ref r) (.int (i : Int) u)) := by with_unfolding_all rfl) :
    wpAny (model prog w) A (subscriptTail value slice (.ref r) (.int (i : Int) u)) Q E s := ksa_sub (vs := vs) (n := n) N hm hi (by omega) (by omega) (by omega) (by simpa using h) hs
end
end Aq

namespace Aq
local macro_rules | `(tactic| walk_at "callWith ref") => `(tactic| refine callWith_f ?_)
local macro_rules | `(tactic| walk_at "eval ListComp") => `(tactic| refine compRule (by with_unfolding_all rfl) (by decide) rfl (by decide) rfl ?_)
local macro_rules | `(tactic| walk_at "eval ListComp Call cons") => `(tactic| refine compRule (by with_unfolding_all rfl) (by decide) rfl (by decide) rfl ?_)
local macro_rules | `(tactic| walk_at "eval ListComp BinOp cons") => `(tactic| refine compRule (by with_unfolding_all rfl) (by decide) rfl (by decide) rfl ?_)
local macro_rules | `(tactic| walk_at "eval ListComp Name cons") => `(tactic| refine compRule (by with_unfolding_all rfl) (by decide) rfl (by decide) rfl ?_)
local macro_rules | `(tactic| walk_at "exec For") => `(tactic| refine wpAny_For ?_)
local macro_rules | `(tactic| walk_at "eval Name") => `(tactic| first
  | refine ldLoc (by assumption) (by first | assumption | rfl) ?_
  | refine ldCN (by assumption) rfl (by repeat (first | exact .head _ | refine .tail _ ?_)) (by assumption) ?_
  | (refine nmFg (Wd.keeps (by assumption) (Fr.keep (by assumption))) (by assumption) ?_)
  | (refine nmBg (Wd.keeps (by assumption) (Fr.keep (by assumption))) bb_len ?_)
  | (refine nmBg (Wd.keeps (by assumption) (Fr.keep (by assumption))) bb_bytes ?_)
  | (refine nmBg (Wd.keeps (by assumption) (Fr.keep (by assumption))) bb_ord ?_)
  | (refine nmBg (Wd.keeps (by assumption) (Fr.keep (by assumption))) bb_range ?_))
section
variable {prog : Program} {w : World} {A : Around} {s : Shared} {base : Heap} {L a : Addr} {cd : Value} {mg mb : Str → Option Value} {E : Value → Shared → Prop}
theorem good_marked {xs ns : List Nat} {t t' : Tok} {D : Addr} {vs : List Value} {n : Nat} {f1 f3 f4 f5 f6 : Addr} {o1 o2 : Obj} {m : Str → Option Value} {Q : Flow → Shared → Prop} {rest : List Stmt} (hne : ns ≠ []) (W : Wd base mg mb) (hF : Fns base mg f1 f3 f4 f5 f6) (hh : A.handled = none) (hroom : A.depth + 3 < recursionLimit) (hu : A.units < cLine)
    (hzx : xs.length ≤ 400) (hzn : ns.length ≤ 100) (h99 : 99 ∉ ns) (hm1 : m "hay" = some (.str (T xs) t))
    (F : Fr base L s.heap m) (N : News base L s.heap [(D, lst vs n), (L + 2, o2), (L + 1, o1)]) (h1 : o1.data = .cell (some (.str (T ns) t'))) (h2 : o2.data = .cell (some (.ref D)))
    (hI : IntsAre vs (toZ (occ xs ns))) (hg : AllBare s.gens)
    (h : ∀ h' tk g m' tm, Fr base L h' m' → m' "marked" = some (.str (T (mark xs ns.length 0 (occ xs ns))) tm) → News base L h' [(D, lst vs n), (L + 2, o2), (L + 1, o1)] → AllBare g →
      wpAny (model prog w) A (execs rest (goodEnv L a cd)) Q E ⟨h', g, s.drawn, tk, s.os⟩) :
    wpAny (model prog w) A (execs ((defAt P0 6).2.1.getD 5 default :: (defAt P0 6).2.1.getD 6 default :: rest) (goodEnv L a cd)) Q E s := by
  have ha5 := hF.a5
  have ha4 := hF.a4
  have hol := occ_short (xs := xs) hne
  have hml := mark_length (occ xs ns) 0 (occ_chain (xs := xs) hne) hne (Nat.zero_le _)
  unfold goodEnv at h ⊢
  show wpAny _ _ (execs (.Assign _ _ _ :: .If _ _ _ _ :: rest) _) _ _ _
  refine wpAny_execs_cons ?_
  repeat walk1
  refine fnThen ha4 F.keep ?_
  rename_i N0
  refine marked_call hne (occ_chain hne) (W.keeps F.keep) (ha4.keeps F.keep) (by omega) hh (by omega) (by omega) (N0 _ (.head _)).1 hI (by omega) fun h1' tk1 tm1 k1 => ?_
  have F1 := kpF F k1
  have N1 := kpN N0 k1
  clear F N0
  repeat walk1
  refine fnThen ha5 (Fr.keep (by assumption)) ?_
  rename_i F2 N2 _ _
  refine places_call (find_str (by omega)) (W.keeps F2.keep) (hF.a1.keeps F2.keep) (ha5.keeps F2.keep) (by omega) hh (by omega) fun h3 tk3 D3 vs3 n3 gs3 k3 hD3 hD3n hI3 hgs3 => ?_
  have F3 := kpF F2 k3
  have N3 := news_put (kpN N2 k3) hD3 (new_ne F2 hD3n).1 (new_ne F2 hD3n).2
  rw [occ_mark hne h99 (occ_chain hne)] at hI3
  clear F2 N2
  repeat walk1
  rename_i F4 N4
  refine ne_ints (vs := vs3) (ws := []) (n := n3) (k := 0) (N4 _ (.tail _ (.head _))).1 (N4 _ (.head _)).1 hI3 .nil hu ?_
  repeat walk1
  refine fnThen ha5 (Fr.keep (by assumption)) ?_
  have F5 := F4
  have N5 := N4
  clear F4 N4
  rw [show ("" : Str) = T [] from rfl]
  refine places_call (find_str (by omega)) (W.keeps F5.keep) (hF.a1.keeps F5.keep) (ha5.keeps F5.keep) (by omega) hh (by simp) fun h6 tk6 D6 vs6 n6 gs6 k6 hD6 hD6n hI6 hgs6 => ?_
  have F6 := kpF F5 k6
  have N6 := news_put (kpN N5 k6) hD6 (new_ne F5 hD6n).1 (new_ne F5 hD6n).2
  rw [occ_nil hne] at hI6
  clear F5 N5
  repeat walk1
  rename_i F7 N7
  refine ne_ints (vs := vs6) (ws := []) (n := n6) (k := 0) (N7 _ (.tail _ (.head _))).1 (N7 _ (.head _)).1 hI6 .nil hu ?_
  repeat walk1
  exact h _ _ _ _ tm1 F7 rfl (news_sub N7 fun p hp => .tail _ (.tail _ (.tail _ (.tail _ hp)))) ((hg.push hgs3).push hgs6)
end
end Aq

namespace Aq
local macro_rules | `(tactic| walk_at "callWith ref") => `(tactic| refine callWith_f ?_)
local macro_rules | `(tactic| walk_at "eval ListComp") => `(tactic| refine compRule (by with_unfolding_all rfl) (by decide) rfl (by decide) rfl ?_)
local macro_rules | `(tactic| walk_at "eval ListComp Call cons") => `(tactic| refine compRule (by with_unfolding_all rfl) (by decide) rfl (by decide) rfl ?_)
local macro_rules | `(tactic| walk_at "eval ListComp BinOp cons") => `(tactic| refine compRule (by with_unfolding_all rfl) (by decide) rfl (by decide) rfl ?_)
local macro_rules | `(tactic| walk_at "eval ListComp Name cons") => `(tactic| refine compRule (by with_unfolding_all rfl) (by decide) rfl (by decide) rfl ?_)
local macro_rules | `(tactic| walk_at "exec For") => `(tactic| refine wpAny_For ?_)
local macro_rules | `(tactic| walk_at "eval Name") => `(tactic| first
  | refine ldLoc (by assumption) (by first | assumption | rfl) ?_
  | refine ldCN (by assumption) rfl (by repeat (first | exact .head _ | refine .tail _ ?_)) (by assumption) ?_
  | (refine nmFg (Wd.keeps (by assumption) (Fr.keep (by assumption))) (by assumption) ?_)
  | (refine nmBg (Wd.keeps (by assumption) (Fr.keep (by assumption))) bb_len ?_)
  | (refine nmBg (Wd.keeps (by assumption) (Fr.keep (by assumption))) bb_bytes ?_)
  | (refine nmBg (Wd.keeps (by assumption) (Fr.keep (by assumption))) bb_ord ?_)
  | (refine nmBg (Wd.keeps (by assumption) (Fr.keep (by assumption))) bb_range ?_))
section
variable {prog : Program} {w : World} {A : Around} {s : Shared} {base : Heap} {L a : Addr} {cd : Value} {mg mb : Str → Option Value} {E : Value → Shared → Prop}
theorem good_last {xs ns : List Nat} {t' tm : Tok} {D : Addr} {vs : List Value} {n : Nat} {f1 f3 f4 f5 f6 : Addr} {o1 o2 : Obj} {m : Str → Option Value} {Q : Flow → Shared → Prop} (hne : ns ≠ []) (W : Wd base mg mb) (hF : Fns base mg f1 f3 f4 f5 f6) (hh : A.handled = none) (hroom : A.depth + 3 < recursionLimit) (hu : A.units < cLine)
    (hzx : xs.length ≤ 400) (hzn : ns.length ≤ 100) (h99 : 99 ∉ xs) (hm1 : m "marked" = some (.str (T (mark xs ns.length 0 (occ xs ns))) tm))
    (F : Fr base L s.heap m) (N : News base L s.heap [(D, lst vs n), (L + 2, o2), (L + 1, o1)]) (h1 : o1.data = .cell (some (.str (T ns) t'))) (h2 : o2.data = .cell (some (.ref D)))
    (hI : IntsAre vs (toZ (occ xs ns))) (hg : AllBare s.gens)
    (h : ∀ h' tk g, (∀ b o, base.get? b = some o → h'.get? b = some o) → AllBare g → Q (.ret (.bool true)) ⟨h', g, s.drawn, tk, s.os⟩) :
    wpAny (model prog w) A (execs [(defAt P0 6).2.1.getD 7 default] (goodEnv L a cd)) Q E s := by
  have ha5 := hF.a5
  have hol := occ_short (xs := xs) hne
  have hml := mark_length (occ xs ns) 0 (occ_chain (xs := xs) hne) hne (Nat.zero_le _)
  have hTn := T_length ns
  have hvl : vs.length = (occ xs ns).length := by rw [hI.length, toZ_length]
  unfold goodEnv
  show wpAny _ _ (execs (.Return _ _ :: _) _) _ _ _
  refine wpAny_execs_cons ?_
  repeat walk1
  refine fnThen ha5 F.keep ?_
  have F0 := F
  have N0 := N
  clear F N
  rw [c_T]
  refine places_call (find_str (by simp)) (W.keeps F0.keep) (hF.a1.keeps F0.keep) (ha5.keeps F0.keep) (by omega) hh (by omega) fun h1' tk1 D1 vs1 n1 gs1 k1 hD1 hD1n hI1 hgs1 => ?_
  have F1 := kpF F0 k1
  have N1 := news_put (kpN N0 k1) hD1 (new_ne F0 hD1n).1 (new_ne F0 hD1n).2
  clear F0 N0
  rw [occ_marks hne h99 (occ_chain hne), marks_range hne (occ_chain hne)] at hI1
  repeat walk1
  rename_i N2
  refine len_N N2 (.tail _ (.head _)) hI (by rw [toZ_length]; omega) fun tl tl' => ?_
  dsimp only
  rw [toZ_length]
  repeat walk1
  rename_i hr F3 N3 K3
  refine pyIter_rangeC (n := (occ xs ns).length) hh hr (small_one (by omega) (by omega) (by omega) (by omega)) (by rw [rangeSize_one]; split <;> omega) (by omega)
    (fun i ys g => g = s.gens.push gs1 ∧ IntsAre ys ((List.range i).map fun k => (((occ xs ns).getD k 0 : Nat) : Int) - (k : Int) * ((ns.length : Int) - 1))) ⟨rfl, .nil⟩ ?_ ?_
  · rintro E' i tv h2' g tk ys C m2 hC hi ⟨rfl, hys⟩ hn2 hm2 hk2
    rw [Int.zero_add] at hm2
    have hc1 : h2'.IsCell (L + 1) (some (.str (T ns) t')) := ⟨o1, hk2 _ _ (N3 (L + 1, o1) (by simp)).1, h1⟩
    have hc2 : h2'.IsCell (L + 1 + 1) (some (.ref D)) := ⟨o2, hk2 _ _ (N3 (L + 2, o2) (by simp)).1, h2⟩
    have hDl : h2'.get? D = some (lst vs n) := hk2 _ _ (N3 (D, lst vs n) (by simp)).1
    have W2 : Wd h2' mg mb := W.keeps fun b o e => hk2 b o (F3.keep b o e)
    refine wpAny_tests_nil ?_
    rw [if_pos rfl]
    iterate 2 walk1
    refine ldCellK (c := L + 1 + 1) rfl hc2 ?_
    walk1
    have N4 : News base L h2' [(D1, lst vs1 n1), (D, lst vs n), (L + 2, o2), (L + 1, o1)] := kpN N3 (fun b o _ e => hk2 b o e)
    refine get_lst N4 (.tail _ (.head _)) hI (by rw [toZ_length]; exact hi) (by rw [toZ_length]; omega) fun tg => ?_
    rw [toZ_at hi]
    iterate 4 walk1
    refine nmBg W2 bb_len ?_
    iterate 2 walk1
    refine ldCellK (c := L + 1) rfl hc1 ?_
    iterate 6 walk1
    refine ⟨_, _, _, rfl, Kp.refl, rfl, ?_⟩
    rw [List.range_succ, List.map_append, hTn]
    have e : (occ xs ns).getD i 0 = (occ xs ns)[i] := by simp [List.getD_eq_getElem?_getD, hi]
    refine hys.append ?_
    rw [List.map_singleton, e]
    exact .cons _ _ .nil
  · rintro D2 h2' tk g ys k hD2n hD2 hk2 ⟨rfl, hys⟩
    refine eq_ints (hk2 _ _ (N3 _ (.head _)).1) hD2 hI1 hys hu ?_
    exact h _ _ _ (fun b o e => hk2 b o (F3.keep b o e)) (hg.push hgs1)
end
end Aq

namespace Aq
section
variable {prog : Program} {w : World} {A : Around} {s : Shared} {base : Heap} {L a : Addr} {cd : Value} {mg mb : Str → Option Value} {E : Value → Shared → Prop}
theorem good_body {xs ns : List Nat} {t t' : Tok} {cu : Addr} {cvs : List Value} {cn : Nat} {cs : List Nat} {f1 f3 f4 f5 f6 : Addr} {o1 o2 o3 : Obj} {m : Str → Option Value} {Q : Flow → Shared → Prop} (hne : ns ≠ []) (W : Wd base mg mb) (hF : Fns base mg f1 f3 f4 f5 f6) (hh : A.handled = none) (hroom : A.depth + 3 < recursionLimit) (hu : A.units < cLine)
    (hzx : xs.length ≤ 400) (hzn : ns.length ≤ 100) (hx : ∀ x ∈ xs, x < 99) (hn : ∀ x ∈ ns, x < 99) (hm1 : m "hay" = some (.str (T xs) t)) (hm2 : m "cuts" = some (.ref cu)) (hcu : base.get? cu = some (lst cvs cn)) (hcs : IntsAre cvs (toZ cs)) (hcl : ∀ c ∈ cs, c ≤ xs.length)
    (F : Fr base L s.heap m) (N : News base L s.heap [(L + 3, o3), (L + 2, o2), (L + 1, o1)]) (h1 : o1.data = .cell (some (.str (T ns) t'))) (h2 : o2.data = .cell none) (h3 : o3.data = .cell none) (hg : AllBare s.gens)
    (h : ∀ h' tk g, (∀ b o, base.get? b = some o → h'.get? b = some o) → AllBare g → Q (.ret (.bool true)) ⟨h', g, s.drawn, tk, s.os⟩) :
    wpAny (model prog w) A (execs (defAt P0 6).2.1 (goodEnv L a cd)) Q E s := by
  have e : (defAt P0 6).2.1 = (defAt P0 6).2.1.getD 0 default :: (defAt P0 6).2.1.getD 1 default :: (defAt P0 6).2.1.getD 2 default :: (defAt P0 6).2.1.getD 3 default :: (defAt P0 6).2.1.getD 4 default :: (defAt P0 6).2.1.getD 5 default :: (defAt P0 6).2.1.getD 6 default :: [(defAt P0 6).2.1.getD 7 default] := by rfl
  rw [e]
  refine good_head hne W hF hh hroom hzx hzn hm1 F N h1 h2 fun h1' tk1 gs1 o2' D vs n F1 N1 h2' hI hgs1 => ?_
  have hD : D ≠ L + 3 := by
    intro q
    have a1 := (N1 (L + 3, o3) (by simp)).1
    have a2 := (N1 (D, lst vs n) (by simp)).1
    dsimp only at a1 a2
    rw [q, a1] at a2
    have a3 := Option.some.inj a2
    rw [a3] at h3
    cases h3
  refine good_cuts hne W hF hh hroom hu hzx hzn hm1 hm2 hcu hcs hcl F1 N1 h1 h2' h3 hI hD (hg.push hgs1) fun h2'' tk2 g2 F2 N2 hg2 => ?_
  refine good_octets hne W hF hh hroom hu hzx hzn (fun x q => by have := hx x q; omega) (fun x q => by have := hn x q; omega) hm1 F2 N2 h1 h2' hI hg2 fun h3' tk3 g3 m3 F3 hm3 N3 hg3 => ?_
  refine good_marked hne W hF hh hroom hu hzx hzn (fun q => by have := hn _ q; omega) hm3 F3 N3 h1 h2' hI hg3 fun h4' tk4 g4 m4 tm F4 hm4 N4 hg4 => ?_
  exact good_last hne W hF hh hroom hu hzx hzn (fun q => by have := hx _ q; omega) hm4 F4 N4 h1 h2' hI hg4 h
theorem bind_good {pm code doc : Value} (x y z : Value) : bindArgs (docDef "_law_good" (defAt P0 6).1 (defAt P0 6).2.1 (defAt P0 6).2.2 pm code doc) ⟨[x, y, z], []⟩ = (pure [(("hay" : Str), x), (("needle" : Str), y), ("cuts", z)] : Sem (List (Str × Value))) := by
  with_unfolding_all rfl
theorem good_call {xs ns : List Nat} {t t' : Tok} {cu : Addr} {cvs : List Value} {cn : Nat} {cs : List Nat} {f1 f3 f4 f5 f6 : Addr} {Q : Value → Shared → Prop} (hne : ns ≠ []) (W : Wd s.heap mg mb) (hF : Fns s.heap mg f1 f3 f4 f5 f6) (hh : A.handled = none) (hroom : A.depth + 4 < recursionLimit) (hu : A.units + 3 < cLine)
    (hzx : xs.length ≤ 400) (hzn : ns.length ≤ 100) (hx : ∀ x ∈ xs, x < 99) (hn : ∀ x ∈ ns, x < 99) (hcu : s.heap.get? cu = some (lst cvs cn)) (hcs : IntsAre cvs (toZ cs)) (hcl : ∀ c ∈ cs, c ≤ xs.length) (hg : AllBare s.gens)
    (h : ∀ h' tk g, Kp [] s.heap h' → AllBare g → Q (.bool true) ⟨h', g, s.drawn, tk, s.os⟩) :
    wpAny (model prog w) A (call (.ref f6) [.str (T xs) t, .str (T ns) t', .ref cu]) Q E s := by
  obtain ⟨o, pm, code, doc, ho, hd, hcd⟩ := hF.a6.o
  refine wpAny_call (call_cellsN_ret (by omega) ho hd W.lim hcd (bind_good _ _ _) ?_ (by decide) (fun h₁ tk cells F N X => ?_))
  · intro x hx
    simp only [List.mem_cons, List.not_mem_nil, or_false] at hx
    rcases hx with rfl | rfl | rfl
    · exact .inl (by rfl)
    · exact .inr ⟨by rfl, by rfl⟩
    · exact .inl (by rfl)
  · obtain ⟨o3, o2, o1, rfl, h3, h2, h1⟩ := CellsAre.three X
    exact good_body (s := ⟨h₁, s.gens, s.drawn, tk, s.os⟩) hne W hF hh (by show A.depth + 1 + 3 < _; omega) hu hzx hzn hx hn rfl rfl hcu hcs hcl F N h1 h2 h3 hg fun h' tk' g k hg' => h h' tk' g (fun b o _ e => k b o e) hg'
end
end Aq

namespace Aq
abbrev xScope : Scope := { kind := .function, names := [(".0", .local), ("x", .local)], isGenerator := false, isCoroutine := false }
def textElt : Expr := match (defAt P0 7).2.1.getD 2 default with
  | .Assign _ (.Call _ [.ListComp elt _ _ _] _ _) _ => elt
  | _ => default
def piece (x : Int) : List Nat := match (x.fmod 6).toNat with
  | 0 => [97]
  | 1 => [98]
  | 2 => [97, 98]
  | 3 => [98, 97]
  | 4 => [97, 97, 98]
  | _ => [97, 98, 98]
def pieces : List (List Nat) := [[97], [98], [97, 98], [98, 97], [97, 97, 98], [97, 98, 98]]
theorem piece_at (x : Int) : pieces[(x.fmod 6).toNat]? = some (piece x) := by
  have h : x.fmod 6 = 0 ∨ x.fmod 6 = 1 ∨ x.fmod 6 = 2 ∨ x.fmod 6 = 3 ∨ x.fmod 6 = 4 ∨ x.fmod 6 = 5 := by
    rw [Int.fmod_eq_emod_of_nonneg _ (by decide)]; omega
  unfold piece
  rcases h with h | h | h | h | h | h <;> rw [h] <;> rfl
theorem piece_low (x : Int) : ∀ c ∈ piece x, c < 99 := by
  unfold piece
  split <;> decide
theorem piece_len (x : Int) : (piece x).length ≤ 3 := by
  unfold piece
  split <;> decide
theorem strs_append : ∀ {a b : List Value} {x y : List Str}, StrsAre a x → StrsAre b y → StrsAre (a ++ b) (x ++ y)
  | _, _, _, _, .nil, h => h
  | _, _, _, _, .cons y t h1, h => .cons y t (strs_append h1 h)
section
variable {prog : Program} {w : World} {A : Around} {s : Shared} {C : Addr} {cl : List (Str × Addr)} {env : Env} {E : Value → Shared → Prop} {m : Str → Option Value}
theorem text_elt {x : Int} {tv : Tok} {Q : Value → Shared → Prop} (hn : s.heap.Ns C m) (hm : m "x" = some (.int x tv)) (h : ∀ h' tk t, Kp [] s.heap h' → Q (.str (T (piece x)) t) ⟨h', s.gens, s.drawn, tk, s.os⟩) :
    wpAny (model prog w) A (eval textElt (compEnvC xScope cl C env)) Q E s := by
  unfold textElt
  show wpAny _ _ (eval (.Subscript (.List _ _) _ _) _) _ _ _
  iterate 15 walk1
  refine wpAny_newObj_type ?_ (by size_fits)
  walk1
  refine ldVarK (m := m) (hn.push _) hm ?_
  iterate 2 walk1
  have hr : x.fmod 6 = 0 ∨ x.fmod 6 = 1 ∨ x.fmod 6 = 2 ∨ x.fmod 6 = 3 ∨ x.fmod 6 = 4 ∨ x.fmod 6 = 5 := by
    rw [Int.fmod_eq_emod_of_nonneg _ (by decide)]; omega
  have k1 : ∀ o : Obj, Kp [] s.heap (s.heap.push o) := fun o b o' _ e => Heap.get?_push_of_some o e
  unfold piece at h
  rcases hr with hx | hx | hx | hx | hx | hx <;> rw [hx] at h ⊢
  all_goals
    refine item_listR (x := .str _ _) ⟨_, Heap.get?_push_size _ rfl, rfl, _, rfl⟩ (by decide) (by decide) (by rfl) ?_
    exact h _ _ _ (k1 _)
theorem texts_turns {ns : List Int} {l : Addr} {vs : List Value} {k : Nat} {Q : Value → Shared → Prop} {E' : Value → Shared → Prop} (hh : A.handled = none) (hl : s.heap.get? l = some (lst vs k)) (hI : IntsAre vs ns) (hz : ns.length ≤ 1000)
    (h : ∀ D h tk ys k, s.heap.get? D = none → h.get? D = some (lst ys k) → Kp [] s.heap h → StrsAre ys (ns.map fun x => T (piece x)) → Q (.ref D) ⟨h, s.gens, s.drawn, tk, s.os⟩) :
    wpAny (model prog w) A (pyIter (.ref l)) (fun it s₂ => CompAt prog w A xScope cl env "x" [] textElt Q it s₂) E' s := by
  refine pyIter_list hh hl (by rw [hI.length]; omega) (fun i ys g => g = s.gens ∧ StrsAre ys ((ns.take i).map fun x => T (piece x))) ⟨rfl, .nil⟩ ?_ ?_
  · rintro E' i v h2' g tk ys C m2 hC hv ⟨rfl, hys⟩ hn2 hm2 hk2
    obtain ⟨x, tx, rfl, hx⟩ := hI.at i v hv
    refine wpAny_tests_nil ?_
    rw [if_pos rfl]
    refine text_elt hn2 hm2 fun h3 tk3 t3 k3 => ⟨_, _, _, rfl, k3, rfl, ?_⟩
    rw [List.take_add_one, hx, Option.toList_some, List.map_append]
    exact strs_append hys (.cons _ _ .nil)
  · rintro D h2' tk g ys k hDn hD hk ⟨rfl, hys⟩
    rw [hI.length, List.take_length] at hys
    exact h D h2' tk ys k hDn hD (fun b o _ e => hk b o e) hys
end
theorem fold_T : ∀ (l : List (List Nat)) (acc : Array Nat), (l.map T).foldl (fun acc p => acc ++ ("" : Str).cps ++ p.cps) acc = acc ++ l.flatten.toArray
  | [], acc => by simp
  | x :: l, acc => by
    rw [List.map_cons, List.foldl_cons, fold_T l]
    show acc ++ #[] ++ x.toArray ++ l.flatten.toArray = acc ++ (x ++ l.flatten).toArray
    simp
theorem join_T (l : List (List Nat)) : Txt.join "" (l.map T) = T l.flatten := by
  cases l with
  | nil => rfl
  | cons x l =>
    show Str.mk ((l.map T).foldl (fun acc p => acc ++ ("" : Str).cps ++ p.cps) x.toArray) = T (x ++ l.flatten)
    rw [fold_T]
    show Str.mk _ = Str.mk _
    simp
end Aq

namespace Aq
local macro_rules | `(tactic| walk_at "callWith ref") => `(tactic| refine callWith_f ?_)
local macro_rules | `(tactic| walk_at "eval ListComp") => `(tactic| refine compRule (by with_unfolding_all rfl) (by decide) rfl (by decide) rfl ?_)
local macro_rules | `(tactic| walk_at "eval ListComp Subscript cons") => `(tactic| refine compRule (by with_unfolding_all rfl) (by decide) rfl (by decide) rfl ?_)
local macro_rules | `(tactic| walk_at "eval ListComp Call cons") => `(tactic| refine compRule (by with_unfolding_all rfl) (by decide) rfl (by decide) rfl ?_)
local macro_rules | `(tactic| walk_at "eval ListComp BinOp cons") => `(tactic| refine compRule (by with_unfolding_all rfl) (by decide) rfl (by decide) rfl ?_)
local macro_rules | `(tactic| walk_at "eval ListComp Name cons") => `(tactic| refine compRule (by with_unfolding_all rfl) (by decide) rfl (by decide) rfl ?_)
local macro_rules | `(tactic| walk_at "exec For") => `(tactic| refine wpAny_For ?_)
local macro_rules | `(tactic| walk_at "eval Name") => `(tactic| first
  | refine ldLoc (by assumption) (by first | assumption | rfl) ?_
  | refine ldCN (by assumption) rfl (by repeat (first | exact .head _ | refine .tail _ ?_)) (by assumption) ?_
  | (refine nmFg (Wd.keeps (by assumption) (Fr.keep (by assumption))) (by assumption) ?_)
  | (refine nmBg (Wd.keeps (by assumption) (Fr.keep (by assumption))) bb_len ?_)
  | (refine nmBg (Wd.keeps (by assumption) (Fr.keep (by assumption))) bb_bytes ?_)
  | (refine nmBg (Wd.keeps (by assumption) (Fr.keep (by assumption))) bb_ord ?_)
  | (refine nmBg (Wd.keeps (by assumption) (Fr.keep (by assumption))) bb_range ?_))
def lawEnv (L a : Addr) (cd : Value) : Env := envOfC "law" (defAt P0 7).2.2 L a cd
section
variable {prog : Program} {w : World} {A : Around} {s : Shared} {base : Heap} {L a : Addr} {cd : Value} {mg mb : Str → Option Value} {E : Value → Shared → Prop}
theorem law_nums {sc : Addr} {vs : List Value} {zs : List Int} {o1 o2 : Obj} {m : Str → Option Value} {Q : Flow → Shared → Prop} {rest : List Stmt} (W : Wd base mg mb) (hh : A.handled = none) (hL : base.IsList sc vs.toArray) (hI : IntsAre vs zs) (hz : zs.length ≤ 63)
    (F : Fr base L s.heap m) (hm : m "script" = some (.ref sc)) (N : News base L s.heap [(L + 2, o2), (L + 1, o1)])
    (h : ∀ h' tk m' D us k ns, Fr base L h' m' → m' "numbers" = some (.ref D) → News base L h' [(D, lst us k), (L + 2, o2), (L + 1, o1)] → IntsAre us ns → ns.length ≤ 66 →
      wpAny (model prog w) A (execs rest (lawEnv L a cd)) Q E ⟨h', s.gens, s.drawn, tk, s.os⟩) :
    wpAny (model prog w) A (execs ((defAt P0 7).2.1.getD 0 default :: (defAt P0 7).2.1.getD 1 default :: rest) (lawEnv L a cd)) Q E s := by
  unfold lawEnv at h ⊢
  show wpAny _ _ (execs (.Assign _ _ _ :: .If _ _ _ _ :: rest) _) _ _ _
  refine wpAny_execs_cons ?_
  repeat walk1
  rename_i F0 N0 _ _ _
  have ep : ({ cls := Value.type "list", data := Data.seq (slicePick vs.toArray none (some 14) none) } : Obj) = lst (slicePick vs.toArray none (some 14) none).toList 0 := by
    show _ = Obj.mk _ _ _ _
    simp
  rw [ep] at N0
  have hI1 := hI.pick none (some 14) none
  have hl1 := length_pickNums_le hI none (some 14) none
  generalize (slicePick vs.toArray none (some 14) none).toList = us at *
  generalize pickNums zs none (some 14) none = ns at *
  refine len_N N0 (.head _) hI1 (by omega) fun tl tl' => ?_
  dsimp only
  repeat walk1
  all_goals (repeat walk1)
  · rename_i F1 N1
    refine kmk_add_ints F1 N1 (ns := [4, 2, 5]) (ms := ns) (lst_isList (vs := [Value.int 4 _, Value.int 2 _, Value.int 5 _]) (n := 0) (N1 _ (.head _)).1) (lst_isList (vs := us) (n := 0) (N1 _ (.tail _ (.head _))).1) (.cons _ _ (.cons _ _ (.cons _ _ .nil))) hI1 (fun D us' h3 F3 N3 _ hus => ?_) (by
      have := sizeLine_eq
      simp
      omega)
    repeat walk1
    rename_i F4 N4 _ _ _
    exact h _ _ _ D us' 0 _ F4 rfl (news_sub N4 (by intro p hp; simp only [List.mem_cons, List.not_mem_nil, or_false] at hp ⊢; rcases hp with h | h | h <;> simp [h])) hus (by simp; omega)
  · exact h _ _ _ _ us 0 ns F0 rfl N0 hI1 (by omega)
theorem sum_pieces : ∀ ns : List Int, ((ns.map fun x => T (piece x)).map (·.length)).sum ≤ 3 * ns.length
  | [] => by simp
  | x :: ns => by
    have := sum_pieces ns
    have h2 := piece_len x
    simp only [List.map_cons, List.sum_cons, List.length_cons, T_length] at *
    omega
theorem law_hay {ns : List Int} {us : List Value} {D k} {o1 o2 : Obj} {m : Str → Option Value} {Q : Flow → Shared → Prop} {rest : List Stmt} (W : Wd base mg mb) (hh : A.handled = none) (hI : IntsAre us ns) (hz : ns.length ≤ 66)
    (F : Fr base L s.heap m) (hm : m "numbers" = some (.ref D)) (N : News base L s.heap [(D, lst us k), (L + 2, o2), (L + 1, o1)]) (h1 : o1.data = .cell none)
    (h : ∀ h' tk o1' t, Fr base L h' m → News base L h' [(D, lst us k), (L + 2, o2), (L + 1, o1')] → o1'.data = .cell (some (.str (T (ns.map piece).flatten) t)) →
      wpAny (model prog w) A (execs rest (lawEnv L a cd)) Q E ⟨h', s.gens, s.drawn, tk, s.os⟩) :
    wpAny (model prog w) A (execs ((defAt P0 7).2.1.getD 2 default :: rest) (lawEnv L a cd)) Q E s := by
  unfold lawEnv at h ⊢
  show wpAny _ _ (execs (.Assign _ _ _ :: rest) _) _ _ _
  refine wpAny_execs_cons ?_
  repeat walk1
  refine texts_turns hh (N _ (.head _)).1 hI (by omega) fun D1 h1' tk1 ys k1 hD1n hD1 K1 hys => ?_
  have F1 := kpF F K1
  have N1 := kpN N K1
  clear F N
  repeat walk1
  have hw : ((ns.map fun x => T (piece x)).map (·.length)).sum + (ns.map fun x => T (piece x)).length ≤ 1048576 := by
    have := sum_pieces ns
    rw [List.length_map]
    omega
  refine join_listW (lst_isList hD1) (by simpa using hys) (by decide) hw fun tj kj => ?_
  rw [show ns.map (fun x => T (piece x)) = (ns.map piece).map T by rw [List.map_map]; rfl, join_T]
  repeat walk1
  rename_i o9 F9 N9 hd9
  exact h _ _ o9 _ F9 (news_sub N9 (by intro p hp; simp only [List.mem_cons, List.mem_append, List.not_mem_nil, or_false] at hp ⊢; rcases hp with h | h | h <;> simp [h])) hd9
def cutsOf (n : Nat) (ns : List Int) : List Nat := ns.map fun x => (x.fmod ((n : Int) + 1)).toNat
theorem cutsOf_le {n : Nat} {ns : List Int} : ∀ c ∈ cutsOf n ns, c ≤ n := by
  intro c hc
  obtain ⟨x, _, rfl⟩ := List.mem_map.mp hc
  have h1 := Int.fmod_nonneg_of_pos x (show (0 : Int) < (n : Int) + 1 by omega)
  have h2 := Int.fmod_lt_of_pos x (show (0 : Int) < (n : Int) + 1 by omega)
  omega
theorem law_cuts {ns : List Int} {xs : List Nat} {us : List Value} {D k} {o1 o2 : Obj} {th : Tok} {m : Str → Option Value} {Q : Flow → Shared → Prop} {rest : List Stmt} (W : Wd base mg mb) (hh : A.handled = none) (hI : IntsAre us ns) (hz : ns.length ≤ 66) (hzx : xs.length ≤ 400)
    (F : Fr base L s.heap m) (hm : m "numbers" = some (.ref D)) (N : News base L s.heap [(D, lst us k), (L + 2, o2), (L + 1, o1)]) (h1 : o1.data = .cell (some (.str (T xs) th))) (h2 : o2.data = .cell none)
    (h : ∀ h' tk o2' C ys k' ms, Fr base L h' m → News base L h' [(C, lst ys k'), (L + 2, o2'), (L + 1, o1)] → o2'.data = .cell (some (.ref C)) → IntsAre ys (toZ (cutsOf xs.length ms)) →
      wpAny (model prog w) A (execs rest (lawEnv L a cd)) Q E ⟨h', s.gens, s.drawn, tk, s.os⟩) :
    wpAny (model prog w) A (execs ((defAt P0 7).2.1.getD 3 default :: rest) (lawEnv L a cd)) Q E s := by
  have hT := T_length xs
  unfold lawEnv at h ⊢
  show wpAny _ _ (execs (.Assign _ _ _ :: rest) _) _ _ _
  refine wpAny_execs_cons ?_
  repeat walk1
  rename_i F0 N0
  have ep : ({ cls := Value.type "list", data := Data.seq (slicePick us.toArray none (some 3) none) } : Obj) = lst (slicePick us.toArray none (some 3) none).toList 0 := by
    show _ = Obj.mk _ _ _ _
    simp
  rw [ep] at N0
  have hI1 := hI.pick none (some 3) none
  have hl1 := length_pickNums_le hI none (some 3) none
  generalize (slicePick us.toArray none (some 3) none).toList = us3 at *
  generalize pickNums ns none (some 3) none = ms at *
  refine pyIter_list hh (N0 _ (.head _)).1 (by rw [hI1.length]; omega) (fun i ys g => g = s.gens ∧ IntsAre ys (toZ (cutsOf xs.length (ms.take i)))) ⟨rfl, .nil⟩ ?_ ?_
  · rintro E' i v h2' g tk ys C m2 hC hv ⟨rfl, hys⟩ hn2 hm2 hk2
    obtain ⟨x, tx, rfl, hx⟩ := hI1.at i v hv
    have hc1 : h2'.IsCell (L + 1) (some (.str (T xs) th)) := ⟨o1, hk2 _ _ (N0 (L + 1, o1) (by simp)).1, h1⟩
    have W2 : Wd h2' mg mb := W.keeps fun b o e => hk2 b o (F0.keep b o e)
    refine wpAny_tests_nil ?_
    rw [if_pos rfl]
    walk1
    refine ldVarK hn2 hm2 ?_
    iterate 2 walk1
    refine nmBg W2 bb_len ?_
    iterate 2 walk1
    refine ldCellK (c := L + 1) rfl hc1 ?_
    iterate 5 walk1
    refine ⟨_, _, _, rfl, Kp.refl, rfl, ?_⟩
    rw [List.take_add_one, hx, Option.toList_some, cutsOf, List.map_append, toZ_append]
    refine hys.append ?_
    have e : x.fmod (((T xs).length : Int) + 1) = (((x.fmod ((xs.length : Int) + 1)).toNat : Nat) : Int) := by
      have h1 := Int.fmod_nonneg_of_pos x (show (0 : Int) < (xs.length : Int) + 1 by omega)
      rw [hT]
      omega
    rw [e]
    exact .cons _ _ .nil
  · rintro D2 h2' tk g ys k hD2n hD2 hk2 ⟨rfl, hys⟩
    rw [hI1.length, List.take_length] at hys
    have F2 := kpF F0 (fun b o _ e => hk2 b o e)
    have N2 := news_put (kpN N0 (fun b o _ e => hk2 b o e)) hD2 (new_ne F0 hD2n).1 (new_ne F0 hD2n).2
    clear F0 N0 F N
    repeat walk1
    rename_i o9 F9 N9 hd9
    exact h _ _ o9 D2 ys k ms F9 (news_sub N9 (by intro p hp; simp only [List.mem_cons, List.mem_append, List.not_mem_nil, or_false] at hp ⊢; rcases hp with h | h | h <;> simp [h])) hd9 hys
end
end Aq

namespace Aq
local macro_rules | `(tactic| walk_at "callWith ref") => `(tactic| refine callWith_f ?_)
local macro_rules | `(tactic| walk_at "eval ListComp") => `(tactic| refine compRule (by with_unfolding_all rfl) (by decide) rfl (by decide) rfl ?_)
local macro_rules | `(tactic| walk_at "eval ListComp Subscript cons") => `(tactic| refine compRule (by with_unfolding_all rfl) (by decide) rfl (by decide) rfl ?_)
local macro_rules | `(tactic| walk_at "eval ListComp Call cons") => `(tactic| refine compRule (by with_unfolding_all rfl) (by decide) rfl (by decide) rfl ?_)
local macro_rules | `(tactic| walk_at "eval ListComp BinOp cons") => `(tactic| refine compRule (by with_unfolding_all rfl) (by decide) rfl (by decide) rfl ?_)
local macro_rules | `(tactic| walk_at "eval ListComp Name cons") => `(tactic| refine compRule (by with_unfolding_all rfl) (by decide) rfl (by decide) rfl ?_)
local macro_rules | `(tactic| walk_at "exec For") => `(tactic| refine wpAny_For ?_)
local macro_rules | `(tactic| walk_at "eval Name") => `(tactic| first
  | refine ldLoc (by assumption) (by first | assumption | rfl) ?_
  | refine ldCN (by assumption) rfl (by repeat (first | exact .head _ | refine .tail _ ?_)) (by assumption) ?_
  | (refine nmFg (Wd.keeps (by assumption) (Fr.keep (by assumption))) (by assumption) ?_)
  | (refine nmBg (Wd.keeps (by assumption) (Fr.keep (by assumption))) bb_len ?_)
  | (refine nmBg (Wd.keeps (by assumption) (Fr.keep (by assumption))) bb_bytes ?_)
  | (refine nmBg (Wd.keeps (by assumption) (Fr.keep (by assumption))) bb_ord ?_)
  | (refine nmBg (Wd.keeps (by assumption) (Fr.keep (by assumption))) bb_range ?_))
section
variable {prog : Program} {w : World} {A : Around} {s : Shared} {base : Heap} {L a : Addr} {cd : Value} {mg mb : Str → Option Value} {E : Value → Shared → Prop}
def needs : List (List Nat) := [[97], [98], [97, 97], [97, 98], [98, 97], [97, 98, 97], [97, 97, 98], [98, 98]]
theorem needs_ok : ∀ n ∈ needs, n ≠ [] ∧ n.length ≤ 100 ∧ ∀ x ∈ n, x < 99 := by decide
theorem Fns.keeps {h h' : Heap} {mg : Str → Option Value} {f1 f3 f4 f5 f6 : Addr} (x : Fns h mg f1 f3 f4 f5 f6) (k : ∀ b o, h.get? b = some o → h'.get? b = some o) : Fns h' mg f1 f3 f4 f5 f6 := ⟨x.a1.keeps k, x.a3.keeps k, x.a4.keeps k, x.a5.keeps k, x.a6.keeps k⟩
theorem law_good {xs : List Nat} {cs : List Nat} {ys : List Value} {Cu k} {f1 f3 f4 f5 f6 : Addr} {o1 o2 : Obj} {th : Tok} {m : Str → Option Value} {Q : Flow → Shared → Prop} {rest : List Stmt} (W : Wd base mg mb) (hF : Fns base mg f1 f3 f4 f5 f6) (hh : A.handled = none) (hroom : A.depth + 4 < recursionLimit) (hu : A.units + 3 < cLine)
    (hzx : xs.length ≤ 400) (hx : ∀ x ∈ xs, x < 99)
    (F : Fr base L s.heap m) (N : News base L s.heap [(Cu, lst ys k), (L + 2, o2), (L + 1, o1)]) (h1 : o1.data = .cell (some (.str (T xs) th))) (h2 : o2.data = .cell (some (.ref Cu))) (hI : IntsAre ys (toZ cs)) (hcl : ∀ c ∈ cs, c ≤ xs.length) (hg : AllBare s.gens)
    (h : ∀ h' tk g m' G gv k', Fr base L h' m' → m' "good" = some (.ref G) → News base L h' [(G, lst gv k'), (L + 2, o2), (L + 1, o1)] → (∀ v ∈ gv, v = .bool true) → gv.length = 8 → AllBare g →
      wpAny (model prog w) A (execs rest (lawEnv L a cd)) Q E ⟨h', g, s.drawn, tk, s.os⟩) :
    wpAny (model prog w) A (execs ((defAt P0 7).2.1.getD 4 default :: (defAt P0 7).2.1.getD 5 default :: rest) (lawEnv L a cd)) Q E s := by
  have hT := T_length xs
  unfold lawEnv at h ⊢
  show wpAny _ _ (execs (.Assign _ _ _ :: .Assign _ _ _ :: rest) _) _ _ _
  refine wpAny_execs_cons ?_
  repeat walk1
  rename_i F0 N0 _ _
  refine compAssign (by with_unfolding_all rfl) (by with_unfolding_all rfl) (by decide) rfl (by decide) rfl rfl rfl ?_
  walk1
  refine ⟨_, F0.ns, ?_⟩
  refine pyIter_listX (vs := [_, _, _, _, _, _, _, _]) (k := 0) hh (N0 _ (.head _)).1 (by simp) (fun i ys g => AllBare g ∧ (∀ v ∈ ys, v = .bool true) ∧ ys.length = i) ⟨hg, by simp, rfl⟩ ?_ ?_
  · rintro E' i v h2' g tk ys' C m2 hC hv ⟨hg', hys, hyl⟩ hn2 hm2 hk2
    obtain ⟨nd, tn, hnd, rfl⟩ : ∃ nd tn, nd ∈ needs ∧ v = .str (T nd) tn := by
      have hm := List.mem_of_getElem? hv
      simp only [List.mem_cons, List.not_mem_nil, or_false] at hm
      rcases hm with rfl | rfl | rfl | rfl | rfl | rfl | rfl | rfl
      · exact ⟨[97], _, by decide, rfl⟩
      · exact ⟨[98], _, by decide, rfl⟩
      · exact ⟨[97, 97], _, by decide, rfl⟩
      · exact ⟨[97, 98], _, by decide, rfl⟩
      · exact ⟨[98, 97], _, by decide, rfl⟩
      · exact ⟨[97, 98, 97], _, by decide, rfl⟩
      · exact ⟨[97, 97, 98], _, by decide, rfl⟩
      · exact ⟨[98, 98], _, by decide, rfl⟩
    obtain ⟨hn1, hn3, hn4⟩ := needs_ok nd hnd
    have hc1 : h2'.IsCell (L + 1) (some (.str (T xs) th)) := ⟨o1, hk2 _ _ (N0 (L + 1, o1) (by simp)).1, h1⟩
    have hc2 : h2'.IsCell (L + 1 + 1) (some (.ref Cu)) := ⟨o2, hk2 _ _ (N0 (L + 2, o2) (by simp)).1, h2⟩
    have W2 : Wd h2' mg mb := W.keeps fun b o e => hk2 b o (F0.keep b o e)
    refine wpAny_tests_nil ?_
    rw [if_pos rfl]
    walk1
    refine nmFg W2 hF.a6 ?_
    iterate 2 walk1
    refine ldCellK (c := L + 1) rfl hc1 ?_
    walk1
    refine ldVarK hn2 hm2 ?_
    walk1
    refine ldCellK (c := L + 1 + 1) rfl hc2 ?_
    walk1
    refine fnThen hF.a6 (fun b o e => hk2 b o (F0.keep b o e)) ?_
    refine good_call hn1 W2 (hF.keeps fun b o e => hk2 b o (F0.keep b o e)) hh hroom hu hzx hn3 hx hn4 (hk2 _ _ (N0 (Cu, lst ys k) (by simp)).1) hI hcl hg' fun h3 tk3 g3 k3 hg3 => ?_
    refine ⟨_, _, _, rfl, k3, hg3, ?_, by simp [hyl]⟩
    intro v hv
    rcases List.mem_append.mp hv with q | q
    · exact hys v q
    · exact List.mem_singleton.mp q
  · rintro D2 h2' tk g ys' k' hD2n hD2 hk2 ⟨hg', hys, hyl⟩
    refine ⟨hk2, fun C h3 tk3 hC hne hn3 hk3 => ?_⟩
    have hLD : D2 ≠ L := (new_ne F0 hD2n).1
    have hCb : base.get? C = none := F0.noneBack hC
    have F3 : Fr base L h3 (fun z => if z = "good" then some (.ref D2) else _) := ⟨hn3, fun b o e => hk3 b o (Nat.ne_of_lt (Nat.lt_of_lt_of_le (Heap.lt_size e) F0.above)) (fun q => by rw [q, hCb] at e; cases e) (hk2 b o (F0.keep b o e)), F0.above⟩
    refine h _ _ _ _ D2 ys' k' F3 (by simp) ?_ hys (by simpa using hyl) hg'
    intro p hp
    rcases List.mem_cons.mp hp with rfl | hp
    · exact ⟨hk3 _ _ hLD (fun q => hne (congrArg Value.ref q)) hD2, hLD, (new_ne F0 hD2n).2⟩
    · have hp' := N0 p (.tail _ (.tail _ hp))
      refine ⟨hk3 _ _ hp'.2.1 (fun q => ?_) (hk2 _ _ hp'.1), hp'.2⟩
      rw [← q] at hC
      have := hp'.1
      rw [hC] at this
      cases this
theorem eq_boolsI {a b : Addr} {vs ws : List Value} {Q : Value → Shared → Prop} (ha : s.heap.IsList a vs.toArray) (hb : s.heap.IsList b ws.toArray) (hv : ∀ v ∈ vs, v = .bool true) (hw : ∀ v ∈ ws, v = .bool true) (hl : vs.length = ws.length) (hu : A.units < cLine) (h : Q (.bool true) s) :
    wpAny (model prog w) A (compareOp .Eq (.ref a) (.ref b)) Q E s := by
  have := SeqAt.RcAt.lists (A := A) (s := s) (e := fun _ => true) ha hb (by simpa using hl) hu (fun j h1 h2 => by
    have e1 := hv _ (List.getElem_mem (l := vs) (n := j) (by simpa using h1))
    have e2 := hw _ (List.getElem_mem (l := ws) (n := j) (by simpa using h2))
    simp only [List.getElem_toArray, e1, e2]
    exact SeqAt.EqAt.same _)
  rw [all_true] at this
  exact this prog w E Q h
theorem law_ret {xs : List Nat} {G k} {gv : List Value} {f1 f3 f4 f5 f6 : Addr} {o1 o2 : Obj} {th : Tok} {m : Str → Option Value} {Q : Flow → Shared → Prop} (W : Wd base mg mb) (hF : Fns base mg f1 f3 f4 f5 f6) (hh : A.handled = none) (hroom : A.depth + 4 < recursionLimit) (hu : A.units + 3 < cLine)
    (hzx : xs.length ≤ 400) (F : Fr base L s.heap m) (hm : m "good" = some (.ref G)) (N : News base L s.heap [(G, lst gv k), (L + 2, o2), (L + 1, o1)]) (h1 : o1.data = .cell (some (.str (T xs) th))) (hgv : ∀ v ∈ gv, v = .bool true) (hl : gv.length = 8) (hg : AllBare s.gens)
    (h : ∀ h' tk g, (∀ b o, base.get? b = some o → h'.get? b = some o) → AllBare g → Q (.ret (.bool true)) ⟨h', g, s.drawn, tk, s.os⟩) :
    wpAny (model prog w) A (execs [(defAt P0 7).2.1.getD 6 default] (lawEnv L a cd)) Q E s := by
  have ha5 := hF.a5
  have hT := T_length xs
  unfold lawEnv
  show wpAny _ _ (execs (.Return _ _ :: _) _) _ _ _
  refine wpAny_execs_cons ?_
  repeat walk1
  rename_i F0 N0
  refine mul_list_carried (ds := [.bool true]) F0 N0 (N0 _ (.head _)).1 rfl (.cons (by constructor) .nil) (by decide) (by decide) (by decide) fun h1' F1 N1 hfr hL1 _ => ?_
  refine eq_boolsI (vs := gv) (lst_isList (N1 (G, lst gv k) (by simp)).1) hL1 hgv (by decide) (by rw [hl]; decide) (by omega) ?_
  clear F0 N0 F N
  repeat walk1
  refine fnThen ha5 F1.keep ?_
  rw [show ("" : Str) = T [] from rfl]
  refine places_call (find_str (by simp)) (W.keeps F1.keep) (hF.a1.keeps F1.keep) (ha5.keeps F1.keep) (by omega) hh (by omega) fun h6 tk6 D6 vs6 n6 gs6 k6 hD6 hD6n hI6 hgs6 => ?_
  have F6 := kpF F1 k6
  have N6 := news_one hD6 (new_ne F1 hD6n).1 (new_ne F1 hD6n).2
  rw [occ_empty] at hI6
  clear F1
  repeat walk1
  rename_i F7 N7 _ _ _
  refine eq_ints (vs := vs6) (ws := []) (n := n6) (k := 0) (N7 _ (.tail _ (.head _))).1 (N7 _ (.head _)).1 hI6 .nil (by omega) ?_
  repeat walk1
  exact h _ _ _ F7.keep (hg.push hgs6)
end
end Aq

namespace Aq
theorem hay_len : ∀ ns : List Int, ((ns.map piece).flatten).length ≤ 3 * ns.length
  | [] => by simp
  | x :: ns => by
    have := hay_len ns
    have h2 := piece_len x
    simp only [List.map_cons, List.flatten_cons, List.length_append, List.length_cons] at *
    omega
theorem hay_low (ns : List Int) : ∀ c ∈ (ns.map piece).flatten, c < 99 := by
  intro c hc
  obtain ⟨l, hl, hcl⟩ := List.mem_flatten.mp hc
  obtain ⟨x, _, rfl⟩ := List.mem_map.mp hl
  exact piece_low x c hcl
section
variable {prog : Program} {w : World} {A : Around} {s : Shared} {base : Heap} {L a : Addr} {cd : Value} {mg mb : Str → Option Value} {E : Value → Shared → Prop}
theorem law_body {sc : Addr} {vs : List Value} {zs : List Int} {f1 f3 f4 f5 f6 : Addr} {o1 o2 : Obj} {m : Str → Option Value} {Q : Flow → Shared → Prop} (W : Wd base mg mb) (hF : Fns base mg f1 f3 f4 f5 f6) (hh : A.handled = none) (hroom : A.depth + 4 < recursionLimit) (hu : A.units + 3 < cLine)
    (hL : base.IsList sc vs.toArray) (hI : IntsAre vs zs) (hz : zs.length ≤ 63)
    (F : Fr base L s.heap m) (hm : m "script" = some (.ref sc)) (N : News base L s.heap [(L + 2, o2), (L + 1, o1)]) (h1 : o1.data = .cell none) (h2 : o2.data = .cell none) (hg : AllBare s.gens)
    (h : ∀ h' tk g, (∀ b o, base.get? b = some o → h'.get? b = some o) → AllBare g → Q (.ret (.bool true)) ⟨h', g, s.drawn, tk, s.os⟩) :
    wpAny (model prog w) A (execs (defAt P0 7).2.1 (lawEnv L a cd)) Q E s := by
  have e : (defAt P0 7).2.1 = (defAt P0 7).2.1.getD 0 default :: (defAt P0 7).2.1.getD 1 default :: (defAt P0 7).2.1.getD 2 default :: (defAt P0 7).2.1.getD 3 default :: (defAt P0 7).2.1.getD 4 default :: (defAt P0 7).2.1.getD 5 default :: [(defAt P0 7).2.1.getD 6 default] := by rfl
  rw [e]
  refine law_nums W hh hL hI hz F hm N fun h1' tk1 m1 D us k ns F1 hm1 N1 hus hns => ?_
  have hl1 := hay_len ns
  refine law_hay W hh hus hns F1 hm1 N1 h1 fun h2' tk2 o1' t F2 N2 h1' => ?_
  refine law_cuts W hh hus hns (by omega) F2 hm1 N2 h1' h2 fun h3' tk3 o2' C ys k' ms F3 N3 h2' hys => ?_
  refine law_good W hF hh hroom hu (by omega) (hay_low ns) F3 N3 h1' h2' hys (fun c hc => cutsOf_le c hc) hg fun h4' tk4 g4 m4 G gv k4 F4 hm4 N4 hgv hgl hg4 => ?_
  exact law_ret W hF hh hroom hu (by omega) F4 hm4 N4 h1' hgv hgl hg4 h
end
section
variable {N : Nat} {mg mb : Str → Option Value} {defs : List DefItem} {consts : List (Str × PyData)} {objs : List (Str × (Obj → Prop))} {names : List Str} {h : Heap}
theorem fnAt_of (G : Glob N mg mb defs consts objs names h) (i : Nat) (hi : i < defs.length) (hnd : defs[i].params.defaults = []) : ∃ f, FnAt h mg defs[i].name (defs[i].params, defs[i].body, defs[i].scope) f := by
  obtain ⟨f, c', o, pm, doc, _, _, h3, h4, h5, h6⟩ := (G.made defs[i] (List.getElem_mem hi)).plain hnd
  exact ⟨f, h3, o, pm, .ref c', doc, h4, h5, h6⟩
theorem wd_of (G : Glob N mg mb defs consts objs names h) (hf : ∀ x ∈ [("len" : Str), "range", "bytearray", "bytes", "ord"], x ∉ names ∧ x ∉ bootMainNames) : Wd h mg mb :=
  ⟨G.g, G.b, G.nolimit, G.builtins, fun x hx => G.free x (hf x hx).1 (hf x hx).2⟩
end
end Aq

namespace Aq
theorem law_post (l : OpenLaw) (a b : List WData) : l.row.claim.post a (.bool true) b = true := by
  show (WShape.has [] (WData.bool true) WShape.bool && WTm.holds [] (WTm.eq .res (.lit (.bool true))) { args := a, res := some (.bool true), after := b }) = true
  simp [WShape.has, WTm.holds, WTm.value, WShape.arms, same_self]
end Aq

theorem PySem.Challenge.cw_aq0004_02_holds : PySem.Challenge.rw_aq0004_02.Holds := by
  w_on; o_law; k_head; (case hw => w_witness2)
  w_strict (
    k_fill
    intro w s₀ s₁ mg mb G Y fa o pm cd doc dV kV ho hd hcd hD hmg hg args vals as hpre hlay hrd hwl hlo
    have V := (Ground.X G).2
    have GL := glob_more (Ground.glob G (by first | k_qdec | decide +kernel) (by first | k_qdec | decide +kernel)) V
    refine Ground.open G ?_
    intro T B D TE TW
    clear hmg
    have hW := Aq.wd_of GL (by decide +kernel)
    have hg0 : AllBare _ := AllBare.of_eq hg
    obtain ⟨f1, hf1⟩ := Aq.fnAt_of GL 0 (by decide +kernel) (by rfl)
    obtain ⟨f3, hf3⟩ := Aq.fnAt_of GL 1 (by decide +kernel) (by rfl)
    obtain ⟨f4, hf4⟩ := Aq.fnAt_of GL 2 (by decide +kernel) (by rfl)
    obtain ⟨f5, hf5⟩ := Aq.fnAt_of GL 3 (by decide +kernel) (by rfl)
    obtain ⟨f6, hf6⟩ := Aq.fnAt_of GL 4 (by decide +kernel) (by rfl)
    have hF : Aq.Fns _ _ f1 f3 f4 f5 f6 := ⟨hf1, hf3, hf4, hf5, hf6⟩
    clear GL hf1 hf3 hf4 hf5 hf6
    wrow_args hpre hlay hrd hwl hlo
    first | refine callC_kw (enter_call ?_) | refine enter_call ?_ | refine callC_kw (enter_callW ?_) | refine enter_callW ?_ | w_how
    w_top on
    w_call any ho hd hcd hD T F
    refine Aq.law_body hW hF rfl (show callerA.depth + 1 + 4 < recursionLimit by decide +kernel) (show callerA.units + 3 + 3 < cLine by decide +kernel) ‹Heap.IsList _ _ _› ‹IntsAre _ _› (by omega) ‹Fr _ _ _ _› rfl ‹News _ _ _ _› (by assumption) (by assumption) hg0 ?_
    intro h' tk g hk hg
    refine ⟨.inl ⟨_, .bool true, [], rfl, ?_, .bool true, ?_, ?_⟩, .of_keep hk, rfl, hg⟩
    · intro cls
      rfl
    · exact Aq.law_post _ _ _
    · intro q
      exact ⟨.nil, by simp⟩)
