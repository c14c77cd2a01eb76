import PyProof.Rows.All
import Wide.All
import OpenK.AllK
import Wide.FinOn
import PySem.Challenge.RW_aq0004_01
open PySem PySem.W PyProof.Rows
set_option Elab.async false
set_option maxRecDepth 100000
set_option maxHeartbeats 8000000

namespace Aq
open PySem.Calls
def defAt (p : Program) (i : Nat) : Arguments × List Stmt × Scope := match p.main.body[i]? with
  | some (.FunctionDef _ ps body _ _ _ sc _ _ _) => (ps, body, sc)
  | _ => default
abbrev lst (vs : List Value) (n : Nat) : Obj := listOf vs.toArray n
abbrev bar (b : Array UInt8) : Obj := { cls := .type "bytearray", data := .bytearray b }

theorem iteT {c : Prop} [Decidable c] {a b : Prop} (h : c) (x : a) : if c then a else b := by rw [if_pos h]; exact x
theorem iteF {c : Prop} [Decidable c] {a b : Prop} (h : ¬ c) (x : b) : if c then a else b := by rw [if_neg h]; exact x

/-- what a walk asks of the top: the names of the built-ins are free, the builtins stand -/
structure Wd (h : Heap) (mg mb : Str → Option Value) : Prop where
  g : h.Ns mainGlobals mg
  b : h.Ns builtinsNs mb
  lim : h.NoLimit
  bl : ∀ x : Str, x ≠ "__name__" → mb x = bootBuiltins x
  no : ∀ x : Str, x ∈ [("len" : Str), "range", "bytearray", "bytes", "ord"] → mg x = none
theorem Wd.keeps {h h' : Heap} {mg mb} (W : Wd h mg mb) (k : ∀ b o, h.get? b = some o → h'.get? b = some o) : Wd h' mg mb := ⟨W.g.keeps k, W.b.keeps k, W.lim.keeps k, W.bl, W.no⟩

structure FnAt (h : Heap) (mg : Str → Option Value) (name : Str) (d : Arguments × List Stmt × Scope) (a : Addr) : Prop where
  g : mg name = some (.ref a)
  o : ∃ o pm code doc, h.get? a = some o ∧ o.data = .func (docDef name d.1 d.2.1 d.2.2 pm code doc) ∧ h.CodeRec code name
theorem FnAt.keeps {h h' : Heap} {mg name d a} (W : FnAt h mg name d a) (k : ∀ b o, h.get? b = some o → h'.get? b = some o) : FnAt h' mg name d a :=
  ⟨W.g, let ⟨o, pm, c, doc, h1, h2, h3⟩ := W.o; ⟨o, pm, c, doc, k _ _ h1, h2, h3.keeps k⟩⟩

section
variable {M : Model} {A : Around} {E : Value → Shared → Prop} {s : Shared} {name : Str} {scope : Scope} {L a : Addr} {cd : Value} {h₀ : Heap} {m mg mb : Str → Option Value}
theorem nmB {x : Str} {pos : Pos} {v : Value} {Q : Value → Shared → Prop} (W : Wd h₀ mg mb) (F : Fr h₀ L s.heap m) (hv : bootBuiltins x = some v) (h : Q v s)
    (hm : x ∈ [("len" : Str), "range", "bytearray", "bytes", "ord"] := by decide) (hn : x ≠ "__name__" := by decide)
    (hk : scope.kind = .function := by rfl) (hx : (envOf name scope L a cd).kindOf x = some .globalImplicit := by rfl) (hd : (x == ("__debug__" : Str)) = false := by decide) :
    wpAny M A (eval (.Name x pos) (envOf name scope L a cd)) Q E s := ld_builtin_at F W.g (W.no x hm) W.b ((W.bl x hn).trans hv) h hk hx hd
theorem nmF {x : Str} {pos : Pos} {d} {f : Addr} {Q : Value → Shared → Prop} (W : Wd h₀ mg mb) (F : Fr h₀ L s.heap m) (hf : FnAt h₀ mg x d f) (h : Q (.ref f) s)
    (hk : scope.kind = .function := by rfl) (hx : (envOf name scope L a cd).kindOf x = some .globalImplicit := by rfl) (hd : (x == ("__debug__" : Str)) = false := by decide) :
    wpAny M A (eval (.Name x pos) (envOf name scope L a cd)) Q E s := ld_global_at F W.g hf.g h hk hx hd
end
theorem bb_len : bootBuiltins "len" = some (.builtin "len") := by decide +kernel
theorem bb_range : bootBuiltins "range" = some (.type "range") := by decide +kernel
theorem bb_bytes : bootBuiltins "bytes" = some (.type "bytes") := by decide +kernel
theorem bb_bytearray : bootBuiltins "bytearray" = some (.type "bytearray") := by decide +kernel
/-- all but the objects at D stay -/
def Kp (D : List Addr) (h h' : Heap) : Prop := ∀ b o, b ∉ D → h.get? b = some o → h'.get? b = some o
theorem Kp.refl {D h} : Kp D h h := fun _ _ _ e => e
theorem Kp.trans {D h h' h''} (a : Kp D h h') (b : Kp D h' h'') : Kp D h h'' := fun x o n e => b x o n (a x o n e)
theorem Kp.mono {D D' h h'} (a : Kp D h h') (s : ∀ x ∈ D, x ∈ D') : Kp D' h h' := fun x o n e => a x o (fun q => n (s x q)) e
theorem Kp.of_same {D a h h'} (s : Heap.SameBut a h h') (hm : a ∈ D) : Kp D h h' := fun x o n e => s.extBut x o (fun q => n (q ▸ hm)) e
theorem kp_fr {D} {base h h' : Heap} {L : Addr} {m : Str → Option Value} (F : Fr base L h m) (k : Kp D h h') (hL : L ∉ D) (hD : ∀ x ∈ D, base.get? x = none) : Fr base L h' m :=
  ⟨F.ns.at fun _ e => k L _ hL e, fun b o e => k b o (fun q => by rw [hD b q] at e; cases e) (F.keep b o e), F.above⟩
theorem kp_news {D} {base h h' : Heap} {L : Addr} {news : List (Addr × Obj)} (N : News base L h news) (k : Kp D h h') : ∀ {l : List (Addr × Obj)}, (∀ p ∈ l, p ∈ news) → (∀ p ∈ l, p.1 ∉ D) → News base L h' l :=
  fun hl hd p hp => ⟨k _ _ (hd p hp) (N p (hl p hp)).1, (N p (hl p hp)).2⟩
theorem news_put {base h : Heap} {L a : Addr} {o : Obj} {news : List (Addr × Obj)} (N : News base L h news) (ha : h.get? a = some o) (hL : a ≠ L) (hb : base.get? a = none) : News base L h ((a, o) :: news) :=
  fun p hp => by rcases List.mem_cons.mp hp with rfl | hp; exact ⟨ha, hL, hb⟩; exact N p hp
theorem news_one {base h : Heap} {L a : Addr} {o : Obj} (ha : h.get? a = some o) (hL : a ≠ L) (hb : base.get? a = none) : News base L h [(a, o)] := news_put News.nil ha hL hb
theorem news_sub {base h : Heap} {L : Addr} {news l : List (Addr × Obj)} (N : News base L h news) (hl : ∀ p ∈ l, p ∈ news) : News base L h l := fun p hp => N p (hl p hp)
theorem lst_isList {h : Heap} {r : Addr} {vs n} (e : h.get? r = some (lst vs n)) : h.IsList r vs.toArray := ⟨_, e, rfl, n, rfl⟩
end Aq

namespace Aq
open PySem.Calls
namespace B
theorem slot_bytearray_len : Slot "bytearray" "__len__" "bytearray.__len__" :=
  .of (owner := "bytearray") (n := "__len__") (by rw [typeLookup_type, builtinLookup_eq_fast]; kernel_rfl) (by decide +kernel) (by decide +kernel) (by decide +kernel)
    (by first | exact .inl (by decide +kernel) | exact .inr (by decide +kernel)) (by rw [isSubtype_type]; kernel_rfl)
theorem entry_bytearray_len : entryFor table "bytearray.__len__" = some Builtin.«bytearray.__len__» := entryFor_of_tree (by kernel_rfl)
theorem args_bytearray_len (a : Value) : argsOk "bytearray.__len__" ⟨[a], []⟩ := by unfold argsOk; kernel_rfl
theorem slot_bytearray_extend : Slot "bytearray" "extend" "bytearray.extend" :=
  .of (owner := "bytearray") (n := "extend") (by rw [typeLookup_type, builtinLookup_eq_fast]; kernel_rfl) (by decide +kernel) (by decide +kernel) (by decide +kernel)
    (by first | exact .inl (by decide +kernel) | exact .inr (by decide +kernel)) (by rw [isSubtype_type]; kernel_rfl)
theorem entry_bytearray_extend : entryFor table "bytearray.extend" = some Builtin.«bytearray.extend» := entryFor_of_tree (by kernel_rfl)
theorem args_bytearray_extend (a b : Value) : argsOk "bytearray.extend" ⟨[a, b], []⟩ := by unfold argsOk; kernel_rfl
theorem slot_bytearray_delitem : Slot "bytearray" "__delitem__" "bytearray.__delitem__" :=
  .of (owner := "bytearray") (n := "__delitem__") (by rw [typeLookup_type, builtinLookup_eq_fast]; kernel_rfl) (by decide +kernel) (by decide +kernel) (by decide +kernel)
    (by first | exact .inl (by decide +kernel) | exact .inr (by decide +kernel)) (by rw [isSubtype_type]; kernel_rfl)
theorem entry_bytearray_delitem : entryFor table "bytearray.__delitem__" = some Builtin.«bytearray.__delitem__» := entryFor_of_tree (by kernel_rfl)
theorem args_bytearray_delitem (a b : Value) : argsOk "bytearray.__delitem__" ⟨[a, b], []⟩ := by unfold argsOk; kernel_rfl
theorem slot_bytearray_getitem : Slot "bytearray" "__getitem__" "bytearray.__getitem__" :=
  .of (owner := "bytearray") (n := "__getitem__") (by rw [typeLookup_type, builtinLookup_eq_fast]; kernel_rfl) (by decide +kernel) (by decide +kernel) (by decide +kernel)
    (by first | exact .inl (by decide +kernel) | exact .inr (by decide +kernel)) (by rw [isSubtype_type]; kernel_rfl)
theorem entry_bytearray_getitem : entryFor table "bytearray.__getitem__" = some Builtin.«bytearray.__getitem__» := entryFor_of_tree (by kernel_rfl)
theorem args_bytearray_getitem (a b : Value) : argsOk "bytearray.__getitem__" ⟨[a, b], []⟩ := by unfold argsOk; kernel_rfl
theorem slot_bytearray_setitem : Slot "bytearray" "__setitem__" "bytearray.__setitem__" :=
  .of (owner := "bytearray") (n := "__setitem__") (by rw [typeLookup_type, builtinLookup_eq_fast]; kernel_rfl) (by decide +kernel) (by decide +kernel) (by decide +kernel)
    (by first | exact .inl (by decide +kernel) | exact .inr (by decide +kernel)) (by rw [isSubtype_type]; kernel_rfl)
theorem entry_bytearray_setitem : entryFor table "bytearray.__setitem__" = some Builtin.«bytearray.__setitem__» := entryFor_of_tree (by kernel_rfl)
theorem args_bytearray_setitem (a b c : Value) : argsOk "bytearray.__setitem__" ⟨[a, b, c], []⟩ := by unfold argsOk; kernel_rfl
theorem slot_bytearray_find : Slot "bytearray" "find" "bytearray.find" :=
  .of (owner := "bytearray") (n := "find") (by rw [typeLookup_type, builtinLookup_eq_fast]; kernel_rfl) (by decide +kernel) (by decide +kernel) (by decide +kernel)
    (by first | exact .inl (by decide +kernel) | exact .inr (by decide +kernel)) (by rw [isSubtype_type]; kernel_rfl)
theorem entry_bytearray_find : entryFor table "bytearray.find" = some Builtin.«bytearray.find» := entryFor_of_tree (by kernel_rfl)
theorem args_bytearray_find (a b c : Value) : argsOk "bytearray.find" ⟨[a, b, c], []⟩ := by unfold argsOk; kernel_rfl
theorem slot_bytearray_iter : Slot "bytearray" "__iter__" "bytearray.__iter__" :=
  .of (owner := "bytearray") (n := "__iter__") (by rw [typeLookup_type, builtinLookup_eq_fast]; kernel_rfl) (by decide +kernel) (by decide +kernel) (by decide +kernel)
    (by first | exact .inl (by decide +kernel) | exact .inr (by decide +kernel)) (by rw [isSubtype_type]; kernel_rfl)
theorem entry_bytearray_iter : entryFor table "bytearray.__iter__" = some Builtin.«bytearray.__iter__» := entryFor_of_tree (by kernel_rfl)
theorem args_bytearray_iter (a : Value) : argsOk "bytearray.__iter__" ⟨[a], []⟩ := by unfold argsOk; kernel_rfl
theorem slot_bytearray_iterator_next : Slot "bytearray_iterator" "__next__" "bytearray_iterator.__next__" :=
  .of (owner := "bytearray_iterator") (n := "__next__") (by rw [typeLookup_type, builtinLookup_eq_fast]; kernel_rfl) (by decide +kernel) (by decide +kernel) (by decide +kernel)
    (by first | exact .inl (by decide +kernel) | exact .inr (by decide +kernel)) (by rw [isSubtype_type]; kernel_rfl)
theorem entry_bytearray_iterator_next : entryFor table "bytearray_iterator.__next__" = some Builtin.«bytearray_iterator.__next__» := entryFor_of_tree (by kernel_rfl)
theorem args_bytearray_iterator_next (a : Value) : argsOk "bytearray_iterator.__next__" ⟨[a], []⟩ := by unfold argsOk; kernel_rfl
theorem slot_bytearray_init : Slot "bytearray" "__init__" "bytearray.__init__" :=
  .of (owner := "bytearray") (n := "__init__") (by rw [typeLookup_type, builtinLookup_eq_fast]; kernel_rfl) (by decide +kernel) (by decide +kernel) (by decide +kernel)
    (by first | exact .inl (by decide +kernel) | exact .inr (by decide +kernel)) (by rw [isSubtype_type]; kernel_rfl)
theorem entry_bytearray_init : entryFor table "bytearray.__init__" = some Builtin.«bytearray.__init__» := entryFor_of_tree (by kernel_rfl)
theorem args_bytearray_init (a b : Value) : argsOk "bytearray.__init__" ⟨[a, b], []⟩ := by unfold argsOk; kernel_rfl
theorem plain_extend_loop : plainId "bytearray.extend.loop" = true := by decide +kernel
theorem entry_extend_loop : entryFor table "bytearray.extend.loop" = some Builtin.«bytearray.extend.loop» := entryFor_of_tree (by kernel_rfl)
theorem plain_extend_end : plainId "bytearray.extend.end" = true := by decide +kernel
theorem entry_extend_end : entryFor table "bytearray.extend.end" = some Builtin.«bytearray.extend.end» := entryFor_of_tree (by kernel_rfl)
theorem ga_bytearray : typeLookup (.type "bytearray") "__getattribute__" = pure (some (.builtin "bytearray.__getattribute__")) := by rw [typeLookup_type, builtinLookup_eq_fast]; kernel_rfl
theorem canon_bytearray : (Manifest.canonical "bytearray.__getattribute__" != "object.__getattribute__") = false := by decide +kernel
theorem gn_bytearray : typeLookup (.type "bytearray") "__getattr__" = pure none := by rw [typeLookup_type, builtinLookup_eq_fast]; kernel_rfl
theorem type_bytearray_find : typeOf (.builtin "bytearray.find") = pure (.type "method_descriptor") := by show builtinType _ = _; rw [builtinType_eq_fast]; kernel_rfl
theorem type_bytearray_extend : typeOf (.builtin "bytearray.extend") = pure (.type "method_descriptor") := by show builtinType _ = _; rw [builtinType_eq_fast]; kernel_rfl
theorem look_ba_release : typeLookup (.type "bytearray") "__release_buffer__" = pure (some (.builtin "bytearray.__release_buffer__")) := by rw [typeLookup_type, builtinLookup_eq_fast]; kernel_rfl
theorem look_by_buffer : typeLookup (.type "bytes") "__buffer__" = pure (some (.builtin "bytes.__buffer__")) := by rw [typeLookup_type, builtinLookup_eq_fast]; kernel_rfl
theorem look_by_release : typeLookup (.type "bytes") "__release_buffer__" = pure none := by rw [typeLookup_type, builtinLookup_eq_fast]; kernel_rfl
theorem look_li_buffer : typeLookup (.type "list") "__buffer__" = pure none := by rw [typeLookup_type, builtinLookup_eq_fast]; kernel_rfl
theorem look_li_index : typeLookup (.type "list") "__index__" = pure none := by rw [typeLookup_type, builtinLookup_eq_fast]; kernel_rfl
theorem look_int_index : typeLookup (.type "int") "__index__" = pure (some (.builtin "int.__index__")) := by rw [typeLookup_type, builtinLookup_eq_fast]; kernel_rfl
theorem sub_ba_ba : isSubtype (.type "bytearray") (.type "bytearray") = pure true := by rw [isSubtype_type]; kernel_rfl
theorem sub_by_by : isSubtype (.type "bytes") (.type "bytes") = pure true := by rw [isSubtype_type]; kernel_rfl
theorem sub_li_ba : isSubtype (.type "list") (.type "bytearray") = pure false := by rw [isSubtype_type]; kernel_rfl
end B
end Aq

namespace Aq
open PySem.Calls
section
variable {prog : Program} {w : World} {A : Around} {E : Value → Shared → Prop} {s : Shared}
theorem getMethod_bi {T ga id : String} {name : Str} {l : Addr} {o : Obj} {pl : Sem Bool} {Q : Value × List Value → Shared → Prop} {M : Model} (ho : s.heap.get? l = some o) (hc : o.cls = .type T) (hd : o.dict = none)
    (hga : typeLookup (.type T) "__getattribute__" = pure (some (.builtin ga))) (hcan : (Manifest.canonical ga != "object.__getattribute__") = false) (hgn : typeLookup (.type T) "__getattr__" = pure none)
    (hl : typeLookup (.type T) name = pure (some (.builtin id))) (ht : typeOf (.builtin id) = pure (.type "method_descriptor"))
    (h : Q (.builtin id, [.ref l]) s) : wpAny M A (getMethod (.ref l) name pl) Q E s := by
  have hT : s.TypeIs (.ref l) T := ⟨o, ho, hc⟩
  unfold getMethod
  refine wpAny_bind (wpAny_specialOf hT hga ?_)
  show wpAny M A (if (Manifest.canonical ga != "object.__getattribute__") = true then _ else _) Q E s
  rw [hcan, if_neg Bool.false_ne_true]
  refine wpAny_bind (wpAny_specialOf hT hgn ?_)
  refine wpAny_bind (wpAny_specialOf hT hl ?_)
  refine wpAny_bind (wpAny_of_eq ht ?_)
  refine wpAny_bind (wpAny_load ho ?_)
  rw [hd]
  exact wpAny_bind (wpAny_rule (wpAny_pure h))
theorem len_bar {r : Addr} {b : Array UInt8} {Q : Value → Shared → Prop} (hr : s.heap.get? r = some (bar b)) (hz : b.size ≤ 100000) (h : ∀ t t', Q (.int b.size t') { s with toks := t }) :
    wpAny (model prog w) A (call (.builtin "len") [.ref r]) Q E s := by
  have hT : s.TypeIs (.ref r) "bytearray" := ⟨_, hr, rfl⟩
  refine call_function_entry kind_len plain_len entry_len (args_len1 _) ?_
  unfold Builtin.«len»
  refine wpAny_bind (m := oneArg "len" _) (wpAny_pure ?_)
  refine wpAny_bind (m := callSpecial? (.ref r) (Str.ofString "__len__")) (wpAny_callSpecial?_slot (name := Str.ofString "__len__") hT B.slot_bytearray_len
    (wpAny_call_entry B.slot_bytearray_len hT B.entry_bytearray_len ?_ (B.args_bytearray_len _)))
  obtain ⟨hp, g, d, tk, os⟩ := s
  wp_walk
  refine ⟨_, rfl, ?_⟩
  have h1 : ¬ ((b.size : Int) < 0) := by omega
  have h2 : ¬ ((b.size : Int) ≥ 2 ^ 63) := by omega
  wp_walk
  rw [if_neg h2]
  wp_walk
  exact ⟨_, rfl, h _ _⟩
end
end Aq

namespace Aq
open Sem (wp)
/-- a code on the stack that lends a bytearray of its first arguments -/
def isDec : Code → Bool
  | .builtin "bytearray.__contains__" ⟨_ :: _, _⟩ | .builtin "bytearray.__mod__" ⟨_ :: _, _⟩ | .builtin "bytearray.__rmod__" ⟨_ :: _ :: _, _⟩ | .builtin "_struct.pack_into.held" ⟨_ :: _, _⟩ => true
  | .builtin "bytearray.find.held" ⟨_ :: _ :: _ :: _, _⟩ => true
  | .builtin id ⟨_ :: _, _⟩ => Builtin.Bytes.decodersThatHold.contains id
  | _ => false
def CleanL (l : List (Code × Pos)) : Prop := ∀ x ∈ l, isDec x.1 = false
/-- as wpAny, but for stacks that bear no such code -/
def wpC {α : Type} (M : Model) (A : Around) (t : Sem α) (Q : α → Shared → Prop) (E : Value → Shared → Prop) (s : Shared) : Prop :=
  ∀ (Γ : Ctx) p, Γ.In A → isDec Γ.code = false → CleanL Γ.below → wp M Γ t (fun a _ s' => Q a s') (fun e _ s' => E e s') p s
def codeC (M : Model) (A : Around) (c : Code) (R : Result → Shared → Prop) (s : Shared) : Prop :=
  ∀ (Γ : Ctx) p, Γ.code = c → Γ.Below A → CleanL Γ.below → wpCode M Γ R p s
section
variable {α β : Type} {M : Model} {A : Around} {E : Value → Shared → Prop} {s : Shared}
theorem wpC_of {t : Sem α} {Q : α → Shared → Prop} (h : wpAny M A t Q E s) : wpC M A t Q E s := fun Γ p hΓ _ _ => h Γ p hΓ
theorem codeC_of {c : Code} {R : Result → Shared → Prop} (h : codeAny M A c R s) : codeC M A c R s := fun Γ p hc hΓ _ => h Γ p hc hΓ
theorem wpC_mono {t : Sem α} {Q Q' : α → Shared → Prop} {E' : Value → Shared → Prop} (h : wpC M A t Q E s) (hQ : ∀ a s, Q a s → Q' a s) (hE : ∀ e s, E e s → E' e s) : wpC M A t Q' E' s :=
  fun Γ p hΓ h1 h2 => Sem.wp_mono M Γ t (fun a _ s => hQ a s) (fun e _ s => hE e s) p s (h Γ p hΓ h1 h2)
theorem wpC_bind {m : Sem α} {f : α → Sem β} {Q : β → Shared → Prop} (h : wpC M A m (fun a s' => wpC M A (f a) Q E s') E s) : wpC M A (m >>= f) Q E s := fun Γ p hΓ h1 h2 => by
  rw [Sem.wp_bind']
  exact Sem.wp_mono M Γ m (fun a p' s' h' => h' Γ p' hΓ h1 h2) (fun _ _ _ h' => h') p s (h Γ p hΓ h1 h2)
/-- a part that does not resize, then one that may -/
theorem wpC_then {m : Sem α} {f : α → Sem β} {Q : β → Shared → Prop} (h : wpAny M A m (fun a s' => wpC M A (f a) Q E s') E s) : wpC M A (m >>= f) Q E s := wpC_bind (wpC_of h)
theorem wpC_pure {a : α} {Q : α → Shared → Prop} (h : Q a s) : wpC M A (pure a) Q E s := fun _ _ _ _ _ => h
theorem wpC_holding {vs : List Value} {m : Sem α} {Q : α → Shared → Prop} (h : wpC M A m Q E s) : wpC M A (holding vs m) Q E s := fun Γ p hΓ h1 h2 => by rw [Sem.wp_holding]; exact h Γ p hΓ h1 h2
theorem wpC_onRaise {m : Sem α} {k : Value → Sem Unit} {Q : α → Shared → Prop} (h : wpC M A m Q (fun _ _ => False) s) : wpC M A (m.onRaise k) Q E s := fun Γ p hΓ h1 h2 => by
  rw [Sem.wp_onRaise]
  exact Sem.wp_mono M Γ m (fun _ _ _ h' => h') (fun e p' s' h' => h'.elim) p s (h Γ p hΓ h1 h2)
theorem wpC_run {c : Code} {h : Option Value} {Q : Flow → Shared → Prop} (hc : codeC M (A.mark h) c (fun r s' => match r with | .ok f => Q f s' | .error e => E e s') s) (hnb : h ≠ some byPass := by intro x; cases x) : wpC M A (run c h) Q E s :=
  fun Γ p hΓ h1 h2 => by
    rw [Sem.wp_run]
    refine hc _ p rfl (hΓ.enter c h p hnb) fun x hx => ?_
    rcases List.mem_cons.mp hx with rfl | hx
    · exact h1
    · exact h2 x hx
theorem wpC_runValue {c : Code} {Q : Value → Shared → Prop} (hc : codeC M A c (fun r s' => match r with | .ok (.ret v) => Q v s' | .ok _ => False | .error e => E e s') s) : wpC M A (runValue c) Q E s := fun Γ p hΓ h1 h2 => by
  rw [Sem.wp_runValue]
  refine hc _ p rfl (hΓ.enter c none p (by intro x; cases x)) fun x hx => ?_
  rcases List.mem_cons.mp hx with rfl | hx
  · exact h1
  · exact h2 x hx
theorem wpC_call {f : Value} {pos : List Value} {kw : List (Str × Value)} {Q : Value → Shared → Prop} (hc : codeC M A (.call f ⟨pos, kw⟩) (fun r s' => match r with | .ok (.ret v) => Q v s' | .ok _ => False | .error e => E e s') s) : wpC M A (call f pos kw) Q E s := wpC_runValue hc
theorem codeC_of_tree {c : Code} {R : Result → Shared → Prop} (hd : isDec c = false)
    (h : wpC M (A.under c) (M.den c) (fun fin s' => match fin with | .done f => R (.ok f) s' | .again c' => c'.quiet = true ∧ codeC M A c' R s') (fun e s' => R (.error e) s') s) : codeC M A c R s := fun Γ p hc hΓ hcl => by
  rw [wpCode_iff_wp, hc]
  refine Sem.wp_mono M Γ _ (fun fin p' s' h' => ?_) (fun _ _ _ h' => h') p s (h Γ p (hc ▸ hΓ.in) (hc ▸ hd) hcl)
  cases fin with
  | done f => exact h'
  | again c' => exact ⟨h'.1, h'.2 (Γ.goto c') p' rfl (hΓ.goto c') hcl⟩
theorem codeC_loop {c : Code} {R : Result → Shared → Prop} (hd : isDec c = false) (hq : c.quiet = true) (I : Nat → Shared → Prop)
    (turn : ∀ n s, I n s → wpC M (A.under c) (M.den c)
      (fun fin s' => match fin with
        | .done f => R (.ok f) s'
        | .again c' => (c' = c ∧ ∃ m, m < n ∧ I m s') ∨ (c'.quiet = true ∧ codeC M A c' R s')) (fun e s' => R (.error e) s') s)
    (n : Nat) (h : I n s) : codeC M A c R s := by
  induction n using Nat.strongRecOn generalizing s with
  | ind n ih =>
    refine codeC_of_tree hd (wpC_mono (turn n s h) (fun fin s' hf => ?_) fun _ _ h' => h')
    cases fin with
    | done f => exact hf
    | again c' =>
      rcases hf with ⟨rfl, m, hm, hI⟩ | hf
      · exact ⟨hq, ih m hm hI⟩
      · exact hf
end
end Aq

namespace Aq
open Sem (wp)
section
variable {M : Model} {A : Around} {E : Value → Shared → Prop} {s : Shared}
theorem wpC_exported {self : Value} {Q : Bool → Shared → Prop} (h : Q false s) : wpC M A (Builtin.Bytes.exported self) Q E s := fun Γ p hΓ h1 h2 => by
  unfold Builtin.Bytes.exported
  show Q (List.any ((Γ.code, p) :: Γ.below) _) s
  rw [List.any_eq_false.mpr ?_]
  · exact h
  rintro ⟨c, q⟩ hx
  have hc : isDec c = false := by
    rcases List.mem_cons.mp hx with e | hx
    · cases e; exact h1
    · exact h2 _ hx
  unfold isDec at hc
  split at hc
  all_goals first
    | (cases hc; done)
    | skip
  · rename_i x5 id hd tl kw x4 x3 x2 x1 x0
    intro hf
    split at hf
    · rename_i e; cases e; exact x4 rfl
    · rename_i e; cases e; exact x3 rfl
    · rename_i e; cases e; exact x2 _ _ rfl rfl
    · rename_i e; cases e; exact x1 rfl
    · rename_i e
      cases e
      rename_i a b
      cases b with
      | nil => cases hf
      | cons c l => exact x0 _ _ _ rfl rfl
    · rename_i e; cases e; rw [hc, Bool.and_false] at hf; cases hf
    · cases hf
  · rename_i x6 x5 x4 x3 x2 x1 x0
    intro hf
    split at hf
    · rename_i e; cases e; exact x0 _ _ _ _ rfl
    · rename_i e; cases e; exact x0 _ _ _ _ rfl
    · rename_i e; cases e; exact x0 _ _ _ _ rfl
    · rename_i e; cases e; exact x0 _ _ _ _ rfl
    · rename_i e; cases e; exact x0 _ _ _ _ rfl
    · rename_i e; cases e; exact x0 _ _ _ _ rfl
    · cases hf
end
end Aq

namespace Aq
open PySem.Calls
open Sem (wp)
section
variable {prog : Program} {w : World} {A : Around} {E : Value → Shared → Prop} {s : Shared}
theorem wpC_checkResize {M : Model} {a : Addr} {b : Array UInt8} {Q : Unit → Shared → Prop} (ha : s.heap.get? a = some (bar b)) (h : Q () s) : wpC M A (Builtin.Bytes.checkResize (.ref a)) Q E s := by
  unfold Builtin.Bytes.checkResize
  refine wpC_bind ?_
  show wpC M A (Builtin.Bytes.exported (.ref a) >>= _) _ _ s
  refine wpC_bind (wpC_exported ?_)
  refine wpC_bind ?_
  refine wpC_of ?_
  show wpAny M A (load a >>= _) _ _ s
  refine wpAny_bind (wpAny_load ha ?_)
  refine wpAny_pure ?_
  refine wpC_pure ?_
  exact wpC_pure h
end
end Aq

namespace Aq
open PySem.Calls
open Sem (wp)
section
variable {prog : Program} {w : World} {A : Around} {E : Value → Shared → Prop} {s : Shared}
/-- a call of a built-in that may resize -/
theorem wpC_call_code {T : String} {name : Str} {id : String} {self : Value} {rest : List Value} {Q : Value → Shared → Prop} (h : Slot T name id) (hT : s.TypeIs self T) (ha : argsOk id ⟨self :: rest, []⟩)
    (hc : codeC (model prog w) A (.builtin id ⟨self :: rest, []⟩) (fun r s' => match r with | .ok (.ret v) => Q v s' | .ok _ => False | .error e => E e s') s) :
    wpC (model prog w) A (call (.builtin id) (self :: rest)) Q E s := by
  refine wpC_call (codeC_of_tree rfl ?_)
  show wpC _ A.in1 (do checkBuiltinCall id ⟨self :: rest, []⟩; again (.builtin id ⟨self :: rest, []⟩)) _ _ s
  exact wpC_then (h.check _ _ _ _ _ _ _ _ hT ha (wpC_pure ⟨plainId_quiet h.plain _, hc⟩))
theorem codeC_builtin {id : String} {args : Args} {b : Builtin} {R : Result → Shared → Prop} (hd : isDec (.builtin id args) = false) (hp : plainId id = true) (hb : entryFor table id = some b)
    (h : wpC (model prog w) A.in1 (b args) (fun fin s' => match fin with | .done f => R (.ok f) s' | .again c' => c'.quiet = true ∧ codeC (model prog w) A c' R s') (fun e s' => R (.error e) s') s) :
    codeC (model prog w) A (.builtin id args) R s := by
  refine codeC_of_tree hd ?_
  rw [Around.under_plainId hp]
  show wpC _ _ (match entryFor table id with | some b => b args | none => unsupported ((withoutEnding? id "#data").getD id)) _ _ s
  rw [hb]; exact h
theorem wpC_call_entry {T : String} {name : Str} {id : String} {b : Builtin} {self : Value} {rest : List Value} {Q : Value → Shared → Prop} (h : Slot T name id) (hT : s.TypeIs self T) (hb : entryFor table id = some b) (hd : isDec (.builtin id ⟨self :: rest, []⟩) = false)
    (hc : wpC (model prog w) A.in1 (b ⟨self :: rest, []⟩) (fun fin s' => ∃ v, fin = .done (.ret v) ∧ Q v s') E s) (ha : argsOk id ⟨self :: rest, []⟩) : wpC (model prog w) A (call (.builtin id) (self :: rest)) Q E s := by
  refine wpC_call_code h hT ha (codeC_builtin hd h.plain hb (wpC_mono hc (fun fin s' h' => ?_) fun _ _ h' => h'))
  obtain ⟨v, rfl, hv⟩ := h'
  exact hv
theorem wpC_callSpecial {M : Model} {self : Value} {T : String} {name : Str} {id : String} {args : List Value} {kw : List (Str × Value)} {Q : Option Value → Shared → Prop} (hT : s.TypeIs self T) (h : Slot T name id)
    (hc : wpC M A (call (.builtin id) (self :: args) kw) (fun v => Q (some v)) E s) : wpC M A (callSpecial? self name args kw) Q E s := by
  simp only [callSpecial?]
  refine wpC_then (wpAny_specialOf hT h.lookup ?_)
  simp only [h.bind]
  exact wpC_holding (wpC_bind (wpC_pure (wpC_bind (wpC_mono hc (fun v s' h' => wpC_pure h') fun _ _ h' => h'))))
theorem dec_del (r : Addr) (i : Value) : isDec (.builtin "bytearray.__delitem__" ⟨[.ref r, i], []⟩) = false := by
  simp [isDec, Builtin.Bytes.decodersThatHold]
theorem dec_set (r : Addr) (i v : Value) : isDec (.builtin "bytearray.__setitem__" ⟨[.ref r, i, v], []⟩) = false := by
  simp [isDec, Builtin.Bytes.decodersThatHold]
theorem dec_ext (r : Addr) (l : List Value) : isDec (.builtin "bytearray.extend" ⟨.ref r :: l, []⟩) = false := by
  simp [isDec, Builtin.Bytes.decodersThatHold]
theorem dec_extL (r : Addr) (l : List Value) : isDec (.builtin "bytearray.extend.loop" ⟨.ref r :: l, []⟩) = false := by
  simp [isDec, Builtin.Bytes.decodersThatHold]
theorem dec_extE (r : Addr) (l : List Value) : isDec (.builtin "bytearray.extend.end" ⟨.ref r :: l, []⟩) = false := by
  simp [isDec, Builtin.Bytes.decodersThatHold]
end
end Aq

namespace Aq
open PySem.Calls
section
variable {prog : Program} {w : World} {A : Around} {E : Value → Shared → Prop} {s : Shared}
theorem subscript_int {M : Model} {i : Int} {u : Tok} {Q : Option Int → Shared → Prop} (hf : Builtin.Bytes.fitsIndex i = true) (h : Q (some i) s) : wpAny M A (Builtin.Bytes.subscript? (.int i u)) Q E s := by
  have f1 := B.look_int_index
  have hf' : ¬ (!Builtin.Bytes.fitsIndex i) = true := by simp [hf]
  unfold Builtin.Bytes.subscript?
  wp_walk
  exact h
theorem payload_bar {M : Model} {r : Addr} {b : Array UInt8} {Q : Array UInt8 → Shared → Prop} (hr : s.heap.get? r = some (bar b)) (h : Q b s) : wpAny M A (Builtin.Bytes.payload (.ref r)) Q E s := by
  unfold Builtin.Bytes.payload Builtin.Bytes.payload?
  refine wpAny_bind ?_
  show wpAny M A (load r >>= _) _ _ s
  refine wpAny_bind (wpAny_load hr ?_)
  exact wpAny_pure (wpAny_pure h)
theorem write_bar {M : Model} {r : Addr} {b : Array UInt8} {f : Array UInt8 → Array UInt8} {Q : Unit → Shared → Prop} (hr : s.heap.get? r = some (bar b)) (hz : (f b).size ≤ 100000)
    (h : ∀ h', Heap.SameBut r s.heap h' → h'.get? r = some (bar (f b)) → Q () { s with heap := h' }) : wpAny M A (Builtin.Bytes.write (.ref r) f) Q E s := by
  unfold Builtin.Bytes.write
  show wpAny M A (updateBytearray r f) Q E s
  unfold updateBytearray
  refine wpAny_bind (wpAny_load hr ?_)
  show wpAny M A (update r (Obj.mapBytearray f) >>= fun _ => lookBehind r) Q E s
  refine wpAny_bind (wpAny_update hr ?_)
  have ho : (s.heap.update r (Obj.mapBytearray f)).get? r = some (bar (f b)) := Heap.get?_update_self _ hr rfl
  unfold lookBehind
  refine wpAny_bind (wpAny_load ho ?_)
  have hp : (bar (f b)).data.pastItsLine = none := by
    show (if _ then _ else _) = none
    rw [if_neg]
    have := sizeLine_eq
    omega
  rw [hp]
  exact wpAny_pure (h _ (Heap.SameBut.update ..) ho)
theorem erase_size {b : Array UInt8} {k : Nat} (hz : b.size ≤ 100000) : (b.eraseIdxIfInBounds k).size ≤ 100000 := by
  unfold Array.eraseIdxIfInBounds
  split
  · rw [Array.size_eraseIdx]; omega
  · exact hz
theorem del_bar {r : Addr} {b : Array UInt8} {i : Int} {u : Tok} {k : Nat} {Q : Unit → Shared → Prop} (hr : s.heap.get? r = some (bar b)) (hk : seqIndex? i b.size = some k) (hf : Builtin.Bytes.fitsIndex i = true) (hz : b.size ≤ 100000)
    (h : ∀ h', Heap.SameBut r s.heap h' → h'.get? r = some (bar (b.eraseIdxIfInBounds k)) → Q () { s with heap := h' }) : wpC (model prog w) A (delItem (.ref r) (.int i u)) Q E s := by
  have hT : s.TypeIs (.ref r) "bytearray" := ⟨_, hr, rfl⟩
  unfold delItem
  refine wpC_holding ?_
  refine wpC_then (wpAny_sequenceKey hT (by decide) ?_)
  refine wpC_bind (wpC_callSpecial hT B.slot_bytearray_delitem (wpC_call_entry B.slot_bytearray_delitem hT B.entry_bytearray_delitem (dec_del _ _) ?_ (B.args_bytearray_delitem _ _)))
  unfold Builtin.«bytearray.__delitem__»
  refine wpC_then (wpAny_of_eq (a := (Value.ref r, [Value.int i u])) rfl ?_)
  refine wpC_then (subscript_int hf ?_)
  refine wpC_then (payload_bar hr ?_)
  rw [hk]
  refine wpC_bind (wpC_checkResize hr ?_)
  refine wpC_then (write_bar hr (erase_size hz) fun h' hs ho => ?_)
  refine wpC_of ?_
  exact wpAny_pure ⟨.none, rfl, wpC_pure (h h' hs ho)⟩
end
end Aq

namespace Aq
open PySem.Calls
section
variable {prog : Program} {w : World} {A : Around} {E : Value → Shared → Prop} {s : Shared}
theorem fits_nat {i : Nat} (h : i < 100000) : Builtin.Bytes.fitsIndex (i : Int) = true := by
  have h1 : (-(2 ^ 63 : Int)) ≤ (i : Int) := by omega
  have h2 : (i : Int) < 2 ^ 63 := by omega
  unfold Builtin.Bytes.fitsIndex
  rw [decide_eq_true h1, decide_eq_true h2]; rfl
theorem getItem_bar {r : Addr} {b : Array UInt8} {i : Nat} {u : Tok} {x : UInt8} {Q : Value → Shared → Prop} (hr : s.heap.get? r = some (bar b)) (hz : b.size ≤ 100000) (hx : b[i]? = some x) (h : ∀ t tk, Q (.int x.toNat t) { s with toks := tk }) :
    wpAny (model prog w) A (getItem (.ref r) (.int (i : Int) u)) Q E s := by
  have hT : s.TypeIs (.ref r) "bytearray" := ⟨_, hr, rfl⟩
  have hi : i < b.size := by
    rcases Nat.lt_or_ge i b.size with q | q
    · exact q
    · rw [Array.getElem?_eq_none q] at hx; cases hx
  unfold getItem
  refine wpAny_holding ?_
  refine wpAny_bind (wpAny_sequenceKey hT (by decide) ?_)
  refine wpAny_bind (wpAny_callSpecial?_slot (name := Str.ofString "__getitem__") hT B.slot_bytearray_getitem (wpAny_call_entry B.slot_bytearray_getitem hT B.entry_bytearray_getitem ?_ (B.args_bytearray_getitem _ _)))
  have hfi : Builtin.Bytes.fitsIndex (i : Int) = true := fits_nat (by omega)
  have hk : seqIndex? (i : Int) b.size = some i := by
    have hn : ¬ (i : Int) < 0 := by omega
    unfold seqIndex?; rw [if_neg hn]; simp [hi]
  generalize (i : Int) = z at *
  unfold Builtin.«bytearray.__getitem__»
  refine wpAny_bind (wpAny_of_eq (a := (Value.ref r, [Value.int z u])) rfl ?_)
  refine wpAny_bind (subscript_int hfi ?_)
  refine wpAny_bind (payload_bar hr ?_)
  rw [hk]
  show wpAny _ _ (match b[i]? with | some x => _ | none => _) _ _ _
  rw [hx]
  show wpAny _ _ (retInt _) _ _ _
  exact wpAny_bind (wpAny_mkInt (wpAny_pure ⟨_, rfl, wpAny_pure (h _ _)⟩))
end
end Aq

namespace Aq
/-- the first place from i on at which ns stands in xs -/
def findFrom (ns : List Nat) : List Nat → Nat → Option Nat
  | [], off => if ns.isPrefixOf [] then some off else none
  | x :: xs, off => if ns.isPrefixOf (x :: xs) then some off else findFrom ns xs (off + 1)
def find (xs ns : List Nat) (i : Nat) : Option Nat := if ns.isEmpty then none else if i ≤ xs.length then findFrom ns (xs.drop i) i else none
def findI (xs ns : List Nat) (i : Nat) : Int := match find xs ns i with
  | some p => (p : Int)
  | none => -1
def toZ (l : List Nat) : List Int := l.map fun (n : Nat) => (n : Int)
/-- ns stands in xs at q -/
def hit (xs ns : List Nat) (q : Nat) : Prop := ns <+: xs.drop q

theorem findFrom_some {ns : List Nat} : ∀ {l : List Nat} {off p : Nat}, findFrom ns l off = some p → off ≤ p ∧ p ≤ off + l.length ∧ hit l ns (p - off) ∧ ∀ q, q < p - off → ¬ hit l ns q
  | [], off, p, h => by
    unfold findFrom at h
    split at h
    · cases h; rename_i q; exact ⟨Nat.le_refl _, Nat.le_refl _, by simpa [hit] using q, fun q hq => by omega⟩
    · cases h
  | x :: l, off, p, h => by
    unfold findFrom at h
    split at h
    · cases h; rename_i q; exact ⟨Nat.le_refl _, by simp, by rw [Nat.sub_self]; exact List.isPrefixOf_iff_prefix.mp q, fun q hq => by omega⟩
    · rename_i q0
      obtain ⟨a, b, c, d⟩ := findFrom_some h
      refine ⟨by omega, by simp only [List.length_cons]; omega, ?_, fun q hq => ?_⟩
      · rw [show p - off = (p - (off + 1)) + 1 by omega]; exact c
      · cases q with
        | zero => exact fun e => q0 (List.isPrefixOf_iff_prefix.mpr e)
        | succ q => exact d q (by omega)
theorem findFrom_none {ns : List Nat} : ∀ {l : List Nat} {off : Nat}, findFrom ns l off = none → ∀ q, q ≤ l.length → ¬ hit l ns q
  | [], off, h, q, hq => by
    unfold findFrom at h
    split at h
    · cases h
    · rename_i q0
      intro e
      apply q0
      simpa [hit] using e
  | x :: l, off, h, q, hq => by
    unfold findFrom at h
    split at h
    · cases h
    · rename_i q0
      cases q with
      | zero => exact fun e => q0 (List.isPrefixOf_iff_prefix.mpr e)
      | succ q => exact findFrom_none h q (by simpa using hq)
theorem hit_drop {xs ns : List Nat} {i q : Nat} : hit (xs.drop i) ns q ↔ hit xs ns (i + q) := by unfold hit; rw [List.drop_drop]
theorem hit_len {xs ns : List Nat} {q : Nat} (hne : ns ≠ []) (h : hit xs ns q) : q + ns.length ≤ xs.length := by
  have := h.length_le
  rw [List.length_drop] at this
  have : 0 < ns.length := List.length_pos_iff.mpr hne
  omega
theorem find_some {xs ns : List Nat} {i p : Nat} (h : find xs ns i = some p) : i ≤ p ∧ p + ns.length ≤ xs.length ∧ hit xs ns p ∧ (∀ q, i ≤ q → q < p → ¬ hit xs ns q) ∧ 0 < ns.length := by
  unfold find at h
  split at h
  · cases h
  rename_i hne
  have hne' : ns ≠ [] := by intro e; rw [e] at hne; exact hne rfl
  split at h
  · obtain ⟨a, b, c, d⟩ := findFrom_some h
    rw [hit_drop, show i + (p - i) = p by omega] at c
    refine ⟨a, hit_len hne' c, c, fun q h1 h2 e => d (q - i) (by omega) ?_, List.length_pos_iff.mpr hne'⟩
    rw [hit_drop, show i + (q - i) = q by omega]; exact e
  · cases h
theorem find_none {xs ns : List Nat} {i : Nat} (hne : ns ≠ []) (h : find xs ns i = none) : ∀ q, i ≤ q → ¬ hit xs ns q := by
  unfold find at h
  split at h
  · rename_i e; exact absurd (List.isEmpty_iff.mp e) hne
  split at h
  · intro q hq e
    have := hit_len hne e
    refine findFrom_none h (q - i) (by rw [List.length_drop]; omega) ?_
    rw [hit_drop, show i + (q - i) = q by omega]; exact e
  · intro q hq e
    have := hit_len hne e
    omega
theorem find_is {xs ns : List Nat} {i p : Nat} (hne : ns ≠ []) (h1 : i ≤ p) (h2 : hit xs ns p) (h3 : ∀ q, i ≤ q → q < p → ¬ hit xs ns q) : find xs ns i = some p := by
  cases e : find xs ns i with
  | none => exact absurd h2 (find_none hne e p h1)
  | some r =>
    obtain ⟨a, _, b, c, _⟩ := find_some e
    rcases Nat.lt_trichotomy r p with q | q | q
    · exact absurd b (h3 r a q)
    · rw [q]
    · exact absurd h2 (c p h1 q)
theorem find_no {xs ns : List Nat} {i : Nat} (h : ∀ q, i ≤ q → ¬ hit xs ns q) : find xs ns i = none := by
  cases e : find xs ns i with
  | none => rfl
  | some r => obtain ⟨a, _, b, _⟩ := find_some e; exact absurd b (h r a)

end Aq

namespace Aq
open PySem.Calls
abbrev P0 : Program := PySem.Challenge.pw_aq0004_01

section
variable {M : Model} {A : Around} {E : Value → Shared → Prop} {s : Shared} {name : Str} {scope : Scope} {L a : Addr} {cd : Value} {h₀ base : Heap} {m : Str → Option Value} {D : List Addr}
theorem stKp {x : Str} {v : Value} {Q : Unit → Shared → Prop} (F : Fr base L s.heap m) (K : Kp D h₀ s.heap) (hL : L ∈ D)
    (h : ∀ h', Fr base L h' (fun y => if y = x then some v else m y) → Kp D h₀ h' → Q () { s with heap := h', toks := s.toks + 1 })
    (hk : scope.kind = .function := by rfl) (hl : (envOf name scope L a cd).kindOf x = some .local := by rfl) :
    wpAny M A (storeName (envOf name scope L a cd) x v) Q E s :=
  wpAny_storeName_local hl F.ns (fun h' hn hs => h h' (F.set hn hs) (K.trans (Kp.of_same hs hL)))
    (by show (scope.kind == .class || (scope.kind == .module && L != mainGlobals)) = false; rw [hk]; rfl)
end

local macro_rules | `(tactic| walk_at "eval Name") => `(tactic| first
  | refine ld (by assumption) (by assumption) ?_
  | refine nmB (by assumption) (by assumption) bb_len ?_)
local macro_rules | `(tactic| walk_at "loadName") => `(tactic| refine ldn (by assumption) (by assumption) ?_)
local macro_rules | `(tactic| walk_at "storeName") => `(tactic| (refine stKp (by assumption) (by assumption) (.head _) ?_; intro h' F' K'; (try dsimp only)))

section
variable {prog : Program} {w : World} {A : Around} {s : Shared} {base h₀ : Heap} {L a : Addr} {cd : Value} {mg mb : Str → Option Value} {m : Str → Option Value}
  {Q : Flow → Shared → Prop} {E : Value → Shared → Prop} {nv hv : Value}
def genBody : List Stmt := (defAt P0 1).2.1
def genEnv (L a : Addr) (cd : Value) : Env := envOf "_findall" (defAt P0 1).2.2 L a cd

structure FindSpec (prog : Program) (w : World) (hv nv : Value) (ns : List Nat) (fid : String) (C : Heap → List Nat → Prop) : Prop where
  meth : ∀ {A E s Q pl xs}, C s.heap xs → Q (.builtin fid, [hv]) s → wpAny (model prog w) A (getMethod hv "find" pl) Q E s
  call : ∀ {A E s Q xs} {i : Nat} {t}, ns ≠ [] → C s.heap xs → (∀ t' tk, Q (.int (findI xs ns i) t') { s with toks := tk }) → wpAny (model prog w) A (call (.builtin fid) [hv, nv, .int (i : Int) t]) Q E s
  len : ∀ {A E s Q}, (∀ t' tk, Q (.int (ns.length : Int) t') { s with toks := tk }) → wpAny (model prog w) A (PySem.call (.builtin "len") [nv]) Q E s
  truth : ∀ {A E s Q}, (∀ tk, Q (!ns.isEmpty) { s with toks := tk }) → wpAny (model prog w) A (truthy nv) Q E s

theorem gen_zero (F : Fr base L s.heap m) (K : Kp [L] h₀ s.heap) (h : ∀ h' tk, Fr base L h' (fun y => if y = "i" then some (.int 0 s.toks) else m y) → Kp [L] h₀ h' → Q .next ⟨h', s.gens, s.drawn, tk, s.os⟩) :
   wpAny (model prog w) A (exec (genBody.getD 1 default) (genEnv L a cd)) Q E s := by
  unfold genEnv genBody
  show wpAny _ _ (exec (.Assign [.Name _ _] _ _) _) _ _ _
  repeat walk1
  exact h _ _ (by assumption) (by assumption)
theorem gen_test {ns fid C} (S : FindSpec prog w hv nv ns fid C) (F : Fr base L s.heap m) (hn : m "needle" = some nv) (h : ∀ tk, Q (if ns.isEmpty then .ret .none else .next) { s with toks := tk }) :
   wpAny (model prog w) A (exec (genBody.getD 0 default) (genEnv L a cd)) Q E s := by
  unfold genEnv genBody
  show wpAny _ _ (exec (.If _ _ _ _) _) _ _ _
  iterate 4 walk1
  refine S.truth fun tk => ?_
  replace h := h tk
  cases hb : ns.isEmpty <;> rw [hb] at h
  all_goals repeat walk1
  · exact h
  · exact h
def genLoop : List Stmt := match genBody.getD 2 default with
  | .While _ b _ _ => b
  | _ => []
theorem gen_find {ns fid C} {i : Nat} {t : Tok} {xs} (S : FindSpec prog w hv nv ns fid C) (hne : ns ≠ []) (F : Fr base L s.heap m) (K : Kp [L] h₀ s.heap) (hn : m "needle" = some nv) (hh : m "haystack" = some hv) (hi : m "i" = some (.int i t)) (hC : C s.heap xs)
   (h : ∀ h' tk t', Fr base L h' (fun y => if y = "i" then some (.int (findI xs ns i) t') else m y) → Kp [L] h₀ h' → Heap.SameBut L s.heap h' → Q .next ⟨h', s.gens, s.drawn, tk, s.os⟩) :
   wpAny (model prog w) A (exec (genLoop.getD 0 default) (genEnv L a cd)) Q E s := by
  have K0 : Kp [L] s.heap s.heap := Kp.refl
  unfold genEnv genLoop genBody
  show wpAny _ _ (exec (.Assign [.Name _ _] _ _) _) _ _ _
  repeat walk1
  refine S.meth hC ?_
  repeat walk1
  refine S.call hne hC fun t' tk => ?_
  refine wpAny_storeName_local rfl F.ns (fun h' hn hs => ?_) rfl
  exact h _ _ _ (F.set hn hs) (K.trans (Kp.of_same hs (.head _))) hs
theorem gen_break {i : Int} {t : Tok} (F : Fr base L s.heap m) (hi : m "i" = some (.int i t)) (h : ∀ tk, Q (if i < 0 then .brk else .next) { s with toks := tk }) :
   wpAny (model prog w) A (exec (genLoop.getD 1 default) (genEnv L a cd)) Q E s := by
  unfold genEnv genLoop genBody
  show wpAny _ _ (exec (.If _ _ _ _) _) _ _ _
  by_cases hb : i < 0
  · simp only [if_pos hb] at h
    iterate 6 walk1
    refine iteT (by simpa using hb) ?_
    repeat walk1
    exact h _
  · simp only [if_neg hb] at h
    iterate 6 walk1
    refine iteF (by simpa using hb) ?_
    repeat walk1
    exact h _
theorem gen_aug {ns fid C} {i : Nat} {t : Tok} (S : FindSpec prog w hv nv ns fid C) (W : Wd base mg mb) (F : Fr base L s.heap m) (hn : m "needle" = some nv) (hi : m "i" = some (.int i t))
   (h : ∀ h' tk t', Fr base L h' (fun y => if y = "i" then some (.int ((i + ns.length : Nat) : Int) t') else m y) → Heap.SameBut L s.heap h' → Q .next ⟨h', s.gens, s.drawn, tk, s.os⟩) :
   wpAny (model prog w) A (exec (genLoop.getD 3 default) (genEnv L a cd)) Q E s := by
  have K0 : Kp [L] s.heap s.heap := Kp.refl
  unfold genEnv genLoop genBody
  show wpAny _ _ (exec (.AugAssign _ _ _ _) _) _ _ _
  repeat walk1
  refine S.len fun t' tk => ?_
  iterate 1 walk1
  dsimp only
  refine wpAny_storeName_local rfl F.ns (fun h' hn hs => ?_) rfl
  exact h _ _ _ (F.set (by rw [Int.natCast_add]; exact hn) hs) hs

/-- the place from which the generator's next turn seeks -/
def Cur (base : Heap) (L : Addr) (hv nv : Value) (ns : List Nat) (h : Heap) (i : Nat) : Prop :=
  ∃ m, Fr base L h m ∧ m "haystack" = some hv ∧ m "needle" = some nv ∧ ((m "i" = none ∧ i = 0) ∨ ∃ (p : Nat) (t : Tok), m "i" = some (.int (p : Int) t) ∧ i = p + ns.length)
def Moved (L : Addr) (s s' : Shared) : Prop := ∃ h tk, s' = { s with heap := h, toks := tk } ∧ Kp [L] s.heap h
theorem Moved.refl {L : Addr} {s : Shared} : Moved L s s := ⟨_, _, rfl, Kp.refl⟩
theorem Moved.step {L : Addr} {s s' : Shared} {h : Heap} {tk : Nat} (x : Moved L s s') (k : Kp [L] s'.heap h) : Moved L s { s' with heap := h, toks := tk } := by
  obtain ⟨h1, t1, rfl, k1⟩ := x
  exact ⟨h, tk, rfl, k1.trans k⟩
theorem Cur.uniq {base : Heap} {L : Addr} {hv nv : Value} {ns : List Nat} {h : Heap} {i j : Nat} (x : Cur base L hv nv ns h i) (y : Cur base L hv nv ns h j) : i = j := by
  obtain ⟨m, F, _, _, hi⟩ := x
  obtain ⟨m', F', _, _, hj⟩ := y
  have e : m = m' := by
    obtain ⟨o, es, ep, ho, hd, _, hf⟩ := F.ns
    obtain ⟨o', es', ep', ho', hd', _, hf'⟩ := F'.ns
    rw [ho] at ho'
    cases ho'
    rw [hd] at hd'
    cases hd'
    funext z
    rw [← hf, hf']
  subst e
  rcases hi with ⟨a, rfl⟩ | ⟨p, t, a, rfl⟩ <;> rcases hj with ⟨b, rfl⟩ | ⟨q, u, b, rfl⟩ <;> rw [a] at b <;> first | rfl | cases b
  rfl
def GEnd (base : Heap) (L : Addr) (hv nv : Value) (ns : List Nat) (C : Heap → List Nat → Prop) (s s' : Shared) : Prop :=
  ∃ i xs, Cur base L hv nv ns s.heap i ∧ C s.heap xs ∧ find xs ns i = none ∧ Moved L s s'
def GR (base : Heap) (L : Addr) (hv nv : Value) (ns : List Nat) (C : Heap → List Nat → Prop) : GenEnd := fun _ s r s' => r = .ok (.ret .none) ∧ GEnd base L hv nv ns C s s'
def GY (base : Heap) (L : Addr) (hv nv : Value) (ns : List Nat) (C : Heap → List Nat → Prop) : Protocol := fun n s v s' kap =>
  ∃ i xs p t, Cur base L hv nv ns s.heap i ∧ C s.heap xs ∧ find xs ns i = some p ∧ v = .int (p : Int) t ∧ Moved L s s' ∧ Cur base L hv nv ns s'.heap (p + ns.length) ∧
    (0 < n → ∀ s2 xs', Cur base L hv nv ns s2.heap (p + ns.length) → C s2.heap xs' → kap (.send .none) s2)

def genWhile (L a : Addr) (cd : Value) : Code := .whileLoop (.Constant (.bool true) 0 ⟨6, 10, 6, 14⟩) genLoop [] (genEnv L a cd)
theorem seg_turn {ns fid C} {fs : List Frame} (S : FindSpec prog w hv nv ns fid C) (W : Wd base mg mb) (hne : ns ≠ []) (hCk : ∀ h h' xs, C h xs → Kp [L] h h' → C h' xs)
    (hfs : splitAtGen fs = none) (hfg : fs.any Frame.guarded = false)
    (hend : ∀ n s s', GEnd base L hv nv ns C s s' → Seg (model prog w) A (GR base L hv nv ns C) (GY base L hv nv ns C) n s (genWhile L a cd) (.pure (.done .next)) fs s')
    (n : Nat) (ih : ∀ k, n = k + 1 → ∀ s₀ s i xs m t, Cur base L hv nv ns s₀.heap i → C s₀.heap xs → Moved L s₀ s → Fr base L s.heap m → m "haystack" = some hv → m "needle" = some nv → m "i" = some (.int (i : Nat) t) →
      Seg (model prog w) A (GR base L hv nv ns C) (GY base L hv nv ns C) (k + 1) s₀ (genWhile L a cd) ((model prog w).den (genWhile L a cd)) fs s) :
    ∀ s₀ s i xs m t, Cur base L hv nv ns s₀.heap i → C s₀.heap xs → Moved L s₀ s → Fr base L s.heap m → m "haystack" = some hv → m "needle" = some nv → m "i" = some (.int (i : Nat) t) →
      Seg (model prog w) A (GR base L hv nv ns C) (GY base L hv nv ns C) (n + 1) s₀ (genWhile L a cd) ((model prog w).den (genWhile L a cd)) fs s := by
  intro s₀ s i xs m t hcur hC hmv F hh hn hi
  have hCs : C s.heap xs := by obtain ⟨h, tk, rfl, k⟩ := hmv; exact hCk _ _ _ hC k
  unfold genWhile
  refine seg_whileLoop ?_
  repeat walk1
  refine seg_execs_cons (seg_wrap ?_)
  refine gen_find (K := (Kp.refl : Kp [L] s.heap s.heap)) S hne F hn hh hi hCs fun h1 tk1 t1 F1 K1 hs1 => ?_
  dsimp only
  have hm1 : Moved L s₀ ⟨h1, s.gens, s.drawn, tk1, s.os⟩ := hmv.step (Kp.of_same hs1 (.head _))
  refine seg_execs_cons (seg_wrap ?_)
  refine gen_break (s := ⟨h1, s.gens, s.drawn, tk1, s.os⟩) F1 rfl fun tk2 => ?_
  have hm2 : Moved L s₀ ⟨h1, s.gens, s.drawn, tk2, s.os⟩ := hm1.step Kp.refl
  unfold findI
  cases hf : find xs ns i with
  | none =>
    dsimp only
    rw [if_pos (by decide)]
    exact hend _ _ _ ⟨i, xs, hcur, hC, hf, hm2⟩
  | some p =>
    dsimp only
    rw [if_neg (by omega)]
    dsimp only
    have e : findI xs ns i = p := by simp [findI, hf]
    rw [e] at F1
    refine seg_execs_cons (seg_Expr_Yield hfs rfl hfg ?_)
    refine ld F1 rfl ?_
    intro kap hk
    have hcur2 : Cur base L hv nv ns h1 (p + ns.length) := ⟨_, F1, hh, hn, .inr ⟨p, t1, rfl, rfl⟩⟩
    refine ⟨i, xs, p, t1, hcur, hC, hf, rfl, hm2, hcur2, fun hpos s2 xs' hcur3 hC3 => hk .none s2 ?_⟩
    obtain ⟨k, rfl⟩ : ∃ k, n = k + 1 := ⟨n - 1, by omega⟩
    have hcur3' := hcur3
    obtain ⟨m2, F2, hh2, hn2, hc2⟩ := hcur3
    obtain ⟨t2, hi2⟩ : ∃ t2, m2 "i" = some (.int (p : Int) t2) := by
      rcases hc2 with ⟨_, e2⟩ | ⟨p', t2, e2, e3⟩
      · exfalso
        apply hne
        apply List.eq_nil_of_length_eq_zero
        omega
      · obtain rfl : p = p' := by omega
        exact ⟨t2, e2⟩
    dsimp only
    refine seg_execs_cons (seg_wrap ?_)
    refine gen_aug S W F2 hn2 hi2 fun h3 tk3 t3 F3 hs3 => ?_
    dsimp only
    refine seg_execs_nil (seg_again rfl ?_)
    exact ih k rfl s2 _ _ xs' _ t3 hcur3' hC3 (Moved.refl.step (Kp.of_same hs3 (.head _))) F3 hh2 hn2 rfl
theorem seg_turns {ns fid C} {fs : List Frame} (S : FindSpec prog w hv nv ns fid C) (W : Wd base mg mb) (hne : ns ≠ []) (hCk : ∀ h h' xs, C h xs → Kp [L] h h' → C h' xs)
    (hfs : splitAtGen fs = none) (hfg : fs.any Frame.guarded = false)
    (hend : ∀ n s s', GEnd base L hv nv ns C s s' → Seg (model prog w) A (GR base L hv nv ns C) (GY base L hv nv ns C) n s (genWhile L a cd) (.pure (.done .next)) fs s') :
    ∀ n s₀ s i xs m t, Cur base L hv nv ns s₀.heap i → C s₀.heap xs → Moved L s₀ s → Fr base L s.heap m → m "haystack" = some hv → m "needle" = some nv → m "i" = some (.int (i : Nat) t) →
      Seg (model prog w) A (GR base L hv nv ns C) (GY base L hv nv ns C) (n + 1) s₀ (genWhile L a cd) ((model prog w).den (genWhile L a cd)) fs s := by
  intro n
  induction n with
  | zero => exact fun s₀ s i xs m t hcur hC hmv F hh hn hi => seg_turn S W hne hCk hfs hfg hend 0 (fun k e => by cases e) s₀ s i xs m t hcur hC hmv F hh hn hi
  | succ n ih => exact fun s₀ s i xs m t hcur hC hmv F hh hn hi => seg_turn S W hne hCk hfs hfg hend (n + 1) (fun k e => by cases e; exact ih) s₀ s i xs m t hcur hC hmv F hh hn hi

def GLive (prog : Program) (w : World) (A : Around) (base : Heap) (L : Addr) (hv nv : Value) (ns : List Nat) (C : Heap → List Nat → Prop) (k : Nat) (gs : GenState) (i : Nat) : Prop :=
  ∀ s xs, Cur base L hv nv ns s.heap i → C s.heap xs → gs.Goes (model prog w) A (GR base L hv nv ns C) (GY base L hv nv ns C) (k + 1) (.send .none) s

theorem gen_fresh {ns fid C} (S : FindSpec prog w hv nv ns fid C) (W : Wd base mg mb) (hCk : ∀ h h' xs, C h xs → Kp [L] h h' → C h' xs) (k : Nat) :
    GLive prog w A base L hv nv ns C k (.fresh (.func genBody (genEnv L a cd))) 0 := by
  intro s xs hcur hC
  refine ⟨rfl, seg_func ?_⟩
  have hcur0 := hcur
  obtain ⟨m, F, hh, hn, hi⟩ := hcur
  refine seg_execs_cons (seg_wrap ?_)
  refine gen_test S F hn fun tk0 => ?_
  by_cases hne : ns = []
  · rw [show ns.isEmpty = true by rw [hne]; rfl]
    exact seg_end (.ok (.ret .none)) ⟨rfl, 0, xs, hcur0, hC, by simp [find, hne], ⟨_, _, rfl, Kp.refl⟩⟩
  rw [show ns.isEmpty = false by cases ns with | nil => exact absurd rfl hne | cons => rfl]
  refine seg_execs_cons (seg_wrap ?_)
  refine gen_zero (s := { s with toks := tk0 }) F (Kp.refl : Kp [L] s.heap s.heap) fun h1 tk1 F1 K1 => ?_
  dsimp only
  refine seg_execs_cons (seg_While fun p => ?_)
  refine seg_turns S W hne hCk rfl rfl ?_ k s _ 0 xs _ _ hcur0 hC (Moved.refl.step K1) F1 hh hn rfl
  intro n s s' he
  refine seg_leaf (.ok .next) ?_
  exact seg_end (.ok (.ret .none)) ⟨rfl, he⟩

theorem gen_next {ns C ga g gs} {k i : Nat} {xs} {Q : Option Value → Shared → Prop} {E : Value → Shared → Prop} (hh : A.handled = none) (hl : s.heap.NoLimit) (hroom : A.depth < recursionLimit)
    (hg : s.heap.IsGen ga g) (hgs : s.gens[g]? = some gs) (hlive : GLive prog w A.in1 base L hv nv ns C k gs i) (hcur : Cur base L hv nv ns s.heap i) (hC : C s.heap xs) (hCu : ∀ h xs ys, C h xs → C h ys → xs = ys)
    (hY : ∀ p t h' tk gs', find xs ns i = some p → Kp [L] s.heap h' → Cur base L hv nv ns h' (p + ns.length) → gs'.bare = true → (0 < k → GLive prog w A.in1 base L hv nv ns C (k - 1) gs' (p + ns.length)) →
      Q (some (.int (p : Int) t)) { s with heap := h', toks := tk, gens := s.gens.setIfInBounds g gs' })
    (hE : ∀ h' tk, find xs ns i = none → Kp [L] s.heap h' → Q none { s with heap := h', toks := tk, gens := s.gens.setIfInBounds g .finished }) :
    wpAny (model prog w) A (pyNext (.ref ga)) Q E s := by
  have hgo := hlive (s.setGen g .running) xs hcur hC
  have two : ∀ (x y : GenState), (s.gens.setIfInBounds g x).setIfInBounds g y = s.gens.setIfInBounds g y := fun x y => by
    apply Array.ext' ; simp
  unfold pyNext
  refine wpAny_bind (wpAny_attempt (wpAny_callSpecial?_slot (name := Str.ofString "__next__") hg.typeIs slot_gen_next
    (wpAny_call_entry slot_gen_next hg.typeIs entry_gen_next ?_ (args_gen_next _))))
  show wpAny _ A.in1 (Builtin.Generator.genWake (.ref ga) (.send .none)) _ _ s
  unfold Builtin.Generator.genWake
  refine wpAny_bind (wpAny_holding (wpAny_genNumber hg (wpAny_bind (wpAny_genState hgs ?_))))
  cases gs with
  | running => exact hgo.elim
  | finished => exact hgo.elim
  | _ =>
    refine wpAny_bind (wpAny_roomToWake hl hroom ?_)
    refine wpAny_resumeQ hgs hgo (fun x s₁ hx => ?_) (fun v s₁ gs' hb hv => ?_)
    · obtain ⟨rfl, j, ys, hc', hC', hf, h', tk, rfl, hk⟩ := hx
      obtain rfl := hc'.uniq hcur
      obtain rfl := hCu _ _ _ hC' hC
      show wpAny _ A.in1 (newExc (.type "StopIteration") [] >>= _) _ _ _
      simp only [newExc, newTuple]
      refine wpAny_bind (wpAny_bind (wpAny_newObj_type ?_ (by size_fits)))
      refine wpAny_bind (m := firstArgMember _ _) (wpAny_of_eq (a := Value.none) rfl ?_)
      refine wpAny_newObj_type ?_ (by size_fits)
      simp only [raiseNew]
      refine wpAny_bind (wpAny_bind (wpAny_handled ?_))
      rw [show A.in1.handled = none from hh]
      refine wpAny_throw (wpAny_bind (wpAny_isInstance (T := "StopIteration") (b := true) ⟨_, Heap.get?_push_size _ rfl, rfl⟩ isSubtype_stop (wpAny_pure ?_)))
      show Q none ⟨_, (s.gens.setIfInBounds g _).setIfInBounds g _, _, _, _⟩
      rw [two]
      exact hE _ tk hf (hk.trans fun b o _ e => Heap.get?_push_of_some _ (Heap.get?_push_of_some _ e))
    · obtain ⟨j, ys, p, t, hc', hC', hf, rfl, ⟨h', tk, rfl, hk⟩, hc2, hkap⟩ := hv
      obtain rfl := hc'.uniq hcur
      obtain rfl := hCu _ _ _ hC' hC
      refine wpAny_pure ⟨_, rfl, wpAny_pure ?_⟩
      have := hY p t h' tk gs' hf hk hc2 hb ?_
      · simpa [Shared.setGen, two] using this
      · intro hpos s2 ys2 c2 C2
        obtain ⟨k', rfl⟩ : ∃ k', k = k' + 1 := ⟨k - 1, by omega⟩
        exact hkap (by omega) s2 ys2 c2 C2
end
end Aq

namespace Aq
open PySem.Calls
theorem hit_iff {xs ns : List Nat} {q : Nat} : hit xs ns q ↔ (xs.drop q).take ns.length = ns := by
  unfold hit
  rw [List.prefix_iff_eq_take]
  exact eq_comm
section
variable {prog : Program} {w : World} {A : Around} {s : Shared} {E : Value → Shared → Prop}
theorem e_by1 : (!"bytes.__buffer__".endsWith ("." ++ "__buffer__")) = false := by decide +kernel
theorem e_by2 : "bytes.__buffer__".dropRight ("__buffer__".length + 1) = "bytes" := by decide +kernel
theorem wpAny_ite_false' {M : Model} {α : Type} {c : Bool} {a b : Sem α} {Q : α → Shared → Prop} (hc : c = false) (h : wpAny M A b Q E s) : wpAny M A (if c = true then a else b) Q E s := by subst hc; exact h
theorem buffer_bytes {M : Model} {id : String} {b : Array UInt8} {t : Tok} {full : Bool} {Q : Option (Array UInt8) → Shared → Prop} (h : Q (some b) s) : wpAny M A (Builtin.Bytes.buffer? id (.bytes b t) full) Q E s := by
  have f2 := B.look_by_buffer
  have f3 := B.look_by_release
  have f4 := B.sub_by_by
  have e1 := e_by1
  have hT : s.TypeIs (.bytes b t) "bytes" := by show typeOf _ = _; rfl
  unfold Builtin.Bytes.buffer?
  wp_walk
  refine wpAny_ite_false' e_by1 ?_
  rw [e_by2]
  wp_walk
  exact h
end
/-- the octets of these signs -/
def By (xs : List Nat) : Array UInt8 := byteArr (toZ xs)
theorem By_toList (xs : List Nat) : (By xs).toList = xs.map fun x => x.toUInt8 := by simp [By, byteArr, toZ]
theorem By_size (xs : List Nat) : (By xs).size = xs.length := by simp [By, byteArr, toZ]
theorem octs_inj : ∀ {xs ys : List Nat}, (∀ x ∈ xs, x < 256) → (∀ x ∈ ys, x < 256) → (xs.map fun x => x.toUInt8) = (ys.map fun x => x.toUInt8) → xs = ys := by
  intro xs ys hx hy h
  have back : ∀ {l : List Nat}, (∀ x ∈ l, x < 256) → (l.map fun x => x.toUInt8).map UInt8.toNat = l := by
    intro l hl
    rw [List.map_map]
    conv => rhs; rw [← List.map_id l]
    apply List.map_congr_left
    intro a ha
    have := hl a ha
    simp [Nat.toUInt8]
    omega
  rw [← back hx, ← back hy, h]
theorem By_at {xs ns : List Nat} (hx : ∀ x ∈ xs, x < 256) (hn : ∀ x ∈ ns, x < 256) {j : Nat} : ((By xs).extract j (j + (By ns).size) == By ns) = true ↔ hit xs ns j := by
  rw [beq_iff_eq, ← Array.toList_inj, Array.toList_extract, By_toList, By_toList, By_size, List.extract_eq_take_drop, Nat.add_sub_cancel_left, hit_iff, ← List.map_drop, ← List.map_take]
  constructor
  · exact octs_inj (fun x hx' => hx x (List.mem_of_mem_drop (List.mem_of_mem_take hx'))) hn
  · exact fun e => by rw [e]
theorem bfind_eq {xs ns : List Nat} (hx : ∀ x ∈ xs, x < 256) (hn : ∀ x ∈ ns, x < 256) (hne : ns ≠ []) {i : Nat} (hi : i + ns.length ≤ xs.length) :
    Builtin.Bytes.find? (By xs) (By ns) i xs.length = find xs ns i := by
  unfold Builtin.Bytes.find?
  rw [By_size]
  cases h : List.find? (fun j => (By xs).extract j (j + ns.length) == By ns) (List.map (fun x => x + i) (List.range (xs.length + 1 - (i + ns.length)))) with
  | none =>
    rw [find_no]
    intro q hq e
    have hl := hit_len hne e
    rw [List.find?_eq_none] at h
    refine h q (List.mem_map.mpr ⟨q - i, List.mem_range.mpr (by omega), by omega⟩) ?_
    have := (By_at hx hn).mpr e
    rw [By_size] at this
    exact this
  | some p =>
    rw [List.find?_eq_some_iff_append] at h
    obtain ⟨h1, as, bs, h2, h3⟩ := h
    have hp : p ∈ List.map (fun x => x + i) (List.range (xs.length + 1 - (i + ns.length))) := by rw [h2]; simp
    obtain ⟨k, hk, rfl⟩ := List.mem_map.mp hp
    have hat : hit xs ns (k + i) := (By_at hx hn).mp (by rw [By_size]; exact h1)
    rw [find_is hne (Nat.le_add_left _ _) hat]
    intro q hq1 hq2 e
    have : q ∈ as := by
      have hk' := List.mem_range.mp hk
      have el : as.length = k := by
        have e1 : (List.map (fun x => x + i) (List.range (xs.length + 1 - (i + ns.length))))[as.length]? = some (k + i) := by rw [h2]; simp
        rw [List.getElem?_map] at e1
        cases e2 : (List.range (xs.length + 1 - (i + ns.length)))[as.length]? with
        | none => rw [e2] at e1; cases e1
        | some z =>
          rw [e2] at e1
          have : z + i = k + i := by simpa using e1
          have e3 := List.getElem?_eq_some_iff.mp e2
          obtain ⟨l1, l2⟩ := e3
          rw [List.getElem_range] at l2
          omega
      have e1 : (List.map (fun x => x + i) (List.range (xs.length + 1 - (i + ns.length))))[q - i]? = some q := by
        rw [List.getElem?_map, List.getElem?_range (by omega)]
        simp; omega
      rw [h2, List.getElem?_append_left (by omega)] at e1
      exact List.mem_of_getElem? e1
    have h4 := h3 q this
    have := (By_at hx hn).mpr e
    rw [By_size] at this
    rw [this] at h4
    cases h4
section
variable {prog : Program} {w : World} {A : Around} {s : Shared} {E : Value → Shared → Prop}
end
end Aq

namespace Aq
open PySem.Calls
section
variable {prog : Program} {w : World} {A : Around} {E : Value → Shared → Prop} {s : Shared}
theorem byte_int {M : Model} {x : Int} {u : Tok} {Q : UInt8 → Shared → Prop} (h0 : 0 ≤ x) (h1 : x < 256) (h : Q x.toNat.toUInt8 s) : wpAny M A (Builtin.Bytes.byteValue (.int x u)) Q E s := by
  have f1 := B.look_int_index
  have hc : ¬ (decide (x < 0) || decide (x ≥ 256)) = true := by simp; omega
  unfold Builtin.Bytes.byteValue
  wp_walk
  exact h
theorem setItem_bar {r : Addr} {b : Array UInt8} {i : Nat} {x : Int} {u t : Tok} {Q : Unit → Shared → Prop} (hr : s.heap.get? r = some (bar b)) (hz : b.size ≤ 100000) (hi : i < b.size) (h0 : 0 ≤ x) (h1 : x < 256)
    (h : ∀ h', Heap.SameBut r s.heap h' → h'.get? r = some (bar (b.setIfInBounds i x.toNat.toUInt8)) → Q () { s with heap := h' }) :
    wpAny (model prog w) A (setItem (.ref r) (.int (i : Int) u) (.int x t)) Q E s := by
  have hT : s.TypeIs (.ref r) "bytearray" := ⟨_, hr, rfl⟩
  have hfi : Builtin.Bytes.fitsIndex (i : Int) = true := fits_nat (by omega)
  have hk : seqIndex? (i : Int) b.size = some i := by
    have hn : ¬ (i : Int) < 0 := by omega
    unfold seqIndex?; rw [if_neg hn]; simp [hi]
  generalize (i : Int) = z at *
  unfold setItem
  refine wpAny_holding ?_
  refine wpAny_bind (wpAny_sequenceKey hT (by decide) ?_)
  refine wpAny_bind (wpAny_callSpecial?_slot (name := Str.ofString "__setitem__") hT B.slot_bytearray_setitem (wpAny_call_entry B.slot_bytearray_setitem hT B.entry_bytearray_setitem ?_ (B.args_bytearray_setitem _ _ _)))
  unfold Builtin.«bytearray.__setitem__»
  dsimp only
  refine wpAny_ite_false' rfl ?_
  refine wpAny_bind (subscript_int hfi ?_)
  refine wpAny_bind (byte_int h0 h1 ?_)
  refine wpAny_bind (payload_bar hr ?_)
  rw [hk]
  refine wpAny_bind (write_bar hr (by simpa using hz) fun h' hs ho => ?_)
  exact wpAny_pure ⟨.none, rfl, wpAny_pure (h h' hs ho)⟩
end
end Aq

namespace Aq
open PySem.Calls
theorem ba_mro : mroOf (.type "bytearray") = pure [.type "bytearray", .type "object"] := by rw [mroOf_type]; kernel_rfl
theorem ba_lookup_new : typeLookup (.type "bytearray") "__new__" = pure (some (.builtin "bytearray.__new__")) := by rw [typeLookup_type, builtinLookup_eq_fast]; kernel_rfl
theorem ba_called : TypeCalled "bytearray" "bytearray.__new__" "bytearray.__init__" :=
  ⟨by decide +kernel, by decide +kernel, ⟨_, _, ba_mro⟩, madeBy_type ba_mro ba_lookup_new (by decide +kernel), by decide +kernel, B.sub_ba_ba, B.slot_bytearray_init⟩
theorem ba_typeCall (a : Value) : checkTypeCall "bytearray" ⟨[a], []⟩ = pure () := by kernel_rfl
theorem ba_newCall (a : Value) : checkBuiltinCall "bytearray.__new__" ⟨[.type "bytearray", a], []⟩ = pure () := by kernel_rfl
theorem ba_entry_new : entryFor table "bytearray.__new__" = some Builtin.«list.__new__» := entryFor_alias (id' := "list.__new__") (by rw [fastTable_eq_tree]; kernel_rfl) (by decide +kernel) (by decide +kernel) (by rw [fastTable_eq_tree]; kernel_rfl)
theorem ba_plain_new : plainId "bytearray.__new__" = true := by decide +kernel
theorem ba_owner_new : ("bytearray.__new__".splitOn ".__new__").headD "" = "bytearray" := by simp +decide [String.splitOn, String.splitOnAux]
section
variable {prog : Program} {w : World} {A : Around} {E : Value → Shared → Prop} {s : Shared}
theorem code_ba_new (a : Value) {Q₁ : Value → Shared → Prop} (h : Q₁ (.ref s.heap.objs.size) { s with heap := s.heap.push (bar #[]) }) :
    codeAny (model prog w) A (.call (.builtin "bytearray.__new__") ⟨[.type "bytearray", a], []⟩) (wants Q₁ E) s := by
  refine codeAny_of_tree ?_
  show wpAny _ A.in1 (do checkBuiltinCall "bytearray.__new__" ⟨[.type "bytearray", a], []⟩; again (.builtin "bytearray.__new__" ⟨[.type "bytearray", a], []⟩)) _ _ s
  refine wpAny_bind (wpAny_of_eq (ba_newCall a) (wpAny_pure ⟨plainId_quiet ba_plain_new _, codeAny_builtin_stack ba_entry_new rfl fun p st => ?_⟩))
  rw [Around.under_plainId ba_plain_new _]
  have hsub := B.sub_ba_ba
  have hown := ba_owner_new
  obtain ⟨hp, g, d, tk, os⟩ := s
  simp only [hown]
  wp_walk
  exact h
end
end Aq

namespace Aq
open PySem.Calls
section
variable {prog : Program} {w : World} {A : Around} {E : Value → Shared → Prop} {s : Shared}
theorem codeC_builtinU {id : String} {args : Args} {b : Builtin} {R : Result → Shared → Prop} (hd : isDec (.builtin id args) = false) (hb : entryFor table id = some b)
    (h : wpC (model prog w) (A.under (.builtin id args)) (b args) (fun fin s' => match fin with | .done f => R (.ok f) s' | .again c' => c'.quiet = true ∧ codeC (model prog w) A c' R s') (fun e s' => R (.error e) s') s) :
    codeC (model prog w) A (.builtin id args) R s := by
  refine codeC_of_tree hd ?_
  show wpC _ _ (match entryFor table id with | some b => b args | none => unsupported ((withoutEnding? id "#data").getD id)) _ _ s
  rw [hb]; exact h
theorem wpC_ifF {α : Type} {M : Model} {c : Bool} {a b : Sem α} {Q : α → Shared → Prop} (hc : c = false) (h : wpC M A b Q E s) : wpC M A (if c = true then a else b) Q E s := by subst hc; exact h
theorem wpC_call_bytearray {a : Value} {Q : Value → Shared → Prop} (hd : ∀ obj, isDec (.builtin "bytearray.__init__" ⟨[obj, a], []⟩) = false) (ha : ∀ obj, argsOk "bytearray.__init__" ⟨[obj, a], []⟩)
    (h : wpC (model prog w) A.in1.in1 (Builtin.«bytearray.__init__» ⟨[.ref s.heap.objs.size, a], []⟩) (fun fin s' => fin = .done (.ret .none) ∧ Q (.ref s.heap.objs.size) s') (fun _ _ => False) { s with heap := s.heap.push (bar #[]) }) :
    wpC (model prog w) A (call (.type "bytearray") [a]) Q E s := by
  refine wpC_call (codeC_of_tree rfl ?_)
  show wpC _ A.in1 (callAny (.type "bytearray") ⟨[a], []⟩) _ _ s
  refine wpC_pure ⟨Code.quiet_builtin _ (by decide +kernel), codeC_builtinU (by simp [isDec, Builtin.Bytes.decodersThatHold]) F.entry_type_call ?_⟩
  rw [Around.under_plain (weight_type_call_type "bytearray" [a] []) rfl]
  show wpC _ A.in1 (Builtin.«type.__call__» ⟨[.type "bytearray", a], []⟩) _ _ s
  have h1 := ba_called.notType
  have h2 := ba_called.canCreate
  have h3 := ba_typeCall a
  have h4 := ba_called.made
  unfold Builtin.«type.__call__»
  simp only [h1, h3, ba_mro, h4]
  refine wpC_ifF rfl ?_
  refine wpC_ifF h2 ?_
  refine wpC_bind (wpC_pure ?_)
  refine wpC_bind (wpC_pure ?_)
  refine wpC_ifF rfl ?_
  refine wpC_bind (wpC_pure ?_)
  refine wpC_bind (wpC_pure ?_)
  refine wpC_then (wpAny_holding (wpAny_call (code_ba_new a ?_)))
  have hS : (s.heap.push (bar #[])).get? s.heap.objs.size = some (bar #[]) := Heap.get?_push_size _ rfl
  have hT : ({ s with heap := s.heap.push (bar #[]) } : Shared).TypeIs (.ref s.heap.objs.size) "bytearray" := ⟨_, hS, rfl⟩
  refine wpC_then (wpAny_isInstance hT B.sub_ba_ba ?_)
  show wpC _ _ (holding [_] (callSpecial? _ _ [a]) >>= _) _ _ _
  refine wpC_bind (wpC_holding (wpC_callSpecial hT B.slot_bytearray_init ?_))
  refine wpC_mono (wpC_call_entry (Q := fun v s' => v = .none ∧ Q (.ref s.heap.objs.size) s') B.slot_bytearray_init hT B.entry_bytearray_init (hd _) ?_ (ha _)) (fun v s' hv => ?_) fun _ _ e => e
  · exact wpC_mono h (fun fin s' hf => ⟨.none, hf.1, rfl, hf.2⟩) fun _ _ e => e.elim
  · obtain ⟨rfl, hv⟩ := hv
    exact wpC_pure hv
end
end Aq

namespace Aq
open PySem.Calls
theorem e_ba1 : (!"bytearray.__release_buffer__".endsWith ("." ++ "__release_buffer__")) = false := by decide +kernel
theorem e_ba2 : "bytearray.__release_buffer__".dropRight ("__release_buffer__".length + 1) = "bytearray" := by decide +kernel
theorem ba_bind (v : Value) : Builtin.Bytes.bindOptional "bytearray.__init__" "bytearray" ["source", "encoding", "errors"] [v] [] = pure [some v, none, none] := by kernel_rfl
theorem dec_init (obj a : Value) : isDec (.builtin "bytearray.__init__" ⟨[obj, a], []⟩) = false := by
  simp [isDec, Builtin.Bytes.decodersThatHold]
section
variable {prog : Program} {w : World} {A : Around} {E : Value → Shared → Prop} {s : Shared}
theorem wpC_if_false {α : Type} {M : Model} {c : Bool} {a b : Sem α} {Q : α → Shared → Prop} (hc : c = false) (h : wpC M A b Q E s) : wpC M A (if c = true then a else b) Q E s := by subst hc; exact h
theorem wpC_if_true {α : Type} {M : Model} {c : Bool} {a b : Sem α} {Q : α → Shared → Prop} (hc : c = true) (h : wpC M A a Q E s) : wpC M A (if c = true then a else b) Q E s := by subst hc; exact h
theorem ownRelease_ba {M : Model} {r : Addr} {b : Array UInt8} {Q : Bool → Shared → Prop} (hr : s.heap.get? r = some (bar b)) (h : Q false s) : wpAny M A (Builtin.Bytes.ownRelease (.ref r)) Q E s := by
  have hT : s.TypeIs (.ref r) "bytearray" := ⟨_, hr, rfl⟩
  have f1 := B.look_ba_release
  have f2 := B.sub_ba_ba
  unfold Builtin.Bytes.ownRelease Builtin.Bytes.slotIsOwn
  refine wpAny_bind (wpAny_bind (wpAny_specialOf hT f1 ?_))
  dsimp only
  refine wpAny_ite_false' e_ba1 ?_
  rw [e_ba2]
  refine wpAny_isInstance hT f2 ?_
  exact wpAny_pure h
theorem good_ints {vs : List Value} {xs : List Nat} (hi : IntsAre vs (toZ xs)) (hx : ∀ x ∈ xs, x < 256) : vs.takeWhile (fun | .int i _ => 0 ≤ i && i < 256 | _ => false) = vs ∧
    (vs.filterMap fun | .int i _ => some i.toNat.toUInt8 | _ => none) = xs.map fun x => x.toUInt8 := by
  induction xs generalizing vs with
  | nil => cases hi; exact ⟨rfl, rfl⟩
  | cons x xs ih =>
    obtain ⟨t, vs, rfl, hi'⟩ := hi.cons_inv
    obtain ⟨h1, h2⟩ := ih hi' fun y hy => hx y (.tail _ hy)
    have hx0 := hx x (.head _)
    constructor
    · rw [List.takeWhile_cons_of_pos (by simp; omega), h1]
    · simp only [List.filterMap_cons, List.map_cons, h2]
      simp
theorem init_ba {r l : Addr} {vs : List Value} {xs : List Nat} {n : Nat} {Q : PySem.Fin → Shared → Prop} (hr : s.heap.get? r = some (bar #[])) (hl : s.heap.get? l = some (lst vs n)) (hne : l ≠ r) (hi : IntsAre vs (toZ xs)) (hx : ∀ x ∈ xs, x < 256) (hz : xs.length ≤ 100000)
    (h : ∀ h', Heap.SameBut r s.heap h' → h'.get? r = some (bar (By xs)) → Q (.done (.ret .none)) { s with heap := h' }) :
    wpC (model prog w) A (Builtin.«bytearray.__init__» ⟨[.ref r, .ref l], []⟩) Q E s := by
  have hT : s.TypeIs (.ref r) "bytearray" := ⟨_, hr, rfl⟩
  unfold Builtin.«bytearray.__init__»
  refine wpC_then (ownRelease_ba hr ?_)
  refine wpC_if_false rfl ?_
  refine wpC_then (wpAny_of_eq (ba_bind _) ?_)
  refine wpC_then (wpAny_of_eq (a := ()) rfl ?_)
  refine wpC_then (wpAny_of_eq (a := ()) rfl ?_)
  refine wpC_bind ?_
  show wpC _ A (Builtin.Bytes.exported (.ref r) >>= _) _ _ s
  refine wpC_bind (wpC_exported ?_)
  refine wpC_bind (wpC_of ?_)
  show wpAny _ A (load r >>= _) _ _ s
  refine wpAny_bind (wpAny_load hr (wpAny_pure (wpC_pure (wpC_if_false rfl ?_))))
  refine wpC_then (write_bar hr (Nat.zero_le _) fun h1 hs1 ho1 => ?_)
  have hl1 : h1.get? l = some (lst vs n) := hs1.extBut _ _ hne hl
  have hTl : ({ s with heap := h1 } : Shared).TypeIs (.ref l) "list" := ⟨_, hl1, rfl⟩
  have f1 := B.look_li_index
  have f2 := B.look_li_buffer
  refine wpC_of ?_
  show wpAny _ _ (asStr? (.ref l) >>= _) _ _ _
  refine wpAny_bind ?_
  show wpAny _ _ (load l >>= _) _ _ _
  refine wpAny_bind (wpAny_load hl1 (wpAny_pure ?_))
  show wpAny _ _ (specialOf (.ref l) _ >>= _) _ _ _
  refine wpAny_bind (wpAny_specialOf hTl f1 ?_)
  show wpAny _ _ (Builtin.Bytes.buffer? _ _ _ >>= _) _ _ _
  refine wpAny_bind ?_
  unfold Builtin.Bytes.buffer?
  refine wpAny_bind (wpAny_specialOf hTl f2 ?_)
  refine wpAny_bind (wpAny_specialOf hTl f2 ?_)
  refine wpAny_pure ?_
  show wpAny _ _ (typeOf (.ref l) >>= _) _ _ _
  refine wpAny_bind (wpAny_typeOf hTl ?_)
  refine bm_if_true (by decide) ?_
  refine wpAny_bind ?_
  show wpAny _ _ (load l >>= _) _ _ _
  refine wpAny_bind (wpAny_load hl1 (wpAny_pure ?_))
  obtain ⟨g1, g2⟩ := good_ints hi hx
  have hvl : vs.length = xs.length := by rw [hi.length]; simp [toZ]
  dsimp only
  generalize hgood : List.takeWhile _ vs = good
  obtain rfl : good = vs := hgood.symm.trans g1
  generalize hb : (List.filterMap _ good).toArray = bs
  obtain rfl : bs = By xs := hb.symm.trans ((congrArg List.toArray g2).trans (Array.toList_inj.mp (by rw [By_toList])))
  have hnone : good.toArray[good.length]? = none := by simp
  rw [hnone]
  dsimp only
  refine wpAny_bind (wpAny_rule ?_)
  refine wpAny_bind (write_bar ho1 (by rw [By_size]; exact hz) fun h2 hs2 ho2 => ?_)
  have k : Heap.SameBut r s.heap h2 := ⟨hs2.1.trans hs1.1, fun b hb => (hs2.2 b hb).trans (hs1.2 b hb)⟩
  exact wpAny_pure (h h2 k ho2)
end
end Aq

namespace Aq
open PySem.Calls
section
variable {prog : Program} {w : World} {A : Around} {E : Value → Shared → Prop} {s : Shared}
theorem call_bytearray_C {l : Addr} {vs : List Value} {xs : List Nat} {n : Nat} {Q : Value → Shared → Prop} (hl : s.heap.get? l = some (lst vs n)) (hi : IntsAre vs (toZ xs)) (hx : ∀ x ∈ xs, x < 256) (hz : xs.length ≤ 100000)
    (h : ∀ h', (∀ b o, s.heap.get? b = some o → h'.get? b = some o) → h'.get? s.heap.objs.size = some (bar (By xs)) → h'.objs.size = s.heap.objs.size + 1 → Q (.ref s.heap.objs.size) { s with heap := h' }) :
    wpC (model prog w) A (call (.type "bytearray") [.ref l]) Q E s := by
  have hne : l ≠ s.heap.objs.size := Nat.ne_of_lt (Heap.lt_size hl)
  refine wpC_call_bytearray (fun _ => dec_init _ _) (fun _ => B.args_bytearray_init _ _) (init_ba (s := { s with heap := s.heap.push (bar #[]) }) (Heap.get?_push_size _ rfl) (Heap.get?_push_of_some _ hl) hne hi hx hz fun h' hs ho => ⟨rfl, ?_⟩)
  refine h h' (fun b o e => hs.extBut b o (Nat.ne_of_lt (Heap.lt_size e)) (Heap.get?_push_of_some _ e)) ho ?_
  rw [hs.1]
  exact Heap.size_push ..
theorem subscript_slice {M : Model} {sl : Addr} {o : Obj} {Q : Option Int → Shared → Prop} (hs : s.heap.get? sl = some o) (hc : o.cls = .type "slice") (h : Q none s) : wpAny M A (Builtin.Bytes.subscript? (.ref sl)) Q E s := by
  have hT : s.TypeIs (.ref sl) "slice" := ⟨o, hs, hc⟩
  unfold Builtin.Bytes.subscript?
  refine wpAny_bind (wpAny_specialOf hT slice_no_index ?_)
  exact wpAny_pure h
abbrev sliceAt (b : Nat) (t t' : Tok) : Obj := { cls := .type "slice", data := .fields #[.int b t, .int b t', .none] }
theorem slice_parts {M : Model} {sl : Addr} {b : Nat} {t t' : Tok} {Q : Value × Value × Value → Shared → Prop} (hs : s.heap.get? sl = some (sliceAt b t t')) (h : Q (rawInt b, rawInt b, .none) s) : wpAny M A (Builtin.Bytes.sliceParts (.ref sl)) Q E s := by
  have f1 := B.look_int_index
  unfold Builtin.Bytes.sliceParts
  wp_walk using AutoSeq1.wpAny_loadPart' hs
  exact h
theorem slice_idx {M : Model} {b n : Nat} {Q : Int × Int × Int → Shared → Prop} (hb : b ≤ n) (h : Q ((b : Int), (b : Int), 1) s) : wpAny M A (sliceIndices (rawInt b) (rawInt b) .none n) Q E s := by
  have hb0 : ¬ ((b : Int) < 0) := by omega
  have e : max 0 (min (b : Int) (n : Int)) = (b : Int) := by omega
  have f1 := B.look_int_index
  unfold sliceIndices
  generalize hz : (b : Int) = z at *
  wp_walk
  simp only [if_neg hb0, e]
  exact h
end
end Aq

namespace Aq
open PySem.Calls
theorem look_li_int : typeLookup (.type "list") "__int__" = pure none := by rw [typeLookup_type, builtinLookup_eq_fast]; kernel_rfl
theorem look_li_float : typeLookup (.type "list") "__float__" = pure none := by rw [typeLookup_type, builtinLookup_eq_fast]; kernel_rfl
theorem sub_li_cx : isSubtype (.type "list") (.type "complex") = pure false := by rw [isSubtype_type]; kernel_rfl
theorem By_append (xs ys : List Nat) : By (xs ++ ys) = By xs ++ By ys := by
  apply Array.toList_inj.mp
  simp [By_toList]
theorem By_splice {ys ns : List Nat} {b : Nat} (hb : b ≤ ys.length) : (By ys).extract 0 b ++ By ns ++ (By ys).extract b (By ys).size = By (ys.take b ++ ns ++ ys.drop b) := by
  apply Array.toList_inj.mp
  simp only [Array.toList_append, Array.toList_extract, By_toList, List.extract_eq_take_drop, List.map_append, By_size]
  rw [List.take_of_length_le (l := List.drop b _) (by simp)]
  simp
section
variable {prog : Program} {w : World} {A : Around} {E : Value → Shared → Prop} {s : Shared}
theorem splice_bar {r sl nd : Addr} {ys ns : List Nat} {vs : List Value} {k : Nat} {b : Nat} {t t' : Tok} {Q : Unit → Shared → Prop} (hr : s.heap.get? r = some (bar (By ys))) (hsl : s.heap.get? sl = some (sliceAt b t t')) (hnd : s.heap.get? nd = some (lst vs k))
    (hi : IntsAre vs (toZ ns)) (hn : ∀ x ∈ ns, x < 256) (hb : b ≤ ys.length) (hz : ys.length + ns.length ≤ 100000)
    (h : ∀ h', (∀ b o, b ≠ r → s.heap.get? b = some o → h'.get? b = some o) → h'.get? r = some (bar (By (ys.take b ++ ns ++ ys.drop b))) → Q () { s with heap := h' }) : wpC (model prog w) A (setItem (.ref r) (.ref sl) (.ref nd)) Q E s := by
  have hT : s.TypeIs (.ref r) "bytearray" := ⟨_, hr, rfl⟩
  have hTs : s.TypeIs (.ref sl) "slice" := ⟨_, hsl, rfl⟩
  have hTn : s.TypeIs (.ref nd) "list" := ⟨_, hnd, rfl⟩
  have hrn : nd ≠ r := by rintro rfl; rw [hr] at hnd; exact absurd (congrArg (fun o => o.map (·.cls)) hnd) (by simp)
  unfold setItem
  refine wpC_holding ?_
  refine wpC_then (wpAny_sequenceKey hT (by decide) ?_)
  refine wpC_bind (wpC_callSpecial hT B.slot_bytearray_setitem (wpC_call_entry B.slot_bytearray_setitem hT B.entry_bytearray_setitem (dec_set _ _ _) ?_ (B.args_bytearray_setitem _ _ _)))
  unfold Builtin.«bytearray.__setitem__»
  dsimp only
  refine wpC_if_false rfl ?_
  refine wpC_then (subscript_slice hsl rfl ?_)
  dsimp only
  refine wpC_then (wpAny_typeOf hTs ?_)
  refine wpC_if_false (by decide) ?_
  refine wpC_then (slice_parts hsl ?_)
  have hsr : Builtin.Bytes.sameRef (.ref r) (.ref nd) = false := by simp [Builtin.Bytes.sameRef, Ne.symm hrn]
  rw [hsr]
  refine wpC_if_false rfl ?_
  have f1 := B.look_li_index
  have f2 := look_li_int
  have f3 := look_li_float
  have f4 := sub_li_cx
  have f5 := B.sub_li_ba
  refine wpC_then (wpAny_isInstance hTn f5 ?_)
  refine wpC_if_true rfl ?_
  refine wpC_then ?_
  wp_walk
  refine wpC_then ?_
  show wpAny _ _ (load nd >>= _) _ _ _
  refine wpAny_bind (wpAny_load hnd (wpAny_pure ?_))
  refine wpC_if_false rfl ?_
  refine wpC_then (wpAny_rule ?_)
  refine wpC_bind (call_bytearray_C hnd hi hn (by omega) fun h1 k1 ho1 hsz1 => ?_)
  have hsl1 := k1 _ _ hsl
  refine wpC_then (wpAny_holding (slice_parts (s := { s with heap := h1 }) hsl1 ?_))
  refine wpC_then (payload_bar (s := { s with heap := h1 }) ho1 ?_)
  refine wpC_then (payload_bar (s := { s with heap := h1 }) (k1 _ _ hr) ?_)
  rw [By_size]
  refine wpC_then (slice_idx hb ?_)
  refine wpC_if_true rfl ?_
  refine wpC_then (wpAny_rule ?_)
  have hr1 := k1 _ _ hr
  have fin : ∀ f : Array UInt8 → Array UInt8, f (By ys) = By (ys.take b ++ ns ++ ys.drop b) → wpC (model prog w) A.in1 (do
      Builtin.Bytes.write (.ref r) f
      ret .none) (fun fin s' => ∃ v, fin = .done (.ret v) ∧ wpC (model prog w) A (pure ()) Q E s') E { s with heap := h1 } := by
    intro f hf
    refine wpC_then (write_bar (s := { s with heap := h1 }) hr1 (by rw [hf, By_size]; simp; omega) fun h2 hs2 ho2 => ?_)
    refine wpC_of (wpAny_pure ⟨.none, rfl, wpC_pure (h h2 (fun b' o hb' e => hs2.extBut _ _ hb' (k1 _ _ e)) (by rw [ho2, hf]))⟩)
  have ef : (fun b_1 : Array UInt8 => b_1.extract 0 (b : Int).toNat ++ By ns ++ b_1.extract (max (b : Int) (b : Int)).toNat b_1.size) (By ys) = By (ys.take b ++ ns ++ ys.drop b) := by
    rw [Int.max_self, Int.toNat_natCast]
    exact By_splice hb
  by_cases hc : ((By ns).size : Int) != max (b : Int) (b : Int) - (b : Int)
  · refine wpC_if_true hc ?_
    exact wpC_bind (wpC_checkResize (s := { s with heap := h1 }) hr1 (fin _ ef))
  · refine wpC_if_false (by simpa using hc) ?_
    exact fin _ ef
end
end Aq

namespace Aq
open PySem.Calls
section
variable {prog : Program} {w : World} {A : Around} {E : Value → Shared → Prop} {s : Shared}
theorem ext_end {r it S : Addr} {b more : Array UInt8} {R : Result → Shared → Prop} (hr : s.heap.get? r = some (bar b)) (hS : s.heap.get? S = some (bar more)) (hz : b.size + more.size ≤ 100000)
    (h : ∀ h', Heap.SameBut r s.heap h' → h'.get? r = some (bar (b ++ more)) → R (.ok (.ret .none)) { s with heap := h' }) :
    codeC (model prog w) A (.builtin "bytearray.extend.end" ⟨[.ref r, .ref it, .ref S], []⟩) R s := by
  refine codeC_builtin (dec_extE _ _) B.plain_extend_end B.entry_extend_end ?_
  unfold Builtin.«bytearray.extend.end»
  refine wpC_then (wpAny_point ?_)
  refine wpC_then (payload_bar hS ?_)
  have fin : ∀ f : Array UInt8 → Array UInt8, f b = b ++ more → wpC (model prog w) A.in1 (do Builtin.Bytes.write (.ref r) f; ret .none) (fun fin s' => match fin with | .done f => R (.ok f) s' | .again c' => c'.quiet = true ∧ codeC (model prog w) A c' R s') (fun e s' => R (.error e) s') s := by
    intro f hf
    refine wpC_then (write_bar hr (by rw [hf]; simpa using hz) fun h' hs ho => ?_)
    exact wpC_of (wpAny_pure (h h' hs (by rw [ho, hf])))
  show wpC _ _ (ite _ _ _) _ _ _
  split
  · exact wpC_bind (wpC_checkResize hr (fin _ rfl))
  · exact fin _ rfl
theorem ext_loop {r l I S : Addr} {vs : List Value} {ys ns : List Nat} {n : Nat} {R : Result → Shared → Prop} (hh : A.handled = none) (hi : IntsAre vs (toZ ns)) (hn : ∀ x ∈ ns, x < 256) (hz : ys.length + ns.length ≤ 100000) (hIS : I ≠ S) (hlI : l ≠ I) (hlS : l ≠ S) (hrI : r ≠ I) (hrS : r ≠ S) :
    ∀ (k i : Nat) (s : Shared), ns.length - i = k → i ≤ ns.length → s.heap.get? l = some (lst vs n) → s.heap.IsListIter I l i → s.heap.get? r = some (bar (By ys)) → s.heap.get? S = some (bar (By (ns.take i))) →
      (∀ h', (∀ b o, b ≠ r → b ≠ I → b ≠ S → s.heap.get? b = some o → h'.get? b = some o) → h'.get? r = some (bar (By (ys ++ ns))) → R (.ok (.ret .none)) { s with heap := h' }) →
      codeC (model prog w) A (.builtin "bytearray.extend.loop" ⟨[.ref r, .ref l, .ref I, .ref S], []⟩) R s := by
  have hlen : vs.length = ns.length := by rw [hi.length]; simp [toZ]
  intro k
  induction k with
  | zero =>
    intro i s hk hle hl hit hr hS hR
    obtain rfl : i = ns.length := by omega
    rw [List.take_length] at hS
    refine codeC_builtin (dec_extL _ _) B.plain_extend_loop B.entry_extend_loop ?_
    unfold Builtin.«bytearray.extend.loop»
    refine wpC_then (wpAny_pyNext_list_end hh hit (lst_isList hl) (by simp [hlen]) fun h' he => ?_)
    refine wpC_pure ⟨plainId_quiet B.plain_extend_end _, ext_end (s := { s with heap := h' }) (he _ _ hrI hr) (he _ _ (Ne.symm hIS) hS) (by rw [By_size, By_size]; exact hz) fun h2 hs2 ho2 => ?_⟩
    exact hR h2 (fun b o h1 h3 h4 e => hs2.extBut b o h1 (he b o h3 e)) (by rw [ho2, By_append])
  | succ k ih =>
    intro i s hk hle hl hit hr hS hR
    have hlt : i < ns.length := by omega
    have hv : vs[i]? = some vs[i] := List.getElem?_eq_getElem (by omega)
    obtain ⟨u, hu⟩ := hi.int_at i _ hv
    have ez : (toZ ns).getD i 0 = ((ns[i] : Nat) : Int) := by simp [toZ, List.getD_eq_getElem?_getD, hlt]
    rw [ez] at hu
    have hb := hn ns[i] (List.getElem_mem hlt)
    have et : ns.take (i + 1) = ns.take i ++ [ns[i]] := by rw [List.take_add_one, List.getElem?_eq_getElem hlt]; rfl
    generalize ns[i] = c at *
    rw [hu] at hv
    refine codeC_builtin (dec_extL _ _) B.plain_extend_loop B.entry_extend_loop (wpC_of ?_)
    unfold Builtin.«bytearray.extend.loop»
    refine wpAny_bind (wpAny_pyNext_list_item hit (lst_isList hl) (x := .int (c : Int) u) (by simpa using hv) fun h1 hit1 hs1 => ?_)
    dsimp only
    refine wpAny_bind (wpAny_tryCatch (wpAny_holding (byte_int (by omega) (by omega) ?_)))
    rw [Int.toNat_natCast]
    refine wpAny_bind ?_
    refine wpAny_letGo ?_
    have ep : (By (ns.take i)).push c.toUInt8 = By (ns.take (i + 1)) := by
      apply Array.toList_inj.mp
      rw [Array.toList_push, By_toList, By_toList, et, List.map_append]; rfl
    refine wpAny_bind (write_bar (s := { s with heap := h1 }) (hs1.extBut _ _ (Ne.symm hIS) hS) (by rw [ep, By_size, List.length_take]; omega) fun h2 hs2 ho2 => ?_)
    rw [ep] at ho2
    refine wpAny_pure ⟨plainId_quiet B.plain_extend_loop _, ih (i + 1) { s with heap := h2 } (by omega) hlt (hs2.extBut _ _ hlS (hs1.extBut _ _ hlI hl)) (hit1.extBut hs2.extBut hIS) (hs2.extBut _ _ hrS (hs1.extBut _ _ hrI hr)) ho2 fun h3 k3 ho3 => ?_⟩
    exact hR h3 (fun b o e1 e2 e3 e => k3 b o e1 e2 e3 (hs2.extBut _ _ e3 (hs1.extBut _ _ e2 e))) ho3
theorem extend_bar {r l : Addr} {vs : List Value} {ys ns : List Nat} {n : Nat} {Q : Value → Shared → Prop} (hh : A.handled = none) (hr : s.heap.get? r = some (bar (By ys))) (hl : s.heap.get? l = some (lst vs n)) (hi : IntsAre vs (toZ ns)) (hn : ∀ x ∈ ns, x < 256) (hz : ys.length + ns.length ≤ 100000)
    (h : ∀ h', (∀ b o, b ≠ r → s.heap.get? b = some o → h'.get? b = some o) → h'.get? r = some (bar (By (ys ++ ns))) → Q .none { s with heap := h' }) :
    wpC (model prog w) A (call (.builtin "bytearray.extend") [.ref r, .ref l]) Q E s := by
  have hT : s.TypeIs (.ref r) "bytearray" := ⟨_, hr, rfl⟩
  have hTl : s.TypeIs (.ref l) "list" := ⟨_, hl, rfl⟩
  have hrl : r ≠ l := by rintro rfl; rw [hr] at hl; exact absurd (congrArg (fun o => o.map (·.cls)) hl) (by simp)
  refine wpC_call_code B.slot_bytearray_extend hT (B.args_bytearray_extend _ _) (codeC_builtin (dec_ext _ _) B.slot_bytearray_extend.plain B.entry_bytearray_extend ?_)
  unfold Builtin.«bytearray.extend»
  refine wpC_then (wpAny_of_eq (a := (Value.ref r, Value.ref l)) rfl ?_)
  dsimp only
  refine wpC_then (wpAny_specialOf hTl B.look_li_buffer ?_)
  refine wpC_if_false rfl ?_
  refine wpC_then (wpAny_tryCatch (wpAny_pyIter_list (lst_isList hl) ?_))
  have hl₁ : (s.heap.push { cls := .type "list_iterator", data := .fields #[.ref l, .int 0 0] }).get? l = some (lst vs n) := Heap.get?_push_of_some _ hl
  have hT₁ : ({ s with heap := s.heap.push { cls := .type "list_iterator", data := .fields #[.ref l, .int 0 0] } } : Shared).TypeIs (.ref l) "list" := ⟨_, hl₁, rfl⟩
  refine wpC_then (wpAny_holding ?_)
  unfold Builtin.Bytes.lengthHint
  refine wpAny_bind (wpAny_specialOf hT₁ slot_list_len.lookup ?_)
  dsimp only
  rw [F.bm_split]
  dsimp only
  refine wpAny_bind (wpAny_isInstance hT₁ F.bm_sub_list ?_)
  refine bm_if_false rfl ?_
  refine bm_if_true (by decide +kernel) ?_
  refine wpAny_pure ?_
  refine wpC_then ?_
  unfold Builtin.Bytes.newBytearray
  refine wpAny_newObj_type ?_ (Nat.zero_le _)
  have hsz : (s.heap.push { cls := .type "list_iterator", data := .fields #[.ref l, .int 0 0] }).objs.size = s.heap.objs.size + 1 := Heap.size_push _ _
  have hlt : l < s.heap.objs.size := Heap.lt_size hl
  have hrt : r < s.heap.objs.size := Heap.lt_size hr
  have up : ∀ b o, s.heap.get? b = some o → ((s.heap.push { cls := .type "list_iterator", data := .fields #[.ref l, .int 0 0] }).push { cls := .type "bytearray", data := .bytearray #[] }).get? b = some o := fun b o e => Heap.get?_push_of_some _ (Heap.get?_push_of_some _ e)
  have hI : ((s.heap.push { cls := .type "list_iterator", data := .fields #[.ref l, .int 0 0] }).push { cls := .type "bytearray", data := .bytearray #[] }).IsListIter s.heap.objs.size l 0 :=
    ⟨_, Heap.get?_push_of_some _ (Heap.get?_push_size _ rfl), rfl, rfl⟩
  refine wpC_pure ⟨plainId_quiet B.plain_extend_loop _, ext_loop (ys := ys) (ns := ns) (n := n) hh hi hn hz ?_ (Nat.ne_of_lt hlt) ?_ (Nat.ne_of_lt hrt) ?_ ns.length 0 _ rfl (Nat.zero_le _) (up _ _ hl) hI (up _ _ hr) (Heap.get?_push_size _ rfl) fun h' k ho => ?_⟩
  · rw [hsz]; exact Nat.ne_of_lt (Nat.lt_succ_self _)
  · rw [hsz]; exact Nat.ne_of_lt (Nat.lt_succ_of_lt hlt)
  · rw [hsz]; exact Nat.ne_of_lt (Nat.lt_succ_of_lt hrt)
  · exact h h' (fun b o hb e => k b o hb (Nat.ne_of_lt (Heap.lt_size e)) (by rw [hsz]; exact Nat.ne_of_lt (Nat.lt_succ_of_lt (Heap.lt_size e))) (up _ _ e)) ho
end
end Aq

namespace Aq
open PySem.Calls
/-- the octets at r -/
def BarAt (r : Addr) (h : Heap) (ys : List Nat) : Prop := h.get? r = some (bar (By ys)) ∧ ∀ x ∈ ys, x < 256
theorem By_inj {xs ys : List Nat} (hx : ∀ x ∈ xs, x < 256) (hy : ∀ x ∈ ys, x < 256) (h : By xs = By ys) : xs = ys := by
  have := congrArg Array.toList h
  rw [By_toList, By_toList] at this
  exact octs_inj hx hy this
theorem BarAt.uniq {r : Addr} {h : Heap} {xs ys : List Nat} (a : BarAt r h xs) (b : BarAt r h ys) : xs = ys := by
  have e := a.1.symm.trans b.1
  exact By_inj a.2 b.2 (by injection e with e; injection e with _ _ e; injection e)
section
variable {prog : Program} {w : World} {A : Around} {s : Shared} {E : Value → Shared → Prop}
theorem bar_find_meets {r : Addr} {xs ns : List Nat} (hx : ∀ x ∈ xs, x < 256) (hn : ∀ x ∈ ns, x < 256) (hne : ns ≠ []) (t' : Tok) (i : Nat) (u : Tok) :
    Meets (Builtin.«bytearray.find» ⟨[.ref r, .bytes (By ns) t', .int (i : Int) u], []⟩) (fun _ R s => s.heap.get? r = some (bar (By xs)) ∧ ∀ tk tk', R (.ok (.ret (.int (findI xs ns i) tk'))) { s with toks := tk }) := .of_wp fun prog w A R s h => by
  obtain ⟨hp, g, d, tk, os⟩ := s
  obtain ⟨hr, h⟩ := h
  have f1 := B.look_int_index
  unfold Builtin.«bytearray.find» Builtin.Bytes.searchM Builtin.Bytes.searchArgs
  repeat (first | (refine buffer_bytes (b := By ns) (t := t') ?_) | (refine payload_bar (b := By xs) hr ?_) | wp_step)
  have hw : Builtin.Bytes.window (By xs).size (some (i : Int)) none = ((i : Int), (xs.length : Int)) := by
    unfold Builtin.Bytes.window
    rw [By_size]
    simp
    omega
  rw [hw, By_size ns]
  dsimp only
  have ho : ((if (xs.length : Int) - (i : Int) < (ns.length : Int) then none else some ((i : Int).toNat, (xs.length : Int).toNat)).bind
    fun (x : Nat × Nat) => match x with | (lo, hi) => if false = true then Builtin.Bytes.rfind? (By xs) (By ns) lo hi else Builtin.Bytes.find? (By xs) (By ns) lo hi) = find xs ns i := by
    split
    · rw [find_no]
      · rfl
      · intro q hq e
        have := hit_len hne e
        omega
    · show Builtin.Bytes.find? (By xs) (By ns) (i : Int).toNat (xs.length : Int).toNat = _
      rw [Int.toNat_natCast, Int.toNat_natCast]
      exact bfind_eq hx hn hne (by omega)
  unfold findI at h
  split
  · rename_i j e
    rw [ho] at e
    rw [e] at h
    wp_walk
    exact ⟨_, rfl, h _ _⟩
  · rename_i e
    rw [ho] at e
    rw [e] at h
    wp_walk
    exact ⟨_, rfl, h _ _⟩
theorem find_bar {r : Addr} {ns : List Nat} {t' : Tok} (hn : ∀ x ∈ ns, x < 256) (hz : ns.length ≤ 100000) : FindSpec prog w (.ref r) (.bytes (By ns) t') ns "bytearray.find" (BarAt r) where
  meth := fun C h => getMethod_bi C.1 rfl rfl B.ga_bytearray B.canon_bytearray B.gn_bytearray B.slot_bytearray_find.lookup B.type_bytearray_find h
  call := by
    intro A E s Q ys i u hne C h
    have hT : s.TypeIs (.ref r) "bytearray" := ⟨_, C.1, rfl⟩
    exact call_meets B.slot_bytearray_find hT B.entry_bytearray_find (B.args_bytearray_find _ _ _) (bar_find_meets C.2 hn hne t' i u) ⟨C.1, fun tk tk' => h tk' tk⟩
  len := by
    intro A E s Q h
    refine len_bytes (by rw [By_size]; omega) ?_
    rw [By_size]
    exact h _ _
  truth := by
    intro A E s Q h
    refine truthy_bytes (by rw [By_size]; omega) ?_
    rw [By_size]
    have e : (((ns.length : Nat) : Int) != 0) = !ns.isEmpty := by cases ns with | nil => rfl | cons a l => simp; omega
    rw [e]
    exact h _
end
end Aq

namespace Aq
open PySem.Calls
theorem ints_erase : ∀ {vs : List Value} {ns : List Int}, IntsAre vs ns → ∀ (k : Nat), IntsAre (vs.eraseIdx k) (ns.eraseIdx k)
  | _, _, .nil, _ => .nil
  | _, _, .cons _ _ h, 0 => h
  | _, _, .cons _ _ h, k + 1 => .cons _ _ (ints_erase h k)
open AutoSeq1 in
theorem mapSeq_listOf (f : Array Value → Array Value) (its : Array Value) (n : Nat) (r : Array Value) (h : f its = r) : ∃ n', Obj.mapSeq f (listOf its n) = listOf r n' := by subst h; exact ⟨_, rfl⟩
theorem splice_eq (its ws : Array Value) (b : Nat) (i : Int) (hi : i = max 0 (min (b : Int) its.size)) : its.extract 0 i.toNat ++ ws ++ its.extract (max i i).toNat its.size = (its.toList.take b ++ ws.toList ++ its.toList.drop b).toArray := by
  apply Array.toList_inj.mp
  have e : i.toNat = min b its.size := by omega
  rw [Int.max_self, e]
  simp only [Array.toList_append, Array.toList_extract, List.extract_eq_take_drop]
  have h1 : List.take (min b its.size - 0) (List.drop 0 its.toList) = its.toList.take b := by
    simp only [List.drop_zero, Nat.sub_zero]
    by_cases h : b ≤ its.size
    · rw [Nat.min_eq_left h]
    · rw [Nat.min_eq_right (by omega), List.take_of_length_le (by simp), List.take_of_length_le (by simp; omega)]
  have h2 : List.take (its.size - min b its.size) (List.drop (min b its.size) its.toList) = its.toList.drop b := by
    by_cases h : b ≤ its.size
    · rw [Nat.min_eq_left h, List.take_of_length_le (by simp)]
    · have e2 : its.toList.drop b = [] := List.drop_of_length_le (by rw [Array.length_toList]; omega)
      rw [Nat.min_eq_right (by omega), e2]; simp
  rw [h1, h2]
theorem slice_set_meets (l sl nd : Addr) (its ws : Array Value) (n k : Nat) (b : Nat) (t t' : Tok) (hz : its.size + ws.size ≤ 100000) (hne : l ≠ nd) :
 Meets (Builtin.«list.__setitem__» ⟨[.ref l, .ref sl, .ref nd], []⟩) (fun _ R s => s.heap.get? l = some (listOf its n) ∧ s.heap.get? sl = some { cls := .type "slice", data := .fields #[.int b t, .int b t', .none] } ∧ s.heap.get? nd = some (listOf ws k) ∧ 
   ∀ h' n', Heap.SameBut l s.heap h' → h'.get? l = some (listOf (its.toList.take b ++ ws.toList ++ its.toList.drop b).toArray n') → R (.ok (.ret .none)) { s with heap := h' }) := .of_wp fun prog w A R s h => by
  obtain ⟨hp, g, d, tk, os⟩ := s; obtain ⟨hl, hs, hn, h⟩ := h
  have f1 := AutoSeq1.idx_int; have f2 := slice_no_index; have f3 := AutoSeq1.sub_list_list; have f4 := AutoSeq1.sub_tuple_list; have f5 := AutoSeq1.sub_list_tuple
  have hsr : Builtin.List.listSameRef (.ref l) (.ref nd) = false := by simp [Builtin.List.listSameRef, hne]
  have hlong : Builtin.List.listTooLong (its.size + ws.size) = false := by have := sizeLine_eq; simp [Builtin.List.listTooLong]; omega
  have hb0 : ¬ ((b : Int) < 0) := by omega
  have hTs : (⟨hp, g, d, tk, os⟩ : Shared).TypeIs (.ref sl) "slice" := ⟨_, hs, rfl⟩
  have hTl : (⟨hp, g, d, tk, os⟩ : Shared).TypeIs (.ref l) "list" := ⟨_, hl, rfl⟩
  have hTn : (⟨hp, g, d, tk, os⟩ : Shared).TypeIs (.ref nd) "list" := ⟨_, hn, rfl⟩
  wp_walk using AutoSeq1.wpAny_loadPart' hl, AutoSeq1.wpAny_loadPart' hs, AutoSeq1.wpAny_loadPart' hn
  simp only [if_neg hb0]
  generalize hi : max 0 (min (b : Int) (its.size : Int)) = i
  have es := splice_eq its ws b i hi.symm
  have ez : (its.toList.take b ++ ws.toList ++ its.toList.drop b).length ≤ 100000 := by simp; omega
  have key := mapSeq_listOf (fun xs => xs.extract 0 i.toNat ++ ws ++ xs.extract (max i i).toNat xs.size) its n _ es
  obtain ⟨n', e⟩ := key
  rw [e]
  have hp : (listOf (its.toList.take b ++ ws.toList ++ its.toList.drop b).toArray n').data.pastItsLine = none := by
    show (if _ then _ else _) = none
    rw [if_neg]
    have := sizeLine_eq
    rw [List.size_toArray]
    omega
  rw [hp]
  wp_walk
  refine ⟨_, rfl, h _ n' (Heap.SameBut.update ..) ?_⟩
  rw [Heap.get?_update_self _ hl (by rw [e]; rfl), e]

section
variable {prog : Program} {w : World} {A : Around} {E : Value → Shared → Prop} {s : Shared} {L : Addr} {base : Heap} {m : Str → Option Value} {news : List (Addr × Obj)}
theorem len_N {r : Addr} {vs n xs} {Q : Value → Shared → Prop} (N : News base L s.heap news) (hm : (r, lst vs n) ∈ news) (hi : IntsAre vs xs) (hz : xs.length ≤ 100000)
    (h : ∀ t t', Q (.int xs.length t') { s with toks := t }) : wpAny (model prog w) A (call (.builtin "len") [.ref r]) Q E s := by
  have e : ((vs.toArray.size : Nat) : Int) = xs.length := by rw [List.size_toArray, hi.length]
  refine call_len_list (items := vs.toArray) (lst_isList (N _ hm).1) (by rw [e]; omega) ?_
  rw [e]; exact h _ _
theorem extend_lst {b r : Addr} {vs ws n k} {rest : List (Addr × Obj)} {Q : Value → Shared → Prop} (F : Fr base L s.heap m) (N : News base L s.heap ((b, lst ws k) :: (r, lst vs n) :: rest)) (hne : ws ≠ []) (hz : vs.length + ws.length ≤ 100000) (hbr : b ≠ r)
    (h : ∀ h', Fr base L h' m → News base L h' [(r, lst (vs ++ ws) (n + 1))] → Q .none { s with heap := h' }) : wpAny (model prog w) A (call (.builtin "list.extend") [.ref r, .ref b]) Q E s := by
  have N' : News base L s.heap [(b, lst ws k), (r, lst vs n)] := news_sub N (by simp)
  refine kl_extend (its := vs.toArray) (its2 := ws.toArray) (n := n) (n2 := k) (l := vs ++ ws) (news := [(b, lst ws k), (r, lst vs n)]) (news' := [(b, lst ws k), (r, lst (vs ++ ws) (n + 1))]) F N' (.head _) (by simp) (by simpa using hne)
    (Upd.tail hbr (Upd.head (by simp))) ?_ (by have := sizeLine_eq; simp; omega) (by have := sizeLine_eq; simp; omega) fun h' F' N' => h h' F' (news_sub N' (by simp))
  simp only [Builtin.List.listTooLong, Bool.and_eq_true, not_and, List.size_toArray]
  intro _
  have := sizeLine_eq
  simp; omega
theorem del_lst {r : Addr} {vs n} {i : Int} {u : Tok} {j : Nat} {Q : Unit → Shared → Prop} (F : Fr base L s.heap m) (N : News base L s.heap news) (hm : (r, lst vs n) ∈ news) (hj : seqIndex? i vs.length = some j) (hfit : Builtin.List.listFitsIndex i = true) (hz : vs.length ≤ 100000)
    (h : ∀ h', Fr base L h' m → News base L h' [(r, lst (vs.eraseIdx j) (n + 1))] → Q () { s with heap := h' }) : wpAny (model prog w) A (delItem (.ref r) (.int i u)) Q E s := by
  have D := N _ hm
  refine delItem_at (its := vs.toArray) (n := n) (k := j) D.1 hfit (by rw [List.size_toArray]; exact hj) (fun h' hs ho => ?_) (by have := sizeLine_eq; simp; omega)
  exact h h' (F.change hs D.2.1 D.2.2) (news_one ho D.2.1 D.2.2)
theorem set_lst {r : Addr} {vs n xs} {i : Nat} {u tx : Tok} {x : Int} {Q : Unit → Shared → Prop} (F : Fr base L s.heap m) (N : News base L s.heap news) (hm : (r, lst vs n) ∈ news) (hi : IntsAre vs xs) (hl : i < xs.length) (hz : xs.length ≤ 100000)
    (h : ∀ h', Fr base L h' m → News base L h' [(r, lst (vs.set i (.int x tx)) n)] → IntsAre (vs.set i (.int x tx)) (xs.set i x) → Q () { s with heap := h' }) : wpAny (model prog w) A (setItem (.ref r) (.int (i : Int) u) (.int x tx)) Q E s :=
  ksa_set (vs := vs) (n := n) (news := [(r, lst vs n)]) (news' := [(r, lst (vs.set i (.int x tx)) n)]) F (news_sub N (by simpa using hm)) (Upd.head (by simp)) hi (by omega) (by omega) (by omega) fun h' F' N' hi' _ _ => h h' F' N' hi'
theorem splice_lst {r sl nd : Addr} {vs ws n k} {b : Nat} {t t' : Tok} {Q : Unit → Shared → Prop} (F : Fr base L s.heap m) (N : News base L s.heap news) (hm : (r, lst vs n) ∈ news) (hn : s.heap.get? nd = some (lst ws k)) (hsl : s.heap.get? sl = some { cls := .type "slice", data := .fields #[.int b t, .int b t', .none] })
    (hne : r ≠ nd) (hz : vs.length + ws.length ≤ 100000)
    (h : ∀ h' n', Fr base L h' m → News base L h' [(r, lst (vs.take b ++ ws ++ vs.drop b) n')] → Q () { s with heap := h' }) : wpAny (model prog w) A (setItem (.ref r) (.ref sl) (.ref nd)) Q E s := by
  have D := N _ hm
  have hT : s.TypeIs (.ref r) "list" := ⟨_, D.1, rfl⟩
  unfold setItem
  refine wpAny_holding ?_
  refine wpAny_bind (wpAny_sequenceKey hT (by decide) ?_)
  refine wpAny_bind (wpAny_callSpecial?_slot (name := Str.ofString "__setitem__") hT slot_list_setitem
    (call_meets slot_list_setitem hT entry_list_setitem (args_list_setitem _ _ _) (slice_set_meets r sl nd vs.toArray ws.toArray n k b t t' (by simpa using hz) hne)
      ⟨D.1, hsl, hn, fun h' n' hs ho => wpAny_pure (h h' n' (F.change hs D.2.1 D.2.2) (news_one (by simpa using ho) D.2.1 D.2.2))⟩))
end
end Aq

namespace Aq
open PySem.Calls
local macro_rules | `(tactic| walk_at "aq more") => `(tactic| skip)
abbrev P1 : Program := PySem.Challenge.pw_aq0004_01
def change (xs : List Int) (b : Nat) (ns : List Int) (x : Int) : List Int :=
  if x.fmod 6 = 1 then xs ++ [97, 98]
  else if x.fmod 6 = 2 then xs.dropLast
  else if x.fmod 6 = 3 then xs.set b (195 - xs.getD b 0)
  else if x.fmod 6 = 4 then xs.eraseIdx b
  else if x.fmod 6 = 5 then xs.take b ++ ns ++ xs.drop b
  else xs
local macro_rules | `(tactic| walk_at "ite") => `(tactic| first
  | refine iteT (by first | assumption | (simp only [decide_eq_true_eq, beq_iff_eq, gt_iff_lt, ge_iff_le]; omega)) ?_
  | refine iteF (by first | assumption | (simp only [decide_eq_true_eq, beq_iff_eq, gt_iff_lt, ge_iff_le]; omega)) ?_)
local macro_rules | `(tactic| walk_at "eval Name") => `(tactic| first
  | refine nmB (by assumption) (by assumption) bb_len ?_ 
  | refine nmB (by assumption) (by assumption) bb_range ?_ )
local macro_rules | `(tactic| walk_at "call builtin:len") => `(tactic| (refine len_N (by assumption) (by first | exact .head _ | exact .tail _ (.head _)) (by assumption) (by assumption) ?_; intro _ _; (try dsimp only)))
section
variable {w : World} {A : Around} {s : Shared} {base : Heap} {L a : Addr} {cd : Value} {mg mb : Str → Option Value} {row nd : Addr} {vs ws : List Value} {xs ns : List Int} {n k : Nat} {b : Nat} {x : Int} {t1 t2 : Tok} 
  {Q : Flow → Shared → Prop} {E : Value → Shared → Prop}
theorem change_list (W : Wd base mg mb)
  (F : Fr base L s.heap (fun y => List.lookup y [(Str.ofString "x", .int x t2), (Str.ofString "needle", Value.ref nd), (Str.ofString "behind", Value.int b t1), (Str.ofString "row", .ref row)]))
  (N : News base L s.heap [(row, lst vs n)]) (hi : IntsAre vs xs) (hz : xs.length ≤ 100000) (hnd : base.get? nd = some (lst ws k)) (hj : IntsAre ws ns) (hzn : ns.length ≤ 100) (hz' : xs.length ≤ 10000)
  (h : ∀ h' t' n' m' vs', Fr base L h' m' → News base L h' [(row, lst vs' n')] → IntsAre vs' (change xs b ns x) → Q .next ⟨h', s.gens, s.drawn, t', s.os⟩) :
  wpAny (model P1 w) A (execs (defAt P1 3).2.1 (envOf "_law_change" (defAt P1 3).2.2 L a cd)) Q E s := by
  have hr : x.fmod 6 = 0 ∨ x.fmod 6 = 1 ∨ x.fmod 6 = 2 ∨ x.fmod 6 = 3 ∨ x.fmod 6 = 4 ∨ x.fmod 6 = 5 := by
    rw [Int.fmod_eq_emod_of_nonneg _ (by decide)]; omega
  have hlt := Heap.lt_size (N _ (.head _)).1
  have hvl : vs.length = xs.length := hi.length
  rcases hr with hx | hx | hx | hx | hx | hx
  · refine wpAny_execs_cons ?_
    repeat walk1
    exact h _ _ _ _ _ (by assumption) (by assumption) (by simpa [change, hx] using hi)
  · refine wpAny_execs_cons ?_
    repeat walk1
    refine extend_lst (by assumption) (by assumption) (by simp) (by simp; omega) (Nat.ne_of_gt hlt) fun h' F' N' => ?_
    dsimp only
    repeat walk1
    exact h _ _ _ _ _ F' N' (by simpa [change, hx] using hi.append (.cons _ _ (.cons _ _ .nil)))
  · by_cases hl : 0 < xs.length
    · refine wpAny_execs_cons ?_
      repeat walk1
      refine del_lst (j := vs.length - 1) (by assumption) (by assumption) (.head _) ?_ (by decide) (by omega) fun h' F' N' => ?_
      · simp [seqIndex?]; omega
      dsimp only
      repeat walk1
      exact h _ _ _ _ _ F' N' (by simpa [change, hx, ← List.eraseIdx_length_sub_one, hvl] using ints_erase hi (xs.length - 1))
    · refine wpAny_execs_cons ?_
      repeat walk1
      have : xs = [] := by cases xs with | nil => rfl | cons => simp at hl
      subst this
      exact h _ _ _ _ _ (by assumption) (by assumption) (by simpa [change, hx] using hi)
  · by_cases hl : b < xs.length
    · refine wpAny_execs_cons ?_
      repeat walk1
      refine set_lst (by assumption) (by assumption) (.head _) hi hl hz fun h' F' N' hi' => ?_
      dsimp only
      repeat walk1
      refine h _ _ _ _ _ F' N' ?_
      simpa [change, hx] using hi'
    · refine wpAny_execs_cons ?_
      repeat walk1
      exact h _ _ _ _ _ (by assumption) (by assumption) (by simpa [change, hx, List.set_eq_of_length_le (Nat.le_of_not_lt hl)] using hi)
  · by_cases hl : b < xs.length
    · refine wpAny_execs_cons ?_
      repeat walk1
      refine del_lst (j := b) (by assumption) (by assumption) (.head _) ?_ ?_ (by omega) fun h' F' N' => ?_
      · simp [seqIndex?]; omega
      · simp [Builtin.List.listFitsIndex]; omega
      dsimp only
      repeat walk1
      exact h _ _ _ _ _ F' N' (by simpa [change, hx] using ints_erase hi b)
    · refine wpAny_execs_cons ?_
      repeat walk1
      exact h _ _ _ _ _ (by assumption) (by assumption) (by simpa [change, hx, List.eraseIdx_of_length_le (Nat.le_of_not_lt hl)] using hi)
  · refine wpAny_execs_cons ?_
    repeat walk1
    have F2 := F.push { cls := .type "slice", data := .fields #[Value.int (b : Int) t1, Value.int b t1, Value.none] }
    have N2 := N.push F { cls := .type "slice", data := .fields #[Value.int (b : Int) t1, Value.int b t1, Value.none] }
    refine splice_lst F2 N2 (.tail _ (.head _)) (F2.keep _ _ hnd) (N2 _ (.head _)).1 ?_ ?_ fun h' n' F' N' => ?_
    · intro e; subst e; rw [(N _ (.head _)).2.2] at hnd; cases hnd
    · have := hj.length; omega
    dsimp only
    repeat walk1
    exact h _ _ _ _ _ F' N' (by simpa [change, hx] using ((hi.take b).append hj).append (hi.drop b))
end
end Aq

namespace Aq
/-- one change, on letters -/
def chN (xs : List Nat) (b : Nat) (ns : List Nat) (x : Int) : List Nat :=
  if x.fmod 6 = 1 then xs ++ [97, 98]
  else if x.fmod 6 = 2 then xs.dropLast
  else if x.fmod 6 = 3 then xs.set b (195 - xs.getD b 0)
  else if x.fmod 6 = 4 then xs.eraseIdx b
  else if x.fmod 6 = 5 then xs.take b ++ ns ++ xs.drop b
  else xs
def AB (xs : List Nat) : Prop := ∀ x ∈ xs, x = 97 ∨ x = 98
theorem AB.low {xs : List Nat} (h : AB xs) : ∀ x ∈ xs, x < 256 := fun x hx => by rcases h x hx with rfl | rfl <;> decide
theorem AB.append {xs ys : List Nat} (h : AB xs) (h' : AB ys) : AB (xs ++ ys) := fun x hx => by
  rcases List.mem_append.mp hx with q | q
  · exact h x q
  · exact h' x q
theorem AB_ch {xs ns : List Nat} {b : Nat} {x : Int} (h : AB xs) (hn : AB ns) : AB (chN xs b ns x) := by
  unfold chN
  split
  · exact h.append fun x hx => by simp at hx; exact hx
  split
  · exact fun x hx => h x ((List.dropLast_sublist xs).subset hx)
  split
  · by_cases hb : b < xs.length
    · have e : xs.getD b 0 = xs[b] := by simp [List.getD_eq_getElem?_getD, hb]
      have := h xs[b] (List.getElem_mem hb)
      intro y hy
      rcases List.mem_or_eq_of_mem_set hy with q | q
      · exact h y q
      · rw [e] at q; omega
    · rw [List.set_eq_of_length_le (by omega)]; exact h
  split
  · exact fun x hx => h x (List.mem_of_mem_eraseIdx hx)
  split
  · exact AB.append (AB.append (fun x hx => h x (List.mem_of_mem_take hx)) hn) fun x hx => h x (List.mem_of_mem_drop hx)
  · exact h
theorem ch_len {xs ns : List Nat} {b : Nat} {x : Int} : (chN xs b ns x).length ≤ xs.length + ns.length + 2 := by
  unfold chN
  split
  · simp
    try omega
  split
  · simp
    try omega
  split
  · simp
    try omega
  split
  · rw [List.length_eraseIdx]; split <;> omega
  split
  · simp
    try omega
  · omega
theorem map_erase {f : Nat → Int} : ∀ (xs : List Nat) (b : Nat), (xs.eraseIdx b).map f = (xs.map f).eraseIdx b
  | [], _ => rfl
  | _ :: _, 0 => rfl
  | x :: xs, b + 1 => by simp [map_erase xs b]
theorem toZ_ch {xs ns : List Nat} {b : Nat} {x : Int} (h : AB xs) : toZ (chN xs b ns x) = change (toZ xs) b (toZ ns) x := by
  unfold chN change
  split
  · simp [toZ]
  split
  · simp [toZ, List.map_dropLast]
  split
  · by_cases hb : b < xs.length
    · have e : xs.getD b 0 = xs[b] := by simp [List.getD_eq_getElem?_getD, hb]
      have e2 : (toZ xs).getD b 0 = ((xs[b] : Nat) : Int) := by simp [toZ, List.getD_eq_getElem?_getD, hb]
      rw [e, e2]
      have := h xs[b] (List.getElem_mem hb)
      unfold toZ
      rw [List.map_set]
      congr 1
      omega
    · rw [List.set_eq_of_length_le (by omega), List.set_eq_of_length_le (by simp [toZ]; omega)]
  split
  · exact map_erase _ _
  split
  · simp [toZ, List.map_take, List.map_drop]
  · rfl
/-- the places, and what the row is behind them -/
def run (ns : List Nat) (nums : List Int) : Nat → List Nat → Nat → Nat → List Nat × List Nat
  | 0, xs, _, _ => ([], xs)
  | f + 1, xs, st, k => match find xs ns st with
    | none => ([], xs)
    | some p =>
      let r := run ns nums f (if k < nums.length then chN xs (p + ns.length) ns (nums.getD k 0) else xs) (p + ns.length) (k + 1)
      (p :: r.1, r.2)
theorem run_none {ns : List Nat} {nums : List Int} {f : Nat} {xs : List Nat} {st k : Nat} (h : find xs ns st = none) : run ns nums f xs st k = ([], xs) := by
  cases f with
  | zero => rfl
  | succ f => unfold run; rw [h]
theorem run_some {ns : List Nat} {nums : List Int} {f : Nat} {xs : List Nat} {st k p : Nat} (h : find xs ns st = some p) :
    run ns nums (f + 1) xs st k = (p :: (run ns nums f (if k < nums.length then chN xs (p + ns.length) ns (nums.getD k 0) else xs) (p + ns.length) (k + 1)).1, (run ns nums f (if k < nums.length then chN xs (p + ns.length) ns (nums.getD k 0) else xs) (p + ns.length) (k + 1)).2) := by
  conv => lhs; unfold run
  rw [h]
/-- a reader who has found fs, with xs before him from st on -/
def Reads (ns : List Nat) (nums : List Int) (R : List Nat × List Nat) (fs xs : List Nat) (st : Nat) : Prop :=
  AB xs ∧ fs.length ≤ 60 ∧ xs.length ≤ 200 + 10 * fs.length ∧ st ≤ xs.length + 10 * fs.length + 10 ∧ fs ++ (run ns nums (60 - fs.length) xs st fs.length).1 = R.1 ∧ (run ns nums (60 - fs.length) xs st fs.length).2 = R.2
theorem Reads.start {ns : List Nat} {nums : List Int} {xs : List Nat} (h : AB xs) (hz : xs.length ≤ 200) : Reads ns nums (run ns nums 60 xs 0 0) [] xs 0 := ⟨h, by simp, by simpa using hz, by simp, rfl, rfl⟩
theorem Reads.finish {ns : List Nat} {nums : List Int} {R : List Nat × List Nat} {fs xs : List Nat} {st : Nat} (h : Reads ns nums R fs xs st) (hn : find xs ns st = none ∨ fs.length = 60) : fs = R.1 ∧ xs = R.2 := by
  obtain ⟨_, _, _, _, h1, h2⟩ := h
  have : run ns nums (60 - fs.length) xs st fs.length = ([], xs) := by
    rcases hn with hn | hn
    · exact run_none hn
    · rw [hn]; rfl
  rw [this] at h1 h2
  exact ⟨by simpa using h1, h2⟩
theorem Reads.next {ns : List Nat} {nums : List Int} {R : List Nat × List Nat} {fs xs : List Nat} {st p : Nat} (hns : AB ns) (hnl : ns.length ≤ 3) (h : Reads ns nums R fs xs st) (hf : find xs ns st = some p) (hl : fs.length < 60) :
    Reads ns nums R (fs ++ [p]) (if fs.length < nums.length then chN xs (p + ns.length) ns (nums.getD fs.length 0) else xs) (p + ns.length) := by
  obtain ⟨h0, h1, h2, h3, h4, h5⟩ := h
  obtain ⟨f, hf'⟩ : ∃ f, 60 - fs.length = f + 1 := ⟨59 - fs.length, by omega⟩
  obtain ⟨q1, q2, _, _, _⟩ := find_some hf
  have el : (fs ++ [p]).length = fs.length + 1 := by simp
  have ef : 60 - (fs ++ [p]).length = f := by rw [el]; omega
  rw [hf', run_some hf] at h4 h5
  have hc : AB (if fs.length < nums.length then chN xs (p + ns.length) ns (nums.getD fs.length 0) else xs) := by
    split
    · exact AB_ch h0 hns
    · exact h0
  have hcl : (if fs.length < nums.length then chN xs (p + ns.length) ns (nums.getD fs.length 0) else xs).length ≤ xs.length + 5 ∧ xs.length ≤ (if fs.length < nums.length then chN xs (p + ns.length) ns (nums.getD fs.length 0) else xs).length + 1 := by
    split
    · refine ⟨by have := ch_len (xs := xs) (ns := ns) (b := p + ns.length) (x := nums.getD fs.length 0); omega, ?_⟩
      unfold chN
      split
      · simp
        try omega
      split
      · simp
        try omega
      split
      · simp
      split
      · rw [List.length_eraseIdx]; split <;> omega
      split
      · simp
        try omega
      · omega
    · omega
  refine ⟨hc, by rw [el]; omega, by rw [el]; omega, by rw [el]; omega, ?_, ?_⟩
  · rw [ef, el, ← h4]; simp
  · rw [ef, el, ← h5]
end Aq

namespace Aq
open PySem.Calls
section
variable {M : Model} {A : Around} {E : Value → Shared → Prop} {s : Shared} {env : Env}
theorem wpC_If {test : Expr} {body orelse : List Stmt} {pos : Pos} {Q : Flow → Shared → Prop}
    (h : wpAny M A (isTrue test env (eval test env)) (fun b s₁ => if b = true then wpC M A (execs body env) Q E s₁ else wpC M A (execs orelse env) Q E s₁) E s) : wpC M A (exec (.If test body orelse pos) env) Q E s := by
  rw [arm_exec_If]
  refine wpC_then (wpAny_standAt (wpC_then (wpAny_mono h (fun b s₁ h₁ => ?_) fun _ _ e => e)))
  cases b with
  | true => exact h₁
  | false => exact h₁
theorem wpC_Delete1 {t : Expr} {pos : Pos} {Q : Flow → Shared → Prop} (h : wpC M A (delete t env) (fun _ s₁ => Q .next s₁) E s) : wpC M A (exec (.Delete [t] pos) env) Q E s := by
  rw [arm_exec_Delete]
  refine wpC_then (wpAny_standAt (wpC_bind ?_))
  rw [arm_deleteEach_cons]
  refine wpC_bind (wpC_mono h (fun _ s₁ h₁ => ?_) fun _ _ e => e)
  rw [arm_deleteEach_nil]
  exact wpC_pure (wpC_pure h₁)
theorem wpC_execs_cons {st : Stmt} {rest : List Stmt} {Q : Flow → Shared → Prop} (h : wpC M A (exec st env) (fun f s₁ => match f with | .next => wpC M A (execs rest env) Q E s₁ | f => Q f s₁) E s) : wpC M A (execs (st :: rest) env) Q E s := by
  rw [arm_execs_cons]
  refine wpC_bind (wpC_mono h (fun f s₁ h₁ => ?_) fun _ _ e => e)
  cases f with
  | next => exact h₁
  | brk => exact wpC_pure h₁
  | cont => exact wpC_pure h₁
  | ret v => exact wpC_pure h₁
theorem wpC_execs_nil {Q : Flow → Shared → Prop} (h : Q .next s) : wpC M A (execs [] env) Q E s := by
  rw [arm_execs_nil]
  exact wpC_pure h
theorem wpC_delete_sub {o i : Expr} {pos : Pos} {Q : Unit → Shared → Prop} (h : wpAny M A (eval o env) (fun ov s₁ => wpAny M A (eval i env) (fun iv s₂ => wpC M A (delItem ov iv) (fun _ s₃ => wpAny M A (release [ov, iv] []) Q E s₃) E s₂) E s₁) E s) :
    wpC M A (delete (.Subscript o i pos) env) Q E s := by
  rw [arm_delete_Subscript]
  refine wpC_then (wpAny_mono h (fun ov s₁ h₁ => ?_) fun _ _ e => e)
  refine wpC_then (wpAny_holding (wpAny_mono h₁ (fun iv s₂ h₂ => ?_) fun _ _ e => e))
  refine wpC_then (wpAny_standAt ?_)
  exact wpC_bind (wpC_holding (wpC_mono h₂ (fun _ s₃ h₃ => wpC_of h₃) fun _ _ e => e))
end
end Aq

namespace Aq
open PySem.Calls
section
variable {prog : Program} {w : World} {A : Around} {E : Value → Shared → Prop} {s : Shared}
/-- a function's block that may resize -/
theorem codeC_func {body : List Stmt} {env : Env} {R : Result → Shared → Prop} (h : wpC (model prog w) (A.deeper env) (execs body env) (fun f s' => R (.ok (.ret (match f with | .ret v => v | _ => .none))) s') (fun _ _ => False) s) :
    codeC (model prog w) A (.func body env) R s := by
  refine codeC_of_tree rfl ?_
  show wpC _ (A.deeper env) (do point; match ← (execs body env).onRaise (leaving env) with | .ret v => ret v | _ => ret .none) _ _ s
  refine wpC_then (wpAny_point (wpC_bind (wpC_onRaise (wpC_mono h (fun f s' h' => ?_) fun _ _ h' => h'))))
  cases f <;> exact wpC_pure h'
theorem callC {name : Str} {params : Arguments} {body : List Stmt} {scope : Scope} {pm cd doc : Value} {a : Addr} {o : Obj} {args : List Value} {binds : List (Str × Value)} {R : Result → Shared → Prop}
    (hroom : A.depth < recursionLimit) (ho : s.heap.get? a = some o) (hdata : o.data = .func (Calls.docDef name params body scope pm cd doc)) (hlim : s.heap.NoLimit) (hcd : s.heap.CodeRec cd name)
    (hbind : bindArgs (Calls.docDef name params body scope pm cd doc) ⟨args, []⟩ = pure binds) (hloc : ∀ x ∈ binds, scope.names.lookup x.1 = some .local)
    (h : ∀ h₁, Fr s.heap s.heap.objs.size h₁ (fun x => binds.reverse.lookup x) →
      wpC (model prog w) (A.deeper (envOf name scope s.heap.objs.size a cd)) (execs body (envOf name scope s.heap.objs.size a cd)) (fun f s' => R (.ok (.ret (match f with | .ret v => v | _ => .none))) s') (fun _ _ => False) { s with heap := h₁, toks := s.toks + binds.length })
    (hco : scope.isCoroutine = false := by rfl) (hgen : scope.isGenerator = false := by rfl) (hk : scope.kind = .function := by rfl) (hcell : ∀ x ∈ scope.names, x.2 ≠ .cell := by decide) :
    codeC (model prog w) A (.call (.ref a) ⟨args, []⟩) R s := by
  refine codeC_of_tree rfl (wpC_of ?_)
  show wpAny _ A.in1 (callAny (.ref a) ⟨args, []⟩) _ _ s
  obtain ⟨c, oc, vs, tq, hc, hoc, hdc, hq⟩ := hcd
  subst hc
  have hco' : (Calls.docDef name params body scope pm (.ref c) doc).scope.isCoroutine = false := hco
  have hgen' : (Calls.docDef name params body scope pm (.ref c) doc).scope.isGenerator = false := hgen
  simp only [callAny]
  refine wpAny_bind (wpAny_load ho ?_)
  simp only [hdata, callFunction, hco', hgen']
  refine wpAny_bind (m := field (.ref c) 1) (wpAny_field hoc hdc hq (wpAny_bind (wpAny_pure ?_)))
  rw [hbind]
  refine wpAny_bind (wpAny_pure ?_)
  refine wpAny_bind (wpAny_newFunctionEnv hcell hloc (fun h₁ hns hsb => ?_) hk)
  refine wpAny_bind (wpAny_enterFrame (hlim.fresh _ hsb) hroom (wpAny_pure ⟨rfl, ?_⟩))
  exact codeC_func (h h₁ ⟨hns, fun b o e => hsb.extBut b o (Nat.ne_of_lt (Heap.lt_size e)) (Heap.get?_push_of_some _ e), Nat.le_refl _⟩)
end
end Aq

namespace Aq
open PySem.Calls
section
variable {prog : Program} {w : World} {A : Around} {E : Value → Shared → Prop} {s : Shared} {env : Env}
/-- a loop whose body may resize; nothing is raised -/
theorem codeC_forLoop {R : Result → Shared → Prop} {target : Expr} {it : Value} {body : List Stmt} (I : Nat → Shared → Prop)
    (turn : ∀ n s, I n s → wpAny (model prog w) A (pyNext it) (fun r s₁ => match r with
      | none => R (.ok .next) s₁
      | some v => wpAny (model prog w) A (assign target env v) (fun _ s₂ => wpC (model prog w) A (execs body env) (fun f s₃ => match f with
          | .next | .cont => ∃ m, m < n ∧ I m s₃
          | .brk => R (.ok .next) s₃
          | .ret v => R (.ok (.ret v)) s₃) (fun _ _ => False) s₂) (fun _ _ => False) s₁) (fun _ _ => False) s)
    (n : Nat) (h : I n s) (ht : ∀ v, letOwnedTupleGo target it v = pure () := by intro _; rfl) : codeC (model prog w) A (.forLoop target it body [] env) R s := by
  refine codeC_loop rfl rfl I (fun n s hI => ?_) n h
  show wpC _ _ ((forTurn target it body [] env).onRaise (fun x => do noteFrame x env; theTreesLotGoes x)) _ _ s
  refine wpC_onRaise ?_
  simp only [forTurn]
  refine wpC_then (wpAny_standAt ?_)
  refine wpC_then (wpAny_onRaise (wpAny_mono (turn n s hI) (fun r s₁ h₁ => ?_) fun _ _ h' => h'.elim))
  cases r with
  | none => exact wpC_pure (.inr ⟨rfl, codeC_of (codeAny_block (wpAny_execs_nil h₁))⟩)
  | some v =>
    refine wpC_then (wpAny_of_eq (ht v) ?_)
    refine wpC_then (wpAny_mono h₁ (fun _ s₂ h₂ => ?_) fun _ _ h' => h')
    refine wpC_bind (wpC_mono h₂ (fun f s₃ h₃ => ?_) fun _ _ h' => h')
    cases f with
    | next => exact wpC_pure (.inl ⟨rfl, h₃⟩)
    | cont => exact wpC_pure (.inl ⟨rfl, h₃⟩)
    | brk => exact wpC_pure h₃
    | ret v => exact wpC_pure h₃
theorem wpC_For {target iter : Expr} {body orelse : List Stmt} {pos : Pos} {Q : Flow → Shared → Prop}
    (h : wpAny (model prog w) A (eval iter env) (fun x s₁ => wpAny (model prog w) A (pyIter x) (fun it s₂ =>
      codeC (model prog w) A (.forLoop target it body orelse env) (fun r s' => match r with | .ok f => Q f s' | .error _ => False) s₂) (fun _ _ => False) s₁) (fun _ _ => False) s)
    (hs : ∀ x, foldedSetIterable iter env x = pure x := by intro _; rfl) : wpC (model prog w) A (exec (.For target iter body orelse pos) env) Q (fun _ _ => False) s := by
  rw [arm_exec_For]
  refine wpC_then (wpAny_standAt (wpC_then (wpAny_mono h (fun x s₁ h₁ => ?_) fun _ _ e => e)))
  refine wpC_then (wpAny_of_eq (hs x) (wpC_then (wpAny_standAt ?_)))
  refine wpC_then (wpAny_holding (wpAny_mono h₁ (fun it s₂ h₂ => ?_) fun _ _ e => e))
  unfold runOwn
  exact wpC_onRaise (wpC_run h₂)
end
end Aq

namespace Aq
open PySem.Calls
section
variable {M : Model} {A : Around} {E : Value → Shared → Prop} {s : Shared} {env : Env}
theorem wpC_Expr {e : Expr} {pos : Pos} {Q : Flow → Shared → Prop} (h : wpC M A (eval e env) (fun v s' => v = .none ∧ Q .next s') E s)
    (hi : interactive env = false := by rfl) (hs : swapsWith e none pos.line env = pure false := by rfl) : wpC M A (exec (.Expr e pos) env) Q E s := by
  rw [exec_Expr env e pos hi hs]
  refine wpC_then (wpAny_standAt (wpC_bind (wpC_mono h (fun v s' h' => ?_) fun _ _ x => x)))
  obtain ⟨rfl, h'⟩ := h'
  rw [dropValue_plain (fun a q => by cases q)]
  exact wpC_pure h'
theorem wpC_assign_sub {o i : Expr} {pos : Pos} {v : Value} {Q : Unit → Shared → Prop} (h : wpAny M A (eval o env) (fun ov s₁ => wpAny M A (eval i env) (fun iv s₂ => wpC M A (setItem ov iv v) (fun _ s₃ => Q () s₃) E s₂) E s₁) E s) :
    wpC M A (assign (.Subscript o i pos) env v) Q E s := by
  rw [arm_assign_Subscript]
  refine wpC_then (wpAny_holding (wpAny_mono h (fun ov s₁ h₁ => ?_) fun _ _ e => e))
  refine wpC_then (wpAny_holding (wpAny_mono h₁ (fun iv s₂ h₂ => ?_) fun _ _ e => e))
  refine wpC_then (wpAny_standAt ?_)
  exact wpC_bind (wpC_holding (wpC_mono h₂ (fun _ s₃ h₃ => wpC_of (wpAny_release h₃)) fun _ _ e => e))
end
end Aq

namespace Aq
open PySem.Calls
section
variable {prog : Program} {w : World} {A : Around} {s : Shared} {base h₀ : Heap} {L a : Addr} {cd : Value} {mg mb : Str → Option Value} {m : Str → Option Value}
  {E : Value → Shared → Prop} {nv hv : Value}
theorem bind_findall {pm code doc : Value} (x y : Value) : bindArgs (docDef "_findall" (defAt P0 1).1 (defAt P0 1).2.1 (defAt P0 1).2.2 pm code doc) ⟨[x, y], []⟩ = (pure [(("haystack" : Str), x), (("needle" : Str), y)] : Sem (List (Str × Value))) := by
  with_unfolding_all rfl
theorem findall_nocell : ∀ x ∈ (defAt P0 1).2.2.names, x.2 ≠ .cell := by decide
theorem gen_make {f : Addr} {Q : Value → Shared → Prop} (hf : FnAt s.heap mg "_findall" (defAt P0 1) f) (hroom : A.depth < recursionLimit) (hlim : s.heap.NoLimit)
    (h : ∀ h' (ga : Nat) tk (L : Nat) cd, Fr s.heap L h' (fun x => List.lookup x [("needle", nv), ("haystack", hv)]) → h'.IsGen ga s.gens.size → s.heap.objs.size ≤ L → L < ga →
      Q (.ref ga) { s with heap := h', toks := tk, gens := s.gens.push (.fresh (.func genBody (genEnv L f cd))) }) :
    wpAny (model prog w) A (call (.ref f) [hv, nv]) Q E s := by
  obtain ⟨o, pm, code, doc, ho, hd, hcd⟩ := hf.o
  refine wpAny_call (codeAny_call_generator hroom ho hd rfl rfl rfl hcd ?_)
  rw [bind_findall]
  refine wpAny_pure (wpAny_newFunctionEnv findall_nocell (locs (by rfl)) (fun h₁ hns hsb => ⟨hlim.fresh _ hsb, ?_⟩) rfl)
  have k1 : ∀ b o, s.heap.get? b = some o → h₁.get? b = some o := fun b o e => hsb.extBut b o (Nat.ne_of_lt (Heap.lt_size e)) (Heap.get?_push_of_some _ e)
  have hL := hns.lt
  refine h _ h₁.objs.size _ s.heap.objs.size code ⟨hns.push _, fun b o e => Heap.get?_push_of_some _ (k1 b o e), Nat.le_refl _⟩ ⟨_, _, _, Heap.get?_push_size _ rfl, rfl, rfl, rfl⟩ (Nat.le_refl _) hL
end
end Aq

namespace Aq
open PySem.Calls
section
variable {prog : Program} {w : World} {A : Around} {s : Shared} {base h₀ : Heap} {L a : Addr} {cd : Value} {mg mb : Str → Option Value} {m : Str → Option Value}
  {E : Value → Shared → Prop} {nv hv : Value}
theorem append_lst {D : Addr} {vs : List Value} {n : Nat} {v : Value} {Q : Value → Shared → Prop} (hD : s.heap.get? D = some (lst vs n)) (hz : vs.length ≤ 100000)
    (h : ∀ h', Heap.SameBut D s.heap h' → h'.get? D = some (lst (vs ++ [v]) (n + 1)) → Q .none { s with heap := h' }) : wpAny (model prog w) A (call (.builtin "list.append") [.ref D, v]) Q E s := by
  have hT : s.TypeIs (.ref D) "list" := ⟨_, hD, rfl⟩
  refine wpAny_call_entry slot_list_append hT entry_list_append ?_ (args_list_append _ _)
  show wpAny _ _ (updateSeq D (·.push v) >>= fun _ => ret .none) _ _ s
  refine wpAny_bind (wpAny_updateSeq (hz := by have := sizeLine_eq; simp; omega) hD rfl (wpAny_pure ⟨.none, rfl, h _ (Heap.SameBut.update ..) ?_⟩))
  rw [Heap.get?_update_self _ hD rfl]
  simp [Obj.mapSeq]

def FnThen (f : Addr) (h : Heap) (P : Prop) : Prop := (∃ o fd, h.get? f = some o ∧ o.data = .func fd) ∧ P
theorem callWith_f {M : Model} {pos : Pos} {f : Addr} {e : Expr} {rest : List Expr} {env : Env} {Q : Value → Shared → Prop}
    (h : wpAny M A (spliced (backTo pos (starEach (e :: rest) env))) (fun vs s₁ => FnThen f s₁.heap (wpAny M A (call (.ref f) vs) Q E s₁)) E s)
    (he : starEach (e :: rest) env = (false, eval e env) :: starEach rest env := by rfl) (hplain : (backTo pos (starEach rest env)).any (·.1) = false := by rfl) :
    wpAny M A (callWith pos (.ref f) [] (backTo pos (starEach (e :: rest) env)) []) Q E s := by
  rw [he] at h ⊢
  refine callWith_of (P := fun h => ∃ o fd, h.get? f = some o ∧ o.data = .func fd) (by show ((false || (backTo pos (starEach rest env)).any (·.1)) || false) = false; rw [hplain]; rfl) (fun h hp => ?_) (Calls.evalArgs_plain h)
  obtain ⟨o, fd, ho, hd⟩ := hp
  refine ⟨.frame, .inl rfl, (Looks.ld (part := none) ho).andThen ?_⟩
  rw [hd]
  exact .now
local macro_rules | `(tactic| walk_at "callWith ref") => `(tactic| refine callWith_f ?_)
local macro_rules | `(tactic| walk_at "eval Name") => `(tactic| first
  | refine ld (by assumption) (by assumption) ?_
  | refine nmF (by assumption) (by assumption) (by assumption) ?_
  | refine nmB (by assumption) (by assumption) bb_len ?_)
end
end Aq

namespace Aq
open PySem.Calls
section
variable {M : Model} {A : Around} {E : Value → Shared → Prop} {s : Shared} {env : Env}
theorem wpC_keep {m : Sem Value} {vs : List Value} {Q : Value → Shared → Prop} (h : wpC M A m Q E s) : wpC M A (m.keep vs) Q E s := fun Γ p hΓ h1 h2 => by
  rw [Sem.wp_keep]
  exact h Γ p hΓ h1 h2
/-- a call at a written place, of what the machine or a frame keeps -/
theorem wpC_callWith {P : Heap → Prop} {f : Value} {first : List Value} {pos : Pos} {args : List (Bool × Sem Value)} {keywords : List (Option Str × Sem Value)} {Q : Value → Shared → Prop} (hplain : (args.any (·.1) || keywords.any (·.1.isNone)) = false)
    (hk : ∀ h, P h → ∃ k, (k = Keeper.frame ∨ k = Keeper.machine ∨ k = Keeper.boundFrame) ∧ Looks M h (keeperOf f) k)
    (h : wpAny M A (evalArgs f true args keywords) (fun a s₁ => P s₁.heap ∧ wpC M A (call f (first ++ a.pos) a.kw) Q E s₁) E s) : wpC M A (callWith pos f first args keywords) Q E s := by
  unfold callWith
  refine wpC_then (wpAny_holding (wpAny_mono h (fun a s₁ h₁ => ?_) fun _ _ x => x))
  refine wpC_then (wpAny_standAt ?_)
  obtain ⟨k, hk', Lk⟩ := hk _ h₁.1
  simp only [hplain]
  refine wpC_then (Lk.here ?_)
  have tail : ∀ {t : Sem Value}, wpC M A t Q E s₁ → wpC M A (t >>= fun r => holding [r] point >>= fun _ => pure r) Q E s₁ :=
    fun ht => wpC_bind (wpC_mono ht (fun r s₂ hr => wpC_then (wpAny_holding (wpAny_point (wpC_pure hr)))) fun _ _ x => x)
  have marked (mk : Value) : wpC M A (callMarked mk f (first ++ a.pos) a.kw) Q E s₁ := by unfold callMarked; exact wpC_keep h₁.2
  rcases hk' with rfl | rfl | rfl <;> dsimp only <;> first | exact tail h₁.2 | (split <;> first | exact tail h₁.2 | exact tail (marked _))
end
end Aq

namespace Aq
open PySem.Calls
section
variable {M : Model} {A : Around} {E : Value → Shared → Prop} {s : Shared} {env : Env}
theorem wpC_Call_name {x : Str} {np pos : Pos} {args : List Expr} {keywords : List Keyword} {Q : Value → Shared → Prop}
    (h : wpAny M A (eval (.Name x np) env) (fun f s₁ => wpC M A (callWith pos f [] (backTo pos (starEach args env)) (backToKw pos (keywordEach keywords env))) Q E s₁) E s) : wpC M A (eval (.Call (.Name x np) args keywords pos) env) Q E s := by
  show wpC M A (eval (.Name x np) env >>= fun f => callWith pos f [] (backTo pos (starEach args env)) (backToKw pos (keywordEach keywords env))) Q E s
  exact wpC_then h
/-- a method of a built-in type, called by its name with plain arguments -/
theorem wpC_Call_meth {o : Expr} {name : Str} {apos pos : Pos} {args : List Expr} {id : String} {Q : Value → Shared → Prop}
    (hbase : attributeBase o name env (eval o env) = eval o env) (hform : methodCallForm (args.length + ([] : List Keyword).length) (backTo pos (starEach args env)) (backToKw pos (keywordEach [] env)) = true)
    (hline : (apos.endLine == pos.line) = true)
    (h : wpAny M A (eval o env) (fun ov s₁ => ∀ pl : Sem Bool, wpAny M A (getMethod ov name pl) (fun fm s₂ => fm = (.builtin id, [ov]) ∧ wpC M A (callWith pos (.builtin id) [ov] (backTo pos (starEach args env)) (backToKw pos (keywordEach [] env))) Q E s₂) E s₁) E s) :
    wpC M A (eval (.Call (.Attribute o name apos) args [] pos) env) Q E s := by
  rw [arm_eval_Call, hbase]
  refine wpC_then (wpAny_mono h (fun ov s₁ h₁ => ?_) fun _ _ e => e)
  refine wpC_then (wpAny_standAt ?_)
  have hpos : methodCallPos true o env apos pos = pure pos := by unfold methodCallPos; simp [hline]
  unfold methodCall
  rw [hform]
  refine wpC_then (wpAny_holding ?_)
  show wpAny M A (getMethod ov name _) _ _ _
  refine wpAny_mono (h₁ _) (fun fm s₂ h₂ => ?_) fun _ _ e => e
  obtain ⟨rfl, hc⟩ := h₂
  exact wpC_then (wpAny_of_eq hpos hc)
end
end Aq

namespace Aq
open PySem.Calls
section
variable {prog : Program} {w : World} {A : Around} {E : Value → Shared → Prop} {s : Shared} {L : Addr} {base : Heap} {m : Str → Option Value} {news : List (Addr × Obj)}
theorem wpC_callWith_bi {M : Model} {id : String} {first : List Value} {pos : Pos} {args : List (Bool × Sem Value)} {Q : Value → Shared → Prop} (hplain : args.any (·.1) = false)
    (h : wpAny M A (evalArgs (.builtin id) true args []) (fun a s₁ => wpC M A (call (.builtin id) (first ++ a.pos) a.kw) Q E s₁) E s) : wpC M A (callWith pos (.builtin id) first args []) Q E s :=
  wpC_callWith (P := fun _ => True) (by simp [hplain]) (fun _ _ => ⟨.machine, .inr (.inl rfl), Looks.of_pure rfl⟩) (wpAny_mono h (fun _ _ x => ⟨trivial, x⟩) fun _ _ e => e)
theorem wpC_Assign_sub {M : Model} {env : Env} {o i value : Expr} {pos' pos : Pos} {Q : Flow → Shared → Prop} (h : wpAny M A (eval value env) (fun v s₁ => wpC M A (assign (.Subscript o i pos') env v) (fun _ s₂ => Q .next s₂) E s₁) E s)
    (hs : swapsWith value (some (.Subscript o i pos')) pos.line env = pure false := by rfl) : wpC M A (exec (.Assign [.Subscript o i pos'] value pos) env) Q E s := by
  rw [exec_Assign_Subscript o i pos' value pos hs]
  exact wpC_then (wpAny_standAt (wpC_then (wpAny_mono h (fun v s₁ h₁ => wpC_bind (wpC_mono h₁ (fun _ s₂ h₂ => wpC_pure h₂) fun _ _ e => e)) fun _ _ e => e)))
theorem wpC_Assign_name {M : Model} {env : Env} {x : Str} {value : Expr} {pos' pos : Pos} {Q : Flow → Shared → Prop} (h : wpC M A (eval value env) (fun v s₁ => wpAny M A (storeName env x v) (fun _ s₂ => Q .next s₂) E s₁) E s)
    (hs : swapsWith value (some (.Name x pos')) pos.line env = pure false := by rfl) : wpC M A (exec (.Assign [.Name x pos'] value pos) env) Q E s := by
  rw [exec_Assign_Name env x pos' value pos hs]
  refine wpC_then (wpAny_standAt (wpC_bind (wpC_mono h (fun v s₁ h₁ => wpC_of ?_) fun _ _ e => e)))
  exact wpAny_bind (wpAny_standAt (wpAny_bind (wpAny_bindName (wpAny_mono h₁ (fun _ _ h₂ => wpAny_pure h₂) fun _ _ e => e))))
theorem get_bar {value slice : PySem.Expr} {r : Addr} {ys : List Nat} {i : Nat} {u : Tok} {Q : Value → Shared → Prop} (N : News base L s.heap news) (hm : (r, bar (By ys)) ∈ news) (hl : i < ys.length) (hy : ∀ x ∈ ys, x < 256) (hz : ys.length ≤ 100000)
    (h : ∀ t tk, Q (.int (ys.getD i 0 : Nat) t) { s with toks := tk }) (hs : subscripted slice false (.ref r) (.int (i : Int) u) = operate [.ref r, .int (i : Int) u] (getItem (.ref r) (.int (i : Int) u)) := by with_unfolding_all rfl) :
    wpAny (model prog w) A (subscriptTail value slice (.ref r) (.int (i : Int) u)) Q E s := by
  have hr := (N _ hm).1
  have hT : s.TypeIs (.ref r) "bytearray" := ⟨_, hr, rfl⟩
  have e : (By ys)[i]? = some (ys[i]).toUInt8 := by
    rw [← Array.getElem?_toList, By_toList, List.getElem?_map, List.getElem?_eq_getElem hl]; rfl
  have hlt := hy _ (List.getElem_mem hl)
  refine tail_any hT B.slot_bytearray_getitem.lookup (getItem_bar hr (by rw [By_size]; exact hz) e fun t tk => ?_) hs
  have e2 : (ys[i]).toUInt8.toNat = ys.getD i 0 := by
    rw [List.getD_eq_getElem?_getD, List.getElem?_eq_getElem hl]
    show ys[i] % 256 = _
    rw [Nat.mod_eq_of_lt hlt]; rfl
  rw [e2]
  exact h t tk
theorem By_set {ys : List Nat} {i c : Nat} : (By ys).setIfInBounds i c.toUInt8 = By (ys.set i c) := by
  apply Array.toList_inj.mp
  rw [Array.toList_setIfInBounds, By_toList, By_toList, List.map_set]
theorem By_erase {ys : List Nat} {i : Nat} : (By ys).eraseIdxIfInBounds i = By (ys.eraseIdx i) := by
  apply Array.toList_inj.mp
  rw [By_toList]
  unfold Array.eraseIdxIfInBounds
  have me : ∀ (xs : List Nat) (b : Nat), (xs.eraseIdx b).map (fun x => x.toUInt8) = (xs.map fun x => x.toUInt8).eraseIdx b := by
    intro xs
    induction xs with
    | nil => intro b; rfl
    | cons x xs ih => intro b; cases b <;> simp [ih]
  split
  · rename_i h
    rw [Array.toList_eraseIdx, By_toList, me]
  · rename_i h
    rw [By_size] at h
    rw [List.eraseIdx_of_length_le (by omega), By_toList]
end
local macro_rules | `(tactic| walk_at "ite") => `(tactic| first
  | refine iteT (by first | assumption | (simp only [decide_eq_true_eq, beq_iff_eq, gt_iff_lt, ge_iff_le]; omega)) ?_
  | refine iteF (by first | assumption | (simp only [decide_eq_true_eq, beq_iff_eq, gt_iff_lt, ge_iff_le]; omega)) ?_)
local macro_rules | `(tactic| walk_at "eval Name") => `(tactic| first
  | refine nmB (by assumption) (by assumption) bb_len ?_ 
  | refine nmB (by assumption) (by assumption) bb_range ?_ )
theorem len_barN {prog : Program} {w : World} {A : Around} {E : Value → Shared → Prop} {s : Shared} {L : Addr} {base : Heap} {news : List (Addr × Obj)} {r : Addr} {ys : List Nat} {Q : Value → Shared → Prop} (N : News base L s.heap news) (hm : (r, bar (By ys)) ∈ news) (hz : ys.length ≤ 100000)
    (h : ∀ t t', Q (.int ys.length t') { s with toks := t }) : wpAny (model prog w) A (call (.builtin "len") [.ref r]) Q E s := by
  refine len_bar (N _ hm).1 (by rw [By_size]; exact hz) fun t t' => ?_
  rw [By_size]
  exact h t t'
local macro_rules | `(tactic| walk_at "call builtin:len") => `(tactic| (refine len_barN (by assumption) (by first | exact .head _ | exact .tail _ (.head _)) (by assumption) ?_; intro _ _; (try dsimp only)))
section
variable {w : World} {A : Around} {s : Shared} {base : Heap} {L a : Addr} {cd : Value} {mg mb : Str → Option Value} {row nd : Addr} {ws : List Value} {xs ns : List Nat} {k : Nat} {b : Nat} {x : Int} {t1 t2 : Tok} 
  {Q : Flow → Shared → Prop} {E : Value → Shared → Prop}
theorem change_bar (W : Wd base mg mb) (hh : A.handled = none)
  (F : Fr base L s.heap (fun y => List.lookup y [(Str.ofString "x", .int x t2), (Str.ofString "needle", Value.ref nd), (Str.ofString "behind", Value.int b t1), (Str.ofString "row", .ref row)]))
  (N : News base L s.heap [(row, bar (By xs))]) (hx : AB xs) (hz : xs.length ≤ 100000) (hnd : base.get? nd = some (lst ws k)) (hj : IntsAre ws (toZ ns)) (hn : AB ns) (hzn : ns.length ≤ 100) (hz' : xs.length ≤ 10000) (hb : b ≤ xs.length)
  (h : ∀ h' t' m', Fr base L h' m' → News base L h' [(row, bar (By (chN xs b ns x)))] → Q .next ⟨h', s.gens, s.drawn, t', s.os⟩) :
  wpC (model P1 w) A (execs (defAt P1 3).2.1 (envOf "_law_change" (defAt P1 3).2.2 L a cd)) Q E s := by
  have hr : x.fmod 6 = 0 ∨ x.fmod 6 = 1 ∨ x.fmod 6 = 2 ∨ x.fmod 6 = 3 ∨ x.fmod 6 = 4 ∨ x.fmod 6 = 5 := by
    rw [Int.fmod_eq_emod_of_nonneg _ (by decide)]; omega
  have hlt := Heap.lt_size (N _ (.head _)).1
  rcases hr with hx6 | hx6 | hx6 | hx6 | hx6 | hx6
  · refine wpC_of ?_
    refine wpAny_execs_cons ?_
    repeat walk1
    exact h _ _ _ (by assumption) (by simpa [chN, hx6] using (by assumption : News base L _ [(row, bar (By xs))]))
  · show wpC _ _ (execs (_ :: _) _) _ _ _
    refine wpC_execs_cons ?_
    show wpC _ _ (exec (.If _ _ _ _) _) _ _ _
    refine wpC_If ?_
    repeat walk1
    show wpC _ _ (execs (.Expr (.Call (.Attribute _ _ _) (_ :: _) [] _) _ :: []) _) _ _ _
    refine wpC_execs_cons (wpC_Expr ?_)
    refine wpC_Call_meth (id := "bytearray.extend") rfl rfl rfl ?_
    repeat walk1
    refine getMethod_bi (N _ (.head _)).1 rfl rfl B.ga_bytearray B.canon_bytearray B.gn_bytearray B.slot_bytearray_extend.lookup B.type_bytearray_extend ⟨rfl, ?_⟩
    refine wpC_callWith_bi rfl (Calls.evalArgs_plain (x := eval _ _) (rest := []) ?_)
    refine Calls.spliced_cons ?_
    repeat walk1
    refine Calls.spliced_nil ?_
    dsimp only
    rename_i F2 N2
    refine extend_bar (ys := xs) (ns := [97, 98]) hh (N2 (row, bar (By xs)) (by simp)).1 (N2 _ (.head _)).1 (.cons _ _ (.cons _ _ .nil)) (by decide) (by simp; omega) fun h' k' ho => ?_
    have hrow := (N2 (row, bar (By xs)) (by simp)).2
    have F3 := kp_fr (D := [row]) F2 (fun b o hb e => k' b o (by simpa using hb) e) (by simpa using Ne.symm hrow.1) (by simpa using hrow.2)
    have N3 := news_one ho hrow.1 hrow.2
    clear F2 N2 F N
    refine ⟨rfl, ?_⟩
    refine wpC_execs_nil ?_
    show wpC _ _ (execs _ _) _ _ _
    refine wpC_of ?_
    repeat walk1
    exact h _ _ _ F3 (by simpa [chN, hx6] using N3)
  · by_cases hl : 0 < xs.length
    · show wpC _ _ (execs (_ :: _ :: _) _) _ _ _
      refine wpC_execs_cons (wpC_of ?_)
      repeat walk1
      refine wpC_execs_cons ?_
      show wpC _ _ (exec (.If _ _ _ _) _) _ _ _
      refine wpC_If ?_
      repeat walk1
      show wpC _ _ (execs (.Delete [.Subscript _ _ _] _ :: []) _) _ _ _
      refine wpC_execs_cons (wpC_Delete1 (wpC_delete_sub ?_))
      repeat walk1
      refine del_bar (k := xs.length - 1) (N _ (.head _)).1 (by simp [seqIndex?, By_size]; omega) (by decide) (by rw [By_size]; exact hz) fun h' hs ho => ?_
      have hrow := (N _ (.head _)).2
      rw [By_erase] at ho
      have F3 := F.change hs hrow.1 hrow.2
      have N3 := news_one ho hrow.1 hrow.2
      clear F N
      refine wpAny_release ?_
      refine wpC_execs_nil ?_
      show wpC _ _ (execs _ _) _ _ _
      refine wpC_of ?_
      repeat walk1
      exact h _ _ _ F3 (by simpa [chN, hx6, List.eraseIdx_length_sub_one] using N3)
    · refine wpC_of ?_
      refine wpAny_execs_cons ?_
      repeat walk1
      have : xs = [] := by cases xs with | nil => rfl | cons => simp at hl
      subst this
      exact h _ _ _ (by assumption) (by simpa [chN, hx6] using (by assumption : News base L _ [(row, bar (By []))]))
  · refine wpC_of ?_
    by_cases hl : b < xs.length
    · have hv : xs.getD b 0 = 97 ∨ xs.getD b 0 = 98 := by
        have := hx xs[b] (List.getElem_mem hl)
        simpa [List.getD_eq_getElem?_getD, hl] using this
      refine wpAny_execs_cons ?_
      repeat walk1
      refine get_bar (by assumption) (.head _) hl hx.low hz fun t3 tk3 => ?_
      repeat walk1
      refine setItem_bar (N _ (.head _)).1 (by rw [By_size]; exact hz) (by rw [By_size]; exact hl) (by omega) (by omega) fun h' hs ho => ?_
      have hrow := (N _ (.head _)).2
      have ec : ((195 : Int) - ((xs.getD b 0 : Nat) : Int)).toNat = 195 - xs.getD b 0 := by omega
      rw [ec, By_set] at ho
      have F3 := F.change hs hrow.1 hrow.2
      have N3 := news_one ho hrow.1 hrow.2
      clear F N
      dsimp only
      repeat walk1
      exact h _ _ _ F3 (by simpa [chN, hx6] using N3)
    · refine wpAny_execs_cons ?_
      repeat walk1
      exact h _ _ _ (by assumption) (by simpa [chN, hx6, List.set_eq_of_length_le (Nat.le_of_not_lt hl)] using (by assumption : News base L _ [(row, bar (By xs))]))
  · by_cases hl : b < xs.length
    · show wpC _ _ (execs (_ :: _ :: _ :: _ :: _) _) _ _ _
      refine wpC_execs_cons (wpC_of ?_)
      repeat walk1
      refine wpC_execs_cons (wpC_of ?_)
      repeat walk1
      refine wpC_execs_cons (wpC_of ?_)
      repeat walk1
      refine wpC_execs_cons ?_
      show wpC _ _ (exec (.If _ _ _ _) _) _ _ _
      refine wpC_If ?_
      repeat walk1
      show wpC _ _ (execs (.Delete [.Subscript _ _ _] _ :: []) _) _ _ _
      refine wpC_execs_cons (wpC_Delete1 (wpC_delete_sub ?_))
      repeat walk1
      refine del_bar (k := b) (N _ (.head _)).1 (by simp [seqIndex?, By_size]; omega) (fits_nat (by omega)) (by rw [By_size]; exact hz) fun h' hs ho => ?_
      have hrow := (N _ (.head _)).2
      rw [By_erase] at ho
      have F3 := F.change hs hrow.1 hrow.2
      have N3 := news_one ho hrow.1 hrow.2
      clear F N
      refine wpAny_release ?_
      refine wpC_execs_nil ?_
      show wpC _ _ (execs _ _) _ _ _
      refine wpC_of ?_
      repeat walk1
      exact h _ _ _ F3 (by simpa [chN, hx6] using N3)
    · refine wpC_of ?_
      refine wpAny_execs_cons ?_
      repeat walk1
      exact h _ _ _ (by assumption) (by simpa [chN, hx6, List.eraseIdx_of_length_le (Nat.le_of_not_lt hl)] using (by assumption : News base L _ [(row, bar (By xs))]))
  · show wpC _ _ (execs (_ :: _ :: _ :: _ :: _ :: _) _) _ _ _
    refine wpC_execs_cons (wpC_of ?_)
    repeat walk1
    refine wpC_execs_cons (wpC_of ?_)
    repeat walk1
    refine wpC_execs_cons (wpC_of ?_)
    repeat walk1
    refine wpC_execs_cons (wpC_of ?_)
    repeat walk1
    refine wpC_execs_cons ?_
    show wpC _ _ (exec (.If _ _ _ _) _) _ _ _
    refine wpC_If ?_
    repeat walk1
    show wpC _ _ (execs (.Assign [.Subscript _ _ _] _ _ :: []) _) _ _ _
    refine wpC_execs_cons (wpC_Assign_sub ?_)
    repeat walk1
    refine wpC_assign_sub ?_
    repeat walk1
    have F2 := F.push (sliceAt b t1 t1)
    have N2 := N.push F (sliceAt b t1 t1)
    have hrow := (N (row, bar (By xs)) (.head _)).2
    refine splice_bar (ys := xs) (ns := ns) (N2 (row, bar (By xs)) (.tail _ (.head _))).1 (N2 _ (.head _)).1 (F2.keep _ _ hnd) hj hn.low hb (by omega) fun h' k' ho => ?_
    have F3 := kp_fr (D := [row]) F2 (fun b o hb e => k' b o (by simpa using hb) e) (by simpa using Ne.symm hrow.1) (by simpa using hrow.2)
    have N3 := news_one ho hrow.1 hrow.2
    clear F2 N2 F N
    dsimp only
    refine wpC_execs_nil ?_
    refine wpC_execs_nil ?_
    exact h _ _ _ F3 (by simpa [chN, hx6] using N3)
end
end Aq

namespace Aq
open PySem.Calls
def StepP (base : Heap) (L : Addr) (s : Shared) (news : List (Addr × Obj)) (J : (Str → Option Value) → Array GenState → Prop) (Q : Flow → Shared → Prop) (f : Flow) (s' : Shared) : Prop := match f with
  | .next | .cont => ∃ h g tk m, s' = ⟨h, g, s.drawn, tk, s.os⟩ ∧ Fr base L h m ∧ News base L h news ∧ J m g
  | .brk => Q .next s'
  | .ret v => Q (.ret v) s'
theorem stepNext {base : Heap} {L : Addr} {s : Shared} {news : List (Addr × Obj)} {J : (Str → Option Value) → Array GenState → Prop} {Q : Flow → Shared → Prop} {h : Heap} {g : Array GenState} {tk : Nat} {m : Str → Option Value}
    (F : Fr base L h m) (N : News base L h news) (hJ : J m g) : StepP base L s news J Q .next ⟨h, g, s.drawn, tk, s.os⟩ := ⟨h, g, tk, m, rfl, F, N, hJ⟩
section
variable {prog : Program} {w : World} {A : Around} {s : Shared} {base : Heap} {env : Env} {m : Str → Option Value} {E : Value → Shared → Prop}
theorem fr_same {L a : Addr} {h h' : Heap} (F : Fr base L h m) (hs : Heap.SameBut a h h') (hL : L ≠ a) (hb : base.get? a = none) : Fr base L h' m :=
  ⟨F.ns.sameBut hs hL, fun b o e => hs.extBut b o (fun q => by rw [q, hb] at e; cases e) (F.keep b o e), F.above⟩
theorem fr_ext {L a : Addr} {h h' : Heap} (F : Fr base L h m) (hs : Heap.ExtBut a h h') (hL : L ≠ a) (hb : base.get? a = none) : Fr base L h' m :=
  ⟨F.ns.extBut hs hL, fun b o e => hs b o (fun q => by rw [q, hb] at e; cases e) (F.keep b o e), F.above⟩
theorem news_ext {L a : Addr} {h h' : Heap} {news : List (Addr × Obj)} (N : News base L h news) (hs : ∀ b o, b ≠ a → h.get? b = some o → h'.get? b = some o) (ha : ∀ p ∈ news, p.1 ≠ a) : News base L h' news :=
  fun p hp => ⟨hs _ _ (ha p hp) (N p hp).1, (N p hp).2⟩
theorem news_tail {L : Addr} {h : Heap} {p : Addr × Obj} {news : List (Addr × Obj)} (N : News base L h (p :: news)) : News base L h news := fun q hq => N q (.tail _ hq)
theorem base_lt {L a : Addr} {h : Heap} (F : Fr base L h m) (ha : h.objs.size ≤ a) : base.get? a = none := by
  cases e : base.get? a with
  | none => rfl
  | some o => exact absurd (Heap.lt_size (F.keep _ _ e)) (Nat.not_lt.mpr ha)

end
end Aq

namespace Aq
open PySem.Calls
abbrev testsOf (ifs : List Expr) (env : Env) : Sem Bool := forIn ifs true fun c r => if r = true then do let ok ← isTrue c env (eval c env); pure (ForInStep.yield ok) else pure (ForInStep.yield r)
/-- what a comprehension asks of its turns, and what it gives -/
def CompAt (prog : Program) (w : World) (A : Around) (scope : Scope) (cl : List (Str × Addr)) (env : Env) (x : Str) (ifs : List Expr) (elt : Expr) (Q : Value → Shared → Prop) (it : Value) (s : Shared) : Prop :=
  ∃ (I : Addr) (fp wr : List Addr) (n : Nat) (P : Nat → Value → Prop) (St : Nat → Heap → Prop) (J : Nat → List Value → Array GenState → Prop),
    it = .ref I ∧ Walks prog w A I fp wr n P St ∧ n ≤ 100000 ∧ St 0 s.heap ∧ (∀ b ∈ fp, b < s.heap.objs.size) ∧ J 0 [] s.gens ∧
    (∀ E' i v h g tk ys C m, s.heap.objs.size ≤ C → i < n → P i v → J i ys g → h.Ns C m → m x = some v → (∀ b o, b ∉ wr → s.heap.get? b = some o → h.get? b = some o) →
      wpAny (model prog w) A (testsOf ifs (compEnvC scope cl C env)) (fun ok s₃ => if ok = true then wpAny (model prog w) A (eval elt (compEnvC scope cl C env)) (fun y s₄ =>
          ∃ h' tk' g', s₄ = ⟨h', g', s.drawn, tk', s.os⟩ ∧ Kp [] h h' ∧ J (i + 1) (ys ++ [y]) g') E' s₃
        else ∃ h' tk' g', s₃ = ⟨h', g', s.drawn, tk', s.os⟩ ∧ Kp [] h h' ∧ J (i + 1) ys g') E' ⟨h, g, s.drawn, tk, s.os⟩) ∧
    (∀ D h tk g ys k, s.heap.get? D = none → h.get? D = some (lst ys k) → (∀ b o, b ∉ wr → s.heap.get? b = some o → h.get? b = some o) → J n ys g → Q (.ref D) ⟨h, g, s.drawn, tk, s.os⟩)
section
variable {prog : Program} {w : World} {A : Around} {s : Shared} {E : Value → Shared → Prop} {env : Env}
theorem comp_core {elt iter : Expr} {x : Str} {px : Pos} {ifs : List Expr} {scope : Scope} {cl : List (Str × Addr)} {pos : Pos} {RR : Value → Addr → Result → Shared → Prop} {s₂ : Shared} {I : Addr} {fp wr : List Addr} {n : Nat} {P : Nat → Value → Prop} {St : Nat → Heap → Prop} {J : Nat → List Value → Array GenState → Prop}
    (hcell : ∀ y ∈ scope.names, y.2 ≠ .cell) (hkind : scope.kind = .function) (hx : scope.names.lookup x = some .local)
    (W : Walks prog w A I fp wr n P St) (hsz : n ≤ 100000) (hst : St 0 s₂.heap) (hfp : ∀ b ∈ fp, b < s₂.heap.objs.size) (h0 : J 0 [] s₂.gens)
    (turn : ∀ E' i v h g tk ys C m, s₂.heap.objs.size ≤ C → i < n → P i v → J i ys g → h.Ns C m → m x = some v → (∀ b o, b ∉ wr → s₂.heap.get? b = some o → h.get? b = some o) →
      wpAny (model prog w) A (testsOf ifs (compEnvC scope cl C env)) (fun ok s₃ => if ok = true then wpAny (model prog w) A (eval elt (compEnvC scope cl C env)) (fun y s₄ =>
          ∃ h' tk' g', s₄ = ⟨h', g', s₂.drawn, tk', s₂.os⟩ ∧ Kp [] h h' ∧ J (i + 1) (ys ++ [y]) g') E' s₃
        else ∃ h' tk' g', s₃ = ⟨h', g', s₂.drawn, tk', s₂.os⟩ ∧ Kp [] h h' ∧ J (i + 1) ys g') E' ⟨h, g, s₂.drawn, tk, s₂.os⟩)
    (fin : ∀ D C h tk g ys k mc, s₂.heap.get? D = none → s₂.heap.get? C = none → D ≠ C → h.Ns C mc → h.get? D = some (lst ys k) → (∀ b o, b ∉ wr → s₂.heap.get? b = some o → h.get? b = some o) → J n ys g → RR (.ref D) C (.ok .next) ⟨h, g, s₂.drawn, tk, s₂.os⟩) :
    wpAny (model prog w) A (newList []) (fun acc s₃ => wpAny (model prog w) A (newFunctionEnv scope env.globals cl [] env.qual none .none (some env)) (fun cenv s₄ =>
      codeAny (model prog w) A (.compStart (.ListComp elt [⟨.Name x px, iter, ifs, 0⟩] scope pos) 0 (.ref I) acc { cenv with scope := relabel scope env }) (RR acc cenv.locals) s₄) E s₃) E s₂ := by
  refine wpAny_newObj_type (wpAny_newFunctionEnv hcell (by intro y hy; simp at hy) (fun h₁ hns₁ hsb₁ => ?_) hkind)
  dsimp only at hns₁ hsb₁ ⊢
  generalize hH2 : s₂.heap.push { cls := .type "list", dict := none, data := .seq ([] : List Value).toArray } = H2 at hns₁ hsb₁ ⊢
  have hC : H2.objs.size = s₂.heap.objs.size + 1 := by rw [← hH2, Heap.size_push]
  have hDC : s₂.heap.objs.size ≠ H2.objs.size := by rw [hC]; exact Nat.ne_of_lt (Nat.lt_succ_self _)
  have hCle : s₂.heap.objs.size ≤ H2.objs.size := by rw [hC]; exact Nat.le_succ _
  have below : ∀ b, b < s₂.heap.objs.size → b ≠ H2.objs.size ∧ b ≠ s₂.heap.objs.size := fun b hb => ⟨by rw [hC]; exact Nat.ne_of_lt (Nat.lt_succ_of_lt hb), Nat.ne_of_lt hb⟩
  have hDw : s₂.heap.objs.size ∉ wr := fun hm => Nat.lt_irrefl _ (hfp _ (W.sub _ hm))
  have hCw : H2.objs.size ∉ wr := fun hm => by have := hfp _ (W.sub _ hm); rw [hC] at this; exact Nat.lt_irrefl _ (Nat.lt_of_succ_lt this)
  have old : ∀ b o, s₂.heap.get? b = some o → h₁.get? b = some o := fun b o e => hsb₁.extBut b o (below b (Heap.lt_size e)).1 (Heap.get?_push_of_some _ (hH2 ▸ Heap.get?_push_of_some _ e))
  have hacc : h₁.get? s₂.heap.objs.size = some (lst [] 0) := hsb₁.extBut _ _ hDC (Heap.get?_push_of_some _ (hH2 ▸ Heap.get?_push_size _ rfl))
  have hst₁ : St 0 h₁ := W.frame _ _ _ hst fun b _ o e => old b o e
  have fresh : ∀ a, s₂.heap.objs.size ≤ a → s₂.heap.get? a = none := fun a ha => by
    cases e : s₂.heap.get? a with
    | none => rfl
    | some o' => exact absurd (Heap.lt_size e) (Nat.not_lt.mpr ha)
  have loop : ∀ s₃ : Shared, s₃ = { s₂ with heap := h₁, toks := s₂.toks + ([] : List (Str × Value)).length } →
      codeAny (model prog w) A (.compLoop (.ListComp elt [⟨.Name x px, iter, ifs, 0⟩] scope pos) 0 (.ref I) (.ref s₂.heap.objs.size) (compEnvC scope cl H2.objs.size env))
        (RR (.ref s₂.heap.objs.size) H2.objs.size) s₃ := by
    rintro s₃ rfl
    refine codeAny_compLoop_tests (fun fu s' => ∃ h' tk g i ys k mc, s' = ⟨h', g, s₂.drawn, tk, s₂.os⟩ ∧ fu = n + 1 - i ∧ i ≤ n ∧ St i h' ∧ J i ys g ∧ h'.get? s₂.heap.objs.size = some (lst ys k) ∧ ys.length ≤ i ∧ h'.Ns H2.objs.size mc ∧
      (∀ b o, b ∉ wr → s₂.heap.get? b = some o → h'.get? b = some o)) ?_ (n + 1) ⟨h₁, _, s₂.gens, 0, [], 0, _, rfl, rfl, Nat.zero_le _, hst₁, h0, hacc, Nat.le_refl _, hns₁, fun b o _ e => old b o e⟩
    rintro fu s' ⟨h', tk, g, i, ys, k, mc, rfl, rfl, hi, hst', hJ, hD', hyl, hns', hk'⟩
    by_cases hlt : i < n
    · refine W.item i _ _ _ hlt hst' fun v h2 tk2 hP hst2 hk2 => ?_
      refine wpAny_assign_Name (wpAny_storeName_local (lookup_relabel_local hx) (hns'.at' fun o e => hk2 _ o hCw e) (fun h3 hn3 hs3 => ?_) (by simp [compEnvC, relabel, hkind]))
      have hk3 : ∀ b o, b ∉ wr → s₂.heap.get? b = some o → h3.get? b = some o := fun b o hb e => hs3.extBut b o (below b (Heap.lt_size e)).1 (hk2 b o hb (hk' b o hb e))
      have hD3 : h3.get? s₂.heap.objs.size = some (lst ys k) := hs3.extBut _ _ hDC (hk2 _ _ hDw hD')
      have hst3 : St (i + 1) h3 := W.frame _ _ _ hst2 fun b hb o e => hs3.extBut b o (below b (hfp b hb)).1 e
      refine wpAny_mono (turn _ i v h3 g (tk2 + 1) ys H2.objs.size _ hCle hlt hP hJ hn3 (by simp) hk3) (fun ok s3 h3' => ?_) fun _ _ e => e
      cases ok with
      | false =>
        obtain ⟨h4, tk4, g4, rfl, K4, J4⟩ := h3'
        exact ⟨n + 1 - (i + 1), by omega, h4, tk4, g4, i + 1, ys, k, _, rfl, rfl, hlt, W.frame _ _ _ hst3 fun b _ o e => K4 b o (by simp) e, J4, K4 _ _ (by simp) hD3, by omega, hn3.at' fun o e => K4 _ o (by simp) e, fun b o hb e => K4 b o (by simp) (hk3 b o hb e)⟩
      | true =>
        refine wpAny_mono h3' (fun y s4 h4' => ?_) fun _ _ e => e
        obtain ⟨h4, tk4, g4, rfl, K4, J4⟩ := h4'
        refine append_lst (s := ⟨h4, g4, s₂.drawn, tk4, s₂.os⟩) (K4 _ _ (by simp) hD3) (by omega) fun h5 hs5 hD5 => ⟨n + 1 - (i + 1), by omega, ?_⟩
        refine ⟨h5, tk4, g4, i + 1, ys ++ [y], k + 1, _, rfl, rfl, hlt, W.frame _ _ _ hst3 fun b hb o e => hs5.extBut b o (below b (hfp b hb)).2 (K4 b o (by simp) e), J4, hD5, by simp; omega,
          (hn3.at' fun o e => K4 _ o (by simp) e).sameBut hs5 (Ne.symm hDC), fun b o hb e => hs5.extBut b o (below b (Heap.lt_size e)).2 (K4 b o (by simp) (hk3 b o hb e))⟩
    · have : i = n := by omega
      subst this
      refine W.done _ _ _ hst' fun h2 tk2 hk2 => ?_
      exact fin s₂.heap.objs.size H2.objs.size h2 tk2 g ys k mc (fresh _ (Nat.le_refl _)) (fresh _ hCle) hDC (hns'.at' fun o e => hk2 _ o hCw e) (hk2 _ _ hDw hD') (fun b o hb e => hk2 b o hb (hk' b o hb e)) hJ
  exact codeAny_compStart_list (loop _ rfl) (W.self 0 _ _ _ hst₁ (loop _ rfl))
theorem compRule {elt iter : Expr} {x : Str} {px : Pos} {ifs : List Expr} {scope : Scope} {cl : List (Str × Addr)} {pos : Pos} {Q : Value → Shared → Prop}
    (hclos : closureFor scope env = pure cl) (hcell : ∀ y ∈ scope.names, y.2 ≠ .cell) (hkind : scope.kind = .function)
    (hnames : ∀ y ∈ scope.names, y.2 = .local → scope.names.lookup y.1 = some .local) (hx : scope.names.lookup x = some .local)
    (h : wpAny (model prog w) A (eval iter env) (fun xv s₁ => wpAny (model prog w) A (pyIter xv) (fun it s₂ => CompAt prog w A scope cl env x ifs elt Q it s₂) E s₁) E s)
    (hs : ∀ x, foldedSetIterable iter env x = pure x := by intro _; rfl) :
    wpAny (model prog w) A (eval (.ListComp elt [⟨.Name x px, iter, ifs, 0⟩] scope pos) env) Q E s := by
  rw [eval_ListComp]
  refine wpAny_comprehension_free (use := none) rfl hs hclos hkind hnames (wpAny_mono h (fun xv s₁ h₁ => wpAny_mono h₁ (fun it s₂ h₂ => ?_) fun _ _ e => e) fun _ _ e => e)
  obtain ⟨I, fp, wr, n, P, St, J, rfl, W, hsz, hst, hfp, h0, turn, done⟩ := h₂
  refine comp_core (RR := fun acc C => compPost (model prog w) A E none Q acc C) hcell hkind hx W hsz hst hfp h0 turn fun D C h tk g ys k mc hD hC hDC hn hd hk hJ => ?_
  refine ⟨mc, hn, fun h3 hs3 => ?_⟩
  exact done D h3 tk g ys k hD (hs3.extBut _ _ hDC hd) (fun b o hb e => hs3.extBut b o (fun q => by rw [q, hC] at e; cases e) (hk b o hb e)) hJ
/-- over a range -/
theorem pyIter_rangeC {r : Addr} {a b : Int} {n : Nat} {t u v : Tok} {x : Str} {ifs : List Expr} {elt : Expr} {scope : Scope} {cl : List (Str × Addr)} {Q : Value → Shared → Prop} {E' : Value → Shared → Prop}
    (hh : A.handled = none) (hr : IsRange s.heap r a b 1 t u v) (hsm : Builtin.Range.small a b 1 = true) (hn : Builtin.Range.rangeSize a b 1 = (n : Int)) (hz : n ≤ 100000)
    (J : Nat → List Value → Array GenState → Prop) (h0 : J 0 [] s.gens)
    (turn : ∀ E' i tv h g tk ys C m, s.heap.objs.size < C → i < n → J i ys g → h.Ns C m → m x = some (.int (a + (i : Int)) tv) → (∀ b o, s.heap.get? b = some o → h.get? b = some o) →
      wpAny (model prog w) A (testsOf ifs (compEnvC scope cl C env)) (fun ok s₃ => if ok = true then wpAny (model prog w) A (eval elt (compEnvC scope cl C env)) (fun y s₄ =>
          ∃ h' tk' g', s₄ = ⟨h', g', s.drawn, tk', s.os⟩ ∧ Kp [] h h' ∧ J (i + 1) (ys ++ [y]) g') E' s₃
        else ∃ h' tk' g', s₃ = ⟨h', g', s.drawn, tk', s.os⟩ ∧ Kp [] h h' ∧ J (i + 1) ys g') E' ⟨h, g, s.drawn, tk, s.os⟩)
    (done : ∀ D h tk g ys k, s.heap.get? D = none → h.get? D = some (lst ys k) → (∀ b o, s.heap.get? b = some o → h.get? b = some o) → J n ys g → Q (.ref D) ⟨h, g, s.drawn, tk, s.os⟩) :
    wpAny (model prog w) A (pyIter (.ref r)) (fun it s₂ => CompAt prog w A scope cl env x ifs elt Q it s₂) E' s := by
  refine wpAny_pyIter_range hr hsm ?_
  rw [hn]
  generalize ho : ({ cls := .type "range_iterator", data := .fields #[rawInt a, rawInt (n : Int), rawInt 1] } : Obj) = io
  have up : ∀ {h : Heap}, (∀ b o, b ∉ [s.heap.objs.size] → (s.heap.push io).get? b = some o → h.get? b = some o) → ∀ b o, s.heap.get? b = some o → h.get? b = some o :=
    fun hk b o e => hk b o (fun q => Nat.ne_of_lt (Heap.lt_size e) (List.mem_singleton.mp q)) (Heap.get?_push_of_some _ e)
  refine ⟨_, _, _, _, _, _, J, rfl, Walks.range hh s.heap.objs.size a 1 n, hz, ?_, ?_, h0, ?_, ?_⟩
  · show IsRangeIter _ _ _ _ _
    have := Heap.get?_push_size s.heap (o := io) (by rw [← ho]; rfl)
    rw [← ho] at this ⊢
    simpa using this
  · intro b hb
    show b < (s.heap.push _).objs.size
    rw [Heap.size_push, List.mem_singleton.mp hb]
    exact Nat.lt_succ_self _
  · intro E' i v h g tk ys C m hC hi hP hJ hn' hm hk
    obtain ⟨tv, rfl⟩ := hP
    rw [Int.mul_one] at hm
    refine turn E' i tv h g tk ys C m ?_ hi hJ hn' hm (up hk)
    rw [Heap.size_push] at hC
    exact hC
  · intro D h tk g ys k hD hd hk hJ
    refine done D h tk g ys k ?_ hd (up hk) hJ
    cases e : s.heap.get? D with
    | none => rfl
    | some o => rw [Heap.get?_push_of_some _ e] at hD; cases hD
end
end Aq

namespace Aq
open PySem.Calls
local macro_rules | `(tactic| walk_at "aq more") => `(tactic| skip)
section
variable {M : Model} {A : Around} {E : Value → Shared → Prop} {s : Shared} {env : Env} {mg mb : Str → Option Value}
/-- names that lead out of the function, in any room -/
theorem nmBg {x : Str} {pos : Pos} {v : Value} {Q : Value → Shared → Prop} (W : Wd s.heap mg mb) (hv : bootBuiltins x = some v) (h : Q v s)
    (hm : x ∈ [("len" : Str), "range", "bytearray", "bytes", "ord"] := by decide) (hn : x ≠ "__name__" := by decide)
    (hg : env.globals = mainGlobals := by rfl) (hb : env.builtins = builtinsNs := by rfl) (hk : env.scope.kind = .function := by rfl) (hx : env.kindOf x = some .globalImplicit := by rfl) (hd : (x == ("__debug__" : Str)) = false := by decide) :
    wpAny M A (eval (.Name x pos) env) Q E s :=
  Name_function_global hk hx (loadGlobal_builtin (env := env) (show s.heap.Ns env.globals mg from hg ▸ W.g) (W.no x hm) (show s.heap.Ns env.builtins mb from hb ▸ W.b) ((W.bl x hn).trans hv) h) hd
end
local macro_rules | `(tactic| walk_at "callWith ref") => `(tactic| refine callWith_f ?_)
local macro_rules | `(tactic| walk_at "exec For") => `(tactic| refine wpAny_For ?_)
local macro_rules | `(tactic| walk_at "eval Name") => `(tactic| first
  | refine ldLoc (by assumption) (by first | assumption | rfl) ?_
  | refine ldCN (by assumption) rfl (by news_mem) (by assumption) ?_
  | (refine nmFg (Wd.keeps (by assumption) (Fr.keep (by assumption))) (by assumption) ?_)
  | (refine nmBg (Wd.keeps (by assumption) (Fr.keep (by assumption))) bb_len ?_)
  | (refine nmBg (Wd.keeps (by assumption) (Fr.keep (by assumption))) bb_bytes ?_)
  | (refine nmBg (Wd.keeps (by assumption) (Fr.keep (by assumption))) bb_ord ?_)
  | (refine nmBg (Wd.keeps (by assumption) (Fr.keep (by assumption))) bb_range ?_))
theorem kpN {base h h' : Heap} {L : Addr} {news : List (Addr × Obj)} (N : News base L h news) (k : Kp [] h h') : News base L h' news := kp_news N k (fun _ hp => hp) (by simp)
theorem kpF {base h h' : Heap} {L : Addr} {m : Str → Option Value} (F : Fr base L h m) (k : Kp [] h h') : Fr base L h' m := kp_fr F k (by simp) (by simp)
section
variable {prog : Program} {w : World} {A : Around} {s : Shared} {base : Heap} {L a : Addr} {cd : Value} {mg mb : Str → Option Value} {E : Value → Shared → Prop}
theorem fnThen {P : Prop} {h₀ h : Heap} {mg : Str → Option Value} {x : Str} {d} {f : Addr} (hf : FnAt h₀ mg x d f) (k : ∀ b o, h₀.get? b = some o → h.get? b = some o) (hP : P) : FnThen f h P := by
  obtain ⟨o, pm, code, doc, ho, hd, _⟩ := hf.o
  exact ⟨⟨o, _, k _ _ ho, hd⟩, hP⟩
theorem new_ne {base h : Heap} {L D : Addr} {m : Str → Option Value} (F : Fr base L h m) (hD : h.get? D = none) : D ≠ L ∧ base.get? D = none := by
  refine ⟨?_, F.noneBack hD⟩
  obtain ⟨o, _, _, ho, _⟩ := F.ns
  intro e
  rw [e, ho] at hD
  cases hD
end
end Aq

namespace Aq
open PySem.Calls
/-- the heap, but for what stands at r -/
def without (h : Heap) (r : Addr) : Heap := ⟨h.objs.setIfInBounds r { cls := .none, data := .freed }, h.life⟩
theorem without_none (h : Heap) (r : Addr) : (without h r).get? r = none := by
  obtain ⟨objs, l⟩ := h
  have e : (objs.setIfInBounds r { cls := .none, data := .freed })[r]? = none ∨ (objs.setIfInBounds r { cls := .none, data := .freed })[r]? = some { cls := .none, data := .freed } := by
    by_cases hl : r < objs.size
    · right; simp [hl]
    · left; simp [hl]
  show (match (objs.setIfInBounds r { cls := .none, data := .freed })[r]? with | some ⟨_, _, .freed, _⟩ => none | o => o) = none
  rcases e with e | e <;> rw [e]
theorem get_without {h : Heap} {r b : Addr} {o : Obj} : (without h r).get? b = some o ↔ b ≠ r ∧ h.get? b = some o := by
  by_cases e : b = r
  · subst e
    rw [without_none]
    simp
  · obtain ⟨objs, l⟩ := h
    unfold without Heap.get?
    rw [Array.getElem?_setIfInBounds_ne (Ne.symm e)]
    simp [e]
theorem without_size (h : Heap) (r : Addr) : (without h r).objs.size = h.objs.size := by simp [without]
theorem fr_without {h h' : Heap} {r L : Addr} {m : Str → Option Value} (F : Fr h L h' m) : Fr (without h r) L h' m :=
  ⟨F.ns, fun b o e => F.keep b o (get_without.mp e).2, by rw [without_size]; exact F.above⟩
theorem keep_without {B h : Heap} {r : Addr} (hB : B.get? r = none) (k : ∀ b o, B.get? b = some o → h.get? b = some o) : ∀ b o, B.get? b = some o → (without h r).get? b = some o :=
  fun b o e => get_without.mpr ⟨fun q => (by rw [q, hB] at e; cases e), k b o e⟩
theorem kp_without {h h' : Heap} {r : Addr} (k : ∀ b o, (without h r).get? b = some o → h'.get? b = some o) : Kp [r] h h' := fun b o hb e => k b o (get_without.mpr ⟨by simpa using hb, e⟩)
section
variable {w : World} {A : Around} {s : Shared} {B : Heap} {mg mb : Str → Option Value} {row nd fp : Addr} {vs ws : List Value} {xs ns : List Nat} {n k : Nat} {b : Nat} {x : Int} {t1 t2 : Tok} {Q : Value → Shared → Prop} {E : Value → Shared → Prop}
theorem bind_change {pm code doc : Value} (x y z u : Value) : bindArgs (docDef "_law_change" (defAt P1 3).1 (defAt P1 3).2.1 (defAt P1 3).2.2 pm code doc) ⟨[x, y, z, u], []⟩ = (pure [(("row" : Str), x), (("behind" : Str), y), ("needle", z), ("x", u)] : Sem (List (Str × Value))) := by
  with_unfolding_all rfl
theorem change_nocell : ∀ x ∈ (defAt P1 3).2.2.names, x.2 ≠ .cell := by decide
theorem change_call_list (W : Wd B mg mb) (hB : B.get? row = none) (kB : ∀ b o, B.get? b = some o → s.heap.get? b = some o) (hp : FnAt s.heap mg "_law_change" (defAt P1 3) fp) (hroom : A.depth < recursionLimit)
    (hrow : s.heap.get? row = some (lst vs n)) (hi : IntsAre vs (toZ xs)) (hx : AB xs) (hz : xs.length ≤ 10000) (hnd : s.heap.get? nd = some (lst ws k)) (hne : nd ≠ row) (hj : IntsAre ws (toZ ns)) (hzn : ns.length ≤ 100)
    (h : ∀ h' t' n' vs', Kp [row] s.heap h' → h'.get? row = some (lst vs' n') → IntsAre vs' (toZ (chN xs b ns x)) → Q .none ⟨h', s.gens, s.drawn, t', s.os⟩) :
    wpAny (model P1 w) A (call (.ref fp) [.ref row, .int (b : Int) t1, .ref nd, .int x t2]) Q E s := by
  obtain ⟨o, pm, code, doc, ho, hd, hcd⟩ := hp.o
  have hT := toZ_ch (b := b) (ns := ns) (x := x) hx
  refine wpAny_call (call_plain_ret hroom ho hd (W.lim.keeps kB) hcd (bind_change _ _ _ _) (locs (by rfl)) (fun h₁ F => ?_) rfl rfl rfl change_nocell)
  refine change_list (xs := toZ xs) (W.keeps (keep_without (r := row) hB kB)) (fr_without F) (news_one (F.keep _ _ hrow) (Nat.ne_of_lt (Heap.lt_size hrow)) (without_none _ _)) hi (by simp [toZ]; omega) (get_without.mpr ⟨hne, hnd⟩) hj (by simpa [toZ] using hzn) (by simpa [toZ] using hz) fun h' t' n' m' vs' F' N' hi' => ?_
  exact h h' t' n' vs' (kp_without F'.keep) (N' _ (.head _)).1 (hT ▸ hi')
theorem change_call_bar (W : Wd B mg mb) (hB : B.get? row = none) (kB : ∀ b o, B.get? b = some o → s.heap.get? b = some o) (hp : FnAt s.heap mg "_law_change" (defAt P1 3) fp) (hroom : A.depth < recursionLimit) (hh : A.handled = none)
    (hrow : s.heap.get? row = some (bar (By xs))) (hx : AB xs) (hz : xs.length ≤ 10000) (hnd : s.heap.get? nd = some (lst ws k)) (hj : IntsAre ws (toZ ns)) (hn : AB ns) (hzn : ns.length ≤ 100) (hb : b ≤ xs.length)
    (h : ∀ h' t', Kp [row] s.heap h' → h'.get? row = some (bar (By (chN xs b ns x))) → Q .none ⟨h', s.gens, s.drawn, t', s.os⟩) :
    wpC (model P1 w) A (call (.ref fp) [.ref row, .int (b : Int) t1, .ref nd, .int x t2]) Q E s := by
  obtain ⟨o, pm, code, doc, ho, hd, hcd⟩ := hp.o
  have hne : nd ≠ row := by rintro rfl; rw [hrow] at hnd; exact absurd (congrArg (fun o => o.map (·.cls)) hnd) (by simp)
  refine wpC_call (callC hroom ho hd (W.lim.keeps kB) hcd (bind_change _ _ _ _) (locs (by rfl)) (fun h₁ F => ?_) rfl rfl rfl change_nocell)
  refine change_bar (xs := xs) (W.keeps (keep_without (r := row) hB kB)) hh (fr_without F) (news_one (F.keep _ _ hrow) (Nat.ne_of_lt (Heap.lt_size hrow)) (without_none _ _)) hx (by omega) (get_without.mpr ⟨hne, hnd⟩) hj hn hzn hz hb fun h' t' m' F' N' => ?_
  exact h h' t' (kp_without F'.keep) (N' _ (.head _)).1
end
end Aq

namespace Aq
open PySem.Calls
section
variable {prog : Program} {w : World} {A : Around} {s : Shared} {base : Heap} {E : Value → Shared → Prop}
/-- over a range, the loop's name a cell -/
theorem forRangeC {env : Env} {m : Str → Option Value} {c : Addr} {o : Obj} {ov : Option Value} {x : Str} {px : Pos} {body : List Stmt} {r : Addr} {a b : Int} {n : Nat} {t u v : Tok} {news : List (Addr × Obj)} {Q : Flow → Shared → Prop}
    (hh : A.handled = none) (hk : env.scope.kind = .function) (hx : env.kindOf x = some .cell) (hc : env.cells.lookup x = some c)
    (F : Fr base env.locals s.heap m) (N : News base env.locals s.heap ((c, o) :: news)) (hd : o.data = .cell ov) (hap : ∀ p ∈ news, p.1 ≠ c)
    (hr : IsRange s.heap r a b 1 t u v) (hsm : Builtin.Range.small a b 1 = true) (hn : Builtin.Range.rangeSize a b 1 = (n : Int))
    (J : Nat → (Str → Option Value) → Array GenState → Prop) (h0 : J 0 m s.gens)
    (step : ∀ E' i m₁ h g tk tv it io o', i < n → J i m₁ g → Fr base env.locals h m₁ → News base env.locals h ((it, io) :: (c, o') :: news) → o'.data = .cell (some (.int (a + (i : Int)) tv)) →
      wpAny (model prog w) A (execs body env) (StepP base env.locals s ((it, io) :: (c, o') :: news) (J (i + 1)) Q) E' ⟨h, g, s.drawn, tk, s.os⟩)
    (done : ∀ h g tk m' o ov, Fr base env.locals h m' → News base env.locals h ((c, o) :: news) → o.data = .cell ov → J n m' g → Q .next ⟨h, g, s.drawn, tk, s.os⟩) :
    wpAny (model prog w) A (pyIter (.ref r)) (fun it s₂ => codeAny (model prog w) A (.forLoop (.Name x px) it body [] env) (fun r s' => match r with | .ok f => Q f s' | .error e => cameBackBy (model prog w) A env E e s') s₂) E s := by
  refine wpAny_pyIter_range hr hsm ?_
  obtain ⟨hI1, hI2, hI3, hI4⟩ : env.locals ≠ s.heap.objs.size ∧ base.get? s.heap.objs.size = none ∧ c ≠ s.heap.objs.size ∧ ∀ p ∈ ((c, o) :: news), p.1 ≠ s.heap.objs.size :=
    ⟨Nat.ne_of_lt F.ns.lt, base_lt F (Nat.le_refl _), Nat.ne_of_lt (Heap.lt_size (N _ (.head _)).1), fun p hp => Nat.ne_of_lt (Heap.lt_size (N p hp).1)⟩
  have hcL : c ≠ env.locals := (N _ (.head _)).2.1
  have hcb : base.get? c = none := (N _ (.head _)).2.2
  generalize hIe : s.heap.objs.size = I at *
  rw [hn]
  refine codeAny_forLoop (fun k s' => ∃ h g tk m' o ov i, s' = ⟨h, g, s.drawn, tk, s.os⟩ ∧ IsRangeIter h I (a + (i : Nat) * 1) ((n : Int) - (i : Nat)) 1 ∧ Fr base env.locals h m' ∧ News base env.locals h ((c, o) :: news) ∧ o.data = .cell ov ∧ J i m' g ∧ i ≤ n ∧ k = n + 1 - i) ?_ (n + 1)
    ⟨_, s.gens, s.toks, m, o, ov, 0, rfl, by rw [← hIe]; simpa using Heap.get?_push_size _ rfl, F.push _, News.pushKeep N _, hd, h0, Nat.zero_le _, rfl⟩
  rintro k s' ⟨h, g, tk, m', o, ov, i, rfl, hit, F', N', hd', hJ, hi, rfl⟩
  have hI4' : ∀ p ∈ ((c, o) :: news), p.1 ≠ I := fun p hp => by
    rcases List.mem_cons.mp hp with rfl | hp
    · exact hI3
    · exact hI4 p (.tail _ hp)
  by_cases hlt : i < n
  · refine wpAny_pyNext_range_item hit (by omega) fun h₁ hit₁ hs₁ => ?_
    have F1 := fr_same F' hs₁ hI1 hI2
    have N1 := news_ext N' (fun b o n e => hs₁.extBut b o n e) hI4'
    refine wpAny_assign_Name (wpAny_storeName_cell hk hx hc ⟨o, (N1 _ (.head _)).1, hd'⟩ fun h₂ hv2 hs₂ => ?_)
    have F2 := fr_same F1 hs₂ (Ne.symm hcL) hcb
    obtain ⟨o2, ho2, hd2⟩ := hv2
    have N2 := fun io hio => (show News base env.locals h₂ ((I, io) :: (c, o2) :: news) from fun p hp' => by
      rcases List.mem_cons.mp hp' with rfl | hp'
      · exact ⟨hs₂.extBut _ _ (Ne.symm hI3) hio, Ne.symm hI1, hI2⟩
      · rcases List.mem_cons.mp hp' with rfl | hp'
        · exact ⟨ho2, hcL, hcb⟩
        · exact ⟨hs₂.extBut _ _ (hap p hp') (N1 p (.tail _ hp')).1, (N1 p (.tail _ hp')).2⟩)
    replace N2 := N2 _ hit₁
    rw [Int.mul_one] at hd2
    have e1 : a + ((i : Nat) : Int) * 1 + 1 = a + ((i + 1 : Nat) : Int) * 1 := by push_cast; omega
    have e2 : (n : Int) - (i : Int) - 1 = (n : Int) - ((i + 1 : Nat) : Int) := by push_cast; omega
    rw [e1, e2] at N2
    refine wpAny_mono (step _ i m' h₂ g _ _ I _ o2 hlt hJ F2 N2 hd2) (fun f s₃ h₃ => ?_) fun _ _ e => e
    cases f with
    | ret v => exact h₃
    | brk => exact h₃
    | cont =>
      obtain ⟨h3, g3, tk3, m3, rfl, F3, N3, J3⟩ := h₃
      exact ⟨n + 1 - (i + 1), by omega, h3, g3, tk3, m3, o2, _, i + 1, rfl, (N3 _ (.head _)).1, F3, news_tail N3, hd2, J3, hlt, rfl⟩
    | next =>
      obtain ⟨h3, g3, tk3, m3, rfl, F3, N3, J3⟩ := h₃
      exact ⟨n + 1 - (i + 1), by omega, h3, g3, tk3, m3, o2, _, i + 1, rfl, (N3 _ (.head _)).1, F3, news_tail N3, hd2, J3, hlt, rfl⟩
  · have : i = n := by omega
    subst this
    refine wpAny_pyNext_range_end hh hit (by omega) fun h₁ hs₁ => wpAny_execs_nil ?_
    exact done h₁ g tk m' o ov (fr_ext F' hs₁ hI1 hI2) (news_ext N' (fun b o n e => hs₁ b o n e) hI4') hd' hJ
end
end Aq

namespace Aq
open PySem.Calls
local macro_rules | `(tactic| walk_at "aq more") => `(tactic| skip)
local macro_rules | `(tactic| walk_at "aq one line more") => `(tactic| skip)
local macro_rules | `(tactic| walk_at "callWith ref") => `(tactic| refine callWith_f ?_)
local macro_rules | `(tactic| walk_at "exec For") => `(tactic| refine wpAny_For ?_)
local macro_rules | `(tactic| walk_at "eval Name") => `(tactic| first
  | refine ldLoc (by assumption) (by first | assumption | rfl) ?_
  | refine ldCN (by assumption) rfl (by repeat (first | exact .head _ | refine .tail _ ?_)) (by assumption) ?_
  | (refine nmFg (Wd.keeps (by assumption) (Fr.keep (by assumption))) (by assumption) ?_)
  | (refine nmBg (Wd.keeps (by assumption) (Fr.keep (by assumption))) bb_len ?_)
  | (refine nmBg (Wd.keeps (by assumption) (Fr.keep (by assumption))) bb_bytes ?_)
  | (refine nmBg (Wd.keeps (by assumption) (Fr.keep (by assumption))) bb_ord ?_)
  | (refine nmBg (Wd.keeps (by assumption) (Fr.keep (by assumption))) bb_range ?_)
  | refine ldVarK (by assumption) (by assumption) ?_
  | refine ldCellK rfl (by assumption) ?_
  | refine nmBg (by assumption) bb_len ?_)
section
variable {M : Model} {A : Around} {E : Value → Shared → Prop} {s : Shared} {scope : Scope} {cl : List (Str × Addr)} {C : Addr} {env : Env}
theorem ldCellK {x : Str} {pos : Pos} {c : Addr} {v : Value} {Q : Value → Shared → Prop} (hc : cl.lookup x = some c) (hv : s.heap.IsCell c (some v)) (h : Q v s)
    (hk : (compEnvC scope cl C env).scope.kind = .function := by rfl) (hl : (compEnvC scope cl C env).kindOf x = some .cell := by rfl) (hd : (x == ("__debug__" : Str)) = false := by decide) :
    wpAny M A (eval (.Name x pos) (compEnvC scope cl C env)) Q E s := wpAny_Name (wpAny_loadName_cell hk hl hc hv h) hd
end
theorem toZ_append (a b : List Nat) : toZ (a ++ b) = toZ a ++ toZ b := by simp [toZ]
theorem toZ_at {l : List Nat} {i : Nat} (h : i < l.length) : (toZ l).getD i 0 = ((l[i] : Nat) : Int) := by simp [toZ, List.getD_eq_getElem?_getD, h]
theorem toZ_length (l : List Nat) : (toZ l).length = l.length := by simp [toZ]
section
variable {prog : Program} {w : World} {A : Around} {s : Shared} {base : Heap} {L a : Addr} {cd : Value} {mg mb : Str → Option Value} {E : Value → Shared → Prop}
end
end Aq

namespace Aq
open PySem.Calls
theorem toZ_inj {a b : List Nat} : toZ a = toZ b ↔ a = b := by
  constructor
  · intro h
    have := congrArg (List.map Int.toNat) h
    simpa [toZ, List.map_map, Function.comp_def] using this
  · rintro rfl; rfl
section
variable {prog : Program} {w : World} {A : Around} {E : Value → Shared → Prop} {s : Shared} {L : Addr} {base : Heap} {m : Str → Option Value}
theorem len_B {r : Addr} {vs n xs} {Q : Value → Shared → Prop} (F : Fr base L s.heap m) (hb : base.get? r = some (lst vs n)) (hi : IntsAre vs (toZ xs)) (hz : xs.length ≤ 100000)
    (h : ∀ t t', Q (.int xs.length t') { s with toks := t }) : wpAny (model prog w) A (call (.builtin "len") [.ref r]) Q E s := by
  have e : ((vs.toArray.size : Nat) : Int) = xs.length := by rw [List.size_toArray, hi.length, toZ_length]
  refine call_len_list (items := vs.toArray) (lst_isList (F.keep _ _ hb)) (by rw [e]; omega) ?_
  rw [e]; exact h _ _
end
local macro_rules | `(tactic| walk_at "callWith ref") => `(tactic| refine callWith_f ?_)
local macro_rules | `(tactic| walk_at "exec For") => `(tactic| refine wpAny_For ?_)
local macro_rules | `(tactic| walk_at "eval Name") => `(tactic| first
  | refine ldLoc (by assumption) (by first | assumption | rfl) ?_
  | refine ldCN (by assumption) rfl (by repeat (first | exact .head _ | refine .tail _ ?_)) (by assumption) ?_
  | (refine nmBg (Wd.keeps (by assumption) (Fr.keep (by assumption))) bb_len ?_)
  | (refine nmBg (Wd.keeps (by assumption) (Fr.keep (by assumption))) bb_range ?_))
local macro_rules | `(tactic| walk_at "call builtin:len") => `(tactic| (refine len_B (by assumption) (by assumption) (by assumption) (by assumption) ?_; intro _ _; (try dsimp only)))
local macro_rules | `(tactic| walk_at "aq nothing") => `(tactic| skip)
local macro_rules | `(tactic| walk_at "aq nothing more") => `(tactic| skip)
def firstEnv (L a : Addr) (cd : Value) : Env := envOfC "_law_first" (defAt P1 4).2.2 L a cd
section
variable {w : World} {A : Around} {s : Shared} {base : Heap} {L a : Addr} {cd : Value} {mg mb : Str → Option Value} {m : Str → Option Value} {Q : Flow → Shared → Prop} {E : Value → Shared → Prop} {row nd : Addr} {vs ws : List Value} {n k : Nat} {xs ns : List Nat} {st : Nat} {t1 : Tok} {o1 o2 : Obj}
theorem first_body (W : Wd base mg mb) (hh : A.handled = none) (hu : A.units + 64 < cLine) (hne : ns ≠ []) (F : Fr base L s.heap m) (hm1 : m "needle" = some (.ref nd)) (hm2 : m "start" = some (.int (st : Int) t1))
    (N : News base L s.heap [(L + 2, o2), (L + 1, o1)]) (h1 : o1.data = .cell (some (.ref row))) (h2 : o2.data = .cell none)
    (hrow : base.get? row = some (lst vs n)) (hi : IntsAre vs (toZ xs)) (hnd : base.get? nd = some (lst ws k)) (hj : IntsAre ws (toZ ns)) (hzx : xs.length ≤ 100000) (hzn : ns.length ≤ 100000) (hst : st ≤ 100000)
    (h : ∀ h' tk tv, (∀ b o, base.get? b = some o → h'.get? b = some o) → Q (.ret (.int (findI xs ns st) tv)) ⟨h', s.gens, s.drawn, tk, s.os⟩) :
    wpAny (model P1 w) A (execs (defAt P1 4).2.1 (firstEnv L a cd)) Q E s := by
  have hnl : 0 < ns.length := List.length_pos_iff.mpr hne
  unfold firstEnv
  show wpAny _ _ (execs (_ :: _ :: []) _) _ _ _
  refine wpAny_execs_cons ?_
  repeat walk1
  rename_i F2 N2 k2
  refine forRangeC (c := L + 2) (n := ((xs.length : Int) - (ns.length : Int) + 1 - (st : Int)).toNat) hh rfl rfl rfl F2 N2 h2 (by simp) (by assumption) (small_one (by omega) (by omega) (by omega) (by omega)) (by rw [rangeSize_one]; split <;> omega)
    (fun i m' g => m' = m ∧ g = s.gens ∧ ∀ q, st ≤ q → q < st + i → ¬ hit xs ns q) ⟨rfl, rfl, fun q a b => by omega⟩ ?_ ?_
  · rintro E' i m' h3 g tk tv it io o' hin ⟨rfl, rfl, hno⟩ F3 N3 hd3
    clear k2 F2 N2
    have hil : st + i + ns.length ≤ xs.length := by omega
    refine wpAny_execs_cons ?_
    repeat walk1
    refine compRule (by with_unfolding_all rfl) (by decide) rfl (by decide) rfl ?_
    repeat walk1
    rename_i hr4 F4 N4 k4
    refine pyIter_rangeC (n := ns.length) hh hr4 (small_one (by omega) (by omega) (by omega) (by omega)) (by rw [rangeSize_one]; split <;> omega) hzn
      (fun i' ys g => g = s.gens ∧ IntsAre ys (toZ ((xs.drop (st + i)).take i'))) ⟨rfl, .nil⟩ ?_ ?_
    · rintro E'' j tj h5 g tk5 ys C m5 hC hj' ⟨rfl, hys⟩ hn5 hm5 hk5
      have hc1 : h5.IsCell (L + 1) (some (.ref row)) := ⟨o1, hk5 _ _ (N4 (L + 1, o1) (by simp)).1, h1⟩
      have hc2 : h5.IsCell (L + 1 + 1) (some (.int ((st : Int) + (i : Int)) tv)) := ⟨o', hk5 _ _ (N4 (L + 2, o') (by simp)).1, hd3⟩
      have hr5 : h5.get? row = some (lst vs n) := hk5 _ _ (F4.keep _ _ hrow)
      refine wpAny_tests_nil ?_
      rw [if_pos rfl]
      walk1
      refine ldCellK (c := L + 1) rfl hc1 ?_
      iterate 2 walk1
      refine ldVarK hn5 hm5 ?_
      walk1
      have ei : (st : Int) + (i : Int) + (0 + (j : Int)) = ((st + i + j : Nat) : Int) := by omega
      rw [ei]
      refine item_list_ints (lst_isList hr5) hi (by omega) (by rw [toZ_length]; omega) (by omega) ?_
      intro t9
      refine ⟨_, _, _, rfl, Kp.refl, rfl, ?_⟩
      have hlt : st + i + j < xs.length := by omega
      have e1 : (xs.drop (st + i)).take (j + 1) = (xs.drop (st + i)).take j ++ [xs[st + i + j]] := by
        rw [List.take_add_one, List.getElem?_drop, List.getElem?_eq_getElem hlt]; rfl
      rw [e1, toZ_append]
      refine hys.append ?_
      have e2 : (toZ xs).getD ((st + i + j : Nat) : Int).toNat 0 = ((xs[st + i + j] : Nat) : Int) := by rw [Int.toNat_natCast, toZ_at hlt]
      rw [e2]
      exact .cons _ _ .nil
    · rintro D h5 tk5 g ys kk hDn hD hk5 ⟨rfl, hys⟩
      have F5 : Fr base (envOfC "_law_first" (defAt P1 4).2.2 L a cd).locals h5 m' := kpF F4 fun b o _ e => hk5 b o e
      have N5 := kpN N4 fun b o _ e => hk5 b o e
      clear F4 N4
      repeat walk1
      refine ke_eq_ints (ns := toZ ((xs.drop (st + i)).take ns.length)) (ms := toZ ns) (lst_isList hD) (lst_isList (F5.keep _ _ hnd)) hys hj hu ?_
      by_cases hit2 : hit xs ns (st + i)
      · rw [decide_eq_true (toZ_inj.mpr (hit_iff.mp hit2))]
        have hf : findI xs ns st = ((st + i : Nat) : Int) := by
          unfold findI
          rw [find_is hne (Nat.le_add_right _ _) hit2 hno]
        have fin : ∀ tk tv, Q (.ret (.int ((st : Int) + (i : Int)) tv)) ⟨h5, s.gens, s.drawn, tk, s.os⟩ := fun tk tv => by
          have := h h5 tk tv F5.keep
          rw [hf, Int.natCast_add] at this
          exact this
        repeat walk1
        exact fin _ _
      · rw [decide_eq_false (fun e => hit2 (hit_iff.mpr (toZ_inj.mp e)))]
        repeat walk1
        refine stepNext F5 N5 ⟨rfl, rfl, fun q h1 h2 => ?_⟩
        by_cases hq : q < st + i
        · exact hno q h1 hq
        · obtain rfl : q = st + i := by omega
          exact hit2
  · rintro h3 g tk m' o3 ov F3 N3 hd3 ⟨rfl, rfl, hno⟩
    clear k2 F2 N2
    repeat walk1
    have hf : findI xs ns st = -1 := by
      unfold findI
      rw [find_no]
      intro q hq e
      have := hit_len hne e
      by_cases hq2 : q < st + ((xs.length : Int) - (ns.length : Int) + 1 - (st : Int)).toNat
      · exact hno q hq hq2 e
      · omega
    have fin : ∀ tk tv, Q (.ret (.int (-1) tv)) ⟨h3, s.gens, s.drawn, tk, s.os⟩ := fun tk tv => hf ▸ h h3 tk tv F3.keep
    exact fin _ _
end
end Aq

namespace Aq
open PySem.Calls
section
variable {w : World} {A : Around} {s : Shared} {mg mb : Str → Option Value} {row nd fp : Addr} {vs ws : List Value} {xs ns : List Nat} {n k : Nat} {st : Nat} {t1 : Tok} {Q : Value → Shared → Prop} {E : Value → Shared → Prop}
theorem bind_first {pm code doc : Value} (x y z : Value) : bindArgs (docDef "_law_first" (defAt P1 4).1 (defAt P1 4).2.1 (defAt P1 4).2.2 pm code doc) ⟨[x, y, z], []⟩ = (pure [(("row" : Str), x), (("needle" : Str), y), ("start", z)] : Sem (List (Str × Value))) := by
  with_unfolding_all rfl
theorem first_call (W : Wd s.heap mg mb) (hp : FnAt s.heap mg "_law_first" (defAt P1 4) fp) (hroom : A.depth < recursionLimit) (hh : A.handled = none) (hu : A.units + 67 < cLine) (hne : ns ≠ [])
    (hrow : s.heap.get? row = some (lst vs n)) (hi : IntsAre vs (toZ xs)) (hnd : s.heap.get? nd = some (lst ws k)) (hj : IntsAre ws (toZ ns)) (hzx : xs.length ≤ 100000) (hzn : ns.length ≤ 100000) (hst : st ≤ 100000)
    (h : ∀ h' tk tv, Kp [] s.heap h' → Q (.int (findI xs ns st) tv) ⟨h', s.gens, s.drawn, tk, s.os⟩) :
    wpAny (model P1 w) A (call (.ref fp) [.ref row, .ref nd, .int (st : Int) t1]) Q E s := by
  obtain ⟨o, pm, code, doc, ho, hd, hcd⟩ := hp.o
  refine wpAny_call (call_cellsN_ret hroom ho hd W.lim hcd (bind_first _ _ _) ?_ (by decide) (fun h₁ tk cells F N X => ?_))
  · intro x hx
    simp only [List.mem_cons, List.not_mem_nil, or_false] at hx
    rcases hx with rfl | rfl | rfl
    · exact .inr ⟨by rfl, by rfl⟩
    · exact .inl (by rfl)
    · exact .inl (by rfl)
  · obtain ⟨o2, o1, rfl, h2, h1⟩ := CellsAre.two X
    exact first_body (s := ⟨h₁, s.gens, s.drawn, tk, s.os⟩) W hh (by show A.units + 3 + 64 < _; omega) hne F rfl rfl N h1 h2 hrow hi hnd hj hzx hzn hst fun h' tk' tv k => h h' tk' tv fun b o _ e => k b o e
end
end Aq

namespace Aq
open PySem.Calls
local macro_rules | `(tactic| walk_at "aq more") => `(tactic| skip)
local macro_rules | `(tactic| walk_at "callWith ref") => `(tactic| refine callWith_f ?_)
local macro_rules | `(tactic| walk_at "exec While") => `(tactic| refine wpAny_While ?_)
local macro_rules | `(tactic| walk_at "eval Name") => `(tactic| first
  | refine ld (by assumption) (by first | assumption | rfl) ?_
  | refine nmF (by assumption) (by assumption) (by assumption) ?_
  | refine nmB (by assumption) (by assumption) bb_len ?_)
local macro_rules | `(tactic| walk_at "ite") => `(tactic| first
  | refine iteT (by first | assumption | (simp only [decide_eq_true_eq, beq_iff_eq, gt_iff_lt, ge_iff_le]; omega)) ?_
  | refine iteF (by first | assumption | (simp only [decide_eq_true_eq, beq_iff_eq, gt_iff_lt, ge_iff_le]; omega)) ?_)
local macro_rules | `(tactic| walk_at "call builtin:len") => `(tactic| (first
  | (refine len_B (by assumption) (by assumption) (by assumption) (by omega) ?_)
  | (refine len_N (by assumption) (by first | exact .head _ | exact .tail _ (.head _)) (by assumption) (by simp only [toZ_length]; omega) ?_; (try simp only [toZ_length])); intro _ _; (try dsimp only)))
theorem len_BI {prog : Program} {w : World} {A : Around} {E : Value → Shared → Prop} {s : Shared} {L : Addr} {base : Heap} {m : Str → Option Value} {r : Addr} {vs n} {xs : List Int} {Q : Value → Shared → Prop} (F : Fr base L s.heap m) (hb : base.get? r = some (lst vs n)) (hi : IntsAre vs xs) (hz : xs.length ≤ 100000)
    (h : ∀ t t', Q (.int xs.length t') { s with toks := t }) : wpAny (model prog w) A (call (.builtin "len") [.ref r]) Q E s := by
  have e : ((vs.toArray.size : Nat) : Int) = xs.length := by rw [List.size_toArray, hi.length]
  refine call_len_list (items := vs.toArray) (lst_isList (F.keep _ _ hb)) (by rw [e]; omega) ?_
  rw [e]; exact h _ _
local macro_rules | `(tactic| walk_at "call builtin:len") => `(tactic| (refine len_BI (by assumption) (by assumption) (by assumption) (by omega) ?_; intro _ _; (try dsimp only)))
def dueLoop : List Stmt := match (defAt P1 5).2.1.getD 2 default with
  | .While _ b _ _ => b
  | _ => []
section
variable {w : World} {A : Around} {s : Shared} {base : Heap} {L a : Addr} {cd : Value} {mg mb : Str → Option Value} {Q : Flow → Shared → Prop} {E : Value → Shared → Prop} {row nd nm f3 f4 D : Addr} {vs ws us fvs : List Value} {n k j nf : Nat} {fs xs ns : List Nat} {nums : List Int} {st : Nat} {t1 : Tok} {m : Str → Option Value} {R : List Nat × List Nat}
theorem due_turn (W : Wd base mg mb) (hF3 : FnAt base mg "_law_change" (defAt P1 3) f3) (hF4 : FnAt base mg "_law_first" (defAt P1 4) f4) (hh : A.handled = none) (hroom : A.depth + 1 < recursionLimit) (hu : A.units + 67 < cLine)
    (F : Fr base L s.heap m) (hm1 : m "row" = some (.ref row)) (hm2 : m "needle" = some (.ref nd)) (hm3 : m "numbers" = some (.ref nm)) (hm4 : m "found" = some (.ref D)) (hm5 : m "start" = some (.int (st : Int) t1))
    (N : News base L s.heap [(D, lst fvs nf), (row, lst vs n)]) (hDr : D ≠ row) (hf : IntsAre fvs (toZ fs)) (hi : IntsAre vs (toZ xs)) (hnd : base.get? nd = some (lst ws k)) (hj : IntsAre ws (toZ ns)) (hn : AB ns) (hne : ns ≠ []) (hnl : ns.length ≤ 3)
    (hnm : base.get? nm = some (lst us j)) (hus : IntsAre us nums) (hnz : nums.length ≤ 100) (hR : Reads ns nums R fs xs st) (hlt : fs.length < 60)
    (hstop : ∀ h' tk m', find xs ns st = none → Fr base L h' m' → News base L h' [(D, lst fvs nf), (row, lst vs n)] → Q (.ret (.ref D)) ⟨h', s.gens, s.drawn, tk, s.os⟩)
    (hnext : ∀ h' tk m' p xs' vs' n' fvs' nf' t', Fr base L h' m' → m' "row" = some (.ref row) → m' "needle" = some (.ref nd) → m' "numbers" = some (.ref nm) → m' "found" = some (.ref D) → m' "start" = some (.int ((p + ns.length : Nat) : Int) t') →
      News base L h' [(D, lst fvs' nf'), (row, lst vs' n')] → IntsAre fvs' (toZ (fs ++ [p])) → IntsAre vs' (toZ xs') → Reads ns nums R (fs ++ [p]) xs' (p + ns.length) → Q .next ⟨h', s.gens, s.drawn, tk, s.os⟩) :
    wpAny (model P1 w) A (execs dueLoop (envOf "_law_due" (defAt P1 5).2.2 L a cd)) Q E s := by
  obtain ⟨r0, r1, r2, r3, r4, r5⟩ := id hR
  unfold dueLoop
  show wpAny _ _ (execs (_ :: _ :: _ :: _ :: _ :: []) _) _ _ _
  refine wpAny_execs_cons ?_
  repeat walk1
  refine fnThen hF4 F.keep ?_
  have hrow := N (row, lst vs n) (by simp)
  refine first_call (W.keeps F.keep) (hF4.keeps F.keep) (by omega) hh hu hne hrow.1 hi (F.keep _ _ hnd) hj (by omega) (by omega) (by omega) fun h1 tk1 tv1 k1 => ?_
  have F1 := kpF F k1
  have N1 := kpN N k1
  clear F N
  cases hfd : find xs ns st with
  | none =>
    have hv : findI xs ns st = -1 := by simp [findI, hfd]
    rw [hv]
    repeat walk1
    exact hstop _ _ _ hfd (by assumption) (by assumption)
  | some p =>
    have hv : findI xs ns st = (p : Int) := by simp [findI, hfd]
    rw [hv]
    obtain ⟨q1, q2, q3, q4, q5⟩ := find_some hfd
    have hnx := Reads.next hn hnl hR hfd hlt
    have eb : (p : Int) + (ns.length : Int) = ((p + ns.length : Nat) : Int) := by omega
    have fin : ∀ h3 tk3 tt vs3 n3 xs', Fr base L h3 (fun y => if y = "start" then some (Value.int ((p : Int) + (ns.length : Int)) tt) else if y = "at" then some (Value.int (p : Int) tv1) else m y) → News base L h3 [(D, lst fvs nf), (row, lst vs3 n3)] → IntsAre vs3 (toZ xs') → Reads ns nums R (fs ++ [p]) xs' (p + ns.length) →
        wpAny (model P1 w) A (call (.builtin "list.append") [.ref D, .int (p : Int) tv1]) (fun v s' => match v with | .ref _ => False | _ => wpAny (model P1 w) A (execs [] (envOf "_law_due" (defAt P1 5).2.2 L a cd)) Q E s') E ⟨h3, s.gens, s.drawn, tk3, s.os⟩ := by
      intro h3 tk3 tt vs3 n3 xs' F3 N3 hi3 hR3
      have hDp := N3 (D, lst fvs nf) (.head _)
      have hrp := N3 (row, lst vs3 n3) (.tail _ (.head _))
      refine append_lst hDp.1 (by rw [hf.length, toZ_length]; omega) fun h4 hs4 ho4 => ?_
      dsimp only
      refine wpAny_execs_nil ?_
      have F4 := F3.change hs4 hDp.2.1 hDp.2.2
      have N4 : News base L h4 [(D, lst (fvs ++ [.int (p : Int) tv1]) (nf + 1)), (row, lst vs3 n3)] := news_put (news_one (hs4.extBut _ _ (Ne.symm hDr) hrp.1) hrp.2.1 hrp.2.2) ho4 hDp.2.1 hDp.2.2
      refine hnext h4 tk3 _ p xs' vs3 n3 _ _ tt F4 hm1 hm2 hm3 hm4 (by rw [← eb]; rfl) N4 ?_ hi3 hR3
      rw [toZ_append]
      exact hf.append (.cons _ _ .nil)
    by_cases hlen : fs.length < nums.length
    · rw [if_pos hlen] at hnx
      repeat walk1
      rename_i F2 N2 _ _ _ _ _ _
      refine item_list_ints (lst_isList (F2.keep _ _ hnm)) hus (by omega) (by omega) (by omega) fun t9 => ?_
      rw [Int.toNat_natCast, eb]
      walk1
      refine fnThen hF3 F2.keep ?_
      have hDp := N2 (D, lst fvs nf) (.head _)
      have hrp := N2 (row, lst vs n) (.tail _ (.head _))
      have hndr : nd ≠ row := by rintro rfl; rw [hrp.2.2] at hnd; cases hnd
      refine change_call_list W hrp.2.2 F2.keep (hF3.keeps F2.keep) (by omega) hrp.1 hi r0 (by omega) (F2.keep _ _ hnd) hndr hj (by omega) fun h3 tk3 n3 vs3 k3 ho3 hi3 => ?_
      have F3 := kp_fr (D := [row]) F2 k3 (by simpa using Ne.symm hrp.2.1) (by simpa using hrp.2.2)
      have N3 : News base L h3 [(D, lst fvs nf), (row, lst vs3 n3)] := news_put (news_one ho3 hrp.2.1 hrp.2.2) (k3 _ _ (by simpa using hDr) hDp.1) hDp.2.1 hDp.2.2
      clear F2 N2 F1 N1
      dsimp only
      repeat walk1
      refine fin _ _ _ _ _ _ F3 N3 hi3 hnx
    · rw [if_neg hlen] at hnx
      repeat walk1
      refine fin _ _ _ _ _ _ (by assumption) (by assumption) hi hnx
end
end Aq

namespace Aq
open PySem.Calls
local macro_rules | `(tactic| walk_at "callWith ref") => `(tactic| refine callWith_f ?_)
local macro_rules | `(tactic| walk_at "exec While") => `(tactic| refine wpAny_While ?_)
local macro_rules | `(tactic| walk_at "eval Name") => `(tactic| first
  | refine ld (by assumption) (by first | assumption | rfl) ?_
  | refine nmF (by assumption) (by assumption) (by assumption) ?_
  | refine nmB (by assumption) (by assumption) bb_len ?_)
local macro_rules | `(tactic| walk_at "ite") => `(tactic| first
  | refine iteT (by first | assumption | (simp only [decide_eq_true_eq, beq_iff_eq, gt_iff_lt, ge_iff_le]; omega)) ?_
  | refine iteF (by first | assumption | (simp only [decide_eq_true_eq, beq_iff_eq, gt_iff_lt, ge_iff_le]; omega)) ?_)
local macro_rules | `(tactic| walk_at "call builtin:len") => `(tactic| (
  (refine len_N (by assumption) (by first | exact .head _ | exact .tail _ (.head _)) (by assumption) (by simp only [toZ_length]; omega) ?_; (try simp only [toZ_length])); intro _ _; (try dsimp only)))
/-- where a turn of the loop begins -/
def DueAt (base : Heap) (L : Addr) (s : Shared) (row nd nm D : Addr) (R : List Nat × List Nat) (ns : List Nat) (nums : List Int) (c : Nat) (s' : Shared) : Prop :=
  ∃ h1 tk m fs xs' st t1 fvs vs' nf nr, s' = ⟨h1, s.gens, s.drawn, tk, s.os⟩ ∧ c = 61 - fs.length ∧ Fr base L h1 m ∧ m "row" = some (.ref row) ∧ m "needle" = some (.ref nd) ∧ m "numbers" = some (.ref nm) ∧ m "found" = some (.ref D) ∧ m "start" = some (.int ((st : Nat) : Int) t1) ∧
      News base L h1 [(D, lst fvs nf), (row, lst vs' nr)] ∧ IntsAre fvs (toZ fs) ∧ IntsAre vs' (toZ xs') ∧ Reads ns nums R fs xs' st
def DuePost (base : Heap) (L : Addr) (s : Shared) (row nd nm D : Addr) (R : List Nat × List Nat) (ns : List Nat) (nums : List Int) (Q : Flow → Shared → Prop) (c : Nat) (f : Flow) (s' : Shared) : Prop := match f with
  | .next | .cont => ∃ m, m < c ∧ DueAt base L s row nd nm D R ns nums m s'
  | .brk => False
  | .ret v => Q (.ret v) s'
section
variable {w : World} {A : Around} {s : Shared} {base : Heap} {L a : Addr} {cd : Value} {mg mb : Str → Option Value} {Q : Flow → Shared → Prop} {E : Value → Shared → Prop} {row nd nm f3 f4 : Addr} {vs ws us : List Value} {n k j : Nat} {xs ns : List Nat} {nums : List Int}
theorem due_body (W : Wd base mg mb) (hF3 : FnAt base mg "_law_change" (defAt P1 3) f3) (hF4 : FnAt base mg "_law_first" (defAt P1 4) f4) (hh : A.handled = none) (hroom : A.depth + 1 < recursionLimit) (hu : A.units + 67 < cLine)
    (F : Fr base L s.heap (fun y => List.lookup y [(("numbers" : Str), Value.ref nm), ("needle", .ref nd), ("row", .ref row)]))
    (N : News base L s.heap [(row, lst vs n)]) (hi : IntsAre vs (toZ xs)) (hx : AB xs) (hz : xs.length ≤ 200) (hnd : base.get? nd = some (lst ws k)) (hj : IntsAre ws (toZ ns)) (hn : AB ns) (hne : ns ≠ []) (hnl : ns.length ≤ 3)
    (hnm : base.get? nm = some (lst us j)) (hus : IntsAre us nums) (hnz : nums.length ≤ 100)
    (h : ∀ h' tk D fvs n' vs' n'', (∀ b o, base.get? b = some o → h'.get? b = some o) → h'.get? D = some (lst fvs n') → base.get? D = none → D ≠ row → IntsAre fvs (toZ (run ns nums 60 xs 0 0).1) → h'.get? row = some (lst vs' n'') → IntsAre vs' (toZ (run ns nums 60 xs 0 0).2) →
      Q (.ret (.ref D)) ⟨h', s.gens, s.drawn, tk, s.os⟩) :
    wpAny (model P1 w) A (execs (defAt P1 5).2.1 (envOf "_law_due" (defAt P1 5).2.2 L a cd)) Q E s := by
  have hrowlt : row < s.heap.objs.size := Heap.lt_size (N _ (.head _)).1
  show wpAny _ _ (execs (_ :: _ :: _ :: _ :: []) _) _ _ _
  refine wpAny_execs_cons ?_
  repeat walk1
  rename_i F2 N2
  have hDrow : s.heap.objs.size ≠ row := Nat.ne_of_gt hrowlt
  generalize s.heap.objs.size = D at *
  refine codeAny_whileLoop (DueAt base L s row nd nm D (run ns nums 60 xs 0 0) ns nums) ?_ 61 ⟨_, _, _, [], xs, 0, _, [], vs, 0, n, rfl, rfl, F2, rfl, rfl, rfl, rfl, rfl, N2, .nil, hi, Reads.start hx hz⟩
  rintro c s' ⟨h1, tk, m, fs, xs', st, t1, fvs, vs', nf, nr, rfl, rfl, F1, hm1, hm2, hm3, hm4, hm5, N1, hf, hi1, hR⟩
  clear F2 N2 F N
  have hfl := hR.2.1
  have fin : fs = (run ns nums 60 xs 0 0).1 ∧ xs' = (run ns nums 60 xs 0 0).2 → ∀ h2 tk2 m2, Fr base L h2 m2 → News base L h2 [(D, lst fvs nf), (row, lst vs' nr)] → Q (.ret (.ref D)) ⟨h2, s.gens, s.drawn, tk2, s.os⟩ := by
    rintro ⟨e1, e2⟩ h2 tk2 m2 F2 N2
    have hDp := N2 (D, lst fvs nf) (.head _)
    exact h h2 tk2 D fvs nf vs' nr F2.keep hDp.1 hDp.2.2 hDrow (e1 ▸ hf) (N2 (row, lst vs' nr) (.tail _ (.head _))).1 (e2 ▸ hi1)
  by_cases hlt : fs.length < 60
  · iterate 12 walk1
    refine wpAny_mono (due_turn (s := ⟨h1, s.gens, s.drawn, _, s.os⟩) (Q := DuePost base L s row nd nm D (run ns nums 60 xs 0 0) ns nums Q (61 - fs.length)) W hF3 hF4 hh hroom hu F1 hm1 hm2 hm3 hm4 hm5 N1 hDrow hf hi1 hnd hj hn hne hnl hnm hus hnz hR hlt (fun h2 tk2 m2 hfd F2 N2 => fin (hR.finish (.inl hfd)) h2 tk2 m2 F2 N2) ?_) ?_ fun _ _ e => e
    · intro h2 tk2 m2 p xs2 vs2 n2 fvs2 nf2 t2 F2 a1 a2 a3 a4 a5 N2 hf2 hi2 hR2
      exact ⟨61 - (fs ++ [p]).length, by simp; omega, h2, tk2, m2, fs ++ [p], xs2, p + ns.length, t2, fvs2, vs2, nf2, n2, rfl, rfl, F2, a1, a2, a3, a4, a5, N2, hf2, hi2, hR2⟩
    · intro f s₃ hq
      cases f with
      | next => exact hq
      | cont => exact hq
      | brk => exact hq.elim
      | ret v => exact hq
  · have h60 : fs.length = 60 := by omega
    have fin2 := fin (hR.finish (.inr h60))
    repeat walk1
    exact fin2 _ _ _ F1 N1
theorem bind_due {pm code doc : Value} (x y z : Value) : bindArgs (docDef "_law_due" (defAt P1 5).1 (defAt P1 5).2.1 (defAt P1 5).2.2 pm code doc) ⟨[x, y, z], []⟩ = (pure [(("row" : Str), x), (("needle" : Str), y), ("numbers", z)] : Sem (List (Str × Value))) := by
  with_unfolding_all rfl
theorem due_nocell : ∀ x ∈ (defAt P1 5).2.2.names, x.2 ≠ .cell := by decide
theorem due_call {B : Heap} {f5 : Addr} {Q : Value → Shared → Prop} (W : Wd B mg mb) (hB : B.get? row = none) (kB : ∀ b o, B.get? b = some o → s.heap.get? b = some o) (hF3 : FnAt B mg "_law_change" (defAt P1 3) f3) (hF4 : FnAt B mg "_law_first" (defAt P1 4) f4) (hp : FnAt s.heap mg "_law_due" (defAt P1 5) f5)
    (hroom : A.depth + 2 < recursionLimit) (hh : A.handled = none) (hu : A.units + 70 < cLine)
    (hrow : s.heap.get? row = some (lst vs n)) (hi : IntsAre vs (toZ xs)) (hx : AB xs) (hz : xs.length ≤ 200) (hnd : s.heap.get? nd = some (lst ws k)) (hndr : nd ≠ row) (hj : IntsAre ws (toZ ns)) (hn : AB ns) (hne : ns ≠ []) (hnl : ns.length ≤ 3)
    (hnm : s.heap.get? nm = some (lst us j)) (hnmr : nm ≠ row) (hus : IntsAre us nums) (hnz : nums.length ≤ 100)
    (h : ∀ h' tk D fvs n' vs' n'', Kp [row] s.heap h' → h'.get? D = some (lst fvs n') → s.heap.get? D = none → IntsAre fvs (toZ (run ns nums 60 xs 0 0).1) → h'.get? row = some (lst vs' n'') → IntsAre vs' (toZ (run ns nums 60 xs 0 0).2) →
      Q (.ref D) ⟨h', s.gens, s.drawn, tk, s.os⟩) : wpAny (model P1 w) A (call (.ref f5) [.ref row, .ref nd, .ref nm]) Q E s := by
  obtain ⟨o, pm, code, doc, ho, hd, hcd⟩ := hp.o
  have kW := keep_without (r := row) hB kB
  refine wpAny_call (call_plain_ret (by omega) ho hd (W.lim.keeps kB) hcd (bind_due _ _ _) (locs (by rfl)) (fun h₁ F => ?_) rfl rfl rfl due_nocell)
  refine due_body (xs := xs) (W.keeps kW) (hF3.keeps kW) (hF4.keeps kW) hh (by show A.depth + 1 + 1 < _; omega) (by show A.units + 3 + 67 < _; omega) (fr_without F) (news_one (F.keep _ _ hrow) (Nat.ne_of_lt (Heap.lt_size hrow)) (without_none _ _)) hi hx hz (get_without.mpr ⟨hndr, hnd⟩) hj hn hne hnl (get_without.mpr ⟨hnmr, hnm⟩) hus hnz
    fun h' tk D fvs n' vs' n'' k hD hDn hDr hf hr hi' => ?_
  refine h h' tk D fvs n' vs' n'' (kp_without k) hD ?_ hf hr hi'
  cases e : s.heap.get? D with
  | none => rfl
  | some o => rw [get_without.mpr ⟨hDr, e⟩] at hDn; cases hDn
end
end Aq

namespace Aq
open PySem.Calls
theorem slot_bai_self : Slot "bytearray_iterator" "__iter__" "bytearray_iterator.__iter__" :=
  .of (owner := "bytearray_iterator") (n := "__iter__") (by rw [typeLookup_type, builtinLookup_eq_fast]; kernel_rfl) (by decide +kernel) (by decide +kernel) (by decide +kernel)
    (by first | exact .inl (by decide +kernel) | exact .inr (by decide +kernel)) (by rw [isSubtype_type]; kernel_rfl)
theorem entry_bai_self : entryFor table "bytearray_iterator.__iter__" = some Builtin.«dict_keyiterator.__iter__» := entryFor_alias (id' := "dict_keyiterator.__iter__") (by rw [fastTable_eq_tree]; kernel_rfl) (by decide +kernel) (by decide +kernel) (by rw [fastTable_eq_tree]; kernel_rfl)
theorem args_bai_self (a : Value) : argsOk "bytearray_iterator.__iter__" ⟨[a], []⟩ := by unfold argsOk; kernel_rfl
def IsBarIter (h : Heap) (a r : Addr) (i : Nat) : Prop := ∃ o, h.get? a = some o ∧ o.cls = .type "bytearray_iterator" ∧ o.data = .fields #[.ref r, .int i 0]
theorem bai_typeIs {s : Shared} {a r : Addr} {i : Nat} (y : IsBarIter s.heap a r i) : s.TypeIs (.ref a) "bytearray_iterator" := let ⟨o, ho, hc, _⟩ := y; ⟨o, ho, hc⟩
section
variable {prog : Program} {w : World} {A : Around} {E : Value → Shared → Prop} {s : Shared} {r : Addr} {b : Array UInt8}
theorem pyIter_bar {Q : Value → Shared → Prop} (hr : s.heap.get? r = some (bar b)) (hQ : Q (.ref s.heap.objs.size) { s with heap := s.heap.push { cls := .type "bytearray_iterator", data := .fields #[.ref r, .int 0 0] } }) : wpAny (model prog w) A (pyIter (.ref r)) Q E s := by
  have hT : s.TypeIs (.ref r) "bytearray" := ⟨_, hr, rfl⟩
  refine wpAny_pyIter_slot hT B.slot_bytearray_iter (wpAny_call_entry B.slot_bytearray_iter hT B.entry_bytearray_iter ?_ (B.args_bytearray_iter _))
  show wpAny _ _ (do ret (← newFields "bytearray_iterator" [.ref r, rawInt 0])) _ _ s
  exact wpAny_bind (wpAny_newObj_type (wpAny_pure ⟨_, rfl, "bytearray_iterator", _, ⟨_, Heap.get?_push_size _ rfl, rfl⟩, B.slot_bytearray_iterator_next.lookup, hQ⟩))
theorem pyIter_bai {it : Addr} {i : Nat} {Q : Value → Shared → Prop} (hit : IsBarIter s.heap it r i) (h : Q (.ref it) s) : wpAny (model prog w) A (pyIter (.ref it)) Q E s := by
  refine wpAny_pyIter_slot (bai_typeIs hit) slot_bai_self (wpAny_call_entry slot_bai_self (bai_typeIs hit) entry_bai_self ?_ (args_bai_self _))
  show wpAny _ _ (ret (.ref it)) _ _ s
  exact wpAny_pure ⟨_, rfl, "bytearray_iterator", _, bai_typeIs hit, B.slot_bytearray_iterator_next.lookup, h⟩
theorem bai_item {it : Addr} {i : Nat} {c : UInt8} {Q : Option Value → Shared → Prop} (hit : IsBarIter s.heap it r i) (hr : s.heap.get? r = some (bar b)) (hx : b[i]? = some c)
    (hQ : ∀ h', IsBarIter h' it r (i + 1) → Heap.SameBut it s.heap h' → Q (some (.int (c.toNat : Int) s.toks)) { s with heap := h', toks := s.toks + 1 }) : wpAny (model prog w) A (pyNext (.ref it)) Q E s := by
  obtain ⟨o, ho, hc, hd⟩ := id hit
  unfold pyNext
  refine wpAny_bind (wpAny_attempt (wpAny_callSpecial?_slot (name := PySem.Str.ofString "__next__") (bai_typeIs hit) B.slot_bytearray_iterator_next
    (wpAny_call_entry B.slot_bytearray_iterator_next (bai_typeIs hit) B.entry_bytearray_iterator_next ?_ (B.args_bytearray_iterator_next _))))
  show wpAny _ _ (field (.ref it) 0 >>= _) _ _ s
  refine wpAny_bind (wpAny_field ho hd (x := .ref r) rfl ?_)
  show wpAny _ _ (load r >>= _) _ _ s
  refine wpAny_bind (wpAny_load hr ?_)
  show wpAny _ _ (field (.ref it) 1 >>= _) _ _ s
  refine wpAny_bind (wpAny_field ho hd (x := .int i 0) rfl ?_)
  simp only [Int.toNat_natCast, hx]
  refine wpAny_bind (wpAny_setField ho hd (by simp) (wpAny_bind (wpAny_mkInt (wpAny_pure ⟨_, rfl, wpAny_pure (hQ _ ?_ (Heap.SameBut.update ..))⟩))))
  exact ⟨_, Heap.get?_update_self _ ho (Obj.isFreed_of_fields (Obj.data_mapFields hd _)), (Obj.cls_mapFields ..).trans hc, by
    rw [Obj.data_mapFields hd]; simp [rawInt]⟩
theorem bai_end {it : Addr} {i : Nat} {Q : Option Value → Shared → Prop} (hh : A.handled = none) (hit : IsBarIter s.heap it r i) (hr : s.heap.get? r = some (bar b)) (hx : b[i]? = none)
    (hQ : ∀ h', Heap.ExtBut it s.heap h' → Q none { s with heap := h' }) : wpAny (model prog w) A (pyNext (.ref it)) Q E s := by
  obtain ⟨o, ho, hc, hd⟩ := id hit
  unfold pyNext
  refine wpAny_bind (wpAny_attempt (wpAny_callSpecial?_slot (name := PySem.Str.ofString "__next__") (bai_typeIs hit) B.slot_bytearray_iterator_next
    (wpAny_call_entry B.slot_bytearray_iterator_next (bai_typeIs hit) B.entry_bytearray_iterator_next ?_ (B.args_bytearray_iterator_next _))))
  show wpAny _ _ (field (.ref it) 0 >>= _) _ _ s
  refine wpAny_bind (wpAny_field ho hd (x := .ref r) rfl ?_)
  show wpAny _ _ (load r >>= _) _ _ s
  refine wpAny_bind (wpAny_load hr ?_)
  show wpAny _ _ (field (.ref it) 1 >>= _) _ _ s
  refine wpAny_bind (wpAny_field ho hd (x := .int i 0) rfl ?_)
  simp only [Int.toNat_natCast, hx]
  refine wpAny_bind (wpAny_rule (wpAny_bind (wpAny_setField ho hd (by simp) ?_)))
  refine wpAny_bind (wpAny_letGo ?_)
  show wpAny _ _ (newExc (.type "StopIteration") [] >>= _) _ _ _
  refine wpAny_bind ?_
  simp only [newExc, newTuple]
  refine wpAny_bind (wpAny_newObj_type ?_ (by size_fits))
  refine wpAny_bind (m := firstArgMember _ _) (wpAny_of_eq (a := Value.none) (by first | rfl | (simp only [firstArgMember]; rfl)) ?_)
  refine wpAny_newObj_type ?_ (by size_fits)
  simp only [raiseNew]
  refine wpAny_bind (wpAny_handled ?_)
  rw [show A.in1.handled = none from hh]
  refine wpAny_bind (wpAny_pure (wpAny_throw ?_))
  refine wpAny_bind (wpAny_isInstance (T := "StopIteration") (b := true) ⟨_, Heap.get?_push_size _ rfl, rfl⟩ isSubtype_stop ?_)
  exact wpAny_pure (hQ _ (((Heap.SameBut.update ..).extBut.push _).push _))
theorem walks_bar (hh : A.handled = none) (I r : Addr) (hne : r ≠ I) (b : Array UInt8) :
    Walks prog w A I [I, r] [I] b.size (fun i v => ∃ c u, b[i]? = some c ∧ v = .int (c.toNat : Int) u) (fun i h => IsBarIter h I r i ∧ h.get? r = some (bar b)) where
  sub := fun _ hb => by simp at hb; simp [hb]
  frame := fun _ _ _ st hk => ⟨let ⟨o, ho, q⟩ := st.1; ⟨o, hk I (by simp) o ho, q⟩, hk r (by simp) _ st.2⟩
  item := fun i s Q E hi st hQ => by
    refine bai_item st.1 st.2 (c := b[i]) (by simp [hi]) fun h' hit' hs' => ?_
    exact hQ _ h' (s.toks + 1) ⟨_, _, by simp [hi], rfl⟩ ⟨hit', hs'.extBut _ _ hne st.2⟩ fun b o hb e => hs'.extBut b o (fun h => hb (by simp [h])) e
  done := fun s Q E st hQ => bai_end hh st.1 st.2 (by simp) fun h' he' => hQ h' s.toks fun b o hb e => he' b o (fun h => hb (by simp [h])) e
  self := fun _ _ _ _ st hQ => pyIter_bai st.1 hQ
/-- a comprehension over a bytearray -/
theorem pyIter_barC {ys : List Nat} {env : Env} {x : Str} {ifs : List Expr} {elt : Expr} {scope : Scope} {cl : List (Str × Addr)} {Q : Value → Shared → Prop} {E' : Value → Shared → Prop}
    (hh : A.handled = none) (hr : s.heap.get? r = some (bar (By ys))) (hy : ∀ x ∈ ys, x < 256) (hz : ys.length ≤ 100000)
    (J : Nat → List Value → Array GenState → Prop) (h0 : J 0 [] s.gens)
    (turn : ∀ E' i c tv h g tk zs C m, s.heap.objs.size < C → ys[i]? = some c → J i zs g → h.Ns C m → m x = some (.int (c : Nat) tv) → (∀ b o, s.heap.get? b = some o → h.get? b = some o) →
      wpAny (model prog w) A (testsOf ifs (compEnvC scope cl C env)) (fun ok s₃ => if ok = true then wpAny (model prog w) A (eval elt (compEnvC scope cl C env)) (fun y s₄ =>
          ∃ h' tk' g', s₄ = ⟨h', g', s.drawn, tk', s.os⟩ ∧ Kp [] h h' ∧ J (i + 1) (zs ++ [y]) g') E' s₃
        else ∃ h' tk' g', s₃ = ⟨h', g', s.drawn, tk', s.os⟩ ∧ Kp [] h h' ∧ J (i + 1) zs g') E' ⟨h, g, s.drawn, tk, s.os⟩)
    (done : ∀ D h tk g zs k, s.heap.get? D = none → h.get? D = some (lst zs k) → (∀ b o, s.heap.get? b = some o → h.get? b = some o) → J ys.length zs g → Q (.ref D) ⟨h, g, s.drawn, tk, s.os⟩) :
    wpAny (model prog w) A (pyIter (.ref r)) (fun it s₂ => CompAt prog w A scope cl env x ifs elt Q it s₂) E' s := by
  refine pyIter_bar hr ?_
  have hne : r ≠ s.heap.objs.size := Nat.ne_of_lt (Heap.lt_size hr)
  generalize ho : ({ cls := .type "bytearray_iterator", data := .fields #[.ref r, .int 0 0] } : Obj) = io
  have up : ∀ {h : Heap}, (∀ b o, b ∉ [s.heap.objs.size] → (s.heap.push io).get? b = some o → h.get? b = some o) → ∀ b o, s.heap.get? b = some o → h.get? b = some o :=
    fun hk b o e => hk b o (fun q => Nat.ne_of_lt (Heap.lt_size e) (List.mem_singleton.mp q)) (Heap.get?_push_of_some _ e)
  refine ⟨_, _, _, _, _, _, J, rfl, walks_bar hh s.heap.objs.size r hne (By ys), by rw [By_size]; exact hz, ?_, ?_, h0, ?_, ?_⟩
  · refine ⟨⟨io, Heap.get?_push_size _ (by rw [← ho]; rfl), by rw [← ho], by rw [← ho]; rfl⟩, Heap.get?_push_of_some _ hr⟩
  · intro b hb
    show b < (s.heap.push io).objs.size
    rw [Heap.size_push]
    rcases List.mem_cons.mp hb with rfl | hb
    · exact Nat.lt_succ_self _
    · rw [List.mem_singleton.mp hb]; exact Nat.lt_succ_of_lt (Heap.lt_size hr)
  · rintro E' i v h g tk zs C m hC hi ⟨c, u, hc, rfl⟩ hJ hn' hm hk
    rw [By_size] at hi
    have hcy : ys[i]? = some ys[i] := List.getElem?_eq_getElem hi
    have e : c.toNat = ys[i] := by
      have e1 : (By ys)[i]? = some (ys[i]).toUInt8 := by rw [← Array.getElem?_toList, By_toList, List.getElem?_map, hcy]; rfl
      rw [e1] at hc
      obtain rfl := Option.some.inj hc
      exact Nat.mod_eq_of_lt (hy _ (List.getElem_mem hi))
    rw [e] at hm
    refine turn E' i ys[i] u h g tk zs C m ?_ hcy hJ hn' hm (up hk)
    rw [Heap.size_push] at hC
    exact hC
  · intro D h tk g zs k hD hd hk hJ
    refine done D h tk g zs k ?_ hd (up hk) (by simpa [By_size] using hJ)
    cases e : s.heap.get? D with
    | none => rfl
    | some o => rw [Heap.get?_push_of_some _ e] at hD; cases hD
end
end Aq

namespace Aq
open PySem.Calls
local macro_rules | `(tactic| walk_at "callWith ref") => `(tactic| refine callWith_f ?_)
local macro_rules | `(tactic| walk_at "exec For") => `(tactic| refine wpAny_For ?_)
local macro_rules | `(tactic| walk_at "eval Name") => `(tactic| first
  | refine ld (by assumption) (by first | assumption | rfl) ?_
  | refine nmF (by assumption) (by assumption) (by assumption) ?_
  | refine nmB (by assumption) (by assumption) bb_len ?_)
abbrev lawEnv1 (L a : Addr) (cd : Value) : Env := envOf "law" (defAt P1 6).2.2 L a cd
section
variable {w : World} {A : Around} {s : Shared} {base : Heap} {L a : Addr} {cd : Value} {mg mb : Str → Option Value} {E : Value → Shared → Prop} {m : Str → Option Value} {Q : Flow → Shared → Prop} {rest : List Stmt}
theorem law1_nums {st0 st1 : Stmt} (hs0 : st0 = (defAt P1 6).2.1.getD 0 default) (hs1 : st1 = (defAt P1 6).2.1.getD 1 default) {sc : Addr} {vs : List Value} {zs : List Int} (W : Wd base mg mb) (hh : A.handled = none) (hL : base.IsList sc vs.toArray) (hI : IntsAre vs zs) (hz : zs.length ≤ 63)
    (F : Fr base L s.heap m) (hm : m "script" = some (.ref sc))
    (h : ∀ h' tk m' D us k ns, Fr base L h' m' → m' "numbers" = some (.ref D) → News base L h' [(D, lst us k)] → IntsAre us ns → 3 ≤ ns.length → ns.length ≤ 63 →
      wpC (model P1 w) A (execs rest (lawEnv1 L a cd)) Q E ⟨h', s.gens, s.drawn, tk, s.os⟩) :
    wpC (model P1 w) A (execs (st0 :: st1 :: rest) (lawEnv1 L a cd)) Q E s := by
  subst hs0 hs1
  have N : News base L s.heap [] := News.nil
  unfold lawEnv1 at h ⊢
  show wpC _ _ (execs (.Assign _ _ _ :: .If _ _ _ _ :: rest) _) _ _ _
  refine wpC_execs_cons (wpC_of ?_)
  repeat walk1
  rename_i F0 N0
  have ep : ({ cls := Value.type "list", data := Data.seq (slicePick vs.toArray none (some 21) none) } : Obj) = lst (slicePick vs.toArray none (some 21) none).toList 0 := by
    show _ = Obj.mk _ _ _ _
    simp
  rw [ep] at N0
  have hI1 := hI.pick none (some 21) none
  have hl1 := length_pickNums_le hI none (some 21) none
  generalize (slicePick vs.toArray none (some 21) none).toList = us at *
  generalize pickNums zs none (some 21) none = ns at *
  refine wpC_execs_cons (wpC_of ?_)
  repeat walk1
  refine len_N N0 (.head _) hI1 (by omega) fun tl tl' => ?_
  dsimp only
  repeat walk1
  all_goals (repeat walk1)
  · rename_i hlt _ F1 N1
    refine kmk_add_ints F1 N1 (ns := [4, 2, 5]) (ms := ns) (lst_isList (vs := [Value.int 4 _, Value.int 2 _, Value.int 5 _]) (n := 0) (N1 _ (.head _)).1) (lst_isList (vs := us) (n := 0) (N1 _ (.tail _ (.head _))).1) (.cons _ _ (.cons _ _ (.cons _ _ .nil))) hI1 (fun D us' h3 F3 N3 _ hus => ?_) (by
      have := sizeLine_eq
      simp
      omega)
    repeat walk1
    rename_i F4 N4
    exact h _ _ _ D us' 0 _ F4 rfl (news_sub N4 (by simp)) hus (by simp) (by simp; omega)
  · rename_i hge
    exact h _ _ _ _ us 0 ns F0 rfl N0 hI1 (by omega) (by omega)
end
end Aq

namespace Aq
open PySem.Calls
local macro_rules | `(tactic| walk_at "callWith ref") => `(tactic| refine callWith_f ?_)
local macro_rules | `(tactic| walk_at "exec For") => `(tactic| refine wpAny_For ?_)
local macro_rules | `(tactic| walk_at "eval Name") => `(tactic| first
  | refine ld (by assumption) (by first | assumption | rfl) ?_
  | refine nmF (by assumption) (by assumption) (by assumption) ?_
  | refine nmB (by assumption) (by assumption) bb_len ?_)
local macro_rules | `(tactic| walk_at "aq 1") => `(tactic| skip)
def needleOf (x : Int) : List Nat := match (x.fmod 8).toNat with
  | 0 => [97]
  | 1 => [98]
  | 2 => [97, 97]
  | 3 => [97, 98]
  | 4 => [98, 97]
  | 5 => [97, 98, 97]
  | 6 => [97, 97, 98]
  | _ => [98, 98]
theorem needle_ok (x : Int) : AB (needleOf x) ∧ needleOf x ≠ [] ∧ (needleOf x).length ≤ 3 := by
  unfold needleOf AB
  split <;> decide
section
variable {w : World} {A : Around} {s : Shared} {base : Heap} {L a : Addr} {cd : Value} {mg mb : Str → Option Value} {E : Value → Shared → Prop} {m : Str → Option Value} {Q : Flow → Shared → Prop} {rest : List Stmt}
theorem law1_needle {st2 : Stmt} (hs2 : st2 = (defAt P1 6).2.1.getD 2 default) {D : Addr} {us : List Value} {k : Nat} {ns : List Int} (W : Wd base mg mb) (F : Fr base L s.heap m) (hm : m "numbers" = some (.ref D)) (N : News base L s.heap [(D, lst us k)]) (hus : IntsAre us ns) (hl : 3 ≤ ns.length) (hz : ns.length ≤ 63)
    (h : ∀ h' tk nd ws j, Fr base L h' (fun y => if y = "needle" then some (.ref nd) else m y) → News base L h' [(nd, lst ws j), (D, lst us k)] → nd ≠ D → IntsAre ws (toZ (needleOf (ns.getD 0 0))) →
      wpC (model P1 w) A (execs rest (lawEnv1 L a cd)) Q E ⟨h', s.gens, s.drawn, tk, s.os⟩) :
    wpC (model P1 w) A (execs (st2 :: rest) (lawEnv1 L a cd)) Q E s := by
  subst hs2
  unfold lawEnv1 at h ⊢
  show wpC _ _ (execs (.Assign _ _ _ :: rest) _) _ _ _
  refine wpC_execs_cons ?_
  refine wpC_of ?_
  refine wpAny_Assign_Name ?_ ?_
  rotate_left
  · with_unfolding_all rfl
  iterate 75 walk1
  rename_i h1 F1 N1 h2 F2 N2 h3 F3 N3 h4 F4 N4 h5 F5 N5 h6 F6 N6 h7 F7 N7 h8 F8 N8 h9 F9 N9 t0
  have fin : ∀ (hh : Heap) (nd : Addr) (ws : List Value) (tk : Nat) (news : List (Addr × Obj)), Fr base L hh m → News base L hh news → (nd, lst ws 0) ∈ news → (D, lst us k) ∈ news → nd ≠ D → IntsAre ws (toZ (needleOf (ns.getD 0 0))) →
      wpAny (model P1 w) A (storeName (envOf "law" (defAt P1 6).2.2 L a cd) "needle" (.ref nd)) (fun _ s₁ => wpC (model P1 w) A (execs rest (envOf "law" (defAt P1 6).2.2 L a cd)) Q E s₁) E ⟨hh, s.gens, s.drawn, tk, s.os⟩ := by
    intro hh nd ws tk news F N' hm1 hm2 hne hi
    have N := news_sub (l := [(nd, lst ws 0), (D, lst us k)]) N' (by intro p hp; simp only [List.mem_cons, List.not_mem_nil, or_false] at hp; rcases hp with rfl | rfl <;> assumption)
    clear F1 N1 F2 N2 F3 N3 F4 N4 F5 N5 F6 N6 F7 N7 F8 N8 F9 N9 N'
    walk1
    rename_i F0 N0
    exact h _ _ nd ws 0 F0 N0 hne hi
  clear h
  dsimp only at *
  have e0 : (0 : Int).toNat = 0 := rfl
  rw [e0] at *
  generalize ns.getD 0 0 = x at *
  have hr : x.fmod 8 = 0 ∨ x.fmod 8 = 1 ∨ x.fmod 8 = 2 ∨ x.fmod 8 = 3 ∨ x.fmod 8 = 4 ∨ x.fmod 8 = 5 ∨ x.fmod 8 = 6 ∨ x.fmod 8 = 7 := by
    rw [Int.fmod_eq_emod_of_nonneg _ (by decide)]; omega
  unfold needleOf at fin
  rcases hr with hx | hx | hx | hx | hx | hx | hx | hx <;> rw [hx] at fin ⊢
  · refine item_listR (x := .ref _) ⟨_, (N9 _ (.head _)).1, rfl, _, rfl⟩ (by decide) (by decide) (by rfl) ?_
    exact fin h9 _ [_] _ _ F9 N9 (by repeat (first | exact .head _ | refine .tail _ ?_)) (by repeat (first | exact .head _ | refine .tail _ ?_)) (Nat.ne_of_gt (Heap.lt_size (N (D, lst us k) (by repeat (first | exact .head _ | refine .tail _ ?_))).1)) (.cons _ _ .nil)
  · refine item_listR (x := .ref _) ⟨_, (N9 _ (.head _)).1, rfl, _, rfl⟩ (by decide) (by decide) (by rfl) ?_
    exact fin h9 _ [_] _ _ F9 N9 (by repeat (first | exact .head _ | refine .tail _ ?_)) (by repeat (first | exact .head _ | refine .tail _ ?_)) (Nat.ne_of_gt (Heap.lt_size (N1 (D, lst us k) (by repeat (first | exact .head _ | refine .tail _ ?_))).1)) (.cons _ _ .nil)
  · refine item_listR (x := .ref _) ⟨_, (N9 _ (.head _)).1, rfl, _, rfl⟩ (by decide) (by decide) (by rfl) ?_
    exact fin h9 _ [_, _] _ _ F9 N9 (by repeat (first | exact .head _ | refine .tail _ ?_)) (by repeat (first | exact .head _ | refine .tail _ ?_)) (Nat.ne_of_gt (Heap.lt_size (N2 (D, lst us k) (by repeat (first | exact .head _ | refine .tail _ ?_))).1)) (.cons _ _ (.cons _ _ .nil))
  · refine item_listR (x := .ref _) ⟨_, (N9 _ (.head _)).1, rfl, _, rfl⟩ (by decide) (by decide) (by rfl) ?_
    exact fin h9 _ [_, _] _ _ F9 N9 (by repeat (first | exact .head _ | refine .tail _ ?_)) (by repeat (first | exact .head _ | refine .tail _ ?_)) (Nat.ne_of_gt (Heap.lt_size (N3 (D, lst us k) (by repeat (first | exact .head _ | refine .tail _ ?_))).1)) (.cons _ _ (.cons _ _ .nil))
  · refine item_listR (x := .ref _) ⟨_, (N9 _ (.head _)).1, rfl, _, rfl⟩ (by decide) (by decide) (by rfl) ?_
    exact fin h9 _ [_, _] _ _ F9 N9 (by repeat (first | exact .head _ | refine .tail _ ?_)) (by repeat (first | exact .head _ | refine .tail _ ?_)) (Nat.ne_of_gt (Heap.lt_size (N4 (D, lst us k) (by repeat (first | exact .head _ | refine .tail _ ?_))).1)) (.cons _ _ (.cons _ _ .nil))
  · refine item_listR (x := .ref _) ⟨_, (N9 _ (.head _)).1, rfl, _, rfl⟩ (by decide) (by decide) (by rfl) ?_
    exact fin h9 _ [_, _, _] _ _ F9 N9 (by repeat (first | exact .head _ | refine .tail _ ?_)) (by repeat (first | exact .head _ | refine .tail _ ?_)) (Nat.ne_of_gt (Heap.lt_size (N5 (D, lst us k) (by repeat (first | exact .head _ | refine .tail _ ?_))).1)) (.cons _ _ (.cons _ _ (.cons _ _ .nil)))
  · refine item_listR (x := .ref _) ⟨_, (N9 _ (.head _)).1, rfl, _, rfl⟩ (by decide) (by decide) (by rfl) ?_
    exact fin h9 _ [_, _, _] _ _ F9 N9 (by repeat (first | exact .head _ | refine .tail _ ?_)) (by repeat (first | exact .head _ | refine .tail _ ?_)) (Nat.ne_of_gt (Heap.lt_size (N6 (D, lst us k) (by repeat (first | exact .head _ | refine .tail _ ?_))).1)) (.cons _ _ (.cons _ _ (.cons _ _ .nil)))
  · refine item_listR (x := .ref _) ⟨_, (N9 _ (.head _)).1, rfl, _, rfl⟩ (by decide) (by decide) (by rfl) ?_
    exact fin h9 _ [_, _] _ _ F9 N9 (by repeat (first | exact .head _ | refine .tail _ ?_)) (by repeat (first | exact .head _ | refine .tail _ ?_)) (Nat.ne_of_gt (Heap.lt_size (N7 (D, lst us k) (by repeat (first | exact .head _ | refine .tail _ ?_))).1)) (.cons _ _ (.cons _ _ .nil))
end
end Aq

namespace Aq
open PySem.Calls
def StepM (base : Heap) (L : Addr) (s : Shared) (x : Addr × Obj) (J : (Str → Option Value) → List (Addr × Obj) → Array GenState → Prop) (Q : Flow → Shared → Prop) (f : Flow) (s' : Shared) : Prop := match f with
  | .next | .cont => ∃ h g tk m nw, s' = ⟨h, g, s.drawn, tk, s.os⟩ ∧ Fr base L h m ∧ News base L h (x :: nw) ∧ J m nw g
  | .brk => Q .next s'
  | .ret v => Q (.ret v) s'
section
variable {prog : Program} {w : World} {A : Around} {s : Shared} {base : Heap} {env : Env} {m : Str → Option Value} {E : Value → Shared → Prop}
/-- over a list; the new objects may change from turn to turn -/
theorem forListM {x : Str} {px : Pos} {body : List Stmt} {l : Addr} {vs : List Value} {k : Nat} {news : List (Addr × Obj)} {Q : Flow → Shared → Prop}
    (hh : A.handled = none) (hx : env.kindOf x = some .local) (hp : (env.scope.kind == .class || (env.scope.kind == .module && env.locals != env.globals)) = false)
    (F : Fr base env.locals s.heap m) (N : News base env.locals s.heap news)
    (J : Nat → (Str → Option Value) → List (Addr × Obj) → Array GenState → Prop) (h0 : J 0 m news s.gens)
    (hl : ∀ i m nw g, J i m nw g → base.get? l = some (lst vs k) ∨ (l, lst vs k) ∈ nw) (hnl : ∀ i m nw g, J i m nw g → ∀ p ∈ nw, p.2.cls ≠ .type "list_iterator")
    (step : ∀ E' i v m₁ h g tk it io nw, vs[i]? = some v → J i m₁ nw g → (∀ p ∈ nw, p.1 ≠ it) → Fr base env.locals h (fun y => if y = x then some v else m₁ y) → News base env.locals h ((it, io) :: nw) →
      wpAny (model prog w) A (execs body env) (StepM base env.locals s (it, io) (J (i + 1)) Q) E' ⟨h, g, s.drawn, tk, s.os⟩)
    (done : ∀ h g tk m' nw, Fr base env.locals h m' → News base env.locals h nw → J vs.length m' nw g → Q .next ⟨h, g, s.drawn, tk, s.os⟩) :
    wpAny (model prog w) A (pyIter (.ref l)) (fun it s₂ => codeAny (model prog w) A (.forLoop (.Name x px) it body [] env) (fun r s' => match r with | .ok f => Q f s' | .error e => cameBackBy (model prog w) A env E e s') s₂) E s := by
  have hls : ∀ h i m' nw g, Fr base env.locals h m' → News base env.locals h nw → J i m' nw g → h.IsList l vs.toArray := fun h i m' nw g F' N' hJ => by
    rcases hl i m' nw g hJ with e | e
    · exact lst_isList (F'.keep _ _ e)
    · exact lst_isList (N' _ e).1
  have hl0 := hls _ _ _ _ _ F N h0
  refine wpAny_pyIter_list hl0 ?_
  have hI1 : env.locals ≠ s.heap.objs.size := Nat.ne_of_lt F.ns.lt
  have hI2 : base.get? s.heap.objs.size = none := base_lt F (Nat.le_refl _)
  generalize hIe : s.heap.objs.size = I at *
  refine codeAny_forLoop (fun n s' => ∃ h g tk m' nw i, s' = ⟨h, g, s.drawn, tk, s.os⟩ ∧ h.IsListIter I l i ∧ Fr base env.locals h m' ∧ News base env.locals h nw ∧ J i m' nw g ∧ i ≤ vs.length ∧ n = vs.length + 1 - i) ?_ (vs.length + 1)
    ⟨_, s.gens, s.toks, m, news, 0, rfl, ⟨_, by rw [← hIe]; exact Heap.get?_push_size _ rfl, rfl, rfl⟩, F.push _, News.pushKeep N _, h0, Nat.zero_le _, rfl⟩
  rintro n s' ⟨h, g, tk, m', nw, i, rfl, hit, F', N', hJ, hi, rfl⟩
  have hI4 : ∀ p ∈ nw, p.1 ≠ I := fun p hp' e => by
    obtain ⟨o, ho, hc, _⟩ := id hit
    have e1 := (N' p hp').1
    rw [e, ho] at e1
    have e2 := Option.some.inj e1
    exact hnl i m' nw g hJ p hp' (by rw [← e2]; exact hc)
  by_cases hlt : i < vs.length
  · obtain ⟨v, hv⟩ : ∃ v, vs[i]? = some v := ⟨vs[i], List.getElem?_eq_getElem hlt⟩
    refine wpAny_pyNext_list_item hit (hls _ _ _ _ _ F' N' hJ) (x := v) (by simpa using hv) fun h₁ hit₁ hs₁ => ?_
    have F1 := fr_same F' hs₁ hI1 hI2
    have N1 := news_ext N' (fun b o n e => hs₁.extBut b o n e) hI4
    refine wpAny_assign_Name (wpAny_storeName_local hx F1.ns (fun h₂ hn₂ hs₂ => ?_) hp)
    have F2 := F1.set hn₂ hs₂
    obtain ⟨io, hio, hd⟩ := hit₁
    have N2 : News base env.locals h₂ ((I, io) :: nw) := fun p hp' => by
      rcases List.mem_cons.mp hp' with rfl | hp'
      · exact ⟨hs₂.extBut _ _ (Ne.symm hI1) hio, Ne.symm hI1, hI2⟩
      · exact (N1.set hs₂) p hp'
    refine wpAny_mono (step _ i v m' h₂ g (tk + 1) I io nw hv hJ hI4 F2 N2) (fun f s₃ h₃ => ?_) fun _ _ e => e
    cases f with
    | ret v => exact h₃
    | brk => exact h₃
    | cont =>
      obtain ⟨h3, g3, tk3, m3, nw3, rfl, F3, N3, J3⟩ := h₃
      exact ⟨vs.length + 1 - (i + 1), by omega, h3, g3, tk3, m3, nw3, i + 1, rfl, ⟨io, (N3 _ (.head _)).1, hd⟩, F3, news_tail N3, J3, hlt, rfl⟩
    | next =>
      obtain ⟨h3, g3, tk3, m3, nw3, rfl, F3, N3, J3⟩ := h₃
      exact ⟨vs.length + 1 - (i + 1), by omega, h3, g3, tk3, m3, nw3, i + 1, rfl, ⟨io, (N3 _ (.head _)).1, hd⟩, F3, news_tail N3, J3, hlt, rfl⟩
  · have : i = vs.length := by omega
    subst this
    refine wpAny_pyNext_list_end hh hit (hls _ _ _ _ _ F' N' hJ) (by simp) fun h₁ hs₁ => wpAny_execs_nil ?_
    exact done h₁ g tk m' nw (fr_ext F' hs₁ hI1 hI2) (news_ext N' (fun b o n e => hs₁ b o n e) hI4) hJ
end
end Aq

namespace Aq
open PySem.Calls
local macro_rules | `(tactic| walk_at "callWith ref") => `(tactic| refine callWith_f ?_)
local macro_rules | `(tactic| walk_at "exec For") => `(tactic| refine wpAny_For ?_)
local macro_rules | `(tactic| walk_at "eval Name") => `(tactic| first
  | refine ld (by assumption) (by first | assumption | rfl) ?_
  | refine nmF (by assumption) (by assumption) (by assumption) ?_
  | refine nmB (by assumption) (by assumption) bb_len ?_)
local macro_rules | `(tactic| walk_at "aq 1") => `(tactic| skip)
local macro_rules | `(tactic| walk_at "aq 2") => `(tactic| skip)
def pieceOf (x : Int) : List Nat := match (x.fmod 6).toNat with
  | 0 => [97]
  | 1 => [98]
  | 2 => [97, 98]
  | 3 => [98, 97]
  | 4 => [97, 97, 98]
  | _ => [97, 98, 98]
theorem pieceOf_ok (x : Int) : AB (pieceOf x) ∧ (pieceOf x).length ≤ 3 := by
  unfold pieceOf AB
  split <;> decide
def rowLoop : List Stmt := match (defAt P1 6).2.1.getD 4 default with
  | .For _ _ b _ _ => b
  | _ => []
section
variable {w : World} {A : Around} {s : Shared} {base : Heap} {L a : Addr} {cd : Value} {mg mb : Str → Option Value} {E : Value → Shared → Prop} {m : Str → Option Value} {Q : Flow → Shared → Prop} {rest : List Stmt}
theorem extend_R {prog : Program} {r b : Addr} {vs ws n k} {others : List (Addr × Obj)} {Q : Value → Shared → Prop} (F : Fr base L s.heap m) (N : News base L s.heap ((r, lst vs n) :: (b, lst ws k) :: others)) (hne : ws ≠ []) (hz : vs.length + ws.length ≤ 100000) (hbr : b ≠ r) (ho : ∀ p ∈ others, p.1 ≠ r)
    (h : ∀ h', Fr base L h' m → News base L h' ((r, lst (vs ++ ws) (n + 1)) :: others) → Q .none { s with heap := h' }) : wpAny (model prog w) A (call (.builtin "list.extend") [.ref r, .ref b]) Q E s := by
  refine kl_extend (its := vs.toArray) (its2 := ws.toArray) (n := n) (n2 := k) (l := vs ++ ws) (news := (r, lst vs n) :: (b, lst ws k) :: others) (news' := (r, lst (vs ++ ws) (n + 1)) :: (b, lst ws k) :: others) F N (.tail _ (.head _)) (by simp) (by simpa using hne)
    (Upd.head (fun p hp => by rcases List.mem_cons.mp hp with rfl | hp; exact hbr; exact ho p hp)) ?_ (by have := sizeLine_eq; simp; omega) (by have := sizeLine_eq; simp; omega) fun h' F' N' => h h' F' (news_sub N' (by intro p hp; rcases List.mem_cons.mp hp with rfl | hp; exact .head _; exact .tail _ (.tail _ hp)))
  simp only [Builtin.List.listTooLong, Bool.and_eq_true, not_and, List.size_toArray]
  intro _
  have := sizeLine_eq
  simp; omega
theorem row_turn {R : Addr} {vs : List Value} {n : Nat} {xs : List Nat} {x : Int} {tx : Tok} {others : List (Addr × Obj)} (F : Fr base L s.heap m) (hm : m "row" = some (.ref R)) (hmx : m "x" = some (.int x tx)) (N : News base L s.heap ((R, lst vs n) :: others)) (ho : ∀ p ∈ others, p.1 ≠ R) (hi : IntsAre vs (toZ xs)) (hz : xs.length ≤ 1000)
    (h : ∀ h' tk vs' n', Fr base L h' m → News base L h' ((R, lst vs' n') :: others) → IntsAre vs' (toZ (xs ++ pieceOf x)) → Q .next ⟨h', s.gens, s.drawn, tk, s.os⟩) :
    wpAny (model P1 w) A (execs rowLoop (lawEnv1 L a cd)) Q E s := by
  unfold lawEnv1 rowLoop
  show wpAny _ _ (execs (.Expr (.Call _ _ _ _) _ :: []) _) _ _ _
  refine wpAny_execs_cons ?_
  iterate 4 walk1
  refine Calls.callWith_builtin ?_ ?_
  · with_unfolding_all rfl
  refine Calls.evalArgs_plain (x := eval _ _) (rest := []) ?_
  refine Calls.spliced_cons ?_
  iterate 56 walk1
  rename_i h1 F1 N1 h2 F2 N2 h3 F3 N3 h4 F4 N4 h5 F5 N5 h6 F6 N6 h7 F7 N7
  dsimp only at *
  have fin : ∀ (hh : Heap) (pd : Addr) (ws : List Value) (tk : Nat) (news : List (Addr × Obj)), Fr base L hh m → News base L hh news → (pd, lst ws 0) ∈ news → (∀ p ∈ (R, lst vs n) :: others, p ∈ news) → pd ≠ R → IntsAre ws (toZ (pieceOf x)) →
      wpAny (model P1 w) A (call (.builtin "list.extend") [.ref R, .ref pd]) (fun v s' => match v with | .ref _ => False | _ => wpAny (model P1 w) A (execs [] (envOf "law" (defAt P1 6).2.2 L a cd)) Q E s') E ⟨hh, s.gens, s.drawn, tk, s.os⟩ := by
    intro hh pd ws tk news F0 N' hm1 hm2 hne hi'
    have N0 : News base L hh ((R, lst vs n) :: (pd, lst ws 0) :: others) := news_sub N' (by
      intro p hp
      rcases List.mem_cons.mp hp with rfl | hp
      · exact hm2 _ (.head _)
      · rcases List.mem_cons.mp hp with rfl | hp
        · exact hm1
        · exact hm2 _ (.tail _ hp))
    have hwl : ws.length = (pieceOf x).length := by rw [hi'.length, toZ_length]
    have hvl : vs.length = xs.length := by rw [hi.length, toZ_length]
    have hp3 := (pieceOf_ok x).2
    refine extend_R F0 N0 ?_ (by omega) hne ho fun h' F9 N9 => ?_
    · rintro rfl
      have : (pieceOf x).length = 0 := by rw [← hwl]; rfl
      unfold pieceOf at this
      split at this <;> simp at this
    dsimp only
    refine wpAny_execs_nil ?_
    exact h _ _ _ _ F9 N9 (by rw [toZ_append]; exact hi.append hi')
  clear h
  have hr : x.fmod 6 = 0 ∨ x.fmod 6 = 1 ∨ x.fmod 6 = 2 ∨ x.fmod 6 = 3 ∨ x.fmod 6 = 4 ∨ x.fmod 6 = 5 := by
    rw [Int.fmod_eq_emod_of_nonneg _ (by decide)]; omega
  unfold pieceOf at fin
  rcases hr with hx | hx | hx | hx | hx | hx <;> rw [hx] at fin ⊢
  · refine item_listR (x := .ref _) ⟨_, (N7 _ (.head _)).1, rfl, _, rfl⟩ (by decide) (by decide) (by rfl) ?_
    refine Calls.spliced_nil ?_
    exact fin h7 _ [_] _ _ F7 N7 (by repeat (first | exact .head _ | refine .tail _ ?_)) (fun p hp => .tail _ (.tail _ (.tail _ (.tail _ (.tail _ (.tail _ (.tail _ hp))))))) (Nat.ne_of_gt (Heap.lt_size (N (R, lst vs n) (by repeat (first | exact .head _ | refine .tail _ ?_))).1)) (.cons _ _ .nil)
  · refine item_listR (x := .ref _) ⟨_, (N7 _ (.head _)).1, rfl, _, rfl⟩ (by decide) (by decide) (by rfl) ?_
    refine Calls.spliced_nil ?_
    exact fin h7 _ [_] _ _ F7 N7 (by repeat (first | exact .head _ | refine .tail _ ?_)) (fun p hp => .tail _ (.tail _ (.tail _ (.tail _ (.tail _ (.tail _ (.tail _ hp))))))) (Nat.ne_of_gt (Heap.lt_size (N1 (R, lst vs n) (by repeat (first | exact .head _ | refine .tail _ ?_))).1)) (.cons _ _ .nil)
  · refine item_listR (x := .ref _) ⟨_, (N7 _ (.head _)).1, rfl, _, rfl⟩ (by decide) (by decide) (by rfl) ?_
    refine Calls.spliced_nil ?_
    exact fin h7 _ [_, _] _ _ F7 N7 (by repeat (first | exact .head _ | refine .tail _ ?_)) (fun p hp => .tail _ (.tail _ (.tail _ (.tail _ (.tail _ (.tail _ (.tail _ hp))))))) (Nat.ne_of_gt (Heap.lt_size (N2 (R, lst vs n) (by repeat (first | exact .head _ | refine .tail _ ?_))).1)) (.cons _ _ (.cons _ _ .nil))
  · refine item_listR (x := .ref _) ⟨_, (N7 _ (.head _)).1, rfl, _, rfl⟩ (by decide) (by decide) (by rfl) ?_
    refine Calls.spliced_nil ?_
    exact fin h7 _ [_, _] _ _ F7 N7 (by repeat (first | exact .head _ | refine .tail _ ?_)) (fun p hp => .tail _ (.tail _ (.tail _ (.tail _ (.tail _ (.tail _ (.tail _ hp))))))) (Nat.ne_of_gt (Heap.lt_size (N3 (R, lst vs n) (by repeat (first | exact .head _ | refine .tail _ ?_))).1)) (.cons _ _ (.cons _ _ .nil))
  · refine item_listR (x := .ref _) ⟨_, (N7 _ (.head _)).1, rfl, _, rfl⟩ (by decide) (by decide) (by rfl) ?_
    refine Calls.spliced_nil ?_
    exact fin h7 _ [_, _, _] _ _ F7 N7 (by repeat (first | exact .head _ | refine .tail _ ?_)) (fun p hp => .tail _ (.tail _ (.tail _ (.tail _ (.tail _ (.tail _ (.tail _ hp))))))) (Nat.ne_of_gt (Heap.lt_size (N4 (R, lst vs n) (by repeat (first | exact .head _ | refine .tail _ ?_))).1)) (.cons _ _ (.cons _ _ (.cons _ _ .nil)))
  · refine item_listR (x := .ref _) ⟨_, (N7 _ (.head _)).1, rfl, _, rfl⟩ (by decide) (by decide) (by rfl) ?_
    refine Calls.spliced_nil ?_
    exact fin h7 _ [_, _, _] _ _ F7 N7 (by repeat (first | exact .head _ | refine .tail _ ?_)) (fun p hp => .tail _ (.tail _ (.tail _ (.tail _ (.tail _ (.tail _ (.tail _ hp))))))) (Nat.ne_of_gt (Heap.lt_size (N5 (R, lst vs n) (by repeat (first | exact .head _ | refine .tail _ ?_))).1)) (.cons _ _ (.cons _ _ (.cons _ _ .nil)))
end
end Aq

namespace Aq
open PySem.Calls
local macro_rules | `(tactic| walk_at "callWith ref") => `(tactic| refine callWith_f ?_)
local macro_rules | `(tactic| walk_at "exec For") => `(tactic| refine wpAny_For ?_)
local macro_rules | `(tactic| walk_at "eval Name") => `(tactic| first
  | refine ld (by assumption) (by first | assumption | rfl) ?_
  | refine nmF (by assumption) (by assumption) (by assumption) ?_
  | refine nmB (by assumption) (by assumption) bb_len ?_)
local macro_rules | `(tactic| walk_at "aq 1") => `(tactic| skip)
local macro_rules | `(tactic| walk_at "aq 2") => `(tactic| skip)
local macro_rules | `(tactic| walk_at "aq 3") => `(tactic| skip)
def rowOf (ns : List Int) : List Nat := (ns.map pieceOf).flatten
theorem rowOf_ok : ∀ ns : List Int, AB (rowOf ns) ∧ (rowOf ns).length ≤ 3 * ns.length
  | [] => ⟨fun x hx => by simp [rowOf] at hx, by simp [rowOf]⟩
  | x :: ns => by
    have h := rowOf_ok ns
    have hp := pieceOf_ok x
    have e : rowOf (x :: ns) = pieceOf x ++ rowOf ns := by simp [rowOf]
    rw [e]
    exact ⟨hp.1.append h.1, by rw [List.length_append, List.length_cons]; omega⟩
theorem rowOf_take {ns : List Int} {i : Nat} {x : Int} (h : ns[i]? = some x) : rowOf (ns.take (i + 1)) = rowOf (ns.take i) ++ pieceOf x := by
  unfold rowOf
  rw [List.take_add_one, h]
  simp
section
variable {w : World} {A : Around} {s : Shared} {base : Heap} {L a : Addr} {cd : Value} {mg mb : Str → Option Value} {E : Value → Shared → Prop} {m : Str → Option Value} {Q : Flow → Shared → Prop} {rest : List Stmt}
theorem law1_row {st3 st4 : Stmt} (hs3 : st3 = (defAt P1 6).2.1.getD 3 default) (hs4 : st4 = (defAt P1 6).2.1.getD 4 default) {D nd : Addr} {us ws : List Value} {k j : Nat} {ns : List Int} (hh : A.handled = none) (F : Fr base L s.heap m) (hm : m "numbers" = some (.ref D)) (hmn : m "needle" = some (.ref nd)) (N : News base L s.heap [(nd, lst ws j), (D, lst us k)]) (hus : IntsAre us ns) (hz : ns.length ≤ 63)
    (h : ∀ h' tk m' R vs n row, Fr base L h' m' → m' "numbers" = some (.ref D) → m' "needle" = some (.ref nd) → m' "row" = some (.ref R) → News base L h' [(R, lst vs n), (nd, lst ws j), (D, lst us k)] → nd ≠ R → D ≠ R → IntsAre vs (toZ row) → AB row → row.length ≤ 200 →
      wpC (model P1 w) A (execs rest (lawEnv1 L a cd)) Q E ⟨h', s.gens, s.drawn, tk, s.os⟩) :
    wpC (model P1 w) A (execs (st3 :: st4 :: rest) (lawEnv1 L a cd)) Q E s := by
  subst hs3 hs4
  unfold lawEnv1 at h ⊢
  show wpC _ _ (execs (.Assign _ _ _ :: .For _ _ _ _ _ :: rest) _) _ _ _
  refine wpC_execs_cons ?_
  refine wpC_of ?_
  repeat walk1
  rename_i h1 F1 N1
  have hlt1 := Heap.lt_size (N (nd, lst ws j) (by simp)).1
  have hlt2 := Heap.lt_size (N (D, lst us k) (by simp)).1
  have hnd : nd ≠ s.heap.objs.size := Nat.ne_of_lt hlt1
  have hD : D ≠ s.heap.objs.size := Nat.ne_of_lt hlt2
  generalize s.heap.objs.size = R at *
  clear F N hlt1 hlt2
  refine wpC_execs_cons ?_
  refine wpC_of ?_
  repeat walk1
  rename_i h2 F2 N2
  dsimp only at *
  have hRlt := Heap.lt_size (N1 (R, _) (.head _)).1
  have ep : ({ cls := Value.type "list", data := Data.seq (slicePick us.toArray (some 1) none none) } : Obj) = lst (slicePick us.toArray (some 1) none none).toList 0 := by
    show _ = Obj.mk _ _ _ _
    simp
  rw [ep] at N2
  have hI1 := hus.pick (some 1) none none
  have hl1 := length_pickNums_le hus (some 1) none none
  have hSR : h1.objs.size + 1 ≠ R := Nat.ne_of_gt (Nat.lt_succ_of_lt hRlt)
  generalize h1.objs.size + 1 = S at *
  generalize (slicePick us.toArray (some 1) none none).toList = us1 at *
  generalize pickNums ns (some 1) none none = ns1 at *
  clear F1 N1 hRlt
  have hul : us1.length = ns1.length := hI1.length
  refine forListM (vs := us1) (k := 0) hh rfl rfl F2 (news_sub (l := [(R, lst [] 0), (S, lst us1 0), (nd, lst ws j), (D, lst us k)]) N2 (by intro p hp; simp only [List.mem_cons, List.not_mem_nil, or_false] at hp ⊢; rcases hp with h | h | h | h <;> simp [h]))
    (fun i m' nw g => m' "numbers" = some (.ref D) ∧ m' "needle" = some (.ref nd) ∧ m' "row" = some (.ref R) ∧ g = s.gens ∧ ∃ vs' n', nw = [(R, lst vs' n'), (S, lst us1 0), (nd, lst ws j), (D, lst us k)] ∧ IntsAre vs' (toZ (rowOf (ns1.take i))))
    ⟨hm, hmn, rfl, rfl, [], 0, rfl, .nil⟩ ?_ ?_ ?_ ?_
  · rintro i m' nw g ⟨_, _, _, _, vs', n', rfl, _⟩
    exact .inr (by simp)
  · rintro i m' nw g ⟨_, _, _, _, vs', n', rfl, _⟩ p hp
    simp only [List.mem_cons, List.not_mem_nil, or_false] at hp
    rcases hp with rfl | rfl | rfl | rfl <;> simp
  · rintro E' i v m' h3 g tk it io nw hv ⟨e1, e2, e3, rfl, vs', n', rfl, hi⟩ hit F3 N3
    obtain ⟨x, tx, rfl, hx⟩ := hI1.at i v hv
    have hrow := rowOf_ok (ns1.take i)
    have htl : (ns1.take i).length ≤ ns1.length := by rw [List.length_take]; omega
    have N4 := news_sub (l := (R, lst vs' n') :: [(it, io), (S, lst us1 0), (nd, lst ws j), (D, lst us k)]) N3 (by intro p hp; simp only [List.mem_cons, List.not_mem_nil, or_false] at hp ⊢; rcases hp with h | h | h | h | h <;> simp [h])
    have hitR := hit (R, lst vs' n') (.head _)
    refine row_turn (s := ⟨h3, s.gens, s.drawn, tk, s.os⟩) (m := fun y => if y = "x" then some (.int x tx) else m' y) F3 e3 rfl N4 ?_ hi (by omega) fun h4 tk4 vs4 n4 F4 N5 hi4 => ?_
    · intro p hp
      simp only [List.mem_cons, List.not_mem_nil, or_false] at hp
      rcases hp with rfl | rfl | rfl | rfl
      · exact Ne.symm hitR
      · exact hSR
      · exact hnd
      · exact hD
    · refine ⟨h4, s.gens, tk4, _, [(R, lst vs4 n4), (S, lst us1 0), (nd, lst ws j), (D, lst us k)], rfl, F4, news_sub N5 (by intro p hp; simp only [List.mem_cons, List.not_mem_nil, or_false] at hp ⊢; rcases hp with h | h | h | h | h <;> simp [h]), e1, e2, e3, rfl, vs4, n4, rfl, ?_⟩
      rw [rowOf_take hx]
      exact hi4
  · rintro h3 g tk m' nw F3 N3 ⟨e1, e2, e3, rfl, vs', n', rfl, hi⟩
    rw [hul, List.take_length] at hi
    have hrow := rowOf_ok ns1
    exact h h3 tk m' R vs' n' (rowOf ns1) F3 e1 e2 e3 (news_sub N3 (by intro p hp; simp only [List.mem_cons, List.not_mem_nil, or_false] at hp ⊢; rcases hp with h | h | h <;> simp [h])) hnd hD hi hrow.1 (by omega)
end
end Aq

namespace Aq
open PySem.Calls
local macro_rules | `(tactic| walk_at "callWith ref") => `(tactic| refine callWith_f ?_)
local macro_rules | `(tactic| walk_at "exec For") => `(tactic| refine wpAny_For ?_)
local macro_rules | `(tactic| walk_at "eval Name") => `(tactic| first
  | refine ld (by assumption) (by first | assumption | rfl) ?_
  | refine nmF (by assumption) (by assumption) (by assumption) ?_
  | refine nmB (by assumption) (by assumption) bb_bytearray ?_
  | refine nmB (by assumption) (by assumption) bb_len ?_)
local macro_rules | `(tactic| walk_at "aq 1") => `(tactic| skip)
section
variable {w : World} {A : Around} {s : Shared} {base : Heap} {L a : Addr} {cd : Value} {mg mb : Str → Option Value} {E : Value → Shared → Prop} {m : Str → Option Value} {Q : Flow → Shared → Prop} {rest : List Stmt}
theorem wpC_callWith_ty {M : Model} {T : String} {first : List Value} {pos : Pos} {args : List (Bool × Sem Value)} {Q : Value → Shared → Prop} (hplain : args.any (·.1) = false)
    (h : wpAny M A (evalArgs (.type T) true args []) (fun a s₁ => wpC M A (call (.type T) (first ++ a.pos) a.kw) Q E s₁) E s) : wpC M A (callWith pos (.type T) first args []) Q E s :=
  wpC_callWith (P := fun _ => True) (by simp [hplain]) (fun _ _ => ⟨.machine, .inr (.inl rfl), Looks.of_pure rfl⟩) (wpAny_mono h (fun _ _ x => ⟨trivial, x⟩) fun _ _ e => e)
theorem law1_hay {st5 : Stmt} (hs5 : st5 = (defAt P1 6).2.1.getD 5 default) {R : Addr} {vs : List Value} {n : Nat} {row : List Nat} {others : List (Addr × Obj)} (W : Wd base mg mb) (F : Fr base L s.heap m) (hm : m "row" = some (.ref R)) (N : News base L s.heap ((R, lst vs n) :: others)) (hi : IntsAre vs (toZ row)) (hx : AB row) (hz : row.length ≤ 200)
    (h : ∀ h' tk H, Fr base L h' (fun y => if y = "hay" then some (.ref H) else m y) → News base L h' ((H, bar (By row)) :: (R, lst vs n) :: others) → (∀ p ∈ (R, lst vs n) :: others, p.1 ≠ H) →
      wpC (model P1 w) A (execs rest (lawEnv1 L a cd)) Q E ⟨h', s.gens, s.drawn, tk, s.os⟩) :
    wpC (model P1 w) A (execs (st5 :: rest) (lawEnv1 L a cd)) Q E s := by
  subst hs5
  unfold lawEnv1 at h ⊢
  show wpC _ _ (execs (.Assign [.Name _ _] (.Call (.Name _ _) _ _ _) _ :: rest) _) _ _ _
  refine wpC_execs_cons ?_
  refine wpC_Assign_name ?_
  refine wpC_Call_name ?_
  walk1
  refine wpC_callWith_ty ?_ ?_
  · with_unfolding_all rfl
  refine Calls.evalArgs_plain (x := eval _ _) (rest := []) ?_
  refine Calls.spliced_cons ?_
  walk1
  refine Calls.spliced_nil ?_
  dsimp only
  refine call_bytearray_C (N (R, lst vs n) (.head _)).1 hi hx.low (by omega) fun h1 k1 ho1 hsz1 => ?_
  have hne : ∀ p ∈ (R, lst vs n) :: others, p.1 ≠ s.heap.objs.size := fun p hp => Nat.ne_of_lt (Heap.lt_size (N p hp).1)
  have hH : s.heap.get? s.heap.objs.size = none := by
    cases e : s.heap.get? s.heap.objs.size with
    | none => rfl
    | some o => exact absurd (Heap.lt_size e) (Nat.lt_irrefl _)
  have hHn := new_ne F hH
  have F1 : Fr base L h1 m := kpF F fun b o _ e => k1 b o e
  have N1 : News base L h1 ((s.heap.objs.size, bar (By row)) :: (R, lst vs n) :: others) := news_put (kpN N fun b o _ e => k1 b o e) ho1 hHn.1 hHn.2
  generalize s.heap.objs.size = H at *
  clear F N
  walk1
  exact h _ _ H (by assumption) (by assumption) hne
end
end Aq

namespace Aq
open PySem.Calls
open Sem (wp)
/-- a tree that looks at the stack first -/
def looked {α : Type} (d : α) (t : Sem α) : Sem α := .stack fun st => if st.all (fun x => !isDec x.1) then t else .pure d
theorem clean_all {Γ : Ctx} {p : Pos} (h1 : isDec Γ.code = false) (h2 : CleanL Γ.below) : ((Γ.code, p) :: Γ.below).all (fun x => !isDec x.1) = true := by
  rw [List.all_eq_true]
  intro x hx
  rcases List.mem_cons.mp hx with rfl | hx
  · rw [h1]; rfl
  · rw [h2 x hx]; rfl
theorem all_clean {Γ : Ctx} {p : Pos} (h : ((Γ.code, p) :: Γ.below).all (fun x => !isDec x.1) = true) : isDec Γ.code = false ∧ CleanL Γ.below := by
  rw [List.all_eq_true] at h
  exact ⟨by simpa using h (Γ.code, p) (.head _), fun x hx => by simpa using h x (.tail _ hx)⟩
section
variable {α : Type} {M : Model} {A : Around} {E : Value → Shared → Prop} {s : Shared}
theorem wp_looked {Γ : Ctx} {p : Pos} {d : α} {t : Sem α} {Q : α → Pos → Shared → Prop} {E : Value → Pos → Shared → Prop} : wp M Γ (looked d t) Q E p s = wp M Γ (if ((Γ.code, p) :: Γ.below).all (fun x => !isDec x.1) then t else .pure d) Q E p s := rfl
theorem wpAny_looked {d : α} {t : Sem α} {Q : α → Shared → Prop} (h : wpC M A t Q E s) (h' : Q d s) : wpAny M A (looked d t) Q E s := fun Γ p hΓ => by
  rw [wp_looked]
  by_cases hc : ((Γ.code, p) :: Γ.below).all (fun x => !isDec x.1) = true
  · rw [if_pos hc]
    obtain ⟨h1, h2⟩ := all_clean hc
    exact h Γ p hΓ h1 h2
  · rw [if_neg hc]; exact h'
theorem wpC_looked {d : α} {t : Sem α} {Q : α → Shared → Prop} (h : wpAny M A (looked d t) Q E s) : wpC M A t Q E s := fun Γ p hΓ h1 h2 => by
  have := h Γ p hΓ
  rw [wp_looked, if_pos (clean_all h1 h2)] at this
  exact this
theorem unclean_looked {d : α} {t : Sem α} {Q : α → Shared → Prop} {Γ : Ctx} {p : Pos} (hΓ : Γ.In A) (hc : ¬ ((Γ.code, p) :: Γ.below).all (fun x => !isDec x.1) = true) (h : wpAny M A (looked d t) Q E s) : Q d s := by
  have := h Γ p hΓ
  rw [wp_looked, if_neg hc] at this
  exact this
end
theorem sched_looked {den : Code → Sem PySem.Fin} {prog : Program} {w : World} {s s' : Shared} {o : Outcome} {d : PySem.Fin} {t : Sem PySem.Fin} (hz : s.asleep) : ∀ {n : Nat}, schedN den prog w n (.single s ⟨looked d t, .builtin "claim.caller" {}, default, []⟩) = .halted o s' →
    ∃ m, schedN den prog w m (.single s ⟨t, .builtin "claim.caller" {}, default, []⟩) = .halted o s'
  | 0, h => by cases h
  | n + 1, h => by
    have hs : step den prog w s ⟨looked d t, .builtin "claim.caller" {}, default, []⟩ = .go s ⟨t, .builtin "claim.caller" {}, default, []⟩ := by
      obtain ⟨heap, gens, drawn, toks, os⟩ := s
      have : ([(Code.builtin "claim.caller" {}, (default : Pos))].all (fun x => !isDec x.1)) = true := by decide +kernel
      show Step.go _ _ = _
      have e : (if [(Code.builtin "claim.caller" {}, (default : Pos))].all (fun x => !isDec x.1) then t else Sem.pure d) = t := if_pos this
      exact congrArg (fun x => Step.go _ ⟨x, _, _, _⟩) e
    have e := sstep_single den prog w s ⟨looked d t, .builtin "claim.caller" {}, default, []⟩ (by rfl) hz
    rw [hs] at e
    rcases e with e | e
    · simp only [schedN, e, Step.lift] at h
      exact ⟨n, h⟩
    · cases e
theorem unlook {c : ClaimW} {trees : List Value → Sem PySem.Fin} {d : PySem.Fin} {defs keeps : List Str} {writes : Bool} (H : c.HoldsOpenBy (fun vs => ⟨looked d (trees vs), .builtin "claim.caller" {}, default, []⟩) defs keeps writes) :
    c.HoldsOpenBy (fun vs => ⟨trees vs, .builtin "claim.caller" {}, default, []⟩) defs keeps writes := by
  obtain ⟨h1, h2, h3⟩ := H
  refine ⟨h1, h2, fun w => ⟨(h3 w).1, fun s hs => ?_⟩⟩
  obtain ⟨s₀, a1, a2, s₁, a3, a4, a5, a6, a7⟩ := (h3 w).2 s hs
  refine ⟨s₀, a1, a2, s₁, a3, a4, a5, a6, fun args hp hl ord ho => ?_⟩
  obtain ⟨vs, s2, l, n, o, s', r, x⟩ := a7 args hp hl ord ho
  have z0 : s₀.asleep := Shared.asleep_of_life (fence_lifeW a1) (AfterImport.life hs)
  have z1 : s₁.asleep := Shared.asleep_of_life a3.2.1 z0
  have z2 : s2.asleep := Shared.asleep_of_life (layAllW_rest _ _ _ l).2.2.2 z1
  obtain ⟨m, r'⟩ := sched_looked z2 r
  exact ⟨vs, s2, l, m, o, s', r', x⟩
end Aq

namespace Aq
/-- a row of the same text, of a def that is shown at once: its head is the law's -/
def auxRow : OpenRow := { PySem.Challenge.rw_aq0004_01.row with
  name := "_law_change", args := [.none, .int, .none, .int], returns := .none
  pre := .eq (.arg 3) (.lit (.int 0)), post := .eq .res (.lit .none) }
theorem aux_said (h : PySem.Challenge.rw_aq0004_01.row.wellSaid = true) : auxRow.wellSaid = true := by
  unfold OpenRow.wellSaid at h ⊢
  obtain ⟨h, h3⟩ := Bool.and_eq_true_iff.mp h
  obtain ⟨h, h2⟩ := Bool.and_eq_true_iff.mp h
  have e1 : auxRow.prog.boundNames.contains auxRow.name = true := by decide +kernel
  have e2 : (!startupNames.contains auxRow.name) = true := by decide +kernel
  rw [e1, e2, Bool.and_true, Bool.and_true]
  clear h2 h3
  unfold OpenRow.partSaid at h ⊢
  simp only [Bool.and_eq_true] at h ⊢
  obtain ⟨⟨⟨⟨⟨⟨⟨⟨⟨⟨⟨⟨⟨a1, a2⟩, a3⟩, a4⟩, a5⟩, a6⟩, a7⟩, a8⟩, a9⟩, a10⟩, a11⟩, a12⟩, a13⟩, a14⟩ := h
  refine ⟨⟨⟨⟨⟨⟨⟨⟨⟨⟨⟨⟨⟨a1, a2⟩, a3⟩, a4⟩, a5⟩, a6⟩, a7⟩, ?_⟩, ?_⟩, ?_⟩, ?_⟩, ?_⟩, ?_⟩, ?_⟩ <;> first | rfl | decide +kernel
end Aq

namespace Aq
open PySem.Calls
section
variable {prog : Program} {w : World} {A : Around} {s : Shared} {base : Heap} {L a : Addr} {cd : Value} {mg mb : Str → Option Value} {E : Value → Shared → Prop}
end
section
variable {N : Nat} {mg mb : Str → Option Value} {defs : List DefItem} {consts : List (Str × PyData)} {objs : List (Str × (Obj → Prop))} {names : List Str} {h : Heap}
theorem fnAt_of (G : Glob N mg mb defs consts objs names h) (i : Nat) (hi : i < defs.length) (hnd : defs[i].params.defaults = []) : ∃ f, FnAt h mg defs[i].name (defs[i].params, defs[i].body, defs[i].scope) f := by
  obtain ⟨f, c', o, pm, doc, _, _, h3, h4, h5, h6⟩ := (G.made defs[i] (List.getElem_mem hi)).plain hnd
  exact ⟨f, h3, o, pm, .ref c', doc, h4, h5, h6⟩
theorem wd_of (G : Glob N mg mb defs consts objs names h) (hf : ∀ x ∈ [("len" : Str), "range", "bytearray", "bytes", "ord"], x ∉ names ∧ x ∉ bootMainNames) : Wd h mg mb :=
  ⟨G.g, G.b, G.nolimit, G.builtins, fun x hx => G.free x (hf x hx).1 (hf x hx).2⟩
end
end Aq

namespace Aq
theorem law_post (l : OpenLaw) (a b : List WData) : l.row.claim.post a (.bool true) b = true := by
  show (WShape.has [] (WData.bool true) WShape.bool && WTm.holds [] (WTm.eq .res (.lit (.bool true))) { args := a, res := some (.bool true), after := b }) = true
  simp [WShape.has, WTm.holds, WTm.value, WShape.arms, same_self]
theorem law_good1 {l : OpenLaw} {cl : Str → Option Addr} {mean : ExcName → Option Value} {args : List WData} {s₁ s' : Shared} (hk : ∀ b o, s₁.heap.get? b = some o → s'.heap.get? b = some o) (ho : s'.os = s₁.os) (hg : AllBare s'.gens) :
    GoodWG l.row.claim cl mean args s₁ (.ok (.ret (.bool true))) s' :=
  ⟨.inl ⟨_, .bool true, [], rfl, fun _ => rfl, .bool true, law_post _ _ _, fun _ => ⟨.nil, by simp⟩⟩, .of_keep hk, ho, hg⟩
/-- the head of a law: the call may be shown for clean stacks alone -/
theorem head_C {l : OpenLaw} {q : Program} {Xt : Shared → Bool} {XP : (Str → Option Value) → Heap → Prop} {α : Type} {Yf : Shared → α} {Ya : World → α} {d : DefRec} {kwd : List (Str × Expr)} {N : Nat}
    (left : LeftO l.row.toRowW.prog q [] Xt Yf Ya N) (hX : ∀ s, Xt s = true → XP (s.heap.nsMap mainGlobals) s.heap) (hXk : ∀ mg h h', XP mg h → (∀ b o, h.get? b = some o → h'.get? b = some o) → XP mg h')
    (hdef : defOf q l.row.toRowW.name = some (d, kwd)) (hp : l.row.toRowW.prog.theDef l.row.toRowW.name = some (d.params, d.body, d.scope)) (hkw : kwWritten? d.params.kwonlyargs d.params.kw_defaults = some kwd)
    (hRf : ∀ s, Xt s = true → RecFacts [] s.heap) (hwr : l.writes = false)
    (said : l.row.wellSaid = true) (ok : (chainsOk q && opensWell l.row.toRowW.prog && (frees l.row.toRowW && l.row.toRowW.within.isEmpty)) = true) (hb : l.row.toRowW.prog.bare) (hw : l.row.toRowW.promised)
    (call : ∀ (w : World) (s₀ s₁ : Shared) (mg mb : Str → Option Value), Ground q [] [] XP w s₀ mg mb s₁.heap → ∀ (args : List WData) (vs : List Value) (as : List Addr), l.row.toRowW.claim.pre args = true → WData.layableAll args = true →
      ReadsAllW [] (classAt s₀.heap) s₁.heap vs args as → WellAll w.params s₁.heap vs args → (∀ a ∈ as, (a == sysModules) = false) → s₁.gens = #[] →
      ∃ f, mg l.row.toRowW.name = some f ∧ wpC (model l.row.toRowW.prog w) callerA (PySem.call f vs) (fun v s' => v = .bool true ∧ (∀ b o, s₁.heap.get? b = some o → s'.heap.get? b = some o) ∧ s'.os = s₁.os ∧ AllBare s'.gens) (fun _ _ => False) s₁) : l.row.Holds := by
  refine ⟨said, hw, unlook (trees := fun vs => do match ← nsGet mainNs l.row.toRowW.name with
      | some f => do ret (← PySem.call f vs)
      | none => unsupported "claim.caller:no-such-global") (d := .done (.ret (.bool true)))
    (open_anyX (r := l.row.toRowW) (run := fun f vs => looked (.bool true) (PySem.call f vs)) left hX hXk hRf (by show (!l.writes || _) = true; rw [hwr]; rfl) ok hb hw ?_ ?_ ?_)⟩
  · intro vs w s mg f Q E hg hf h
    have hC := wpC_looked h
    by_cases hall : ∀ (Γ : PySem.Ctx) (p : Pos), Γ.In callerA → ((Γ.code, p) :: Γ.below).all (fun x => !isDec x.1) = true
    · intro Γ p hΓ
      rw [wp_looked, if_pos (hall Γ p hΓ)]
      obtain ⟨h1, h2⟩ := all_clean (hall Γ p hΓ)
      refine (wpC_then (wpAny_nsGet hg ?_) : wpC _ _ _ _ _ _) Γ p hΓ h1 h2
      rw [hf]
      exact wpC_bind (wpC_mono hC (fun _ _ x => wpC_pure x) fun _ _ x => x)
    · have hQ : Q (.done (.ret (.bool true))) s := by
        simp only [Classical.not_forall] at hall
        obtain ⟨Γ, p, hΓ, hn⟩ := hall
        have q := unclean_looked hΓ hn h
        exact q
      refine wpAny_looked (wpC_then (wpAny_nsGet hg ?_)) hQ
      rw [hf]
      exact wpC_bind (wpC_mono hC (fun _ _ x => wpC_pure x) fun _ _ x => x)
  · intro w s hg G n hn
    obtain rfl : n = l.row.toRowW.name := by split at hn <;> simp_all
    exact pinned_of_view hg G hdef hp hkw
  · intro w s₀ s₁ mg mb G Y args vs as hpre hlay L low
    obtain ⟨f, hf, h⟩ := call w s₀ s₁ mg mb G args vs as hpre hlay L.reads L.well (L.low low) L.gens
    refine ⟨f, hf, wpAny_looked (wpC_mono h (fun v s' ⟨e, k, o, g⟩ => ?_) fun _ _ e => e.elim) (law_good1 (fun _ _ e => e) rfl (AllBare.of_eq L.gens))⟩
    subst e
    exact law_good1 k o g
end Aq

namespace Aq
structure Fns1 (h : Heap) (mg : Str → Option Value) (f1 f3 f4 f5 : Addr) : Prop where
  a1 : FnAt h mg "_findall" (defAt P1 1) f1
  a3 : FnAt h mg "_law_change" (defAt P1 3) f3
  a4 : FnAt h mg "_law_first" (defAt P1 4) f4
  a5 : FnAt h mg "_law_due" (defAt P1 5) f5
def LawBody : Prop := ∀ {w : World} {A : Around} {s : Shared} {base : Heap} {L a : Addr} {cd : Value} {mg mb : Str → Option Value} {Q : Flow → Shared → Prop} {sc : Addr} {vs : List Value} {zs : List Int} {f1 f3 f4 f5 : Addr}
    (_ : Wd base mg mb) (_ : Fns1 base mg f1 f3 f4 f5) (_ : A.handled = none) (_ : A.depth + 4 < recursionLimit) (_ : A.units + 80 < cLine)
    (_ : base.IsList sc vs.toArray) (_ : IntsAre vs zs) (_ : zs.length ≤ 63)
    (_ : Fr base L s.heap (fun y => List.lookup y [(("script" : Str), Value.ref sc)])) (_ : AllBare s.gens)
    (_ : ∀ h' tk g, (∀ b o, base.get? b = some o → h'.get? b = some o) → AllBare g → Q (.ret (.bool true)) ⟨h', g, s.drawn, tk, s.os⟩),
    wpC (model P1 w) A (execs (defAt P1 6).2.1 (envOf "law" (defAt P1 6).2.2 L a cd)) Q (fun _ _ => False) s
theorem bind_law {pm code doc : Value} (x : Value) : bindArgs (Calls.docDef "law" (defAt P1 6).1 (defAt P1 6).2.1 (defAt P1 6).2.2 pm code doc) ⟨[x], []⟩ = (pure [(("script" : Str), x)] : Sem (List (Str × Value))) := by
  with_unfolding_all rfl
theorem law_nocell : ∀ x ∈ (defAt P1 6).2.2.names, x.2 ≠ .cell := by decide
theorem law_call1 (LB : LawBody) {w : World} {A : Around} {s : Shared} {mg mb : Str → Option Value} {Q : Value → Shared → Prop} {E : Value → Shared → Prop} {sc : Addr} {vs : List Value} {zs : List Int} {f1 f3 f4 f5 f6 : Addr}
    (W : Wd s.heap mg mb) (hF : Fns1 s.heap mg f1 f3 f4 f5) (hp : FnAt s.heap mg "law" (defAt P1 6) f6) (hh : A.handled = none) (hroom : A.depth + 5 < recursionLimit) (hu : A.units + 90 < cLine)
    (hL : s.heap.IsList sc vs.toArray) (hI : IntsAre vs zs) (hz : zs.length ≤ 63) (hg : AllBare s.gens)
    (h : ∀ h' tk g, (∀ b o, s.heap.get? b = some o → h'.get? b = some o) → AllBare g → Q (.bool true) ⟨h', g, s.drawn, tk, s.os⟩) :
    wpC (model P1 w) A (PySem.call (.ref f6) [.ref sc]) Q E s := by
  obtain ⟨o, pm, code, doc, ho, hd, hcd⟩ := hp.o
  refine wpC_call (callC (by omega) ho hd W.lim hcd (bind_law _) (locs (by rfl)) (fun h₁ F => ?_) rfl rfl rfl law_nocell)
  exact LB (W.keeps fun _ _ e => e) hF hh (by show A.depth + 1 + 4 < _; omega) (by show A.units + 3 + 80 < _; omega) hL hI hz F hg fun h' tk g k hb => h h' tk g k hb
theorem T01 (LB : LawBody) : PySem.Challenge.rw_aq0004_01.Holds := by
  w_on; o_law
  have said2 := aux_said (by assumption)
  have aux : OpenRow.Holds auxRow := by
    k_head
    (case hw => exact ⟨[.none, .int 0, .none, .int 0], by decide +kernel, by decide +kernel⟩)
    w_strict k_go
  clear aux said2
  refine head_C (q := _) (XP := XL _ []) ?hl (fun s e => xl_of s (Bool.and_eq_true_iff.mp e).1) XL.keeps (by rfl) (by rfl) (by rfl) (fun s e => recFacts_of (Bool.and_eq_true_iff.mp e).2) rfl (by assumption) (by decide +kernel) ⟨rfl, rfl, rfl, rfl, rfl, by decide +kernel⟩ ?hw2 ?hc2
  case hw2 => w_witness2
  intro w s₀ s₁ mg mb G args vs as hpre hlay hrd hwl hlo hgens
  have V := (Ground.X G).2
  have GL := glob_more (Ground.glob G (by first | k_qdec | decide +kernel) (by first | k_qdec | decide +kernel)) V
  have hW := Aq.wd_of GL (by decide +kernel)
  have hg0 : AllBare _ := AllBare.of_eq hgens
  obtain ⟨f1, hf1⟩ := Aq.fnAt_of GL 0 (by decide +kernel) (by rfl)
  obtain ⟨f3, hf3⟩ := Aq.fnAt_of GL 1 (by decide +kernel) (by rfl)
  obtain ⟨f4, hf4⟩ := Aq.fnAt_of GL 2 (by decide +kernel) (by rfl)
  obtain ⟨f5, hf5⟩ := Aq.fnAt_of GL 3 (by decide +kernel) (by rfl)
  obtain ⟨f6, hf6⟩ := Aq.fnAt_of GL 4 (by decide +kernel) (by rfl)
  have hF : Fns1 _ _ f1 f3 f4 f5 := ⟨hf1, hf3, hf4, hf5⟩
  clear GL hf1 hf3 hf4 hf5
  refine ⟨.ref f6, hf6.g, ?_⟩
  wrow_args hpre hlay hrd hwl hlo
  refine law_call1 LB hW hF hf6 rfl (by decide +kernel) (by decide +kernel) ‹Heap.IsList _ _ _› ‹IntsAre _ _› (by omega) hg0 ?_
  intro h' tk g hk hg
  exact ⟨rfl, hk, rfl, hg⟩
end Aq

namespace Aq
open PySem.Calls
local macro_rules | `(tactic| walk_at "callWith ref") => `(tactic| refine callWith_f ?_)
local macro_rules | `(tactic| walk_at "exec For") => `(tactic| refine wpAny_For ?_)
local macro_rules | `(tactic| walk_at "eval Name") => `(tactic| first
  | refine ld (by assumption) (by first | assumption | rfl) ?_
  | refine nmF (by assumption) (by assumption) (by assumption) ?_
  | refine nmB (by assumption) (by assumption) bb_bytearray ?_
  | refine nmB (by assumption) (by assumption) bb_len ?_)
local macro_rules | `(tactic| walk_at "aq 1") => `(tactic| skip)
local macro_rules | `(tactic| walk_at "aq 2") => `(tactic| skip)
section
variable {w : World} {A : Around} {s : Shared} {base : Heap} {L a : Addr} {cd : Value} {mg mb : Str → Option Value} {E : Value → Shared → Prop} {m : Str → Option Value} {Q : Flow → Shared → Prop} {rest : List Stmt}
theorem law1_due {st6 : Stmt} (hs6 : st6 = (defAt P1 6).2.1.getD 6 default) {R H nd D f1 f3 f4 f5 : Addr} {vs ws us : List Value} {n j k : Nat} {row ns : List Nat} {nums : List Int} (W : Wd base mg mb) (hF : Fns1 base mg f1 f3 f4 f5) (hh : A.handled = none) (hroom : A.depth + 2 < recursionLimit) (hu : A.units + 70 < cLine)
    (F : Fr base L s.heap m) (hm1 : m "row" = some (.ref R)) (hm2 : m "needle" = some (.ref nd)) (hm3 : m "numbers" = some (.ref D)) (N : News base L s.heap [(H, bar (By row)), (R, lst vs n), (nd, lst ws j), (D, lst us k)]) (hHR : H ≠ R) (hndR : nd ≠ R) (hDR : D ≠ R)
    (hi : IntsAre vs (toZ row)) (hx : AB row) (hz : row.length ≤ 200) (hj : IntsAre ws (toZ ns)) (hn : AB ns) (hne : ns ≠ []) (hnl : ns.length ≤ 3) (hus : IntsAre us nums) (hnz : nums.length ≤ 100)
    (h : ∀ h' tk Du fvs nf vs' n', Fr base L h' (fun y => if y = "due" then some (.ref Du) else m y) → News base L h' [(Du, lst fvs nf), (H, bar (By row)), (R, lst vs' n'), (nd, lst ws j), (D, lst us k)] → Du ≠ H →
      IntsAre fvs (toZ (run ns nums 60 row 0 0).1) → IntsAre vs' (toZ (run ns nums 60 row 0 0).2) → wpC (model P1 w) A (execs rest (lawEnv1 L a cd)) Q E ⟨h', s.gens, s.drawn, tk, s.os⟩) :
    wpC (model P1 w) A (execs (st6 :: rest) (lawEnv1 L a cd)) Q E s := by
  subst hs6
  have hF5 := hF.a5
  unfold lawEnv1 at h ⊢
  show wpC _ _ (execs (.Assign [.Name _ _] (.Call (.Name _ _) _ _ _) _ :: rest) _) _ _ _
  refine wpC_execs_cons ?_
  refine wpC_of ?_
  repeat walk1
  refine fnThen hF5 F.keep ?_
  have hR := N (R, lst vs n) (by simp)
  have hH := N (H, bar (By row)) (by simp)
  have hnd := N (nd, lst ws j) (by simp)
  have hD := N (D, lst us k) (by simp)
  refine due_call (xs := row) W hR.2.2 F.keep hF.a3 hF.a4 (hF5.keeps F.keep) hroom hh hu hR.1 hi hx hz hnd.1 hndR hj hn hne hnl hD.1 hDR hus hnz fun h1 tk1 Du fvs nf vs' n' k1 hDu hDun hf hr hi' => ?_
  have F1 := kp_fr (D := [R]) F k1 (by simpa using Ne.symm hR.2.1) (by simpa using hR.2.2)
  have hDu2 := new_ne F hDun
  have hDuH : Du ≠ H := by rintro rfl; rw [hH.1] at hDun; cases hDun
  have N1 : News base L h1 [(Du, lst fvs nf), (H, bar (By row)), (R, lst vs' n'), (nd, lst ws j), (D, lst us k)] :=
    news_put (news_put (news_put (news_put (news_one (k1 _ _ (by simpa using hDR) hD.1) hD.2.1 hD.2.2) (k1 _ _ (by simpa using hndR) hnd.1) hnd.2.1 hnd.2.2) hr hR.2.1 hR.2.2) (k1 _ _ (by simpa using hHR) hH.1) hH.2.1 hH.2.2) hDu hDu2.1 hDu2.2
  clear F N
  walk1
  exact h _ _ Du fvs nf vs' n' (by assumption) (by assumption) hDuH hf hi'
theorem law1_found {st7 : Stmt} (hs7 : st7 = (defAt P1 6).2.1.getD 7 default) {news : List (Addr × Obj)} (F : Fr base L s.heap m) (N : News base L s.heap news)
    (h : ∀ h' tk Fd, Fr base L h' (fun y => if y = "found" then some (.ref Fd) else m y) → News base L h' ((Fd, lst [] 0) :: news) → (∀ p ∈ news, p.1 ≠ Fd) → wpC (model P1 w) A (execs rest (lawEnv1 L a cd)) Q E ⟨h', s.gens, s.drawn, tk, s.os⟩) :
    wpC (model P1 w) A (execs (st7 :: rest) (lawEnv1 L a cd)) Q E s := by
  subst hs7
  unfold lawEnv1 at h ⊢
  show wpC _ _ (execs (.Assign [.Name _ _] (.List _ _) _ :: rest) _) _ _ _
  refine wpC_execs_cons ?_
  refine wpC_of ?_
  have hne : ∀ p ∈ news, p.1 ≠ s.heap.objs.size := fun p hp => Nat.ne_of_lt (Heap.lt_size (N p hp).1)
  repeat walk1
  exact h _ _ s.heap.objs.size (by assumption) (by assumption) hne
end
end Aq

namespace Aq
open PySem.Calls
local macro_rules | `(tactic| walk_at "callWith ref") => `(tactic| refine callWith_f ?_)
local macro_rules | `(tactic| walk_at "exec For") => `(tactic| refine wpAny_For ?_)
local macro_rules | `(tactic| walk_at "eval Name") => `(tactic| first
  | refine ld (by assumption) (by first | assumption | rfl) ?_
  | refine nmF (by assumption) (by assumption) (by assumption) ?_
  | refine nmB (by assumption) (by assumption) bb_len ?_)
local macro_rules | `(tactic| walk_at "ite") => `(tactic| first
  | refine iteT (by first | assumption | (simp only [decide_eq_true_eq, beq_iff_eq, gt_iff_lt, ge_iff_le]; omega)) ?_
  | refine iteF (by first | assumption | (simp only [decide_eq_true_eq, beq_iff_eq, gt_iff_lt, ge_iff_le]; omega)) ?_)
local macro_rules | `(tactic| walk_at "call builtin:len") => `(tactic| (first
  | refine len_N (by assumption) (.head _) (by assumption) (by simp only [toZ_length]; omega) ?_
  | refine len_N (by assumption) (.tail _ (.tail _ (by assumption))) (by assumption) (by (try simp only [toZ_length]); omega) ?_); (try simp only [toZ_length]); intro _ _; (try dsimp only))
local macro_rules | `(tactic| walk_at "aq 1") => `(tactic| skip)
local macro_rules | `(tactic| walk_at "aq 2") => `(tactic| skip)
local macro_rules | `(tactic| walk_at "aq 3") => `(tactic| skip)
theorem wpC_callWith_f {M : Model} {A : Around} {E : Value → Shared → Prop} {s : Shared} {pos : Pos} {f : Addr} {e : Expr} {rest : List Expr} {env : Env} {Q : Value → Shared → Prop}
    (h : wpAny M A (spliced (backTo pos (starEach (e :: rest) env))) (fun vs s₁ => FnThen f s₁.heap (wpC M A (call (.ref f) vs) Q E s₁)) E s)
    (he : starEach (e :: rest) env = (false, eval e env) :: starEach rest env := by rfl) (hplain : (backTo pos (starEach rest env)).any (·.1) = false := by rfl) :
    wpC M A (callWith pos (.ref f) [] (backTo pos (starEach (e :: rest) env)) []) Q E s := by
  rw [he] at h ⊢
  refine wpC_callWith (P := fun h => ∃ o fd, h.get? f = some o ∧ o.data = .func fd) (by show ((false || (backTo pos (starEach rest env)).any (·.1)) || false) = false; rw [hplain]; rfl) (fun h hp => ?_) (Calls.evalArgs_plain h)
  obtain ⟨o, fd, ho, hd⟩ := hp
  refine ⟨.frame, .inl rfl, (Looks.ld (part := none) ho).andThen ?_⟩
  rw [hd]
  exact .now
def genBody1 : List Stmt := match (defAt P1 6).2.1.getD 8 default with
  | .For _ _ b _ _ => b
  | _ => []
section
variable {w : World} {A : Around} {s : Shared} {base : Heap} {L a : Addr} {cd : Value} {mg mb : Str → Option Value} {E : Value → Shared → Prop} {m : Str → Option Value} {Q : Flow → Shared → Prop}
theorem gen_turn {H nd D Fd f3 : Addr} {fvs ws us : List Value} {nf j k p : Nat} {tp : Tok} {fs xs ns : List Nat} {nums : List Int} {others : List (Addr × Obj)} (W : Wd base mg mb) (hF3 : FnAt base mg "_law_change" (defAt P1 3) f3) (hh : A.handled = none) (hroom : A.depth < recursionLimit)
    (F : Fr base L s.heap m) (hm1 : m "hay" = some (.ref H)) (hm2 : m "needle" = some (.ref nd)) (hm3 : m "numbers" = some (.ref D)) (hm4 : m "found" = some (.ref Fd)) (hm5 : m "at" = some (.int (p : Int) tp))
    (N : News base L s.heap ((Fd, lst fvs nf) :: (H, bar (By xs)) :: others)) (hnd : (nd, lst ws j) ∈ others) (hD : (D, lst us k) ∈ others) (hoH : ∀ q ∈ others, q.1 ≠ H) (hoF : ∀ q ∈ others, q.1 ≠ Fd) (hFH : Fd ≠ H)
    (hf : IntsAre fvs (toZ fs)) (hj : IntsAre ws (toZ ns)) (hus : IntsAre us nums) (hx : AB xs) (hn : AB ns) (hnl : ns.length ≤ 3) (hnz : nums.length ≤ 100) (hfl : fs.length < 60) (hz : xs.length ≤ 1000) (hp : p + ns.length ≤ xs.length)
    (h : ∀ h' tk nf', Fr base L h' m → News base L h' ((Fd, lst (fvs ++ [.int (p : Int) tp]) nf') :: (H, bar (By (if fs.length < nums.length then chN xs (p + ns.length) ns (nums.getD fs.length 0) else xs))) :: others) → Kp [Fd, H] s.heap h' →
      Q (if fs.length + 1 = 60 then .brk else .next) ⟨h', s.gens, s.drawn, tk, s.os⟩) :
    wpC (model P1 w) A (execs genBody1 (lawEnv1 L a cd)) Q (fun _ _ => False) s := by
  unfold lawEnv1 genBody1
  show wpC _ _ (execs (.If _ _ _ _ :: .Expr _ _ :: .If _ _ _ _ :: []) _) _ _ _
  have eb : (p : Int) + (ns.length : Int) = ((p + ns.length : Nat) : Int) := by omega
  -- the part behind the change
  have fin : ∀ h1 tk1 xs', News base L h1 ((Fd, lst fvs nf) :: (H, bar (By xs')) :: others) → Fr base L h1 m → Kp [Fd, H] s.heap h1 →
      (∀ h' tk nf', Fr base L h' m → News base L h' ((Fd, lst (fvs ++ [.int (p : Int) tp]) nf') :: (H, bar (By xs')) :: others) → Kp [Fd, H] s.heap h' → Q (if fs.length + 1 = 60 then .brk else .next) ⟨h', s.gens, s.drawn, tk, s.os⟩) →
      wpC (model P1 w) A (execs ((genBody1.getD 1 default) :: (genBody1.getD 2 default) :: []) (envOf "law" (defAt P1 6).2.2 L a cd)) Q (fun _ _ => False) ⟨h1, s.gens, s.drawn, tk1, s.os⟩ := by
    intro h1 tk1 xs' N1 F1 k1 h2
    clear F N
    refine wpC_of ?_
    show wpAny _ _ (execs (.Expr _ _ :: .If _ _ _ _ :: []) _) _ _ _
    refine wpAny_execs_cons ?_
    repeat walk1
    have hFp := N1 (Fd, lst fvs nf) (.head _)
    refine append_lst hFp.1 (by rw [hf.length, toZ_length]; omega) fun h4 hs4 ho4 => ?_
    dsimp only
    have F4 := F1.change hs4 hFp.2.1 hFp.2.2
    have N4 : News base L h4 ((Fd, lst (fvs ++ [.int (p : Int) tp]) (nf + 1)) :: (H, bar (By xs')) :: others) := by
      refine news_put (fun q hq => ?_) ho4 hFp.2.1 hFp.2.2
      have := N1 q (.tail _ hq)
      refine ⟨hs4.extBut _ _ ?_ this.1, this.2⟩
      rcases List.mem_cons.mp hq with rfl | hq
      · exact Ne.symm hFH
      · exact hoF q hq
    have k4 : Kp [Fd, H] s.heap h4 := k1.trans (Kp.of_same hs4 (.head _))
    have hf4 : IntsAre (fvs ++ [.int (p : Int) tp]) (toZ (fs ++ [p])) := by rw [toZ_append]; exact hf.append (.cons _ _ .nil)
    have hl4 : (fs ++ [p]).length = fs.length + 1 := by simp
    have h3 := h2 h4 
    clear h2 F1 N1
    by_cases h60 : fs.length + 1 = 60
    · simp only [if_pos h60] at h3
      repeat walk1
      exact h3 _ _ F4 N4 k4
    · simp only [if_neg h60] at h3
      repeat walk1
      exact h3 _ _ F4 N4 k4
  by_cases hlen : fs.length < nums.length
  · refine wpC_execs_cons ?_
    show wpC _ _ (exec (.If _ _ _ _) _) _ _ _
    refine wpC_If ?_
    repeat walk1
    simp only [if_pos hlen] at h
    show wpC _ _ (execs (.Expr (.Call (.Name _ _) _ _ _) _ :: []) _) _ _ _
    refine wpC_execs_cons ?_
    refine wpC_Expr ?_
    refine wpC_Call_name ?_
    walk1
    refine wpC_callWith_f ?_
    repeat walk1
    have hFp := N (Fd, lst fvs nf) (.head _)
    have hHp := N (H, bar (By xs)) (.tail _ (.head _))
    have hnp := N _ (.tail _ (.tail _ hnd))
    have hDp := N _ (.tail _ (.tail _ hD))
    refine item_list_ints (lst_isList hDp.1) hus (by omega) (by omega) (by omega) fun t9 => ?_
    rw [Int.toNat_natCast, eb]
    walk1
    refine fnThen hF3 F.keep ?_
    refine change_call_bar W hHp.2.2 F.keep (hF3.keeps F.keep) hroom hh hHp.1 hx (by omega) hnp.1 hj hn (by omega) hp fun h3 tk3 k3 ho3 => ?_
    have F3 := kp_fr (D := [H]) F k3 (by simpa using Ne.symm hHp.2.1) (by simpa using hHp.2.2)
    have N3 : News base L h3 ((Fd, lst fvs nf) :: (H, bar (By (chN xs (p + ns.length) ns (nums.getD fs.length 0)))) :: others) := by
      refine news_put (news_put (fun q hq => ?_) ho3 hHp.2.1 hHp.2.2) (k3 _ _ (by simpa using hFH) hFp.1) hFp.2.1 hFp.2.2
      have := N q (.tail _ (.tail _ hq))
      exact ⟨k3 _ _ (by simpa using hoH q hq) this.1, this.2⟩
    refine ⟨rfl, ?_⟩
    refine wpC_execs_nil ?_
    exact fin h3 tk3 _ N3 F3 (k3.mono (by simp)) h
  · refine wpC_execs_cons ?_
    refine wpC_of ?_
    repeat walk1
    simp only [if_neg hlen] at h
    exact fin s.heap _ xs N F Kp.refl h
end
end Aq

namespace Aq
open PySem.Calls
local macro_rules | `(tactic| walk_at "callWith ref") => `(tactic| refine callWith_f ?_)
local macro_rules | `(tactic| walk_at "exec For") => `(tactic| refine wpAny_For ?_)
local macro_rules | `(tactic| walk_at "eval Name") => `(tactic| first
  | refine ld (by assumption) (by first | assumption | rfl) ?_
  | refine nmF (by assumption) (by assumption) (by assumption) ?_
  | refine nmB (by assumption) (by assumption) bb_bytes ?_
  | refine nmB (by assumption) (by assumption) bb_len ?_)
local macro_rules | `(tactic| walk_at "aq 1") => `(tactic| skip)
local macro_rules | `(tactic| walk_at "aq 2") => `(tactic| skip)
theorem find_same : defAt P1 1 = defAt P0 1 := by rfl
theorem isGen_kp {a g : Nat} {D : List Addr} {h h' : Heap} (x : h.IsGen a g) (k : Kp D h h') (n : a ∉ D) : h'.IsGen a g := let ⟨o, nm, qn, ho, r⟩ := x; ⟨o, nm, qn, k _ _ n ho, r⟩
theorem cur_kp {base h h' : Heap} {L : Addr} {hv nv : Value} {ns : List Nat} {i : Nat} {D : List Addr} (x : Cur base L hv nv ns h i) (k : Kp D h h') (hL : L ∉ D) (hD : ∀ a ∈ D, base.get? a = none) : Cur base L hv nv ns h' i := by
  obtain ⟨m, F, a, b, c⟩ := x
  exact ⟨m, kp_fr F k hL hD, a, b, c⟩
theorem news_kp {base h h' : Heap} {L : Addr} {D : List Addr} {news : List (Addr × Obj)} (N : News base L h news) (k : Kp D h h') (hd : ∀ p ∈ news, p.1 ∉ D) : News base L h' news := kp_news N k (fun _ e => e) hd
section
variable {w : World} {A : Around} {s : Shared} {base : Heap} {L a : Addr} {cd : Value} {mg mb : Str → Option Value} {E : Value → Shared → Prop} {m : Str → Option Value} {Q : Flow → Shared → Prop} {rest : List Stmt}
/-- where a turn of the loop over the generator begins -/
def GenAt (w : World) (A : Around) (base : Heap) (L : Addr) (m : Str → Option Value) (s : Shared) (Lg ga H Fd : Addr) (nv : Value) (others : List (Addr × Obj)) (R : List Nat × List Nat) (ns : List Nat) (nums : List Int) (c : Nat) (s' : Shared) : Prop :=
  ∃ h1 tk gs m1 fs xs st fvs nf, s' = ⟨h1, s.gens.push gs, s.drawn, tk, s.os⟩ ∧ c = 61 - fs.length ∧ fs.length < 60 ∧ Fr base L h1 m1 ∧ (∀ y : Str, y ≠ "at" → m1 y = m y) ∧ News base L h1 ((Fd, lst fvs nf) :: (H, bar (By xs)) :: others) ∧ IntsAre fvs (toZ fs) ∧
    Reads ns nums R fs xs st ∧ GLive P1 w A.in1 base Lg (.ref H) nv ns (BarAt H) (60 - fs.length) gs st ∧ Cur base Lg (.ref H) nv ns h1 st ∧ h1.IsGen ga s.gens.size
theorem law1_gen {st8 : Stmt} (hs8 : st8 = (defAt P1 6).2.1.getD 8 default) {H nd D Fd f1 f3 f4 f5 : Addr} {ws us : List Value} {j k : Nat} {row ns : List Nat} {nums : List Int} {others : List (Addr × Obj)} (W : Wd base mg mb) (hF : Fns1 base mg f1 f3 f4 f5) (hh : A.handled = none) (hroom : A.depth + 1 < recursionLimit)
    (F : Fr base L s.heap m) (hm1 : m "hay" = some (.ref H)) (hm2 : m "needle" = some (.ref nd)) (hm3 : m "numbers" = some (.ref D)) (hm4 : m "found" = some (.ref Fd))
    (N : News base L s.heap ((Fd, lst [] 0) :: (H, bar (By row)) :: others)) (hnd : (nd, lst ws j) ∈ others) (hD : (D, lst us k) ∈ others) (hoH : ∀ q ∈ others, q.1 ≠ H) (hoF : ∀ q ∈ others, q.1 ≠ Fd) (hFH : Fd ≠ H)
    (hj : IntsAre ws (toZ ns)) (hus : IntsAre us nums) (hx : AB row) (hn : AB ns) (hne : ns ≠ []) (hnl : ns.length ≤ 3) (hnz : nums.length ≤ 100) (hz : row.length ≤ 200) (hg : AllBare s.gens)
    (h : ∀ h' tk g m' fvs nf xs, Fr base L h' m' → (∀ y : Str, y ≠ "at" → m' y = m y) → News base L h' ((Fd, lst fvs nf) :: (H, bar (By xs)) :: others) → IntsAre fvs (toZ (run ns nums 60 row 0 0).1) → xs = (run ns nums 60 row 0 0).2 → AB xs → xs.length ≤ 1000 → AllBare g →
      wpC (model P1 w) A (execs rest (lawEnv1 L a cd)) Q (fun _ _ => False) ⟨h', g, s.drawn, tk, s.os⟩) :
    wpC (model P1 w) A (execs (st8 :: rest) (lawEnv1 L a cd)) Q (fun _ _ => False) s := by
  subst hs8
  have hf1 := hF.a1
  unfold lawEnv1 at h ⊢
  show wpC _ _ (execs (.For (.Name _ _) _ _ _ _ :: rest) _) _ _ _
  refine wpC_execs_cons ?_
  refine wpC_For ?_
  repeat walk1
  have hndp := N _ (.tail _ (.tail _ hnd))
  have hwl : ws.length = ns.length := by rw [hj.length, toZ_length]
  refine call_bytes_ints (lst_isList hndp.1) hj ?_ (by have := sizeLine_eq; omega) hh fun h1 tn tk1 k1 => ?_
  · intro z hz'
    obtain ⟨c, hc, rfl⟩ := List.mem_map.mp hz'
    have := hn c hc
    omega
  have F1 : Fr base L h1 m := kpF F fun b o _ e => k1 b o e
  have N1 : News base L h1 _ := kpN N fun b o _ e => k1 b o e
  have e9 : byteArr (toZ ns) = By ns := rfl
  rw [e9]
  clear F N
  walk1
  refine fnThen hf1 F1.keep ?_
  have hf1' := hf1.keeps F1.keep
  rw [find_same] at hf1'
  refine gen_make (s := ⟨h1, s.gens, s.drawn, tk1, s.os⟩) hf1' (by omega) (W.lim.keeps F1.keep) fun h2 ga tk2 Lg cdg Fg hga hLg hlt => ?_
  refine wpAny_pyIter_gen hga ?_
  dsimp only at *
  have hLlt : L < h1.objs.size := F1.ns.lt
  have hLLg : L ≠ Lg := Nat.ne_of_lt (Nat.lt_of_lt_of_le hLlt hLg)
  have hLga : L ≠ ga := Nat.ne_of_lt (Nat.lt_trans (Nat.lt_of_lt_of_le hLlt hLg) hlt)
  have hbLg : base.get? Lg = none := base_lt F1 hLg
  have F2 : Fr base L h2 m := kpF F1 fun b o _ e => Fg.keep b o e
  have N2 : News base L h2 _ := kpN N1 fun b o _ e => Fg.keep b o e
  have hnew : ∀ p ∈ (Fd, lst [] 0) :: (H, bar (By row)) :: others, p.1 ≠ Lg ∧ p.1 ≠ ga := fun p hp => by
    have hl := Heap.lt_size (N1 p hp).1
    exact ⟨Nat.ne_of_lt (Nat.lt_of_lt_of_le hl hLg), Nat.ne_of_lt (Nat.lt_trans (Nat.lt_of_lt_of_le hl hLg) hlt)⟩
  have hFdp := N2 (Fd, lst [] 0) (.head _)
  have hHp := N2 (H, bar (By row)) (.tail _ (.head _))
  obtain ⟨hFd1, hFd2⟩ := hnew (Fd, lst [] 0) (.head _)
  obtain ⟨hH1, hH2⟩ := hnew (H, bar (By row)) (.tail _ (.head _))
  have ho1 : ∀ q ∈ others, q.1 ≠ Lg := fun q hq => (hnew q (.tail _ (.tail _ hq))).1
  have S : FindSpec P1 w (.ref H) (.bytes (By ns) tn) ns "bytearray.find" (BarAt H) := find_bar hn.low (by omega)
  have hCk : ∀ h h' xs, BarAt H h xs → Kp [Lg] h h' → BarAt H h' xs := fun h h' xs c k => ⟨k _ _ (by simpa using hH1) c.1, c.2⟩
  have hcur : Cur base Lg (.ref H) (.bytes (By ns) tn) ns h2 0 := ⟨_, ⟨Fg.ns, fun b o e => F2.keep b o e, Nat.le_trans F1.above (Nat.le_trans (Nat.le_of_lt hLlt) hLg)⟩, rfl, rfl, .inl ⟨rfl, rfl⟩⟩
  have hR0 := Reads.start (ns := ns) (nums := nums) hx hz
  have two : ∀ (x y : GenState), (s.gens.push x).setIfInBounds s.gens.size y = s.gens.push y := fun x y => by apply Array.ext'; simp
  clear F1 N1 hnew Fg
  refine codeC_forLoop (GenAt w A base L m s Lg ga H Fd (.bytes (By ns) tn) others (run ns nums 60 row 0 0) ns nums) ?_ 61
    ⟨h2, tk2, _, m, [], row, 0, [], 0, rfl, rfl, by simp, F2, fun _ _ => rfl, N2, .nil, hR0, gen_fresh S W hCk 60, hcur, hga⟩
  rintro c s' ⟨h3, tk3, gs, m3, fs, xs, st, fvs, nf, rfl, rfl, hfl, F3, hm3', N3, hf3, hR, hlive, hcur3, hga3⟩
  clear F2 N2 hcur hga hFdp hHp
  have hAB := hR.1
  have hH3 := N3 (H, bar (By xs)) (.tail _ (.head _))
  have hFd3 := N3 (Fd, lst fvs nf) (.head _)
  refine gen_next hh (W.lim.keeps F3.keep) (by omega) hga3 (by simp) hlive hcur3 ⟨hH3.1, hAB.low⟩ (fun _ _ _ a b => a.uniq b) (fun p tp h4 tk4 gs4 hfd K4 c4 hb4 hl4 => ?_) (fun h4 tk4 hfd K4 => ?_)
  · dsimp only
    rw [two]
    obtain ⟨q1, q2, q3, q4, q5⟩ := find_some hfd
    have hnx := Reads.next hn hnl hR hfd hfl
    have hxl := hR.2.2.1
    have hbL : base.get? L = none := by
      cases e : base.get? L with
      | none => rfl
      | some o => exact absurd (Heap.lt_size e) (Nat.not_lt.mpr F3.above)
    have F4 : Fr base L h4 m3 := kp_fr F3 K4 (by simpa using hLLg) (by simpa using hbLg)
    have N4 := news_kp N3 K4 (fun q hq => by
      rcases List.mem_cons.mp hq with rfl | hq
      · simpa using hFd1
      rcases List.mem_cons.mp hq with rfl | hq
      · simpa using hH1
      · simpa using ho1 q hq)
    clear F3 N3
    refine wpAny_assign_Name (wpAny_storeName_local rfl F4.ns (fun h5 hn5 hs5 => ?_) rfl)
    have F5 := F4.set hn5 hs5
    have N5 := N4.set hs5
    clear F4 N4
    refine gen_turn (s := ⟨h5, s.gens.push gs4, s.drawn, _, s.os⟩) (fs := fs) (xs := xs) W hF.a3 hh (by omega) F5 ((hm3' "hay" (by decide)).trans hm1) ((hm3' "needle" (by decide)).trans hm2) ((hm3' "numbers" (by decide)).trans hm3) ((hm3' "found" (by decide)).trans hm4) rfl N5 hnd hD hoH hoF hFH hf3 hj hus hAB hn hnl hnz hfl (by omega) q2
      fun h6 tk6 nf6 F6 N6 K6 => ?_
    have hf6 : IntsAre (fvs ++ [.int (p : Int) tp]) (toZ (fs ++ [p])) := by rw [toZ_append]; exact hf3.append (.cons _ _ .nil)
    have hl6 : (fs ++ [p]).length = fs.length + 1 := by simp
    have hm6 : ∀ y : Str, y ≠ "at" → (fun y : Str => if y = "at" then some (Value.int (p : Int) tp) else m3 y) y = m y := fun y hy => by
      show (if y = "at" then some (Value.int (p : Int) tp) else m3 y) = m y
      rw [if_neg hy, hm3' y hy]
    by_cases h60 : fs.length + 1 = 60
    · rw [if_pos h60]
      obtain ⟨e1, e2⟩ := hnx.finish (.inr (by rw [hl6]; exact h60))
      have hxl2 := hnx.2.2.1
      exact h h6 tk6 _ _ _ nf6 _ F6 hm6 N6 (e1 ▸ hf6) e2 hnx.1 (by omega) (hg.push hb4)
    · rw [if_neg h60]
      refine ⟨61 - (fs ++ [p]).length, by omega, h6, tk6, gs4, _, fs ++ [p], _, p + ns.length, _, nf6, rfl, rfl, by omega, F6, hm6, N6, hf6, hnx, ?_, ?_, ?_⟩
      · have e : 60 - fs.length - 1 = 60 - (fs ++ [p]).length := by omega
        rw [← e]
        exact hl4 (by omega)
      · exact cur_kp (cur_kp (D := [L]) c4 (Kp.of_same hs5 (.head _)) (by simpa using Ne.symm hLLg) (by simpa using hbL)) K6 (by simp only [List.mem_cons, List.not_mem_nil, or_false, not_or]; exact ⟨Ne.symm hFd1, Ne.symm hH1⟩) (by
          intro x hx
          simp only [List.mem_cons, List.not_mem_nil, or_false] at hx
          rcases hx with rfl | rfl
          · exact hFd3.2.2
          · exact hH3.2.2)
      · exact isGen_kp (isGen_kp (D := [L]) (isGen_kp hga3 K4 (by simpa using Nat.ne_of_gt hlt)) (Kp.of_same hs5 (.head _)) (by simpa using Ne.symm hLga)) K6 (by simp only [List.mem_cons, List.not_mem_nil, or_false, not_or]; exact ⟨Ne.symm hFd2, Ne.symm hH2⟩)
  · dsimp only
    rw [two]
    obtain ⟨e1, e2⟩ := hR.finish (.inl hfd)
    have hxl := hR.2.2.1
    have F4 : Fr base L h4 m3 := kp_fr F3 K4 (by simpa using hLLg) (by simpa using hbLg)
    have N4 := news_kp N3 K4 (fun q hq => by
      rcases List.mem_cons.mp hq with rfl | hq
      · simpa using hFd1
      rcases List.mem_cons.mp hq with rfl | hq
      · simpa using hH1
      · simpa using ho1 q hq)
    exact h h4 tk4 _ m3 fvs nf xs F4 hm3' N4 (e1 ▸ hf3) e2 hAB (by omega) (hg.push rfl)
end
end Aq

namespace Aq
open PySem.Calls
local macro_rules | `(tactic| walk_at "callWith ref") => `(tactic| refine callWith_f ?_)
local macro_rules | `(tactic| walk_at "exec For") => `(tactic| refine wpAny_For ?_)
local macro_rules | `(tactic| walk_at "eval Name") => `(tactic| first
  | refine ld (by assumption) (by first | assumption | rfl) ?_
  | refine nmF (by assumption) (by assumption) (by assumption) ?_
  | refine nmB (by assumption) (by assumption) bb_bytes ?_
  | refine nmB (by assumption) (by assumption) bb_len ?_)
local macro_rules | `(tactic| walk_at "aq 1") => `(tactic| skip)
section
variable {w : World} {A : Around} {s : Shared} {base : Heap} {L a : Addr} {cd : Value} {mg mb : Str → Option Value} {E : Value → Shared → Prop} {m : Str → Option Value} {Q : Flow → Shared → Prop}
theorem law1_ret {st9 : Stmt} (hs9 : st9 = (defAt P1 6).2.1.getD 9 default) {H Fd Du R : Addr} {fvs dvs rvs : List Value} {nf nd nr : Nat} {ps xs : List Nat} {others : List (Addr × Obj)} (hh : A.handled = none) (hu : A.units + 64 < cLine)
    (F : Fr base L s.heap m) (hm1 : m "found" = some (.ref Fd)) (hm2 : m "due" = some (.ref Du)) (hm3 : m "hay" = some (.ref H)) (hm4 : m "row" = some (.ref R))
    (N : News base L s.heap ((Fd, lst fvs nf) :: (H, bar (By xs)) :: others)) (hDu : (Du, lst dvs nd) ∈ others) (hR : (R, lst rvs nr) ∈ others)
    (hf : IntsAre fvs (toZ ps)) (hd : IntsAre dvs (toZ ps)) (hr : IntsAre rvs (toZ xs)) (hx : AB xs) (hz : xs.length ≤ 1000)
    (h : ∀ h' tk, (∀ b o, base.get? b = some o → h'.get? b = some o) → Q (.ret (.bool true)) ⟨h', s.gens, s.drawn, tk, s.os⟩) :
    wpAny (model P1 w) A (execs (st9 :: []) (lawEnv1 L a cd)) Q E s := by
  subst hs9
  unfold lawEnv1
  show wpAny _ _ (execs (.Return _ _ :: []) _) _ _ _
  have hFp := N (Fd, lst fvs nf) (.head _)
  have hHp := N (H, bar (By xs)) (.tail _ (.head _))
  have hDp := N _ (.tail _ (.tail _ hDu))
  have hRp := N _ (.tail _ (.tail _ hR))
  refine wpAny_execs_cons ?_
  repeat walk1
  refine ke_eq_ints (ns := toZ ps) (ms := toZ ps) (lst_isList hFp.1) (lst_isList hDp.1) hf hd hu ?_
  rw [decide_eq_true rfl]
  iterate 4 walk1
  refine compRule (by with_unfolding_all rfl) (by decide) rfl (by decide) rfl ?_
  walk1
  refine pyIter_barC hh hHp.1 hx.low (by omega) (fun i zs g => g = s.gens ∧ IntsAre zs (toZ (xs.take i))) ⟨rfl, .nil⟩ ?_ ?_
  · rintro E' i c tv h5 g tk zs C m5 hC hc ⟨rfl, hzs⟩ hn5 hm5 hk5
    refine wpAny_tests_nil ?_
    rw [if_pos rfl]
    refine ldVarK hn5 hm5 ?_
    refine ⟨_, _, _, rfl, Kp.refl, rfl, ?_⟩
    rw [List.take_add_one, hc, Option.toList_some, toZ_append]
    exact hzs.append (.cons _ _ .nil)
  · rintro D h5 tk g zs k hDn hD hk5 ⟨rfl, hzs⟩
    rw [List.take_length] at hzs
    have F5 : Fr base L h5 m := kpF F fun b o _ e => hk5 b o e
    have hR5 := hk5 _ _ hRp.1
    clear F N
    repeat walk1
    refine ke_eq_ints (ns := toZ xs) (ms := toZ xs) (lst_isList hD) (lst_isList hR5) hzs hr hu ?_
    rw [decide_eq_true rfl]
    repeat walk1
    exact h _ _ F5.keep
end
end Aq

namespace Aq
open PySem.Calls
theorem law_body1 : LawBody := by
  intro w A s base L a cd mg mb Q sc vs zs f1 f3 f4 f5 W hF hh hroom hu hL hI hz F hg h
  have e : (defAt P1 6).2.1 = (defAt P1 6).2.1.getD 0 default :: (defAt P1 6).2.1.getD 1 default :: (defAt P1 6).2.1.getD 2 default :: (defAt P1 6).2.1.getD 3 default :: (defAt P1 6).2.1.getD 4 default :: (defAt P1 6).2.1.getD 5 default :: (defAt P1 6).2.1.getD 6 default ::
    (defAt P1 6).2.1.getD 7 default :: (defAt P1 6).2.1.getD 8 default :: (defAt P1 6).2.1.getD 9 default :: [] := by rfl
  rw [e]
  clear e
  generalize hs0 : (defAt P1 6).2.1.getD 0 default = st0
  generalize hs1 : (defAt P1 6).2.1.getD 1 default = st1
  generalize hs2 : (defAt P1 6).2.1.getD 2 default = st2
  generalize hs3 : (defAt P1 6).2.1.getD 3 default = st3
  generalize hs4 : (defAt P1 6).2.1.getD 4 default = st4
  generalize hs5 : (defAt P1 6).2.1.getD 5 default = st5
  generalize hs6 : (defAt P1 6).2.1.getD 6 default = st6
  generalize hs7 : (defAt P1 6).2.1.getD 7 default = st7
  generalize hs8 : (defAt P1 6).2.1.getD 8 default = st8
  generalize hs9 : (defAt P1 6).2.1.getD 9 default = st9
  refine law1_nums hs0.symm hs1.symm W hh hL hI hz F rfl fun h1 tk1 m1 D us k ns F1 hm1 N1 hus hl3 hl63 => ?_
  refine law1_needle hs2.symm (s := ⟨h1, s.gens, s.drawn, tk1, s.os⟩) W F1 hm1 N1 hus hl3 hl63 fun h2 tk2 nd ws j F2 N2 hndD hws => ?_
  obtain ⟨hnAB, hnne, hnl⟩ := needle_ok (ns.getD 0 0)
  refine law1_row hs3.symm hs4.symm (s := ⟨h2, s.gens, s.drawn, tk2, s.os⟩) hh F2 hm1 rfl N2 hus hl63 fun h3 tk3 m3 R rvs rn row F3 e1 e2 e3 N3 hndR hDR hrow hrAB hrl => ?_
  refine law1_hay hs5.symm (s := ⟨h3, s.gens, s.drawn, tk3, s.os⟩) W F3 e3 N3 hrow hrAB hrl fun h4 tk4 H F4 N4 hH => ?_
  have hHR : H ≠ R := Ne.symm (hH (R, lst rvs rn) (.head _))
  refine law1_due hs6.symm (s := ⟨h4, s.gens, s.drawn, tk4, s.os⟩) W hF hh (by omega) (by omega) F4 e3 e2 e1 N4 hHR hndR hDR hrow hrAB hrl hws hnAB hnne hnl hus (by omega) fun h5 tk5 Du dvs dn rvs' rn' F5 N5 hDuH hdv hrv => ?_
  refine law1_found hs7.symm (s := ⟨h5, s.gens, s.drawn, tk5, s.os⟩) F5 N5 fun h6 tk6 Fd F6 N6 hFd => ?_
  have N7 := news_sub (l := (Fd, lst [] 0) :: (H, bar (By row)) :: [(Du, lst dvs dn), (R, lst rvs' rn'), (nd, lst ws j), (D, lst us k)]) N6 (by intro p hp; simp only [List.mem_cons, List.not_mem_nil, or_false] at hp ⊢; rcases hp with h | h | h | h | h | h <;> simp [h])
  refine law1_gen hs8.symm (s := ⟨h6, s.gens, s.drawn, tk6, s.os⟩) (j := j) (k := k) W hF hh (by omega) F6 rfl e2 e1 rfl N7 (by simp) (by simp) ?_ ?_ ?_ hws hus hrAB hnAB hnne hnl (by omega) hrl hg fun h8 tk8 g8 m8 fvs nf xs F8 hm8 N8 hfv hxs hxAB hxl hg8 => ?_
  · intro q hq
    simp only [List.mem_cons, List.not_mem_nil, or_false] at hq
    rcases hq with rfl | rfl | rfl | rfl
    · exact hDuH
    · exact Ne.symm hHR
    · exact hH (nd, lst ws j) (by simp)
    · exact hH (D, lst us k) (by simp)
  · intro q hq
    simp only [List.mem_cons, List.not_mem_nil, or_false] at hq
    rcases hq with rfl | rfl | rfl | rfl
    · exact hFd (Du, lst dvs dn) (by simp)
    · exact hFd (R, lst rvs' rn') (by simp)
    · exact hFd (nd, lst ws j) (by simp)
    · exact hFd (D, lst us k) (by simp)
  · exact Ne.symm (hFd (H, bar (By row)) (by simp))
  · rw [← hxs] at hrv
    refine wpC_of ?_
    exact law1_ret hs9.symm (s := ⟨h8, g8, s.drawn, tk8, s.os⟩) hh (by omega) F8 ((hm8 "found" (by decide)).trans rfl) ((hm8 "due" (by decide)).trans rfl) ((hm8 "hay" (by decide)).trans rfl) ((hm8 "row" (by decide)).trans e3) N8 (.head _) (.tail _ (.head _)) hfv hdv hrv hxAB hxl fun h9 tk9 k9 => h h9 tk9 g8 k9 hg8
theorem T01' : PySem.Challenge.rw_aq0004_01.Holds := T01 law_body1
end Aq

theorem PySem.Challenge.cw_aq0004_01_holds : PySem.Challenge.rw_aq0004_01.Holds := by
  exact Aq.T01 Aq.law_body1
