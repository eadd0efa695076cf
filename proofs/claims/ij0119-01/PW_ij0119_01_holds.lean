import PyProof.Rows.All
import Wide.All
import OpenK.AllK
import Wide.FinOn
import Lean
import PySem.Challenge.RW_ij0119_01
open PySem PySem.W PyProof.Rows
set_option Elab.async false
set_option linter.all false
set_option maxRecDepth 100000
set_option maxHeartbeats 8000000
open PySem PySem.W PyProof.Rows PySem.Spec PySem.Calls
namespace Mine
open_top lawTop for PySem.Challenge.rw_ij0119_01
local macro_rules | `(tactic| walk_at $s:str) => `(tactic| k_extra $s)
theorem szT {a n : Nat} (h : a ≤ n) (hn : n ≤ 16777216) : a ≤ sizeLine := by rw [sizeLine_eq]; exact Nat.le_trans h hn
theorem szN {a b n m N : Nat} (ha : a ≤ n) (hb : b ≤ m) (h : n + m ≤ N) : a + b ≤ N := Nat.le_trans (Nat.add_le_add ha hb) h
theorem szAB {a b n m : Nat} (ha : a ≤ n) (hb : b ≤ m) (h : n + m ≤ 16777216) : a + b ≤ sizeLine := by rw [sizeLine_eq]; exact Nat.le_trans (Nat.add_le_add ha hb) h
local macro_rules | `(tactic| size_fits) => `(tactic| k_extra "size_fits")
local macro_rules | `(tactic| k_all) => `(tactic| k_extra "k_all")
section
variable {M : Model} {A : Around} {E : Value → Shared → Prop} {s : Shared} {h₀ h : Heap} {g : Array GenState} {d : Drawn} {tk : Nat} {o : OsState} {L a : Addr} {m : Str → Option Value} {cn : Str} {cs : Scope} {ccd : Value} {cl : List (Str × Addr)} {x : Str} {v : Value} {news : List (Addr × Obj)}
/-- a name stored: the frame's new map is a letter of its own, the tokens a letter too -/
theorem storeX_M {Q : Unit → Shared → Prop} (F : Fr h₀ L h m) (N : News h₀ L h news)
    (k : ∀ h' tk', 1 ≤ tk' → let mk : Str → Option Value := fun y => if y = x then some v else m y; Fr h₀ L h' mk → News h₀ L h' news → Q () ⟨h', g, d, tk', o⟩)
    (hk : cs.kind = .function) (hx : (envX cn cs L a ccd cl).kindOf x = some .local) : wpAny M A (storeName (envX cn cs L a ccd cl) x v) Q E ⟨h, g, d, tk, o⟩ :=
  storeX_L F N (fun h' => k h' (tk + 1) (Nat.le_add_left 1 tk)) hk hx
theorem constI {env : Env} {i : Int} {k : Nat} {pos : Pos} {Q : Value → Shared → Prop} (h1 : Q (.int i tk) ⟨h, g, d, tk + 1, o⟩) : wpAny M A (eval (.Constant (.int i) k pos) env) Q E ⟨h, g, d, tk, o⟩ := wpAny_Constant_int h1
theorem constS {env : Env} {i : Str} {k : Nat} {pos : Pos} {Q : Value → Shared → Prop} (h1 : Q (.str i tk) ⟨h, g, d, tk + 1, o⟩) : wpAny M A (eval (.Constant (.str i) k pos) env) Q E ⟨h, g, d, tk, o⟩ := Constant_str h1
theorem argName {pos pos' : Pos} {rest : List PySem.Expr} {Q : List Value → Shared → Prop} (F : Fr h₀ L s.heap m) (hv : m x = some v)
    (k : wpAny M A (spliced (backTo pos' (starEach rest (envX cn cs L a ccd cl)))) (fun vs s₂ => Q (v :: vs) s₂) E s) (hk : cs.kind = .function) (hx : (envX cn cs L a ccd cl).kindOf x = some .local) (hd : (x == ("__debug__" : Str)) = false) :
    wpAny M A (spliced (backTo pos' (starEach (.Name x pos :: rest) (envX cn cs L a ccd cl)))) Q E s := args_cons (nameX_L F hv k hk hx hd)
theorem argName1 {pos pos' : Pos} {Q : List Value → Shared → Prop} (F : Fr h₀ L s.heap m) (hv : m x = some v)
    (k : Q [v] s) (hk : cs.kind = .function) (hx : (envX cn cs L a ccd cl).kindOf x = some .local) (hd : (x == ("__debug__" : Str)) = false) :
    wpAny M A (spliced (backTo pos' (starEach [.Name x pos] (envX cn cs L a ccd cl)))) Q E s := argName F hv (args_nil k) hk hx hd
theorem callM {env : Env} {pos : Pos} {id : String} {f0 : Value} {e : PySem.Expr} {rest : List PySem.Expr} {Q : Value → Shared → Prop}
    (k : wpAny M A (spliced (backTo pos (starEach (e :: rest) env))) (fun vs s₁ => wpAny M A (call (.builtin id) (f0 :: vs)) Q E s₁) E s)
    (he : starEach (e :: rest) env = (false, eval e env) :: starEach rest env) (hp : (backTo pos (starEach rest env)).any (·.1) = false) :
    wpAny M A (callWith pos (.builtin id) [f0] (backTo pos (starEach (e :: rest) env)) []) Q E s := callWith_method1 k he hp
theorem callM1 {pos p : Pos} {id : String} {f0 : Value} {Q : Value → Shared → Prop} (F : Fr h₀ L s.heap m) (hv : m x = some v) (k : wpAny M A (call (.builtin id) [f0, v]) Q E s)
    (hk : cs.kind = .function) (hx : (envX cn cs L a ccd cl).kindOf x = some .local) (hd : (x == ("__debug__" : Str)) = false) :
    wpAny M A (callWith pos (.builtin id) [f0] (backTo pos (starEach [.Name x p] (envX cn cs L a ccd cl))) []) Q E s := callM (argName1 F hv k hk hx hd) rfl rfl
theorem callB1 {pos p : Pos} {id : String} {Q : Value → Shared → Prop} (F : Fr h₀ L s.heap m) (hv : m x = some v) (k : wpAny M A (call (.builtin id) [v]) Q E s)
    (hk : cs.kind = .function) (hx : (envX cn cs L a ccd cl).kindOf x = some .local) (hd : (x == ("__debug__" : Str)) = false) :
    wpAny M A (callWith pos (.builtin id) [] (backTo pos (starEach [.Name x p] (envX cn cs L a ccd cl))) []) Q E s := PyProof.Rows.callWith_builtin1 (argName1 F hv k hk hx hd) rfl rfl
theorem tupM {vs : List Value} {Q : Value → Shared → Prop} (F : Fr h₀ L h m) (N : News h₀ L h news)
    (k : ∀ D h', Fr h₀ L h' m → News h₀ L h' ((D, ({ cls := .type "tuple", data := .seq vs.toArray } : Obj)) :: news) → (∀ p ∈ news, p.1 < D) → Q (.ref D) ⟨h', g, d, tk, o⟩) (hz : vs.length ≤ sizeLine) : wpAny M A (newTuple vs) Q E ⟨h, g, d, tk, o⟩ :=
  kup_newTuple F N k hz
theorem listM {vs : List Value} {Q : Value → Shared → Prop} (F : Fr h₀ L h m) (N : News h₀ L h news)
    (k : ∀ D h', Fr h₀ L h' m → News h₀ L h' ((D, listOf vs.toArray 0) :: news) → (∀ p ∈ news, p.1 < D) → Q (.ref D) ⟨h', g, d, tk, o⟩) (hz : vs.length ≤ sizeLine) : wpAny M A (newList vs) Q E ⟨h, g, d, tk, o⟩ :=
  newList_K F N k hz
theorem leaveM {R : Result → Shared → Prop} {gg : Heap} {L' : Addr} {m' : Str → Option Value} (F : Fr gg L' h m') (N : News gg L' h news)
    (k : Fr h₀ L h m → News h₀ L h news → R (.ok (.ret v)) ⟨h, g, d, tk, o⟩) : LeaveK h₀ L m gg R v ⟨h, g, d, tk, o⟩ := leaveK_ F N k
end
theorem frLet {P : Prop} {h₀ h : Heap} {L : Addr} {m : Str → Option Value} (F : Fr h₀ L h m) (k : let mk : Str → Option Value := m; Fr h₀ L h mk → P) : P := k F
section
variable {prog : Program} {w : World} {A : Around} {E : Value → Shared → Prop} {s : Shared}
theorem kind_issub_nested : builtinKind "issubclass.nested" = none := by decide +kernel
theorem plain_issub_nested : plainId "issubclass.nested" = true := by decide +kernel
theorem args_issub_nested (a b c : Value) : argsOk "issubclass.nested" ⟨[a, b, c], []⟩ := by unfold argsOk; kernel_rfl
theorem sub_str_str : isSubtype (.type "str") (.type "str") = pure true := by rw [isSubtype_type]; kernel_rfl
theorem issub_self_str {dep : Int} {tk : Tok} {Q : Fin → Shared → Prop} (hq : Q (.done (.ret (.bool true))) s) :
    wpAny (model prog w) A (Builtin.«issubclass.nested» ⟨[.type "str", .type "str", .int dep tk], []⟩) Q E s := by
  have hm : typeOf (.type "str") = pure (.type "type") := by kernel_rfl
  have hself := sub_str_str
  repeat (any_goals (first | assumption | (rw [if_pos hm]) | (rw [hself]) | wp_step))
theorem issub_nested_tuple {tp : Addr} {vs cs : List Value} {tk : Tok} {Q : Fin → Shared → Prop} (hv : vs = .type "str" :: cs)
    (htp : s.heap.get? tp = some { cls := .type "tuple", data := .seq vs.toArray })
    (hq : Q (.done (.ret (.bool true))) s) : wpAny (model prog w) A (Builtin.«issubclass.nested» ⟨[.type "str", .ref tp, .int 0 tk], []⟩) Q E s := by
  obtain ⟨h, g, d, t, os⟩ := s
  have hT2 : (⟨h, g, d, t, os⟩ : Shared).TypeIs (.ref tp) "tuple" := ⟨_, htp, rfl⟩
  have f1 := F.isi_sub_tuple
  repeat (any_goals (first | assumption | wp_step))
  refine wpAny_arrayLoop ?_
  simp only [Option.getD_some, List.toList_toArray]
  rw [hv, List.forIn_cons]
  refine wpAny_bind (wpAny_bind (call_function_meets kind_issub_nested plain_issub_nested F.entry_issubclass_nested (args_issub_nested _ _ _) (S := fun _ R s => R (.ok (.ret (.bool true))) s) (fun _ _ _ _ _ hs => issub_self_str hs) ?_))
  show wpAny _ _ (truthy (.bool true) >>= _) _ _ _
  refine wpAny_bind (m := truthy (.bool true)) (wpAny_pure ?_)
  refine wpAny_bind (wpAny_pure (wpAny_pure (wpAny_pure ?_)))
  simp only [if_true]
  repeat (any_goals (first | assumption | wp_step))
theorem issub_str_tuple {tp : Addr} {vs cs : List Value} {Q : Value → Shared → Prop} (hv : vs = .type "str" :: cs)
    (htp : s.heap.get? tp = some { cls := .type "tuple", data := .seq vs.toArray })
    (hq : Q (.bool true) s) : wpAny (model prog w) A (call (.builtin "issubclass") [.type "str", .ref tp]) Q E s :=
  call_issubclass (S := fun _ R s => s.heap.get? tp = some { cls := .type "tuple", data := .seq vs.toArray } ∧ R (.ok (.ret (.bool true))) s)
    (fun _ _ _ _ _ hs => issubclass_outer (issub_nested_tuple hv hs.1 hs.2)) ⟨htp, hq⟩
end
theorem typeAttr {prog : Program} {w : World} {A : Around} {E : Value → Shared → Prop} {s : Shared} {K : Frag} {T : String} {h₀ : Heap} {L : Addr} {m : Str → Option Value} {name : Str} {v : Value}
    {expr : Bool} {Q : Value → Shared → Prop} (F : Fr h₀ L s.heap m) (X₀ : K.In h₀) (ht : kitMeta T = true) (hs : Manifest.isStub T = false)
    (e : findCls K (.type T) (.type "type") name = some (.val v)) (hh : handedIn v = true)
    (h : ∀ u, Q v { s with toks := u }) : wpAny (model prog w) A (getAttr (.type T) name expr) Q E s := by
  have X := X₀.keeps F.keep
  have hstub : opaqueClassAbove (.type T) = pure none := by unfold opaqueClassAbove; dsimp only; rw [hs]; rfl
  have L0 : Looks (model prog w) s.heap (typeOf (.type T)) (.type "type") := Looks.of_pure (kitMeta_of ht)
  have LO : Looks (model prog w) s.heap (opaqueClassAbove (.type T)) none := Looks.of_pure hstub
  have hg : findIn K (.type "type") "__getattribute__" = some (some (.builtin "type.__getattribute__")) := type_tga
  refine cls_open X LO L0 hg (looks_hook X (r := none) (by rfl)) (by show subIn K _ _ = _; rfl) e ?_
  exact wpAny_pure (handed_on hh (h _))
-- what the table says of map
theorem mp_mro : mroOf (.type "map") = pure [.type "map", .type "object"] := by rw [mroOf_type]; kernel_rfl
theorem mp_lookNew : typeLookup (.type "map") "__new__" = pure (some (.builtin "map.__new__")) := by rw [typeLookup_type, builtinLookup_eq_fast]; kernel_rfl
theorem mp_owner : Manifest.owners.lookup (String.ofList ['p', 'a', 'm'].reverse) = some Manifest.sig_map := by kernel_rfl
theorem mp_slotInit : Slot "map" "__init__" "object.__init__" :=
  .of (owner := "object") (n := "__init__") (by rw [typeLookup_type, builtinLookup_eq_fast]; kernel_rfl) (by decide +kernel) (by decide +kernel) (by decide +kernel)
    (by first | exact .inl (by decide +kernel) | exact .inr (by decide +kernel)) (by rw [isSubtype_type]; kernel_rfl)
theorem mp_slotIter : Slot "map" "__iter__" "map.__iter__" :=
  .of (owner := "map") (n := "__iter__") (by rw [typeLookup_type, builtinLookup_eq_fast]; kernel_rfl) (by decide +kernel) (by decide +kernel) (by decide +kernel)
    (by first | exact .inl (by decide +kernel) | exact .inr (by decide +kernel)) (by rw [isSubtype_type]; kernel_rfl)
theorem mp_slotNext : Slot "map" "__next__" "map.__next__" :=
  .of (owner := "map") (n := "__next__") (by rw [typeLookup_type, builtinLookup_eq_fast]; kernel_rfl) (by decide +kernel) (by decide +kernel) (by decide +kernel)
    (by first | exact .inl (by decide +kernel) | exact .inr (by decide +kernel)) (by rw [isSubtype_type]; kernel_rfl)
theorem mp_argsIter (a : Value) : argsOk "map.__iter__" ⟨[a], []⟩ := by
  unfold argsOk; rw [signature?_of (id := "map.__iter__") (n := ['_', '_', 'r', 'e', 't', 'i', '_', '_']) (o := ['p', 'a', 'm']) (by kernel_rfl) mp_owner]; kernel_rfl
theorem mp_argsNext (a : Value) : argsOk "map.__next__" ⟨[a], []⟩ := by
  unfold argsOk; rw [signature?_of (id := "map.__next__") (n := ['_', '_', 't', 'x', 'e', 'n', '_', '_']) (o := ['p', 'a', 'm']) (by kernel_rfl) mp_owner]; kernel_rfl
theorem mp_entryNext : entryFor table "map.__next__" = some Builtin.«map.__next__» := entryFor_of_tree (by kernel_rfl)
theorem mp_entryNew : entryFor table "map.__new__" = some Builtin.«map.__new__» := entryFor_of_tree (by kernel_rfl)
theorem mp_entryIter : entryFor table "map.__iter__" = some Builtin.«dict_keyiterator.__iter__» :=
  entryFor_alias (id' := "dict_keyiterator.__iter__") (by kernel_rfl) (by first | rfl | decide +kernel | (unfold String.splitOn; simp +decide [String.splitOnAux])) (by decide +kernel) (by kernel_rfl)
theorem mp_called : TypeCalled "map" "map.__new__" "object.__init__" :=
  ⟨by decide +kernel, by decide +kernel, ⟨_, _, mp_mro⟩, madeBy_type mp_mro mp_lookNew (by decide +kernel), by decide +kernel, by rw [isSubtype_type]; kernel_rfl, mp_slotInit⟩
theorem mp_typeCall (a b : Value) : checkTypeCall "map" ⟨[a, b], []⟩ = pure () := by kernel_rfl
theorem mp_newCall (a b : Value) : checkBuiltinCall "map.__new__" ⟨[.type "map", a, b], []⟩ = pure () := by kernel_rfl
theorem mp_sub : isSubtype (.type "map") (.type "map") = pure true := by rw [isSubtype_type]; kernel_rfl
theorem mp_noLen : typeLookup (.type "map") "__len__" = pure none := by rw [typeLookup_type, builtinLookup_eq_fast]; kernel_rfl
theorem mp_noHint : typeLookup (.type "map") "__length_hint__" = pure none := by rw [typeLookup_type, builtinLookup_eq_fast]; kernel_rfl

noncomputable abbrev IsMap (h : Heap) (M TI : Addr) (f : Value) : Prop := h.get? M = some { cls := .type "map", data := .fields #[.ref TI, f] }
noncomputable abbrev IsOne (h : Heap) (T : Addr) (v : Value) : Prop := h.get? T = some { cls := .type "tuple", data := .seq #[v] }

noncomputable abbrev mpH1 (h : Heap) (l : Addr) : Heap := h.push { cls := .type "list_iterator", data := .fields #[.ref l, .int 0 0] }
noncomputable abbrev mpH2 (h : Heap) (l : Addr) : Heap := (mpH1 h l).push { cls := .type "tuple", data := .seq #[.ref h.objs.size] }
noncomputable abbrev mpH3 (h : Heap) (l : Addr) (f : Value) : Heap := (mpH2 h l).push { cls := .type "map", data := .fields #[.ref (mpH1 h l).objs.size, f] }

theorem mp_new (f : Value) (l : Addr) (xs : Array Value) :
    Meets (Builtin.«map.__new__» ⟨[.type "map", f, .ref l], []⟩) (fun _ R s => s.heap.IsList l xs ∧ R (.ok (.ret (.ref (mpH2 s.heap l).objs.size))) { s with heap := mpH3 s.heap l f }) :=
  .of_wp fun prog w A R s h => by
    obtain ⟨hp, g, d, tk, os⟩ := s; obtain ⟨hl1, h⟩ := h
    have hsub := mp_sub
    have hL1 : Heap.IsList (Shared.heap ⟨hp, g, d, tk, os⟩) l xs := hl1
    wp_walk using wpAny_pyIter_list hL1
    exact ⟨_, rfl, h⟩
section
variable {prog : Program} {w : World} {A : Around} {E : Value → Shared → Prop} {s : Shared}
theorem mp_call {f : Value} {l : Addr} {xs : Array Value} {Q : Value → Shared → Prop} (hl : s.heap.IsList l xs)
    (h : ∀ h', IsMap h' (s.heap.objs.size + 2) (s.heap.objs.size + 1) f → IsOne h' (s.heap.objs.size + 1) (.ref s.heap.objs.size) → h'.get? s.heap.objs.size = some { cls := .type "list_iterator", data := .fields #[.ref l, .int 0 0] } → h'.objs.size = s.heap.objs.size + 3 →
      (∀ c o, s.heap.get? c = some o → h'.get? c = some o) → Q (.ref (s.heap.objs.size + 2)) { s with heap := h' }) :
    wpAny (model prog w) A (call (.type "map") [f, .ref l]) Q E s := by
  refine callType_new mp_called (by decide) (mp_typeCall _ _) (mp_newCall _ _) (fun obj => F.args_object_init_3 obj _ _) mp_entryNew (mp_new f l xs) ⟨hl, ?_⟩
  have z1 : (mpH1 s.heap l).objs.size = s.heap.objs.size + 1 := Heap.size_push ..
  have z2 : (mpH2 s.heap l).objs.size = s.heap.objs.size + 2 := by rw [Heap.size_push, z1]
  have z3 : (mpH3 s.heap l f).objs.size = s.heap.objs.size + 3 := by rw [Heap.size_push, z2]
  have g3 : (mpH3 s.heap l f).get? (mpH2 s.heap l).objs.size = some _ := Heap.get?_push_size _ rfl
  have g2 : (mpH3 s.heap l f).get? (mpH1 s.heap l).objs.size = some _ := Heap.get?_push_of_some _ (Heap.get?_push_size _ rfl)
  have g1 : (mpH3 s.heap l f).get? s.heap.objs.size = some _ := Heap.get?_push_of_some _ (Heap.get?_push_of_some _ (Heap.get?_push_size _ rfl))
  show _ ∧ _
  rw [z1, z2] at g3
  rw [z1] at g2
  rw [z2]
  exact ⟨⟨_, g3, rfl⟩, h _ g3 g2 g1 z3 fun c o x => Heap.get?_push_of_some _ (Heap.get?_push_of_some _ (Heap.get?_push_of_some _ x))⟩

theorem mp_pyIter {M TI : Addr} {f : Value} {Q : Value → Shared → Prop} (hz : IsMap s.heap M TI f) (h : Q (.ref M) s) : wpAny (model prog w) A (pyIter (.ref M)) Q E s := by
  have hT : s.TypeIs (.ref M) "map" := ⟨_, hz, rfl⟩
  refine wpAny_pyIter_slot hT mp_slotIter (wpAny_call_entry mp_slotIter hT mp_entryIter ?_ (mp_argsIter _))
  show wpAny _ _ (ret (.ref M)) _ _ s
  exact wpAny_pure ⟨_, rfl, "map", _, hT, mp_slotNext.lookup, h⟩

/-- the function that is mapped: a text in, a text out, nothing stored -/
noncomputable def TextFn (prog : Program) (w : World) (f : Value) (g : Str → Str) (n : Nat) : Prop :=
  ∀ (A : Around) (s : Shared) (x : Str) (t : Tok) (Q E : Value → Shared → Prop), x.length ≤ n → (∀ t' k, Q (.str (g x) t') { s with toks := k }) → wpAny (model prog w) A (call f [.str x t]) Q E s

theorem mp_next_item {M TI I l : Addr} {k n : Nat} {xs : Array Value} {f : Value} {g : Str → Str} {x : Str} {u : Tok} {Q : Fin → Shared → Prop} (hMI : M ≠ I) (hf : TextFn prog w f g n)
    (hz : IsMap s.heap M TI f) (hTI : IsOne s.heap TI (.ref I)) (h1 : s.heap.IsListIter I l k) (hl : s.heap.IsList l xs) (hx : xs[k]? = some (.str x u)) (hn : x.length ≤ n)
    (hQ : ∀ h' t tk, h'.IsListIter I l (k + 1) → Heap.SameBut I s.heap h' → Q (.done (.ret (.str (g x) t))) { s with heap := h', toks := tk }) :
    wpAny (model prog w) A (Builtin.«map.__next__» ⟨[.ref M], []⟩) Q E s := by
  show wpAny _ _ (field (.ref M) 0 >>= _) _ _ _
  refine wpAny_bind (wpAny_field hz rfl (x := .ref TI) rfl ?_)
  refine wpAny_bind (wpAny_seqItems hTI rfl ?_)
  refine wpAny_bind ?_
  refine wpAny_mono (Q := fun a s' => a = (#[.str x u] : Array Value) ∧ ∃ h', s' = { s with heap := h' } ∧ h'.IsListIter I l (k + 1) ∧ Heap.SameBut I s.heap h') ?_ ?_ fun _ _ e => e
  · rw [← Array.forIn_toList]
    show wpAny _ _ (forIn [Value.ref I] (#[] : Array Value) _) _ _ _
    rw [List.forIn_cons]
    refine wpAny_bind (wpAny_bind (wpAny_holding ?_))
    refine wpAny_nextOf_list_item h1 hl hx fun h' hi hs => ?_
    refine wpAny_pure ?_
    exact wpAny_pure ⟨rfl, h', rfl, hi, hs⟩
  · rintro _ _ ⟨rfl, h', rfl, hi, hs⟩
    have hz' : IsMap h' M TI f := hs.extBut _ _ hMI hz
    refine wpAny_bind (wpAny_field hz' rfl (x := f) rfl ?_)
    refine wpAny_bind ?_
    refine wpAny_holding ?_
    refine hf _ _ x u _ _ hn fun t' tk => ?_
    refine wpAny_bind (wpAny_letGo ?_)
    exact wpAny_pure (hQ h' t' tk hi hs)

theorem mp_next_end {M TI I l : Addr} {k : Nat} {xs : Array Value} {f : Value} {Q : Fin → Shared → Prop} (hh : A.handled = none)
    (hz : IsMap s.heap M TI f) (hTI : IsOne s.heap TI (.ref I)) (h1 : s.heap.IsListIter I l k) (hl : s.heap.IsList l xs) (hx : xs[k]? = none)
    (hE : ∀ h' e, Heap.ExtBut I s.heap h' → (∃ o, h'.get? e = some o ∧ o.cls = .type "StopIteration") → E (.ref e) { s with heap := h' }) :
    wpAny (model prog w) A (Builtin.«map.__next__» ⟨[.ref M], []⟩) Q E s := by
  show wpAny _ _ (field (.ref M) 0 >>= _) _ _ _
  refine wpAny_bind (wpAny_field hz rfl (x := .ref TI) rfl ?_)
  refine wpAny_bind (wpAny_seqItems hTI rfl ?_)
  refine wpAny_bind ?_
  rw [← Array.forIn_toList]
  show wpAny _ _ (forIn [Value.ref I] (#[] : Array Value) _) _ _ _
  rw [List.forIn_cons]
  refine wpAny_bind (wpAny_bind (wpAny_holding ?_))
  exact wpAny_nextOf_list_end hh h1 hl hx fun h' e hs he => hE h' e hs he

theorem mp_walks {M TI I l : Addr} {n : Nat} {xs : Array Value} {f : Value} {g : Str → Str} (hh : A.handled = none) (hMI : M ≠ I) (hTI : TI ≠ I) (hlI : l ≠ I) (hf : TextFn prog w f g n)
    (hstr : ∀ (i : Nat) (v : Value), xs[i]? = some v → ∃ y u, v = Value.str y u ∧ y.length ≤ n) :
    Walks prog w A M [M, TI, I, l] [I] xs.size (fun i v => ∃ y u t, xs[i]? = some (.str y u) ∧ v = .str (g y) t)
      (fun i h => IsMap h M TI f ∧ IsOne h TI (.ref I) ∧ h.IsListIter I l i ∧ h.IsList l xs) where
  sub := fun c hc => by simp at hc ⊢; simp [hc]
  frame := fun i h h' hst hk => by
    obtain ⟨a, b, c, d⟩ := hst
    exact ⟨hk M (by simp) _ a, hk TI (by simp) _ b, c.at fun o e => hk I (by simp) o e, d.at fun o e => hk l (by simp) o e⟩
  item := fun i s Q E hi hst hQ => by
    obtain ⟨a, b, c, d⟩ := hst
    obtain ⟨y, u, e, hy⟩ := hstr i _ (Array.getElem?_eq_getElem hi)
    have e' : xs[i]? = some (.str y u) := by rw [Array.getElem?_eq_getElem hi, e]
    have hT : s.TypeIs (.ref M) "map" := ⟨_, a, rfl⟩
    unfold pyNext
    refine wpAny_bind (wpAny_attempt (wpAny_callSpecial?_slot (name := Str.ofString "__next__") hT mp_slotNext
      (wpAny_call_entry mp_slotNext hT mp_entryNext (mp_next_item hMI hf a b c d e' hy fun h' t tk hi' hs => ?_) (mp_argsNext _))))
    refine ⟨_, rfl, wpAny_pure (hQ _ h' tk ⟨y, u, t, e', rfl⟩ ⟨hs.extBut _ _ hMI a, hs.extBut _ _ hTI b, hi', d.extBut hs.extBut hlI⟩ fun b o hb e => hs.extBut b o (fun h => hb (by simp [h])) e)⟩
  done := fun s Q E hst hQ => by
    obtain ⟨a, b, c, d⟩ := hst
    have hT : s.TypeIs (.ref M) "map" := ⟨_, a, rfl⟩
    unfold pyNext
    refine wpAny_bind (wpAny_attempt (wpAny_callSpecial?_slot (name := Str.ofString "__next__") hT mp_slotNext
      (wpAny_call_entry mp_slotNext hT mp_entryNext (mp_next_end hh a b c d (by simp) fun h' e hk he => ?_) (mp_argsNext _))))
    obtain ⟨o, ho, hc⟩ := he
    refine wpAny_bind (wpAny_isInstance (T := "StopIteration") (b := true) ⟨o, ho, hc⟩ isSubtype_stop ?_)
    exact wpAny_pure (hQ _ s.toks fun b o hb e => hk b o (fun h => hb (by simp [h])) e)
  self := fun i s Q E hst hQ => mp_pyIter hst.1 hQ

theorem mp_collect {I : Addr} {fp wr : List Addr} {G : Array GenState → Array GenState → Prop} {n : Nat} {P : Nat → Value → Prop} {St : Nat → Shared → Prop} {Q : List Value → Shared → Prop}
    (W : WalksS prog w A.in1 I fp wr G n P St) (hT : ∀ i s, St i s → s.TypeIs (.ref I) "map") (hst : St 0 s) (hfp : ∀ b ∈ fp, b < s.heap.objs.size) (hI : I ∈ fp)
    (hQ : ∀ s' acc, Moved wr G s s' → ItemsOf P acc n → Q acc.toList s') (hn : n ≤ sizeLine) : wpAny (model prog w) A (collect (.ref I)) Q E s := by
  have hSf : s.heap.objs.size ∉ fp := fun hm => Nat.lt_irrefl _ (hfp _ hm)
  have hSI : s.heap.objs.size ≠ I := fun e => hSf (e ▸ hI)
  generalize hH : s.heap.push { cls := .type "list", data := .seq ([] : List Value).toArray } = H
  have hS₁ : H.get? s.heap.objs.size = some { cls := .type "list", data := .seq ([] : List Value).toArray } := by rw [← hH]; exact Heap.get?_push_size _ rfl
  have hst₁ : St 0 { s with heap := H } := by
    rw [← hH]; exact W.frame 0 s _ s.toks hst (Nat.le_refl _) fun b _ o e => Heap.get?_push_of_some _ e
  unfold collect
  refine wpAny_bind (wpAny_runValue (codeAny_builtin F.entry_proto_collect ?_))
  rw [Around.under_plainId F.plain_proto_collect _]
  show wpAny _ A.in1 (newList [] >>= fun l => again (.builtin "list.__iadd__" ⟨[l, .ref I], []⟩)) _ _ s
  refine wpAny_bind (wpAny_newObj_type ?_)
  rw [hH]
  refine wpAny_pure ⟨plainId_quiet F.plain_list_iadd _, codeAny_builtin F.entry_list_iadd ?_⟩
  rw [Around.under_plainId F.plain_list_iadd _]
  show wpAny _ A.in1 (Builtin.List.listExtendWith (.ref s.heap.objs.size) (.ref I) (.ref s.heap.objs.size)) _ _ _
  unfold Builtin.List.listExtendWith
  refine wpAny_bind (wpAny_typeOf (hT 0 _ hst₁) ?_)
  have h1 : Builtin.List.listSameRef (.ref s.heap.objs.size) (.ref I) = false := by simp [Builtin.List.listSameRef, hSI]
  rw [if_neg (by rw [h1]; decide)]
  refine wpAny_bind (W.self 0 _ _ _ hst₁ ?_)
  refine wpAny_bind (wpAny_holding ?_)
  unfold Builtin.List.listLengthHint
  refine wpAny_bind (wpAny_specialOf (hT 0 _ hst₁) mp_noLen ?_)
  show wpAny _ A.in1 (specialOf (Value.ref I) (Str.ofString "__length_hint__") >>= _) _ _ _
  refine wpAny_bind (wpAny_specialOf (hT 0 _ hst₁) mp_noHint ?_)
  refine wpAny_pure ?_
  show wpAny _ A.in1 (rule "list.extend.makes-room" >>= fun _ => Builtin.List.listTouch (.ref s.heap.objs.size) >>= fun _ =>
    again (.builtin "list.extend.loop" ⟨[.ref s.heap.objs.size, .ref I, .ref s.heap.objs.size], []⟩)) _ _ _
  refine wpAny_bind (wpAny_rule ?_)
  refine wpAny_bind ?_
  show wpAny _ A.in1 (updateSeq s.heap.objs.size (·.push .none) >>= fun _ => updateSeq s.heap.objs.size (·.pop)) _ _ _
  refine wpAny_bind (wpAny_updateSeq hS₁ rfl ?_)
  have hS₂ := Heap.get?_update_self (Obj.mapSeq (·.push Value.none)) hS₁ rfl
  refine wpAny_updateSeq hS₂ rfl ?_
  have hS₃ := Heap.get?_update_self (Obj.mapSeq (·.pop)) hS₂ rfl
  have oth : ∀ b o, b ≠ s.heap.objs.size → H.get? b = some o → ((H.update s.heap.objs.size (Obj.mapSeq (·.push Value.none))).update s.heap.objs.size (Obj.mapSeq (·.pop))).get? b = some o :=
    fun b o hb e => (Heap.get?_update_other _ _ (Ne.symm hb)).trans ((Heap.get?_update_other _ _ (Ne.symm hb)).trans e)
  refine wpAny_pure ⟨plainId_quiet F.plain_extend_loop _, codeAny_extend_loopS W hn _ hSf _ n 0 _ _ _ rfl (Nat.zero_le _)
    (W.frame 0 ({ s with heap := H } : Shared) _ s.toks hst₁ (Nat.le_refl _) fun b hb o e => oth b o (fun h => hSf (h ▸ hb)) e) hS₃ (ItemsOf.nil P) fun s' acc' c' hm hS' hacc => ?_⟩
  show wpAny _ A (load s.heap.objs.size >>= _) _ _ s'
  refine wpAny_bind (wpAny_load hS' (wpAny_pure ?_))
  subst hH
  refine hQ s' acc' (Moved.drop_new (o := { cls := .type "list", data := .seq ([] : List Value).toArray }) (tk := s.toks) (Moved.trans W.gtrans ((Moved.refl W.grefl).then_heap (Nat.le_refl _) fun b o hb e => ?_) hm) (Nat.le_refl _)) hacc
  exact oth b o (fun h => hb (h ▸ List.mem_cons_self)) e

theorem mp_items {xs : List (Str × Tok)} {g : Str → Str} {acc : List Value}
    (h : ItemsOf (fun i v => ∃ y u t, (strValues xs).toArray[i]? = some (.str y u) ∧ v = .str (g y) t) acc.toArray xs.length) : ∃ ts : List (Str × Tok), acc = strValues ts ∧ ts.map (·.1) = (xs.map (·.1)).map g := by
  obtain ⟨hn, hp⟩ := h
  simp only [List.size_toArray] at hn
  induction xs generalizing acc with
  | nil =>
    have : acc = [] := List.eq_nil_of_length_eq_zero (by simpa using hn)
    subst this
    exact ⟨[], rfl, rfl⟩
  | cons x r ih =>
    cases acc with
    | nil => simp at hn
    | cons v acc =>
      have h0 := hp 0 v (by simp)
      obtain ⟨y, u, t, e, rfl⟩ := h0
      have e' : x.1 = y := by
        simp only [strValues, List.map_cons, List.getElem?_toArray, List.getElem?_cons_zero] at e
        injection e with e; injection e
      obtain ⟨ts, ha, hm⟩ := ih (acc := acc) (fun j v hj => by
        have := hp (j + 1) v (by simpa using hj)
        simpa [strValues] using this) (by simpa using hn)
      refine ⟨(g y, t) :: ts, by simp [strValues] at ha ⊢; exact ha, by simp [hm, e']⟩

theorem mp_join {sep : Str} {t : Tok} {M TI I l : Addr} {xs : List (Str × Tok)} {n : Nat} {f : Value} {g : Str → Str} {Q : Value → Shared → Prop} (hh : A.handled = none) (hf : TextFn prog w f g n)
    (hz : IsMap s.heap M TI f) (hTI : IsOne s.heap TI (.ref I)) (h1 : s.heap.IsListIter I l 0) (hl : s.heap.IsList l (strValues xs).toArray) (hMI : M ≠ I) (hTn : TI ≠ I) (hlI : l ≠ I)
    (hlen : ∀ x ∈ xs, x.1.length ≤ n) (hsz : xs.length ≤ sizeLine) (hok : JoinOk sep ((xs.map (·.1)).map g) = true)
    (hq : ∀ h' t' k, (∀ b o, b ≠ I → s.heap.get? b = some o → h'.get? b = some o) → Q (.str (Txt.join sep ((xs.map (·.1)).map g)) t') { s with heap := h', toks := k }) :
    wpAny (model prog w) A (call (.builtin "str.join") [.str sep t, .ref M]) Q E s := by
  refine wpAny_call (codeAny_call_builtin F.slot_str_join.plain F.entry_str_join (F.slot_str_join.check _ _ _ _ _ _ _ _ (typeIs_str _ _ _) (F.args_str_join_2 _ _) ?_))
  have hT : s.TypeIs (.ref M) "map" := ⟨_, hz, rfl⟩
  rw [join_tree_other]
  refine wpAny_bind (wpAny_typeOf hT ?_)
  rw [if_neg (by decide)]
  refine wpAny_bind (wpAny_tryCatch (mp_pyIter hz ?_))
  have hstr : ∀ (i : Nat) (v : Value), (strValues xs).toArray[i]? = some v → ∃ y u, v = Value.str y u ∧ y.length ≤ n := by
    intro i v hv
    simp only [List.getElem?_toArray, strValues, List.getElem?_map] at hv
    cases hx : xs[i]? with
    | none => rw [hx] at hv; cases hv
    | some p =>
      rw [hx] at hv
      cases hv
      exact ⟨_, _, rfl, hlen p (List.mem_of_getElem? hx)⟩
  have W := (mp_walks (A := A.in1.in1) (M := M) (TI := TI) (l := l) (I := I) hh hMI hTn hlI hf hstr).toS
  have hsize : (strValues xs).toArray.size = xs.length := by simp [strValues]
  rw [hsize] at W
  have hlt : ∀ b ∈ [M, TI, I, l], b < s.heap.objs.size := by
    intro b hb
    simp only [List.mem_cons, List.not_mem_nil, or_false] at hb
    obtain ⟨o1, e1, _⟩ := h1
    obtain ⟨o2, e2, _⟩ := hl
    rcases hb with rfl | rfl | rfl | rfl
    · exact Heap.lt_size hz
    · exact Heap.lt_size hTI
    · exact Heap.lt_size e1
    · exact Heap.lt_size e2
  refine wpAny_bind (mp_collect W (fun _ _ st => ⟨_, st.1, rfl⟩) ⟨hz, hTI, h1, hl⟩ hlt (by simp) (fun s' acc hm hacc => ?_) hsz)
  obtain ⟨ts, ha, hm'⟩ := mp_items (xs := xs) (g := g) (acc := acc.toList) (by simpa using hacc)
  rw [ha]
  rw [← hm'] at hok hq
  unfold JoinOk at hok
  rw [Bool.not_eq_true'] at hok
  have gv : Gives (joinTail sep (strValues ts)) (joinMade sep ts) := by
    have g0 := gives_joinTail sep ts hok
    cases ts with
    | nil => exact g0
    | cons p r => cases r with
      | nil => exact g0
      | cons q r' => exact g0
  refine gv prog w A (wants Q E) s' (post_join ts ⟨joinFit_length hok, fun t' k => ?_⟩)
  have hs' : s' = { s with heap := s'.heap, toks := s'.toks } := by
    obtain ⟨h', g', d', t', o'⟩ := s'
    have e1 := hm.gens
    have e2 := hm.drawn
    have e3 := hm.os
    simp only at e1 e2 e3
    subst e2 e3
    first | (subst e1; rfl) | (cases e1; rfl)
  have := hq s'.heap t' k fun b o hb e => hm.heap b o (fun h => hb (by simpa using h)) e
  rw [hs']
  exact this
end
section
variable {prog : Program} {w : World} {A : Around} {E : Value → Shared → Prop} {s : Shared} {h₀ : Heap} {L l : Addr} {m : Str → Option Value} {news : List (Addr × Obj)}
noncomputable abbrev mapObj (TI : Addr) (f : Value) : Obj := { cls := .type "map", data := .fields #[.ref TI, f] }
noncomputable abbrev oneObj (v : Value) : Obj := { cls := .type "tuple", data := .seq #[v] }
noncomputable abbrev liObj (l : Addr) : Obj := { cls := .type "list_iterator", data := .fields #[.ref l, .int 0 0] }
theorem mp_callN {f : Value} {vs : List Value} {n : Nat} {Q : Value → Shared → Prop} (Fh : Fr h₀ L s.heap m) (N : News h₀ L s.heap news) (hl : (l, listOf vs.toArray n) ∈ news)
    (h : ∀ I TI M h', Fr h₀ L h' m → News h₀ L h' ((M, mapObj TI f) :: (TI, oneObj (.ref I)) :: (I, liObj l) :: news) → (∀ p ∈ news, p.1 < I) → I < TI → TI < M → Q (.ref M) { s with heap := h' }) :
    wpAny (model prog w) A (call (.type "map") [f, .ref l]) Q E s := by
  have hL : s.heap.IsList l vs.toArray := ⟨_, (N _ hl).1, rfl, n, rfl⟩
  refine mp_call hL fun h' a b c z k => ?_
  have Fh' : Fr h₀ L h' m := ⟨Fh.ns.at' fun o e => k _ o e, fun b o e => k _ _ (Fh.keep b o e), Fh.above⟩
  have lt : ∀ p ∈ news, p.1 < s.heap.objs.size := fun p hp => Heap.lt_size (N p hp).1
  have fresh : ∀ j, s.heap.objs.size ≤ j → j ≠ L ∧ h₀.get? j = none := fun j hj => ⟨fun e => absurd Fh.ns.lt (by rw [← e]; exact Nat.not_lt.mpr hj), by
    cases e : h₀.get? j with
    | none => rfl
    | some o => exact absurd (Heap.lt_size (Fh.keep _ _ e)) (Nat.not_lt.mpr hj)⟩
  refine h s.heap.objs.size (s.heap.objs.size + 1) (s.heap.objs.size + 2) h' Fh' ?_ lt (Nat.lt_succ_self _) (Nat.lt_succ_self _)
  intro p hp
  rcases List.mem_cons.mp hp with rfl | hp
  · exact ⟨a, fresh _ (by omega)⟩
  rcases List.mem_cons.mp hp with rfl | hp
  · exact ⟨b, fresh _ (by omega)⟩
  rcases List.mem_cons.mp hp with rfl | hp
  · exact ⟨c, fresh _ (by omega)⟩
  exact ⟨k _ _ (N p hp).1, (N p hp).2⟩
theorem mp_joinN {sep : Str} {t : Tok} {M TI I : Addr} {xs : List (Str × Tok)} {n c : Nat} {f : Value} {g : Str → Str} {Q : Value → Shared → Prop} (Fh : Fr h₀ L s.heap m)
    (N : News h₀ L s.heap ((M, mapObj TI f) :: (TI, oneObj (.ref I)) :: (I, liObj l) :: news)) (hl : (l, listOf (strValues xs).toArray c) ∈ news) (h1 : ∀ p ∈ news, p.1 < I) (h2 : I < TI) (h3 : TI < M)
    (hh : A.handled = none) (hf : TextFn prog w f g n)
    (hlen : ∀ x ∈ xs, x.1.length ≤ n) (hsz : xs.length ≤ sizeLine) (hok : JoinOk sep ((xs.map (·.1)).map g) = true)
    (hq : ∀ h' t' k, Fr h₀ L h' m → News h₀ L h' news → Q (.str (Txt.join sep ((xs.map (·.1)).map g)) t') { s with heap := h', toks := k }) :
    wpAny (model prog w) A (call (.builtin "str.join") [.str sep t, .ref M]) Q E s := by
  have e1 := (N _ (.head _)).1
  have e2 := (N _ (.tail _ (.head _))).1
  have e3 := (N _ (.tail _ (.tail _ (.head _))))
  have e4 := (N _ (.tail _ (.tail _ (.tail _ hl)))).1
  have hlI := h1 _ hl
  refine mp_join hh hf e1 e2 ⟨_, e3.1, rfl, rfl⟩ ⟨_, e4, rfl, c, rfl⟩ (Nat.ne_of_gt (Nat.lt_trans h2 h3)) (Nat.ne_of_gt h2) (Nat.ne_of_lt hlI) hlen hsz hok fun h' t' k hk => ?_
  refine hq h' t' k ⟨Fh.ns.at' fun o e => hk _ o (fun e => e3.2.1 e.symm) e, fun b o e => hk b o (fun q => by rw [q, e3.2.2] at e; cases e) (Fh.keep b o e), Fh.above⟩ fun p hp => ?_
  have q := N p (.tail _ (.tail _ (.tail _ hp)))
  exact ⟨hk _ _ (Nat.ne_of_lt (h1 p hp)) q.1, q.2⟩
theorem capFn : TextFn prog w (.builtin "str.capitalize") Txt.capitalize 5592405 := fun A s x t Q E hx h => SC.capitalize (fit_capitalized hx) h
end
theorem joinCapOk {sep : Str} {ss : List Str} {n : Nat} (hW : Weighs ss n) (hn : n ≤ 1048576) (hs : sep.length ≤ 8) : JoinOk sep (ss.map Txt.capitalize) = true := by
  have h := joinOk_short3 (sep := sep) (pz := fun _ => true) hW hn short3_capitalize hs
  have e : (ss.filter fun _ => true) = ss := List.filter_eq_self.mpr fun _ _ => rfl
  rw [e] at h
  exact h
section
variable {prog : Program} {w : World} {A : Around} {E : Value → Shared → Prop} {s : Shared} {h₀ : Heap} {L l : Addr} {m : Str → Option Value} {news : List (Addr × Obj)}
theorem le_sum_of {ss : List Nat} : ∀ x ∈ ss, x ≤ ss.sum := by
  induction ss with
  | nil => intro x hx; cases hx
  | cons a r ih =>
    intro x hx
    rw [List.sum_cons]
    rcases List.mem_cons.mp hx with rfl | hx
    · omega
    · have := ih x hx; omega
theorem weighs_len {ss : List Str} {n : Nat} (hW : Weighs ss n) : ss.length ≤ n + 1 ∧ ∀ x ∈ ss, x.length ≤ n + 1 := by
  have h : (ss.map (·.length)).sum + ss.length ≤ n + 1 := hW
  exact ⟨Nat.le_trans (Nat.le_add_left _ _) h, fun x hx => Nat.le_trans (le_sum_of _ (List.mem_map.mpr ⟨x, hx, rfl⟩)) (Nat.le_trans (Nat.le_add_right _ _) h)⟩
theorem capJoinN {sep : Str} {t : Tok} {M TI I : Addr} {xs : List (Str × Tok)} {ys : List Str} {n c : Nat} {Q : Value → Shared → Prop} (Fh : Fr h₀ L s.heap m)
    (N : News h₀ L s.heap ((M, mapObj TI (.builtin "str.capitalize")) :: (TI, oneObj (.ref I)) :: (I, liObj l) :: news)) (hl : (l, listOf (strValues xs).toArray c) ∈ news) (h1 : ∀ p ∈ news, p.1 < I) (h2 : I < TI) (h3 : TI < M)
    (hh : A.handled = none) (he : xs.map (·.1) = ys) (hW : Weighs (xs.map (·.1)) n) (hn : n ≤ 1048575) (hs : sep.length ≤ 8)
    (hq : ∀ h' t' k, Fr h₀ L h' m → News h₀ L h' news → Q (.str (Txt.join sep (ys.map Txt.capitalize)) t') { s with heap := h', toks := k }) :
    wpAny (model prog w) A (call (.builtin "str.join") [.str sep t, .ref M]) Q E s := by
  subst he
  obtain ⟨a, b⟩ := weighs_len hW
  refine mp_joinN Fh N hl h1 h2 h3 hh capFn (fun x hx => ?_) ?_ (joinCapOk hW (Nat.le_succ_of_le hn) hs) hq
  · exact Nat.le_trans (b x.1 (List.mem_map.mpr ⟨x, hx, rfl⟩)) (Nat.le_trans (Nat.succ_le_succ hn) (by decide))
  · rw [List.length_map] at a; rw [sizeLine_eq]; exact Nat.le_trans a (Nat.le_trans (Nat.succ_le_succ hn) (by decide))
end
theorem fspath_c {w : World} {mean : ExcName → Option Value} {mg mb : Str → Option Value} {dp un : Nat} {gd : Option (List Code)} {cn : Str} {cs : Scope} {a : Addr} {ccd : Value} {cl : List (Str × Addr)} {outer : List Env} {A₀ : Around} {base h₀ : Heap} {L : Addr} {m : Str → Option Value} {news : List (Addr × Obj)} {hp : Heap} {gn : Array GenState} {dr : Drawn} {tq : Nat} {oz : OsState} {x : Str} {tx : Tok}
    {Q E : Value → Shared → Prop} (B : Below A₀ base outer h₀) (F : Fr h₀ L hp m) (X : (lawTop.heap_39 w.params).In h₀) (N : News h₀ L hp news) (T : Top lawTop.view_39 (looseW lawTop.view_39 [Str.ofString "ascii_letters", Str.ofString "printable", Str.ofString "capwords"]) mean mg mb h₀) (hk : cs.kind = .function)
    (hdp : dp + 1 < recursionLimit) (hun : un + 8 < cLine)
    (hret : ∀ t h' tk', Fr h₀ L h' m → News h₀ L h' news → Q (.str x t) ⟨h', gn, dr, tk', oz⟩) :
    wpAny (model PySem.Challenge.rw_ij0119_01.row.prog w) (ktrTop dp un gd cn cs L a ccd cl outer) (call (.ref 109) [.str x tx]) Q E ⟨hp, gn, dr, tq, oz⟩ := by
  w_top off
  k_with_none
  k_with "eval BinOp" => k_fold
  k_with "eval Call" => k_fold
  k_with "eval Subscript" => k_fold
  k_with "size_fits" => first | exact szT (Nat.le_refl _) (by decide) | exact szT (by with_reducible assumption) (by decide) | exact Nat.le_trans (by with_reducible assumption) (Nat.le_of_ble_eq_true rfl) | exact szAB (by with_reducible assumption) (by with_reducible assumption) (by decide)
  k_with "ite" => (k_here; k_openite; first | (refine ite_pos (by with_reducible assumption) ?_; walk_say "PRUNED") | (refine ite_neg (by with_reducible assumption) ?_; walk_say "PRUNED") | (refine ite_isFalse (by with_reducible assumption) ?_; walk_say "PRUNED") | with_reducible refine ite_tt ?_ | with_reducible refine ite_ff ?_ | (with_reducible refine split_ine ?_ ?_ <;> intro _) | (with_reducible refine split_ieq ?_ ?_ <;> intro _) | with_reducible refine split_not ?_ | (refine split_dec ?_ ?_ <;> intro _) | (refine split_bool ?_ ?_ <;> intro _))
  k_with "storeName" => (k_here; k_dflt (refine' storeX_M ?zzF ?zzN ?_ ?zza ?zzb; (case zzF => k_asm); (case zzN => k_asm); (case zza => rfl); (case zzb => rfl); k_whole); intro zzh zzt zzl zzm zzF zzN; (try k_sweep))
  k_with "eval Constant int" => (k_here; k_dflt (refine constI ?_))
  k_with "eval Constant str" => (k_here; k_dflt (refine constS ?_))
  k_with "spliced" => (k_here; (first | (fail_if_success (fail_if_success (with_reducible show wpAny _ _ (spliced (backTo _ (starEach (PySem.Expr.Name _ _ :: _) (envOf _ _ _ _ _)))) _ _ _))) | (fail_if_success (fail_if_success (with_reducible show wpAny _ _ (spliced (backTo _ (starEach (PySem.Expr.Name _ _ :: _) (envOfC _ _ _ _ _)))) _ _ _)))); first | ((fail_if_success (fail_if_success (with_reducible show wpAny _ _ (spliced (backTo _ (starEach [PySem.Expr.Name _ _] _))) _ _ _))); k_dflt (refine' argName1 ?zzF ?zzv ?_ ?zza ?zzb ?zzd; (case zzF => k_asm); (case zza => rfl); (case zzb => rfl); (case zzv => rfl); (case zzd => decide); k_whole)) | k_dflt (refine' argName ?zzF ?zzv ?_ ?zza ?zzb ?zzd; (case zzF => k_asm); (case zza => rfl); (case zzb => rfl); (case zzv => rfl); (case zzd => decide); k_whole))
  k_with "spliced" => (k_here; (fail_if_success (fail_if_success (with_reducible show wpAny _ _ (spliced (backTo _ (starEach [] _))) _ _ _))); k_dflt (refine args_nil ?_); (try ((with_reducible show wpAny _ _ (call _ (_ ++ _)) _ _ _); dsimp only [List.cons_append, List.nil_append])))
  k_with "callWith" => (k_here; (fail_if_success (fail_if_success (with_reducible show wpAny _ _ (callWith _ (Value.builtin _) [_] (backTo _ (starEach (_ :: _) _)) []) _ _ _))); first | ((first | (fail_if_success (fail_if_success (with_reducible show wpAny _ _ (callWith _ _ _ (backTo _ (starEach [PySem.Expr.Name _ _] (envOf _ _ _ _ _))) _) _ _ _))) | (fail_if_success (fail_if_success (with_reducible show wpAny _ _ (callWith _ _ _ (backTo _ (starEach [PySem.Expr.Name _ _] (envOfC _ _ _ _ _))) _) _ _ _)))); k_dflt (refine' callM1 ?zzF ?zzv ?_ ?zza ?zzb ?zzd; (case zzF => k_asm); (case zza => rfl); (case zzb => rfl); (case zzv => rfl); (case zzd => decide); k_whole)) | k_dflt (refine' callM ?_ ?zze ?zzp; (case zze => rfl); (case zzp => rfl)))
  k_with "callWith" => (k_here; (first | (fail_if_success (fail_if_success (with_reducible show wpAny _ _ (callWith _ (Value.builtin _) [] (backTo _ (starEach [PySem.Expr.Name _ _] (envOf _ _ _ _ _))) []) _ _ _))) | (fail_if_success (fail_if_success (with_reducible show wpAny _ _ (callWith _ (Value.builtin _) [] (backTo _ (starEach [PySem.Expr.Name _ _] (envOfC _ _ _ _ _))) []) _ _ _)))); k_dflt (refine' callB1 ?zzF ?zzv ?_ ?zza ?zzb ?zzd; (case zzF => k_asm); (case zza => rfl); (case zzb => rfl); (case zzv => rfl); (case zzd => decide); k_whole))
  k_with "newTuple" => (k_here; k_dflt (refine' tupM ?zzF ?zzN ?_ ?zzz; (case zzF => k_asm); (case zzN => k_asm); (case zzz => exact szT (Nat.le_of_ble_eq_true rfl : _ ≤ 7) (by decide)); k_whole); intro zzD zzh zzF zzN zzl; (try k_lt zzl); (try k_sweep))
  k_with "newList" => (k_here; k_dflt (refine' listM ?zzF ?zzN ?_ ?zzz; (case zzF => k_asm); (case zzN => k_asm); (case zzz => exact szT (Nat.le_of_ble_eq_true rfl : _ ≤ 7) (by decide)); k_whole); intro zzD zzh zzF zzN zzl; (try k_lt zzl); (try k_sweep))
  k_with "LeaveK" => (k_here; k_dflt (refine' leaveM ?zzF ?zzN ?_; (case zzF => k_asm); (case zzN => k_asm); k_whole); intro zzF zzN; (try k_sweep); (try dsimp only))
  k_with "call builtin:issubclass" => (k_here; k_dflt (refine' issub_str_tuple ?zzh1 ?zzh2 ?_; (case zzh2 => exact (News.get (by k_asm) (by k_mem))); (case zzh1 => rfl); k_whole))
  revert X
  k_fill
  intro X
  refine wpAny_call ?_
  k_dflt (refine' code_def (binds := [(Str.ofString "path", .str x tx)]) ?k1 ?k2 ?k3 ?k4 ?k5 ?kA ?kF ?kK ?k6 ?k7 ?k8 ?k9 ?kB ?_ ?c2 ?c3 ?c4 ?c5; (case kA => exact rfl); (case kF => exact rfl); (case kK => assumption); (case k1 => k_asm); (case k2 => k_asm); (case k3 => k_asm); (case k4 => k_asm); (case k5 => k_asm); (case k6 => k_is); (case k7 => k_is); (case k8 => ktr_room); (case k9 => exact BindsTo.of_eq rfl); (case c5 => decide); (case kB => exact locs rfl); (case c2 => exact rfl); (case c3 => exact rfl); (case c4 => exact rfl); k_whole; intro g' L' h' FG' F' N' B' X' T'; (try dsimp only); (try k_lift B'); (try k_fold))
  k_steps
  all_goals exact hret _ _ _ (by k_asm) (cb_drop (by k_asm) (by kcj_all))
theorem getsep_c {w : World} {mean : ExcName → Option Value} {mg mb : Str → Option Value} {dp un : Nat} {gd : Option (List Code)} {cn : Str} {cs : Scope} {a : Addr} {ccd : Value} {cl : List (Str × Addr)} {outer : List Env} {A₀ : Around} {base h₀ : Heap} {L : Addr} {m : Str → Option Value} {news : List (Addr × Obj)} {hp : Heap} {gn : Array GenState} {dr : Drawn} {tq : Nat} {oz : OsState} {x : Str} {tx : Tok}
    {Q E : Value → Shared → Prop} (B : Below A₀ base outer h₀) (F : Fr h₀ L hp m) (X : (lawTop.heap_39 w.params).In h₀) (N : News h₀ L hp news) (T : Top lawTop.view_39 (looseW lawTop.view_39 [Str.ofString "ascii_letters", Str.ofString "printable", Str.ofString "capwords"]) mean mg mb h₀) (hk : cs.kind = .function)
    (hdp : dp + 1 < recursionLimit) (hun : un + 8 < cLine)
    (hret : ∀ t h' tk', Fr h₀ L h' m → News h₀ L h' news → Q (.str (Str.ofString "/") t) ⟨h', gn, dr, tk', oz⟩) :
    wpAny (model PySem.Challenge.rw_ij0119_01.row.prog w) (ktrTop dp un gd cn cs L a ccd cl outer) (call (.ref 123) [.str x tx]) Q E ⟨hp, gn, dr, tq, oz⟩ := by
  w_top off
  k_with_none
  k_with "eval BinOp" => k_fold
  k_with "eval Call" => k_fold
  k_with "eval Subscript" => k_fold
  k_with "size_fits" => first | exact szT (Nat.le_refl _) (by decide) | exact szT (by with_reducible assumption) (by decide) | exact Nat.le_trans (by with_reducible assumption) (Nat.le_of_ble_eq_true rfl) | exact szAB (by with_reducible assumption) (by with_reducible assumption) (by decide)
  k_with "ite" => (k_here; k_openite; first | (refine ite_pos (by with_reducible assumption) ?_; walk_say "PRUNED") | (refine ite_neg (by with_reducible assumption) ?_; walk_say "PRUNED") | (refine ite_isFalse (by with_reducible assumption) ?_; walk_say "PRUNED") | with_reducible refine ite_tt ?_ | with_reducible refine ite_ff ?_ | (with_reducible refine split_ine ?_ ?_ <;> intro _) | (with_reducible refine split_ieq ?_ ?_ <;> intro _) | with_reducible refine split_not ?_ | (refine split_dec ?_ ?_ <;> intro _) | (refine split_bool ?_ ?_ <;> intro _))
  k_with "storeName" => (k_here; k_dflt (refine' storeX_M ?zzF ?zzN ?_ ?zza ?zzb; (case zzF => k_asm); (case zzN => k_asm); (case zza => rfl); (case zzb => rfl); k_whole); intro zzh zzt zzl zzm zzF zzN; (try k_sweep))
  k_with "eval Constant int" => (k_here; k_dflt (refine constI ?_))
  k_with "eval Constant str" => (k_here; k_dflt (refine constS ?_))
  k_with "spliced" => (k_here; (first | (fail_if_success (fail_if_success (with_reducible show wpAny _ _ (spliced (backTo _ (starEach (PySem.Expr.Name _ _ :: _) (envOf _ _ _ _ _)))) _ _ _))) | (fail_if_success (fail_if_success (with_reducible show wpAny _ _ (spliced (backTo _ (starEach (PySem.Expr.Name _ _ :: _) (envOfC _ _ _ _ _)))) _ _ _)))); first | ((fail_if_success (fail_if_success (with_reducible show wpAny _ _ (spliced (backTo _ (starEach [PySem.Expr.Name _ _] _))) _ _ _))); k_dflt (refine' argName1 ?zzF ?zzv ?_ ?zza ?zzb ?zzd; (case zzF => k_asm); (case zza => rfl); (case zzb => rfl); (case zzv => rfl); (case zzd => decide); k_whole)) | k_dflt (refine' argName ?zzF ?zzv ?_ ?zza ?zzb ?zzd; (case zzF => k_asm); (case zza => rfl); (case zzb => rfl); (case zzv => rfl); (case zzd => decide); k_whole))
  k_with "spliced" => (k_here; (fail_if_success (fail_if_success (with_reducible show wpAny _ _ (spliced (backTo _ (starEach [] _))) _ _ _))); k_dflt (refine args_nil ?_); (try ((with_reducible show wpAny _ _ (call _ (_ ++ _)) _ _ _); dsimp only [List.cons_append, List.nil_append])))
  k_with "callWith" => (k_here; (fail_if_success (fail_if_success (with_reducible show wpAny _ _ (callWith _ (Value.builtin _) [_] (backTo _ (starEach (_ :: _) _)) []) _ _ _))); first | ((first | (fail_if_success (fail_if_success (with_reducible show wpAny _ _ (callWith _ _ _ (backTo _ (starEach [PySem.Expr.Name _ _] (envOf _ _ _ _ _))) _) _ _ _))) | (fail_if_success (fail_if_success (with_reducible show wpAny _ _ (callWith _ _ _ (backTo _ (starEach [PySem.Expr.Name _ _] (envOfC _ _ _ _ _))) _) _ _ _)))); k_dflt (refine' callM1 ?zzF ?zzv ?_ ?zza ?zzb ?zzd; (case zzF => k_asm); (case zza => rfl); (case zzb => rfl); (case zzv => rfl); (case zzd => decide); k_whole)) | k_dflt (refine' callM ?_ ?zze ?zzp; (case zze => rfl); (case zzp => rfl)))
  k_with "callWith" => (k_here; (first | (fail_if_success (fail_if_success (with_reducible show wpAny _ _ (callWith _ (Value.builtin _) [] (backTo _ (starEach [PySem.Expr.Name _ _] (envOf _ _ _ _ _))) []) _ _ _))) | (fail_if_success (fail_if_success (with_reducible show wpAny _ _ (callWith _ (Value.builtin _) [] (backTo _ (starEach [PySem.Expr.Name _ _] (envOfC _ _ _ _ _))) []) _ _ _)))); k_dflt (refine' callB1 ?zzF ?zzv ?_ ?zza ?zzb ?zzd; (case zzF => k_asm); (case zza => rfl); (case zzb => rfl); (case zzv => rfl); (case zzd => decide); k_whole))
  k_with "newTuple" => (k_here; k_dflt (refine' tupM ?zzF ?zzN ?_ ?zzz; (case zzF => k_asm); (case zzN => k_asm); (case zzz => exact szT (Nat.le_of_ble_eq_true rfl : _ ≤ 7) (by decide)); k_whole); intro zzD zzh zzF zzN zzl; (try k_lt zzl); (try k_sweep))
  k_with "newList" => (k_here; k_dflt (refine' listM ?zzF ?zzN ?_ ?zzz; (case zzF => k_asm); (case zzN => k_asm); (case zzz => exact szT (Nat.le_of_ble_eq_true rfl : _ ≤ 7) (by decide)); k_whole); intro zzD zzh zzF zzN zzl; (try k_lt zzl); (try k_sweep))
  k_with "LeaveK" => (k_here; k_dflt (refine' leaveM ?zzF ?zzN ?_; (case zzF => k_asm); (case zzN => k_asm); k_whole); intro zzF zzN; (try k_sweep); (try dsimp only))
  k_with "call builtin:issubclass" => (k_here; k_dflt (refine' issub_str_tuple ?zzh1 ?zzh2 ?_; (case zzh2 => exact (News.get (by k_asm) (by k_mem))); (case zzh1 => rfl); k_whole))
  revert X
  k_fill
  intro X
  refine wpAny_call ?_
  k_dflt (refine' code_def (binds := [(Str.ofString "path", .str x tx)]) ?k1 ?k2 ?k3 ?k4 ?k5 ?kA ?kF ?kK ?k6 ?k7 ?k8 ?k9 ?kB ?_ ?c2 ?c3 ?c4 ?c5; (case kA => exact rfl); (case kF => exact rfl); (case kK => assumption); (case k1 => k_asm); (case k2 => k_asm); (case k3 => k_asm); (case k4 => k_asm); (case k5 => k_asm); (case k6 => k_is); (case k7 => k_is); (case k8 => ktr_room); (case k9 => exact BindsTo.of_eq rfl); (case c5 => decide); (case kB => exact locs rfl); (case c2 => exact rfl); (case c3 => exact rfl); (case c4 => exact rfl); k_whole; intro g' L' h' FG' F' N' B' X' T'; (try dsimp only); (try k_lift B'); (try k_fold))
  k_steps
  all_goals exact hret _ _ _ (by k_asm) (by k_asm)
noncomputable abbrev S1 : Str := Str.ofString "/"
noncomputable abbrev S0 : Str := Str.ofString ""
noncomputable abbrev Sd : Str := Str.ofString "."
noncomputable abbrev tupO (vs : List Value) : Obj := { cls := .type "tuple", data := .seq vs.toArray }
noncomputable def splitrootF (x : Str) : Str × Str × Str :=
  if (Txt.slice x none (some 1) != Str.ofString "/") = true then (Str.ofString "", Str.ofString "", x)
  else if (Txt.slice x (some 1) (some 2) != Str.ofString "/") = true then (Str.ofString "", Str.ofString "/", Txt.slice x (some 1) none)
  else if (Txt.slice x (some 2) (some 3) == Str.ofString "/") = true then (Str.ofString "", Str.ofString "/", Txt.slice x (some 1) none)
  else (Str.ofString "", Txt.slice x none (some 2), Txt.slice x (some 2) none)
noncomputable def splitF (x : Str) : Str × Str :=
  if ((Txt.slice x none (some (Txt.rfind x (Str.ofString "/") + 1))).length : Int) ≠ 0 then
    if (Txt.slice x none (some (Txt.rfind x (Str.ofString "/") + 1)) != Txt.mul (Str.ofString "/") ((Txt.slice x none (some (Txt.rfind x (Str.ofString "/") + 1))).length : Int)) = true then
      (Txt.rstripChars (Txt.slice x none (some (Txt.rfind x (Str.ofString "/") + 1))) (Str.ofString "/"), Txt.slice x (some (Txt.rfind x (Str.ofString "/") + 1)) none)
    else (Txt.slice x none (some (Txt.rfind x (Str.ofString "/") + 1)), Txt.slice x (some (Txt.rfind x (Str.ofString "/") + 1)) none)
  else (Txt.slice x none (some (Txt.rfind x (Str.ofString "/") + 1)), Txt.slice x (some (Txt.rfind x (Str.ofString "/") + 1)) none)
theorem splitrootF_1 {x : Str} (h1 : (Txt.slice x none (some 1) != Str.ofString "/") = true) : (Str.ofString "", Str.ofString "", x) = splitrootF x := by rw [splitrootF, if_pos h1]
theorem splitrootF_2 {x : Str} (h1 : (Txt.slice x none (some 1) != Str.ofString "/") = false) (h2 : (Txt.slice x (some 1) (some 2) != Str.ofString "/") = true) : (Str.ofString "", Str.ofString "/", Txt.slice x (some 1) none) = splitrootF x := by rw [splitrootF, if_neg (by rw [h1]; decide), if_pos h2]
theorem splitrootF_3 {x : Str} (h1 : (Txt.slice x none (some 1) != Str.ofString "/") = false) (h2 : (Txt.slice x (some 1) (some 2) != Str.ofString "/") = false) (h3 : (Txt.slice x (some 2) (some 3) == Str.ofString "/") = true) : (Str.ofString "", Str.ofString "/", Txt.slice x (some 1) none) = splitrootF x := by rw [splitrootF, if_neg (by rw [h1]; decide), if_neg (by rw [h2]; decide), if_pos h3]
theorem splitrootF_4 {x : Str} (h1 : (Txt.slice x none (some 1) != Str.ofString "/") = false) (h2 : (Txt.slice x (some 1) (some 2) != Str.ofString "/") = false) (h3 : (Txt.slice x (some 2) (some 3) == Str.ofString "/") = false) : (Str.ofString "", Txt.slice x none (some 2), Txt.slice x (some 2) none) = splitrootF x := by rw [splitrootF, if_neg (by rw [h1]; decide), if_neg (by rw [h2]; decide), if_neg (by rw [h3]; decide)]
theorem splitF_1 {x : Str} (h1 : ((Txt.slice x none (some (Txt.rfind x (Str.ofString "/") + 1))).length : Int) ≠ 0)
    (h2 : (Txt.slice x none (some (Txt.rfind x (Str.ofString "/") + 1)) != Txt.mul (Str.ofString "/") ((Txt.slice x none (some (Txt.rfind x (Str.ofString "/") + 1))).length : Int)) = true) :
    (Txt.rstripChars (Txt.slice x none (some (Txt.rfind x (Str.ofString "/") + 1))) (Str.ofString "/"), Txt.slice x (some (Txt.rfind x (Str.ofString "/") + 1)) none) = splitF x := by rw [splitF, if_pos h1, if_pos h2]
theorem splitF_2 {x : Str} (h1 : ((Txt.slice x none (some (Txt.rfind x (Str.ofString "/") + 1))).length : Int) ≠ 0)
    (h2 : (Txt.slice x none (some (Txt.rfind x (Str.ofString "/") + 1)) != Txt.mul (Str.ofString "/") ((Txt.slice x none (some (Txt.rfind x (Str.ofString "/") + 1))).length : Int)) = false) :
    (Txt.slice x none (some (Txt.rfind x (Str.ofString "/") + 1)), Txt.slice x (some (Txt.rfind x (Str.ofString "/") + 1)) none) = splitF x := by rw [splitF, if_pos h1, if_neg (by rw [h2]; decide)]
theorem splitF_3 {x : Str} (h1 : ((Txt.slice x none (some (Txt.rfind x (Str.ofString "/") + 1))).length : Int) = 0) :
    (Txt.slice x none (some (Txt.rfind x (Str.ofString "/") + 1)), Txt.slice x (some (Txt.rfind x (Str.ofString "/") + 1)) none) = splitF x := by rw [splitF, if_neg (fun h => h h1)]
theorem drop2 {h₀ h : Heap} {L D : Addr} {o : Obj} {p : Addr × Obj} {news : List (Addr × Obj)} (N : News h₀ L h ((D, o) :: p :: news)) : News h₀ L h ((D, o) :: news) := fun q hq => by
  rcases List.mem_cons.mp hq with rfl | hq
  · exact N _ (.head _)
  · exact N _ (.tail _ (.tail _ hq))
theorem splitroot_len {x a b c : Str} (e : (a, b, c) = splitrootF x) : b.length ≤ x.length + 1 ∧ c.length ≤ x.length := by
  have l0 : (Str.ofString "").length = 0 := by decide +kernel
  have l1 : (Str.ofString "/").length = 1 := by decide +kernel
  have s1 := Txt.slice_le x (some 1) none
  have s2 := Txt.slice_le x none (some 2)
  have s3 := Txt.slice_le x (some 2) none
  unfold splitrootF at e
  split at e
  · injection e with e1 e; injection e with e2 e3; subst e1 e2 e3; first | exact ⟨Nat.le_trans (Nat.le_of_eq l0) (Nat.zero_le _), Nat.le_refl _⟩ | exact ⟨Nat.le_trans (Nat.le_of_eq l1) (Nat.le_add_left 1 _), s1⟩ | exact ⟨Nat.le_trans s2 (Nat.le_succ _), s3⟩
  · split at e
    · injection e with e1 e; injection e with e2 e3; subst e1 e2 e3; first | exact ⟨Nat.le_trans (Nat.le_of_eq l0) (Nat.zero_le _), Nat.le_refl _⟩ | exact ⟨Nat.le_trans (Nat.le_of_eq l1) (Nat.le_add_left 1 _), s1⟩ | exact ⟨Nat.le_trans s2 (Nat.le_succ _), s3⟩
    · split at e
      · injection e with e1 e; injection e with e2 e3; subst e1 e2 e3; first | exact ⟨Nat.le_trans (Nat.le_of_eq l0) (Nat.zero_le _), Nat.le_refl _⟩ | exact ⟨Nat.le_trans (Nat.le_of_eq l1) (Nat.le_add_left 1 _), s1⟩ | exact ⟨Nat.le_trans s2 (Nat.le_succ _), s3⟩
      · injection e with e1 e; injection e with e2 e3; subst e1 e2 e3; first | exact ⟨Nat.le_trans (Nat.le_of_eq l0) (Nat.zero_le _), Nat.le_refl _⟩ | exact ⟨Nat.le_trans (Nat.le_of_eq l1) (Nat.le_add_left 1 _), s1⟩ | exact ⟨Nat.le_trans s2 (Nat.le_succ _), s3⟩
/-- what _splitext hands back: cut at the last dot, if it lies behind the last slash and a sign that is no dot lies between -/
noncomputable def SplitextIs (x a b : Str) : Prop :=
  (a = x ∧ b = Txt.slice x none (some 0) ∧ (Txt.rfind x (Str.ofString "/") < Txt.rfind x (Str.ofString ".") →
    ∀ j : Int, 0 ≤ j → Txt.rfind x (Str.ofString "/") + 1 + 1 * j < Txt.rfind x (Str.ofString ".") → (Txt.slice x (some (Txt.rfind x (Str.ofString "/") + 1 + 1 * j)) (some (Txt.rfind x (Str.ofString "/") + 1 + 1 * j + 1)) != Str.ofString ".") = false)) ∨
  (a = Txt.slice x none (some (Txt.rfind x (Str.ofString "."))) ∧ b = Txt.slice x (some (Txt.rfind x (Str.ofString "."))) none ∧ Txt.rfind x (Str.ofString "/") < Txt.rfind x (Str.ofString ".") ∧
    ∃ j : Int, 0 ≤ j ∧ Txt.rfind x (Str.ofString "/") + 1 + 1 * j < Txt.rfind x (Str.ofString ".") ∧ (Txt.slice x (some (Txt.rfind x (Str.ofString "/") + 1 + 1 * j)) (some (Txt.rfind x (Str.ofString "/") + 1 + 1 * j + 1)) != Str.ofString ".") = true)
theorem splitroot_c {w : World} {mean : ExcName → Option Value} {mg mb : Str → Option Value} {dp un : Nat} {gd : Option (List Code)} {cn : Str} {cs : Scope} {a : Addr} {ccd : Value} {cl : List (Str × Addr)} {outer : List Env} {A₀ : Around} {base h₀ : Heap} {L : Addr} {m : Str → Option Value} {news : List (Addr × Obj)} {hp : Heap} {gn : Array GenState} {dr : Drawn} {tq : Nat} {oz : OsState} {x : Str} {tx : Tok}
    {Q E : Value → Shared → Prop} (B : Below A₀ base outer h₀) (F : Fr h₀ L hp m) (X : (lawTop.heap_39 w.params).In h₀) (N : News h₀ L hp news) (T : Top lawTop.view_39 (looseW lawTop.view_39 [Str.ofString "ascii_letters", Str.ofString "printable", Str.ofString "capwords"]) mean mg mb h₀) (hk : cs.kind = .function)
    (hx : x.length ≤ 100000) (hdp : dp + 3 < recursionLimit) (hun : un + 20 < cLine)
    (hret : ∀ D (a b c : Str) t1 t2 t3 h' tk', (a, b, c) = splitrootF x → Fr h₀ L h' m → News h₀ L h' ((D, tupO [.str a t1, .str b t2, .str c t3]) :: news) → (∀ p ∈ news, p.1 < D) → Q (.ref D) ⟨h', gn, dr, tk', oz⟩) :
    wpAny (model PySem.Challenge.rw_ij0119_01.row.prog w) (ktrTop dp un gd cn cs L a ccd cl outer) (call (.ref 147) [.str x tx]) Q E ⟨hp, gn, dr, tq, oz⟩ := by
  w_top off
  k_with_none
  k_with "eval BinOp" => k_fold
  k_with "eval Call" => k_fold
  k_with "eval Subscript" => k_fold
  k_with "size_fits" => first | exact szT (Nat.le_refl _) (by decide) | exact szT (by with_reducible assumption) (by decide) | exact Nat.le_trans (by with_reducible assumption) (Nat.le_of_ble_eq_true rfl) | exact szAB (by with_reducible assumption) (by with_reducible assumption) (by decide)
  k_with "ite" => (k_here; k_openite; first | (refine ite_pos (by with_reducible assumption) ?_; walk_say "PRUNED") | (refine ite_neg (by with_reducible assumption) ?_; walk_say "PRUNED") | (refine ite_isFalse (by with_reducible assumption) ?_; walk_say "PRUNED") | with_reducible refine ite_tt ?_ | with_reducible refine ite_ff ?_ | (with_reducible refine split_ine ?_ ?_ <;> intro _) | (with_reducible refine split_ieq ?_ ?_ <;> intro _) | with_reducible refine split_not ?_ | (refine split_dec ?_ ?_ <;> intro _) | (refine split_bool ?_ ?_ <;> intro _))
  k_with "storeName" => (k_here; k_dflt (refine' storeX_M ?zzF ?zzN ?_ ?zza ?zzb; (case zzF => k_asm); (case zzN => k_asm); (case zza => rfl); (case zzb => rfl); k_whole); intro zzh zzt zzl zzm zzF zzN; (try k_sweep))
  k_with "eval Constant int" => (k_here; k_dflt (refine constI ?_))
  k_with "eval Constant str" => (k_here; k_dflt (refine constS ?_))
  k_with "spliced" => (k_here; (first | (fail_if_success (fail_if_success (with_reducible show wpAny _ _ (spliced (backTo _ (starEach (PySem.Expr.Name _ _ :: _) (envOf _ _ _ _ _)))) _ _ _))) | (fail_if_success (fail_if_success (with_reducible show wpAny _ _ (spliced (backTo _ (starEach (PySem.Expr.Name _ _ :: _) (envOfC _ _ _ _ _)))) _ _ _)))); first | ((fail_if_success (fail_if_success (with_reducible show wpAny _ _ (spliced (backTo _ (starEach [PySem.Expr.Name _ _] _))) _ _ _))); k_dflt (refine' argName1 ?zzF ?zzv ?_ ?zza ?zzb ?zzd; (case zzF => k_asm); (case zza => rfl); (case zzb => rfl); (case zzv => rfl); (case zzd => decide); k_whole)) | k_dflt (refine' argName ?zzF ?zzv ?_ ?zza ?zzb ?zzd; (case zzF => k_asm); (case zza => rfl); (case zzb => rfl); (case zzv => rfl); (case zzd => decide); k_whole))
  k_with "spliced" => (k_here; (fail_if_success (fail_if_success (with_reducible show wpAny _ _ (spliced (backTo _ (starEach [] _))) _ _ _))); k_dflt (refine args_nil ?_); (try ((with_reducible show wpAny _ _ (call _ (_ ++ _)) _ _ _); dsimp only [List.cons_append, List.nil_append])))
  k_with "callWith" => (k_here; (fail_if_success (fail_if_success (with_reducible show wpAny _ _ (callWith _ (Value.builtin _) [_] (backTo _ (starEach (_ :: _) _)) []) _ _ _))); first | ((first | (fail_if_success (fail_if_success (with_reducible show wpAny _ _ (callWith _ _ _ (backTo _ (starEach [PySem.Expr.Name _ _] (envOf _ _ _ _ _))) _) _ _ _))) | (fail_if_success (fail_if_success (with_reducible show wpAny _ _ (callWith _ _ _ (backTo _ (starEach [PySem.Expr.Name _ _] (envOfC _ _ _ _ _))) _) _ _ _)))); k_dflt (refine' callM1 ?zzF ?zzv ?_ ?zza ?zzb ?zzd; (case zzF => k_asm); (case zza => rfl); (case zzb => rfl); (case zzv => rfl); (case zzd => decide); k_whole)) | k_dflt (refine' callM ?_ ?zze ?zzp; (case zze => rfl); (case zzp => rfl)))
  k_with "callWith" => (k_here; (first | (fail_if_success (fail_if_success (with_reducible show wpAny _ _ (callWith _ (Value.builtin _) [] (backTo _ (starEach [PySem.Expr.Name _ _] (envOf _ _ _ _ _))) []) _ _ _))) | (fail_if_success (fail_if_success (with_reducible show wpAny _ _ (callWith _ (Value.builtin _) [] (backTo _ (starEach [PySem.Expr.Name _ _] (envOfC _ _ _ _ _))) []) _ _ _)))); k_dflt (refine' callB1 ?zzF ?zzv ?_ ?zza ?zzb ?zzd; (case zzF => k_asm); (case zza => rfl); (case zzb => rfl); (case zzv => rfl); (case zzd => decide); k_whole))
  k_with "newTuple" => (k_here; k_dflt (refine' tupM ?zzF ?zzN ?_ ?zzz; (case zzF => k_asm); (case zzN => k_asm); (case zzz => exact szT (Nat.le_of_ble_eq_true rfl : _ ≤ 7) (by decide)); k_whole); intro zzD zzh zzF zzN zzl; (try k_lt zzl); (try k_sweep))
  k_with "newList" => (k_here; k_dflt (refine' listM ?zzF ?zzN ?_ ?zzz; (case zzF => k_asm); (case zzN => k_asm); (case zzz => exact szT (Nat.le_of_ble_eq_true rfl : _ ≤ 7) (by decide)); k_whole); intro zzD zzh zzF zzN zzl; (try k_lt zzl); (try k_sweep))
  k_with "LeaveK" => (k_here; k_dflt (refine' leaveM ?zzF ?zzN ?_; (case zzF => k_asm); (case zzN => k_asm); k_whole); intro zzF zzN; (try k_sweep); (try dsimp only))
  k_with "call ref" => (k_here; (with_reducible show wpAny _ _ (call (Value.ref 109) [_]) _ _ _); k_dflt (refine' fspath_c ?zzk1 ?zzk2 ?zzk3 ?zzk4 ?zzk5 ?zzkK  ?zzkd ?zzku ?_; (case zzk1 => k_asm); (case zzk2 => k_asm); (case zzk3 => k_asm); (case zzk4 => k_asm); (case zzk5 => k_asm); (case zzkK => first | exact rfl | assumption);  (case zzkd => first | exact (Nat.lt_of_le_of_lt (Nat.add_le_add_left (Nat.le_of_ble_eq_true rfl : 1 + 1 ≤ 3) dp) hdp : dp + (1 + 1) < recursionLimit) | ktr_room); (case zzku => first | exact (Nat.lt_of_le_of_lt (Nat.add_le_add_left (Nat.le_of_ble_eq_true rfl : 3 + 8 ≤ 20) un) hun : un + (3 + 8) < cLine) | ktr_units)); intro t9 h9 tk9 F9 N9; (try dsimp only); (try k_sweep); (try k_fold))
  k_with "call ref" => (k_here; (with_reducible show wpAny _ _ (call (Value.ref 123) [_]) _ _ _); k_dflt (refine' getsep_c ?zzk1 ?zzk2 ?zzk3 ?zzk4 ?zzk5 ?zzkK  ?zzkd ?zzku ?_; (case zzk1 => k_asm); (case zzk2 => k_asm); (case zzk3 => k_asm); (case zzk4 => k_asm); (case zzk5 => k_asm); (case zzkK => first | exact rfl | assumption);  (case zzkd => first | exact (Nat.lt_of_le_of_lt (Nat.add_le_add_left (Nat.le_of_ble_eq_true rfl : 1 + 1 ≤ 3) dp) hdp : dp + (1 + 1) < recursionLimit) | ktr_room); (case zzku => first | exact (Nat.lt_of_le_of_lt (Nat.add_le_add_left (Nat.le_of_ble_eq_true rfl : 3 + 8 ≤ 20) un) hun : un + (3 + 8) < cLine) | ktr_units)); intro t9 h9 tk9 F9 N9; (try dsimp only); (try k_sweep); (try k_fold))
  revert X
  k_fill
  intro X
  refine wpAny_call ?_
  k_dflt (refine' code_def (binds := [(Str.ofString "p", .str x tx)]) ?k1 ?k2 ?k3 ?k4 ?k5 ?kA ?kF ?kK ?k6 ?k7 ?k8 ?k9 ?kB ?_ ?c2 ?c3 ?c4 ?c5; (case kA => exact rfl); (case kF => exact rfl); (case kK => assumption); (case k1 => k_asm); (case k2 => k_asm); (case k3 => k_asm); (case k4 => k_asm); (case k5 => k_asm); (case k6 => k_is); (case k7 => k_is); (case k8 => ktr_room); (case k9 => exact BindsTo.of_eq rfl); (case c5 => decide); (case kB => exact locs rfl); (case c2 => exact rfl); (case c3 => exact rfl); (case c4 => exact rfl); k_whole; intro g' L' h' FG' F' N' B' X' T'; (try dsimp only); (try k_lift B'); (try k_fold))
  k_steps
  all_goals first
    | (refine' hret _ _ _ _ _ _ _ _ _ ?e1 ?e2 ?e3 ?e4; (case e3 => with_reducible assumption); (case e2 => with_reducible assumption); (case e4 => with_reducible assumption); (case e1 => first | with_reducible exact splitrootF_1 (by assumption) | with_reducible exact splitrootF_4 (by assumption) (by assumption) (by assumption) | with_reducible exact splitrootF_3 (by assumption) (by assumption) (by assumption) | with_reducible exact splitrootF_2 (by assumption) (by assumption)))
theorem split_c {w : World} {mean : ExcName → Option Value} {mg mb : Str → Option Value} {dp un : Nat} {gd : Option (List Code)} {cn : Str} {cs : Scope} {a : Addr} {ccd : Value} {cl : List (Str × Addr)} {outer : List Env} {A₀ : Around} {base h₀ : Heap} {L : Addr} {m : Str → Option Value} {news : List (Addr × Obj)} {hp : Heap} {gn : Array GenState} {dr : Drawn} {tq : Nat} {oz : OsState} {x : Str} {tx : Tok}
    {Q E : Value → Shared → Prop} (B : Below A₀ base outer h₀) (F : Fr h₀ L hp m) (X : (lawTop.heap_39 w.params).In h₀) (N : News h₀ L hp news) (T : Top lawTop.view_39 (looseW lawTop.view_39 [Str.ofString "ascii_letters", Str.ofString "printable", Str.ofString "capwords"]) mean mg mb h₀) (hk : cs.kind = .function)
    (hx : x.length ≤ 100000) (hdp : dp + 3 < recursionLimit) (hun : un + 20 < cLine)
    (hret : ∀ D (a b : Str) t1 t2 h' tk', (a, b) = splitF x → Fr h₀ L h' m → News h₀ L h' ((D, tupO [.str a t1, .str b t2]) :: news) → (∀ p ∈ news, p.1 < D) → Q (.ref D) ⟨h', gn, dr, tk', oz⟩) :
    wpAny (model PySem.Challenge.rw_ij0119_01.row.prog w) (ktrTop dp un gd cn cs L a ccd cl outer) (call (.ref 130) [.str x tx]) Q E ⟨hp, gn, dr, tq, oz⟩ := by
  w_top off
  k_with_none
  k_with "eval BinOp" => k_fold
  k_with "eval Call" => k_fold
  k_with "eval Subscript" => k_fold
  k_with "size_fits" => first | exact szT (Nat.le_refl _) (by decide) | exact szT (by with_reducible assumption) (by decide) | exact Nat.le_trans (by with_reducible assumption) (Nat.le_of_ble_eq_true rfl) | exact szAB (by with_reducible assumption) (by with_reducible assumption) (by decide)
  k_with "ite" => (k_here; k_openite; first | (refine ite_pos (by with_reducible assumption) ?_; walk_say "PRUNED") | (refine ite_neg (by with_reducible assumption) ?_; walk_say "PRUNED") | (refine ite_isFalse (by with_reducible assumption) ?_; walk_say "PRUNED") | with_reducible refine ite_tt ?_ | with_reducible refine ite_ff ?_ | (with_reducible refine split_ine ?_ ?_ <;> intro _) | (with_reducible refine split_ieq ?_ ?_ <;> intro _) | with_reducible refine split_not ?_ | (refine split_dec ?_ ?_ <;> intro _) | (refine split_bool ?_ ?_ <;> intro _))
  k_with "storeName" => (k_here; k_dflt (refine' storeX_M ?zzF ?zzN ?_ ?zza ?zzb; (case zzF => k_asm); (case zzN => k_asm); (case zza => rfl); (case zzb => rfl); k_whole); intro zzh zzt zzl zzm zzF zzN; (try k_sweep))
  k_with "eval Constant int" => (k_here; k_dflt (refine constI ?_))
  k_with "eval Constant str" => (k_here; k_dflt (refine constS ?_))
  k_with "spliced" => (k_here; (first | (fail_if_success (fail_if_success (with_reducible show wpAny _ _ (spliced (backTo _ (starEach (PySem.Expr.Name _ _ :: _) (envOf _ _ _ _ _)))) _ _ _))) | (fail_if_success (fail_if_success (with_reducible show wpAny _ _ (spliced (backTo _ (starEach (PySem.Expr.Name _ _ :: _) (envOfC _ _ _ _ _)))) _ _ _)))); first | ((fail_if_success (fail_if_success (with_reducible show wpAny _ _ (spliced (backTo _ (starEach [PySem.Expr.Name _ _] _))) _ _ _))); k_dflt (refine' argName1 ?zzF ?zzv ?_ ?zza ?zzb ?zzd; (case zzF => k_asm); (case zza => rfl); (case zzb => rfl); (case zzv => rfl); (case zzd => decide); k_whole)) | k_dflt (refine' argName ?zzF ?zzv ?_ ?zza ?zzb ?zzd; (case zzF => k_asm); (case zza => rfl); (case zzb => rfl); (case zzv => rfl); (case zzd => decide); k_whole))
  k_with "spliced" => (k_here; (fail_if_success (fail_if_success (with_reducible show wpAny _ _ (spliced (backTo _ (starEach [] _))) _ _ _))); k_dflt (refine args_nil ?_); (try ((with_reducible show wpAny _ _ (call _ (_ ++ _)) _ _ _); dsimp only [List.cons_append, List.nil_append])))
  k_with "callWith" => (k_here; (fail_if_success (fail_if_success (with_reducible show wpAny _ _ (callWith _ (Value.builtin _) [_] (backTo _ (starEach (_ :: _) _)) []) _ _ _))); first | ((first | (fail_if_success (fail_if_success (with_reducible show wpAny _ _ (callWith _ _ _ (backTo _ (starEach [PySem.Expr.Name _ _] (envOf _ _ _ _ _))) _) _ _ _))) | (fail_if_success (fail_if_success (with_reducible show wpAny _ _ (callWith _ _ _ (backTo _ (starEach [PySem.Expr.Name _ _] (envOfC _ _ _ _ _))) _) _ _ _)))); k_dflt (refine' callM1 ?zzF ?zzv ?_ ?zza ?zzb ?zzd; (case zzF => k_asm); (case zza => rfl); (case zzb => rfl); (case zzv => rfl); (case zzd => decide); k_whole)) | k_dflt (refine' callM ?_ ?zze ?zzp; (case zze => rfl); (case zzp => rfl)))
  k_with "callWith" => (k_here; (first | (fail_if_success (fail_if_success (with_reducible show wpAny _ _ (callWith _ (Value.builtin _) [] (backTo _ (starEach [PySem.Expr.Name _ _] (envOf _ _ _ _ _))) []) _ _ _))) | (fail_if_success (fail_if_success (with_reducible show wpAny _ _ (callWith _ (Value.builtin _) [] (backTo _ (starEach [PySem.Expr.Name _ _] (envOfC _ _ _ _ _))) []) _ _ _)))); k_dflt (refine' callB1 ?zzF ?zzv ?_ ?zza ?zzb ?zzd; (case zzF => k_asm); (case zza => rfl); (case zzb => rfl); (case zzv => rfl); (case zzd => decide); k_whole))
  k_with "newTuple" => (k_here; k_dflt (refine' tupM ?zzF ?zzN ?_ ?zzz; (case zzF => k_asm); (case zzN => k_asm); (case zzz => exact szT (Nat.le_of_ble_eq_true rfl : _ ≤ 7) (by decide)); k_whole); intro zzD zzh zzF zzN zzl; (try k_lt zzl); (try k_sweep))
  k_with "newList" => (k_here; k_dflt (refine' listM ?zzF ?zzN ?_ ?zzz; (case zzF => k_asm); (case zzN => k_asm); (case zzz => exact szT (Nat.le_of_ble_eq_true rfl : _ ≤ 7) (by decide)); k_whole); intro zzD zzh zzF zzN zzl; (try k_lt zzl); (try k_sweep))
  k_with "LeaveK" => (k_here; k_dflt (refine' leaveM ?zzF ?zzN ?_; (case zzF => k_asm); (case zzN => k_asm); k_whole); intro zzF zzN; (try k_sweep); (try dsimp only))
  k_with "call ref" => (k_here; (with_reducible show wpAny _ _ (call (Value.ref 109) [_]) _ _ _); k_dflt (refine' fspath_c ?zzk1 ?zzk2 ?zzk3 ?zzk4 ?zzk5 ?zzkK  ?zzkd ?zzku ?_; (case zzk1 => k_asm); (case zzk2 => k_asm); (case zzk3 => k_asm); (case zzk4 => k_asm); (case zzk5 => k_asm); (case zzkK => first | exact rfl | assumption);  (case zzkd => first | exact (Nat.lt_of_le_of_lt (Nat.add_le_add_left (Nat.le_of_ble_eq_true rfl : 1 + 1 ≤ 3) dp) hdp : dp + (1 + 1) < recursionLimit) | ktr_room); (case zzku => first | exact (Nat.lt_of_le_of_lt (Nat.add_le_add_left (Nat.le_of_ble_eq_true rfl : 3 + 8 ≤ 20) un) hun : un + (3 + 8) < cLine) | ktr_units)); intro t9 h9 tk9 F9 N9; (try dsimp only); (try k_sweep); (try k_fold))
  k_with "call ref" => (k_here; (with_reducible show wpAny _ _ (call (Value.ref 123) [_]) _ _ _); k_dflt (refine' getsep_c ?zzk1 ?zzk2 ?zzk3 ?zzk4 ?zzk5 ?zzkK  ?zzkd ?zzku ?_; (case zzk1 => k_asm); (case zzk2 => k_asm); (case zzk3 => k_asm); (case zzk4 => k_asm); (case zzk5 => k_asm); (case zzkK => first | exact rfl | assumption);  (case zzkd => first | exact (Nat.lt_of_le_of_lt (Nat.add_le_add_left (Nat.le_of_ble_eq_true rfl : 1 + 1 ≤ 3) dp) hdp : dp + (1 + 1) < recursionLimit) | ktr_room); (case zzku => first | exact (Nat.lt_of_le_of_lt (Nat.add_le_add_left (Nat.le_of_ble_eq_true rfl : 3 + 8 ≤ 20) un) hun : un + (3 + 8) < cLine) | ktr_units)); intro t9 h9 tk9 F9 N9; (try dsimp only); (try k_sweep); (try k_fold))
  revert X
  k_fill
  intro X
  refine wpAny_call ?_
  k_dflt (refine' code_def (binds := [(Str.ofString "p", .str x tx)]) ?k1 ?k2 ?k3 ?k4 ?k5 ?kA ?kF ?kK ?k6 ?k7 ?k8 ?k9 ?kB ?_ ?c2 ?c3 ?c4 ?c5; (case kA => exact rfl); (case kF => exact rfl); (case kK => assumption); (case k1 => k_asm); (case k2 => k_asm); (case k3 => k_asm); (case k4 => k_asm); (case k5 => k_asm); (case k6 => k_is); (case k7 => k_is); (case k8 => ktr_room); (case k9 => exact BindsTo.of_eq rfl); (case c5 => decide); (case kB => exact locs rfl); (case c2 => exact rfl); (case c3 => exact rfl); (case c4 => exact rfl); k_whole; intro g' L' h' FG' F' N' B' X' T'; (try dsimp only); (try k_lift B'); (try k_fold))
  k_steps
  all_goals first
    | (refine' hret _ _ _ _ _ _ _ ?e1 ?e2 (drop2 ?e3) ?e4; (case e3 => with_reducible assumption); (case e2 => with_reducible assumption); (case e4 => (rename _ ∧ AllLt _ _ => hl9; exact kst_ltOf hl9.2)); (case e1 => first | with_reducible exact splitF_1 (by assumption) (by assumption) | with_reducible exact splitF_2 (by assumption) (by assumption) | with_reducible exact splitF_3 (by assumption)))
theorem dotRest {m : Str → Option Value} {x y : Str} {d z n : Int} {σ : St} {T : Tks} {v : Option Value} (hy : y ∉ Spec.names ⟨[(x, d)], [z], [], [], [], []⟩) :
    (if y = x then v else bindG m ⟨[(x, d)], [z], [], [], [], []⟩ n σ T y) = m y :=
  have h : y ≠ x := fun e => hy (by rw [e]; exact List.mem_cons_self)
  (if_neg h).trans (show (if y = x then _ else m y) = m y from if_neg h)
theorem splitE_c {w : World} {mean : ExcName → Option Value} {mg mb : Str → Option Value} {dp un : Nat} {gd : Option (List Code)} {cn : Str} {cs : Scope} {a : Addr} {ccd : Value} {cl : List (Str × Addr)} {outer : List Env} {A₀ : Around} {base h₀ : Heap} {L : Addr} {m : Str → Option Value} {news : List (Addr × Obj)} {hp : Heap} {gn : Array GenState} {dr : Drawn} {tq : Nat} {oz : OsState} {x : Str} {tx t1 t2 : Tok}
    {Q E : Value → Shared → Prop} (B : Below A₀ base outer h₀) (F : Fr h₀ L hp m) (X : (lawTop.heap_39 w.params).In h₀) (N : News h₀ L hp news) (T : Top lawTop.view_39 (looseW lawTop.view_39 [Str.ofString "ascii_letters", Str.ofString "printable", Str.ofString "capwords"]) mean mg mb h₀) (hk : cs.kind = .function)
    (hx : x.length ≤ 100000) (hdp : dp + 3 < recursionLimit) (hun : un + 20 < cLine)
    (hret : ∀ D (a b : Str) t1 t2 h' tk', SplitextIs x a b → Fr h₀ L h' m → News h₀ L h' ((D, tupO [.str a t1, .str b t2]) :: news) → (∀ p ∈ news, p.1 < D) → Q (.ref D) ⟨h', gn, dr, tk', oz⟩) :
    wpAny (model PySem.Challenge.rw_ij0119_01.row.prog w) (ktrTop dp un gd cn cs L a ccd cl outer) (call (.ref 116) [.str x tx, .str (Str.ofString "/") t1, .none, .str (Str.ofString ".") t2]) Q E ⟨hp, gn, dr, tq, oz⟩ := by
  w_top off
  k_with_none
  k_with "eval BinOp" => k_fold
  k_with "eval Call" => k_fold
  k_with "eval Subscript" => k_fold
  k_with "size_fits" => first | exact szT (Nat.le_refl _) (by decide) | exact szT (by with_reducible assumption) (by decide) | exact Nat.le_trans (by with_reducible assumption) (Nat.le_of_ble_eq_true rfl) | exact szAB (by with_reducible assumption) (by with_reducible assumption) (by decide)
  k_with "ite" => (k_here; k_openite; first | (refine ite_pos (by with_reducible assumption) ?_; walk_say "PRUNED") | (refine ite_neg (by with_reducible assumption) ?_; walk_say "PRUNED") | (refine ite_isFalse (by with_reducible assumption) ?_; walk_say "PRUNED") | with_reducible refine ite_tt ?_ | with_reducible refine ite_ff ?_ | (with_reducible refine split_ine ?_ ?_ <;> intro _) | (with_reducible refine split_ieq ?_ ?_ <;> intro _) | with_reducible refine split_not ?_ | (refine split_dec ?_ ?_ <;> intro _) | (refine split_bool ?_ ?_ <;> intro _))
  k_with "storeName" => (k_here; k_dflt (refine' storeX_M ?zzF ?zzN ?_ ?zza ?zzb; (case zzF => k_asm); (case zzN => k_asm); (case zza => rfl); (case zzb => rfl); k_whole); intro zzh zzt zzl zzm zzF zzN; (try k_sweep))
  k_with "eval Constant int" => (k_here; k_dflt (refine constI ?_))
  k_with "eval Constant str" => (k_here; k_dflt (refine constS ?_))
  k_with "spliced" => (k_here; (first | (fail_if_success (fail_if_success (with_reducible show wpAny _ _ (spliced (backTo _ (starEach (PySem.Expr.Name _ _ :: _) (envOf _ _ _ _ _)))) _ _ _))) | (fail_if_success (fail_if_success (with_reducible show wpAny _ _ (spliced (backTo _ (starEach (PySem.Expr.Name _ _ :: _) (envOfC _ _ _ _ _)))) _ _ _)))); first | ((fail_if_success (fail_if_success (with_reducible show wpAny _ _ (spliced (backTo _ (starEach [PySem.Expr.Name _ _] _))) _ _ _))); k_dflt (refine' argName1 ?zzF ?zzv ?_ ?zza ?zzb ?zzd; (case zzF => k_asm); (case zza => rfl); (case zzb => rfl); (case zzv => rfl); (case zzd => decide); k_whole)) | k_dflt (refine' argName ?zzF ?zzv ?_ ?zza ?zzb ?zzd; (case zzF => k_asm); (case zza => rfl); (case zzb => rfl); (case zzv => rfl); (case zzd => decide); k_whole))
  k_with "spliced" => (k_here; (fail_if_success (fail_if_success (with_reducible show wpAny _ _ (spliced (backTo _ (starEach [] _))) _ _ _))); k_dflt (refine args_nil ?_); (try ((with_reducible show wpAny _ _ (call _ (_ ++ _)) _ _ _); dsimp only [List.cons_append, List.nil_append])))
  k_with "callWith" => (k_here; (fail_if_success (fail_if_success (with_reducible show wpAny _ _ (callWith _ (Value.builtin _) [_] (backTo _ (starEach (_ :: _) _)) []) _ _ _))); first | ((first | (fail_if_success (fail_if_success (with_reducible show wpAny _ _ (callWith _ _ _ (backTo _ (starEach [PySem.Expr.Name _ _] (envOf _ _ _ _ _))) _) _ _ _))) | (fail_if_success (fail_if_success (with_reducible show wpAny _ _ (callWith _ _ _ (backTo _ (starEach [PySem.Expr.Name _ _] (envOfC _ _ _ _ _))) _) _ _ _)))); k_dflt (refine' callM1 ?zzF ?zzv ?_ ?zza ?zzb ?zzd; (case zzF => k_asm); (case zza => rfl); (case zzb => rfl); (case zzv => rfl); (case zzd => decide); k_whole)) | k_dflt (refine' callM ?_ ?zze ?zzp; (case zze => rfl); (case zzp => rfl)))
  k_with "callWith" => (k_here; (first | (fail_if_success (fail_if_success (with_reducible show wpAny _ _ (callWith _ (Value.builtin _) [] (backTo _ (starEach [PySem.Expr.Name _ _] (envOf _ _ _ _ _))) []) _ _ _))) | (fail_if_success (fail_if_success (with_reducible show wpAny _ _ (callWith _ (Value.builtin _) [] (backTo _ (starEach [PySem.Expr.Name _ _] (envOfC _ _ _ _ _))) []) _ _ _)))); k_dflt (refine' callB1 ?zzF ?zzv ?_ ?zza ?zzb ?zzd; (case zzF => k_asm); (case zza => rfl); (case zzb => rfl); (case zzv => rfl); (case zzd => decide); k_whole))
  k_with "newTuple" => (k_here; k_dflt (refine' tupM ?zzF ?zzN ?_ ?zzz; (case zzF => k_asm); (case zzN => k_asm); (case zzz => exact szT (Nat.le_of_ble_eq_true rfl : _ ≤ 7) (by decide)); k_whole); intro zzD zzh zzF zzN zzl; (try k_lt zzl); (try k_sweep))
  k_with "newList" => (k_here; k_dflt (refine' listM ?zzF ?zzN ?_ ?zzz; (case zzF => k_asm); (case zzN => k_asm); (case zzz => exact szT (Nat.le_of_ble_eq_true rfl : _ ≤ 7) (by decide)); k_whole); intro zzD zzh zzF zzN zzl; (try k_lt zzl); (try k_sweep))
  k_with "LeaveK" => (k_here; k_dflt (refine' leaveM ?zzF ?zzN ?_; (case zzF => k_asm); (case zzN => k_asm); k_whole); intro zzF zzN; (try k_sweep); (try dsimp only))
  k_with "call ref" => (k_here; (with_reducible show wpAny _ _ (call (Value.ref 109) [_]) _ _ _); k_dflt (refine' fspath_c ?zzk1 ?zzk2 ?zzk3 ?zzk4 ?zzk5 ?zzkK  ?zzkd ?zzku ?_; (case zzk1 => k_asm); (case zzk2 => k_asm); (case zzk3 => k_asm); (case zzk4 => k_asm); (case zzk5 => k_asm); (case zzkK => first | exact rfl | assumption);  (case zzkd => first | exact (Nat.lt_of_le_of_lt (Nat.add_le_add_left (Nat.le_of_ble_eq_true rfl : 1 + 1 ≤ 3) dp) hdp : dp + (1 + 1) < recursionLimit) | ktr_room); (case zzku => first | exact (Nat.lt_of_le_of_lt (Nat.add_le_add_left (Nat.le_of_ble_eq_true rfl : 3 + 8 ≤ 20) un) hun : un + (3 + 8) < cLine) | ktr_units)); intro t9 h9 tk9 F9 N9; (try dsimp only); (try k_sweep); (try k_fold))
  k_with "call ref" => (k_here; (with_reducible show wpAny _ _ (call (Value.ref 123) [_]) _ _ _); k_dflt (refine' getsep_c ?zzk1 ?zzk2 ?zzk3 ?zzk4 ?zzk5 ?zzkK  ?zzkd ?zzku ?_; (case zzk1 => k_asm); (case zzk2 => k_asm); (case zzk3 => k_asm); (case zzk4 => k_asm); (case zzk5 => k_asm); (case zzkK => first | exact rfl | assumption);  (case zzkd => first | exact (Nat.lt_of_le_of_lt (Nat.add_le_add_left (Nat.le_of_ble_eq_true rfl : 1 + 1 ≤ 3) dp) hdp : dp + (1 + 1) < recursionLimit) | ktr_room); (case zzku => first | exact (Nat.lt_of_le_of_lt (Nat.add_le_add_left (Nat.le_of_ble_eq_true rfl : 3 + 8 ≤ 20) un) hun : un + (3 + 8) < cLine) | ktr_units)); intro t9 h9 tk9 F9 N9; (try dsimp only); (try k_sweep); (try k_fold))
  k_with "ite" => ((rename MarkX _ _ => hM); (apply split_boolX hM; (case' ht => (intro hc9 hM9; clear hM)); (case' hf => (intro hc9 hM9; clear hM))))
  k_with "GenStep" => (with_unfolding_all (refine' GenStep.ret ?_ (if_pos (by assumption) : _ = (⟨[], [], []⟩ : St)) (if_pos (by assumption) : _ = true)))
  k_with "GenStep" => ((with_unfolding_all refine' GenStep.next ?zzF ?zzN ?zzhB ReadZ.nil ReadBo.nil ReadSt.nil ?zzhr (if_neg (not_true_of_false (by assumption))) (if_neg (not_true_of_false (by assumption)))); (case zzF => assumption); (case zzN => assumption); (case zzhB => with_unfolding_all (refine .cons (read_int_eq (by with_unfolding_all rfl) (by omega)) .nil)); (case zzhr => intro y9 hy9; exact dotRest hy9))
  revert X
  k_fill
  intro X
  refine wpAny_call ?_
  k_dflt (refine' code_def (binds := [(Str.ofString "p", .str x tx), (Str.ofString "sep", .str (Str.ofString "/") t1), (Str.ofString "altsep", .none), (Str.ofString "extsep", .str (Str.ofString ".") t2)]) ?k1 ?k2 ?k3 ?k4 ?k5 ?kA ?kF ?kK ?k6 ?k7 ?k8 ?k9 ?kB ?_ ?c2 ?c3 ?c4 ?c5; (case kA => exact rfl); (case kF => exact rfl); (case kK => assumption); (case k1 => k_asm); (case k2 => k_asm); (case k3 => k_asm); (case k4 => k_asm); (case k5 => k_asm); (case k6 => k_is); (case k7 => k_is); (case k8 => ktr_room); (case k9 => exact BindsTo.of_eq rfl); (case c5 => decide); (case kB => exact locs rfl); (case c2 => exact rfl); (case c3 => exact rfl); (case c4 => exact rfl); k_whole; intro g' L' h' FG' F' N' B' X' T'; (try dsimp only); (try k_lift B'); (try k_fold))
  k_steps
  all_goals first
    | (refine' hret _ _ _ _ _ _ _ ?e1 ?e2 ?e3 ?e4; (case e3 => with_reducible assumption); (case e2 => with_reducible assumption); (case e4 => with_reducible assumption); (case e1 => exact Or.inr ⟨rfl, rfl, by assumption, _, by assumption, by assumption, by assumption⟩))
    | (refine' hret _ _ _ _ _ _ _ ?e1 ?e2 ?e3 ?e4; (case e3 => with_reducible assumption); (case e2 => with_reducible assumption); (case e4 => with_reducible assumption); (case e1 => exact Or.inl ⟨rfl, rfl, fun h => absurd h (by assumption)⟩))
    | (rename Passed _ _ _ => hP9; refine' hret _ _ _ _ _ _ _ (Or.inl ⟨rfl, rfl, fun _ j h0 h1 => ?e1⟩) ?e2 ?e3 ?e4; (case e3 => with_reducible assumption); (case e2 => with_reducible assumption); (case e4 => with_reducible assumption); (case e1 => (have q9 := (hP9 j h0 (by omega)).2; simpa using q9)))
theorem splitext_c {w : World} {mean : ExcName → Option Value} {mg mb : Str → Option Value} {dp un : Nat} {gd : Option (List Code)} {cn : Str} {cs : Scope} {a : Addr} {ccd : Value} {cl : List (Str × Addr)} {outer : List Env} {A₀ : Around} {base h₀ : Heap} {L : Addr} {m : Str → Option Value} {news : List (Addr × Obj)} {hp : Heap} {gn : Array GenState} {dr : Drawn} {tq : Nat} {oz : OsState} {x : Str} {tx : Tok}
    {Q E : Value → Shared → Prop} (B : Below A₀ base outer h₀) (F : Fr h₀ L hp m) (X : (lawTop.heap_39 w.params).In h₀) (N : News h₀ L hp news) (T : Top lawTop.view_39 (looseW lawTop.view_39 [Str.ofString "ascii_letters", Str.ofString "printable", Str.ofString "capwords"]) mean mg mb h₀) (hk : cs.kind = .function)
    (hx : x.length ≤ 100000) (hdp : dp + 5 < recursionLimit) (hun : un + 40 < cLine)
    (hret : ∀ D (a b : Str) t1 t2 h' tk', SplitextIs x a b → Fr h₀ L h' m → News h₀ L h' ((D, tupO [.str a t1, .str b t2]) :: news) → (∀ p ∈ news, p.1 < D) → Q (.ref D) ⟨h', gn, dr, tk', oz⟩) :
    wpAny (model PySem.Challenge.rw_ij0119_01.row.prog w) (ktrTop dp un gd cn cs L a ccd cl outer) (call (.ref 137) [.str x tx]) Q E ⟨hp, gn, dr, tq, oz⟩ := by
  w_top off
  k_with_none
  k_with "eval BinOp" => k_fold
  k_with "eval Call" => k_fold
  k_with "eval Subscript" => k_fold
  k_with "size_fits" => first | exact szT (Nat.le_refl _) (by decide) | exact szT (by with_reducible assumption) (by decide) | exact Nat.le_trans (by with_reducible assumption) (Nat.le_of_ble_eq_true rfl) | exact szAB (by with_reducible assumption) (by with_reducible assumption) (by decide)
  k_with "ite" => (k_here; k_openite; first | (refine ite_pos (by with_reducible assumption) ?_; walk_say "PRUNED") | (refine ite_neg (by with_reducible assumption) ?_; walk_say "PRUNED") | (refine ite_isFalse (by with_reducible assumption) ?_; walk_say "PRUNED") | with_reducible refine ite_tt ?_ | with_reducible refine ite_ff ?_ | (with_reducible refine split_ine ?_ ?_ <;> intro _) | (with_reducible refine split_ieq ?_ ?_ <;> intro _) | with_reducible refine split_not ?_ | (refine split_dec ?_ ?_ <;> intro _) | (refine split_bool ?_ ?_ <;> intro _))
  k_with "storeName" => (k_here; k_dflt (refine' storeX_M ?zzF ?zzN ?_ ?zza ?zzb; (case zzF => k_asm); (case zzN => k_asm); (case zza => rfl); (case zzb => rfl); k_whole); intro zzh zzt zzl zzm zzF zzN; (try k_sweep))
  k_with "eval Constant int" => (k_here; k_dflt (refine constI ?_))
  k_with "eval Constant str" => (k_here; k_dflt (refine constS ?_))
  k_with "spliced" => (k_here; (first | (fail_if_success (fail_if_success (with_reducible show wpAny _ _ (spliced (backTo _ (starEach (PySem.Expr.Name _ _ :: _) (envOf _ _ _ _ _)))) _ _ _))) | (fail_if_success (fail_if_success (with_reducible show wpAny _ _ (spliced (backTo _ (starEach (PySem.Expr.Name _ _ :: _) (envOfC _ _ _ _ _)))) _ _ _)))); first | ((fail_if_success (fail_if_success (with_reducible show wpAny _ _ (spliced (backTo _ (starEach [PySem.Expr.Name _ _] _))) _ _ _))); k_dflt (refine' argName1 ?zzF ?zzv ?_ ?zza ?zzb ?zzd; (case zzF => k_asm); (case zza => rfl); (case zzb => rfl); (case zzv => rfl); (case zzd => decide); k_whole)) | k_dflt (refine' argName ?zzF ?zzv ?_ ?zza ?zzb ?zzd; (case zzF => k_asm); (case zza => rfl); (case zzb => rfl); (case zzv => rfl); (case zzd => decide); k_whole))
  k_with "spliced" => (k_here; (fail_if_success (fail_if_success (with_reducible show wpAny _ _ (spliced (backTo _ (starEach [] _))) _ _ _))); k_dflt (refine args_nil ?_); (try ((with_reducible show wpAny _ _ (call _ (_ ++ _)) _ _ _); dsimp only [List.cons_append, List.nil_append])))
  k_with "callWith" => (k_here; (fail_if_success (fail_if_success (with_reducible show wpAny _ _ (callWith _ (Value.builtin _) [_] (backTo _ (starEach (_ :: _) _)) []) _ _ _))); first | ((first | (fail_if_success (fail_if_success (with_reducible show wpAny _ _ (callWith _ _ _ (backTo _ (starEach [PySem.Expr.Name _ _] (envOf _ _ _ _ _))) _) _ _ _))) | (fail_if_success (fail_if_success (with_reducible show wpAny _ _ (callWith _ _ _ (backTo _ (starEach [PySem.Expr.Name _ _] (envOfC _ _ _ _ _))) _) _ _ _)))); k_dflt (refine' callM1 ?zzF ?zzv ?_ ?zza ?zzb ?zzd; (case zzF => k_asm); (case zza => rfl); (case zzb => rfl); (case zzv => rfl); (case zzd => decide); k_whole)) | k_dflt (refine' callM ?_ ?zze ?zzp; (case zze => rfl); (case zzp => rfl)))
  k_with "callWith" => (k_here; (first | (fail_if_success (fail_if_success (with_reducible show wpAny _ _ (callWith _ (Value.builtin _) [] (backTo _ (starEach [PySem.Expr.Name _ _] (envOf _ _ _ _ _))) []) _ _ _))) | (fail_if_success (fail_if_success (with_reducible show wpAny _ _ (callWith _ (Value.builtin _) [] (backTo _ (starEach [PySem.Expr.Name _ _] (envOfC _ _ _ _ _))) []) _ _ _)))); k_dflt (refine' callB1 ?zzF ?zzv ?_ ?zza ?zzb ?zzd; (case zzF => k_asm); (case zza => rfl); (case zzb => rfl); (case zzv => rfl); (case zzd => decide); k_whole))
  k_with "newTuple" => (k_here; k_dflt (refine' tupM ?zzF ?zzN ?_ ?zzz; (case zzF => k_asm); (case zzN => k_asm); (case zzz => exact szT (Nat.le_of_ble_eq_true rfl : _ ≤ 7) (by decide)); k_whole); intro zzD zzh zzF zzN zzl; (try k_lt zzl); (try k_sweep))
  k_with "newList" => (k_here; k_dflt (refine' listM ?zzF ?zzN ?_ ?zzz; (case zzF => k_asm); (case zzN => k_asm); (case zzz => exact szT (Nat.le_of_ble_eq_true rfl : _ ≤ 7) (by decide)); k_whole); intro zzD zzh zzF zzN zzl; (try k_lt zzl); (try k_sweep))
  k_with "LeaveK" => (k_here; k_dflt (refine' leaveM ?zzF ?zzN ?_; (case zzF => k_asm); (case zzN => k_asm); k_whole); intro zzF zzN; (try k_sweep); (try dsimp only))
  k_with "call ref" => (k_here; (with_reducible show wpAny _ _ (call (Value.ref 109) [_]) _ _ _); k_dflt (refine' fspath_c ?zzk1 ?zzk2 ?zzk3 ?zzk4 ?zzk5 ?zzkK  ?zzkd ?zzku ?_; (case zzk1 => k_asm); (case zzk2 => k_asm); (case zzk3 => k_asm); (case zzk4 => k_asm); (case zzk5 => k_asm); (case zzkK => first | exact rfl | assumption);  (case zzkd => first | exact (Nat.lt_of_le_of_lt (Nat.add_le_add_left (Nat.le_of_ble_eq_true rfl : 1 + 1 ≤ 5) dp) hdp : dp + (1 + 1) < recursionLimit) | ktr_room); (case zzku => first | exact (Nat.lt_of_le_of_lt (Nat.add_le_add_left (Nat.le_of_ble_eq_true rfl : 3 + 8 ≤ 40) un) hun : un + (3 + 8) < cLine) | ktr_units)); intro t9 h9 tk9 F9 N9; (try dsimp only); (try k_sweep); (try k_fold))
  k_with "call ref" => (k_here; (with_reducible show wpAny _ _ (call (Value.ref 116) [_, _, _, _]) _ _ _); k_dflt (refine' splitE_c ?zzk1 ?zzk2 ?zzk3 ?zzk4 ?zzk5 ?zzkK ?zzhx ?zzkd ?zzku ?_; (case zzk1 => k_asm); (case zzk2 => k_asm); (case zzk3 => k_asm); (case zzk4 => k_asm); (case zzk5 => k_asm); (case zzkK => first | exact rfl | assumption); (case zzhx => first | omega | assumption); (case zzkd => first | exact (Nat.lt_of_le_of_lt (Nat.add_le_add_left (Nat.le_of_ble_eq_true rfl : 1 + 3 ≤ 5) dp) hdp : dp + (1 + 3) < recursionLimit) | ktr_room); (case zzku => first | exact (Nat.lt_of_le_of_lt (Nat.add_le_add_left (Nat.le_of_ble_eq_true rfl : 3 + 20 ≤ 40) un) hun : un + (3 + 20) < cLine) | ktr_units)); intro D9 a9 b9 t9 t8 h9 tk9 e9 F9 N9 l9; (try k_lt l9); (try dsimp only); (try k_sweep); (try k_fold))
  revert X
  k_fill
  intro X
  refine wpAny_call ?_
  k_dflt (refine' code_def (binds := [(Str.ofString "p", .str x tx)]) ?k1 ?k2 ?k3 ?k4 ?k5 ?kA ?kF ?kK ?k6 ?k7 ?k8 ?k9 ?kB ?_ ?c2 ?c3 ?c4 ?c5; (case kA => exact rfl); (case kF => exact rfl); (case kK => assumption); (case k1 => k_asm); (case k2 => k_asm); (case k3 => k_asm); (case k4 => k_asm); (case k5 => k_asm); (case k6 => k_is); (case k7 => k_is); (case k8 => ktr_room); (case k9 => exact BindsTo.of_eq rfl); (case c5 => decide); (case kB => exact locs rfl); (case c2 => exact rfl); (case c3 => exact rfl); (case c4 => exact rfl); k_whole; intro g' L' h' FG' F' N' B' X' T'; (try dsimp only); (try k_lift B'); (try k_fold))
  k_steps
  all_goals (refine' hret _ _ _ _ _ _ _ ?e1 ?e2 ?e3 ?e4; (case e3 => with_reducible assumption); (case e2 => with_reducible assumption); (case e4 => first | (with_reducible assumption) | (rename _ ∧ AllLt _ _ => hl9; exact kst_ltOf hl9.2) | (rename AllLt _ _ => hl9; exact kst_ltOf hl9)); (case e1 => with_reducible assumption))
theorem dropH {h₀ h : Heap} {L : Addr} {p : Addr × Obj} {news : List (Addr × Obj)} (N : News h₀ L h (p :: news)) : News h₀ L h news := fun q hq => N q (.tail _ hq)
theorem capw_c {w : World} {mean : ExcName → Option Value} {mg mb : Str → Option Value} {dp un : Nat} {gd : Option (List Code)} {cn : Str} {cs : Scope} {a : Addr} {ccd : Value} {cl : List (Str × Addr)} {outer : List Env} {A₀ : Around} {base h₀ : Heap} {L : Addr} {m : Str → Option Value} {news : List (Addr × Obj)} {hp : Heap} {gn : Array GenState} {dr : Drawn} {tq : Nat} {oz : OsState} {x : Str} {tx : Tok}
    {Q E : Value → Shared → Prop} (B : Below A₀ base outer h₀) (F : Fr h₀ L hp m) (X : (lawTop.heap_39 w.params).In h₀) (N : News h₀ L hp news) (T : Top lawTop.view_39 (looseW lawTop.view_39 [Str.ofString "ascii_letters", Str.ofString "printable", Str.ofString "capwords"]) mean mg mb h₀) (hk : cs.kind = .function)
    (hx : x.length ≤ 100000) (hdp : dp + 5 < recursionLimit) (hun : un + 40 < cLine)
    (hret : ∀ t h' tk', Fr h₀ L h' m → News h₀ L h' news → Q (.str (Txt.join (Str.ofString " ") ((Txt.words x).map Txt.capitalize)) t) ⟨h', gn, dr, tk', oz⟩) :
    wpAny (model PySem.Challenge.rw_ij0119_01.row.prog w) (ktrTop dp un gd cn cs L a ccd cl outer) (call (.ref 36) [.str x tx]) Q E ⟨hp, gn, dr, tq, oz⟩ := by
  w_top off
  k_with_none
  k_with "eval BinOp" => k_fold
  k_with "eval Call" => k_fold
  k_with "eval Subscript" => k_fold
  k_with "size_fits" => first | exact szT (Nat.le_refl _) (by decide) | exact szT (by with_reducible assumption) (by decide) | exact Nat.le_trans (by with_reducible assumption) (Nat.le_of_ble_eq_true rfl) | exact szAB (by with_reducible assumption) (by with_reducible assumption) (by decide)
  k_with "ite" => (k_here; k_openite; first | (refine ite_pos (by with_reducible assumption) ?_; walk_say "PRUNED") | (refine ite_neg (by with_reducible assumption) ?_; walk_say "PRUNED") | (refine ite_isFalse (by with_reducible assumption) ?_; walk_say "PRUNED") | with_reducible refine ite_tt ?_ | with_reducible refine ite_ff ?_ | (with_reducible refine split_ine ?_ ?_ <;> intro _) | (with_reducible refine split_ieq ?_ ?_ <;> intro _) | with_reducible refine split_not ?_ | (refine split_dec ?_ ?_ <;> intro _) | (refine split_bool ?_ ?_ <;> intro _))
  k_with "storeName" => (k_here; k_dflt (refine' storeX_M ?zzF ?zzN ?_ ?zza ?zzb; (case zzF => k_asm); (case zzN => k_asm); (case zza => rfl); (case zzb => rfl); k_whole); intro zzh zzt zzl zzm zzF zzN; (try k_sweep))
  k_with "eval Constant int" => (k_here; k_dflt (refine constI ?_))
  k_with "eval Constant str" => (k_here; k_dflt (refine constS ?_))
  k_with "spliced" => (k_here; (first | (fail_if_success (fail_if_success (with_reducible show wpAny _ _ (spliced (backTo _ (starEach (PySem.Expr.Name _ _ :: _) (envOf _ _ _ _ _)))) _ _ _))) | (fail_if_success (fail_if_success (with_reducible show wpAny _ _ (spliced (backTo _ (starEach (PySem.Expr.Name _ _ :: _) (envOfC _ _ _ _ _)))) _ _ _)))); first | ((fail_if_success (fail_if_success (with_reducible show wpAny _ _ (spliced (backTo _ (starEach [PySem.Expr.Name _ _] _))) _ _ _))); k_dflt (refine' argName1 ?zzF ?zzv ?_ ?zza ?zzb ?zzd; (case zzF => k_asm); (case zza => rfl); (case zzb => rfl); (case zzv => rfl); (case zzd => decide); k_whole)) | k_dflt (refine' argName ?zzF ?zzv ?_ ?zza ?zzb ?zzd; (case zzF => k_asm); (case zza => rfl); (case zzb => rfl); (case zzv => rfl); (case zzd => decide); k_whole))
  k_with "spliced" => (k_here; (fail_if_success (fail_if_success (with_reducible show wpAny _ _ (spliced (backTo _ (starEach [] _))) _ _ _))); k_dflt (refine args_nil ?_); (try ((with_reducible show wpAny _ _ (call _ (_ ++ _)) _ _ _); dsimp only [List.cons_append, List.nil_append])))
  k_with "callWith" => (k_here; (fail_if_success (fail_if_success (with_reducible show wpAny _ _ (callWith _ (Value.builtin _) [_] (backTo _ (starEach (_ :: _) _)) []) _ _ _))); first | ((first | (fail_if_success (fail_if_success (with_reducible show wpAny _ _ (callWith _ _ _ (backTo _ (starEach [PySem.Expr.Name _ _] (envOf _ _ _ _ _))) _) _ _ _))) | (fail_if_success (fail_if_success (with_reducible show wpAny _ _ (callWith _ _ _ (backTo _ (starEach [PySem.Expr.Name _ _] (envOfC _ _ _ _ _))) _) _ _ _)))); k_dflt (refine' callM1 ?zzF ?zzv ?_ ?zza ?zzb ?zzd; (case zzF => k_asm); (case zza => rfl); (case zzb => rfl); (case zzv => rfl); (case zzd => decide); k_whole)) | k_dflt (refine' callM ?_ ?zze ?zzp; (case zze => rfl); (case zzp => rfl)))
  k_with "callWith" => (k_here; (first | (fail_if_success (fail_if_success (with_reducible show wpAny _ _ (callWith _ (Value.builtin _) [] (backTo _ (starEach [PySem.Expr.Name _ _] (envOf _ _ _ _ _))) []) _ _ _))) | (fail_if_success (fail_if_success (with_reducible show wpAny _ _ (callWith _ (Value.builtin _) [] (backTo _ (starEach [PySem.Expr.Name _ _] (envOfC _ _ _ _ _))) []) _ _ _)))); k_dflt (refine' callB1 ?zzF ?zzv ?_ ?zza ?zzb ?zzd; (case zzF => k_asm); (case zza => rfl); (case zzb => rfl); (case zzv => rfl); (case zzd => decide); k_whole))
  k_with "newTuple" => (k_here; k_dflt (refine' tupM ?zzF ?zzN ?_ ?zzz; (case zzF => k_asm); (case zzN => k_asm); (case zzz => exact szT (Nat.le_of_ble_eq_true rfl : _ ≤ 7) (by decide)); k_whole); intro zzD zzh zzF zzN zzl; (try k_lt zzl); (try k_sweep))
  k_with "newList" => (k_here; k_dflt (refine' listM ?zzF ?zzN ?_ ?zzz; (case zzF => k_asm); (case zzN => k_asm); (case zzz => exact szT (Nat.le_of_ble_eq_true rfl : _ ≤ 7) (by decide)); k_whole); intro zzD zzh zzF zzN zzl; (try k_lt zzl); (try k_sweep))
  k_with "LeaveK" => (k_here; k_dflt (refine' leaveM ?zzF ?zzN ?_; (case zzF => k_asm); (case zzN => k_asm); k_whole); intro zzF zzN; (try k_sweep); (try dsimp only))
  k_with "call ref" => (k_here; (with_reducible show wpAny _ _ (call (Value.ref 109) [_]) _ _ _); k_dflt (refine' fspath_c ?zzk1 ?zzk2 ?zzk3 ?zzk4 ?zzk5 ?zzkK  ?zzkd ?zzku ?_; (case zzk1 => k_asm); (case zzk2 => k_asm); (case zzk3 => k_asm); (case zzk4 => k_asm); (case zzk5 => k_asm); (case zzkK => first | exact rfl | assumption);  (case zzkd => first | exact (Nat.lt_of_le_of_lt (Nat.add_le_add_left (Nat.le_of_ble_eq_true rfl : 1 + 1 ≤ 5) dp) hdp : dp + (1 + 1) < recursionLimit) | ktr_room); (case zzku => first | exact (Nat.lt_of_le_of_lt (Nat.add_le_add_left (Nat.le_of_ble_eq_true rfl : 3 + 8 ≤ 40) un) hun : un + (3 + 8) < cLine) | ktr_units)); intro t9 h9 tk9 F9 N9; (try dsimp only); (try k_sweep); (try k_fold))
  k_with "call ref" => (k_here; (with_reducible show wpAny _ _ (call (Value.ref 116) [_, _, _, _]) _ _ _); k_dflt (refine' splitE_c ?zzk1 ?zzk2 ?zzk3 ?zzk4 ?zzk5 ?zzkK ?zzhx ?zzkd ?zzku ?_; (case zzk1 => k_asm); (case zzk2 => k_asm); (case zzk3 => k_asm); (case zzk4 => k_asm); (case zzk5 => k_asm); (case zzkK => first | exact rfl | assumption); (case zzhx => first | omega | assumption); (case zzkd => first | exact (Nat.lt_of_le_of_lt (Nat.add_le_add_left (Nat.le_of_ble_eq_true rfl : 1 + 3 ≤ 5) dp) hdp : dp + (1 + 3) < recursionLimit) | ktr_room); (case zzku => first | exact (Nat.lt_of_le_of_lt (Nat.add_le_add_left (Nat.le_of_ble_eq_true rfl : 3 + 20 ≤ 40) un) hun : un + (3 + 20) < cLine) | ktr_units)); intro D9 a9 b9 t9 t8 h9 tk9 e9 F9 N9 l9; (try k_lt l9); (try dsimp only); (try k_sweep); (try k_fold))
  k_with "getAttr" => (k_here; (with_reducible show wpAny _ _ (getAttr (Value.type _) (PySem.Str.ofString "capitalize") _) _ _ _); k_dflt (refine' typeAttr ?zzF ?zzX ?zzt ?zzs ?zze ?zzhh ?_; (case zzF => k_asm); (case zzX => k_asm); (case zzt => decide +kernel); (case zzs => decide +kernel); (case zze => k_is); (case zzhh => rfl); k_whole); intro _)
  k_with "call type:map" => (k_here; k_dflt (refine' mp_callN ?zzF ?zzN ?zzl ?_; (case zzF => k_asm); (case zzN => k_asm); (case zzl => k_mem); k_whole); intro I9 T9 M9 h9 F9 N9 l1 l2 l3; (try k_sweep))
  k_with "call builtin:str.join" => (k_here; (with_reducible show wpAny _ _ (call (Value.builtin "str.join") [Value.str _ _, Value.ref _]) _ _ _); k_dflt (refine' capJoinN ?zzF ?zzN ?zzhl ?zzl1 ?zzl2 ?zzl3 ?zzhh ?zzhe ?zzW ?zzhn ?zzhs ?_; (case zzF => k_asm); (case zzN => k_asm); (case zzhl => k_mem); (case zzl1 => with_reducible assumption); (case zzl2 => with_reducible assumption); (case zzl3 => with_reducible assumption); (case zzhh => exact rfl); (case zzhe => with_reducible assumption); (case zzW => first | exact weighs_of_words (by with_reducible assumption) | exact weighs_of_split (by with_reducible assumption) (by decide)); (case zzhn => first | (with_reducible assumption) | exact Nat.le_trans (by with_reducible assumption) (Nat.le_of_ble_eq_true rfl) | omega); (case zzhs => decide); k_whole); intro h9 t9 k9 F9 N9; (try k_sweep))
  revert X
  k_fill
  intro X
  refine wpAny_call ?_
  k_dflt (refine' code_def ?k1 ?k2 ?k3 ?k4 ?k5 ?kA ?kF ?kK ?k6 ?k7 ?k8 ?k9 ?kB ?_ ?c2 ?c3 ?c4 ?c5; (case kA => exact rfl); (case kF => exact rfl); (case kK => assumption); (case k1 => k_asm); (case k2 => k_asm); (case k3 => k_asm); (case k4 => k_asm); (case k5 => k_asm); (case k6 => k_is); (case k7 => k_is); (case k8 => first | exact Nat.lt_of_le_of_lt (Nat.le_add_right dp 5) hdp | ktr_room); (case k9 => first | exact BindsTo.of_eq rfl | exact binds_K (by k_in) rfl (by k_is) rfl rfl rfl); (case c5 => decide); (case kB => exact locs rfl); (case c2 => exact rfl); (case c3 => exact rfl); (case c4 => exact rfl); k_whole; intro g' L' h' FG' F' N' B' X' T'; (try dsimp only); (try k_lift B'); (try k_fold))
  k_steps
  all_goals (refine' hret _ _ _ ?e1 (dropH ?e2); (case e2 => with_reducible assumption); (case e1 => with_reducible assumption))
theorem capwn_c {w : World} {mean : ExcName → Option Value} {mg mb : Str → Option Value} {dp un : Nat} {gd : Option (List Code)} {cn : Str} {cs : Scope} {a : Addr} {ccd : Value} {cl : List (Str × Addr)} {outer : List Env} {A₀ : Around} {base h₀ : Heap} {L : Addr} {m : Str → Option Value} {news : List (Addr × Obj)} {hp : Heap} {gn : Array GenState} {dr : Drawn} {tq : Nat} {oz : OsState} {x : Str} {tx : Tok}
    {Q E : Value → Shared → Prop} (B : Below A₀ base outer h₀) (F : Fr h₀ L hp m) (X : (lawTop.heap_39 w.params).In h₀) (N : News h₀ L hp news) (T : Top lawTop.view_39 (looseW lawTop.view_39 [Str.ofString "ascii_letters", Str.ofString "printable", Str.ofString "capwords"]) mean mg mb h₀) (hk : cs.kind = .function)
    (hx : x.length ≤ 100000) (hdp : dp + 5 < recursionLimit) (hun : un + 40 < cLine)
    (hret : ∀ t h' tk', Fr h₀ L h' m → News h₀ L h' news → Q (.str (Txt.join (Str.ofString " ") ((Txt.words x).map Txt.capitalize)) t) ⟨h', gn, dr, tk', oz⟩) :
    wpAny (model PySem.Challenge.rw_ij0119_01.row.prog w) (ktrTop dp un gd cn cs L a ccd cl outer) (call (.ref 36) [.str x tx, .none]) Q E ⟨hp, gn, dr, tq, oz⟩ := by
  w_top off
  k_with_none
  k_with "eval BinOp" => k_fold
  k_with "eval Call" => k_fold
  k_with "eval Subscript" => k_fold
  k_with "size_fits" => first | exact szT (Nat.le_refl _) (by decide) | exact szT (by with_reducible assumption) (by decide) | exact Nat.le_trans (by with_reducible assumption) (Nat.le_of_ble_eq_true rfl) | exact szAB (by with_reducible assumption) (by with_reducible assumption) (by decide)
  k_with "ite" => (k_here; k_openite; first | (refine ite_pos (by with_reducible assumption) ?_; walk_say "PRUNED") | (refine ite_neg (by with_reducible assumption) ?_; walk_say "PRUNED") | (refine ite_isFalse (by with_reducible assumption) ?_; walk_say "PRUNED") | with_reducible refine ite_tt ?_ | with_reducible refine ite_ff ?_ | (with_reducible refine split_ine ?_ ?_ <;> intro _) | (with_reducible refine split_ieq ?_ ?_ <;> intro _) | with_reducible refine split_not ?_ | (refine split_dec ?_ ?_ <;> intro _) | (refine split_bool ?_ ?_ <;> intro _))
  k_with "storeName" => (k_here; k_dflt (refine' storeX_M ?zzF ?zzN ?_ ?zza ?zzb; (case zzF => k_asm); (case zzN => k_asm); (case zza => rfl); (case zzb => rfl); k_whole); intro zzh zzt zzl zzm zzF zzN; (try k_sweep))
  k_with "eval Constant int" => (k_here; k_dflt (refine constI ?_))
  k_with "eval Constant str" => (k_here; k_dflt (refine constS ?_))
  k_with "spliced" => (k_here; (first | (fail_if_success (fail_if_success (with_reducible show wpAny _ _ (spliced (backTo _ (starEach (PySem.Expr.Name _ _ :: _) (envOf _ _ _ _ _)))) _ _ _))) | (fail_if_success (fail_if_success (with_reducible show wpAny _ _ (spliced (backTo _ (starEach (PySem.Expr.Name _ _ :: _) (envOfC _ _ _ _ _)))) _ _ _)))); first | ((fail_if_success (fail_if_success (with_reducible show wpAny _ _ (spliced (backTo _ (starEach [PySem.Expr.Name _ _] _))) _ _ _))); k_dflt (refine' argName1 ?zzF ?zzv ?_ ?zza ?zzb ?zzd; (case zzF => k_asm); (case zza => rfl); (case zzb => rfl); (case zzv => rfl); (case zzd => decide); k_whole)) | k_dflt (refine' argName ?zzF ?zzv ?_ ?zza ?zzb ?zzd; (case zzF => k_asm); (case zza => rfl); (case zzb => rfl); (case zzv => rfl); (case zzd => decide); k_whole))
  k_with "spliced" => (k_here; (fail_if_success (fail_if_success (with_reducible show wpAny _ _ (spliced (backTo _ (starEach [] _))) _ _ _))); k_dflt (refine args_nil ?_); (try ((with_reducible show wpAny _ _ (call _ (_ ++ _)) _ _ _); dsimp only [List.cons_append, List.nil_append])))
  k_with "callWith" => (k_here; (fail_if_success (fail_if_success (with_reducible show wpAny _ _ (callWith _ (Value.builtin _) [_] (backTo _ (starEach (_ :: _) _)) []) _ _ _))); first | ((first | (fail_if_success (fail_if_success (with_reducible show wpAny _ _ (callWith _ _ _ (backTo _ (starEach [PySem.Expr.Name _ _] (envOf _ _ _ _ _))) _) _ _ _))) | (fail_if_success (fail_if_success (with_reducible show wpAny _ _ (callWith _ _ _ (backTo _ (starEach [PySem.Expr.Name _ _] (envOfC _ _ _ _ _))) _) _ _ _)))); k_dflt (refine' callM1 ?zzF ?zzv ?_ ?zza ?zzb ?zzd; (case zzF => k_asm); (case zza => rfl); (case zzb => rfl); (case zzv => rfl); (case zzd => decide); k_whole)) | k_dflt (refine' callM ?_ ?zze ?zzp; (case zze => rfl); (case zzp => rfl)))
  k_with "callWith" => (k_here; (first | (fail_if_success (fail_if_success (with_reducible show wpAny _ _ (callWith _ (Value.builtin _) [] (backTo _ (starEach [PySem.Expr.Name _ _] (envOf _ _ _ _ _))) []) _ _ _))) | (fail_if_success (fail_if_success (with_reducible show wpAny _ _ (callWith _ (Value.builtin _) [] (backTo _ (starEach [PySem.Expr.Name _ _] (envOfC _ _ _ _ _))) []) _ _ _)))); k_dflt (refine' callB1 ?zzF ?zzv ?_ ?zza ?zzb ?zzd; (case zzF => k_asm); (case zza => rfl); (case zzb => rfl); (case zzv => rfl); (case zzd => decide); k_whole))
  k_with "newTuple" => (k_here; k_dflt (refine' tupM ?zzF ?zzN ?_ ?zzz; (case zzF => k_asm); (case zzN => k_asm); (case zzz => exact szT (Nat.le_of_ble_eq_true rfl : _ ≤ 7) (by decide)); k_whole); intro zzD zzh zzF zzN zzl; (try k_lt zzl); (try k_sweep))
  k_with "newList" => (k_here; k_dflt (refine' listM ?zzF ?zzN ?_ ?zzz; (case zzF => k_asm); (case zzN => k_asm); (case zzz => exact szT (Nat.le_of_ble_eq_true rfl : _ ≤ 7) (by decide)); k_whole); intro zzD zzh zzF zzN zzl; (try k_lt zzl); (try k_sweep))
  k_with "LeaveK" => (k_here; k_dflt (refine' leaveM ?zzF ?zzN ?_; (case zzF => k_asm); (case zzN => k_asm); k_whole); intro zzF zzN; (try k_sweep); (try dsimp only))
  k_with "call ref" => (k_here; (with_reducible show wpAny _ _ (call (Value.ref 109) [_]) _ _ _); k_dflt (refine' fspath_c ?zzk1 ?zzk2 ?zzk3 ?zzk4 ?zzk5 ?zzkK  ?zzkd ?zzku ?_; (case zzk1 => k_asm); (case zzk2 => k_asm); (case zzk3 => k_asm); (case zzk4 => k_asm); (case zzk5 => k_asm); (case zzkK => first | exact rfl | assumption);  (case zzkd => first | exact (Nat.lt_of_le_of_lt (Nat.add_le_add_left (Nat.le_of_ble_eq_true rfl : 1 + 1 ≤ 5) dp) hdp : dp + (1 + 1) < recursionLimit) | ktr_room); (case zzku => first | exact (Nat.lt_of_le_of_lt (Nat.add_le_add_left (Nat.le_of_ble_eq_true rfl : 3 + 8 ≤ 40) un) hun : un + (3 + 8) < cLine) | ktr_units)); intro t9 h9 tk9 F9 N9; (try dsimp only); (try k_sweep); (try k_fold))
  k_with "call ref" => (k_here; (with_reducible show wpAny _ _ (call (Value.ref 116) [_, _, _, _]) _ _ _); k_dflt (refine' splitE_c ?zzk1 ?zzk2 ?zzk3 ?zzk4 ?zzk5 ?zzkK ?zzhx ?zzkd ?zzku ?_; (case zzk1 => k_asm); (case zzk2 => k_asm); (case zzk3 => k_asm); (case zzk4 => k_asm); (case zzk5 => k_asm); (case zzkK => first | exact rfl | assumption); (case zzhx => first | omega | assumption); (case zzkd => first | exact (Nat.lt_of_le_of_lt (Nat.add_le_add_left (Nat.le_of_ble_eq_true rfl : 1 + 3 ≤ 5) dp) hdp : dp + (1 + 3) < recursionLimit) | ktr_room); (case zzku => first | exact (Nat.lt_of_le_of_lt (Nat.add_le_add_left (Nat.le_of_ble_eq_true rfl : 3 + 20 ≤ 40) un) hun : un + (3 + 20) < cLine) | ktr_units)); intro D9 a9 b9 t9 t8 h9 tk9 e9 F9 N9 l9; (try k_lt l9); (try dsimp only); (try k_sweep); (try k_fold))
  k_with "getAttr" => (k_here; (with_reducible show wpAny _ _ (getAttr (Value.type _) (PySem.Str.ofString "capitalize") _) _ _ _); k_dflt (refine' typeAttr ?zzF ?zzX ?zzt ?zzs ?zze ?zzhh ?_; (case zzF => k_asm); (case zzX => k_asm); (case zzt => decide +kernel); (case zzs => decide +kernel); (case zze => k_is); (case zzhh => rfl); k_whole); intro _)
  k_with "call type:map" => (k_here; k_dflt (refine' mp_callN ?zzF ?zzN ?zzl ?_; (case zzF => k_asm); (case zzN => k_asm); (case zzl => k_mem); k_whole); intro I9 T9 M9 h9 F9 N9 l1 l2 l3; (try k_sweep))
  k_with "call builtin:str.join" => (k_here; (with_reducible show wpAny _ _ (call (Value.builtin "str.join") [Value.str _ _, Value.ref _]) _ _ _); k_dflt (refine' capJoinN ?zzF ?zzN ?zzhl ?zzl1 ?zzl2 ?zzl3 ?zzhh ?zzhe ?zzW ?zzhn ?zzhs ?_; (case zzF => k_asm); (case zzN => k_asm); (case zzhl => k_mem); (case zzl1 => with_reducible assumption); (case zzl2 => with_reducible assumption); (case zzl3 => with_reducible assumption); (case zzhh => exact rfl); (case zzhe => with_reducible assumption); (case zzW => first | exact weighs_of_words (by with_reducible assumption) | exact weighs_of_split (by with_reducible assumption) (by decide)); (case zzhn => first | (with_reducible assumption) | exact Nat.le_trans (by with_reducible assumption) (Nat.le_of_ble_eq_true rfl) | omega); (case zzhs => decide); k_whole); intro h9 t9 k9 F9 N9; (try k_sweep))
  revert X
  k_fill
  intro X
  refine wpAny_call ?_
  k_dflt (refine' code_def ?k1 ?k2 ?k3 ?k4 ?k5 ?kA ?kF ?kK ?k6 ?k7 ?k8 ?k9 ?kB ?_ ?c2 ?c3 ?c4 ?c5; (case kA => exact rfl); (case kF => exact rfl); (case kK => assumption); (case k1 => k_asm); (case k2 => k_asm); (case k3 => k_asm); (case k4 => k_asm); (case k5 => k_asm); (case k6 => k_is); (case k7 => k_is); (case k8 => first | exact Nat.lt_of_le_of_lt (Nat.le_add_right dp 5) hdp | ktr_room); (case k9 => first | exact BindsTo.of_eq rfl | exact binds_K (by k_in) rfl (by k_is) rfl rfl rfl); (case c5 => decide); (case kB => exact locs rfl); (case c2 => exact rfl); (case c3 => exact rfl); (case c4 => exact rfl); k_whole; intro g' L' h' FG' F' N' B' X' T'; (try dsimp only); (try k_lift B'); (try k_fold))
  k_steps
  all_goals (refine' hret _ _ _ ?e1 (dropH ?e2); (case e2 => with_reducible assumption); (case e1 => with_reducible assumption))
theorem capws_c {w : World} {mean : ExcName → Option Value} {mg mb : Str → Option Value} {dp un : Nat} {gd : Option (List Code)} {cn : Str} {cs : Scope} {a : Addr} {ccd : Value} {cl : List (Str × Addr)} {outer : List Env} {A₀ : Around} {base h₀ : Heap} {L : Addr} {m : Str → Option Value} {news : List (Addr × Obj)} {hp : Heap} {gn : Array GenState} {dr : Drawn} {tq : Nat} {oz : OsState} {x : Str} {tx t1 : Tok}
    {Q E : Value → Shared → Prop} (B : Below A₀ base outer h₀) (F : Fr h₀ L hp m) (X : (lawTop.heap_39 w.params).In h₀) (N : News h₀ L hp news) (T : Top lawTop.view_39 (looseW lawTop.view_39 [Str.ofString "ascii_letters", Str.ofString "printable", Str.ofString "capwords"]) mean mg mb h₀) (hk : cs.kind = .function)
    (hx : x.length ≤ 100000) (hdp : dp + 5 < recursionLimit) (hun : un + 40 < cLine)
    (hret : ∀ t h' tk', Fr h₀ L h' m → News h₀ L h' news → Q (.str (Txt.join (Str.ofString "/") ((Txt.split x (Str.ofString "/")).map Txt.capitalize)) t) ⟨h', gn, dr, tk', oz⟩) :
    wpAny (model PySem.Challenge.rw_ij0119_01.row.prog w) (ktrTop dp un gd cn cs L a ccd cl outer) (call (.ref 36) [.str x tx, .str (Str.ofString "/") t1]) Q E ⟨hp, gn, dr, tq, oz⟩ := by
  w_top off
  k_with_none
  k_with "eval BinOp" => k_fold
  k_with "eval Call" => k_fold
  k_with "eval Subscript" => k_fold
  k_with "size_fits" => first | exact szT (Nat.le_refl _) (by decide) | exact szT (by with_reducible assumption) (by decide) | exact Nat.le_trans (by with_reducible assumption) (Nat.le_of_ble_eq_true rfl) | exact szAB (by with_reducible assumption) (by with_reducible assumption) (by decide)
  k_with "ite" => (k_here; k_openite; first | (refine ite_pos (by with_reducible assumption) ?_; walk_say "PRUNED") | (refine ite_neg (by with_reducible assumption) ?_; walk_say "PRUNED") | (refine ite_isFalse (by with_reducible assumption) ?_; walk_say "PRUNED") | with_reducible refine ite_tt ?_ | with_reducible refine ite_ff ?_ | (with_reducible refine split_ine ?_ ?_ <;> intro _) | (with_reducible refine split_ieq ?_ ?_ <;> intro _) | with_reducible refine split_not ?_ | (refine split_dec ?_ ?_ <;> intro _) | (refine split_bool ?_ ?_ <;> intro _))
  k_with "storeName" => (k_here; k_dflt (refine' storeX_M ?zzF ?zzN ?_ ?zza ?zzb; (case zzF => k_asm); (case zzN => k_asm); (case zza => rfl); (case zzb => rfl); k_whole); intro zzh zzt zzl zzm zzF zzN; (try k_sweep))
  k_with "eval Constant int" => (k_here; k_dflt (refine constI ?_))
  k_with "eval Constant str" => (k_here; k_dflt (refine constS ?_))
  k_with "spliced" => (k_here; (first | (fail_if_success (fail_if_success (with_reducible show wpAny _ _ (spliced (backTo _ (starEach (PySem.Expr.Name _ _ :: _) (envOf _ _ _ _ _)))) _ _ _))) | (fail_if_success (fail_if_success (with_reducible show wpAny _ _ (spliced (backTo _ (starEach (PySem.Expr.Name _ _ :: _) (envOfC _ _ _ _ _)))) _ _ _)))); first | ((fail_if_success (fail_if_success (with_reducible show wpAny _ _ (spliced (backTo _ (starEach [PySem.Expr.Name _ _] _))) _ _ _))); k_dflt (refine' argName1 ?zzF ?zzv ?_ ?zza ?zzb ?zzd; (case zzF => k_asm); (case zza => rfl); (case zzb => rfl); (case zzv => rfl); (case zzd => decide); k_whole)) | k_dflt (refine' argName ?zzF ?zzv ?_ ?zza ?zzb ?zzd; (case zzF => k_asm); (case zza => rfl); (case zzb => rfl); (case zzv => rfl); (case zzd => decide); k_whole))
  k_with "spliced" => (k_here; (fail_if_success (fail_if_success (with_reducible show wpAny _ _ (spliced (backTo _ (starEach [] _))) _ _ _))); k_dflt (refine args_nil ?_); (try ((with_reducible show wpAny _ _ (call _ (_ ++ _)) _ _ _); dsimp only [List.cons_append, List.nil_append])))
  k_with "callWith" => (k_here; (fail_if_success (fail_if_success (with_reducible show wpAny _ _ (callWith _ (Value.builtin _) [_] (backTo _ (starEach (_ :: _) _)) []) _ _ _))); first | ((first | (fail_if_success (fail_if_success (with_reducible show wpAny _ _ (callWith _ _ _ (backTo _ (starEach [PySem.Expr.Name _ _] (envOf _ _ _ _ _))) _) _ _ _))) | (fail_if_success (fail_if_success (with_reducible show wpAny _ _ (callWith _ _ _ (backTo _ (starEach [PySem.Expr.Name _ _] (envOfC _ _ _ _ _))) _) _ _ _)))); k_dflt (refine' callM1 ?zzF ?zzv ?_ ?zza ?zzb ?zzd; (case zzF => k_asm); (case zza => rfl); (case zzb => rfl); (case zzv => rfl); (case zzd => decide); k_whole)) | k_dflt (refine' callM ?_ ?zze ?zzp; (case zze => rfl); (case zzp => rfl)))
  k_with "callWith" => (k_here; (first | (fail_if_success (fail_if_success (with_reducible show wpAny _ _ (callWith _ (Value.builtin _) [] (backTo _ (starEach [PySem.Expr.Name _ _] (envOf _ _ _ _ _))) []) _ _ _))) | (fail_if_success (fail_if_success (with_reducible show wpAny _ _ (callWith _ (Value.builtin _) [] (backTo _ (starEach [PySem.Expr.Name _ _] (envOfC _ _ _ _ _))) []) _ _ _)))); k_dflt (refine' callB1 ?zzF ?zzv ?_ ?zza ?zzb ?zzd; (case zzF => k_asm); (case zza => rfl); (case zzb => rfl); (case zzv => rfl); (case zzd => decide); k_whole))
  k_with "newTuple" => (k_here; k_dflt (refine' tupM ?zzF ?zzN ?_ ?zzz; (case zzF => k_asm); (case zzN => k_asm); (case zzz => exact szT (Nat.le_of_ble_eq_true rfl : _ ≤ 7) (by decide)); k_whole); intro zzD zzh zzF zzN zzl; (try k_lt zzl); (try k_sweep))
  k_with "newList" => (k_here; k_dflt (refine' listM ?zzF ?zzN ?_ ?zzz; (case zzF => k_asm); (case zzN => k_asm); (case zzz => exact szT (Nat.le_of_ble_eq_true rfl : _ ≤ 7) (by decide)); k_whole); intro zzD zzh zzF zzN zzl; (try k_lt zzl); (try k_sweep))
  k_with "LeaveK" => (k_here; k_dflt (refine' leaveM ?zzF ?zzN ?_; (case zzF => k_asm); (case zzN => k_asm); k_whole); intro zzF zzN; (try k_sweep); (try dsimp only))
  k_with "call ref" => (k_here; (with_reducible show wpAny _ _ (call (Value.ref 109) [_]) _ _ _); k_dflt (refine' fspath_c ?zzk1 ?zzk2 ?zzk3 ?zzk4 ?zzk5 ?zzkK  ?zzkd ?zzku ?_; (case zzk1 => k_asm); (case zzk2 => k_asm); (case zzk3 => k_asm); (case zzk4 => k_asm); (case zzk5 => k_asm); (case zzkK => first | exact rfl | assumption);  (case zzkd => first | exact (Nat.lt_of_le_of_lt (Nat.add_le_add_left (Nat.le_of_ble_eq_true rfl : 1 + 1 ≤ 5) dp) hdp : dp + (1 + 1) < recursionLimit) | ktr_room); (case zzku => first | exact (Nat.lt_of_le_of_lt (Nat.add_le_add_left (Nat.le_of_ble_eq_true rfl : 3 + 8 ≤ 40) un) hun : un + (3 + 8) < cLine) | ktr_units)); intro t9 h9 tk9 F9 N9; (try dsimp only); (try k_sweep); (try k_fold))
  k_with "call ref" => (k_here; (with_reducible show wpAny _ _ (call (Value.ref 116) [_, _, _, _]) _ _ _); k_dflt (refine' splitE_c ?zzk1 ?zzk2 ?zzk3 ?zzk4 ?zzk5 ?zzkK ?zzhx ?zzkd ?zzku ?_; (case zzk1 => k_asm); (case zzk2 => k_asm); (case zzk3 => k_asm); (case zzk4 => k_asm); (case zzk5 => k_asm); (case zzkK => first | exact rfl | assumption); (case zzhx => first | omega | assumption); (case zzkd => first | exact (Nat.lt_of_le_of_lt (Nat.add_le_add_left (Nat.le_of_ble_eq_true rfl : 1 + 3 ≤ 5) dp) hdp : dp + (1 + 3) < recursionLimit) | ktr_room); (case zzku => first | exact (Nat.lt_of_le_of_lt (Nat.add_le_add_left (Nat.le_of_ble_eq_true rfl : 3 + 20 ≤ 40) un) hun : un + (3 + 20) < cLine) | ktr_units)); intro D9 a9 b9 t9 t8 h9 tk9 e9 F9 N9 l9; (try k_lt l9); (try dsimp only); (try k_sweep); (try k_fold))
  k_with "getAttr" => (k_here; (with_reducible show wpAny _ _ (getAttr (Value.type _) (PySem.Str.ofString "capitalize") _) _ _ _); k_dflt (refine' typeAttr ?zzF ?zzX ?zzt ?zzs ?zze ?zzhh ?_; (case zzF => k_asm); (case zzX => k_asm); (case zzt => decide +kernel); (case zzs => decide +kernel); (case zze => k_is); (case zzhh => rfl); k_whole); intro _)
  k_with "call type:map" => (k_here; k_dflt (refine' mp_callN ?zzF ?zzN ?zzl ?_; (case zzF => k_asm); (case zzN => k_asm); (case zzl => k_mem); k_whole); intro I9 T9 M9 h9 F9 N9 l1 l2 l3; (try k_sweep))
  k_with "call builtin:str.join" => (k_here; (with_reducible show wpAny _ _ (call (Value.builtin "str.join") [Value.str _ _, Value.ref _]) _ _ _); k_dflt (refine' capJoinN ?zzF ?zzN ?zzhl ?zzl1 ?zzl2 ?zzl3 ?zzhh ?zzhe ?zzW ?zzhn ?zzhs ?_; (case zzF => k_asm); (case zzN => k_asm); (case zzhl => k_mem); (case zzl1 => with_reducible assumption); (case zzl2 => with_reducible assumption); (case zzl3 => with_reducible assumption); (case zzhh => exact rfl); (case zzhe => with_reducible assumption); (case zzW => first | exact weighs_of_words (by with_reducible assumption) | exact weighs_of_split (by with_reducible assumption) (by decide)); (case zzhn => first | (with_reducible assumption) | exact Nat.le_trans (by with_reducible assumption) (Nat.le_of_ble_eq_true rfl) | omega); (case zzhs => decide); k_whole); intro h9 t9 k9 F9 N9; (try k_sweep))
  revert X
  k_fill
  intro X
  refine wpAny_call ?_
  k_dflt (refine' code_def ?k1 ?k2 ?k3 ?k4 ?k5 ?kA ?kF ?kK ?k6 ?k7 ?k8 ?k9 ?kB ?_ ?c2 ?c3 ?c4 ?c5; (case kA => exact rfl); (case kF => exact rfl); (case kK => assumption); (case k1 => k_asm); (case k2 => k_asm); (case k3 => k_asm); (case k4 => k_asm); (case k5 => k_asm); (case k6 => k_is); (case k7 => k_is); (case k8 => first | exact Nat.lt_of_le_of_lt (Nat.le_add_right dp 5) hdp | ktr_room); (case k9 => first | exact BindsTo.of_eq rfl | exact binds_K (by k_in) rfl (by k_is) rfl rfl rfl); (case c5 => decide); (case kB => exact locs rfl); (case c2 => exact rfl); (case c3 => exact rfl); (case c4 => exact rfl); k_whole; intro g' L' h' FG' F' N' B' X' T'; (try dsimp only); (try k_lift B'); (try k_fold))
  k_steps
  all_goals (refine' hret _ _ _ ?e1 (dropH ?e2); (case e2 => with_reducible assumption); (case e1 => with_reducible assumption))
theorem invMap {h₀ : Heap} {L : Addr} {J J' : (Str → Option Value) → List (Addr × Obj) → Prop} {own : List (Addr × Obj)} {adr : List Addr} {s₁ s₂ : Shared} (q : InvEndN h₀ L J own adr s₁ s₂) (k : ∀ m nx, J m nx → J' m nx) : InvEndN h₀ L J' own adr s₁ s₂ :=
  match q with
  | ⟨h', tk, m', news', nx, e, F, N, hn, ho, ha, hj⟩ => ⟨h', tk, m', news', nx, e, F, N, hn, ho, ha, k _ _ hj⟩
theorem invElim {C : Prop} {h₀ : Heap} {L : Addr} {J : (Str → Option Value) → List (Addr × Obj) → Prop} {own : List (Addr × Obj)} {adr : List Addr} {s₁ s₂ : Shared} (q : InvEndN h₀ L J own adr s₁ s₂)
    (k : ∀ h' tk m news' nx, s₂ = { s₁ with heap := h', toks := tk } → Fr h₀ L h' m → News h₀ L h' news' → (∀ p ∈ nx, p ∈ news') → (∀ p ∈ own, p ∈ news') → nx.map (·.1) = adr → J m nx → C) : C :=
  match q with
  | ⟨h', tk, m', news', nx, e, F, N, hn, ho, ha, hj⟩ => k h' tk m' news' nx e F N hn ho ha hj
/-- one list of texts stands at the head of the ledger -/
inductive StrAcc (nc : Addr) (rest : List (Addr × Obj)) (x : Str) (m₀ : Str → Option Value) (P : List Str → Prop) (m : Str → Option Value) : List (Addr × Obj) → Prop
  | mk (acc : List (Str × Tok)) (n : Nat) (p : P (acc.map (·.1))) (f : ∀ z, z ≠ x → m z = m₀ z) : StrAcc nc rest x m₀ P m ((nc, listOf (strValues acc).toArray n) :: rest)
section
variable {prog : Program} {w : World} {A : Around} {E : Value → Shared → Prop} {s : Shared} {env : Env} {h₀ : Heap} {x : Str} {body : List Stmt} {Q : Flow → Shared → Prop}
/-- a loop over a list that stands in the ledger, whatever its items -/
theorem iterV {l : Addr} {vs : List Value} {nn : Nat} {m₀ : Str → Option Value} {news : List (Addr × Obj)} (J : Nat → (Str → Option Value) → List (Addr × Obj) → Prop)
    (hh : A.handled = none) (hl : (l, listOf vs.toArray nn) ∈ news) (F : Fr h₀ env.locals s.heap m₀) (N : News h₀ env.locals s.heap news) (hj : J 0 m₀ news)
    (turn : ∀ i v m₁ news₁ h tk own, vs[i]? = some v → news₁.map (·.1) = news.map (·.1) → OwnOff own (news.map (·.1)) → (l, listOf vs.toArray nn) ∈ news₁ → J i m₁ news₁ → Fr h₀ env.locals h (fun y => if y = x then some v else m₁ y) → News h₀ env.locals h (news₁ ++ own) →
      wpAny (model prog w) A (execs body env) (InvPostN h₀ env.locals (fun m' nx => (l, listOf vs.toArray nn) ∈ nx ∧ J (i + 1) m' nx) own (news.map (·.1)) { s with heap := h, toks := tk } Q) E { s with heap := h, toks := tk })
    (done : ∀ m₁ news₁ h tk, J vs.length m₁ news₁ → Fr h₀ env.locals h m₁ → News h₀ env.locals h news₁ → Q .next { s with heap := h, toks := tk }) :
    wpAny (model prog w) A (pyIter (.ref l)) (fun it s₂ => LoopAtV prog w A h₀ env x body Q E it s₂) E s := by
  have hol : s.heap.get? l = some (listOf vs.toArray nn) := (N _ hl).1
  have hls : s.heap.IsList l vs.toArray := ⟨_, hol, rfl, nn, rfl⟩
  have hne : l ≠ s.heap.objs.size := Nat.ne_of_lt (Heap.lt_size hol)
  have hIn : ∀ q ∈ news, q.1 ≠ s.heap.objs.size := fun q hq => Nat.ne_of_lt (Heap.lt_size (N q hq).1)
  refine wpAny_pyIter_list hls ?_
  have W := Walks.list (prog := prog) (w := w) hh s.heap.objs.size l hne vs.toArray
  rw [show vs.toArray.size = vs.length by simp] at W
  refine ⟨_, _, _, vs.length, _, _, m₀, news, (fun i m nx => nx.map (·.1) = news.map (·.1) ∧ (l, listOf vs.toArray nn) ∈ nx ∧ J i m nx), rfl, W, ?_, ?_, ?_, ⟨⟨_, Heap.get?_push_size _ rfl, rfl, rfl⟩, hls.at fun o e => Heap.get?_push_of_some _ e⟩, F.push _, (fun p hp => ⟨Heap.get?_push_of_some _ (N p hp).1, (N p hp).2⟩), ⟨rfl, hl, hj⟩, ?_, ?_⟩
  · intro hm
    rcases List.mem_cons.mp hm with e | hm
    · exact absurd F.ns.lt (e ▸ Nat.lt_irrefl _)
    · exact (N _ hl).2.1 ((List.mem_singleton.mp hm).symm)
  · intro b hb
    rw [List.mem_singleton.mp hb]
    exact next_is_new F
  · exact fun p hp hI => hIn p hp (List.mem_singleton.mp hI)
  · rintro i v m₁ news₁ s₁ own ⟨hh', tk', rfl⟩ hin hP ⟨hadr, hl₁, hJ⟩ hoff hown hget hfp _ F₁ N₁
    let own' := own.filter fun p => decide (p.1 = s.heap.objs.size)
    have hsep : OwnOff own' (news.map (·.1)) := by
      intro p hp b hb e
      obtain ⟨q, hq, rfl⟩ := List.mem_map.mp hb
      have h1 : p.1 = s.heap.objs.size := by simpa [own'] using (List.mem_filter.mp hp).2
      exact hIn q hq (by rw [← e, h1])
    have hv : vs[i]? = some v := by simpa using hP
    have N₂ : News h₀ env.locals hh' (news₁ ++ own') := fun p hp => N₁ p ((List.mem_append.mp hp).elim (fun h => List.mem_append.mpr (.inr h)) fun h => List.mem_append.mpr (.inl ((List.mem_filter.mp h).1)))
    have hlo : hh'.get? l = some (listOf vs.toArray nn) := (N₁ _ (List.mem_append.mpr (.inr hl₁))).1
    refine wpAny_mono (turn i v m₁ news₁ hh' tk' own' hv hadr hsep hl₁ hJ F₁ N₂) (fun f s₂ p => ?_) fun _ _ e => e
    have fin : InvEndN h₀ env.locals (fun m' nx => (l, listOf vs.toArray nn) ∈ nx ∧ J (i + 1) m' nx) own' (news.map (·.1)) { s with heap := hh', toks := tk' } s₂ →
        LoopStepU h₀ env.locals [s.heap.objs.size] own (fun m nx => nx.map (·.1) = news.map (·.1) ∧ (l, listOf vs.toArray nn) ∈ nx ∧ J (i + 1) m nx) { s with heap := hh', toks := tk' } .next s₂ := by
      refine fun q => invElim q fun h' tk m' news' nx e F' N' hn ho ha hm => ?_
      refine ⟨rfl, h', tk, m', nx, e, F', fun p hp => ?_, fun p hp => ?_, ha, hm⟩
      · rcases List.mem_append.mp hp with h | h
        · by_cases hI : p.1 = s.heap.objs.size
          · exact N' p (ho p (List.mem_filter.mpr ⟨h, by simpa using hI⟩))
          · have h1 : p.1 = l := by
              rcases List.mem_cons.mp (hown p h) with h2 | h2
              · exact absurd h2 hI
              · exact List.mem_singleton.mp h2
            have h2 : hh'.get? p.1 = some p.2 := hget p h
            rw [h1, hlo] at h2
            rw [show p = (l, listOf vs.toArray nn) from Prod.ext h1 (Option.some.inj h2).symm]
            exact N' _ (hn _ hm.1)
        · exact N' p (hn p h)
      · have h1 : p.1 ∈ nx.map (·.1) := List.mem_map.mpr ⟨p, hp, rfl⟩
        rw [ha] at h1
        obtain ⟨q, hq, e⟩ := List.mem_map.mp h1
        exact fun hI => hIn q hq (by rw [e, List.mem_singleton.mp hI])
    cases f with
    | ret v => exact .ret p
    | brk => exact .brk p
    | next => exact .next (fin p)
    | cont => exact .cont (fin p)
  · rintro h' tk m' news' F' N' _ ⟨_, hl', hJ⟩
    exact done m' news' h' tk hJ F' N'

noncomputable def wt (l : List Str) : Nat := (l.map (·.length)).sum + l.length
theorem wt_append (a b : List Str) : wt (a ++ b) = wt a + wt b := by
  unfold wt
  rw [List.map_append, List.sum_append, List.length_append, Nat.add_add_add_comm]
theorem wt_cons (a : Str) (l : List Str) : wt (a :: l) = a.length + 1 + wt l := by
  show a.length + (l.map (·.length)).sum + (l.length + 1) = a.length + 1 + ((l.map (·.length)).sum + l.length)
  rw [Nat.add_comm l.length 1, Nat.add_add_add_comm]
theorem wt_mem {a : Str} : ∀ (ys : List Str), a ∈ ys → a.length ≤ wt ys
  | y :: r, h => by
    rw [wt_cons]
    rcases List.mem_cons.mp h with rfl | h
    · exact Nat.le_trans (Nat.le_add_right _ 1) (Nat.le_add_right _ _)
    · exact Nat.le_trans (wt_mem r h) (Nat.le_add_left _ _)

/-- a loop over a list of texts that turns one other list of texts -/
theorem iterStrs {l nc : Addr} {xs acc₀ : List (Str × Tok)} {nn n₀ : Nat} {m₀ : Str → Option Value} {rest : List (Addr × Obj)} (step : List Str → Str → List Str) (hst : ∀ acc a, wt (step acc a) ≤ wt acc + wt [a])
    (hh : A.handled = none) (hl : (l, listOf (strValues xs).toArray nn) ∈ rest) (hln : ∀ p ∈ rest, p.1 ≠ nc) (F : Fr h₀ env.locals s.heap m₀) (N : News h₀ env.locals s.heap ((nc, listOf (strValues acc₀).toArray n₀) :: rest))
    (turn : ∀ (acc : List (Str × Tok)) n a t h tk own, a ∈ xs.map (·.1) → wt (acc.map (·.1)) ≤ wt (acc₀.map (·.1)) + wt (xs.map (·.1)) → OwnOff own (nc :: rest.map (·.1)) → Fr h₀ env.locals h (fun y => if y = x then some (.str a t) else m₀ y) →
      News h₀ env.locals h ((nc, listOf (strValues acc).toArray n) :: (rest ++ own)) →
      wpAny (model prog w) A (execs body env) (InvPostN h₀ env.locals (StrAcc nc rest x m₀ (fun r => r = step (acc.map (·.1)) a)) own (nc :: rest.map (·.1)) { s with heap := h, toks := tk } Q) E { s with heap := h, toks := tk })
    (done : ∀ (acc : List (Str × Tok)) n (u : Str → Option Value) h tk, acc.map (·.1) = (xs.map (·.1)).foldl step (acc₀.map (·.1)) → wt (acc.map (·.1)) ≤ wt (acc₀.map (·.1)) + wt (xs.map (·.1)) → Fr h₀ env.locals h (fun y => if y = x then u y else m₀ y) → News h₀ env.locals h ((nc, listOf (strValues acc).toArray n) :: rest) → Q .next { s with heap := h, toks := tk }) :
    wpAny (model prog w) A (pyIter (.ref l)) (fun it s₂ => LoopAtV prog w A h₀ env x body Q E it s₂) E s := by
  refine iterV (fun i => StrAcc nc rest x m₀ (fun r => r = ((xs.map (·.1)).take i).foldl step (acc₀.map (·.1)) ∧ wt r ≤ wt (acc₀.map (·.1)) + wt ((xs.map (·.1)).take i)))
    hh (.tail _ hl) F N ⟨acc₀, n₀, ⟨rfl, Nat.le_add_right _ _⟩, fun _ _ => rfl⟩ ?_ ?_
  · rintro i v m₁ news₁ h tk own hv _ hoff _ ⟨acc, n, hp, hm⟩ F₁ N₁
    simp only [strValues, List.getElem?_map] at hv
    cases hx : xs[i]? with
    | none => rw [hx] at hv; cases hv
    | some p =>
      rw [hx] at hv
      cases hv
      have hxm : (xs.map (·.1))[i]? = some p.1 := by rw [List.getElem?_map, hx]; rfl
      have htake : (xs.map (·.1)).take (i + 1) = (xs.map (·.1)).take i ++ [p.1] := by rw [List.take_add_one, hxm]; rfl
      have em : (fun y => if y = x then some (Value.str p.1 p.2) else m₁ y) = fun y => if y = x then some (Value.str p.1 p.2) else m₀ y := by
        funext y
        by_cases hy : y = x
        · rw [if_pos hy, if_pos hy]
        · rw [if_neg hy, if_neg hy]; exact hm y hy
      rw [em] at F₁
      have hwt : wt ((xs.map (·.1)).take i) ≤ wt (xs.map (·.1)) := by
        conv => rhs; rw [← List.take_append_drop i (xs.map (·.1)), wt_append]
        exact Nat.le_add_right _ _
      refine wpAny_mono (turn acc n p.1 p.2 h tk own (List.mem_of_getElem? hxm) (Nat.le_trans hp.2 (Nat.add_le_add_left hwt _)) hoff F₁ N₁) (fun f s₂ q => ?_) fun _ _ e => e
      have fin : InvEndN h₀ env.locals (StrAcc nc rest x m₀ (fun r => r = step (acc.map (·.1)) p.1)) own (nc :: rest.map (·.1)) { s with heap := h, toks := tk } s₂ →
          InvEndN h₀ env.locals (fun m' nx => (l, listOf (strValues xs).toArray nn) ∈ nx ∧ StrAcc nc rest x m₀ (fun r => r = ((xs.map (·.1)).take (i + 1)).foldl step (acc₀.map (·.1)) ∧ wt r ≤ wt (acc₀.map (·.1)) + wt ((xs.map (·.1)).take (i + 1))) m' nx) own
            (((nc, listOf (strValues acc₀).toArray n₀) :: rest).map (·.1)) { s with heap := h, toks := tk } s₂ := fun q => invMap q (by
        rintro m' nx ⟨acc', n', hp', hm'⟩
        refine ⟨.tail _ hl, acc', n', ⟨?_, ?_⟩, hm'⟩
        · rw [htake, List.foldl_append, hp', hp.1]; rfl
        · rw [htake, wt_append, hp', ← Nat.add_assoc]
          exact Nat.le_trans (hst _ _) (Nat.add_le_add_right hp.2 _))
      cases f with
      | ret v => exact q
      | brk => exact q
      | next => exact fin q
      | cont => exact fin q
  · rintro m₁ news₁ h tk ⟨acc, n, hp, hm⟩ F₁ N₁
    have hlen : (strValues xs).length = (xs.map (·.1)).length := by simp [strValues]
    rw [hlen, List.take_length] at hp
    refine done acc n m₁ h tk hp.1 hp.2 ?_ N₁
    have em : (fun y => if y = x then m₁ y else m₀ y) = m₁ := by
      funext y
      by_cases hy : y = x
      · rw [if_pos hy]
      · rw [if_neg hy]; exact (hm y hy).symm
    rw [em]; exact F₁
end
section
variable {prog : Program} {w : World} {A : Around} {E : Value → Shared → Prop} {s : Shared} {h₀ : Heap} {L l : Addr} {news : List (Addr × Obj)}
theorem truthyNil {n : Nat} {Q : Bool → Shared → Prop} (N : News h₀ L s.heap news) (hm : (l, listOf #[] n) ∈ news) (h : Q false { s with toks := s.toks + 1 + 1 }) : wpAny (model prog w) A (truthy (.ref l)) Q E s :=
  wpAny_truthy_list (items := #[]) ⟨_, (N _ hm).1, rfl, n, rfl⟩ (by decide) h
theorem truthySnoc {vs : List Value} {v : Value} {n : Nat} {Q : Bool → Shared → Prop} (N : News h₀ L s.heap news) (hm : (l, listOf (vs ++ [v]).toArray n) ∈ news) (hz : vs.length ≤ 1000000) (h : Q true { s with toks := s.toks + 1 + 1 }) : wpAny (model prog w) A (truthy (.ref l)) Q E s := by
  refine wpAny_truthy_list (items := (vs ++ [v]).toArray) ⟨_, (N _ hm).1, rfl, n, rfl⟩ (by simp; omega) ?_
  have e : (vs ++ [v]).toArray.isEmpty = false := by simp
  rw [e]; exact h
theorem itemSnoc {value slice : Expr} {vs : List Value} {v : Value} {n : Nat} {u : Tok} {Q : Value → Shared → Prop} (N : News h₀ L s.heap news) (hm : (l, listOf (vs ++ [v]).toArray n) ∈ news) (h : Q v s)
    (hs : subscripted slice false (.ref l) (.int (-1) u) = operate [.ref l, .int (-1) u] (getItem (.ref l) (.int (-1) u))) :
    wpAny (model prog w) A (subscriptTail value slice (.ref l) (.int (-1) u)) Q E s := by
  have hL : s.heap.IsList l (vs ++ [v]).toArray := ⟨_, (N _ hm).1, rfl, n, rfl⟩
  refine tail_any hL.typeIs slot_list_getitem.lookup (wpAny_getItem_list_neg hL (by decide) (by simp; omega) (by decide) ?_ h) hs
  have e : ((-1 : Int) + ((vs ++ [v]).toArray.size : Int)).toNat = vs.length := by simp; omega
  rw [e]; simp
end
section
variable {prog : Program} {w : World} {A : Around} {E : Value → Shared → Prop} {s : Shared} {env : Env} {h₀ : Heap} {x : Str} {body : List Stmt} {Q : Flow → Shared → Prop}
/-- the same, the rest of the ledger one letter -/
theorem iterStrs2 {l nc : Addr} {xs : List (Str × Tok)} {nn n₀ K : Nat} {m₀ : Str → Option Value} {news : List (Addr × Obj)} (step : List Str → Str → List Str) (hst : ∀ acc a, wt (step acc a) ≤ wt acc + wt [a])
    (hh : A.handled = none) {L : Addr} (hln : l < nc) (hnn : AllLt nc news) (hK : wt (xs.map (·.1)) ≤ K) (F : Fr h₀ L s.heap m₀) (N : News h₀ L s.heap ((nc, listOf #[] n₀) :: (l, listOf (strValues xs).toArray nn) :: news))
    (hL : env.locals = L)
    (turn : ∀ (rest : List (Addr × Obj)) (acc : List (Str × Tok)) n a t h tk own, AllLt nc rest → a.length ≤ K → wt (acc.map (·.1)) ≤ K → OwnOff own (nc :: rest.map (·.1)) → Fr h₀ L h (fun y => if y = x then some (.str a t) else m₀ y) →
      News h₀ L h ((nc, listOf (strValues acc).toArray n) :: (rest ++ own)) →
      wpAny (model prog w) A (execs body env) (InvPostN h₀ L (StrAcc nc rest x m₀ (fun r => r = step (acc.map (·.1)) a)) own (nc :: rest.map (·.1)) { s with heap := h, toks := tk } Q) E { s with heap := h, toks := tk })
    (done : ∀ (acc : List (Str × Tok)) n (u : Str → Option Value) h tk, acc.map (·.1) = (xs.map (·.1)).foldl step [] → wt (acc.map (·.1)) ≤ K → Fr h₀ L h (fun y => if y = x then u y else m₀ y) → News h₀ L h ((nc, listOf (strValues acc).toArray n) :: news) → Q .next { s with heap := h, toks := tk }) :
    wpAny (model prog w) A (pyIter (.ref l)) (fun it s₂ => LoopAtV prog w A h₀ env x body Q E it s₂) E s := by
  subst hL
  have h0 : wt (([] : List (Str × Tok)).map (·.1)) = 0 := rfl
  refine iterStrs (acc₀ := []) (rest := (l, listOf (strValues xs).toArray nn) :: news) step hst hh (.head _) (fun p hp => ?_) F N (fun acc n a t h tk own ha hw ho F' N' => ?_) fun acc n u h tk ha hw F' N' => ?_
  · rcases List.mem_cons.mp hp with rfl | hp
    · exact Nat.ne_of_lt hln
    · exact Nat.ne_of_lt (kst_ltOf hnn p hp)
  · refine turn _ acc n a t h tk own ⟨hln, hnn⟩ ?_ (Nat.le_trans hw (by rw [h0, Nat.zero_add]; exact hK)) ho F' N'
    exact Nat.le_trans (wt_mem _ ha) hK
  · refine done acc n u h tk ha (Nat.le_trans hw (by rw [h0, Nat.zero_add]; exact hK)) F' fun p hp => N' p ?_
    rcases List.mem_cons.mp hp with rfl | hp
    · exact .head _
    · exact .tail _ (.tail _ hp)
end
theorem iterStrsEnd {h₀ h' : Heap} {L nc : Addr} {x : Str} {its : Array Value} {n' tk : Nat} {v : Option Value} {m₀ : Str → Option Value} {rest own : List (Addr × Obj)} {s₁ : Shared} {R : List Str} (acc' : List (Str × Tok))
    (F : Fr h₀ L h' (fun y => if y = x then v else m₀ y)) (N : News h₀ L h' ((nc, listOf its n') :: (rest ++ own))) (e : its = (strValues acc').toArray) (hs : acc'.map (·.1) = R) :
    InvEndN h₀ L (StrAcc nc rest x m₀ (fun r => r = R)) own (nc :: rest.map (·.1)) s₁ { s₁ with heap := h', toks := tk } := by
  subst e
  refine InvEndN.intro F N (nx := (nc, listOf (strValues acc').toArray n') :: rest) ⟨acc', n', hs, fun z hz => if_neg hz⟩ rfl (fun p hp => ?_) fun p hp => .tail _ (List.mem_append_right _ hp)
  rcases List.mem_cons.mp hp with rfl | hp
  · exact .head _
  · exact .tail _ (List.mem_append_left _ hp)
theorem popSnoc {prog : Program} {w : World} {A : Around} {E : Value → Shared → Prop} {s : Shared} {h₀ : Heap} {L l : Addr} {m : Str → Option Value} {rest : List (Addr × Obj)} {vs : List Value} {v : Value} {n : Nat} {Q : Value → Shared → Prop}
    (F : Fr h₀ L s.heap m) (N : News h₀ L s.heap ((l, listOf (vs ++ [v]).toArray n) :: rest)) (hr : ∀ p ∈ rest, p.1 ≠ l) (hz : vs.length ≤ 1000000)
    (h : ∀ h' tk, Fr h₀ L h' m → News h₀ L h' ((l, listOf vs.toArray (n + 1)) :: rest) → Q v { s with heap := h', toks := tk }) :
    wpAny (model prog w) A (call (.builtin "list.pop") [.ref l]) Q E s :=
  kl_pop F N (kpa_last v vs) (.head hr) (by rw [sizeLine_eq]; simp; omega) fun h' F' N' => h h' s.toks F' N'
theorem joinAcc {prog : Program} {w : World} {A : Around} {E : Value → Shared → Prop} {s : Shared} {h₀ : Heap} {L l : Addr} {news : List (Addr × Obj)} {sep : Str} {t : Tok} {acc : List (Str × Tok)} {n : Nat} {Q : Value → Shared → Prop}
    (N : News h₀ L s.heap news) (hm : (l, listOf (strValues acc).toArray n) ∈ news) (hw : wt (acc.map (·.1)) ≤ 200000) (hs : sep.length ≤ 4)
    (h : ∀ t' k, (Txt.join sep (acc.map (·.1))).length ≤ 800004 → Q (.str (Txt.join sep (acc.map (·.1))) t') { s with toks := k }) : wpAny (model prog w) A (call (.builtin "str.join") [.str sep t, .ref l]) Q E s := by
  have hl : ((acc.map (·.1)).map (·.length)).sum + (acc.map (·.1)).length ≤ 200000 := hw
  have hW : Weighs (acc.map (·.1)) 200000 := Nat.le_succ_of_le hl
  have hj := len_join_le hW hs
  exact SC.join ⟨_, (N _ hm).1, rfl, n, rfl⟩ rfl (joinOk_of_weight (by omega) (by omega)) fun t' k => h t' k (by omega)
/-- one turn of normpath's loop; b: the slashes at the front -/
noncomputable def npStep (b : Str) (acc : List Str) (a : Str) : List Str :=
  if a.length = 0 ∨ (a == Str.ofString ".") = true then acc
  else if (a != Str.ofString "..") = true ∨ (b.length = 0 ∧ acc = []) ∨ acc.getLast? = some (Str.ofString "..") then acc ++ [a]
  else acc.dropLast
theorem npStep_wt (b : Str) (acc : List Str) (a : Str) : wt (npStep b acc a) ≤ wt acc + wt [a] := by
  unfold npStep
  split
  · omega
  · split
    · rw [wt_append]; omega
    · have h : wt acc.dropLast ≤ wt acc := by
        rcases List.eq_nil_or_concat acc with rfl | ⟨p, y, rfl⟩
        · simp
        · rw [List.concat_eq_append, List.dropLast_concat, wt_append]; omega
      omega
section
variable {b a y : Str} {acc p : List Str}
theorem np1 (h : (a.length : Int) = 0) : npStep b acc a = acc := by unfold npStep; rw [if_pos (.inl (by omega))]
theorem np2 (h : (a == Str.ofString ".") = true) : npStep b acc a = acc := by unfold npStep; rw [if_pos (.inr h)]
theorem npn (h0 : (a.length : Int) ≠ 0) (h1 : (a == Str.ofString ".") = false) : ¬ (a.length = 0 ∨ (a == Str.ofString ".") = true) := by
  rintro (h | h)
  · omega
  · rw [h1] at h; cases h
theorem np3 (h0 : (a.length : Int) ≠ 0) (h1 : (a == Str.ofString ".") = false) (h2 : (a != Str.ofString "..") = true) : npStep b acc a = acc ++ [a] := by
  unfold npStep; rw [if_neg (npn h0 h1), if_pos (.inl h2)]
theorem np4 (h0 : (a.length : Int) ≠ 0) (h1 : (a == Str.ofString ".") = false) (h3 : (b.length : Int) = 0) : npStep b [] a = [a] := by
  unfold npStep; rw [if_neg (npn h0 h1), if_pos (.inr (.inl ⟨by omega, rfl⟩))]; rfl
theorem np5 (h0 : (a.length : Int) ≠ 0) (h1 : (a == Str.ofString ".") = false) (h3 : (y == Str.ofString "..") = true) : npStep b (p ++ [y]) a = p ++ [y] ++ [a] := by
  unfold npStep; rw [if_neg (npn h0 h1), if_pos (.inr (.inr (by rw [List.getLast?_concat, eq_of_beq h3])))]
theorem np6 (h0 : (a.length : Int) ≠ 0) (h1 : (a == Str.ofString ".") = false) (h2 : (a != Str.ofString "..") = false) (h3 : (b.length : Int) ≠ 0) : npStep b [] a = [] := by
  unfold npStep; rw [if_neg (npn h0 h1), if_neg]; rfl
  rintro (h | ⟨h, _⟩ | h)
  · rw [h2] at h; cases h
  · omega
  · cases h
theorem np7 (h0 : (a.length : Int) ≠ 0) (h1 : (a == Str.ofString ".") = false) (h2 : (a != Str.ofString "..") = false) (h3 : (y == Str.ofString "..") = false) : npStep b (p ++ [y]) a = p := by
  unfold npStep; rw [if_neg (npn h0 h1), if_neg, List.dropLast_concat]
  rintro (h | ⟨_, h⟩ | h)
  · rw [h2] at h; cases h
  · simp at h
  · rw [List.getLast?_concat] at h; rw [Option.some.inj h] at h3; simp at h3
end
noncomputable def normF (x : Str) : Str :=
  if x.length = 0 then Str.ofString "."
  else if ((splitrootF x).2.1 ++ Txt.join (Str.ofString "/") ((Txt.split (splitrootF x).2.2 (Str.ofString "/")).foldl (npStep (splitrootF x).2.1) [])).length = 0 then Str.ofString "."
  else (splitrootF x).2.1 ++ Txt.join (Str.ofString "/") ((Txt.split (splitrootF x).2.2 (Str.ofString "/")).foldl (npStep (splitrootF x).2.1) [])
theorem normF_0 {x : Str} (h : (x.length : Int) = 0) : normF x = Str.ofString "." := by unfold normF; rw [if_pos (by omega)]
noncomputable abbrev sndOf {a b c : Str} {p : Str × Str × Str} (_ : (a, b, c) = p) : Str := b
theorem normF_1 {x a b c : Str} {ys zs : List Str} (e : (a, b, c) = splitrootF x) (h : (x.length : Int) ≠ 0) (h1 : zs = Txt.split c (Str.ofString "/")) (h2 : ys = zs.foldl (npStep b) [])
    (h3 : ((b ++ Txt.join (Str.ofString "/") ys).length : Int) = 0) : normF x = Str.ofString "." := by
  subst h1 h2; unfold normF; rw [if_neg (by omega), ← e, if_pos (Int.ofNat.inj h3)]
theorem normF_2 {x a b c : Str} {ys zs : List Str} (e : (a, b, c) = splitrootF x) (h : (x.length : Int) ≠ 0) (h1 : zs = Txt.split c (Str.ofString "/")) (h2 : ys = zs.foldl (npStep b) [])
    (h3 : ((b ++ Txt.join (Str.ofString "/") ys).length : Int) ≠ 0) : normF x = b ++ Txt.join (Str.ofString "/") ys := by
  subst h1 h2; unfold normF; rw [if_neg (by omega), ← e, if_neg fun q => h3 (congrArg Int.ofNat q)]
theorem dropHd {h₀ h : Heap} {L : Addr} {p : Addr × Obj} {news : List (Addr × Obj)} (N : News h₀ L h (p :: news)) : News h₀ L h news := fun q hq => N q (.tail _ hq)
theorem dropBut {h₀ h : Heap} {L : Addr} {p q r : Addr × Obj} {news : List (Addr × Obj)} (N : News h₀ L h (p :: q :: r :: news)) : News h₀ L h (p :: q :: news) := fun z hz => by
  rcases List.mem_cons.mp hz with rfl | hz
  · exact N _ (.head _)
  rcases List.mem_cons.mp hz with rfl | hz
  · exact N _ (.tail _ (.head _))
  · exact N _ (.tail _ (.tail _ (.tail _ hz)))
theorem snocOf (l : List (Str × Tok)) : l = [] ∨ ∃ p b t, l = p ++ [(b, t)] := by
  rcases List.eq_nil_or_concat l with rfl | ⟨p, ⟨b, t⟩, rfl⟩
  · exact .inl rfl
  · exact .inr ⟨p, b, t, by simp⟩
theorem wt_snoc_len {p : List (Str × Tok)} {b : Str} {t : Tok} {k : Nat} (h : wt ((p ++ [(b, t)]).map (·.1)) ≤ k) : (strValues p).length ≤ k := by
  have e : (strValues p).length = (p.map (·.1)).length := by unfold strValues; rw [List.length_map, List.length_map]
  rw [List.map_append, wt_append] at h
  rw [e]
  exact Nat.le_trans (Nat.le_add_left _ _) (Nat.le_trans (Nat.le_add_right _ _) h)
theorem normpath_c {w : World} {mean : ExcName → Option Value} {mg mb : Str → Option Value} {dp un : Nat} {gd : Option (List Code)} {cn : Str} {cs : Scope} {a : Addr} {ccd : Value} {cl : List (Str × Addr)} {outer : List Env} {A₀ : Around} {base h₀ : Heap} {L : Addr} {m : Str → Option Value} {news : List (Addr × Obj)} {hp : Heap} {gn : Array GenState} {dr : Drawn} {tq : Nat} {oz : OsState} {x : Str} {tx : Tok}
    {Q E : Value → Shared → Prop} (B : Below A₀ base outer h₀) (F : Fr h₀ L hp m) (X : (lawTop.heap_39 w.params).In h₀) (N : News h₀ L hp news) (T : Top lawTop.view_39 (looseW lawTop.view_39 [Str.ofString "ascii_letters", Str.ofString "printable", Str.ofString "capwords"]) mean mg mb h₀) (hk : cs.kind = .function)
    (hx : x.length ≤ 100000) (hdp : dp + 5 < recursionLimit) (hun : un + 40 < cLine)
    (hret : ∀ (r : Str) t h' tk', r = normF x → Fr h₀ L h' m → News h₀ L h' news → Q (.str r t) ⟨h', gn, dr, tk', oz⟩) :
    wpAny (model PySem.Challenge.rw_ij0119_01.row.prog w) (ktrTop dp un gd cn cs L a ccd cl outer) (call (.ref 154) [.str x tx]) Q E ⟨hp, gn, dr, tq, oz⟩ := by
  w_top off
  k_with_none
  k_with "eval BinOp" => k_fold
  k_with "eval Call" => k_fold
  k_with "eval Subscript" => k_fold
  k_with "size_fits" => first | exact szT (Nat.le_refl _) (by decide) | exact szT (by with_reducible assumption) (by decide) | exact Nat.le_trans (by with_reducible assumption) (Nat.le_of_ble_eq_true rfl) | exact szAB (by with_reducible assumption) (by with_reducible assumption) (by decide)
  k_with "ite" => (k_here; k_openite; first | (refine ite_pos (by with_reducible assumption) ?_; walk_say "PRUNED") | (refine ite_neg (by with_reducible assumption) ?_; walk_say "PRUNED") | (refine ite_isFalse (by with_reducible assumption) ?_; walk_say "PRUNED") | with_reducible refine ite_tt ?_ | with_reducible refine ite_ff ?_ | (with_reducible refine split_ine ?_ ?_ <;> intro _) | (with_reducible refine split_ieq ?_ ?_ <;> intro _) | with_reducible refine split_not ?_ | (refine split_dec ?_ ?_ <;> intro _) | (refine split_bool ?_ ?_ <;> intro _))
  k_with "storeName" => (k_here; k_dflt (refine' storeX_M ?zzF ?zzN ?_ ?zza ?zzb; (case zzF => k_asm); (case zzN => k_asm); (case zza => rfl); (case zzb => rfl); k_whole); intro zzh zzt zzl zzm zzF zzN; (try k_sweep))
  k_with "eval Constant int" => (k_here; k_dflt (refine constI ?_))
  k_with "eval Constant str" => (k_here; k_dflt (refine constS ?_))
  k_with "spliced" => (k_here; (first | (fail_if_success (fail_if_success (with_reducible show wpAny _ _ (spliced (backTo _ (starEach (PySem.Expr.Name _ _ :: _) (envOf _ _ _ _ _)))) _ _ _))) | (fail_if_success (fail_if_success (with_reducible show wpAny _ _ (spliced (backTo _ (starEach (PySem.Expr.Name _ _ :: _) (envOfC _ _ _ _ _)))) _ _ _)))); first | ((fail_if_success (fail_if_success (with_reducible show wpAny _ _ (spliced (backTo _ (starEach [PySem.Expr.Name _ _] _))) _ _ _))); k_dflt (refine' argName1 ?zzF ?zzv ?_ ?zza ?zzb ?zzd; (case zzF => k_asm); (case zza => rfl); (case zzb => rfl); (case zzv => rfl); (case zzd => decide); k_whole)) | k_dflt (refine' argName ?zzF ?zzv ?_ ?zza ?zzb ?zzd; (case zzF => k_asm); (case zza => rfl); (case zzb => rfl); (case zzv => rfl); (case zzd => decide); k_whole))
  k_with "spliced" => (k_here; (fail_if_success (fail_if_success (with_reducible show wpAny _ _ (spliced (backTo _ (starEach [] _))) _ _ _))); k_dflt (refine args_nil ?_); (try ((with_reducible show wpAny _ _ (call _ (_ ++ _)) _ _ _); dsimp only [List.cons_append, List.nil_append])))
  k_with "callWith" => (k_here; (fail_if_success (fail_if_success (with_reducible show wpAny _ _ (callWith _ (Value.builtin _) [_] (backTo _ (starEach (_ :: _) _)) []) _ _ _))); first | ((first | (fail_if_success (fail_if_success (with_reducible show wpAny _ _ (callWith _ _ _ (backTo _ (starEach [PySem.Expr.Name _ _] (envOf _ _ _ _ _))) _) _ _ _))) | (fail_if_success (fail_if_success (with_reducible show wpAny _ _ (callWith _ _ _ (backTo _ (starEach [PySem.Expr.Name _ _] (envOfC _ _ _ _ _))) _) _ _ _)))); k_dflt (refine' callM1 ?zzF ?zzv ?_ ?zza ?zzb ?zzd; (case zzF => k_asm); (case zza => rfl); (case zzb => rfl); (case zzv => rfl); (case zzd => decide); k_whole)) | k_dflt (refine' callM ?_ ?zze ?zzp; (case zze => rfl); (case zzp => rfl)))
  k_with "callWith" => (k_here; (first | (fail_if_success (fail_if_success (with_reducible show wpAny _ _ (callWith _ (Value.builtin _) [] (backTo _ (starEach [PySem.Expr.Name _ _] (envOf _ _ _ _ _))) []) _ _ _))) | (fail_if_success (fail_if_success (with_reducible show wpAny _ _ (callWith _ (Value.builtin _) [] (backTo _ (starEach [PySem.Expr.Name _ _] (envOfC _ _ _ _ _))) []) _ _ _)))); k_dflt (refine' callB1 ?zzF ?zzv ?_ ?zza ?zzb ?zzd; (case zzF => k_asm); (case zza => rfl); (case zzb => rfl); (case zzv => rfl); (case zzd => decide); k_whole))
  k_with "newTuple" => (k_here; k_dflt (refine' tupM ?zzF ?zzN ?_ ?zzz; (case zzF => k_asm); (case zzN => k_asm); (case zzz => exact szT (Nat.le_of_ble_eq_true rfl : _ ≤ 7) (by decide)); k_whole); intro zzD zzh zzF zzN zzl; (try k_lt zzl); (try k_sweep))
  k_with "newList" => (k_here; k_dflt (refine' listM ?zzF ?zzN ?_ ?zzz; (case zzF => k_asm); (case zzN => k_asm); (case zzz => exact szT (Nat.le_of_ble_eq_true rfl : _ ≤ 7) (by decide)); k_whole); intro zzD zzh zzF zzN zzl; (try k_lt zzl); (try k_sweep))
  k_with "LeaveK" => (k_here; k_dflt (refine' leaveM ?zzF ?zzN ?_; (case zzF => k_asm); (case zzN => k_asm); k_whole); intro zzF zzN; (try k_sweep); (try dsimp only))
  k_with "call ref" => (k_here; (with_reducible show wpAny _ _ (call (Value.ref 109) [_]) _ _ _); k_dflt (refine' fspath_c ?zzk1 ?zzk2 ?zzk3 ?zzk4 ?zzk5 ?zzkK  ?zzkd ?zzku ?_; (case zzk1 => k_asm); (case zzk2 => k_asm); (case zzk3 => k_asm); (case zzk4 => k_asm); (case zzk5 => k_asm); (case zzkK => first | exact rfl | assumption);  (case zzkd => first | exact (Nat.lt_of_le_of_lt (Nat.add_le_add_left (Nat.le_of_ble_eq_true rfl : 1 + 1 ≤ 5) dp) hdp : dp + (1 + 1) < recursionLimit) | ktr_room); (case zzku => first | exact (Nat.lt_of_le_of_lt (Nat.add_le_add_left (Nat.le_of_ble_eq_true rfl : 3 + 8 ≤ 40) un) hun : un + (3 + 8) < cLine) | ktr_units)); intro t9 h9 tk9 F9 N9; (try dsimp only); (try k_sweep); (try k_fold))
  k_with "call ref" => (k_here; (with_reducible show wpAny _ _ (call (Value.ref 147) [_]) _ _ _); k_dflt (refine' splitroot_c ?zzk1 ?zzk2 ?zzk3 ?zzk4 ?zzk5 ?zzkK ?zzhx ?zzkd ?zzku ?_; (case zzk1 => k_asm); (case zzk2 => k_asm); (case zzk3 => k_asm); (case zzk4 => k_asm); (case zzk5 => k_asm); (case zzkK => first | exact rfl | assumption); (case zzhx => first | omega | assumption); (case zzkd => first | exact (Nat.lt_of_le_of_lt (Nat.add_le_add_left (Nat.le_of_ble_eq_true rfl : 1 + 3 ≤ 5) dp) hdp : dp + (1 + 3) < recursionLimit) | ktr_room); (case zzku => first | exact (Nat.lt_of_le_of_lt (Nat.add_le_add_left (Nat.le_of_ble_eq_true rfl : 3 + 20 ≤ 40) un) hun : un + (3 + 20) < cLine) | ktr_units)); intro D9 a9 b9 c9 t9 t8 t7 h9 tk9 e9 F9 N9 l9; (have q9 := splitroot_len e9); obtain ⟨q8, q7⟩ := q9; (try k_lt l9); (try dsimp only); (try k_sweep); (try k_fold))
  k_with "exec For Name Name cons nil" => (k_here; (rename Fr _ _ _ _ => lF'); (with_unfolding_all refine' For_invVF lF' ?zzk1 ?zzk2 ?_; (case zzk1 => exact rfl); (case zzk2 => exact rfl); k_whole))
  k_with "truthy ref" => (k_here; k_dflt (first | (refine' truthyNil ?zzN ?zzm ?_; (case zzN => with_reducible assumption); (case zzm => with_reducible exact List.mem_cons_self); k_whole) | (refine' truthySnoc ?zzN ?zzm ?zzz ?_; (case zzN => with_reducible assumption); (case zzm => with_reducible exact List.mem_cons_self); (case zzz => first | (with_reducible assumption) | exact Nat.le_trans (by with_reducible assumption) (Nat.le_of_ble_eq_true rfl) | omega); k_whole)))
  k_with "subscriptTail" => (k_here; (with_reducible show wpAny _ _ (subscriptTail _ _ (Value.ref _) (Value.int (-1) _)) _ _ _); k_dflt (refine' itemSnoc ?zzN ?zzm ?_ ?zzks; (case zzks => with_unfolding_all rfl); (case zzN => with_reducible assumption); (case zzm => with_reducible exact List.mem_cons_self); k_whole))
  k_with "call builtin:list.pop" => (k_here; (with_reducible show wpAny _ _ (call (Value.builtin _) [Value.ref _]) _ _ _); k_dflt (refine' popSnoc ?zzF ?zzN ?zzr ?zzz ?_; (case zzF => with_reducible assumption); (case zzN => with_reducible assumption); (case zzr => k_all); (case zzz => first | (with_reducible assumption) | exact Nat.le_trans (by with_reducible assumption) (Nat.le_of_ble_eq_true rfl) | omega); k_whole); intro h' tk' F' N'; (try k_sweep))
  k_with "call builtin:str.join" => (k_here; (with_reducible show wpAny _ _ (call (Value.builtin "str.join") [Value.str _ _, Value.ref _]) _ _ _); k_dflt (refine' joinAcc ?zzN ?zzm ?zzw ?zzs ?_; (case zzN => with_reducible assumption); (case zzm => with_reducible exact List.mem_cons_self); (case zzw => first | (with_reducible assumption) | exact Nat.le_trans (by with_reducible assumption) (Nat.le_of_ble_eq_true rfl) | omega); (case zzs => decide); k_whole); intro _ _ _)
  revert X
  k_fill
  intro X
  refine wpAny_call ?_
  k_dflt (refine' code_def (binds := [(Str.ofString "path", .str x tx)]) ?k1 ?k2 ?k3 ?k4 ?k5 ?kA ?kF ?kK ?k6 ?k7 ?k8 ?k9 ?kB ?_ ?c2 ?c3 ?c4 ?c5; (case kA => exact rfl); (case kF => exact rfl); (case kK => assumption); (case k1 => k_asm); (case k2 => k_asm); (case k3 => k_asm); (case k4 => k_asm); (case k5 => k_asm); (case k6 => k_is); (case k7 => k_is); (case k8 => ktr_room); (case k9 => exact BindsTo.of_eq rfl); (case c5 => decide); (case kB => exact locs rfl); (case c2 => exact rfl); (case c3 => exact rfl); (case c4 => exact rfl); k_whole; intro g' L' h' FG' F' N' B' X' T'; (try dsimp only); (try k_lift B'); (try k_fold))
  k_steps
  · (rename News _ _ _ _ => lN)
    (rename Fr _ _ _ _ => lF)
    (rename (_, _, _) = splitrootF _ => e9)
    (rename _ ∧ _ ∧ AllLt _ _ => l1)
    (rename List.map _ _ = Txt.split _ _ => hsp)
    (rename StrsAre _ _ => hsa)
    have hwl : wt _ ≤ _ := weighs_of_split hsp (by decide)
    clear hsa
    replace lN := dropBut lN
    dsimp only at lF lN l1
    (try dsimp only)
    have mk := kstMark
    refine' iterStrs2 (K := 100001) (npStep (sndOf e9)) (npStep_wt _) rfl l1.1 l1.2.2 (by omega) lF lN rfl ?turn ?done
    case turn =>
      clear lF lN
      intro rest acc n a t h tk own hr ha hw hoff F' N'
      refine frLet F' ?_; clear F'; intro mk9 F'
      rcases snocOf acc with rfl | ⟨p, b, tb, rfl⟩
      · replace N' : News _ _ _ ((_, listOf (List.toArray []) _) :: _) := N'
        k_steps
        all_goals first
          | (refine' iterStrsEnd [] ?F ?N ?e ?s; (case F => with_reducible assumption); (case N => with_reducible assumption); (case e => rfl); (case s => first | exact (np1 (by with_reducible assumption)).symm | exact (np2 (by with_reducible assumption)).symm | exact (np6 (by with_reducible assumption) (by with_reducible assumption) (by with_reducible assumption) (by with_reducible assumption)).symm))
          | (refine' iterStrsEnd [(a, t)] ?F ?N ?e ?s; (case F => with_reducible assumption); (case N => with_reducible assumption); (case e => simp [strValues]); (case s => (show [a] = npStep _ [] a; first | exact (np3 (acc := []) (by with_reducible assumption) (by with_reducible assumption) (by with_reducible assumption)).symm | exact (np4 (by with_reducible assumption) (by with_reducible assumption) (by with_reducible assumption)).symm)))
      · have hz := wt_snoc_len hw
        rw [show strValues (p ++ [(b, tb)]) = strValues p ++ [Value.str b tb] by simp [strValues]] at N'
        generalize hvs : strValues p = vs at N' hz
        k_steps
        all_goals first
          | (refine' iterStrsEnd (p ++ [(b, tb)]) ?F ?N ?e ?s; (case F => with_reducible assumption); (case N => with_reducible assumption); (case e => (subst hvs; simp [strValues])); (case s => (simp only [List.map_append, List.map_cons, List.map_nil]; first | exact (np1 (by with_reducible assumption)).symm | exact (np2 (by with_reducible assumption)).symm)))
          | (refine' iterStrsEnd (p ++ [(b, tb)] ++ [(a, t)]) ?F ?N ?e ?s; (case F => with_reducible assumption); (case N => with_reducible assumption); (case e => (subst hvs; simp [strValues])); (case s => (simp only [List.map_append, List.map_cons, List.map_nil]; first | exact (np3 (by with_reducible assumption) (by with_reducible assumption) (by with_reducible assumption)).symm | exact (np5 (by with_reducible assumption) (by with_reducible assumption) (by with_reducible assumption)).symm)))
          | (refine' iterStrsEnd p ?F ?N ?e ?s; (case F => with_reducible assumption); (case N => with_reducible assumption); (case e => (subst hvs; first | rfl | simp [strValues])); (case s => (simp only [List.map_append, List.map_cons, List.map_nil]; exact (np7 (by with_reducible assumption) (by with_reducible assumption) (by with_reducible assumption) (by with_reducible assumption)).symm)))
    case done =>
      clear lF lN
      intro acc n u h tk hacc hw F' N'
      refine frLet F' ?_; clear F'; intro mk9 F'
      k_steps
      all_goals (refine' hret _ _ _ _ ?e ?F (dropHd ?N); (case N => with_reducible assumption); (case F => with_reducible assumption); (case e => first | with_reducible exact (normF_2 e9 (by assumption) hsp hacc (by assumption)).symm | with_reducible exact (normF_1 e9 (by assumption) hsp hacc (by assumption)).symm))
  · (refine' hret _ _ _ _ ?e ?F ?N; (case N => with_reducible assumption); (case F => with_reducible assumption); (case e => exact (normF_0 (by assumption)).symm))
noncomputable abbrev capT (x : Str) : Str := Txt.join (Str.ofString " ") ((Txt.words x).map Txt.capitalize)
noncomputable abbrev capP (x : Str) : Str := Txt.join (Str.ofString "/") ((Txt.split x (Str.ofString "/")).map Txt.capitalize)
theorem capP_len {x : Str} {n : Nat} (hx : x.length ≤ n) : (capP x).length ≤ 12 * n + 20 := by
  have hW : ((Txt.split x (Str.ofString "/")).map (·.length)).sum + (Txt.split x (Str.ofString "/")).length ≤ x.length + 1 := split_weight x (Str.ofString "/") (by decide)
  have hS : ∀ l : List Str, ((l.map Txt.capitalize).map (·.length)).sum ≤ 3 * (l.map (·.length)).sum := by
    intro l
    induction l with
    | nil => exact Nat.le_refl _
    | cons a r ih =>
      show (Txt.capitalize a).length + ((r.map Txt.capitalize).map (·.length)).sum ≤ 3 * (a.length + (r.map (·.length)).sum)
      rw [Nat.mul_add]
      exact Nat.add_le_add (len_capitalize a) ih
  have h3 := hS (Txt.split x (Str.ofString "/"))
  have hw' : Weighs ((Txt.split x (Str.ofString "/")).map Txt.capitalize) (3 * n + 3) := by
    show ((_ : List Str).map (·.length)).sum + (_ : List Str).length ≤ 3 * n + 3 + 1
    rw [List.length_map]
    exact Nat.le_succ_of_le (Nat.le_trans (Nat.add_le_add h3 (Nat.le_mul_of_pos_left _ (by decide : 0 < 3))) (by rw [← Nat.mul_add]; exact Nat.mul_le_mul_left 3 (Nat.le_trans hW (Nat.succ_le_succ hx))))
  have := len_join_le (sep := Str.ofString "/") hw' (by decide)
  show (Txt.join _ _).length ≤ _
  omega
theorem told_c {w : World} {mean : ExcName → Option Value} {mg mb : Str → Option Value} {dp un : Nat} {gd : Option (List Code)} {cn : Str} {cs : Scope} {a : Addr} {ccd : Value} {cl : List (Str × Addr)} {outer : List Env} {A₀ : Around} {base h₀ : Heap} {L : Addr} {m : Str → Option Value} {news : List (Addr × Obj)} {hp : Heap} {gn : Array GenState} {dr : Drawn} {tq : Nat} {oz : OsState} {x y : Str} {tx ty : Tok}
    {Q E : Value → Shared → Prop} (B : Below A₀ base outer h₀) (F : Fr h₀ L hp m) (X : (lawTop.heap_39 w.params).In h₀) (N : News h₀ L hp news) (T : Top lawTop.view_39 (looseW lawTop.view_39 [Str.ofString "ascii_letters", Str.ofString "printable", Str.ofString "capwords"]) mean mg mb h₀) (hk : cs.kind = .function)
    (hx : x.length ≤ 1000) (hy : y.length ≤ 1000) (hdp : dp + 8 < recursionLimit) (hun : un + 80 < cLine)
    (hret : ∀ D T1 T2 T3 (p1 p2 q1 q2 r1 r2 r3 nm : Str) u1 u2 u3 v1 v2 w1 w2 z1 z2 z3 h' tk', nm = normF (capP y) → (p1, p2) = splitF (capP y) → SplitextIs (capP y) q1 q2 → (r1, r2, r3) = splitrootF (capP y) → Fr h₀ L h' m →
      News h₀ L h' ((D, listOf [Value.str (capT x) u1, .str (capP y) u2, .str nm u3, .ref T1, .ref T2, .ref T3].toArray 0) :: (T3, tupO [.str r1 z1, .str r2 z2, .str r3 z3]) :: (T2, tupO [.str q1 w1, .str q2 w2]) :: (T1, tupO [.str p1 v1, .str p2 v2]) :: news) →
      AllLt T1 news → T1 < T2 → T2 < T3 → T3 < D → Q (.ref D) ⟨h', gn, dr, tk', oz⟩) :
    wpAny (model PySem.Challenge.rw_ij0119_01.row.prog w) (ktrTop dp un gd cn cs L a ccd cl outer) (call (.ref 166) [.str x tx, .str y ty]) Q E ⟨hp, gn, dr, tq, oz⟩ := by
  w_top off
  k_with_none
  k_with "eval BinOp" => k_fold
  k_with "eval Call" => k_fold
  k_with "eval Subscript" => k_fold
  k_with "size_fits" => first | exact szT (Nat.le_refl _) (by decide) | exact szT (by with_reducible assumption) (by decide) | exact Nat.le_trans (by with_reducible assumption) (Nat.le_of_ble_eq_true rfl) | exact szAB (by with_reducible assumption) (by with_reducible assumption) (by decide)
  k_with "ite" => (k_here; k_openite; first | (refine ite_pos (by with_reducible assumption) ?_; walk_say "PRUNED") | (refine ite_neg (by with_reducible assumption) ?_; walk_say "PRUNED") | (refine ite_isFalse (by with_reducible assumption) ?_; walk_say "PRUNED") | with_reducible refine ite_tt ?_ | with_reducible refine ite_ff ?_ | (with_reducible refine split_ine ?_ ?_ <;> intro _) | (with_reducible refine split_ieq ?_ ?_ <;> intro _) | with_reducible refine split_not ?_ | (refine split_dec ?_ ?_ <;> intro _) | (refine split_bool ?_ ?_ <;> intro _))
  k_with "storeName" => (k_here; k_dflt (refine' storeX_M ?zzF ?zzN ?_ ?zza ?zzb; (case zzF => k_asm); (case zzN => k_asm); (case zza => rfl); (case zzb => rfl); k_whole); intro zzh zzt zzl zzm zzF zzN; (try k_sweep))
  k_with "eval Constant int" => (k_here; k_dflt (refine constI ?_))
  k_with "eval Constant str" => (k_here; k_dflt (refine constS ?_))
  k_with "spliced" => (k_here; (first | (fail_if_success (fail_if_success (with_reducible show wpAny _ _ (spliced (backTo _ (starEach (PySem.Expr.Name _ _ :: _) (envOf _ _ _ _ _)))) _ _ _))) | (fail_if_success (fail_if_success (with_reducible show wpAny _ _ (spliced (backTo _ (starEach (PySem.Expr.Name _ _ :: _) (envOfC _ _ _ _ _)))) _ _ _)))); first | ((fail_if_success (fail_if_success (with_reducible show wpAny _ _ (spliced (backTo _ (starEach [PySem.Expr.Name _ _] _))) _ _ _))); k_dflt (refine' argName1 ?zzF ?zzv ?_ ?zza ?zzb ?zzd; (case zzF => k_asm); (case zza => rfl); (case zzb => rfl); (case zzv => rfl); (case zzd => decide); k_whole)) | k_dflt (refine' argName ?zzF ?zzv ?_ ?zza ?zzb ?zzd; (case zzF => k_asm); (case zza => rfl); (case zzb => rfl); (case zzv => rfl); (case zzd => decide); k_whole))
  k_with "spliced" => (k_here; (fail_if_success (fail_if_success (with_reducible show wpAny _ _ (spliced (backTo _ (starEach [] _))) _ _ _))); k_dflt (refine args_nil ?_); (try ((with_reducible show wpAny _ _ (call _ (_ ++ _)) _ _ _); dsimp only [List.cons_append, List.nil_append])))
  k_with "callWith" => (k_here; (fail_if_success (fail_if_success (with_reducible show wpAny _ _ (callWith _ (Value.builtin _) [_] (backTo _ (starEach (_ :: _) _)) []) _ _ _))); first | ((first | (fail_if_success (fail_if_success (with_reducible show wpAny _ _ (callWith _ _ _ (backTo _ (starEach [PySem.Expr.Name _ _] (envOf _ _ _ _ _))) _) _ _ _))) | (fail_if_success (fail_if_success (with_reducible show wpAny _ _ (callWith _ _ _ (backTo _ (starEach [PySem.Expr.Name _ _] (envOfC _ _ _ _ _))) _) _ _ _)))); k_dflt (refine' callM1 ?zzF ?zzv ?_ ?zza ?zzb ?zzd; (case zzF => k_asm); (case zza => rfl); (case zzb => rfl); (case zzv => rfl); (case zzd => decide); k_whole)) | k_dflt (refine' callM ?_ ?zze ?zzp; (case zze => rfl); (case zzp => rfl)))
  k_with "callWith" => (k_here; (first | (fail_if_success (fail_if_success (with_reducible show wpAny _ _ (callWith _ (Value.builtin _) [] (backTo _ (starEach [PySem.Expr.Name _ _] (envOf _ _ _ _ _))) []) _ _ _))) | (fail_if_success (fail_if_success (with_reducible show wpAny _ _ (callWith _ (Value.builtin _) [] (backTo _ (starEach [PySem.Expr.Name _ _] (envOfC _ _ _ _ _))) []) _ _ _)))); k_dflt (refine' callB1 ?zzF ?zzv ?_ ?zza ?zzb ?zzd; (case zzF => k_asm); (case zza => rfl); (case zzb => rfl); (case zzv => rfl); (case zzd => decide); k_whole))
  k_with "newTuple" => (k_here; k_dflt (refine' tupM ?zzF ?zzN ?_ ?zzz; (case zzF => k_asm); (case zzN => k_asm); (case zzz => exact szT (Nat.le_of_ble_eq_true rfl : _ ≤ 7) (by decide)); k_whole); intro zzD zzh zzF zzN zzl; (try k_lt zzl); (try k_sweep))
  k_with "newList" => (k_here; k_dflt (refine' listM ?zzF ?zzN ?_ ?zzz; (case zzF => k_asm); (case zzN => k_asm); (case zzz => exact szT (Nat.le_of_ble_eq_true rfl : _ ≤ 7) (by decide)); k_whole); intro zzD zzh zzF zzN zzl; (try k_lt zzl); (try k_sweep))
  k_with "LeaveK" => (k_here; k_dflt (refine' leaveM ?zzF ?zzN ?_; (case zzF => k_asm); (case zzN => k_asm); k_whole); intro zzF zzN; (try k_sweep); (try dsimp only))
  k_with "call ref" => (k_here; (with_reducible show wpAny _ _ (call (Value.ref 36) [Value.str _ _]) _ _ _); k_dflt (refine' capw_c ?zzk1 ?zzk2 ?zzk3 ?zzk4 ?zzk5 ?zzkK ?zzhx ?zzkd ?zzku ?_; (case zzk1 => k_asm); (case zzk2 => k_asm); (case zzk3 => k_asm); (case zzk4 => k_asm); (case zzk5 => k_asm); (case zzkK => first | exact rfl | assumption); (case zzhx => first | (with_reducible assumption) | exact Nat.le_trans (by with_reducible assumption) (Nat.le_of_ble_eq_true rfl) | omega); (case zzkd => first | exact (Nat.lt_of_le_of_lt (Nat.add_le_add_left (Nat.le_of_ble_eq_true rfl : 1 + 5 ≤ 8) dp) hdp : dp + (1 + 5) < recursionLimit) | ktr_room); (case zzku => first | exact (Nat.lt_of_le_of_lt (Nat.add_le_add_left (Nat.le_of_ble_eq_true rfl : 3 + 40 ≤ 80) un) hun : un + (3 + 40) < cLine) | ktr_units)); intro t9 h9 tk9 F9 N9; (try dsimp only); (try k_sweep); (try k_fold))
  k_with "call ref" => (k_here; (with_reducible show wpAny _ _ (call (Value.ref 36) [Value.str _ _, Value.str _ _]) _ _ _); k_dflt (refine' capws_c ?zzk1 ?zzk2 ?zzk3 ?zzk4 ?zzk5 ?zzkK ?zzhx ?zzkd ?zzku ?_; (case zzk1 => k_asm); (case zzk2 => k_asm); (case zzk3 => k_asm); (case zzk4 => k_asm); (case zzk5 => k_asm); (case zzkK => first | exact rfl | assumption); (case zzhx => first | (with_reducible assumption) | exact Nat.le_trans (by with_reducible assumption) (Nat.le_of_ble_eq_true rfl) | omega); (case zzkd => first | exact (Nat.lt_of_le_of_lt (Nat.add_le_add_left (Nat.le_of_ble_eq_true rfl : 1 + 5 ≤ 8) dp) hdp : dp + (1 + 5) < recursionLimit) | ktr_room); (case zzku => first | exact (Nat.lt_of_le_of_lt (Nat.add_le_add_left (Nat.le_of_ble_eq_true rfl : 3 + 40 ≤ 80) un) hun : un + (3 + 40) < cLine) | ktr_units)); intro t9 h9 tk9 F9 N9; (try dsimp only); (try k_sweep); (try k_fold))
  k_with "call ref" => (k_here; (with_reducible show wpAny _ _ (call (Value.ref 147) [_]) _ _ _); k_dflt (refine' splitroot_c ?zzk1 ?zzk2 ?zzk3 ?zzk4 ?zzk5 ?zzkK ?zzhx ?zzkd ?zzku ?_; (case zzk1 => k_asm); (case zzk2 => k_asm); (case zzk3 => k_asm); (case zzk4 => k_asm); (case zzk5 => k_asm); (case zzkK => first | exact rfl | assumption); (case zzhx => first | omega | assumption); (case zzkd => first | exact (Nat.lt_of_le_of_lt (Nat.add_le_add_left (Nat.le_of_ble_eq_true rfl : 1 + 3 ≤ 8) dp) hdp : dp + (1 + 3) < recursionLimit) | ktr_room); (case zzku => first | exact (Nat.lt_of_le_of_lt (Nat.add_le_add_left (Nat.le_of_ble_eq_true rfl : 3 + 20 ≤ 80) un) hun : un + (3 + 20) < cLine) | ktr_units)); intro D9 a9 b9 c9 t9 t8 t7 h9 tk9 e9 F9 N9 l9; (have q9 := splitroot_len e9); obtain ⟨q8, q7⟩ := q9; (try k_lt l9); (try dsimp only); (try k_sweep); (try k_fold))
  k_with "call ref" => (k_here; (with_reducible show wpAny _ _ (call (Value.ref 130) [_]) _ _ _); k_dflt (refine' split_c ?zzk1 ?zzk2 ?zzk3 ?zzk4 ?zzk5 ?zzkK ?zzhx ?zzkd ?zzku ?_; (case zzk1 => k_asm); (case zzk2 => k_asm); (case zzk3 => k_asm); (case zzk4 => k_asm); (case zzk5 => k_asm); (case zzkK => first | exact rfl | assumption); (case zzhx => first | omega | assumption); (case zzkd => first | exact (Nat.lt_of_le_of_lt (Nat.add_le_add_left (Nat.le_of_ble_eq_true rfl : 1 + 3 ≤ 8) dp) hdp : dp + (1 + 3) < recursionLimit) | ktr_room); (case zzku => first | exact (Nat.lt_of_le_of_lt (Nat.add_le_add_left (Nat.le_of_ble_eq_true rfl : 3 + 20 ≤ 80) un) hun : un + (3 + 20) < cLine) | ktr_units)); intro D9 a9 b9 t9 t8 h9 tk9 e9 F9 N9 l9; (try k_lt l9); (try dsimp only); (try k_sweep); (try k_fold))
  k_with "call ref" => (k_here; (with_reducible show wpAny _ _ (call (Value.ref 137) [_]) _ _ _); k_dflt (refine' splitext_c ?zzk1 ?zzk2 ?zzk3 ?zzk4 ?zzk5 ?zzkK ?zzhx ?zzkd ?zzku ?_; (case zzk1 => k_asm); (case zzk2 => k_asm); (case zzk3 => k_asm); (case zzk4 => k_asm); (case zzk5 => k_asm); (case zzkK => first | exact rfl | assumption); (case zzhx => first | omega | assumption); (case zzkd => first | exact (Nat.lt_of_le_of_lt (Nat.add_le_add_left (Nat.le_of_ble_eq_true rfl : 1 + 5 ≤ 8) dp) hdp : dp + (1 + 5) < recursionLimit) | ktr_room); (case zzku => first | exact (Nat.lt_of_le_of_lt (Nat.add_le_add_left (Nat.le_of_ble_eq_true rfl : 3 + 40 ≤ 80) un) hun : un + (3 + 40) < cLine) | ktr_units)); intro D9 a9 b9 t9 t8 h9 tk9 e9 F9 N9 l9; (try k_lt l9); (try dsimp only); (try k_sweep); (try k_fold))
  k_with "call ref" => (k_here; (with_reducible show wpAny _ _ (call (Value.ref 154) [_]) _ _ _); k_dflt (refine' normpath_c ?zzk1 ?zzk2 ?zzk3 ?zzk4 ?zzk5 ?zzkK ?zzhx ?zzkd ?zzku ?_; (case zzk1 => k_asm); (case zzk2 => k_asm); (case zzk3 => k_asm); (case zzk4 => k_asm); (case zzk5 => k_asm); (case zzkK => first | exact rfl | assumption); (case zzhx => first | omega | assumption); (case zzkd => first | exact (Nat.lt_of_le_of_lt (Nat.add_le_add_left (Nat.le_of_ble_eq_true rfl : 1 + 5 ≤ 8) dp) hdp : dp + (1 + 5) < recursionLimit) | ktr_room); (case zzku => first | exact (Nat.lt_of_le_of_lt (Nat.add_le_add_left (Nat.le_of_ble_eq_true rfl : 3 + 40 ≤ 80) un) hun : un + (3 + 40) < cLine) | ktr_units)); intro r9 t9 h9 tk9 e9 F9 N9; (try dsimp only); (try k_sweep); (try k_fold))
  revert X
  k_fill
  intro X
  refine wpAny_call ?_
  have hcl : (Txt.join (Str.ofString "/") ((Txt.split y (Str.ofString "/")).map Txt.capitalize)).length ≤ 100000 := Nat.le_trans (capP_len hy) (by decide)
  k_dflt (refine' code_def (binds := [(Str.ofString "text", .str x tx), (Str.ofString "path", .str y ty)]) ?k1 ?k2 ?k3 ?k4 ?k5 ?kA ?kF ?kK ?k6 ?k7 ?k8 ?k9 ?kB ?_ ?c2 ?c3 ?c4 ?c5; (case kA => exact rfl); (case kF => exact rfl); (case kK => assumption); (case k1 => k_asm); (case k2 => k_asm); (case k3 => k_asm); (case k4 => k_asm); (case k5 => k_asm); (case k6 => k_is); (case k7 => k_is); (case k8 => ktr_room); (case k9 => exact BindsTo.of_eq rfl); (case c5 => decide); (case kB => exact locs rfl); (case c2 => exact rfl); (case c3 => exact rfl); (case c4 => exact rfl); k_whole; intro g' L' h' FG' F' N' B' X' T'; (try dsimp only); (try k_lift B'); (try k_fold))
  k_steps
  all_goals (refine' hret _ _ _ _ _ _ _ _ _ _ _ _ _ _ _ _ _ _ _ _ _ _ _ _ ?nm ?e1 ?e2 ?e3 ?F ?N ?l ?l1 ?l2 ?l3; (case N => with_reducible assumption); (case F => with_reducible assumption); (case nm => with_reducible assumption); (case e1 => with_reducible assumption); (case e2 => with_reducible assumption); (case e3 => with_reducible assumption); (case l => exact allLt_of (by with_reducible assumption)); (case l1 => (rename _ ∧ AllLt _ _ => q; exact q.1)); (case l2 => (rename _ ∧ _ ∧ AllLt _ _ => q; exact q.1)); (case l3 => (rename _ ∧ _ ∧ _ ∧ AllLt _ _ => q; exact q.1)))
/-- a for loop's facts, with a floor under the tokens -/
inductive LoopAtT (prog : Program) (w : World) (A : Around) (n₀ : Nat) (h₀ : Heap) (env : Env) (x : Str) (body : List Stmt) (Q : Flow → Shared → Prop) (E : Value → Shared → Prop) (it : Value) (s₂ : Shared) : Prop
  | mk (I : Addr) (fp wr : List Addr) (n : Nat) (P : Nat → Value → Prop) (St : Nat → Heap → Prop) (m : Str → Option Value) (news : List (Addr × Obj)) (J : Nat → (Str → Option Value) → List (Addr × Obj) → Prop)
    (hit : it = .ref I) (hn : n₀ ≤ s₂.toks) (W : Walks prog w A I fp wr n P St) (hLf : env.locals ∉ fp) (hwr : ∀ b ∈ wr, h₀.get? b = none) (hnw : ∀ p ∈ news, p.1 ∉ wr) (hst : St 0 s₂.heap) (F : Fr h₀ env.locals s₂.heap m) (N : News h₀ env.locals s₂.heap news) (h0 : J 0 m news)
    (step : ∀ i v m₁ news₁ h tk own, n₀ ≤ tk → i < n → P i v → J i m₁ news₁ → (∀ p ∈ news₁, p.1 ∉ wr) → (∀ p ∈ own, p.1 ∈ fp) → (∀ p ∈ own, h.get? p.1 = some p.2) → (∀ b ∈ fp, h₀.get? b = none → ∀ o, h.get? b = some o → (b, o) ∈ own) → St (i + 1) h →
      Fr h₀ env.locals h (fun y => if y = x then some v else m₁ y) → News h₀ env.locals h (own ++ news₁) →
      wpAny (model prog w) A (execs body env) (LoopStepV h₀ env.locals wr own (J (i + 1)) { s₂ with heap := h, toks := tk } (fun v s' => Q (.ret v) s') fun s' => Q .next s') E { s₂ with heap := h, toks := tk })
    (hQ : ∀ h' tk m' news', n₀ ≤ tk → Fr h₀ env.locals h' m' → News h₀ env.locals h' news' → (∀ p ∈ news', p.1 ∉ wr) → J n m' news' → Q .next { s₂ with heap := h', toks := tk }) : LoopAtT prog w A n₀ h₀ env x body Q E it s₂
/-- between the turns -/
inductive FInv (s : Shared) (n₀ : Nat) (h₀ : Heap) (L : Addr) (wr : List Addr) (St : Nat → Heap → Prop) (J : Nat → (Str → Option Value) → List (Addr × Obj) → Prop) (n k : Nat) (s' : Shared) : Prop
  | mk (h' : Heap) (tk : Nat) (m' : Str → Option Value) (news' : List (Addr × Obj)) (i : Nat) (e : s' = { s with heap := h', toks := tk }) (htk : n₀ ≤ tk) (hst : St i h') (F : Fr h₀ L h' m') (N : News h₀ L h' news') (hnw : ∀ p ∈ news', p.1 ∉ wr) (hJ : J i m' news') (hi : i ≤ n) (hk : k = n + 1 - i) : FInv s n₀ h₀ L wr St J n k s'

section
variable {prog : Program} {w : World} {A : Around} {s : Shared} {env : Env} {h₀ : Heap} {n₀ : Nat} {x : Str} {px pos : Pos} {body : List Stmt} {iter : Expr} {E : Value → Shared → Prop} {Q : Flow → Shared → Prop}
theorem forT_code {it : Value} (hx : env.kindOf x = some .local) (hp : (env.scope.kind == .class || (env.scope.kind == .module && env.locals != env.globals)) = false) (hE : PassesOwn (model prog w) A env E)
    (H : LoopAtT prog w A n₀ h₀ env x body Q E it s) : codeAny (model prog w) A (.forLoop (.Name x px) it body [] env) (fun r s' => match r with | .ok f => Q f s' | .error e => cameBackBy (model prog w) A env E e s') s := by
  obtain ⟨I, fp, wr, n, P, St, m, news, J, rfl, hn, W, hLf, hwr, hnw, hst, F, N, h0, step, hQ⟩ := H
  have hLw : env.locals ∉ wr := fun h => hLf (W.sub _ h)
  have old : ∀ b o, h₀.get? b = some o → b ∉ wr := fun b o e hb => by rw [hwr b hb] at e; cases e
  refine codeAny_forLoop
    (FInv s n₀ h₀ env.locals wr St J n) ?_ (n + 1)
    ⟨s.heap, s.toks, m, news, 0, rfl, hn, hst, F, N, hnw, h0, Nat.zero_le _, rfl⟩
  rintro k s' ⟨h', tk, m', news', i, rfl, htk, hst', F', N', hnw', hJ, hi, rfl⟩
  have next : ∀ h₁ : Heap, (∀ b o, b ∉ wr → h'.get? b = some o → h₁.get? b = some o) → Fr h₀ env.locals h₁ m' ∧ News h₀ env.locals h₁ news' := fun h₁ hk₁ =>
    ⟨⟨F'.ns.at' fun o e => hk₁ _ o hLw e, fun b o e => hk₁ b o (old b o e) (F'.keep b o e), F'.above⟩, fun p hp => ⟨hk₁ _ _ (hnw' p hp) (N' p hp).1, (N' p hp).2⟩⟩
  refine wpAny_with_toks (n := n₀) htk ?_
  by_cases hlt : i < n
  · refine W.item i _ _ _ hlt hst' fun v h₁ tk₁ hP hst₁ hk₁ htk₁ => ?_
    obtain ⟨F₁, N₁⟩ := next h₁ hk₁
    have htk₁' : n₀ ≤ tk₁ := htk₁
    refine wpAny_mono (Q := _) (wpAny_assign_Name (wpAny_storeName_local hx F₁.ns (fun h₂ hn₂ hs₂ => ?_) hp)) (fun _ _ q => q) fun _ _ e => e
    have F₂ := F₁.set hn₂ hs₂
    have Nown : News h₀ env.locals h₂ (ownOf h₀ fp h₂) := news_ownOf hLf
    have hst₂ : St (i + 1) h₂ := W.frame _ _ _ hst₁ fun b hb o e => (hs₂.2 b fun q => hLf (q ▸ hb)).trans e
    refine wpAny_mono (wpAny_toks_of (n := n₀) (Nat.le_succ_of_le htk₁') (wpAny_passesOwn hE (step i v m' news' h₂ (tk₁ + 1) (ownOf h₀ fp h₂) (Nat.le_succ_of_le htk₁') hlt hP hJ hnw' ownOf_sub (fun p hp => (Nown p hp).1) (fun b hb hn o e => mem_ownOf hb hn e) hst₂ F₂ (Nown.append (N₁.set hs₂))))) (fun f s₃ h₃ => ?_) fun _ _ e => e.2
    obtain ⟨htk₃, h₃⟩ := h₃
    have go : LoopStepU h₀ env.locals wr (ownOf h₀ fp h₂) (J (i + 1)) { s with heap := h₂, toks := tk₁ + 1 } .next s₃ → ∃ m_1, m_1 < n + 1 - i ∧ FInv s n₀ h₀ env.locals wr St J n m_1 s₃ := by
      rintro ⟨_, h₃', tk₃, m₂, news₂, rfl, F₃, N₃, ha₃, hJ₃⟩
      refine ⟨n + 1 - (i + 1), by omega, h₃', tk₃, m₂, news₂, i + 1, rfl, htk₃, ?_, F₃, N₃.right, ha₃, hJ₃, hlt, rfl⟩
      refine W.frame _ _ _ hst₁ fun b hb o e => ?_
      have e₂ : h₂.get? b = some o := (hs₂.2 b fun q => hLf (q ▸ hb)).trans e
      cases hn : h₀.get? b with
      | some o₀ =>
        have : o₀ = o := by have := F₂.keep b o₀ hn; rw [e₂] at this; exact (Option.some.inj this).symm
        exact this ▸ F₃.keep b o₀ hn
      | none => exact (N₃ _ (List.mem_append_left _ (mem_ownOf hb hn e₂))).1
    cases f with
    | ret v => exact h₃
    | brk => exact h₃
    | cont => exact go h₃
    | next => exact go h₃
  · have hin : i = n := by omega
    subst hin
    refine W.done _ _ _ hst' fun h₁ tk₁ hk₁ htk₁ => wpAny_execs_nil ?_
    obtain ⟨F₁, N₁⟩ := next h₁ hk₁
    exact hQ h₁ tk₁ m' news' htk₁ F₁ N₁ hnw' hJ
theorem forT {m : Str → Option Value} (F0 : Fr h₀ env.locals s.heap m) (hx : env.kindOf x = some .local)
    (hp : (env.scope.kind == .class || (env.scope.kind == .module && env.locals != env.globals)) = false) (hn : n₀ ≤ s.toks)
    (h : wpAny (model prog w) A (eval iter env) (fun xv s₁ => n₀ ≤ s₁.toks → wpAny (model prog w) A (pyIter xv) (fun it s₂ => LoopAtT prog w A n₀ h₀ env x body Q E it s₂) E s₁) E s)
    (hs : ∀ x, foldedSetIterable iter env x = pure x)
    (hE : PassesOwn (model prog w) A env E) :
    wpAny (model prog w) A (exec (.For (.Name x px) iter body [] pos) env) Q E s := by
  refine wpAny_For (wpAny_with_toks hn (wpAny_mono h (fun xv s₁ h₁ htk => wpAny_mono (h₁ htk) (fun it s₂ h₂ => ?_) fun _ _ e => e) fun _ _ e _ => e)) hs
  exact forT_code hx hp hE h₂
end
section
variable {M : Model} {A : Around} {env : Env} {st : Stmt} {rest body orelse : List Stmt} {test : Expr} {pos : Pos} {Q : Flow → Shared → Prop} {E : Value → Shared → Prop} {s : Shared} {n₀ : Nat}
theorem execsT (hn : n₀ ≤ s.toks) (h : wpAny M A (exec st env) (fun f s' => n₀ ≤ s'.toks → (match f with | .next => wpAny M A (execs rest env) Q E s' | f => Q f s')) E s) : wpAny M A (execs (st :: rest) env) Q E s :=
  wpAny_execs_cons (wpAny_with_toks hn (wpAny_mono h (fun _ _ q => q) fun _ _ q _ => q))
theorem ifT (hn : n₀ ≤ s.toks) (h : wpAny M A (isTrue test env (eval test env)) (fun b s₂ => n₀ ≤ s₂.toks → if b then wpAny M A (execs body env) Q E s₂ else wpAny M A (execs orelse env) Q E s₂) E s) : wpAny M A (exec (.If test body orelse pos) env) Q E s :=
  wpAny_If (wpAny_with_toks hn (wpAny_mono h (fun _ _ q => q) fun _ _ q _ => q))
end
inductive CutV (h₀ : Heap) (L : Addr) (m : Str → Option Value) (led : List (Addr × Obj)) (s : Shared) (x : Str) (R : Tok → Value) (s' : Shared) : Prop
  | mk (t : Tok) (h' : Heap) (tk : Nat) (htk : 1 ≤ tk) (e : s' = { s with heap := h', toks := tk }) (F : Fr h₀ L h' (fun y => if y = x then some (R t) else m y)) (N : News h₀ L h' led) : CutV h₀ L m led s x R s'
theorem cutV_intro {h₀ h' : Heap} {L : Addr} {m : Str → Option Value} {led big : List (Addr × Obj)} {s : Shared} {x : Str} {R : Tok → Value} {v : Value} {t : Tok} {tk : Nat} (htk : 1 ≤ tk) (F : Fr h₀ L h' (fun y => if y = x then some v else m y)) (N : News h₀ L h' big)
    (e : R t = v) (hs : ∀ p ∈ led, p ∈ big) : CutV h₀ L m led s x R { s with heap := h', toks := tk } := by
  subst e
  exact ⟨t, h', tk, htk, rfl, F, fun p hp => N p (hs p hp)⟩
section
variable {M : Model} {A : Around} {env : Env} {st : Stmt} {rest : List Stmt} {Q : Flow → Shared → Prop} {E : Value → Shared → Prop} {s : Shared} {h₀ : Heap} {L : Addr} {m : Str → Option Value} {led : List (Addr × Obj)}
/-- a statement that stores one name: what it stores is said, its ways meet -/
theorem cutAt (x : Str) (R : Tok → Value) (F0 : Fr h₀ L s.heap m) (N0 : News h₀ L s.heap led) (hn : 1 ≤ s.toks)
    (h1 : wpAny M A (exec st env) (fun f s' => 1 ≤ s'.toks → f = .next ∧ CutV h₀ L m led s x R s') E s)
    (h2 : ∀ t h' tk, 1 ≤ tk → Fr h₀ L h' (fun y => if y = x then some (R t) else m y) → News h₀ L h' led → wpAny M A (execs rest env) Q E { s with heap := h', toks := tk }) : wpAny M A (execs (st :: rest) env) Q E s := by
  refine execsT hn (wpAny_mono h1 (fun f s' q htk => ?_) fun _ _ e => e)
  obtain ⟨rfl, t, h', tk, htk', rfl, F', N'⟩ := q htk
  exact h2 t h' tk htk' F' N'
end
theorem memT1 {p q : Addr × Obj} {l : List (Addr × Obj)} (h : p ∈ l) : p ∈ q :: l := .tail _ h
theorem memT2 {p a b : Addr × Obj} {l : List (Addr × Obj)} (h : p ∈ l) : p ∈ a :: b :: l := .tail _ (.tail _ h)
theorem memT3 {p a b c : Addr × Obj} {l : List (Addr × Obj)} (h : p ∈ l) : p ∈ a :: b :: c :: l := .tail _ (.tail _ (.tail _ h))
theorem memT4 {p a b c d : Addr × Obj} {l : List (Addr × Obj)} (h : p ∈ l) : p ∈ a :: b :: c :: d :: l := .tail _ (.tail _ (.tail _ (.tail _ h)))
theorem strValues_snoc (l : List (Str × Tok)) (g : Str) (t : Tok) : strValues (l ++ [(g, t)]) = strValues l ++ [.str g t] := by simp [strValues]
section
variable {prog : Program} {w : World} {A : Around} {h₀ : Heap} {L : Addr} {m : Str → Option Value} {env : Env} {elt : Expr} {x : Str} {scope : Scope} {cl : List (Str × Addr)} {s : Shared} {S : List (Addr × Obj) → Prop} {P : Nat → Value → Prop} {Fin : List Value → List (Addr × Obj) → Prop} {news : List (Addr × Obj)}
/-- a comprehension whose i-th element is the i-th text of a list that is said -/
theorem compStrs {n : Nat} {gs : List Str} (hn : gs.length = n)
    (turn : ∀ i v (g : Str) I oI C oC D m₂ ys h tk (E' : Value → Shared → Prop), P i v → gs[i]? = some g → LCg.NsObj oC m₂ → m₂ x = some v → Fr h₀ L h m → News h₀ L h ((I, oI) :: (C, oC) :: (D, LCg.lst ys) :: news) → LCg.Off3 I C D news → ((@Ne Nat I C) ∧ (@Ne Nat I D) ∧ (@Ne Nat C D)) →
      wpAny (model prog w) A (eval elt (compEnvC scope cl C env)) (LCg.CompEnd h₀ L m { s with heap := h, toks := tk } I oI C oC D (LCg.lst ys) S (fun y news' => news' = news ∧ ∃ t, y = .str g t)) E' { s with heap := h, toks := tk })
    (fin : ∀ l : List (Str × Tok), l.map (·.1) = gs → Fin (strValues l) news) : LCg.CompRest prog w A h₀ L m env elt x scope cl s S P Fin n 0 [] news := by
  have key : ∀ (j i : Nat) (l : List (Str × Tok)), i + j = n → l.map (·.1) = gs.take i → LCg.CompRest prog w A h₀ L m env elt x scope cl s S P Fin j i (strValues l) news := by
    intro j
    induction j with
    | zero =>
      intro i l hi hl
      rw [List.take_of_length_le (i := i) (Nat.le_of_eq (hn.trans hi.symm))] at hl
      exact LCg.CompRest.zero (fin l hl)
    | succ j ih =>
      intro i l hi hl
      refine LCg.CompRest.succ ?_
      intro v I oI C oC D m₂ h tk E' hv hC hx F N off ne
      have hin : i < gs.length := by rw [hn, ← hi]; exact Nat.lt_add_of_pos_right (Nat.succ_pos j)
      have hg : gs[i]? = some (gs[i]'hin) := List.getElem?_eq_getElem hin
      refine wpAny_mono (turn i v _ I oI C oC D m₂ (strValues l) h tk E' hv hg hC hx F N off ne) (fun y s₂ hq => ?_) fun _ _ e => e
      obtain ⟨h', tk', nw, e, F', N', off', hS, hnn, t', hy'⟩ := hq
      subst hnn hy'
      refine ⟨h', tk', nw, e, F', N', off', hS, ?_⟩
      have q := ih (i + 1) (l ++ [(_, t')]) (by rw [← hi, Nat.add_assoc, Nat.add_comm 1 j]) (by rw [List.map_append, hl, List.take_add_one, hg]; rfl)
      rw [strValues_snoc] at q
      exact q
  exact key n 0 [] (Nat.zero_add n) rfl
end
section
variable {prog : Program} {w : World} {A : Around} {E : Value → Shared → Prop} {s : Shared} {env : Env} {h₀ : Heap} {x : Str} {body : List Stmt} {Q : Flow → Shared → Prop}
inductive DebtEnd (h₀ : Heap) (L : Addr) (x xd xk : Str) (m₀ : Str → Option Value) (rest own : List (Addr × Obj)) (r : Int × List Str) (s₁ s₂ : Shared) : Prop
  | mk (h' : Heap) (tk : Nat) (K : Addr) (d : Int) (td : Tok) (ks : List (Str × Tok)) (n : Nat) (u : Option Value) (e : s₂ = { s₁ with heap := h', toks := tk }) (F : Fr h₀ L h' (fun y => if y = x then u else if y = xk then some (.ref K) else if y = xd then some (.int d td) else m₀ y))
    (N : News h₀ L h' ((K, listOf (strValues ks).toArray n) :: (rest ++ own))) (ho : ∀ p ∈ own, p.1 ≠ K) (hr : (d, ks.map (·.1)) = r) : DebtEnd h₀ L x xd xk m₀ rest own r s₁ s₂
/-- what holds between the turns -/
inductive DInv (x xk xd : Str) (m₀ : Str → Option Value) (rest : List (Addr × Obj)) (r : Int × List Str) (m : Str → Option Value) (nx : List (Addr × Obj)) : Prop
  | mk (d : Int) (td : Tok) (K : Addr) (ks : List (Str × Tok)) (n : Nat) (e : nx = (K, listOf (strValues ks).toArray n) :: rest) (hr : (d, ks.map (·.1)) = r) (hm : ∀ z, z ≠ x → m z = if z = xk then some (.ref K) else if z = xd then some (.int d td) else m₀ z) : DInv x xk xd m₀ rest r m nx
noncomputable def DebtPost (h₀ : Heap) (L : Addr) (x xd xk : Str) (m₀ : Str → Option Value) (rest own : List (Addr × Obj)) (r : Int × List Str) (s₁ : Shared) (Q : Flow → Shared → Prop) (f : Flow) (s₂ : Shared) : Prop :=
  match f with
  | .ret v => Q (.ret v) s₂
  | .brk => Q .next s₂
  | _ => DebtEnd h₀ L x xd xk m₀ rest own r s₁ s₂
/-- a loop over a list of texts of the ledger that turns an int and rebinds a list of texts -/
theorem iterDebt {l K₀ : Addr} {xs ks₀ : List (Str × Tok)} {nn n₀ : Nat} {d₀ : Int} {t₀ : Tok} {xd xk : Str} {m₀ : Str → Option Value} {rest : List (Addr × Obj)} (B : Int × List Str → Prop) (step : Int × List Str → Str → Int × List Str)
    (hh : A.handled = none) (hl : (l, listOf (strValues xs).toArray nn) ∈ rest)
    (F : Fr h₀ env.locals s.heap (fun y => if y = xk then some (.ref K₀) else if y = xd then some (.int d₀ t₀) else m₀ y)) (N : News h₀ env.locals s.heap ((K₀, listOf (strValues ks₀).toArray n₀) :: rest)) (hx : x ≠ xd ∧ x ≠ xk) (htok : 1 ≤ s.toks)
    (turn : ∀ i (d : Int) td K (ks : List (Str × Tok)) n a t h tk own (u : Option Value), 1 ≤ tk → (xs.map (·.1))[i]? = some a → (d, ks.map (·.1)) = ((xs.map (·.1)).take i).foldl step (d₀, ks₀.map (·.1)) →
      Fr h₀ env.locals h (fun y => if y = x then some (.str a t) else if y = xk then some (.ref K) else if y = xd then some (.int d td) else m₀ y) →
      News h₀ env.locals h ((K, listOf (strValues ks).toArray n) :: (rest ++ own)) → (∀ p ∈ own, p.1 ≠ K) →
      wpAny (model prog w) A (execs body env) (DebtPost h₀ env.locals x xd xk m₀ rest own (step (d, ks.map (·.1)) a) { s with heap := h, toks := tk } Q) E { s with heap := h, toks := tk })
    (done : ∀ (d : Int) td K (ks : List (Str × Tok)) n h tk (u : Option Value), 1 ≤ tk → (d, ks.map (·.1)) = (xs.map (·.1)).foldl step (d₀, ks₀.map (·.1)) →
      Fr h₀ env.locals h (fun y => if y = x then u else if y = xk then some (.ref K) else if y = xd then some (.int d td) else m₀ y) → News h₀ env.locals h ((K, listOf (strValues ks).toArray n) :: rest) → Q .next { s with heap := h, toks := tk }) :
    wpAny (model prog w) A (pyIter (.ref l)) (fun it s₂ => LoopAtT prog w A 1 h₀ env x body Q E it s₂) E s := by
  have hol : s.heap.get? l = some (listOf (strValues xs).toArray nn) := (N _ (.tail _ hl)).1
  have hls : s.heap.IsList l (strValues xs).toArray := ⟨_, hol, rfl, nn, rfl⟩
  have hne : l ≠ s.heap.objs.size := Nat.ne_of_lt (Heap.lt_size hol)
  have hIn : ∀ q ∈ (K₀, listOf (strValues ks₀).toArray n₀) :: rest, q.1 ≠ s.heap.objs.size := fun q hq => Nat.ne_of_lt (Heap.lt_size (N q hq).1)
  have hIr : ∀ q ∈ rest, q.1 ≠ s.heap.objs.size := fun q hq => hIn q (.tail _ hq)
  refine wpAny_pyIter_list hls ?_
  have W := Walks.list (prog := prog) (w := w) hh s.heap.objs.size l hne (strValues xs).toArray
  have hlen : (strValues xs).length = (xs.map (·.1)).length := by simp [strValues]
  rw [show (strValues xs).toArray.size = (xs.map (·.1)).length by rw [List.size_toArray, hlen]] at W
  refine ⟨_, _, _, _, _, _, _, _, (fun i => DInv x xk xd m₀ rest (((xs.map (·.1)).take i).foldl step (d₀, ks₀.map (·.1)))), rfl, htok, W, ?_, ?_, ?_, ⟨⟨_, Heap.get?_push_size _ rfl, rfl, rfl⟩, hls.at fun o e => Heap.get?_push_of_some _ e⟩, F.push _, (fun p hp => ⟨Heap.get?_push_of_some _ (N p hp).1, (N p hp).2⟩),
      ⟨d₀, t₀, K₀, ks₀, n₀, rfl, by simp, fun z _ => rfl⟩, ?_, ?_⟩
  · intro hm
    rcases List.mem_cons.mp hm with e | hm
    · exact absurd F.ns.lt (e ▸ Nat.lt_irrefl _)
    · exact (N _ (.tail _ hl)).2.1 ((List.mem_singleton.mp hm).symm)
  · intro b hb
    rw [List.mem_singleton.mp hb]
    exact next_is_new F
  · exact fun p hp hI => hIn p hp (List.mem_singleton.mp hI)
  · rintro i v m₁ news₁ hh' tk' own htk1 hin hP ⟨d, td, K, ks, n, rfl, hst, hm⟩ hoff hown hget hfp hstt F₁ N₁
    let own' := own.filter fun p => decide (p.1 = s.heap.objs.size)
    have hv : (strValues xs)[i]? = some v := by simpa using hP
    simp only [strValues, List.getElem?_map] at hv
    cases hxi : xs[i]? with
    | none => rw [hxi] at hv; cases hv
    | some p =>
      rw [hxi] at hv
      cases hv
      have hxm : (xs.map (·.1))[i]? = some p.1 := by rw [List.getElem?_map, hxi]; rfl
      have hKI : K ≠ s.heap.objs.size := fun e => hoff (K, listOf (strValues ks).toArray n) (.head _) (List.mem_singleton.mpr e)
      have em : (fun y => if y = x then some (Value.str p.1 p.2) else m₁ y) = fun y => if y = x then some (Value.str p.1 p.2) else if y = xk then some (.ref K) else if y = xd then some (.int d td) else m₀ y := by
        funext y
        by_cases hy : y = x
        · rw [if_pos hy, if_pos hy]
        · rw [if_neg hy, if_neg hy]; exact hm y hy
      rw [em] at F₁
      have N₂ : News h₀ env.locals hh' ((K, listOf (strValues ks).toArray n) :: (rest ++ own')) := fun q hq => N₁ q (by
        rcases List.mem_cons.mp hq with rfl | hq
        · exact List.mem_append.mpr (.inr (.head _))
        · rcases List.mem_append.mp hq with h | h
          · exact List.mem_append.mpr (.inr (.tail _ h))
          · exact List.mem_append.mpr (.inl (List.mem_filter.mp h).1))
      have hoK : ∀ q ∈ own', q.1 ≠ K := fun q hq e => hKI (by
        have h1 : q.1 = s.heap.objs.size := by simpa [own'] using (List.mem_filter.mp hq).2
        rw [← e, h1])
      have hlo : hh'.get? l = some (listOf (strValues xs).toArray nn) := (N₁ _ (List.mem_append.mpr (.inr (.tail _ hl)))).1
      refine wpAny_mono (turn i d td K ks n p.1 p.2 hh' tk' own' none htk1 hxm hst F₁ N₂ hoK) (fun f s₂ q => ?_) fun _ _ e => e
      have hsome : ∃ oI, (s.heap.objs.size, oI) ∈ own := by
        have e1 := W.sub s.heap.objs.size (by simp)
        obtain ⟨oI, hoI⟩ : ∃ oI, hh'.get? s.heap.objs.size = some oI := by
          obtain ⟨⟨o, ho, _⟩, _⟩ := hstt
          exact ⟨o, ho⟩
        refine ⟨oI, hfp _ e1 (next_is_new F) oI hoI⟩
      have fin : DebtEnd h₀ env.locals x xd xk m₀ rest own' (step (d, ks.map (·.1)) p.1) { s with heap := hh', toks := tk' } s₂ →
          LoopStepU h₀ env.locals [s.heap.objs.size] own (DInv x xk xd m₀ rest (((xs.map (·.1)).take (i + 1)).foldl step (d₀, ks₀.map (·.1)))) { s with heap := hh', toks := tk' } .next s₂ := by
        rintro ⟨h', tk, K', d', td', ks', n', u, e, F', N', hoK', hr⟩
        obtain ⟨oI, hoI⟩ := hsome
        refine ⟨rfl, h', tk, _, (K', listOf (strValues ks').toArray n') :: rest, e, F', fun q hq => ?_, fun q hq => ?_, d', td', K', ks', n', rfl, ?_, fun z hz => by show (if z = x then u else _) = _; rw [if_neg hz]⟩
        · rcases List.mem_append.mp hq with h | h
          · by_cases hI : q.1 = s.heap.objs.size
            · exact N' q (.tail _ (List.mem_append_right _ (List.mem_filter.mpr ⟨h, by simpa using hI⟩)))
            · have h1 : q.1 = l := by
                rcases List.mem_cons.mp (hown q h) with h2 | h2
                · exact absurd h2 hI
                · exact List.mem_singleton.mp h2
              have h2 : hh'.get? q.1 = some q.2 := hget q h
              rw [h1, hlo] at h2
              rw [show q = (l, listOf (strValues xs).toArray nn) from Prod.ext h1 (Option.some.inj h2).symm]
              exact N' _ (.tail _ (List.mem_append_left _ hl))
          · rcases List.mem_cons.mp h with rfl | h
            · exact N' _ (.head _)
            · exact N' q (.tail _ (List.mem_append_left _ h))
        · intro hI
          rcases List.mem_cons.mp hq with rfl | hq
          · exact hoK' _ (List.mem_filter.mpr ⟨hoI, by simp⟩) (List.mem_singleton.mp hI).symm
          · exact hIr q hq (List.mem_singleton.mp hI)
        · rw [hr, List.take_add_one, hxm, List.foldl_append, ← hst]; rfl
      cases f with
      | ret v => exact .ret q
      | brk => exact .brk q
      | next => exact .next (fin q)
      | cont => exact .cont (fin q)
  · rintro h' tk m' news' htk1 F' N' _ ⟨d, td, K, ks, n, rfl, hst, hm⟩
    rw [List.take_length] at hst
    refine done d td K ks n h' tk (m' x) htk1 hst ?_ N'
    have em : (fun y => if y = x then m' x else if y = xk then some (.ref K) else if y = xd then some (.int d td) else m₀ y) = m' := by
      funext y
      by_cases hy : y = x
      · rw [if_pos hy, hy]
      · rw [if_neg hy]; exact (hm y hy).symm
    rw [em]; exact F'
end
theorem foldDebt_wt {step : Int × List Str → Str → Int × List Str} (hst : ∀ r a, wt (step r a).2 ≤ wt r.2 + wt [a]) : ∀ (l : List Str) (r : Int × List Str), wt (l.foldl step r).2 ≤ wt r.2 + wt l
  | [], r => Nat.le_add_right _ _
  | a :: l, r => by
    have h1 := foldDebt_wt hst l (step r a)
    have h2 := hst r a
    have h3 : wt (a :: l) = wt [a] + wt l := by rw [← wt_append]; rfl
    rw [List.foldl_cons, h3, ← Nat.add_assoc]; exact Nat.le_trans h1 (Nat.add_le_add_right h2 _)
theorem wt_take (l : List Str) (i : Nat) : wt (l.take i) ≤ wt l := by
  conv => rhs; rw [← List.take_append_drop i l, wt_append]
  omega
section
variable {prog : Program} {w : World} {A : Around} {E : Value → Shared → Prop} {s : Shared} {env : Env} {h₀ : Heap} {x : Str} {body : List Stmt} {Q : Flow → Shared → Prop}
theorem iterDebt2 {l K₀ L : Addr} {xs : List (Str × Tok)} {nn n₀ KK : Nat} {d₀ : Int} {t₀ : Tok} {xd xk : Str} {m₀ : Str → Option Value} {rest : List (Addr × Obj)} (step : Int × List Str → Str → Int × List Str) (hst : ∀ r a, wt (step r a).2 ≤ wt r.2 + wt [a])
    (hh : A.handled = none) (hl : (l, listOf (strValues xs).toArray nn) ∈ rest) (hK : wt (xs.map (·.1)) ≤ KK)
    (F : Fr h₀ L s.heap (fun y => if y = xk then some (.ref K₀) else if y = xd then some (.int d₀ t₀) else m₀ y)) (N : News h₀ L s.heap ((K₀, listOf #[] n₀) :: rest)) (hx : x ≠ xd ∧ x ≠ xk) (htok : 1 ≤ s.toks) (hL : env.locals = L)
    (turn : ∀ (rest : List (Addr × Obj)) (d : Int) td K (ks : List (Str × Tok)) n a t h tk own, 1 ≤ tk → a.length ≤ KK → wt (ks.map (·.1)) ≤ KK →
      Fr h₀ L h (fun y => if y = x then some (.str a t) else if y = xk then some (.ref K) else if y = xd then some (.int d td) else m₀ y) →
      News h₀ L h ((K, listOf (strValues ks).toArray n) :: (rest ++ own)) → (∀ p ∈ own, p.1 ≠ K) →
      wpAny (model prog w) A (execs body env) (DebtPost h₀ L x xd xk m₀ rest own (step (d, ks.map (·.1)) a) { s with heap := h, toks := tk } Q) E { s with heap := h, toks := tk })
    (done : ∀ (d : Int) td K (ks : List (Str × Tok)) n h tk (u : Option Value), 1 ≤ tk → (d, ks.map (·.1)) = (xs.map (·.1)).foldl step (d₀, []) → wt (ks.map (·.1)) ≤ KK →
      Fr h₀ L h (fun y => if y = x then u else if y = xk then some (.ref K) else if y = xd then some (.int d td) else m₀ y) → News h₀ L h ((K, listOf (strValues ks).toArray n) :: rest) → Q .next { s with heap := h, toks := tk }) :
    wpAny (model prog w) A (pyIter (.ref l)) (fun it s₂ => LoopAtT prog w A 1 h₀ env x body Q E it s₂) E s := by
  subst hL
  have h0 : wt (([] : List (Str × Tok)).map (·.1)) = 0 := rfl
  have bnd : ∀ (k : Nat) (d : Int) (ks : List (Str × Tok)), (d, ks.map (·.1)) = ((xs.map (·.1)).take k).foldl step (d₀, ([] : List (Str × Tok)).map (·.1)) → wt (ks.map (·.1)) ≤ KK := by
    intro k d ks e
    have h1 := foldDebt_wt hst ((xs.map (·.1)).take k) (d₀, ([] : List (Str × Tok)).map (·.1))
    rw [← e] at h1
    have h2 := wt_take (xs.map (·.1)) k
    have h3 : wt (d₀, ([] : List (Str × Tok)).map (·.1)).2 = 0 := rfl
    rw [h3, Nat.zero_add] at h1
    exact Nat.le_trans h1 (Nat.le_trans h2 hK)
  refine iterDebt (ks₀ := []) (fun _ => True) step hh hl F N hx htok (fun i d td K ks n a t h tk own u htk ha he F' N' ho => ?_) fun d td K ks n h tk u htk he F' N' => ?_
  · exact turn rest d td K ks n a t h tk own htk (Nat.le_trans (wt_mem _ (List.mem_of_getElem? ha)) hK) (bnd i d ks he) F' N' ho
  · refine done d td K ks n h tk u htk he ?_ F' N'
    have := bnd (xs.map (·.1)).length d ks (by rw [List.take_length]; exact he)
    exact this
end
theorem debtEnd {h₀ h' : Heap} {L K : Addr} {x xd xk : Str} {m' m₀ : Str → Option Value} {rest own : List (Addr × Obj)} {r : Int × List Str} {d : Int} {td : Tok} {its : Array Value} {n tk : Nat} {s₁ : Shared} (ks : List (Str × Tok))
    (F : Fr h₀ L h' m') (N : News h₀ L h' ((K, listOf its n) :: (rest ++ own))) (e : its = (strValues ks).toArray) (ho : ∀ p ∈ own, p.1 ≠ K) (hk : m' xk = some (.ref K)) (hd : m' xd = some (.int d td)) (hm : ∀ z, z ≠ x → z ≠ xk → z ≠ xd → m' z = m₀ z)
    (hx : x ≠ xd ∧ x ≠ xk) (hr : (d, ks.map (·.1)) = r) : DebtEnd h₀ L x xd xk m₀ rest own r s₁ { s₁ with heap := h', toks := tk } := by
  subst e
  refine ⟨h', tk, K, d, td, ks, n, m' x, rfl, ?_, N, ho, hr⟩
  have em : (fun y => if y = x then m' x else if y = xk then some (.ref K) else if y = xd then some (.int d td) else m₀ y) = m' := by
    funext y
    by_cases h1 : y = x
    · rw [if_pos h1, h1]
    · rw [if_neg h1]
      by_cases h2 : y = xk
      · rw [if_pos h2, h2, hk]
      · rw [if_neg h2]
        by_cases h3 : y = xd
        · rw [if_pos h3, h3, hd]
        · rw [if_neg h3]; exact (hm y h1 h2 h3).symm
  rw [em]; exact F
section
variable {prog : Program} {w : World} {A : Around} {E : Value → Shared → Prop} {s : Shared} {h₀ : Heap} {L l b : Addr} {m : Str → Option Value} {news : List (Addr × Obj)}
noncomputable abbrev lsO (its : Array Value) (n : Nat) : Obj := { cls := .type "list", data := .seq its n }
theorem addL {vs ws : List Value} {n n2 : Nat} {Q : Value → Shared → Prop} (F : Fr h₀ L s.heap m) (N : News h₀ L s.heap news) (m1 : (l, lsO vs.toArray n) ∈ news) (m2 : (b, lsO ws.toArray n2) ∈ news) (hsz : vs.length + ws.length ≤ 1000000)
    (h : ∀ D h', Fr h₀ L h' m → News h₀ L h' ((D, listOf (vs ++ ws).toArray 0) :: news) → (∀ p ∈ news, p.1 < D) → Q (.ref D) { s with heap := h' }) :
    wpAny (model prog w) A (binaryOp .Add (.ref l) (.ref b)) Q E s :=
  add_lists F N ⟨_, (N _ m1).1, rfl, n, rfl⟩ ⟨_, (N _ m2).1, rfl, n2, rfl⟩ (fun h' F' N' => h _ h' F' N' fun p hp => Heap.lt_size (N p hp).1) (by rw [sizeLine_eq]; omega)
theorem joinVals {sep : Str} {t : Tok} {vs : List Value} {acc : List (Str × Tok)} {n : Nat} {Q : Value → Shared → Prop}
    (N : News h₀ L s.heap news) (hm : (l, lsO vs.toArray n) ∈ news) (e : vs = strValues acc) (hw : wt (acc.map (·.1)) ≤ 200000) (hs : sep.length ≤ 4)
    (h : ∀ t' k, (Txt.join sep (acc.map (·.1))).length ≤ 800004 → Q (.str (Txt.join sep (acc.map (·.1))) t') { s with toks := k }) : wpAny (model prog w) A (call (.builtin "str.join") [.str sep t, .ref l]) Q E s := by
  subst e; exact joinAcc N hm hw hs h
theorem wt_replicate (n : Nat) (x : Str) : wt (List.replicate n x) = n * (x.length + 1) := by
  induction n with
  | zero => simp [wt]
  | succ n ih =>
    rw [List.replicate_succ, wt_cons, ih]
    exact (Nat.add_comm _ _).trans (Nat.succ_mul _ _).symm
theorem joinRep {sep x : Str} {t tx : Tok} {d : Int} {ks : List (Str × Tok)} {n : Nat} {Q : Value → Shared → Prop}
    (N : News h₀ L s.heap news) (hm : (l, lsO ((List.replicate d.toNat #[Value.str x tx].toList).flatten ++ strValues ks).toArray n) ∈ news) (hd : d ≤ 7000) (hx : x.length ≤ 2) (hw : wt (ks.map (·.1)) ≤ 7000) (hs : sep.length ≤ 4)
    (h : ∀ t' k, (Txt.join sep (List.replicate d.toNat x ++ ks.map (·.1))).length ≤ 800004 → Q (.str (Txt.join sep (List.replicate d.toNat x ++ ks.map (·.1))) t') { s with toks := k }) : wpAny (model prog w) A (call (.builtin "str.join") [.str sep t, .ref l]) Q E s := by
  have e1 : (List.replicate d.toNat (x, tx) ++ ks).map (·.1) = List.replicate d.toNat x ++ ks.map (·.1) := by simp
  refine joinVals (acc := List.replicate d.toNat (x, tx) ++ ks) N hm (by simp [strValues]) ?_ hs (by rw [e1]; exact h)
  rw [e1, wt_append, wt_replicate]
  exact Nat.le_trans (Nat.add_le_add (Nat.mul_le_mul (Int.toNat_le.mpr hd) (Nat.succ_le_succ hx)) hw) (by decide)
theorem joinNil {sep : Str} {t : Tok} {ks : List (Str × Tok)} {n : Nat} {Q : Value → Shared → Prop}
    (N : News h₀ L s.heap news) (hm : (l, lsO ([] ++ strValues ks).toArray n) ∈ news) (hw : wt (ks.map (·.1)) ≤ 7000) (hs : sep.length ≤ 4)
    (h : ∀ t' k, (Txt.join sep (ks.map (·.1))).length ≤ 800004 → Q (.str (Txt.join sep (ks.map (·.1))) t') { s with toks := k }) : wpAny (model prog w) A (call (.builtin "str.join") [.str sep t, .ref l]) Q E s :=
  joinVals N hm rfl (by omega) hs h
end
theorem valsLen {l : List (Str × Tok)} {k : Nat} (h : wt (l.map (·.1)) ≤ k) : (strValues l).length ≤ k := by
  simp [strValues]; simp [wt] at h; omega
theorem map_free (c d : Nat) : ∀ l : List Nat, c ∉ l → l.map (fun k => if k = c then d else k) = l
  | [], _ => rfl
  | k :: r, h => by
    have h1 : ¬ k = c := fun e => h (e ▸ List.mem_cons_self ..)
    rw [List.map_cons, map_free c d r (fun m => h (List.mem_cons_of_mem _ m)), if_neg h1]
theorem map_join (c d : Nat) : ∀ parts : List Str, (∀ p ∈ parts, c ∉ p.cps.toList) → (Str.join ⟨#[c]⟩ parts).cps.toList.map (fun k => if k = c then d else k) = (Str.join ⟨#[d]⟩ parts).cps.toList
  | [], _ => rfl
  | [p], h => map_free c d _ (h p (List.mem_singleton.mpr rfl))
  | p :: q :: r, h => by
    have ih := map_join c d (q :: r) fun a ha => h a (List.mem_cons_of_mem _ ha)
    show (p ++ ⟨#[c]⟩ ++ Str.join ⟨#[c]⟩ (q :: r)).cps.toList.map _ = (p ++ ⟨#[d]⟩ ++ Str.join ⟨#[d]⟩ (q :: r)).cps.toList
    simp only [Str.cps_append, Array.toList_append, List.map_append]
    rw [ih, map_free c d _ (h p (List.mem_cons_self ..))]
    show _ ++ (if c = c then d else c) :: [] ++ _ = _ ++ [d] ++ _
    rw [if_pos rfl]
theorem replace_map (x : Str) (c d : Nat) : (Txt.replace x ⟨#[c]⟩ ⟨#[d]⟩).cps.toList = x.cps.toList.map (fun k => if k = c then d else k) := by
  rw [StrLaws.replace_one, ← map_join c d _ (StrLaws.split_free x c), StrLaws.join_split]
theorem replace_len (x : Str) (c d : Nat) : (Txt.replace x ⟨#[c]⟩ ⟨#[d]⟩).length = x.length := by
  have h := congrArg List.length (replace_map x c d)
  rw [List.length_map] at h
  exact h
noncomputable def debtStep (r : Int × List Str) (a : Str) : Int × List Str :=
  if (a == Str.ofString "..") = true then (r.1 + 1, r.2)
  else if (a != Str.ofString ".") = true ∧ 0 < r.1 then (r.1 - 1, r.2)
  else if (a != Str.ofString ".") = true then (r.1, Txt.replace a (Str.ofString "/") (Str.ofString " ") :: r.2)
  else r
theorem debtStep_wt (r : Int × List Str) (a : Str) : wt (debtStep r a).2 ≤ wt r.2 + wt [a] := by
  unfold debtStep
  split
  · exact Nat.le_add_right _ _
  · split
    · exact Nat.le_add_right _ _
    · split
      · rw [wt_cons, wt_cons]
        have := replace_len a 47 32
        show (Txt.replace a ⟨#[47]⟩ ⟨#[32]⟩).length + 1 + _ ≤ _
        rw [this]; have : wt [] = 0 := rfl
        omega
      · exact Nat.le_add_right _ _
noncomputable abbrev titleF (a : Str) : Str := Txt.upper (Txt.slice a none (some 1)) ++ Txt.lower (Txt.slice a (some 1) none)
theorem title_len (a : Str) : (titleF a).length ≤ 6 * a.length := by
  have h1 := len_upper (Txt.slice a none (some 1))
  have h2 := len_lower (Txt.slice a (some 1) none)
  have h3 : (Txt.slice a none (some 1)).length ≤ a.length := PyProof.Txt.length_slice_le _ _ _
  have h4 : (Txt.slice a (some 1) none).length ≤ a.length := PyProof.Txt.length_slice_le _ _ _
  show (Txt.upper _ ++ Txt.lower _).length ≤ _
  rw [Str.length_append]
  exact Nat.le_trans (Nat.add_le_add (Nat.le_trans h1 (Nat.mul_le_mul_left 3 h3)) (Nat.le_trans h2 (Nat.mul_le_mul_left 3 h4))) (Nat.le_of_eq (Nat.add_mul 3 3 a.length).symm)
theorem title_wt : ∀ l : List Str, wt (l.map titleF) ≤ 6 * wt l
  | [] => Nat.le_refl _
  | a :: l => by
    have := title_len a
    have ih := title_wt l
    rw [List.map_cons, wt_cons, wt_cons, Nat.mul_add, Nat.mul_add]
    exact Nat.add_le_add (Nat.add_le_add this (by decide)) ih
theorem addN {a b n m N : Nat} (ha : a ≤ n) (hb : b ≤ m) (h : n + m ≤ N) : a + b ≤ N := Nat.le_trans (Nat.add_le_add ha hb) h
theorem addC {prog : Program} {w : World} {A : Around} {E : Value → Shared → Prop} {s : Shared} {Q : Value → Shared → Prop} {x y : Str} {n m : Nat} {t u : Tok} (hx : x.length ≤ n) (hy : y.length ≤ m) (hz : n + m ≤ 16777216) (h : ∀ t' k, Q (.str (x ++ y) t') { s with toks := k }) : wpAny (model prog w) A (binaryOp .Add (.str x t) (.str y u)) Q E s :=
  SB.add h (by rw [sizeLine_eq]; exact addN hx hy hz)
theorem lstIn {h₀ h : Heap} {L l : Addr} {its : Array Value} {k : Nat} {news : List (Addr × Obj)} (N : News h₀ L h news) (hm : (l, ({ cls := .type "list", data := .seq its k } : Obj)) ∈ news) : h.IsList l its := ⟨_, (N _ hm).1, rfl, k, rfl⟩
theorem revVals (l : List (Str × Tok)) : (strValues l).toArray.toList.reverse = strValues l.reverse := by simp [strValues]
theorem valsSize {l : List (Str × Tok)} {k : Nat} (h : wt (l.map (·.1)) ≤ k) (hk : k ≤ 1000000) : (strValues l).toArray.size ≤ sizeLine := by
  rw [sizeLine_eq, List.size_toArray]
  unfold strValues
  rw [List.length_map, ← List.length_map (f := (·.1))]
  exact Nat.le_trans (Nat.le_add_left _ _) (Nat.le_trans h (Nat.le_trans hk (by decide)))
theorem frSwap {h₀ h : Heap} {L : Addr} {a b : Str} {va vb : Option Value} {m : Str → Option Value} (F : Fr h₀ L h (fun y => if y = a then va else if y = b then vb else m y)) (ne : a ≠ b) : Fr h₀ L h (fun y => if y = b then vb else if y = a then va else m y) := by
  have e : (fun y => if y = b then vb else if y = a then va else m y) = fun y => if y = a then va else if y = b then vb else m y := by
    funext y
    by_cases h1 : y = a
    · rw [if_pos h1, if_pos h1, if_neg (fun h2 => ne (h1.symm.trans h2))]
    · rw [if_neg h1, if_neg h1]
  rw [e]; exact F
theorem wt_rev (l : List Str) : wt l.reverse = wt l := by simp [wt, List.map_reverse, List.sum_reverse]
theorem dropMid {h₀ h : Heap} {L : Addr} {a b c d : Addr × Obj} {news : List (Addr × Obj)} (N : News h₀ L h (a :: b :: c :: d :: news)) : News h₀ L h (c :: a :: d :: news) := fun z hz => by
  rcases List.mem_cons.mp hz with rfl | hz
  · exact N _ (.tail _ (.tail _ (.head _)))
  rcases List.mem_cons.mp hz with rfl | hz
  · exact N _ (.head _)
  · exact N _ (.tail _ (.tail _ (.tail _ hz)))
theorem debt_bound : ∀ (l : List Str) (r : Int × List Str), 0 ≤ r.1 → 0 ≤ (l.foldl debtStep r).1 ∧ (l.foldl debtStep r).1 ≤ r.1 + wt l
  | [], r, h => ⟨h, by simp [wt]⟩
  | a :: l, r, h => by
    have e := wt_cons a l
    have h1 : 0 ≤ (debtStep r a).1 ∧ (debtStep r a).1 ≤ r.1 + 1 := by
      unfold debtStep
      split
      · exact ⟨Int.add_nonneg h (by decide), Int.le_refl _⟩
      · split
        · rename_i q; exact ⟨Int.le_sub_one_of_lt q.2, Int.le_trans (Int.sub_le_self _ (by decide)) (Int.le_add_of_nonneg_right (by decide))⟩
        · split
          · exact ⟨h, Int.le_add_of_nonneg_right (by decide)⟩
          · exact ⟨h, Int.le_add_of_nonneg_right (by decide)⟩
    have := debt_bound l (debtStep r a) h1.1
    rw [List.foldl_cons]
    refine ⟨this.1, Int.le_trans this.2 (Int.le_trans (Int.add_le_add_right h1.2 _) ?_)⟩
    rw [e, Int.add_assoc]
    exact Int.add_le_add_left (Int.ofNat_le.mpr (Nat.add_le_add_right (Nat.le_add_left 1 a.length) (wt l)) : ((1 + wt l : Nat) : Int) ≤ _) _
section
variable {d : Int} {k : List Str} {a : Str}
theorem debt1 (h : (a == Str.ofString "..") = true) : debtStep (d, k) a = (d + 1, k) := by unfold debtStep; rw [if_pos h]
theorem debt2 (h : (a == Str.ofString "..") = false) (h1 : (a != Str.ofString ".") = true) (h2 : 0 < d) : debtStep (d, k) a = (d - 1, k) := by unfold debtStep; rw [if_neg (by rw [h]; decide), if_pos ⟨h1, h2⟩]
theorem debt3 (h : (a == Str.ofString "..") = false) (h1 : (a != Str.ofString ".") = true) (h2 : ¬ 0 < d) : debtStep (d, k) a = (d, Txt.replace a (Str.ofString "/") (Str.ofString " ") :: k) := by
  unfold debtStep; rw [if_neg (by rw [h]; decide), if_neg (fun q => h2 q.2), if_pos h1]
theorem debt4 (h : (a == Str.ofString "..") = false) (h1 : (a != Str.ofString ".") = false) : debtStep (d, k) a = (d, k) := by
  unfold debtStep; rw [if_neg (by rw [h]; decide), if_neg (fun q => by rw [h1] at q; cases q.1), if_neg (by rw [h1]; decide)]
end
theorem vals_cons (a : Str) (t : Tok) (ks : List (Str × Tok)) : [Value.str a t] ++ strValues ks = strValues ((a, t) :: ks) := rfl
theorem debtEnd3 {h₀ h' : Heap} {L K : Addr} {x xd xk : Str} {m' m₀ : Str → Option Value} {rest own : List (Addr × Obj)} {q1 q2 : Addr × Obj} {r : Int × List Str} {d : Int} {td t' : Tok} {a' : Str} {n tk : Nat} {s₁ : Shared} {ks : List (Str × Tok)}
    (F : Fr h₀ L h' m') (N : News h₀ L h' ((K, listOf ([Value.str a' t'] ++ strValues ks).toArray n) :: q1 :: q2 :: (rest ++ own))) (ho : q1.1 < K ∧ q2.1 < K ∧ AllLt K (rest ++ own)) (hk : m' xk = some (.ref K)) (hd : m' xd = some (.int d td)) (hm : ∀ z, z ≠ x → z ≠ xk → z ≠ xd → m' z = m₀ z)
    (hx : x ≠ xd ∧ x ≠ xk) (hr : (d, a' :: ks.map (·.1)) = r) : DebtEnd h₀ L x xd xk m₀ rest own r s₁ { s₁ with heap := h', toks := tk } :=
  debtEnd ((a', t') :: ks) F (fun z hz => by
    rcases List.mem_cons.mp hz with rfl | hz
    · exact N _ (.head _)
    · exact N _ (.tail _ (.tail _ (.tail _ hz)))) rfl (fun p hp => Nat.ne_of_lt (kst_ltOf ho.2.2 p (List.mem_append_right _ hp))) hk hd hm hx hr
theorem dropTwo {h₀ h : Heap} {L : Addr} {a b c : Addr × Obj} {news : List (Addr × Obj)} (N : News h₀ L h (a :: b :: c :: news)) : News h₀ L h (a :: news) := fun z hz => by
  rcases List.mem_cons.mp hz with rfl | hz
  · exact N _ (.head _)
  · exact N _ (.tail _ (.tail _ (.tail _ hz)))
noncomputable def rootF (f : Int) : Str := if f = 2 then Str.ofString "//" else Txt.slice (Str.ofString "/") none (some f)
noncomputable def plainF (f : Int) (d : Nat) (ks : List Str) : Str := rootF f ++ Txt.join (Str.ofString "/") (if f = 0 then List.replicate d (Str.ofString "..") ++ ks else ks)
noncomputable def cutF (dt : Int) (x : Str) : Int := if 0 < dt then dt else (x.length : Int)
theorem rootLen (f : Int) : (rootF f).length ≤ 2 := by
  unfold rootF
  split
  · decide
  · exact Nat.le_trans (PyProof.Txt.length_slice_le _ _ _) (by decide)
theorem root1 {f : Int} (h : f = 2) : rootF f = Str.ofString "//" := by unfold rootF; rw [if_pos h]
theorem root2 {f : Int} (h : f ≠ 2) : rootF f = Txt.slice (Str.ofString "/") none (some f) := by unfold rootF; rw [if_neg h]
theorem plain1 {f : Int} {d : Nat} {ks : List Str} (h : f = 0) : plainF f d ks = rootF f ++ Txt.join (Str.ofString "/") (List.replicate d (Str.ofString "..") ++ ks) := by unfold plainF; rw [if_pos h]
theorem plain2 {f : Int} {d : Nat} {ks : List Str} (h : f ≠ 0) : plainF f d ks = rootF f ++ Txt.join (Str.ofString "/") ks := by unfold plainF; rw [if_neg h]
theorem cut1 {dt : Int} {x : Str} (h : 0 < dt) : cutF dt x = dt := by unfold cutF; rw [if_pos h]
theorem cut2 {dt : Int} {x : Str} (h : ¬ 0 < dt) : cutF dt x = (x.length : Int) := by unfold cutF; rw [if_neg h]
section
variable {prog : Program} {w : World} {A : Around} {E : Value → Shared → Prop} {s : Shared} {h₀ : Heap} {L l b : Addr} {m : Str → Option Value} {news : List (Addr × Obj)}
theorem addL2 {vs ws : List Value} {n2 : Nat} {Q : Value → Shared → Prop} (F : Fr h₀ L s.heap m) (N : News h₀ L s.heap news) (m1 : s.heap.IsList l vs.toArray) (m2 : (b, lsO ws.toArray n2) ∈ news) (hsz : vs.length + ws.length ≤ 1000000)
    (h : ∀ D h', Fr h₀ L h' m → News h₀ L h' ((D, listOf (vs ++ ws).toArray 0) :: news) → (∀ p ∈ news, p.1 < D) → Q (.ref D) { s with heap := h' }) :
    wpAny (model prog w) A (binaryOp .Add (.ref l) (.ref b)) Q E s :=
  add_lists F N m1 ⟨_, (N _ m2).1, rfl, n2, rfl⟩ (fun h' F' N' => h _ h' F' N' fun p hp => Heap.lt_size (N p hp).1) (by rw [sizeLine_eq]; exact Nat.le_trans hsz (by decide))
end
theorem strE {a b : Str} {u : Tok} (h : a = b) : (fun t => Value.str a t) u = Value.str b u := h ▸ rfl
theorem intE {a b : Int} {u : Tok} (h : a = b) : (fun t => Value.int a t) u = Value.int b u := h ▸ rfl
theorem titleAt {ws : List (Str × Tok)} {i : Nat} {v : Value} {g : Str} (hv : (strValues ws).toArray[i]? = some v) (hg : ((ws.map (·.1)).map titleF)[i]? = some g) : ∃ a t, (a, t) ∈ ws ∧ v = .str a t ∧ g = titleF a := by
  simp [strValues] at hv hg
  obtain ⟨a, t, h1, h2⟩ := hv
  obtain ⟨b, ⟨u, h3⟩, h4⟩ := hg
  rw [h1] at h3
  cases h3
  exact ⟨a, t, List.mem_of_getElem? h1, h2.symm, h4.symm⟩
noncomputable def plainOf (f : Int) (titles : List Str) : Str :=
  if (plainF f (titles.reverse.foldl debtStep (0, [])).1.toNat (titles.reverse.foldl debtStep (0, [])).2 != Str.ofString "") = true then plainF f (titles.reverse.foldl debtStep (0, [])).1.toNat (titles.reverse.foldl debtStep (0, [])).2 else Str.ofString "."
theorem plainP1 {f d : Int} {ks : List (Str × Tok)} {lt : List (Str × Tok)} {ti : List Str} (hlt : lt.map (·.1) = ti) (he : (d, ks.map (·.1)) = (lt.reverse.map (·.1)).foldl debtStep (0, [])) (h : (plainF f d.toNat (ks.map (·.1)) != Str.ofString "") = true) :
    plainF f d.toNat (ks.map (·.1)) = plainOf f ti := by
  subst hlt
  rw [List.map_reverse] at he
  unfold plainOf
  rw [← he, if_pos h]
theorem plainP2 {f d : Int} {ks : List (Str × Tok)} {lt : List (Str × Tok)} {ti : List Str} (hlt : lt.map (·.1) = ti) (he : (d, ks.map (·.1)) = (lt.reverse.map (·.1)).foldl debtStep (0, [])) (h : (plainF f d.toNat (ks.map (·.1)) != Str.ofString "") = false) :
    Str.ofString "." = plainOf f ti := by
  subst hlt
  rw [List.map_reverse] at he
  unfold plainOf
  rw [← he, if_neg (by rw [h]; decide)]
theorem dropDue {h₀ h : Heap} {L : Addr} {a b c d e f g i j : Addr × Obj} {news : List (Addr × Obj)} (N : News h₀ L h (a :: b :: c :: d :: e :: f :: g :: i :: j :: news)) : News h₀ L h (a :: c :: d :: f :: news) := fun z hz => by
  rcases List.mem_cons.mp hz with rfl | hz
  · exact N _ (.head _)
  rcases List.mem_cons.mp hz with rfl | hz
  · exact N _ (.tail _ (.tail _ (.head _)))
  rcases List.mem_cons.mp hz with rfl | hz
  · exact N _ (.tail _ (.tail _ (.tail _ (.head _))))
  rcases List.mem_cons.mp hz with rfl | hz
  · exact N _ (.tail _ (.tail _ (.tail _ (.tail _ (.tail _ (.head _))))))
  · exact N _ (.tail _ (.tail _ (.tail _ (.tail _ (.tail _ (.tail _ (.tail _ (.tail _ (.tail _ hz)))))))))
theorem flatLen {d : Nat} {v : Value} : (List.replicate d #[v].toList).flatten.length = d := by simp
theorem chain3 {x xk xd z : Str} {u a b : Option Value} {m₀ : Str → Option Value} (h1 : z ≠ x) (h2 : z ≠ xk) (h3 : z ≠ xd) : (if z = x then u else if z = xk then a else if z = xd then b else m₀ z) = m₀ z := (if_neg h1).trans ((if_neg h2).trans (if_neg h3))
theorem due_c {w : World} {mean : ExcName → Option Value} {mg mb : Str → Option Value} {dp un : Nat} {gd : Option (List Code)} {cn : Str} {cs : Scope} {a : Addr} {ccd : Value} {cl : List (Str × Addr)} {outer : List Env} {A₀ : Around} {base h₀ : Heap} {L : Addr} {m : Str → Option Value} {news : List (Addr × Obj)} {hp : Heap} {gn : Array GenState} {dr : Drawn} {tq : Nat} {oz : OsState} {x y : Str} {tx ty : Tok} {l : Addr} {ws : List (Str × Tok)} {nw : Nat} {f st dt : Int} {t1 t2 t3 : Tok}
    {Q E : Value → Shared → Prop} (B : Below A₀ base outer h₀) (F : Fr h₀ L hp m) (X : (lawTop.heap_39 w.params).In h₀) (N : News h₀ L hp news) (T : Top lawTop.view_39 (looseW lawTop.view_39 [Str.ofString "ascii_letters", Str.ofString "printable", Str.ofString "capwords"]) mean mg mb h₀) (hk : cs.kind = .function)
    (htok : 1 ≤ tq) (hx : x.length ≤ 1000) (hy : y.length ≤ 1000) (hf : 0 ≤ f ∧ f ≤ 1000) (hst : 0 ≤ st ∧ st ≤ 1000) (hdt : 0 ≤ dt ∧ dt ≤ 1000) (hws : (l, listOf (strValues ws).toArray nw) ∈ news) (hwt : wt (ws.map (·.1)) ≤ 1000) (hdp : dp + 6 < recursionLimit) (hun : un + 60 < cLine)
    (hret : ∀ D T1 T2 T3 (tt pl : Str) u1 u2 u3 v1 v2 w1 w2 z1 z2 z3 h' tk', 1 ≤ tk' → tt = Txt.join (Str.ofString " ") ((ws.map (·.1)).map titleF) → pl = plainOf f ((ws.map (·.1)).map titleF) → Fr h₀ L h' m →
      News h₀ L h' ((D, listOf ([Value.str tt u1, .str x u2, .str pl u3, Value.ref T1] ++ [Value.ref T2, Value.ref T3]).toArray 0) :: (T3, tupO [.str (Str.ofString "") z1, .str (rootF f) z2, .str (Txt.slice x (some ((rootF f).length : Int)) none) z3]) :: (T2, tupO [.str (Txt.slice x none (some (cutF dt x))) w1, .str (Txt.slice x (some (cutF dt x)) none) w2]) :: (T1, tupO [.str y v1, .str (Txt.slice x (some st) none) v2]) :: news) →
      AllLt D news → Q (.ref D) ⟨h', gn, dr, tk', oz⟩) :
    wpAny (model PySem.Challenge.rw_ij0119_01.row.prog w) (ktrTop dp un gd cn cs L a ccd cl outer) (call (.ref 171) [.ref l, .str x tx, .int f t1, .int st t2, .str y ty, .int dt t3]) Q E ⟨hp, gn, dr, tq, oz⟩ := by
  w_top off
  k_with_none
  k_with "eval BinOp" => k_fold
  k_with "eval Call" => k_fold
  k_with "eval Subscript" => k_fold
  k_with "size_fits" => first | exact szT (Nat.le_refl _) (by decide) | exact szT (by with_reducible assumption) (by decide) | exact Nat.le_trans (by with_reducible assumption) (Nat.le_of_ble_eq_true rfl) | exact szAB (by with_reducible assumption) (by with_reducible assumption) (by decide)
  k_with "ite" => (k_here; k_openite; first | (refine ite_pos (by with_reducible assumption) ?_; walk_say "PRUNED") | (refine ite_neg (by with_reducible assumption) ?_; walk_say "PRUNED") | (refine ite_isFalse (by with_reducible assumption) ?_; walk_say "PRUNED") | with_reducible refine ite_tt ?_ | with_reducible refine ite_ff ?_ | (with_reducible refine split_ine ?_ ?_ <;> intro _) | (with_reducible refine split_ieq ?_ ?_ <;> intro _) | with_reducible refine split_not ?_ | (refine split_dec ?_ ?_ <;> intro _) | (refine split_bool ?_ ?_ <;> intro _))
  k_with "storeName" => (k_here; k_dflt (refine' storeX_M ?zzF ?zzN ?_ ?zza ?zzb; (case zzF => k_asm); (case zzN => k_asm); (case zza => rfl); (case zzb => rfl); k_whole); intro zzh zzt zzl zzm zzF zzN; (try k_sweep))
  k_with "eval Constant int" => (k_here; k_dflt (refine constI ?_))
  k_with "eval Constant str" => (k_here; k_dflt (refine constS ?_))
  k_with "spliced" => (k_here; (first | (fail_if_success (fail_if_success (with_reducible show wpAny _ _ (spliced (backTo _ (starEach (PySem.Expr.Name _ _ :: _) (envOf _ _ _ _ _)))) _ _ _))) | (fail_if_success (fail_if_success (with_reducible show wpAny _ _ (spliced (backTo _ (starEach (PySem.Expr.Name _ _ :: _) (envOfC _ _ _ _ _)))) _ _ _)))); first | ((fail_if_success (fail_if_success (with_reducible show wpAny _ _ (spliced (backTo _ (starEach [PySem.Expr.Name _ _] _))) _ _ _))); k_dflt (refine' argName1 ?zzF ?zzv ?_ ?zza ?zzb ?zzd; (case zzF => k_asm); (case zza => rfl); (case zzb => rfl); (case zzv => rfl); (case zzd => decide); k_whole)) | k_dflt (refine' argName ?zzF ?zzv ?_ ?zza ?zzb ?zzd; (case zzF => k_asm); (case zza => rfl); (case zzb => rfl); (case zzv => rfl); (case zzd => decide); k_whole))
  k_with "spliced" => (k_here; (fail_if_success (fail_if_success (with_reducible show wpAny _ _ (spliced (backTo _ (starEach [] _))) _ _ _))); k_dflt (refine args_nil ?_); (try ((with_reducible show wpAny _ _ (call _ (_ ++ _)) _ _ _); dsimp only [List.cons_append, List.nil_append])))
  k_with "callWith" => (k_here; (fail_if_success (fail_if_success (with_reducible show wpAny _ _ (callWith _ (Value.builtin _) [_] (backTo _ (starEach (_ :: _) _)) []) _ _ _))); first | ((first | (fail_if_success (fail_if_success (with_reducible show wpAny _ _ (callWith _ _ _ (backTo _ (starEach [PySem.Expr.Name _ _] (envOf _ _ _ _ _))) _) _ _ _))) | (fail_if_success (fail_if_success (with_reducible show wpAny _ _ (callWith _ _ _ (backTo _ (starEach [PySem.Expr.Name _ _] (envOfC _ _ _ _ _))) _) _ _ _)))); k_dflt (refine' callM1 ?zzF ?zzv ?_ ?zza ?zzb ?zzd; (case zzF => k_asm); (case zza => rfl); (case zzb => rfl); (case zzv => rfl); (case zzd => decide); k_whole)) | k_dflt (refine' callM ?_ ?zze ?zzp; (case zze => rfl); (case zzp => rfl)))
  k_with "callWith" => (k_here; (first | (fail_if_success (fail_if_success (with_reducible show wpAny _ _ (callWith _ (Value.builtin _) [] (backTo _ (starEach [PySem.Expr.Name _ _] (envOf _ _ _ _ _))) []) _ _ _))) | (fail_if_success (fail_if_success (with_reducible show wpAny _ _ (callWith _ (Value.builtin _) [] (backTo _ (starEach [PySem.Expr.Name _ _] (envOfC _ _ _ _ _))) []) _ _ _)))); k_dflt (refine' callB1 ?zzF ?zzv ?_ ?zza ?zzb ?zzd; (case zzF => k_asm); (case zza => rfl); (case zzb => rfl); (case zzv => rfl); (case zzd => decide); k_whole))
  k_with "newTuple" => (k_here; k_dflt (refine' tupM ?zzF ?zzN ?_ ?zzz; (case zzF => k_asm); (case zzN => k_asm); (case zzz => exact szT (Nat.le_of_ble_eq_true rfl : _ ≤ 7) (by decide)); k_whole); intro zzD zzh zzF zzN zzl; (try k_lt zzl); (try k_sweep))
  k_with "newList" => (k_here; k_dflt (refine' listM ?zzF ?zzN ?_ ?zzz; (case zzF => k_asm); (case zzN => k_asm); (case zzz => exact szT (Nat.le_of_ble_eq_true rfl : _ ≤ 7) (by decide)); k_whole); intro zzD zzh zzF zzN zzl; (try k_lt zzl); (try k_sweep))
  k_with "LeaveK" => (k_here; k_dflt (refine' leaveM ?zzF ?zzN ?_; (case zzF => k_asm); (case zzN => k_asm); k_whole); intro zzF zzN; (try k_sweep); (try dsimp only))
  k_with "exec For Name Subscript cons nil" => (k_here; (rename Fr _ _ _ _ => lF'); (with_unfolding_all refine' forT lF' ?zzk1 ?zzk2 ?zzkn ?_ ?zzks ?zzkp; (case zzks => intro _; rfl); (case zzkp => passes_own); (case zzk1 => exact rfl); (case zzk2 => exact rfl); (case zzkn => first | (with_reducible assumption) | exact Nat.le_add_left 1 _ | (show (1 : Nat) ≤ _; (try dsimp only); omega)); k_whole))
  k_with "execs cons" => (k_here; (with_reducible refine' execsT ?zzkn ?_); (case zzkn => first | (with_reducible assumption) | exact Nat.le_add_left 1 _ | (show (1 : Nat) ≤ _; (try dsimp only); omega)); (try dsimp only); (try k_fold))
  k_with "exec If" => (k_here; (with_reducible refine' ifT ?zzkn ?_); (case zzkn => first | (with_reducible assumption) | exact Nat.le_add_left 1 _ | (show (1 : Nat) ≤ _; (try dsimp only); omega)); (try dsimp only); (try k_fold))
  k_with "forall" => (k_here; intro htk9; (try dsimp only at htk9 ⊢))
  k_with "exec Assign cons ListComp" => (k_here; k_dflt (refine LCg.Assign_ListComp_U (F₀ := by k_asm) (by rfl) (by with_unfolding_all rfl) (by with_unfolding_all rfl) (by decide) (by rfl) (by decide) (by rfl) (by rfl) (by rfl) ?_))
  k_with "binaryOp Add str str" => (k_here; k_dflt (refine' addC ?zza ?zzb ?zzz ?_; (case zza => with_reducible assumption); (case zzb => with_reducible assumption); (case zzz => decide); k_whole); intro _ _)
  k_with "call builtin:str.replace" => (k_here; (with_reducible show wpAny _ _ (call (Value.builtin "str.replace") [Value.str _ _, Value.str _ _, Value.str _ _]) _ _ _); k_dflt (refine' SC.replaceW ?zzh1 ?zzh2 ?zzh3 ?zzh4 ?zzh5 ?zzh6 ?_; (case zzh1 => first | exact Nat.succ_ne_zero _ | first | exact Nat.succ_ne_zero _ | exact Nat.ne_of_lt (Nat.lt_succ_self _) | exact Nat.ne_of_gt (Nat.lt_succ_self _) | (show @Ne Nat _ _; omega)); (case zzh2 => first | exact Nat.succ_ne_zero _ | first | exact Nat.succ_ne_zero _ | exact Nat.ne_of_lt (Nat.lt_succ_self _) | exact Nat.ne_of_gt (Nat.lt_succ_self _) | (show @Ne Nat _ _; omega)); (case zzh3 => first | exact Nat.ne_of_lt (Nat.lt_succ_self _) | exact Nat.ne_of_gt (Nat.lt_succ_self _) | first | exact Nat.succ_ne_zero _ | exact Nat.ne_of_lt (Nat.lt_succ_self _) | exact Nat.ne_of_gt (Nat.lt_succ_self _) | (show @Ne Nat _ _; omega)); (case zzh4 => decide); (case zzh5 => first | exact Nat.le_trans (by with_reducible assumption) (by decide) | omega); (case zzh6 => decide); k_whole); intro _ _)
  k_with "binaryOp Add ref ref" => (k_here; k_dflt first | (refine' addL2 ?zzF ?zzN ?zzm1 ?zzm2 ?zzz ?_; (case zzm1 => with_reducible assumption); (case zzF => with_reducible assumption); (case zzN => with_reducible assumption); (case zzm2 => k_mem); (case zzz => (rw [flatLen]; first | (with_reducible assumption) | omega)); k_whole) | (refine' addL ?zzF ?zzN ?zzm1 ?zzm2 ?zzz ?_; (case zzF => with_reducible assumption); (case zzN => with_reducible assumption); (case zzm1 => k_mem); (case zzm2 => k_mem); (case zzz => (simp only [List.length_append, List.length_cons, List.length_nil]; first | decide | exact addN (Nat.le_refl _) (by with_reducible assumption) (by decide) | omega)); k_whole); intro D' h' F' N' l1; (try k_lt l1); (try k_sweep))
  k_with "call builtin:str.join" => (k_here; (with_reducible show wpAny _ _ (call (Value.builtin "str.join") [Value.str _ _, Value.ref _]) _ _ _); k_dflt (first | (refine' joinRep ?zzN ?zzm ?zzd ?zzx ?zzw ?zzs ?_; (case zzN => with_reducible assumption); (case zzm => k_mem); (case zzd => first | (with_reducible assumption) | omega); (case zzx => decide); (case zzw => first | (with_reducible assumption) | omega); (case zzs => decide); k_whole) | (refine' joinNil ?zzN ?zzm ?zzw ?zzs ?_; (case zzN => with_reducible assumption); (case zzm => k_mem); (case zzw => first | exact Nat.le_trans (by with_reducible assumption) (by decide) | omega); (case zzs => decide); k_whole) | (refine' joinVals ?zzN ?zzm ?zze ?zzw ?zzs ?_; (case zzN => with_reducible assumption); (case zzm => k_mem); (case zze => exact rfl); (case zzw => first | exact Nat.le_trans (by with_reducible assumption) (by decide) | omega); (case zzs => decide); k_whole)); intro _ _ _)
  k_with "subscriptTail Name Slice ref ref" => (k_here; (with_reducible show wpAny _ _ (subscriptTail _ (PySem.Expr.Slice none none (some _) _) (Value.ref _) (Value.ref _)) _ _ _); k_dflt (refine' krv_lit ?zzF ?zzN ?zzl ?zzk ?zze ?_ ?zzs ?zzt ?zzz; (case zzF => k_asm); (case zzN => k_asm); (case zzl => exact lstIn (by k_asm) (by k_mem)); (case zzk => exact IsPart.int _ _); (case zze => exact revVals _); (case zzs => with_unfolding_all rfl); (case zzt => kmk_pure); (case zzz => exact valsSize (by with_reducible assumption) (by decide))); intro D' h' F' N' l1; (try k_lt l1); (try k_sweep))
  revert X
  k_fill
  intro X
  refine wpAny_call ?_
  k_dflt (refine' code_def (binds := [(Str.ofString "words", .ref l), (Str.ofString "great", .str x tx), (Str.ofString "front", .int f t1), (Str.ofString "start", .int st t2), (Str.ofString "head", .str y ty), (Str.ofString "dot", .int dt t3)]) ?k1 ?k2 ?k3 ?k4 ?k5 ?kA ?kF ?kK ?k6 ?k7 ?k8 ?k9 ?kB ?_ ?c2 ?c3 ?c4 ?c5; (case kA => exact rfl); (case kF => exact rfl); (case kK => assumption); (case k1 => k_asm); (case k2 => k_asm); (case k3 => k_asm); (case k4 => k_asm); (case k5 => k_asm); (case k6 => k_is); (case k7 => k_is); (case k8 => ktr_room); (case k9 => exact BindsTo.of_eq rfl); (case c5 => decide); (case kB => exact locs rfl); (case c2 => exact rfl); (case c3 => exact rfl); (case c4 => exact rfl); k_whole; intro g' L' h' FG' F' N' B' X' T'; (try dsimp only); (try k_lift B'); (try k_fold))
  k_steps
  (rename News _ _ _ _ => lN)
  (rename Fr _ _ _ _ => lF)
  refine LCg.CompSrc.ledger rfl lF lN hws (valsSize hwt (by decide)) ?_
  intro g
  refine' compStrs (gs := (ws.map (·.1)).map titleF) ?hn ?turn ?fin
  case hn => simp [strValues]
  case turn =>
    intro i v gg I oI C oC D m₂ ys h tk E' hv hg hC hx F' N' off ne
    obtain ⟨a, ta, hp, rfl, rfl⟩ := titleAt hv hg
    have hal : a.length ≤ 1000 := Nat.le_trans (wt_mem _ (List.mem_map_of_mem (f := (·.1)) hp)) hwt
    have hs1 : (Txt.slice a none (some 1)).length ≤ 1000 := Nat.le_trans (PyProof.Txt.length_slice_le _ _ _) hal
    have hs2 : (Txt.slice a (some 1) none).length ≤ 1000 := Nat.le_trans (PyProof.Txt.length_slice_le _ _ _) hal
    have hu1 : (Txt.upper (Txt.slice a none (some 1))).length ≤ 3000 := Nat.le_trans (len_upper _) (Nat.mul_le_mul_left 3 hs1)
    have hu2 : (Txt.lower (Txt.slice a (some 1) none)).length ≤ 3000 := Nat.le_trans (len_lower _) (Nat.mul_le_mul_left 3 hs2)
    k_steps
    all_goals (refine' LCg.CompEnd.intro ?F ?N news ?sub ?off ?S ⟨rfl, _, rfl⟩; (case F => with_reducible assumption); (case N => with_reducible assumption); (case sub => exact fun p hp => hp); (case off => with_reducible assumption); (case S => exact Or.inr ⟨_, hws, rfl, _, rfl⟩))
  case fin =>
    intro lt hlt
    have hwl : wt (lt.map (·.1)) ≤ 7000 := by (rw [hlt]; exact Nat.le_trans (title_wt _) (Nat.le_trans (Nat.mul_le_mul_left 6 hwt) (by decide)))
    k_steps
    (rename News _ _ _ _ => lN2)
    (rename Fr _ _ _ _ => lF2)
    have mk := kstMark
    refine' iterDebt2 (KK := 7000) debtStep debtStep_wt rfl List.mem_cons_self (xd := Str.ofString "debts") (xk := Str.ofString "kept") ?hK (frSwap lF2 (by decide)) (dropMid lN2) (by decide) ?htk rfl ?turn ?done
    case htk => first | exact Nat.le_add_left 1 _ | (with_reducible assumption) | (show (1 : Nat) ≤ _; dsimp only; omega)
    case hK => rw [List.map_reverse, wt_rev]; exact hwl
    case turn =>
      clear lF2 lN2
      intro rest d td K ks n a t h tk own htk ha hw F' N' ho
      have hkl := valsLen hw
      refine frLet F' ?_; clear F'; intro mk9 F'
      k_steps
      all_goals (dsimp only [DebtPost])
      all_goals first
        | (refine' debtEnd ks ?F ?N rfl ?o ?kk ?kd ?m (by decide) ?r; (case F => with_reducible assumption); (case N => with_reducible assumption); (case kk => rfl); (case kd => rfl); (case o => exact ho); (case m => (intro z h1 h2 h3; simp +zetaDelta only [if_neg h1, if_neg h2, if_neg h3])); (case r => first | with_reducible exact (debt1 (by with_reducible assumption)).symm | with_reducible exact (debt2 (by with_reducible assumption) (by with_reducible assumption) (by with_reducible assumption)).symm | with_reducible exact (debt4 (by with_reducible assumption) (by with_reducible assumption)).symm))
        | (refine' debtEnd3 ?F ?N ?o ?kk ?kd ?m (by decide) ?r; (case F => with_reducible assumption); (case N => with_reducible assumption); (case kk => rfl); (case kd => rfl); (case o => with_reducible assumption); (case m => (intro z h1 h2 h3; simp +zetaDelta only [if_neg h1, if_neg h2, if_neg h3])); (case r => with_reducible exact (debt3 (by with_reducible assumption) (by with_reducible assumption) (by with_reducible assumption)).symm))
    case done =>
      clear lF2 lN2
      intro d td K ks n h tk u htk he hw F' N'
      have hkl := valsLen hw
      have hd : 0 ≤ d ∧ d ≤ 7000 := by
        have q := debt_bound (lt.reverse.map (·.1)) (0, []) (by decide)
        have e1 : wt (lt.reverse.map (·.1)) = wt (lt.map (·.1)) := by rw [List.map_reverse, wt_rev]
        have e2 : (List.foldl debtStep (0, []) (lt.reverse.map (·.1))).1 = d := by rw [← he]
        rw [e2, e1] at q
        exact ⟨q.1, Int.le_trans q.2 (Int.le_trans (Int.le_of_eq (Int.zero_add _)) (Int.ofNat_le.mpr hwl))⟩
      have hd2 := hd.2
      have hz : d.toNat + (strValues ks).length ≤ 1000000 := Nat.le_trans (Nat.add_le_add (Int.toNat_le.mpr hd2) hkl) (by decide)
      have hrl := rootLen f
      change (fun (P : Prop) => P) _
      dsimp only
      intro htk9
      refine frLet F' ?_; clear F'; intro mk9 F'
      refine' cutAt (Str.ofString "root") (fun t => .str (rootF f) t) F' N' ?hn ?h1 ?h2
      case hn => first | exact Nat.le_add_left 1 _ | (with_reducible assumption) | (show (1 : Nat) ≤ _; (try dsimp only); omega)
      case h1 =>
        k_steps
        all_goals first
          | exact trivial
          | (intro htk0; refine ⟨rfl, ?_⟩; refine' cutV_intro htk0 ?F ?N ?e ?s; (case F => with_reducible assumption); (case N => with_reducible assumption); (case e => (refine strE ?_; first | with_reducible exact root1 (by with_reducible assumption) | with_reducible exact root2 (by with_reducible assumption))); (case s => intro p hp; first | with_reducible exact hp | with_reducible exact memT1 hp | with_reducible exact memT2 hp | with_reducible exact memT3 hp | with_reducible exact memT4 hp))
          | (refine' cutV_intro (by with_reducible assumption) ?F ?N ?e ?s; (case F => with_reducible assumption); (case N => with_reducible assumption); (case e => (refine strE ?_; first | with_reducible exact root1 (by with_reducible assumption) | with_reducible exact root2 (by with_reducible assumption))); (case s => intro p hp; first | with_reducible exact hp | with_reducible exact memT1 hp | with_reducible exact memT2 hp | with_reducible exact memT3 hp | with_reducible exact memT4 hp))
      case h2 =>
        clear F' N'
        intro t0 h tk htk F' N'
        refine frLet F' ?_; clear F'; intro mk9 F'
        refine' cutAt (Str.ofString "plain") (fun t => .str (plainF f d.toNat (ks.map (·.1))) t) F' N' ?hn ?h1 ?h2
        case hn => first | exact Nat.le_add_left 1 _ | (with_reducible assumption) | (show (1 : Nat) ≤ _; (try dsimp only); omega)
        case h1 =>
          k_steps
          all_goals try ((refine' addL2 ?F ?N ?m1 ?m2 ?z ?_; (case m1 => with_reducible assumption); (case F => with_reducible assumption); (case N => with_reducible assumption); (case m2 => k_mem); (case z => (rw [flatLen]; first | (with_reducible assumption) | omega))); intro D' h' F' N' l1; (try k_lt l1); (try k_sweep); k_steps)
          all_goals first
            | exact trivial
            | (intro htk0; refine ⟨rfl, ?_⟩; refine' cutV_intro htk0 ?F ?N ?e ?s; (case F => with_reducible assumption); (case N => with_reducible assumption); (case e => (refine strE ?_; first | with_reducible exact plain1 (by with_reducible assumption) | with_reducible exact plain2 (by with_reducible assumption))); (case s => intro p hp; first | with_reducible exact hp | with_reducible exact memT1 hp | with_reducible exact memT2 hp | with_reducible exact memT3 hp | with_reducible exact memT4 hp))
            | (refine' cutV_intro (by with_reducible assumption) ?F ?N ?e ?s; (case F => with_reducible assumption); (case N => with_reducible assumption); (case e => (refine strE ?_; first | with_reducible exact plain1 (by with_reducible assumption) | with_reducible exact plain2 (by with_reducible assumption))); (case s => intro p hp; first | with_reducible exact hp | with_reducible exact memT1 hp | with_reducible exact memT2 hp | with_reducible exact memT3 hp | with_reducible exact memT4 hp))
        case h2 =>
          clear F' N'
          intro t1 h tk htk F' N'
          refine frLet F' ?_; clear F'; intro mk9 F'
          refine' cutAt (Str.ofString "cut") (fun t => .int (cutF dt x) t) F' N' ?hn ?h1 ?h2
          case hn => first | exact Nat.le_add_left 1 _ | (with_reducible assumption) | (show (1 : Nat) ≤ _; (try dsimp only); omega)
          case h1 =>
            k_steps
            all_goals first
              | exact trivial
              | (intro htk0; refine ⟨rfl, ?_⟩; refine' cutV_intro htk0 ?F ?N ?e ?s; (case F => with_reducible assumption); (case N => with_reducible assumption); (case e => (refine intE ?_; first | with_reducible exact cut1 (by with_reducible assumption) | with_reducible exact cut2 (by with_reducible assumption))); (case s => intro p hp; first | with_reducible exact hp | with_reducible exact memT1 hp | with_reducible exact memT2 hp | with_reducible exact memT3 hp | with_reducible exact memT4 hp))
              | (refine' cutV_intro (by with_reducible assumption) ?F ?N ?e ?s; (case F => with_reducible assumption); (case N => with_reducible assumption); (case e => (refine intE ?_; first | with_reducible exact cut1 (by with_reducible assumption) | with_reducible exact cut2 (by with_reducible assumption))); (case s => intro p hp; first | with_reducible exact hp | with_reducible exact memT1 hp | with_reducible exact memT2 hp | with_reducible exact memT3 hp | with_reducible exact memT4 hp))
          case h2 =>
            clear F' N'
            intro t2 h tk htk F' N'
            refine frLet F' ?_; clear F'; intro mk9 F'
            k_steps
            all_goals (refine' hret _ _ _ _ _ _ _ _ _ _ _ _ _ _ _ _ _ _ ?tk ?tt ?pl ?F (dropDue ?N) ?l; (case N => with_reducible assumption); (case F => with_reducible assumption); (case tk => omega); (case tt => rw [← hlt]); (case pl => first | with_reducible exact plainP1 hlt (by with_reducible assumption) (by with_reducible assumption) | with_reducible exact plainP2 hlt (by with_reducible assumption) (by with_reducible assumption)); (case l => (rename _ ∧ _ ∧ _ ∧ _ ∧ _ ∧ _ ∧ _ ∧ _ ∧ AllLt _ _ => q; exact q.2.2.2.2.2.2.2.2)))
section
variable {prog : Program} {w : World} {A : Around} {E : Value → Shared → Prop} {s : Shared} {h₀ : Heap} {L : Addr} {m : Str → Option Value} {env : Env}
noncomputable def TextSrc (prog : Program) (w : World) (A : Around) (h₀ : Heap) (L : Addr) (m : Str → Option Value) (env : Env) (elt : Expr) (x : Str) (scope : Scope) (cl : List (Str × Addr)) (Q : Value → Shared → Prop) (xv : Value) (s₁ : Shared) : Prop :=
  ∃ (y : Str) (t : Tok) (news : List (Addr × Obj)), xv = .str y t ∧ A.handled = none ∧ Fr h₀ L s₁.heap m ∧ News h₀ L s₁.heap news ∧ y.cps.size ≤ sizeLine ∧
      ∀ s₂ : Shared, (∃ h, s₂ = { s₁ with heap := h }) → LCg.CompRest prog w A h₀ L m env elt x scope cl s₂ (fun _ => True) (SignAt y) (LCg.FinE h₀ L m s₂ Q) y.cps.size 0 [] news
theorem TextSrc.intro {elt : Expr} {x : Str} {scope : Scope} {cl : List (Str × Addr)} {Q : Value → Shared → Prop} {s₁ : Shared} {y : Str} {t : Tok} {news : List (Addr × Obj)} (hh : A.handled = none) (F : Fr h₀ L s₁.heap m) (N : News h₀ L s₁.heap news) (hy : y.length ≤ 1000)
    (h : ∀ g, LCg.CompRest prog w A h₀ L m env elt x scope cl { s₁ with heap := g } (fun _ => True) (SignAt y) (LCg.FinE h₀ L m { s₁ with heap := g } Q) y.cps.size 0 [] news) : TextSrc prog w A h₀ L m env elt x scope cl Q (.str y t) s₁ :=
  ⟨y, t, news, rfl, hh, F, N, by rw [sizeLine_eq]; exact Nat.le_trans hy (by decide), fun _ ⟨g, e⟩ => e ▸ h g⟩
/-- a comprehension over the signs of a text -/
theorem ListComp_T {elt iter : Expr} {x : Str} {px : Pos} {scope : Scope} {cl : List (Str × Addr)} {pos : Pos} {Q : Value → Shared → Prop} (F₀ : Fr h₀ L s.heap m)
    (hclos : closureFor scope env = pure cl) (hcell : ∀ y ∈ scope.names, y.2 ≠ .cell) (hkind : scope.kind = .function)
    (hnames : ∀ y ∈ scope.names, y.2 = .local → scope.names.lookup y.1 = some .local) (hx : scope.names.lookup x = some .local)
    (h : wpAny (model prog w) A (eval iter env) (TextSrc prog w A h₀ L m env elt x scope cl Q) E s)
    (hs : ∀ x, foldedSetIterable iter env x = pure x) :
    wpAny (model prog w) A (eval (.ListComp elt [⟨.Name x px, iter, [], 0⟩] scope pos) env) Q E s := by
  rw [eval_ListComp]
  refine wpAny_comprehension_free (use := none) rfl hs hclos hkind hnames (wpAny_mono h (fun xv s₁ h₁ => ?_) fun _ _ e => e)
  obtain ⟨y, t, news, rfl, hh, F, N, hsz, R⟩ := h₁
  have W : Walks prog w A s₁.heap.objs.size [s₁.heap.objs.size] [s₁.heap.objs.size] y.cps.size (SignAt y) (fun i h => h.IsStrIter s₁.heap.objs.size (strIterType y) y t i) := by
    cases ha : y.cps.all (· < 128)
    · rw [show strIterType y = "str_iterator" by simp [strIterType, ha]]; exact Walks.strWide hh _ y t
    · rw [show strIterType y = "str_ascii_iterator" by simp [strIterType, ha]]; exact Walks.strAscii hh _ y t
  refine wpAny_pyIter_strU ?_
  refine LCg.block_U W hsz (fun i h st => by obtain ⟨o, e, _⟩ := st; exact ⟨o, e⟩) (S := fun _ => True) (fun i h h' o nw st e e' _ _ _ => by obtain ⟨o', q, r⟩ := st; rw [e] at q; cases q; exact ⟨o, e', r⟩) hcell hkind hx ⟨_, Heap.get?_push_size _ rfl, rfl, rfl⟩ (fun b hb => by
        rw [List.mem_singleton.mp hb]
        show s₁.heap.objs.size < (s₁.heap.push _).objs.size
        rw [Heap.size_push]; exact Nat.lt_succ_self _)
      (F.keeps fun _ _ e => Heap.get?_push_of_some _ e) (N.grown fun _ _ e => Heap.get?_push_of_some _ e) (Nat.ne_of_lt F.ns.lt) (next_is_new F) (fun p hp => Nat.ne_of_lt (Heap.lt_size (N p hp).1)) trivial (R _ ⟨_, rfl⟩) ?_
  intro D C h tk m' ys news' F' N' o1 hn hC₀ hD₀ hCL hDL hCD offC fin
  refine ⟨m', hn, fun h'' hs'' => fin D h'' tk (F'.change hs'' hCL hC₀) (fun p hp => ?_) o1⟩
  refine ⟨hs''.extBut _ _ ?_ (N' p hp).1, (N' p hp).2⟩
  rcases List.mem_cons.mp hp with rfl | hp
  · exact Ne.symm hCD
  · exact offC p hp
end
set_option genSizeOf false in
set_option genInjectivity false in
/-- what the reader keeps -/
structure RSt where
  ws : List Str
  great : Str
  front : Int
  start : Int
  head : Str
  dot : Int
  seen : Bool
theorem chain_eq : ∀ (ps : List (Str × Value)) (m : Str → Option Value), (∀ p ∈ ps, m p.1 = some p.2) → (ps.foldr (fun p f y => if y = p.1 then some p.2 else f y) m) = m
  | [], _, _ => rfl
  | p :: ps, m, h => by
    have ih := chain_eq ps m fun q hq => h q (.tail _ hq)
    show (fun y => if y = p.1 then some p.2 else (ps.foldr (fun p f y => if y = p.1 then some p.2 else f y) m) y) = m
    rw [ih]
    funext y
    by_cases hy : y = p.1
    · rw [if_pos hy, hy, h p (.head _)]
    · rw [if_neg hy]
noncomputable abbrev agPs (W : Addr) (r : RSt) (t1 t2 t3 t4 t5 : Tok) (x : Str) (ts tx : Tok) (px : Str) (tp : Tok) : List (Str × Value) :=
  [(Str.ofString "words", .ref W), (Str.ofString "great", .str r.great t1), (Str.ofString "front", .int r.front t2), (Str.ofString "start", .int r.start t3), (Str.ofString "head", .str r.head t4), (Str.ofString "dot", .int r.dot t5), (Str.ofString "seen", .bool r.seen),
   (Str.ofString "signs", .str x ts), (Str.ofString "text", .str x tx), (Str.ofString "path", .str px tp)]
theorem agPsI {m : Str → Option Value} {W : Addr} {r : RSt} {t1 t2 t3 t4 t5 : Tok} {x : Str} {ts tx : Tok} {px : Str} {tp : Tok} (h1 : m (Str.ofString "words") = some (.ref W)) (h2 : m (Str.ofString "great") = some (.str r.great t1)) (h3 : m (Str.ofString "front") = some (.int r.front t2)) (h4 : m (Str.ofString "start") = some (.int r.start t3)) (h5 : m (Str.ofString "head") = some (.str r.head t4)) (h6 : m (Str.ofString "dot") = some (.int r.dot t5)) (h7 : m (Str.ofString "seen") = some (.bool r.seen))
    (h8 : m (Str.ofString "signs") = some (.str x ts)) (h9 : m (Str.ofString "text") = some (.str x tx)) (h10 : m (Str.ofString "path") = some (.str px tp)) : ∀ p ∈ agPs W r t1 t2 t3 t4 t5 x ts tx px tp, m p.1 = some p.2 := by
  intro p hp
  simp only [agPs, List.mem_cons, List.not_mem_nil, or_false] at hp
  rcases hp with rfl | rfl | rfl | rfl | rfl | rfl | rfl | rfl | rfl | rfl
  · exact h1
  · exact h2
  · exact h3
  · exact h4
  · exact h5
  · exact h6
  · exact h7
  · exact h8
  · exact h9
  · exact h10
section
variable {h₀ : Heap} {L : Addr} {x px : Str} {ts tx tp : Tok}
/-- the reader's names and its list stand in the heap -/
inductive AgAt (h₀ : Heap) (L : Addr) (x : Str) (ts tx : Tok) (px : Str) (tp : Tok) (own R : List (Addr × Obj)) (r : RSt) (k : Option Value) (s s' : Shared) : Prop
  | mk (h' : Heap) (tk : Nat) (m' : Str → Option Value) (W : Addr) (wsT : List (Str × Tok)) (nw : Nat) (t1 t2 t3 t4 t5 : Tok) (e : s' = { s with heap := h', toks := tk }) (htk : 1 ≤ tk) (F : Fr h₀ L h' m') (N : News h₀ L h' ((W, listOf (strValues wsT).toArray nw) :: R)) (ho : ∀ p ∈ own, p.1 ≠ W) (hw : wsT.map (·.1) = r.ws)
    (hp : ∀ p ∈ agPs W r t1 t2 t3 t4 t5 x ts tx px tp, m' p.1 = some p.2) (hk : ∀ v, k = some v → m' (Str.ofString "k") = some v) : AgAt h₀ L x ts tx px tp own R r k s s'
section
variable {M : Model} {A : Around} {env : Env} {st : Stmt} {rest : List Stmt} {Q : Flow → Shared → Prop} {E : Value → Shared → Prop} {s : Shared} {own R : List (Addr × Obj)} {r : RSt} {kv : Value}
theorem agCut {m₀ : Str → Option Value} (F0 : Fr h₀ L s.heap m₀) (hn : 1 ≤ s.toks) (h1 : wpAny M A (exec st env) (fun f s' => 1 ≤ s'.toks → f = .next ∧ AgAt h₀ L x ts tx px tp own R r (some kv) s s') E s)
    (h2 : ∀ (m' : Str → Option Value) W wsT nw t1 t2 t3 t4 t5 h' tk, 1 ≤ tk → (∀ p ∈ own, p.1 ≠ W) → wsT.map (·.1) = r.ws →
      Fr h₀ L h' (fun y => if y = Str.ofString "k" then some kv else if y = Str.ofString "words" then some (.ref W) else if y = Str.ofString "great" then some (.str r.great t1) else if y = Str.ofString "front" then some (.int r.front t2) else if y = Str.ofString "start" then some (.int r.start t3) else if y = Str.ofString "head" then some (.str r.head t4) else if y = Str.ofString "dot" then some (.int r.dot t5) else if y = Str.ofString "seen" then some (.bool r.seen) else if y = Str.ofString "signs" then some (.str x ts) else if y = Str.ofString "text" then some (.str x tx) else if y = Str.ofString "path" then some (.str px tp) else m' y) →
      News h₀ L h' ((W, listOf (strValues wsT).toArray nw) :: R) → wpAny M A (execs rest env) Q E { s with heap := h', toks := tk }) : wpAny M A (execs (st :: rest) env) Q E s := by
  refine execsT hn (wpAny_mono h1 (fun f s' q htk => ?_) fun _ _ e => e)
  obtain ⟨rfl, h', tk, m', W, wsT, nw, t1, t2, t3, t4, t5, rfl, htk', F, N, ho, hw, hp, hk⟩ := q htk
  have e := chain_eq ((Str.ofString "k", kv) :: agPs W r t1 t2 t3 t4 t5 x ts tx px tp) m' (fun p hp' => by
    rcases List.mem_cons.mp hp' with rfl | hp'
    · exact hk _ rfl
    · exact hp p hp')
  rw [← e] at F
  exact h2 m' W wsT nw t1 t2 t3 t4 t5 h' tk htk' ho hw F N
end
section
variable {prog : Program} {w : World} {A : Around} {E : Value → Shared → Prop} {s : Shared} {env : Env} {body : List Stmt} {Q : Flow → Shared → Prop}
inductive DueIn (r : RSt) (title : List Str → Str) (m : Str → Option Value) (dl : List (Addr × Obj)) : Prop
  | mk (D : Addr) (vs : List Value) (u : Tok) (e : dl = [(D, listOf vs.toArray 0)]) (hd : m (Str.ofString "due") = some (.ref D)) (hv : vs[0]? = some (Value.str (title r.ws) u)) : DueIn r title m dl
inductive AgEnd (h₀ : Heap) (L : Addr) (x : Str) (ts tx : Tok) (px : Str) (tp : Tok) (title : List Str → Str) (rest own : List (Addr × Obj)) (r : RSt) (s s' : Shared) : Prop
  | mk (h' : Heap) (tk : Nat) (m' : Str → Option Value) (W : Addr) (wsT : List (Str × Tok)) (nw : Nat) (t1 t2 t3 t4 t5 : Tok) (dl : List (Addr × Obj)) (e : s' = { s with heap := h', toks := tk }) (F : Fr h₀ L h' m') (N : News h₀ L h' ((W, listOf (strValues wsT).toArray nw) :: (dl ++ (rest ++ own)))) (ho1 : ∀ p ∈ own, p.1 ≠ W)
    (ho2 : ∀ p ∈ own, ∀ q ∈ dl, p.1 ≠ q.1) (hw : wsT.map (·.1) = r.ws) (hp : ∀ p ∈ agPs W r t1 t2 t3 t4 t5 x ts tx px tp, m' p.1 = some p.2) (hd : DueIn r title m' dl) : AgEnd h₀ L x ts tx px tp title rest own r s s'
/-- what holds between the turns -/
inductive AgInv (x : Str) (ts tx : Tok) (px : Str) (tp : Tok) (title : List Str → Str) (rest : List (Addr × Obj)) (i : Nat) (r : RSt) (m : Str → Option Value) (nx : List (Addr × Obj)) : Prop
  | mk (W : Addr) (wsT : List (Str × Tok)) (nw : Nat) (t1 t2 t3 t4 t5 : Tok) (dl : List (Addr × Obj)) (e : nx = (W, listOf (strValues wsT).toArray nw) :: (dl ++ rest)) (hw : wsT.map (·.1) = r.ws) (hp : ∀ p ∈ agPs W r t1 t2 t3 t4 t5 x ts tx px tp, m p.1 = some p.2) (hd : i = 0 ∨ DueIn r title m dl) : AgInv x ts tx px tp title rest i r m nx
noncomputable def AgPost (h₀ : Heap) (L : Addr) (x : Str) (ts tx : Tok) (px : Str) (tp : Tok) (title : List Str → Str) (rest own : List (Addr × Obj)) (r : RSt) (s : Shared) (Q : Flow → Shared → Prop) (f : Flow) (s' : Shared) : Prop :=
  match f with
  | .ret v => Q (.ret v) s'
  | .brk => Q .next s'
  | .next => AgEnd h₀ L x ts tx px tp title rest own r s s'
  | .cont => AgEnd h₀ L x ts tx px tp title rest own r s s'
theorem iterAgree {r₀ : Addr} {b₀ : Int} {u₀ u₁ u₂ : Tok} {n : Nat} {rest : List (Addr × Obj)} {W₀ : Addr} {n₀ : Nat} {m₀ : Str → Option Value} {t1 t2 t3 t4 t5 : Tok} {L : Addr} (st : Nat → RSt) (title : List Str → Str)
    (hh : A.handled = none) (hr : IsRange s.heap r₀ 0 b₀ 1 u₀ u₁ u₂) (hsmall : Builtin.Range.small 0 b₀ 1 = true) (hn : Builtin.Range.rangeSize 0 b₀ 1 = (n : Int)) (hL : env.locals = L) (F : Fr h₀ L s.heap m₀) (N : News h₀ L s.heap ((W₀, listOf (strValues []).toArray n₀) :: rest)) (htok : 1 ≤ s.toks)
    (h0 : (st 0).ws = []) (h1 : m₀ (Str.ofString "words") = some (.ref W₀)) (h2 : m₀ (Str.ofString "great") = some (.str (st 0).great t1)) (h3 : m₀ (Str.ofString "front") = some (.int (st 0).front t2)) (h4 : m₀ (Str.ofString "start") = some (.int (st 0).start t3)) (h5 : m₀ (Str.ofString "head") = some (.str (st 0).head t4)) (h6 : m₀ (Str.ofString "dot") = some (.int (st 0).dot t5)) (h7 : m₀ (Str.ofString "seen") = some (.bool (st 0).seen)) (h8 : m₀ (Str.ofString "signs") = some (.str x ts)) (h9 : m₀ (Str.ofString "text") = some (.str x tx)) (h10 : m₀ (Str.ofString "path") = some (.str px tp))
    (turn : ∀ (i : Nat) (m' : Str → Option Value) W wsT nw t1 t2 t3 t4 t5 t h' tk R own, 1 ≤ tk → i < n → (∀ p ∈ own, p.1 ≠ W) → (∀ p ∈ rest ++ own, p ∈ R) → wsT.map (·.1) = (st i).ws →
      Fr h₀ L h' (fun y => if y = Str.ofString "k" then some (.int (i : Int) t) else if y = Str.ofString "words" then some (.ref W) else if y = Str.ofString "great" then some (.str (st i).great t1) else if y = Str.ofString "front" then some (.int (st i).front t2) else if y = Str.ofString "start" then some (.int (st i).start t3) else if y = Str.ofString "head" then some (.str (st i).head t4) else if y = Str.ofString "dot" then some (.int (st i).dot t5) else if y = Str.ofString "seen" then some (.bool (st i).seen) else if y = Str.ofString "signs" then some (.str x ts) else if y = Str.ofString "text" then some (.str x tx) else if y = Str.ofString "path" then some (.str px tp) else m' y) →
      News h₀ L h' ((W, listOf (strValues wsT).toArray nw) :: R) →
      wpAny (model prog w) A (execs body env) (AgPost h₀ L x ts tx px tp title rest own (st (i + 1)) { s with heap := h', toks := tk } Q) E { s with heap := h', toks := tk })
    (done : ∀ (m' : Str → Option Value) W wsT nw t1 t2 t3 t4 t5 h tk dl, 1 ≤ tk → (n = 0 ∨ DueIn (st n) title m' dl) → Fr h₀ L h m' → (∀ p ∈ agPs W (st n) t1 t2 t3 t4 t5 x ts tx px tp, m' p.1 = some p.2) → News h₀ L h ((W, listOf (strValues wsT).toArray nw) :: (dl ++ rest)) → Q .next { s with heap := h, toks := tk }) :
    wpAny (model prog w) A (pyIter (.ref r₀)) (fun it s₂ => LoopAtT prog w A 1 h₀ env (Str.ofString "k") body Q E it s₂) E s := by
  subst hL
  refine wpAny_pyIter_range hr hsmall ?_
  have hIn : ∀ q ∈ (W₀, listOf (strValues []).toArray n₀) :: rest, q.1 ≠ s.heap.objs.size := fun q hq => Nat.ne_of_lt (Heap.lt_size (N q hq).1)
  have hIr : ∀ q ∈ rest, q.1 ≠ s.heap.objs.size := fun q hq => hIn q (.tail _ hq)
  have W := LCg.range_walks (prog := prog) (w := w) (I := s.heap.objs.size) hh 0 n
  refine ⟨_, _, _, _, _, _, _, _, (fun i => AgInv x ts tx px tp title rest i (st i)),
    rfl, htok, W, ?_, ?_, ?_, (by show IsRangeIter _ _ _ _ _; rw [hn]; simpa using Heap.get?_push_size _ rfl), F.push _, (fun p hp => ⟨Heap.get?_push_of_some _ (N p hp).1, (N p hp).2⟩), ⟨W₀, [], n₀, t1, t2, t3, t4, t5, [], rfl, h0.symm, agPsI h1 h2 h3 h4 h5 h6 h7 h8 h9 h10, .inl rfl⟩, ?_, ?_⟩
  · intro hm
    exact absurd F.ns.lt ((List.mem_singleton.mp hm) ▸ Nat.lt_irrefl _)
  · intro b hb
    rw [List.mem_singleton.mp hb]
    exact next_is_new F
  · exact fun p hp hI => hIn p hp (List.mem_singleton.mp hI)
  · rintro i v m₁ news₁ hh' tk' own htk1 hin ⟨t, rfl⟩ ⟨W', wsT, nw, a1, a2, a3, a4, a5, dl, rfl, hws, hps, _⟩ hoff hown hget hfp hstt F₁ N₁
    rw [Int.zero_add] at F₁
    have em : (fun y => if y = Str.ofString "k" then some (Value.int (i : Int) t) else m₁ y) = (fun y => if y = Str.ofString "k" then some (Value.int (i : Int) t) else ((agPs W' (st i) a1 a2 a3 a4 a5 x ts tx px tp).foldr (fun p f y => if y = p.1 then some p.2 else f y) m₁) y) := by
      rw [chain_eq _ _ hps]
    rw [em] at F₁
    have hWI : W' ≠ s.heap.objs.size := fun e => hoff (W', listOf (strValues wsT).toArray nw) (.head _) (List.mem_singleton.mpr e)
    have hoI : ∀ q ∈ own, q.1 = s.heap.objs.size := fun q hq => List.mem_singleton.mp (hown q hq)
    have N₂ : News h₀ env.locals hh' ((W', listOf (strValues wsT).toArray nw) :: (dl ++ rest ++ own)) := fun q hq => N₁ q (by
      rcases List.mem_cons.mp hq with rfl | hq
      · exact List.mem_append.mpr (.inr (.head _))
      · rcases List.mem_append.mp hq with h | h
        · exact List.mem_append.mpr (.inr (.tail _ h))
        · exact List.mem_append.mpr (.inl h))
    refine wpAny_mono (turn i m₁ W' wsT nw a1 a2 a3 a4 a5 t hh' tk' (dl ++ rest ++ own) own htk1 hin (fun q hq e => hWI (by rw [← e, hoI q hq])) (fun q hq => by
      rcases List.mem_append.mp hq with h | h
      · exact List.mem_append_left _ (List.mem_append_right _ h)
      · exact List.mem_append_right _ h) hws F₁ N₂) (fun f s₂ q => ?_) fun _ _ e => e
    have fin : AgEnd h₀ env.locals x ts tx px tp title rest own (st (i + 1)) { s with heap := hh', toks := tk' } s₂ →
        LoopStepU h₀ env.locals [s.heap.objs.size] own (AgInv x ts tx px tp title rest (i + 1) (st (i + 1))) { s with heap := hh', toks := tk' } .next s₂ := by
      rintro ⟨h', tk, m', W2, wsT2, nw2, c1, c2, c3, c4, c5, dl2, e, F', N', ho1, ho2, hw2, hp2, hd2⟩
      obtain ⟨oI, hoIm⟩ : ∃ oI, (s.heap.objs.size, oI) ∈ own := by
        have st' : hh'.get? s.heap.objs.size = some _ := hstt
        exact ⟨_, hfp _ (by simp) (next_is_new F) _ st'⟩
      refine ⟨rfl, h', tk, m', (W2, listOf (strValues wsT2).toArray nw2) :: (dl2 ++ rest), e, F', fun q hq => ?_, fun q hq => ?_, W2, wsT2, nw2, c1, c2, c3, c4, c5, dl2, rfl, hw2, hp2, .inr hd2⟩
      · rcases List.mem_append.mp hq with h | h
        · exact N' q (.tail _ (List.mem_append_right _ (List.mem_append_right _ h)))
        · rcases List.mem_cons.mp h with rfl | h
          · exact N' _ (.head _)
          · rcases List.mem_append.mp h with h | h
            · exact N' q (.tail _ (List.mem_append_left _ h))
            · exact N' q (.tail _ (List.mem_append_right _ (List.mem_append_left _ h)))
      · intro hI
        have hI' := List.mem_singleton.mp hI
        rcases List.mem_cons.mp hq with rfl | hq
        · exact ho1 _ hoIm hI'.symm
        · rcases List.mem_append.mp hq with h | h
          · exact ho2 _ hoIm q h hI'.symm
          · exact hIr q h hI'
    cases f with
    | ret v => exact .ret q
    | brk => exact .brk q
    | next => exact .next (fin q)
    | cont => exact .cont (fin q)
  · rintro h' tk m' news' htk1 F' N' _ ⟨W', wsT, nw, a1, a2, a3, a4, a5, dl, rfl, hws, hps, hd⟩
    exact done m' W' wsT nw a1 a2 a3 a4 a5 h' tk dl htk1 hd F' hps N'
end
end
theorem itemIs {x : Str} {i : Nat} (h : i < x.length) : Txt.item x (i : Int) = ⟨#[x.cps[i]'h]⟩ := by
  unfold Txt.item
  have h1 : x.cps[i]? = some (x.cps[i]'h) := Array.getElem?_eq_getElem h
  have : Txt.charAt x (i : Int) = some (x.cps[i]'h) := by
    unfold Txt.charAt
    exact StrLaws.at_nonneg (by omega) (by simpa using h1)
  rw [this]; rfl
section
variable {prog : Program} {w : World} {A : Around} {E : Value → Shared → Prop} {s : Shared} {h₀ : Heap} {L : Addr} {news : List (Addr × Obj)} {Q : Value → Shared → Prop}
theorem eqNil {W l : Addr} {ws : List (Str × Tok)} {n k : Nat} (N : News h₀ L s.heap news) (m1 : (W, listOf (strValues ws).toArray n) ∈ news) (m2 : (l, listOf #[] k) ∈ news) (hu : A.units < cLine)
    (h1 : ws = [] → Q (.bool true) s) (h2 : ws ≠ [] → Q (.bool false) s) : wpAny (model prog w) A (compareOp .Eq (.ref W) (.ref l)) Q E s := by
  have l1 : s.heap.IsList W (strValues ws).toArray := ⟨_, (N _ m1).1, rfl, n, rfl⟩
  have l2 : s.heap.IsList l #[] := ⟨_, (N _ m2).1, rfl, k, rfl⟩
  cases ws with
  | nil => exact SeqAt.eq_listAt (e := fun _ => true) l1 l2 rfl hu (fun j h => absurd h (Nat.not_lt_zero _)) (h1 rfl)
  | cons a r => exact SeqAt.eq_list_lengthsAt l1 l2 (by simp [strValues]) hu (h2 (List.cons_ne_nil _ _))
noncomputable def PW (A : Around) (s : Shared) (xs ys : List Value) : Prop := xs.length = ys.length ∧ ∀ j (h1 : j < xs.length) (h2 : j < ys.length), SeqAt.EqAt A s xs[j] ys[j] true
theorem PW.nil {A : Around} {s : Shared} : PW A s [] [] := ⟨rfl, fun j h1 _ => absurd h1 (Nat.not_lt_zero j)⟩
theorem PW.cons {A : Around} {s : Shared} {v u : Value} {vs us : List Value} (h : SeqAt.EqAt A s v u true) (t : PW A s vs us) : PW A s (v :: vs) (u :: us) :=
  ⟨congrArg (· + 1) t.1, fun j h1 h2 => by
    cases j with
    | zero => exact h
    | succ j => exact t.2 j (Nat.lt_of_succ_lt_succ h1) (Nat.lt_of_succ_lt_succ h2)⟩
theorem eqStr {A : Around} {s : Shared} {a b : Str} {t u : Tok} (h : a = b) : SeqAt.EqAt A s (.str a t) (.str b u) true := by
  have := SeqAt.EqAt.str_str (A := A) (s := s) a t b u
  rw [h, beq_self_eq_true] at this
  rw [h]; exact this
theorem all_true (n : Nat) : (List.range n).all (fun _ => true) = true := by simp
theorem eqTup {A : Around} {s : Shared} {T S : Addr} {vs us : List Value} {h₀ : Heap} {L : Addr} {news : List (Addr × Obj)} (N : News h₀ L s.heap news) (m1 : (T, tupO vs) ∈ news) (m2 : (S, tupO us) ∈ news) (hu : A.units < cLine) (h : PW A.in1 s vs us) : SeqAt.EqAt A s (.ref T) (.ref S) true := by
  by_cases e : T = S
  · rw [e]; exact SeqAt.EqAt.same _
  · refine SeqAt.EqAt.of_refs e ?_
    have q := SeqAt.RcAt.tuples (A := A) (s := s) (e := fun _ => true) (l := T) (b := S) (items := vs.toArray) (items2 := us.toArray) ⟨_, (N _ m1).1, rfl, _, rfl⟩ ⟨_, (N _ m2).1, rfl, _, rfl⟩ hu (fun j h1 h2 => by simpa using h.2 j (by simpa using h1) (by simpa using h2))
    have e2 : ((List.range (min vs.toArray.size us.toArray.size)).all (fun _ => true) && vs.toArray.size == us.toArray.size) = true := by
      rw [all_true, List.size_toArray, List.size_toArray, h.1]; simp
    rw [e2] at q
    exact q
theorem agreeNe {D1 D2 T1 T2 T3 S1 S2 S3 : Addr} {k1 k2 : Nat} {a b c p1 p2 q1 q2 r1 r2 r3 a' b' c' p1' p2' q1' q2' r1' r2' r3' : Str} {u1 u2 u3 v1 v2 w1 w2 z1 z2 z3 u1' u2' u3' v1' v2' w1' w2' z1' z2' z3' : Tok}
    (N : News h₀ L s.heap news) (m1 : (D1, listOf [Value.str a u1, .str b u2, .str c u3, .ref T1, .ref T2, .ref T3].toArray k1) ∈ news) (mt1 : (T1, tupO [.str p1 v1, .str p2 v2]) ∈ news) (mt2 : (T2, tupO [.str q1 w1, .str q2 w2]) ∈ news) (mt3 : (T3, tupO [.str r1 z1, .str r2 z2, .str r3 z3]) ∈ news)
    (m2 : (D2, listOf ([Value.str a' u1', .str b' u2', .str c' u3', Value.ref S1] ++ [Value.ref S2, Value.ref S3]).toArray k2) ∈ news) (ms1 : (S1, tupO [.str p1' v1', .str p2' v2']) ∈ news) (ms2 : (S2, tupO [.str q1' w1', .str q2' w2']) ∈ news) (ms3 : (S3, tupO [.str r1' z1', .str r2' z2', .str r3' z3']) ∈ news)
    (ha : a = a') (hb : b = b') (hc : c = c') (hp1 : p1 = p1') (hp2 : p2 = p2') (hq1 : q1 = q1') (hq2 : q2 = q2') (hr1 : r1 = r1') (hr2 : r2 = r2') (hr3 : r3 = r3') (hu : A.units + 64 < cLine)
    (h : Q (.bool false) s) : wpAny (model prog w) A (compareOp .NotEq (.ref D1) (.ref D2)) Q E s := by
  subst ha hb hc hp1 hp2 hq1 hq2 hr1 hr2 hr3
  have hu1 : A.in1.units < cLine := by have := hu; simp only [Around.in1] at *; omega
  have pw : PW A.in1 s [Value.str a u1, .str b u2, .str c u3, .ref T1, .ref T2, .ref T3] ([Value.str a u1', .str b u2', .str c u3', Value.ref S1] ++ [Value.ref S2, Value.ref S3]) :=
    .cons (eqStr rfl) (.cons (eqStr rfl) (.cons (eqStr rfl) (.cons (eqTup N mt1 ms1 hu1 (.cons (eqStr rfl) (.cons (eqStr rfl) .nil))) (.cons (eqTup N mt2 ms2 hu1 (.cons (eqStr rfl) (.cons (eqStr rfl) .nil))) (.cons (eqTup N mt3 ms3 hu1 (.cons (eqStr rfl) (.cons (eqStr rfl) (.cons (eqStr rfl) .nil)))) .nil)))))
  have q := SeqAt.RcNeAt.lists (A := A) (s := s) (e := fun _ => true) (l := D1) (b := D2) (items := [Value.str a u1, .str b u2, .str c u3, .ref T1, .ref T2, .ref T3].toArray) (items2 := ([Value.str a u1', .str b u2', .str c u3', Value.ref S1] ++ [Value.ref S2, Value.ref S3]).toArray)
    ⟨_, (N _ m1).1, rfl, _, rfl⟩ ⟨_, (N _ m2).1, rfl, _, rfl⟩ rfl (by omega) (fun j h1 h2 => by simpa using pw.2 j (by simpa using h1) (by simpa using h2))
  rw [all_true] at q
  exact q _ _ _ _ h
end
noncomputable abbrev whites : Str := Str.ofString " \t\n\x0d\x0b\x0c"
noncomputable abbrev isW (c : Str) : Bool := (Builtin.Str.occurrences whites c 0 whites.length 1).isEmpty
noncomputable def twS (c : Str) : Str := if isW c = false then Str.ofString "/" else if (c == Str.ofString "/") = true then Str.ofString " " else c
theorem tw1 {c : Str} (h : isW c = false) : Str.ofString "/" = twS c := by unfold twS; rw [if_pos h]
theorem tw2 {c : Str} (h : isW c = true) (h2 : (c == Str.ofString "/") = true) : Str.ofString " " = twS c := by unfold twS; rw [if_neg (by rw [h]; decide), if_pos h2]
theorem tw3 {c : Str} (h : isW c = true) (h2 : (c == Str.ofString "/") = false) : c = twS c := by unfold twS; rw [if_neg (by rw [h]; decide), if_neg (by rw [h2]; decide)]
theorem twAt {x : Str} {i c : Nat} {g : Str} (hc : x.cps[i]? = some c) (hg : ((PyProof.Rows.signs x).map twS)[i]? = some g) : g = twS ⟨#[c]⟩ := by
  have h1 : x.cps.toList[i]? = some c := by simpa using hc
  simp only [PyProof.Rows.signs, List.getElem?_map, h1, Option.map_some, Option.some.injEq] at hg
  exact hg.symm
theorem strV {a b : Str} {u : Tok} (h : a = b) : Value.str a u = Value.str b u := h ▸ rfl
noncomputable def rzero : RSt := ⟨[], Str.ofString "", 0, 0, Str.ofString "", 0, false⟩
noncomputable abbrev smallF (c : Str) : Str := Txt.lower (Txt.replace c (Str.ofString "/") (Str.ofString " "))
noncomputable def dotStep (r : RSt) (c : Str) : RSt := if (c != Str.ofString ".") = true then { r with seen := true } else if r.seen = true then { r with dot := (r.great.length : Int) - 1 } else r
noncomputable def lastJoin : List Str → Str → List Str
  | [], _ => []
  | [a], c => [a ++ c]
  | a :: b :: r, c => a :: lastJoin (b :: r) c
noncomputable def rstep (r : RSt) (c : Str) : RSt :=
  if isW c = false then
    { r with great := r.great ++ Str.ofString "/", dot := 0, seen := false, start := ((r.great ++ Str.ofString "/").length : Int),
             head := if r.ws = [] then r.great ++ Str.ofString "/" else if r.start < (r.great.length : Int) then r.great else r.head,
             front := if r.ws = [] then r.front + 1 else r.front }
  else if r.start = (r.great.length : Int) then dotStep { r with ws := r.ws ++ [c], great := r.great ++ Txt.upper (smallF c) } c
  else dotStep { r with ws := lastJoin r.ws c, great := r.great ++ smallF c } c
noncomputable def rat (x : Str) (i : Nat) : RSt := ((PyProof.Rows.signs x).take i).foldl rstep rzero
noncomputable def RB (n : Nat) (r : RSt) : Prop := r.great.length ≤ 9 * n ∧ r.head.length ≤ 9 * n ∧ wt r.ws ≤ 2 * n ∧ (0 ≤ r.front ∧ r.front ≤ (n : Int)) ∧ (0 ≤ r.start ∧ r.start ≤ (r.great.length : Int)) ∧ (0 ≤ r.dot ∧ r.dot ≤ ((9 * n : Nat) : Int)) ∧ (r.start = (r.great.length : Int) ∨ r.ws ≠ [])
theorem wt_snoc (ws : List Str) (c : Str) : wt (ws ++ [c]) = wt ws + (c.length + 1) := by rw [wt_append, wt_cons]; rfl
theorem lastJoin_wt : ∀ (ws : List Str) (c : Str), wt (lastJoin ws c) ≤ wt ws + c.length
  | [], c => Nat.zero_le _
  | [a], c => by
    show wt [a ++ c] ≤ _
    rw [wt_cons, wt_cons, Str.length_append]
    exact Nat.le_of_eq (by ac_rfl)
  | a :: b :: r, c => by
    have := lastJoin_wt (b :: r) c
    show wt (a :: lastJoin (b :: r) c) ≤ _
    rw [wt_cons, wt_cons a]
    exact Nat.le_trans (Nat.add_le_add_left this _) (Nat.le_of_eq (Nat.add_assoc _ _ _).symm)
theorem lastJoin_ne : ∀ {ws : List Str} {c : Str}, ws ≠ [] → lastJoin ws c ≠ []
  | [], _, h => absurd rfl h
  | [a], _, _ => List.cons_ne_nil _ _
  | a :: b :: r, _, _ => List.cons_ne_nil _ _
theorem small_le {c : Str} (h : c.length = 1) : (smallF c).length ≤ 3 := by
  have h1 := len_lower (Txt.replace c (Str.ofString "/") (Str.ofString " "))
  have h2 : (Txt.replace c (Str.ofString "/") (Str.ofString " ")).length = c.length := replace_len c 47 32
  unfold smallF; omega
theorem dot_len {c : Str} (h : (c != Str.ofString ".") = false) : (Txt.upper (smallF c)).length = 1 ∧ (smallF c).length = 1 := by
  have : c = Str.ofString "." := by simpa using h
  subst this
  exact ⟨by decide +kernel, by decide +kernel⟩
theorem dotStep_RB {n : Nat} {r : RSt} {c : Str} (h : RB n r) (hd : (c != Str.ofString ".") = false → 1 ≤ r.great.length) : RB n (dotStep r c) := by
  obtain ⟨h1, h2, h3, h4, h5, h6, h7⟩ := h
  unfold dotStep
  split
  · exact ⟨h1, h2, h3, h4, h5, h6, h7⟩
  · rename_i hc
    split
    · have := hd (by simpa using hc)
      exact ⟨h1, h2, h3, h4, h5, ⟨by show (0:Int) ≤ (r.great.length : Int) - 1; omega, by show (r.great.length : Int) - 1 ≤ _; omega⟩, h7⟩
    · exact ⟨h1, h2, h3, h4, h5, h6, h7⟩
theorem add9 {a b n : Nat} (h : a ≤ 9 * n) (hb : b ≤ 9) : a + b ≤ 9 * (n + 1) := Nat.add_le_add h hb
theorem up9 {a n : Nat} (h : a ≤ 9 * n) : a ≤ 9 * (n + 1) := Nat.le_trans h (Nat.mul_le_mul_left 9 (Nat.le_succ n))
theorem up2 {a n : Nat} (h : a ≤ 2 * n) : a ≤ 2 * (n + 1) := Nat.le_trans h (Nat.mul_le_mul_left 2 (Nat.le_succ n))
theorem upI {a : Int} {n m : Nat} (h : a ≤ (n : Int)) (hm : n ≤ m) : a ≤ (m : Int) := Int.le_trans h (Int.ofNat_le.mpr hm)
theorem oneI {a : Int} {n : Nat} (h0 : 0 ≤ a) (h : a ≤ (n : Int)) : 0 ≤ a + 1 ∧ a + 1 ≤ ((n + 1 : Nat) : Int) := ⟨Int.le_add_one h0, Int.add_le_add_right h 1⟩
theorem rstep_RB {n : Nat} {r : RSt} {c : Str} (h : RB n r) (hc : c.length = 1) : RB (n + 1) (rstep r c) := by
  obtain ⟨h1, h2, h3, ⟨h4, h4'⟩, ⟨h5, h5'⟩, ⟨h6, h6'⟩, h7⟩ := h
  have hs := small_le hc
  have hu : (Txt.upper (smallF c)).length ≤ 9 := Nat.le_trans (len_upper (smallF c)) (Nat.mul_le_mul_left 3 hs)
  have hs9 : (smallF c).length ≤ 9 := Nat.le_trans hs (by decide)
  have hl : (Str.ofString "/").length ≤ 9 := by decide +kernel
  have hd0 : r.dot ≤ ((9 * (n + 1) : Nat) : Int) := upI h6' (up9 (Nat.le_refl _))
  have hf0 : r.front ≤ ((n + 1 : Nat) : Int) := upI h4' (Nat.le_succ n)
  have app : ∀ {y : Str}, y.length ≤ 9 → (r.great ++ y).length ≤ 9 * (n + 1) := fun hy => by rw [Str.length_append]; exact add9 h1 hy
  have st : ∀ y : Str, r.start ≤ ((r.great ++ y).length : Int) := fun y => upI h5' (by rw [Str.length_append]; exact Nat.le_add_right _ _)
  have one : ∀ {y : Str}, y.length = 1 → 1 ≤ (r.great ++ y).length := fun hy => by rw [Str.length_append, hy]; exact Nat.le_add_left 1 _
  unfold rstep
  split
  · refine ⟨app hl, ?_, up2 h3, ?_, ⟨Int.natCast_nonneg _, Int.le_refl _⟩, ⟨Int.le_refl 0, Int.natCast_nonneg _⟩, .inl rfl⟩
    · show (if r.ws = [] then r.great ++ Str.ofString "/" else if r.start < (r.great.length : Int) then r.great else r.head).length ≤ _
      split
      · exact app hl
      · split
        · exact up9 h1
        · exact up9 h2
    · show 0 ≤ (if r.ws = [] then r.front + 1 else r.front) ∧ (if r.ws = [] then r.front + 1 else r.front) ≤ _
      split
      · exact oneI h4 h4'
      · exact ⟨h4, hf0⟩
  · split
    · refine dotStep_RB ⟨app hu, up9 h2, ?_, ⟨h4, hf0⟩, ⟨h5, st _⟩, ⟨h6, hd0⟩, .inr (List.append_ne_nil_of_right_ne_nil _ (List.cons_ne_nil _ _))⟩ (fun hd => one (dot_len hd).1)
      show wt (r.ws ++ [c]) ≤ _
      rw [wt_snoc, hc]; exact Nat.add_le_add_right h3 2
    · rename_i hst
      refine dotStep_RB ⟨app hs9, up9 h2, ?_, ⟨h4, hf0⟩, ⟨h5, st _⟩, ⟨h6, hd0⟩, .inr (lastJoin_ne (h7.resolve_left hst))⟩ (fun hd => one (dot_len hd).2)
      exact Nat.le_trans (lastJoin_wt r.ws c) (by rw [hc]; exact Nat.le_trans (Nat.add_le_add_right h3 1) (Nat.le_succ _))
theorem rat_succ {x : Str} {i : Nat} (h : i < x.length) : rat x (i + 1) = rstep (rat x i) (Txt.item x (i : Int)) := by
  have h1 : (PyProof.Rows.signs x)[i]? = some (Txt.item x (i : Int)) := by
    rw [itemIs h]
    have h2 : x.cps.toList[i]? = some (x.cps[i]'h) := by rw [Array.getElem?_toList]; exact Array.getElem?_eq_getElem h
    simp only [PyProof.Rows.signs, List.getElem?_map, h2, Option.map_some]
  unfold rat
  rw [List.take_add_one, h1, List.foldl_append]; rfl
theorem item_len {x : Str} {i : Nat} (h : i < x.length) : (Txt.item x (i : Int)).length = 1 := by rw [itemIs h]; rfl
theorem rat_bound (x : Str) : ∀ (i : Nat), i ≤ x.length → RB i (rat x i)
  | 0, _ => by
    have h0 : RB 0 rzero := ⟨Nat.zero_le _, Nat.zero_le _, Nat.zero_le _, ⟨by decide, by decide⟩, ⟨by decide, by decide⟩, ⟨by decide, by decide⟩, .inl rfl⟩
    exact h0
  | i + 1, h => by rw [rat_succ (by omega)]; exact rstep_RB (rat_bound x i (by omega)) (item_len (by omega))
/-- the same, by numbers -/
noncomputable def RBc (r : RSt) : Prop := r.great.length ≤ 1000 ∧ r.head.length ≤ 1000 ∧ wt r.ws ≤ 1000 ∧ (0 ≤ r.front ∧ r.front ≤ 1000) ∧ (0 ≤ r.start ∧ r.start ≤ 1000) ∧ (0 ≤ r.dot ∧ r.dot ≤ 1000) ∧ (r.start = (r.great.length : Int) ∨ r.ws ≠ [])
theorem rat_boundc {x : Str} {i : Nat} (h : i ≤ x.length) (hx : x.length ≤ 100) : RBc (rat x i) := by
  obtain ⟨h1, h2, h3, ⟨h4, h4'⟩, ⟨h5, h5'⟩, ⟨h6, h6'⟩, h7⟩ := rat_bound x i h
  have hi : i ≤ 100 := Nat.le_trans h hx
  have h9 : 9 * i ≤ 1000 := Nat.le_trans (Nat.mul_le_mul_left 9 hi) (by decide)
  have h1' := Nat.le_trans h1 h9
  exact ⟨h1', Nat.le_trans h2 h9, Nat.le_trans h3 (Nat.le_trans (Nat.mul_le_mul_left 2 hi) (by decide)), ⟨h4, upI h4' (Nat.le_trans hi (by decide))⟩, ⟨h5, upI h5' h1'⟩, ⟨h6, upI h6' h9⟩, h7⟩
noncomputable abbrev pathF (x : Str) : Str := Txt.join (Str.ofString "") ((PyProof.Rows.signs x).map twS)
theorem dropW {h₀ h : Heap} {L : Addr} {a b : Addr × Obj} {c : Addr} {news : List (Addr × Obj)} (N : News h₀ L h (a :: b :: (c, listOf #[] 0) :: news)) : News h₀ L h ((c, listOf (strValues []).toArray 0) :: news) := fun z hz => N z (.tail _ (.tail _ hz))
noncomputable abbrev titleJ (l : List Str) : Str := Txt.join (Str.ofString " ") (l.map titleF)

section
variable {wsT : List (Str × Tok)} {ws : List Str} {g hd c : Str} {f st d : Int} {sn : Bool}
noncomputable def Halt9 (p : Prop) : Prop := p
theorem halt9 {p : Prop} (h : Halt9 p) : p := h
noncomputable def headStep (r : RSt) : RSt := { r with head := if r.ws = [] then r.great ++ Str.ofString "/" else if r.start < (r.great.length : Int) then r.great else r.head, front := if r.ws = [] then r.front + 1 else r.front }
noncomputable def lastStep (r : RSt) (c : Str) : RSt := if r.start = (r.great.length : Int) then { r with ws := r.ws ++ [c], great := r.great ++ Txt.upper (smallF c) } else { r with ws := lastJoin r.ws c, great := r.great ++ smallF c }
theorem hs1 (h2 : wsT = []) : headStep ⟨wsT.map (·.1), g, f, st, hd, d, sn⟩ = ⟨wsT.map (·.1), g, f + 1, st, g ++ Str.ofString "/", d, sn⟩ := by subst h2; rfl
theorem hs2 (h2 : wsT ≠ []) (h3 : st < (g.length : Int)) : headStep ⟨wsT.map (·.1), g, f, st, hd, d, sn⟩ = ⟨wsT.map (·.1), g, f, st, g, d, sn⟩ := by
  have h2' : wsT.map (·.1) ≠ [] := fun e => h2 (List.map_eq_nil_iff.mp e)
  unfold headStep; simp only [if_neg h2', if_pos h3]
theorem hs3 (h2 : wsT ≠ []) (h3 : ¬ st < (g.length : Int)) : headStep ⟨wsT.map (·.1), g, f, st, hd, d, sn⟩ = ⟨wsT.map (·.1), g, f, st, hd, d, sn⟩ := by
  have h2' : wsT.map (·.1) ≠ [] := fun e => h2 (List.map_eq_nil_iff.mp e)
  unfold headStep; simp only [if_neg h2', if_neg h3]
theorem ln1 (h2 : st = (g.length : Int)) : lastStep ⟨ws, g, f, st, hd, d, sn⟩ c = ⟨ws ++ [c], g ++ Txt.upper (smallF c), f, st, hd, d, sn⟩ := if_pos h2
theorem ln2 (h2 : st ≠ (g.length : Int)) : lastStep ⟨ws, g, f, st, hd, d, sn⟩ c = ⟨lastJoin ws c, g ++ smallF c, f, st, hd, d, sn⟩ := if_neg h2
theorem rsW {r : RSt} (h : isW c = false) : rstep r c = ⟨(headStep r).ws, (headStep r).great ++ Str.ofString "/", (headStep r).front, (((headStep r).great ++ Str.ofString "/").length : Int), (headStep r).head, 0, false⟩ := by unfold rstep; rw [if_pos h]; rfl
theorem rsN {r : RSt} (h : isW c = true) : rstep r c = dotStep (lastStep r c) c := by
  unfold rstep lastStep; rw [if_neg (by rw [h]; decide)]; split <;> rfl
theorem ds1 {r : RSt} (h : (c != Str.ofString ".") = true) : dotStep r c = ⟨r.ws, r.great, r.front, r.start, r.head, r.dot, true⟩ := if_pos h
theorem ds2 {r : RSt} (h : (c != Str.ofString ".") = false) (h4 : r.seen = true) : dotStep r c = ⟨r.ws, r.great, r.front, r.start, r.head, (r.great.length : Int) - 1, r.seen⟩ := by
  unfold dotStep; rw [if_neg (by rw [h]; decide), if_pos h4]
theorem ds3 {r : RSt} (h : (c != Str.ofString ".") = false) (h4 : r.seen = false) : dotStep r c = ⟨r.ws, r.great, r.front, r.start, r.head, r.dot, r.seen⟩ := by
  unfold dotStep; rw [if_neg (by rw [h]; decide), if_neg (by rw [h4]; decide)]
theorem lastGreat {r : RSt} (h : r.great.length ≤ 1000) (h1 : (smallF c).length ≤ 1000) (h2 : (Txt.upper (smallF c)).length ≤ 1000) : (lastStep r c).great.length ≤ 2000 := by
  unfold lastStep
  split
  · show (r.great ++ _).length ≤ _
    rw [Str.length_append]; exact Nat.add_le_add h h2
  · show (r.great ++ _).length ≤ _
    rw [Str.length_append]; exact Nat.add_le_add h h1
end
noncomputable def lastS : List (Str × Tok) → Str
  | [] => Str.empty
  | [a] => a.1
  | _ :: b :: r => lastS (b :: r)
noncomputable def lastK : List (Str × Tok) → Tok
  | [] => 0
  | [a] => a.2
  | _ :: b :: r => lastK (b :: r)
theorem dropLast_last : ∀ {w : List (Str × Tok)}, w ≠ [] → w = w.dropLast ++ [(lastS w, lastK w)]
  | [], h => absurd rfl h
  | [a], _ => rfl
  | a :: b :: r, _ => by
    have := dropLast_last (w := b :: r) (List.cons_ne_nil _ _)
    show a :: b :: r = a :: ((b :: r).dropLast ++ [(lastS (b :: r), lastK (b :: r))])
    rw [← this]
theorem lastJoin_map (c : Str) (t : Tok) : ∀ {w : List (Str × Tok)}, w ≠ [] → (w.dropLast ++ [(lastS w ++ c, t)]).map (·.1) = lastJoin (w.map (·.1)) c
  | [], h => absurd rfl h
  | [a], _ => rfl
  | a :: b :: r, _ => by
    have := lastJoin_map c t (w := b :: r) (List.cons_ne_nil _ _)
    show a.1 :: ((b :: r).dropLast ++ [(lastS (b :: r) ++ c, t)]).map (·.1) = a.1 :: lastJoin ((b :: r).map (·.1)) c
    rw [this]
theorem lastS_len {w : List (Str × Tok)} {k : Nat} (h : wt (w.map (·.1)) ≤ k) : (lastS w).length ≤ k := by
  cases w with
  | nil => exact Nat.zero_le _
  | cons a r =>
    have e := dropLast_last (w := a :: r) (List.cons_ne_nil _ _)
    rw [e, List.map_append, wt_append] at h
    have : wt ([(lastS (a :: r), lastK (a :: r))].map (·.1)) = (lastS (a :: r)).length + 1 + 0 := by rw [List.map_singleton, wt_cons]; rfl
    omega
theorem sub4 {a b c d : Addr × Obj} {R : List (Addr × Obj)} : ∀ p ∈ b :: R, p ∈ a :: b :: c :: d :: R := fun p hp => by
  rcases List.mem_cons.mp hp with rfl | hp
  · exact .tail _ (.head _)
  · exact .tail _ (.tail _ (.tail _ (.tail _ hp)))
theorem sub5 {a b c d e : Addr × Obj} {R : List (Addr × Obj)} : ∀ p ∈ b :: R, p ∈ a :: b :: c :: d :: e :: R := fun p hp => by
  rcases List.mem_cons.mp hp with rfl | hp
  · exact .tail _ (.head _)
  · exact .tail _ (.tail _ (.tail _ (.tail _ (.tail _ hp))))
theorem ownNe {D : Addr} {rest own R : List (Addr × Obj)} (h : AllLt D R) (hs : ∀ p ∈ rest ++ own, p ∈ R) : ∀ p ∈ own, p.1 ≠ D := fun p hp => Nat.ne_of_lt (kst_ltOf h p (hs p (List.mem_append_right _ hp)))
theorem dropLen {w : List (Str × Tok)} {k : Nat} (h : (strValues w).length ≤ k) : (strValues w.dropLast).length ≤ k := by simp [strValues] at h ⊢; omega
theorem map_snoc (w : List (Str × Tok)) (c : Str) (t : Tok) : (w ++ [(c, t)]).map (·.1) = w.map (·.1) ++ [c] := by simp
section
variable {prog : Program} {w : World} {A : Around} {E : Value → Shared → Prop} {s : Shared} {h₀ : Heap} {L l : Addr} {m : Str → Option Value} {news : List (Addr × Obj)}
theorem itemLast {value slice : Expr} {wsT : List (Str × Tok)} {n : Nat} {u : Tok} {Q : Value → Shared → Prop} {P : Prop} (N : News h₀ L s.heap news) (hm : (l, listOf (strValues wsT).toArray n) ∈ news) (hd : P ∨ wsT.map (·.1) ≠ []) (hn : ¬ P) (h : Q (.str (lastS wsT) (lastK wsT)) s)
    (hs : subscripted slice false (.ref l) (.int (-1) u) = operate [.ref l, .int (-1) u] (getItem (.ref l) (.int (-1) u))) :
    wpAny (model prog w) A (subscriptTail value slice (.ref l) (.int (-1) u)) Q E s := by
  have hne : wsT ≠ [] := fun e => (hd.resolve_left hn) (by rw [e]; rfl)
  have e := dropLast_last hne
  rw [e, strValues_snoc] at hm
  exact itemSnoc N hm h hs
theorem popPick {wsT : List (Str × Tok)} : (slicePick (strValues wsT).toArray none (some (-1)) none).toList = strValues wsT.dropLast := by
  have e : sliceBounds none (some (-1)) none (strValues wsT).toArray.size = (((0 : Nat) : Int), (((strValues wsT).toArray.size - 1 : Nat) : Int), 1) := by
    simp only [sliceBounds, Option.getD_none, show (1 : Int) > 0 by decide, if_true, if_pos (show (-1 : Int) < 0 by decide)]
    congr 1
    congr 1
    omega
  rw [kmk_pick_nat _ e]
  show ((strValues wsT).drop 0).take ((strValues wsT).toArray.size - 1 - 0) = _
  rw [List.drop_zero, Nat.sub_zero, List.size_toArray]
  simp [strValues, List.dropLast_eq_take]
end
section
variable {h₀ : Heap} {L : Addr} {x px : Str} {ts tx tp : Tok}
theorem agAtI {own R big : List (Addr × Obj)} {r0 : RSt} {kv : Value} {s : Shared} {h' : Heap} {tk : Nat} {m' : Str → Option Value} {W : Addr} {wl : List Str} {g hd : Str} {f st d : Int} {sn : Bool} {vs : List Value} {nw : Nat} {t1 t2 t3 t4 t5 : Tok} (wsT : List (Str × Tok))
    (htk : 1 ≤ tk) (F : Fr h₀ L h' m') (N : News h₀ L h' big) (hs : ∀ p ∈ (W, listOf vs.toArray nw) :: R, p ∈ big) (ho : ∀ p ∈ own, p.1 ≠ W)
    (h1 : m' (Str.ofString "words") = some (.ref W)) (h2 : m' (Str.ofString "great") = some (.str g t1)) (h3 : m' (Str.ofString "front") = some (.int f t2)) (h4 : m' (Str.ofString "start") = some (.int st t3)) (h5 : m' (Str.ofString "head") = some (.str hd t4)) (h6 : m' (Str.ofString "dot") = some (.int d t5)) (h7 : m' (Str.ofString "seen") = some (.bool sn))
    (h8 : m' (Str.ofString "signs") = some (.str x ts)) (h9 : m' (Str.ofString "text") = some (.str x tx)) (h10 : m' (Str.ofString "path") = some (.str px tp)) (hk : m' (Str.ofString "k") = some kv)
    (e : r0 = ⟨wl, g, f, st, hd, d, sn⟩) (hv : vs = strValues wsT) (hw : wsT.map (·.1) = wl) : AgAt h₀ L x ts tx px tp own R r0 (some kv) s { s with heap := h', toks := tk } := by
  rw [e]
  subst hv
  exact ⟨h', tk, m', W, wsT, nw, t1, t2, t3, t4, t5, rfl, htk, F, fun p hp => N p (hs p hp), ho, hw, agPsI h1 h2 h3 h4 h5 h6 h7 h8 h9 h10, fun v hv => by cases hv; exact hk⟩
end
/-- the printable signs -/
noncomputable def Pr (c : Nat) : Prop := c < 127 ∧ (c ≤ 13 ∨ 32 ≤ c)
noncomputable def wh (c : Nat) : Bool := c == 32 || (9 ≤ c && c ≤ 13)
noncomputable def up (c : Nat) : Nat := if 97 ≤ c ∧ c ≤ 122 then c - 32 else c
noncomputable def lo (c : Nat) : Nat := if 65 ≤ c ∧ c ≤ 90 then c + 32 else c
noncomputable def sm (c : Nat) : Nat := if c = 47 then 32 else c
theorem upAll : ∀ c : Fin 127, Unicode.upperOf c.1 = [up c.1] := by decide +kernel
theorem titleAll : ∀ c : Fin 127, Unicode.titleOf c.1 = [up c.1] := by decide +kernel
theorem lowAll : ∀ c : Fin 127, Unicode.lowerOf c.1 = [lo c.1] := by decide +kernel
theorem spcAll : ∀ c : Fin 127, (28 ≤ c.1 ∧ c.1 ≤ 31) ∨ Unicode.isSpace c.1 = wh c.1 := by decide +kernel
theorem spc {c : Nat} (h : Pr c) : Unicode.isSpace c = wh c := by
  rcases spcAll ⟨c, h.1⟩ with q | q
  · have := h.2; dsimp only at q; omega
  · exact q
theorem up_big {c : Nat} (h : 127 ≤ c) : up c = c := if_neg (fun q => absurd (Nat.le_trans h q.2) (by decide))
theorem lo_big {c : Nat} (h : 127 ≤ c) : lo c = c := if_neg (fun q => absurd (Nat.le_trans h q.2) (by decide))
theorem sm_big {c : Nat} (h : 127 ≤ c) : sm c = c := if_neg (fun q => absurd (q ▸ h) (by decide))
/-- a word of every sign: the small ones one by one -/
theorem signs_all {P : Nat → Prop} (h : ∀ c : Fin 127, P c.1) (h2 : ∀ c, 127 ≤ c → P c) (c : Nat) : P c :=
  if q : c < 127 then h ⟨c, q⟩ else h2 c (Nat.le_of_not_lt q)
/-- a list of codes as a text -/
noncomputable abbrev S (l : List Nat) : Str := ⟨l.toArray⟩
theorem S_eq (x : Str) : S x.cps.toList = x := rfl
theorem S_app (a b : List Nat) : S a ++ S b = S (a ++ b) := Str.ext' (by rw [Str.cps_append]; simp)
theorem S_len (a : List Nat) : (S a).length = a.length := by simp [Str.length]
theorem S_inj {a b : List Nat} (h : S a = S b) : a = b := by
  have := congrArg (fun x : Str => x.cps.toList) h
  simpa using this
theorem S_of {x : Str} {l : List Nat} (h : x.cps.toList = l) : x = S l := by rw [← h]
theorem flat1 {α β : Type} (g : Nat → α → β) (f : Nat → α → List β) : ∀ (l : List α), (∀ i c, l[i]? = some c → f i c = [g i c]) → ((l.mapIdx f).flatten) = l.mapIdx g
  | [], _ => rfl
  | a :: l, h => by
    have ih := flat1 (fun i => g (i + 1)) (fun i => f (i + 1)) l (fun i c hc => h (i + 1) c (by simpa using hc))
    have h0 := h 0 a rfl
    rw [List.mapIdx_cons, List.mapIdx_cons, List.flatten_cons, h0]
    show [g 0 a] ++ (l.mapIdx fun i => f (i + 1)).flatten = _
    rw [ih]; rfl
theorem placedIs (l : List Nat) (f : Nat → Nat → List Nat) (g : Nat → Nat → Nat) (h : ∀ i c, l[i]? = some c → f i c = [g i c]) : (placed (S l) f).toList = l.mapIdx g := by
  rw [← flat1 g f l h]
  unfold placed
  have e : ∀ (l : List Nat) (f : Nat → Nat → List Nat), List.map Array.toList (List.mapIdx (fun i c => (f i c).toArray) l) = List.mapIdx f l := by
    intro l
    induction l with
    | nil => intro f; rfl
    | cons a r ih => intro f; rw [List.mapIdx_cons, List.mapIdx_cons, List.map_cons, ih fun i c => f (i + 1) c]
  simp only [Array.toList_flatten, Array.toList_mapIdx, e]
theorem prLow {l : List Nat} (hl : ∀ c ∈ l, Pr c) {i c : Nat} (h : l[i]? = some c) : Unicode.lowerAt (S l).cps i = [lo c] := by
  have hc := hl c (List.mem_of_getElem? h)
  have h' : (S l).cps[i]? = some c := by simpa using h
  unfold Unicode.lowerAt
  rw [h']
  dsimp only
  have : (c == 931) = false := by have := hc.1; simp; omega
  rw [this, Bool.false_and]
  simpa using lowAll ⟨c, hc.1⟩
theorem mapIdx_const {α β : Type} (g : α → β) : ∀ l : List α, l.mapIdx (fun _ c => g c) = l.map g
  | [] => rfl
  | a :: r => by rw [List.mapIdx_cons, List.map_cons, mapIdx_const g r]
theorem upperS {l : List Nat} (hl : ∀ c ∈ l, Pr c) : Txt.upper (S l) = S (l.map up) := by
  unfold Txt.upper
  refine Str.ext' (Array.toList_inj.mp ?_)
  show (placed (S l) _).toList = _
  rw [placedIs l _ (fun _ c => up c) (fun i c h => upAll ⟨c, (hl c (List.mem_of_getElem? h)).1⟩), mapIdx_const]
theorem lowerS {l : List Nat} (hl : ∀ c ∈ l, Pr c) : Txt.lower (S l) = S (l.map lo) := by
  unfold Txt.lower
  refine Str.ext' (Array.toList_inj.mp ?_)
  show (placed (S l) _).toList = _
  rw [placedIs l _ (fun _ c => lo c) (fun i c h => prLow hl h), mapIdx_const]
/-- the first sign great, the others small -/
noncomputable def capL : List Nat → List Nat
  | [] => []
  | c :: r => up c :: r.map lo
theorem capS {l : List Nat} (hl : ∀ c ∈ l, Pr c) : Txt.capitalize (S l) = S (capL l) := by
  unfold Txt.capitalize
  cases l with
  | nil => rfl
  | cons a r =>
    rw [if_neg (by rw [S_len]; simp)]
    unfold Txt.capitalized
    refine Str.ext' (Array.toList_inj.mp ?_)
    show (placed (S (a :: r)) _).toList = _
    rw [placedIs (a :: r) _ (fun i c => if i = 0 then up c else lo c) (fun i c h => ?_)]
    · rw [List.mapIdx_cons]
      show up a :: r.mapIdx (fun i c => if i + 1 = 0 then up c else lo c) = up a :: r.map lo
      rw [← mapIdx_const lo r]; simp
    · cases i with
      | zero => exact titleAll ⟨c, (hl c (List.mem_of_getElem? h)).1⟩
      | succ i => exact prLow hl h
/-- white pieces -/
theorem words_st : ∀ (l : List Nat), (∀ c ∈ l, Pr c) → ∀ (st : KWd.St), l.foldl KWd.step st = l.foldl (fun st c => if wh c = true then (if st.2.length = 0 then st else (st.1 ++ [st.2], Str.empty)) else (st.1, st.2 ++ ⟨#[c]⟩)) st
  | [], _, _ => rfl
  | a :: l, h, st => by
    rw [List.foldl_cons, List.foldl_cons, words_st l (fun c hc => h c (.tail _ hc))]
    congr 1
    unfold KWd.step
    rw [spc (h a (.head _))]
/-- the pieces between white signs: those that are closed, and the open one -/
noncomputable abbrev Pc := List (List Nat) × List Nat
noncomputable def stp (s : Pc) (c : Nat) : Pc := if wh c = true then (s.1 ++ [s.2], []) else (s.1, s.2 ++ [c])
noncomputable def pcs (l : List Nat) : Pc := l.foldl stp ([], [])
theorem pcs_snoc (l : List Nat) (c : Nat) : pcs (l ++ [c]) = stp (pcs l) c := by unfold pcs; rw [List.foldl_append]; rfl
noncomputable def ne (d : List (List Nat)) : List (List Nat) := d.filter (fun p => !p.isEmpty)
/-- a piece as the path has it -/
noncomputable def T (p : List Nat) : List Nat := capL (p.map sm)
noncomputable def bas (d : List (List Nat)) : List Nat := d.flatMap (fun p => T p ++ [47])
/-- without the slashes at the end -/
noncomputable def rs : List Nat → List Nat := fun l => (l.reverse.dropWhile (· == 47)).reverse
noncomputable def hd (d : List (List Nat)) : List Nat := if ne d = [] then bas d else rs (bas d)
noncomputable def seenOf (p : List Nat) : Bool := p.any (· != 46)
/-- where the last dot lies behind a sign that is no dot, from the end -/
noncomputable def dotR (st : Nat) : List Nat → Nat
  | [] => 0
  | c :: r => if c = 46 then (if seenOf r then st + r.length else 0) else dotR st r
noncomputable def dotOf (st : Nat) (p : List Nat) : Nat := dotR st p.reverse
noncomputable def frontOf (d : List (List Nat)) : Nat := (d.takeWhile (·.isEmpty)).length
noncomputable def absR (s : Pc) : RSt :=
  ⟨(ne (s.1 ++ [s.2])).map S, S (bas s.1 ++ T s.2), frontOf s.1, (bas s.1).length, S (hd s.1), dotOf (bas s.1).length s.2, seenOf s.2⟩
theorem T_nil : T [] = [] := rfl
theorem T_one (c : Nat) : T [c] = [up (sm c)] := rfl
theorem T_snoc {p : List Nat} (c : Nat) (h : p ≠ []) : T (p ++ [c]) = T p ++ [lo (sm c)] := by
  cases p with
  | nil => exact absurd rfl h
  | cons a r => simp [T, capL]
theorem T_len (p : List Nat) : (T p).length = p.length := by cases p <;> simp [T, capL]
theorem T_ne {p : List Nat} : T p = [] ↔ p = [] := by rw [← List.length_eq_zero_iff, T_len, List.length_eq_zero_iff]
theorem bas_snoc (d : List (List Nat)) (p : List Nat) : bas (d ++ [p]) = bas d ++ T p ++ [47] := by simp [bas]
theorem ne_app (a b : List (List Nat)) : ne (a ++ b) = ne a ++ ne b := List.filter_append ..
theorem ne_one {p : List Nat} (h : p ≠ []) : ne [p] = [p] := by cases p with | nil => exact absurd rfl h | cons _ _ => rfl
theorem ne_nil1 : ne [[]] = [] := rfl
theorem up_ne {c : Nat} : c ≠ 47 → up c ≠ 47 := signs_all (P := fun c => c ≠ 47 → up c ≠ 47) (by decide) (fun c h q => by rw [up_big h]; exact q) c
theorem lo_ne {c : Nat} : c ≠ 47 → lo c ≠ 47 := signs_all (P := fun c => c ≠ 47 → lo c ≠ 47) (by decide) (fun c h q => by rw [lo_big h]; exact q) c
theorem sm_ne (c : Nat) : sm c ≠ 47 := signs_all (P := fun c => sm c ≠ 47) (by decide) (fun c h q => by rw [sm_big h] at q; exact absurd (q ▸ h) (by decide)) c
theorem capL_free {l : List Nat} (h : 47 ∉ l) : 47 ∉ capL l := by
  cases l with
  | nil => exact h
  | cons a r =>
    intro m
    rcases List.mem_cons.mp m with e | m
    · exact up_ne (fun e' => h (e' ▸ .head _)) e.symm
    · obtain ⟨b, hb, e⟩ := List.mem_map.mp m
      exact lo_ne (fun e' => h (e' ▸ .tail _ hb)) e
theorem sm_free (p : List Nat) : 47 ∉ p.map sm := fun m => by
  obtain ⟨b, _, e⟩ := List.mem_map.mp m
  exact sm_ne b e
theorem T_free (p : List Nat) : 47 ∉ T p := capL_free (sm_free p)
theorem rs_slash (l : List Nat) : rs (l ++ [47]) = rs l := by simp [rs]
theorem rs_snoc {l : List Nat} {c : Nat} (h : c ≠ 47) : rs (l ++ [c]) = l ++ [c] := by
  unfold rs
  rw [List.reverse_append]
  show (List.dropWhile _ (c :: l.reverse)).reverse = _
  rw [List.dropWhile_cons_of_neg (by simpa using h)]
  simp
theorem rs_T (l : List Nat) {p : List Nat} (h : p ≠ []) : rs (l ++ T p) = l ++ T p := by
  have hT : T p ≠ [] := fun e => h (T_ne.mp e)
  have e := (List.dropLast_concat_getLast hT).symm
  have hl : (T p).getLast hT ≠ 47 := fun e => T_free p (e ▸ List.getLast_mem hT)
  rw [e, ← List.append_assoc, rs_snoc hl]
theorem map_ne {s : List (List Nat)} : s.map S = [] ↔ s = [] := List.map_eq_nil_iff
theorem front_snoc {d : List (List Nat)} {p : List Nat} : frontOf (d ++ [p]) = if ne (d ++ [p]) = [] then frontOf d + 1 else frontOf d := by
  unfold frontOf
  by_cases hd : ∀ q ∈ d, q.isEmpty = true
  · have hn : ne d = [] := by unfold ne; rw [List.filter_eq_nil_iff]; intro a ha; simp [hd a ha]
    have e : ∀ r, (d ++ r).takeWhile (·.isEmpty) = d ++ r.takeWhile (·.isEmpty) := fun r => List.takeWhile_append_of_pos hd
    rw [e, ne_app, hn]
    have e2 : d.takeWhile (·.isEmpty) = d := by have := e []; simpa using this
    rw [e2]
    cases p with
    | nil => simp [ne]
    | cons a r => simp [ne]
  · have hne : ne d ≠ [] := fun h => hd (fun q hq => by
      have := (List.filter_eq_nil_iff.mp h) q hq
      simpa using this)
    rw [if_neg (by rw [ne_app]; simp [hne]), List.takeWhile_append]
    rw [if_neg]
    intro hl
    have e := (List.takeWhile_prefix (·.isEmpty) (l := d)).eq_of_length hl
    exact hd (fun q hq => by rw [← e] at hq; exact List.all_eq_true.mp (List.all_takeWhile) q hq)
theorem lastJoin_S (c : Nat) (p : List Nat) : ∀ (d : List (List Nat)), lastJoin ((d ++ [p]).map S) (S [c]) = (d ++ [p ++ [c]]).map S
  | [] => by show [S p ++ S [c]] = [S (p ++ [c])]; rw [S_app]
  | [a] => by show [S a, S p ++ S [c]] = [S a, S (p ++ [c])]; rw [S_app]
  | a :: b :: r => by
    have ih := lastJoin_S c p (b :: r)
    show S a :: lastJoin (((b :: r) ++ [p]).map S) (S [c]) = S a :: ((b :: r) ++ [p ++ [c]]).map S
    rw [ih]
theorem prAll1 : ∀ c : Fin 127, (c.1 ≤ 13 ∨ 32 ≤ c.1) → (sm c.1 < 127 ∧ (sm c.1 ≤ 13 ∨ 32 ≤ sm c.1)) ∧ (lo c.1 < 127 ∧ (lo c.1 ≤ 13 ∨ 32 ≤ lo c.1)) := by decide
theorem pr_sm {c : Nat} (h : Pr c) : Pr (sm c) := (prAll1 ⟨c, h.1⟩ h.2).1
theorem pr_lo {c : Nat} (h : Pr c) : Pr (lo c) := (prAll1 ⟨c, h.1⟩ h.2).2
theorem up_lo : ∀ c : Nat, up (lo c) = up c := signs_all (by decide) (fun c h => by rw [lo_big h])
theorem repl1 (c : Nat) : Txt.replace (S [c]) (Str.ofString "/") (Str.ofString " ") = S [sm c] := by
  refine S_of ?_
  have h := replace_map (S [c]) 47 32
  rw [show Txt.replace (S [c]) (Str.ofString "/") (Str.ofString " ") = Txt.replace (S [c]) ⟨#[47]⟩ ⟨#[32]⟩ from rfl, h]
  rfl
theorem small1 {c : Nat} (h : Pr c) : smallF (S [c]) = S [lo (sm c)] := by
  unfold smallF
  rw [repl1, lowerS (by intro d hd; rw [List.mem_singleton.mp hd]; exact pr_sm h)]; rfl
theorem small2 {c : Nat} (h : Pr c) : Txt.upper (smallF (S [c])) = S [up (sm c)] := by
  rw [small1 h, upperS (by intro d hd; rw [List.mem_singleton.mp hd]; exact pr_lo (pr_sm h))]
  show S [up (lo (sm c))] = _
  rw [up_lo]
theorem whitesIs : whites.cps.toList = [32, 9, 10, 13, 11, 12] := by decide +kernel
theorem whAll : ∀ c : Fin 127, decide (c.1 ∈ [32, 9, 10, 13, 11, 12]) = wh c.1 := by decide
theorem whBig {c : Nat} (h : 127 ≤ c) : decide (c ∈ [32, 9, 10, 13, 11, 12]) = wh c := by
  have hs : ∀ a ∈ [32, 9, 10, 13, 11, 12], a < 127 := by decide
  have h1 : decide (c ∈ [32, 9, 10, 13, 11, 12]) = false := decide_eq_false (fun m => absurd (hs c m) (Nat.not_lt.mpr h))
  have h2 : (c == 32) = false := beq_false_of_ne (fun e => absurd (e ▸ h) (by decide))
  have h3 : decide (c ≤ 13) = false := decide_eq_false (fun q => absurd (Nat.le_trans h q) (by decide))
  rw [h1]; unfold wh; rw [h2, h3, Bool.and_false]; rfl
theorem isW_S (c : Nat) : isW (S [c]) = !(wh c) := by
  have h := StrLaws.found_one whites c
  have e : (Builtin.Str.occurrences whites (S [c]) 0 whites.length 1).isEmpty = !decide (c ∈ whites.cps.toList) := by rw [← h, Bool.not_not]
  show (Builtin.Str.occurrences whites (S [c]) 0 whites.length 1).isEmpty = _
  rw [e, whitesIs, signs_all (P := fun c => decide (c ∈ [32, 9, 10, 13, 11, 12]) = wh c) whAll (fun _ h => whBig h) c]
theorem dot1 (c : Nat) : (S [c] != Str.ofString ".") = (c != 46) := by
  rw [Bool.eq_iff_iff, bne_iff_ne, bne_iff_ne]
  refine not_congr ⟨fun h => ?_, fun h => h ▸ rfl⟩
  have : [c] = [46] := S_inj (h.trans rfl)
  simpa using this
theorem seen_snoc (p : List Nat) (c : Nat) : seenOf (p ++ [c]) = (seenOf p || c != 46) := by simp [seenOf]
theorem seen_rev (p : List Nat) : seenOf p.reverse = seenOf p := by simp [seenOf]
theorem dot_unseen (st : Nat) : ∀ p : List Nat, seenOf p = false → dotR st p = 0
  | [], _ => rfl
  | c :: r, h => by
    unfold dotR
    have h1 : (c != 46) = false ∧ seenOf r = false := by simpa [seenOf] using h
    rw [if_pos (by simpa using h1.1), if_neg (by rw [h1.2]; decide)]
theorem dot_snoc (st : Nat) (p : List Nat) (c : Nat) : dotOf st (p ++ [c]) = if c = 46 then (if seenOf p then st + p.length else 0) else dotOf st p := by
  unfold dotOf
  rw [List.reverse_append]
  show (if c = 46 then (if seenOf p.reverse then st + p.reverse.length else 0) else dotR st p.reverse) = _
  rw [seen_rev, List.length_reverse]
theorem absE {d : List (List Nat)} {p : List Nat} {W : List Str} {G H : Str} {f st D : Int} {B : Bool} (h1 : W = (ne (d ++ [p])).map S) (h2 : G = S (bas d ++ T p)) (h3 : f = frontOf d) (h4 : st = ((bas d).length : Int)) (h5 : H = S (hd d)) (h6 : D = ((dotOf (bas d).length p : Nat) : Int)) (h7 : B = seenOf p) :
    (⟨W, G, f, st, H, D, B⟩ : RSt) = absR (d, p) := by subst h1 h2 h3 h4 h5 h6 h7; rfl
theorem dotStep_abs {d : List (List Nat)} {p : List Nat} {c : Nat} {W : List Str} {G : Str} (h1 : W = (ne (d ++ [p ++ [c]])).map S) (h2 : G = S (bas d ++ T (p ++ [c]))) :
    dotStep ⟨W, G, frontOf d, ((bas d).length : Int), S (hd d), ((dotOf (bas d).length p : Nat) : Int), seenOf p⟩ (S [c]) = absR (d, p ++ [c]) := by
  unfold dotStep
  by_cases hc : c = 46
  · subst hc
    rw [if_neg (by rw [dot1]; decide)]
    cases hs : seenOf p with
    | true =>
      refine absE h1 h2 rfl rfl rfl ?_ (by rw [seen_snoc, hs]; rfl)
      show (G.length : Int) - 1 = _
      rw [dot_snoc, if_pos rfl, if_pos hs, h2, S_len, List.length_append, T_len, List.length_append]
      exact Int.add_sub_cancel (((bas d).length + p.length : Nat) : Int) 1
    | false =>
      refine absE h1 h2 rfl rfl rfl ?_ (by rw [seen_snoc, hs]; rfl)
      have : dotOf (bas d).length p = 0 := dot_unseen _ _ (by rw [seen_rev]; exact hs)
      rw [this, dot_snoc, if_pos rfl, hs]; rfl
  · have hc' : (c != 46) = true := bne_iff_ne.mpr hc
    rw [if_pos (by rw [dot1]; exact hc')]
    exact absE h1 h2 rfl rfl rfl (by rw [dot_snoc, if_neg hc]) (by rw [seen_snoc, hc', Bool.or_true])
theorem step_abs {s : Pc} {c : Nat} (h : Pr c) : rstep (absR s) (S [c]) = absR (stp s c) := by
  obtain ⟨d, p⟩ := s
  unfold stp rstep
  by_cases hw : wh c = true
  · rw [if_pos hw, if_pos (by rw [isW_S, hw]; rfl)]
    have e1 : ne (d ++ [p] ++ [[]]) = ne (d ++ [p]) := by rw [ne_app, ne_nil1, List.append_nil]
    have eg : S (bas d ++ T p) ++ Str.ofString "/" = S (bas (d ++ [p])) := by
      show S (bas d ++ T p) ++ S [47] = _
      rw [S_app, bas_snoc]
    refine absE (by rw [e1]; rfl) (eg.trans (by rw [T_nil, List.append_nil])) ?_ ?_ ?_ rfl rfl
    · show (if (ne (d ++ [p])).map S = [] then ((frontOf d : Int)) + 1 else (frontOf d : Int)) = _
      rw [front_snoc]
      simp only [map_ne]
      split <;> rfl
    · show (((S (bas d ++ T p) ++ Str.ofString "/").length : Nat) : Int) = _
      rw [eg, S_len]
    · show (if (ne (d ++ [p])).map S = [] then S (bas d ++ T p) ++ Str.ofString "/" else if ((bas d).length : Int) < ((S (bas d ++ T p)).length : Int) then S (bas d ++ T p) else S (hd d)) = _
      rw [eg]
      unfold hd
      by_cases hn : ne (d ++ [p]) = []
      · rw [if_pos (map_ne.mpr hn), if_pos hn]
      · rw [if_neg (fun q => hn (map_ne.mp q)), if_neg hn, bas_snoc, rs_slash, S_len, List.length_append, T_len]
        by_cases hp : p = []
        · subst hp
          have hn' : ne d ≠ [] := by rw [ne_app, ne_nil1, List.append_nil] at hn; exact hn
          rw [if_neg (show ¬ ((bas d).length : Int) < (((bas d).length + ([] : List Nat).length : Nat) : Int) from Int.lt_irrefl _), if_neg hn', T_nil, List.append_nil]
        · rw [rs_T _ hp, if_pos (Int.ofNat_lt.mpr (Nat.lt_add_of_pos_right (List.length_pos_iff.mpr hp)))]
  · rw [if_neg hw, if_neg (by rw [isW_S, (Bool.not_eq_true _).mp hw]; decide)]
    by_cases hp : p = []
    · subst hp
      have e0 : (absR (d, [])).start = ((absR (d, [])).great.length : Int) := by
        show ((bas d).length : Int) = ((S (bas d ++ T [])).length : Int)
        rw [S_len, T_nil, List.append_nil]
      rw [if_pos e0, small2 h]
      refine dotStep_abs (p := []) ?_ ?_
      · show (ne (d ++ [[]])).map S ++ [S [c]] = _
        rw [ne_app, ne_nil1, List.append_nil, ne_app, List.map_append]; rfl
      · show S (bas d ++ T []) ++ S [up (sm c)] = _
        rw [S_app, T_nil, List.append_nil]; rfl
    · have e0 : ¬ (absR (d, p)).start = ((absR (d, p)).great.length : Int) := by
        show ¬ ((bas d).length : Int) = ((S (bas d ++ T p)).length : Int)
        rw [S_len, List.length_append, T_len]
        exact fun e => hp (List.length_eq_zero_iff.mp (Nat.left_eq_add.mp (Int.ofNat.inj e)))
      rw [if_neg e0, small1 h]
      refine dotStep_abs ?_ ?_
      · show lastJoin ((ne (d ++ [p])).map S) (S [c]) = _
        rw [ne_app, ne_one hp, lastJoin_S, ne_app, ne_one (List.append_ne_nil_of_right_ne_nil _ (List.cons_ne_nil _ _))]
      · show S (bas d ++ T p) ++ S [lo (sm c)] = _
        rw [S_app, T_snoc c hp, List.append_assoc]
theorem rat_abs {l : List Nat} (hl : ∀ c ∈ l, Pr c) (i : Nat) : rat (S l) i = absR (pcs (l.take i)) := by
  have key : ∀ (l : List Nat), (∀ c ∈ l, Pr c) → ∀ s : Pc, (l.map fun c => S [c]).foldl rstep (absR s) = absR (l.foldl stp s) := by
    intro l
    induction l with
    | nil => intro _ s; rfl
    | cons a r ih =>
      intro h s
      rw [List.map_cons, List.foldl_cons, List.foldl_cons, step_abs (h a (.head _)), ih (fun c hc => h c (.tail _ hc))]
  have e : ((PyProof.Rows.signs (S l)).take i) = (l.take i).map fun c => S [c] := by
    unfold PyProof.Rows.signs
    rw [List.map_take]
  unfold rat
  rw [e, show rzero = absR ([], []) from rfl, key _ (fun c hc => hl c (List.mem_of_mem_take hc))]
  rfl
/-- the signs of the twin path -/
noncomputable def tw (c : Nat) : Nat := if wh c = true then 47 else sm c
theorem twS_S (c : Nat) : twS (S [c]) = S [tw c] := by
  unfold twS tw
  rw [isW_S]
  by_cases hw : wh c = true
  · rw [if_pos (by rw [hw]; rfl), if_pos hw]; rfl
  · have hw' : wh c = false := by simpa using hw
    rw [if_neg (by rw [hw']; decide), if_neg hw]
    unfold sm
    by_cases h : c = 47
    · subst h; rw [if_pos rfl, if_pos (by decide)]; rfl
    · rw [if_neg h, if_neg]
      intro e
      have : [c] = [47] := S_inj ((eq_of_beq e).trans rfl)
      exact h (by simpa using this)
/-- texts joined, as lists -/
noncomputable def jn (sep : List Nat) : List (List Nat) → List Nat
  | [] => []
  | [a] => a
  | a :: b :: r => a ++ sep ++ jn sep (b :: r)
theorem jn_cons (sep a : List Nat) {r : List (List Nat)} (h : r ≠ []) : jn sep (a :: r) = a ++ sep ++ jn sep r := by
  cases r with
  | nil => exact absurd rfl h
  | cons b r => rfl
theorem joinS (sep : List Nat) : ∀ ps : List (List Nat), Txt.join (S sep) (ps.map S) = S (jn sep ps) := by
  intro ps
  show Builtin.Str.glued (S sep) (ps.map S) = _
  rw [StrLaws.glued_eq_join]
  induction ps with
  | nil => rfl
  | cons a r ih =>
    cases r with
    | nil => rfl
    | cons b r =>
      show S a ++ S sep ++ Str.join (S sep) ((b :: r).map S) = _
      rw [ih, S_app, S_app]; rfl
theorem jn_empty : ∀ l : List Nat, jn [] (l.map fun c => [c]) = l
  | [] => rfl
  | [a] => rfl
  | a :: b :: r => by
    have := jn_empty (b :: r)
    show [a] ++ [] ++ jn [] ((b :: r).map fun c => [c]) = _
    rw [this]; rfl
theorem path_S (l : List Nat) : pathF (S l) = S (l.map tw) := by
  have e : (PyProof.Rows.signs (S l)).map twS = ((l.map tw).map fun c => [c]).map S := by
    unfold PyProof.Rows.signs
    rw [List.map_map, List.map_map, List.map_map]
    exact List.map_congr_left fun c _ => twS_S c
  show Txt.join (S []) _ = _
  rw [e, joinS, jn_empty]
theorem pathF_len (x : Str) : (pathF x).length = x.length := by
  have h := path_S x.cps.toList
  rw [S_eq] at h
  rw [h, S_len, List.length_map]; rfl
theorem signsLen (x : Str) (f : Str → Str) : ((PyProof.Rows.signs x).map f).length = x.cps.size := by unfold PyProof.Rows.signs; simp
theorem one_wt : ∀ l : List Nat, wt (l.map fun c => S [c]) = 2 * l.length
  | [] => rfl
  | a :: r => by
    have := one_wt r
    rw [List.map_cons, wt_cons, this, S_len]
    simp only [List.length_cons, List.length_nil]
    omega
theorem twWt (x : Str) : wt ((PyProof.Rows.signs x).map twS) ≤ 2 * x.length := by
  have e : (PyProof.Rows.signs x).map twS = (x.cps.toList.map tw).map fun c => S [c] := by
    unfold PyProof.Rows.signs
    rw [List.map_map, List.map_map]
    exact List.map_congr_left fun c _ => twS_S c
  rw [e, one_wt, List.length_map]; exact Nat.le_refl _
theorem rangeSz (n : Nat) : Builtin.Range.rangeSize 0 (n : Int) 1 = (n : Int) := by
  unfold Builtin.Range.rangeSize
  simp only [show (1 : Int) > 0 by decide, if_true]
  split
  · rw [Int.ediv_one]; omega
  · omega
theorem rangeSm {n : Nat} (h : n ≤ 100) : Builtin.Range.small 0 (n : Int) 1 = true := by
  unfold Builtin.Range.small
  rw [rangeSz]
  have f : ∀ a : Int, -1000 ≤ a → a ≤ 1000 → Builtin.Range.rangeFitsLong a = true := by
    intro a h1 h2
    unfold Builtin.Range.rangeFitsLong
    simp
    omega
  rw [f 0 (by decide) (by decide), f n (Int.le_trans (by decide) (Int.natCast_nonneg n)) (Int.ofNat_le.mpr (Nat.le_trans h (by decide))), f 1 (by decide) (by decide)]
  simp
  exact .inr (f _ (by omega) (by omega))
/-- what is told and what is due agree behind the sign at i -/
noncomputable def AgR (x : Str) (i : Nat) (r : RSt) : Prop :=
  capT (Txt.slice x none (some ((i : Int) + 1))) = titleJ r.ws ∧
  capP (Txt.slice (pathF x) none (some ((i : Int) + 1))) = r.great ∧
  normF r.great = plainOf r.front (r.ws.map titleF) ∧
  splitF r.great = (r.head, Txt.slice r.great (some r.start) none) ∧
  (∀ a b, SplitextIs r.great a b → a = Txt.slice r.great none (some (cutF r.dot r.great)) ∧ b = Txt.slice r.great (some (cutF r.dot r.great)) none) ∧
  splitrootF r.great = (Str.ofString "", rootF r.front, Txt.slice r.great (some ((rootF r.front).length : Int)) none)
section
variable {prog : Program} {w : World} {A : Around} {E : Value → Shared → Prop} {s : Shared} {h₀ : Heap} {L : Addr} {news : List (Addr × Obj)} {Q : Value → Shared → Prop}
theorem agreeNe2 {x : Str} {i : Nat} {r : RSt} {X Y : Str} {D1 D2 T1 T2 T3 S1 S2 S3 : Addr} {k1 k2 : Nat} {c p1 p2 q1 q2 r1 r2 r3 tt pl : Str} {wl : List Str} {u1 u2 u3 v1 v2 w1 w2 z1 z2 z3 u1' u2' u3' v1' v2' w1' w2' z1' z2' z3' : Tok}
    (hag : AgR x i r) (hX : X = Txt.slice x none (some ((i : Int) + 1))) (hY : Y = Txt.slice (pathF x) none (some ((i : Int) + 1)))
    (N : News h₀ L s.heap news) (m1 : (D1, listOf [Value.str (capT X) u1, .str (capP Y) u2, .str c u3, .ref T1, .ref T2, .ref T3].toArray k1) ∈ news) (mt1 : (T1, tupO [.str p1 v1, .str p2 v2]) ∈ news) (mt2 : (T2, tupO [.str q1 w1, .str q2 w2]) ∈ news) (mt3 : (T3, tupO [.str r1 z1, .str r2 z2, .str r3 z3]) ∈ news)
    (m2 : (D2, listOf ([Value.str tt u1', .str r.great u2', .str pl u3', Value.ref S1] ++ [Value.ref S2, Value.ref S3]).toArray k2) ∈ news) (ms1 : (S1, tupO [.str r.head v1', .str (Txt.slice r.great (some r.start) none) v2']) ∈ news) (ms2 : (S2, tupO [.str (Txt.slice r.great none (some (cutF r.dot r.great))) w1', .str (Txt.slice r.great (some (cutF r.dot r.great)) none) w2']) ∈ news) (ms3 : (S3, tupO [.str (Str.ofString "") z1', .str (rootF r.front) z2', .str (Txt.slice r.great (some ((rootF r.front).length : Int)) none) z3']) ∈ news)
    (hw : wl = r.ws) (ett : tt = titleJ wl) (epl : pl = plainOf r.front (wl.map titleF))
    (ec : c = normF (capP Y)) (ep : (p1, p2) = splitF (capP Y)) (eq : SplitextIs (capP Y) q1 q2) (er : (r1, r2, r3) = splitrootF (capP Y)) (hu : A.units + 64 < cLine)
    (h : Q (.bool false) s) : wpAny (model prog w) A (compareOp .NotEq (.ref D1) (.ref D2)) Q E s := by
  obtain ⟨g1, g2, g3, g4, g5, g6⟩ := hag
  subst hX hY hw
  rw [g2] at ec ep eq er m1
  rw [g1] at m1
  rw [g3] at ec
  rw [g4] at ep
  rw [g6] at er
  obtain ⟨eq1, eq2⟩ := g5 _ _ eq
  injection ep with ep1 ep2
  injection er with er1 er
  injection er with er2 er3
  exact agreeNe N m1 mt1 mt2 mt3 m2 ms1 ms2 ms3 ett.symm rfl (ec.trans epl.symm) ep1 ep2 eq1 eq2 er1 er2 er3 hu h
theorem itemHead {l : Addr} {value slice : Expr} {vs : List Value} {v : Value} {n : Nat} {u : Tok} (N : News h₀ L s.heap news) (hm : (l, listOf vs.toArray n) ∈ news) (hv : vs[0]? = some v) (h : Q v s)
    (hs : subscripted slice false (.ref l) (.int 0 u) = operate [.ref l, .int 0 u] (getItem (.ref l) (.int 0 u))) :
    wpAny (model prog w) A (subscriptTail value slice (.ref l) (.int 0 u)) Q E s := by
  have hL : s.heap.IsList l vs.toArray := ⟨_, (N _ hm).1, rfl, n, rfl⟩
  exact tail_any hL.typeIs slot_list_getitem.lookup (wpAny_getItem_list hL (by decide) (by decide) (by simpa using hv) h) hs
theorem agEndI {x px : Str} {ts tx tp : Tok} {title : List Str → Str} {own rest R big : List (Addr × Obj)} {r : RSt} {wsT : List (Str × Tok)} {nw : Nat} {W D : Addr} {t1 t2 t3 t4 t5 u : Tok} {m' : Str → Option Value} {h' : Heap} {tk : Nat} {vs : List Value} {oW : Obj}
    (F : Fr h₀ L h' m') (N : News h₀ L h' big) (hD : (D, listOf vs.toArray 0) ∈ big) (hW : (W, listOf (strValues wsT).toArray nw) ∈ big) (hR : ∀ p ∈ R, p ∈ big) (hRo : ∀ p ∈ rest ++ own, p ∈ R) (ho : ∀ p ∈ own, p.1 ≠ W) (hlt : AllLt D ((W, oW) :: R)) (hw : wsT.map (·.1) = r.ws)
    (h1 : m' (Str.ofString "words") = some (.ref W)) (h2 : m' (Str.ofString "great") = some (.str r.great t1)) (h3 : m' (Str.ofString "front") = some (.int r.front t2)) (h4 : m' (Str.ofString "start") = some (.int r.start t3)) (h5 : m' (Str.ofString "head") = some (.str r.head t4)) (h6 : m' (Str.ofString "dot") = some (.int r.dot t5)) (h7 : m' (Str.ofString "seen") = some (.bool r.seen))
    (h8 : m' (Str.ofString "signs") = some (.str x ts)) (h9 : m' (Str.ofString "text") = some (.str x tx)) (h10 : m' (Str.ofString "path") = some (.str px tp)) (hd : m' (Str.ofString "due") = some (.ref D)) (hv : vs[0]? = some (.str (title r.ws) u)) :
    AgEnd h₀ L x ts tx px tp title rest own r s { s with heap := h', toks := tk } := by
  refine ⟨h', tk, m', W, wsT, nw, t1, t2, t3, t4, t5, [(D, listOf vs.toArray 0)], rfl, F, ?_, ho, ?_, hw, agPsI h1 h2 h3 h4 h5 h6 h7 h8 h9 h10, D, vs, u, rfl, hd, hv⟩
  · intro q hq
    rcases List.mem_cons.mp hq with rfl | hq
    · exact N _ hW
    · rcases List.mem_append.mp hq with hq | hq
      · rw [List.mem_singleton.mp hq]; exact N _ hD
      · exact N q (hR q (hRo q hq))
  · intro p hp q hq e
    rw [List.mem_singleton.mp hq] at e
    have := kst_ltOf hlt p (.tail _ (hRo p (List.mem_append_right _ hp)))
    exact absurd e (Nat.ne_of_lt this)
theorem titleV {tt : Str} {wsT : List (Str × Tok)} {wl : List Str} {u : Tok} {l : List Value} (h : tt = Txt.join (Str.ofString " ") ((wsT.map (·.1)).map titleF)) (hw : wsT.map (·.1) = wl) : (Value.str tt u :: l)[0]? = some (Value.str (titleJ wl) u) := by
  subst hw h; rfl
theorem capEq {x : Str} {wl : List Str} (h : capT x = titleJ wl) : (Txt.join (Str.ofString " ") (List.map Txt.capitalize (Txt.words x)) == titleJ wl) = true := by
  have h' : Txt.join (Str.ofString " ") (List.map Txt.capitalize (Txt.words x)) = titleJ wl := h
  rw [h']; exact beq_self_eq_true _
theorem itemSign {value slice : Expr} {x : Str} {i : Nat} {t u : Tok} (hi : i < x.length) (hx : x.length ≤ 100) (h : Q (.str (Txt.item x (i : Int)) s.toks) { s with toks := s.toks + 1 })
    (hs : subscripted slice false (.str x t) (.int (i : Int) u) = operate [.str x t, .int (i : Int) u] (getItem (.str x t) (.int (i : Int) u)))
    (ht : ∀ r, letTemporaryGo value (.str x t) r = pure ()) :
    wpAny (model prog w) A (subscriptTail value slice (.str x t) (.int (i : Int) u)) Q E s := KXi.item rfl (by omega) (by omega) (by omega) (fun _ => h) hs ht
theorem addB {x y : Str} {t u : Tok} (hx : x.length ≤ 1000) (hy : y.length ≤ 1000) (h : ∀ t' k, Q (.str (x ++ y) t') { s with toks := k }) : wpAny (model prog w) A (binaryOp .Add (.str x t) (.str y u)) Q E s :=
  SB.add h (by rw [sizeLine_eq]; exact Nat.le_trans (Nat.add_le_add hx hy) (by decide))
theorem lenB {x : Str} {t : Tok} (hx : x.length ≤ 2000) (h : Q (.int (x.length : Int) (s.toks + 1)) { s with toks := s.toks + 1 + 1 }) : wpAny (model prog w) A (call (.builtin "len") [.str x t]) Q E s := len_str (by omega) h
theorem appB {x y : Str} (hx : x.length ≤ 1000) (hy : y.length ≤ 1000) : (x ++ y).length ≤ 2000 := by rw [Str.length_append]; exact Nat.add_le_add hx hy
theorem lenUp {x : Str} (h : x.length ≤ 1000) : x.length ≤ 2000 := Nat.le_trans h (by decide)
theorem slashB : (Str.ofString "/").length ≤ 1000 := by decide +kernel
theorem szA {x : Str} {n : Nat} (h : x.length ≤ n) (hn : n ≤ 16777216) : x.length ≤ sizeLine := by rw [sizeLine_eq]; exact Nat.le_trans h hn
end
theorem agree_c {w : World} {mean : ExcName → Option Value} {mg mb : Str → Option Value} {dp un : Nat} {gd : Option (List Code)} {cn : Str} {cs : Scope} {a : Addr} {ccd : Value} {cl : List (Str × Addr)} {outer : List Env} {A₀ : Around} {base h₀ : Heap} {L : Addr} {m : Str → Option Value} {news : List (Addr × Obj)} {hp : Heap} {gn : Array GenState} {dr : Drawn} {tq : Nat} {oz : OsState} {x : Str} {ts tx : Tok}
    {Q E : Value → Shared → Prop} (B : Below A₀ base outer h₀) (F : Fr h₀ L hp m) (X : (lawTop.heap_39 w.params).In h₀) (N : News h₀ L hp news) (T : Top lawTop.view_39 (looseW lawTop.view_39 [Str.ofString "ascii_letters", Str.ofString "printable", Str.ofString "capwords"]) mean mg mb h₀) (hk : cs.kind = .function)
    (htok : 1 ≤ tq) (hx0 : 1 ≤ x.length) (hx : x.length ≤ 100) (hag : ∀ i, i < x.length → AgR x i (rat x (i + 1))) (hall : capT x = titleJ (rat x x.length).ws) (hdp : dp + 12 < recursionLimit) (hun : un + 130 < cLine)
    (hret : ∀ h' tk', Fr h₀ L h' m → News h₀ L h' news → Q (.bool true) ⟨h', gn, dr, tk', oz⟩) :
    wpAny (model PySem.Challenge.rw_ij0119_01.row.prog w) (ktrTop dp un gd cn cs L a ccd cl outer) (call (.ref 176) [.str x ts, .str x tx]) Q E ⟨hp, gn, dr, tq, oz⟩ := by
  w_top off
  k_with_none
  k_with "eval BinOp" => k_fold
  k_with "eval Call" => k_fold
  k_with "eval Subscript" => k_fold
  k_with "size_fits" => first | exact szT (Nat.le_refl _) (by decide) | exact szT (by with_reducible assumption) (by decide) | exact Nat.le_trans (by with_reducible assumption) (Nat.le_of_ble_eq_true rfl) | exact szAB (by with_reducible assumption) (by with_reducible assumption) (by decide)
  k_with "ite" => (k_here; k_openite; first | (refine ite_pos (by with_reducible assumption) ?_; walk_say "PRUNED") | (refine ite_neg (by with_reducible assumption) ?_; walk_say "PRUNED") | (refine ite_isFalse (by with_reducible assumption) ?_; walk_say "PRUNED") | with_reducible refine ite_tt ?_ | with_reducible refine ite_ff ?_ | (with_reducible refine split_ine ?_ ?_ <;> intro _) | (with_reducible refine split_ieq ?_ ?_ <;> intro _) | with_reducible refine split_not ?_ | (refine split_dec ?_ ?_ <;> intro _) | (refine split_bool ?_ ?_ <;> intro _))
  k_with "storeName" => (k_here; k_dflt (refine' storeX_M ?zzF ?zzN ?_ ?zza ?zzb; (case zzF => k_asm); (case zzN => k_asm); (case zza => rfl); (case zzb => rfl); k_whole); intro zzh zzt zzl zzm zzF zzN; (try k_sweep))
  k_with "eval Constant int" => (k_here; k_dflt (refine constI ?_))
  k_with "eval Constant str" => (k_here; k_dflt (refine constS ?_))
  k_with "spliced" => (k_here; (first | (fail_if_success (fail_if_success (with_reducible show wpAny _ _ (spliced (backTo _ (starEach (PySem.Expr.Name _ _ :: _) (envOf _ _ _ _ _)))) _ _ _))) | (fail_if_success (fail_if_success (with_reducible show wpAny _ _ (spliced (backTo _ (starEach (PySem.Expr.Name _ _ :: _) (envOfC _ _ _ _ _)))) _ _ _)))); first | ((fail_if_success (fail_if_success (with_reducible show wpAny _ _ (spliced (backTo _ (starEach [PySem.Expr.Name _ _] _))) _ _ _))); k_dflt (refine' argName1 ?zzF ?zzv ?_ ?zza ?zzb ?zzd; (case zzF => k_asm); (case zza => rfl); (case zzb => rfl); (case zzv => rfl); (case zzd => decide); k_whole)) | k_dflt (refine' argName ?zzF ?zzv ?_ ?zza ?zzb ?zzd; (case zzF => k_asm); (case zza => rfl); (case zzb => rfl); (case zzv => rfl); (case zzd => decide); k_whole))
  k_with "spliced" => (k_here; (fail_if_success (fail_if_success (with_reducible show wpAny _ _ (spliced (backTo _ (starEach [] _))) _ _ _))); k_dflt (refine args_nil ?_); (try ((with_reducible show wpAny _ _ (call _ (_ ++ _)) _ _ _); dsimp only [List.cons_append, List.nil_append])))
  k_with "callWith" => (k_here; (fail_if_success (fail_if_success (with_reducible show wpAny _ _ (callWith _ (Value.builtin _) [_] (backTo _ (starEach (_ :: _) _)) []) _ _ _))); first | ((first | (fail_if_success (fail_if_success (with_reducible show wpAny _ _ (callWith _ _ _ (backTo _ (starEach [PySem.Expr.Name _ _] (envOf _ _ _ _ _))) _) _ _ _))) | (fail_if_success (fail_if_success (with_reducible show wpAny _ _ (callWith _ _ _ (backTo _ (starEach [PySem.Expr.Name _ _] (envOfC _ _ _ _ _))) _) _ _ _)))); k_dflt (refine' callM1 ?zzF ?zzv ?_ ?zza ?zzb ?zzd; (case zzF => k_asm); (case zza => rfl); (case zzb => rfl); (case zzv => rfl); (case zzd => decide); k_whole)) | k_dflt (refine' callM ?_ ?zze ?zzp; (case zze => rfl); (case zzp => rfl)))
  k_with "callWith" => (k_here; (first | (fail_if_success (fail_if_success (with_reducible show wpAny _ _ (callWith _ (Value.builtin _) [] (backTo _ (starEach [PySem.Expr.Name _ _] (envOf _ _ _ _ _))) []) _ _ _))) | (fail_if_success (fail_if_success (with_reducible show wpAny _ _ (callWith _ (Value.builtin _) [] (backTo _ (starEach [PySem.Expr.Name _ _] (envOfC _ _ _ _ _))) []) _ _ _)))); k_dflt (refine' callB1 ?zzF ?zzv ?_ ?zza ?zzb ?zzd; (case zzF => k_asm); (case zza => rfl); (case zzb => rfl); (case zzv => rfl); (case zzd => decide); k_whole))
  k_with "newTuple" => (k_here; k_dflt (refine' tupM ?zzF ?zzN ?_ ?zzz; (case zzF => k_asm); (case zzN => k_asm); (case zzz => exact szT (Nat.le_of_ble_eq_true rfl : _ ≤ 7) (by decide)); k_whole); intro zzD zzh zzF zzN zzl; (try k_lt zzl); (try k_sweep))
  k_with "newList" => (k_here; k_dflt (refine' listM ?zzF ?zzN ?_ ?zzz; (case zzF => k_asm); (case zzN => k_asm); (case zzz => exact szT (Nat.le_of_ble_eq_true rfl : _ ≤ 7) (by decide)); k_whole); intro zzD zzh zzF zzN zzl; (try k_lt zzl); (try k_sweep))
  k_with "LeaveK" => (k_here; k_dflt (refine' leaveM ?zzF ?zzN ?_; (case zzF => k_asm); (case zzN => k_asm); k_whole); intro zzF zzN; (try k_sweep); (try dsimp only))
  k_with "exec For Name Call cons nil" => (k_here; (rename Fr _ _ _ _ => lF'); (with_unfolding_all refine' forT lF' ?zzk1 ?zzk2 ?zzkn ?_ ?zzks ?zzkp; (case zzks => intro _; rfl); (case zzkp => passes_own); (case zzk1 => exact rfl); (case zzk2 => exact rfl); (case zzkn => first | (with_reducible assumption) | exact Nat.le_add_left 1 _ | (show (1 : Nat) ≤ _; (try dsimp only); omega)); k_whole))
  k_with "execs cons" => (k_here; first | ((with_reducible show wpAny _ _ (execs (PySem.Stmt.If .. :: PySem.Stmt.Assign .. :: _) _) _ _ _); refine halt9 ?_) | ((with_reducible show wpAny _ _ (execs (PySem.Stmt.If .. :: PySem.Stmt.If .. :: []) _) _ _ _); refine halt9 ?_) | ((with_reducible refine' execsT ?zzkn ?_); (case zzkn => first | (with_reducible assumption) | exact Nat.le_add_left 1 _ | (show (1 : Nat) ≤ _; (try dsimp only); omega)); (try dsimp only); (try k_fold)))
  k_with "exec If" => (k_here; (with_reducible refine' ifT ?zzkn ?_); (case zzkn => first | (with_reducible assumption) | exact Nat.le_add_left 1 _ | (show (1 : Nat) ≤ _; (try dsimp only); omega)); (try dsimp only); (try k_fold))
  k_with "forall" => (k_here; intro htk9; (try dsimp only at htk9 ⊢))
  k_with "compareOp Eq ref ref" => (k_here; (with_reducible show wpAny _ _ (compareOp CmpOp.Eq (Value.ref _) (Value.ref _)) _ _ _); k_dflt (refine' eqNil ?zzN ?zzm1 ?zzm2 ?zzu ?_ ?_; (case zzN => with_reducible assumption); (case zzm1 => k_mem); (case zzm2 => k_mem); (case zzu => units_room)); all_goals (intro _))
  k_with "call builtin:str.replace" => (k_here; (with_reducible show wpAny _ _ (call (Value.builtin "str.replace") [Value.str _ _, Value.str _ _, Value.str _ _]) _ _ _); k_dflt (refine' SC.replaceW ?zzh1 ?zzh2 ?zzh3 ?zzh4 ?zzh5 ?zzh6 ?_; (case zzh1 => first | exact Nat.succ_ne_zero _ | exact Nat.ne_of_lt (Nat.lt_succ_self _) | exact Nat.ne_of_gt (Nat.lt_succ_self _) | (show @Ne Nat _ _; omega)); (case zzh2 => first | exact Nat.succ_ne_zero _ | exact Nat.ne_of_lt (Nat.lt_succ_self _) | exact Nat.ne_of_gt (Nat.lt_succ_self _) | (show @Ne Nat _ _; omega)); (case zzh3 => first | exact Nat.succ_ne_zero _ | exact Nat.ne_of_lt (Nat.lt_succ_self _) | exact Nat.ne_of_gt (Nat.lt_succ_self _) | (show @Ne Nat _ _; omega)); (case zzh4 => decide); (case zzh5 => first | (with_reducible assumption) | exact Nat.le_trans (by with_reducible assumption) (Nat.le_of_ble_eq_true rfl) | omega); (case zzh6 => decide); k_whole); intro _ _)
  k_with "binaryOp Add ref ref" => (k_here; k_dflt (refine' addL ?zzF ?zzN ?zzm1 ?zzm2 ?zzz ?_; (case zzF => with_reducible assumption); (case zzN => with_reducible assumption); (case zzm1 => k_mem); (case zzm2 => k_mem); (case zzz => (simp only [List.length_append, List.length_cons, List.length_nil]; first | exact Nat.le_of_ble_eq_true rfl | exact szN (by with_reducible assumption) (Nat.le_refl _) (Nat.le_of_ble_eq_true rfl) | exact szN (Nat.le_refl _) (by with_reducible assumption) (Nat.le_of_ble_eq_true rfl) | omega)); k_whole); intro D' h' F' N' l1; (try k_lt l1); (try k_sweep))
  k_with "subscriptTail Name Slice ref ref" => (k_here; (with_reducible show wpAny _ _ (subscriptTail _ (PySem.Expr.Slice none (some _) none _) (Value.ref _) (Value.ref _)) _ _ _); k_dflt (refine' kmk_slice_lit ?zzF ?zzN ?zzl ?zzp ?zzk popPick ?_ ?zzs ?zzt ?zzz; (case zzF => k_asm); (case zzN => k_asm); (case zzl => exact lstIn (by k_asm) (by k_mem)); (case zzp => exact IsPart.none); (case zzk => exact IsPart.int _ _); (case zzs => with_unfolding_all rfl); (case zzt => kmk_pure); (case zzz => exact valsSize (by with_reducible assumption) (by omega))); intro D' h' F' N' l1; (try k_lt l1); (try k_sweep))
  k_with "subscriptTail Name UnaryOp ref int" => (k_here; k_dflt (refine' itemLast ?zzN ?zzm ?zzd ?zzn ?_ ?zzks; (case zzks => with_unfolding_all rfl); (case zzN => with_reducible assumption); (case zzm => k_mem); (case zzd => with_reducible assumption); (case zzn => with_reducible assumption); k_whole))
  k_with "eval ListComp" => (k_here; k_dflt (refine ListComp_T (by k_asm) (by with_unfolding_all rfl) (by decide) (by rfl) (by decide) (by rfl) ?_ (by intro _; rfl)))
  k_with "subscriptTail Name Name str int" => (k_here; k_dflt (refine' itemSign ?zza ?zzb ?_ ?zzks ?zzkt; (case zzks => with_unfolding_all rfl); (case zzkt => intro _; with_unfolding_all rfl); (case zza => with_reducible assumption); (case zzb => with_reducible assumption); k_whole))
  k_with "binaryOp Add str str" => (k_here; k_dflt (refine' addB ?zza ?zzb ?_; (case zza => with_reducible assumption); (case zzb => first | (with_reducible assumption) | exact slashB); k_whole); intro _ _)
  k_with "call builtin:len" => (k_here; (with_reducible show wpAny _ _ (call (Value.builtin "len") [Value.str _ _]) _ _ _); k_dflt (refine' lenB ?zza ?_; (case zza => first | exact lenUp (by with_reducible assumption) | exact appB (by with_reducible assumption) (by first | (with_reducible assumption) | exact slashB)); k_whole))
  k_with "size_fits" => exact szA (by with_reducible assumption) (by decide)
  k_with "call ref" => (k_here; (with_reducible show wpAny _ _ (call (Value.ref 171) [Value.ref _, Value.str _ _, Value.int _ _, Value.int _ _, Value.str _ _, Value.int _ _]) _ _ _); k_dflt (refine' due_c ?zzk1 ?zzk2 ?zzk3 ?zzk4 ?zzk5 ?zzkK ?zze1 ?zze2 ?zze3 ?zze4 ?zze5 ?zze6 ?zze7 ?zze8 ?zzkd ?zzku ?_; (case zzk1 => k_asm); (case zzk2 => k_asm); (case zzk3 => k_asm); (case zzk4 => k_asm); (case zzk5 => k_asm); (case zzkK => first | exact rfl | assumption); (case zze1 => first | (with_reducible assumption) | exact Nat.le_add_left 1 _ | (show (1 : Nat) ≤ _; (try dsimp only); omega)); (case zze2 => with_reducible assumption); (case zze3 => with_reducible assumption); (case zze4 => with_reducible assumption); (case zze5 => with_reducible assumption); (case zze6 => with_reducible assumption); (case zze7 => k_mem); (case zze8 => with_reducible assumption); (case zzkd => first | exact (Nat.lt_of_le_of_lt (Nat.add_le_add_left (Nat.le_of_ble_eq_true rfl : 1 + 6 ≤ 12) dp) hdp : dp + (1 + 6) < recursionLimit) | ktr_room); (case zzku => first | exact (Nat.lt_of_le_of_lt (Nat.add_le_add_left (Nat.le_of_ble_eq_true rfl : 3 + 60 ≤ 130) un) hun : un + (3 + 60) < cLine) | ktr_units)); intro D9 a9 b9 c9 tt9 pl9 x1 x2 x3 x4 x5 x6 x7 x8 x9 x0 h9 tk9 htk9 ett9 epl9 F9 N9 l9; (try dsimp only); (try k_sweep); (try k_fold))
  k_with "call ref" => (k_here; (with_reducible show wpAny _ _ (call (Value.ref 166) [Value.str _ _, Value.str _ _]) _ _ _); k_dflt (refine' told_c ?zzk1 ?zzk2 ?zzk3 ?zzk4 ?zzk5 ?zzkK ?zze1 ?zze2 ?zzkd ?zzku ?_; (case zzk1 => k_asm); (case zzk2 => k_asm); (case zzk3 => k_asm); (case zzk4 => k_asm); (case zzk5 => k_asm); (case zzkK => first | exact rfl | assumption); (case zze1 => first | omega | assumption | exact Nat.le_trans (PyProof.Txt.length_slice_le _ _ _) (by omega)); (case zze2 => first | omega | assumption | exact Nat.le_trans (PyProof.Txt.length_slice_le _ _ _) (by omega)); (case zzkd => first | exact (Nat.lt_of_le_of_lt (Nat.add_le_add_left (Nat.le_of_ble_eq_true rfl : 1 + 8 ≤ 12) dp) hdp : dp + (1 + 8) < recursionLimit) | ktr_room); (case zzku => first | exact (Nat.lt_of_le_of_lt (Nat.add_le_add_left (Nat.le_of_ble_eq_true rfl : 3 + 80 ≤ 130) un) hun : un + (3 + 80) < cLine) | ktr_units)); intro D8 a8 b8 c8 p8 p7 q8 q7 r8 r7 r6 nm8 y1 y2 y3 y4 y5 y6 y7 y8 y9 y0 h8 tk8 enm8 ep8 eq8 er8 F8 N8 g8 g7 g6 g5; (try dsimp only); (try k_sweep); (try k_fold))
  k_with "call ref" => (k_here; (with_reducible show wpAny _ _ (call (Value.ref 36) [Value.str _ _, Value.none]) _ _ _); k_dflt (refine' capwn_c ?zzk1 ?zzk2 ?zzk3 ?zzk4 ?zzk5 ?zzkK ?zze1 ?zzkd ?zzku ?_; (case zzk1 => k_asm); (case zzk2 => k_asm); (case zzk3 => k_asm); (case zzk4 => k_asm); (case zzk5 => k_asm); (case zzkK => first | exact rfl | assumption); (case zze1 => first | omega | assumption | exact Nat.le_trans (PyProof.Txt.length_slice_le _ _ _) (by omega)); (case zzkd => first | exact (Nat.lt_of_le_of_lt (Nat.add_le_add_left (Nat.le_of_ble_eq_true rfl : 1 + 5 ≤ 12) dp) hdp : dp + (1 + 5) < recursionLimit) | ktr_room); (case zzku => first | exact (Nat.lt_of_le_of_lt (Nat.add_le_add_left (Nat.le_of_ble_eq_true rfl : 3 + 40 ≤ 130) un) hun : un + (3 + 40) < cLine) | ktr_units)); intro t9 h9 tk9 F9 N9; (try dsimp only); (try k_sweep); (try k_fold))
  k_with "compareOp NotEq ref ref" => (k_here; k_dflt (refine' agreeNe2 (by assumption) ?zzhX ?zzhY ?zzN ?zzm1 ?zzmt1 ?zzmt2 ?zzmt3 ?zzm2 ?zzms1 ?zzms2 ?zzms3 ?zzhw ?zzett ?zzepl ?zzec ?zzep ?zzeq ?zzer ?zzhu ?_; (case zzN => with_reducible assumption); (case zzm1 => k_mem); (case zzmt1 => k_mem); (case zzmt2 => k_mem); (case zzmt3 => k_mem); (case zzm2 => k_mem); (case zzms1 => k_mem); (case zzms2 => k_mem); (case zzms3 => k_mem); (case zzhw => with_reducible assumption); (case zzett => with_reducible assumption); (case zzepl => with_reducible assumption); (case zzec => with_reducible assumption); (case zzep => with_reducible assumption); (case zzeq => with_reducible assumption); (case zzer => with_reducible assumption); (case zzhu => units_room); (case zzhX => rfl); (case zzhY => rfl); k_whole))
  k_with "subscriptTail Name Constant ref int" => (k_here; (with_reducible show wpAny _ _ (subscriptTail _ _ (Value.ref _) (Value.int 0 _)) _ _ _); k_dflt (refine' itemHead ?zzN ?zzm ?zzv ?_ ?zzks; (case zzks => with_unfolding_all rfl); (case zzN => with_reducible assumption); (case zzm => exact .tail _ (.head _)); (case zzv => with_reducible assumption); k_whole))
  revert X
  k_fill
  intro X
  refine wpAny_call ?_
  k_dflt (refine' code_def (binds := [(Str.ofString "signs", .str x ts), (Str.ofString "text", .str x tx)]) ?k1 ?k2 ?k3 ?k4 ?k5 ?kA ?kF ?kK ?k6 ?k7 ?k8 ?k9 ?kB ?_ ?c2 ?c3 ?c4 ?c5; (case kA => exact rfl); (case kF => exact rfl); (case kK => assumption); (case k1 => k_asm); (case k2 => k_asm); (case k3 => k_asm); (case k4 => k_asm); (case k5 => k_asm); (case k6 => k_is); (case k7 => k_is); (case k8 => ktr_room); (case k9 => exact BindsTo.of_eq rfl); (case c5 => decide); (case kB => exact locs rfl); (case c2 => exact rfl); (case c3 => exact rfl); (case c4 => exact rfl); k_whole; intro g' L' h' FG' F' N' B' X' T'; (try dsimp only); (try k_lift B'); (try k_fold))
  k_steps
  (rename News _ _ _ _ => lN)
  (rename Fr _ _ _ _ => lF)
  refine TextSrc.intro rfl lF lN (by omega) ?_
  intro g
  refine' compStrs (gs := (signs x).map twS) ?hn ?turn ?fin
  case hn => exact signsLen x twS
  case turn =>
    intro i v gg I oI C oC D m₂ ys h tk E' hv hg hC hx F' N' off ne
    obtain ⟨c, u, hc, rfl⟩ := hv
    k_steps
    all_goals (refine' LCg.CompEnd.intro ?F ?N _ ?sub ?off ?S ⟨rfl, _, ?e⟩; (case F => with_reducible assumption); (case N => with_reducible assumption); (case sub => exact fun p hp => hp); (case off => with_reducible assumption); (case S => exact trivial); (case e => rw [twAt hc hg]; refine strV ?_; first | with_reducible exact tw1 (by with_reducible assumption) | with_reducible exact tw2 (by with_reducible assumption) (by with_reducible assumption) | with_reducible exact tw3 (by with_reducible assumption) (by with_reducible assumption)))
  case fin =>
    intro lt hlt
    k_steps
    (rename News _ _ _ _ => lN2)
    k_dflt (refine' joinVals lN2 (.head _) rfl ?w ?s ?_)
    case w => rw [hlt]; exact Nat.le_trans (twWt x) (by omega)
    case s => decide
    intro tp kp hjl
    rw [hlt]
    k_steps
    (rename IsRange _ _ _ _ _ _ _ _ => lR)
    (rename News _ _ _ _ => lN3)
    (rename Fr _ _ _ _ => lF3)
    refine' iterAgree (n := x.length) (x := x) (px := pathF x) (rat x) titleJ rfl lR ?hsm ?hn ?hL lF3 (dropW lN3) ?tk rfl rfl rfl rfl rfl rfl rfl rfl rfl rfl rfl ?turn ?done
    case hL => exact rfl
    case hsm => exact rangeSm hx
    case hn => exact rangeSz _
    case tk => first | (with_reducible assumption) | exact Nat.le_add_left 1 _ | (show (1 : Nat) ≤ _; (try dsimp only); omega)
    case turn =>
      clear lF3 lN3 lR
      intro i m' W wsT nw t1 t2 t3 t4 t5 t h tk R own htk hi ho hRo hws F' N'
      have hil : (Txt.item x (i : Int)).length = 1 := item_len hi
      have hil2 : (Txt.item x (i : Int)).length ≤ 1000 := Nat.le_trans (Nat.le_of_eq hil) (by decide)
      have hrl : (Txt.replace (Txt.item x (i : Int)) (Str.ofString "/") (Str.ofString " ")).length = 1 := (replace_len _ 47 32).trans hil
      have hlo : (Txt.lower (Txt.replace (Txt.item x (i : Int)) (Str.ofString "/") (Str.ofString " "))).length ≤ 1000 := Nat.le_trans (small_le hil) (by decide)
      have hup : (Txt.upper (Txt.lower (Txt.replace (Txt.item x (i : Int)) (Str.ofString "/") (Str.ofString " ")))).length ≤ 1000 := Nat.le_trans (len_upper _) (Nat.le_trans (Nat.mul_le_mul_left 3 (small_le hil)) (by decide))
      obtain ⟨b1, b2, b3, b4, b6, b8, b10⟩ := rat_boundc (Nat.le_of_lt hi) hx
      clear hjl hall hx0
      have hrs := rat_succ hi
      refine' agCut (own := own) (R := R) (r := rat x (i + 1)) (kv := .int (i : Int) t) (x := x) (ts := ts) (tx := tx) (px := pathF x) (tp := tp) F' ?hn ?h1 ?h2
      case hn => first | (with_reducible assumption) | exact Nat.le_add_left 1 _ | (show (1 : Nat) ≤ _; (try dsimp only); omega)
      case h1 =>
        rw [hrs]
        clear hrs
        generalize rat x i = r at *
        obtain ⟨ws, great, front, start, head, dot, seen⟩ := r
        dsimp only at hws b1 b2 b3 b4 b6 b8 b10 F'
        subst hws
        have hkl := valsLen b3
        have hls := lastS_len b3
        have hkd := dropLen hkl
        refine frLet F' ?_; clear F'; intro mk9 F'
        k_steps
        · unfold Halt9
          (rename Fr _ _ _ _ => lF5)
          refine' agCut (own := own) (R := R) (r := lastStep ⟨wsT.map (·.1), great, front, start, head, dot, seen⟩ (Txt.item x (i : Int))) (kv := .int (i : Int) t) (x := x) (ts := ts) (tx := tx) (px := pathF x) (tp := tp) lF5 ?gn ?g1 ?g2
          case gn => first | exact Nat.le_add_left 1 _ | (show (1 : Nat) ≤ _; (try dsimp only); omega)
          case g1 =>
            k_steps
            all_goals first
              | (refine' agAtI (wsT ++ [(_, _)]) ?z_tk ?z_F ?z_N ?z_sub ?z_ho ?z_h1 ?z_h2 ?z_h3 ?z_h4 ?z_h5 ?z_h6 ?z_h7 ?z_h8 ?z_h9 ?z_h10 ?z_hk ?z_e ?z_hv ?z_hw; (case z_tk => first | exact Nat.le_add_left 1 _ | (with_reducible assumption) | omega); (case z_F => with_reducible assumption); (case z_N => with_reducible assumption); (case z_h1 => rfl); (case z_h2 => rfl); (case z_h3 => rfl); (case z_h4 => rfl); (case z_h5 => rfl); (case z_h6 => rfl); (case z_h7 => rfl); (case z_h8 => rfl); (case z_h9 => rfl); (case z_h10 => rfl); (case z_hk => rfl); (case z_sub => with_reducible exact sub4); (case z_ho => (rename _ ∧ _ ∧ AllLt _ _ => q; exact ownNe q.2.2 hRo)); (case z_hv => exact (strValues_snoc _ _ _).symm); (case z_e => with_reducible exact ln1 (by with_reducible assumption)); (case z_hw => exact map_snoc _ _ _))
              | (refine' agAtI (wsT.dropLast ++ [(_, _)]) ?z_tk ?z_F ?z_N ?z_sub ?z_ho ?z_h1 ?z_h2 ?z_h3 ?z_h4 ?z_h5 ?z_h6 ?z_h7 ?z_h8 ?z_h9 ?z_h10 ?z_hk ?z_e ?z_hv ?z_hw; (case z_tk => first | exact Nat.le_add_left 1 _ | (with_reducible assumption) | omega); (case z_F => with_reducible assumption); (case z_N => with_reducible assumption); (case z_h1 => rfl); (case z_h2 => rfl); (case z_h3 => rfl); (case z_h4 => rfl); (case z_h5 => rfl); (case z_h6 => rfl); (case z_h7 => rfl); (case z_h8 => rfl); (case z_h9 => rfl); (case z_h10 => rfl); (case z_hk => rfl); (case z_sub => with_reducible exact sub5); (case z_ho => (rename _ ∧ _ ∧ _ ∧ AllLt _ _ => q; exact ownNe q.2.2.2 hRo)); (case z_hv => exact (strValues_snoc _ _ _).symm); (case z_e => with_reducible exact ln2 (by with_reducible assumption)); (case z_hw => exact lastJoin_map _ _ (fun e9 => (b10.resolve_left (by with_reducible assumption)) (by rw [e9]; rfl))))
          case g2 =>
            have hfin := rsN (r := ⟨wsT.map (·.1), great, front, start, head, dot, seen⟩) (c := Txt.item x (i : Int)) (by with_reducible assumption)
            have hgl : (lastStep ⟨wsT.map (·.1), great, front, start, head, dot, seen⟩ (Txt.item x (i : Int))).great.length ≤ 2000 := lastGreat b1 hlo hup
            clear lF5 hkl hls hkd b1 b2 b3 b4 b6 b8 b10
            intro m' W' wsT' nw' u1 u2 u3 u4 u5 h' tk' htk' ho' hws' F' N'
            generalize lastStep ⟨wsT.map (·.1), great, front, start, head, dot, seen⟩ (Txt.item x (i : Int)) = r1 at *
            refine frLet F' ?_; clear F'; intro mk9 F'
            k_steps
            all_goals (refine' agAtI wsT' ?z_tk ?z_F ?z_N ?z_sub ?z_ho ?z_h1 ?z_h2 ?z_h3 ?z_h4 ?z_h5 ?z_h6 ?z_h7 ?z_h8 ?z_h9 ?z_h10 ?z_hk ?z_e ?z_hv ?z_hw; (case z_tk => first | exact Nat.le_add_left 1 _ | (with_reducible assumption) | omega); (case z_F => with_reducible assumption); (case z_N => with_reducible assumption); (case z_h1 => rfl); (case z_h2 => rfl); (case z_h3 => rfl); (case z_h4 => rfl); (case z_h5 => rfl); (case z_h6 => rfl); (case z_h7 => rfl); (case z_h8 => rfl); (case z_h9 => rfl); (case z_h10 => rfl); (case z_hk => rfl); (case z_sub => first | with_reducible exact (fun p hp => hp) | with_reducible exact (fun p hp => memT1 hp) | with_reducible exact (fun p hp => memT2 hp) | with_reducible exact (fun p hp => memT3 hp)); (case z_ho => exact ho'); (case z_hv => rfl); (case z_e => first | with_reducible exact hfin.trans (ds1 (by with_reducible assumption)) | with_reducible exact hfin.trans (ds2 (by with_reducible assumption) (by with_reducible assumption)) | with_reducible exact hfin.trans (ds3 (by with_reducible assumption) (by with_reducible assumption))); (case z_hw => exact hws'))
        · unfold Halt9
          (rename Fr _ _ _ _ => lF5)
          refine' agCut (own := own) (R := R) (r := headStep ⟨wsT.map (·.1), great, front, start, head, dot, seen⟩) (kv := .int (i : Int) t) (x := x) (ts := ts) (tx := tx) (px := pathF x) (tp := tp) lF5 ?gn ?g1 ?g2
          case gn => first | exact Nat.le_add_left 1 _ | (show (1 : Nat) ≤ _; (try dsimp only); omega)
          case g1 =>
            k_steps
            all_goals (refine' agAtI wsT ?z_tk ?z_F ?z_N ?z_sub ?z_ho ?z_h1 ?z_h2 ?z_h3 ?z_h4 ?z_h5 ?z_h6 ?z_h7 ?z_h8 ?z_h9 ?z_h10 ?z_hk ?z_e ?z_hv ?z_hw; (case z_tk => first | exact Nat.le_add_left 1 _ | (with_reducible assumption) | omega); (case z_F => with_reducible assumption); (case z_N => with_reducible assumption); (case z_h1 => rfl); (case z_h2 => rfl); (case z_h3 => rfl); (case z_h4 => rfl); (case z_h5 => rfl); (case z_h6 => rfl); (case z_h7 => rfl); (case z_h8 => rfl); (case z_h9 => rfl); (case z_h10 => rfl); (case z_hk => rfl); (case z_sub => first | with_reducible exact (fun p hp => hp) | with_reducible exact (fun p hp => memT1 hp) | with_reducible exact (fun p hp => memT2 hp) | with_reducible exact (fun p hp => memT3 hp)); (case z_ho => exact ho); (case z_hv => rfl); (case z_e => first | with_reducible exact hs1 (by with_reducible assumption) | with_reducible exact hs2 (by with_reducible assumption) (by with_reducible assumption) | with_reducible exact hs3 (by with_reducible assumption) (by with_reducible assumption)); (case z_hw => rfl))
          case g2 =>
            have hfin := rsW (r := ⟨wsT.map (·.1), great, front, start, head, dot, seen⟩) (c := Txt.item x (i : Int)) (by with_reducible assumption)
            have hgl : (headStep ⟨wsT.map (·.1), great, front, start, head, dot, seen⟩).great.length ≤ 1000 := b1
            clear lF5 hkl hls hkd b1 b2 b3 b4 b6 b8 b10
            intro m' W' wsT' nw' u1 u2 u3 u4 u5 h' tk' htk' ho' hws' F' N'
            generalize headStep ⟨wsT.map (·.1), great, front, start, head, dot, seen⟩ = r1 at *
            refine frLet F' ?_; clear F'; intro mk9 F'
            k_steps
            all_goals (refine' agAtI wsT' ?z_tk ?z_F ?z_N ?z_sub ?z_ho ?z_h1 ?z_h2 ?z_h3 ?z_h4 ?z_h5 ?z_h6 ?z_h7 ?z_h8 ?z_h9 ?z_h10 ?z_hk ?z_e ?z_hv ?z_hw; (case z_tk => first | exact Nat.le_add_left 1 _ | (with_reducible assumption) | omega); (case z_F => with_reducible assumption); (case z_N => with_reducible assumption); (case z_h1 => rfl); (case z_h2 => rfl); (case z_h3 => rfl); (case z_h4 => rfl); (case z_h5 => rfl); (case z_h6 => rfl); (case z_h7 => rfl); (case z_h8 => rfl); (case z_h9 => rfl); (case z_h10 => rfl); (case z_hk => rfl); (case z_sub => first | with_reducible exact (fun p hp => hp) | with_reducible exact (fun p hp => memT1 hp) | with_reducible exact (fun p hp => memT2 hp) | with_reducible exact (fun p hp => memT3 hp)); (case z_ho => exact ho'); (case z_hv => rfl); (case z_e => exact hfin); (case z_hw => exact hws'))
      case h2 =>
        clear F' N' hws b1 b2 b3 b4 b6 b8 b10 hrl hil hil2 hlo hup
        have hA := hag i hi
        have hpl : (pathF x).length ≤ 100 := by rw [pathF_len]; exact hx
        obtain ⟨b1, b2, b3, b4, b6, b8, b10⟩ := rat_boundc (i := i + 1) hi hx
        intro m' W wsT nw t1 t2 t3 t4 t5 h tk htk ho hws F' N'
        generalize rat x (i + 1) = r at *
        have b3' : wt (wsT.map (·.1)) ≤ 1000 := by rw [hws]; exact b3
        refine frLet F' ?_; clear F'; intro mk9 F'
        k_steps
        all_goals (show AgEnd _ _ _ _ _ _ _ _ _ _ _ _ _; (refine' agEndI ?z_F ?z_N ?z_hD ?z_hW ?z_hR hRo ho ?z_hlt hws ?z_h1 ?z_h2 ?z_h3 ?z_h4 ?z_h5 ?z_h6 ?z_h7 ?z_h8 ?z_h9 ?z_h10 ?z_hd ?z_hv; (case z_F => with_reducible assumption); (case z_N => with_reducible assumption); (case z_hd => rfl); (case z_h1 => rfl); (case z_h2 => rfl); (case z_h3 => rfl); (case z_h4 => rfl); (case z_h5 => rfl); (case z_h6 => rfl); (case z_h7 => rfl); (case z_h8 => rfl); (case z_h9 => rfl); (case z_h10 => rfl); (case z_hD => exact memT4 (.head _)); (case z_hW => exact memT4 (memT4 (.head _))); (case z_hR => exact (fun p hp => memT4 (memT4 (memT1 hp)))); (case z_hlt => with_reducible assumption); (case z_hv => exact titleV (by with_reducible assumption) hws)))
    case done =>
      clear lF3 lN3 lR
      intro m' W wsT nw t1 t2 t3 t4 t5 h tk dl htk hd F' hps N'
      obtain ⟨D, vs, u, rfl, hdm, hv⟩ := hd.resolve_left (by omega)
      have e := chain_eq ((Str.ofString "due", Value.ref D) :: agPs W (rat x x.length) t1 t2 t3 t4 t5 x ts tx (pathF x) tp) m' (fun p hp' => by
        rcases List.mem_cons.mp hp' with rfl | hp'
        · exact hdm
        · exact hps p hp')
      rw [← e] at F'
      clear e hps hdm hd
      generalize rat x x.length = r at *
      dsimp only [List.foldr, agPs] at F'
      refine frLet F' ?_; clear F'; intro mk9 F'
      k_steps
      (rename News h₀ _ _ _ => lN5)
      (rename Fr h₀ _ _ _ => lF5)
      rw [capEq hall]
      exact hret _ _ lF5 (fun p hp => lN5 p (.tail _ (.tail _ hp)))
section
variable {prog : Program} {w : World} {A : Around} {h₀ : Heap} {L : Addr} {m : Str → Option Value} {env : Env} {ct elt : Expr} {x : Str} {scope : Scope} {cl : List (Str × Addr)} {s : Shared} {S : List (Addr × Obj) → Prop} {Fin : List Value → List (Addr × Obj) → Prop} {news : List (Addr × Obj)}
noncomputable def ksUp (g : Nat → Bool) (n : Nat) : List Int := ((List.range n).filter g).map Int.ofNat
/-- the ints of a range that pass a test -/
theorem filtInts {n : Nat} (g : Nat → Bool)
    (turn : ∀ (i : Nat) t I oI C oC D m₂ ys h tk (E' : Value → Shared → Prop), i < n → LCg.NsObj oC m₂ → m₂ x = some (.int (i : Int) t) → Fr h₀ L h m → News h₀ L h ((I, oI) :: (C, oC) :: (D, LCg.lst ys) :: news) → LCg.Off3 I C D news → ((@Ne Nat I C) ∧ (@Ne Nat I D) ∧ (@Ne Nat C D)) →
      wpAny (model prog w) A (isTrue ct (compEnvC scope cl C env) (eval ct (compEnvC scope cl C env))) (fun ok s' => if ok = true then
        wpAny (model prog w) A (eval elt (compEnvC scope cl C env)) (LCg.CompEnd h₀ L m { s with heap := h, toks := tk } I oI C oC D (LCg.lst ys) S (fun y news' => news' = news ∧ (∃ t, y = .int (i : Int) t) ∧ g i = true)) E' s'
        else LCg.CompEnd h₀ L m { s with heap := h, toks := tk } I oI C oC D (LCg.lst ys) S (fun _ news' => news' = news ∧ g i = false) Value.none s') E' { s with heap := h, toks := tk })
    (fin : ∀ ys, IntsAre ys (ksUp g n) → Fin ys news) : LCt.CompRestT prog w A h₀ L m env ct elt x scope cl s S (fun i v => ∃ t, v = .int (0 + (i : Int)) t) Fin n 0 [] news := by
  have key : ∀ (j i : Nat) (ys : List Value), i + j = n → IntsAre ys (ksUp g i) → LCt.CompRestT prog w A h₀ L m env ct elt x scope cl s S (fun i v => ∃ t, v = .int (0 + (i : Int)) t) Fin j i ys news := by
    intro j
    induction j with
    | zero =>
      intro i ys hi hy
      obtain rfl : i = n := hi
      exact LCt.CompRestT.zero (fin ys hy)
    | succ j ih =>
      intro i ys hi hy
      refine LCt.CompRestT.succ ?_
      intro v I oI C oC D m₂ h tk E' hv hC hx F N off ne
      obtain ⟨t, rfl⟩ := hv
      rw [Int.zero_add] at hx
      have hin : i < n := hi ▸ Nat.lt_add_of_pos_right (Nat.succ_pos j)
      have hnx : i + 1 + j = n := by rw [← hi, Nat.add_assoc, Nat.add_comm 1 j]
      have ek : ksUp g (i + 1) = ksUp g i ++ (if g i = true then [(i : Int)] else []) := by
        unfold ksUp
        rw [List.range_succ, List.filter_append, List.map_append]
        congr 1
        cases hg : g i <;> simp [hg]
      refine wpAny_mono (turn i t I oI C oC D m₂ ys h tk E' hin hC hx F N off ne) (fun ok s₂ hq => ?_) fun _ _ e => e
      cases ok with
      | true =>
        simp only [if_true] at hq ⊢
        refine wpAny_mono hq (fun y s₃ hz => ?_) fun _ _ e => e
        obtain ⟨h', tk', nw, e, F', N', off', hS, rfl, ⟨t', rfl⟩, hg⟩ := hz
        refine ⟨h', tk', _, e, F', N', off', hS, ih (i + 1) _ hnx ?_⟩
        rw [ek, if_pos hg]
        exact IntsAre.append hy (.cons _ t' .nil)
      | false =>
        simp only [Bool.false_eq_true, if_false] at hq ⊢
        obtain ⟨h', tk', nw, e, F', N', off', hS, rfl, hg⟩ := hq
        refine ⟨h', tk', _, e, F', N', off', hS, ih (i + 1) _ hnx ?_⟩
        rw [ek, if_neg (by rw [hg]; decide), List.append_nil]
        exact hy
  exact key n 0 [] (Nat.zero_add n) .nil
noncomputable def Stop9 (p : Prop) : Prop := p
theorem srcLedger {Q : Value → Shared → Prop} {ax : Addr} {its : Array Value} {k : Nat} {s₁ : Shared}
    (hh : A.handled = none) (F : Fr h₀ L s₁.heap m) (N : News h₀ L s₁.heap news) (hm : (ax, ({ cls := .type "list", data := .seq its k } : Obj)) ∈ news) (hsz : its.size ≤ sizeLine)
    (h : Stop9 (∀ g, LCg.CompRest prog w A h₀ L m env elt x scope cl { s₁ with heap := g } (LCg.SrcAt h₀ ax its) (fun i v => its[i]? = some v) (LCg.FinE h₀ L m { s₁ with heap := g } Q) its.size 0 [] news)) :
    LCg.CompSrc prog w A h₀ L m env elt x scope cl (fun s₂ => LCg.FinE h₀ L m s₂ Q) (.ref ax) s₁ := LCg.CompSrc.ledger hh F N hm hsz h
theorem srcRange {Fin : Shared → List Value → List (Addr × Obj) → Prop} {r : Addr} {b : Int} {t u v : Tok} {n : Nat} {s₁ : Shared}
    (hh : A.handled = none) (F : Fr h₀ L s₁.heap m) (N : News h₀ L s₁.heap news) (hr : IsRange s₁.heap r 0 b 1 t u v) (hsm : Builtin.Range.small 0 b 1 = true) (hn : Builtin.Range.rangeSize 0 b 1 = ((n : Nat) : Int)) (hsz : n ≤ sizeLine)
    (h : Stop9 (∀ g, LCt.CompRestT prog w A h₀ L m env ct elt x scope cl { s₁ with heap := g } (fun _ => True) (fun i v => ∃ t, v = .int (0 + (i : Int)) t) (Fin { s₁ with heap := g }) n 0 [] news)) :
    LCt.CompSrcT prog w A h₀ L m env ct elt x scope cl Fin (.ref r) s₁ := LCt.CompSrcT.range hh F N hr hsm hn hsz h
end
section
variable {prog : Program} {w : World} {A : Around} {E : Value → Shared → Prop} {s : Shared} {h₀ : Heap} {L l : Addr} {news : List (Addr × Obj)} {Q : Value → Shared → Prop}
theorem itemLastInt {value slice : Expr} {vs : List Value} {ks : List Int} {k : Int} {u : Tok} (N : News h₀ L s.heap news) (hm : (l, LCg.lst vs) ∈ news) (hi : IntsAre vs (ks ++ [k])) (h : ∀ t, Q (.int k t) s)
    (hs : subscripted slice false (.ref l) (.int (-1) u) = operate [.ref l, .int (-1) u] (getItem (.ref l) (.int (-1) u))) :
    wpAny (model prog w) A (subscriptTail value slice (.ref l) (.int (-1) u)) Q E s := by
  have hL : s.heap.IsList l vs.toArray := ⟨_, (N _ hm).1, rfl, _, rfl⟩
  have hl := hi.length
  have hlen : vs.length = ks.length + 1 := by rw [hl]; simp
  have hlt : ks.length < vs.length := by rw [hlen]; exact Nat.lt_succ_self _
  have hv : vs[ks.length]? = some (vs[ks.length]'hlt) := List.getElem?_eq_getElem hlt
  obtain ⟨k', t, e, hk⟩ := IntsAre.at hi ks.length (vs[ks.length]'hlt) hv
  have ek : k = k' := by simpa using hk
  subst ek
  refine tail_any hL.typeIs slot_list_getitem.lookup (wpAny_getItem_list_neg hL (by decide) (by simp; omega) (by decide) ?_ (h t)) hs
  have e2 : ((-1 : Int) + (vs.toArray.size : Int)).toNat = ks.length := by simp; omega
  rw [e2]
  have : vs.toArray[ks.length]? = some (vs[ks.length]'hlt) := by simpa using hv
  rw [this, e]
end
noncomputable abbrev manyL : List Int := [10, 26, 26, 15, 7, 6, 4]
noncomputable abbrev firstL : List Int := [48, 97, 65, 33, 58, 91, 123]
noncomputable def passes (p : Int) (i : Nat) : Bool := decide ((manyL.take i).sum ≤ p)
theorem passes_eq {p : Int} {k : Nat} : passes p k = true ↔ (manyL.take k).sum ≤ p := by simp [passes]
theorem pass1 {p : Int} {i : Nat} (h : (List.take ((i : Int)).toNat manyL).sum ≤ p) : passes p i = true := passes_eq.mpr h
theorem pass0 {p : Int} {i : Nat} (h : ¬ (List.take ((i : Int)).toNat manyL).sum ≤ p) : passes p i = false := by
  cases e : passes p i with
  | true => exact absurd (passes_eq.mp e) h
  | false => rfl
theorem tailN1 {h₀ h : Heap} {L : Addr} {a : Addr × Obj} {news : List (Addr × Obj)} (N : News h₀ L h (a :: news)) : News h₀ L h news := fun p hp => N p (.tail _ hp)
/-- the sign of a number of the script -/
noncomputable def sgn (x : Int) : Str := if x.fmod 16 < 9 then Txt.item (Str.ofString " ..\n/aB\t.") (x.fmod 16) else Txt.item (Str.ofString "0123456789abcdefghijklmnopqrstuvwxyzABCDEFGHIJKLMNOPQRSTUVWXYZ!\"#$%&'()*+,-./:;<=>?\x40[\\]^_`{|}~ \t\n\x0d\x0b\x0c") ((x.fdiv 16).fmod 100)
noncomputable abbrev prS : Str := Str.ofString "0123456789abcdefghijklmnopqrstuvwxyzABCDEFGHIJKLMNOPQRSTUVWXYZ!\"#$%&'()*+,-./:;<=>?\x40[\\]^_`{|}~ \t\n\x0d\x0b\x0c"
theorem sgn1 {x : Int} (h : x.fmod 16 < 9) : Txt.item (Str.ofString " ..\n/aB\t.") (x.fmod 16) = sgn x := by unfold sgn; rw [if_pos h]
theorem prAll : ∀ p : Fin 100, 94 ≤ p.1 → Txt.item (Str.ofString " \t\n\x0d\x0b\x0c") ((p.1 : Int) - 94) = Txt.item prS (p.1 : Int) := by decide +kernel
theorem sgn2 {x : Int} (h : ¬ x.fmod 16 < 9) (h2 : 93 < (x.fdiv 16).fmod 100) : Txt.item (Str.ofString " \t\n\x0d\x0b\x0c") ((x.fdiv 16).fmod 100 - 94) = sgn x := by
  unfold sgn
  rw [if_neg h]
  have h3 : (x.fdiv 16).fmod 100 < 100 := Int.fmod_lt_of_pos _ (by decide)
  generalize (x.fdiv 16).fmod 100 = p at h2 h3 ⊢
  obtain ⟨q, rfl⟩ := Int.eq_ofNat_of_zero_le (Int.le_of_lt (Int.lt_trans (by decide) h2))
  exact prAll ⟨q, Int.ofNat_lt.mp h3⟩ (Int.ofNat_lt.mp h2)
theorem placeAll : ∀ p : Fin 94, ∃ k : Fin 7, ksUp (passes (p.1 : Int)) 7 = (List.range k.1).map Int.ofNat ++ [(k.1 : Int)] ∧ (⟨#[(firstL.getD k.1 0 + (p.1 : Int) - (manyL.take k.1).sum).toNat]⟩ : Str) = Txt.item prS (p.1 : Int) ∧ 0 ≤ firstL.getD k.1 0 + (p.1 : Int) - (manyL.take k.1).sum ∧ firstL.getD k.1 0 + (p.1 : Int) - (manyL.take k.1).sum ≤ 126 := by decide +kernel
theorem placeAt {x : Int} (h : ¬ x.fmod 16 < 9) (h2 : ¬ 93 < (x.fdiv 16).fmod 100) : ∃ k : Nat, k < 7 ∧ ksUp (passes ((x.fdiv 16).fmod 100)) 7 = (List.range k).map Int.ofNat ++ [(k : Int)] ∧ (⟨#[(firstL.getD k 0 + (x.fdiv 16).fmod 100 - (manyL.take k).sum).toNat]⟩ : Str) = sgn x ∧ 0 ≤ firstL.getD k 0 + (x.fdiv 16).fmod 100 - (manyL.take k).sum ∧ firstL.getD k 0 + (x.fdiv 16).fmod 100 - (manyL.take k).sum ≤ 126 := by
  have h0 : 0 ≤ (x.fdiv 16).fmod 100 := Int.fmod_nonneg_of_pos _ (by decide)
  unfold sgn
  rw [if_neg h]
  generalize (x.fdiv 16).fmod 100 = p at h2 h0 ⊢
  clear h
  obtain ⟨n, rfl⟩ := Int.eq_ofNat_of_zero_le h0
  obtain ⟨k, hk⟩ := placeAll ⟨n, by omega⟩
  exact ⟨k.1, k.2, hk⟩
theorem sgnAt {vs : List Value} {ks : List Int} {i : Nat} {v : Value} {g : Str} (hi : IntsAre vs ks) (hv : vs.toArray[i]? = some v) (hg : (ks.map sgn)[i]? = some g) : ∃ k t, v = Value.int k t ∧ g = sgn k := by
  obtain ⟨k, t, e, hk⟩ := IntsAre.at hi i v (by simpa using hv)
  rw [List.getElem?_map, hk] at hg
  exact ⟨k, t, e, (Option.some.inj hg).symm⟩
theorem sgn0 {x : Int} (h : ¬ x.fmod 16 < 9) : Txt.item (Str.ofString "0123456789abcdefghijklmnopqrstuvwxyzABCDEFGHIJKLMNOPQRSTUVWXYZ!\"#$%&'()*+,-./:;<=>?\x40[\\]^_`{|}~ \t\n\x0d\x0b\x0c") ((x.fdiv 16).fmod 100) = sgn x := by unfold sgn; rw [if_neg h]
theorem sgn_len (x : Int) : (sgn x).length = 1 := by unfold sgn; split <;> rfl
theorem sgn_wt (l : List Int) : wt (l.map sgn) = 2 * l.length := by
  induction l with
  | nil => rfl
  | cons a r ih =>
    rw [List.map_cons, wt_cons, ih, sgn_len, List.length_cons]
    exact Nat.add_comm 2 (2 * r.length)
theorem sgn_wt8 {l : List Int} (h : l.length ≤ 8) : wt (l.map sgn) ≤ 200000 := by rw [sgn_wt]; exact Nat.le_trans (Nat.mul_le_mul_left 2 h) (by decide)
theorem strV2 {a b : Str} {u : Tok} (h : a = b) : Value.str a u = Value.str b u := h ▸ rfl
noncomputable def Floor9 : Prop := True
theorem binT {M : Model} {A : Around} {env : Env} {l r : Expr} {op : Operator} {pos : Pos} {Q : Value → Shared → Prop} {E : Value → Shared → Prop} {s : Shared} (hn : 1 ≤ s.toks) (h : Floor9 → wpAny M A (eval (.BinOp l op r pos) env) (fun v s' => 1 ≤ s'.toks → Q v s') E s) : wpAny M A (eval (.BinOp l op r pos) env) Q E s :=
  wpAny_with_toks hn (wpAny_mono (h trivial) (fun _ _ q => q) fun _ _ q _ => q)
theorem memL2 {a b : Addr × Obj} {l : List (Addr × Obj)} : b ∈ a :: b :: l := .tail _ (.head _)
theorem ltAll {news : List (Addr × Obj)} {a c : Addr} (h : ∀ p ∈ news, p.1 < a) (l : a ≤ c) : ∀ p ∈ news, p.1 ≠ c := fun p hp => Nat.ne_of_lt (Nat.lt_of_lt_of_le (h p hp) l)
theorem leN {a b : Nat} (h : a ≤ b) : a ≤ b := h
theorem sign_c {w : World} {mean : ExcName → Option Value} {mg mb : Str → Option Value} {dp un : Nat} {gd : Option (List Code)} {cn : Str} {cs : Scope} {a : Addr} {ccd : Value} {cl : List (Str × Addr)} {outer : List Env} {A₀ : Around} {base h₀ : Heap} {L : Addr} {m : Str → Option Value} {news : List (Addr × Obj)} {hp : Heap} {gn : Array GenState} {dr : Drawn} {tq : Nat} {oz : OsState} {x : Int} {tx : Tok}
    {Q E : Value → Shared → Prop} (B : Below A₀ base outer h₀) (F : Fr h₀ L hp m) (X : (lawTop.heap_39 w.params).In h₀) (N : News h₀ L hp news) (T : Top lawTop.view_39 (looseW lawTop.view_39 [Str.ofString "ascii_letters", Str.ofString "printable", Str.ofString "capwords"]) mean mg mb h₀) (hk : cs.kind = .function)
    (hdp : dp + 4 < recursionLimit) (hun : un + 40 < cLine)
    (hret : ∀ t h' tk', Fr h₀ L h' m → News h₀ L h' news → Q (.str (sgn x) t) ⟨h', gn, dr, tk', oz⟩) :
    wpAny (model PySem.Challenge.rw_ij0119_01.row.prog w) (ktrTop dp un gd cn cs L a ccd cl outer) (call (.ref 159) [.int x tx]) Q E ⟨hp, gn, dr, tq, oz⟩ := by
  w_top off
  k_with_none
  k_with "eval BinOp" => k_fold
  k_with "eval Call" => k_fold
  k_with "eval Subscript" => k_fold
  k_with "size_fits" => first | exact szT (Nat.le_refl _) (by decide) | exact szT (by with_reducible assumption) (by decide) | exact Nat.le_trans (by with_reducible assumption) (Nat.le_of_ble_eq_true rfl) | exact szAB (by with_reducible assumption) (by with_reducible assumption) (by decide)
  k_with "ite" => (k_here; k_openite; first | (refine ite_pos (by with_reducible assumption) ?_; walk_say "PRUNED") | (refine ite_neg (by with_reducible assumption) ?_; walk_say "PRUNED") | (refine ite_isFalse (by with_reducible assumption) ?_; walk_say "PRUNED") | with_reducible refine ite_tt ?_ | with_reducible refine ite_ff ?_ | (with_reducible refine split_ine ?_ ?_ <;> intro _) | (with_reducible refine split_ieq ?_ ?_ <;> intro _) | with_reducible refine split_not ?_ | (refine split_dec ?_ ?_ <;> intro _) | (refine split_bool ?_ ?_ <;> intro _))
  k_with "storeName" => (k_here; k_dflt (refine' storeX_M ?zzF ?zzN ?_ ?zza ?zzb; (case zzF => k_asm); (case zzN => k_asm); (case zza => rfl); (case zzb => rfl); k_whole); intro zzh zzt zzl zzm zzF zzN; (try k_sweep))
  k_with "eval Constant int" => (k_here; k_dflt (refine constI ?_))
  k_with "eval Constant str" => (k_here; k_dflt (refine constS ?_))
  k_with "spliced" => (k_here; (first | (fail_if_success (fail_if_success (with_reducible show wpAny _ _ (spliced (backTo _ (starEach (PySem.Expr.Name _ _ :: _) (envOf _ _ _ _ _)))) _ _ _))) | (fail_if_success (fail_if_success (with_reducible show wpAny _ _ (spliced (backTo _ (starEach (PySem.Expr.Name _ _ :: _) (envOfC _ _ _ _ _)))) _ _ _)))); first | ((fail_if_success (fail_if_success (with_reducible show wpAny _ _ (spliced (backTo _ (starEach [PySem.Expr.Name _ _] _))) _ _ _))); k_dflt (refine' argName1 ?zzF ?zzv ?_ ?zza ?zzb ?zzd; (case zzF => k_asm); (case zza => rfl); (case zzb => rfl); (case zzv => rfl); (case zzd => decide); k_whole)) | k_dflt (refine' argName ?zzF ?zzv ?_ ?zza ?zzb ?zzd; (case zzF => k_asm); (case zza => rfl); (case zzb => rfl); (case zzv => rfl); (case zzd => decide); k_whole))
  k_with "spliced" => (k_here; (fail_if_success (fail_if_success (with_reducible show wpAny _ _ (spliced (backTo _ (starEach [] _))) _ _ _))); k_dflt (refine args_nil ?_); (try ((with_reducible show wpAny _ _ (call _ (_ ++ _)) _ _ _); dsimp only [List.cons_append, List.nil_append])))
  k_with "callWith" => (k_here; (fail_if_success (fail_if_success (with_reducible show wpAny _ _ (callWith _ (Value.builtin _) [_] (backTo _ (starEach (_ :: _) _)) []) _ _ _))); first | ((first | (fail_if_success (fail_if_success (with_reducible show wpAny _ _ (callWith _ _ _ (backTo _ (starEach [PySem.Expr.Name _ _] (envOf _ _ _ _ _))) _) _ _ _))) | (fail_if_success (fail_if_success (with_reducible show wpAny _ _ (callWith _ _ _ (backTo _ (starEach [PySem.Expr.Name _ _] (envOfC _ _ _ _ _))) _) _ _ _)))); k_dflt (refine' callM1 ?zzF ?zzv ?_ ?zza ?zzb ?zzd; (case zzF => k_asm); (case zza => rfl); (case zzb => rfl); (case zzv => rfl); (case zzd => decide); k_whole)) | k_dflt (refine' callM ?_ ?zze ?zzp; (case zze => rfl); (case zzp => rfl)))
  k_with "callWith" => (k_here; (first | (fail_if_success (fail_if_success (with_reducible show wpAny _ _ (callWith _ (Value.builtin _) [] (backTo _ (starEach [PySem.Expr.Name _ _] (envOf _ _ _ _ _))) []) _ _ _))) | (fail_if_success (fail_if_success (with_reducible show wpAny _ _ (callWith _ (Value.builtin _) [] (backTo _ (starEach [PySem.Expr.Name _ _] (envOfC _ _ _ _ _))) []) _ _ _)))); k_dflt (refine' callB1 ?zzF ?zzv ?_ ?zza ?zzb ?zzd; (case zzF => k_asm); (case zza => rfl); (case zzb => rfl); (case zzv => rfl); (case zzd => decide); k_whole))
  k_with "newTuple" => (k_here; k_dflt (refine' tupM ?zzF ?zzN ?_ ?zzz; (case zzF => k_asm); (case zzN => k_asm); (case zzz => exact szT (Nat.le_of_ble_eq_true rfl : _ ≤ 7) (by decide)); k_whole); intro zzD zzh zzF zzN zzl; (try k_lt zzl); (try k_sweep))
  k_with "newList" => (k_here; k_dflt (refine' listM ?zzF ?zzN ?_ ?zzz; (case zzF => k_asm); (case zzN => k_asm); (case zzz => exact szT (Nat.le_of_ble_eq_true rfl : _ ≤ 7) (by decide)); k_whole); intro zzD zzh zzF zzN zzl; (try k_lt zzl); (try k_sweep))
  k_with "LeaveK" => (k_here; k_dflt (refine' leaveM ?zzF ?zzN ?_; (case zzF => k_asm); (case zzN => k_asm); k_whole); intro zzF zzN; (try k_sweep); (try dsimp only))
  k_with "k_all" => exact ltAll (by with_reducible assumption) (leN (by (try dsimp only); omega))
  k_with "eval ListComp" => (k_here; k_dflt (refine LCt.ListComp_T (F₀ := by k_asm) (by with_unfolding_all rfl) (by decide) (by rfl) (by decide) (by rfl) ?_))
  k_with "subscriptTail" => (k_here; (with_reducible show wpAny _ _ (subscriptTail _ (PySem.Expr.UnaryOp _ _ _) (Value.ref _) _) _ _ _); k_dflt (refine' itemLastInt ?zzN ?zzm ?zzh ?_ ?zzks; (case zzks => with_unfolding_all rfl); (case zzN => with_reducible assumption); (case zzm => exact .head _); (case zzh => with_reducible assumption); k_whole); intro _)
  k_with "CompSrcT" => (k_here; (with_reducible rename IsRange _ _ _ _ _ _ _ _ => lR); (with_reducible rename News _ _ _ _ => lN); (with_reducible rename Fr _ _ _ _ => lF); k_dflt (refine srcRange (n := 7) rfl lF lN lR (by decide) (by rfl) (by exact Nat.le_of_ble_eq_true rfl) ?_))
  revert X
  k_fill
  intro X
  refine wpAny_call ?_
  k_dflt (refine' code_defC ?k1 ?k2 ?k3 ?k4 ?k5 ?kA ?kF ?kK ?k6 ?k7 ?k8 ?k9 ?kB ?kD ?_ ?c2 ?c3 ?c4; (case kA => exact rfl); (case kF => exact rfl); (case kK => assumption); (case k1 => k_asm); (case k2 => k_asm); (case k3 => k_asm); (case k4 => k_asm); (case k5 => k_asm); (case k6 => k_is); (case k7 => k_is); (case k8 => first | exact Nat.lt_of_le_of_lt (Nat.le_add_right dp 4) hdp | ktr_room); (case k9 => exact BindsTo.of_eq rfl); (case kB => exact rfl); (case kD => decide +kernel); (case c2 => exact rfl); (case c3 => exact rfl); (case c4 => exact rfl); k_whole; intro g' L' h' tk' cells' FG' F' N' Y' B' X' T' l1; (try k_lt l1); k_cells Y'; (try simp only [List.cons_append, List.nil_append] at N'); (try dsimp only); (try k_lift B'); (try k_fold))
  k_steps
  · rw [sgn1 (by with_reducible assumption)]; (refine' hret _ _ _ ?F ?N; (case F => with_reducible assumption); (case N => exact tailN1 (tailN1 (by with_reducible assumption))))
  · rw [sgn2 (by with_reducible assumption) (by with_reducible assumption)]; (refine' hret _ _ _ ?F ?N; (case F => with_reducible assumption); (case N => exact tailN1 (tailN1 (by with_reducible assumption))))
  · intro g
    have p0 : 0 ≤ (x.fdiv 16).fmod 100 := Int.fmod_nonneg_of_pos _ (by decide)
    refine' filtInts (passes ((x.fdiv 16).fmod 100)) ?turn ?fin
    case turn =>
      intro i t I oI C oC D m₂ ys h tk E' hi hC hx F' N' off ne
      k_steps
      all_goals (refine' LCg.CompEnd.intro ?F ?N _ ?sub ?off trivial ⟨rfl, ?e⟩; (case F => with_reducible assumption); (case N => with_reducible assumption); (case sub => exact fun p hp => .tail _ hp); (case off => with_reducible assumption); (case e => first | exact ⟨⟨_, rfl⟩, pass1 (by with_reducible assumption)⟩ | exact pass0 (by with_reducible assumption)))
    case fin =>
      intro ys hys
      obtain ⟨k, hk7, e, e9, b1, b2⟩ := placeAt (x := x) (by with_reducible assumption) (by with_reducible assumption)
      rw [e] at hys
      clear e
      have hk0 : (0 : Int) ≤ (k : Int) := Int.natCast_nonneg k
      have hk6 : (k : Int) < 7 := by omega
      have b1' : 0 ≤ ([48, 97, 65, 33, 58, 91, 123] : List Int).getD ((k : Int)).toNat 0 + (x.fdiv 16).fmod 100 - (List.take ((k : Int)).toNat ([10, 26, 26, 15, 7, 6, 4] : List Int)).sum := b1
      have b2' : ([48, 97, 65, 33, 58, 91, 123] : List Int).getD ((k : Int)).toNat 0 + (x.fdiv 16).fmod 100 - (List.take ((k : Int)).toNat ([10, 26, 26, 15, 7, 6, 4] : List Int)).sum ≤ 126 := b2
      have e9' : (⟨#[(([48, 97, 65, 33, 58, 91, 123] : List Int).getD ((k : Int)).toNat 0 + (x.fdiv 16).fmod 100 - (List.take ((k : Int)).toNat ([10, 26, 26, 15, 7, 6, 4] : List Int)).sum).toNat]⟩ : Str) = sgn x := e9
      clear b1 b2 e9
      k_steps
      rw [e9']
      (refine' hret _ _ _ ?F ?N; (case F => with_reducible assumption); (case N => exact tailN1 (tailN1 (tailN1 (tailN1 (tailN1 (tailN1 (by with_reducible assumption))))))))
-- slices
theorem clipNat (a n : Nat) : max (0 : Int) (min (a : Int) (n : Int)) = ((min a n : Nat) : Int) := by
  rcases Nat.le_total a n with h | h
  · rw [Nat.min_eq_left h, Int.min_eq_left (Int.ofNat_le.mpr h), Int.max_eq_right (Int.natCast_nonneg a)]
  · rw [Nat.min_eq_right h, Int.min_eq_right (Int.ofNat_le.mpr h), Int.max_eq_right (Int.natCast_nonneg n)]
theorem natNeg (a : Nat) : ¬ ((a : Int) < 0) := Int.not_lt.mpr (Int.natCast_nonneg a)
theorem sliceIdx_min (a b n : Nat) : Builtin.Str.strSliceIndices (some (a : Int)) (some (b : Int)) 1 n = Builtin.Str.strSliceIndices (some ((min a n : Nat) : Int)) (some ((min b n : Nat) : Int)) 1 n := by
  have e3 : ∀ a : Nat, min (min a n) n = min a n := fun a => Nat.min_eq_left (Nat.min_le_right a n)
  simp only [Builtin.Str.strSliceIndices, if_neg (natNeg _), if_pos (show (1 : Int) > 0 by decide), clipNat, e3]
theorem sliceSS (l : List Nat) {a b : Nat} (h : a ≤ b) : Txt.slice (S l) (some (a : Int)) (some (b : Int)) = S ((l.drop a).take (b - a)) := by
  have e : Txt.slice (S l) (some (a : Int)) (some (b : Int)) = StrLaws.sliceText (S l) (some ((min a l.length : Nat) : Int)) (some ((min b l.length : Nat) : Int)) := by
    show StrLaws.sliceText _ _ _ = _
    unfold StrLaws.sliceText
    rw [sliceIdx_min, S_len]
  rw [e, StrLaws.sliceText_nat _ (Nat.le_min.mpr ⟨Nat.le_trans (Nat.min_le_left _ _) h, Nat.min_le_right _ _⟩) (by rw [S_len]; exact Nat.min_le_right _ _)]
  show S ((l.drop (min a l.length)).take (min b l.length - min a l.length)) = _
  congr 1
  by_cases ha : a ≤ l.length
  · rw [Nat.min_eq_left ha]
    by_cases hb : b ≤ l.length
    · rw [Nat.min_eq_left hb]
    · rw [Nat.min_eq_right (Nat.le_of_not_le hb), List.take_of_length_le (Nat.le_of_eq List.length_drop), List.take_of_length_le (by rw [List.length_drop]; exact Nat.sub_le_sub_right (Nat.le_of_not_le hb) a)]
  · rw [List.drop_of_length_le (i := min a l.length) (Nat.le_min.mpr ⟨Nat.le_of_not_le ha, Nat.le_refl _⟩), List.drop_of_length_le (i := a) (Nat.le_of_not_le ha), List.take_nil, List.take_nil]
theorem sliceTo (l : List Nat) (b : Nat) : Txt.slice (S l) none (some (b : Int)) = S (l.take b) := by
  have e : Txt.slice (S l) none (some (b : Int)) = Txt.slice (S l) (some ((0 : Nat) : Int)) (some (b : Int)) := by
    show StrLaws.sliceText _ _ _ = StrLaws.sliceText _ _ _
    unfold StrLaws.sliceText
    rw [StrLaws.sliceIdx_none_lo]; rfl
  rw [e, sliceSS l (Nat.zero_le b), List.drop_zero, Nat.sub_zero]
theorem sliceFrom (l : List Nat) (a : Nat) : Txt.slice (S l) (some (a : Int)) none = S (l.drop a) := by
  by_cases h : a ≤ l.length
  · have e : Txt.slice (S l) (some (a : Int)) none = Txt.slice (S l) (some (a : Int)) (some ((l.length : Nat) : Int)) := by
      show StrLaws.sliceText _ _ _ = StrLaws.sliceText _ _ _
      unfold StrLaws.sliceText
      rw [StrLaws.sliceIdx_none_hi, S_len]
    rw [e, sliceSS l h, List.take_of_length_le (by simp)]
  · rw [slice_from_beyond (by rw [S_len]; omega), List.drop_of_length_le (by omega)]
-- pieces at a mark
noncomputable def stpB (b : Nat → Bool) (s : Pc) (c : Nat) : Pc := if b c = true then (s.1 ++ [s.2], []) else (s.1, s.2 ++ [c])
noncomputable def spl (b : Nat → Bool) (l : List Nat) : List (List Nat) := let s := l.foldl (stpB b) ([], []); s.1 ++ [s.2]
theorem stp_B : stp = stpB wh := rfl
theorem spl_pcs (l : List Nat) : spl wh l = (pcs l).1 ++ [(pcs l).2] := rfl
theorem fold_free (b : Nat → Bool) : ∀ (p : List Nat) (s : Pc), (∀ c ∈ p, b c = false) → p.foldl (stpB b) s = (s.1, s.2 ++ p)
  | [], s, _ => by simp
  | c :: r, s, h => by
    rw [List.foldl_cons, fold_free b r _ (fun a ha => h a (.tail _ ha))]
    unfold stpB
    rw [if_neg (by rw [h c (.head _)]; decide)]
    simp
theorem fold_jn (b : Nat → Bool) (m : Nat) (hm : b m = true) : ∀ (ps : List (List Nat)) (s : Pc), (∀ p ∈ ps, ∀ c ∈ p, b c = false) → ps ≠ [] →
    (let z := (jn [m] ps).foldl (stpB b) s; z.1 ++ [z.2]) = match ps with | [] => [] | p :: r => s.1 ++ (s.2 ++ p) :: r
  | [], _, _, h => absurd rfl h
  | [p], s, h, _ => by
    show (let z := p.foldl (stpB b) s; z.1 ++ [z.2]) = s.1 ++ [s.2 ++ p]
    rw [fold_free b p s (h p (.head _))]
  | p :: q :: r, s, h, _ => by
    have ih := fold_jn b m hm (q :: r) (s.1 ++ [s.2 ++ p], []) (fun a ha => h a (.tail _ ha)) (List.cons_ne_nil _ _)
    show (let z := (p ++ [m] ++ jn [m] (q :: r)).foldl (stpB b) s; z.1 ++ [z.2]) = s.1 ++ (s.2 ++ p) :: q :: r
    rw [List.foldl_append, List.foldl_append, fold_free b p s (h p (.head _))]
    have e : [m].foldl (stpB b) (s.1, s.2 ++ p) = (s.1 ++ [s.2 ++ p], []) := by
      show stpB b _ m = _
      unfold stpB
      rw [if_pos hm]
    rw [e, ih]
    simp
theorem spl_jn (b : Nat → Bool) (m : Nat) (hm : b m = true) {ps : List (List Nat)} (h : ∀ p ∈ ps, ∀ c ∈ p, b c = false) (hn : ps ≠ []) : spl b (jn [m] ps) = ps := by
  have := fold_jn b m hm ps ([], []) h hn
  cases ps with
  | nil => exact absurd rfl hn
  | cons p r => simpa [spl] using this
theorem split_ne (x : Str) (c : Nat) : Txt.split x ⟨#[c]⟩ ≠ [] := by
  unfold Txt.split
  split
  · exact List.cons_ne_nil _ _
  · split
    · exact List.cons_ne_nil _ _
    · rw [StrLaws.partsBetween_eq]
      obtain ⟨p, r, e⟩ := StrLaws.partsFrom_ne x (⟨#[c]⟩ : Str).length 0 (Builtin.Str.occurrences x ⟨#[c]⟩ 0 x.length (x.length + 1))
      rw [e]; exact List.cons_ne_nil _ _
theorem mapS (ps : List Str) : (ps.map fun p => p.cps.toList).map S = ps := by
  rw [List.map_map]
  conv => rhs; rw [← List.map_id ps]
  exact List.map_congr_left fun p _ => rfl
noncomputable abbrev is47 (c : Nat) : Bool := c == 47
theorem splitS (l : List Nat) : Txt.split (S l) (Str.ofString "/") = (spl is47 l).map S := by
  have h1 := StrLaws.join_split (S l) ⟨#[47]⟩
  have h2 := StrLaws.split_free (S l) 47
  have h3 := split_ne (S l) 47
  show Txt.split (S l) ⟨#[47]⟩ = _
  generalize Txt.split (S l) ⟨#[47]⟩ = ps at h1 h2 h3
  have e : Txt.join (S [47]) ((ps.map fun p => p.cps.toList).map S) = S l := by
    rw [mapS]
    show Builtin.Str.glued _ _ = _
    rw [StrLaws.glued_eq_join]
    exact h1
  rw [joinS] at e
  have e2 := S_inj e
  rw [← e2, spl_jn is47 47 rfl, mapS]
  · intro p hp c hc
    obtain ⟨q, hq, rfl⟩ := List.mem_map.mp hp
    have := h2 q hq
    have : c ≠ 47 := fun h => this (h ▸ hc)
    simpa using this
  · simpa using h3
theorem fold_map (b b' : Nat → Bool) (f g : Nat → Nat) (h1 : ∀ c, b' (f c) = b c) (h2 : ∀ c, b c = false → f c = g c) : ∀ (l : List Nat) (s : Pc),
    (l.map f).foldl (stpB b') (s.1.map (·.map g), s.2.map g) = (((l.foldl (stpB b) s).1).map (·.map g), (l.foldl (stpB b) s).2.map g)
  | [], s => rfl
  | c :: r, s => by
    have ih := fold_map b b' f g h1 h2 r (stpB b s c)
    rw [List.map_cons, List.foldl_cons, List.foldl_cons, ← ih]
    congr 1
    unfold stpB
    rw [h1]
    by_cases hb : b c = true
    · rw [if_pos hb, if_pos hb]; simp
    · rw [if_neg hb, if_neg hb, h2 c (by simpa using hb)]; simp
theorem tw_47 (c : Nat) : is47 (tw c) = wh c := by
  unfold tw
  by_cases h : wh c = true
  · rw [if_pos h, h]; rfl
  · rw [if_neg h]
    have := sm_ne c
    have h' : wh c = false := by simpa using h
    rw [h']
    simpa using this
theorem spl_tw (l : List Nat) : spl is47 (l.map tw) = (spl wh l).map (·.map sm) := by
  have h := fold_map wh is47 tw sm tw_47 (fun c hc => by unfold tw; rw [if_neg (by rw [hc]; decide)]) l ([], [])
  unfold spl
  have h' : (l.map tw).foldl (stpB is47) ([], []) = (((l.foldl (stpB wh) ([], [])).1).map (fun x => x.map sm), (l.foldl (stpB wh) ([], [])).2.map sm) := h
  dsimp only
  rw [h']
  simp
theorem fold_mem (P : Nat → Prop) : ∀ (l : List Nat) (s : Pc), (∀ c ∈ l, P c) → (∀ q ∈ s.1 ++ [s.2], ∀ c ∈ q, P c) → ∀ q ∈ (l.foldl stp s).1 ++ [(l.foldl stp s).2], ∀ c ∈ q, P c
  | [], _, _, h => h
  | a :: r, s, hl, h => by
    rw [List.foldl_cons]
    refine fold_mem P r _ (fun c hc => hl c (.tail _ hc)) ?_
    unfold stp
    split
    · intro q hq
      rcases List.mem_append.mp hq with hq | hq
      · exact h q hq
      · rw [List.mem_singleton.mp hq]; intro c hc; cases hc
    · intro q hq
      rcases List.mem_append.mp hq with hq | hq
      · exact h q (List.mem_append_left _ hq)
      · rw [List.mem_singleton.mp hq]
        intro c hc
        rcases List.mem_append.mp hc with hc | hc
        · exact h s.2 (List.mem_append_right _ (.head _)) c hc
        · rw [List.mem_singleton.mp hc]; exact hl a (.head _)
theorem pcs_pr {l : List Nat} (hl : ∀ c ∈ l, Pr c) : ∀ q ∈ (pcs l).1 ++ [(pcs l).2], ∀ c ∈ q, Pr c :=
  fold_mem Pr l ([], []) hl (fun q hq => by rw [List.mem_singleton.mp hq]; intro c hc; cases hc)
theorem S_zero {p : List Nat} : (S p).length = 0 ↔ p = [] := by rw [S_len, List.length_eq_zero_iff]
theorem scan_fold : ∀ (l : List Nat) (s : Pc), (∀ c ∈ l, Pr c) → l.foldl KWd.step ((ne s.1).map S, S s.2) = ((ne (l.foldl stp s).1).map S, S (l.foldl stp s).2)
  | [], _, _ => rfl
  | a :: r, s, hl => by
    rw [List.foldl_cons, List.foldl_cons, ← scan_fold r (stp s a) (fun c hc => hl c (.tail _ hc))]
    congr 1
    unfold KWd.step stp
    rw [spc (hl a (.head _))]
    by_cases h : wh a = true
    · rw [if_pos h, if_pos h]
      dsimp only
      by_cases hp : s.2 = []
      · rw [if_pos (S_zero.mpr hp), ne_app, hp, ne_nil1, List.append_nil]
      · rw [if_neg (fun e => hp (S_zero.mp e)), ne_app, ne_one hp, List.map_append]; rfl
    · rw [if_neg h, if_neg h]
      show (_, S s.2 ++ S [a]) = _
      rw [S_app]
theorem words_pcs {l : List Nat} (hl : ∀ c ∈ l, Pr c) : Txt.words (S l) = (ne ((pcs l).1 ++ [(pcs l).2])).map S := by
  rw [KWd.words_scan]
  have e : KWd.scan (S l) = ((ne (pcs l).1).map S, S (pcs l).2) := scan_fold l ([], []) hl
  rw [e]
  unfold KWd.fin
  dsimp only
  by_cases hp : (pcs l).2 = []
  · rw [if_pos (S_zero.mpr hp), ne_app, hp, ne_nil1, List.append_nil]
  · rw [if_neg (fun e => hp (S_zero.mp e)), ne_app, ne_one hp, List.map_append]; rfl
theorem title_S {w : List Nat} (h : ∀ c ∈ w, Pr c) : titleF (S w) = S (capL w) := by
  show Txt.upper (Txt.slice (S w) none (some ((1 : Nat) : Int))) ++ Txt.lower (Txt.slice (S w) (some ((1 : Nat) : Int)) none) = _
  rw [sliceTo, sliceFrom, upperS (fun c hc => h c (List.mem_of_mem_take hc)), lowerS (fun c hc => h c (List.mem_of_mem_drop hc)), S_app]
  cases w <;> rfl
theorem ne_mem {q : List Nat} {d : List (List Nat)} (h : q ∈ ne d) : q ∈ d := (List.mem_filter.mp h).1
theorem ne_pr {d : List (List Nat)} (h : ∀ q ∈ d, ∀ c ∈ q, Pr c) : ∀ q ∈ ne d, ∀ c ∈ q, Pr c := fun q hq => h q (ne_mem hq)
theorem titles {d : List (List Nat)} (h : ∀ q ∈ d, ∀ c ∈ q, Pr c) : (d.map S).map titleF = (d.map capL).map S := by
  rw [List.map_map, List.map_map]
  exact List.map_congr_left fun q hq => title_S (h q hq)
theorem caps {d : List (List Nat)} (h : ∀ q ∈ d, ∀ c ∈ q, Pr c) : (d.map S).map Txt.capitalize = (d.map capL).map S := by
  rw [List.map_map, List.map_map]
  exact List.map_congr_left fun q hq => capS (h q hq)
/-- capwords without a mark -/
theorem ag1 {l : List Nat} (hl : ∀ c ∈ l, Pr c) : capT (S l) = titleJ (absR (pcs l)).ws := by
  show Txt.join (Str.ofString " ") ((Txt.words (S l)).map Txt.capitalize) = Txt.join (Str.ofString " ") (((ne ((pcs l).1 ++ [(pcs l).2])).map S).map titleF)
  rw [words_pcs hl, caps (ne_pr (pcs_pr hl)), titles (ne_pr (pcs_pr hl))]
theorem jn_bas (p : List Nat) : ∀ d : List (List Nat), jn [47] ((d ++ [p]).map T) = bas d ++ T p
  | [] => rfl
  | a :: r => by
    have ih := jn_bas p r
    show jn [47] (T a :: (r ++ [p]).map T) = (T a ++ [47] ++ bas r) ++ T p
    rw [jn_cons _ _ (by simp), ih]
    simp
/-- capwords by the slash, of the twin path -/
theorem ag2 {l : List Nat} (hl : ∀ c ∈ l, Pr c) : capP (pathF (S l)) = (absR (pcs l)).great := by
  rw [path_S]
  show Txt.join (S [47]) ((Txt.split (S (l.map tw)) (Str.ofString "/")).map Txt.capitalize) = S (bas (pcs l).1 ++ T (pcs l).2)
  rw [splitS, spl_tw, spl_pcs, caps, joinS, ← jn_bas]
  · rw [List.map_map]; rfl
  · intro q hq c hc
    obtain ⟨q', hq', rfl⟩ := List.mem_map.mp hq
    obtain ⟨c', hc', rfl⟩ := List.mem_map.mp hc
    exact pr_sm (pcs_pr hl q' hq' c' hc')
theorem bneS (a b : List Nat) : (S a != S b) = (a != b) := by
  rw [Bool.eq_iff_iff, bne_iff_ne, bne_iff_ne]
  exact not_congr ⟨S_inj, fun h => h ▸ rfl⟩
theorem beqS (a b : List Nat) : (S a == S b) = (a == b) := by
  rw [Bool.eq_iff_iff, beq_iff_eq, beq_iff_eq]
  exact ⟨S_inj, fun h => h ▸ rfl⟩
theorem head_ne {p r : List Nat} (h : p ≠ []) : (T p ++ r).head? ≠ some 47 := by
  cases p with
  | nil => exact absurd rfl h
  | cons c q =>
    show some (up (sm c)) ≠ some 47
    intro e
    exact up_ne (sm_ne c) (Option.some.inj e)
theorem front_get (p : List Nat) : ∀ d : List (List Nat), ∃ g', bas d ++ T p = List.replicate (frontOf d) 47 ++ g' ∧ g' = bas (d.drop (frontOf d)) ++ T p ∧ g'.head? ≠ some 47
  | [] => ⟨T p, rfl, rfl, by
      cases p with
      | nil => exact fun e => by cases e
      | cons c q => have := head_ne (p := c :: q) (r := []) (List.cons_ne_nil _ _); rwa [List.append_nil] at this⟩
  | [] :: r => by
    obtain ⟨g', h1, h2, h3⟩ := front_get p r
    refine ⟨g', ?_, h2, h3⟩
    have e : frontOf ([] :: r) = frontOf r + 1 := rfl
    rw [e, List.replicate_succ]
    show 47 :: (bas r ++ T p) = _
    rw [h1]; rfl
  | (c :: q) :: r => ⟨bas ((c :: q) :: r) ++ T p, rfl, rfl, by
      have e : bas ((c :: q) :: r) ++ T p = T (c :: q) ++ (47 :: bas r ++ T p) := by simp [bas]
      rw [e]; exact head_ne (List.cons_ne_nil _ _)⟩
theorem take1 {l : List Nat} (h : l.head? ≠ some 47) : (l.take 1 != [47]) = true := by
  cases l with
  | nil => rfl
  | cons a r =>
    show ([a] != [47]) = true
    rw [bne_iff_ne]
    intro e
    exact h (by show some a = some 47; rw [List.cons.inj e |>.1])
theorem rootS (f : Nat) : rootF (f : Int) = if f = 2 then S [47, 47] else S ([47].take f) := by
  unfold rootF
  by_cases h : f = 2
  · rw [if_pos h, if_pos (by omega)]; rfl
  · rw [if_neg h, if_neg (by omega)]; exact sliceTo [47] f
/-- splitroot of the path -/
theorem ag6 (s : Pc) : splitrootF (absR s).great = (Str.ofString "", rootF (absR s).front, Txt.slice (absR s).great (some ((rootF (absR s).front).length : Int)) none) := by
  obtain ⟨d, p⟩ := s
  obtain ⟨g', h1, -, h3⟩ := front_get p d
  show splitrootF (S (bas d ++ T p)) = (_, rootF (frontOf d : Int), Txt.slice (S (bas d ++ T p)) (some ((rootF (frontOf d : Int)).length : Int)) none)
  rw [h1]
  generalize frontOf d = f
  have hg := take1 h3
  have s1 : ∀ l : List Nat, Txt.slice (S l) none (some 1) = S (l.take 1) := fun l => sliceTo l 1
  have s2 : ∀ l : List Nat, Txt.slice (S l) (some 1) (some 2) = S ((l.drop 1).take 1) := fun l => sliceSS l (a := 1) (b := 2) (by omega)
  have s3 : ∀ l : List Nat, Txt.slice (S l) (some 2) (some 3) = S ((l.drop 2).take 1) := fun l => sliceSS l (a := 2) (b := 3) (by omega)
  have s4 : ∀ l : List Nat, Txt.slice (S l) (some 1) none = S (l.drop 1) := fun l => sliceFrom l 1
  have s5 : ∀ l : List Nat, Txt.slice (S l) (some 2) none = S (l.drop 2) := fun l => sliceFrom l 2
  have s6 : ∀ l : List Nat, Txt.slice (S l) none (some 2) = S (l.take 2) := fun l => sliceTo l 2
  have b1 : ∀ l : List Nat, (S l != Str.ofString "/") = (l != [47]) := fun l => bneS l [47]
  have b2 : ∀ l : List Nat, (S l == Str.ofString "/") = (l == [47]) := fun l => beqS l [47]
  rw [rootS, sliceFrom]
  match f with
  | 0 =>
    rw [splitrootF, s1, b1, if_pos (by simpa using hg)]
    rfl
  | 1 =>
    rw [splitrootF, s1, b1, if_neg (by simp), s2, b1, if_pos (by simpa using hg), s4]
    rfl
  | 2 =>
    have hg' : (g'.take 1 == [47]) = false := by simpa [bne] using hg
    rw [splitrootF, s1, b1, if_neg (by simp), s2, b1, if_neg (by simp), s3, b2, if_neg (by simpa using hg'), s5, s6]
    rfl
  | f + 3 =>
    rw [splitrootF, s1, b1, if_neg (by simp [List.replicate_succ]), s2, b1, if_neg (by simp [List.replicate_succ]), s3, b2, if_pos (by simp [List.replicate_succ]), s4, if_neg (by omega)]
    rfl
theorem atS (l : List Nat) (c i : Nat) : StrLaws.At (S l) ⟨#[c]⟩ (S l).length i ↔ l[i]? = some c := by
  have := StrLaws.subAt_one (S l) c i
  unfold StrLaws.At
  rw [this]
theorem rfind_cases (l : List Nat) (c : Nat) : (Txt.rfind (S l) (S [c]) = -1 ∧ ∀ i : Nat, l[i]? ≠ some c) ∨ ∃ i : Nat, Txt.rfind (S l) (S [c]) = (i : Int) ∧ l[i]? = some c ∧ ∀ k : Nat, i < k → l[k]? ≠ some c := by
  unfold Txt.rfind
  rcases StrLaws.last_spec (S l) (S [c]) with ⟨e, h⟩ | ⟨i, e, h, hl⟩
  · rw [e]
    exact .inl ⟨rfl, fun i hi => h i ((atS l c i).mpr hi)⟩
  · rw [e]
    exact .inr ⟨i, rfl, (atS l c i).mp h, fun k hk hk' => hl k hk ((atS l c k).mpr hk')⟩
theorem rfind_is {l : List Nat} {c i : Nat} (h : l[i]? = some c) (hl : ∀ k : Nat, i < k → l[k]? ≠ some c) : Txt.rfind (S l) (S [c]) = (i : Int) := by
  rcases rfind_cases l c with ⟨_, h'⟩ | ⟨j, e, hj, hlj⟩
  · exact absurd h (h' i)
  · have : j = i := by
      rcases Nat.lt_trichotomy i j with q | q | q
      · exact absurd hj (hl j q)
      · exact q.symm
      · exact absurd h (hlj i q)
    rw [e, this]
theorem rfind_none {l : List Nat} {c : Nat} (h : c ∉ l) : Txt.rfind (S l) (S [c]) = -1 := by
  rcases rfind_cases l c with ⟨e, _⟩ | ⟨j, _, hj, _⟩
  · exact e
  · exact absurd (List.mem_of_getElem? hj) h
theorem free_get {l : List Nat} {c : Nat} (h : c ∉ l) (k : Nat) : l[k]? ≠ some c := fun e => h (List.mem_of_getElem? e)
/-- the last slash of the path stands ahead of the open piece -/
theorem rfind_slash (d : List (List Nat)) (p : List Nat) : Txt.rfind (S (bas d ++ T p)) (S [47]) + 1 = ((bas d).length : Int) := by
  rcases List.eq_nil_or_concat d with rfl | ⟨d', q, rfl⟩
  · have e : bas [] ++ T p = T p := rfl
    rw [e, rfind_none (T_free p)]; rfl
  · rw [List.concat_eq_append, bas_snoc]
    have e : Txt.rfind (S (bas d' ++ T q ++ [47] ++ T p)) (S [47]) = (((bas d' ++ T q).length : Nat) : Int) := by
      refine rfind_is ?_ ?_
      · rw [List.append_assoc, List.getElem?_append_right (Nat.le_refl _), Nat.sub_self]; rfl
      · intro k hk
        rw [List.append_assoc, List.getElem?_append_right (Nat.le_of_lt hk)]
        obtain ⟨j, hj⟩ : ∃ j, k - (bas d' ++ T q).length = j + 1 := ⟨(k - (bas d' ++ T q).length).pred, (Nat.succ_pred_eq_of_pos (Nat.sub_pos_of_lt hk)).symm⟩
        rw [hj]
        exact free_get (T_free p) j
    rw [e, List.length_append (as := bas d' ++ T q)]
    simp
theorem foldl_app (l : Array Nat) : ∀ (n : Nat) (a : Array Nat), ((List.replicate n l).foldl (· ++ ·) a).toList = a.toList ++ (List.replicate n l.toList).flatten
  | 0, a => by simp
  | n + 1, a => by
    rw [List.replicate_succ, List.foldl_cons, foldl_app l n]
    simp [List.replicate_succ]
theorem mulS {n : Nat} (h : 1 ≤ n) : Txt.mul (S [47]) (n : Int) = S (List.replicate n 47) := by
  unfold Txt.mul
  rw [if_neg (by omega)]
  by_cases h1 : n = 1
  · subst h1; rfl
  · have h2 : ((n : Int) == 1 || (S [47]).length == 0) = false := by
      have : ((n : Int) == 1) = false := by simpa using (by omega : ¬ (n : Int) = 1)
      rw [this]; rfl
    rw [if_neg (by rw [h2]; decide)]
    refine S_of ?_
    show ((List.replicate n #[47]).foldl (· ++ ·) #[]).toList = _
    rw [foldl_app]
    have : ∀ m : Nat, (List.replicate m [47]).flatten = List.replicate m 47 := by
      intro m
      induction m with
      | zero => rfl
      | succ m ih => rw [List.replicate_succ, List.flatten_cons, ih]; rfl
    simpa using this n
theorem rstripS (l : List Nat) : Txt.rstripChars (S l) (S [47]) = S (rs l) := by
  have hc : ∀ c, (S [47]).cps.contains c = (c == 47) := by
    intro c
    show (#[47] : Array Nat).contains c = _
    rw [Bool.eq_iff_iff]; simp
  have hh : stripHi (S [47]).cps.contains true (S l) 0 = l.length - (l.reverse.takeWhile (· == 47)).length := by
    unfold stripHi
    rw [if_pos rfl, S_len]
    congr 2
    show List.takeWhile _ (l.drop 0).reverse = _
    rw [List.drop_zero]
    congr 1
    funext c
    exact hc c
  have hrs : rs l = l.take (l.length - (l.reverse.takeWhile (· == 47)).length) := by
    unfold rs
    have e := List.takeWhile_append_dropWhile (p := (· == 47)) (l := l.reverse)
    have e2 : l = (l.reverse.dropWhile (· == 47)).reverse ++ (l.reverse.takeWhile (· == 47)).reverse := by
      rw [← List.reverse_append, e, List.reverse_reverse]
    have hl : l.length - (l.reverse.takeWhile (· == 47)).length = (l.reverse.dropWhile (· == 47)).reverse.length := by
      have := congrArg List.length e2
      rw [List.length_append, List.length_reverse, List.length_reverse] at this
      rw [List.length_reverse]
      exact Nat.sub_eq_of_eq_add this
    rw [hl]
    conv => rhs; rw [e2]
    simp
  unfold Txt.rstripChars Txt.stripBy stripSame PySem.stripped
  have hlo : stripLo (S [47]).cps.contains false (S l) = 0 := by unfold stripLo; rfl
  rw [hlo, hh]
  by_cases hs : l.length - (l.reverse.takeWhile (· == 47)).length = l.length
  · rw [if_pos (by rw [S_len, hs]; simp), hrs, hs, List.take_length]
  · rw [if_neg (by rw [S_len]; simp; omega), hrs]
    refine S_of ?_
    rw [StrLaws.strSub_toList]
    rfl
theorem bas_slashes : ∀ {d : List (List Nat)}, ne d = [] → bas d = List.replicate d.length 47
  | [], _ => rfl
  | [] :: r, h => by
    have := bas_slashes (d := r) (by simpa [ne] using h)
    show [47] ++ bas r = _
    rw [this]; rfl
  | (c :: q) :: r, h => by simp [ne] at h
theorem bas_ne : ∀ {d : List (List Nat)}, ne d ≠ [] → ∃ c ∈ bas d, c ≠ 47
  | [], h => absurd rfl h
  | [] :: r, h => by
    obtain ⟨c, hc, hn⟩ := bas_ne (d := r) (by simpa [ne] using h)
    exact ⟨c, List.mem_append_right _ hc, hn⟩
  | (c :: q) :: r, _ => ⟨up (sm c), by simp [bas, T, capL], up_ne (sm_ne c)⟩
/-- split of the path -/
theorem ag4 (s : Pc) : splitF (absR s).great = ((absR s).head, Txt.slice (absR s).great (some (absR s).start) none) := by
  obtain ⟨d, p⟩ := s
  show splitF (S (bas d ++ T p)) = (S (hd d), Txt.slice (S (bas d ++ T p)) (some ((bas d).length : Int)) none)
  have hr := rfind_slash d p
  have hb : Txt.slice (S (bas d ++ T p)) none (some ((bas d).length : Int)) = S (bas d) := by rw [sliceTo, List.take_left]
  have e47 : Str.ofString "/" = S [47] := rfl
  unfold splitF
  rw [e47, hr, hb, S_len]
  by_cases h0 : (bas d).length = 0
  · rw [if_neg (by omega)]
    have hd0 : d = [] := by
      cases d with
      | nil => rfl
      | cons a r => simp [bas] at h0
    subst hd0
    rfl
  · rw [if_pos (by omega), mulS (by omega), bneS]
    unfold hd
    by_cases hn : ne d = []
    · rw [if_pos hn, if_neg]
      have e := bas_slashes hn
      rw [e, List.length_replicate]; simp
    · rw [if_neg hn, if_pos, rstripS]
      rw [bne_iff_ne]
      intro e
      obtain ⟨c, hc, hc'⟩ := bas_ne hn
      rw [e] at hc
      exact hc' (List.eq_of_mem_replicate hc)
theorem big46 {c : Nat} (h : 127 ≤ c) : c ≠ 46 := fun e => absurd (e ▸ h) (by decide)
theorem up46 : ∀ c : Nat, up c = 46 ↔ c = 46 := signs_all (by decide) (fun c h => by rw [up_big h])
theorem lo46 : ∀ c : Nat, lo c = 46 ↔ c = 46 := signs_all (by decide) (fun c h => by rw [lo_big h])
theorem sm46 : ∀ c : Nat, sm c = 46 ↔ c = 46 := signs_all (by decide) (fun c h => by rw [sm_big h])
theorem T_get (p : List Nat) (j : Nat) : (T p)[j]? = some 46 ↔ p[j]? = some 46 := by
  cases p with
  | nil => exact Iff.rfl
  | cons c r =>
    cases j with
    | zero =>
      show some (up (sm c)) = some 46 ↔ some c = some 46
      rw [Option.some.injEq, Option.some.injEq, up46, sm46]
    | succ j =>
      show ((r.map sm).map lo)[j]? = some 46 ↔ r[j]? = some 46
      rw [List.map_map, List.getElem?_map]
      cases r[j]? with
      | none => exact Iff.rfl
      | some a =>
        show some (lo (sm a)) = some 46 ↔ some a = some 46
        rw [Option.some.injEq, Option.some.injEq, lo46, sm46]
theorem g_get (b p : List Nat) (j : Nat) : (b ++ T p)[b.length + j]? = some 46 ↔ p[j]? = some 46 := by
  rw [List.getElem?_append_right (Nat.le_add_right _ _), Nat.add_sub_cancel_left, T_get]
theorem dotR_spec (st : Nat) : ∀ (r : List Nat), dotR st r = 0 ∨ ∃ a b, r = a ++ 46 :: b ∧ 46 ∉ a ∧ seenOf b = true ∧ dotR st r = st + b.length
  | [] => .inl rfl
  | c :: r => by
    unfold dotR
    by_cases hc : c = 46
    · rw [if_pos hc]
      by_cases hs : seenOf r = true
      · rw [if_pos hs]
        exact .inr ⟨[], r, by rw [hc]; rfl, by simp, hs, rfl⟩
      · rw [if_neg hs]; exact .inl rfl
    · rw [if_neg hc]
      rcases dotR_spec st r with h | ⟨a, b, e, h1, h2, h3⟩
      · exact .inl h
      · exact .inr ⟨c :: a, b, by rw [e]; rfl, by simp [h1, Ne.symm hc], h2, h3⟩
theorem dotR_is (st : Nat) : ∀ (a b : List Nat), 46 ∉ a → seenOf b = true → dotR st (a ++ 46 :: b) = st + b.length
  | [], b, _, hs => by
    show (if (46 : Nat) = 46 then (if seenOf b then st + b.length else 0) else dotR st b) = _
    rw [if_pos rfl, if_pos hs]
  | c :: a, b, h, hs => by
    have h1 : c ≠ 46 := fun e => h (e ▸ .head _)
    show (if c = 46 then _ else dotR st (a ++ 46 :: b)) = _
    rw [if_neg h1]
    exact dotR_is st a b (fun m => h (.tail _ m)) hs
theorem dot_cases (st : Nat) (p : List Nat) : dotOf st p = 0 ∨ ∃ u v, p = u ++ 46 :: v ∧ 46 ∉ v ∧ seenOf u = true ∧ dotOf st p = st + u.length := by
  rcases dotR_spec st p.reverse with h | ⟨a, b, e, h1, h2, h3⟩
  · exact .inl h
  · refine .inr ⟨b.reverse, a.reverse, ?_, by simpa using h1, by rw [seen_rev]; exact h2, ?_⟩
    · have := congrArg List.reverse e
      simpa using this
    · rw [List.length_reverse]; exact h3
theorem dot_is (st : Nat) (u v : List Nat) (h : 46 ∉ v) (hs : seenOf u = true) : dotOf st (u ++ 46 :: v) = st + u.length := by
  have e : (u ++ 46 :: v).reverse = v.reverse ++ 46 :: u.reverse := by simp
  unfold dotOf
  rw [e, dotR_is st _ _ (by simpa using h) (by rw [seen_rev]; exact hs), List.length_reverse]
/-- the sign at a place, as a slice -/
theorem oneAt (l : List Nat) (k : Nat) : (Txt.slice (S l) (some (k : Int)) (some ((k : Int) + 1)) != S [46]) = false ↔ l[k]? = some 46 := by
  have e : Txt.slice (S l) (some (k : Int)) (some ((k : Int) + 1)) = S ((l.drop k).take 1) := by
    have := sliceSS l (a := k) (b := k + 1) (by omega)
    rw [show (((k + 1 : Nat) : Int)) = (k : Int) + 1 by omega] at this
    rw [this, Nat.add_sub_cancel_left]
  rw [e, bneS]
  have := StrLaws.take1_drop (l := l) (c := 46) (i := k)
  rw [← this]
  cases h : ((l.drop k).take 1 == [46]) <;> simp [bne, h]
/-- splitext of the path -/
theorem ag5 (s : Pc) (a b : Str) (h : SplitextIs (absR s).great a b) : a = Txt.slice (absR s).great none (some (cutF (absR s).dot (absR s).great)) ∧ b = Txt.slice (absR s).great (some (cutF (absR s).dot (absR s).great)) none := by
  obtain ⟨d, p⟩ := s
  have hr := rfind_slash d p
  show a = Txt.slice (S (bas d ++ T p)) none (some (cutF ((dotOf (bas d).length p : Nat) : Int) (S (bas d ++ T p)))) ∧ b = Txt.slice (S (bas d ++ T p)) (some (cutF ((dotOf (bas d).length p : Nat) : Int) (S (bas d ++ T p)))) none
  have h' : SplitextIs (S (bas d ++ T p)) a b := h
  have e47 : Str.ofString "/" = S [47] := rfl
  have e46 : Str.ofString "." = S [46] := rfl
  unfold SplitextIs at h'
  rw [e47, e46, hr] at h'
  have hsl : Txt.rfind (S (bas d ++ T p)) (S [47]) = ((bas d).length : Int) - 1 := by rw [← hr, Int.add_sub_cancel]
  rw [hsl] at h'
  clear h hr hsl
  -- the last dot of the path, where it stands in the open piece
  have hrd : ∀ u v, p = u ++ 46 :: v → 46 ∉ v → Txt.rfind (S (bas d ++ T p)) (S [46]) = (((bas d).length + u.length : Nat) : Int) := by
    intro u v e hv
    refine rfind_is ((g_get _ _ _).mpr ?_) ?_
    · rw [e, List.getElem?_append_right (Nat.le_refl _), Nat.sub_self]; rfl
    · intro k hk
      obtain ⟨j, rfl⟩ := Nat.exists_eq_add_of_lt hk
      have ek : (bas d).length + u.length + j + 1 = (bas d).length + (u.length + (j + 1)) := congrArg (· + 1) (Nat.add_assoc _ _ _)
      rw [Ne, ek, g_get, e, List.getElem?_append_right (Nat.le_add_right _ _), Nat.add_sub_cancel_left]
      exact free_get hv j
  rcases h' with ⟨rfl, rfl, H⟩ | ⟨rfl, rfl, hlt, jj, h0, hjl, hne⟩
  · -- no ending
    have hz : dotOf (bas d).length p = 0 := by
      rcases dot_cases (bas d).length p with hz | ⟨u, v, e, hv, hs, -⟩
      · exact hz
      · exfalso
        have er := hrd u v e hv
        rw [er] at H
        have H' := H (by omega)
        have : ∀ c ∈ u, c = 46 := by
          intro c hc
          obtain ⟨j, hj⟩ := List.getElem?_of_mem hc
          have hjl : j < u.length := by
            have := List.getElem?_eq_some_iff.mp hj
            exact this.1
          have q := H' (j : Int) (by omega) (by omega)
          have e1 : ((bas d).length : Int) + 1 * (j : Int) = (((bas d).length + j : Nat) : Int) := by rw [Int.one_mul]; rfl
          rw [e1, oneAt, g_get, e, List.getElem?_append_left hjl, hj] at q
          exact Option.some.inj q
        have hs' : seenOf u = false := by
          unfold seenOf
          rw [List.any_eq_false]
          intro c hc
          rw [this c hc]; simp
        rw [hs] at hs'; cases hs'
    rw [hz]
    have ec : cutF (((0 : Nat) : Int)) (S (bas d ++ T p)) = (((bas d ++ T p).length : Nat) : Int) := by
      rw [cut2 (by omega), S_len]
    have e0 : Txt.slice (S (bas d ++ T p)) none (some 0) = S [] := sliceTo _ 0
    rw [ec, e0]
    refine ⟨?_, ?_⟩
    · rw [sliceTo, List.take_length]
    · rw [sliceFrom, List.drop_length]
  · -- an ending
    obtain ⟨n, rfl⟩ := Int.eq_ofNat_of_zero_le h0
    rcases rfind_cases (bas d ++ T p) 46 with ⟨e, _⟩ | ⟨i, e, hi, hil⟩
    · rw [e] at hlt; omega
    · rw [e] at hlt hjl ⊢
      obtain ⟨k, rfl⟩ := Nat.exists_eq_add_of_le (Int.ofNat_le.mp (Int.le_of_sub_one_lt hlt))
      have hk : p[k]? = some 46 := (g_get _ _ _).mp hi
      have hkl : ∀ j, k < j → p[j]? ≠ some 46 := fun j hj hj' => hil ((bas d).length + j) (Nat.add_lt_add_left hj _) ((g_get _ _ _).mpr hj')
      have hkp : k < p.length := (List.getElem?_eq_some_iff.mp hk).1
      have ep : p = p.take k ++ 46 :: p.drop (k + 1) := by
        have h1 : p[k] = 46 := by
          have := List.getElem?_eq_getElem hkp
          rw [hk] at this
          exact (Option.some.inj this).symm
        conv => lhs; rw [← List.take_append_drop k p, List.drop_eq_getElem_cons hkp, h1]
      have hv : 46 ∉ p.drop (k + 1) := by
        intro hm
        obtain ⟨j, hj⟩ := List.getElem?_of_mem hm
        rw [List.getElem?_drop] at hj
        exact hkl (k + 1 + j) (Nat.lt_of_lt_of_le (Nat.lt_succ_self k) (Nat.le_add_right _ _)) hj
      have hn : n < k := by omega
      have hs : seenOf (p.take k) = true := by
        unfold seenOf
        rw [List.any_eq_true]
        have e1 : ((bas d).length : Int) + 1 * (n : Int) = (((bas d).length + n : Nat) : Int) := by rw [Int.one_mul]; rfl
        have hne' : ¬ p[n]? = some 46 := by
          intro q
          have q' := (oneAt (bas d ++ T p) ((bas d).length + n)).mpr ((g_get _ _ _).mpr q)
          rw [← e1] at q'
          have hne2 := hne
          rw [q'] at hne2; cases hne2
        have hnl : n < p.length := Nat.lt_trans hn hkp
        refine ⟨p[n], ?_, ?_⟩
        · have : (p.take k)[n]? = some p[n] := by rw [List.getElem?_take, if_pos hn, List.getElem?_eq_getElem hnl]
          exact List.mem_of_getElem? this
        · rw [List.getElem?_eq_getElem hnl] at hne'
          simpa using hne'
      have ed := dot_is (bas d).length (p.take k) (p.drop (k + 1)) hv hs
      rw [← ep, List.length_take, Nat.min_eq_left (Nat.le_of_lt hkp)] at ed
      rw [ed, cut1 (by omega)]
      exact ⟨rfl, rfl⟩
noncomputable abbrev dd : Str := Str.ofString ".."
noncomputable abbrev RR (t : Str) : Str := Txt.replace t (Str.ofString "/") (Str.ofString " ")
noncomputable def dbt (ts : List Str) : Int × List Str := ts.reverse.foldl debtStep (0, [])
theorem dbt_cons (t : Str) (ts : List Str) : dbt (t :: ts) = debtStep (dbt ts) t := by
  unfold dbt
  rw [List.reverse_cons, List.foldl_append]; rfl
theorem RR_S (l : List Nat) : RR (S l) = S (l.map sm) := S_of (replace_map (S l) 47 32)
theorem map_sm1 (l : List Nat) : l.map sm = [46] ↔ l = [46] := by
  match l with
  | [] => simp
  | [a] => simp [sm46]
  | a :: b :: r => simp
theorem map_sm2 (l : List Nat) : l.map sm = [46, 46] ↔ l = [46, 46] := by
  match l with
  | [] => simp
  | [a] => simp
  | [a, b] => simp [sm46]
  | a :: b :: c :: r => simp
theorem RR_dot (t : Str) : RR t = Str.ofString "." ↔ t = Str.ofString "." := by
  rw [← S_eq t, RR_S]
  exact ⟨fun h => congrArg S ((map_sm1 _).mp (S_inj h)), fun h => congrArg S ((map_sm1 _).mpr (S_inj h))⟩
theorem RR_dd (t : Str) : RR t = dd ↔ t = dd := by
  rw [← S_eq t, RR_S]
  exact ⟨fun h => congrArg S ((map_sm2 _).mp (S_inj h)), fun h => congrArg S ((map_sm2 _).mpr (S_inj h))⟩
theorem dbt_pos : ∀ ts : List Str, 0 ≤ (dbt ts).1
  | [] => Int.le_refl _
  | t :: ts => by
    have ih := dbt_pos ts
    rw [dbt_cons]
    unfold debtStep
    split
    · exact Int.le_trans ih (Int.le_add_of_nonneg_right (by decide))
    · split
      · rename_i h; exact Int.le_sub_one_of_lt h.2
      · split
        · exact ih
        · exact ih
noncomputable def dN (ts : List Str) : Nat := (dbt ts).1.toNat
noncomputable def dK (ts : List Str) : List Str := (dbt ts).2
theorem toNat_up {d : Int} (h : 0 ≤ d) : (d + 1).toNat = d.toNat + 1 := by
  obtain ⟨n, rfl⟩ := Int.eq_ofNat_of_zero_le h; rfl
theorem toNat_dn {d : Int} {e : Nat} (h : d.toNat = e + 1) : 0 < d ∧ (d - 1).toNat = e := by
  cases d with
  | ofNat n =>
    obtain rfl : n = e + 1 := h
    exact ⟨Int.ofNat_lt.mpr (Nat.succ_pos e), congrArg Int.toNat (Int.add_sub_cancel (e : Int) 1)⟩
  | negSucc n => cases h
theorem toNat_no {d : Int} (h : d.toNat = 0) : ¬ 0 < d := fun q => absurd h (Nat.ne_of_gt (Int.lt_toNat.mpr q))
section
variable {t : Str} {ts : List Str}
theorem d_dd (h : t = dd) : dN (t :: ts) = dN ts + 1 ∧ dK (t :: ts) = dK ts := by
  unfold dN dK
  rw [dbt_cons, debt1 (by rw [h]; exact beq_self_eq_true _) (d := (dbt ts).1) (k := (dbt ts).2)]
  exact ⟨toNat_up (dbt_pos ts), rfl⟩
theorem d_dot (h : t = Str.ofString ".") : dbt (t :: ts) = dbt ts := by
  rw [dbt_cons]
  exact debt4 (d := (dbt ts).1) (k := (dbt ts).2) (by rw [h]; decide +kernel) (by rw [h]; decide +kernel)
theorem d_pay {e : Nat} (h2 : t ≠ dd) (h1 : t ≠ Str.ofString ".") (h : dN ts = e + 1) : dN (t :: ts) = e ∧ dK (t :: ts) = dK ts := by
  have q := toNat_dn h
  unfold dN dK
  rw [dbt_cons, debt2 (beq_false_of_ne h2) (bne_iff_ne.mpr h1) q.1 (d := (dbt ts).1) (k := (dbt ts).2)]
  exact ⟨q.2, rfl⟩
theorem d_keep (h2 : t ≠ dd) (h1 : t ≠ Str.ofString ".") (h : dN ts = 0) : dN (t :: ts) = 0 ∧ dK (t :: ts) = RR t :: dK ts := by
  have q := toNat_no h
  unfold dN dK
  rw [dbt_cons, debt3 (beq_false_of_ne h2) (bne_iff_ne.mpr h1) q (d := (dbt ts).1) (k := (dbt ts).2)]
  exact ⟨h, rfl⟩
end
/-- what stands at the end: k debts and the names nm in front, then D debts, then the kept names -/
noncomputable def res (b : Str) (k : Nat) (nm : List Str) (D : Nat) (K : List Str) : List Str :=
  if D ≤ nm.length then List.replicate k dd ++ nm.take (nm.length - D) ++ K else if b.length = 0 then List.replicate (k + D - nm.length) dd ++ K else K
theorem res_0 (b : Str) (k : Nat) (K : List Str) : res b k [] 0 K = List.replicate k dd ++ K := by
  unfold res
  rw [if_pos (Nat.zero_le _), List.take_nil, List.append_nil]
theorem res_S (b : Str) (k D : Nat) (K : List Str) : res b k [] (D + 1) K = if b.length = 0 then List.replicate (k + (D + 1)) dd ++ K else K := by
  unfold res
  rw [if_neg (show ¬ D + 1 ≤ ([] : List Str).length from Nat.not_succ_le_zero D)]; rfl
theorem res_more {b : Str} (hb : b.length = 0) (k D : Nat) (K : List Str) : res b (k + 1) [] D K = res b k [] (D + 1) K := by
  rw [res_S, if_pos hb]
  cases D with
  | zero => exact res_0 b (k + 1) K
  | succ D => rw [res_S, if_pos hb, Nat.add_assoc, Nat.add_comm 1]
theorem res_lost {b : Str} (hb : ¬ b.length = 0) (D : Nat) (K : List Str) : res b 0 [] D K = res b 0 [] (D + 1) K := by
  rw [res_S, if_neg hb]
  cases D with
  | zero => exact res_0 b 0 K
  | succ D => rw [res_S, if_neg hb]
theorem res_pay (b : Str) (k : Nat) (nm : List Str) (y : Str) (D : Nat) (K : List Str) : res b k nm D K = res b k (nm ++ [y]) (D + 1) K := by
  unfold res
  have hlen : (nm ++ [y]).length = nm.length + 1 := by rw [List.length_append]; rfl
  rw [hlen, Nat.add_sub_add_right, ← Nat.add_assoc, Nat.add_sub_add_right, List.take_append_of_le_length (Nat.sub_le _ _)]
  by_cases h : D ≤ nm.length
  · rw [if_pos h, if_pos (Nat.succ_le_succ h)]
  · rw [if_neg h, if_neg (fun q => h (Nat.le_of_succ_le_succ q))]
theorem res_keep (b : Str) (k : Nat) (nm : List Str) (y : Str) (K : List Str) : res b k (nm ++ [y]) 0 K = res b k nm 0 (y :: K) := by
  unfold res
  rw [if_pos (Nat.zero_le _), if_pos (Nat.zero_le _), Nat.sub_zero, Nat.sub_zero, List.take_length, List.take_length]
  simp
theorem np_skip {b a : Str} {acc : List Str} (h : a = Str.ofString ".") : npStep b acc a = acc := np2 (by rw [h]; exact beq_self_eq_true _)
theorem np_name {b a : Str} {acc : List Str} (h0 : a.length ≠ 0) (h1 : a ≠ Str.ofString ".") (h2 : a ≠ dd) : npStep b acc a = acc ++ [a] :=
  np3 (fun e => h0 (Int.ofNat.inj e)) (beq_false_of_ne h1) (bne_iff_ne.mpr h2)
theorem dd_len : ((dd.length : Nat) : Int) ≠ 0 := by decide +kernel
theorem dd_dot : (dd == Str.ofString ".") = false := by decide +kernel
/-- the names taken from the front, with a heap of names behind, and the debts reckoned from behind, are one -/
theorem fwd (b : Str) : ∀ (ts : List Str) (k : Nat) (nm : List Str), (∀ t ∈ ts, t.length ≠ 0) → (∀ n ∈ nm, n ≠ dd) → (b.length ≠ 0 → k = 0) →
    (ts.map RR).foldl (npStep b) (List.replicate k dd ++ nm) = res b k nm (dN ts) (dK ts)
  | [], k, nm, _, _, _ => by
    show List.replicate k dd ++ nm = res b k nm 0 []
    unfold res
    rw [if_pos (Nat.zero_le _), Nat.sub_zero, List.take_length, List.append_nil]
  | t :: ts, k, nm, hl, hn, hk => by
    have hl' : ∀ t ∈ ts, t.length ≠ 0 := fun a ha => hl a (.tail _ ha)
    have ht : (RR t).length ≠ 0 := by rw [show (RR t).length = t.length from replace_len t 47 32]; exact hl t (.head _)
    rw [List.map_cons, List.foldl_cons]
    by_cases h2 : t = dd
    · rw [(RR_dd t).mpr h2, (d_dd h2).1, (d_dd h2).2]
      rcases List.eq_nil_or_concat nm with rfl | ⟨nm', y, rfl⟩
      · rw [List.append_nil]
        by_cases hb : b.length = 0
        · have es : npStep b (List.replicate k dd) dd = List.replicate (k + 1) dd ++ [] := by
            rw [List.append_nil, List.replicate_succ']
            cases k with
            | zero => exact np4 dd_len dd_dot (by rw [hb]; rfl)
            | succ k => rw [List.replicate_succ']; exact np5 dd_len dd_dot (beq_self_eq_true _)
          rw [es, fwd b ts (k + 1) [] hl' hn (fun h => absurd hb h), res_more hb]
        · obtain rfl := hk hb
          have es : npStep b (List.replicate 0 dd) dd = List.replicate 0 dd ++ [] := np6 dd_len dd_dot (by decide +kernel) (fun e => hb (Int.ofNat.inj e))
          rw [es, fwd b ts 0 [] hl' hn (fun _ => rfl), res_lost hb]
      · rw [List.concat_eq_append] at hn ⊢
        have es : npStep b (List.replicate k dd ++ (nm' ++ [y])) dd = List.replicate k dd ++ nm' := by
          rw [← List.append_assoc]
          exact np7 dd_len dd_dot (by decide +kernel) (beq_false_of_ne (hn y (List.mem_append_right _ (.head _))))
        rw [es, fwd b ts k nm' hl' (fun n hn' => hn n (List.mem_append_left _ hn')) hk, res_pay]
    · by_cases h1 : t = Str.ofString "."
      · rw [np_skip ((RR_dot t).mpr h1), show dN (t :: ts) = dN ts from congrArg (fun r : Int × List Str => r.1.toNat) (d_dot h1), show dK (t :: ts) = dK ts from congrArg Prod.snd (d_dot h1)]
        exact fwd b ts k nm hl' hn hk
      · have n2 : RR t ≠ dd := fun h => h2 ((RR_dd t).mp h)
        have n1 : RR t ≠ Str.ofString "." := fun h => h1 ((RR_dot t).mp h)
        rw [np_name ht n1 n2, List.append_assoc, fwd b ts k (nm ++ [RR t]) hl' (fun n hn' => by
          rcases List.mem_append.mp hn' with h | h
          · exact hn n h
          · rw [List.mem_singleton.mp h]; exact n2) hk]
        cases hD : dN ts with
        | zero => rw [(d_keep h2 h1 hD).1, (d_keep h2 h1 hD).2, res_keep]
        | succ e => rw [(d_pay h2 h1 hD).1, (d_pay h2 h1 hD).2, ← res_pay]
theorem capL_sm (q : List Nat) : capL (q.map sm) = (capL q).map sm := by
  have h1 : ∀ c, up (sm c) = sm (up c) := signs_all (by decide) (fun c h => by rw [sm_big h, up_big h, sm_big h])
  have h2 : ∀ c, lo (sm c) = sm (lo c) := signs_all (by decide) (fun c h => by rw [sm_big h, lo_big h, sm_big h])
  cases q with
  | nil => rfl
  | cons a r =>
    show up (sm a) :: (r.map sm).map lo = sm (up a) :: (r.map lo).map sm
    rw [h1, List.map_map, List.map_map]
    congr 1
    exact List.map_congr_left fun c _ => h2 c
theorem skip_empty (b : Str) : ∀ (L : List (List Nat)) (acc : List Str), (L.map S).foldl (npStep b) acc = ((ne L).map S).foldl (npStep b) acc
  | [], _ => rfl
  | [] :: r, acc => by
    have e : npStep b acc (S []) = acc := by unfold npStep; rw [if_pos (.inl rfl)]
    show (r.map S).foldl (npStep b) (npStep b acc (S [])) = _
    rw [e, skip_empty b r acc]; rfl
  | (c :: q) :: r, acc => by
    show (r.map S).foldl (npStep b) (npStep b acc (S (c :: q))) = ((ne r).map S).foldl (npStep b) (npStep b acc (S (c :: q)))
    exact skip_empty b r _
theorem fold_pre (f : Nat → Bool) (pre : List (List Nat)) : ∀ (l : List Nat) (s : Pc), l.foldl (stpB f) (pre ++ s.1, s.2) = (pre ++ (l.foldl (stpB f) s).1, (l.foldl (stpB f) s).2)
  | [], _ => rfl
  | c :: r, s => by
    have ih := fold_pre f pre r (stpB f s c)
    rw [List.foldl_cons, List.foldl_cons, ← ih]
    congr 1
    unfold stpB
    split
    · simp
    · rfl
theorem spl_mark (l : List Nat) : spl is47 (47 :: l) = [] :: spl is47 l := by
  have h := fold_pre is47 [[]] l ([], [])
  unfold spl
  rw [List.foldl_cons]
  have e : stpB is47 ([], []) 47 = ([[]] ++ [], []) := rfl
  dsimp only
  rw [e, h]; rfl
theorem ne_spl_rep (n : Nat) (l : List Nat) : ne (spl is47 (List.replicate n 47 ++ l)) = ne (spl is47 l) := by
  induction n with
  | zero => rfl
  | succ n ih =>
    rw [List.replicate_succ]
    show ne (spl is47 (47 :: (List.replicate n 47 ++ l))) = _
    rw [spl_mark]
    show ne (spl is47 (List.replicate n 47 ++ l)) = _
    exact ih
theorem spl_great (d : List (List Nat)) (p : List Nat) : spl is47 (bas d ++ T p) = (d ++ [p]).map T := by
  rw [← jn_bas, spl_jn is47 47 rfl]
  · intro q hq c hc
    obtain ⟨q', _, rfl⟩ := List.mem_map.mp hq
    have : c ≠ 47 := fun h => T_free q' (h ▸ hc)
    simpa using this
  · simp
theorem ne_map (d : List (List Nat)) : ne (d.map T) = (ne d).map T := by
  unfold ne
  rw [List.filter_map]
  congr 1
  apply List.filter_congr
  intro q _
  cases q <;> rfl
theorem txtEmpty (x : Str) : x.length = 0 ↔ x = Str.ofString "" := by
  constructor
  · intro h
    have := KWd.len0 h
    rw [this]; rfl
  · intro h; rw [h]; rfl
/-- normpath of the path -/
theorem ag3 (s : Pc) (hp : ∀ q ∈ s.1 ++ [s.2], ∀ c ∈ q, Pr c) : normF (absR s).great = plainOf (absR s).front ((absR s).ws.map titleF) := by
  have h6 := ag6 s
  obtain ⟨d, p⟩ := s
  obtain ⟨g', h1, -, h3⟩ := front_get p d
  have h6' : splitrootF (S (bas d ++ T p)) = (Str.ofString "", rootF (frontOf d : Int), Txt.slice (S (bas d ++ T p)) (some ((rootF (frontOf d : Int)).length : Int)) none) := h6
  show normF (S (bas d ++ T p)) = plainOf (frontOf d : Int) (((ne (d ++ [p])).map S).map titleF)
  rw [titles (ne_pr hp)]
  have hts : ∀ t ∈ ((ne (d ++ [p])).map capL).map S, t.length ≠ 0 := by
    intro t ht
    obtain ⟨q', hq', rfl⟩ := List.mem_map.mp ht
    obtain ⟨q, hq, rfl⟩ := List.mem_map.mp hq'
    have := (List.mem_filter.mp hq).2
    cases q with
    | nil => cases this
    | cons a r => rw [S_len]; simp [capL]
  have hRR : ((ne (d ++ [p])).map T).map S = (((ne (d ++ [p])).map capL).map S).map RR := by
    rw [List.map_map, List.map_map, List.map_map]
    refine List.map_congr_left fun q _ => ?_
    show S (capL (q.map sm)) = RR (S (capL q))
    rw [RR_S, capL_sm]
  have hb0 : (rootF (frontOf d : Int)).length = 0 ↔ frontOf d = 0 := by
    rw [rootS]
    by_cases h2 : frontOf d = 2
    · rw [if_pos h2, h2]; simp [S_len]
    · rw [if_neg h2, S_len]; simp
  have hbf : (rootF (frontOf d : Int)).length ≤ frontOf d := by
    rw [rootS]
    by_cases h2 : frontOf d = 2
    · rw [if_pos h2, h2]; exact Nat.le_refl _
    · rw [if_neg h2, S_len, List.length_take]; omega
  have hne : ne (spl is47 ((bas d ++ T p).drop (rootF (frontOf d : Int)).length)) = (ne (d ++ [p])).map T := by
    rw [← ne_map, ← spl_great, h1, ne_spl_rep]
    have e : (List.replicate (frontOf d) 47 ++ g').drop (rootF (frontOf d : Int)).length = List.replicate (frontOf d - (rootF (frontOf d : Int)).length) 47 ++ g' := by
      rw [List.drop_append_of_le_length (by rw [List.length_replicate]; exact hbf), List.drop_replicate]
    rw [e, ne_spl_rep]
  have hfold : (Txt.split (splitrootF (S (bas d ++ T p))).2.2 (Str.ofString "/")).foldl (npStep (splitrootF (S (bas d ++ T p))).2.1) [] =
      if frontOf d = 0 then List.replicate (dN (((ne (d ++ [p])).map capL).map S)) dd ++ dK (((ne (d ++ [p])).map capL).map S) else dK (((ne (d ++ [p])).map capL).map S) := by
    rw [h6']
    dsimp only
    rw [sliceFrom, splitS, skip_empty, hne, hRR]
    have := fwd (rootF (frontOf d : Int)) (((ne (d ++ [p])).map capL).map S) 0 [] hts (fun n hn => by cases hn) (fun _ => rfl)
    rw [show (List.replicate 0 dd ++ [] : List Str) = [] from rfl] at this
    rw [this]
    cases hD : dN (((ne (d ++ [p])).map capL).map S) with
    | zero => rw [res_0]; simp
    | succ e =>
      rw [res_S, Nat.zero_add]
      simp only [hb0]
  have hroot : (splitrootF (S (bas d ++ T p))).2.1 = rootF (frontOf d : Int) := by rw [h6']
  have hpl : rootF (frontOf d : Int) ++ Txt.join (Str.ofString "/") (if frontOf d = 0 then List.replicate (dN (((ne (d ++ [p])).map capL).map S)) dd ++ (dK (((ne (d ++ [p])).map capL).map S)) else (dK (((ne (d ++ [p])).map capL).map S)))
      = plainF (frontOf d : Int) (dN (((ne (d ++ [p])).map capL).map S)) (dK (((ne (d ++ [p])).map capL).map S)) := by
    unfold plainF
    by_cases h : frontOf d = 0
    · rw [if_pos h, if_pos (by omega)]
    · rw [if_neg h, if_neg (by omega)]
  unfold normF
  rw [hfold, hroot, hpl]
  show _ = if (plainF (frontOf d : Int) (dN (((ne (d ++ [p])).map capL).map S)) (dK (((ne (d ++ [p])).map capL).map S)) != Str.ofString "") = true then plainF (frontOf d : Int) (dN (((ne (d ++ [p])).map capL).map S)) (dK (((ne (d ++ [p])).map capL).map S)) else Str.ofString "."
  by_cases h0 : (S (bas d ++ T p)).length = 0
  · have hg : bas d ++ T p = [] := S_zero.mp h0
    have hd : d = [] := by
      cases d with
      | nil => rfl
      | cons a r => simp [bas] at hg
    have hpp : p = [] := by
      subst hd
      exact T_ne.mp hg
    subst hd hpp
    rw [if_pos h0]
    have : plainF ((frontOf [] : Nat) : Int) (dN (((ne ([] ++ [[]])).map capL).map S)) (dK (((ne ([] ++ [[]])).map capL).map S)) = Str.ofString "" := by decide +kernel
    rw [this]; rfl
  · rw [if_neg h0]
    by_cases hq : (plainF (frontOf d : Int) (dN (((ne (d ++ [p])).map capL).map S)) (dK (((ne (d ++ [p])).map capL).map S))).length = 0
    · rw [if_pos hq, if_neg]
      rw [(txtEmpty _).mp hq]; simp
    · rw [if_neg hq, if_pos]
      rw [bne_iff_ne]
      exact fun e => hq ((txtEmpty _).mpr e)
noncomputable def tabCode (x : Str) (i : Int) : Nat := (Txt.charAt x i).getD 0
theorem item_code (x : Str) (i : Int) : Txt.item x i = S [tabCode x i] := rfl
theorem tab9 : ∀ p : Fin 9, tabCode (Str.ofString " ..\n/aB\t.") (p.1 : Int) < 127 ∧ (tabCode (Str.ofString " ..\n/aB\t.") (p.1 : Int) ≤ 13 ∨ 32 ≤ tabCode (Str.ofString " ..\n/aB\t.") (p.1 : Int)) := by decide +kernel
theorem tab100 : ∀ p : Fin 100, tabCode prS (p.1 : Int) < 127 ∧ (tabCode prS (p.1 : Int) ≤ 13 ∨ 32 ≤ tabCode prS (p.1 : Int)) := by decide +kernel
noncomputable def sgnC (x : Int) : Nat := if x.fmod 16 < 9 then tabCode (Str.ofString " ..\n/aB\t.") (x.fmod 16) else tabCode prS ((x.fdiv 16).fmod 100)
theorem sgn_S (x : Int) : sgn x = S [sgnC x] := by
  unfold sgn sgnC
  by_cases h : x.fmod 16 < 9
  · rw [if_pos h, if_pos h]; rfl
  · rw [if_neg h, if_neg h]; rfl
theorem sgn_pr (x : Int) : Pr (sgnC x) := by
  unfold sgnC
  by_cases h : x.fmod 16 < 9
  · rw [if_pos h]
    have h0 : 0 ≤ x.fmod 16 := Int.fmod_nonneg_of_pos _ (by decide)
    generalize x.fmod 16 = z at h h0 ⊢
    obtain ⟨q, rfl⟩ := Int.eq_ofNat_of_zero_le h0
    exact tab9 ⟨q, Int.ofNat_lt.mp h⟩
  · rw [if_neg h]
    have h0 : 0 ≤ (x.fdiv 16).fmod 100 := Int.fmod_nonneg_of_pos _ (by decide)
    have h1 : (x.fdiv 16).fmod 100 < 100 := Int.fmod_lt_of_pos _ (by decide)
    generalize (x.fdiv 16).fmod 100 = z at h0 h1 ⊢
    obtain ⟨q, rfl⟩ := Int.eq_ofNat_of_zero_le h0
    exact tab100 ⟨q, Int.ofNat_lt.mp h1⟩
noncomputable abbrev tailL : List Nat := [32, 97, 66, 46, 47, 46, 68, 9, 46, 32, 46, 46, 12, 32, 101]
theorem tail_S : Str.ofString " aB./.D\t. ..\x0c e" = S tailL := by decide +kernel
theorem tail_pr : ∀ c ∈ tailL, Pr c := by
  intro c hc
  have : ∀ c ∈ tailL, c < 127 ∧ (c ≤ 13 ∨ 32 ≤ c) := by decide
  exact this c hc
theorem agAll {l : List Nat} (hl : ∀ c ∈ l, Pr c) (i : Nat) : AgR (S l) i (rat (S l) (i + 1)) := by
  have hm : ∀ c ∈ l.take (i + 1), Pr c := fun c hc => hl c (List.mem_of_mem_take hc)
  have e1 : Txt.slice (S l) none (some ((i : Int) + 1)) = S (l.take (i + 1)) := sliceTo l (i + 1)
  have e2 : Txt.slice (pathF (S l)) none (some ((i : Int) + 1)) = pathF (S (l.take (i + 1))) := by
    rw [path_S, path_S, List.map_take]; exact sliceTo (l.map tw) (i + 1)
  unfold AgR
  rw [rat_abs hl, e1, e2]
  exact ⟨ag1 hm, ag2 hm, ag3 _ (pcs_pr hm), ag4 _, ag5 _, ag6 _⟩
theorem lawFacts (zs : List Int) (h : zs.length ≤ 8) : let x := Txt.join (Str.ofString "") (zs.map sgn) ++ Str.ofString " aB./.D\t. ..\x0c e"; 1 ≤ x.length ∧ x.length ≤ 100 ∧ (∀ i, i < x.length → AgR x i (rat x (i + 1))) ∧ capT x = titleJ (rat x x.length).ws := by
  have e : Txt.join (Str.ofString "") (zs.map sgn) ++ Str.ofString " aB./.D\t. ..\x0c e" = S (zs.map sgnC ++ tailL) := by
    have e1 : zs.map sgn = ((zs.map sgnC).map fun c => [c]).map S := by
      rw [List.map_map, List.map_map]
      exact List.map_congr_left fun x _ => sgn_S x
    rw [e1, tail_S]
    show Txt.join (S []) _ ++ _ = _
    rw [joinS, jn_empty, S_app]
  have hl : ∀ c ∈ zs.map sgnC ++ tailL, Pr c := by
    intro c hc
    rcases List.mem_append.mp hc with hc | hc
    · obtain ⟨x, _, rfl⟩ := List.mem_map.mp hc
      exact sgn_pr x
    · exact tail_pr c hc
  have hlen : (zs.map sgnC ++ tailL).length = zs.length + 15 := by rw [List.length_append, List.length_map]; rfl
  intro x
  have ex : x = S (zs.map sgnC ++ tailL) := e
  rw [ex, S_len, hlen]
  refine ⟨by omega, by omega, fun i _ => agAll hl i, ?_⟩
  rw [rat_abs hl, ← hlen, List.take_length]
  exact ag1 hl
theorem lawX : PySem.Challenge.rw_ij0119_01.Holds := lawTop (by
  k_with_none
  k_with "eval BinOp" => k_fold
  k_with "eval Call" => k_fold
  k_with "eval Subscript" => k_fold
  k_with "size_fits" => first | exact szT (Nat.le_refl _) (by decide) | exact szT (by with_reducible assumption) (by decide) | exact Nat.le_trans (by with_reducible assumption) (Nat.le_of_ble_eq_true rfl) | exact szAB (by with_reducible assumption) (by with_reducible assumption) (by decide)
  k_with "ite" => (k_here; k_openite; first | (refine ite_pos (by with_reducible assumption) ?_; walk_say "PRUNED") | (refine ite_neg (by with_reducible assumption) ?_; walk_say "PRUNED") | (refine ite_isFalse (by with_reducible assumption) ?_; walk_say "PRUNED") | with_reducible refine ite_tt ?_ | with_reducible refine ite_ff ?_ | (with_reducible refine split_ine ?_ ?_ <;> intro _) | (with_reducible refine split_ieq ?_ ?_ <;> intro _) | with_reducible refine split_not ?_ | (refine split_dec ?_ ?_ <;> intro _) | (refine split_bool ?_ ?_ <;> intro _))
  k_with "storeName" => (k_here; k_dflt (refine' storeX_M ?zzF ?zzN ?_ ?zza ?zzb; (case zzF => k_asm); (case zzN => k_asm); (case zza => rfl); (case zzb => rfl); k_whole); intro zzh zzt zzl zzm zzF zzN; (try k_sweep))
  k_with "eval Constant int" => (k_here; k_dflt (refine constI ?_))
  k_with "eval Constant str" => (k_here; k_dflt (refine constS ?_))
  k_with "spliced" => (k_here; (first | (fail_if_success (fail_if_success (with_reducible show wpAny _ _ (spliced (backTo _ (starEach (PySem.Expr.Name _ _ :: _) (envOf _ _ _ _ _)))) _ _ _))) | (fail_if_success (fail_if_success (with_reducible show wpAny _ _ (spliced (backTo _ (starEach (PySem.Expr.Name _ _ :: _) (envOfC _ _ _ _ _)))) _ _ _)))); first | ((fail_if_success (fail_if_success (with_reducible show wpAny _ _ (spliced (backTo _ (starEach [PySem.Expr.Name _ _] _))) _ _ _))); k_dflt (refine' argName1 ?zzF ?zzv ?_ ?zza ?zzb ?zzd; (case zzF => k_asm); (case zza => rfl); (case zzb => rfl); (case zzv => rfl); (case zzd => decide); k_whole)) | k_dflt (refine' argName ?zzF ?zzv ?_ ?zza ?zzb ?zzd; (case zzF => k_asm); (case zza => rfl); (case zzb => rfl); (case zzv => rfl); (case zzd => decide); k_whole))
  k_with "spliced" => (k_here; (fail_if_success (fail_if_success (with_reducible show wpAny _ _ (spliced (backTo _ (starEach [] _))) _ _ _))); k_dflt (refine args_nil ?_); (try ((with_reducible show wpAny _ _ (call _ (_ ++ _)) _ _ _); dsimp only [List.cons_append, List.nil_append])))
  k_with "callWith" => (k_here; (fail_if_success (fail_if_success (with_reducible show wpAny _ _ (callWith _ (Value.builtin _) [_] (backTo _ (starEach (_ :: _) _)) []) _ _ _))); first | ((first | (fail_if_success (fail_if_success (with_reducible show wpAny _ _ (callWith _ _ _ (backTo _ (starEach [PySem.Expr.Name _ _] (envOf _ _ _ _ _))) _) _ _ _))) | (fail_if_success (fail_if_success (with_reducible show wpAny _ _ (callWith _ _ _ (backTo _ (starEach [PySem.Expr.Name _ _] (envOfC _ _ _ _ _))) _) _ _ _)))); k_dflt (refine' callM1 ?zzF ?zzv ?_ ?zza ?zzb ?zzd; (case zzF => k_asm); (case zza => rfl); (case zzb => rfl); (case zzv => rfl); (case zzd => decide); k_whole)) | k_dflt (refine' callM ?_ ?zze ?zzp; (case zze => rfl); (case zzp => rfl)))
  k_with "callWith" => (k_here; (first | (fail_if_success (fail_if_success (with_reducible show wpAny _ _ (callWith _ (Value.builtin _) [] (backTo _ (starEach [PySem.Expr.Name _ _] (envOf _ _ _ _ _))) []) _ _ _))) | (fail_if_success (fail_if_success (with_reducible show wpAny _ _ (callWith _ (Value.builtin _) [] (backTo _ (starEach [PySem.Expr.Name _ _] (envOfC _ _ _ _ _))) []) _ _ _)))); k_dflt (refine' callB1 ?zzF ?zzv ?_ ?zza ?zzb ?zzd; (case zzF => k_asm); (case zza => rfl); (case zzb => rfl); (case zzv => rfl); (case zzd => decide); k_whole))
  k_with "newTuple" => (k_here; k_dflt (refine' tupM ?zzF ?zzN ?_ ?zzz; (case zzF => k_asm); (case zzN => k_asm); (case zzz => exact szT (Nat.le_of_ble_eq_true rfl : _ ≤ 7) (by decide)); k_whole); intro zzD zzh zzF zzN zzl; (try k_lt zzl); (try k_sweep))
  k_with "newList" => (k_here; k_dflt (refine' listM ?zzF ?zzN ?_ ?zzz; (case zzF => k_asm); (case zzN => k_asm); (case zzz => exact szT (Nat.le_of_ble_eq_true rfl : _ ≤ 7) (by decide)); k_whole); intro zzD zzh zzF zzN zzl; (try k_lt zzl); (try k_sweep))
  k_with "LeaveK" => (k_here; k_dflt (refine' leaveM ?zzF ?zzN ?_; (case zzF => k_asm); (case zzN => k_asm); k_whole); intro zzF zzN; (try k_sweep); (try dsimp only))
  k_with "call ref" => (k_here; (with_reducible show wpAny _ _ (call (Value.ref 159) [_]) _ _ _); k_dflt (refine' sign_c ?zzk1 ?zzk2 ?zzk3 ?zzk4 ?zzk5 ?zzkK  ?zzkd ?zzku ?_; (case zzk1 => k_asm); (case zzk2 => k_asm); (case zzk3 => k_asm); (case zzk4 => k_asm); (case zzk5 => k_asm); (case zzkK => first | exact rfl | assumption);  (case zzkd => ktr_room); (case zzku => ktr_units)); intro t9 h9 tk9 F9 N9; (try dsimp only); (try k_sweep); (try k_fold))
  k_with "CompSrc" => (k_here; (with_reducible rename News _ _ _ _ => lN); (with_reducible rename Fr _ _ _ _ => lF); k_dflt (refine srcLedger rfl lF lN (by k_mem) (by kcf_size) ?_))
  k_with "execs cons" => (k_here; (with_reducible refine' execsT ?zzkn ?_); (case zzkn => first | (with_reducible assumption) | exact Nat.le_add_left 1 _ | (show (1 : Nat) ≤ _; (try dsimp only); omega)); (try dsimp only); (try k_fold))
  k_with "forall" => (k_here; intro htk9; (try dsimp only at htk9 ⊢))
  k_with "eval BinOp" => (k_here; (fail_if_success (with_reducible rename Floor9 => z9)); (with_reducible refine' binT ?zzkn ?_); (case zzkn => first | (with_reducible assumption) | exact Nat.le_add_left 1 _ | (show (1 : Nat) ≤ _; (try dsimp only); omega)); intro _; (try dsimp only); (try k_fold))
  k_with "call ref" => (k_here; (with_reducible show wpAny _ _ (call (Value.ref 176) [_, _]) _ _ _); k_dflt (refine' agree_c ?zzk1 ?zzk2 ?zzk3 ?zzk4 ?zzk5 ?zzkK ?zzy1 ?zzy2 ?zzy3 ?zzy4 ?zzy5 ?zzkd ?zzku ?_; (case zzk1 => k_asm); (case zzk2 => k_asm); (case zzk3 => k_asm); (case zzk4 => k_asm); (case zzk5 => k_asm); (case zzkK => first | exact rfl | assumption); (case zzy1 => first | (with_reducible assumption) | exact Nat.le_add_left 1 _ | (show (1 : Nat) ≤ _; (try dsimp only); omega)); (case zzy2 => with_reducible assumption); (case zzy3 => with_reducible assumption); (case zzy4 => with_reducible assumption); (case zzy5 => with_reducible assumption); (case zzkd => ktr_room); (case zzku => ktr_units)); intro h9 tk9 F9 N9; (try dsimp only); (try k_sweep); (try k_fold))
  k_go0
  all_goals (try k_fold)
  k_steps
  intro g
  (rename IntsAre _ (List.take 8 _) => lI)
  refine' compStrs (gs := (List.take 8 _).map sgn) ?hn ?turn ?fin
  case hn => rw [List.length_map, List.size_toArray]; exact lI.length.symm
  case turn =>
    intro i v gg I oI C oC D m₂ ys h tk E' hv hg hC hx F' N' off ne
    obtain ⟨k, t, rfl, rfl⟩ := sgnAt lI hv hg
    k_steps
    · (refine' LCg.CompEnd.intro ?y_F ?y_N _ ?y_sub ?y_off ?y_S ⟨rfl, _, ?y_e⟩; (case y_e => with_reducible exact strV2 (sgn1 (by with_reducible assumption))); (case y_F => with_reducible assumption); (case y_N => with_reducible assumption); (case y_sub => exact fun p hp => hp); (case y_off => with_reducible assumption); (case y_S => exact Or.inr ⟨_, List.mem_cons_self, rfl, _, rfl⟩))
    · (refine' LCg.CompEnd.intro ?y_F ?y_N _ ?y_sub ?y_off ?y_S ⟨rfl, _, ?y_e⟩; (case y_e => with_reducible exact strV2 (sgn0 (by with_reducible assumption))); (case y_F => with_reducible assumption); (case y_N => with_reducible assumption); (case y_sub => exact fun p hp => hp); (case y_off => with_reducible assumption); (case y_S => exact Or.inr ⟨_, List.mem_cons_self, rfl, _, rfl⟩))
  case fin =>
    intro lt hlt
    k_steps
    (rename News _ _ _ _ => lN2)
    k_dflt (refine' joinVals lN2 (.head _) rfl ?w ?s ?_)
    case w => rw [hlt]; exact sgn_wt8 (List.length_take_le 8 _)
    case s => decide
    intro tp kp hjl
    rw [hlt] at hjl ⊢
    try (with_reducible rename Floor9 => mk9; clear mk9)
    k_steps
    intro g2
    refine' compStrs (gs := (List.take 8 _).map sgn) ?hn2 ?turn2 ?fin2
    case hn2 => rw [List.length_map, List.size_toArray]; exact lI.length.symm
    case turn2 =>
      intro i v gg I oI C oC D m₂ ys h tk E' hv hg hC hx F' N' off ne
      obtain ⟨k, t, rfl, rfl⟩ := sgnAt lI hv hg
      k_steps
      (refine' LCg.CompEnd.intro ?y_F ?y_N _ ?y_sub ?y_off ?y_S ⟨rfl, _, rfl⟩; (case y_F => with_reducible assumption); (case y_N => with_reducible assumption); (case y_sub => exact fun p hp => hp); (case y_off => with_reducible assumption); (case y_S => exact Or.inr ⟨_, memL2, rfl, _, rfl⟩))
    case fin2 =>
      intro lt2 hlt2
      k_steps
      (rename News _ _ _ _ => lN3)
      k_dflt (refine' joinVals lN3 (.head _) rfl ?w2 ?s2 ?_)
      case w2 => rw [hlt2]; exact sgn_wt8 (List.length_take_le 8 _)
      case s2 => decide
      intro tp2 kp2 hjl2
      rw [hlt2]
      obtain ⟨g1, g2, g3, g4⟩ := lawFacts (List.take 8 _) (List.length_take_le 8 _)
      k_steps
      done)
end Mine
theorem PySem.Challenge.cw_ij0119_01_holds : PySem.Challenge.rw_ij0119_01.Holds := by
  exact Mine.lawX
