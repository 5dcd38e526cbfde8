import PyProof.Rows.All
import Wide.All
import OpenK.AllK
import Wide.FinOn
import Lean
import PySem.Challenge.RW_wj0022_01
set_option Elab.async false
set_option compiler.extract_closed false
section
open PySem PySem.W PySem.Calls PyProof.Rows PySem.Spec
set_option Elab.async false
set_option maxRecDepth 100000
namespace Mine

abbrev accO (C d : Addr) (its : Array Value) (n : Nat) : Obj := { cls := .ref C, dict := some d, data := .seq its n, slots := #[] }

section
variable {prog : Program} {w : World} {A : Around} {E : Value → Shared → Prop} {s : Shared} {K : Frag} {x C : Addr} {ox : Obj} {odx : Option Obj}

theorem isInst (X : K.In s.heap) (I : InstAt s.heap x ox C odx) {b : Value} {r : Bool} (hm : mroIn K C b = some r) {M : Model} : Looks M s.heap (isInstance (.ref x) b) r :=
  I.type.andThen (looks_mroIn X hm)

theorem sub_check {id owner n : String} {rest : List Value} {Q : Unit → Shared → Prop} {M : Model} (X : K.In s.heap) (I : InstAt s.heap x ox C odx) (hm : mroIn K C (.type owner) = some true)
    (hsplit : splitId id = some (owner, n)) (hkind : (Manifest.find? owner).bind (·.attrs.lookup n) = some .slot ∨ (Manifest.find? owner).bind (·.attrs.lookup n) = some .method)
    (ha : argsOk id ⟨.ref x :: rest, []⟩) (hQ : Q () s) : wpAny M A (checkBuiltinCall id ⟨.ref x :: rest, []⟩) Q E s := by
  have hk : builtinKind id = (Manifest.find? owner).bind (·.attrs.lookup n) := by simp only [builtinKind, hsplit]
  obtain ⟨hh, g, d, t, os⟩ := s
  have hI := isInst (M := M) X I hm
  rcases hkind with h | h <;>
  · simp only [checkBuiltinCall, hk, h, hsplit]
    refine wpAny_bind (hI.at ?_)
    simp only [Bool.not_true, Bool.false_eq_true, if_false]
    cases hsig : Manifest.signature? id with
    | none => exact wpAny_pure hQ
    | some sig =>
      simp only [argsOk, hsig] at ha
      have h2 : Bind.checkArgs id sig ⟨.ref x :: rest, []⟩ = pure () := ha
      show wpAny M A (Bind.checkArgs id sig ⟨.ref x :: rest, []⟩) Q E _
      rw [h2]; exact wpAny_pure hQ

theorem sub_call {id owner n : String} {B : Builtin} {rest : List Value} {Q : Value → Shared → Prop} (X : K.In s.heap) (I : InstAt s.heap x ox C odx) (hm : mroIn K C (.type owner) = some true)
    (hsplit : splitId id = some (owner, n)) (hkind : (Manifest.find? owner).bind (·.attrs.lookup n) = some .slot ∨ (Manifest.find? owner).bind (·.attrs.lookup n) = some .method)
    (hp : plainId id = true) (hb : entryFor table id = some B) (ha : argsOk id ⟨.ref x :: rest, []⟩)
    (hc : wpAny (model prog w) A.in1 (B ⟨.ref x :: rest, []⟩) (fun fin s' => ∃ v, fin = .done (.ret v) ∧ Q v s') E s) :
    wpAny (model prog w) A (call (.builtin id) (.ref x :: rest)) Q E s := by
  refine wpAny_call (codeAny_call_builtin hp hb (sub_check X I hm hsplit hkind ha (wpAny_mono hc (fun fin s' h' => ?_) fun _ _ h' => h')))
  obtain ⟨v, rfl, hv⟩ := h'; exact hv

theorem kind_append : (Manifest.find? "list").bind (·.attrs.lookup "append") = some .slot ∨ (Manifest.find? "list").bind (·.attrs.lookup "append") = some .method := by first | exact .inr (by decide +kernel) | exact .inl (by decide +kernel)

theorem sub_append {d : Addr} {its : Array Value} {n : Nat} {v : Value} {Q : Value → Shared → Prop} (X : K.In s.heap) (hm : mroIn K C (.type "list") = some true) (I : InstAt s.heap x (accO C d its n) C odx)
    (h : ∀ h', Heap.SameBut x s.heap h' → h'.get? x = some (accO C d (its.push v) (n + 1)) → Q .none { s with heap := h' })
    (hsz : its.size ≤ sizeLine) : wpAny (model prog w) A (call (.builtin "list.append") [.ref x, v]) Q E s := by
  have ho := I.at_
  refine sub_call X I hm (n := "append") (by decide +kernel) kind_append (by decide +kernel) entry_list_append (args_list_append _ _) ?_
  show wpAny _ _ (updateSeq x (·.push v) >>= fun _ => ret .none) _ _ s
  refine wpAny_bind ?_
  refine wpAny_updateSeq (hz := hsz) (_hz' := by rw [Array.size_push]; lia) ho rfl (wpAny_pure ⟨.none, rfl, h _ (Heap.SameBut.update ..) ?_⟩)
  rw [Heap.get?_update_self _ ho (by simp [Obj.mapSeq]; rfl)]
  simp [Obj.mapSeq]

theorem meth_any {f tf : Value} {ga : String} {name : Str} {pl : Sem Bool} {Q : Value × List Value → Shared → Prop} (X : K.In s.heap) (I : InstAt s.heap x ox C odx)
    (hga : findIn K (.ref C) "__getattribute__" = some (some (.builtin ga))) (hcan : (Manifest.canonical ga != "object.__getattribute__") = false)
    (hk : findIn K (.ref C) "__getattr__" = some none) (hf : findIn K (.ref C) name = some (some f)) (ht : typeIn K f = some tf)
    (htf : (tf != .type "function" && tf != .type "method_descriptor" && tf != .type "wrapper_descriptor") = false) (hs : shadowIn odx name = some false) (h : Q (f, [.ref x]) s) :
    wpAny (model prog w) A (getMethod (.ref x) name pl) Q E s := by
  unfold getMethod specialOf
  refine wpAny_bind (wpAny_bind (I.type.here ((looks_findIn X hga).here ?_)))
  dsimp only
  rw [hcan, if_neg (by decide)]
  refine wpAny_bind (wpAny_bind (I.type.here ((looks_findIn X hk).here ?_)))
  refine wpAny_bind (wpAny_bind (I.type.here ((looks_findIn X hf).here (wpAny_bind ((looks_typeIn X ht).here ?_)))))
  rw [if_neg (by rw [htf]; decide)]
  refine wpAny_bind (wpAny_loadPart I.at_ ?_)
  have hd := I.dict
  cases e : ox.dict with
  | none => exact wpAny_bind (wpAny_rule (wpAny_pure h))
  | some dx =>
    cases odx with
    | none => rw [e] at hd; exact hd.elim
    | some o =>
      rw [e] at hd
      obtain ⟨r, a, b⟩ := Option.map_eq_some_iff.mp hs
      refine wpAny_bind (wpAny_bind (wpAny_loadPart hd ?_))
      rw [nsLook_of a]
      refine wpAny_pure ?_
      rw [b]
      exact wpAny_bind (wpAny_rule (wpAny_pure h))
end

section
variable {prog : Program} {w : World} {A : Around} {E : Value → Shared → Prop} {s : Shared} {K : Frag} {x C L d : Addr} {h₀ : Heap} {m : Str → Option Value} {ox : Obj} {news news' : List (Addr × Obj)} {es : List DictEntry} {n k : Nat}

theorem meth_K {f tf : Value} {ga : String} {name : Str} {pl : Sem Bool} {Q : Value × List Value → Shared → Prop} (F : Fr h₀ L s.heap m) (X₀ : K.In h₀) (I : InstAt s.heap x ox C (some (dictOf es n)))
    (hga : findIn K (.ref C) "__getattribute__" = some (some (.builtin ga))) (hcan : (Manifest.canonical ga != "object.__getattribute__") = false)
    (hk : findIn K (.ref C) "__getattr__" = some none) (hf : findIn K (.ref C) name = some (some f)) (ht : typeIn K f = some tf)
    (htf : (tf != .type "function" && tf != .type "method_descriptor" && tf != .type "wrapper_descriptor") = false) (hl : getL name es = some none) (h : Q (f, [.ref x]) s) :
    wpAny (model prog w) A (getMethod (.ref x) name pl) Q E s :=
  meth_any (X₀.keeps F.keep) I hga hcan hk hf ht htf (by show (lookIn name (dictOf es n)).map _ = _; rw [lookIn_dict, hl]; rfl) h

theorem append_A {its : Array Value} {v : Value} {odx : Option Obj} {Q : Value → Shared → Prop} (F : Fr h₀ L s.heap m) (X₀ : K.In h₀) (N : News h₀ L s.heap news) (I : InstAt s.heap x (accO C d its n) C odx)
    (hm : mroIn K C (.type "list") = some true) (U : Upd x (accO C d its n) (accO C d (its.push v) (n + 1)) news news')
    (h : ∀ h', Fr h₀ L h' m → News h₀ L h' news' → Q .none { s with heap := h' }) (hsz : its.size ≤ sizeLine) : wpAny (model prog w) A (call (.builtin "list.append") [.ref x, v]) Q E s := by
  obtain ⟨pre, post, rfl, rfl, a, b⟩ := U.split
  have z := N (x, accO C d its n) (List.mem_append.mpr (.inr (.head _)))
  exact sub_append (X₀.keeps F.keep) hm I (fun h' hs ho' => h h' (F.change hs z.2.1 z.2.2) (news_set N a b hs ho')) hsz
end

theorem InstA {h₀ h : Heap} {L x C dx : Addr} {news : List (Addr × Obj)} {od : Obj} {its : Array Value} {n : Nat} (N : News h₀ L h news) (h1 : (x, accO C dx its n) ∈ news) (h2 : (dx, od) ∈ news) :
    InstAt h x (accO C dx its n) C (some od) := ⟨(N _ h1).1, rfl, rfl, (N _ h2).1⟩

/-- a contract: whatever frame calls it, whatever it has made -/
def FC (prog : Program) (w : World) (K : Frag) (p : Program) (loose : List Str) (mean : ExcName → Option Value) (mg mb : Str → Option Value) (f : Addr) (vs : List Value)
    (news : List (Addr × Obj)) (dn : Nat) (Post : Value → List (Addr × Obj) → Prop) : Prop :=
  ∀ (dp un : Nat) (gd : Option (List Code)) (cn : Str) (cs : Scope) (a : Addr) (ccd : Value) (cl : List (Str × Addr)) (outer : List Env) (A₀ : Around) (base h₀ : Heap) (L : Addr) (m : Str → Option Value) (s : Shared) (Q E : Value → Shared → Prop),
    Below A₀ base outer h₀ → Fr h₀ L s.heap m → K.In h₀ → News h₀ L s.heap news → Top p loose mean mg mb h₀ → cs.kind = .function → dp + dn < recursionLimit → un + 8 * dn < cLine →
    (∀ v news' h' tk', Fr h₀ L h' m → News h₀ L h' news' → Post v news' → Q v { s with heap := h', toks := tk' }) →
    wpAny (model prog w) (ktrTop dp un gd cn cs L a ccd cl outer) (call (.ref f) vs) Q E s

theorem fc_ret {h₀ h' : Heap} {L : Addr} {m : Str → Option Value} {s : Shared} {Q : Value → Shared → Prop} {Post : Value → List (Addr × Obj) → Prop} {v : Value} {news' : List (Addr × Obj)} {tk' : Nat}
    (hret : ∀ v news' h' tk', Fr h₀ L h' m → News h₀ L h' news' → Post v news' → Q v { s with heap := h', toks := tk' }) (F : Fr h₀ L h' m) (N : News h₀ L h' news') (hp : Post v news') : Q v { s with heap := h', toks := tk' } := hret v news' h' tk' F N hp
end Mine
end
section
open PySem PySem.W PySem.Calls PyProof.Rows PySem.Spec
set_option Elab.async false
set_option maxRecDepth 100000
namespace Mine

theorem slot_wrapper_get : Slot "wrapper_descriptor" "__get__" "wrapper_descriptor.__get__" := .of (owner := "wrapper_descriptor") (n := "__get__") (by rw [typeLookup_type, builtinLookup_eq_fast]; kernel_rfl) (by decide +kernel) (by decide +kernel) (by decide +kernel)
  (by first | exact .inl (by decide +kernel) | exact .inr (by decide +kernel)) (by rw [isSubtype_type]; kernel_rfl)
theorem slot_methd_get : Slot "method_descriptor" "__get__" "method_descriptor.__get__" := .of (owner := "method_descriptor") (n := "__get__") (by rw [typeLookup_type, builtinLookup_eq_fast]; kernel_rfl) (by decide +kernel) (by decide +kernel) (by decide +kernel)
  (by first | exact .inl (by decide +kernel) | exact .inr (by decide +kernel)) (by rw [isSubtype_type]; kernel_rfl)
theorem entry_wrapper_get : entryFor table "wrapper_descriptor.__get__" = some Builtin.«wrapper_descriptor.__get__» := entryFor_of_tree (by kernel_rfl)
theorem entry_methd_get : entryFor table "method_descriptor.__get__" = some Builtin.«method_descriptor.__get__» := entryFor_of_tree (by kernel_rfl)
theorem args_wrapper_get (a b c : Value) : argsOk "wrapper_descriptor.__get__" ⟨[a, b, c], []⟩ := by unfold argsOk; kernel_rfl
theorem args_methd_get (a b c : Value) : argsOk "method_descriptor.__get__" ⟨[a, b, c], []⟩ := by unfold argsOk; kernel_rfl

abbrev boundO (T id : String) (x : Addr) : Obj := { cls := .type T, dict := none, data := .fields #[.builtin id, .ref x], slots := #[] }

section
variable {prog : Program} {w : World} {A : Around} {E : Value → Shared → Prop} {h : Heap} {g : Array GenState} {d : Drawn} {t : Nat} {os : OsState} {K : Frag} {x C : Addr} {ox : Obj} {odx : Option Obj}

theorem wrapper_get {id : String} {Q : Fin → Shared → Prop} (hx : h.get? x = some ox) (hxc : ox.cls = .ref C) (hI : Looks (model prog w) h (isSubtype (.ref C) (.type "list")) true)
    (hown : ".".intercalate (id.cutAt '.').dropLast = "list")
    (hq : Q (.done (.ret (.ref h.objs.size))) ⟨h.push (boundO "method-wrapper" id x), g, d, t, os⟩) :
    wpAny (model prog w) A (Builtin.«wrapper_descriptor.__get__» ⟨[.builtin id, .ref x, .ref C], []⟩) Q E ⟨h, g, d, t, os⟩ := by
  unfold Builtin.«wrapper_descriptor.__get__»
  repeat (first | (with_reducible refine wpAny_loadPart_at hx ?_; rw [hxc]) | (rw [hown]; with_reducible refine Looks.at hI ?_) | (with_reducible refine wpAny_newObj_type ?_ (by size_fits)) | wp_step)
  all_goals exact hq

theorem methd_get {id : String} {Q : Fin → Shared → Prop} (hx : h.get? x = some ox) (hxc : ox.cls = .ref C) (hI : Looks (model prog w) h (isSubtype (.ref C) (.type "list")) true)
    (hown : ".".intercalate (id.cutAt '.').dropLast = "list") (hni : Manifest.toldItsClass.contains id = false)
    (hq : Q (.done (.ret (.ref h.objs.size))) ⟨h.push (boundO "builtin_function_or_method" id x), g, d, t, os⟩) :
    wpAny (model prog w) A (Builtin.«method_descriptor.__get__» ⟨[.builtin id, .ref x, .ref C], []⟩) Q E ⟨h, g, d, t, os⟩ := by
  unfold Builtin.«method_descriptor.__get__»
  repeat (first | (with_reducible refine wpAny_loadPart_at hx ?_; rw [hxc]) | (rw [hown]; with_reducible refine Looks.at hI ?_) | (with_reducible refine wpAny_newObj_type ?_ (by size_fits)) | (rw [hni]) | wp_step)
  all_goals exact hq

theorem super_ga_bi {so D : Addr} {id T gid : String} {l₀ l : List Value} {name : Str} {tk : Tok} {B : Builtin} {Q : Fin → Shared → Prop} {s₁ : Shared} {r : Value}
    (hso : h.get? so = some { cls := .type "super", dict := none, data := .fields #[.ref D, .ref x, .ref C], slots := #[] }) (hno : Looks (model prog w) h (opaqueClassAbove (.ref C)) none)
    (hC : Looks (model prog w) h (mroOf (.ref C)) l₀) (hl : (l₀.dropWhile (· != .ref D)).drop 1 = l) (X : K.In h)
    (hf : alongIn K name l = some (some (.builtin id))) (hty : typeOf (.builtin id) = pure (.type T)) (hslot : Slot T "__get__" gid) (hent : entryFor table gid = some B)
    (hargs : argsOk gid ⟨[.builtin id, .ref x, .ref C], []⟩) (hxC : x ≠ C) (hn : (name == ("__class__" : Str)) = false)
    (hB : ∀ {Q' : Fin → Shared → Prop} {A' : Around} {E' : Value → Shared → Prop}, Q' (.done (.ret r)) s₁ → wpAny (model prog w) A' (B ⟨[.builtin id, .ref x, .ref C], []⟩) Q' E' ⟨h, g, d, t, os⟩)
    (hq : Q (.done (.ret r)) s₁) :
    wpAny (model prog w) A (Builtin.«super.__getattribute__» ⟨[.ref so, .str name tk], []⟩) Q E ⟨h, g, d, t, os⟩ := by
  have hlk := hslot.lookup
  have hne : (Value.ref x == Value.ref C) = false := by simp [hxC]
  have hdt : ({ cls := .type "super", dict := none, data := .fields #[.ref D, .ref x, .ref C], slots := #[] } : Obj).data = .fields #[.ref D, .ref x, .ref C] := rfl
  have f0 : (#[.ref D, .ref x, .ref C] : Array Value)[0]? = some (.ref D) := rfl
  have f1 : (#[.ref D, .ref x, .ref C] : Array Value)[1]? = some (.ref x) := rfl
  have f2 : (#[.ref D, .ref x, .ref C] : Array Value)[2]? = some (.ref C) := rfl
  have hT : ∀ s' : Shared, s'.TypeIs (.builtin id) T := fun _ => hty
  unfold Builtin.«super.__getattribute__»
  repeat (first
    | (with_reducible refine wpAny_field hso hdt f0 ?_) | (with_reducible refine wpAny_field hso hdt f1 ?_) | (with_reducible refine wpAny_field hso hdt f2 ?_)
    | (with_reducible refine ks_wpAny_notOpaque hno ?_)
    | (with_reducible refine Looks.at hC ?_; rw [hl])
    | (refine ks_forIn_along X (fun _ _ => rfl) rfl ?_ hf)
    | (with_reducible refine wpAny_typeOf (hT _) ?_)
    | (with_reducible refine wpAny_call_entry hslot (hT _) hent ?_ hargs)
    | (with_reducible refine hB ?_)
    | (with_reducible refine ⟨_, rfl, ?_⟩)
    | (simp only [hn, hne, Bool.or_false, Bool.false_eq_true, if_false])
    | wp_step
    | dsimp only)
  all_goals exact hq

theorem getMethod_super_bi {so D : Addr} {id T gid : String} {l₀ l : List Value} {name : Str} {pl : Sem Bool} {B : Builtin} {Q : Value × List Value → Shared → Prop} {h₁ : Heap}
    (hso : h.get? so = some { cls := .type "super", dict := none, data := .fields #[.ref D, .ref x, .ref C], slots := #[] }) (hno : Looks (model prog w) h (opaqueClassAbove (.ref C)) none)
    (hC : Looks (model prog w) h (mroOf (.ref C)) l₀) (hl : (l₀.dropWhile (· != .ref D)).drop 1 = l) (X : K.In h)
    (hf : alongIn K name l = some (some (.builtin id))) (hty : typeOf (.builtin id) = pure (.type T)) (hslot : Slot T "__get__" gid) (hent : entryFor table gid = some B)
    (hargs : argsOk gid ⟨[.builtin id, .ref x, .ref C], []⟩) (hxC : x ≠ C) (hn : (name == ("__class__" : Str)) = false)
    (hB : ∀ {Q' : Fin → Shared → Prop} {A' : Around} {E' : Value → Shared → Prop}, Q' (.done (.ret (.ref h.objs.size))) ⟨h₁, g, d, t + 1, os⟩ → wpAny (model prog w) A' (B ⟨[.builtin id, .ref x, .ref C], []⟩) Q' E' ⟨h, g, d, t + 1, os⟩)
    (hq : Q (.ref h.objs.size, []) ⟨h₁, g, d, t + 1, os⟩) :
    wpAny (model prog w) A (getMethod (.ref so) name pl) Q E ⟨h, g, d, t, os⟩ := by
  have hlk := F.ks_slot_super_ga.lookup
  have hcan := F.ks_canon_super_ga
  have hT : ∀ t', (⟨h, g, d, t', os⟩ : Shared).TypeIs (.ref so) "super" := fun _ => ⟨_, hso, rfl⟩
  unfold getMethod
  refine wpAny_bind (wpAny_specialOf (hT _) hlk ?_)
  show wpAny _ _ (if (Manifest.canonical "super.__getattribute__" != "object.__getattribute__") = true then _ else _) _ _ _
  rw [if_pos hcan]
  unfold getAttr getAttrBy
  refine wpAny_bind (wpAny_bind (wpAny_mkText (wpAny_holding (wpAny_bind (wpAny_typeOf (hT _) (wpAny_bind (wpAny_of_eq hlk ?_)))))))
  show wpAny _ _ (getAttrByItsOwn (.ref so) (.str name t) (.type "super") (.builtin "super.__getattribute__") true false) _ _ _
  unfold getAttrByItsOwn hookBefore callGetattribute boundAndCalled
  refine wpAny_bind (wpAny_of_eq (show (if onTheHeap (.type "super") then typeLookup (.type "super") "__getattr__" else pure none) = pure none from rfl) ?_)
  refine wpAny_bind (wpAny_attempt (wpAny_holding ?_))
  show wpAny _ _ (bindSpecial (.builtin "super.__getattribute__") (.ref so) >>= _) _ _ _
  refine wpAny_bind (wpAny_of_eq (F.ks_slot_super_ga.bind _) ?_)
  refine wpAny_mono (Q := fun v s' => v = .ref h.objs.size ∧ s' = ⟨h₁, g, d, t + 1, os⟩) (E := fun _ _ => False)
    (wpAny_call_entry F.ks_slot_super_ga (hT _) F.ks_entry_super_ga (super_ga_bi hso hno hC hl X hf hty hslot hent hargs hxC hn hB ⟨_, rfl, rfl, rfl⟩) (F.ks_gaArgs_super _ _)) (fun v s' hv => ?_) fun _ _ z => z.elim
  obtain ⟨rfl, rfl⟩ := hv
  exact wpAny_pure (wpAny_pure hq)
end

section
variable {prog : Program} {w : World} {A : Around} {E : Value → Shared → Prop} {s : Shared} {h₀ : Heap} {L : Addr} {m : Str → Option Value} {news : List (Addr × Obj)} {K : Frag} {x C D so : Addr} {ox : Obj} {odx : Option Obj}

theorem sup_wrapper {id : String} {name : Str} {pl : Sem Bool} {Q : Value × List Value → Shared → Prop} (F : Fr h₀ L s.heap m) (X₀ : K.In h₀) (N : News h₀ L s.heap news) (hso : (so, ks_superObj D x C) ∈ news) (I : InstAt s.heap x ox C odx) (ho : nsIn K cStatics "thirdparty.any" = some none)
    (hm : ks_superIn K C D name = some (some (.builtin id))) (hty : typeOf (.builtin id) = pure (.type "wrapper_descriptor")) (hown : ".".intercalate (id.cutAt '.').dropLast = "list") (hsub : mroIn K C (.type "list") = some true)
    (hargs : argsOk "wrapper_descriptor.__get__" ⟨[.builtin id, .ref x, .ref C], []⟩) (hn : (name == ("__class__" : Str)) = false)
    (h : ∀ q h', Fr h₀ L h' m → News h₀ L h' ((q, boundO "method-wrapper" id x) :: news) → (∀ p ∈ news, p.1 < q) → Q (.ref q, []) { s with heap := h', toks := s.toks + 1 }) : wpAny (model prog w) A (getMethod (.ref so) name pl) Q E s := by
  have X : K.In s.heap := X₀.keeps F.keep
  obtain ⟨hh, g, d, t, os⟩ := s
  cases hc : clsIn K C with
  | none => unfold ks_superIn at hm; rw [hc] at hm; cases hm
  | some cd =>
    unfold ks_superIn at hm
    rw [hc] at hm
    refine getMethod_super_bi (N _ hso).1 (looks_opaque X ho) (l₀ := cd.mro) (fun A Q E s k q => wpAny_bind ((looks_clsIn X hc) A _ E s k (wpAny_pure q))) rfl X hm hty slot_wrapper_get entry_wrapper_get hargs (ks_ne X I hc) hn
      (fun q => wrapper_get I.at_ I.cls (looks_mroIn X hsub) hown q) ?_
    obtain ⟨F', N', l'⟩ := ks_newsPush (s := ⟨hh, g, d, t, os⟩) (o := boundO "method-wrapper" id x) F N rfl (Heap.get?_push_at rfl rfl) (fun b o e => Heap.get?_push_of_some _ e)
    exact h _ _ F' N' l'

theorem sup_methd {id : String} {name : Str} {pl : Sem Bool} {Q : Value × List Value → Shared → Prop} (F : Fr h₀ L s.heap m) (X₀ : K.In h₀) (N : News h₀ L s.heap news) (hso : (so, ks_superObj D x C) ∈ news) (I : InstAt s.heap x ox C odx) (ho : nsIn K cStatics "thirdparty.any" = some none)
    (hm : ks_superIn K C D name = some (some (.builtin id))) (hty : typeOf (.builtin id) = pure (.type "method_descriptor")) (hown : ".".intercalate (id.cutAt '.').dropLast = "list") (hni : Manifest.toldItsClass.contains id = false) (hsub : mroIn K C (.type "list") = some true)
    (hargs : argsOk "method_descriptor.__get__" ⟨[.builtin id, .ref x, .ref C], []⟩) (hn : (name == ("__class__" : Str)) = false)
    (h : ∀ q h', Fr h₀ L h' m → News h₀ L h' ((q, boundO "builtin_function_or_method" id x) :: news) → (∀ p ∈ news, p.1 < q) → Q (.ref q, []) { s with heap := h', toks := s.toks + 1 }) : wpAny (model prog w) A (getMethod (.ref so) name pl) Q E s := by
  have X : K.In s.heap := X₀.keeps F.keep
  obtain ⟨hh, g, d, t, os⟩ := s
  cases hc : clsIn K C with
  | none => unfold ks_superIn at hm; rw [hc] at hm; cases hm
  | some cd =>
    unfold ks_superIn at hm
    rw [hc] at hm
    refine getMethod_super_bi (N _ hso).1 (looks_opaque X ho) (l₀ := cd.mro) (fun A Q E s k q => wpAny_bind ((looks_clsIn X hc) A _ E s k (wpAny_pure q))) rfl X hm hty slot_methd_get entry_methd_get hargs (ks_ne X I hc) hn
      (fun q => methd_get I.at_ I.cls (looks_mroIn X hsub) hown hni q) ?_
    obtain ⟨F', N', l'⟩ := ks_newsPush (s := ⟨hh, g, d, t, os⟩) (o := boundO "builtin_function_or_method" id x) F N rfl (Heap.get?_push_at rfl rfl) (fun b o e => Heap.get?_push_of_some _ e)
    exact h _ _ F' N' l'

theorem callWith_B {M : Model} {q : Addr} {o : Obj} {vs : Array Value} {pos : Pos} {env : Env} {first : List Value} {Q : Value → Shared → Prop} (ho : s.heap.get? q = some o) (hd : o.data = .fields vs)
    (hc : o.cls = .type "builtin_function_or_method" ∨ o.cls = .type "method-wrapper")
    (h : wpAny M A (call (.ref q) (first ++ [])) Q E s) : wpAny M A (callWith pos (.ref q) first (backTo pos (starEach [] env)) []) Q E s := by
  refine callWith_of (P := fun h => h = s.heap) rfl (fun h e => ⟨.machine, .inr (.inl rfl), ?_⟩) (evalArgs_nil3 ⟨rfl, h⟩)
  subst e
  refine (Looks.ld (part := none) ho).andThen ?_
  rw [hd]
  dsimp only
  rcases hc with hc | hc <;> (rw [hc]; exact .now)

theorem bound_call {q : Addr} {T id : String} {x : Addr} {B : Builtin} {args : List Value} {Q : Value → Shared → Prop} (ho : s.heap.get? q = some (boundO T id x))
    (hT : T = "method-wrapper" ∨ T = "builtin_function_or_method")
    (hchk : ∀ {Q' : Unit → Shared → Prop} {A' : Around} {E' : Value → Shared → Prop}, Q' () s → wpAny (model prog w) A' (checkBoundCall id ⟨.ref x :: args, []⟩) Q' E' s)
    (hp : plainId id = true) (hb : entryFor table id = some B)
    (hc : wpAny (model prog w) A.in1 (B ⟨.ref x :: args, []⟩) (fun fin s' => ∃ v, fin = .done (.ret v) ∧ Q v s') E s) :
    wpAny (model prog w) A (call (.ref q) args) Q E s := by
  refine wpAny_call (codeAny_of_tree ?_)
  show wpAny _ _ (callAny (.ref q) _) _ _ _
  unfold callAny
  refine wpAny_bind (wpAny_load ho ?_)
  have fin : wpAny (model prog w) (A.under (.call (.ref q) ⟨args, []⟩)) (do checkBoundCall id ⟨.ref x :: args, []⟩; PySem.again (.builtin id ⟨.ref x :: args, []⟩))
      (fun fin s' => match fin with
        | .done f => (match (Except.ok f : Result) with | .ok (.ret v) => Q v s' | .ok _ => False | .error e => E e s')
        | .again c' => c'.quiet = true ∧ codeAny (model prog w) A c' (fun r s' => match r with | .ok (.ret v) => Q v s' | .ok _ => False | .error e => E e s') s')
      (fun e s' => E e s') s := by
    refine wpAny_bind (hchk (wpAny_pure ⟨plainId_quiet hp _, codeAny_builtin hb ?_⟩))
    rw [Around.under_plainId hp _]
    exact wpAny_mono hc (fun fin s' h' => by obtain ⟨v, rfl, hv⟩ := h'; exact hv) fun _ _ h' => h'
  rcases hT with rfl | rfl <;> exact fin

theorem check_len {s : Shared} {x : Addr} {Q : Unit → Shared → Prop} {M : Model} (hq : Q () s) : wpAny M A (checkBoundCall "list.__len__" ⟨[.ref x], []⟩) Q E s :=
  wpAny_of_eq (show checkBoundCall "list.__len__" ⟨[.ref x], []⟩ = pure () by kernel_rfl) hq
theorem check_init {s : Shared} {x : Addr} {Q : Unit → Shared → Prop} {M : Model} (hq : Q () s) : wpAny M A (checkBoundCall "list.__init__" ⟨[.ref x], []⟩) Q E s :=
  wpAny_of_eq (show checkBoundCall "list.__init__" ⟨[.ref x], []⟩ = pure () by kernel_rfl) hq

theorem check_pop {M : Model} {cd : ClassData} {oc : Value} {od : Option Addr} {sl : Array (Option Value)} {Q : Unit → Shared → Prop} (X : K.In s.heap) (I : InstAt s.heap x ox C odx) (hmod : mroIn K C (.type "module") = some false)
    (hC : K.lookup C = some ⟨oc, od, .cls cd, sl⟩) (hty : typeIn K (.ref C) = some (.type "type")) (hfull : (toString cd.qualname.toString ++ toString "." ++ toString (Bind.lastOf "list.pop") != "*") = true) (hq : Q () s) : wpAny M A (checkBoundCall "list.pop" ⟨[.ref x], []⟩) Q E s := by
  obtain ⟨hh, g, d, t, os⟩ := s
  have hI := isInst (M := M) X I hmod
  have hT := I.type (M := M)
  have hY := looks_typeIn (M := M) X hty
  have hcd := looks_clsIn (M := M) X (C := C) (cd := cd) (by unfold clsIn; rw [hC])
  have hno : notCls ox = true := I.no
  have hnc : ∀ c, ox.data ≠ .cls c := fun c e => by
    have := I.no
    unfold notCls at this
    rw [e] at this
    exact Bool.noConfusion this
  unfold checkBoundCall
  repeat (first | (with_reducible refine Looks.at hI ?_) | (with_reducible refine Looks.at hcd ?_) | (with_reducible refine Looks.at hY ?_) | (with_reducible refine Looks.at hT ?_) | (with_reducible refine ks_wpAny_isType_inst I.at_ hnc ?_) | (dsimp only; rw [if_pos hfull]) | wp_step)
  all_goals first
    | exact hq
    | exact wpAny_of_eq (by kernel_rfl) hq
    | trace_state

theorem len_body {h : Heap} {g : Array GenState} {d : Drawn} {t : Nat} {os : OsState} {dx : Addr} {its : Array Value} {n : Nat} {Q : Fin → Shared → Prop} (ho : h.get? x = some (accO C dx its n))
    (hq : ∀ tk, Q (.done (.ret (.int (its.size : Int) tk))) ⟨h, g, d, t + 1, os⟩) : wpAny (model prog w) A (Builtin.«list.__len__» ⟨[.ref x], []⟩) Q E ⟨h, g, d, t, os⟩ := by
  unfold Builtin.«list.__len__»
  repeat (first | (with_reducible refine wpAny_loadPart_at ho ?_) | wp_step)
  all_goals exact hq _

theorem pop_body {h : Heap} {g : Array GenState} {d : Drawn} {t : Nat} {os : OsState} {dx : Addr} {items : Array Value} {n : Nat} {y : Value} {Q : Fin → Shared → Prop} (hl : h.get? x = some (accO C dx items n))
    (hy : items[items.size - 1]? = some y) (hs1 : items.size ≤ sizeLine)
    (hq : Q (.done (.ret y)) ⟨h.update x (Obj.mapSeq fun xs => xs.eraseIdxIfInBounds (items.size - 1)), g, d, t, os⟩) : wpAny (model prog w) A (Builtin.«list.pop» ⟨[.ref x], []⟩) Q E ⟨h, g, d, t, os⟩ := by
  have hpos : 0 < items.size := by
    rcases Nat.eq_zero_or_pos items.size with h0 | h0
    · simp [h0] at hy
    · exact h0
  have hne : ¬ items.isEmpty = true := by
    intro he; have : items.size = 0 := by simpa using he
    lia
  have hk : seqIndex? (-1) items.size = some (items.size - 1) := by
    rw [seqIndex_neg (by lia) (by lia)]; congr 1; lia
  unfold Builtin.«list.pop»
  wp_walk using wpAny_loadPart' hl
  simp only [hk, hy, Option.bind_some, Option.map_some]
  have hz' : (items.eraseIdxIfInBounds (items.size - 1)).size ≤ sizeLine + 1 := Nat.le_trans (by first | exact Array.size_eraseIdxIfInBounds_le | (unfold Array.eraseIdxIfInBounds; split <;> simp)) (Nat.le_succ_of_le hs1)
  wp_walk using (wpAny_updateSeq hl rfl (hz := hs1) (_hz' := hz')), wpAny_loadPart' hl
  exact hq

theorem plain_len : plainId "list.__len__" = true := by decide +kernel
theorem plain_pop : plainId "list.pop" = true := by decide +kernel
theorem ent_len : entryFor table "list.__len__" = some Builtin.«list.__len__» := entryFor_of_tree (by kernel_rfl)
theorem ent_pop : entryFor table "list.pop" = some Builtin.«list.pop» := entryFor_of_tree (by kernel_rfl)

theorem callWith_Bn {M : Model} {q : Addr} {T id : String} {pos : Pos} {env : Env} {first : List Value} {Q : Value → Shared → Prop} (N : News h₀ L s.heap news) (hq : (q, boundO T id x) ∈ news)
    (hT : T = "builtin_function_or_method" ∨ T = "method-wrapper")
    (h : wpAny M A (call (.ref q) (first ++ [])) Q E s) : wpAny M A (callWith pos (.ref q) first (backTo pos (starEach [] env)) []) Q E s :=
  callWith_B (N _ hq).1 rfl (by rcases hT with rfl | rfl; exact .inl rfl; exact .inr rfl) h

theorem len_bound {q dx : Addr} {its : Array Value} {n : Nat} {Q : Value → Shared → Prop} (N : News h₀ L s.heap news) (hq : (q, boundO "method-wrapper" "list.__len__" x) ∈ news) (hx : (x, accO C dx its n) ∈ news)
    (h : ∀ tk, Q (.int (its.size : Int) tk) { s with toks := s.toks + 1 }) : wpAny (model prog w) A (call (.ref q) []) Q E s := by
  have h1 := (N _ hq).1
  have h2 := (N _ hx).1
  refine bound_call h1 (.inl rfl) check_len plain_len ent_len ?_
  obtain ⟨hh, g, d, t, os⟩ := s
  exact len_body h2 fun tk => ⟨_, rfl, h tk⟩

theorem erase_last (l : List Value) (y : Value) : (l ++ [y]).toArray.eraseIdxIfInBounds ((l ++ [y]).toArray.size - 1) = l.toArray := by
  apply Array.toList_inj.mp
  simp only [Array.eraseIdxIfInBounds, List.size_toArray, List.length_append, List.length_cons, List.length_nil, Nat.zero_add, Nat.add_sub_cancel]
  rw [dif_pos (by lia)]
  simp only [Array.toList_eraseIdx]
  rw [List.eraseIdx_append_of_length_le (Nat.le_refl _)]
  simp

theorem pop_bound {q dx : Addr} {l : List Value} {y : Value} {n : Nat} {cd : ClassData} {oc : Value} {od : Option Addr} {sl : Array (Option Value)} {news' : List (Addr × Obj)} {Q : Value → Shared → Prop} (F : Fr h₀ L s.heap m) (X₀ : K.In h₀) (N : News h₀ L s.heap news)
    (hq : (q, boundO "builtin_function_or_method" "list.pop" x) ∈ news) (I : InstAt s.heap x (accO C dx (l ++ [y]).toArray n) C odx)
    (hmod : mroIn K C (.type "module") = some false) (hC : K.lookup C = some ⟨oc, od, .cls cd, sl⟩) (hty : typeIn K (.ref C) = some (.type "type")) (hfull : (toString cd.qualname.toString ++ toString "." ++ toString (Bind.lastOf "list.pop") != "*") = true)
    (hs1 : (l ++ [y]).toArray.size ≤ sizeLine) (U : Upd x (accO C dx (l ++ [y]).toArray n) (accO C dx l.toArray (n + 1)) news news')
    (h : ∀ h', Fr h₀ L h' m → News h₀ L h' news' → Q y { s with heap := h' }) : wpAny (model prog w) A (call (.ref q) []) Q E s := by
  have h1 := (N _ hq).1
  have X : K.In s.heap := X₀.keeps F.keep
  refine bound_call h1 (.inr rfl) (check_pop X I hmod hC hty hfull) plain_pop ent_pop ?_
  obtain ⟨pre, post, rfl, rfl, a, b⟩ := U.split
  have z := N (x, accO C dx (l ++ [y]).toArray n) (List.mem_append.mpr (.inr (.head _)))
  have ho := I.at_
  obtain ⟨hh, g, d, t, os⟩ := s
  refine pop_body ho (y := y) (by simp) hs1 ⟨_, rfl, ?_⟩
  have hs : Heap.SameBut x hh (hh.update x (Obj.mapSeq fun xs => xs.eraseIdxIfInBounds ((l ++ [y]).toArray.size - 1))) := Heap.SameBut.update ..
  have ho' : (hh.update x (Obj.mapSeq fun xs => xs.eraseIdxIfInBounds ((l ++ [y]).toArray.size - 1))).get? x = some (accO C dx l.toArray (n + 1)) := by
    rw [Heap.get?_update_self _ ho rfl]
    have hne : (l.toArray.size == (l ++ [y]).toArray.size) = false := by simp
    simp only [Obj.mapSeq, erase_last]
    rw [hne]
    rfl
  exact h _ (F.change hs z.2.1 z.2.2) (news_set N a b hs ho')
end
end Mine
end
section
open PySem PySem.W PySem.Calls PyProof.Rows PySem.Spec
set_option Elab.async false
set_option maxRecDepth 100000
set_option maxHeartbeats 4000000
namespace Mine

/-- what a call of a class that is made by list.__new__ asks of the written part -/
def listMade (K : Frag) (C : Addr) : Bool := match K.lookup C with
  | some ⟨_, _, .cls cd, sl⟩ => !cd.abstract && !cd.hasDel && (sl.toList[4]?).join == some (.builtin "list.__new__") && !cd.mro.isEmpty && cd.mro.contains (.ref C) && cd.mro.contains (.type "list") &&
      specialIn K (.ref C) "__call__" == some (some (.builtin "type.__call__")) && instIn K (.ref C) (.type "type") == some true
  | _ => false
structure ListMade (M : Model) (h : Heap) (C : Addr) (cd : ClassData) (sl : Array (Option Value)) : Prop where
  obj : ∃ oc od, h.get? C = some ⟨oc, od, .cls cd, sl⟩
  del : cd.hasDel = false
  ne : cd.mro.isEmpty = false
  made : Looks M h (Bind.madeBy (.ref C)) (some "list.__new__")
  base : Looks M h (Bind.staticBase (.ref C)) (.ref C)
  self : Looks M h (isSubtype (.ref C) (.ref C)) true
  top : Looks M h (isSubtype (.ref C) (.type "list")) true
  call : Looks M h (specialOf (.ref C) "__call__") (some (.builtin "type.__call__"))
  typ : Looks M h (isInstance (.ref C) (.type "type")) true

theorem listMade_of {K : Frag} {M : Model} {h : Heap} (X : K.In h) {C : Addr} (e : listMade K C = true) : ∃ cd sl, ListMade M h C cd sl := by
  unfold listMade at e
  split at e
  · rename_i oc od cd sl ho
    simp only [Bool.and_eq_true, Bool.not_eq_true', beq_iff_eq] at e
    obtain ⟨⟨⟨⟨⟨⟨⟨e1, e2⟩, e3⟩, e4⟩, e5⟩, e6⟩, e7⟩, e8⟩ := e
    have hc : clsIn K C = some cd := by unfold clsIn; rw [ho]
    have hm : Looks M h (mroOf (.ref C)) cd.mro := (looks_clsIn X hc).andThen .now
    obtain ⟨c, l, hl⟩ : ∃ c l, cd.mro = c :: l := by cases q : cd.mro with | nil => rw [q] at e4; cases e4 | cons c l => exact ⟨c, l, rfl⟩
    have made : Looks M h (Bind.madeBy (.ref C)) (some "list.__new__") := by
      intro A Q E s k q
      unfold Bind.madeBy
      refine wpAny_bind (hm A _ E s k ?_)
      rw [hl, List.forIn_cons]
      refine wpAny_bind (wpAny_bind (wpAny_bind (wpAny_bind (wpAny_loadPart (k _ _ (X _ _ ho)) (wpAny_pure ?_)))))
      dsimp only
      rw [← Array.getElem?_toList, e3]
      exact wpAny_pure (wpAny_pure (wpAny_pure q))
    refine ⟨cd, sl, ⟨_, _, X _ _ ho⟩, e2, e4, made, ?_, looks_mroIn X ?_, looks_mroIn X ?_, looks_specialIn X e7, looks_instIn X e8⟩
    · intro A Q E s k q
      unfold Bind.staticBase
      refine wpAny_bind (hm A _ E s k ?_)
      rw [hl, List.forIn_cons]
      exact wpAny_bind (wpAny_bind (wpAny_bind (made A _ E s k (wpAny_pure (wpAny_pure (wpAny_pure q))))))
    · unfold mroIn; rw [hc, Option.bind_some, if_neg (by rw [e4]; decide), e5]
    · unfold mroIn; rw [hc, Option.bind_some, if_neg (by rw [e4]; decide), e6]
  · cases e

theorem ln_quiet : ∀ a, (Code.builtin "list.__new__" a).quiet = true := fun a => Code.quiet_builtin a (by decide +kernel)
theorem ln_kind : builtinKind "list.__new__" = some .builtinFn := by decide +kernel
theorem ln_split : splitId "list.__new__" = some ("list", "__new__") := by decide +kernel
theorem ln_entry : entryFor table "list.__new__" = some Builtin.«list.__new__» := entryFor_of_tree (by kernel_rfl)
theorem ln_plain : plainId "list.__new__" = true := by decide +kernel
theorem ln_sig (c : Addr) (v : Value) : (match Manifest.signature? "list.__new__" with | some sig => Bind.checkArgs "list.__new__" sig ⟨[.ref c, v], []⟩ | none => pure ()) = pure () := by kernel_rfl

section
variable {prog : Program} {w : World} {A : Around} {K : Frag} {C : Addr} {R : Result → Shared → Prop} {h : Heap} {g : Array GenState} {d : Drawn} {t : Nat} {os : OsState} {cd : ClassData} {sl : Array (Option Value)}

theorem new_L {v : Value} (Y : ListMade (model prog w) h C cd sl)
    (hq : R (.ok (.ret (.ref (h.objs.size + 1)))) ⟨(h.push emptyDict).push (accO C h.objs.size #[] 0), g, d, t, os⟩) :
    codeAny (model prog w) A (.call (.builtin "list.__new__") ⟨[.ref C, v], []⟩) R ⟨h, g, d, t, os⟩ := by
  obtain ⟨⟨oc, od, hC⟩, e2, e4, made, base, self, top, call, typ⟩ := Y
  refine codeAny_call_builtin_code (ln_quiet _) ?_
  have here : Looks (model prog w) h (Bind.madeHere "list.__new__" (.ref C)) () := base.andThen (made.andThen (Looks.of_pure (by simp only [Option.map_some, bne_self_eq_false, Bool.false_eq_true, if_false])))
  have hsig := ln_sig C v
  have hI : Looks (model prog w) h (isType (.ref C)) true := fun A Q E s k q => by
    obtain ⟨hh, g, d, t, os⟩ := s
    exact ks_wpAny_isType_cls (k _ _ hC) rfl q
  simp only [checkBuiltinCall, ln_kind, ln_split]
  repeat (first | (rw [hsig]) | simp only [bne_self_eq_false, Bool.false_eq_true, if_false] | lk)
  refine codeAny_builtin_stack ln_entry rfl fun p st => ?_
  rw [Around.under_plainId ln_plain _]
  have hown := owner_list_new
  have hht : typeHasDict (.ref C) = true := rfl
  simp only [hown]
  have fin : ∀ A', wpAny (model prog w) A' (newDict >>= fun v => (match v with | .ref d => (newObj (.ref C) (.seq #[]) (some d) >>= ret) | _ => unsupported "internal:list.__new__"))
     (fun fin s' => match fin with | .done f => R (.ok f) s' | .again c' => c'.quiet = true ∧ codeAny (model prog w) A c' R s') (fun e s' => R (.error e) s') ⟨h, g, d, t, os⟩ := by
    intro A'
    unfold newDict
    refine wpAny_bind (wpAny_newObj_type ?_ (by size_fits))
    dsimp only
    refine wpAny_bind ?_
    show wpAny _ _ (newObjAsIs _ _ _) _ _ _
    unfold newObjAsIs classHasDel
    refine wpAny_bind (wpAny_alloc (wpAny_bind (wpAny_bind (wpAny_load (Heap.get?_push_of_some _ (Heap.get?_push_of_some _ hC)) (wpAny_pure ?_)))))
    rw [e2]
    refine wpAny_pure (wpAny_pure ?_)
    show R _ _
    rw [Heap.size_push]
    exact hq
  repeat (first | simp only [hht, Bool.not_true, bne_self_eq_false, Bool.false_eq_true, if_false] | exact fin _ | lk)

theorem make_L {v init : Value} (Y : ListMade (model prog w) h C cd sl) (hi : Looks (model prog w) h (typeLookup (.ref C) "__init__") (some init))
    (hb : ∀ self, Looks (model prog w) h (bindSpecial init self) (init, [self]))
    (hq : codeAny (model prog w) (A.under (.builtin "type.__call__" ⟨[.ref C, v], []⟩)) (.call init ⟨[.ref (h.objs.size + 1), v], []⟩) (InitBack (h.objs.size + 1) R) ⟨(h.push emptyDict).push (accO C h.objs.size #[] 0), g, d, t, os⟩) :
    codeAny (model prog w) A (.call (.ref C) ⟨[v], []⟩) R ⟨h, g, d, t, os⟩ := by
  have Y' := Y
  obtain ⟨⟨oc, od, hC⟩, e2, e4, made, base, self, top, call, typ⟩ := Y
  refine codeAny_of_tree ?_
  show wpAny _ _ (callAny (.ref C) _) _ _ _
  refine nd_load hC ?_
  show wpAny _ _ (callAny.viaDunder (.ref C) _) _ _ _
  unfold callAny.viaDunder
  refine wpAny_bind (call.at ?_)
  dsimp only
  rw [tc_bind]
  refine wpAny_bind (wpAny_pure (wpAny_bind (wpAny_pure ?_)))
  refine wpAny_pure (a := Fin.again (.call (.builtin "type.__call__") ⟨[.ref C, v], []⟩)) (And.intro rfl ?_)
  refine codeAny_call_builtin_at (Code.quiet_builtin _ (by decide +kernel)) entry_typeCall (check_slot tc_kind tc_split typ (tc_args _ _ _) ?_)
  unfold Builtin.«type.__call__»
  have hm : Looks (model prog w) h (mroOf (.ref C)) cd.mro := ((Looks.ld (part := none) hC).andThen .now).andThen .now
  repeat (first | simp only [e4, Bool.false_eq_true, if_false] | with_reducible refine wpAny_call ?_ | lk)
  refine new_L Y' ?_
  have k : ∀ b o, h.get? b = some o → ((h.push emptyDict).push (accO C h.objs.size #[] 0)).get? b = some o := fun b o e => Heap.get?_push_of_some _ (Heap.get?_push_of_some _ e)
  have hx : ((h.push emptyDict).push (accO C h.objs.size #[] 0)).get? (h.objs.size + 1) = some (accO C h.objs.size #[] 0) := by heap_get
  have t1 : Looks (model prog w) ((h.push emptyDict).push (accO C h.objs.size #[] 0)) (typeOf (.ref (h.objs.size + 1))) (.ref C) := (Looks.ld hx).andThen .now
  have s1 := self.keeps k
  have i1 := hi.keeps k
  have b1 := (hb (.ref (h.objs.size + 1))).keeps k
  unfold isInstance callSpecial? specialOf
  repeat (first | with_reducible refine wpAny_call ?_ | lk)
  refine codeAny_mono hq fun r s' z => ?_
  rcases r with e | (v | _ | _ | _) <;> first | exact z | exact z.elim | skip
  obtain ⟨rfl, z⟩ := z
  exact wpAny_pure (wpAny_pure z)
end

section
variable {prog : Program} {w : World} {A : Around} {E : Value → Shared → Prop} {K : Frag} {C : Addr} {s : Shared} {h₀ : Heap} {L : Addr} {m : Str → Option Value} {news : List (Addr × Obj)} {R : Result → Shared → Prop}

theorem call_L {v : Value} {fI : Addr} {Q : Value → Shared → Prop} (F : Fr h₀ L s.heap m) (X₀ : K.In h₀) (N : News h₀ L s.heap news) (hm : listMade K C = true)
    (hi : findIn K (.ref C) "__init__" = some (some (.ref fI))) (hf : isFn K (.ref fI) = true)
    (h : ∀ x dx h', Fr h₀ L h' m → News h₀ L h' ((x, accO C dx #[] 0) :: (dx, dictOf [] 0) :: news) → (∀ p ∈ news, p.1 < dx) → dx < x →
      codeAny (model prog w) (A.under (.builtin "type.__call__" ⟨[.ref C, v], []⟩)) (.call (.ref fI) ⟨[.ref x, v], []⟩) (InitBack x fun r s' => match r with | .ok (.ret v) => Q v s' | .ok _ => False | .error e => E e s') { s with heap := h' }) :
    wpAny (model prog w) A (call (.ref C) [v]) Q E s := by
  have X : K.In s.heap := X₀.keeps F.keep
  refine wpAny_call ?_
  obtain ⟨hh, g, d, t, os⟩ := s
  obtain ⟨cd, sl, Y⟩ := listMade_of (M := model prog w) X hm
  refine make_L Y (looks_findIn X hi) (fun self => bind_fn X self (beq_iff_eq.mp hf)) (h _ hh.objs.size _ ((F.push _).push _) ?_ (fun p hp => Heap.lt_size (N p hp).1) (Nat.lt_succ_self _))
  have := (N.push F emptyDict).push (F.push _) (accO C hh.objs.size #[] 0)
  rwa [Heap.size_push] at this
end
end Mine
end
section
open PySem PySem.W PySem.Calls PyProof.Rows PySem.Spec Builtin Builtin.ObjectAttr
set_option Elab.async false
set_option maxRecDepth 100000
set_option maxHeartbeats 4000000
namespace Mine

theorem refuse_list (self : Value) : refuseLoop self "__setattr__" [.type "list", .type "object"] = pure () := by kernel_rfl

section
variable {prog : Program} {w : World} {A : Around} {E : Value → Shared → Prop} {K : Frag} {C x dx L : Addr} {s : Shared} {h₀ : Heap} {m : Str → Option Value} {news : List (Addr × Obj)} {R : Result → Shared → Prop} {name : Str} {v : Value}

theorem osa_L {cd : ClassData} {oc : Value} {odc : Option Addr} {sl : Array (Option Value)} {tk : Tok} {its : Array Value} {k : Nat} (F : Fr h₀ L s.heap m) (X : K.In s.heap)
    (N : News h₀ L s.heap ((x, accO C dx its k) :: (dx, dictOf [] 0) :: news)) (hxd : x ≠ dx) (hnd : ∀ p ∈ news, p.1 ≠ dx)
    (hC : K.lookup C = some ⟨oc, odc, .cls cd, sl⟩) (hmro : cd.mro = [.ref C, .type "list", .type "object"]) (hhd : cd.hasDict = true) (hno : findIn K (.ref C) name = some none)
    (h : ∀ h', Fr h₀ L h' m → News h₀ L h' ((x, accO C dx its k) :: (dx, dictOf [⟨PyData.keyHash w.params name, .str name s.toks, v⟩] 1) :: news) → R (.ok (.ret .none)) { s with heap := h', toks := s.toks + 1 }) :
    codeAny (model prog w) A (.call (.builtin "object.__setattr__") ⟨[.ref x, .str name tk, v], []⟩) R s := by
  have SF := PySem.F.store_object
  have I : InstAt s.heap x (accO C dx its k) C (some (dictOf [] 0)) := ⟨(N _ (.head _)).1, rfl, rfl, (N _ (.tail _ (.head _))).1⟩
  have hc : clsIn K C = some cd := by unfold clsIn; rw [hC]
  have sub : Looks (model prog w) s.heap (isInstance (.ref x) (.type "object")) true := I.type.andThen (looks_mroIn X (by unfold mroIn; rw [hc, Option.bind_some, hmro]; rfl))
  refine codeAny_call_builtin SF.slot.plain SF.entry (@check_slot (model prog w) _ _ s "object.__setattr__" "object" "__setattr__" (.ref x) [.str name tk, v] [] _ SF.kind SF.split sub (SF.args (.ref x) (.str name tk) v) ?_)
  have hm : Looks (model prog w) s.heap (mroOf (.ref C)) cd.mro := (looks_clsIn X hc).andThen .now
  rw [osa_eq, refuse_eq]
  refine wpAny_bind (wpAny_bind (I.type.here (wpAny_bind (hm.here ?_))))
  rw [hmro, refuseLoop_ref, refuse_list]
  refine wpAny_pure (wpAny_bind (I.type.here (wpAny_bind ((looks_findIn X hno).here (wpAny_bind ((show Looks (model prog w) s.heap (storeTaker? none) none from .now).here ?_))))))
  dsimp only
  obtain ⟨U1, U2⟩ := news_upd (pre := [(x, accO C dx its k)]) (f := Obj.putName name (PyData.keyHash w.params name) (.str name s.toks) v) F N (by simpa using hxd) hnd (putName_dict name _ _ v [] 0) rfl
  have D := (N (dx, dictOf [] 0) (by simp)).1
  have D' := (U2 (dx, dictOf (putL name (PyData.keyHash w.params name) (.str name s.toks) v []) (putN name [] 0)) (.tail _ (.head _))).1
  have hx := I.at_
  refine wpAny_bind (wpAny_pure (wpAny_bind (wpAny_bind (wpAny_loadPart hx (wpAny_bind ((looks_clsIn X hc).here ?_))))))
  rw [hhd]
  refine wpAny_pure (a := some dx) (wpAny_bind (wpAny_pure (wpAny_bind ?_)))
  unfold nsSet
  refine wpAny_bind (wpAny_bind (wpAny_askSetting (wpAny_pure (wpAny_bind (wpAny_mkText (wpAny_bind (wpAny_loadPart D ?_)))))))
  dsimp only
  rw [aRefKeyMayBeTheName_at]
  rw [if_neg (by simp)]
  refine wpAny_updatePart D ?_
  refine wpAny_bind (wpAny_lookBehind D' (pastItsLine_dict (by simp only [putL, List.size_toArray, List.length_cons, List.length_nil, sizeLine_eq]; lia)) ?_)
  exact wpAny_pure (h _ U1 U2)

theorem setattr_L {cd : ClassData} {oc : Value} {odc : Option Addr} {sl : Array (Option Value)} {its : Array Value} {k : Nat} {Q : Unit → Shared → Prop} (F : Fr h₀ L s.heap m) (X₀ : K.In h₀)
    (N : News h₀ L s.heap ((x, accO C dx its k) :: (dx, dictOf [] 0) :: news)) (hxd : x ≠ dx) (hnd : ∀ p ∈ news, p.1 ≠ dx)
    (hC : K.lookup C = some ⟨oc, odc, .cls cd, sl⟩) (hmro : cd.mro = [.ref C, .type "list", .type "object"]) (hhd : cd.hasDict = true) (hno : findIn K (.ref C) name = some none)
    (hs : findIn K (.ref C) "__setattr__" = some (some (.builtin "object.__setattr__")))
    (h : ∀ h' tk, Fr h₀ L h' m → News h₀ L h' ((x, accO C dx its k) :: (dx, dictOf [⟨PyData.keyHash w.params name, .str name tk, v⟩] 1) :: news) → Q () { s with heap := h', toks := s.toks + 2 }) :
    wpAny (model prog w) A (setAttr (.ref x) name v) Q E s :=
  set_plain (X₀.keeps F.keep) (⟨(N _ (.head _)).1, rfl, rfl, (N _ (.tail _ (.head _))).1⟩ : InstAt s.heap x (accO C dx its k) C (some (dictOf [] 0))) hs
    (osa_L (s := { s with toks := s.toks + 1 }) F (X₀.keeps F.keep) N hxd hnd hC hmro hhd hno fun h' F' N' => h h' _ F' N')

theorem li_plain : plainId "list.__init__" = true := by decide +kernel
theorem li_entry : entryFor table "list.__init__" = some Builtin.«list.__init__» := entryFor_of_tree (by kernel_rfl)

theorem init_body {h : Heap} {g : Array GenState} {d : Drawn} {t : Nat} {os : OsState} {n : Nat} {Q : Fin → Shared → Prop} (hl : h.get? x = some (accO C dx #[] n))
    (hq : Q (.done (.ret .none)) ⟨h.update x (Obj.mapSeq fun _ => #[]), g, d, t, os⟩) : wpAny (model prog w) A (Builtin.«list.__init__» ⟨[.ref x], []⟩) Q E ⟨h, g, d, t, os⟩ := by
  unfold Builtin.«list.__init__»
  wp_walk using (wpAny_updateSeq hl rfl (hz := by decide) (_hz' := by decide)), AutoSeq1.wpAny_loadPart' hl
  exact hq

theorem init_bound {q : Addr} {n : Nat} {Q : Value → Shared → Prop} (F : Fr h₀ L s.heap m) (N : News h₀ L s.heap news) (hq : (q, boundO "method-wrapper" "list.__init__" x) ∈ news)
    {news' : List (Addr × Obj)} (U : Upd x (accO C dx #[] n) (accO C dx #[] n) news news')
    (h : ∀ h', Fr h₀ L h' m → News h₀ L h' news' → Q .none { s with heap := h' }) : wpAny (model prog w) A (call (.ref q) []) Q E s := by
  have h1 := (N _ hq).1
  refine bound_call h1 (.inl rfl) check_init li_plain li_entry ?_
  obtain ⟨pre, post, rfl, rfl, a, b⟩ := U.split
  have z := N (x, accO C dx #[] n) (List.mem_append.mpr (.inr (.head _)))
  have ho := z.1
  obtain ⟨hh, g, d, t, os⟩ := s
  refine init_body ho ⟨_, rfl, ?_⟩
  have hs : Heap.SameBut x hh (hh.update x (Obj.mapSeq fun _ => #[])) := Heap.SameBut.update ..
  have ho' : (hh.update x (Obj.mapSeq fun _ => #[])).get? x = some (accO C dx #[] n) := by
    rw [Heap.get?_update_self _ ho rfl]
    rfl
  exact h _ (F.change hs z.2.1 z.2.2) (news_set N a b hs ho')
end

theorem neAllD {dx : Addr} {news : List (Addr × Obj)} (l : ∀ p ∈ news, p.1 < dx) : ∀ p ∈ news, p.1 ≠ dx := fun p hp => Nat.ne_of_lt (l p hp)
theorem neAll {x dx : Addr} {news : List (Addr × Obj)} (l : ∀ p ∈ news, p.1 < dx) (l2 : dx < x) : ∀ p ∈ news, p.1 ≠ x := fun p hp => Nat.ne_of_lt (Nat.lt_trans (l p hp) l2)
theorem ltNe {x dx : Addr} (l2 : dx < x) : dx ≠ x := Nat.ne_of_lt l2
end Mine
end
section
open PySem PySem.W PySem.Calls PyProof.Rows PySem.Spec
set_option Elab.async false
set_option maxRecDepth 100000
namespace Mine

def TextStep (h₀ : Heap) (L : Addr) (Jn : (Str → Option Value) → List (Addr × Obj) → Prop) (I : Addr) (io : Obj) (s₁ : Shared) (Q : Flow → Shared → Prop) (f : Flow) (s₂ : Shared) : Prop :=
  match f with
  | .ret v => Q (.ret v) s₂
  | .brk => Q .next s₂
  | _ => ∃ h' tk m' news', s₂ = { s₁ with heap := h', toks := tk } ∧ Fr h₀ L h' m' ∧ News h₀ L h' (news' ++ [(I, io)]) ∧ (∀ p ∈ news', p.1 ≠ I) ∧ Jn m' news'

section
variable {prog : Program} {w : World} {A : Around} {E : Value → Shared → Prop} {s : Shared} {env : Env} {h₀ : Heap} {x : Str} {body : List Stmt} {Q : Flow → Shared → Prop}

theorem text_loop {xt : Str} {tx : Tok} {m₀ : Str → Option Value} {news : List (Addr × Obj)} (J : List Nat → (Str → Option Value) → List (Addr × Obj) → Prop)
    (hh : A.handled = none) (ha : xt.cps.all (· < 128) = true) (F : Fr h₀ env.locals s.heap m₀) (N : News h₀ env.locals s.heap news) (hj : J [] m₀ news)
    (turn : ∀ (pre post : List Nat) (c : Nat) (u : Tok) (m₁ : Str → Option Value) (news₁ : List (Addr × Obj)) (h : Heap) (tk : Nat) (I : Addr) (io : Obj), xt.cps.toList = pre ++ c :: post → J pre m₁ news₁ → io.cls = .type "str_ascii_iterator" → (∀ p ∈ news₁, p.1 ≠ I) →
      Fr h₀ env.locals h (fun y => if y = x then some (.str ⟨#[c]⟩ u) else m₁ y) → News h₀ env.locals h (news₁ ++ [(I, io)]) →
      wpAny (model prog w) A (execs body env) (TextStep h₀ env.locals (J (pre ++ [c])) I io { s with heap := h, toks := tk } Q) E { s with heap := h, toks := tk })
    (done : ∀ (m₁ : Str → Option Value) (news₁ : List (Addr × Obj)) (h : Heap) (tk : Nat), J xt.cps.toList m₁ news₁ → Fr h₀ env.locals h m₁ → News h₀ env.locals h news₁ → Q .next { s with heap := h, toks := tk }) :
    wpAny (model prog w) A (pyIter (.str xt tx)) (fun it s₂ => LoopAtV prog w A h₀ env x body Q E it s₂) E s := by
  refine wpAny_pyIter_ascii ha ?_
  have W := Walks.strAscii (prog := prog) (w := w) hh s.heap.objs.size xt tx
  have hIn : ∀ p ∈ news, p.1 ∉ [s.heap.objs.size] := fun p hp hI => absurd (Heap.lt_size (N p hp).1) ((List.mem_singleton.mp hI) ▸ Nat.lt_irrefl _)
  refine ⟨s.heap.objs.size, [s.heap.objs.size], [s.heap.objs.size], _, _, _, m₀, news, fun i => J (xt.cps.toList.take i), rfl, W, ?_, ?_, hIn, ⟨_, Heap.get?_push_size _ rfl, rfl, rfl⟩, F.push _, (fun p hp => ⟨Heap.get?_push_of_some _ (N p hp).1, (N p hp).2⟩), by simpa using hj, ?_, ?_⟩
  · intro hm
    exact absurd F.ns.lt ((List.mem_singleton.mp hm) ▸ Nat.lt_irrefl _)
  · intro b' hb
    rw [List.mem_singleton.mp hb]
    exact next_is_new F
  · rintro i v m₁ news₁ s₁ own ⟨hh', tk', rfl⟩ hin ⟨c, u, hc, rfl⟩ hJ hoff hown hget hall ⟨io, hio, hcls, _⟩ F₁ N₁
    have hnI : h₀.get? s.heap.objs.size = none := next_is_new F
    have hmem : (s.heap.objs.size, io) ∈ own := hall _ (.head _) hnI io hio
    have hsub : ∀ p ∈ own, p = (s.heap.objs.size, io) := fun p hp => by
      have e1 : p.1 = s.heap.objs.size := List.mem_singleton.mp (hown p hp)
      have e2 := hget p hp
      rw [e1] at e2
      obtain ⟨a, o⟩ := p
      dsimp only at e1 e2
      subst e1
      have e3 := e2.symm.trans hio
      cases e3
      rfl
    have hc' : xt.cps.toList[i]? = some c := by simpa using hc
    have hs : xt.cps.toList.take (i + 1) = xt.cps.toList.take i ++ [c] := by simp [List.take_add_one, hc']
    have e : xt.cps.toList = xt.cps.toList.take i ++ c :: xt.cps.toList.drop (i + 1) := by
      have ht := List.take_append_drop (i + 1) xt.cps.toList
      rw [hs, List.append_assoc] at ht
      exact ht.symm
    have hoff' : ∀ p ∈ news₁, p.1 ≠ s.heap.objs.size := fun p hp e => hoff p hp (List.mem_singleton.mpr e)
    have N₂ : News h₀ env.locals hh' (news₁ ++ [(s.heap.objs.size, io)]) := fun p hp => (List.mem_append.mp hp).elim (fun h => N₁ p (List.mem_append_right _ h)) fun h => N₁ p (List.mem_append_left _ ((List.mem_singleton.mp h) ▸ hmem))
    refine wpAny_mono (turn _ _ c u m₁ news₁ hh' tk' _ io e hJ hcls hoff' F₁ N₂) (fun f s₂ p => ?_) fun _ _ e => e
    have fin : (∃ h' tk m' news', s₂ = ({ s with heap := h', toks := tk } : Shared) ∧ Fr h₀ env.locals h' m' ∧ News h₀ env.locals h' (news' ++ [(s.heap.objs.size, io)]) ∧ (∀ p ∈ news', p.1 ≠ s.heap.objs.size) ∧ J (xt.cps.toList.take i ++ [c]) m' news') →
        LoopStepU h₀ env.locals [s.heap.objs.size] own (J (xt.cps.toList.take (i + 1))) { s with heap := hh', toks := tk' } .next s₂ := by
      rintro ⟨h', tk, m', news', rfl, F', N', ho, hm⟩
      rw [hs]
      exact LoopStepU.intro F' (fun p hp => (List.mem_append.mp hp).elim (fun h => N' p (List.mem_append_right _ (by rw [hsub p h]; exact .head _))) fun h => N' p (List.mem_append_left _ h)) (fun p hp hI => ho p hp (List.mem_singleton.mp hI)) hm
    cases f with
    | ret v => exact .ret p
    | brk => exact .brk p
    | next => exact .next (fin p)
    | cont => exact .cont (fin p)
  · intro h' tk m' news' F' N' _ hJ
    refine done m' news' h' tk ?_ F' N'
    have hl : xt.cps.size = xt.cps.toList.length := by simp
    rw [hl, List.take_length] at hJ
    exact hJ

theorem allLt_out {d : Addr} : ∀ {l : List (Addr × Obj)}, AllLt d l → ∀ p ∈ l, p.1 < d
  | [], _, _, hp => nomatch hp
  | q :: _, h, p, hp => by
    rcases List.mem_cons.mp hp with rfl | hp
    · exact h.1
    · exact allLt_out h.2 p hp
end
abbrev tupO (vs : List Value) : Obj := { cls := .type "tuple", data := .seq vs.toArray }
theorem news_rot {h₀ h : Heap} {L t x d : Addr} {ot ox od : Obj} {l : List (Addr × Obj)} (N : News h₀ L h ((t, ot) :: (x, ox) :: (d, od) :: l)) : News h₀ L h ((x, ox) :: (d, od) :: (t, ot) :: l) := by
  intro p hp
  refine N p ?_
  simp only [List.mem_cons] at hp ⊢
  rcases hp with h | h | h | h
  · exact .inr (.inl h)
  · exact .inr (.inr (.inl h))
  · exact .inl h
  · exact .inr (.inr (.inr h))

def brk : List Nat := [40, 41, 91, 93, 123, 125]
def num (c : Nat) : Int := if c = 40 then 7 else if c = 41 then 8 else if c = 91 then 9 else if c = 93 then 10 else if c = 123 then 25 else 26
def mtP (a b : Nat) : Bool := (num a != num b) && ((num a + 1).fdiv 2 == (num b + 1).fdiv 2)
theorem fc_use {prog : Program} {w : World} {K : Frag} {p : Program} {loose : List Str} {mean : ExcName → Option Value} {mg mb : Str → Option Value} {f : Addr} {vs : List Value} {news : List (Addr × Obj)} {dn : Nat} {Post : Value → List (Addr × Obj) → Prop}
    {dp un : Nat} {gd : Option (List Code)} {cn : Str} {cs : Scope} {a : Addr} {ccd : Value} {cl : List (Str × Addr)} {outer : List Env} {A₀ : Around} {base h₀ : Heap} {L : Addr} {m : Str → Option Value} {s : Shared} {Q E : Value → Shared → Prop}
    (c : FC prog w K p loose mean mg mb f vs news dn Post) (B : Below A₀ base outer h₀) (F : Fr h₀ L s.heap m) (X : K.In h₀) (N : News h₀ L s.heap news) (T : Top p loose mean mg mb h₀) (hk : cs.kind = .function) (hd : dp + dn < recursionLimit) (hu : un + 8 * dn < cLine)
    (h : ∀ v news' h' tk', Fr h₀ L h' m → News h₀ L h' news' → Post v news' → Q v { s with heap := h', toks := tk' }) :
    wpAny (model prog w) (ktrTop dp un gd cn cs L a ccd cl outer) (call (.ref f) vs) Q E s := c _ _ _ _ _ _ _ _ _ _ _ _ _ _ _ _ _ B F X N T hk hd hu h

end Mine
end
section
open PySem PySem.W PySem.Calls PyProof.Rows PySem.Spec
set_option Elab.async false
set_option maxRecDepth 100000
namespace Mine

def SeqAt (h : Heap) (l : Addr) (items : Array Value) : Prop := ∃ o n, h.get? l = some o ∧ o.data = .seq items n
theorem SeqAt.at {h h' : Heap} {l : Addr} {items : Array Value} (x : SeqAt h l items) (hk : ∀ o, h.get? l = some o → h'.get? l = some o) : SeqAt h' l items :=
  let ⟨o, n, ho, hd⟩ := x; ⟨o, n, hk o ho, hd⟩

section
variable {prog : Program} {w : World} {A : Around} {E : Value → Shared → Prop} {s : Shared}

theorem next_item {it l : Addr} {i : Nat} {items : Array Value} {x : Value} {Q : Option Value → Shared → Prop} (hit : s.heap.IsListIter it l i)
    (hl : SeqAt s.heap l items) (hx : items[i]? = some x)
    (hQ : ∀ h', h'.IsListIter it l (i + 1) → Heap.SameBut it s.heap h' → Q (some x) { s with heap := h' }) :
    wpAny (model prog w) A (pyNext (.ref it)) Q E s := by
  obtain ⟨o, ho, hc, hd⟩ := id hit
  obtain ⟨ol, nl, hol, hdl⟩ := hl
  unfold pyNext
  refine wpAny_bind (wpAny_attempt (wpAny_callSpecial?_slot (name := Str.ofString "__next__") hit.typeIs slot_listiter_next
    (wpAny_call_entry slot_listiter_next hit.typeIs entry_listiter_next ?_ (args_listiter_next _))))
  show wpAny _ _ (field (.ref it) 0 >>= _) _ _ s
  refine wpAny_bind (wpAny_field ho hd (x := .ref l) rfl ?_)
  show wpAny _ _ (if (Value.ref l == Value.none) = true then _ else _) _ _ s
  rw [if_neg (show ¬ ((Value.ref l == Value.none) = true) from Bool.false_ne_true)]
  show wpAny _ _ (field (.ref it) 1 >>= _) _ _ s
  refine wpAny_bind (wpAny_field ho hd (x := .int i 0) rfl ?_)
  show wpAny _ _ (seqItems? (.ref l) >>= _) _ _ s
  refine wpAny_bind (wpAny_seqItems hol hdl ?_)
  simp only [Int.toNat_natCast, hx]
  refine wpAny_bind (wpAny_setField ho hd (by simp) (wpAny_pure ⟨x, rfl, wpAny_pure (hQ _ ?_ (Heap.SameBut.update ..))⟩))
  exact ⟨_, Heap.get?_update_self _ ho (Obj.isFreed_of_fields (Obj.data_mapFields hd _)), (Obj.cls_mapFields ..).trans hc, by
    rw [Obj.data_mapFields hd]; simp [rawInt]⟩

theorem next_end {it l : Addr} {i : Nat} {items : Array Value} {Q : Option Value → Shared → Prop} (hh : A.handled = none)
    (hit : s.heap.IsListIter it l i) (hl : SeqAt s.heap l items) (hx : items[i]? = none)
    (hQ : ∀ h', Heap.ExtBut it s.heap h' → Q none { s with heap := h' }) : wpAny (model prog w) A (pyNext (.ref it)) Q E s := by
  obtain ⟨o, ho, hc, hd⟩ := id hit
  obtain ⟨ol, nl, hol, hdl⟩ := hl
  unfold pyNext
  refine wpAny_bind (wpAny_attempt (wpAny_callSpecial?_slot (name := Str.ofString "__next__") hit.typeIs slot_listiter_next
    (wpAny_call_entry slot_listiter_next hit.typeIs entry_listiter_next ?_ (args_listiter_next _))))
  show wpAny _ _ (field (.ref it) 0 >>= _) _ _ s
  refine wpAny_bind (wpAny_field ho hd (x := .ref l) rfl ?_)
  show wpAny _ _ (if (Value.ref l == Value.none) = true then _ else _) _ _ s
  rw [if_neg (show ¬ ((Value.ref l == Value.none) = true) from Bool.false_ne_true)]
  show wpAny _ _ (field (.ref it) 1 >>= _) _ _ s
  refine wpAny_bind (wpAny_field ho hd (x := .int i 0) rfl ?_)
  show wpAny _ _ (seqItems? (.ref l) >>= _) _ _ s
  refine wpAny_bind (wpAny_seqItems hol hdl ?_)
  simp only [Int.toNat_natCast, hx]
  refine wpAny_bind (wpAny_rule (wpAny_bind (wpAny_setField ho hd (by simp) ?_)))
  show wpAny _ _ (newExc (.type "StopIteration") [] >>= _) _ _ _
  refine wpAny_bind ?_
  simp only [newExc, newTuple]
  refine wpAny_bind (wpAny_newObj_type ?_ (by size_fits))
  refine wpAny_bind (m := firstArgMember _ _) (wpAny_of_eq (a := Value.none) (by first | rfl | (simp only [firstArgMember]; rfl)) ?_)
  refine wpAny_newObj_type ?_ (by size_fits)
  simp only [raiseNew]
  refine wpAny_bind (wpAny_handled ?_)
  rw [show A.in1.handled = none from hh]
  refine wpAny_bind (wpAny_pure (wpAny_throw ?_))
  refine wpAny_bind (wpAny_isInstance (T := "StopIteration") (b := true) ⟨_, Heap.get?_push_size _ rfl, rfl⟩ isSubtype_stop ?_)
  exact wpAny_pure (hQ _ (((Heap.SameBut.update ..).extBut.push _).push _))
end

theorem accPairs {prog : Program} {w : World} {A : Around} (hh : A.handled = none) (I ax : Addr) (hne : ax ≠ I) (items : Array Value) (Ts : Nat → Addr) (vals : Nat → Array Value)
    (hit : ∀ j, j < items.size → items[j]? = some (.ref (Ts j))) (hTI : ∀ j, j < items.size → Ts j ≠ I) :
    WalksU prog w A I (I :: ax :: (List.range items.size).map Ts) [I] items.size (fun j v => j < items.size ∧ v = vals j)
      (fun j h => h.IsListIter I ax j ∧ SeqAt h ax items ∧ ∀ k, k < items.size → h.IsTuple (Ts k) (vals k))
      (fun j T h => (j < items.size ∧ T = Ts j) ∧ h.IsListIter I ax (j + 1) ∧ SeqAt h ax items ∧ ∀ k, k < items.size → h.IsTuple (Ts k) (vals k)) where
  sub := fun b hb => by simp at hb; simp [hb]
  frame := fun _ _ _ st hk => ⟨st.1.at fun o e => hk I (by simp) o e, st.2.1.at fun o e => hk ax (by simp) o e,
    fun k hk' => (st.2.2 k hk').at fun o e => hk (Ts k) (List.mem_cons_of_mem _ (List.mem_cons_of_mem _ (List.mem_map.mpr ⟨k, List.mem_range.mpr hk', rfl⟩))) o e⟩
  item := fun i s Q E hi st hQ => by
    refine next_item st.1 st.2.1 (x := .ref (Ts i)) (hit i hi) fun h' hit' hs' => ?_
    have tup : ∀ k, k < items.size → h'.IsTuple (Ts k) (vals k) := fun k hk' => (st.2.2 k hk').extBut hs'.extBut (hTI k hk')
    exact hQ (Ts i) (vals i) h' s.toks ⟨hi, rfl⟩ (tup i hi) ⟨⟨hi, rfl⟩, hit', st.2.1.at fun o e => hs'.extBut ax o hne e, tup⟩ fun b o hb e => hs'.extBut b o (fun h => hb (by simp [h])) e
  go := fun _ _ _ _ _ s Q _ hm hQ => wpAny_letOwnedTupleGo_listiter hm.2.1 (hQ s.heap hm.2 fun _ _ _ e => e)
  apart := fun j T _ hm hmem => by
    rcases List.mem_cons.mp hmem with e | e
    · exact hTI j hm.1.1 (hm.1.2 ▸ e)
    · cases e
  done := fun s Q E st hQ => next_end hh st.1 st.2.1 (by simp) fun h' he' => hQ h' s.toks fun b o hb e => he' b o (fun h => hb (by simp [h])) e
  self := fun _ _ _ _ st hQ => wpAny_pyIter_listiter st.1 hQ

section
variable {prog : Program} {w : World} {A : Around} {E : Value → Shared → Prop} {s : Shared} {K : Frag} {x C : Addr} {ox : Obj} {odx : Option Obj}
theorem kind_iter : (Manifest.find? "list").bind (·.attrs.lookup "__iter__") = some .slot ∨ (Manifest.find? "list").bind (·.attrs.lookup "__iter__") = some .method := by first | exact .inl (by decide +kernel) | exact .inr (by decide +kernel)
theorem iter_acc {Q : Value → Shared → Prop} (X : K.In s.heap) (I : InstAt s.heap x ox C odx) (hm : mroIn K C (.type "list") = some true) (hi : findIn K (.ref C) "__iter__" = some (some (.builtin "list.__iter__")))
    (hQ : Q (.ref s.heap.objs.size) { s with heap := s.heap.push { cls := .type "list_iterator", data := .fields #[.ref x, .int 0 0] } }) :
    wpAny (model prog w) A (pyIter (.ref x)) Q E s := by
  have hl := looks_findIn (M := model prog w) X hi
  have hT := I.type (M := model prog w)
  have sp : Looks (model prog w) s.heap (specialOf (.ref x) "__iter__") (some (.builtin "list.__iter__")) := hT.andThen hl
  unfold pyIter
  refine wpAny_bind (sp.here ?_)
  show wpAny _ _ (callSpecialIfBoundUnlessNone? (.ref x) "__iter__" _ >>= _) _ _ _
  unfold callSpecialIfBoundUnlessNone? bindSpecialIfBound?
  refine wpAny_bind (wpAny_holding (wpAny_bind (wpAny_bind (sp.here ?_))))
  dsimp only
  rw [slot_list_iter.bind]
  refine wpAny_bind (wpAny_askSetting ?_)
  have fin : wpAny (model prog w) A (call (.builtin "list.__iter__") [.ref x]) (fun it s' => it = .ref s.heap.objs.size ∧ s' = { s with heap := s.heap.push { cls := .type "list_iterator", data := .fields #[.ref x, .int 0 0] } }) E s := by
    refine sub_call X I hm (n := "__iter__") (by decide +kernel) kind_iter (by decide +kernel) entry_list_iter (args_list_iter _) ?_
    show wpAny _ _ (do ret (← newFields "list_iterator" [.ref x, rawInt 0])) _ _ s
    exact wpAny_bind (wpAny_newObj_type (wpAny_pure ⟨_, rfl, rfl, rfl⟩))
  have fin2 : wpAny (model prog w) A (do let v ← call (.builtin "list.__iter__") [.ref x]; pure (some v)) (fun a s' => a = some (.ref s.heap.objs.size) ∧ s' = { s with heap := s.heap.push { cls := .type "list_iterator", data := .fields #[.ref x, .int 0 0] } }) E s :=
    wpAny_bind (wpAny_mono fin (fun it s' h => wpAny_pure ⟨by rw [h.1], h.2⟩) fun _ _ z => z)
  have last : wpAny (model prog w) A (do
      let a ← specialOf (.ref s.heap.objs.size) (Str.ofString "__next__")
      match a with
        | none => do
          rule "iter.non-iterator"
          let n ← PySem.typeNameOf (.ref s.heap.objs.size)
          raiseErrorMade "TypeError" (toString "iter() returned non-iterator of type '" ++ toString n ++ toString "'")
        | some _ => pure (Value.ref s.heap.objs.size)) Q E { s with heap := s.heap.push { cls := .type "list_iterator", data := .fields #[.ref x, .int 0 0] } } := by
    refine wpAny_bind (wpAny_specialOf (T := "list_iterator") ⟨_, Heap.get?_push_size _ rfl, rfl⟩ slot_listiter_next.lookup ?_)
    exact wpAny_pure hQ
  split
  · refine wpAny_bind (wpAny_pure (wpAny_pure ?_))
    refine wpAny_mono fin2 (fun a s' h => ?_) fun _ _ z => z
    obtain ⟨rfl, rfl⟩ := h
    exact last
  · refine wpAny_tryCatch (wpAny_bind (wpAny_pure (wpAny_pure ?_)))
    refine wpAny_mono fin2 (fun a s' h => ?_) fun _ _ z => z
    obtain ⟨rfl, rfl⟩ := h
    exact last
end
end Mine
end
section
open PySem PySem.W PySem.Calls PyProof.Rows PySem.Spec
set_option Elab.async false
set_option maxRecDepth 100000
set_option maxHeartbeats 2000000
namespace Mine
abbrev tabO (vs : Array Value) : Obj := { cls := .none, data := .fields vs }

theorem isCode_of {h : Heap} {c P : Addr} {dd : Option Addr} {sl : Array (Option Value)} {vs ps : Array Value} {file : Str} {tf tg tt : Tok} {flags text : Int} {inF : Bool} (ho : h.get? c = some ⟨.type "code", dd, .fields vs, sl⟩) (h11 : vs[11]? = some (.ref P)) (h18 : vs[18]? = some (.str file tf))
    (h7 : vs[7]? = some (.int flags tg)) (h9 : vs[9]? = some (.bool inF)) (h10 : vs[10]? = some (.int text tt)) (hop : h.get? P = some (tabO ps)) (ht : TriplesOk ps.toList) (hne : c ≠ P) : h.IsCode c P ps ∧ h.TableAt c P ps :=
  ⟨⟨_, vs, file, tf, flags, tg, inF, text, tt, _, ho, rfl, by simp [Array.getD_eq_getD_getElem?, h11], by simp [Array.getD_eq_getD_getElem?, h18], by simp [Array.getD_eq_getD_getElem?, h7], by simp [Array.getD_eq_getD_getElem?, h9], by simp [Array.getD_eq_getD_getElem?, h10], hop, rfl, ht, hne⟩,
   ⟨_, vs, ho, rfl, rfl, h11⟩, hop⟩

def GenReady (prog : Program) (w : World) (A : Around) (h₀ : Heap) (L : Addr) (m : Str → Option Value) (news : List (Addr × Obj)) (n : Nat) (tx : Nat → Str) (a : Addr) (os : OsState) (s₅ : Shared) : Prop :=
  Fr h₀ L s₅.heap m ∧ News h₀ L s₅.heap news ∧ AllBare s₅.gens ∧ s₅.os = os ∧
  ∃ fp wr g St F, WalksS prog w A.in4 a fp wr (GenOnlyQ g) n F St ∧ St 0 s₅ ∧ (∀ i s', St i s' → s'.TypeIs (.ref a) "generator") ∧ a ∈ fp ∧ (∀ b ∈ fp, b < s₅.heap.objs.size) ∧
    (∀ b ∈ wr, h₀.get? b = none ∧ L ≠ b ∧ ∀ p ∈ news, p.1 ≠ b) ∧ ∀ j v, F j v → ∃ u, v = Value.str (tx j) u

section
variable {prog : Program} {w : World} {A : Around} {E : Value → Shared → Prop} {s : Shared} {K : Frag} {x d C cc P f L : Addr} {h₀ : Heap} {m mg mb : Str → Option Value} {p : Program} {loose : List Str} {mean : ExcName → Option Value} {tl : List (Addr × Obj)} {its : List Value} {n : Nat} {dd : Obj} {ps : Array Value}

theorem gen_acc {q : Str} {scope0 scope : Scope} {elt : Expr} {pa pb pt px pos : Pos} {kt : Nat} {cs : Nat → Nat} {cod : Option Addr} {vs : Array Value} {csl : Array (Option Value)} {file : Str} {tf tg tt : Tok} {flags text : Int} {inF : Bool} {Q : Value → Shared → Prop}
    (hh : A.handled = none) (hroom : A.depth < recursionLimit) (F : Fr h₀ L s.heap m) (X₀ : K.In h₀) (N : News h₀ L s.heap ((P, tabO ps) :: (x, accO C d its.toArray n) :: (d, dd) :: tl)) (G : AllBare s.gens) (T : Top p loose mean mg mb h₀)
    (hm : m (Str.ofString "self") = some (.ref x)) (hcc : K.lookup cc = some ⟨.type "code", cod, .fields vs, csl⟩) (h11 : vs[11]? = some (.ref P)) (h18 : vs[18]? = some (.str file tf)) (h7 : vs[7]? = some (.int flags tg)) (h9 : vs[9]? = some (.bool inF)) (h10 : vs[10]? = some (.int text tt))
    (hps : TriplesOk ps.toList) (hmro : mroIn K C (.type "list") = some true) (hit : findIn K (.ref C) "__iter__" = some (some (.builtin "list.__iter__")))
    (hPR : ∀ j, j < its.length → ∃ t u1 u2, its[j]? = some (Value.ref t) ∧ (t, tupO [.str ⟨#[32]⟩ u1, .str ⟨#[cs j]⟩ u2]) ∈ tl)
    (hnP : ∀ p ∈ (x, accO C d its.toArray n) :: (d, dd) :: tl, p.1 ≠ P)
    (hk0 : scope0.kind = .function) (hself : scope0.names.lookup (Str.ofString "self") = some .local)
    (hco : scope.isCoroutine = false) (hclos : closureFor scope (envX q scope0 L f (.ref cc) []) = pure []) (hcell : ∀ y ∈ scope.names, y.2 ≠ .cell) (hz : scope.names.lookup (".0" : Str) = some NameKind.local)
    (hxa : scope.names.lookup (Str.ofString "fws") = some .local) (hxb : scope.names.lookup (Str.ofString "part") = some .local) (hkind : scope.kind = .function)
    (hel : ∀ (Cg : Addr) (code : Value) (A' : Around) E' (sa sb : Str) (ta tb : Tok) (s₂ : Shared) m₂, A'.handled = none → s₂.heap.Ns Cg m₂ → m₂ (Str.ofString "fws") = some (.str sa ta) → m₂ (Str.ofString "part") = some (.str sb tb) → s₂.heap.Ns mainGlobals mg → sa.length ≤ 1 → sb.length ≤ 1 →
      wpAny (model prog w) A' (eval elt (genEnv scope [] Cg code builtinsNs (envX q scope0 L f (.ref cc) []))) (fun y s₃ => (∃ t, y = .str (sa ++ sb) t) ∧ Keeps s₂ s₃) E' s₂)
    (hQ : ∀ a s₅ ps', TriplesOk ps'.toList → GenReady prog w A h₀ L m ((P, tabO ps') :: (x, accO C d its.toArray n) :: (d, dd) :: tl) its.length (fun j => ⟨#[32, cs j]⟩) a s.os s₅ → Q (.ref a) s₅) :
    wpAny (model prog w) A (eval (.GeneratorExp elt [⟨.Tuple [.Name (Str.ofString "fws") pa, .Name (Str.ofString "part") pb] kt pt, .Name (Str.ofString "self") px, [], 0⟩] scope pos) (envX q scope0 L f (.ref cc) [])) Q E s := by
  have X : K.In s.heap := X₀.keeps F.keep
  have I0 : InstAt s.heap x (accO C d its.toArray n) C (some dd) := ⟨(N _ (.tail _ (.head _))).1, rfl, rfl, (N _ (.tail _ (.tail _ (.head _)))).1⟩
  have hPn : h₀.get? P = none := (N _ (.head _)).2.2
  have hcP : cc ≠ P := by
    rintro rfl
    rw [X₀ _ _ hcc] at hPn
    cases hPn
  refine wpAny_GeneratorExp_walksQT hh hco hclos hcell hz hxa hxb (by decide +kernel) hkind hroom ?_ (fun _ => rfl)
  refine nameX_L F hm ?_ hk0 hself
  refine iter_acc X I0 hmro hit ?_
  have hlim : (s.heap.push { cls := .type "list_iterator", data := .fields #[.ref x, .int 0 0] }).NoLimit := (T.nolimit.keeps F.keep).push _
  refine ⟨hlim, ?_⟩
  have fin : ∀ (code : Value) (h₃ : Heap) (tk₃ : Nat) (ps' : Array Value), Heap.ExtBut P (s.heap.push { cls := .type "list_iterator", data := .fields #[.ref x, .int 0 0] }) h₃ → s.heap.objs.size + 1 ≤ h₃.objs.size → h₃.get? P = some (tabO ps') → TriplesOk ps'.toList →
      wpAny (model prog w) A (builtinsFor mainGlobals builtinsNs) (fun bi s₄ =>
        ∃ I fp wr n₀ Pt St₀ Mid pz F, Value.ref s.heap.objs.size = .ref I ∧ (∀ A' : Around, A'.handled = none → WalksU prog w A' I fp wr n₀ Pt St₀ Mid) ∧ (∀ i vals, Pt i vals → ∃ va vb, vals = #[va, vb]) ∧ St₀ 0 s₄.heap ∧ (∀ b ∈ fp, b < s₄.heap.objs.size) ∧ s₄.heap.NoLimit ∧ cStatics ∉ wr ∧
          (∀ href : Heap, (∀ b o, s₄.heap.get? b = some o → href.get? b = some o) →
            QuietGenT prog w (genEnv scope [] s₄.heap.objs.size code bi (envX q scope0 L f (.ref cc) [])) (Str.ofString "fws") (Str.ofString "part") [] elt (List.range s₄.heap.objs.size) wr Pt pz F href) ∧
          (∀ a h₅ tk gs, gs.bare = true → s₄.heap.objs.size < a → h₅.objs.size = a + 1 → (∀ b o, s₄.heap.get? b = some o → h₅.get? b = some o) →
            WalksS prog w A.in4 a (a :: s₄.heap.objs.size :: List.range s₄.heap.objs.size) (s₄.heap.objs.size :: wr) (GenOnlyQ s₄.gens.size) (passing pz n₀ 0).length
              (fun j y => ∃ i, (passing pz n₀ 0)[j]? = some i ∧ F i y) (GenAt prog w A.in4 a s₄.gens.size s₄.heap.objs.size (List.range s₄.heap.objs.size) wr pz n₀ F) →
            GenAt prog w A.in4 a s₄.gens.size s₄.heap.objs.size (List.range s₄.heap.objs.size) wr pz n₀ F 0 { s₄ with gens := s₄.gens.push gs, toks := tk, heap := h₅ } →
            Q (.ref a) { s₄ with gens := s₄.gens.push gs, toks := tk, heap := h₅ })) E
        { s with heap := h₃, toks := tk₃ } := by
    intro code h₃ tk₃ ps' hx₃ hsz₃ hP₃ hps'
    obtain ⟨bm, ob, hb1, hb2, hb3, hb4, hb5, hb6⟩ := T.bmain
    have nP : ∀ b o, h₀.get? b = some o → b ≠ P := fun b o e z => by rw [z, hPn] at e; cases e
    have up₃ : ∀ b o, b ≠ P → s.heap.get? b = some o → h₃.get? b = some o := fun b o hb e => hx₃ b o hb (Heap.get?_push_of_some _ e)
    have keep₃ : ∀ b o, h₀.get? b = some o → h₃.get? b = some o := fun b o e => up₃ b o (nP b o e) (F.keep b o e)
    refine wpAny_builtinsFor (T.g.keeps keep₃) hb1 hb2 (keep₃ _ _ hb3) hb4 hb5 hb6 ?_
    obtain ⟨Ts, U, V, hTs⟩ : ∃ (Ts : Nat → Addr) (U V : Nat → Tok), ∀ j, j < its.length → its[j]? = some (Value.ref (Ts j)) ∧ (Ts j, tupO [.str ⟨#[32]⟩ (U j), .str ⟨#[cs j]⟩ (V j)]) ∈ tl := by
      refine ⟨fun j => if h : j < its.length then (hPR j h).choose else 0, fun j => if h : j < its.length then (hPR j h).choose_spec.choose else 0, fun j => if h : j < its.length then (hPR j h).choose_spec.choose_spec.choose else 0, fun j hj => ?_⟩
      simp only [dif_pos hj]
      exact (hPR j hj).choose_spec.choose_spec.choose_spec
    have lt₀ : ∀ b o, s.heap.get? b = some o → b < s.heap.objs.size := fun b o e => Heap.lt_size e
    have hxI : x ≠ s.heap.objs.size := Nat.ne_of_lt (lt₀ _ _ I0.at_)
    have hPI : s.heap.objs.size ≠ P := Ne.symm (Nat.ne_of_lt (lt₀ _ _ (N _ (.head _)).1))
    have hTat : ∀ j, j < its.length → s.heap.get? (Ts j) = some (tupO [.str ⟨#[32]⟩ (U j), .str ⟨#[cs j]⟩ (V j)]) ∧ Ts j ≠ P := fun j hj => ⟨(N _ (.tail _ (.tail _ (.tail _ (hTs j hj).2)))).1, hnP _ (.tail _ (.tail _ (hTs j hj).2))⟩
    have hI₃ : h₃.get? s.heap.objs.size = some { cls := .type "list_iterator", data := .fields #[.ref x, .int 0 0] } := hx₃ _ _ hPI (Heap.get?_push_size _ rfl)
    have hcst : cStatics < s.heap.objs.size := by
      obtain ⟨mc, hns, _⟩ := T.nolimit.keeps F.keep
      exact hns.lt
    have hgl : mainGlobals < s.heap.objs.size := (T.g.keeps F.keep).lt
    have hsz' : s.heap.objs.size < h₃.objs.size := hsz₃
    refine ⟨s.heap.objs.size, s.heap.objs.size :: x :: (List.range its.toArray.size).map Ts, [s.heap.objs.size], its.toArray.size, _, _, _, fun _ => true, fun j y => ∃ t, y = Value.str (⟨#[32]⟩ ++ ⟨#[cs j]⟩) t, rfl,
      fun A' hA => accPairs hA s.heap.objs.size x hxI its.toArray Ts (fun j => #[.str ⟨#[32]⟩ (U j), .str ⟨#[cs j]⟩ (V j)]) (fun j hj => by simpa using (hTs j (by simpa using hj)).1) (fun j hj => Nat.ne_of_lt (lt₀ _ _ (hTat j (by simpa using hj)).1)), ?_, ?_, ?_, ?_, ?_, ?_, ?_⟩
    · rintro i vals ⟨_, rfl⟩
      exact ⟨_, _, rfl⟩
    · exact ⟨⟨_, hI₃, rfl, rfl⟩, ⟨_, _, up₃ _ _ (hnP _ (.head _)) I0.at_, rfl⟩, fun k hk => ⟨_, up₃ _ _ (hTat k (by simpa using hk)).2 (hTat k (by simpa using hk)).1, rfl, _, rfl⟩⟩
    · intro b hb
      simp only [List.mem_cons, List.mem_map, List.mem_range] at hb
      rcases hb with rfl | rfl | ⟨k, hk, rfl⟩
      · exact hsz'
      · exact Nat.lt_trans (lt₀ _ _ I0.at_) hsz'
      · exact Nat.lt_trans (lt₀ _ _ (hTat k (by simpa using hk)).1) hsz'
    · exact T.nolimit.keeps keep₃
    · intro hmem
      rw [List.mem_singleton.mp hmem] at hcst
      exact Nat.lt_irrefl _ hcst
    · intro href hhref
      refine ⟨fun A' E' i va vb s₂ m₂ _ _ _ _ _ _ => wpAny_pure ⟨rfl, s₂.heap, s₂.toks, rfl, fun _ _ e => e⟩, fun A' E' i va vb s₂ m₂ hA hPt _ hns ha hb hkp => ?_⟩
      obtain ⟨_, hv⟩ := hPt
      have e1 : va = .str ⟨#[32]⟩ (U i) := by
        have := congrArg (fun a : Array Value => a[0]?) hv
        simpa using this
      have e2 : vb = .str ⟨#[cs i]⟩ (V i) := by
        have := congrArg (fun a : Array Value => a[1]?) hv
        simpa using this
      subst e1 e2
      refine wpAny_mono (hel _ code A' E' _ _ _ _ s₂ m₂ hA hns ha hb ?_ (Nat.le_refl _) (Nat.le_refl _)) (fun y s₃ h => h) fun _ _ z => z
      refine (T.g.keeps keep₃).at' fun o e => hkp mainGlobals (List.mem_range.mpr (Nat.lt_trans hgl hsz')) (fun hmem => ?_) o (hhref _ _ e)
      rw [List.mem_singleton.mp hmem] at hgl
      exact Nat.lt_irrefl _ hgl
    · intro a h₅ tk gs hgb hag hsz₅ hk₅ W hat
      have hpass : passing (fun _ => true) its.toArray.size 0 = List.range its.length := by simp [passing]
      rw [hpass] at W
      have hlen : (List.range its.length).length = its.length := List.length_range
      rw [hlen] at W
      have up₅ : ∀ b o, b ≠ P → s.heap.get? b = some o → h₅.get? b = some o := fun b o hb e => hk₅ b o (up₃ b o hb e)
      have hLP : L ≠ P := Ne.symm (N _ (.head _)).2.1
      refine hQ a _ ps' hps' ⟨⟨F.ns.at' fun o e => up₅ L o hLP e, fun b o e => up₅ b o (nP b o e) (F.keep b o e), F.above⟩, ?_, G.push hgb, rfl, _, _, _, _, _, W, hat, (fun i s' st => st.1.typeIs), List.mem_cons_self, ?_, ?_, ?_⟩
      · intro q hq
        rcases List.mem_cons.mp hq with rfl | hq
        · exact ⟨hk₅ _ _ hP₃, (N _ (.head _)).2⟩
        · exact ⟨up₅ _ _ (hnP q hq) (N _ (.tail _ hq)).1, (N _ (.tail _ hq)).2⟩
      · intro b hb
        show b < h₅.objs.size
        rw [hsz₅]
        simp only [List.mem_cons, List.mem_range] at hb
        rcases hb with rfl | rfl | hb
        · exact Nat.lt_succ_self _
        · exact Nat.lt_succ_of_lt hag
        · exact Nat.lt_succ_of_lt (Nat.lt_trans hb hag)
      · have big : ∀ b, s.heap.objs.size ≤ b → h₀.get? b = none ∧ L ≠ b ∧ ∀ q ∈ (P, tabO ps') :: (x, accO C d its.toArray n) :: (d, dd) :: tl, q.1 ≠ b := by
          intro b hb
          have hLs : L < s.heap.objs.size := F.ns.lt
          refine ⟨Heap.get?_none_of_le (Nat.le_trans (Nat.le_of_lt (Nat.lt_of_le_of_lt F.above hLs)) hb), Nat.ne_of_lt (Nat.lt_of_lt_of_le hLs hb), fun q hq => ?_⟩
          rcases List.mem_cons.mp hq with rfl | hq
          · exact Nat.ne_of_lt (Nat.lt_of_lt_of_le (lt₀ _ _ (N _ (.head _)).1) hb)
          · exact Nat.ne_of_lt (Nat.lt_of_lt_of_le (lt₀ _ _ (N _ (.tail _ hq)).1) hb)
        intro b hb
        simp only [List.mem_cons, List.not_mem_nil, or_false] at hb
        rcases hb with rfl | rfl
        · exact big _ (Nat.le_of_lt hsz')
        · exact big _ (Nat.le_refl _)
      · rintro j v ⟨i, hi, t, rfl⟩
        have : i = j := by
          rw [List.getElem?_eq_some_iff] at hi
          obtain ⟨hl, e⟩ := hi
          simp at e
          exact e.symm
        subst this
        exact ⟨t, rfl⟩
  cases hf : codeAmong pos ps.toList with
  | some c' =>
    obtain ⟨hI, hT⟩ := isCode_of (X _ _ hcc) h11 h18 h7 h9 h10 (N _ (.head _)).1 hps hcP
    refine wpAny_genexprCode_hit rfl (hI.push _) hf ?_
    exact fin _ _ _ ps (fun _ _ _ e => e) (by rw [Heap.size_push]; exact Nat.le_refl _) (Heap.get?_push_of_some _ (N _ (.head _)).1) hps
  | none =>
    obtain ⟨hI, hT⟩ := isCode_of (X _ _ hcc) h11 h18 h7 h9 h10 (N _ (.head _)).1 hps hcP
    refine wpAny_genexprCodeX rfl (hI.push _) (hT.push _) hf fun c' h₃ tk₃ hx₃ hge hlt hcode₃ _ htab₃ _ => ?_
    refine fin _ h₃ tk₃ _ hx₃ ?_ htab₃.2 ?_
    · have : (s.heap.push { cls := .type "list_iterator", data := .fields #[.ref x, .int 0 0] }).objs.size ≤ h₃.objs.size := Nat.le_trans hge (Nat.le_of_lt hlt)
      rwa [Heap.size_push] at this
    · obtain ⟨_, _, _, _, _, _, _, _, _, op, _, _, _, _, _, _, _, hop, hpd, htr, _⟩ := hcode₃
      exact htr
end
end Mine
end
section
open PySem PySem.W PySem.Calls PyProof.Rows PySem.Spec
set_option Elab.async false
set_option maxRecDepth 100000
set_option maxHeartbeats 2000000
namespace Mine

theorem join_two (a b : Str) : Txt.join (Str.ofString "") [a, b] = a ++ b := by
  rw [show Txt.join (Str.ofString "") [a, b] = Str.join (Str.ofString "") [a, b] from StrLaws.glued_eq_join _ _]
  show a ++ Str.ofString "" ++ b = a ++ b
  rw [show Str.ofString "" = Str.empty from by decide +kernel]
  refine Str.ext' ?_
  simp [Str.cps_append, Str.empty]

section
variable {prog : Program} {w : World} {A : Around} {E : Value → Shared → Prop} {s : Shared} {env : Env} {mg : Str → Option Value} {Cg : Addr} {m₂ : Str → Option Value}

theorem el_join {p1 p2 p3 p4 p5 p6 : Pos} {k : Nat} {sa sb : Str} {ta tb te : Tok} (hC : env.locals = Cg) (hn : s.heap.Ns Cg m₂) (ha : m₂ (Str.ofString "fws") = some (.str sa ta)) (hb : m₂ (Str.ofString "part") = some (.str sb tb))
    (hG : s.heap.Ns mainGlobals mg) (hg : env.globals = mainGlobals) (hE : mg (Str.ofString "EMPTYSTRING") = some (.str (Str.ofString "") te)) (hk : env.scope.kind = .function) (h1 : env.kindOf (Str.ofString "EMPTYSTRING") = some .globalImplicit)
    (h2 : env.kindOf (Str.ofString "fws") = some .local) (h3 : env.kindOf (Str.ofString "part") = some .local) (hla : sa.length ≤ 1) (hlb : sb.length ≤ 1)
    (he : eval (.Call (.Attribute (.Name (Str.ofString "EMPTYSTRING") p1) (Str.ofString "join") p2) [.Tuple [.Name (Str.ofString "fws") p3, .Name (Str.ofString "part") p4] k p5] [] p6) env = (do
      let ov ← eval (.Name (Str.ofString "EMPTYSTRING") p1) env
      standAt p2.atName
      let (f, first) ← holding [ov] (getMethod ov (Str.ofString "join") (do return (← importBound (.Name (Str.ofString "EMPTYSTRING") p1) env).getD true))
      callWith p6 f first (backTo p6 (starEach [.Tuple [.Name (Str.ofString "fws") p3, .Name (Str.ofString "part") p4] k p5] env)) [])) :
    wpAny (model prog w) A (eval (.Call (.Attribute (.Name (Str.ofString "EMPTYSTRING") p1) (Str.ofString "join") p2) [.Tuple [.Name (Str.ofString "fws") p3, .Name (Str.ofString "part") p4] k p5] [] p6) env)
      (fun y s₃ => (∃ t, y = .str (sa ++ sb) t) ∧ Keeps s s₃) E s := by
  subst hC
  have hG' : s.heap.Ns env.globals mg := by rw [hg]; exact hG
  refine MethodCall_ ?_ he
  refine Name_function_global hk h1 (loadGlobal_global hG' hE ?_)
  refine GM.join ?_
  refine callWith_method1 ?_
  refine spliced_more (Tuple_ (spliced_more ?_))
  refine wpAny_Name (wpAny_loadName_local hk h2 hn ha ?_)
  refine spliced_more ?_
  refine wpAny_Name (wpAny_loadName_local hk h3 hn hb ?_)
  refine spliced_none ?_
  refine wpAny_newObj_type ?_ (by size_fits)
  refine spliced_none ?_
  refine join_tuple (items := #[.str sa ta, .str sb tb]) (ys := [sa, sb]) ⟨_, Heap.get?_push_size _ rfl, rfl, _, rfl⟩ (.cons _ _ (.cons _ _ .nil)) ?_ fun t' k => ?_
  · have : (Str.ofString "").length = 0 := by decide +kernel
    simp only [List.map_cons, List.map_nil, List.sum_cons, List.sum_nil, List.length_cons, List.length_nil, this]
    lia
  · refine ⟨⟨t', by rw [join_two]⟩, _, _, rfl, fun b o e => Heap.get?_push_of_some _ e⟩
end

section
variable {prog : Program} {w : World} {A : Around} {E : Value → Shared → Prop} {s : Shared} {h₀ : Heap} {L a : Addr} {m : Str → Option Value} {news : List (Addr × Obj)} {n : Nat} {tx : Nat → Str} {os : OsState}
theorem join_ready {sep : Str} {t : Tok} {Q : Value → Shared → Prop} (R : GenReady prog w A h₀ L m news n tx a os s) (hok : JoinOk sep ((List.range n).map tx) = true) (hsz : n ≤ sizeLine)
    (hQ : ∀ s' t', Fr h₀ L s'.heap m → News h₀ L s'.heap news → AllBare s'.gens → s'.os = os → Q (.str (Txt.join sep ((List.range n).map tx)) t') s') :
    wpAny (model prog w) A (call (.builtin "str.join") [.str sep t, .ref a]) Q E s := by
  obtain ⟨F, N, G, ho, fp, wr, g, St, P, W, hst, hT, ha, hfp, hwr, htx⟩ := R
  have W := W.in4_2
  refine SC.joinGen W hT hst hfp ha (fun j v hv => let ⟨u, e⟩ := htx j v hv; ⟨_, u, e⟩) (fun s' lt hm hacc => ?_) hsz
  have hl : lt.map (·.1) = (List.range n).map tx := by
    apply List.ext_getElem?
    intro j
    have hsz : lt.length = n := by simpa [strValues] using hacc.1
    by_cases hj : j < n
    · have hj' : j < lt.length := hsz ▸ hj
      obtain ⟨u, hv⟩ := htx j _ (hacc.2 j (.str lt[j].1 lt[j].2) (by simp [strValues, List.getElem?_eq_getElem hj']))
      injection hv with h1 _
      simp [List.getElem?_eq_getElem hj', hj, h1]
    · rw [List.getElem?_eq_none (by simpa [hsz] using Nat.le_of_not_lt hj), List.getElem?_eq_none (by simpa using Nat.le_of_not_lt hj)]
  rw [hl]
  have hLw : L ∉ wr := fun h => (hwr L h).2.1 rfl
  have f1 : Fr h₀ L s'.heap m := ⟨F.ns.at' fun o e => hm.heap L o hLw e, fun b o e => hm.heap b o (fun h => by rw [(hwr b h).1] at e; cases e) (F.keep b o e), F.above⟩
  have n1 : News h₀ L s'.heap news := fun p hp => ⟨hm.heap _ _ (fun h => (hwr _ h).2.2 p hp rfl) (N p hp).1, (N p hp).2⟩
  have g1 := G.movedS hm
  have o1 : s'.os = os := hm.os.trans ho
  exact ⟨hok, fun t' k => hQ { s' with toks := k } t' f1 n1 g1 o1⟩
end

/-- a contract of a def that may run a generator -/
def FG (prog : Program) (w : World) (K : Frag) (p : Program) (loose : List Str) (mean : ExcName → Option Value) (mg mb : Str → Option Value) (f : Addr) (vs : List Value)
    (news : List (Addr × Obj)) (dn : Nat) (Post : Value → List (Addr × Obj) → Prop) : Prop :=
  ∀ (dp un : Nat) (gd : Option (List Code)) (cn : Str) (cs : Scope) (a : Addr) (ccd : Value) (cl : List (Str × Addr)) (outer : List Env) (A₀ : Around) (base h₀ : Heap) (L : Addr) (m : Str → Option Value) (s : Shared) (Q E : Value → Shared → Prop),
    Below A₀ base outer h₀ → Fr h₀ L s.heap m → K.In h₀ → News h₀ L s.heap news → Top p loose mean mg mb h₀ → cs.kind = .function → dp + dn < recursionLimit → un + 8 * dn < cLine → AllBare s.gens →
    (∀ v news' s', Fr h₀ L s'.heap m → News h₀ L s'.heap news' → AllBare s'.gens → s'.os = s.os → Post v news' → Q v s') →
    wpAny (model prog w) (ktrTop dp un gd cn cs L a ccd cl outer) (call (.ref f) vs) Q E s
theorem fg_use {prog : Program} {w : World} {K : Frag} {p : Program} {loose : List Str} {mean : ExcName → Option Value} {mg mb : Str → Option Value} {f : Addr} {vs : List Value} {news : List (Addr × Obj)} {dn : Nat} {Post : Value → List (Addr × Obj) → Prop}
    {dp un : Nat} {gd : Option (List Code)} {cn : Str} {cs : Scope} {a : Addr} {ccd : Value} {cl : List (Str × Addr)} {outer : List Env} {A₀ : Around} {base h₀ : Heap} {L : Addr} {m : Str → Option Value} {s : Shared} {Q E : Value → Shared → Prop}
    (c : FG prog w K p loose mean mg mb f vs news dn Post) (B : Below A₀ base outer h₀) (F : Fr h₀ L s.heap m) (X : K.In h₀) (N : News h₀ L s.heap news) (T : Top p loose mean mg mb h₀) (hk : cs.kind = .function) (hd : dp + dn < recursionLimit) (hu : un + 8 * dn < cLine) (G : AllBare s.gens)
    (h : ∀ v news' s', Fr h₀ L s'.heap m → News h₀ L s'.heap news' → AllBare s'.gens → s'.os = s.os → Post v news' → Q v s') :
    wpAny (model prog w) (ktrTop dp un gd cn cs L a ccd cl outer) (call (.ref f) vs) Q E s := c _ _ _ _ _ _ _ _ _ _ _ _ _ _ _ _ _ B F X N T hk hd hu G h
theorem fg_ret {h₀ : Heap} {L : Addr} {m : Str → Option Value} {s s' : Shared} {Q : Value → Shared → Prop} {Post : Value → List (Addr × Obj) → Prop} {v : Value} {news' : List (Addr × Obj)}
    (hret : ∀ v news' s', Fr h₀ L s'.heap m → News h₀ L s'.heap news' → AllBare s'.gens → s'.os = s.os → Post v news' → Q v s') (F : Fr h₀ L s'.heap m) (N : News h₀ L s'.heap news') (G : AllBare s'.gens) (ho : s'.os = s.os) (hp : Post v news') : Q v s' := hret v news' s' F N G ho hp
end Mine
end
section
open PySem PySem.W PySem.Calls PyProof.Rows PySem.Spec PySem.Builtin PySem.Builtin.Str
set_option Elab.async false
set_option maxRecDepth 100000
set_option maxHeartbeats 2000000
namespace Mine
abbrev tS (l : List Nat) : Str := ⟨l.toArray⟩
def sl2 (x : Str) (i k : Int) : Str := ⟨((strSliceIndices (some i) none k x.length).filterMap (x.cps[·]?)).toArray⟩

section
variable {prog : Program} {w : World} {A : Around} {E : Value → Shared → Prop} {s : Shared} {value slice : Expr} {x : Str} {t : Tok} {h₀ : Heap} {L : Addr} {m : Str → Option Value} {news : List (Addr × Obj)} {Q : Value → Shared → Prop}
theorem slice_strN_step {i k : Int} {ui uk : Tok} (hF : Fr h₀ L s.heap m) (hN : News h₀ L s.heap news) (h : ∀ h' t' k', Fr h₀ L h' m → News h₀ L h' news → Q (.str (sl2 x i k) t') { s with heap := h', toks := k' })
    (h0 : (k == 0) = false) (h1 : (k == 1) = false) (hsz : (sl2 x i k).length ≤ sizeLine)
    (hs : subscripted slice false (.str x t) (.ref s.heap.objs.size) = operate [.ref s.heap.objs.size, .str x t] (getItem (.str x t) (.ref s.heap.objs.size)) := by with_unfolding_all rfl)
    (ht : ∀ r, letTemporaryGo value (.str x t) r = pure () := by intro _; with_unfolding_all rfl) :
    wpAny (model prog w) A (subscriptTail value slice (.str x t) (.ref s.heap.objs.size)) Q E { s with heap := s.heap.push { cls := .type "slice", data := .fields #[.int i ui, .none, .int k uk] } } := by
  refine tail_of_ItemOn (s := { s with heap := s.heap.push _ }) ⟨"str", _, F.slot_str_getitem.lookup, typeIs_str _ _ _, wpAny_getItem_str_slice (l := some (i, ui)) (u := none) (st := some (k, uk)) ⟨_, Heap.get?_push_size _ rfl, rfl, rfl⟩ h0 ?_⟩ hs ht
  unfold sliceMade
  show (if (k == 1 && _) = true then Made.val _ else Made.str (sl2 x i k)).post Q _
  rw [h1, Bool.false_and, if_neg (by decide)]
  have a := keptFrN s.heap { cls := .type "slice", data := .fields #[.int i ui, .none, .int k uk] } ⟨hF, hN⟩
  exact ⟨hsz, h _ _ _ a.1 a.2⟩
end

theorem join_flat : ∀ (l : List Str), Txt.join (Str.ofString "") l = tS (l.flatMap fun p => p.cps.toList) := by
  intro l
  rw [show Txt.join (Str.ofString "") l = Str.join (Str.ofString "") l from StrLaws.glued_eq_join _ _]
  rw [show Str.ofString "" = Str.empty from by decide +kernel]
  induction l with
  | nil => rfl
  | cons x l ih =>
    cases l with
    | nil => refine Str.ext' ?_; simp [Str.join]
    | cons y r =>
      rw [show Str.join Str.empty (x :: y :: r) = x ++ Str.empty ++ Str.join Str.empty (y :: r) from rfl, ih]
      refine Str.ext' ?_
      simp [Str.cps_append, Str.empty]

theorem idx2 (n : Nat) : strSliceIndices (some 1) none 2 (2 * n) = (List.range n).map fun k => 1 + 2 * k := by
  unfold strSliceIndices sliceRange
  simp only [show (2 : Int) > 0 by decide, if_true, show ¬ (1 : Int) < 0 by decide, if_false]
  rcases Nat.eq_zero_or_pos n with rfl | hn
  · rfl
  have e1 : max 0 (min (1 : Int) ((2 * n : Nat) : Int)) = 1 := by lia
  rw [e1, if_pos (by lia)]
  have e2 : ((((2 * n : Nat) : Int) - 1 + 2 - 1) / 2).toNat = n := by lia
  rw [e2]
  apply List.map_congr_left
  intro k hk
  lia

theorem pairs_get (cs : Nat → Nat) : ∀ (n k : Nat), k < n → ((List.range n).flatMap fun j => [32, cs j])[1 + 2 * k]? = some (cs k)
  | 0, k, h => absurd h (Nat.not_lt_zero _)
  | n + 1, k, h => by
    rw [List.range_succ, List.flatMap_append]
    have hl : ∀ m, ((List.range m).flatMap fun j => [32, cs j]).length = 2 * m := by
      intro m
      induction m with
      | zero => rfl
      | succ m ih => rw [List.range_succ, List.flatMap_append, List.length_append, ih]; simp; lia
    by_cases hk : k < n
    · rw [List.getElem?_append_left (by rw [hl]; lia)]
      exact pairs_get cs n k hk
    · obtain rfl : k = n := by lia
      rw [List.getElem?_append_right (by rw [hl]; lia), hl]
      simp [show 1 + 2 * k - 2 * k = 1 by lia]

theorem sl2_pairs (cs : Nat → Nat) (n : Nat) : sl2 (tS ((List.range n).flatMap fun j => [32, cs j])) 1 2 = tS ((List.range n).map cs) := by
  have hl : ∀ m, ((List.range m).flatMap fun j => [32, cs j]).length = 2 * m := by
    intro m
    induction m with
    | zero => rfl
    | succ m ih => rw [List.range_succ, List.flatMap_append, List.length_append, ih]; simp; lia
  unfold sl2
  rw [show (tS ((List.range n).flatMap fun j => [32, cs j])).length = 2 * n from by simp only [Str.length, List.size_toArray, hl], idx2]
  refine congrArg tS ?_
  rw [List.filterMap_map]
  have fm : ∀ (l : List Nat) (f : Nat → Option Nat), (∀ k ∈ l, f k = some (cs k)) → l.filterMap f = l.map cs := by
    intro l f h
    induction l with
    | nil => rfl
    | cons a l ih => rw [List.filterMap_cons, h a (.head _), ih fun k hk => h k (.tail _ hk)]; rfl
  refine fm _ _ fun k hk => ?_
  simp only [Function.comp_apply, List.getElem?_toArray]
  exact pairs_get cs n k (List.mem_range.mp hk)

theorem sl2_join (cs : Nat → Nat) (n : Nat) : sl2 (Txt.join (Str.ofString "") ((List.range n).map fun j => ⟨#[32, cs j]⟩)) 1 2 = tS ((List.range n).map cs) := by
  rw [join_flat, List.flatMap_map]
  exact sl2_pairs cs n
theorem range_getD (l : List Nat) : (List.range l.length).map (fun j => l.getD j 0) = l := by
  apply List.ext_getElem?
  intro i
  by_cases h : i < l.length
  · simp [h]
  · simp [h]
end Mine
end
section
open PySem PySem.W PySem.Calls PyProof.Rows PySem.Spec PySem.Builtin PySem.Builtin.Str
set_option Elab.async false
set_option maxRecDepth 100000
set_option maxHeartbeats 2000000
namespace Mine
theorem tS_len (l : List Nat) : (tS l).length = l.length := by simp [Str.length]
def ringF : Nat → List Nat → List Nat
  | 0, l => l
  | f + 1, l => if 1 < l.length ∧ mtP (l.headD 0) (l.getLastD 0) = true then ringF f l.tail.dropLast else l
def ringS (l : List Nat) : List Nat := ringF l.length l
theorem ringF_nil : ∀ f, ringF f [] = []
  | 0 => rfl
  | f + 1 => by unfold ringF; simp
theorem ringF_more : ∀ (k f : Nat) (l : List Nat), f ≤ k → l.length ≤ f → ringF f l = ringF l.length l := by
  intro k
  induction k with
  | zero =>
    intro f l h1 h2
    rw [show f = l.length by lia]
  | succ k ih =>
    intro f l h1 h2
    cases f with
    | zero => rw [show l.length = 0 by lia]
    | succ f =>
      cases hn : l.length with
      | zero =>
        have : l = [] := List.eq_nil_of_length_eq_zero hn
        subst this
        rw [ringF_nil, ringF_nil]
      | succ n =>
        have h3 : l.tail.dropLast.length = n - 1 := by simp [hn]
        unfold ringF
        split
        · rw [ih f _ (by lia) (by lia), ih n _ (by lia) (by lia)]
        · rfl
theorem lastD (a b : Nat) (l : List Nat) : (a :: (l ++ [b])).getLastD 0 = b := by
  rw [← List.cons_append, List.getLastD_concat]
theorem ringS_turn {a b : Nat} {l : List Nat} (h : mtP a b = true) : ringS (a :: (l ++ [b])) = ringS l := by
  unfold ringS
  rw [List.length_cons]
  rw [ringF]
  rw [if_pos ⟨by simp, by rw [lastD]; exact h⟩]
  simp only [List.tail_cons, List.dropLast_concat]
  exact ringF_more _ _ _ (Nat.le_refl _) (by simp)
theorem ringS_stop {a b : Nat} {l : List Nat} (h : mtP a b = false) : ringS (a :: (l ++ [b])) = a :: (l ++ [b]) := by
  unfold ringS
  rw [List.length_cons]
  rw [ringF]
  rw [if_neg]
  rintro ⟨_, h2⟩
  rw [lastD] at h2
  have h3 : mtP a b = true := h2
  rw [h] at h3
  cases h3
theorem ringS_one (a : Nat) : ringS [a] = [a] := rfl
theorem ends_cases (l : List Nat) : l = [] ∨ (∃ a, l = [a]) ∨ ∃ a mid b, l = a :: (mid ++ [b]) := by
  match l with
  | [] => exact .inl rfl
  | [a] => exact .inr (.inl ⟨a, rfl⟩)
  | a :: b :: r => exact .inr (.inr ⟨a, (b :: r).dropLast, (b :: r).getLast (by simp), by rw [List.dropLast_concat_getLast]⟩)
theorem item0 (a : Nat) (l : List Nat) : Txt.item (tS (a :: l)) 0 = ⟨#[a]⟩ := item_meets (by decide) (by simp)
theorem itemL (a b : Nat) (l : List Nat) : Txt.item (tS (a :: (l ++ [b]))) (-1) = ⟨#[b]⟩ := by
  rw [show tS (a :: (l ++ [b])) = tS (a :: l) ++ ⟨([] ++ [b]).toArray⟩ from Str.ext' (by simp [Str.cps_append])]
  exact item_last_right (tS (a :: l)) [] b
theorem slice_mid (a b : Nat) (l : List Nat) : Txt.slice (tS (a :: (l ++ [b]))) (some 1) (some (-1)) = tS l := by
  have hx : strSliceIndices (some 1) (some (-1)) 1 (tS (a :: (l ++ [b]))).length = (List.range l.length).map fun k => 1 + k := by
    rw [tS_len, List.length_cons, List.length_append, List.length_singleton]
    unfold strSliceIndices sliceRange
    simp only [show (1 : Int) > 0 by decide, if_true, show ¬ (1 : Int) < 0 by decide, if_false, show (-1 : Int) < 0 by decide]
    have e1 : max 0 (min (1 : Int) ((l.length + 1 + 1 : Nat) : Int)) = 1 := by lia
    have e2 : max 0 (min (-1 + ((l.length + 1 + 1 : Nat) : Int)) ((l.length + 1 + 1 : Nat) : Int)) = l.length + 1 := by lia
    rw [e1, e2]
    split
    · rw [show (((l.length : Int) + 1 - 1 + 1 - 1) / 1).toNat = l.length by lia]
      apply List.map_congr_left
      intro k hk
      lia
    · rw [show l.length = 0 by lia]
      rfl
  unfold Txt.slice
  rw [hx, if_neg]
  · refine congrArg tS ?_
    rw [List.filterMap_map]
    have fm : ∀ (r : List Nat) (f g : Nat → Option Nat), (∀ k ∈ r, f k = g k) → r.filterMap f = r.filterMap g := by
      intro r f g h
      induction r with
      | nil => rfl
      | cons c r ih => rw [List.filterMap_cons, List.filterMap_cons, h c (.head _), ih fun k hk => h k (.tail _ hk)]
    rw [fm _ _ (fun k => l[k]?) ?_]
    · have : ∀ (l : List Nat), (List.range l.length).filterMap (fun k => l[k]?) = l := by
        intro l
        induction l with
        | nil => rfl
        | cons c l ih => rw [List.length_cons, List.range_succ_eq_map, List.filterMap_cons]; simp [List.filterMap_map, Function.comp_def, ih]
      exact this l
    · intro k hk
      simp only [Function.comp_apply, List.getElem?_toArray]
      have hk' := List.mem_range.mp hk
      rw [show 1 + k = k + 1 by lia, List.getElem?_cons_succ, List.getElem?_append_left hk']
  · rw [tS_len]
    simp
    lia
theorem len_e0 : (tS []).length = 0 := rfl
theorem len_e1 (a : Nat) : (tS [a]).length = 1 := rfl
theorem len_e2 (a b : Nat) (l : List Nat) : (tS (a :: (l ++ [b]))).length = l.length + 2 := by rw [tS_len]; simp
section
variable {prog : Program} {w : World} {A : Around} {E : Value → Shared → Prop} {s : Shared} {value slice : PySem.Expr} {t u : Tok} {a b : Nat} {l : List Nat} {Q : Value → Shared → Prop}
theorem item_first (h : Q (.str ⟨#[a]⟩ s.toks) { s with toks := s.toks + 1 })
    (hs : subscripted slice false (.str (tS (a :: l)) t) (.int 0 u) = operate [.str (tS (a :: l)) t, .int 0 u] (getItem (.str (tS (a :: l)) t) (.int 0 u)) := by with_unfolding_all rfl)
    (ht : ∀ r, letTemporaryGo value (.str (tS (a :: l)) t) r = pure () := by intro _; with_unfolding_all rfl) :
    wpAny (model prog w) A (subscriptTail value slice (.str (tS (a :: l)) t) (.int 0 u)) Q E s := by
  refine item_str (fitsSsize_of (N := 9223372036854775808) (by decide) (by decide) (Int.le_refl _)) ?_ ?_ (fun e => ?_) hs ht
  · rw [tS_len]; simp; lia
  · rw [tS_len]; simp
  · rw [item0]; exact h
theorem item_last (h : Q (.str ⟨#[b]⟩ s.toks) { s with toks := s.toks + 1 })
    (hs : subscripted slice false (.str (tS (a :: (l ++ [b]))) t) (.int (-1) u) = operate [.str (tS (a :: (l ++ [b]))) t, .int (-1) u] (getItem (.str (tS (a :: (l ++ [b]))) t) (.int (-1) u)) := by with_unfolding_all rfl)
    (ht : ∀ r, letTemporaryGo value (.str (tS (a :: (l ++ [b]))) t) r = pure () := by intro _; with_unfolding_all rfl) :
    wpAny (model prog w) A (subscriptTail value slice (.str (tS (a :: (l ++ [b]))) t) (.int (-1) u)) Q E s := by
  refine item_str (fitsSsize_of (N := 9223372036854775808) (by decide) (by decide) (Int.le_refl _)) ?_ ?_ (fun e => ?_) hs ht
  · rw [tS_len]; simp; lia
  · rw [tS_len]; simp; lia
  · rw [itemL]; exact h
end
end Mine
end
section
open PySem PySem.W PySem.Calls PyProof.Rows PySem.Spec PySem.Builtin PySem.Builtin.Str
set_option Elab.async false
set_option maxRecDepth 100000
set_option maxHeartbeats 2000000
namespace Mine
inductive RelL {α : Type} (R : α → Value → Prop) : List α → List Value → Prop
  | nil : RelL R [] []
  | cons {a : α} {as : List α} {v : Value} {vs : List Value} : R a v → RelL R as vs → RelL R (a :: as) (v :: vs)
theorem RelL.snoc {α : Type} {R : α → Value → Prop} {a : α} {v : Value} (h : R a v) : ∀ {as : List α} {vs : List Value}, RelL R as vs → RelL R (as ++ [a]) (vs ++ [v])
  | _, _, .nil => .cons h .nil
  | _, _, .cons k r => .cons k (r.snoc h)
theorem RelL.length {α : Type} {R : α → Value → Prop} : ∀ {as : List α} {vs : List Value}, RelL R as vs → vs.length = as.length
  | _, _, .nil => rfl
  | _, _, .cons _ r => by simp [r.length]

section
variable {prog : Program} {w : World} {A : Around} {h₀ : Heap} {L : Addr} {m : Str → Option Value} {env : Env} {elt : Expr} {x : Str} {scope : Scope} {cl : List (Str × Addr)} {s : Shared} {S : List (Addr × Obj) → Prop} {P : Nat → Value → Prop} {Fin : List Value → List (Addr × Obj) → Prop} {news : List (Addr × Obj)}

theorem rest_rel {α : Type} (as : List α) (isv : α → Value → Prop) (R : α → Value → Prop) (hP : ∀ i v, P i v → ∃ a, as[i]? = some a ∧ isv a v)
    (turn : ∀ a v I oI C oC D m₂ ys h tk (E' : Value → Shared → Prop), a ∈ as → isv a v → LCg.NsObj oC m₂ → m₂ x = some v → Fr h₀ L h m → News h₀ L h ((I, oI) :: (C, oC) :: (D, LCg.lst ys) :: news) → LCg.Off3 I C D news → ((@Ne Nat I C) ∧ (@Ne Nat I D) ∧ (@Ne Nat C D)) →
      wpAny (model prog w) A (eval elt (compEnvC scope cl C env)) (LCg.CompEnd h₀ L m { s with heap := h, toks := tk } I oI C oC D (LCg.lst ys) S (fun y news' => news' = news ∧ R a y)) E' { s with heap := h, toks := tk })
    (fin : ∀ ys, RelL R as ys → Fin ys news) : LCg.CompRest prog w A h₀ L m env elt x scope cl s S P Fin as.length 0 [] news := by
  have key : ∀ (j i : Nat) (ys : List Value), i + j = as.length → RelL R (as.take i) ys → LCg.CompRest prog w A h₀ L m env elt x scope cl s S P Fin j i ys news := by
    intro j
    induction j with
    | zero =>
      intro i ys hi hy
      have e : i = as.length := by lia
      subst e
      rw [List.take_length] at hy
      exact LCg.CompRest.zero (fin ys hy)
    | succ j ih =>
      intro i ys hi hy
      refine LCg.CompRest.succ ?_
      intro v I oI C oC D m₂ h tk E' hv hC hx F N off ne
      obtain ⟨a, ha, hav⟩ := hP i v hv
      refine wpAny_mono (turn a v I oI C oC D m₂ ys h tk E' (List.mem_of_getElem? ha) hav hC hx F N off ne) (fun y s₂ hq => ?_) fun _ _ e => e
      obtain ⟨h', tk', nw, e, F', N', off', hS, hn, hy'⟩ := hq
      rw [hn] at N' off' hS
      refine ⟨h', tk', news, e, F', N', off', hS, ih (i + 1) _ (by lia) ?_⟩
      rw [List.take_add_one, ha]
      exact hy.snoc hy'
  exact key _ 0 [] (by lia) (by rw [List.take_zero]; exact .nil)
end

section
variable {prog : Program} {w : World} {A : Around} {E : Value → Shared → Prop} {s : Shared} {h₀ : Heap} {L : Addr} {m : Str → Option Value} {env : Env}
def SrcAny (prog : Program) (w : World) (A : Around) (h₀ : Heap) (L : Addr) (m : Str → Option Value) (env : Env) (elt : Expr) (x : Str) (scope : Scope) (cl : List (Str × Addr)) (Fin : Shared → List Value → List (Addr × Obj) → Prop) (it : Value) (s₂ : Shared) : Prop :=
  ∃ (I : Addr) (n : Nat) (P : Nat → Value → Prop) (St : Nat → Heap → Prop) (news : List (Addr × Obj)), it = .ref I ∧ Walks prog w A I [I] [I] n P St ∧ n ≤ sizeLine ∧ (∀ i h, St i h → ∃ o, h.get? I = some o) ∧ St 0 s₂.heap ∧ I < s₂.heap.objs.size ∧ Fr h₀ L s₂.heap m ∧ News h₀ L s₂.heap news ∧
    L ≠ I ∧ h₀.get? I = none ∧ (∀ p ∈ news, p.1 ≠ I) ∧ LCg.CompRest prog w A h₀ L m env elt x scope cl s₂ (fun _ => True) P (Fin s₂) n 0 [] news

theorem ListComp_any {elt iter : Expr} {x : Str} {px : Pos} {scope : Scope} {cl : List (Str × Addr)} {pos : Pos} {Q : Value → Shared → Prop} (_F₀ : Fr h₀ L s.heap m)
    (hclos : closureFor scope env = pure cl) (hcell : ∀ y ∈ scope.names, y.2 ≠ .cell) (hkind : scope.kind = .function)
    (hnames : ∀ y ∈ scope.names, y.2 = .local → scope.names.lookup y.1 = some .local) (hx : scope.names.lookup x = some .local)
    (h : wpAny (model prog w) A (eval iter env) (fun xv s₁ => wpAny (model prog w) A (pyIter xv) (SrcAny prog w A h₀ L m env elt x scope cl (fun s₂ => LCg.FinE h₀ L m s₂ Q)) E s₁) E s)
    (hs : ∀ x, foldedSetIterable iter env x = pure x := by intro _; rfl) :
    wpAny (model prog w) A (eval (.ListComp elt [⟨.Name x px, iter, [], 0⟩] scope pos) env) Q E s := by
  rw [eval_ListComp]
  refine wpAny_comprehension_free (use := none) rfl hs hclos hkind hnames (wpAny_mono h (fun xv s₁ h₁ => wpAny_mono h₁ (fun it s₂ h₂ => ?_) fun _ _ e => e) fun _ _ e => e)
  obtain ⟨I, n, P, St, news, rfl, W, hsz, hIo, hst, hI, F, N, hLI, hI₀, off, R⟩ := h₂
  refine LCg.block_U W hsz hIo (fun i h h' o nw st e e' _ _ _ => W.frame i h h' st fun b hb o' e'' => ?_) hcell hkind hx hst (fun b hb => ?_) F N hLI hI₀ off trivial R ?_
  · rw [List.mem_singleton.mp hb] at e'' ⊢
    rw [e] at e''
    cases e''
    exact e'
  · rw [List.mem_singleton.mp hb]; exact hI
  · intro D C h tk m' ys news' F' N' o1 hn hC₀ hD₀ hCL hDL hCD offC fin
    refine ⟨m', hn, fun h'' hs'' => fin D h'' tk (F'.change hs'' hCL hC₀) (fun p hp => ?_) o1⟩
    refine ⟨hs''.extBut _ _ ?_ (N' p hp).1, (N' p hp).2⟩
    rcases List.mem_cons.mp hp with rfl | hp
    · exact Ne.symm hCD
    · exact offC p hp

theorem src_text {elt : Expr} {x : Str} {scope : Scope} {cl : List (Str × Addr)} {Fin : Shared → List Value → List (Addr × Obj) → Prop} {xt : Str} {t : Tok} {news : List (Addr × Obj)} (R : Nat → Value → Prop)
    (hh : A.handled = none) (ha : xt.cps.all (· < 128) = true) (hsz : xt.cps.size ≤ sizeLine) (F : Fr h₀ L s.heap m) (N : News h₀ L s.heap news)
    (turn : ∀ s' (c : Nat) (u : Tok) I oI C oC D m₂ ys h tk (E' : Value → Shared → Prop), (∃ g, s' = { s with heap := g }) → c ∈ xt.cps.toList → LCg.NsObj oC m₂ → m₂ x = some (.str ⟨#[c]⟩ u) → Fr h₀ L h m → News h₀ L h ((I, oI) :: (C, oC) :: (D, LCg.lst ys) :: news) → LCg.Off3 I C D news → ((@Ne Nat I C) ∧ (@Ne Nat I D) ∧ (@Ne Nat C D)) →
      wpAny (model prog w) A (eval elt (compEnvC scope cl C env)) (LCg.CompEnd h₀ L m { s' with heap := h, toks := tk } I oI C oC D (LCg.lst ys) (fun _ => True) (fun y news' => news' = news ∧ R c y)) E' { s' with heap := h, toks := tk })
    (fin : ∀ s' ys, (∃ g, s' = { s with heap := g }) → RelL R xt.cps.toList ys → Fin s' ys news) :
    wpAny (model prog w) A (pyIter (.str xt t)) (SrcAny prog w A h₀ L m env elt x scope cl Fin) E s := by
  refine wpAny_pyIter_ascii ha ?_
  refine ⟨s.heap.objs.size, xt.cps.size, _, _, news, rfl, Walks.strAscii hh _ xt t, hsz, (fun i h st => let ⟨o, e, _⟩ := st; ⟨o, e⟩), ⟨_, Heap.get?_push_size _ rfl, rfl, rfl⟩, ?_, F.push _, fun p hp => ⟨Heap.get?_push_of_some _ (N p hp).1, (N p hp).2⟩, Nat.ne_of_lt F.ns.lt, next_is_new F, (fun p hp => Nat.ne_of_lt (Heap.lt_size (N p hp).1)), ?_⟩
  · show s.heap.objs.size < (s.heap.push _).objs.size
    rw [Heap.size_push]; exact Nat.lt_succ_self _
  · have := rest_rel (prog := prog) (w := w) (A := A) (h₀ := h₀) (L := L) (m := m) (env := env) (elt := elt) (x := x) (scope := scope) (cl := cl) (s := { s with heap := s.heap.push { cls := .type "str_ascii_iterator", data := .fields #[.str xt t, .int 0 0] } }) (S := fun _ => True) (P := SignAt xt) (Fin := Fin { s with heap := s.heap.push { cls := .type "str_ascii_iterator", data := .fields #[.str xt t, .int 0 0] } }) (news := news)
      xt.cps.toList (fun c v => ∃ u, v = .str ⟨#[c]⟩ u) R (fun i v ⟨c, u, h1, h2⟩ => ⟨c, by simpa using h1, u, h2⟩) (fun a v I oI C oC D m₂ ys h tk E' hm ⟨u, hv⟩ hC hx => by subst hv; exact turn _ a u I oI C oC D m₂ ys h tk E' ⟨_, rfl⟩ hm hC hx) (fun ys hy => fin _ ys ⟨_, rfl⟩ hy)
    simpa using this

theorem src_bytes {elt : Expr} {x : Str} {scope : Scope} {cl : List (Str × Addr)} {Fin : Shared → List Value → List (Addr × Obj) → Prop} {b : Array UInt8} {t : Tok} {news : List (Addr × Obj)} (R : UInt8 → Value → Prop)
    (hh : A.handled = none) (hsz : b.size ≤ sizeLine) (F : Fr h₀ L s.heap m) (N : News h₀ L s.heap news)
    (turn : ∀ s' (c : UInt8) (u : Tok) I oI C oC D m₂ ys h tk (E' : Value → Shared → Prop), (∃ g, s' = { s with heap := g }) → c ∈ b.toList → LCg.NsObj oC m₂ → m₂ x = some (.int (c.toNat : Int) u) → Fr h₀ L h m → News h₀ L h ((I, oI) :: (C, oC) :: (D, LCg.lst ys) :: news) → LCg.Off3 I C D news → ((@Ne Nat I C) ∧ (@Ne Nat I D) ∧ (@Ne Nat C D)) →
      wpAny (model prog w) A (eval elt (compEnvC scope cl C env)) (LCg.CompEnd h₀ L m { s' with heap := h, toks := tk } I oI C oC D (LCg.lst ys) (fun _ => True) (fun y news' => news' = news ∧ R c y)) E' { s' with heap := h, toks := tk })
    (fin : ∀ s' ys, (∃ g, s' = { s with heap := g }) → RelL R b.toList ys → Fin s' ys news) :
    wpAny (model prog w) A (pyIter (.bytes b t)) (SrcAny prog w A h₀ L m env elt x scope cl Fin) E s := by
  refine KBw.pyIter_bytes ?_
  refine ⟨s.heap.objs.size, b.size, _, _, news, rfl, KBw.walks hh _ b t, hsz, (fun i h st => let ⟨o, e, _⟩ := st; ⟨o, e⟩), ⟨_, Heap.get?_push_size _ rfl, rfl, rfl⟩, ?_, F.push _, fun p hp => ⟨Heap.get?_push_of_some _ (N p hp).1, (N p hp).2⟩, Nat.ne_of_lt F.ns.lt, next_is_new F, (fun p hp => Nat.ne_of_lt (Heap.lt_size (N p hp).1)), ?_⟩
  · show s.heap.objs.size < (s.heap.push _).objs.size
    rw [Heap.size_push]; exact Nat.lt_succ_self _
  · have := rest_rel (prog := prog) (w := w) (A := A) (h₀ := h₀) (L := L) (m := m) (env := env) (elt := elt) (x := x) (scope := scope) (cl := cl) (s := { s with heap := s.heap.push { cls := .type "bytes_iterator", data := .fields #[.bytes b t, .int 0 0] } }) (S := fun _ => True) (P := fun i v => ∃ c u, b[i]? = some c ∧ v = .int (c.toNat : Int) u) (Fin := Fin { s with heap := s.heap.push { cls := .type "bytes_iterator", data := .fields #[.bytes b t, .int 0 0] } }) (news := news)
      b.toList (fun c v => ∃ u, v = .int (c.toNat : Int) u) R (fun i v ⟨c, u, h1, h2⟩ => ⟨c, by simpa using h1, u, h2⟩) (fun a v I oI C oC D m₂ ys h tk E' hm ⟨u, hv⟩ hC hx => by subst hv; exact turn _ a u I oI C oC D m₂ ys h tk E' ⟨_, rfl⟩ hm hC hx) (fun ys hy => fin _ ys ⟨_, rfl⟩ hy)
    simpa using this
end
end Mine
end
section
open PySem PySem.W PySem.Calls PyProof.Rows PySem.Spec
set_option Elab.async false
set_option maxRecDepth 100000
set_option maxHeartbeats 2000000
namespace Mine
/-- a code that holds a buffer while it decodes: none of these is ever under way in the law -/
def isDec : Code → Bool
  | .builtin id _ => Builtin.Bytes.decodersThatHold.contains id || guardIds.contains id
  | _ => false
def NoD (Γ : PySem.Ctx) : Prop := isDec Γ.code = false ∧ ∀ x ∈ Γ.below, isDec x.1 = false
def wpJ {α : Type} (M : Model) (A : Around) (t : Sem α) (Q : α → Shared → Prop) (E : Value → Shared → Prop) (s : Shared) : Prop :=
  ∀ Γ p, Γ.In A → NoD Γ → Sem.wp M Γ t (fun a _ s' => Q a s') (fun e _ s' => E e s') p s
def codeJ (M : Model) (A : Around) (c : Code) (R : Result → Shared → Prop) (s : Shared) : Prop :=
  ∀ Γ p, Γ.code = c → Γ.Below A → NoD Γ → wpCode M Γ R p s

section
variable {α β : Type} {M : Model} {A : Around} {E : Value → Shared → Prop} {s : Shared}
theorem wpJ_any {t : Sem α} {Q : α → Shared → Prop} (h : wpAny M A t Q E s) : wpJ M A t Q E s := fun Γ p a _ => h Γ p a
theorem codeJ_any {c : Code} {R : Result → Shared → Prop} (h : codeAny M A c R s) : codeJ M A c R s := fun Γ p a b _ => h Γ p a b
theorem wpJ_mono {t : Sem α} {Q Q' : α → Shared → Prop} {E' : Value → Shared → Prop} (h : wpJ M A t Q E s) (hQ : ∀ a s, Q a s → Q' a s) (hE : ∀ e s, E e s → E' e s) : wpJ M A t Q' E' s :=
  fun Γ p a b => Sem.wp_mono M Γ t (fun a _ s => hQ a s) (fun e _ s => hE e s) p s (h Γ p a b)
theorem wpJ_bind {m : Sem α} {f : α → Sem β} {Q : β → Shared → Prop} (h : wpJ M A m (fun a s' => wpJ M A (f a) Q E s') E s) : wpJ M A (m >>= f) Q E s := fun Γ p a b => by
  rw [Sem.wp_bind']
  exact Sem.wp_mono M Γ m (fun x p' s' h' => h' Γ p' a b) (fun _ _ _ h' => h') p s (h Γ p a b)
theorem wpJ_bindA {m : Sem α} {f : α → Sem β} {Q : β → Shared → Prop} (h : wpAny M A m (fun a s' => wpJ M A (f a) Q E s') E s) : wpJ M A (m >>= f) Q E s := wpJ_bind (wpJ_any h)
theorem wpJ_bindK {m : Sem α} {f : α → Sem β} {Q : β → Shared → Prop} (h : wpJ M A m (fun a s' => wpAny M A (f a) Q E s') E s) : wpJ M A (m >>= f) Q E s := wpJ_bind (wpJ_mono h (fun _ _ x => wpJ_any x) fun _ _ x => x)
theorem wpJ_pure {a : α} {Q : α → Shared → Prop} (h : Q a s) : wpJ M A (pure a) Q E s := fun _ _ _ _ => h
theorem wpJ_standAt {pos : Pos} {f : Unit → Sem β} {Q : β → Shared → Prop} (h : wpJ M A (f ()) Q E s) : wpJ M A (standAt pos >>= f) Q E s := wpJ_bindA (wpAny_standAt h)
theorem wpJ_holding {vs : List Value} {m : Sem α} {Q : α → Shared → Prop} (h : wpJ M A m Q E s) : wpJ M A (holding vs m) Q E s := fun Γ p a b => by rw [Sem.wp_holding]; exact h Γ p a b
theorem wpJ_keep {vs : List Value} {m : Sem α} {Q : α → Shared → Prop} (h : wpJ M A m Q E s) : wpJ M A (m.keep vs) Q E s := fun Γ p a b => by rw [Sem.wp_keep]; exact h Γ p a b
theorem wpJ_onRaise {m : Sem α} {k : Value → Sem Unit} {Q : α → Shared → Prop} (h : wpJ M A m Q (fun e s' => wpAny M A (k e) (fun _ s'' => E e s'') E s') s) : wpJ M A (m.onRaise k) Q E s := fun Γ p a b => by
  rw [Sem.wp_onRaise]
  exact Sem.wp_mono M Γ m (fun _ _ _ h' => h') (fun e p' s' h' => h' Γ p' a) p s (h Γ p a b)
theorem wpJ_of_in1 {t : Sem α} {Q : α → Shared → Prop} (h : wpJ M A.in1 t Q E s) : wpJ M A t Q E s :=
  fun Γ p hΓ b => h Γ p ⟨hΓ.1, hΓ.2.1, hΓ.2.2.1, hΓ.2.2.2.1, Nat.le_succ_of_le hΓ.2.2.2.2⟩ b
theorem codeJ_mono {c : Code} {R R' : Result → Shared → Prop} (h : codeJ M A c R s) (hR : ∀ r s, R r s → R' r s) : codeJ M A c R' s := fun Γ p hc hΓ b => wpCode_mono hR (h Γ p hc hΓ b)
theorem NoD.enter {Γ : PySem.Ctx} (n : NoD Γ) {c : Code} (hc : isDec c = false) (h : Option Value) (p : Pos) : NoD (Γ.enter c h p) := by
  refine ⟨hc, fun x hx => ?_⟩
  rcases List.mem_cons.mp hx with rfl | hx
  · exact n.1
  · exact n.2 x hx
theorem wpJ_run {c : Code} {h : Option Value} {Q : Flow → Shared → Prop} (hd : isDec c = false)
    (hc : codeJ M (A.mark h) c (fun r s' => match r with | .ok f => Q f s' | .error e => E e s') s) (hnb : h ≠ some byPass := by intro x; cases x) : wpJ M A (run c h) Q E s :=
  fun Γ p hΓ b => by rw [Sem.wp_run]; exact hc _ p rfl (hΓ.enter c h p hnb) (b.enter hd h p)
theorem wpJ_call {f : Value} {pos : List Value} {kw : List (Str × Value)} {Q : Value → Shared → Prop}
    (hc : codeJ M A (.call f ⟨pos, kw⟩) (fun r s' => match r with | .ok (.ret v) => Q v s' | .ok _ => False | .error e => E e s') s) : wpJ M A (call f pos kw) Q E s := fun Γ p hΓ b => by
  show Sem.wp M Γ (runValue (.call f ⟨pos, kw⟩)) _ _ p s
  rw [Sem.wp_runValue]; exact hc _ p rfl (hΓ.enter _ none p (by intro x; cases x)) (b.enter rfl none p)
theorem codeJ_of_tree {c : Code} {R : Result → Shared → Prop}
    (h : wpJ M (A.under c) (M.den c) (fun fin s' => match fin with | .done f => R (.ok f) s' | .again c' => c'.quiet = true ∧ isDec c' = false ∧ codeJ M A c' R s')
      (fun e s' => R (.error e) s') s) : codeJ M A c R s := fun Γ p hc hΓ b => by
  rw [wpCode_iff_wp, hc]
  refine Sem.wp_mono M Γ _ (fun fin p' s' h' => ?_) (fun _ _ _ h' => h') p s (h Γ p (hc ▸ hΓ.in) b)
  cases fin with
  | done f => exact h'
  | again c' => exact ⟨h'.1, h'.2.2 (Γ.goto c') p' rfl (hΓ.goto c') ⟨h'.2.1, b.2⟩⟩
theorem wpJ_execs_cons {env : Env} {st : Stmt} {rest : List Stmt} {Q : Flow → Shared → Prop}
    (h : wpJ M A (exec st env) (fun f s' => match f with | .next => wpJ M A (execs rest env) Q E s' | f => Q f s') E s) : wpJ M A (execs (st :: rest) env) Q E s := fun Γ p hΓ b => by
  rw [execs_cons, Sem.wp_bind']
  refine Sem.wp_mono M Γ _ (fun f p' s' h' => ?_) (fun _ _ _ h' => h') _ _ (h Γ p hΓ b)
  cases f <;> first | exact h' Γ p' hΓ b | exact h'
theorem wpJ_Assign_Name {env : Env} {x : Str} {pos' pos : Pos} {value : Expr} {Q : Flow → Shared → Prop}
    (h : wpJ M A (eval value env) (fun v s₁ => wpAny M A (storeName env x v) (fun _ => Q .next) E s₁) E s)
    (hs : swapsWith value (some (.Name x pos')) pos.line env = pure false := by rfl) : wpJ M A (exec (.Assign [.Name x pos'] value pos) env) Q E s := fun Γ p hΓ b => by
  simp only [exec_Assign_Name env x pos' value pos hs, Sem.wp_bind', Sem.wp_cmd_standAt, Sem.wp_bindName, Sem.wp_pure']
  exact Sem.wp_mono M Γ _ (fun v _ s₁ h₁ => h₁ Γ _ hΓ) (fun _ _ _ h' => h') _ _ (h Γ _ hΓ b)
theorem wpJ_Assign_Tuple {env : Env} {elts : List Expr} {k : Nat} {tpos pos : Pos} {value : Expr} {Q : Flow → Shared → Prop}
    (h : wpJ M A (eval value env) (fun v s₁ => wpAny M A (assign (.Tuple elts k tpos) env v) (fun _ => Q .next) E s₁) E s)
    (hs : swapsWithSole [.Tuple elts k tpos] value pos.line env = pure false := by rfl) (hw : swappedStores [.Tuple elts k tpos] value env = pure none := by rfl) :
    wpJ M A (exec (.Assign [.Tuple elts k tpos] value pos) env) Q E s := by
  rw [exec_Assign]
  refine wpJ_standAt ?_
  rw [hs]
  refine wpJ_bind (wpJ_pure ?_)
  rw [if_neg (by decide)]
  refine wpJ_bind (wpJ_mono h (fun v s₁ h₁ => ?_) fun _ _ x => x)
  rw [hw]
  refine wpJ_bind (wpJ_pure ?_)
  show wpJ M A (do assignAll v [assign (.Tuple elts k tpos) env]; pure .next) Q E s₁
  exact wpJ_bindA (wpAny_mono h₁ (fun _ _ x => wpJ_pure x) fun _ _ x => x)
theorem wpJ_IfExp {env : Env} {test body orelse : Expr} {pos : Pos} {Q : Value → Shared → Prop}
    (h : wpAny M A (isTrue test env (eval test env)) (fun b s₁ => if b then wpAny M A (eval body env) Q E s₁ else wpJ M A (eval orelse env) Q E s₁) E s) :
    wpJ M A (eval (.IfExp test body orelse pos) env) Q E s := by
  rw [arm_eval_IfExp]
  refine wpJ_bindA (wpAny_mono h (fun b s₁ h₁ => ?_) fun _ _ x => x)
  cases b
  · exact h₁
  · exact wpJ_any h₁
/-- a call of a def by its name, the arguments' trees calm -/
theorem wpJ_callWith {pos : Pos} {a : Addr} {first : List Value} {args : List (Bool × Sem Value)} {Q : Value → Shared → Prop}
    (h : wpJ M A (evalArgs (.ref a) true args []) (fun x s₁ => (∃ o fd, s₁.heap.get? a = some o ∧ o.data = .func fd) ∧ wpJ M A (call (.ref a) (first ++ x.pos) x.kw) Q E s₁) E s) :
    wpJ M A (callWith pos (.ref a) first args []) Q E s := by
  unfold callWith
  refine wpJ_bind (wpJ_holding (wpJ_mono h (fun x s₁ h₁ => wpJ_standAt ?_) fun _ _ x => x))
  have tail : ∀ {t : Sem Value}, wpJ M A t Q E s₁ → wpJ M A (t >>= fun r => holding [r] point >>= fun _ => pure r) Q E s₁ :=
    fun ht => wpJ_bind (wpJ_mono ht (fun r s₂ hr => wpJ_any (wpAny_bind (wpAny_holding (wpAny_point (wpAny_pure hr))))) fun _ _ x => x)
  refine wpJ_bindA (m := keeperOf (.ref a)) ?_
  unfold keeperOf
  obtain ⟨⟨o, fd, ho, hd⟩, h₁⟩ := h₁
  refine wpAny_bind (wpAny_load ho ?_)
  rw [hd]
  refine wpAny_pure ?_
  cases hs : args.any (·.1) <;> simp only [List.any_nil, Bool.or_false]
  · first
      | exact tail h₁
      | exact tail (by unfold callMarked; exact wpJ_keep h₁)
      | (split <;> first | exact tail h₁ | exact tail (by unfold callMarked; exact wpJ_keep h₁))
  · first
      | exact tail (by unfold callMarked; exact wpJ_keep h₁)
      | exact tail h₁
end
end Mine
end
section
open PySem PySem.W PySem.Calls PyProof.Rows PySem.Spec
set_option Elab.async false
set_option maxRecDepth 100000
set_option maxHeartbeats 2000000
namespace Mine
section
variable {prog : Program} {w : World} {A : Around} {E : Value → Shared → Prop} {R : Result → Shared → Prop} {s : Shared}
theorem codeJ_func {body : List Stmt} {env : Env}
    (h : wpJ (model prog w) (A.deeper env) (execs body env) (fun f s' => R (.ok (.ret (match f with | .ret v => v | _ => .none))) s')
      (fun e s' => wpAny (model prog w) (A.deeper env) (leaving env e) (fun _ s'' => R (.error e) s'') (fun e' s'' => R (.error e') s'') s') s) :
    codeJ (model prog w) A (.func body env) R s := by
  refine codeJ_of_tree ?_
  show wpJ _ (A.deeper env) (do point; match ← (execs body env).onRaise (leaving env) with | .ret v => ret v | _ => ret .none) _ _ s
  refine wpJ_bindA (wpAny_point (wpJ_bind (wpJ_onRaise (wpJ_mono h (fun f s' h' => ?_) fun _ _ h' => h'))))
  cases f <;> exact wpJ_pure h'

theorem codeJ_call_function {a : Addr} {args : Args} {o : Obj} {fd : FuncData} {body : List Stmt} (hroom : A.depth < recursionLimit) (ho : s.heap.get? a = some o)
    (hd' : o.data = .func fd) (hco : fd.scope.isCoroutine = false) (hgen : fd.scope.isGenerator = false) (hbody : fd.body = .stmts body) (hcd : s.heap.CodeRec fd.code fd.qualname)
    (h : wpAny (model prog w) A.in1 (bindArgs fd args) (fun binds s₁ =>
      wpAny (model prog w) A.in1 (newFunctionEnv fd.scope fd.globals fd.closure binds (fd.qualname ++ ".<locals>.") (some a) fd.code none fd.builtins)
        (fun env s₂ => s₂.heap.NoLimit ∧ codeJ (model prog w) A (.func body env) R s₂) (fun e s' => R (.error e) s') s₁) (fun e s' => R (.error e) s') s) :
    codeJ (model prog w) A (.call (.ref a) args) R s := by
  refine codeJ_of_tree (wpJ_any ?_)
  show wpAny _ A.in1 (callAny (.ref a) args) _ _ s
  simp only [callAny]
  refine wpAny_bind (wpAny_load ho ?_)
  obtain ⟨c, oc, vs, tq, hc, hoc, hdc, hq⟩ := hcd
  simp only [hd', callFunction, hco, hgen, hbody, hc]
  rw [hc] at h
  refine wpAny_bind (m := field (.ref c) 1) (wpAny_field hoc hdc hq (wpAny_bind (wpAny_pure ?_)))
  exact wpAny_bind (wpAny_mono h (fun binds s₁ h₁ => wpAny_bind (wpAny_mono h₁ (fun env s₂ h₂ => wpAny_bind (wpAny_enterFrame h₂.1 hroom
    (wpAny_pure ⟨rfl, rfl, h₂.2⟩)) ) fun _ _ h' => h')) fun _ _ h' => h')
end

section
variable {prog : Program} {w : World} {A A₀ : Around} {E : Value → Shared → Prop} {s : Shared} {base h₀ : Heap} {L : Addr} {m : Str → Option Value} {news : List (Addr × Obj)}
theorem codeJ_def {K : Frag} {p : Program} {loose : List Str} {mean : ExcName → Option Value} {mg mb : Str → Option Value} {env : Env} {outer : List Env} {R : Result → Shared → Prop} {name qual : Str} {params : Arguments} {body : List Stmt} {scope : Scope} {dV kV doc pm cdv ct oc : Value} {an od : Option Addr} {osl : Array (Option Value)} {f : Addr} {args : Args} {binds : List (Str × Value)}
    (B : Below A₀ base outer h₀) (F : Fr h₀ L s.heap m) (X₀ : K.In h₀) (N : News h₀ L s.heap news) (T : Top p loose mean mg mb h₀) (hA : A.frames = some (env :: outer)) (hf : env.frame = some L) (hke : env.scope.kind = .function)
    (ho : K.lookup f = some ⟨oc, od, .func (fnOf name qual params body scope dV kV doc pm an cdv ct), osl⟩) (hcd : codeIn K cdv qual = true) (hroom : A.depth < recursionLimit)
    (hbind : BindsTo s (fnOf name qual params body scope dV kV doc pm an cdv ct) args binds) (hloc : ∀ y ∈ binds, scope.names.lookup y.1 = some .local)
    (h : ∀ g L' h₁, Fr h₀ L g m → Fr g L' h₁ (fun y => binds.reverse.lookup y) → News g L' h₁ news → Below A base (env :: outer) g → K.In g → Top p loose mean mg mb g →
      wpJ (model prog w) (A.deeper (envOf qual scope L' f cdv)) (execs body (envOf qual scope L' f cdv))
        (fun fl s' => LeaveK h₀ L m g R (match fl with | .ret v => v | _ => .none) s')
        (fun e s' => wpAny (model prog w) (A.deeper (envOf qual scope L' f cdv)) (leaving (envOf qual scope L' f cdv) e) (fun _ s'' => R (.error e) s'') (fun e' s'' => R (.error e') s'') s')
        { s with heap := h₁, toks := s.toks + binds.length })
    (hco : scope.isCoroutine = false) (hgen : scope.isGenerator = false) (hk : scope.kind = .function)
    (hcell : ∀ x ∈ scope.names, x.2 ≠ .cell) : codeJ (model prog w) A (.call (.ref f) args) R s := by
  obtain ⟨FG, BG, st, lv⟩ := groundX (R := R) B F N hA hf hke
  have ho' := (X₀.keeps F.keep) _ _ ho
  refine codeJ_call_function (fd := fnX name qual params body scope [] dV kV doc pm an cdv ct) hroom ho' rfl hco hgen rfl (codeRec_of (X₀.keeps F.keep) hcd) (hbind _ _ _ _ ?_)
  refine wpAny_newFunctionEnv hcell hloc (fun h₁ hns hsb => ⟨((T.nolimit.keeps F.keep)).fresh _ hsb, codeJ_func ?_⟩) hk
  have hk₁ : ∀ b o, s.heap.get? b = some o → h₁.get? b = some o := fun b o e => hsb.extBut b o (Nat.ne_of_lt (Heap.lt_size e)) (Heap.get?_push_of_some _ e)
  exact wpJ_mono (h _ s.heap.objs.size h₁ FG ⟨hns, fun b o e => hk₁ b o (of_hideAll _ e), Nat.le_of_eq (hideAll_size _ _)⟩
    (fun p hp => ⟨hk₁ _ _ (N p hp).1, Nat.ne_of_lt (Heap.lt_size (N p hp).1), hideAll_none _ (List.mem_map_of_mem hp)⟩) BG (X₀.keeps st) (T.keeps st)) (fun fl s' hl => lv _ _ hl) fun _ _ y => y
end

/-- a contract of a def that makes a bytearray: where no decoder is under way -/
def FJ (prog : Program) (w : World) (K : Frag) (p : Program) (loose : List Str) (mean : ExcName → Option Value) (mg mb : Str → Option Value) (f : Addr) (vs : List Value)
    (news : List (Addr × Obj)) (dn : Nat) (Post : Value → List (Addr × Obj) → Prop) : Prop :=
  ∀ (dp un : Nat) (gd : Option (List Code)) (cn : Str) (cs : Scope) (a : Addr) (ccd : Value) (cl : List (Str × Addr)) (outer : List Env) (A₀ : Around) (base h₀ : Heap) (L : Addr) (m : Str → Option Value) (s : Shared) (Q E : Value → Shared → Prop),
    Below A₀ base outer h₀ → Fr h₀ L s.heap m → K.In h₀ → News h₀ L s.heap news → Top p loose mean mg mb h₀ → cs.kind = .function → dp + dn < recursionLimit → un + 8 * dn < cLine → AllBare s.gens →
    (∀ v news' s', Fr h₀ L s'.heap m → News h₀ L s'.heap news' → AllBare s'.gens → s'.os = s.os → Post v news' → Q v s') →
    wpJ (model prog w) (ktrTop dp un gd cn cs L a ccd cl outer) (call (.ref f) vs) Q E s
theorem fj_use {prog : Program} {w : World} {K : Frag} {p : Program} {loose : List Str} {mean : ExcName → Option Value} {mg mb : Str → Option Value} {f : Addr} {vs : List Value} {news : List (Addr × Obj)} {dn : Nat} {Post : Value → List (Addr × Obj) → Prop}
    {dp un : Nat} {gd : Option (List Code)} {cn : Str} {cs : Scope} {a : Addr} {ccd : Value} {cl : List (Str × Addr)} {outer : List Env} {A₀ : Around} {base h₀ : Heap} {L : Addr} {m : Str → Option Value} {s : Shared} {Q E : Value → Shared → Prop}
    (c : FJ prog w K p loose mean mg mb f vs news dn Post) (B : Below A₀ base outer h₀) (F : Fr h₀ L s.heap m) (X : K.In h₀) (N : News h₀ L s.heap news) (T : Top p loose mean mg mb h₀) (hk : cs.kind = .function) (hd : dp + dn < recursionLimit) (hu : un + 8 * dn < cLine) (G : AllBare s.gens)
    (h : ∀ v news' s', Fr h₀ L s'.heap m → News h₀ L s'.heap news' → AllBare s'.gens → s'.os = s.os → Post v news' → Q v s') :
    wpJ (model prog w) (ktrTop dp un gd cn cs L a ccd cl outer) (call (.ref f) vs) Q E s := c _ _ _ _ _ _ _ _ _ _ _ _ _ _ _ _ _ B F X N T hk hd hu G h
end Mine
end
section
open PySem PySem.W PySem.Calls PyProof.Rows PySem.Spec
set_option Elab.async false
set_option maxRecDepth 100000
set_option maxHeartbeats 2000000
namespace Mine
theorem ba_mro : mroOf (.type "bytearray") = pure [.type "bytearray", .type "object"] := by rw [mroOf_type]; kernel_rfl
theorem ba_lookup_new : typeLookup (.type "bytearray") "__new__" = pure (some (.builtin "bytearray.__new__")) := by rw [typeLookup_type, builtinLookup_eq_fast]; kernel_rfl
theorem ba_slot_init : Slot "bytearray" "__init__" "bytearray.__init__" :=
  .of (owner := "bytearray") (n := "__init__") (by rw [typeLookup_type, builtinLookup_eq_fast]; kernel_rfl) (by decide +kernel) (by decide +kernel) (by decide +kernel)
    (by first | exact .inl (by decide +kernel) | exact .inr (by decide +kernel)) (by rw [isSubtype_type]; kernel_rfl)
theorem ba_called : TypeCalled "bytearray" "bytearray.__new__" "bytearray.__init__" :=
  ⟨by decide +kernel, by decide +kernel, ⟨_, _, ba_mro⟩, madeBy_type ba_mro ba_lookup_new (by decide +kernel), by decide +kernel, by rw [isSubtype_type]; kernel_rfl, ba_slot_init⟩
theorem ba_typeCall (a : Value) : checkTypeCall "bytearray" ⟨[a], []⟩ = pure () := by kernel_rfl
theorem ba_newCall (a : Value) : checkBuiltinCall "bytearray.__new__" ⟨[.type "bytearray", a], []⟩ = pure () := by kernel_rfl
theorem ba_entry_new : entryFor table "bytearray.__new__" = some Builtin.«list.__new__» := entryFor_alias (id' := "list.__new__") (by kernel_rfl) rfl (by decide +kernel) (by kernel_rfl)
theorem ba_entry_init : entryFor table "bytearray.__init__" = some Builtin.«bytearray.__init__» := by first | exact entryFor_of_fast (by kernel_rfl) | exact entryFor_of_tree (by kernel_rfl)
theorem ba_plain_new : plainId "bytearray.__new__" = true := by decide +kernel
theorem ba_owner : ("bytearray.__new__".splitOn ".__new__").headD "" = "bytearray" := by simp +decide [String.splitOn, String.splitOnAux]
theorem ba_sub : isSubtype (.type "bytearray") (.type "bytearray") = pure true := by rw [isSubtype_type]; kernel_rfl
theorem ba_args_init (a b : Value) : argsOk "bytearray.__init__" ⟨[a, b], []⟩ := by unfold argsOk; kernel_rfl
theorem ba_bind (v : Value) : Builtin.Bytes.bindOptional "bytearray.__init__" "bytearray" ["source", "encoding", "errors"] [v] [] = pure [some v, none, none] := by kernel_rfl
theorem ba_release : typeLookup (.type "bytearray") "__release_buffer__" = pure (some (.builtin "bytearray.__release_buffer__")) := by rw [typeLookup_type, builtinLookup_eq_fast]; kernel_rfl
theorem ba_ends : ("bytearray.__release_buffer__" : String).endsWith ("." ++ "__release_buffer__") = true := by decide +kernel
theorem ba_drop : ("bytearray.__release_buffer__" : String).dropRight (("__release_buffer__" : String).length + 1) = "bytearray" := by decide +kernel

section
variable {prog : Program} {w : World} {A : Around} {E : Value → Shared → Prop} {s : Shared}
theorem ba_new (a : Value) {Q₁ : Value → Shared → Prop}
    (h : Q₁ (.ref s.heap.objs.size) { s with heap := s.heap.push { cls := .type "bytearray", data := .bytearray #[] } }) :
    codeAny (model prog w) A (.call (.builtin "bytearray.__new__") ⟨[.type "bytearray", a], []⟩) (wants Q₁ E) s := by
  refine codeAny_of_tree ?_
  show wpAny _ A.in1 (do checkBuiltinCall "bytearray.__new__" ⟨[.type "bytearray", a], []⟩; again (.builtin "bytearray.__new__" ⟨[.type "bytearray", a], []⟩)) _ _ s
  refine wpAny_bind (wpAny_of_eq (ba_newCall a) (wpAny_pure ⟨plainId_quiet ba_plain_new _, codeAny_builtin_stack ba_entry_new rfl fun p st => ?_⟩))
  rw [Around.under_plainId ba_plain_new _]
  have hsub := ba_sub
  have hown := ba_owner
  obtain ⟨hp, g, d, tk, os⟩ := s
  simp only [hown]
  wp_walk
  exact h

theorem ba_tree (v : Value) : Builtin.«type.__call__» ⟨[.type "bytearray", v], []⟩ = (do
    let obj ← holding [.builtin "bytearray.__new__"] (call (.builtin "bytearray.__new__") [.type "bytearray", v] [])
    if !(← isInstance obj (.type "bytearray")) then rule "type.call.new-gave-other-type"; return ← ret obj
    match ← holding [obj] (callSpecial? obj "__init__" [v] []) with
    | none => ret obj
    | some r =>
      if r != .none then
        rule "type.call.init-returned-value"
        raiseError "TypeError" s!"__init__() should return None, not '{← typeNameOf r}'"
      ret obj) := by
  unfold Builtin.«type.__call__»
  simp only [ba_called.notType, ba_called.canCreate, ba_typeCall, ba_mro, ba_called.made, pure_bind, Bool.false_eq_true, if_false, List.isEmpty_cons]
  rfl
end
end Mine
end
section
open PySem PySem.W PySem.Calls PyProof.Rows PySem.Spec
set_option Elab.async false
set_option maxRecDepth 100000
set_option maxHeartbeats 2000000
namespace Mine
abbrev baO (b : Array UInt8) : Obj := { cls := .type "bytearray", data := .bytearray b }
section
variable {prog : Program} {w : World} {A : Around} {E : Value → Shared → Prop} {s : Shared} {M : Model}
theorem dec_c {id : String} (a : Args) (h : (Builtin.Bytes.decodersThatHold.contains id || guardIds.contains id) = true) : isDec (.builtin id a) = true := h
theorem dec_n {id : String} (a : Args) (h : (Builtin.Bytes.decodersThatHold.contains id || guardIds.contains id) = false) : isDec (.builtin id a) = false := h
theorem codeJ_builtin {id : String} {args : Args} {b : Builtin} {R : Result → Shared → Prop} (hb : entryFor table id = some b)
    (h : wpJ (model prog w) (A.under (.builtin id args)) (b args) (fun fin s' => match fin with | .done f => R (.ok f) s' | .again c' => c'.quiet = true ∧ isDec c' = false ∧ codeJ (model prog w) A c' R s') (fun e s' => R (.error e) s') s) :
    codeJ (model prog w) A (.builtin id args) R s := by
  refine codeJ_of_tree ?_
  show wpJ _ _ (match entryFor table id with | some b => b args | none => unsupported ((withoutEnding? id "#data").getD id)) _ _ s
  rw [hb]; exact h
theorem dec_false {f : Code × Pos → Bool} (hf : ∀ c p, isDec c = false → f (c, p) = false) : ∀ (l : List (Code × Pos)), (∀ x ∈ l, isDec x.1 = false) → l.any f = false
  | [], _ => rfl
  | (c, p) :: l, h => by
    rw [List.any_cons, hf c p (h _ (.head _)), dec_false hf l fun x hx => h x (.tail _ hx)]
    rfl
theorem wpJ_exported {v : Value} {Q : Bool → Shared → Prop} (h : Q false s) : wpJ M A (Builtin.Bytes.exported v) Q E s := fun Γ p hΓ b => by
  unfold Builtin.Bytes.exported
  show Q (List.any ((Γ.code, p) :: Γ.below) _) s
  rw [dec_false ?_ _ ?_]
  · exact h
  · intro c p hc
    split
    all_goals (rename_i heq; try cases heq)
    · exact absurd ((dec_c _ (by decide +kernel)).symm.trans hc) (by decide)
    · exact absurd ((dec_c _ (by decide +kernel)).symm.trans hc) (by decide)
    · exact absurd ((dec_c _ (by decide +kernel)).symm.trans hc) (by decide)
    · exact absurd ((dec_c _ (by decide +kernel)).symm.trans hc) (by decide)
    · exact absurd ((dec_c _ (by decide +kernel)).symm.trans hc) (by decide)
    · have hc' : (_ || _) = false := hc
      rw [Bool.or_eq_false_iff] at hc'
      rw [hc'.1, Bool.and_false]
    · rfl
  · intro x hx
    rcases List.mem_cons.mp hx with rfl | hx
    · exact b.1
    · exact b.2 x hx
theorem ba_update {D : Addr} {b : Array UInt8} {f : Array UInt8 → Array UInt8} {Q : Unit → Shared → Prop} (hD : s.heap.get? D = some (baO b)) (hz : (f b).size ≤ sizeLine)
    (h : ∀ h', Heap.SameBut D s.heap h' → h'.get? D = some (baO (f b)) → Q () { s with heap := h' }) : wpAny M A (Builtin.Bytes.write (.ref D) f) Q E s := by
  show wpAny _ _ (updateBytearray D f) _ _ _
  unfold updateBytearray
  refine wpAny_bind (wpAny_load hD ?_)
  show wpAny _ _ (update D (Obj.mapBytearray f) >>= fun _ => lookBehind D) _ _ _
  refine wpAny_bind (wpAny_update hD ?_)
  have h2 : (s.heap.update D (Obj.mapBytearray f)).get? D = some (baO (f b)) := Heap.get?_update_self (Obj.mapBytearray f) hD rfl
  refine wpAny_lookBehind h2 ?_ (h _ (Heap.SameBut.update ..) h2)
  show (if (f b).size > sizeLine then some "bytearray:memory" else none) = none
  rw [if_neg (by lia)]
theorem ba_own {D : Addr} {Q : Bool → Shared → Prop} (hT : s.TypeIs (.ref D) "bytearray") (h : Q false s) : wpAny M A (Builtin.Bytes.ownRelease (.ref D)) Q E s := by
  unfold Builtin.Bytes.ownRelease Builtin.Bytes.slotIsOwn
  refine wpAny_bind (wpAny_bind (wpAny_specialOf hT ba_release ?_))
  dsimp only
  rw [ba_ends, ba_drop]
  simp only [Bool.not_true, Bool.false_eq_true, if_false]
  refine wpAny_isInstance hT ba_sub ?_
  exact wpAny_pure h

theorem ba_init {D : Addr} {n : Int} {t : Tok} {Q : Fin → Shared → Prop} (hD : s.heap.get? D = some (baO #[])) (h0 : 0 ≤ n) (h1 : n ≤ 4096)
    (h : ∀ h', Heap.SameBut D s.heap h' → h'.get? D = some (baO (Array.replicate n.toNat 0)) → Q (.done (.ret .none)) { s with heap := h' }) :
    wpJ (model prog w) A (Builtin.«bytearray.__init__» ⟨[.ref D, .int n t], []⟩) Q E s := by
  have hT : s.TypeIs (.ref D) "bytearray" := ⟨_, hD, rfl⟩
  unfold Builtin.«bytearray.__init__»
  dsimp only
  refine wpJ_bindA (ba_own hT ?_)
  simp only [Bool.false_eq_true, if_false]
  refine wpJ_bindA (wpAny_of_eq (ba_bind _) ?_)
  dsimp only
  refine wpJ_bindA (wpAny_of_eq (a := ()) rfl ?_)
  refine wpJ_bindA (wpAny_of_eq (a := ()) rfl ?_)
  have hex : ∀ Q : Bool → Shared → Prop, Q false s → wpJ (model prog w) A (Builtin.Bytes.exported (.ref D) <||> (do return (← Builtin.Bytes.exportsOf (.ref D)) > 0)) Q E s := by
    intro Q hq
    refine wpJ_bind (wpJ_exported ?_)
    refine wpJ_any (wpAny_bind ?_)
    unfold Builtin.Bytes.exportsOf
    refine wpAny_bind (wpAny_load hD ?_)
    exact wpAny_pure (wpAny_pure hq)
  refine wpJ_bind (hex _ ?_)
  simp only [Bool.false_eq_true, if_false]
  refine wpJ_any ?_
  refine wpAny_bind (ba_update hD (Nat.zero_le _) fun h₁ hs₁ hD₁ => ?_)
  refine wpAny_bind (wpAny_of_eq (a := none) rfl ?_)
  simp only [Option.isSome_none, Bool.false_eq_true, if_false]
  refine wpAny_bind (wpAny_pure ?_)
  refine wpAny_bind (wpAny_specialOf (typeIs_int _ _ _) F.slot_int_index.lookup ?_)
  simp only [Option.isSome_some, if_true]
  refine wpAny_bind (wpAny_attempt (wpAny_of_eq (a := n) rfl ?_))
  have e1 : Builtin.Bytes.fitsIndex n = true := by
    unfold Builtin.Bytes.fitsIndex
    simp only [Bool.and_eq_true, decide_eq_true_eq]
    lia
  have e2 : ¬ n < 0 := by lia
  have e3 : (n == 2 ^ 63 - 1) = false := by
    rw [beq_eq_false_iff_ne]
    lia
  have e4 : Builtin.Bytes.tooLong n.toNat = false := by
    unfold Builtin.Bytes.tooLong
    simp [sizeLine_eq]
    lia
  simp only [e1, e2, e3, e4, Bool.not_true, Bool.false_eq_true, if_false]
  refine wpAny_bind (wpAny_rule ?_)
  by_cases hp : n > 0
  · rw [if_pos hp]
    refine wpAny_bind (ba_update hD₁ (by rw [Array.size_replicate, sizeLine_eq]; lia) fun h₂ hs₂ hD₂ => ?_)
    exact wpAny_pure (h h₂ (hs₁.trans hs₂) hD₂)
  · rw [if_neg hp]
    have : n = 0 := by lia
    subst this
    exact wpAny_pure (h h₁ hs₁ hD₁)

theorem call_bytearray {n : Int} {t : Tok} {Q : Value → Shared → Prop} (h0 : 0 ≤ n) (h1 : n ≤ 4096)
    (hQ : ∀ h', (∀ b o, s.heap.get? b = some o → h'.get? b = some o) → h'.get? s.heap.objs.size = some (baO (Array.replicate n.toNat 0)) → Q (.ref s.heap.objs.size) { s with heap := h' }) :
    wpJ (model prog w) A (call (.type "bytearray") [.int n t]) Q E s := by
  refine wpJ_call (codeJ_of_tree ?_)
  show wpJ _ _ (callAny (.type "bytearray") _) _ _ _
  refine wpJ_pure ⟨Code.quiet_builtin _ (by decide +kernel), dec_n _ (by decide +kernel), codeJ_builtin F.entry_type_call ?_⟩
  rw [Around.under_plain (weight_type_call_type "bytearray" [.int n t] []) rfl]
  show wpJ _ _ (Builtin.«type.__call__» ⟨[.type "bytearray", .int n t], []⟩) _ _ _
  rw [ba_tree]
  refine wpJ_bindA (wpAny_holding (wpAny_call (codeAny_mono (ba_new (E := E) (.int n t) (Q₁ := fun v s' => v = .ref s.heap.objs.size ∧ s' = { s with heap := s.heap.push { cls := .type "bytearray", data := .bytearray #[] } }) ⟨rfl, rfl⟩) fun r s₁ hr => ?_)))
  cases r with
  | error e => exact hr
  | ok fl =>
    cases fl with
    | ret obj =>
      obtain ⟨rfl, rfl⟩ := hr
      have hD : (s.heap.push { cls := .type "bytearray", data := .bytearray #[] }).get? s.heap.objs.size = some (baO #[]) := Heap.get?_push_size _ rfl
      have hT : ({ s with heap := s.heap.push { cls := .type "bytearray", data := .bytearray #[] } } : Shared).TypeIs (.ref s.heap.objs.size) "bytearray" := ⟨_, hD, rfl⟩
      refine wpJ_bindA (wpAny_isInstance hT ba_sub ?_)
      simp only [Bool.not_true, Bool.false_eq_true, if_false]
      refine wpJ_bind (wpJ_holding ?_)
      simp only [callSpecial?]
      refine wpJ_bindA (wpAny_specialOf hT ba_slot_init.lookup ?_)
      dsimp only
      rw [ba_slot_init.bind]
      refine wpJ_holding (wpJ_bind (wpJ_pure (wpJ_bind (wpJ_call ?_))))
      refine codeJ_of_tree ?_
      show wpJ _ _ (do checkBuiltinCall "bytearray.__init__" ⟨[.ref s.heap.objs.size, .int n t], []⟩; again (.builtin "bytearray.__init__" ⟨[.ref s.heap.objs.size, .int n t], []⟩)) _ _ _
      refine wpJ_bindA (ba_slot_init.check _ _ _ _ _ _ _ _ hT (ba_args_init _ _) (wpJ_pure ⟨plainId_quiet ba_slot_init.plain _, dec_n _ (by decide +kernel), codeJ_builtin ba_entry_init ?_⟩))
      refine ba_init hD h0 h1 fun h' hs' hD' => ?_
      refine wpJ_pure (wpJ_any ?_)
      simp only [bne_self_eq_false, Bool.false_eq_true, if_false]
      exact wpAny_pure (hQ h' (fun b o e => hs'.extBut b o (Nat.ne_of_lt (Heap.lt_size e)) (Heap.get?_push_of_some _ e)) hD')
    | _ => exact hr.elim
end
end Mine
end
section
open PySem PySem.W PySem.Calls PyProof.Rows PySem.Spec
set_option Elab.async false
set_option maxRecDepth 100000
set_option maxHeartbeats 2000000
namespace Mine
theorem ba_slot_setitem : Slot "bytearray" "__setitem__" "bytearray.__setitem__" :=
  .of (owner := "bytearray") (n := "__setitem__") (by rw [typeLookup_type, builtinLookup_eq_fast]; kernel_rfl) (by decide +kernel) (by decide +kernel) (by decide +kernel)
    (by first | exact .inl (by decide +kernel) | exact .inr (by decide +kernel)) (by rw [isSubtype_type]; kernel_rfl)
theorem ba_entry_setitem : entryFor table "bytearray.__setitem__" = some Builtin.«bytearray.__setitem__» := by first | exact entryFor_of_fast (by kernel_rfl) | exact entryFor_of_tree (by kernel_rfl)
theorem ba_args_setitem (a b c : Value) : argsOk "bytearray.__setitem__" ⟨[a, b, c], []⟩ := by unfold argsOk; kernel_rfl
theorem ba_no_bytes : typeLookup (.type "bytearray") "__bytes__" = pure none := by rw [typeLookup_type, builtinLookup_eq_fast]; kernel_rfl
theorem ba_no_index : typeLookup (.type "bytearray") "__index__" = pure none := by rw [typeLookup_type, builtinLookup_eq_fast]; kernel_rfl
theorem ba_buffer : typeLookup (.type "bytearray") "__buffer__" = pure (some (.builtin "bytearray.__buffer__")) := by rw [typeLookup_type, builtinLookup_eq_fast]; kernel_rfl
theorem bb_ends : ("bytearray.__buffer__" : String).endsWith ("." ++ "__buffer__") = true := by decide +kernel
theorem bb_drop : ("bytearray.__buffer__" : String).dropRight (("__buffer__" : String).length + 1) = "bytearray" := by decide +kernel
section
variable {prog : Program} {w : World} {A : Around} {E : Value → Shared → Prop} {s : Shared} {M : Model}
theorem setItem_ba {D : Addr} {b : Array UInt8} {k v : Int} {t u : Tok} {Q : Unit → Shared → Prop} (hD : s.heap.get? D = some (baO b)) (h0 : 0 ≤ k) (h1 : k < b.size) (h2 : b.size ≤ 4096) (h3 : 0 ≤ v) (h4 : v < 256)
    (h : ∀ h', Heap.SameBut D s.heap h' → h'.get? D = some (baO (b.setIfInBounds k.toNat v.toNat.toUInt8)) → Q () { s with heap := h' }) : wpAny (model prog w) A (setItem (.ref D) (.int k t) (.int v u)) Q E s := by
  have hT : s.TypeIs (.ref D) "bytearray" := ⟨_, hD, rfl⟩
  unfold setItem
  try with_reducible refine wpAny_holding ?_
  first | refine wpAny_bind (wpAny_pure ?_) | skip
  refine wpAny_bind (wpAny_sequenceKey hT (by decide) ?_)
  refine wpAny_bind (wpAny_callSpecial?_slot (name := Str.ofString "__setitem__") hT ba_slot_setitem
    (wpAny_call_entry ba_slot_setitem hT ba_entry_setitem ?_ (ba_args_setitem _ _ _)))
  unfold Builtin.«bytearray.__setitem__»
  dsimp only
  simp only [List.isEmpty_nil, Bool.not_true, Bool.false_eq_true, if_false]
  refine wpAny_bind ?_
  unfold Builtin.Bytes.subscript?
  refine wpAny_bind (wpAny_specialOf (typeIs_int _ _ _) F.slot_int_index.lookup ?_)
  simp only [Option.isNone_some, Bool.false_eq_true, if_false]
  refine wpAny_bind (wpAny_of_eq (a := k) rfl ?_)
  have e1 : Builtin.Bytes.fitsIndex k = true := by
    unfold Builtin.Bytes.fitsIndex
    simp only [Bool.and_eq_true, decide_eq_true_eq]
    lia
  rw [e1]
  simp only [Bool.not_true, Bool.false_eq_true, if_false]
  refine wpAny_pure ?_
  refine wpAny_bind ?_
  unfold Builtin.Bytes.byteValue
  refine wpAny_bind (wpAny_of_eq (a := v) rfl ?_)
  have e2 : (decide (v < 0) || decide (v ≥ 256)) = false := by
    simp only [Bool.or_eq_false_iff, decide_eq_false_iff_not]
    lia
  rw [e2]
  simp only [Bool.false_eq_true, if_false]
  refine wpAny_pure ?_
  refine wpAny_bind ?_
  unfold Builtin.Bytes.payload Builtin.Bytes.payload?
  refine wpAny_bind (wpAny_bind (wpAny_load hD ?_))
  refine wpAny_pure (wpAny_pure ?_)
  have e3 : seqIndex? k b.size = some k.toNat := by
    unfold seqIndex?
    simp only [show ¬ k < 0 by lia, if_false]
    rw [if_pos (by simp only [Bool.and_eq_true, decide_eq_true_eq]; lia)]
  rw [e3]
  refine wpAny_bind (ba_update hD (by rw [Array.size_setIfInBounds, sizeLine_eq]; lia) fun h' hs hD' => ?_)
  exact wpAny_pure ⟨.none, rfl, wpAny_pure (h h' hs hD')⟩
theorem ba_buf {D : Addr} {b : Array UInt8} {id : String} {fl : Bool} {Q : Option (Array UInt8) → Shared → Prop} (hD : s.heap.get? D = some (baO b)) (h : Q (some b) s) : wpAny M A (Builtin.Bytes.buffer? id (.ref D) fl) Q E s := by
  have hT : s.TypeIs (.ref D) "bytearray" := ⟨_, hD, rfl⟩
  unfold Builtin.Bytes.buffer?
  refine wpAny_bind (wpAny_specialOf hT ba_buffer ?_)
  dsimp only
  refine wpAny_bind ?_
  unfold Builtin.Bytes.slotIsOwn
  refine wpAny_bind (wpAny_specialOf hT ba_buffer ?_)
  dsimp only
  rw [bb_ends, bb_drop]
  simp only [Bool.not_true, Bool.false_eq_true, if_false]
  refine wpAny_isInstance hT ba_sub ?_
  simp only [Bool.not_true, Bool.false_eq_true, if_false]
  refine wpAny_bind (wpAny_specialOf hT ba_buffer ?_)
  refine wpAny_bind (ba_own hT ?_)
  simp only [Bool.false_eq_true, if_false]
  refine wpAny_bind ?_
  unfold Builtin.Bytes.payload Builtin.Bytes.payload?
  refine wpAny_bind (wpAny_bind (wpAny_load hD ?_))
  exact wpAny_pure (wpAny_pure (wpAny_pure h))
theorem new_bytes_ba {D : Addr} {b : Array UInt8} {Q : Value → Shared → Prop} (hD : s.heap.get? D = some (baO b)) (hz : b.size ≤ sizeLine)
    (hQ : ∀ t k, Q (.bytes b t) { s with toks := k }) :
    codeAny (model prog w) A (.call (.builtin "bytes.__new__") ⟨[.type "bytes", .ref D], []⟩) (wants Q E) s := by
  refine codeAny_of_tree ?_
  show wpAny _ A.in1 (do checkBuiltinCall "bytes.__new__" ⟨[.type "bytes", .ref D], []⟩; again (.builtin "bytes.__new__" ⟨[.type "bytes", .ref D], []⟩)) _ _ s
  refine wpAny_bind (wpAny_of_eq (F.bm_newCall _) (wpAny_pure ⟨plainId_quiet F.bm_plain _, codeAny_builtin F.bm_entry ?_⟩))
  rw [Around.under_plainId F.bm_plain _]
  have hT : s.TypeIs (.ref D) "bytearray" := ⟨_, hD, rfl⟩
  unfold Builtin.«bytes.__new__»
  refine wpAny_bind (wpAny_of_eq (a := true) rfl ?_)
  refine bm_if_false rfl ?_
  refine wpAny_bind (wpAny_of_eq F.bm_sub ?_)
  refine bm_if_false rfl ?_
  refine wpAny_bind (wpAny_of_eq (F.bm_bind _) ?_)
  refine wpAny_bind (wpAny_of_eq (a := ()) rfl ?_)
  refine wpAny_bind (wpAny_of_eq (a := ()) rfl ?_)
  refine bm_if_false rfl ?_
  refine wpAny_bind (wpAny_specialOf hT ba_no_bytes ?_)
  refine wpAny_bind (wpAny_bind ?_)
  show wpAny _ _ (load D >>= _) _ _ _
  refine wpAny_bind (wpAny_load hD ?_)
  refine wpAny_pure (wpAny_pure ?_)
  refine bm_if_false rfl ?_
  refine wpAny_bind (wpAny_specialOf hT ba_no_index ?_)
  refine bm_if_true rfl ?_
  first
    | show wpAny _ _ (Builtin.Bytes.buffer? "bytes.__new__" (.ref D) true >>= _) _ _ _
    | (refine wpAny_bind ?_; show wpAny _ _ (Builtin.Bytes.buffer? "bytes.__new__" (.ref D) true >>= _) _ _ _)
  refine wpAny_bind (ba_buf hD ?_)
  refine wpAny_bind (wpAny_rule ?_)
  refine wpAny_bind (wpAny_mkBytes ?_ hz)
  show wpAny _ _ (if (Value.type "bytes" == Value.type "bytes") = true then _ else _) _ _ _
  refine bm_if_true (by decide) ?_
  first
    | exact wpAny_pure (hQ _ _)
    | exact wpAny_bind (wpAny_pure (wpAny_pure (hQ _ _)))
theorem call_bytes_ba {D : Addr} {b : Array UInt8} {Q : Value → Shared → Prop} (hD : s.heap.get? D = some (baO b)) (hz : b.size ≤ sizeLine)
    (hQ : ∀ t k, Q (.bytes b t) { s with toks := k }) : wpAny (model prog w) A (call (.type "bytes") [.ref D]) Q E s := by
  refine callType_codes (Q₁ := fun obj s₁ => s₁.TypeIs obj "bytes" ∧ Q obj s₁) F.bm_called (F.bm_typeCall _) F.entry_object_init
    (new_bytes_ba hD hz fun t k => ⟨PySem.W.typeIs_bytes _ _ _, hQ t k⟩) fun obj s₁ h₁ => ?_
  exact ⟨h₁.1, F.args_object_init_2 obj _, object_init_meets F.bm_called.init.lookup F.bm_called.made (by decide) prog w A.in1 _ s₁ ⟨h₁.1, rfl, h₁.2⟩⟩
end
end Mine
end
section
open PySem PySem.W PySem.Calls PyProof.Rows PySem.Spec
set_option Elab.async false
set_option maxRecDepth 100000
set_option maxHeartbeats 2000000
namespace Mine
section
variable {prog : Program} {w : World} {A : Around} {E : Value → Shared → Prop} {s : Shared} {env : Env} {h₀ : Heap} {x : Str} {body : List Stmt} {Q : Flow → Shared → Prop}
theorem range_loop {r : Addr} {a b c : Int} {t u v : Tok} {n : Nat} {m₀ : Str → Option Value} {news : List (Addr × Obj)} (J : Nat → (Str → Option Value) → List (Addr × Obj) → Prop)
    (hh : A.handled = none) (hr : IsRange s.heap r a b c t u v) (hsm : Builtin.Range.small a b c = true) (hn : Builtin.Range.rangeSize a b c = (n : Int)) (F : Fr h₀ env.locals s.heap m₀) (N : News h₀ env.locals s.heap news) (hj : J 0 m₀ news)
    (turn : ∀ (i : Nat) (u : Tok) (m₁ : Str → Option Value) (news₁ : List (Addr × Obj)) (h : Heap) (tk : Nat) (I : Addr) (io : Obj), i < n → J i m₁ news₁ → io.cls = .type "range_iterator" → (∀ p ∈ news₁, p.1 ≠ I) →
      Fr h₀ env.locals h (fun y => if y = x then some (.int (a + i * c) u) else m₁ y) → News h₀ env.locals h (news₁ ++ [(I, io)]) →
      wpAny (model prog w) A (execs body env) (TextStep h₀ env.locals (J (i + 1)) I io { s with heap := h, toks := tk } Q) E { s with heap := h, toks := tk })
    (done : ∀ (m₁ : Str → Option Value) (news₁ : List (Addr × Obj)) (h : Heap) (tk : Nat), J n m₁ news₁ → Fr h₀ env.locals h m₁ → News h₀ env.locals h news₁ → Q .next { s with heap := h, toks := tk }) :
    wpAny (model prog w) A (pyIter (.ref r)) (fun it s₂ => LoopAtV prog w A h₀ env x body Q E it s₂) E s := by
  refine wpAny_pyIter_range hr hsm ?_
  have W0 := Walks.range (prog := prog) (w := w) hh s.heap.objs.size a c n
  have W : Walks prog w A s.heap.objs.size [s.heap.objs.size] [s.heap.objs.size] n (fun i v => i < n ∧ ∃ t, v = .int (a + i * c) t) (fun i h => IsRangeIter h s.heap.objs.size (a + (i : Nat) * c) ((n : Int) - (i : Nat)) c) :=
    { sub := W0.sub, frame := W0.frame, done := W0.done, self := W0.self, item := fun i s Q E hi st hQ => W0.item i s Q E hi st fun v h' tk hP => hQ v h' tk ⟨hi, hP⟩ }
  have hIn : ∀ p ∈ news, p.1 ∉ [s.heap.objs.size] := fun p hp hI => absurd (Heap.lt_size (N p hp).1) ((List.mem_singleton.mp hI) ▸ Nat.lt_irrefl _)
  have hst : IsRangeIter (s.heap.push { cls := .type "range_iterator", data := .fields #[rawInt a, rawInt (Builtin.Range.rangeSize a b c), rawInt c] }) s.heap.objs.size (a + ((0 : Nat) : Int) * c) ((n : Int) - ((0 : Nat) : Int)) c := by
    rw [hn]
    rw [show a + ((0 : Nat) : Int) * c = a by simp, show (n : Int) - ((0 : Nat) : Int) = n by simp]
    exact Heap.get?_push_size _ rfl
  refine ⟨s.heap.objs.size, [s.heap.objs.size], [s.heap.objs.size], _, _, _, m₀, news, fun i => J i, rfl, W, ?_, ?_, hIn, hst, F.push _, (fun p hp => ⟨Heap.get?_push_of_some _ (N p hp).1, (N p hp).2⟩), hj, ?_, ?_⟩
  · intro hm
    exact absurd F.ns.lt ((List.mem_singleton.mp hm) ▸ Nat.lt_irrefl _)
  · intro b' hb
    rw [List.mem_singleton.mp hb]
    exact next_is_new F
  · rintro i v m₁ news₁ s₁ own ⟨hh', tk', rfl⟩ hin ⟨hi, u, rfl⟩ hJ hoff hown hget hall hio F₁ N₁
    have hnI : h₀.get? s.heap.objs.size = none := next_is_new F
    obtain ⟨io, hio', hcl⟩ : ∃ io, hh'.get? s.heap.objs.size = some io ∧ io.cls = .type "range_iterator" := ⟨_, hio, rfl⟩
    have hmem : (s.heap.objs.size, io) ∈ own := hall _ (.head _) hnI io hio'
    have hsub : ∀ p ∈ own, p = (s.heap.objs.size, io) := fun p hp => by
      have e1 : p.1 = s.heap.objs.size := List.mem_singleton.mp (hown p hp)
      have e2 := hget p hp
      rw [e1] at e2
      obtain ⟨a', o⟩ := p
      dsimp only at e1 e2
      subst e1
      have e3 := e2.symm.trans hio'
      injection e3 with e4
      exact congrArg (Prod.mk _) e4
    have hoff' : ∀ p ∈ news₁, p.1 ≠ s.heap.objs.size := fun p hp e => hoff p hp (List.mem_singleton.mpr e)
    have N₂ := (show News h₀ env.locals hh' (news₁ ++ [(s.heap.objs.size, io)]) from fun p hp => (List.mem_append.mp hp).elim (fun h => N₁ p (List.mem_append_right _ h)) fun h => N₁ p (List.mem_append_left _ ((List.mem_singleton.mp h) ▸ hmem)))
    refine wpAny_mono (turn i u m₁ news₁ hh' tk' _ io hi hJ hcl hoff' F₁ N₂) (fun f s₂ p => ?_) fun _ _ e => e
    have fin : (∃ h' tk m' news', s₂ = ({ s with heap := h', toks := tk } : Shared) ∧ Fr h₀ env.locals h' m' ∧ News h₀ env.locals h' (news' ++ [(s.heap.objs.size, io)]) ∧ (∀ p ∈ news', p.1 ≠ s.heap.objs.size) ∧ J (i + 1) m' news') →
        LoopStepU h₀ env.locals [s.heap.objs.size] own (J (i + 1)) { s with heap := hh', toks := tk' } .next s₂ := by
      rintro ⟨h', tk, m', news', rfl, F', N', ho, hm⟩
      exact LoopStepU.intro F' (fun p hp => (List.mem_append.mp hp).elim (fun h => N' p (List.mem_append_right _ (by rw [hsub p h]; exact .head _))) fun h => N' p (List.mem_append_left _ h)) (fun p hp hI => ho p hp (List.mem_singleton.mp hI)) hm
    cases f with
    | ret v => exact .ret p
    | brk => exact .brk p
    | next => exact .next (fin p)
    | cont => exact .cont (fin p)
  · intro h' tk m' news' F' N' _ hJ
    exact done m' news' h' tk hJ F' N'
theorem wpJ_callWith_type {M : Model} {Q : Value → Shared → Prop} {pos : Pos} {T : String} {first : List Value} {args : List (Bool × Sem Value)} (hplain : args.any (·.1) = false)
    (h : wpAny M A (evalArgs (.type T) true args []) (fun a s₁ => wpJ M A (call (.type T) (first ++ a.pos) a.kw) Q E s₁) E s) : wpJ M A (callWith pos (.type T) first args []) Q E s := by
  unfold callWith
  refine wpJ_bindA (wpAny_holding (wpAny_mono h (fun a s₁ h₁ => wpJ_standAt ?_) fun _ _ x => x))
  simp only [hplain, List.any_nil, Bool.or_false]
  refine wpJ_bind (wpJ_pure ?_)
  exact wpJ_bind (wpJ_mono h₁ (fun r s₂ hr => wpJ_any (wpAny_bind (wpAny_holding (wpAny_point (wpAny_pure hr))))) fun _ _ x => x)
theorem wpJ_Call {M : Model} {Q : Value → Shared → Prop} {func : Expr} {args : List Expr} {pos : Pos}
    (h : wpAny M A (eval func env) (fun f s₁ => wpJ M A (callWith pos f [] (backTo pos (starEach args env)) []) Q E s₁) E s)
    (he : eval (.Call func args [] pos) env = (do callWith pos (← eval func env) [] (backTo pos (starEach args env)) (backToKw pos (keywordEach [] env))) := by rfl) :
    wpJ M A (eval (.Call func args [] pos) env) Q E s := by
  rw [he]; exact wpJ_bindA h
theorem wpJ_callWith_type1 {M : Model} {Q : Value → Shared → Prop} {pos : Pos} {T : String} {e : Expr} {rest : List Expr}
    (h : wpAny M A (spliced (backTo pos (starEach (e :: rest) env))) (fun vs s₁ => wpJ M A (call (.type T) vs) Q E s₁) E s)
    (he : starEach (e :: rest) env = (false, eval e env) :: starEach rest env := by rfl)
    (hplain : (backTo pos (starEach rest env)).any (·.1) = false := by rfl) : wpJ M A (callWith pos (.type T) [] (backTo pos (starEach (e :: rest) env)) []) Q E s := by
  rw [he] at h ⊢
  exact wpJ_callWith_type (by show (false || (backTo pos (starEach rest env)).any (·.1)) = false; rw [hplain]; rfl) (evalArgs_plain h)
structure CallAt (h : Heap) (a : Addr) (P : Prop) : Prop where
  fn : ∃ o fd, h.get? a = some o ∧ o.data = .func fd
  go : P
theorem wpJ_callWith_ref1 {M : Model} {Q : Value → Shared → Prop} {pos : Pos} {a : Addr} {e : Expr} {rest : List Expr}
    (h : wpAny M A (spliced (backTo pos (starEach (e :: rest) env))) (fun vs s₁ => CallAt s₁.heap a (wpJ M A (call (.ref a) vs) Q E s₁)) E s)
    (he : starEach (e :: rest) env = (false, eval e env) :: starEach rest env := by rfl) : wpJ M A (callWith pos (.ref a) [] (backTo pos (starEach (e :: rest) env)) []) Q E s := by
  rw [he] at h ⊢
  exact wpJ_callWith (wpJ_any (evalArgs_plain (wpAny_mono h (fun _ _ x => ⟨x.fn, x.go⟩) fun _ _ x => x)))
end
end Mine
end
section
open PySem PySem.W PySem.Calls PyProof.Rows PySem.Spec
set_option Elab.async false
set_option maxRecDepth 100000
set_option maxHeartbeats 2000000
namespace Mine
def swp (b : Array UInt8) : Nat → Array UInt8
  | 0 => Array.replicate b.size 0
  | j + 1 => (swp b j).setIfInBounds (b.size - 1 - j) (b.getD j 0)
theorem swp_size (b : Array UInt8) : ∀ j, (swp b j).size = b.size
  | 0 => Array.size_replicate
  | j + 1 => by rw [swp, Array.size_setIfInBounds, swp_size b j]
theorem swp_get (b : Array UInt8) : ∀ j, j ≤ b.size → ∀ k, k < b.size → (swp b j)[k]? = some (if b.size - 1 - k < j then b.getD (b.size - 1 - k) 0 else 0)
  | 0, _, k, hk => by simp [swp, hk]
  | j + 1, hj, k, hk => by
    have ih := swp_get b j (by lia) k hk
    rw [swp, Array.getElem?_setIfInBounds]
    by_cases h : b.size - 1 - j = k
    · rw [if_pos h, if_pos (by rw [swp_size]; lia), if_pos (by lia), show b.size - 1 - k = j by lia]
    · rw [if_neg h, ih]
      by_cases h2 : b.size - 1 - k < j
      · rw [if_pos h2, if_pos (by lia)]
      · rw [if_neg h2, if_neg (by lia)]
theorem swp_all (b : Array UInt8) : swp b b.size = b.reverse := by
  apply Array.ext
  · rw [swp_size, Array.size_reverse]
  · intro k h1 h2
    rw [swp_size] at h1
    have h := swp_get b b.size (Nat.le_refl _) k h1
    rw [if_pos (by lia)] at h
    rw [Array.getElem?_eq_getElem (by rw [swp_size]; exact h1)] at h
    injection h with h
    rw [h, Array.getElem_reverse]
    rw [Array.getD, dif_pos (by lia)]
    rfl
section
variable {prog : Program} {w : World} {A : Around} {E : Value → Shared → Prop} {s : Shared} {h₀ : Heap} {L : Addr} {m : Str → Option Value} {news news' : List (Addr × Obj)}
theorem setItem_baN {D : Addr} {b : Array UInt8} {k v : Int} {t u : Tok} {Q : Unit → Shared → Prop} (F : Fr h₀ L s.heap m) (N : News h₀ L s.heap news) (U : Upd D (baO b) (baO (b.setIfInBounds k.toNat v.toNat.toUInt8)) news news')
    (h0 : 0 ≤ k) (h1 : k < b.size) (h2 : b.size ≤ 4096) (h3 : 0 ≤ v) (h4 : v < 256)
    (h : ∀ h', Fr h₀ L h' m → News h₀ L h' news' → Q () { s with heap := h' }) : wpAny (model prog w) A (setItem (.ref D) (.int k t) (.int v u)) Q E s := by
  obtain ⟨pre, post, rfl, rfl, a, c⟩ := U.split
  have z := N (D, baO b) (List.mem_append.mpr (.inr (.head _)))
  exact setItem_ba z.1 h0 h1 h2 h3 h4 fun h' hs ho' => h h' (F.change hs z.2.1 z.2.2) (news_set N a c hs ho')
theorem call_bytes_baN {D : Addr} {b : Array UInt8} {Q : Value → Shared → Prop} (N : News h₀ L s.heap news) (hm : (D, baO b) ∈ news) (hz : b.size ≤ 4096)
    (hQ : ∀ t k, Q (.bytes b t) { s with toks := k }) : wpAny (model prog w) A (call (.type "bytes") [.ref D]) Q E s :=
  call_bytes_ba (N _ hm).1 (by rw [sizeLine_eq]; lia) hQ
theorem call_bytearrayN {n : Int} {t : Tok} {Q : Value → Shared → Prop} (F : Fr h₀ L s.heap m) (N : News h₀ L s.heap news) (h0 : 0 ≤ n) (h1 : n ≤ 4096)
    (hQ : ∀ D h', Fr h₀ L h' m → News h₀ L h' ((D, baO (Array.replicate n.toNat 0)) :: news) → (∀ p ∈ news, p.1 ≠ D) → Q (.ref D) { s with heap := h' }) :
    wpJ (model prog w) A (call (.type "bytearray") [.int n t]) Q E s := by
  refine call_bytearray h0 h1 fun h' hk hD => hQ _ h' (F.keeps hk) ?_ fun p hp => Nat.ne_of_lt (Heap.lt_size (N p hp).1)
  intro p hp
  rcases List.mem_cons.mp hp with rfl | hp
  · exact ⟨hD, Ne.symm (Nat.ne_of_lt F.ns.lt), next_is_new F⟩
  · exact ⟨hk _ _ (N p hp).1, (N p hp).2⟩
theorem item_b {value slice : Expr} {b : Array UInt8} {j : Nat} {i : Int} {tb u : Tok} {Q : Value → Shared → Prop} (hi : i = (j : Int)) (hj : j < b.size) (hb : b.size ≤ 4096)
    (h : ∀ t k, Q (.int ((b.getD j 0).toNat : Int) t) { s with toks := k })
    (hs : subscripted slice false (.bytes b tb) (.int i u) = operate [.bytes b tb, .int i u] (getItem (.bytes b tb) (.int i u)) := by with_unfolding_all rfl)
    (ht : ∀ r, letTemporaryGo value (.bytes b tb) r = pure () := by intro _; with_unfolding_all rfl) :
    wpAny (model prog w) A (subscriptTail value slice (.bytes b tb) (.int i u)) Q E s := by
  subst hi
  have e : (KBw.bInts b).getD (j : Int).toNat 0 = ((b.getD j 0).toNat : Int) := by
    rw [Int.toNat_natCast, List.getD_eq_getElem?_getD, KBw.ints_get (c := b[j]) (by simp [hj])]
    simp [hj]
  refine KBw.item_K rfl (by rw [KBw.ints_length]; lia) (by lia) (by rw [KBw.ints_length]; lia) (fun t' k _ _ => ?_) hs ht
  rw [e]
  exact h t' k
end
end Mine
end
section
open PySem PySem.W PySem.Calls PyProof.Rows PySem.Spec
set_option Elab.async false
set_option maxRecDepth 100000
set_option maxHeartbeats 2000000
namespace Mine
section
variable {prog : Program} {w : World} {A : Around} {E : Value → Shared → Prop} {s : Shared} {h₀ : Heap} {L : Addr} {m : Str → Option Value} {env : Env}
theorem src_range {elt : Expr} {x : Str} {scope : Scope} {cl : List (Str × Addr)} {Fin : Shared → List Value → List (Addr × Obj) → Prop} {r : Addr} {b : Int} {t u v : Tok} {n : Nat} {news : List (Addr × Obj)} (R : Nat → Value → Prop)
    (hh : A.handled = none) (hr : IsRange s.heap r 0 b 1 t u v) (hsm : Builtin.Range.small 0 b 1 = true) (hn : Builtin.Range.rangeSize 0 b 1 = (n : Int)) (hsz : n ≤ sizeLine) (F : Fr h₀ L s.heap m) (N : News h₀ L s.heap news)
    (turn : ∀ s' (c : Nat) (u : Tok) I oI C oC D m₂ ys h tk (E' : Value → Shared → Prop), (∃ g, s' = { s with heap := g }) → c < n → LCg.NsObj oC m₂ → m₂ x = some (.int (c : Int) u) → Fr h₀ L h m → News h₀ L h ((I, oI) :: (C, oC) :: (D, LCg.lst ys) :: news) → LCg.Off3 I C D news → ((@Ne Nat I C) ∧ (@Ne Nat I D) ∧ (@Ne Nat C D)) →
      wpAny (model prog w) A (eval elt (compEnvC scope cl C env)) (LCg.CompEnd h₀ L m { s' with heap := h, toks := tk } I oI C oC D (LCg.lst ys) (fun _ => True) (fun y news' => news' = news ∧ R c y)) E' { s' with heap := h, toks := tk })
    (fin : ∀ s' ys, (∃ g, s' = { s with heap := g }) → RelL R (List.range n) ys → Fin s' ys news) :
    wpAny (model prog w) A (pyIter (.ref r)) (SrcAny prog w A h₀ L m env elt x scope cl Fin) E s := by
  refine wpAny_pyIter_range hr hsm ?_
  have W0 := Walks.range (prog := prog) (w := w) hh s.heap.objs.size 0 1 n
  have W : Walks prog w A s.heap.objs.size [s.heap.objs.size] [s.heap.objs.size] n (fun i v => i < n ∧ ∃ t, v = .int (i : Int) t) (fun i h => IsRangeIter h s.heap.objs.size (0 + (i : Nat) * 1) ((n : Int) - (i : Nat)) 1) :=
    { sub := W0.sub, frame := W0.frame, done := W0.done, self := W0.self, item := fun i s Q E hi st hQ => W0.item i s Q E hi st fun v h' tk hP => hQ v h' tk ⟨hi, by obtain ⟨t, e⟩ := hP; exact ⟨t, by rw [e]; simp⟩⟩ }
  refine ⟨s.heap.objs.size, n, _, _, news, rfl, W, hsz, (fun i h st => ⟨_, st⟩), ?_, ?_, F.push _, fun p hp => ⟨Heap.get?_push_of_some _ (N p hp).1, (N p hp).2⟩, Nat.ne_of_lt F.ns.lt, next_is_new F, (fun p hp => Nat.ne_of_lt (Heap.lt_size (N p hp).1)), ?_⟩
  · rw [hn, show (0 : Int) + ((0 : Nat) : Int) * 1 = 0 by simp, show (n : Int) - ((0 : Nat) : Int) = n by simp]
    exact Heap.get?_push_size _ rfl
  · show s.heap.objs.size < (s.heap.push _).objs.size
    rw [Heap.size_push]; exact Nat.lt_succ_self _
  · have := rest_rel (prog := prog) (w := w) (A := A) (h₀ := h₀) (L := L) (m := m) (env := env) (elt := elt) (x := x) (scope := scope) (cl := cl) (s := { s with heap := s.heap.push { cls := .type "range_iterator", data := .fields #[rawInt 0, rawInt (Builtin.Range.rangeSize 0 b 1), rawInt 1] } }) (S := fun _ => True) (P := fun i v => i < n ∧ ∃ t, v = Value.int (i : Int) t) (Fin := Fin { s with heap := s.heap.push { cls := .type "range_iterator", data := .fields #[rawInt 0, rawInt (Builtin.Range.rangeSize 0 b 1), rawInt 1] } }) (news := news)
      (List.range n) (fun c v => ∃ u, v = .int (c : Int) u) R (fun i v ⟨h1, u, h2⟩ => ⟨i, by simp [h1], u, h2⟩) (fun a v I oI C oC D m₂ ys h tk E' hm ⟨u, hv⟩ hC hx => by subst hv; exact turn _ a u I oI C oC D m₂ ys h tk E' ⟨_, rfl⟩ (List.mem_range.mp hm) hC hx) (fun ys hy => fin _ ys ⟨_, rfl⟩ hy)
    simpa using this
theorem rel_str1 {f : Nat → Nat} : ∀ {as : List Nat} {vs : List Value}, RelL (fun c v => ∃ t, v = .str ⟨#[f c]⟩ t) as vs → StrsAre vs (as.map fun c => ⟨#[f c]⟩)
  | _, _, .nil => .nil
  | _, _, .cons ⟨t, e⟩ r => by subst e; exact .cons _ t (rel_str1 r)
theorem join_one (f : Nat → Nat) (l : List Nat) : Txt.join (Str.ofString "") (l.map fun c => ⟨#[f c]⟩) = tS (l.map f) := by
  rw [join_flat, List.flatMap_map]
  refine congrArg tS ?_
  induction l with
  | nil => rfl
  | cons c l ih => rw [List.flatMap_cons, ih]; rfl
theorem sum_one (f : Nat → Nat) (l : List Nat) : (((l.map fun c => (⟨#[f c]⟩ : Str)).map (·.length)).sum) = l.length := by
  rw [List.map_map]
  induction l with
  | nil => rfl
  | cons a l ih => rw [List.map_cons, List.sum_cons, ih, List.length_cons]; show 1 + _ = _; lia
end
/-- the told ring: bracket codes -/
def toldP (q sz : Int) (on tw : Nat) (p : Nat) : Nat := if Int.fdiv (((p : Int) + 1) * q) sz > Int.fdiv ((p : Int) * q) sz then tw else on
end Mine
end
section
open PySem PySem.W PySem.Calls PyProof.Rows PySem.Spec
set_option Elab.async false
set_option maxRecDepth 100000
set_option maxHeartbeats 2000000
namespace Mine
structure Fresh (s : Shared) : Prop where
  ok : True
section
variable {α : Type} {M : Model} {A : Around} {E : Value → Shared → Prop} {s : Shared} {h₀ : Heap} {L : Addr} {m : Str → Option Value} {news : List (Addr × Obj)} {o : OsState} {t : Sem α} {Q : α → Shared → Prop}
/-- the state afresh: what is known of it, and nothing of how it came -/
theorem anewJ (F : Fr h₀ L s.heap m) (N : News h₀ L s.heap news) (G : AllBare s.gens) (O : s.os = o)
    (h : ∀ s', Fr h₀ L s'.heap m → News h₀ L s'.heap news → AllBare s'.gens → s'.os = o → Fresh s' → wpJ M A t Q E s') : wpJ M A t Q E s := h s F N G O ⟨trivial⟩
theorem anewA (F : Fr h₀ L s.heap m) (N : News h₀ L s.heap news) (G : AllBare s.gens) (O : s.os = o)
    (h : ∀ s', Fr h₀ L s'.heap m → News h₀ L s'.heap news → AllBare s'.gens → s'.os = o → Fresh s' → wpAny M A t Q E s') : wpAny M A t Q E s := h s F N G O ⟨trivial⟩
theorem isFresh (h : wpAny M A t Q E s) (_ : Fresh s) : wpAny M A t Q E s := h
end
section
variable {prog : Program} {w : World} {A : Around} {E : Value → Shared → Prop} {s : Shared} {h₀ : Heap} {L a : Addr} {news : List (Addr × Obj)} {value slice : Expr} {l : List Value} {n : Nat} {k : Int} {u : Tok} {x : Value} {Q : Value → Shared → Prop}
/-- an item of a written list or tuple of the ledger, at a written place -/
theorem it_led {o : Obj} (N : News h₀ L s.heap news) (hm : (a, o) ∈ news) (ho : o = { cls := .type "list", data := .seq l.toArray n }) (h0 : 0 ≤ k) (h1 : k < 64) (hx : l[k.toNat]? = some x) (h : Q x s)
    (hs : subscripted slice false (.ref a) (.int k u) = operate [.ref a, .int k u] (getItem (.ref a) (.int k u)) := by with_unfolding_all rfl) :
    wpAny (model prog w) A (subscriptTail value slice (.ref a) (.int k u)) Q E s := by
  have hl : s.heap.IsList a l.toArray := ⟨o, (N _ hm).1, by rw [ho], n, by rw [ho]⟩
  exact tail_any hl.typeIs slot_list_getitem.lookup (wpAny_getItem_list hl h0 (by lia) (by simpa using hx) h) hs
theorem it_ledT {o : Obj} (N : News h₀ L s.heap news) (hm : (a, o) ∈ news) (ho : o = { cls := .type "tuple", data := .seq l.toArray n }) (h0 : 0 ≤ k) (h1 : k < 64) (hx : l[k.toNat]? = some x) (h : Q x s)
    (hs : subscripted slice false (.ref a) (.int k u) = operate [.ref a, .int k u] (getItem (.ref a) (.int k u)) := by with_unfolding_all rfl) :
    wpAny (model prog w) A (subscriptTail value slice (.ref a) (.int k u)) Q E s := by
  have ht : IsTup s.heap a l.toArray := ⟨o, (N _ hm).1, by rw [ho], n, by rw [ho]⟩
  have hlt : k.toNat < l.length := by
    rcases Nat.lt_or_ge k.toNat l.length with h | h
    · exact h
    · rw [List.getElem?_eq_none h] at hx; cases hx
  exact item_tupleT ht (by lia) (by lia) (StrLaws.seqIndex_nonneg h0 (by lia)) hx h hs
end
theorem tS_app (a b : List Nat) : tS a ++ tS b = tS (a ++ b) := Str.ext' (by simp [Str.cps_append])
theorem tS_toList (a : List Nat) : (tS a).cps.toList = a := rfl
section
variable {prog : Program} {w : World} {A : Around} {E : Value → Shared → Prop} {s : Shared}
theorem addT {a b : List Nat} {t u : Tok} {Q : Value → Shared → Prop} (ha : a.length ≤ 100000) (hb : b.length ≤ 100000) (h : ∀ t' k, Q (.str (tS (a ++ b)) t') { s with toks := k }) :
    wpAny (model prog w) A (binaryOp .Add (.str (tS a) t) (.str (tS b) u)) Q E s :=
  PyProof.Rows.add_str (fun t' k => by rw [tS_app]; exact h t' k) (by rw [tS_len, tS_len, sizeLine_eq]; lia)
end
end Mine
end
section
open PySem PySem.W PySem.Calls PyProof.Rows PySem.Spec
set_option Elab.async false
set_option maxRecDepth 100000
set_option maxHeartbeats 2000000
namespace Mine
/-- no exception comes -/
abbrev EF : Value → Shared → Prop := fun _ _ => False
section
variable {prog : Program} {w : World} {A : Around} {E : Value → Shared → Prop} {s : Shared} {env : Env} {x : Str} {px pos : Pos} {body : List Stmt}
theorem wpJ_For {iter : Expr} {Q : Flow → Shared → Prop}
    (h : wpAny (model prog w) A (eval iter env) (fun xv s₁ => wpAny (model prog w) A (pyIter xv) (fun it s₂ => codeJ (model prog w) A (.forLoop (.Name x px) it body [] env) (fun r s' => match r with | .ok f => Q f s' | .error _ => False) s₂) EF s₁) EF s)
    (hs : ∀ x, foldedSetIterable iter env x = pure x := by intro _; rfl) :
    wpJ (model prog w) A (exec (.For (.Name x px) iter body [] pos) env) Q E s := by
  rw [exec_For]
  refine wpJ_standAt (wpJ_bindA (wpAny_mono h (fun xv s₁ h₁ => wpJ_bindA (wpAny_of_eq (hs xv) (wpJ_standAt (wpJ_bindA (wpAny_holding (wpAny_mono h₁ (fun it s₂ h₂ => ?_) fun _ _ z => z.elim)))))) fun _ _ z => z.elim))
  unfold runOwn
  refine wpJ_onRaise (wpJ_run rfl (codeJ_mono h₂ fun r s' hr => ?_))
  cases r with
  | ok f => exact hr
  | error e => exact hr.elim
theorem codeJ_turn {it : Value} {R : Result → Shared → Prop}
    (h : wpAny (model prog w) A (pyNext it) (fun r s₁ => match r with
      | none => R (.ok .next) s₁
      | some v => wpAny (model prog w) A (storeName env x v) (fun _ s₂ => wpJ (model prog w) A (execs body env) (fun f s₃ => match f with
        | .next | .cont => codeJ (model prog w) A (.forLoop (.Name x px) it body [] env) R s₃
        | .brk => R (.ok .next) s₃
        | .ret v => R (.ok (.ret v)) s₃) EF s₂) EF s₁) EF s) :
    codeJ (model prog w) A (.forLoop (.Name x px) it body [] env) R s := by
  refine codeJ_of_tree ?_
  show wpJ _ A ((forTurn (.Name x px) it body [] env).onRaise (fun x => do noteFrame x env; theTreesLotGoes x)) _ _ s
  refine wpJ_onRaise (wpJ_mono (E := EF) (Q := fun fin s' => match fin with | .done f => R (.ok f) s' | .again c' => c'.quiet = true ∧ isDec c' = false ∧ codeJ (model prog w) A c' R s') ?_ (fun _ _ q => q) fun _ _ z => z.elim)
  unfold forTurn
  refine wpJ_standAt (wpJ_bindA (wpAny_onRaise (wpAny_mono h (fun r s₁ h₁ => ?_) fun _ _ z => z.elim)))
  cases r with
  | none => exact wpJ_pure ⟨rfl, rfl, codeJ_any (codeAny_block (wpAny_execs_nil h₁))⟩
  | some v =>
    refine wpJ_bindA (wpAny_of_eq (a := ()) rfl ?_)
    refine wpJ_bindA (wpAny_assign_Name (wpAny_mono h₁ (fun _ s₂ h₂ => ?_) fun _ _ z => z))
    refine wpJ_bind (wpJ_mono h₂ (fun f s₃ h₃ => ?_) fun _ _ z => z)
    cases f with
    | next => exact wpJ_pure ⟨rfl, rfl, h₃⟩
    | cont => exact wpJ_pure ⟨rfl, rfl, h₃⟩
    | brk => exact wpJ_pure h₃
    | ret v => exact wpJ_pure h₃
end
/-- how a turn ends -/
def JStep (h₀ : Heap) (L : Addr) (Jn : (Str → Option Value) → List (Addr × Obj) → Prop) (I : Addr) (io : Obj) (D : Addr) (oD : Obj) (os : OsState) (Q : Flow → Shared → Prop) (f : Flow) (s₂ : Shared) : Prop :=
  match f with
  | .ret v => Q (.ret v) s₂
  | .brk => Q .next s₂
  | _ => ∃ m' news', Fr h₀ L s₂.heap m' ∧ News h₀ L s₂.heap (news' ++ [(I, io)]) ∧ (∀ p ∈ news', p.1 ≠ I) ∧ (D, oD) ∈ news' ∧ AllBare s₂.gens ∧ s₂.os = os ∧ Jn m' news'
section
variable {prog : Program} {w : World} {A : Around} {s : Shared} {env : Env} {h₀ : Heap} {x : Str} {px : Pos} {body : List Stmt} {Q : Flow → Shared → Prop}
theorem listJ_loop {vs : List Value} {D : Addr} {oD : Obj} {nD : Nat} {m₀ : Str → Option Value} {news : List (Addr × Obj)} (J : Nat → (Str → Option Value) → List (Addr × Obj) → Prop)
    (hh : A.handled = none) (hx : env.kindOf x = some .local) (hp : (env.scope.kind == .class || (env.scope.kind == .module && env.locals != env.globals)) = false)
    (F : Fr h₀ env.locals s.heap m₀) (N : News h₀ env.locals s.heap news) (hD : (D, oD) ∈ news) (hoD : oD = { cls := .type "list", data := .seq vs.toArray nD }) (hG : AllBare s.gens) (hj : J 0 m₀ news)
    (turn : ∀ (i : Nat) (v : Value) (m₁ : Str → Option Value) (news₁ : List (Addr × Obj)) (s₁ : Shared) (I : Addr) (io : Obj), vs[i]? = some v → J i m₁ news₁ → (D, oD) ∈ news₁ → (∀ p ∈ news₁, p.1 ≠ I) → io.cls = .type "list_iterator" → AllBare s₁.gens → s₁.os = s.os →
      Fr h₀ env.locals s₁.heap (fun y => if y = x then some v else m₁ y) → News h₀ env.locals s₁.heap (news₁ ++ [(I, io)]) →
      wpJ (model prog w) A (execs body env) (JStep h₀ env.locals (J (i + 1)) I io D oD s.os Q) EF s₁)
    (done : ∀ (m₁ : Str → Option Value) (news₁ : List (Addr × Obj)) (s₁ : Shared), J vs.length m₁ news₁ → Fr h₀ env.locals s₁.heap m₁ → News h₀ env.locals s₁.heap news₁ → AllBare s₁.gens → s₁.os = s.os → Q .next s₁) :
    wpAny (model prog w) A (pyIter (.ref D)) (fun it s₂ => codeJ (model prog w) A (.forLoop (.Name x px) it body [] env) (fun r s' => match r with | .ok f => Q f s' | .error _ => False) s₂) EF s := by
  have hl : s.heap.IsList D vs.toArray := ⟨oD, (N _ hD).1, by rw [hoD], nD, by rw [hoD]⟩
  refine wpAny_pyIter_list hl ?_
  have hI₀ : h₀.get? s.heap.objs.size = none := next_is_new F
  have hLI : env.locals ≠ s.heap.objs.size := Nat.ne_of_lt F.ns.lt
  generalize hIe : s.heap.objs.size = I at hI₀ hLI ⊢
  have offI : ∀ p ∈ news, p.1 ≠ I := fun p hp => Nat.ne_of_lt (hIe ▸ Heap.lt_size (N p hp).1)
  have key : ∀ (k i : Nat) (m₁ : Str → Option Value) (news₁ : List (Addr × Obj)) (s₁ : Shared), i + k = vs.length → J i m₁ news₁ → (D, oD) ∈ news₁ → (∀ p ∈ news₁, p.1 ≠ I) → AllBare s₁.gens → s₁.os = s.os → s₁.heap.IsListIter I D i →
      Fr h₀ env.locals s₁.heap m₁ → News h₀ env.locals s₁.heap news₁ →
      codeJ (model prog w) A (.forLoop (.Name x px) (.ref I) body [] env) (fun r s' => match r with | .ok f => Q f s' | .error _ => False) s₁ := by
    intro k
    induction k with
    | zero =>
      intro i m₁ news₁ s₁ hi hJ hDm off hG₁ hos hit F₁ N₁
      have e : i = vs.length := by lia
      subst e
      have hl₁ : SeqAt s₁.heap D vs.toArray := ⟨oD, nD, (N₁ _ hDm).1, by rw [hoD]⟩
      refine codeJ_turn (next_end hh hit hl₁ (by simp) fun h' he => ?_)
      exact done m₁ news₁ _ hJ ⟨F₁.ns.at' fun o e => he _ o hLI e, fun b o e => he b o (fun q => by rw [q, hI₀] at e; cases e) (F₁.keep b o e), F₁.above⟩ (fun p hp => ⟨he _ _ (off p hp) (N₁ p hp).1, (N₁ p hp).2⟩) hG₁ hos
    | succ k ih =>
      intro i m₁ news₁ s₁ hi hJ hDm off hG₁ hos hit F₁ N₁
      have hlt : i < vs.length := by lia
      have hl₁ : SeqAt s₁.heap D vs.toArray := ⟨oD, nD, (N₁ _ hDm).1, by rw [hoD]⟩
      have hv : vs[i]? = some vs[i] := List.getElem?_eq_getElem hlt
      refine codeJ_turn (next_item hit hl₁ (x := vs[i]) (by simp [hlt]) fun h' hit' hs' => ?_)
      have F₂ : Fr h₀ env.locals h' m₁ := ⟨F₁.ns.at' fun o e => hs'.extBut _ o hLI e, fun b o e => hs'.extBut b o (fun q => by rw [q, hI₀] at e; cases e) (F₁.keep b o e), F₁.above⟩
      have N₂ : News h₀ env.locals h' news₁ := fun p hp => ⟨hs'.extBut _ _ (off p hp) (N₁ p hp).1, (N₁ p hp).2⟩
      refine wpAny_storeName_local hx F₂.ns (fun h₂ hn₂ hs₂ => ?_) hp
      have F₃ := F₂.set hn₂ hs₂
      obtain ⟨io, hio, hic, hid⟩ := hit'
      have hio₂ : h₂.get? I = some io := (hs₂.2 I (Ne.symm hLI)).trans hio
      have N₃ : News h₀ env.locals h₂ (news₁ ++ [(I, io)]) := fun p hp => by
        rcases List.mem_append.mp hp with hp | hp
        · exact (N₂.set hs₂) p hp
        · rw [List.mem_singleton.mp hp]; exact ⟨hio₂, Ne.symm hLI, hI₀⟩
      refine wpJ_mono (turn i vs[i] m₁ news₁ { s₁ with heap := h₂, toks := s₁.toks + 1 } I io hv hJ hDm off hic hG₁ hos F₃ N₃) (fun f s₃ h₃ => ?_) fun _ _ z => z
      have fin : (∃ m' news', Fr h₀ env.locals s₃.heap m' ∧ News h₀ env.locals s₃.heap (news' ++ [(I, io)]) ∧ (∀ p ∈ news', p.1 ≠ I) ∧ (D, oD) ∈ news' ∧ AllBare s₃.gens ∧ s₃.os = s.os ∧ J (i + 1) m' news') →
          codeJ (model prog w) A (.forLoop (.Name x px) (.ref I) body [] env) (fun r s' => match r with | .ok f => Q f s' | .error _ => False) s₃ := by
        rintro ⟨m', news', F', N', off', hDm', hG', hos', hJ'⟩
        exact ih (i + 1) m' news' s₃ (by lia) hJ' hDm' off' hG' hos' ⟨io, (N' _ (List.mem_append_right _ (.head _))).1, hic, hid⟩ F' fun p hp => N' p (List.mem_append_left _ hp)
      cases f with
      | ret v => exact h₃
      | brk => exact h₃
      | next => exact fin h₃
      | cont => exact fin h₃
  refine key vs.length 0 m₀ news _ (by lia) hj hD offI hG rfl ?_ (F.push _) fun p hp => ⟨Heap.get?_push_of_some _ (N p hp).1, (N p hp).2⟩
  rw [← hIe]
  exact ⟨_, Heap.get?_push_size _ rfl, rfl, rfl⟩
end
end Mine
end
section
open PySem PySem.W PySem.Calls PyProof.Rows PySem.Spec
set_option Elab.async false
set_option maxRecDepth 100000
set_option maxHeartbeats 2000000
namespace Mine
/-- under the claim's own caller no decoder is under way -/
theorem noD_caller : NoD (⟨.builtin "claim.caller" {}, none, none, [], none⟩ : PySem.Ctx) := ⟨dec_n _ (by decide +kernel), fun _ h => nomatch h⟩
theorem ends_J {prog : Program} {w : World} {t : Sem Fin} {s : Shared} {R : Flow → Shared → Prop} (hreg : s.asleep)
    (h : wpJ (model prog w) callerA t (fun fin s' => ∃ f, fin = .done f ∧ R f s' ∧ AllBare s'.gens) EF s) :
    ∃ n f s' s'', schedN (denote table) prog w n (.single s ⟨t, .builtin "claim.caller" {}, default, []⟩) = .halted (outcomeOf (.ok f)) s'' ∧
      runN (denote table) prog w n s ⟨t, .builtin "claim.caller" {}, default, []⟩ = .halted (outcomeOf (.ok f)) s'' ∧ s''.forget = s'.forget ∧ R f s' := by
  obtain ⟨n, r, s', s'', h1, h2, h3, f, rfl, h4⟩ := wp_halts_full (M := model prog w) (c := .builtin "claim.caller" {}) (t := t) (p := default) (s := s) (R := fun r s' => ∃ f, r = .ok f ∧ R f s') hreg
    (Sem.wp_mono _ _ t (fun fin p' s' hf => by
      obtain ⟨f, rfl, hR, hb⟩ := hf
      exact ⟨⟨f, rfl, hR⟩, leftWithCleanup_false_of_bare hb⟩) (fun _ _ _ z => z.elim) _ _ (h _ default caller_in noD_caller))
  exact ⟨n, f, s', s'', h1, h2, h3, h4⟩
theorem callFrom_J {c : ClaimW} {tree : List Value → Sem Fin} {w : World} {s : Shared} {free : Addr → Prop} {gens : Prop} {kept : Heap → Prop} (hz : s.asleep) (hgens : s.gens = #[])
    (spec : ∀ args, c.pre args = true → WData.layableAll args = true → ∀ ord : List DictEntry → List DictEntry, (∀ l, (ord l).Perm l) →
      ∃ vs s₁, layAllW c.records (classAt s.heap) w.params ord args s = some (vs, s₁) ∧
        wpJ (model c.prog w) callerA (tree vs) (fun fin s' => ∃ f, fin = .done f ∧ (c.Ends s args vs s₁ (.ok f) s' ∧ s'.os = s.os ∧ kept s'.heap) ∧ AllBare s'.gens) EF s₁) :
    c.CallFrom (fun vs => ⟨tree vs, .builtin "claim.caller" {}, default, []⟩) w free gens kept s := by
  intro args h1 h2 ord h3
  obtain ⟨vs, s₁, hlaid, hJ⟩ := spec args h1 h2 ord h3
  have rest := layAllW_rest _ _ _ hlaid
  obtain ⟨n, f, s', s'', hs, hr, hfo, hE, hos, hk⟩ := ends_J (R := fun f s' => c.Ends s args vs s₁ (.ok f) s' ∧ s'.os = s.os ∧ kept s'.heap) (Shared.asleep_of_life rest.2.2.2 hz) hJ
  obtain ⟨eh, _, _, eo, _⟩ := Shared.forget_eq hfo
  have hE := hE.congr eh
  rw [← eo] at hos
  have life : s''.heap.life = s.heap.life := (runN_life _ _ _ hr).trans rest.2.2.2
  refine ⟨vs, s₁, hlaid, n, _, s'', hs, .inl ?_, fun _ i x hx => ?_, eh.symm ▸ hk, by rw [life], Shared.rest_eq hos⟩
  · rcases hE with ⟨v, e, d1, d2, d3, d4, d5⟩ | ⟨e, ob, cls, d0, _⟩
    · refine ⟨v, ?_, d1, d2, d3, fun b o y _ => d4 b o y, d5⟩
      rw [show outcomeOf (.ok f) = outcomeOf (.ok (.ret v)) from congrArg outcomeOf e]
      rfl
    · cases d0
  · rw [hgens] at hx
    simp at hx
/-- what is asked of the law's walk, in J -/
abbrev WalkJ (q : Program) (loose : List Str) (XP : (Str → Option Value) → Heap → Prop) (YP : World → Heap → Prop) (r : RowW) (d : DefRec) (kwd : List (Str × Expr)) : Prop :=
  ∀ (w : World) (s₀ s₁ : Shared) (mg mb : Str → Option Value), Ground q loose r.records XP w s₀ mg mb s₁.heap → YP w s₁.heap → ∀ (a : Addr) (o : Obj) (pm cd doc dV kV : Value), s₁.heap.get? a = some o →
    o.data = .func { docDef d.name d.params d.body d.scope pm cd doc with defaults := dV, kwdefaults := kV } → s₁.heap.CodeRec cd d.name → Dflts mg s₁.heap d.params kwd dV kV → mg d.name = some (.ref a) → s₁.gens = #[] →
    ∀ (args : List WData) (vals : List Value) (as : List Addr), r.claim.pre args = true → WData.layableAll args = true → ReadsAllW r.records (classAt s₀.heap) s₁.heap vals args as → WellAll w.params s₁.heap vals args → (∀ a ∈ as, (a == sysModules) = false) →
      wpJ (model r.prog w) callerA (PySem.call (.ref a) vals) (fun v s' => GoodWG r.claim (classAt s₀.heap) (ExcName.means s₀.heap) args s₁ (.ok (.ret v)) s') EF s₁

theorem holds_J {r : OpenRow} {q : Program} {loose : List Str} {Xt : Shared → Bool} {XP : (Str → Option Value) → Heap → Prop} {α : Type} {Yf : Shared → α} {Ya : World → α} {YP : World → Heap → Prop} {d : DefRec} {kwd : List (Str × Expr)} {N : Nat}
    (left : LeftO r.prog q loose Xt Yf Ya N) (hY : ∀ w s, Yf s = Ya w → YP w s.heap) (hYk : ∀ w h h', YP w h → (∀ b o, h.get? b = some o → h'.get? b = some o) → YP w h')
    (hX : ∀ s, Xt s = true → XP (s.heap.nsMap mainGlobals) s.heap) (hXk : ∀ mg h h', XP mg h → (∀ b o, h.get? b = some o → h'.get? b = some o) → XP mg h')
    (hdef : defOf q r.name = some (d, kwd)) (hp : r.prog.theDef r.name = some (d.params, d.body, d.scope)) (hk : kwWritten? d.params.kwonlyargs d.params.kw_defaults = some kwd) (hRf : ∀ s, Xt s = true → RecFacts r.records s.heap) (hwr : (!r.writes || r.records.isEmpty) = true)
    (k1 : r.wellSaid = true) (ok : (chainsOk q && opensWell r.prog && (frees r.toRowW && r.within.isEmpty)) = true) (hb : r.prog.bare) (hw : r.toRowW.promised)
    (walk : WalkJ q loose XP YP r.toRowW d kwd) : r.Holds := by
  simp only [Bool.and_eq_true] at ok
  obtain ⟨⟨hch, how⟩, hfr, hwi⟩ := ok
  obtain ⟨hsame, hun, haf, hap, hmk⟩ := frees_parts hfr
  have hid := ident_freeW hun haf hap
  have hwi : r.toRowW.claim.within = [] := List.isEmpty_iff.mp hwi
  refine ⟨k1, hw, ⟨hb, how, by show r.toRowW.makers.map _ = []; rw [hmk]; rfl⟩, hw.witness, fun w => ?_⟩
  obtain ⟨l1, l2⟩ := left.behind (XP := fun mg h => XP mg h ∧ RecFacts r.records h) (fun s hs => ⟨hX s hs, hRf s hs⟩) hch w
  refine ⟨l1, fun s' hs' => ?_⟩
  obtain ⟨s₀, e1, e2, s, ran, asl, e3, hns, G, y⟩ := l2 s' hs'
  have RF := G.X.2
  have G0 : Ground q loose [] XP w s (s.heap.nsMap mainGlobals) (s.heap.nsMap builtinsNs) s.heap := { G with X := G.X.1 }
  have e4 : s.gens = #[] := Array.eq_empty_of_size_eq_zero (beq_iff_eq.mp e3)
  have GR : Ground q loose r.toRowW.records XP w s _ _ s.heap := RF.ground G0
  refine ⟨s₀, e1, e2, s, ran, fun n hn => ?_, RF.1, RF.2.1, ?_⟩
  · obtain rfl : n = r.name := by split at hn <;> simp_all
    exact pinned_of_view hns G0 hdef hp hk
  refine callFrom_J (c := r.toRowW.claim) (tree := fun vs => do match ← nsGet mainNs r.name with
    | some f => do ret (← PySem.call f vs)
    | none => unsupported "claim.caller:no-such-global") asl e4 fun args hpre hlay ord hord => ?_
  obtain ⟨⟨vs, s₁⟩, hlaid⟩ := Option.isSome_iff_exists.mp (layAllW_isSome (P := w.params) (ord := ord) GR.has args r.toRowW.args s (pre_splitW hpre).1)
  have kp := layAllW_keeps _ _ _ hlaid
  have rest := layAllW_rest _ _ _ hlaid
  obtain ⟨as, hrd, hin, hold⟩ := reads_layAllW hord _ _ _ hlaid hlay s₁.heap (fun _ _ e => e)
  have L : Laid r.toRowW.records w s s₁ args vs as := ⟨⟨ord, hord, hlaid⟩, hrd, hin, hold, kp, rest.1.trans e4, rest.2.2.1⟩
  have G₁ := GR.keeps hXk kp
  obtain ⟨a, o, pm, cd, doc, dV, kV, h1, h2, h3, h4, h5⟩ := G₁.fn hdef
  refine ⟨vs, s₁, hlaid, wpJ_bindA (wpAny_nsGet G₁.T.g ?_)⟩
  rw [h1]
  refine wpJ_bind (wpJ_mono (walk w s s₁ _ _ G₁ (hYk _ _ _ (hY w s y) kp) a o pm cd doc dV kV h2 h3 h4 h5 (defOf_name hdef ▸ h1) L.gens args vs as hpre hlay L.reads L.well (L.low GR.low)) (fun v s' g => wpJ_pure ⟨_, rfl, ?_⟩) fun _ _ z => z)
  have z := g.laid (c := r.toRowW.claim) hsame hwi hid L
  exact ⟨⟨z.1, z.2.1, fun q => ⟨namesKept_of ran hns _ kp g.2.1.old, noTable hwr q⟩⟩, z.2.2⟩
end Mine
end
section
open PySem PySem.W PySem.Calls PyProof.Rows PySem.Spec
set_option Elab.async false
set_option maxRecDepth 100000
set_option maxHeartbeats 2000000
namespace Mine
/-- the law's own call, in J -/
theorem callJ_law {prog : Program} {w : World} {A : Around} {Q : Value → Shared → Prop} {s : Shared} {name : Str} {params : Arguments} {body : List Stmt} {scope : Scope}
    {pm cd doc : Value} {a : Addr} {o : Obj} {args : List Value} {binds : List (Str × Value)}
    (hroom : A.depth < recursionLimit) (ho : s.heap.get? a = some o) (hdata : o.data = .func (Calls.docDef name params body scope pm cd doc)) (hlim : s.heap.NoLimit) (hcd : s.heap.CodeRec cd name)
    (hbind : bindArgs (Calls.docDef name params body scope pm cd doc) ⟨args, []⟩ = pure binds)
    (hkind : (binds.all fun y => scope.names.lookup y.1 == some .local || scope.names.lookup y.1 == some .cell) = true)
    (hnd : ((cellsFrom 0 scope.names []).map (·.1)).Nodup)
    (h : ∀ h₁ tk cells, Fr s.heap s.heap.objs.size h₁ (bindL (envOfC name scope s.heap.objs.size a cd).kindOf binds fun _ => none) → News s.heap s.heap.objs.size h₁ cells →
      CellsAre (bindC (envOfC name scope s.heap.objs.size a cd).kindOf binds fun _ => none) (cellsFrom (s.heap.objs.size + 1) scope.names []) cells →
      wpJ (model prog w) (A.deeper (envOfC name scope s.heap.objs.size a cd)) (execs body (envOfC name scope s.heap.objs.size a cd))
        (fun f s' => Q (match f with | .ret v => v | _ => .none) s') EF { s with heap := h₁, toks := tk })
    (hco : scope.isCoroutine = false) (hgen : scope.isGenerator = false) (hk : scope.kind = .function) :
    wpJ (model prog w) A (PySem.call (.ref a) args) Q EF s := by
  refine wpJ_call (codeJ_call_function (fd := Calls.docDef name params body scope pm cd doc) hroom ho hdata hco hgen rfl hcd ?_)
  refine wpAny_of_eq hbind (wpAny_newFunctionEnv_cells hk (kindsX hkind _) fun env he s' x => ?_)
  subst he
  refine ⟨hlim.keeps x.toInCall.keep, codeJ_func ?_⟩
  obtain ⟨h₁, tk, rfl, _⟩ := x.done
  obtain ⟨cells, N, Y⟩ := Cl.news (h₀ := s.heap) (Nat.le_refl _) fun n c hm => ⟨x.cell n c (lookup_of_mem_nodup (cellsFrom_names scope.names 0 (s.heap.objs.size + 1) [] [] rfl ▸ hnd) hm), x.above n c hm⟩
  exact wpJ_mono (h h₁ tk cells ⟨x.toInCall.ns, x.toInCall.keep, x.toInCall.fresh⟩ N Y) (fun f s' q => q) fun _ _ z => z.elim

/-- the law came back True: what was old stands, but for the tables of `tabs`, which may have grown -/
theorem good_true {cw : ClaimW} {cl : Str → Option Addr} {mean : ExcName → Option Value} {args : List WData} {tabs : List (Addr × Addr)} {s₁ s' : Shared} (hT : TabsAt tabs s₁.heap)
    (hr : ∀ x, cw.raises args x = false) (hp : cw.post args (.bool true) args = true) (hk : ∀ b o, (ghostOf s₁.heap tabs).get? b = some o → s'.heap.get? b = some o)
    (hg : ∀ q ∈ tabs, ∃ ps, s'.heap.get? q.2 = some (tabObj ps)) (hos : s'.os = s₁.os) (hb : AllBare s'.gens) : GoodWG cw cl mean args s₁ (.ok (.ret (.bool true))) s' := by
  have cases2 : ∀ b o, s₁.heap.get? b = some o → s'.heap.get? b = some o ∨ (isCodeTable s₁.heap b ∧ o = tabObj #[] ∧ ∃ ps, s'.heap.get? b = some (tabObj ps)) := by
    intro b o e
    by_cases hb : b ∈ tabs.map (·.2)
    · obtain ⟨q, hq, rfl⟩ := List.mem_map.mp hb
      obtain ⟨c1, c2⟩ := hT q hq
      rw [e] at c2
      exact .inr ⟨(c1.tab (hT q hq).2).isCodeTable, Option.some.inj c2, hg q hq⟩
    · exact .inl (hk b o (ghost_ne e hb))
  refine ⟨.inl ⟨_, .bool true, [], rfl, hr, .bool true, hp, fun _ => ⟨List.nodup_nil, fun a ha => nomatch ha⟩⟩, ⟨fun b o e => ?_, fun b o e => ?_⟩, hos, hb⟩
  · rcases cases2 b o e with h | ⟨h1, rfl, ps, h3⟩
    · exact .inl h
    · exact .inr (.inl ⟨h1, rfl, #[], ps, rfl, by rw [Array.empty_append]; exact h3⟩)
  · rcases cases2 b o e with h | ⟨_, _, ps, h3⟩
    · exact ⟨o, h⟩
    · exact ⟨_, h3⟩
end Mine
end
section
open PySem PySem.W PySem.Calls PyProof.Rows PySem.Spec
set_option Elab.async false
set_option maxRecDepth 100000
set_option maxHeartbeats 2000000
namespace Mine
theorem ints_filterMap {f : Nat → Option Value} (hf : ∀ k v, f k = some v → ∃ n t, v = .int n t) : ∀ l : List Nat, ∃ ms, IntsAre (l.filterMap f) ms
  | [] => ⟨[], .nil⟩
  | k :: l => by
    obtain ⟨ms, hm⟩ := ints_filterMap hf l
    rw [List.filterMap_cons]
    cases e : f k with
    | none => exact ⟨ms, hm⟩
    | some v =>
      obtain ⟨n, t, rfl⟩ := hf k v e
      exact ⟨n :: ms, .cons n t hm⟩
theorem pick_ints {vs : List Value} {ns : List Int} (hi : IntsAre vs ns) (lo up st : Option Int) : ∃ ms, IntsAre (slicePick vs.toArray lo up st).toList ms := by
  unfold slicePick
  refine ints_filterMap (fun k v e => ?_) _
  obtain ⟨n, t, rfl, _⟩ := hi.at k v (by simpa using e)
  exact ⟨n, t, rfl⟩
section
variable {prog : Program} {w : World} {A : Around} {E : Value → Shared → Prop} {s : Shared} {h₀ : Heap} {L : Addr} {m : Str → Option Value} {news : List (Addr × Obj)}
theorem sum_any {l : Addr} {o : Obj} {its : Array Value} {n : Nat} {Q : Value → Shared → Prop} (hh : A.handled = none) (F : Fr h₀ L s.heap m) (N : News h₀ L s.heap news) (hm : (l, o) ∈ news) (ho : o = { cls := .type "list", data := .seq its n })
    (hi : ∃ ms, IntsAre its.toList ms) (h : ∀ z h' tk t', Fr h₀ L h' m → News h₀ L h' news → Q (.int z t') { s with heap := h', toks := tk }) :
    wpAny (model prog w) A (call (.builtin "sum") [.ref l]) Q E s := by
  obtain ⟨ms, hi⟩ := hi
  have hl : s.heap.IsList l its.toList.toArray := ⟨o, (N _ hm).1, by rw [ho], n, by rw [ho]⟩
  exact sumK hh F N hl hi fun h' tk t' => h _ h' tk t'
end
section
variable {prog : Program} {w : World} {A : Around} {h₀ : Heap} {L : Addr} {m : Str → Option Value} {env : Env} {elt : Expr} {x : Str} {scope : Scope} {cl : List (Str × Addr)} {s : Shared} {S : List (Addr × Obj) → Prop} {P : Nat → Value → Prop} {Fin : List Value → List (Addr × Obj) → Prop} {news : List (Addr × Obj)}
theorem rest_rel2 {α : Type} (as : List α) (isv : α → Value → Prop) (R : α → Value → Prop) (hS : S news) (hP : ∀ i v, i < as.length → P i v → ∃ a, as[i]? = some a ∧ isv a v)
    (turn : ∀ a v I oI C oC D m₂ ys h tk (E' : Value → Shared → Prop), a ∈ as → isv a v → LCg.NsObj oC m₂ → m₂ x = some v → Fr h₀ L h m → News h₀ L h ((I, oI) :: (C, oC) :: (D, LCg.lst ys) :: news) → LCg.Off3 I C D news → ((@Ne Nat I C) ∧ (@Ne Nat I D) ∧ (@Ne Nat C D)) →
      wpAny (model prog w) A (eval elt (compEnvC scope cl C env)) (LCg.CompEnd h₀ L m { s with heap := h, toks := tk } I oI C oC D (LCg.lst ys) (fun _ => True) (fun y news' => news' = news ∧ R a y)) E' { s with heap := h, toks := tk })
    (fin : ∀ ys, RelL R as ys → Fin ys news) : LCg.CompRest prog w A h₀ L m env elt x scope cl s S P Fin as.length 0 [] news := by
  have key : ∀ (j i : Nat) (ys : List Value), i + j = as.length → RelL R (as.take i) ys → LCg.CompRest prog w A h₀ L m env elt x scope cl s S P Fin j i ys news := by
    intro j
    induction j with
    | zero =>
      intro i ys hi hy
      obtain rfl : i = as.length := by lia
      rw [List.take_length] at hy
      exact LCg.CompRest.zero (fin ys hy)
    | succ j ih =>
      intro i ys hi hy
      refine LCg.CompRest.succ fun v I oI C oC D m₂ h tk E' hv hC hx F N off ne => ?_
      obtain ⟨a, ha, hav⟩ := hP i v (by lia) hv
      refine wpAny_mono (turn a v I oI C oC D m₂ ys h tk E' (List.mem_of_getElem? ha) hav hC hx F N off ne) (fun y s₂ hq => ?_) fun _ _ e => e
      obtain ⟨h', tk', nw, e, F', N', off', _, rfl, hy'⟩ := hq
      refine ⟨h', tk', nw, e, F', N', off', hS, ih (i + 1) _ (by lia) ?_⟩
      rw [List.take_add_one, ha]
      exact hy.snoc hy'
  exact key _ 0 [] (by lia) (by rw [List.take_zero]; exact .nil)
end
theorem RelL.get {α : Type} {R : α → Value → Prop} : ∀ {as : List α} {vs : List Value}, RelL R as vs → ∀ (i : Nat) (v : Value), vs[i]? = some v → ∃ a, as[i]? = some a ∧ R a v
  | _, _, .nil, _, _, h => by simp at h
  | _, _, .cons (a := a) r _, 0, v, h => by
    simp only [List.getElem?_cons_zero, Option.some.injEq] at h
    subst h
    exact ⟨a, rfl, r⟩
  | _, _, .cons _ t, i + 1, v, h => by
    simp only [List.getElem?_cons_succ] at h ⊢
    exact t.get i v h
section
variable {prog : Program} {w : World} {A : Around} {E : Value → Shared → Prop} {s : Shared} {h₀ : Heap} {L : Addr} {m : Str → Option Value} {env : Env} {elt : Expr} {x : Str} {scope : Scope} {cl : List (Str × Addr)} {Fin : Shared → List Value → List (Addr × Obj) → Prop} {news : List (Addr × Obj)}
theorem cs_range {r : Addr} {b : Int} {t u v : Tok} {n : Nat} (R : Nat → Value → Prop)
    (hh : A.handled = none) (F : Fr h₀ L s.heap m) (N : News h₀ L s.heap news) (hr : IsRange s.heap r 0 b 1 t u v) (hsm : Builtin.Range.small 0 b 1 = true) (hn : Builtin.Range.rangeSize 0 b 1 = (n : Int)) (hsz : n ≤ sizeLine)
    (turn : ∀ s' (c : Nat) (u : Tok) I oI C oC D m₂ ys h tk (E' : Value → Shared → Prop), (∃ g, s' = { s with heap := g }) → c < n → LCg.NsObj oC m₂ → m₂ x = some (.int (c : Int) u) → Fr h₀ L h m → News h₀ L h ((I, oI) :: (C, oC) :: (D, LCg.lst ys) :: news) → LCg.Off3 I C D news → ((@Ne Nat I C) ∧ (@Ne Nat I D) ∧ (@Ne Nat C D)) →
      wpAny (model prog w) A (eval elt (compEnvC scope cl C env)) (LCg.CompEnd h₀ L m { s' with heap := h, toks := tk } I oI C oC D (LCg.lst ys) (fun _ => True) (fun y news' => news' = news ∧ R c y)) E' { s' with heap := h, toks := tk })
    (fin : ∀ s' ys, (∃ g, s' = { s with heap := g }) → RelL R (List.range n) ys → Fin s' ys news) : LCg.CompSrc prog w A h₀ L m env elt x scope cl Fin (.ref r) s := by
  refine LCg.CompSrc.range hh F N hr hsm hn hsz fun g => ?_
  have := rest_rel2 (prog := prog) (w := w) (A := A) (h₀ := h₀) (L := L) (m := m) (env := env) (elt := elt) (x := x) (scope := scope) (cl := cl) (s := { s with heap := g }) (S := fun _ => True) (P := fun i v => ∃ t, v = .int (0 + (i : Int)) t) (Fin := Fin { s with heap := g }) (news := news)
    (List.range n) (fun c v => ∃ u, v = .int (c : Int) u) R trivial (fun i v hi ⟨u, e⟩ => ⟨i, by rw [List.length_range] at hi; simp [hi], u, by rw [e, Int.zero_add]⟩)
    (fun a v I oI C oC D m₂ ys h tk E' hm ⟨u, hv⟩ hC hx => by subst hv; exact turn _ a u I oI C oC D m₂ ys h tk E' ⟨_, rfl⟩ (List.mem_range.mp hm) hC hx) (fun ys hy => fin _ ys ⟨_, rfl⟩ hy)
  rwa [List.length_range] at this
theorem cs_ledger {α : Type} {ax : Addr} {its : List Value} {k : Nat} {as : List α} (isv R : α → Value → Prop)
    (hh : A.handled = none) (F : Fr h₀ L s.heap m) (N : News h₀ L s.heap news) (hm : (ax, ({ cls := .type "list", data := .seq its.toArray k } : Obj)) ∈ news) (hsz : its.length ≤ sizeLine) (hrel : RelL isv as its)
    (turn : ∀ s' (a : α) (v : Value) I oI C oC D m₂ ys h tk (E' : Value → Shared → Prop), (∃ g, s' = { s with heap := g }) → a ∈ as → isv a v → LCg.NsObj oC m₂ → m₂ x = some v → Fr h₀ L h m → News h₀ L h ((I, oI) :: (C, oC) :: (D, LCg.lst ys) :: news) → LCg.Off3 I C D news → ((@Ne Nat I C) ∧ (@Ne Nat I D) ∧ (@Ne Nat C D)) →
      wpAny (model prog w) A (eval elt (compEnvC scope cl C env)) (LCg.CompEnd h₀ L m { s' with heap := h, toks := tk } I oI C oC D (LCg.lst ys) (fun _ => True) (fun y news' => news' = news ∧ R a y)) E' { s' with heap := h, toks := tk })
    (fin : ∀ s' ys, (∃ g, s' = { s with heap := g }) → RelL R as ys → Fin s' ys news) : LCg.CompSrc prog w A h₀ L m env elt x scope cl Fin (.ref ax) s := by
  refine LCg.CompSrc.ledger hh F N hm (by simpa using hsz) fun g => ?_
  have := rest_rel2 (prog := prog) (w := w) (A := A) (h₀ := h₀) (L := L) (m := m) (env := env) (elt := elt) (x := x) (scope := scope) (cl := cl) (s := { s with heap := g }) (S := LCg.SrcAt h₀ ax its.toArray) (P := fun i v => its.toArray[i]? = some v) (Fin := Fin { s with heap := g }) (news := news)
    as isv R (.inr ⟨_, hm, rfl, _, rfl⟩) (fun i v hi e => hrel.get i v (by simpa using e))
    (fun a v I oI C oC D m₂ ys h tk E' ha hv hC hx => turn _ a v I oI C oC D m₂ ys h tk E' ⟨_, rfl⟩ ha hv hC hx) (fun ys hy => fin _ ys ⟨_, rfl⟩ hy)
  rw [← hrel.length] at this
  simpa using this
end
theorem fmod_bd (z : Int) : 0 ≤ Int.fmod z (10 ^ 6) ∧ Int.fmod z (10 ^ 6) < 1000000 := ⟨Int.fmod_nonneg_of_pos z (by decide), Int.fmod_lt_of_pos z (by decide)⟩
end Mine
end
section
open PySem PySem.W PySem.Calls PyProof.Rows PySem.Spec
set_option Elab.async false
set_option maxRecDepth 100000
set_option maxHeartbeats 2000000
namespace Mine
section
variable {M : Model} {A : Around} {E : Value → Shared → Prop} {s : Shared} {env : Env}
theorem wpJ_BinOp {l r : Expr} {op : Operator} {pos : Pos} {Q : Value → Shared → Prop}
    (h : wpJ M A (eval l env) (fun a s₁ => wpJ M A (eval r env) (fun b s₂ => wpAny M A (binaryOp op a b) Q E s₂) E s₁) E s) : wpJ M A (eval (.BinOp l op r pos) env) Q E s := by
  rw [eval_BinOp]
  exact wpJ_bind (wpJ_mono h (fun a s₁ h₁ => wpJ_bind (wpJ_holding (wpJ_mono h₁ (fun b s₂ h₂ => wpJ_standAt (wpJ_any (wpAny_operating h₂))) fun _ _ z => z))) fun _ _ z => z)
theorem wpJ_spliced1 {e : Expr} {pos : Pos} {Q : List Value → Shared → Prop} (h : wpJ M A (eval e env) (fun v s₁ => Q [v] s₁) E s)
    (he : starEach [e] env = [(false, eval e env)] := by rfl) : wpJ M A (spliced (backTo pos (starEach [e] env))) Q E s := by
  rw [he]
  show wpJ M A (spliced [(false, eval e env)]) Q E s
  rw [spliced]
  refine wpJ_bind (wpJ_mono h (fun v s₁ h₁ => ?_) fun _ _ z => z)
  simp only [Bool.false_eq_true, if_false]
  exact wpJ_bind (wpJ_pure (wpJ_bind (wpJ_holding (wpJ_any (wpAny_of_eq (a := []) rfl (wpJ_pure h₁))))))
theorem wpJ_callWith_J1 {Q : Value → Shared → Prop} {pos : Pos} {a : Addr} {e : Expr}
    (h : wpJ M A (spliced (backTo pos (starEach [e] env))) (fun vs s₁ => CallAt s₁.heap a (wpJ M A (call (.ref a) vs) Q E s₁)) E s)
    (he : starEach [e] env = [(false, eval e env)] := by rfl) : wpJ M A (callWith pos (.ref a) [] (backTo pos (starEach [e] env)) []) Q E s := by
  refine wpJ_callWith ?_
  rw [he] at h ⊢
  show wpJ M A (evalArgs (.ref a) true [(false, eval e env)] []) _ E s
  unfold evalArgs
  show wpJ M A (spliced [(false, eval e env)] >>= _) _ E s
  refine wpJ_bind (wpJ_mono h (fun vs s₁ h₁ => ?_) fun _ _ z => z)
  exact wpJ_holding (wpJ_bind (wpJ_pure (wpJ_bind (wpJ_pure (wpJ_pure ⟨h₁.fn, h₁.go⟩)))))
theorem wpJ_If {test : Expr} {body orelse : List Stmt} {pos : Pos} {Q : Flow → Shared → Prop}
    (h : wpJ M A (isTrue test env (eval test env)) (fun b s₁ => if b then wpJ M A (execs body env) Q E s₁ else wpJ M A (execs orelse env) Q E s₁) E s) :
    wpJ M A (exec (.If test body orelse pos) env) Q E s := by
  rw [exec_If]
  refine wpJ_standAt (wpJ_bind (wpJ_mono h (fun b s₁ h₁ => ?_) fun _ _ z => z))
  cases b <;> exact h₁
theorem wpJ_isTrue_or2 {a b : Expr} {pos : Pos} {wh : Sem Value} {Q : Bool → Shared → Prop}
    (h : wpAny M A (isTrue a env (eval a env)) (fun x s₁ => if x then Q true s₁ else wpJ M A (isTrue b env (eval b env)) Q E s₁) E s) :
    wpJ M A (isTrue (.BoolOp .Or [a, b] pos) env wh) Q E s := by
  show wpJ M A (allTrue .Or [a, b] env) Q E s
  unfold allTrue
  refine wpJ_bindA (wpAny_mono h (fun x s₁ h₁ => ?_) fun _ _ z => z)
  cases x with
  | true => exact wpJ_pure h₁
  | false =>
    show wpJ M A (allTrue .Or [b] env) Q E s₁
    unfold allTrue
    refine wpJ_bind (wpJ_mono h₁ (fun y s₂ h₂ => ?_) fun _ _ z => z)
    cases y with
    | true => exact wpJ_pure h₂
    | false => exact wpJ_any (wpAny_of_eq (a := false) rfl h₂)
theorem wpJ_isTrue_cmp {l r : Expr} {op : CmpOp} {pos : Pos} {wh : Sem Value} {Q : Bool → Shared → Prop}
    (h : wpJ M A (eval l env) (fun a s₁ => wpAny M A (markedBehindIn op r (eval r env)) (fun b s₂ => wpAny M A (compareOp op a b) (fun c s₃ => wpAny M A (truthy c) Q E s₃) E s₂) E s₁) E s) :
    wpJ M A (isTrue (.Compare l [op] [r] pos) env wh) Q E s := by
  rw [isTrue_Compare1]
  refine wpJ_bind (wpJ_mono h (fun a s₁ h₁ => wpJ_bindA (wpAny_holding (wpAny_mono h₁ (fun b s₂ h₂ => wpJ_standAt (wpJ_bindA (wpAny_operating (wpAny_mono h₂ (fun c s₃ h₃ => wpJ_any (wpAny_holding h₃)) fun _ _ z => z)))) fun _ _ z => z))) fun _ _ z => z)
end
end Mine
end
section
open PySem PySem.W PySem.Calls PyProof.Rows PySem.Spec
set_option Elab.async false
set_option maxRecDepth 100000
set_option maxHeartbeats 2000000
namespace Mine
def cut {α : Type} (l : List α) (i j : Nat) : List α := (l.drop i).take (j - i)
def rep {α : Type} (n : Nat) (l : List α) : List α := (List.replicate n l).flatten
theorem cut_len {l : List Nat} {i j : Nat} (h : j ≤ l.length) : (cut l i j).length = j - i := by
  unfold cut
  rw [List.length_take, List.length_drop]
  lia
theorem rep_len (n : Nat) (l : List Nat) : (rep n l).length = n * l.length := by
  unfold rep
  induction n with
  | zero => simp
  | succ n ih => rw [List.replicate_succ, List.flatten_cons, List.length_append, ih, Nat.succ_mul]; lia
theorem rep_mem {n : Nat} {l : List Nat} {S : List Nat} (h : ∀ c ∈ l, c ∈ S) : ∀ c ∈ rep n l, c ∈ S := fun c hc => by
  unfold rep at hc
  obtain ⟨x, hx, hcx⟩ := List.mem_flatten.mp hc
  rw [List.eq_of_mem_replicate hx] at hcx
  exact h c hcx
theorem fold_rep (c : Array Nat) : ∀ (k : Nat) (acc : Array Nat), ((List.replicate k c).foldl (· ++ ·) acc).toList = acc.toList ++ rep k c.toList
  | 0, acc => by simp [rep]
  | k + 1, acc => by
    rw [List.replicate_succ, List.foldl_cons, fold_rep c k, Array.toList_append, List.append_assoc]
    congr 1
theorem mul_tS (l : List Nat) (n : Nat) : Txt.mul (tS l) (n : Int) = tS (rep n l) := by
  have key : (⟨(List.replicate ((n : Int)).toNat (tS l).cps).foldl (· ++ ·) #[]⟩ : Str) = tS (rep n l) := by
    refine Str.ext' ?_
    rw [Int.toNat_natCast]
    apply Array.toList_inj.mp
    rw [fold_rep]
    simp
  unfold Txt.mul
  split
  · rw [show n = 0 by lia]; rfl
  · split
    · rename_i h
      rw [← key]
      rcases Bool.or_eq_true_iff.mp h with h | h
      · have : n = 1 := by have := eq_of_beq h; lia
        subst this
        refine Str.ext' ?_
        simp
      · have : l = [] := by
          have h2 := eq_of_beq h
          rw [tS_len] at h2
          exact List.eq_nil_of_length_eq_zero h2
        subst this
        rw [key]
        refine Str.ext' ?_
        have : rep n ([] : List Nat) = [] := List.eq_nil_of_length_eq_zero (by rw [rep_len]; simp)
        rw [this]
    · exact key
theorem slice_tS {l : List Nat} {i j : Int} (h0 : 0 ≤ i) (h1 : i ≤ j) (h2 : j ≤ l.length) : Txt.slice (tS l) (some i) (some j) = tS (cut l i.toNat j.toNat) := by
  have := eq_of_beq (slice_closesL (x := tS l) h0 h1 (by rw [tS_len]; exact h2))
  rw [this]
  unfold cut
  rw [show (j - i).toNat = j.toNat - i.toNat by lia]
theorem slice_to {l : List Nat} {j : Int} (h0 : 0 ≤ j) (h2 : j ≤ l.length) : Txt.slice (tS l) none (some j) = tS (l.take j.toNat) := by
  have := eq_of_beq (slice_closes_toL (x := tS l) h0 (by rw [tS_len]; exact h2))
  rw [this]
  simp
theorem slice_from {l : List Nat} {i : Int} (h0 : 0 ≤ i) (h2 : i ≤ l.length) : Txt.slice (tS l) (some i) none = tS (l.drop i.toNat) := by
  have := eq_of_beq (slice_closes_fromL (x := tS l) (b := l.length) h0 (by rw [tS_len]; exact h2) (by rw [tS_len]))
  rw [this]
  have e : (((l.length : Int) - i).toNat) = l.length - i.toNat := by lia
  rw [e, List.take_of_length_le (by simp)]
section
variable {prog : Program} {w : World} {A : Around} {E : Value → Shared → Prop} {s : Shared} {value slice : PySem.Expr} {h₀ : Heap} {L : Addr} {m : Str → Option Value} {news : List (Addr × Obj)} {l : List Nat} {t : Tok} {Q : Value → Shared → Prop}
theorem mulT {i : Int} {u : Tok} (h0 : 0 ≤ i) (hn : i ≤ 16) (hl : l.length ≤ 100000) (h : ∀ t' k, Q (.str (tS (rep i.toNat l)) t') { s with toks := k }) :
    wpAny (model prog w) A (binaryOp .Mult (.str (tS l) t) (.int i u)) Q E s := by
  obtain ⟨n, rfl⟩ := Int.eq_ofNat_of_zero_le h0
  refine SB.mul (mulOk_of 100000 16 (by rw [tS_len]; exact hl) (by lia) (by lia) (by decide) (by decide)) fun t' k => ?_
  rw [mul_tS]
  exact h t' k
theorem len_tS (hl : l.length ≤ 100000) (h : ∀ t' k, Q (.int (l.length : Int) t') { s with toks := k }) : wpAny (model prog w) A (call (.builtin "len") [.str (tS l) t]) Q E s := by
  refine PyProof.Rows.len_str (by rw [tS_len]; lia) ?_
  rw [tS_len]
  exact h _ _
theorem eqT {a b : List Nat} {u : Tok} (h : Q (.bool (a == b)) s) : wpAny (model prog w) A (compareOp .Eq (.str (tS a) t) (.str (tS b) u)) Q E s := P.eq_str h
theorem cutT {i j : Int} {ui uj : Tok} (hF : Fr h₀ L s.heap m) (hN : News h₀ L s.heap news) (h0 : 0 ≤ i) (h1 : i ≤ j) (h2 : j ≤ l.length) (hl : l.length ≤ 100000)
    (h : ∀ h' t' k, Fr h₀ L h' m → News h₀ L h' news → Q (.str (tS (cut l i.toNat j.toNat)) t') { s with heap := h', toks := k })
    (hs : subscripted slice false (.str (tS l) t) (.ref s.heap.objs.size) = operate [.ref s.heap.objs.size, .str (tS l) t] (getItem (.str (tS l) t) (.ref s.heap.objs.size)) := by with_unfolding_all rfl)
    (ht : ∀ r, letTemporaryGo value (.str (tS l) t) r = pure () := by intro _; with_unfolding_all rfl) :
    wpAny (model prog w) A (subscriptTail value slice (.str (tS l) t) (.ref s.heap.objs.size)) Q E { s with heap := s.heap.push { cls := .type "slice", data := .fields #[.int i ui, .int j uj, .none] } } :=
  slice_strN_ss hF hN (fun h' t' k F N => by rw [slice_tS h0 h1 h2]; exact h h' t' k F N) hs ht (by rw [tS_len, sizeLine_eq]; lia)
end
theorem named_cons {m g : Str → Option Value} {a : Str} {va : Value} (h : m a = some va) (e : m = g) : m = fun y => if y = a then some va else g y := by
  funext y
  by_cases h2 : y = a
  · rw [h2, h]; simp
  · simp only [if_neg h2, e]
theorem find_next {α : Type} {f : Nat → Option α} {i : Nat} (h : (List.range i).findSome? f = none) (hi : f i = none) : (List.range (i + 1)).findSome? f = none := by
  rw [List.range_succ, List.findSome?_append, h]
  simp [hi]
theorem find_here {α : Type} {f : Nat → Option α} {i n : Nat} {r : α} (h : (List.range i).findSome? f = none) (hi : f i = some r) (hn : i < n) : (List.range n).findSome? f = some r := by
  obtain ⟨d, rfl⟩ : ∃ d, n = (i + 1) + d := ⟨n - (i + 1), by lia⟩
  rw [List.range_add, List.findSome?_append, List.range_succ, List.findSome?_append, h]
  simp [hi]
end Mine
end
section
set_option maxRecDepth 100000
set_option maxHeartbeats 2000000
namespace Mine
/-! words of two letters and their inverses -/
abbrev Lt := Bool × Bool
def iv (c : Lt) : Lt := (c.1, !c.2)
def eqL : Lt → Lt → Bool
  | (a, b), (c, d) => bif a then (bif c then (bif b then d else !d) else false) else (bif c then false else (bif b then d else !d))
theorem eqL_iff {a b : Lt} : eqL a b = true ↔ a = b := by
  obtain ⟨a1, a2⟩ := a
  obtain ⟨b1, b2⟩ := b
  revert a1 a2 b1 b2
  decide
def sA (s : List Lt) (c : Lt) : List Lt := match s with
  | [] => [c]
  | t :: r => bif eqL t (iv c) then r else c :: t :: r
def run (s w : List Lt) : List Lt := w.foldl sA s
def invW (w : List Lt) : List Lt := w.reverse.map iv
def redA (w : List Lt) : List Lt := (run [] w).reverse
def ringG : Nat → List Lt → List Lt
  | 0, l => l
  | f + 1, l => if 1 < l.length ∧ eqL (l.headD (false, false)) (iv (l.getLastD (false, false))) = true then ringG f l.tail.dropLast else l
def ringA (l : List Lt) : List Lt := ringG l.length l
theorem lastG (a b : Lt) (l : List Lt) : (a :: (l ++ [b])).getLastD (false, false) = b := by rw [← List.cons_append, List.getLastD_concat]
theorem ends3 (l : List Lt) : l = [] ∨ (∃ a, l = [a]) ∨ ∃ a m b, l = a :: (m ++ [b]) := by
  match l with
  | [] => exact .inl rfl
  | [a] => exact .inr (.inl ⟨a, rfl⟩)
  | a :: b :: r => exact .inr (.inr ⟨a, (b :: r).dropLast, (b :: r).getLast (by simp), by rw [List.dropLast_concat_getLast]⟩)
def eqW : List Lt → List Lt → Bool
  | [], [] => true
  | a :: x, b :: y => bif eqL a b then eqW x y else false
  | _, _ => false
theorem eqW_eq : ∀ {x y : List Lt}, eqW x y = true → x = y
  | [], [], _ => rfl
  | a :: x, b :: y, h => by
    unfold eqW at h
    cases e : eqL a b with
    | false => rw [e] at h; cases h
    | true => rw [e] at h; rw [eqL_iff.mp e, eqW_eq (x := x) (y := y) h]
  | [], _ :: _, h => by cases h
  | _ :: _, [], h => by cases h
theorem eqW_self : ∀ (x : List Lt), eqW x x = true
  | [] => rfl
  | a :: x => by
    unfold eqW
    rw [eqL_iff.mpr rfl]
    exact eqW_self x
def pre : List Lt → List Lt → Bool
  | [], _ => true
  | a :: x, b :: y => bif eqL a b then pre x y else false
  | _ :: _, [] => false
theorem pre_eq : ∀ {x y : List Lt}, pre x y = true → ∃ q, y = x ++ q
  | [], y, _ => ⟨y, rfl⟩
  | a :: x, b :: y, h => by
    unfold pre at h
    cases e : eqL a b with
    | false => rw [e] at h; cases h
    | true =>
      rw [e] at h
      obtain ⟨q, hq⟩ := pre_eq (x := x) (y := y) h
      exact ⟨q, by rw [eqL_iff.mp e, hq]; rfl⟩
  | _ :: _, [], h => by cases h
def inf (x : List Lt) : List Lt → Bool
  | [] => pre x []
  | b :: y => bif pre x (b :: y) then true else inf x y
theorem inf_eq {x : List Lt} : ∀ {y : List Lt}, inf x y = true → ∃ p q, y = p ++ x ++ q
  | [], h => by
    obtain ⟨q, hq⟩ := pre_eq (show pre x [] = true from h)
    exact ⟨[], q, hq⟩
  | b :: y, h => by
    unfold inf at h
    cases e : pre x (b :: y) with
    | true =>
      obtain ⟨q, hq⟩ := pre_eq e
      exact ⟨[], q, hq⟩
    | false =>
      rw [e] at h
      obtain ⟨p, q, hq⟩ := inf_eq (x := x) (y := y) h
      exact ⟨b :: p, q, by rw [hq]; rfl⟩

/-! the ring of two rows; its parting -/
def rinA (a b : List Lt) : List Lt := ringA (redA (a ++ b ++ invW a ++ invW b))
def pA3 (R M : List Lt) (half back s d1 d2 : Nat) : Option (List Lt × List Lt) :=
  bif eqW (cut R (s + d1 + half) (s + d1 + d2 + half)) (cut M (back - (s + d1 + d2)) (back - (s + d1))) && eqW (cut R (s + d1 + d2 + half) (s + half + half)) (cut M (back - (s + half)) (back - (s + d1 + d2))) then
    some (cut R s (s + d1 + d2), cut R (s + d1 + d2) (s + half) ++ cut M (back - (s + d1)) (back - s)) else none
def pA2 (R M : List Lt) (half back s d1 : Nat) : Option (List Lt × List Lt) :=
  bif eqW (cut R (s + half) (s + d1 + half)) (cut M (back - (s + d1)) (back - s)) then (List.range (half + 1 - d1)).findSome? (pA3 R M half back s d1) else none
def pA1 (R M : List Lt) (half back s : Nat) : Option (List Lt × List Lt) := (List.range (half + 1)).findSome? (pA2 R M half back s)
def partedA (r : List Lt) (k : Nat) : Option (List Lt × List Lt) :=
  (List.range (r.length / 2)).findSome? (pA1 (rep (2 * k) r) (invW (rep (2 * k) r)) ((rep (2 * k) r).length / 4) (rep (2 * k) r).length)

/-! the same in numbers, for a ring gone round three times -/
def enL (c : Lt) : Nat := bif c.1 then (bif c.2 then 3 else 2) else (bif c.2 then 1 else 0)
def enc : List Lt → Nat
  | [] => 0
  | c :: w => enL c + 4 * enc w
def cutN (N i j : Nat) : Nat := N / 4 ^ i % 4 ^ (j - i)
def allB (f : Nat → Bool) : Nat → Bool
  | 0 => true
  | n + 1 => bif f n then allB f n else false
theorem allB_at {f : Nat → Bool} : ∀ {n : Nat}, allB f n = true → ∀ i, i < n → f i = true
  | 0, _, i, hi => absurd hi (Nat.not_lt_zero i)
  | n + 1, h, i, hi => by
    unfold allB at h
    cases e : f n with
    | false => rw [e] at h; cases h
    | true =>
      rw [e] at h
      by_cases hin : i = n
      · rw [hin]; exact e
      · exact allB_at (n := n) h i (by lia)
theorem enL_lt (c : Lt) : enL c < 4 := by
  obtain ⟨a, b⟩ := c
  cases a <;> cases b <;> decide
theorem enc_drop : ∀ (w : List Lt) (i : Nat), enc (w.drop i) = enc w / 4 ^ i
  | w, 0 => by simp
  | [], i + 1 => by simp [enc]
  | c :: w, i + 1 => by
    have h := enL_lt c
    rw [List.drop_succ_cons, enc_drop w i, Nat.pow_succ, Nat.mul_comm, ← Nat.div_div_eq_div_mul]
    congr 1
    show enc w = (enL c + 4 * enc w) / 4
    lia
theorem enc_take : ∀ (w : List Lt) (j : Nat), enc (w.take j) = enc w % 4 ^ j
  | w, 0 => by simp [enc, Nat.mod_one]
  | [], j + 1 => by simp [enc]
  | c :: w, j + 1 => by
    have h := enL_lt c
    rw [List.take_succ_cons]
    show enL c + 4 * enc (w.take j) = (enL c + 4 * enc w) % 4 ^ (j + 1)
    rw [enc_take w j, Nat.pow_succ, Nat.mul_comm (4 ^ j) 4, Nat.mod_mul]
    rw [show (enL c + 4 * enc w) % 4 = enL c by lia, show (enL c + 4 * enc w) / 4 = enc w by lia]
theorem enc_cut (w : List Lt) (i j : Nat) : enc (cut w i j) = cutN (enc w) i j := by
  unfold cut cutN
  rw [enc_take, enc_drop]
theorem cut_no {R M : List Lt} {i j k l : Nat} (h : Nat.beq (cutN (enc R) i j) (cutN (enc M) k l) = false) : eqW (cut R i j) (cut M k l) = false := by
  cases e : eqW (cut R i j) (cut M k l) with
  | false => rfl
  | true =>
    rw [← enc_cut, ← enc_cut, eqW_eq e] at h
    rw [Nat.beq_refl] at h
    cases h
def no3 (R M half back s d1 d2 : Nat) : Bool :=
  bif Nat.beq (cutN R (s + d1 + half) (s + d1 + d2 + half)) (cutN M (back - (s + d1 + d2)) (back - (s + d1))) then
    !Nat.beq (cutN R (s + d1 + d2 + half) (s + half + half)) (cutN M (back - (s + half)) (back - (s + d1 + d2))) else true
def no2 (R M half back s d1 : Nat) : Bool :=
  bif Nat.beq (cutN R (s + half) (s + d1 + half)) (cutN M (back - (s + d1)) (back - s)) then allB (no3 R M half back s d1) (half + 1 - d1) else true
def noN (R M half back n : Nat) : Bool := allB (fun s => allB (no2 R M half back s) (half + 1)) n
theorem find_none {α : Type} {f : Nat → Option α} {n : Nat} (h : ∀ i, i < n → f i = none) : (List.range n).findSome? f = none := by
  rw [List.findSome?_eq_none_iff]
  intro i hi
  exact h i (List.mem_range.mp hi)
theorem noN_none {R M : List Lt} {half back n : Nat} (h : noN (enc R) (enc M) half back n = true) : (List.range n).findSome? (pA1 R M half back) = none := by
  refine find_none fun s hs => ?_
  have h1 := allB_at h s hs
  refine find_none fun d1 hd1 => ?_
  have h2 := allB_at h1 d1 hd1
  unfold no2 at h2
  unfold pA2
  cases e : Nat.beq (cutN (enc R) (s + half) (s + d1 + half)) (cutN (enc M) (back - (s + d1)) (back - s)) with
  | false => rw [cut_no e]; rfl
  | true =>
    rw [e] at h2
    cases eqW (cut R (s + half) (s + d1 + half)) (cut M (back - (s + d1)) (back - s)) with
    | false => rfl
    | true =>
      refine find_none fun d2 hd2 => ?_
      have h3 := allB_at h2 d2 hd2
      unfold no3 at h3
      unfold pA3
      cases e2 : Nat.beq (cutN (enc R) (s + d1 + half) (s + d1 + d2 + half)) (cutN (enc M) (back - (s + d1 + d2)) (back - (s + d1))) with
      | false => rw [cut_no e2]; rfl
      | true =>
        rw [e2] at h3
        have e3 : Nat.beq (cutN (enc R) (s + d1 + d2 + half) (s + half + half)) (cutN (enc M) (back - (s + half)) (back - (s + d1 + d2))) = false := by
          have h4 : (!Nat.beq (cutN (enc R) (s + d1 + d2 + half) (s + half + half)) (cutN (enc M) (back - (s + half)) (back - (s + d1 + d2)))) = true := h3
          simpa using h4
        rw [cut_no e3, Bool.and_false]
        rfl
def dec : Nat → Nat → List Lt
  | 0, _ => []
  | k + 1, n => (Nat.beq (n / 2 % 2) 1, Nat.beq (n % 2) 1) :: dec k (n / 4)
theorem dec_enc : ∀ (w : List Lt), dec w.length (enc w) = w
  | [] => rfl
  | (a, b) :: w => by
    have ih := dec_enc w
    have e1 : (enL (a, b) + 4 * enc w) / 4 = enc w := by
      have := enL_lt (a, b)
      lia
    show (Nat.beq ((enL (a, b) + 4 * enc w) / 2 % 2) 1, Nat.beq ((enL (a, b) + 4 * enc w) % 2) 1) :: dec w.length ((enL (a, b) + 4 * enc w) / 4) = _
    rw [e1, ih]
    congr 1
    cases a <;> cases b
    · rw [show enL (false, false) = 0 from rfl, show (0 + 4 * enc w) / 2 % 2 = 0 by lia, show (0 + 4 * enc w) % 2 = 0 by lia]; rfl
    · rw [show enL (false, true) = 1 from rfl, show (1 + 4 * enc w) / 2 % 2 = 0 by lia, show (1 + 4 * enc w) % 2 = 1 by lia]; rfl
    · rw [show enL (true, false) = 2 from rfl, show (2 + 4 * enc w) / 2 % 2 = 1 by lia, show (2 + 4 * enc w) % 2 = 0 by lia]; rfl
    · rw [show enL (true, true) = 3 from rfl, show (3 + 4 * enc w) / 2 % 2 = 1 by lia, show (3 + 4 * enc w) % 2 = 1 by lia]; rfl
theorem enc_lt : ∀ (w : List Lt), enc w < 4 ^ w.length
  | [] => by decide
  | c :: w => by
    have h := enc_lt w
    have h2 := enL_lt c
    rw [List.length_cons, Nat.pow_succ]
    show enL c + 4 * enc w < _
    lia
def rings : List (List Lt) :=
  [39, 54, 99, 114, 141, 156, 201, 216].map (dec 4) ++ [151, 214, 604, 856, 1411, 1474, 2416, 2621, 2684, 3424, 3881, 3944].map (dec 6) ++
  [2396, 3416, 9584, 9852, 10620, 10716, 13664, 14184, 15720, 15768, 22019, 22274, 23055, 24330, 26562, 30339, 35196, 38336, 38706, 38856, 39408, 40386, 40906, 42444, 42480, 42994, 43516, 52584, 54656, 54819, 54924, 55683, 55951, 56736, 62856, 62880, 63139, 64936].map (dec 8) ++
  [40792, 55900, 153820, 154840, 155488, 156508, 160600, 163688, 171992, 219292, 219760, 220312, 221788, 223868, 225880, 252572, 563056, 579184, 580220, 612412, 612592, 614620, 616700, 618712, 628528, 644656, 645692, 677824, 678140, 680924, 681932, 685016, 686024, 694256, 825184, 827240, 841312, 875560, 875680, 876700, 880792, 883880, 890656, 892712, 906784, 1005184, 1006760, 1008284, 1009292, 1012376, 1013384, 1037984].map (dec 10)
def memR (x : List Lt) : List (List Lt) → Bool
  | [] => false
  | y :: l => bif eqW x y then true else memR x l
theorem memR_mem {x : List Lt} : ∀ {l : List (List Lt)}, memR x l = true → x ∈ l
  | [], h => by cases h
  | y :: l, h => by
    unfold memR at h
    cases e : eqW x y with
    | true => rw [eqW_eq e]; exact .head _
    | false => rw [e] at h; exact .tail _ (memR_mem (l := l) h)
def isE : List Lt → Bool
  | [] => true
  | _ => false
def okP (r : List Lt) : Option (List Lt × List Lt) → Bool
  | none => false
  | some (x, y) => !isE x && !isE y && Nat.ble x.length 100 && Nat.ble y.length 100 && Nat.beq (rinA x y).length r.length && inf (rinA x y) (r ++ r)
def okR (r : List Lt) : Bool := !isE r && Nat.ble r.length 100 && okP r (partedA r 1) && noN (enc (rep (2 * 3) r)) (enc (invW (rep (2 * 3) r))) ((rep (2 * 3) r).length / 4) (rep (2 * 3) r).length (r.length / 2)
def okW (size : Nat) (l : List Lt) : Bool :=
  bif eqW (redA (l.take size ++ l.drop size)) (redA (l.drop size ++ l.take size)) then isE (rinA (l.take size) (l.drop size)) else memR (rinA (l.take size) (l.drop size)) rings
theorem rings_ok : rings.all okR = true := by decide +kernel
theorem words2 : allB (fun n => okW 2 ((false, false) :: dec 4 n)) 256 = true := by decide +kernel
theorem words3 : allB (fun n => okW 3 ((false, false) :: dec 4 n)) 256 = true := by decide +kernel
end Mine
end
section
open PySem PySem.W PyProof.Rows
set_option Elab.async false
set_option maxRecDepth 100000
set_option maxHeartbeats 8000000
namespace Mine
noncomputable def hdq0 : PySem.Program := PySem.W.view PySem.Challenge.pw_wj0022_01 [0, 2, 3, 5, 6, 7, 8, 9, 10, 11, 12, 13, 14, 15, 16, 17, 18, 19, 20, 21, 22, 23, 24, 25, 26, 27, 28, 29, 30, 31, 32, 33, 34, 35, 36, 37, 38, 39, 40, 41, 42, 43, 44, 45, 46, 47, 48, 49, 50, 51, 52, 53, 54, 55, 57, 59, 60, 61, 62, 63, 64]
section
local macro_rules | `(tactic| o_head ($_ $K $as $e)) => `(tactic| skip)
theorem hdpre (h : PySem.Challenge.rw_wj0022_01.row.Holds) : PySem.Challenge.rw_wj0022_01.row.Holds := by
  k_head
  exact h
end
noncomputable def hdkk : PySem.Params → PySem.W.Frag := fun P => (fun (_ : PySem.Str.ofString "a" ≠ PySem.Str.ofString "b") => value_of% Mine.hdpre.heap_1) (by decide) P
end Mine
end
section
open PySem PySem.W PyProof.Rows
set_option maxRecDepth 100000
set_option maxHeartbeats 4000000
namespace Mine
@[irreducible] def Wrp (p : Prop) : Prop := p
theorem Wrp.mk {p : Prop} (h : Wrp p) : p := by unfold Wrp at h; exact h
theorem Wrp.un {p : Prop} (h : p) : Wrp p := by unfold Wrp; exact h
local macro_rules | `(tactic| k_room) => `(tactic| ktr_room)
local macro_rules | `(tactic| k_all) => `(tactic| assumption)
local macro_rules | `(tactic| k_inst) => `(tactic| (refine' InstA ?N ?h1 ?h2; (case N => k_asm); (case h1 => k_mem); (case h2 => k_mem)))
local macro_rules | `(tactic| ks_enter) => `(tactic| (refine' ks_code_super ?k1 ?k2 ?k3 ?k4 ?k5 ?kA ?kF ?kK ?k6 ?k7 ?k8 ?k9 ?kB ?_ ?c1 ?c2 ?c3 ?c4; (case kA => exact rfl); (case kF => exact rfl); (case kK => first | exact rfl | assumption); (case k1 => k_asm); (case k2 => k_asm); (case k3 => k_asm); (case k4 => k_asm); (case k5 => k_asm); (case k6 => k_is); (case k7 => k_is); (case k8 => ktr_room); (case k9 => first | exact BindsTo.of_eq rfl | exact binds_K (by k_in) rfl (by k_is) rfl rfl rfl); (case kB => exact locs rfl); (case c1 => decide); (case c2 => exact rfl); (case c3 => exact rfl); (case c4 => exact rfl); intro g' L' h' FG' F' N' B' X' T' l1; (try k_lt l1); (try dsimp only); (try k_lift B')))
local macro_rules | `(tactic| walk_at "getMethod ref") => `(tactic| (k_here; k_dflt (refine' meth_K ?k1 ?k2 ?k3 ?k4 ?k5 ?k6 ?k7 ?k8 ?k9 ?kA ?_; (case k1 => k_asm); (case k2 => k_asm); (case k3 => k_inst); (case k4 => k_is); (case k5 => decide +kernel); (case k6 => k_is); (case k7 => k_is); (case k8 => k_is); (case k9 => decide +kernel); (case kA => k_get); k_whole)))
local macro_rules | `(tactic| walk_at "getMethod ref") => `(tactic| (k_here; ks_any; k_dflt (first
  | (refine' sup_wrapper ?k1 ?k2 ?k3 ?k4 ?k5 ?k6 ?k7 ?k8 ?k9 ?k10 ?k11 ?k12 ?_; (case k1 => k_asm); (case k2 => k_asm); (case k3 => k_asm); (case k4 => k_mem); (case k5 => k_inst); (case k6 => k_is); (case k7 => ks_is); (case k8 => exact rfl); (case k9 => decide +kernel); (case k10 => k_is); (case k11 => exact args_wrapper_get _ _ _); (case k12 => decide); intro q' h' F' N' l1; (try k_lt l1))
  | (refine' sup_methd ?k1 ?k2 ?k3 ?k4 ?k5 ?k6 ?k7 ?k8 ?k9 ?k13 ?k10 ?k11 ?k12 ?_; (case k1 => k_asm); (case k2 => k_asm); (case k3 => k_asm); (case k4 => k_mem); (case k5 => k_inst); (case k6 => k_is); (case k7 => ks_is); (case k8 => exact rfl); (case k9 => decide +kernel); (case k13 => decide +kernel); (case k10 => k_is); (case k11 => exact args_methd_get _ _ _); (case k12 => decide); intro q' h' F' N' l1; (try k_lt l1)))))
local macro_rules | `(tactic| walk_at "callWith ref") => `(tactic| (k_here; k_dflt (refine' callWith_Bn ?k1 ?k2 ?k3 ?_; (case k1 => k_asm); (case k2 => k_mem); (case k3 => first | exact .inl rfl | exact .inr rfl); k_whole); (try dsimp only [List.nil_append, List.append_nil])))
local macro_rules | `(tactic| walk_at "call ref") => `(tactic| (k_here; k_dflt (first
  | (refine' len_bound ?k1 ?k2 ?k3 ?_; (case k1 => k_asm); (case k2 => k_mem); (case k3 => k_mem); k_whole; intro tk9)
  | (refine' init_bound ?k1 ?k2 ?k3 ?k4 ?_; (case k1 => k_asm); (case k2 => k_asm); (case k3 => k_mem); (case k4 => k_upd); k_whole; intro h' F' N')
  | (refine' call_L ?k1 ?k2 ?k3 ?k4 ?k5 ?k6 ?_; (case k1 => k_asm); (case k2 => k_asm); (case k3 => k_asm); (case k4 => kernel_rfl); (case k5 => k_is); (case k6 => k_is); k_whole; intro x' d' h' F' N' l1 l2; (have hnx9 := neAll l1 l2); (have hnd9 := neAllD l1); (have hxd9 := ltNe l2); (try k_lt l1); (try k_lt2 l2); (try k_sweep); ks_enter)
  | (refine' pop_bound ?k1 ?k2 ?k3 ?k4 ?k5 ?k6 ?k7 ?k8 ?k9 ?k10 ?k11 ?_; (case k1 => k_asm); (case k2 => k_asm); (case k3 => k_asm); (case k4 => k_mem); (case k5 => k_inst); (case k6 => k_is); (case k7 => k_is); (case k8 => k_is); (case k9 => decide +kernel); (case k10 => assumption); (case k11 => k_upd); k_whole; intro h' F' N'))))
local macro_rules | `(tactic| walk_at "call builtin:list.append") => `(tactic| (k_here; k_dflt (refine' append_A ?k1 ?k2 ?k3 ?k4 ?k5 ?k6 ?_ ?z; (case k1 => k_asm); (case k2 => k_asm); (case k3 => k_asm); (case k4 => k_inst); (case k5 => k_is); (case k6 => k_upd); (case z => assumption); k_whole); intro h' F' N'; (try k_sweep)))
local macro_rules | `(tactic| walk_at "wpAt") => `(tactic| (ks_step "eval Call"; k_dflt (refine ks_wpAt_MethodCall ?_)))
local macro_rules | `(tactic| walk_at "wpAt") => `(tactic| (dsimp only; ks_step "execs cons"; k_dflt (refine ks_wpAt_execs_cons ?_)))
local macro_rules | `(tactic| walk_at "setAttr ref") => `(tactic| (k_here; k_dflt (refine' setattr_L ?k1 ?k2 ?k3 ?k4 ?k5 ?k6 ?k7 ?k8 ?k9 ?kA ?_; (case k1 => k_asm); (case k2 => k_asm); (case k3 => k_asm); (case k4 => (refine neN ?_; lia)); (case k5 => assumption); (case k6 => k_is); (case k7 => exact rfl); (case k8 => exact rfl); (case k9 => k_is); (case kA => k_is); k_whole); intro h' tk9 F' N'))
local macro_rules | `(tactic| walk_at "wpAt") => `(tactic| (ks_step "exec Expr"; k_dflt (refine ks_wpAt_Expr_any ?_)))
local macro_rules | `(tactic| walk_at "cell_enterJ") => `(tactic| (refine' codeJ_def ?k1 ?k2 ?k3 ?k4 ?k5 ?kA ?kF ?kK ?k6 ?k7 ?k8 ?k9 ?kB ?_ ?c2 ?c3 ?c4 ?c5; (case kA => exact rfl); (case kF => exact rfl); (case kK => assumption); (case k1 => k_asm); (case k2 => k_asm); (case k3 => k_asm); (case k4 => k_asm); (case k5 => k_asm); (case k6 => k_is); (case k7 => k_is); (case k8 => ktr_room); (case k9 => exact BindsTo.of_eq rfl); (case c5 => decide); (case kB => exact locs rfl); (case c2 => exact rfl); (case c3 => exact rfl); (case c4 => exact rfl); k_whole; intro g' L' h' FG' F' N' B' X' T'; (try dsimp only); (try k_lift B'); (try k_fold)))
section
theorem top_num (w : World) {A : Around} {E : Value → Shared → Prop} {s : Shared} {h₀ : Heap} {L : Addr} {m : Str → Option Value} {value slice : Expr} {t : Tok} {Q : Value → Shared → Prop} (c : Nat) (hc : c ∈ brk) (F : Fr h₀ L s.heap m) (X₀ : (hdkk w.params).In h₀)
    (hs : subscripted slice false (.ref 106) (.str ⟨#[c]⟩ t) = operate [.ref 106, .str ⟨#[c]⟩ t] (getItem (.ref 106) (.str ⟨#[c]⟩ t)))
    (h : ∀ tk, Q (.int (num c) tk) { s with toks := s.toks + 1 }) : wpAny (model PySem.Challenge.rw_wj0022_01.row.prog w) A (subscriptTail value slice (.ref 106) (.str ⟨#[c]⟩ t)) Q E s := by
  revert X₀
  w_top off
  k_fill
  intro X₀
  simp only [brk, List.mem_cons, List.not_mem_nil, or_false] at hc
  rcases hc with rfl | rfl | rfl | rfl | rfl | rfl <;>
  exact topItem_K F X₀ (by k_is) (by k_keys) (by k_is) (h _) hs
local macro_rules | `(tactic| walk_at "subscriptTail") => `(tactic| (k_here; (with_reducible show wpAny _ _ (subscriptTail _ _ (Value.ref _) (Value.str _ _)) _ _ _); k_dflt (refine' top_num _ _ ?c ?F ?X ?hs ?_; (case c => assumption); (case F => k_asm); (case X => k_asm); (case hs => with_unfolding_all rfl); intro tk9)))
theorem c_mated (w : World) (p : Program) (loose : List Str) (mean : ExcName → Option Value) (mg mb : Str → Option Value) (news : List (Addr × Obj)) (a b : Nat) (ta tb : Tok) (ha : a ∈ brk) (hb : b ∈ brk) :
   FC PySem.Challenge.rw_wj0022_01.row.prog w (hdkk w.params) p loose mean mg mb 129 [.str ⟨#[a]⟩ ta, .str ⟨#[b]⟩ tb] news 3
     (fun v news' => v = .bool (mtP a b) ∧ news' = news) := by
  w_top off
  k_fill
  unfold FC; intros; rename_i hret
  refine wpAny_call ?_
  k_dflt cell_enter
  k_steps
  all_goals ((with_reducible rename News _ _ _ _ => kN); refine fc_ret hret (by assumption) (cb_drop kN fun p hp => .tail _ hp) ⟨?_, rfl⟩; congr 1; unfold mtP; simp_all)
end
section
theorem c_push (w : World) (p : Program) (loose : List Str) (mean : ExcName → Option Value) (mg mb : Str → Option Value) (news : List (Addr × Obj)) (x d : Addr) (its : List Value) (n : Nat) (hs : Int) (t1 : Tok) (v1 : Value) (a b : Str) (ta tb : Tok)
   (hsz : its.toArray.size ≤ sizeLine) (hdx : d ≠ x) (hnx : ∀ p ∈ news, p.1 ≠ x) :
   FC PySem.Challenge.rw_wj0022_01.row.prog w (hdkk w.params) p loose mean mg mb 45 [.ref x, .str a ta, .str b tb]
     ((x, accO 101 d its.toArray n) :: (d, dictOf [⟨hs, .str (Str.ofString "_initial_size") t1, v1⟩] 1) :: news) 3
     (fun v news' => v = .none ∧ ∃ t, t ≠ x ∧ (∀ p ∈ news, p.1 < t) ∧ news' = (x, accO 101 d (its ++ [Value.ref t]).toArray (n + 1)) :: (d, dictOf [⟨hs, .str (Str.ofString "_initial_size") t1, v1⟩] 1) :: (t, tupO [.str a ta, .str b tb]) :: news) := by
  w_top off
  k_fill
  unfold FC; intros; rename_i hret
  refine wpAny_call ?_
  k_dflt cell_enter
  k_steps
  (with_reducible rename News _ _ _ _ => kN)
  simp only [List.push_toArray] at kN
  refine fc_ret hret (by assumption) (news_rot kN) ⟨rfl, _, ?_, ?_, rfl⟩
  · refine neN ?_
    lia
  · exact allLt_out (by simp_all)

theorem c_pop1 (w : World) (p : Program) (loose : List Str) (mean : ExcName → Option Value) (mg mb : Str → Option Value) (news : List (Addr × Obj)) (x d : Addr) (its : List Value) (y : Value) (n : Nat) (hs : Int) (t1 : Tok) (v1 : Value)
   (hsz : (its ++ [y]).toArray.size ≤ sizeLine) (hdx : d ≠ x) (hnx : ∀ p ∈ news, p.1 ≠ x) :
   FC PySem.Challenge.rw_wj0022_01.row.prog w (hdkk w.params) p loose mean mg mb 61 [.ref x]
     ((x, accO 101 d (its ++ [y]).toArray n) :: (d, dictOf [⟨hs, .str (Str.ofString "_initial_size") t1, v1⟩] 1) :: news) 6
     (fun v news' => v = y ∧ news' = (x, accO 101 d its.toArray (n + 1)) :: (d, dictOf [⟨hs, .str (Str.ofString "_initial_size") t1, v1⟩] 1) :: news) := by
  w_top off
  k_fill
  unfold FC; intros; rename_i hret
  refine wpAny_call ?_
  k_dflt ks_enter
  k_steps
  · exfalso
    (with_reducible rename ((_ : Int) = 0) => hz)
    simp at hz
    lia
  · (with_reducible rename News _ _ _ _ => kN)
    exact fc_ret hret (by assumption) (fun p hp => kN p (.tail _ (.tail _ (.tail _ (.tail _ hp))))) ⟨rfl, rfl⟩

theorem c_pop0 (w : World) (p : Program) (loose : List Str) (mean : ExcName → Option Value) (mg mb : Str → Option Value) (news : List (Addr × Obj)) (x d : Addr) (n : Nat) (hs : Int) (t1 : Tok) (v1 : Value)
   (hdx : d ≠ x) (hnx : ∀ p ∈ news, p.1 ≠ x) :
   FC PySem.Challenge.rw_wj0022_01.row.prog w (hdkk w.params) p loose mean mg mb 61 [.ref x]
     ((x, accO 101 d ([] : List Value).toArray n) :: (d, dictOf [⟨hs, .str (Str.ofString "_initial_size") t1, v1⟩] 1) :: news) 6
     (fun v news' => ∃ t u1 u2, v = .ref t ∧ t ≠ x ∧ (∀ p ∈ news, p.1 < t) ∧ news' = (x, accO 101 d ([] : List Value).toArray n) :: (d, dictOf [⟨hs, .str (Str.ofString "_initial_size") t1, v1⟩] 1) :: (t, tupO [.str (Str.ofString "") u1, .str (Str.ofString "") u2]) :: news) := by
  w_top off
  k_fill
  unfold FC; intros; rename_i hret
  refine wpAny_call ?_
  k_dflt ks_enter
  k_steps
  · (with_reducible rename News _ _ _ _ => kN)
    refine fc_ret hret (by assumption) (news_rot (fun p hp => kN p (by
      rcases List.mem_cons.mp hp with e | hp
      · rw [e]; exact .head _
      · exact .tail _ (.tail _ (.tail _ hp))))) ⟨_, _, _, rfl, ?_, ?_, rfl⟩
    · refine neN ?_
      lia
    · exact allLt_out (by simp_all)
end
section
theorem foldl_len (sep : Str) (hs : sep.length = 0) : ∀ (l : List Str) (a : Nat), (∀ x ∈ l, x.length = 2) → l.foldl (fun a p => a + p.length + sep.length) a = a + 2 * l.length
  | [], a, _ => by simp
  | x :: l, a, h => by
    rw [List.foldl_cons, foldl_len sep hs l _ fun y hy => h y (.tail _ hy), h x (.head _), hs, List.length_cons]
    lia
theorem joinok_cs (cs : Nat → Nat) (n : Nat) (h : n ≤ 4096) : JoinOk (Str.ofString "") ((List.range n).map fun j => ⟨#[32, cs j]⟩) = true := by
  unfold JoinOk
  rw [List.foldl_toArray', foldl_len _ (by decide +kernel) _ _ (by simp [Str.length])]
  simp only [List.length_map, List.length_range]
  unfold Builtin.Str.tooLong
  simp [sizeLine_eq]
  · lia
  · simp
local macro_rules | `(tactic| walk_at "call builtin:str.join") => `(tactic| (k_here; k_dflt (refine' join_ready (by assumption) ?ok ?sz ?_; (case ok => exact joinok_cs _ _ (by assumption)); (case sz => (rw [sizeLine_eq]; lia)); k_whole); intro s9 t9 F' N' G9 ho9))
theorem c_str (w : World) (p : Program) (loose : List Str) (mean : ExcName → Option Value) (mg mb : Str → Option Value) (tl : List (Addr × Obj)) (x d : Addr) (its : List Value) (n : Nat) (hs : Int) (t1 : Tok) (v1 : Value) (ps : Array Value) (cs : Nat → Nat)
   (hps : TriplesOk ps.toList) (hPR : ∀ j, j < its.length → ∃ t u1 u2, its[j]? = some (Value.ref t) ∧ (t, tupO [.str ⟨#[32]⟩ u1, .str ⟨#[cs j]⟩ u2]) ∈ tl)
   (hnP : ∀ p ∈ (x, accO 101 d its.toArray n) :: (d, dictOf [⟨hs, .str (Str.ofString "_initial_size") t1, v1⟩] 1) :: tl, p.1 ≠ 70) (hlen : its.length ≤ 4096) :
   FG PySem.Challenge.rw_wj0022_01.row.prog w (hdkk w.params) p loose mean mg mb 75 [.ref x]
     ((70, tabO ps) :: (x, accO 101 d its.toArray n) :: (d, dictOf [⟨hs, .str (Str.ofString "_initial_size") t1, v1⟩] 1) :: tl) 6
     (fun v news' => (∃ t, v = .str (Txt.join (Str.ofString "") ((List.range its.length).map fun j => ⟨#[32, cs j]⟩)) t) ∧ ∃ ps', TriplesOk ps'.toList ∧ news' = (70, tabO ps') :: (x, accO 101 d its.toArray n) :: (d, dictOf [⟨hs, .str (Str.ofString "_initial_size") t1, v1⟩] 1) :: tl) := by
  w_top off
  k_fill
  unfold FG; intros; rename_i hG hret
  refine wpAny_call ?_
  k_dflt cell_enter
  k_steps
  refine' gen_acc (cs := cs) ?a1 ?a2 ?a3 ?a4 ?a5 ?a6 ?a7 ?a8 ?a9 ?b1 ?b2 ?b3 ?b4 ?b5 hps ?b6 ?b7 hPR hnP ?c1 ?c2 ?c3 ?c4 ?c5 ?c6 ?c7 ?c8 ?c9 ?d1 ?d2
  case a1 => exact rfl
  case a2 => ktr_room
  case a3 => k_asm
  case a4 => k_asm
  case a5 => k_asm
  case a6 => assumption
  case a7 => k_asm
  case a8 => exact rfl
  case a9 => k_is
  case b1 => exact rfl
  case b2 => exact rfl
  case b3 => exact rfl
  case b4 => exact rfl
  case b5 => exact rfl
  case b6 => k_is
  case b7 => k_is
  case c1 => exact rfl
  case c2 => exact rfl
  case c3 => exact rfl
  case c4 => exact rfl
  case c5 => decide
  case c6 => exact rfl
  case c7 => exact rfl
  case c8 => exact rfl
  case c9 => exact rfl
  case d1 =>
    (with_reducible rename Top _ _ _ _ _ _ => T9)
    (with_reducible rename Frag.In _ _ => X9)
    intro Cg code A' E' sa sb ta tb s₂ m₂ hA hn ha hb hG hla hlb
    exact el_join rfl hn ha hb hG rfl (mg_of X9 T9.g (by k_is)) rfl rfl rfl rfl hla hlb rfl
  case d2 =>
    intro a9 s₅ ps' hps' hR
    k_steps
    exact fg_ret hret (by assumption) (by assumption) (by assumption) (by assumption) ⟨⟨_, rfl⟩, _, hps', rfl⟩
end
section
def stS (st : List Nat) (c : Nat) : List Nat := match st with
  | [] => [c]
  | t :: r => if mtP t c then r else c :: t :: r
def PileRel (tl : List (Addr × Obj)) : List Value → List Nat → Prop
  | its, [] => its = []
  | its, c :: r => ∃ its' t u1 u2, its = its' ++ [Value.ref t] ∧ (t, tupO [.str ⟨#[32]⟩ u1, .str ⟨#[c]⟩ u2]) ∈ tl ∧ PileRel tl its' r
theorem PileRel.mono {tl tl' : List (Addr × Obj)} (hs : ∀ p ∈ tl, p ∈ tl') : ∀ {st : List Nat} {its : List Value}, PileRel tl its st → PileRel tl' its st
  | [], _, h => h
  | _ :: _, _, ⟨its', t, u1, u2, e, hm, h⟩ => ⟨its', t, u1, u2, e, hs _ hm, h.mono hs⟩
theorem PileRel.len {tl : List (Addr × Obj)} : ∀ {st : List Nat} {its : List Value}, PileRel tl its st → its.length = st.length
  | [], _, h => by rw [h]; rfl
  | _ :: _, _, ⟨its', t, u1, u2, e, hm, h⟩ => by rw [e, List.length_append, h.len]; rfl
theorem PileRel.at {tl : List (Addr × Obj)} : ∀ {st : List Nat} {its : List Value}, PileRel tl its st → ∀ j, j < its.length → ∃ t u1 u2, its[j]? = some (Value.ref t) ∧ (t, tupO [.str ⟨#[32]⟩ u1, .str ⟨#[st.reverse.getD j 0]⟩ u2]) ∈ tl
  | [], _, h, j, hj => by
    rw [h] at hj
    exact absurd hj (Nat.not_lt_zero _)
  | c :: r, its, ⟨its', t, u1, u2, e, hm, h⟩, j, hj => by
    have hl := h.len
    subst e
    by_cases hjl : j < its'.length
    · obtain ⟨t', v1, v2, h1, h2⟩ := h.at j hjl
      refine ⟨t', v1, v2, by rw [List.getElem?_append_left hjl]; exact h1, ?_⟩
      rw [List.reverse_cons, List.getD_eq_getElem?_getD, List.getElem?_append_left (by rw [List.length_reverse]; lia), ← List.getD_eq_getElem?_getD]
      exact h2
    · have hje : j = its'.length := by simp at hj; lia
      subst hje
      refine ⟨t, u1, u2, by simp, ?_⟩
      rw [List.reverse_cons, List.getD_eq_getElem?_getD, List.getElem?_append_right (by rw [List.length_reverse]; lia), List.length_reverse, hl, Nat.sub_self]
      exact hm
theorem stS_mem {S : List Nat} : ∀ (t : List Nat) (st : List Nat), (∀ c ∈ t, c ∈ S) → (∀ c ∈ st, c ∈ S) → ∀ c ∈ t.foldl stS st, c ∈ S
  | [], _, _, h2 => h2
  | c :: t, st, h1, h2 => stS_mem t _ (fun d hd => h1 d (.tail _ hd)) (by
      intro d hd
      unfold stS at hd
      split at hd
      · rw [List.mem_singleton.mp hd]; exact h1 c (.head _)
      · split at hd
        · exact h2 d (.tail _ hd)
        · rcases List.mem_cons.mp hd with rfl | hd
          · exact h1 _ (.head _)
          · exact h2 d hd)
theorem stS_len : ∀ (t : List Nat) (st : List Nat), (t.foldl stS st).length ≤ t.length + st.length
  | [], st => by simp
  | c :: t, st => by
      have := stS_len t (stS st c)
      have h2 : (stS st c).length ≤ st.length + 1 := by
        unfold stS
        split
        · simp
        · split <;> simp <;> lia
      simp only [List.foldl_cons, List.length_cons]
      lia
def PJ (news : List (Addr × Obj)) (pre : List Nat) (m : Str → Option Value) (l : List (Addr × Obj)) : Prop :=
  ∃ (x d : Addr) (hs : Int) (t1 : Tok) (v1 : Value) (its : List Value) (n : Nat) (tl : List (Addr × Obj)), l = (x, accO 101 d its.toArray n) :: (d, dictOf [⟨hs, .str (Str.ofString "_initial_size") t1, v1⟩] 1) :: tl ∧ m (Str.ofString "pile") = some (.ref x) ∧
    PileRel tl its (pre.foldl stS []) ∧ d ≠ x ∧ (∀ p ∈ tl, p.1 ≠ x) ∧ ∀ q ∈ news, q ∈ tl
theorem named {m : Str → Option Value} {n : Str} {v : Value} (h : m n = some v) (x : Str) (v' : Option Value) : (fun y => if y = x then v' else m y) = fun y => if y = x then v' else if y = n then some v else m y := by
  funext y
  by_cases h1 : y = x
  · simp [h1]
  · simp only [if_neg h1]
    by_cases h2 : y = n
    · rw [h2, h]; simp
    · simp only [if_neg h2]
theorem news_dup {h₀ h : Heap} {L : Addr} {A B C : Addr × Obj} {rest : List (Addr × Obj)} (N : News h₀ L h (A :: B :: rest)) (hc : C ∈ rest) : News h₀ L h (A :: B :: C :: rest) := by
  intro p hp
  simp only [List.mem_cons] at hp
  rcases hp with hp | hp | hp | hp
  · rw [hp]; exact N _ (.head _)
  · rw [hp]; exact N _ (.tail _ (.head _))
  · rw [hp]; exact N _ (.tail _ (.tail _ hc))
  · exact N _ (.tail _ (.tail _ hp))
theorem news_sub {h₀ h : Heap} {L : Addr} {l l' : List (Addr × Obj)} (N : News h₀ L h l) (hs : ∀ p ∈ l', p ∈ l) : News h₀ L h l' := fun p hp => N p (hs p hp)
abbrev pdict (hs : Int) (t1 : Tok) (v1 : Value) : Obj := dictOf [⟨hs, .str (Str.ofString "_initial_size") t1, v1⟩] 1
theorem spc : Str.ofString " " = ⟨#[32]⟩ := by decide +kernel
section
variable {h₀ h' : Heap} {L I x d t9 t8 t7 : Addr} {io a0 o9 : Obj} {tl rest news : List (Addr × Obj)} {pre : List Nat} {c t : Nat} {r : List Nat} {m' : Str → Option Value} {s₁ : Shared} {tk n : Nat} {Q : Flow → Shared → Prop} {hs : Int} {t1 u1 u2 u3 u4 : Tok} {v1 : Value} {its : List Value}
theorem foldl_snoc (pre : List Nat) (c : Nat) : (pre ++ [c]).foldl stS [] = stS (pre.foldl stS []) c := by rw [List.foldl_append]; rfl

theorem end_any {ex : List (Addr × Obj)} {l : List (Addr × Obj)} (hrest : tl ++ [(I, io)] = rest) (hdx : d ≠ x) (hnx : ∀ p ∈ tl, p.1 ≠ x) (hsub : ∀ q ∈ news, q ∈ tl) (hoff : ∀ p ∈ (x, a0) :: (d, pdict hs t1 v1) :: tl, p.1 ≠ I)
    (F : Fr h₀ L h' m') (hm : m' (Str.ofString "pile") = some (.ref x)) (N : News h₀ L h' ((x, accO 101 d its.toArray n) :: (d, pdict hs t1 v1) :: l)) (hl : ∀ p, p ∈ ex ++ rest → p ∈ l) (hex : ∀ p ∈ ex, p.1 ≠ x ∧ p.1 ≠ I)
    (hP : PileRel (ex ++ tl) its (stS (pre.foldl stS []) c)) : TextStep h₀ L (PJ news (pre ++ [c])) I io s₁ Q .next { s₁ with heap := h', toks := tk } := by
  subst hrest
  refine ⟨h', tk, m', (x, accO 101 d its.toArray n) :: (d, pdict hs t1 v1) :: (ex ++ tl), rfl, F, ?_, ?_, x, d, hs, t1, v1, its, n, ex ++ tl, rfl, hm, ?_, hdx, ?_, fun q hq => List.mem_append_right _ (hsub q hq)⟩
  · intro p hp
    refine N p ?_
    simp only [List.cons_append, List.mem_cons, List.append_assoc] at hp ⊢
    rcases hp with hp | hp | hp
    · exact .inl hp
    · exact .inr (.inl hp)
    · exact .inr (.inr (hl p (by simpa using hp)))
  · intro p hp
    simp only [List.mem_cons, List.mem_append] at hp
    rcases hp with hp | hp | hp | hp
    · rw [hp]; exact hoff (x, a0) (.head _)
    · rw [hp]; exact hoff (d, pdict hs t1 v1) (.tail _ (.head _))
    · exact (hex p hp).2
    · exact hoff p (.tail _ (.tail _ hp))
  · rw [foldl_snoc]; exact hP
  · intro p hp
    rcases List.mem_append.mp hp with hp | hp
    · exact (hex p hp).1
    · exact hnx p hp

theorem end_nil (hrest : tl ++ [(I, io)] = rest) (hdx : d ≠ x) (hnx : ∀ p ∈ tl, p.1 ≠ x) (hsub : ∀ q ∈ news, q ∈ tl) (hoff : ∀ p ∈ (x, a0) :: (d, pdict hs t1 v1) :: tl, p.1 ≠ I) (hst : pre.foldl stS [] = [])
    (F : Fr h₀ L h' m') (hm : m' (Str.ofString "pile") = some (.ref x)) (N : News h₀ L h' ((x, accO 101 d ([] ++ [Value.ref t8]).toArray n) :: (d, pdict hs t1 v1) :: (t8, tupO [.str (Str.ofString " ") u1, .str ⟨#[c]⟩ u2]) :: (t9, o9) :: rest))
    (h8 : t8 ≠ x) (l8 : ∀ p ∈ (t9, o9) :: rest, p.1 < t8) :
    TextStep h₀ L (PJ news (pre ++ [c])) I io s₁ Q .next { s₁ with heap := h', toks := tk } := by
  rw [spc] at N
  have hI : (I, io) ∈ rest := by rw [← hrest]; simp
  refine end_any (ex := [(t8, tupO [.str ⟨#[32]⟩ u1, .str ⟨#[c]⟩ u2])]) hrest hdx hnx hsub hoff F hm N ?_ ?_ ?_
  · intro p hp
    rcases List.mem_cons.mp hp with hp | hp
    · rw [hp]; exact .head _
    · exact .tail _ (.tail _ hp)
  · intro p hp
    rw [List.mem_singleton.mp hp]
    exact ⟨h8, Ne.symm (Nat.ne_of_lt (l8 (I, io) (.tail _ hI)))⟩
  · rw [hst]
    exact ⟨[], t8, u1, u2, rfl, .head _, rfl⟩

theorem end_mt (hrest : tl ++ [(I, io)] = rest) (hdx : d ≠ x) (hnx : ∀ p ∈ tl, p.1 ≠ x) (hsub : ∀ q ∈ news, q ∈ tl) (hoff : ∀ p ∈ (x, a0) :: (d, pdict hs t1 v1) :: tl, p.1 ≠ I) (hst : pre.foldl stS [] = t :: r) (hmt : mtP t c = true) (hP : PileRel tl its r)
    (F : Fr h₀ L h' m') (hm : m' (Str.ofString "pile") = some (.ref x)) (N : News h₀ L h' ((x, accO 101 d its.toArray n) :: (d, pdict hs t1 v1) :: (t9, o9) :: rest)) :
    TextStep h₀ L (PJ news (pre ++ [c])) I io s₁ Q .next { s₁ with heap := h', toks := tk } := by
  refine end_any (ex := []) hrest hdx hnx hsub hoff F hm N (fun p hp => .tail _ hp) (fun p hp => nomatch hp) ?_
  rw [hst]
  unfold stS
  dsimp only
  rw [if_pos hmt]
  exact hP

theorem end_add (hrest : tl ++ [(I, io)] = rest) (hdx : d ≠ x) (hnx : ∀ p ∈ tl, p.1 ≠ x) (hsub : ∀ q ∈ news, q ∈ tl) (hoff : ∀ p ∈ (x, a0) :: (d, pdict hs t1 v1) :: tl, p.1 ≠ I) (hst : pre.foldl stS [] = t :: r) (hmt : mtP t c = false) (hP : PileRel tl its r)
    (F : Fr h₀ L h' m') (hm : m' (Str.ofString "pile") = some (.ref x))
    (N : News h₀ L h' ((x, accO 101 d (its ++ [Value.ref t8] ++ [Value.ref t7]).toArray n) :: (d, pdict hs t1 v1) :: (t7, tupO [.str (Str.ofString " ") u1, .str ⟨#[c]⟩ u2]) :: (t8, tupO [.str ⟨#[32]⟩ u3, .str ⟨#[t]⟩ u4]) :: (t9, o9) :: rest))
    (h8 : t8 ≠ x) (l8 : ∀ p ∈ (t9, o9) :: rest, p.1 < t8) (h7 : t7 ≠ x) (l7 : ∀ p ∈ (t8, tupO [.str ⟨#[32]⟩ u3, .str ⟨#[t]⟩ u4]) :: (t9, o9) :: rest, p.1 < t7) :
    TextStep h₀ L (PJ news (pre ++ [c])) I io s₁ Q .next { s₁ with heap := h', toks := tk } := by
  rw [spc] at N
  have hI : (I, io) ∈ rest := by rw [← hrest]; simp
  refine end_any (ex := [(t7, tupO [.str ⟨#[32]⟩ u1, .str ⟨#[c]⟩ u2]), (t8, tupO [.str ⟨#[32]⟩ u3, .str ⟨#[t]⟩ u4])]) hrest hdx hnx hsub hoff F hm N ?_ ?_ ?_
  · intro p hp
    rcases List.mem_cons.mp hp with hp | hp
    · rw [hp]; exact .head _
    · rcases List.mem_cons.mp hp with hp | hp
      · rw [hp]; exact .tail _ (.head _)
      · exact .tail _ (.tail _ (.tail _ hp))
  · intro p hp
    rcases List.mem_cons.mp hp with hp | hp
    · rw [hp]; exact ⟨h7, Ne.symm (Nat.ne_of_lt (l7 (I, io) (.tail _ (.tail _ hI))))⟩
    · rw [List.mem_singleton.mp hp]; exact ⟨h8, Ne.symm (Nat.ne_of_lt (l8 (I, io) (.tail _ hI)))⟩
  · rw [hst]
    unfold stS
    dsimp only
    rw [if_neg (by rw [hmt]; decide)]
    exact ⟨_, t7, u1, u2, rfl, .head _, _, t8, u3, u4, rfl, .tail _ (.head _), hP.mono fun p hp => .tail _ (.tail _ hp)⟩
end
theorem named0 {m : Str → Option Value} {n : Str} {v : Value} (h : m n = some v) : m = fun y => if y = n then some v else m y := by
  funext y
  by_cases h2 : y = n
  · rw [h2, h]; simp
  · simp only [if_neg h2]
local macro_rules | `(tactic| walk_at "exec For") => `(tactic| (k_here; (with_reducible show wpAny _ _ (exec (Stmt.For (Expr.Name _ _) (Expr.Name _ _) _ [] _) _) _ _ _); (rename Fr _ _ _ _ => lF'); (with_unfolding_all refine' For_invVF lF' ?k1 ?k2 ?_; (case k1 => exact rfl); (case k2 => exact rfl); k_whole)))
local macro_rules | `(tactic| walk_at "call ref") => `(tactic| (k_here; k_dflt (first
  | (refine' fc_use (c_mated _ _ _ _ _ _ _ _ _ _ _ ?p1 ?p2) ?k1 ?k2 ?k3 ?k4 ?k5 ?k6 ?k7 ?k8 ?_; (case k1 => k_asm); (case k2 => k_asm); (case k3 => k_asm); (case k4 => k_asm); (case k5 => k_asm); (case k6 => first | exact rfl | assumption); (case k7 => ktr_room); (case k8 => ktr_units); (case p1 => assumption); (case p2 => assumption); k_whole; intro v9 n9 h' tk' F' N' hP9; obtain ⟨hv9, hn9⟩ := hP9; subst hv9; subst hn9)
  | (refine' fc_use (c_push _ _ _ _ _ _ _ _ _ _ _ _ _ _ _ _ _ _ ?p1 ?p2 ?p3) ?k1 ?k2 ?k3 ?k4 ?k5 ?k6 ?k7 ?k8 ?_; (case k1 => k_asm); (case k2 => k_asm); (case k3 => k_asm); (case k4 => k_asm); (case k5 => k_asm); (case k6 => first | exact rfl | assumption); (case k7 => ktr_room); (case k8 => ktr_units); (case p1 => ((try simp only [List.size_toArray, List.length_append, List.length_cons, List.length_nil] at *); rw [sizeLine_eq]; lia)); (case p2 => assumption); (case p3 => first | assumption | (repeat (first | assumption | refine List.forall_mem_cons.mpr ⟨?_, ?_⟩))); k_whole; intro v9 n9 h' tk' F' N' hP9; obtain ⟨hv9, t9, hne9, hlt9, hn9⟩ := hP9; subst hv9; subst hn9)
  | (refine' fc_use (c_pop1 _ _ _ _ _ _ _ _ _ _ _ _ _ _ _ ?p1 ?p2 ?p3) ?k1 ?k2 ?k3 ?k4 ?k5 ?k6 ?k7 ?k8 ?_; (case k1 => k_asm); (case k2 => k_asm); (case k3 => k_asm); (case k4 => k_asm); (case k5 => k_asm); (case k6 => first | exact rfl | assumption); (case k7 => ktr_room); (case k8 => ktr_units); (case p1 => ((try simp only [List.size_toArray, List.length_append, List.length_cons, List.length_nil] at *); rw [sizeLine_eq]; lia)); (case p2 => assumption); (case p3 => first | assumption | (repeat (first | assumption | refine List.forall_mem_cons.mpr ⟨?_, ?_⟩))); k_whole; intro v9 n9 h' tk' F' N' hP9; obtain ⟨hv9, hn9⟩ := hP9; subst hv9; subst hn9)
  | (refine' fc_use (c_pop0 _ _ _ _ _ _ _ _ _ _ _ _ _ ?p2 ?p3) ?k1 ?k2 ?k3 ?k4 ?k5 ?k6 ?k7 ?k8 ?_; (case k1 => k_asm); (case k2 => k_asm); (case k3 => k_asm); (case k4 => k_asm); (case k5 => k_asm); (case k6 => first | exact rfl | assumption); (case k7 => ktr_room); (case k8 => ktr_units); (case p2 => assumption); (case p3 => first | assumption | (repeat (first | assumption | refine List.forall_mem_cons.mpr ⟨?_, ?_⟩))); k_whole; intro v9 n9 h' tk' F' N' hP9; obtain ⟨t9, u9, w9, hv9, hne9, hlt9, hn9⟩ := hP9; subst hv9; subst hn9))))

local macro_rules | `(tactic| walk_at "call ref") => `(tactic| (k_here; k_dflt (
  (refine' fg_use (c_str _ _ _ _ _ _ _ _ _ _ _ _ _ _ _ (fun j => List.getD _ j 0) ?p1 ?p2 ?p3 ?p4) ?k1 ?k2 ?k3 ?k4 ?k5 ?k6 ?k7 ?k8 ?k9 ?_; (case k1 => k_asm); (case k2 => k_asm); (case k3 => k_asm); (case k4 => k_asm); (case k5 => k_asm); (case k6 => first | exact rfl | assumption); (case k7 => ktr_room); (case k8 => ktr_units); (case k9 => assumption); (case p1 => assumption); (case p2 => assumption); (case p3 => assumption); (case p4 => assumption); k_whole; intro v9 n9 s9 F' N' G9 ho9 hP9; obtain ⟨⟨t9, hv9⟩, ps9, hps9, hn9⟩ := hP9; subst hv9; subst hn9; dsimp only [StrBack]))))
local macro_rules | `(tactic| walk_at "call type:str") => `(tactic| (k_here; (with_reducible show wpAny _ _ (call (Value.type "str") [Value.ref _]) _ _ _); k_dflt (refine' kso_call ?k1 ?k2 ?k3 ?k4 ?k5 ?_; (case k1 => ktr_units); (case k2 => k_in); (case k3 => k_inst); (case k4 => k_is); (case k5 => k_is); k_whole)))
local macro_rules | `(tactic| walk_at "subscriptTail") => `(tactic| (k_here; (with_reducible show wpAny _ _ (subscriptTail _ (Expr.Slice (some _) none (some _) _) (Value.str _ _) (Value.ref _)) _ _ _); (with_reducible rename Fr _ _ _ _ => F'); (with_reducible rename News _ _ _ _ => N'); (refine slice_strN_step (s := ⟨_, _, _, _, _⟩) F' N' ?_ (by decide) (by decide) ?hsz); (case hsz => (rw [sl2_join]; simp only [Str.length, List.size_toArray, List.length_map, List.length_range, sizeLine_eq]; lia)); intro _ _ _ _ _))
theorem c_struck (w : World) (p : Program) (loose : List Str) (mean : ExcName → Option Value) (mg mb : Str → Option Value) (news : List (Addr × Obj)) (ps : Array Value) (a : Str) (ta : Tok) (tx : List Nat) (hax : a.cps.toList = tx) (htx : ∀ c ∈ tx, c ∈ brk) (hlen : tx.length ≤ 4096)
   (hps : TriplesOk ps.toList) (hn : ∀ p ∈ news, p.1 ≠ 70) :
   FG PySem.Challenge.rw_wj0022_01.row.prog w (hdkk w.params) p loose mean mg mb 136 [.str a ta]
     ((70, tabO ps) :: news) 30
     (fun v news' => (∃ t, v = .str (tS (tx.foldl stS []).reverse) t) ∧ ∃ ps', TriplesOk ps'.toList ∧ news' = (70, tabO ps') :: news) := by
  w_top off
  k_fill
  unfold FG; intros; rename_i hG hret
  refine wpAny_call ?_
  k_dflt cell_enter
  k_steps
  (with_reducible rename News _ _ _ _ => N9)
  refine text_loop (PJ ((70, tabO ps) :: news)) rfl ?ha (by assumption) (fun p hp => N9 p (.tail _ (.tail _ hp))) ?hj ?turn ?done
  case ha =>
    rw [← Array.all_toList, hax]
    refine List.all_eq_true.mpr fun c hc => ?_
    have := htx c hc
    simp only [brk, List.mem_cons, List.not_mem_nil, or_false] at this
    rcases this with rfl | rfl | rfl | rfl | rfl | rfl <;> decide
  case hj =>
    exact ⟨_, _, _, _, _, [], _, _, rfl, rfl, rfl, by assumption, by assumption, fun _ h => h⟩
  case turn =>
    clear N9
    rintro pre post c u m₁ news₁ h tk I io e ⟨x, d, hs, t1, v1, its, n, tl, rfl, hm, hP, hdx, hnx, hsub⟩ hio hoff F₁ N₁
    have hc : c ∈ brk := htx c (by rw [← hax, e]; simp)
    have hpre : ∀ q ∈ pre, q ∈ brk := fun q hq => htx q (by rw [← hax, e]; simp [hq])
    have hIx : x ≠ I := hoff _ (.head _)
    have hll : its.length ≤ 4096 := by
      have h1 := hP.len
      have h2 := stS_len pre []
      have h3 : pre.length ≤ tx.length := by rw [← hax, e]; simp
      simp at h2
      lia
    rw [named hm] at F₁
    have N₂ : News _ _ h ((x, accO 101 d its.toArray n) :: (d, dictOf [⟨hs, .str (Str.ofString "_initial_size") t1, v1⟩] 1) :: (tl ++ [(I, io)])) := N₁
    clear N₁
    have hnr : ∀ p ∈ tl ++ [(I, io)], p.1 ≠ x := fun p hp => (List.mem_append.mp hp).elim (hnx p) fun h => by rw [List.mem_singleton.mp h]; exact Ne.symm hIx
    generalize hrest : tl ++ [(I, io)] = rest at N₂ hnr
    have hstm := stS_mem pre [] hpre (by simp)
    cases hst : pre.foldl stS [] with
    | nil =>
      rw [hst] at hP
      obtain rfl : its = [] := hP
      k_steps
      exact end_nil hrest hdx hnx hsub hoff hst (by assumption) rfl (by assumption) (by assumption) (by assumption)
    | cons t r =>
      rw [hst] at hP hstm
      obtain ⟨its, a9, u1, u2, rfl, hmem, hP⟩ := hP
      have ht : t ∈ brk := hstm t (.head _)
      have N₃ := news_dup N₂ (show (a9, tupO [.str ⟨#[32]⟩ u1, .str ⟨#[t]⟩ u2]) ∈ rest by rw [← hrest]; exact List.mem_append_left _ hmem)
      have ha9 : a9 ≠ x := hnx _ hmem
      clear N₂
      k_steps
      · exact end_mt hrest hdx hnx hsub hoff hst (by assumption) hP (by assumption) rfl (by assumption)
      · exact end_add hrest hdx hnx hsub hoff hst (by assumption) hP (by assumption) rfl (by assumption) (by assumption) (by assumption) (by assumption) (by assumption)
  case done =>
    clear N9
    rintro m₁ news₁ h tk ⟨x, d, hs, t1, v1, its, n, tl, rfl, hm, hP, hdx, hnx, hsub⟩ F₁ N₁
    rw [named0 hm] at F₁
    have h70 := hsub _ (.head _)
    have h7h := (N₁ _ (.tail _ (.tail _ h70))).1
    have hd70 : d ≠ 70 := by
      rintro rfl
      have := (N₁ _ (.tail _ (.head _))).1.symm.trans h7h
      cases this
    have hll : its.length ≤ 4096 := by
      have h1 := hP.len
      have h2 := stS_len tx []
      rw [hax] at h1
      simp at h2
      lia
    have hPR := hP.at
    have hPl := hP.len
    rw [hax] at hPR hPl
    have hPR2 : ∀ j, j < its.length → ∃ t u1 u2, its[j]? = some (Value.ref t) ∧ (t, tupO [.str ⟨#[32]⟩ u1, .str ⟨#[(tx.foldl stS []).reverse.getD j 0]⟩ u2]) ∈ tl.filter fun p => p.1 != 70 := by
      intro j hj
      obtain ⟨t, u1, u2, e1, e2⟩ := hPR j hj
      refine ⟨t, u1, u2, e1, List.mem_filter.mpr ⟨e2, ?_⟩⟩
      simp only [bne_iff_ne, ne_eq]
      rintro rfl
      have := (N₁ _ (.tail _ (.tail _ e2))).1.symm.trans h7h
      cases this
    have hnP2 : ∀ p ∈ (x, accO 101 d its.toArray n) :: (d, dictOf [⟨hs, .str (Str.ofString "_initial_size") t1, v1⟩] 1) :: tl.filter fun p => p.1 != 70, p.1 ≠ 70 := by
      intro p hp
      simp only [List.mem_cons, List.mem_filter, bne_iff_ne, ne_eq] at hp
      rcases hp with rfl | rfl | hp
      · exact Ne.symm (hnx _ h70)
      · exact hd70
      · exact hp.2
    have N₂ := news_sub (l' := (70, tabO ps) :: (x, accO 101 d its.toArray n) :: (d, dictOf [⟨hs, .str (Str.ofString "_initial_size") t1, v1⟩] 1) :: tl.filter fun p => p.1 != 70) N₁ (by
      intro p hp
      simp only [List.mem_cons, List.mem_filter] at hp
      rcases hp with rfl | rfl | rfl | hp
      · exact .tail _ (.tail _ h70)
      · exact .head _
      · exact .tail _ (.head _)
      · exact .tail _ (.tail _ hp.1))
    have hback : ∀ p ∈ news, p ∈ tl.filter fun p => p.1 != 70 := fun p hp => List.mem_filter.mpr ⟨hsub _ (.tail _ hp), by simpa using hn p hp⟩
    clear N₁ hPR hsub
    have hfin : sl2 (Txt.join (Str.ofString "") ((List.range its.length).map fun j => ⟨#[32, (tx.foldl stS []).reverse.getD j 0]⟩)) 1 2 = tS (tx.foldl stS []).reverse := (sl2_join _ _).trans (by rw [hPl, ← List.length_reverse, range_getD])
    generalize (tl.filter fun p => p.1 != 70) = tl2 at *
    k_steps
    rw [hfin]
    refine fg_ret hret (by assumption) (news_sub (by assumption) (l' := (70, tabO _) :: news) ?_) (by assumption) (by assumption) ⟨⟨_, rfl⟩, _, by assumption, rfl⟩
    intro p hp
    rcases List.mem_cons.mp hp with rfl | hp
    · exact .head _
    · exact .tail _ (.tail _ (.tail _ (hback p hp)))
end
section
theorem named3 {m : Str → Option Value} {a b c : Str} {va vb vc : Value} (ha : m a = some va) (hb : m b = some vb) (hc : m c = some vc) : m = fun y => if y = a then some va else if y = b then some vb else if y = c then some vc else m y := by
  funext y
  by_cases h1 : y = a
  · simp [h1, ha]
  · by_cases h2 : y = b
    · simp only [if_neg h1, if_pos h2]; rw [h2, hb]
    · by_cases h3 : y = c
      · simp only [if_neg h1, if_neg h2, if_pos h3]; rw [h3, hc]
      · simp only [if_neg h1, if_neg h2, if_neg h3]
def SJ (D : Addr) (b : Array UInt8) (tb u : Tok) (rest : List (Addr × Obj)) (f : Nat → Nat) (i : Nat) (m : Str → Option Value) (l : List (Addr × Obj)) : Prop :=
  l = (D, baO (swp b (f i))) :: rest ∧ m (Str.ofString "swapped_data") = some (.ref D) ∧ m (Str.ofString "data") = some (.bytes b tb) ∧ m (Str.ofString "width") = some (.int (b.size : Int) u)
def SK (D : Addr) (b : Array UInt8) (tb u : Tok) (rest : List (Addr × Obj)) (i : Nat) (m : Str → Option Value) (l : List (Addr × Obj)) : Prop :=
  SJ D b tb u rest (fun i => i) i m l ∧ ∃ u', m (Str.ofString "i") = some (.int 0 u')
theorem nsub {h₀ h : Heap} {L : Addr} {l l' : List (Addr × Obj)} (N : News h₀ L h l) (hs : ∀ p ∈ l', p ∈ l) : News h₀ L h l' := fun p hp => N p (hs p hp)

theorem named4 {m : Str → Option Value} {a b c d : Str} {va vb vc vd : Value} (ha : m a = some va) (hb : m b = some vb) (hc : m c = some vc) (hd : m d = some vd) : m = fun y => if y = a then some va else if y = b then some vb else if y = c then some vc else if y = d then some vd else m y := by
  have h := named3 ha hb hc
  funext y
  by_cases h4 : y = d
  · subst h4
    have := congrFun h y
    simp only [hd] at this ⊢
    simpa using this
  · simp only [if_neg h4]
    exact congrFun h y
theorem swp_step {b : Array UInt8} {j : Nat} {k : Int} (hk : k = (b.size : Int) - 1 - j) (hj : j < b.size) : (swp b j).setIfInBounds k.toNat ((b.getD j 0).toNat : Int).toNat.toUInt8 = swp b (j + 1) := by
  rw [swp, show k.toNat = b.size - 1 - j by lia, Int.toNat_natCast]
  congr 1
  simp

theorem small_n {n : Nat} (h1 : 1 ≤ n) (h2 : n ≤ 4096) (hs : Builtin.Range.rangeSize 0 (n : Int) (n : Int) = ((1 : Nat) : Int)) : Builtin.Range.small 0 (n : Int) (n : Int) = true := by
  unfold Builtin.Range.small Builtin.Range.rangeFitsLong
  rw [hs]
  rw [if_pos (by lia)]
  simp
  lia
local macro_rules | `(tactic| walk_at "exec For") => `(tactic| (k_here; (with_reducible show wpAny _ _ (exec (Stmt.For (Expr.Name _ _) _ _ [] _) _) _ _ _); (rename Fr _ _ _ _ => lF'); (with_unfolding_all refine' For_invVF lF' ?k1 ?k2 ?_; (case k1 => exact rfl); (case k2 => exact rfl); k_whole)))
local macro_rules | `(tactic| walk_at "pyIter ref") => `(tactic| (k_here; refine Wrp.mk ?_))
local macro_rules | `(tactic| walk_at "setItem ref int") => `(tactic| (k_here; (with_reducible show wpAny _ _ (setItem (Value.ref _) (Value.int _ _) (Value.int _ _)) _ _ _); refine Wrp.mk ?_))
local macro_rules | `(tactic| walk_at "call type:bytes") => `(tactic| (k_here; (with_reducible show wpAny _ _ (call (Value.type "bytes") [Value.ref _]) _ _ _); refine Wrp.mk ?_))
local macro_rules | `(tactic| walk_at "subscriptTail") => `(tactic| (k_here; (with_reducible show wpAny _ _ (subscriptTail _ _ (Value.bytes _ _) (Value.int _ _)) _ _ _); refine Wrp.mk ?_))
local macro_rules | `(tactic| walk_at "subscriptTail Name BinOp bytes int") => `(tactic| (k_here; (with_reducible show wpAny _ _ (subscriptTail _ _ (Value.bytes _ _) (Value.int _ _)) _ _ _); refine Wrp.mk ?_))
theorem c_swap (w : World) (p : Program) (loose : List Str) (mean : ExcName → Option Value) (mg mb : Str → Option Value) (news : List (Addr × Obj)) (b : Array UInt8) (tb u : Tok) (n : Nat) (hb : b.size = n) (h1 : 1 ≤ n) (hlen : n ≤ 4096) :
   FJ PySem.Challenge.rw_wj0022_01.row.prog w (hdkk w.params) p loose mean mg mb 122 [.bytes b tb, .int (n : Int) u]
     news 10
     (fun v news' => (∃ t, v = .bytes b.reverse t) ∧ news' = news) := by
  w_top off
  k_fill
  unfold FJ; intros; rename_i hG hret
  refine wpJ_call ?_
  k_dflt (walk_at "cell_enterJ")
  refine wpJ_execs_cons (wpJ_Assign_Name (wpJ_Call ?_))
  k_steps
  refine wpJ_callWith_type1 ?_
  k_steps
  (with_reducible rename Fr _ _ _ _ => F8)
  (with_reducible rename News _ _ _ _ => N8)
  refine call_bytearrayN F8 N8 (by lia) (by lia) ?_
  intro D h' F' N' hD
  clear F8 N8
  k_steps
  refine wpJ_any ?_
  k_steps
  (with_reducible rename IsRange _ _ _ _ _ _ _ _ => R9)
  (with_reducible rename Fr _ _ _ _ => F9)
  (with_reducible rename News _ _ _ _ => N9)
  have hsz1 : Builtin.Range.rangeSize 0 (b.size : Int) (b.size : Int) = ((1 : Nat) : Int) := by
    unfold Builtin.Range.rangeSize
    rw [if_pos (by lia), if_pos (by lia)]
    rw [show ((b.size : Int) - 0 - 1) / (b.size : Int) = 0 from Int.ediv_eq_zero_of_lt (by lia) (by lia)]
    rfl
  have hsm1 : Builtin.Range.small 0 (b.size : Int) (b.size : Int) = true := small_n (by lia) (by lia) hsz1
  refine Wrp.un ?_
  subst hb
  refine range_loop (SJ D b tb u news (fun i => i * b.size)) rfl R9 hsm1 hsz1 F9 N9 ⟨by rw [show (fun i => i * b.size) 0 = 0 from Nat.zero_mul _, swp]; simp, rfl, rfl, rfl⟩ ?turn ?done
  case turn =>
    clear F9 N9 R9
    rintro i u₁ m₁ news₁ h tk I io hi ⟨rfl, m1, m2, m3⟩ hio hoff F₁ N₁
    have hi0 : i = 0 := by lia
    subst hi0
    rw [named3 m1 m2 m3, show (0 + ((0 : Nat) : Int) * (b.size : Int)) = 0 by simp] at F₁
    have hDI : D ≠ I := hoff _ (.head _)
    have hnI : ∀ p ∈ news, p.1 ≠ I := fun p hp => hoff p (.tail _ hp)
    have N₂ := nsub (l' := (D, baO (swp b 0)) :: (news ++ [(I, io)])) N₁ (by
      intro p hp
      show p ∈ (D, baO (swp b (0 * b.size))) :: (news ++ [(I, io)])
      rw [Nat.zero_mul]
      exact hp)
    have hnr : ∀ p ∈ news ++ [(I, io)], p.1 ≠ D := fun p hp => (List.mem_append.mp hp).elim (hD p) fun h => by rw [List.mem_singleton.mp h]; exact Ne.symm hDI
    clear N₁
    generalize hrest : news ++ [(I, io)] = rest at N₂ hnr
    k_steps
    (with_reducible rename IsRange _ _ _ _ _ _ _ _ => R9)
    (with_reducible rename Fr _ _ _ _ => F9)
    (with_reducible rename News _ _ _ _ => N9)
    have hsz2 : Builtin.Range.rangeSize 0 (b.size : Int) 1 = ((b.size : Nat) : Int) := by
      unfold Builtin.Range.rangeSize
      rw [if_pos (by lia), if_pos (by lia)]
      lia
    refine Wrp.un ?_
    refine range_loop (SK D b tb u rest) rfl R9 (small_one (by lia) (by lia) (by lia) (by lia)) hsz2 F9 N9 ⟨⟨rfl, rfl, rfl, rfl⟩, _, rfl⟩ ?t2 ?d2
    case t2 =>
      clear F9 N9 R9
      rintro j u₂ m₂ news₂ h tk J jo hj ⟨⟨rfl, m1, m2, m3⟩, u4, m4⟩ hjo hoff2 F₁ N₁
      rw [named4 m1 m2 m3 m4, show (0 + (j : Int) * 1) = (j : Int) by simp] at F₁
      have hDJ : D ≠ J := hoff2 _ (.head _)
      have hrJ : ∀ p ∈ rest, p.1 ≠ J := fun p hp => hoff2 p (.tail _ hp)
      have N₂ := nsub (l' := (D, baO (swp b j)) :: (rest ++ [(J, jo)])) N₁ (fun p hp => hp)
      have hnr2 : ∀ p ∈ rest ++ [(J, jo)], p.1 ≠ D := fun p hp => (List.mem_append.mp hp).elim (hnr p) fun h => by rw [List.mem_singleton.mp h]; exact Ne.symm hDJ
      clear N₁
      generalize hrest2 : rest ++ [(J, jo)] = rest2 at N₂ hnr2
      k_steps
      refine Wrp.un (item_b (j := j) (by lia) hj hlen ?_)
      intro t9 k9
      k_steps
      (with_reducible rename Fr _ _ _ _ => F9)
      (with_reducible rename News _ _ _ _ => N9)
      refine Wrp.un ?_
      refine' setItem_baN F9 N9 ?U ?g0 ?g1 ?g2 ?g3 ?g4 ?_
      case U => k_upd
      case g0 => lia
      case g1 => rw [swp_size]; lia
      case g2 => rw [swp_size]; exact hlen
      case g3 => lia
      case g4 => have := (b.getD j 0).toNat_lt; lia
      intro h' F' N'
      rw [swp_step (by lia) hj] at N'
      k_steps
      subst hrest2
      exact ⟨_, _, _, _, rfl, (by assumption), (by assumption), (fun p hp => (List.mem_cons.mp hp).elim (fun e => by rw [e]; exact hDJ) (hrJ p)), ⟨rfl, rfl, rfl, rfl⟩, _, rfl⟩
    case d2 =>
      clear F9 N9 R9
      rintro m₂ news₂ h tk ⟨⟨rfl, m1, m2, m3⟩, u4, m4⟩ F₁ N₁
      k_steps
      subst hrest
      refine ⟨_, _, _, _, rfl, F₁, nsub (l' := ((D, baO (swp b b.size)) :: news) ++ [(I, io)]) N₁ (fun p hp => hp), (fun p hp => (List.mem_cons.mp hp).elim (fun e => by rw [e]; exact hDI) (hnI p)), ?_, m1, m2, m3⟩
      show (D, baO (swp b b.size)) :: news = (D, baO (swp b ((0 + 1) * b.size))) :: news
      rw [show (0 + 1) * b.size = b.size by lia]
  case done =>
    clear F9 N9 R9
    rintro m₁ news₁ h tk ⟨rfl, m1, m2, m3⟩ F₁ N₁
    rw [named3 m1 m2 m3] at F₁
    k_steps
    (with_reducible rename News _ _ _ _ => N9)
    refine Wrp.un (call_bytes_baN N9 (.head _) (by rw [swp_size]; exact hlen) ?_)
    intro t9 k9
    k_steps
    (with_reducible rename Fr _ _ _ _ => kF)
    (with_reducible rename News _ _ _ _ => kN)
    rw [show (1 * b.size) = b.size by lia, swp_all]
    exact hret _ _ _ kF (nsub kN fun p hp => .tail _ hp) hG rfl ⟨⟨_, rfl⟩, rfl⟩
end
section
def mir : Nat → Nat
  | 40 => 41
  | 41 => 40
  | 91 => 93
  | 93 => 91
  | 123 => 125
  | 125 => 123
  | c => c
theorem rel_ints : ∀ {as : List Nat} {vs : List Value}, RelL (fun (c : Nat) v => ∃ t, v = .int (c : Int) t) as vs → IntsAre vs (as.map fun (c : Nat) => (c : Int))
  | _, _, .nil => .nil
  | _, _, .cons ⟨t, e⟩ r => by subst e; exact .cons _ t (rel_ints r)
theorem rel_strs : ∀ {as : List UInt8} {vs : List Value}, RelL (fun c v => ∃ t, v = .str ⟨#[mir c.toNat]⟩ t) as vs → StrsAre vs (as.map fun c => ⟨#[mir c.toNat]⟩)
  | _, _, .nil => .nil
  | _, _, .cons ⟨t, e⟩ r => by subst e; exact .cons _ t (rel_strs r)
theorem rev_bytes (tx : List Nat) : (byteArr (tx.map fun (c : Nat) => (c : Int))).reverse.toList = tx.reverse.map fun c => c.toUInt8 := by
  simp [byteArr, List.map_reverse, Function.comp_def]
theorem brk_cases {c : Nat} (h : c ∈ brk) : c = 40 ∨ c = 41 ∨ c = 91 ∨ c = 93 ∨ c = 123 ∨ c = 125 := by
  simpa [brk] using h
theorem join_mir (tx : List Nat) (h : ∀ c ∈ tx, c ∈ brk) : Txt.join (Str.ofString "") ((tx.reverse.map fun c => c.toUInt8).map fun c => ⟨#[mir c.toNat]⟩) = tS (tx.reverse.map mir) := by
  rw [join_flat, List.map_map, List.flatMap_map]
  refine congrArg tS ?_
  have : ∀ l : List Nat, (∀ c ∈ l, c ∈ brk) → (l.flatMap fun c => ((fun c : UInt8 => (⟨#[mir c.toNat]⟩ : Str)) ∘ fun c : Nat => c.toUInt8) c |>.cps.toList) = l.map mir := by
    intro l hl
    induction l with
    | nil => rfl
    | cons c l ih =>
      rw [List.flatMap_cons, ih fun d hd => hl d (.tail _ hd), List.map_cons]
      rcases brk_cases (hl c (.head _)) with rfl | rfl | rfl | rfl | rfl | rfl <;> rfl
  exact this _ fun c hc => h c (List.mem_reverse.mp hc)
theorem idx_40 : PySem.Builtin.Str.occurrences (Str.ofString "()[]{}") ⟨#[40]⟩ 0 (Str.ofString "()[]{}").length 1 = [0] := by decide +kernel
theorem idx_41 : PySem.Builtin.Str.occurrences (Str.ofString "()[]{}") ⟨#[41]⟩ 0 (Str.ofString "()[]{}").length 1 = [1] := by decide +kernel
theorem idx_91 : PySem.Builtin.Str.occurrences (Str.ofString "()[]{}") ⟨#[91]⟩ 0 (Str.ofString "()[]{}").length 1 = [2] := by decide +kernel
theorem idx_93 : PySem.Builtin.Str.occurrences (Str.ofString "()[]{}") ⟨#[93]⟩ 0 (Str.ofString "()[]{}").length 1 = [3] := by decide +kernel
theorem idx_123 : PySem.Builtin.Str.occurrences (Str.ofString "()[]{}") ⟨#[123]⟩ 0 (Str.ofString "()[]{}").length 1 = [4] := by decide +kernel
theorem idx_125 : PySem.Builtin.Str.occurrences (Str.ofString "()[]{}") ⟨#[125]⟩ 0 (Str.ofString "()[]{}").length 1 = [5] := by decide +kernel

section
variable {prog : Program} {w : World} {A : Around} {E : Value → Shared → Prop} {s : Shared} {value slice : PySem.Expr} {t u : Tok} {x : Str} {Q : Value → Shared → Prop}
theorem it_lit {i : Int} (j : Nat) (c : Nat) (hij : i = (j : Int)) (h1 : j < x.length) (h2 : x.length ≤ 16) (hc : Txt.item x (j : Int) = ⟨#[c]⟩) (h : Q (.str ⟨#[c]⟩ s.toks) { s with toks := s.toks + 1 })
    (hs : subscripted slice false (.str x t) (.int i u) = operate [.str x t, .int i u] (getItem (.str x t) (.int i u)) := by with_unfolding_all rfl)
    (ht : ∀ r, letTemporaryGo value (.str x t) r = pure () := by intro _; with_unfolding_all rfl) : wpAny (model prog w) A (subscriptTail value slice (.str x t) (.int i u)) Q E s := by
  subst hij
  refine item_str (fitsSsize_of (N := 9223372036854775808) (by lia) (by lia) (Int.le_refl _)) (by lia) (by lia) (fun _ => ?_) hs ht
  rw [hc]
  exact h
end
local macro_rules | `(tactic| walk_at "eval ListComp") => `(tactic| (k_here; (with_reducible rename Fr _ _ _ _ => lF9); k_dflt (refine' ListComp_any lF9 ?k1 ?k2 ?k3 ?k4 ?k5 ?_; (case k1 => with_unfolding_all rfl); (case k2 => decide); (case k3 => rfl); (case k4 => decide); (case k5 => rfl))))
local macro_rules | `(tactic| walk_at "pyIter str") => `(tactic| (k_here; refine Wrp.mk ?_))
local macro_rules | `(tactic| walk_at "pyIter bytes") => `(tactic| (k_here; refine Wrp.mk ?_))
local macro_rules | `(tactic| walk_at "call type:bytes") => `(tactic| (k_here; (with_reducible show wpAny _ _ (call (Value.type "bytes") [Value.ref _]) _ _ _); refine Wrp.mk ?_))
local macro_rules | `(tactic| walk_at "call builtin:str.join") => `(tactic| (k_here; refine Wrp.mk ?_))
local macro_rules | `(tactic| walk_at "call builtin:len") => `(tactic| (k_here; (with_reducible show wpAny _ _ (call (Value.builtin "len") [Value.str (tS _) _]) _ _ _); refine len_str (by rw [tS_len]; lia) ?_; rw [tS_len]))
local macro_rules | `(tactic| walk_at "call builtin:str.index") => `(tactic| (k_here; k_dflt (first
  | refine SC.index idx_40 ?_
  | refine SC.index idx_41 ?_
  | refine SC.index idx_91 ?_
  | refine SC.index idx_93 ?_
  | refine SC.index idx_123 ?_
  | refine SC.index idx_125 ?_)))
theorem c_mirror (w : World) (p : Program) (loose : List Str) (mean : ExcName → Option Value) (mg mb : Str → Option Value) (news : List (Addr × Obj)) (ta : Tok) (tx : List Nat) (htx : ∀ c ∈ tx, c ∈ brk) (h1 : 1 ≤ tx.length) (hlen : tx.length ≤ 4096) :
   FJ PySem.Challenge.rw_wj0022_01.row.prog w (hdkk w.params) p loose mean mg mb 141 [.str (tS tx) ta]
     news 15
     (fun v news' => (∃ t, v = .str (tS (tx.reverse.map mir)) t) ∧ news' = news) := by
  w_top off
  k_fill
  unfold FJ; intros; rename_i hG hret
  refine wpJ_call ?_
  k_dflt (walk_at "cell_enterJ")
  refine wpJ_execs_cons (wpJ_Assign_Name (wpJ_Call ?_))
  k_steps
  refine wpJ_callWith_ref1 ?_
  k_steps
  have hall : (tS tx).cps.all (· < 128) = true := by
    rw [← Array.all_toList]
    refine List.all_eq_true.mpr fun c hc => ?_
    have := htx c (by simpa using hc)
    simp only [brk, List.mem_cons, List.not_mem_nil, or_false] at this
    rcases this with rfl | rfl | rfl | rfl | rfl | rfl <;> decide
  (with_reducible rename Fr _ _ _ _ => F9)
  (with_reducible rename News _ _ _ _ => N9)
  refine Wrp.un ?_
  refine src_text (fun (c : Nat) v => ∃ t, v = .int (c : Int) t) rfl hall (by rw [sizeLine_eq]; simp; lia) F9 N9 ?turn ?fin
  case turn =>
    intro s' c u I oI C oC D m₂ ys h tk E' ⟨g, hg⟩ hc hC hx F' N' off ne
    subst hg
    k_steps
    exact ⟨_, _, news, rfl, by assumption, by assumption, off, trivial, rfl, _, rfl⟩
  case fin =>
    intro s' ys ⟨g, hg⟩ hR
    subst hg
    unfold LCg.FinE
    intro D h tk F' N' o1
    clear F9 N9
    k_steps
    (with_reducible rename Fr _ _ _ _ => F9)
    (with_reducible rename News _ _ _ _ => N9)
    have hi := rel_ints hR
    refine Wrp.un (call_bytes_ints (ns := tx.map fun (c : Nat) => (c : Int)) ⟨_, (N9 _ (.head _)).1, rfl, _, rfl⟩ (by simpa using hi) ?hr ?hz rfl ?_)
    case hr =>
      intro n hn
      obtain ⟨c, hc, rfl⟩ := List.mem_map.mp hn
      rcases brk_cases (htx c hc) with rfl | rfl | rfl | rfl | rfl | rfl <;> decide
    case hz =>
      rw [hi.length, sizeLine_eq, List.length_map]
      simp
      lia
    intro h' t k hk
    have F8 := F9.keeps hk
    have N8 := nsub (l' := news) (N9.grown hk) fun p hp => .tail _ hp
    clear F9 N9
    k_steps
    (with_reducible rename Frag.In _ _ => X9)
    refine ⟨⟨_, _, (X9.keeps (Fr.keep (by assumption))) _ _ (by k_is), rfl⟩, ?_⟩
    k_dflt (refine' fj_use (c_swap _ _ _ _ _ _ _ _ _ _ tx.length ?p1 ?p2 ?p3) ?k1 ?k2 ?k3 ?k4 ?k5 ?k6 ?k7 ?k8 ?k9 ?_)
    case k1 => k_asm
    case k2 => k_asm
    case k3 => k_asm
    case k4 => k_asm
    case k5 => k_asm
    case k6 => first | exact rfl | assumption
    case k7 => ktr_room
    case k8 => ktr_units
    case k9 => exact hG
    case p1 => rw [byteArr_size, List.length_map]
    case p2 => exact h1
    case p3 => exact hlen
    intro v9 n9 s9 F' N' G9 ho9 hP9
    obtain ⟨⟨t9, hv9⟩, hn9⟩ := hP9
    subst hv9
    rw [hn9] at N'
    clear hn9
    k_steps
    refine wpJ_any ?_
    k_steps
    (with_reducible rename Fr _ _ _ _ => F9)
    (with_reducible rename News _ _ _ _ => N9)
    refine Wrp.un ?_
    refine src_bytes (fun c v => ∃ t, v = .str ⟨#[mir c.toNat]⟩ t) rfl ?hz F9 N9 ?turn2 ?fin2
    case hz =>
      rw [Array.size_reverse, byteArr_size, List.length_map, sizeLine_eq]
      lia
    case turn2 =>
      intro s' c u I oI C oC D m₂ ys h tk E' ⟨g, hg⟩ hc hC hx F' N' off ne
      subst hg
      rw [rev_bytes] at hc
      obtain ⟨d, hd, rfl⟩ := List.mem_map.mp hc
      rcases brk_cases (htx d (List.mem_reverse.mp hd)) with rfl | rfl | rfl | rfl | rfl | rfl
      · change m₂ _ = some (.int 40 u) at hx
        k_steps
        refine it_lit 1 41 (by decide +kernel) (by decide +kernel) (by decide +kernel) (by decide +kernel) ?_
        exact ⟨_, _, news, rfl, by assumption, by assumption, off, trivial, rfl, _, rfl⟩
      · change m₂ _ = some (.int 41 u) at hx
        k_steps
        refine it_lit 0 40 (by decide +kernel) (by decide +kernel) (by decide +kernel) (by decide +kernel) ?_
        exact ⟨_, _, news, rfl, by assumption, by assumption, off, trivial, rfl, _, rfl⟩
      · change m₂ _ = some (.int 91 u) at hx
        k_steps
        refine it_lit 3 93 (by decide +kernel) (by decide +kernel) (by decide +kernel) (by decide +kernel) ?_
        exact ⟨_, _, news, rfl, by assumption, by assumption, off, trivial, rfl, _, rfl⟩
      · change m₂ _ = some (.int 93 u) at hx
        k_steps
        refine it_lit 2 91 (by decide +kernel) (by decide +kernel) (by decide +kernel) (by decide +kernel) ?_
        exact ⟨_, _, news, rfl, by assumption, by assumption, off, trivial, rfl, _, rfl⟩
      · change m₂ _ = some (.int 123 u) at hx
        k_steps
        refine it_lit 5 125 (by decide +kernel) (by decide +kernel) (by decide +kernel) (by decide +kernel) ?_
        exact ⟨_, _, news, rfl, by assumption, by assumption, off, trivial, rfl, _, rfl⟩
      · change m₂ _ = some (.int 125 u) at hx
        k_steps
        refine it_lit 4 123 (by decide +kernel) (by decide +kernel) (by decide +kernel) (by decide +kernel) ?_
        exact ⟨_, _, news, rfl, by assumption, by assumption, off, trivial, rfl, _, rfl⟩
    case fin2 =>
      intro s' ys ⟨g, hg⟩ hR2
      subst hg
      unfold LCg.FinE
      intro D h tk F' N' o1
      clear F9 N9
      k_steps
      (with_reducible rename News _ _ _ _ => N9)
      have hi2 := rel_strs hR2
      rw [rev_bytes] at hi2
      refine Wrp.un (join_list (ys := (tx.reverse.map fun c => c.toUInt8).map fun c => ⟨#[mir c.toNat]⟩) ⟨_, (N9 _ (.head _)).1, rfl, _, rfl⟩ hi2 ?hok ?_)
      case hok =>
        rw [show (Str.ofString "").length = 0 from by decide +kernel, List.map_map]
        have : ∀ l : List UInt8, ((l.map (Str.length ∘ fun c => ⟨#[mir c.toNat]⟩)).sum) = l.length := by
          intro l
          induction l with
          | nil => rfl
          | cons a l ih => rw [List.map_cons, List.sum_cons, ih, List.length_cons]; show 1 + _ = _; lia
        rw [this]
        simp
        lia
      rw [join_mir tx htx]
      intro t' k'
      k_steps
      (with_reducible rename Fr _ _ _ _ => kF)
      (with_reducible rename News _ _ _ _ => kN)
      exact hret _ _ _ kF (nsub kN fun p hp => .tail _ hp) G9 ho9 ⟨⟨_, rfl⟩, rfl⟩
end
section
theorem off70 {h₀ h : Heap} {L P : Addr} {ps : Array Value} {l : List (Addr × Obj)} (N : News h₀ L h ((P, tabO ps) :: l)) {a : Addr} {o : Obj} (hm : (a, o) ∈ l) (hc : o.cls ≠ .none) : a ≠ P := by
  rintro rfl
  have h1 := (N _ (.head _)).1
  have h2 := (N _ (.tail _ hm)).1
  rw [h1] at h2
  injection h2 with h3
  have h4 : tabO ps = o := h3
  exact hc (by rw [← h4])
theorem cat_toList (a b : List Nat) : (tS a ++ tS b).cps.toList = a ++ b := by simp [Str.cps_append]
theorem cat_brk {a b : List Nat} (ha : ∀ c ∈ a, c ∈ brk) (hb : ∀ c ∈ b, c ∈ brk) : ∀ c ∈ a ++ b, c ∈ brk := fun c hc => (List.mem_append.mp hc).elim (ha c) (hb c)
theorem mir_brk {a : List Nat} (ha : ∀ c ∈ a, c ∈ brk) : ∀ c ∈ a.reverse.map mir, c ∈ brk := fun c hc => by
  obtain ⟨d, hd, rfl⟩ := List.mem_map.mp hc
  rcases brk_cases (ha d (List.mem_reverse.mp hd)) with rfl | rfl | rfl | rfl | rfl | rfl <;> decide
theorem mir_len {a : List Nat} {n : Nat} (ha : a.length ≤ n) : (a.reverse.map mir).length ≤ n := by simpa using ha
abbrev lsO (l : List Value) : Obj := listOf l.toArray 0
def red (l : List Nat) : List Nat := (l.foldl stS []).reverse
local macro_rules | `(tactic| walk_at "call ref") => `(tactic| (k_here; k_dflt (
  (refine' fc_use (c_mated _ _ _ _ _ _ _ _ _ _ _ ?p1 ?p2) ?k1 ?k2 ?k3 ?k4 ?k5 ?k6 ?k7 ?k8 ?_; (case k1 => k_asm); (case k2 => k_asm); (case k3 => k_asm); (case k4 => k_asm); (case k5 => k_asm); (case k6 => first | exact rfl | assumption); (case k7 => ktr_room); (case k8 => ktr_units); (case p1 => assumption); (case p2 => assumption); k_whole; intro v9 n9 h' tk' F' N' hP9; obtain ⟨hv9, hn9⟩ := hP9; subst hv9; rw [hn9] at N'; clear hn9))))
local macro_rules | `(tactic| walk_at "subscriptTail") => `(tactic| (k_here; (with_reducible show wpAny _ _ (subscriptTail _ _ (Value.str (tS _) _) (Value.int 0 _)) _ _ _); refine item_first ?_))
local macro_rules | `(tactic| walk_at "subscriptTail Name Constant str int") => `(tactic| (k_here; (with_reducible show wpAny _ _ (subscriptTail _ _ (Value.str (tS _) _) (Value.int 0 _)) _ _ _); refine item_first ?_))
local macro_rules | `(tactic| walk_at "subscriptTail") => `(tactic| (k_here; (with_reducible show wpAny _ _ (subscriptTail _ _ (Value.str (tS _) _) (Value.int _ _)) _ _ _); refine item_last ?_))
local macro_rules | `(tactic| walk_at "subscriptTail Name UnaryOp str int") => `(tactic| (k_here; (with_reducible show wpAny _ _ (subscriptTail _ _ (Value.str (tS _) _) (Value.int _ _)) _ _ _); refine item_last ?_))
local macro_rules | `(tactic| walk_at "subscriptTail") => `(tactic| (k_here; (with_reducible show wpAny _ _ (subscriptTail _ (Expr.Slice (some _) (some _) none _) (Value.str _ _) (Value.ref _)) _ _ _); (with_reducible rename Fr _ _ _ _ => F'); (with_reducible rename News _ _ _ _ => N'); (refine slice_strN_ss (hsz := ?hsz) (s := ⟨_, _, _, _, _⟩) F' N' ?_); (case hsz => first | (rw [tS_len, sizeLine_eq]; lia) | trace_state); intro _ _ _ _ _; first | rw [slice_mid] | erw [slice_mid] | skip))
local macro_rules | `(tactic| walk_at "subscriptTail Name Slice str ref") => `(tactic| (k_here; (with_reducible show wpAny _ _ (subscriptTail _ (Expr.Slice (some _) (some _) none _) (Value.str _ _) (Value.ref _)) _ _ _); (with_reducible rename Fr _ _ _ _ => F'); (with_reducible rename News _ _ _ _ => N'); (refine slice_strN_ss (hsz := ?hsz) (s := ⟨_, _, _, _, _⟩) F' N' ?_); (case hsz => first | (rw [tS_len, sizeLine_eq]; lia) | trace_state); intro _ _ _ _ _; first | rw [slice_mid] | erw [slice_mid] | skip))
local macro_rules | `(tactic| walk_at "exec While") => `(tactic| (k_here; (with_reducible show wpAny _ _ (exec (Stmt.While _ _ _ _) _) _ _ _); refine Wrp.mk ?_))
local macro_rules | `(tactic| walk_at "call builtin:len") => `(tactic| (k_here; (with_reducible show wpAny _ _ (call (Value.builtin "len") [Value.str (tS _) _]) _ _ _); refine len_str (by rw [tS_len]; lia) ?_; first | rw [len_e0] | rw [len_e1] | rw [len_e2] | rw [tS_len]))
local macro_rules | `(tactic| walk_at "call ref") => `(tactic| (k_here; (with_reducible show wpAny _ _ (call (Value.ref 136) [Value.str _ _]) _ _ _); refine Wrp.mk ?_))
local macro_rules | `(tactic| walk_at "anewJ") => `(tactic| ((with_reducible rename Fr _ _ _ _ => lF9); (with_reducible rename News _ _ _ _ => lN9); (try dsimp only at lF9 lN9); refine' anewJ lF9 lN9 ?lG9 ?lO9 ?_; (case lG9 => assumption); (case lO9 => first | assumption | exact rfl); clear lF9 lN9; (repeat (with_reducible rename AllBare _ => lG9; clear lG9)); (try (with_reducible rename @Eq OsState _ _ => lO9; clear lO9)); (try (with_reducible rename Fresh _ => lZ9; clear lZ9)); intro lS9 lF9 lN9 lG9 lO9 lZ9))
local macro_rules | `(tactic| walk_at "anewA") => `(tactic| ((with_reducible rename Fr _ _ _ _ => lF9); (with_reducible rename News _ _ _ _ => lN9); (try dsimp only at lF9 lN9); refine' anewA lF9 lN9 ?lG9 ?lO9 ?_; (case lG9 => assumption); (case lO9 => first | assumption | exact rfl); clear lF9 lN9; (repeat (with_reducible rename AllBare _ => lG9; clear lG9)); (try (with_reducible rename @Eq OsState _ _ => lO9; clear lO9)); (try (with_reducible rename Fresh _ => lZ9; clear lZ9)); intro lS9 lF9 lN9 lG9 lO9 lZ9))
local macro_rules | `(tactic| walk_at "subscriptTail") => `(tactic| (k_here; (with_reducible show wpAny _ _ (subscriptTail _ _ (Value.ref _) (Value.int _ _)) _ _ _); k_dflt (first
  | (refine' it_led ?N ?hm ?ho ?h0 ?h1 ?hx ?_; (case N => k_asm); (case hm => k_mem); (case ho => exact rfl); (case h0 => decide); (case h1 => decide); (case hx => exact rfl); k_whole)
  | (refine' it_ledT ?N ?hm ?ho ?h0 ?h1 ?hx ?_; (case N => k_asm); (case hm => k_mem); (case ho => exact rfl); (case h0 => decide); (case h1 => decide); (case hx => exact rfl); k_whole))))
local macro_rules | `(tactic| walk_at "subscriptTail Name Name ref int") => `(tactic| (k_here; (with_reducible show wpAny _ _ (subscriptTail _ _ (Value.ref _) (Value.int _ _)) _ _ _); k_dflt (first
  | (refine' it_led ?N ?hm ?ho ?h0 ?h1 ?hx ?_; (case N => k_asm); (case hm => k_mem); (case ho => exact rfl); (case h0 => decide); (case h1 => decide); (case hx => exact rfl); k_whole)
  | (refine' it_ledT ?N ?hm ?ho ?h0 ?h1 ?hx ?_; (case N => k_asm); (case hm => k_mem); (case ho => exact rfl); (case h0 => decide); (case h1 => decide); (case hx => exact rfl); k_whole))))
local macro_rules | `(tactic| walk_at "subscriptTail Name Constant ref int") => `(tactic| (k_here; (with_reducible show wpAny _ _ (subscriptTail _ _ (Value.ref _) (Value.int _ _)) _ _ _); k_dflt (first
  | (refine' it_led ?N ?hm ?ho ?h0 ?h1 ?hx ?_; (case N => k_asm); (case hm => k_mem); (case ho => exact rfl); (case h0 => decide); (case h1 => decide); (case hx => exact rfl); k_whole)
  | (refine' it_ledT ?N ?hm ?ho ?h0 ?h1 ?hx ?_; (case N => k_asm); (case hm => k_mem); (case ho => exact rfl); (case h0 => decide); (case h1 => decide); (case hx => exact rfl); k_whole))))
local macro_rules | `(tactic| walk_at "subscriptTail Subscript") => `(tactic| (k_here; (with_reducible show wpAny _ _ (subscriptTail _ _ (Value.ref _) (Value.int _ _)) _ _ _); k_dflt (first
  | (refine' it_led ?N ?hm ?ho ?h0 ?h1 ?hx ?_; (case N => k_asm); (case hm => k_mem); (case ho => exact rfl); (case h0 => decide); (case h1 => decide); (case hx => exact rfl); k_whole)
  | (refine' it_ledT ?N ?hm ?ho ?h0 ?h1 ?hx ?_; (case N => k_asm); (case hm => k_mem); (case ho => exact rfl); (case h0 => decide); (case h1 => decide); (case hx => exact rfl); k_whole))))
local macro_rules | `(tactic| walk_at "binaryOp Add str str") => `(tactic| (k_here; (with_reducible show wpAny _ _ (binaryOp Operator.Add (Value.str (tS _) _) (Value.str (tS _) _)) _ _ _); (refine' addT ?ha ?hb ?_; (case ha => ((try simp only [List.length_append, List.length_map, List.length_reverse]); lia)); (case hb => ((try simp only [List.length_append, List.length_map, List.length_reverse]); lia))); intro _ _))
local macro_rules | `(tactic| walk_at "osEnd") => `(tactic| first | assumption | exact rfl | (refine Eq.trans (by assumption) ?_; first | assumption | (refine Eq.trans (by assumption) ?_; first | assumption | (refine Eq.trans (by assumption) ?_; assumption))))
def rinS (a b : List Nat) : List Nat := ringS (red (a ++ b ++ a.reverse.map mir ++ b.reverse.map mir))
def RJ1 (news : List (Addr × Obj)) (tx : List Nat) (n : Nat) (m : Str → Option Value) (l : List (Addr × Obj)) : Prop :=
  ∃ (cur : List Nat) (t : Tok), news = l ∧ m (Str.ofString "ring") = some (.str (tS cur) t) ∧ cur.length = n ∧ n ≤ 4096 ∧ (∀ c ∈ cur, c ∈ brk) ∧ ringS cur = ringS tx
theorem red_len (l : List Nat) : (red l).length ≤ l.length := by
  unfold red
  rw [List.length_reverse]
  exact stS_len l []
theorem red_brk {l : List Nat} (h : ∀ c ∈ l, c ∈ brk) : ∀ c ∈ red l, c ∈ brk := fun c hc => stS_mem l [] h (by simp) c (by simpa [red] using hc)
theorem c_ring1 (w : World) (p : Program) (loose : List Str) (mean : ExcName → Option Value) (mg mb : Str → Option Value) (news : List (Addr × Obj)) (ps : Array Value) (ta tb : Tok) (a b : List Nat) (ha : ∀ c ∈ a, c ∈ brk) (hb : ∀ c ∈ b, c ∈ brk)
   (h1 : 1 ≤ a.length) (h2 : 1 ≤ b.length) (hla : a.length ≤ 500) (hlb : b.length ≤ 500) (hps : TriplesOk ps.toList) (hn : ∀ p ∈ news, p.1 ≠ 70) :
   FJ PySem.Challenge.rw_wj0022_01.row.prog w (hdkk w.params) p loose mean mg mb 148 [.str (tS a) ta, .str (tS b) tb]
     ((70, tabO ps) :: news) 50
     (fun v news' => (∃ t, v = .str (tS (rinS a b)) t) ∧ ∃ ps', TriplesOk ps'.toList ∧ news' = (70, tabO ps') :: news) := by
  w_top off
  k_fill
  unfold FJ; intros; rename_i hG hret
  refine wpJ_call ?_
  k_dflt (walk_at "cell_enterJ")
  refine wpJ_execs_cons (wpJ_Assign_Name (wpJ_Call ?_))
  k_steps
  refine wpJ_callWith_J1 (wpJ_spliced1 (wpJ_BinOp (wpJ_BinOp (wpJ_any ?_))))
  k_steps
  refine wpJ_Call ?_
  k_steps
  refine wpJ_callWith_ref1 ?_
  k_steps
  (with_reducible rename Frag.In _ _ => X9)
  refine ⟨⟨_, _, (X9.keeps (Fr.keep (by assumption))) _ _ (by k_is), rfl⟩, ?_⟩
  k_dflt (refine' fj_use (c_mirror _ _ _ _ _ _ _ _ _ ha h1 ?p3) ?k1 ?k2 ?k3 ?k4 ?k5 ?k6 ?k7 ?k8 ?k9 ?_)
  case k1 => k_asm
  case k2 => k_asm
  case k3 => k_asm
  case k4 => k_asm
  case k5 => k_asm
  case k6 => first | exact rfl | assumption
  case k7 => ktr_room
  case k8 => ktr_units
  case k9 => assumption
  case p3 => lia
  intro v9 n9 s9 F' N' G9 ho9 hP9
  obtain ⟨⟨t9, hv9⟩, hn9⟩ := hP9
  subst hv9
  rw [hn9] at N'
  clear hn9
  k_steps
  refine wpJ_Call ?_
  k_steps
  refine wpJ_callWith_ref1 ?_
  k_steps
  refine ⟨⟨_, _, (X9.keeps (Fr.keep (by assumption))) _ _ (by k_is), rfl⟩, ?_⟩
  k_dflt (refine' fj_use (c_mirror _ _ _ _ _ _ _ _ _ hb h2 ?p3) ?k1 ?k2 ?k3 ?k4 ?k5 ?k6 ?k7 ?k8 ?k9 ?_)
  case k1 => k_asm
  case k2 => k_asm
  case k3 => k_asm
  case k4 => k_asm
  case k5 => k_asm
  case k6 => first | exact rfl | assumption
  case k7 => ktr_room
  case k8 => ktr_units
  case k9 => assumption
  case p3 => lia
  intro v8 n8 s8 F' N' G8 ho8 hP8
  obtain ⟨⟨t8, hv8⟩, hn8⟩ := hP8
  subst hv8
  rw [hn8] at N'
  clear hn8
  k_steps
  refine ⟨⟨_, _, (X9.keeps (Fr.keep (by assumption))) _ _ (by k_is), rfl⟩, wpJ_any ?_⟩
  (with_reducible rename News _ _ _ _ => lN7)
  k_dflt (refine' fg_use (c_struck _ _ _ _ _ _ _ _ _ _ _ (tS_toList _) (cat_brk (cat_brk (cat_brk ha hb) (mir_brk ha)) (mir_brk hb)) ?p4 hps hn) ?k1 ?k2 ?k3 ?k4 ?k5 ?k6 ?k7 ?k8 ?k9 ?_)
  case k4 => exact lN7
  case k1 => k_asm
  case k2 => k_asm
  case k3 => k_asm
  case k5 => k_asm
  case k6 => first | exact rfl | assumption
  case k7 => ktr_room
  case k8 => ktr_units
  case k9 => assumption
  case p4 => (simp only [List.length_append, List.length_map, List.length_reverse]; lia)
  clear lN7
  intro v9 n9 s9 F' N' G9 ho9 hP9
  obtain ⟨⟨t9, hv9⟩, ps9, hps9, hn9⟩ := hP9
  subst hv9
  rw [hn9] at N'
  clear hn9
  k_steps
  refine wpJ_any ?_
  walk_at "anewA"
  k_steps
  refine Wrp.un ?_
  have hR1 : (red (a ++ b ++ a.reverse.map mir ++ b.reverse.map mir)).length ≤ 4096 := by
    refine Nat.le_trans (red_len _) ?_
    simp only [List.length_append, List.length_map, List.length_reverse]
    lia
  (with_reducible rename Fr _ _ _ _ => F9)
  (with_reducible rename News _ _ _ _ => N9)
  refine While_inv (RJ1 ((70, tabO ps9) :: news) (red (a ++ b ++ a.reverse.map mir ++ b.reverse.map mir))) F9 N9 ⟨red (a ++ b ++ a.reverse.map mir ++ b.reverse.map mir), _, rfl, rfl, rfl, hR1, red_brk (cat_brk (cat_brk (cat_brk ha hb) (mir_brk ha)) (mir_brk hb)), rfl⟩ ?turn ?hE
  case hE => passes_own
  case turn =>
    clear F9 N9
    rintro n m₁ news₁ h₁ tk₁ F₁ N₁ ⟨cur, t, rfl, hm, rfl, hn, hc, he⟩
    rw [named0 hm] at F₁
    rcases ends_cases cur with rfl | ⟨a, rfl⟩ | ⟨a, mid, b, rfl⟩
    · k_steps
      (with_reducible rename Fr _ _ _ _ => kF)
      (with_reducible rename News _ _ _ _ => kN)
      exact hret _ _ _ kF kN (by assumption) (by walk_at "osEnd") ⟨⟨_, congrArg (fun l => Value.str (tS l) t) he⟩, _, hps9, rfl⟩
    · k_steps
      (with_reducible rename Fr _ _ _ _ => kF)
      (with_reducible rename News _ _ _ _ => kN)
      exact hret _ _ _ kF kN (by assumption) (by walk_at "osEnd") ⟨⟨_, congrArg (fun l => Value.str (tS l) t) he⟩, _, hps9, rfl⟩
    · have ha : a ∈ brk := hc a (.head _)
      have hb : b ∈ brk := hc b (by simp)
      k_steps
      all_goals (with_reducible rename Fr _ _ _ _ => kF)
      all_goals (with_reducible rename News _ _ _ _ => kN)
      all_goals (try (exact hret _ _ _ kF kN (by assumption) (by walk_at "osEnd") ⟨⟨_, congrArg (fun l => Value.str (tS l) t) ((ringS_stop (by assumption)).symm.trans he)⟩, _, hps9, rfl⟩))
      all_goals (try (exfalso; simp only [List.length_cons, List.length_append] at *; lia))
      all_goals (refine WhileStep.intro kF kN (n' := mid.length) (by simp; lia) ⟨mid, _, rfl, rfl, rfl, by (simp at hn; lia), fun c h => hc c (by simp [h]), (ringS_turn (by assumption)).symm.trans he⟩)
end
end Mine
end
section
open PySem PySem.W PyProof.Rows
set_option maxRecDepth 100000
set_option maxHeartbeats 4000000
namespace Mine
section
local macro_rules | `(tactic| k_room) => `(tactic| ktr_room)
local macro_rules | `(tactic| k_all) => `(tactic| assumption)
local macro_rules | `(tactic| walk_at "cell_enterJ") => `(tactic| (refine' codeJ_def ?k1 ?k2 ?k3 ?k4 ?k5 ?kA ?kF ?kK ?k6 ?k7 ?k8 ?k9 ?kB ?_ ?c2 ?c3 ?c4 ?c5; (case kA => exact rfl); (case kF => exact rfl); (case kK => assumption); (case k1 => k_asm); (case k2 => k_asm); (case k3 => k_asm); (case k4 => k_asm); (case k5 => k_asm); (case k6 => k_is); (case k7 => k_is); (case k8 => ktr_room); (case k9 => exact BindsTo.of_eq rfl); (case c5 => decide); (case kB => exact locs rfl); (case c2 => exact rfl); (case c3 => exact rfl); (case c4 => exact rfl); k_whole; intro g' L' h' FG' F' N' B' X' T'; (try dsimp only); (try k_lift B'); (try k_fold)))
local macro_rules | `(tactic| walk_at "anewJ") => `(tactic| ((with_reducible rename Fr _ _ _ _ => lF9); (with_reducible rename News _ _ _ _ => lN9); (try dsimp only at lF9 lN9); refine' anewJ lF9 lN9 ?lG9 ?lO9 ?_; (case lG9 => assumption); (case lO9 => first | assumption | exact rfl); clear lF9 lN9; (repeat (with_reducible rename AllBare _ => lG9; clear lG9)); (try (with_reducible rename @Eq OsState _ _ => lO9; clear lO9)); (try (with_reducible rename Fresh _ => lZ9; clear lZ9)); intro lS9 lF9 lN9 lG9 lO9 lZ9))
local macro_rules | `(tactic| walk_at "anewA") => `(tactic| ((with_reducible rename Fr _ _ _ _ => lF9); (with_reducible rename News _ _ _ _ => lN9); (try dsimp only at lF9 lN9); refine' anewA lF9 lN9 ?lG9 ?lO9 ?_; (case lG9 => assumption); (case lO9 => first | assumption | exact rfl); clear lF9 lN9; (repeat (with_reducible rename AllBare _ => lG9; clear lG9)); (try (with_reducible rename @Eq OsState _ _ => lO9; clear lO9)); (try (with_reducible rename Fresh _ => lZ9; clear lZ9)); intro lS9 lF9 lN9 lG9 lO9 lZ9))
local macro_rules | `(tactic| walk_at "subscriptTail") => `(tactic| (k_here; (with_reducible show wpAny _ _ (subscriptTail _ _ (Value.ref _) (Value.int _ _)) _ _ _); k_dflt (first
  | (refine' it_led ?N ?hm ?ho ?h0 ?h1 ?hx ?_; (case N => k_asm); (case hm => k_mem); (case ho => exact rfl); (case h0 => decide); (case h1 => decide); (case hx => exact rfl); k_whole)
  | (refine' it_ledT ?N ?hm ?ho ?h0 ?h1 ?hx ?_; (case N => k_asm); (case hm => k_mem); (case ho => exact rfl); (case h0 => decide); (case h1 => decide); (case hx => exact rfl); k_whole))))
local macro_rules | `(tactic| walk_at "subscriptTail Name Name ref int") => `(tactic| (k_here; (with_reducible show wpAny _ _ (subscriptTail _ _ (Value.ref _) (Value.int _ _)) _ _ _); k_dflt (first
  | (refine' it_led ?N ?hm ?ho ?h0 ?h1 ?hx ?_; (case N => k_asm); (case hm => k_mem); (case ho => exact rfl); (case h0 => decide); (case h1 => decide); (case hx => exact rfl); k_whole)
  | (refine' it_ledT ?N ?hm ?ho ?h0 ?h1 ?hx ?_; (case N => k_asm); (case hm => k_mem); (case ho => exact rfl); (case h0 => decide); (case h1 => decide); (case hx => exact rfl); k_whole))))
local macro_rules | `(tactic| walk_at "subscriptTail Name Constant ref int") => `(tactic| (k_here; (with_reducible show wpAny _ _ (subscriptTail _ _ (Value.ref _) (Value.int _ _)) _ _ _); k_dflt (first
  | (refine' it_led ?N ?hm ?ho ?h0 ?h1 ?hx ?_; (case N => k_asm); (case hm => k_mem); (case ho => exact rfl); (case h0 => decide); (case h1 => decide); (case hx => exact rfl); k_whole)
  | (refine' it_ledT ?N ?hm ?ho ?h0 ?h1 ?hx ?_; (case N => k_asm); (case hm => k_mem); (case ho => exact rfl); (case h0 => decide); (case h1 => decide); (case hx => exact rfl); k_whole))))
local macro_rules | `(tactic| walk_at "subscriptTail Subscript") => `(tactic| (k_here; (with_reducible show wpAny _ _ (subscriptTail _ _ (Value.ref _) (Value.int _ _)) _ _ _); k_dflt (first
  | (refine' it_led ?N ?hm ?ho ?h0 ?h1 ?hx ?_; (case N => k_asm); (case hm => k_mem); (case ho => exact rfl); (case h0 => decide); (case h1 => decide); (case hx => exact rfl); k_whole)
  | (refine' it_ledT ?N ?hm ?ho ?h0 ?h1 ?hx ?_; (case N => k_asm); (case hm => k_mem); (case ho => exact rfl); (case h0 => decide); (case h1 => decide); (case hx => exact rfl); k_whole))))
local macro_rules | `(tactic| walk_at "binaryOp Add str str") => `(tactic| (k_here; (with_reducible show wpAny _ _ (binaryOp Operator.Add (Value.str (tS _) _) (Value.str (tS _) _)) _ _ _); (refine' addT ?ha ?hb ?_; (case ha => ((try simp only [List.length_append, List.length_map, List.length_reverse]); lia)); (case hb => ((try simp only [List.length_append, List.length_map, List.length_reverse]); lia))); intro _ _))
local macro_rules | `(tactic| walk_at "osEnd") => `(tactic| first | assumption | exact rfl | (refine Eq.trans (by assumption) ?_; first | assumption | (refine Eq.trans (by assumption) ?_; first | assumption | (refine Eq.trans (by assumption) ?_; assumption))))
def pt3 (rounds mirror : List Nat) (half back start d1 d2 : Nat) : Option (List Nat × List Nat) :=
  if (cut rounds (start + d1 + half) (start + d1 + d2 + half) == cut mirror (back - (start + d1 + d2)) (back - (start + d1)) && cut rounds (start + d1 + d2 + half) (start + half + half) == cut mirror (back - (start + half)) (back - (start + d1 + d2))) = true then
    some (cut rounds start (start + d1 + d2), cut rounds (start + d1 + d2) (start + half) ++ cut mirror (back - (start + d1)) (back - start)) else none
def pt2 (rounds mirror : List Nat) (half back start d1 : Nat) : Option (List Nat × List Nat) :=
  if (cut rounds (start + half) (start + d1 + half) == cut mirror (back - (start + d1)) (back - start)) = true then (List.range (half + 1 - d1)).findSome? (pt3 rounds mirror half back start d1) else none
def pt1 (rounds mirror : List Nat) (half back start : Nat) : Option (List Nat × List Nat) := (List.range (half + 1)).findSome? (pt2 rounds mirror half back start)
def partedS (ring : List Nat) (k : Nat) : Option (List Nat × List Nat) :=
  (List.range (ring.length / 2)).findSome? (pt1 (rep (2 * k) ring) ((rep (2 * k) ring).reverse.map mir) ((rep (2 * k) ring).length / 4) (rep (2 * k) ring).length)
def ptO (r : Option (List Nat × List Nat)) (t1 t2 : Tok) : Obj := match r with
  | none => listOf #[] 0
  | some (a, b) => listOf #[.str (tS a) t1, .str (tS b) t2] 0
theorem cut_norm {r m : List Nat} {a b c d : Int} {v : Bool} (a' b' c' d' : Nat) (h : (cut r a.toNat b.toNat == cut m c.toNat d.toNat) = v) (ha : a = a') (hb : b = b') (hc : c = c') (hd : d = d') : (cut r a' b' == cut m c' d') = v := by
  subst ha hb hc hd
  simpa using h
def PN (rounds mirror : List Nat) (half : Nat) (m : Str → Option Value) : Prop :=
  ∃ q1 q2 q3 q4, m (Str.ofString "rounds") = some (.str (tS rounds) q1) ∧ m (Str.ofString "mirror") = some (.str (tS mirror) q2) ∧ m (Str.ofString "half") = some (.int (half : Int) q3) ∧ m (Str.ofString "back") = some (.int (rounds.length : Int) q4)
def J1 (rounds mirror : List Nat) (half : Nat) (base : List (Addr × Obj)) (i : Nat) (m : Str → Option Value) (l : List (Addr × Obj)) : Prop :=
  l = base ∧ PN rounds mirror half m ∧ (List.range i).findSome? (pt1 rounds mirror half rounds.length) = none
def J2 (rounds mirror : List Nat) (half start : Nat) (base : List (Addr × Obj)) (d : Nat) (m : Str → Option Value) (l : List (Addr × Obj)) : Prop :=
  l = base ∧ PN rounds mirror half m ∧ (∃ q5 q6, m (Str.ofString "start") = some (.int (start : Int) q5) ∧ m (Str.ofString "end") = some (.int ((start : Int) + (half : Int)) q6)) ∧ (List.range d).findSome? (pt2 rounds mirror half rounds.length start) = none
def J3 (rounds mirror : List Nat) (half start d1 : Nat) (base : List (Addr × Obj)) (d : Nat) (m : Str → Option Value) (l : List (Addr × Obj)) : Prop :=
  l = base ∧ PN rounds mirror half m ∧ (∃ q5 q6 q7, m (Str.ofString "start") = some (.int (start : Int) q5) ∧ m (Str.ofString "end") = some (.int ((start : Int) + (half : Int)) q6) ∧ m (Str.ofString "one") = some (.int ((start : Int) + (d1 : Int)) q7)) ∧
    (List.range d).findSome? (pt3 rounds mirror half rounds.length start d1) = none
theorem fdiv_nat (a b : Nat) : Int.fdiv (a : Int) (b : Int) = ((a / b : Nat) : Int) := by
  rw [Int.fdiv_eq_ediv_of_nonneg _ (by lia)]; rfl
theorem rs_ab {a b : Int} {n : Nat} (h : b - a = n) : Builtin.Range.rangeSize a b 1 = (n : Int) := by
  unfold Builtin.Range.rangeSize
  rw [if_pos (by lia)]
  split <;> lia
theorem small_ab {a b : Int} (h0 : 0 ≤ a) (h1 : a ≤ 100000) (h2 : a ≤ b) (h3 : b ≤ 100000) : Builtin.Range.small a b 1 = true := by
  unfold Builtin.Range.small Builtin.Range.rangeFitsLong
  rw [rs_ab (n := (b - a).toNat) (by lia)]
  rw [if_pos (by lia)]
  simp
  lia
theorem cut_le {l : List Nat} {i j : Nat} : (cut l i j).length ≤ l.length := by
  unfold cut
  rw [List.length_take, List.length_drop]
  lia
theorem pt_post {rounds mirror : List Nat} {a b c d e : Int} {a' b' c' d' e' : Nat} {D : Addr} {t1 t2 : Tok} {news : List (Addr × Obj)} {r : Option (List Nat × List Nat)} (hr : r = some (cut rounds a' b', cut rounds b' c' ++ cut mirror d' e')) (ha : a = a') (hb : b = b') (hc : c = c') (hd : d = d') (he : e = e') :
    ∃ D' u1 u2, Value.ref D = .ref D' ∧ ((D, listOf #[.str (tS (cut rounds a.toNat b.toNat)) t1, .str (tS (cut rounds b.toNat c.toNat ++ cut mirror d.toNat e.toNat)) t2] 0) :: news) = (D', ptO r u1 u2) :: news := by
  subst ha hb hc hd he hr
  exact ⟨D, t1, t2, rfl, by simp only [ptO, Int.toNat_natCast]⟩
theorem news_head {h₀ h : Heap} {L : Addr} {p : Addr × Obj} {l l' : List (Addr × Obj)} (N : News h₀ L h (p :: l)) (hs : ∀ q ∈ l', q ∈ l) : News h₀ L h (p :: l') := fun q hq => by
  rcases List.mem_cons.mp hq with rfl | hq
  · exact N _ (.head _)
  · exact N _ (.tail _ (hs _ hq))
local macro_rules | `(tactic| walk_at "exec For") => `(tactic| (k_here; (with_reducible show wpAny _ _ (exec (Stmt.For (Expr.Name _ _) _ _ [] _) _) _ _ _); (rename Fr _ _ _ _ => lF'); (with_unfolding_all refine' For_invVF lF' ?k1 ?k2 ?_; (case k1 => exact rfl); (case k2 => exact rfl); k_whole)))
local macro_rules | `(tactic| walk_at "pyIter ref") => `(tactic| (k_here; refine Wrp.mk ?_))
local macro_rules | `(tactic| walk_at "call builtin:len") => `(tactic| (k_here; (with_reducible show wpAny _ _ (call (Value.builtin "len") [Value.str (tS _) _]) _ _ _); refine len_tS (by lia) ?_; intro _ _))
local macro_rules | `(tactic| walk_at "compareOp Eq str str") => `(tactic| (k_here; (with_reducible show wpAny _ _ (compareOp CmpOp.Eq (Value.str (tS _) _) (Value.str (tS _) _)) _ _ _); refine eqT ?_))
local macro_rules | `(tactic| walk_at "binaryOp Mult str int") => `(tactic| (k_here; (with_reducible show wpAny _ _ (binaryOp Operator.Mult (Value.str (tS _) _) (Value.int _ _)) _ _ _); k_dflt (refine' mulT ?hi ?hn ?hl ?_; (case hi => lia); (case hn => lia); (case hl => lia)); intro _ _))
local macro_rules | `(tactic| walk_at "subscriptTail") => `(tactic| (k_here; (with_reducible show wpAny _ _ (subscriptTail _ (Expr.Slice (some _) (some _) none _) (Value.str (tS _) _) (Value.ref _)) _ _ _); (with_reducible rename Fr _ _ _ _ => lF'); (with_reducible rename News _ _ _ _ => lN'); (refine' cutT (s := ⟨_, _, _, _, _⟩) lF' lN' ?g0 ?g1 ?g2 ?g3 ?_; (case g0 => lia); (case g1 => lia); (case g2 => ((try simp only [List.length_map, List.length_reverse]); lia)); (case g3 => ((try simp only [List.length_map, List.length_reverse]); lia))); intro _ _ _ _ _))
local macro_rules | `(tactic| walk_at "subscriptTail Name Slice str ref") => `(tactic| (k_here; (with_reducible show wpAny _ _ (subscriptTail _ (Expr.Slice (some _) (some _) none _) (Value.str (tS _) _) (Value.ref _)) _ _ _); (with_reducible rename Fr _ _ _ _ => lF'); (with_reducible rename News _ _ _ _ => lN'); (refine' cutT (s := ⟨_, _, _, _, _⟩) lF' lN' ?g0 ?g1 ?g2 ?g3 ?_; (case g0 => lia); (case g1 => lia); (case g2 => ((try simp only [List.length_map, List.length_reverse]); lia)); (case g3 => ((try simp only [List.length_map, List.length_reverse]); lia))); intro _ _ _ _ _))
local macro_rules | `(tactic| walk_at "binaryOp Add str str") => `(tactic| (k_here; (with_reducible show wpAny _ _ (binaryOp Operator.Add (Value.str (tS _) _) (Value.str (tS _) _)) _ _ _); (refine' addT ?ha ?hb ?_; (case ha => exact Nat.le_trans cut_le (by lia)); (case hb => exact Nat.le_trans cut_le (by lia))); intro _ _))
theorem c_parted (w : World) (p : Program) (loose : List Str) (mean : ExcName → Option Value) (mg mb : Str → Option Value) (news : List (Addr × Obj)) (ring : List Nat) (k : Nat) (tr tk : Tok) (hb : ∀ c ∈ ring, c ∈ brk)
   (h1 : 1 ≤ ring.length) (hl : ring.length ≤ 100) (hk : 1 ≤ k) (hk4 : k ≤ 4) :
   FJ PySem.Challenge.rw_wj0022_01.row.prog w (hdkk w.params) p loose mean mg mb 155 [.str (tS ring) tr, .int (k : Int) tk]
     news 50
     (fun v news' => ∃ D t1 t2, v = .ref D ∧ news' = (D, ptO (partedS ring k) t1 t2) :: news) := by
  w_top off
  k_fill
  unfold FJ; intros; rename_i hG hret
  refine wpJ_call ?_
  k_dflt (walk_at "cell_enterJ")
  refine wpJ_execs_cons (wpJ_any ?_)
  k_steps
  walk_at "anewJ"
  (with_reducible rename Fr _ _ _ _ => F1)
  rw [show (2 * (k : Int)).toNat = 2 * k by lia] at F1
  have hlen := rep_len (2 * k) ring
  have hbr := rep_mem (n := 2 * k) hb
  unfold partedS at hret
  generalize rep (2 * k) ring = rounds at F1 hlen hbr hret
  have hr1 : 1 ≤ rounds.length := by
    rw [hlen]
    exact Nat.mul_pos (by lia) h1
  have hr2 : rounds.length ≤ 800 := by
    rw [hlen]
    exact Nat.le_trans (Nat.mul_le_mul (show 2 * k ≤ 8 by lia) hl) (by decide)
  have hr3 : 2 * ring.length ≤ rounds.length := by
    rw [hlen]
    exact Nat.mul_le_mul (by lia) (Nat.le_refl _)
  refine wpJ_execs_cons (wpJ_Assign_Name (wpJ_Call ?_))
  k_steps
  refine wpJ_callWith_ref1 ?_
  k_steps
  (with_reducible rename Frag.In _ _ => X9)
  refine ⟨⟨_, _, (X9.keeps (Fr.keep (by assumption))) _ _ (by k_is), rfl⟩, ?_⟩
  k_dflt (refine' fj_use (c_mirror _ _ _ _ _ _ _ _ _ hbr hr1 ?p3) ?k1 ?k2 ?k3 ?k4 ?k5 ?k6 ?k7 ?k8 ?k9 ?_)
  case k1 => k_asm
  case k2 => k_asm
  case k3 => k_asm
  case k4 => k_asm
  case k5 => k_asm
  case k6 => first | exact rfl | assumption
  case k7 => ktr_room
  case k8 => ktr_units
  case k9 => assumption
  case p3 => lia
  intro v9 n9 s9 F' N' G9 ho9 hP9
  obtain ⟨⟨t9, hv9⟩, hn9⟩ := hP9
  subst hv9
  rw [hn9] at N'
  clear hn9
  have hml : (rounds.reverse.map mir).length = rounds.length := by simp
  generalize rounds.reverse.map mir = mirror at N' hret hml ⊢
  k_steps
  refine wpJ_any ?_
  walk_at "anewA"
  k_steps
  (with_reducible rename IsRange _ _ _ _ _ _ _ _ => R9)
  (with_reducible rename Fr _ _ _ _ => F9)
  (with_reducible rename News _ _ _ _ => N9)
  rw [show (4 : Int) = ((4 : Nat) : Int) from rfl, fdiv_nat] at F9
  rw [show (2 : Int) = ((2 : Nat) : Int) from rfl, fdiv_nat] at R9
  have hh4 : 4 * (rounds.length / 4) ≤ rounds.length := by lia
  have hh5 : rounds.length / 4 ≤ 200 := by lia
  have hr5 : 2 * (ring.length / 2) ≤ ring.length := by lia
  generalize rounds.length / 4 = half at F9 hret hh4 hh5
  generalize ring.length / 2 = nr at R9 hret hr5
  refine Wrp.un (range_loop (J1 rounds mirror half news) rfl R9 (small_ab (by lia) (by lia) (by lia) (by lia)) (rs_ab (n := nr) (by lia)) F9 (nsub (l' := news) N9 (fun p hp => .tail _ hp)) ⟨rfl, ⟨_, _, _, _, rfl, rfl, rfl, rfl⟩, rfl⟩ ?t1 ?d1)
  case t1 =>
    clear F9 N9 R9
    rintro i u₁ m₁ news₁ h tk I io hi ⟨rfl, ⟨q1, q2, q3, q4, m1, m2, m3, m4⟩, hf1⟩ hio hoff F₁ N₁
    rw [named_cons m1 (named_cons m2 (named_cons m3 (named0 m4))), show (0 + (i : Int) * 1) = (i : Int) by lia] at F₁
    dsimp only at F₁
    generalize hrest : news₁ ++ [(I, io)] = rest at N₁
    k_steps
    (with_reducible rename IsRange _ _ _ _ _ _ _ _ => R9)
    (with_reducible rename Fr _ _ _ _ => F9)
    (with_reducible rename News _ _ _ _ => N9)
    refine Wrp.un (range_loop (J2 rounds mirror half i rest) rfl R9 (small_ab (by lia) (by lia) (by lia) (by lia)) (rs_ab (n := half + 1) (by lia)) F9 N9 ⟨rfl, ⟨_, _, _, _, rfl, rfl, rfl, rfl⟩, ⟨_, _, rfl, rfl⟩, rfl⟩ ?t2 ?d2)
    case t2 =>
      clear F9 N9 R9
      rintro d u₂ m₂ news₂ h tk I2 io2 hd ⟨rfl, ⟨q1, q2, q3, q4, m1, m2, m3, m4⟩, ⟨q5, q6, m5, m6⟩, hf2⟩ hio2 hoff2 F₁ N₁
      rw [named_cons m1 (named_cons m2 (named_cons m3 (named_cons m4 (named_cons m5 (named0 m6))))), show ((i : Int) + (d : Int) * 1) = (i : Int) + (d : Int) by lia] at F₁
      dsimp only at F₁
      generalize hrest2 : news₂ ++ [(I2, io2)] = rest2 at N₁
      k_steps
      · (with_reducible rename IsRange _ _ _ _ _ _ _ _ => R9)
        (with_reducible rename Fr _ _ _ _ => F9)
        (with_reducible rename News _ _ _ _ => N9)
        (with_reducible rename (_ == _) = true => hc2)
        have hc2' := cut_norm (i + half) (i + d + half) (rounds.length - (i + d)) (rounds.length - i) hc2 (by lia) (by lia) (by lia) (by lia)
        refine Wrp.un (range_loop (J3 rounds mirror half i d rest2) rfl R9 (small_ab (by lia) (by lia) (by lia) (by lia)) (rs_ab (n := half + 1 - d) (by lia)) F9 N9 ⟨rfl, ⟨_, _, _, _, rfl, rfl, rfl, rfl⟩, ⟨_, _, _, rfl, rfl, rfl⟩, rfl⟩ ?t3 ?d3)
        case t3 =>
          clear F9 N9 R9
          rintro e u₃ m₃ news₃ h tk I3 io3 he ⟨rfl, ⟨q1, q2, q3, q4, m1, m2, m3, m4⟩, ⟨q5, q6, q7, m5, m6, m7⟩, hf3⟩ hio3 hoff3 F₁ N₁
          rw [named_cons m1 (named_cons m2 (named_cons m3 (named_cons m4 (named_cons m5 (named_cons m6 (named0 m7)))))), show ((i : Int) + (d : Int) + (e : Int) * 1) = (i : Int) + (d : Int) + (e : Int) by lia] at F₁
          dsimp only at F₁
          generalize hrest3 : news₃ ++ [(I3, io3)] = rest3 at N₁
          k_steps
          · (with_reducible rename (_ == _) = true => hB)
            revert hB
            (with_reducible rename (_ == _) = true => hA)
            intro hB
            have hA' := cut_norm (i + d + half) (i + d + e + half) (rounds.length - (i + d + e)) (rounds.length - (i + d)) hA (by lia) (by lia) (by lia) (by lia)
            have hB' := cut_norm (i + d + e + half) (i + half + half) (rounds.length - (i + half)) (rounds.length - (i + d + e)) hB (by lia) (by lia) (by lia) (by lia)
            have hfin := find_here hf1 (find_here hf2 ((if_pos hc2').trans (find_here hf3 (if_pos (by rw [hA', hB']; rfl)) he)) hd) hi
            simp only [TextStep]
            k_steps
            (with_reducible rename Fr _ _ _ _ => kF)
            (with_reducible rename News _ _ _ _ => kN)
            refine hret _ _ _ kF (news_head (l' := news₁) kN ?sub) (by assumption) (by walk_at "osEnd") (pt_post hfin (by lia) (by lia) (by lia) (by lia) (by lia))
            rw [← hrest3, ← hrest2, ← hrest]
            intro p hp
            simp only [List.mem_append, hp, true_or]
          · (with_reducible rename (_ == _) = false => hB)
            have hB' := cut_norm (i + d + e + half) (i + half + half) (rounds.length - (i + half)) (rounds.length - (i + d + e)) hB (by lia) (by lia) (by lia) (by lia)
            (with_reducible rename Fr _ _ _ _ => F9)
            (with_reducible rename News _ _ _ _ => N9)
            subst hrest3
            exact ⟨_, _, _, _, rfl, F9, N9, hoff3, rfl, ⟨_, _, _, _, rfl, rfl, rfl, rfl⟩, ⟨_, _, _, rfl, rfl, rfl⟩, find_next hf3 (if_neg (by rw [hB', Bool.and_false]; nofun))⟩
          · (with_reducible rename (_ == _) = false => hA)
            have hA' := cut_norm (i + d + half) (i + d + e + half) (rounds.length - (i + d + e)) (rounds.length - (i + d)) hA (by lia) (by lia) (by lia) (by lia)
            (with_reducible rename Fr _ _ _ _ => F9)
            (with_reducible rename News _ _ _ _ => N9)
            subst hrest3
            exact ⟨_, _, _, _, rfl, F9, N9, hoff3, rfl, ⟨_, _, _, _, rfl, rfl, rfl, rfl⟩, ⟨_, _, _, rfl, rfl, rfl⟩, find_next hf3 (if_neg (by rw [hA', Bool.false_and]; nofun))⟩
        case d3 =>
          clear F9 N9 R9
          rintro m₃ news₃ h tk ⟨rfl, ⟨q1, q2, q3, q4, m1, m2, m3, m4⟩, ⟨q5, q6, q7, m5, m6, m7⟩, hf3⟩ F₁ N₁
          k_steps
          subst hrest2
          exact ⟨_, _, _, _, rfl, F₁, N₁, hoff2, rfl, ⟨_, _, _, _, m1, m2, m3, m4⟩, ⟨_, _, m5, m6⟩, find_next hf2 ((if_pos hc2').trans hf3)⟩
      · (with_reducible rename (_ == _) = false => hc2)
        have hc2' := cut_norm (i + half) (i + d + half) (rounds.length - (i + d)) (rounds.length - i) hc2 (by lia) (by lia) (by lia) (by lia)
        (with_reducible rename Fr _ _ _ _ => F9)
        (with_reducible rename News _ _ _ _ => N9)
        subst hrest2
        exact ⟨_, _, _, _, rfl, F9, N9, hoff2, rfl, ⟨_, _, _, _, rfl, rfl, rfl, rfl⟩, ⟨_, _, rfl, rfl⟩, find_next hf2 (if_neg (by rw [hc2']; nofun))⟩
    case d2 =>
      clear F9 N9 R9
      rintro m₂ news₂ h tk ⟨rfl, ⟨q1, q2, q3, q4, m1, m2, m3, m4⟩, _, hf2⟩ F₁ N₁
      k_steps
      subst hrest
      exact ⟨_, _, _, _, rfl, F₁, N₁, hoff, rfl, ⟨_, _, _, _, m1, m2, m3, m4⟩, find_next hf1 hf2⟩
  case d1 =>
    clear F9 N9 R9
    rintro m₁ news₁ h tk ⟨rfl, ⟨q1, q2, q3, q4, m1, m2, m3, m4⟩, hf1⟩ F₁ N₁
    k_steps
    (with_reducible rename Fr _ _ _ _ => kF)
    (with_reducible rename News _ _ _ _ => kN)
    refine hret _ _ _ kF kN (by assumption) (by walk_at "osEnd") ⟨_, 0, 0, rfl, ?_⟩
    rw [hf1]
    rfl
end
end Mine
end
section
open PySem PySem.W PyProof.Rows
set_option maxRecDepth 100000
set_option maxHeartbeats 4000000
namespace Mine
def KindsOk (k0 k1 k2 k3 : Nat) : Prop := (k0 = 40 ∧ k1 = 41 ∧ k2 = 91 ∧ k3 = 93) ∨ (k0 = 40 ∧ k1 = 41 ∧ k2 = 123 ∧ k3 = 125) ∨ (k0 = 91 ∧ k1 = 93 ∧ k2 = 123 ∧ k3 = 125)
/-- letters told as bracket codes -/
structure Good (φ : Lt → Nat) : Prop where
  br : ∀ c, φ c ∈ brk
  mate : ∀ a b, mtP (φ a) (φ b) = eqL a (iv b)
  mi : ∀ c, mir (φ c) = φ (iv c)
  inj : ∀ a b, φ a = φ b → a = b
def phi (k0 k1 k2 k3 : Nat) : Lt → Nat
  | (false, false) => k0
  | (false, true) => k1
  | (true, false) => k2
  | (true, true) => k3
theorem good_phi {k0 k1 k2 k3 : Nat} (hk : KindsOk k0 k1 k2 k3) : Good (phi k0 k1 k2 k3) := by
  rcases hk with ⟨rfl, rfl, rfl, rfl⟩ | ⟨rfl, rfl, rfl, rfl⟩ | ⟨rfl, rfl, rfl, rfl⟩ <;>
  exact ⟨by rintro ⟨a, b⟩; revert a b; decide, by rintro ⟨a, b⟩ ⟨c, d⟩; revert a b c d; decide, by rintro ⟨a, b⟩; revert a b; decide, by rintro ⟨a, b⟩ ⟨c, d⟩; revert a b c d; decide⟩
/-- letters begun at c -/
def sg (c : Lt) (x : Lt) : Lt := (xor x.1 c.1, xor x.2 c.2)
theorem sg_sg (c x : Lt) : sg c (sg c x) = x := by
  obtain ⟨a, b⟩ := c
  obtain ⟨d, e⟩ := x
  revert a b d e
  decide
theorem sg_self (c : Lt) : sg c c = (false, false) := by
  obtain ⟨a, b⟩ := c
  revert a b
  decide
theorem good_sg {φ : Lt → Nat} (g : Good φ) (c : Lt) : Good (fun x => φ (sg c x)) := by
  refine ⟨fun x => g.br _, fun a b => ?_, fun x => ?_, fun a b h => ?_⟩
  · rw [g.mate]
    obtain ⟨c1, c2⟩ := c
    obtain ⟨a1, a2⟩ := a
    obtain ⟨b1, b2⟩ := b
    revert c1 c2 a1 a2 b1 b2
    decide
  · rw [g.mi]
    congr 1
    obtain ⟨c1, c2⟩ := c
    obtain ⟨a1, a2⟩ := x
    revert c1 c2 a1 a2
    decide
  · have := congrArg (sg c) (g.inj _ _ h)
    rwa [sg_sg, sg_sg] at this
section
variable {φ : Lt → Nat} (g : Good φ)
include g
theorem st_map (s : List Lt) (c : Lt) : stS (s.map φ) (φ c) = (sA s c).map φ := by
  cases s with
  | nil => rfl
  | cons t r =>
    show (if mtP (φ t) (φ c) then r.map φ else _) = (bif eqL t (iv c) then r else c :: t :: r).map φ
    rw [g.mate]
    cases eqL t (iv c) <;> rfl
theorem fold_map : ∀ (w s : List Lt), (w.map φ).foldl stS (s.map φ) = (run s w).map φ
  | [], _ => rfl
  | c :: w, s => by
    rw [List.map_cons, List.foldl_cons, st_map g, fold_map w]
    rfl
theorem red_map (w : List Lt) : red (w.map φ) = (redA w).map φ := by
  unfold red redA
  rw [List.map_reverse, ← fold_map g w []]
  rfl
theorem inv_map (w : List Lt) : (w.map φ).reverse.map mir = (invW w).map φ := by
  rw [← List.map_reverse, List.map_map, invW, List.map_map]
  congr 1
  funext c
  exact g.mi c
theorem ring_map : ∀ (f : Nat) (w : List Lt), ringF f (w.map φ) = (ringG f w).map φ
  | 0, _ => rfl
  | f + 1, w => by
    rcases ends3 w with rfl | ⟨a, rfl⟩ | ⟨a, m, b, rfl⟩
    · unfold ringF ringG; simp
    · unfold ringF ringG; simp
    · have e1 : (a :: (m ++ [b])).map φ = φ a :: (m.map φ ++ [φ b]) := by simp
      have e2 : (1 < ((a :: (m ++ [b])).map φ).length ∧ mtP (((a :: (m ++ [b])).map φ).headD 0) (((a :: (m ++ [b])).map φ).getLastD 0) = true) ↔
          (1 < (a :: (m ++ [b])).length ∧ eqL ((a :: (m ++ [b])).headD (false, false)) (iv ((a :: (m ++ [b])).getLastD (false, false))) = true) := by
        rw [lastG, e1, lastD]
        simp only [List.headD_cons, g.mate]
        simp
      unfold ringF ringG
      by_cases h : (1 < (a :: (m ++ [b])).length ∧ eqL ((a :: (m ++ [b])).headD (false, false)) (iv ((a :: (m ++ [b])).getLastD (false, false))) = true)
      · rw [if_pos h, if_pos (e2.mpr h)]
        rw [← ring_map f]
        simp
      · rw [if_neg h, if_neg (fun q => h (e2.mp q))]
theorem ringS_map (w : List Lt) : ringS (w.map φ) = (ringA w).map φ := by
  unfold ringS ringA
  rw [List.length_map]
  exact ring_map g _ w
theorem rin_map (a b : List Lt) : rinS (a.map φ) (b.map φ) = (rinA a b).map φ := by
  unfold rinS rinA
  rw [inv_map g, inv_map g, ← List.map_append, ← List.map_append, ← List.map_append, red_map g, ringS_map g]
theorem map_inj : ∀ {x y : List Lt}, x.map φ = y.map φ → x = y
  | [], [], _ => rfl
  | a :: x, b :: y, h => by
    rw [List.map_cons, List.map_cons, List.cons.injEq] at h
    rw [g.inj _ _ h.1, map_inj h.2]
  | [], _ :: _, h => by cases h
  | _ :: _, [], h => by cases h
theorem eqW_map (x y : List Lt) : (x.map φ == y.map φ) = eqW x y := by
  cases e : eqW x y with
  | true => rw [eqW_eq e]; exact beq_self_eq_true _
  | false =>
    refine beq_eq_false_iff_ne.mpr fun h => ?_
    rw [map_inj g h, eqW_self] at e
    cases e
omit g in
theorem cut_map {f : Lt → Nat} (l : List Lt) (i j : Nat) : cut (l.map f) i j = (cut l i j).map f := by
  unfold cut
  rw [← List.map_drop, ← List.map_take]
omit g in
theorem rep_map {f : Lt → Nat} (n : Nat) (l : List Lt) : rep n (l.map f) = (rep n l).map f := by
  unfold rep
  rw [← List.map_replicate (f := List.map f), ← List.map_flatten]
def mp (φ : Lt → Nat) (q : List Lt × List Lt) : List Nat × List Nat := (q.1.map φ, q.2.map φ)
omit g in
theorem find_map {α β : Type} {f : Nat → Option α} {f' : Nat → Option β} {h : α → β} (e : ∀ i, f' i = (f i).map h) (l : List Nat) : l.findSome? f' = (l.findSome? f).map h := by
  induction l with
  | nil => rfl
  | cons i l ih =>
    rw [List.findSome?_cons, List.findSome?_cons, e, ih]
    cases f i <;> rfl
theorem p3_map (R M : List Lt) (half back s d1 d2 : Nat) : pt3 (R.map φ) (M.map φ) half back s d1 d2 = (pA3 R M half back s d1 d2).map (mp φ) := by
  unfold pt3 pA3
  simp only [cut_map, eqW_map g]
  cases (eqW (cut R (s + d1 + half) (s + d1 + d2 + half)) (cut M (back - (s + d1 + d2)) (back - (s + d1))) && eqW (cut R (s + d1 + d2 + half) (s + half + half)) (cut M (back - (s + half)) (back - (s + d1 + d2)))) with
  | true => simp [mp]
  | false => rfl
theorem p2_map (R M : List Lt) (half back s d1 : Nat) : pt2 (R.map φ) (M.map φ) half back s d1 = (pA2 R M half back s d1).map (mp φ) := by
  unfold pt2 pA2
  rw [cut_map, cut_map, eqW_map g]
  cases eqW (cut R (s + half) (s + d1 + half)) (cut M (back - (s + d1)) (back - s)) with
  | true => exact find_map (fun i => p3_map g ..) _
  | false => rfl
theorem p1_map (R M : List Lt) (half back s : Nat) : pt1 (R.map φ) (M.map φ) half back s = (pA1 R M half back s).map (mp φ) := find_map (fun i => p2_map g ..) _
theorem parted_map (r : List Lt) (k : Nat) : partedS (r.map φ) k = (partedA r k).map (mp φ) := by
  unfold partedS partedA
  rw [rep_map, inv_map g, List.length_map, List.length_map]
  exact find_map (fun i => p1_map g ..) _
omit g
/-- what the law asks, of two rows of bracket codes -/
def Ans (A B : List Nat) : Prop :=
  (red (A ++ B) = red (B ++ A) ∧ rinS A B = []) ∨
  (red (A ++ B) ≠ red (B ++ A) ∧ 1 ≤ (rinS A B).length ∧ (rinS A B).length ≤ 100 ∧ (∀ c ∈ rinS A B, c ∈ brk) ∧ ∃ x y, partedS (rinS A B) 1 = some (x, y) ∧ partedS (rinS A B) 3 = none ∧ 1 ≤ x.length ∧ 1 ≤ y.length ∧ x.length ≤ 100 ∧ y.length ≤ 100 ∧
    (∀ c ∈ x, c ∈ brk) ∧ (∀ c ∈ y, c ∈ brk) ∧ (rinS x y).length = (rinS A B).length ∧ ∃ p q, rinS A B ++ rinS A B = p ++ rinS x y ++ q)
theorem isE_nil {l : List Lt} (h : isE l = true) : l = [] := by
  cases l with
  | nil => rfl
  | cons a l => cases h
theorem isE_len {l : List Lt} (h : isE l = false) : 1 ≤ l.length := by
  cases l with
  | nil => cases h
  | cons a l => simp
include g
theorem map_brk (l : List Lt) : ∀ c ∈ l.map φ, c ∈ brk := fun c hc => by
  obtain ⟨d, _, rfl⟩ := List.mem_map.mp hc
  exact g.br d
theorem ans_of {a b : List Lt} (h : (bif eqW (redA (a ++ b)) (redA (b ++ a)) then isE (rinA a b) else memR (rinA a b) rings) = true) : Ans (a.map φ) (b.map φ) := by
  unfold Ans
  rw [← List.map_append, ← List.map_append, red_map g, red_map g, rin_map g]
  cases e : eqW (redA (a ++ b)) (redA (b ++ a)) with
  | true =>
    rw [e] at h
    exact .inl ⟨by rw [eqW_eq e], by rw [isE_nil h]; rfl⟩
  | false =>
    rw [e] at h
    have hr := List.all_eq_true.mp rings_ok _ (memR_mem h)
    generalize rinA a b = r at hr
    unfold okR at hr
    simp only [Bool.and_eq_true, Bool.not_eq_true'] at hr
    obtain ⟨⟨⟨h1, h2⟩, h3⟩, h4⟩ := hr
    refine .inr ⟨fun q => ?_, by rw [List.length_map]; exact isE_len h1, by rw [List.length_map]; exact Nat.le_of_ble_eq_true h2, map_brk g r, ?_⟩
    · rw [map_inj g q, eqW_self] at e
      cases e
    · rw [parted_map g, parted_map g, show partedA r 3 = none from noN_none h4]
      cases e1 : partedA r 1 with
      | none => rw [e1] at h3; cases h3
      | some q =>
        obtain ⟨x, y⟩ := q
        rw [e1] at h3
        unfold okP at h3
        simp only [Bool.and_eq_true, Bool.not_eq_true'] at h3
        obtain ⟨⟨⟨⟨⟨x1, y1⟩, x2⟩, y2⟩, z1⟩, z2⟩ := h3
        refine ⟨x.map φ, y.map φ, rfl, rfl, by rw [List.length_map]; exact isE_len x1, by rw [List.length_map]; exact isE_len y1, by rw [List.length_map]; exact Nat.le_of_ble_eq_true x2, by rw [List.length_map]; exact Nat.le_of_ble_eq_true y2, map_brk g x, map_brk g y, ?_, ?_⟩
        · rw [rin_map g, List.length_map, List.length_map]
          exact Nat.eq_of_beq_eq_true z1
        · obtain ⟨p, q, hpq⟩ := inf_eq z2
          rw [rin_map g, ← List.map_append, hpq]
          exact ⟨p.map φ, q.map φ, by rw [List.map_append, List.map_append]⟩
theorem plain1 (l : List Lt) (hl : l.length = 5) {n : Nat} (hn : n = 2 ∨ n = 3) : Ans ((l.map φ).take n) ((l.map φ).drop n) := by
  obtain ⟨c, w, rfl⟩ : ∃ c w, l = c :: w := by
    cases l with
    | nil => cases hl
    | cons c w => exact ⟨c, w, rfl⟩
  have hw : w.length = 4 := by simpa using hl
  have e : (c :: w).map φ = ((false, false) :: w.map (sg c)).map (fun x => φ (sg c x)) := by
    rw [List.map_cons, List.map_cons, List.map_map]
    congr 1
    · rw [← sg_self c, sg_sg]
    · refine List.map_congr_left fun x _ => ?_
      show φ x = φ (sg c (sg c x))
      rw [sg_sg]
  rw [e, ← List.map_take, ← List.map_drop]
  refine ans_of (good_sg g c) ?_
  have h4 : (w.map (sg c)).length = 4 := by rw [List.length_map, hw]
  have hd : dec 4 (enc (w.map (sg c))) = w.map (sg c) := by
    have := dec_enc (w.map (sg c))
    rwa [h4] at this
  have hlt : enc (w.map (sg c)) < 256 := by
    have := enc_lt (w.map (sg c))
    rwa [h4] at this
  rw [← hd]
  rcases hn with rfl | rfl
  · exact allB_at words2 _ hlt
  · exact allB_at words3 _ hlt
end
def drawR (_ : Nat) (v : Value) : Prop := ∃ z t, v = .int z t ∧ 0 ≤ z ∧ z ≤ 2000000
def anyI {α : Type} (_ : α) (v : Value) : Prop := ∃ z t, v = .int z t
def letR {α : Type} (φ : Lt → Nat) (_ : α) (v : Value) : Prop := ∃ c t, v = .str (tS [φ c]) t
theorem rel_ex {α : Type} : ∀ {as : List α} {vs : List Value}, RelL anyI as vs → ∃ ms, IntsAre vs ms
  | _, _, .nil => ⟨_, .nil⟩
  | _, _, .cons ⟨z, t, e⟩ r => by
    obtain ⟨ms, h⟩ := rel_ex r
    subst e
    exact ⟨_, .cons z t h⟩
theorem rel_let {α : Type} {φ : Lt → Nat} : ∀ {as : List α} {vs : List Value}, RelL (letR φ) as vs → ∃ ls : List Lt, ls.length = as.length ∧ StrsAre vs ((ls.map φ).map fun c => ⟨#[c]⟩)
  | _, _, .nil => ⟨[], rfl, .nil⟩
  | _, _, .cons ⟨c, t, e⟩ r => by
    obtain ⟨ls, h1, h2⟩ := rel_let r
    subst e
    exact ⟨c :: ls, by simp [h1], .cons _ t h2⟩
theorem cell_bd (c : Nat) (z : Int) : 0 ≤ [0, 2, 0, 3, 0].getD ((c : Int).toNat) 0 + Int.fmod z (10 ^ Int.toNat 6) ∧ [0, 2, 0, 3, 0].getD ((c : Int).toNat) 0 + Int.fmod z (10 ^ Int.toNat 6) ≤ 2000000 := by
  have h := fmod_bd z
  rw [show (10 : Int) ^ Int.toNat 6 = 10 ^ 6 from rfl]
  have h2 : ∀ k : Nat, (0 : Int) ≤ [0, 2, 0, 3, 0].getD k 0 ∧ ([0, 2, 0, 3, 0] : List Int).getD k 0 ≤ 6
    | 0 | 1 | 2 | 3 | 4 => by decide
    | k + 5 => by simp
  have h3 := h2 (c : Int).toNat
  lia
theorem fmod3 (z : Int) : Int.fmod z 3 = 0 ∨ Int.fmod z 3 = 1 ∨ Int.fmod z 3 = 2 := by
  have h1 := Int.fmod_nonneg_of_pos z (b := 3) (by decide)
  have h2 := Int.fmod_lt_of_pos z (b := 3) (by decide)
  lia
theorem fmod4 (z : Int) : Int.fmod z 4 = 0 ∨ Int.fmod z 4 = 1 ∨ Int.fmod z 4 = 2 ∨ Int.fmod z 4 = 3 := by
  have h1 := Int.fmod_nonneg_of_pos z (b := 4) (by decide)
  have h2 := Int.fmod_lt_of_pos z (b := 4) (by decide)
  lia
theorem size_n (l : Nat) : ∃ n : Nat, 3 - Int.fmod (l : Int) 2 = (n : Int) ∧ (n = 2 ∨ n = 3) := by
  have h1 := Int.fmod_nonneg_of_pos (l : Int) (b := 2) (by decide)
  have h2 := Int.fmod_lt_of_pos (l : Int) (b := 2) (by decide)
  exact ⟨(3 - Int.fmod (l : Int) 2).toNat, by lia, by lia⟩
theorem kd_0 : Str.ofString "()[]" = tS [40, 41, 91, 93] := by decide +kernel
theorem kd_1 : Str.ofString "(){}" = tS [40, 41, 123, 125] := by decide +kernel
theorem kd_2 : Str.ofString "[]{}" = tS [91, 93, 123, 125] := by decide +kernel
section
variable {prog : Program} {w : World} {A : Around} {E : Value → Shared → Prop} {s : Shared} {h₀ : Heap} {L : Addr} {m : Str → Option Value} {news : List (Addr × Obj)} {value slice : PySem.Expr} {Q : Value → Shared → Prop}
theorem it_kinds {l : Addr} {z : Int} {u t0 t1 t2 : Tok} (N : News h₀ L s.heap news) (hm : (l, listOf #[.str (Str.ofString "()[]") t0, .str (Str.ofString "(){}") t1, .str (Str.ofString "[]{}") t2] 0) ∈ news)
    (h : ∀ k0 k1 k2 k3 t, KindsOk k0 k1 k2 k3 → Q (.str (tS [k0, k1, k2, k3]) t) s)
    (hs : subscripted slice false (.ref l) (.int (Int.fmod z 3) u) = operate [.ref l, .int (Int.fmod z 3) u] (getItem (.ref l) (.int (Int.fmod z 3) u)) := by with_unfolding_all rfl) :
    wpAny (model prog w) A (subscriptTail value slice (.ref l) (.int (Int.fmod z 3) u)) Q E s := by
  have q0 := h 40 41 91 93 t0 (.inl ⟨rfl, rfl, rfl, rfl⟩)
  have q1 := h 40 41 123 125 t1 (.inr (.inl ⟨rfl, rfl, rfl, rfl⟩))
  have q2 := h 91 93 123 125 t2 (.inr (.inr ⟨rfl, rfl, rfl, rfl⟩))
  rw [← kd_0] at q0
  rw [← kd_1] at q1
  rw [← kd_2] at q2
  rcases fmod3 z with e | e | e <;> rw [e] at hs ⊢
  · exact it_led N hm rfl (by decide) (by decide) rfl q0 hs
  · exact it_led N hm rfl (by decide) (by decide) rfl q1 hs
  · exact it_led N hm rfl (by decide) (by decide) rfl q2 hs
theorem it_tS {l : List Nat} {j c : Nat} {i : Int} {t u : Tok} (hij : i = (j : Int)) (hx : l[j]? = some c) (hl : l.length ≤ 4096) (h : Q (.str (tS [c]) s.toks) { s with toks := s.toks + 1 })
    (hs : subscripted slice false (.str (tS l) t) (.int i u) = operate [.str (tS l) t, .int i u] (getItem (.str (tS l) t) (.int i u)) := by with_unfolding_all rfl)
    (ht : ∀ r, letTemporaryGo value (.str (tS l) t) r = pure () := by intro _; with_unfolding_all rfl) : wpAny (model prog w) A (subscriptTail value slice (.str (tS l) t) (.int i u)) Q E s := by
  subst hij
  have hj : j < l.length := by
    rcases Nat.lt_or_ge j l.length with h | h
    · exact h
    · rw [List.getElem?_eq_none h] at hx; cases hx
  refine item_str (fitsSsize_of (N := 9223372036854775808) (by lia) (by lia) (Int.le_refl _)) (by rw [tS_len]; lia) (by rw [tS_len]; lia) (fun _ => ?_) hs ht
  rw [item_meets (by lia) (by simpa using hx)]
  exact h
theorem it_letter {k0 k1 k2 k3 : Nat} {z : Int} {t u : Tok} (h : ∀ c : Lt, Q (.str (tS [phi k0 k1 k2 k3 c]) s.toks) { s with toks := s.toks + 1 })
    (hs : subscripted slice false (.str (tS [k0, k1, k2, k3]) t) (.int (Int.fmod z 4) u) = operate [.str (tS [k0, k1, k2, k3]) t, .int (Int.fmod z 4) u] (getItem (.str (tS [k0, k1, k2, k3]) t) (.int (Int.fmod z 4) u)) := by with_unfolding_all rfl)
    (ht : ∀ r, letTemporaryGo value (.str (tS [k0, k1, k2, k3]) t) r = pure () := by intro _; with_unfolding_all rfl) : wpAny (model prog w) A (subscriptTail value slice (.str (tS [k0, k1, k2, k3]) t) (.int (Int.fmod z 4) u)) Q E s := by
  rcases fmod4 z with e | e | e | e <;> rw [e] at hs ⊢
  · exact it_tS (j := 0) rfl rfl (by simp) (h (false, false)) hs ht
  · exact it_tS (j := 1) rfl rfl (by simp) (h (false, true)) hs ht
  · exact it_tS (j := 2) rfl rfl (by simp) (h (true, false)) hs ht
  · exact it_tS (j := 3) rfl rfl (by simp) (h (true, true)) hs ht
theorem cutTo {l : List Nat} {j : Int} {n : Nat} {t uj : Tok} (hF : Fr h₀ L s.heap m) (hN : News h₀ L s.heap news) (hj : j = (n : Int)) (h2 : n ≤ l.length) (hl : l.length ≤ 100000)
    (h : ∀ h' t' k, Fr h₀ L h' m → News h₀ L h' news → Q (.str (tS (l.take n)) t') { s with heap := h', toks := k })
    (hs : subscripted slice false (.str (tS l) t) (.ref s.heap.objs.size) = operate [.ref s.heap.objs.size, .str (tS l) t] (getItem (.str (tS l) t) (.ref s.heap.objs.size)) := by with_unfolding_all rfl)
    (ht : ∀ r, letTemporaryGo value (.str (tS l) t) r = pure () := by intro _; with_unfolding_all rfl) :
    wpAny (model prog w) A (subscriptTail value slice (.str (tS l) t) (.ref s.heap.objs.size)) Q E { s with heap := s.heap.push { cls := .type "slice", data := .fields #[.none, .int j uj, .none] } } := by
  subst hj
  exact slice_strN_ns hF hN (fun h' t' k F N => by rw [slice_to (by lia) (by lia)]; exact h h' t' k F N) hs ht (by rw [tS_len, sizeLine_eq]; lia)
theorem cutFrom {l : List Nat} {i : Int} {n : Nat} {t ui : Tok} (hF : Fr h₀ L s.heap m) (hN : News h₀ L s.heap news) (hi : i = (n : Int)) (h2 : n ≤ l.length) (hl : l.length ≤ 100000)
    (h : ∀ h' t' k, Fr h₀ L h' m → News h₀ L h' news → Q (.str (tS (l.drop n)) t') { s with heap := h', toks := k })
    (hs : subscripted slice false (.str (tS l) t) (.ref s.heap.objs.size) = operate [.ref s.heap.objs.size, .str (tS l) t] (getItem (.str (tS l) t) (.ref s.heap.objs.size)) := by with_unfolding_all rfl)
    (ht : ∀ r, letTemporaryGo value (.str (tS l) t) r = pure () := by intro _; with_unfolding_all rfl) :
    wpAny (model prog w) A (subscriptTail value slice (.str (tS l) t) (.ref s.heap.objs.size)) Q E { s with heap := s.heap.push { cls := .type "slice", data := .fields #[.int i ui, .none, .none] } } := by
  subst hi
  exact slice_strN_sn hF hN (fun h' t' k F N => by rw [slice_from (by lia) (by lia)]; exact h h' t' k F N) hs ht (by rw [tS_len, sizeLine_eq]; lia)
theorem in_tS {r x : List Nat} {t u : Tok} (h : ∃ p q, x = p ++ r ++ q) (q : Q (.bool true) s) : wpAny (model prog w) A (compareOp .In (.str (tS r) u) (.str (tS x) t)) Q E s := by
  refine PyProof.Rows.in_str ?_
  have e : (!(Builtin.Str.occurrences (tS x) (tS r) 0 (tS x).length 1).isEmpty) = true := by
    obtain ⟨a, b, rfl⟩ := h
    refine (StrLaws.found_iff _ _).mpr ⟨a.length, by simp only [tS_len, List.length_append]; lia, ?_⟩
    unfold Builtin.Str.subAt
    rw [tS_len]
    simp
  rw [e]
  exact q
end
section
variable {prog : Program} {w : World} {A : Around} {E : Value → Shared → Prop} {s : Shared} {Q : Value → Shared → Prop}
theorem eqE {l : List Nat} {t u : Tok} (b : Bool) (hb : (l == []) = b) (h : Q (.bool b) s) : wpAny (model prog w) A (compareOp .Eq (.str (tS l) t) (.str (Str.ofString "") u)) Q E s := by
  subst hb
  rw [show Str.ofString "" = tS [] from by decide +kernel]
  exact eqT h
end
section
variable {prog : Program} {w : World} {A : Around} {E : Value → Shared → Prop} {s : Shared} {Q : Value → Shared → Prop} {h₀ : Heap} {L D l : Addr} {news : List (Addr × Obj)}
theorem eq_nil {a b : Value} (N : News h₀ L s.heap news) (h1 : (D, lsO [a, b]) ∈ news) (h2 : (l, listOf #[] 0) ∈ news) (hu : A.units + 64 < cLine) (h : Q (.bool false) s) : wpAny (model prog w) A (compareOp .Eq (.ref D) (.ref l)) Q E s :=
  PySem.SeqAt.eq_list_lengthsAt (items := #[a, b]) (items2 := #[]) ⟨_, (N _ h1).1, rfl, _, rfl⟩ ⟨_, (N _ h2).1, rfl, _, rfl⟩ rfl (by lia) h
theorem ne_nil (N : News h₀ L s.heap news) (h1 : (D, listOf #[] 0) ∈ news) (h2 : (l, listOf #[] 0) ∈ news) (hu : A.units + 64 < cLine) (h : Q (.bool false) s) : wpAny (model prog w) A (compareOp .NotEq (.ref D) (.ref l)) Q E s :=
  ne_intsK (vs := []) (us := []) (ns := []) (ms := []) ⟨_, (N _ h1).1, rfl, _, rfl⟩ .nil ⟨_, (N _ h2).1, rfl, _, rfl⟩ .nil hu h
end
end Mine
end
section
open PySem PySem.W PyProof.Rows
set_option maxRecDepth 100000
set_option maxHeartbeats 4000000
namespace Mine
local macro_rules | `(tactic| o_head ($_ $K $as $e)) => `(tactic| o_head (kmHook Mine.hdkk $as $e [70]))
local macro_rules | `(tactic| refine $f:ident $as*) => do
  unless f.getId == `PySem.W.holds_open do Lean.Macro.throwUnsupported
  let qS := (as[0]!).raw[3]
  let q0 := (Lean.mkIdent `Mine.hdq0).raw
  let as ← as.mapM fun a => do
    let r ← a.raw.replaceM fun s => if s == qS then pure (some q0) else pure none
    pure ⟨r⟩
  `(tactic| refine Mine.holds_J $as*)
section
local macro_rules | `(tactic| k_room) => `(tactic| ktr_room)
local macro_rules | `(tactic| k_all) => `(tactic| assumption)
local macro_rules | `(tactic| walk_at "anewJ") => `(tactic| ((with_reducible rename Fr _ _ _ _ => lF9); (with_reducible rename News _ _ _ _ => lN9); (try dsimp only at lF9 lN9); refine' anewJ lF9 lN9 ?lG9 ?lO9 ?_; (case lG9 => assumption); (case lO9 => first | assumption | exact rfl); clear lF9 lN9; (repeat (with_reducible rename AllBare _ => lG9; clear lG9)); (try (with_reducible rename @Eq OsState _ _ => lO9; clear lO9)); (try (with_reducible rename Fresh _ => lZ9; clear lZ9)); intro lS9 lF9 lN9 lG9 lO9 lZ9))
local macro_rules | `(tactic| walk_at "anewA") => `(tactic| ((with_reducible rename Fr _ _ _ _ => lF9); (with_reducible rename News _ _ _ _ => lN9); (try dsimp only at lF9 lN9); refine' anewA lF9 lN9 ?lG9 ?lO9 ?_; (case lG9 => assumption); (case lO9 => first | assumption | exact rfl); clear lF9 lN9; (repeat (with_reducible rename AllBare _ => lG9; clear lG9)); (try (with_reducible rename @Eq OsState _ _ => lO9; clear lO9)); (try (with_reducible rename Fresh _ => lZ9; clear lZ9)); intro lS9 lF9 lN9 lG9 lO9 lZ9))
local macro_rules | `(tactic| walk_at "subscriptTail") => `(tactic| (k_here; (with_reducible show wpAny _ _ (subscriptTail _ _ (Value.ref _) (Value.int _ _)) _ _ _); k_dflt (first
  | (refine' it_led ?N ?hm ?ho ?h0 ?h1 ?hx ?_; (case N => k_asm); (case hm => k_mem); (case ho => exact rfl); (case h0 => decide); (case h1 => decide); (case hx => exact rfl); k_whole)
  | (refine' it_ledT ?N ?hm ?ho ?h0 ?h1 ?hx ?_; (case N => k_asm); (case hm => k_mem); (case ho => exact rfl); (case h0 => decide); (case h1 => decide); (case hx => exact rfl); k_whole))))
local macro_rules | `(tactic| walk_at "subscriptTail Name Name ref int") => `(tactic| (k_here; (with_reducible show wpAny _ _ (subscriptTail _ _ (Value.ref _) (Value.int _ _)) _ _ _); k_dflt (first
  | (refine' it_led ?N ?hm ?ho ?h0 ?h1 ?hx ?_; (case N => k_asm); (case hm => k_mem); (case ho => exact rfl); (case h0 => decide); (case h1 => decide); (case hx => exact rfl); k_whole)
  | (refine' it_ledT ?N ?hm ?ho ?h0 ?h1 ?hx ?_; (case N => k_asm); (case hm => k_mem); (case ho => exact rfl); (case h0 => decide); (case h1 => decide); (case hx => exact rfl); k_whole))))
local macro_rules | `(tactic| walk_at "subscriptTail Name Constant ref int") => `(tactic| (k_here; (with_reducible show wpAny _ _ (subscriptTail _ _ (Value.ref _) (Value.int _ _)) _ _ _); k_dflt (first
  | (refine' it_led ?N ?hm ?ho ?h0 ?h1 ?hx ?_; (case N => k_asm); (case hm => k_mem); (case ho => exact rfl); (case h0 => decide); (case h1 => decide); (case hx => exact rfl); k_whole)
  | (refine' it_ledT ?N ?hm ?ho ?h0 ?h1 ?hx ?_; (case N => k_asm); (case hm => k_mem); (case ho => exact rfl); (case h0 => decide); (case h1 => decide); (case hx => exact rfl); k_whole))))
local macro_rules | `(tactic| walk_at "subscriptTail Subscript") => `(tactic| (k_here; (with_reducible show wpAny _ _ (subscriptTail _ _ (Value.ref _) (Value.int _ _)) _ _ _); k_dflt (first
  | (refine' it_led ?N ?hm ?ho ?h0 ?h1 ?hx ?_; (case N => k_asm); (case hm => k_mem); (case ho => exact rfl); (case h0 => decide); (case h1 => decide); (case hx => exact rfl); k_whole)
  | (refine' it_ledT ?N ?hm ?ho ?h0 ?h1 ?hx ?_; (case N => k_asm); (case hm => k_mem); (case ho => exact rfl); (case h0 => decide); (case h1 => decide); (case hx => exact rfl); k_whole))))
local macro_rules | `(tactic| walk_at "binaryOp Add str str") => `(tactic| (k_here; (with_reducible show wpAny _ _ (binaryOp Operator.Add (Value.str (tS _) _) (Value.str (tS _) _)) _ _ _); (refine' addT ?ha ?hb ?_; (case ha => ((try simp only [List.length_append, List.length_map, List.length_reverse]); lia)); (case hb => ((try simp only [List.length_append, List.length_map, List.length_reverse]); lia))); intro _ _))
local macro_rules | `(tactic| walk_at "osEnd") => `(tactic| first | assumption | exact rfl | (refine Eq.trans (by assumption) ?_; first | assumption | (refine Eq.trans (by assumption) ?_; first | assumption | (refine Eq.trans (by assumption) ?_; assumption))))
local macro_rules | `(tactic| walk_at "CompSrc") => `(tactic| (k_here; refine Wrp.mk ?_))
local macro_rules | `(tactic| walk_at "call builtin:sum") => `(tactic| (k_here; (with_reducible show wpAny _ _ (call (Value.builtin "sum") [Value.ref _]) _ _ _); k_dflt (refine' sum_any ?hh ?F ?N ?hm ?ho ?hi ?_; (case hh => exact rfl); (case F => k_asm); (case N => k_asm); (case hm => k_mem); (case ho => exact rfl); (case hi => first | exact pick_ints (by assumption) _ _ _ | exact rel_ex (by assumption)); k_whole; intro z9 h9 tk9 t9 F9 N9)))
local macro_rules | `(tactic| walk_at "subscriptTail") => `(tactic| (k_here; (with_reducible show wpAny _ _ (subscriptTail _ _ (Value.ref _) (Value.int (Int.fmod _ 3) _)) _ _ _); k_dflt (refine' it_kinds ?N ?hm ?_; (case N => k_asm); (case hm => k_mem)); intro k0 k1 k2 k3 kt hk))
local macro_rules | `(tactic| walk_at "subscriptTail") => `(tactic| (k_here; (with_reducible show wpAny _ _ (subscriptTail _ _ (Value.str (tS _) _) (Value.int (Int.fmod _ 4) _)) _ _ _); k_dflt (refine' it_letter ?_); intro c9))
local macro_rules | `(tactic| walk_at "call builtin:str.join") => `(tactic| (k_here; refine Wrp.mk ?_))
local macro_rules | `(tactic| walk_at "call builtin:len") => `(tactic| (k_here; (with_reducible show wpAny _ _ (call (Value.builtin "len") [Value.str (tS _) _]) _ _ _); refine len_tS (by lia) ?_; intro _ _))
local macro_rules | `(tactic| walk_at "subscriptTail Name Slice str ref") => `(tactic| (k_here; (with_reducible show wpAny _ _ (subscriptTail _ (Expr.Slice none (some _) none _) (Value.str (tS _) _) (Value.ref _)) _ _ _); (with_reducible rename Fr _ _ _ _ => lF'); (with_reducible rename News _ _ _ _ => lN'); (refine' cutTo (s := ⟨_, _, _, _, _⟩) lF' lN' ?g0 ?g1 ?g2 ?_; (case g0 => assumption); (case g1 => lia); (case g2 => lia)); intro _ _ _ _ _))
local macro_rules | `(tactic| walk_at "subscriptTail Name Slice str ref") => `(tactic| (k_here; (with_reducible show wpAny _ _ (subscriptTail _ (Expr.Slice (some _) none none _) (Value.str (tS _) _) (Value.ref _)) _ _ _); (with_reducible rename Fr _ _ _ _ => lF'); (with_reducible rename News _ _ _ _ => lN'); (refine' cutFrom (s := ⟨_, _, _, _, _⟩) lF' lN' ?g0 ?g1 ?g2 ?_; (case g0 => assumption); (case g1 => lia); (case g2 => lia)); intro _ _ _ _ _))
local macro_rules | `(tactic| walk_at "compareOp Eq str str") => `(tactic| (k_here; first
  | ((with_reducible show wpAny _ _ (compareOp CmpOp.Eq (Value.str (tS _) _) (Value.str (Str.ofString "") _)) _ _ _); first | refine eqE true rfl ?_ | refine eqE false (by assumption) ?_)
  | ((with_reducible show wpAny _ _ (compareOp CmpOp.Eq (Value.str (tS _) _) (Value.str (tS _) _)) _ _ _); refine eqT ?_)))
local macro_rules | `(tactic| walk_at "call ref") => `(tactic| (k_here; (with_reducible show wpAny _ _ (call (Value.ref 136) [Value.str _ _]) _ _ _); k_dflt (
  (with_reducible rename News _ _ _ _ => lN7); (refine' fg_use (c_struck _ _ _ _ _ _ [] _ _ _ _ (tS_toList _) (cat_brk ?p2 ?p3) ?p4 ?p5 (fun _ h => nomatch h)) ?k1 ?k2 ?k3 ?k4 ?k5 ?k6 ?k7 ?k8 ?k9 ?_; (case k4 => exact lN7); (case k1 => k_asm); (case k2 => k_asm); (case k3 => k_asm); (case k5 => k_asm); (case k6 => first | exact rfl | assumption); (case k7 => ktr_room); (case k8 => ktr_units); (case k9 => assumption); (case p2 => assumption); (case p3 => assumption); (case p4 => ((try simp only [List.length_append]); lia)); (case p5 => assumption); k_whole; clear lN7; intro v9 n9 s9 F' N' G9 ho9 hP9; obtain ⟨⟨t9, hv9⟩, ps9, hps9, hn9⟩ := hP9; subst hv9; rw [hn9] at N'; clear hn9; (try dsimp only [StrBack])))))
local macro_rules | `(tactic| walk_at "binaryOp Add str str") => `(tactic| (k_here; (with_reducible show wpAny _ _ (binaryOp Operator.Add (Value.str (tS _) _) (Value.str (tS _) _)) _ _ _); (refine' addT ?ha ?hb ?_; (case ha => lia); (case hb => lia)); intro _ _))
local macro_rules | `(tactic| walk_at "compareOp Eq ref ref") => `(tactic| (k_here; k_dflt (refine' eq_nil ?N ?h1 ?h2 ?hu ?_; (case N => k_asm); (case h1 => k_mem); (case h2 => k_mem); (case hu => units_room))))
local macro_rules | `(tactic| walk_at "compareOp NotEq ref ref") => `(tactic| (k_here; k_dflt (refine' ne_nil ?N ?h1 ?h2 ?hu ?_; (case N => k_asm); (case h1 => k_mem); (case h2 => k_mem); (case hu => units_room))))
local macro_rules | `(tactic| walk_at "compareOp In str str") => `(tactic| (k_here; (with_reducible show wpAny _ _ (compareOp CmpOp.In (Value.str (tS _) _) (Value.str (tS _) _)) _ _ _); refine in_tS (by assumption) ?_))
local macro_rules | `(tactic| walk_at "osEnd") => `(tactic| ((repeat (refine Eq.trans (by assumption) ?_)); first | assumption | exact rfl))def tt.tw10035173257741584639 : Unit := ()
def tt.tw10086359938272142751 : Unit := ()
def tt.tw10357711282864539473 : Unit := ()
def tt.tw10417595904179293294 : Unit := ()
def tt.tw10449586856731479769 : Unit := ()
def tt.tw10454472638777327160 : Unit := ()
def tt.tw10630519850471540517 : Unit := ()
def tt.tw10630600121163907758 : Unit := ()
def tt.tw10768492824315470779 : Unit := ()
def tt.tw10815197037780206555 : Unit := ()
def tt.tw1118588304945035457 : Unit := ()
def tt.tw11345589001719502890 : Unit := ()
def tt.tw11428321810494499070 : Unit := ()
def tt.tw11717872324761571774 : Unit := ()
def tt.tw11747020478328171911 : Unit := ()
def tt.tw11767576039201868253 : Unit := ()
def tt.tw11776394988237302118 : Unit := ()
def tt.tw11801343915815075210 : Unit := ()
def tt.tw11805934429122792038 : Unit := ()
def tt.tw11831270415575560393 : Unit := ()
def tt.tw1189750066677442171 : Unit := ()
def tt.tw11980550960007577144 : Unit := ()
def tt.tw12208993961652306275 : Unit := ()
def tt.tw12229574005426965851 : Unit := ()
def tt.tw12278015570639099191 : Unit := ()
def tt.tw12507179909576309462 : Unit := ()
def tt.tw12832257269573860051 : Unit := ()
def tt.tw12849781785518897757 : Unit := ()
def tt.tw12854152265694274762 : Unit := ()
def tt.tw13011907873532973152 : Unit := ()
def tt.tw13020715134340560649 : Unit := ()
def tt.tw1314408471706360702 : Unit := ()
def tt.tw13304804678901517063 : Unit := ()
def tt.tw13516407644856037998 : Unit := ()
def tt.tw13757908710222336663 : Unit := ()
def tt.tw13793238257053813494 : Unit := ()
def tt.tw13833722456906790746 : Unit := ()
def tt.tw13907513161203566019 : Unit := ()
def tt.tw14030953181914710835 : Unit := ()
def tt.tw14056632646284092441 : Unit := ()
def tt.tw14332516811909550681 : Unit := ()
def tt.tw14430891298474804718 : Unit := ()
def tt.tw14600478572334511420 : Unit := ()
def tt.tw14658704612233823519 : Unit := ()
def tt.tw14696673746603271440 : Unit := ()
def tt.tw14753399282109846493 : Unit := ()
def tt.tw14933812908804159558 : Unit := ()
def tt.tw15139752883323785673 : Unit := ()
def tt.tw15320785858322976046 : Unit := ()
def tt.tw1539639394724877141 : Unit := ()
def tt.tw15518781902673061959 : Unit := ()
def tt.tw15577260874676890658 : Unit := ()
def tt.tw15667268325308402099 : Unit := ()
def tt.tw15743585640554276349 : Unit := ()
def tt.tw15785470193820693604 : Unit := ()
def tt.tw1583737727474461062 : Unit := ()
def tt.tw15923477210347890373 : Unit := ()
def tt.tw16039069859189290004 : Unit := ()
def tt.tw16066699777535027892 : Unit := ()
def tt.tw1615929970851352217 : Unit := ()
def tt.tw16216774826356424188 : Unit := ()
def tt.tw16225238944574292675 : Unit := ()
def tt.tw16235543749356732000 : Unit := ()
def tt.tw16411202931413104431 : Unit := ()
def tt.tw16412183851540621197 : Unit := ()
def tt.tw16564296207161793061 : Unit := ()
def tt.tw16577462561161044872 : Unit := ()
def tt.tw16759677246602875103 : Unit := ()
def tt.tw17063980697844608380 : Unit := ()
def tt.tw17420748220152939451 : Unit := ()
def tt.tw174532448923626280 : Unit := ()
def tt.tw17489044758822260144 : Unit := ()
def tt.tw17548012741388968429 : Unit := ()
def tt.tw17558182767031352586 : Unit := ()
def tt.tw17580122510210825469 : Unit := ()
def tt.tw17647380059626939713 : Unit := ()
def tt.tw17688134662242625615 : Unit := ()
def tt.tw17688921120478603464 : Unit := ()
def tt.tw1784206205946766676 : Unit := ()
def tt.tw18021582498410195175 : Unit := ()
def tt.tw18042536653295630389 : Unit := ()
def tt.tw18085504425168358410 : Unit := ()
def tt.tw18375136339718292351 : Unit := ()
def tt.tw18413595612983396701 : Unit := ()
def tt.tw2082101280453498500 : Unit := ()
def tt.tw2118323437550105417 : Unit := ()
def tt.tw2132299564134377363 : Unit := ()
def tt.tw2236039190462901937 : Unit := ()
def tt.tw259667189658271362 : Unit := ()
def tt.tw2682455053756777066 : Unit := ()
def tt.tw2691529926591519547 : Unit := ()
def tt.tw2958577278430153491 : Unit := ()
def tt.tw3030326091410968822 : Unit := ()
def tt.tw307756357799075095 : Unit := ()
def tt.tw3149215934262255841 : Unit := ()
def tt.tw3162714026095138574 : Unit := ()
def tt.tw3195336154314740721 : Unit := ()
def tt.tw3204277781818782972 : Unit := ()
def tt.tw3211136681117122064 : Unit := ()
def tt.tw3461270877253841574 : Unit := ()
def tt.tw3533268251901176026 : Unit := ()
def tt.tw3596223518454132998 : Unit := ()
def tt.tw3643010467432630910 : Unit := ()
def tt.tw3667984143994954828 : Unit := ()
def tt.tw3819245626995240412 : Unit := ()
def tt.tw392445628891194887 : Unit := ()
def tt.tw4127453835446115069 : Unit := ()
def tt.tw4207005887205673175 : Unit := ()
def tt.tw4253106939551658057 : Unit := ()
def tt.tw4508177973300115648 : Unit := ()
def tt.tw4560189833030644395 : Unit := ()
def tt.tw4562997347110796489 : Unit := ()
def tt.tw468680223022672840 : Unit := ()
def tt.tw4692470734307615778 : Unit := ()
def tt.tw4790617918828432733 : Unit := ()
def tt.tw4886559372148958918 : Unit := ()
def tt.tw5086475100422433309 : Unit := ()
def tt.tw5127087993673371560 : Unit := ()
def tt.tw5140318808976283758 : Unit := ()
def tt.tw5237708353301818991 : Unit := ()
def tt.tw5240835782155822961 : Unit := ()
def tt.tw5423554141500088224 : Unit := ()
def tt.tw5633037960103759610 : Unit := ()
def tt.tw5638597475745826609 : Unit := ()
def tt.tw5650355538524123009 : Unit := ()
def tt.tw585127770826099818 : Unit := ()
def tt.tw5955839580386169252 : Unit := ()
def tt.tw6065118080855585670 : Unit := ()
def tt.tw6122048603849398311 : Unit := ()
def tt.tw6135679107177674890 : Unit := ()
def tt.tw7183359638488525470 : Unit := ()
def tt.tw7236079906945872097 : Unit := ()
def tt.tw7390803972589154826 : Unit := ()
def tt.tw7419606705846323449 : Unit := ()
def tt.tw7441430721602571572 : Unit := ()
def tt.tw7457467214362178428 : Unit := ()
def tt.tw7466746819667624 : Unit := ()
def tt.tw7521812330582482410 : Unit := ()
def tt.tw7896042876363226900 : Unit := ()
def tt.tw832172233232421943 : Unit := ()
def tt.tw8437758405893935906 : Unit := ()
def tt.tw8451912328782275924 : Unit := ()
def tt.tw8471626167225602783 : Unit := ()
def tt.tw8591066645956603361 : Unit := ()
def tt.tw9155218051627095959 : Unit := ()
def tt.tw9270227196210755292 : Unit := ()
def tt.tw9270887557601313043 : Unit := ()
def tt.tw9322607207402337546 : Unit := ()
def tt.tw9404580339779896353 : Unit := ()
def tt.tw9579081967040494590 : Unit := ()
def tt.tw9673502101297535383 : Unit := ()
def tt.tw9717537436087612191 : Unit := ()
def tt.tw9855094719710387389 : Unit := ()
def tt.tw9862334231172404068 : Unit := ()
def tt.tw9893863272192337692 : Unit := ()
set_option Elab.async true in
theorem tt : PySem.Challenge.rw_wj0022_01.Holds := by
  w_on
  o_law
  k_head
  case hw => w_witness2
  w_top off
  k_fill
  intro w s₀ s₁ mg mb G Y fa o pm cd doc dV kV ho hd hcd hD hmg hg args vals as hpre hlay hrd hwl hlo
  have KX := km_in_of Y
  have hT8 := km_tabs_of Y
  refine Ground.open G ?_
  intro T B D TE TW
  have hT9 : TabsAt [(74, 70)] s₁.heap := List.forall_mem_cons.mpr ⟨⟨codeHd_of_K (c := 74) (P := 70) KX (by kernel_rfl), hT8 70 (by k_mem)⟩, fun _ h => nomatch h⟩
  clear hmg hT8 B D TE TW
  wrow_args hpre hlay hrd hwl hlo
  have he := Dflts.none hD rfl
  subst he
  have he := Dflts.noKw hD
  subst he
  have hd2 := fd_plain hd
  dsimp only at hd2 hcd
  clear hd
  refine callJ_law (by decide) ho hd2 (Top.nolimit T) hcd rfl (by rfl) (by decide) (fun h₁ tk cells F N C9 => ?_) rfl rfl rfl
  clear hd2 hD
  k_cells C9
  have l0 := ghost_lt hT9 F
  have X' := ghost_K hT9 KX (by kernel_rfl)
  have T' := ghost_top hT9 T
  have K' := ghost_below hT9
  have N' := ghost_news hT9 F N
  have F' : Fr (ghostOf s₁.heap [(74, 70)]) s₁.heap.objs.size h₁ (fun _ => none) := ghost_fr hT9 F
  kn_lists hT9
  simp only [tabNews, List.map_cons, List.map_nil, List.nil_append, List.cons_append] at N'
  simp only [tabNews, List.map_cons, List.map_nil] at l0
  k_lt l0
  clear N F
  (with_reducible rename IntsAre _ _ => hints)
  (with_reducible rename ¬ (_ : Int) < _ => hlen)
  refine wpJ_execs_cons (wpJ_any ?_)
  k_steps
  (with_reducible rename IsRange _ _ _ _ _ _ _ _ => R9)
  (with_reducible rename Fr _ _ _ _ => F9)
  (with_reducible rename News _ _ _ _ => N9)
  refine Wrp.un (cs_range (n := 5) drawR rfl F9 N9 R9 (by decide) (by decide) (by rw [sizeLine_eq]; lia) ?turn1 ?fin1)
  case turn1 =>
    intro s' c u I oI C oC D m₂ ys h tk E' ⟨g, hg⟩ hc hC hx F' N' off ne
    subst hg
    k_steps
    exact ⟨_, _, _, rfl, by assumption, nsub (by assumption) (fun p hp => by repeat (first | exact hp | apply List.Mem.tail)), off, trivial, rfl, _, _, rfl, cell_bd _ _⟩
  case fin1 =>
    intro s' ys ⟨g, hg⟩ hR
    subst hg
    unfold LCg.FinA
    intro D h tk F' N' o1
    clear F9 N9 R9
    dsimp only
    have hG : AllBare s₁.gens := .of_eq hg
    refine anewJ F' N' hG rfl ?_
    clear F' N'
    intro s2 F' N' G2 O2 Z2
    refine wpJ_execs_cons (wpJ_any ?_)
    k_steps
    (with_reducible rename Fr _ _ _ _ => F9)
    (with_reducible rename News _ _ _ _ => N9)
    refine Wrp.un (cs_ledger drawR anyI rfl F9 N9 (by k_dflt k_mem) (by rw [hR.length, List.length_range, sizeLine_eq]; lia) hR ?turn2 ?fin2)
    case turn2 =>
      intro s' a v I oI C oC D m₂ ys h tk E' ⟨g, hg⟩ ha ⟨z, t, hv, hz0, hz1⟩ hC hx F' N' off ne
      subst hg
      subst hv
      k_steps
      exact ⟨_, _, _, rfl, by assumption, by assumption, off, trivial, rfl, _, _, rfl⟩
    case fin2 =>
      intro s' zs ⟨g, hg⟩ hR2
      subst hg
      unfold LCg.FinE
      intro D2 h tk F' N' o1
      clear F9 N9
      k_steps
      rename_i k0 k1 k2 k3 kt hkd hx oK fx nx hoK
      simp only [List.cons_append, List.nil_append] at nx
      walk_at "anewJ"
      refine wpJ_execs_cons (wpJ_any ?_)
      k_steps
      (with_reducible rename Fr _ _ _ _ => F9)
      (with_reducible rename News _ _ _ _ => N9)
      refine Wrp.un (cs_ledger drawR (letR (phi k0 k1 k2 k3)) rfl F9 N9 (by k_dflt k_mem) (by rw [hR.length, List.length_range, sizeLine_eq]; lia) hR ?turn3 ?fin3)
      case turn3 =>
        intro s' a v I oI C oC D m₂ ys h tk E' ⟨g, hg⟩ ha ⟨z, t, hv, hz0, hz1⟩ hC hx F' N' off ne
        subst hg
        subst hv
        k_steps
        exact ⟨_, _, _, rfl, by assumption, by assumption, off, trivial, rfl, _, _, rfl⟩
      case fin3 =>
        intro s' zs ⟨g, hg⟩ hR3
        subst hg
        unfold LCg.FinE
        intro D3 h tk F' N' o1
        clear F9 N9
        k_steps
        (with_reducible rename News _ _ _ _ => N9)
        obtain ⟨ls, hls, hst⟩ := rel_let hR3
        rw [List.length_range] at hls
        refine Wrp.un (join_list (ys := (ls.map (phi k0 k1 k2 k3)).map fun c => ⟨#[c]⟩) ⟨_, (N9 _ (.head _)).1, rfl, _, rfl⟩ hst ?hok ?_)
        case hok =>
          rw [show (Str.ofString "").length = 0 from by decide +kernel, sum_one (fun c => c)]
          simp
          lia
        rw [(join_one (fun c => c) (ls.map (phi k0 k1 k2 k3))).trans (congrArg tS (List.map_id' _))]
        intro t' k'
        k_steps
        have hsl : (ls.map (phi k0 k1 k2 k3)).length = 5 := by rw [List.length_map, hls]
        have hsb := map_brk (good_phi hkd) ls
        (with_reducible rename List Int => ws)
        obtain ⟨n, hn, hn23⟩ := size_n ws.length
        have hans := plain1 (good_phi hkd) ls hls hn23
        walk_at "anewJ"
        (with_reducible rename Fr _ _ _ _ => F9)
        generalize ls.map (phi k0 k1 k2 k3) = sgn at hsl hsb hans F9
        refine wpJ_execs_cons (wpJ_any ?_)
        k_steps
        (with_reducible rename News _ _ _ _ => N9)
        have N8 := nsub (l' := [(70, tabObj #[])]) N9 (fun p hp => by rw [List.mem_singleton.mp hp]; repeat (first | exact .head _ | apply List.Mem.tail))
        clear N9
        walk_at "anewJ"
        refine wpJ_execs_cons (wpJ_any ?_)
        k_steps
        have l1 : 1 ≤ (sgn.take n).length := by rw [List.length_take]; lia
        have l2 : 1 ≤ (sgn.drop n).length := by rw [List.length_drop]; lia
        have l3 : (sgn.take n).length ≤ 500 := by rw [List.length_take]; lia
        have l4 : (sgn.drop n).length ≤ 500 := by rw [List.length_drop]; lia
        have b1 : ∀ c ∈ sgn.take n, c ∈ brk := fun c hc => hsb c (List.mem_of_mem_take hc)
        have b2 : ∀ c ∈ sgn.drop n, c ∈ brk := fun c hc => hsb c (List.mem_of_mem_drop hc)
        (with_reducible rename Fr _ _ _ _ => F9)
        (with_reducible rename News _ _ _ _ => N9)
        have N8 := nsub (l' := [(70, tabO #[])]) N9 (fun p hp => by rw [List.mem_singleton.mp hp]; repeat (first | exact .head _ | apply List.Mem.tail))
        clear N9
        generalize sgn.take n = A at hans l1 l3 b1 F9
        generalize sgn.drop n = B at hans l2 l4 b2 F9
        walk_at "anewJ"
        refine wpJ_execs_cons (wpJ_Assign_Name (wpJ_Call ?_))
        k_steps
        refine wpJ_callWith_ref1 ?_
        k_steps
        (with_reducible rename Frag.In _ _ => X9)
        refine ⟨⟨_, _, (X9.keeps (Fr.keep (by assumption))) _ _ (by k_is), rfl⟩, ?_⟩
        k_dflt (refine' fj_use (c_ring1 _ _ _ _ _ _ [] #[] _ _ A B b1 b2 l1 l2 l3 l4 trivial (fun _ h => nomatch h)) ?k1 ?k2 ?k3 ?k4 ?k5 ?k6 ?k7 ?k8 ?k9 ?_)
        case k1 => k_asm
        case k2 => k_asm
        case k3 => k_asm
        case k4 => k_asm
        case k5 => k_asm
        case k6 => first | exact rfl | assumption
        case k7 => ktr_room
        case k8 => ktr_units
        case k9 => assumption
        intro v9 n9 s9 F' N' G9 ho9 hP9
        obtain ⟨⟨t9, hv9⟩, ps9, hps9, hn9⟩ := hP9
        subst hv9
        rw [hn9] at N'
        clear hn9
        k_steps
        walk_at "anewJ"
        refine wpJ_execs_cons (wpJ_any ?_)
        k_steps
        walk_at "anewJ"
        (with_reducible rename Fr _ _ _ _ => F9)
        (with_reducible rename TriplesOk _ => hps1)
        rcases hans with ⟨e1, e2⟩ | ⟨e1, h1, h2, rb, x, y, hp1, hp3, x1, y1, x2, y2, xb, yb, hlen9, hin9⟩
        · rw [show ((List.foldl stS [] (A ++ B)).reverse == (List.foldl stS [] (B ++ A)).reverse) = true from beq_iff_eq.mpr e1, e2] at F9
          refine wpJ_execs_cons (wpJ_any ?_)
          k_steps
          dsimp only
          (with_reducible rename Fr _ _ _ _ => F6)
          (with_reducible rename News _ _ _ _ => N6)
          refine good_true hT9 (fun _ => rfl) (postW_of (by wrow_shape) (by wtm_val) (by str_meet; first | done | w_fin)) (fun b o e => F6.keep b o e) (fun q hq => by rw [List.mem_singleton.mp hq]; exact ⟨_, (N6 _ (.head _)).1⟩) ?os6 ?bare6
          case bare6 => assumption
          case os6 => walk_at "osEnd"
        · rw [show ((List.foldl stS [] (A ++ B)).reverse == (List.foldl stS [] (B ++ A)).reverse) = false from beq_eq_false_iff_ne.mpr e1] at F9
          generalize rinS A B = ring at h1 h2 rb hp1 hp3 hlen9 hin9 F9
          have hne : (ring == []) = false := by
            cases ring with
            | nil => simp at h1
            | cons a l => rfl
          refine wpJ_execs_cons (wpJ_any ?_)
          k_steps
          walk_at "anewJ"
          refine wpJ_execs_cons (wpJ_Assign_Name (wpJ_Call ?_))
          k_steps
          refine wpJ_callWith_ref1 ?_
          k_steps
          refine ⟨⟨_, _, (X9.keeps (Fr.keep (by assumption))) _ _ (by k_is), rfl⟩, ?_⟩
          k_dflt (refine' fj_use (c_parted _ _ _ _ _ _ _ ring 1 _ _ rb h1 h2 (by decide) (by decide)) ?k1 ?k2 ?k3 ?k4 ?k5 ?k6 ?k7 ?k8 ?k9 ?_)
          case k1 => k_asm
          case k2 => k_asm
          case k3 => k_asm
          case k4 => k_asm
          case k5 => k_asm
          case k6 => first | exact rfl | assumption
          case k7 => ktr_room
          case k8 => ktr_units
          case k9 => assumption
          intro v9 n9 s9 F' N' G9 ho9 hP9
          obtain ⟨D7, u1, u2, hv9, hn9⟩ := hP9
          subst hv9
          rw [hn9, hp1] at N'
          clear hn9
          change News _ _ _ ((D7, lsO [.str (tS x) u1, .str (tS y) u2]) :: _) at N'
          k_steps
          walk_at "anewJ"
          refine wpJ_execs_cons (wpJ_If (wpJ_isTrue_or2 ?_))
          k_steps
          refine wpJ_isTrue_cmp (wpJ_Call ?_)
          k_steps
          refine wpJ_callWith_ref1 ?_
          k_steps
          refine ⟨⟨_, _, (X9.keeps (Fr.keep (by assumption))) _ _ (by k_is), rfl⟩, ?_⟩
          k_dflt (refine' fj_use (c_parted _ _ _ _ _ _ _ ring 3 _ _ rb h1 h2 (by decide) (by decide)) ?k1 ?k2 ?k3 ?k4 ?k5 ?k6 ?k7 ?k8 ?k9 ?_)
          case k1 => k_asm
          case k2 => k_asm
          case k3 => k_asm
          case k4 => k_asm
          case k5 => k_asm
          case k6 => first | exact rfl | assumption
          case k7 => ktr_room
          case k8 => ktr_units
          case k9 => assumption
          intro v9 n9 s9 F' N' G9 ho9 hP9
          obtain ⟨D8, u3, u4, hv9, hn9⟩ := hP9
          subst hv9
          rw [hn9, hp3] at N'
          clear hn9
          change News _ _ _ ((D8, listOf #[] 0) :: _) at N'
          show wpAny _ _ (eval (Expr.List _ _) _) _ _ _
          k_steps
          walk_at "anewJ"
          refine wpJ_any (wpAny_execs_nil ?_)
          dsimp only
          refine wpJ_execs_cons (wpJ_Assign_Name (wpJ_Call ?_))
          k_steps
          refine wpJ_callWith_ref1 ?_
          k_steps
          refine ⟨⟨_, _, (X9.keeps (Fr.keep (by assumption))) _ _ (by k_is), rfl⟩, ?_⟩
          (with_reducible rename News _ _ _ _ => N4)
          have N5 := nsub (l' := [(70, tabO _)]) N4 (fun p hp => by rw [List.mem_singleton.mp hp]; repeat (first | exact .head _ | apply List.Mem.tail))
          clear N4
          k_dflt (refine' fj_use (c_ring1 _ _ _ _ _ _ [] _ _ _ x y xb yb x1 y1 (by lia) (by lia) hps1 (fun _ h => nomatch h)) ?k1 ?k2 ?k3 ?k4 ?k5 ?k6 ?k7 ?k8 ?k9 ?_)
          case k1 => k_asm
          case k2 => k_asm
          case k3 => k_asm
          case k4 => k_asm
          case k5 => k_asm
          case k6 => first | exact rfl | assumption
          case k7 => ktr_room
          case k8 => ktr_units
          case k9 => assumption
          intro v9 n9 s9 F' N' G9 ho9 hP9
          obtain ⟨⟨t9, hv9⟩, ps9, hps9, hn9⟩ := hP9
          subst hv9
          rw [hn9] at N'
          clear hn9
          k_steps
          (with_reducible rename Fr _ _ _ _ => F9)
          generalize rinS x y = ag at hlen9 hin9 F9
          walk_at "anewJ"
          refine wpJ_execs_cons (wpJ_any ?_)
          k_steps
          all_goals (try (exfalso; lia))
          (with_reducible rename Fr _ _ _ _ => F6)
          (with_reducible rename News _ _ _ _ => N6)
          refine good_true hT9 (fun _ => rfl) (postW_of (by wrow_shape) (by wtm_val) (by str_meet; first | done | w_fin)) (fun b o e => F6.keep b o e) (fun q hq => by rw [List.mem_singleton.mp hq]; exact ⟨_, (N6 _ (.head _)).1⟩) ?os7 ?bare7
          case bare7 => assumption
          case os7 => walk_at "osEnd"
end
end Mine
end
theorem PySem.Challenge.cw_wj0022_01_holds : PySem.Challenge.rw_wj0022_01.Holds := by
  exact Mine.tt
