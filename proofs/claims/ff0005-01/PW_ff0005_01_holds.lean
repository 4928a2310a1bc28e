import PyProof.Rows.All
import Wide.All
import OpenK.AllK
import Wide.FinOn
import Lean
import PySem.Challenge.RW_ff0005_01
set_option Elab.async false
section
open PySem PySem.W PyProof.Rows
namespace Mine
set_option maxRecDepth 100000 in
set_option maxHeartbeats 8000000 in
open_top hd for PySem.Challenge.rw_ff0005_01
end Mine
end
section
open PySem PySem.W PySem.Calls PyProof.Rows
namespace Mine
/-- A call of the def at `f`: it comes back with a value of which `Out` holds; the frame and the ledger stand as they stood. -/
def Calls (w : World) (f : Addr) (vs : List Value) (d : Nat) (Out : Value → Prop) : Prop :=
  ∀ (mean : ExcName → Option Value) (mg mb : Str → Option Value) (dp un : Nat) (gd : Option (List Code)) (cn : Str) (cs : Scope) (a : Addr) (ccd : Value) (cl : List (Str × Addr)) (outer : List Env) (A₀ : Around) (base h₀ : Heap) (L : Addr) (m : Str → Option Value) (news : List (Addr × Obj)) (s : Shared)
    (Q E : Value → Shared → Prop),
    Below A₀ base outer h₀ → Fr h₀ L s.heap m → (Mine.hd.heap_39 w.params).In h₀ → News h₀ L s.heap news →
    Top Mine.hd.view_39 (looseW Mine.hd.view_39 [Str.ofString "RomanNumeral", Str.ofString "_ROMAN_NUMERAL_PREFIXES", Str.ofString "_law_tables", Str.ofString "_law_worth"]) mean mg mb h₀ →
    cs.kind = .function → dp + d < recursionLimit → un + 8 * d < cLine →
    (∀ r h' tk', Fr h₀ L h' m → News h₀ L h' news → Out r → Q r { s with heap := h', toks := tk' }) →
    wpAny (model PySem.Challenge.rw_ff0005_01.row.prog w) (ktrTop dp un gd cn cs L a ccd cl outer) (call (.ref f) vs) Q E s
end Mine
end
section
set_option maxRecDepth 100000
open PySem PySem.W PySem.Calls PyProof.Rows
namespace Mine
theorem slot_get_wd : Slot "wrapper_descriptor" "__get__" "wrapper_descriptor.__get__" := .of (owner := "wrapper_descriptor") (n := "__get__") (by rw [typeLookup_type, builtinLookup_eq_fast]; kernel_rfl) (by decide +kernel) (by decide +kernel) (by decide +kernel)
  (by first | exact .inl (by decide +kernel) | exact .inr (by decide +kernel)) (by rw [isSubtype_type]; kernel_rfl)
theorem entry_get_wd : entryFor table "wrapper_descriptor.__get__" = some Builtin.«wrapper_descriptor.__get__» := entryFor_of_tree (by kernel_rfl)
theorem args_get_wd (a b c : Value) : argsOk "wrapper_descriptor.__get__" ⟨[a, b, c], []⟩ := by unfold argsOk; kernel_rfl
theorem own_init_VE : classOwn (.type "ValueError") "__init__" = pure (some (.builtin "ValueError.__init__")) := by
  first | kernel_rfl | (unfold classOwn; kernel_rfl)
theorem type_init_VE : typeOf (.builtin "ValueError.__init__") = pure (.type "wrapper_descriptor") := by show builtinType _ = _; rw [builtinType_eq_fast]; kernel_rfl
end Mine
end
section
set_option maxRecDepth 100000
open PySem PySem.W PySem.Calls PyProof.Rows
namespace Mine
theorem sub_46_VE {w : World} {M : Model} {h : Heap} (X : (Mine.hd.heap_39 w.params).In h) : Looks M h (isSubtype (.ref 46) (.type "ValueError")) true := by
  refine looks_subIn X ?_
  kernel_rfl
theorem cut_VE : (".".intercalate ("ValueError.__init__".cutAt '.').dropLast) = "ValueError" := by decide +kernel
theorem inv_get {prog : Program} {w : World} {A : Around} {h : Heap} {g : Array GenState} {d : Drawn} {t : Nat} {os : OsState} {e : Addr} {oe : Obj} {Q : Fin → Shared → Prop} {E : Value → Shared → Prop}
   (X : (Mine.hd.heap_39 w.params).In h) (he : h.get? e = some oe) (hc : oe.cls = .ref 46)
   (hq : Q (.done (.ret (.ref h.objs.size))) ⟨h.push { cls := .type "method-wrapper", data := .fields #[.builtin "ValueError.__init__", .ref e] }, g, d, t, os⟩) :
   wpAny (model prog w) A (Builtin.«wrapper_descriptor.__get__» ⟨[.builtin "ValueError.__init__", .ref e, .ref 46], []⟩) Q E ⟨h, g, d, t, os⟩ := by
  unfold Builtin.«wrapper_descriptor.__get__»
  repeat (first | wp_step)
  rw [hc, cut_VE]
  refine (sub_46_VE X).at ?_
  simp only [Bool.not_true, Bool.false_eq_true, if_false]
  unfold newFields
  repeat (first | (with_reducible refine wpAny_newObj_type ?_ (by size_fits)) | wp_step)
  exact hq
theorem entry_mw_call : entryFor table "method_wrapper.__call__" = some Builtin.«method_wrapper.__call__» := entryFor_of_tree (by kernel_rfl)
theorem own_mw_call : typeLookup (.type "method-wrapper") "__call__" = pure (some (.builtin "method-wrapper.__call__")) := by rw [typeLookup_type, builtinLookup_eq_fast]; kernel_rfl
end Mine
end
section
set_option maxRecDepth 100000
open PySem PySem.W PySem.Calls PyProof.Rows
namespace Mine
theorem looks_mro46 {w : World} {M : Model} {h : Heap} (X : (Mine.hd.heap_39 w.params).In h) : Looks M h (mroOf (.ref 46)) [.ref 46, .type "ValueError", .type "Exception", .type "BaseException", .type "object"] := by
  exact fun A Q E s k q => wpAny_bind ((looks_clsIn X rfl) A _ E s k (wpAny_pure q))
theorem looks_opq46 {w : World} {M : Model} {h : Heap} (X : (Mine.hd.heap_39 w.params).In h) : Looks M h (opaqueClassAbove (.ref 46)) none := looks_opaque X (by kernel_rfl)
theorem wd_lookup_get : typeLookup (.type "wrapper_descriptor") "__get__" = pure (some (.builtin "wrapper_descriptor.__get__")) := slot_get_wd.lookup
set_option linter.unusedSimpArgs false in
set_option maxHeartbeats 2000000 in
theorem inv_super_ga {prog : Program} {w : World} {A : Around} {h : Heap} {g : Array GenState} {d : Drawn} {t : Nat} {os : OsState} {so e : Addr} {oe : Obj} {tk : Tok} {Q : Fin → Shared → Prop} {E : Value → Shared → Prop}
    (X : (Mine.hd.heap_39 w.params).In h) (hso : h.get? so = some { cls := .type "super", dict := none, data := .fields #[.ref 46, .ref e, .ref 46], slots := #[] }) (he : h.get? e = some oe) (hc : oe.cls = .ref 46) (hne : e ≠ 46)
    (hq : Q (.done (.ret (.ref h.objs.size))) ⟨h.push { cls := .type "method-wrapper", data := .fields #[.builtin "ValueError.__init__", .ref e] }, g, d, t, os⟩) :
    wpAny (model prog w) A (Builtin.«super.__getattribute__» ⟨[.ref so, .str "__init__" tk], []⟩) Q E ⟨h, g, d, t, os⟩ := by
  have hlk := wd_lookup_get
  have hne' : (Value.ref e == Value.ref 46) = false := by simp [hne]
  have hn : (("__init__" : Str) == ("__class__" : Str)) = false := by decide +kernel
  have hT : ∀ hh, (⟨hh, g, d, t, os⟩ : Shared).TypeIs (.builtin "ValueError.__init__") "wrapper_descriptor" := fun _ => type_init_VE
  have hdt : ({ cls := .type "super", dict := none, data := .fields #[.ref 46, .ref e, .ref 46], slots := #[] } : Obj).data = .fields #[.ref 46, .ref e, .ref 46] := rfl
  have f0 : (#[.ref 46, .ref e, .ref 46] : Array Value)[0]? = some (.ref 46) := rfl
  have f1 : (#[.ref 46, .ref e, .ref 46] : Array Value)[1]? = some (.ref e) := rfl
  have f2 : (#[.ref 46, .ref e, .ref 46] : Array Value)[2]? = some (.ref 46) := rfl
  have hl : (([.ref 46, .type "ValueError", .type "Exception", .type "BaseException", .type "object"] : List Value).dropWhile (· != .ref 46)).drop 1 = [.type "ValueError", .type "Exception", .type "BaseException", .type "object"] := by decide +kernel
  have hown := own_init_VE
  unfold Builtin.«super.__getattribute__»
  repeat (first
    | (with_reducible refine wpAny_field hso hdt f0 ?_) | (with_reducible refine wpAny_field hso hdt f1 ?_) | (with_reducible refine wpAny_field hso hdt f2 ?_)
    | (with_reducible refine ks_wpAny_notOpaque (looks_opq46 X) ?_)
    | (with_reducible refine Looks.at (looks_mro46 X) ?_; rw [hl, List.forIn_cons])
    | (with_reducible refine wpAny_typeOf (hT _) ?_)
    | (with_reducible refine wpAny_call_entry slot_get_wd (hT _) entry_get_wd ?_ (args_get_wd _ _ _))
    | (simp only [hn, hne', Bool.or_false, Bool.false_eq_true, if_false])
    | ((fail_if_success (with_reducible show wpAny _ _ (Builtin.«wrapper_descriptor.__get__» _) _ _ _)); wp_step)
    | dsimp only)
  refine inv_get X he hc ⟨_, rfl, ?_⟩
  repeat (first | wp_step | dsimp only)
  exact hq
theorem inv_getMethod {prog : Program} {w : World} {A : Around} {h : Heap} {g : Array GenState} {d : Drawn} {t : Nat} {os : OsState} {so e : Addr} {oe : Obj} {pl : Sem Bool} {Q : Value × List Value → Shared → Prop} {E : Value → Shared → Prop}
    (X : (Mine.hd.heap_39 w.params).In h) (hso : h.get? so = some { cls := .type "super", dict := none, data := .fields #[.ref 46, .ref e, .ref 46], slots := #[] }) (he : h.get? e = some oe) (hc : oe.cls = .ref 46) (hne : e ≠ 46)
    (hq : Q (.ref h.objs.size, []) ⟨h.push { cls := .type "method-wrapper", data := .fields #[.builtin "ValueError.__init__", .ref e] }, g, d, t + 1, os⟩) :
    wpAny (model prog w) A (getMethod (.ref so) "__init__" pl) Q E ⟨h, g, d, t, os⟩ := by
  have hlk := PySem.F.ks_slot_super_ga.lookup
  have hcan := PySem.F.ks_canon_super_ga
  have hT : ∀ t', (⟨h, g, d, t', os⟩ : Shared).TypeIs (.ref so) "super" := fun _ => ⟨_, hso, rfl⟩
  unfold getMethod
  refine wpAny_bind (wpAny_specialOf (hT _) hlk ?_)
  show wpAny _ _ (if (Manifest.canonical "super.__getattribute__" != "object.__getattribute__") = true then _ else _) _ _ _
  rw [if_pos hcan]
  unfold getAttr getAttrBy
  refine wpAny_bind (wpAny_bind (wpAny_mkText (wpAny_holding (wpAny_bind (wpAny_typeOf (hT _) (wpAny_bind (wpAny_of_eq hlk ?_)))))))
  show wpAny _ _ (getAttrByItsOwn (.ref so) (.str "__init__" t) (.type "super") (.builtin "super.__getattribute__") true false) _ _ _
  unfold getAttrByItsOwn hookBefore callGetattribute boundAndCalled
  refine wpAny_bind (wpAny_of_eq (show (if onTheHeap (.type "super") then typeLookup (.type "super") "__getattr__" else pure none) = pure none from rfl) ?_)
  refine wpAny_bind (wpAny_attempt (wpAny_holding ?_))
  show wpAny _ _ (bindSpecial (.builtin "super.__getattribute__") (.ref so) >>= _) _ _ _
  refine wpAny_bind (wpAny_of_eq (PySem.F.ks_slot_super_ga.bind _) ?_)
  refine wpAny_mono (Q := fun v s' => v = .ref h.objs.size ∧ s' = ⟨h.push { cls := .type "method-wrapper", data := .fields #[.builtin "ValueError.__init__", .ref e] }, g, d, t + 1, os⟩) (E := fun _ _ => False)
    (wpAny_call_entry PySem.F.ks_slot_super_ga (hT _) PySem.F.ks_entry_super_ga (inv_super_ga X hso he hc hne ⟨_, rfl, rfl, rfl⟩) (PySem.F.ks_gaArgs_super _ _)) (fun v s' hv => ?_) fun _ _ z => z.elim
  obtain ⟨rfl, rfl⟩ := hv
  exact wpAny_pure (wpAny_pure hq)
end Mine
end
section
set_option maxRecDepth 100000
open PySem PySem.W PySem.Calls PyProof.Rows
namespace Mine
theorem kind_init : builtinKind "ValueError.__init__" = some .slot := by decide +kernel
theorem entry_init : entryFor table "ValueError.__init__" = some Builtin.«BaseException.__init__» := PySem.F.excBase_ValueError.initEntry
abbrev mwObj (e : Addr) : Obj := { cls := .type "method-wrapper", data := .fields #[.builtin "ValueError.__init__", .ref e] }
theorem quiet_init (a : Args) : (Code.builtin "ValueError.__init__" a).quiet = true := Code.quiet_builtin _ (by decide +kernel)
theorem plain_init : plainId "ValueError.__init__" = true := by decide +kernel
theorem callWith_MW {M : Model} {A : Around} {E : Value → Shared → Prop} {s : Shared} {mw ex : Addr} {e : Expr} {rest : List Expr} {env : Env} {pos : Pos} {first : List Value} {Q : Value → Shared → Prop}
    (h : wpAny M A (spliced (backTo pos (starEach (e :: rest) env))) (fun vs s₁ => s₁.heap.get? mw = some (mwObj ex) ∧ wpAny M A (call (.ref mw) (first ++ vs)) Q E s₁) E s)
    (he : starEach (e :: rest) env = (false, eval e env) :: starEach rest env := by rfl) (hplain : (backTo pos (starEach rest env)).any (·.1) = false := by rfl) :
    wpAny M A (callWith pos (.ref mw) first (backTo pos (starEach (e :: rest) env)) []) Q E s := by
  rw [he] at h ⊢
  refine callWith_of (P := fun h => h.get? mw = some (mwObj ex)) (by show ((false || (backTo pos (starEach rest env)).any (·.1)) || false) = false; rw [hplain]; rfl) (fun h X => ⟨.machine, .inr (.inl rfl), ?_⟩) (evalArgs_plain h)
  exact (Looks.ld (part := none) X).andThen .now
theorem call_MW {prog : Program} {w : World} {A : Around} {h : Heap} {g : Array GenState} {d : Drawn} {t : Nat} {os : OsState} {mw ex te : Addr} {v : Value} {Q : Value → Shared → Prop} {E : Value → Shared → Prop}
    (X : (Mine.hd.heap_39 w.params).In h)
    (hm : h.get? mw = some (mwObj ex)) (he : h.get? ex = some { cls := .ref 46, data := .fields #[.ref te, .none, .none, .none, .bool false, .none] })
    (hq : ∀ h', (∀ b o, b ≠ ex → h.get? b = some o → h'.get? b = some o) → h'.get? ex = some { cls := .ref 46, data := .fields #[.ref h.objs.size, .none, .none, .none, .bool false, .none] } → h'.get? h.objs.size = some { cls := .type "tuple", data := .seq #[v] } → Q .none ⟨h', g, d, t, os⟩) :
    wpAny (model prog w) A (call (.ref mw) [v]) Q E ⟨h, g, d, t, os⟩ := by
  have h46 := X 46 _ (by rfl)
  refine wpAny_call (codeAny_of_tree ?_)
  show wpAny _ _ (callAny (.ref mw) _) _ _ _
  unfold callAny
  refine wpAny_bind (wpAny_load hm ?_)
  dsimp only
  rw [if_pos (by decide)]
  repeat (first | wp_step | dsimp only)
  refine ⟨quiet_init _, codeAny_builtin entry_init ?_⟩
  show wpAny _ _ (Builtin.«BaseException.__init__» ⟨[.ref ex, v], []⟩) _ _ _
  unfold Builtin.«BaseException.__init__»
  dsimp only
  rw [if_neg (by simp)]
  unfold newTuple Builtin.BaseException.bexcPut
  have he₁ := Heap.get?_push_of_some (h := h) { cls := .type "tuple", data := .seq #[v] } he
  have hd : ({ cls := .ref 46, data := .fields #[.ref te, .none, .none, .none, .bool false, .none] } : Obj).data = .fields #[.ref te, .none, .none, .none, .bool false, .none] := rfl
  refine wpAny_bind (wpAny_newObj_type (wpAny_bind (wpAny_bind (wpAny_field he₁ hd rfl (wpAny_bind (wpAny_setField he₁ hd (by simp) ?_))))) (by show 1 ≤ sizeLine; decide))
  refine wpAny_letGo (wpAny_pure ?_)
  have hlt := Heap.lt_size he
  refine hq _ (fun b o hb hbo => ?_) ?_ ?_
  · rw [Heap.get?_update_ne _ _ _ _ hb]
    exact Heap.get?_push_of_some _ hbo
  · rw [Heap.get?_update_self _ he₁ rfl]
    rfl
  · rw [Heap.get?_update_ne _ _ _ _ (Nat.ne_of_gt hlt)]
    exact Heap.get?_push_at rfl rfl
end Mine
end
section
open PySem PySem.W PySem.Calls PyProof.Rows
namespace Mine
set_option pp.deepTerms false
set_option pp.deepTerms.threshold 8
set_option pp.proofs false
local macro_rules | `(tactic| k_room) => `(tactic| ktr_room)
local macro_rules | `(tactic| k_units) => `(tactic| ktr_units)
def Hold (P : Prop) : Prop := P
theorem ns_some_of {K : Frag} {h : Heap} {N : Addr} {mg : Str → Option Value} {n : Str} {v : Value} (X : K.In h) (G : h.Ns N mg) (e : nsIn K N n = some (some v)) : mg n = some v := by
  obtain ⟨o, es, ep, ho, hd, _, hf⟩ := G
  unfold nsIn at e
  split at e
  · rename_i c d es' n' sl q
    have h1 := X _ _ q
    rw [ho] at h1
    cases h1
    cases hd
    split at e
    · rename_i en he
      cases e
      rw [← hf]
      unfold nsFind findBy
      rw [← Array.find?_toList, he]
      rfl
    · split at e <;> cases e
  · cases e
set_option maxRecDepth 100000 in
set_option maxHeartbeats 8000000 in
theorem mk_invalid {w : World} {A₀ A : Around} {base h₀ : Heap} {outer : List Env} {L : Addr} {m : Str → Option Value} {news : List (Addr × Obj)} {s : Shared} {env : Env} {mean : ExcName → Option Value} {mg mb : Str → Option Value}
    {x : Str} {t : Tok} {Q E : Value → Shared → Prop}
    (B : Below A₀ base outer h₀) (F : Fr h₀ L s.heap m) (X : (Mine.hd.heap_39 w.params).In h₀) (N : News h₀ L s.heap news)
    (T : Top Mine.hd.view_39 (looseW Mine.hd.view_39 [Str.ofString "RomanNumeral", Str.ofString "_ROMAN_NUMERAL_PREFIXES", Str.ofString "_law_tables", Str.ofString "_law_worth"]) mean mg mb h₀)
    (hA : A.frames = some (env :: outer)) (hf : env.frame = some L) (hke : env.scope.kind = .function) (hroom : A.depth + 2 < recursionLimit) (hu : A.units + 16 < cLine) (hx : x.length ≤ 1000)
    (hQ : ∀ hR h' e tk msg t', Fr h₀ L hR m → News h₀ L hR news → Heap.MadeExcOf hR h' e (.ref 46) [.str msg t'] → Q (.ref e) { s with heap := h', toks := tk }) :
    wpAny (model PySem.Challenge.rw_ff0005_01.row.prog w) A (call (.ref 46) [.str x t]) Q E s := by
  revert X; k_fill; intro X
  have hX := X.keeps F.keep
  obtain ⟨hh, g, d, tt, os⟩ := s
  have h46 := hX 46 _ (by rfl)
  have hns : hh.Ns 45 (hh.nsMap 45) := .of_isNs (isNs_of_in hX (by kernel_rfl))
  have hi : hh.nsMap 45 "__init__" = some (.ref 43) := ns_some_of hX hns (by k_is)
  have h43 := hX 43 _ (by rfl)
  refine wpAny_call_exc_init (F := PySem.F.excBase_ValueError) (hC := h46) (hn := hns) (hi := hi) (hfI := h43) (hfc := rfl) ?_
  intro h' e hm
  have F' : Fr h₀ L h' m := F.keeps hm.keeps
  have hLe : e ≠ L := by
    rintro rfl
    obtain ⟨o, _, _, ho, _⟩ := F.ns
    have := hm.new
    rw [ho] at this; cases this
  obtain ⟨te, he, hte, hte'⟩ := hm.there
  have N' : News h₀ L h' ((e, { cls := .ref 46, data := .fields #[.ref te, .none, .none, .none, .bool false, .none] }) :: news) := by
    intro p hp
    rcases List.mem_cons.mp hp with rfl | hp
    · refine ⟨he, hLe, ?_⟩
      cases q : h₀.get? e with
      | none => rfl
      | some o => have := hm.new; rw [F.keep _ _ q] at this; cases this
    · exact ⟨hm.keeps _ _ (N p hp).1, (N p hp).2⟩
  refine wpAny_call ?_
  have hA' : (A.under (Code.builtin "type.__call__" ⟨[Value.ref 46, Value.str x t], []⟩)).frames = some (env :: outer) := hA
  have hd1 : (A.under (Code.builtin "type.__call__" ⟨[Value.ref 46, Value.str x t], []⟩)).depth = A.depth + 1 := rfl
  have hu1 : (A.under (Code.builtin "type.__call__" ⟨[Value.ref 46, Value.str x t], []⟩)).units = A.units + 1 := rfl
  generalize A.under (Code.builtin "type.__call__" ⟨[Value.ref 46, Value.str x t], []⟩) = A1 at hA' hd1 hu1 ⊢
  k_dflt (refine' ks_code_super (s := ⟨h', g, d, tt, os⟩) B F' X N' T hA' hf hke ?k6 ?k7 ?k8 ?k9 ?kB ?_ ?c1 ?c2 ?c3 ?c4; (case k6 => k_is); (case k7 => k_is); (case k8 => omega); (case k9 => exact BindsTo.of_eq rfl); (case kB => exact locs rfl); (case c1 => decide); (case c2 => exact rfl); (case c3 => exact rfl); (case c4 => exact rfl); intro g' L' h' FG' F' N' B' X' T' l1; (try k_lt l1); (try dsimp only); (try k_lift B'))
  refine ks_wpAt_execs_cons ?_
  refine wpAt_of_wpAny (wpAny_mono (Q := fun f s' => Hold (∃ h' tk mv tv, f = Flow.next ∧ s' = ⟨h', g, d, tk, os⟩ ∧ Fr g' L' h' (fun y => if y = Str.ofString "msg" then some (Value.str mv tv) else List.lookup y [(Str.ofString "value", Value.str x t), (Str.ofString "self", Value.ref e)]) ∧ News g' L' h' ((e, { cls := .ref 46, data := .fields #[.ref te, .none, .none, .none, .bool false, .none] }) :: news))) ?_ ?_ (fun _ _ q => q))
  · k_steps
    unfold Hold
    refine' ⟨_, _, _, _, rfl, rfl, ?a1, ?a2⟩
    case a1 => k_asm
    case a2 => k_asm
  · rintro f s' ⟨h2, tk, mv, tv, rfl, rfl, F2, N2⟩
    dsimp only
    refine ks_wpAt_execs_cons ?_
    refine ks_wpAt_Expr_any ?_
    refine ks_wpAt_MethodCall ?_
    have I2 : InstAt h2 e { cls := .ref 46, data := .fields #[.ref te, .none, .none, .none, .bool false, .none] } 46 none := ⟨(N2 _ (.head _)).1, rfl, rfl, trivial⟩
    k_dflt (refine ks_node (by k_asm) (by k_asm) (by k_asm) (by k_asm) (by k_is) (by rfl) (by rfl) I2 (by k_is) (by rfl) (by first | rfl | decide +kernel) (by k_is) (by k_is) (by k_is) (by k_is) (by decide) (by rfl) (by rfl) (by rfl) (by rfl) (by decide +kernel) (by first | boot_by_name | rfl | kernel_rfl) ?_; intro so' h3 F3 N3 l1; (try k_lt l1))
    have hne : e ≠ 46 := by
      rintro rfl
      have := hm.new
      rw [h46] at this; cases this
    refine inv_getMethod (X'.keeps F3.keep) (N3 _ (.head _)).1 (N3 _ (.tail _ (.head _))).1 rfl hne ?_
    obtain ⟨F4, N4, l4⟩ := ks_newsPush (s := ⟨h3, g, d, tk, os⟩) (o := mwObj e) F3 N3 rfl (Heap.get?_push_at rfl rfl) (fun b o q => Heap.get?_push_of_some _ q)
    dsimp only at F4 N4 l4 ⊢
    refine callWith_MW (ex := e) ?_
    k_steps
    · exact Heap.get?_push_at rfl rfl
    · refine call_MW (ex := e) (te := te) (X'.keeps F4.keep) (Heap.get?_push_at rfl rfl) (N4 _ (.tail _ (.tail _ (.head _)))).1 ?_
      intro h5 k5 e5 t5
      refine wpAt_of_wpAny ?_
      rw [execs_nil]
      refine wpAny_pure ?_
      dsimp only
      have hLs : L' < (h3.push (mwObj e)).objs.size := by
        obtain ⟨oL, _, _, hL, _⟩ := F4.ns
        exact Heap.lt_size hL
      have hge : g'.get? e = none := (N4 _ (.tail _ (.tail _ (.head _)))).2.2
      have heL : e ≠ L' := (N4 _ (.tail _ (.tail _ (.head _)))).2.1
      have F5 : Fr g' L' h5 (fun y => if y = Str.ofString "msg" then some (Value.str mv tv) else List.lookup y [(Str.ofString "value", Value.str x t), (Str.ofString "self", Value.ref e)]) := by
        refine ⟨?_, fun b o q => k5 b o ?_ (F4.keep b o q), F4.above⟩
        · obtain ⟨oL, es, ep, hL, r⟩ := F4.ns
          exact ⟨oL, es, ep, k5 _ _ (Ne.symm heL) hL, r⟩
        · rintro rfl
          rw [hge] at q; cases q
      have N5 : News g' L' h5 ((e, { cls := .ref 46, data := .fields #[.ref (h3.push (mwObj e)).objs.size, .none, .none, .none, .bool false, .none] }) :: ((h3.push (mwObj e)).objs.size, { cls := .type "tuple", data := .seq #[Value.str mv tv] }) :: news) := by
        intro p hp
        rcases List.mem_cons.mp hp with rfl | hp
        · exact ⟨e5, heL, hge⟩
        rcases List.mem_cons.mp hp with rfl | hp
        · exact ⟨t5, Nat.ne_of_gt hLs, Heap.get?_none_of_le (Nat.le_trans F4.above (Nat.le_of_lt hLs))⟩
        · have q := N4 p (.tail _ (.tail _ (.tail _ hp)))
          have z := (N p hp).1
          refine ⟨k5 _ _ ?_ q.1, q.2⟩
          intro ee
          rw [ee, hm.new] at z; cases z
      refine leaveK_ F5 N5 ?_
      intro F6 N6
      refine ⟨rfl, ?_⟩
      have a1 := N6 _ (.head _)
      have a2 := N6 _ (.tail _ (.head _))
      have Na : ∀ p ∈ news, p.1 ≠ e ∧ p.1 ≠ (h3.push (mwObj e)).objs.size := by
        intro p hp
        refine ⟨?_, ?_⟩
        · rintro rfl
          have z := (N p hp).1
          rw [hm.new] at z; cases z
        · have q := N4 p (.tail _ (.tail _ (.tail _ hp)))
          exact Nat.ne_of_lt (Heap.lt_size q.1)
      obtain ⟨oL, es, ep, hL, r⟩ := F6.ns
      have nm : ∀ b : Addr, b ≠ e → b ≠ (h3.push (mwObj e)).objs.size → b ∉ [e, (h3.push (mwObj e)).objs.size] := by
        intro b x1 x2 hb
        rcases List.mem_cons.mp hb with rfl | hb
        · exact x1 rfl
        · exact x2 (List.mem_singleton.mp hb)
      refine hQ (hideAll h5 [e, (h3.push (mwObj e)).objs.size]) h5 e _ mv tv ⟨?_, ?_, F6.above⟩ ?_ ⟨?_, ?_, _, e5, ?_, t5⟩
      · exact ⟨oL, es, ep, hideAll_get _ hL (nm _ (Ne.symm a1.2.1) (Ne.symm a2.2.1)), r⟩
      · intro b o q
        refine hideAll_get _ (F6.keep b o q) (nm _ ?_ ?_)
        · rintro rfl; rw [a1.2.2] at q; cases q
        · rintro rfl; rw [a2.2.2] at q; cases q
      · intro p hp
        have q := N6 p (.tail _ (.tail _ hp))
        exact ⟨hideAll_get _ q.1 (nm _ (Na p hp).1 (Na p hp).2), q.2⟩
      · exact fun b o q => of_hideAll _ q
      · exact hideAll_none _ (.head _)
      · exact hideAll_none _ (.tail _ (.head _))
end Mine
end
section
set_option maxRecDepth 100000
open PySem PySem.W PySem.Calls PyProof.Rows
namespace Mine
def RaisableI (w : World) (E : Value → Shared → Prop) (v : Value) (s₁ : Shared) : Prop :=
  ∃ e t, v = .ref e ∧ (Mine.hd.heap_39 w.params).In s₁.heap ∧ s₁.heap.get? e = some { cls := .ref 46, data := .fields #[.ref t, .none, .none, .none, .bool false, .none] } ∧ E (.ref e) s₁
theorem raise_inv {w : World} {A : Around} {E : Value → Shared → Prop} {s : Shared} {env : Env} {x : Expr} {pos : Pos} {Q : Flow → Shared → Prop} (hh : A.handled = none)
    (h : wpAny (model PySem.Challenge.rw_ff0005_01.row.prog w) A (eval x env) (RaisableI w E) E s) : wpAny (model PySem.Challenge.rw_ff0005_01.row.prog w) A (exec (.Raise (some x) none pos) env) Q E s := by
  rw [arm_exec_Raise]
  simp only [evalOpt, Option.map]
  refine wpAny_bind (wpAny_standAt ?_)
  refine' wpAny_raiseStmt_made_sub (C := 46) (bm := [.type "ValueError", .type "Exception", .type "BaseException", .type "object"]) PySem.F.excBase_ValueError.hasBase hh ?h
  case h =>
    refine wpAny_bind (wpAny_mono h (fun v s' hv => ?_) fun _ _ q => q)
    refine wpAny_bind (wpAny_standAt (wpAny_pure ?_))
    obtain ⟨e, t, rfl, X, he, hE⟩ := hv
    exact ⟨e, t, rfl, X 46 _ (by rfl), he, hE⟩
theorem raisableI_of {w : World} {E : Value → Shared → Prop} {h₀ hR : Heap} {L e : Addr} {m : Str → Option Value} {s' : Shared} {vs : List Value} (X : (Mine.hd.heap_39 w.params).In h₀) (F : Fr h₀ L hR m)
    (hM : Heap.MadeExcOf hR s'.heap e (.ref 46) vs) (hE : E (.ref e) s') : RaisableI w E (.ref e) s' := by
  obtain ⟨t, he, -, -⟩ := hM.there
  exact ⟨e, t, rfl, (X.keeps F.keep).keeps hM.keeps, he, hE⟩
end Mine
end
section
set_option maxRecDepth 100000
open PySem PySem.W PySem.Calls PyProof.Rows
namespace Mine
/-- the own exception, raised in a callee, reaches the caller's except clause of its name -/
theorem caught_46 {w : World} {A₀ : Around} {E : Value → Shared → Prop} {s' : Shared} {h₀ h : Heap} {outer : List Env} {L a e t : Addr} {m : Str → Option Value} {name : Str} {scope : Scope} {cd : Value}
    {vs : List Value} {b₀ : Stmt} {suite : List Stmt} {pos np : Pos} {rest : List ExceptHandler} {Q : Flow → Shared → Prop} {news : List (Addr × Obj)}
    {p : Program} {loose : List Str} {mg mb : Str → Option Value}
    (K : Below A₀ h₀ outer h₀) (F : Fr h₀ L h m) (hsm : h.UpToSlots s'.heap) (R : RaisedK h₀ (envOf name scope L a cd :: outer) e (.ref 46) t vs news s'.heap)
    (X : (Mine.hd.heap_39 w.params).In h₀) (T : TopRead p loose mg mb h₀)
    (k : ∀ h', Fr h₀ L h' m → News h₀ L h' news →
      wpAny (model PySem.Challenge.rw_ff0005_01.row.prog w) ((A₀.deeper (envOf name scope L a cd)).mark (some (.ref e))) (execs (b₀ :: suite) (envOf name scope L a cd)) Q E { s' with heap := h' })
    (hk : scope.kind = .function) (hx : (envOf name scope L a cd).kindOf "InvalidRomanNumeralError" = some .globalImplicit)
    (hE : PassesOwnAt (model PySem.Challenge.rw_ff0005_01.row.prog w) ((A₀.deeper (envOf name scope L a cd)).mark (some (.ref e))) (A₀.deeper (envOf name scope L a cd)) (envOf name scope L a cd) E := by passes_own) :
    wpAny (model PySem.Challenge.rw_ff0005_01.row.prog w) (A₀.deeper (envOf name scope L a cd)) (noteFrame (.ref e) (envOf name scope L a cd))
      (fun _ s₂ => wpAny (model PySem.Challenge.rw_ff0005_01.row.prog w) (A₀.deeper (envOf name scope L a cd)) (setFlight (.ref e) none) (fun _ s₃ =>
        wpAny (model PySem.Challenge.rw_ff0005_01.row.prog w) (A₀.deeper (envOf name scope L a cd)) (handleBy (.ref e) (envOf name scope L a cd) (.ExceptHandler (some (.Name "InvalidRomanNumeralError" np)) none (b₀ :: suite) pos :: rest)) Q E s₃) E s₂) E s' := by
  have eN : nsIn (Mine.hd.heap_39 w.params) mainGlobals "InvalidRomanNumeralError" = some (some (.ref 46)) := by kernel_rfl
  obtain ⟨⟨G, hG, hl, hfl, -⟩, -⟩ := R
  have hLn : G.get? L = none := by
    obtain ⟨_, ⟨L', _, q1, q2, _⟩, _⟩ := hfl.2.2.1
    cases q1
    exact q2
  refine wpAny_looks_onW (Around.frames_deeper K.stack) rfl hfl fun h1 held1 up1 => wpAny_landsW held1 fun h2 held2 up2 => ?_
  have up := hsm.trans (up1.trans up2)
  have own2 := flyingW_base hG held2
  have F2 := F.of_stays own2.1 up
  obtain ⟨ob, hob, hcl⟩ := own2.there
  refine wpAny_handleBy_cons (codeAny_handlers_test (name_K F2 X T eN ?_ hk hx (by decide))) (fun q => nomatch q)
  have h46 := (X.keeps F2.keep) 46 _ (by rfl)
  refine wpAny_excMatches_sub_self h46 hob hcl PySem.F.excBase_ValueError.hasBase (codeAny_handlers_suite ?_)
  refine lands_againW held2 fun h3 fl3 up3 => ?_
  have F3 := F.of_stays (flyingW_base hG fl3).1 (up.trans up3)
  refine wpAny_passesOwnAt hE (k h3 F3 fun q hq => ?_)
  have q1 := (hl q hq).1
  refine ⟨fl3.1 _ _ q1, ?_, (hl q hq).2⟩
  intro z
  rw [z, hLn] at q1
  cases q1
end Mine
end
section
set_option maxRecDepth 100000
open PySem PySem.W PySem.Calls PyProof.Rows
namespace Mine
/-- a call of a def that itself catches, out of the law's own frame (no frame below it) -/
def CallsL (w : World) (f : Addr) (vs : List Value) (d : Nat) (Out : Value → Prop) : Prop :=
  ∀ (mean : ExcName → Option Value) (mg mb : Str → Option Value) (dp un : Nat) (gd : Option (List Code)) (cn : Str) (cs : Scope) (a : Addr) (ccd : Value) (cl : List (Str × Addr)) (A₀ : Around) (h₀ : Heap) (L : Addr) (m : Str → Option Value) (news : List (Addr × Obj)) (s : Shared)
    (Q E : Value → Shared → Prop),
    Below A₀ h₀ [] h₀ → Fr h₀ L s.heap m → (Mine.hd.heap_39 w.params).In h₀ → News h₀ L s.heap news →
    Top Mine.hd.view_39 (looseW Mine.hd.view_39 [Str.ofString "RomanNumeral", Str.ofString "_ROMAN_NUMERAL_PREFIXES", Str.ofString "_law_tables", Str.ofString "_law_worth"]) mean mg mb h₀ →
    cs.kind = .function → dp + d < recursionLimit → un + 8 * d < cLine →
    (∀ r h' tk', Fr h₀ L h' m → News h₀ L h' news → Out r → Q r { s with heap := h', toks := tk' }) →
    wpAny (model PySem.Challenge.rw_ff0005_01.row.prog w) (ktrTop dp un gd cn cs L a ccd cl []) (call (.ref f) vs) Q E s

section
variable {prog : Program} {w : World} {A₀ A : Around} {s : Shared} {base h₀ : Heap} {env : Env} {L : Addr} {m : Str → Option Value} {news : List (Addr × Obj)} {K : Frag} {p : Program} {loose : List Str} {mean : ExcName → Option Value} {mg mb : Str → Option Value}
    {R : Result → Shared → Prop} {name qual : Str} {params : Arguments} {body : List Stmt} {scope : Scope} {dV kV doc pm cdv ct oc : Value} {an od : Option Addr} {osl : Array (Option Value)} {f : Addr} {args : Args} {binds : List (Str × Value)}
theorem enter_try (B : Below A₀ base [] h₀) (F : Fr h₀ L s.heap m) (X₀ : K.In h₀) (N : News h₀ L s.heap news) (T : Top p loose mean mg mb h₀) (hA : A.frames = some [env]) (hf : env.frame = some L) (hke : env.scope.kind = .function)
    (ho : K.lookup f = some ⟨oc, od, .func (fnOf name qual params body scope dV kV doc pm an cdv ct), osl⟩) (hcd : codeIn K cdv qual = true) (hroom : A.depth < recursionLimit)
    (hbind : BindsTo s (fnOf name qual params body scope dV kV doc pm an cdv ct) args binds) (hloc : ∀ y ∈ binds, scope.names.lookup y.1 = some .local)
    (h : ∀ g L' h₁, Fr h₀ L g m → Fr g L' h₁ (fun y => binds.reverse.lookup y) → News g L' h₁ news → Below A base [env] g → K.In g → Top p loose mean mg mb g → KtsDicts ([env].filterMap (·.frame)) g →
      wpAny (model prog w) (A.deeper (envOf qual scope L' f cdv)) (execs body (envOf qual scope L' f cdv))
        (fun fl s' => LeaveS0 ([env].filterMap (·.frame)) h₀ L m g R (match fl with | .ret v => v | _ => .none) s')
        (fun e s' => wpAny (model prog w) (A.deeper (envOf qual scope L' f cdv)) (leaving (envOf qual scope L' f cdv) e) (fun _ s'' => R (.error e) s'') (fun e' s'' => R (.error e') s'') s')
        { s with heap := h₁, toks := s.toks + binds.length })
    (hco : scope.isCoroutine = false) (hgen : scope.isGenerator = false) (hk : scope.kind = .function)
    (hcell : ∀ x ∈ scope.names, x.2 ≠ .cell) : codeAny (model prog w) A (.call (.ref f) args) R s := by
  obtain ⟨FG, BG, st, -⟩ := groundX (R := R) B F N hA hf hke
  have fs : [env].filterMap (·.frame) = [L] := by simp [hf]
  have nL : h₀.get? L = none := kts_self F
  obtain ⟨oL, es, ep, gL, dL, kL, fL⟩ := FG.ns
  have X := X₀.keeps F.keep
  refine codeAny_call_def (fd := fnOf name qual params body scope dV kV doc pm an cdv ct) (body := body) (binds := binds) hroom (X _ _ ho) rfl (T.nolimit.keeps F.keep) (codeRec_of X hcd) rfl hbind hcell hloc (fun h₁ hns hk₁ => ?_) hco hgen hk
  refine wpAny_mono (h _ s.heap.objs.size h₁ FG ⟨hns, fun b o e => hk₁ b o (of_hideAll _ e), Nat.le_of_eq (hideAll_size _ _)⟩
    (fun q hq => ⟨hk₁ _ _ (N q hq).1, Nat.ne_of_lt (Heap.lt_size (N q hq).1), hideAll_none _ (List.mem_map_of_mem hq)⟩) BG (X₀.keeps st) (T.keeps st) ?_) (fun fl s' hl => ?_) fun _ _ y => y
  · rw [fs]
    intro b hb
    rw [List.mem_singleton.mp hb]
    exact ⟨oL, es, ep, gL, dL⟩
  · rw [fs] at hl
    obtain ⟨g', L', m', news', T', F', N', k⟩ := hl
    obtain ⟨sl, gs⟩ := T'.up gL
    have kept : ∀ b o, h₀.get? b = some o → g'.get? b = some o := fun b o e => T'.other b o (st b o e) (fun q => by
      rw [List.mem_singleton.mp q, nL] at e
      cases e)
    refine k ⟨⟨_, es, ep, F'.keep _ _ gs, dL, kL, fL⟩, fun b o e => F'.keep b o (kept b o e), F.above⟩ (fun q hq => ?_)
    have nq := (N' q hq).2.2
    refine ⟨(N' q hq).1, ?_, ?_⟩
    · intro z
      rw [z, gs] at nq
      cases nq
    · cases z : h₀.get? q.1 with
      | none => rfl
      | some o =>
        rw [kept _ _ z] at nq
        cases nq
end
end Mine
end
section
set_option maxRecDepth 100000
open PySem PySem.W PySem.Calls PyProof.Rows
open PySem.Builtin PySem.Builtin._codecs
namespace Mine
theorem enc_tree (x : Str) (t u : Tok) : «str.encode» ⟨[.str x t, .str (Str.ofString "ascii") u], []⟩ = (do ret (← encodeRoad "str.encode" (.str x t) x (Str.ofString "ascii") none)) := by kernel_rfl
theorem enc_road (id : String) (self : Value) (x : Str) (errors : Option Str) : encodeRoad id self x (Str.ofString "ascii") errors = (do mkBytes (← encodeNarrow id asciiCodec errors self x)) := by
  first | rfl | (unfold encodeRoad; rfl)
def encB (x : Str) : Array UInt8 := x.cps.map (·.toUInt8)
theorem enc_fold (a : Array Nat) : a.foldl (fun acc y => acc ++ (asciiCodec.bytesOf y).toArray) #[] = a.map (·.toUInt8) := by
  obtain ⟨l⟩ := a
  simp only [List.foldl_toArray, List.map_toArray]
  have key : ∀ (l : List Nat) (acc : Array UInt8), l.foldl (fun acc y => acc ++ (asciiCodec.bytesOf y).toArray) acc = acc ++ (l.map (·.toUInt8)).toArray := by
    intro l
    induction l with
    | nil => intro acc; simp
    | cons y r ih => intro acc; rw [List.foldl_cons, ih]; simp [asciiCodec]
  rw [key]; simp
theorem enc_narrow (id : String) (self : Value) (x : Str) (h : ∀ c ∈ x.cps, c < 128) (hx : x.length ≤ 1000) : encodeNarrow id asciiCodec none self x = pure (encB x) := by
  have hbad : x.cps.findIdx? asciiCodec.bad = none := by
    rw [Array.findIdx?_eq_none_iff]
    intro c hc
    have := h c hc
    simp [asciiCodec]; omega
  have hz : ¬ (#[] : Array UInt8).size > sizeLine := by decide
  have hz2 : ¬ (encB x).size > sizeLine := by
    have : (encB x).size = x.length := by simp [encB, Str.length]
    rw [this]; have : sizeLine = 2 ^ 24 := rfl
    omega
  unfold encodeNarrow
  simp only [Std.Legacy.Range.forIn_eq_forIn_range']
  have hs : ([:x.length].size) = x.cps.size := by simp [Str.length]
  rw [hs]
  cases hn : x.cps.size with
  | zero =>
    have : x.cps = #[] := Array.eq_empty_of_size_eq_zero hn
    simp [encB, this]
  | succ n =>
    have h0 : x.cps[0]? = some (x.cps[0]'(by omega)) := by simp
    have hb0 : asciiCodec.bad (x.cps[0]'(by omega)) = false := by
      have := h (x.cps[0]'(by omega)) (Array.getElem_mem _)
      simp [asciiCodec]; omega
    rw [List.range'_succ, List.forIn_cons]
    simp only [hz, if_false, h0, hb0, Bool.not_false, if_true]

    have hex : x.cps.extract 0 (n + 1) = x.cps := by rw [← hn]; simp
    rw [hex, hbad]
    simp only [Option.getD_none]
    rw [show x.cps.extract 0 x.cps.size = x.cps by simp, enc_fold]
    simp only [pure_bind]
    cases n with
    | zero => simp [encB]
    | succ k =>
      have hno : x.cps[0 + x.cps.size]? = none := by simp
      rw [List.range'_succ, List.forIn_cons]
      simp only [show ¬ (x.cps.map (·.toUInt8)).size > sizeLine from hz2, if_false, hno, pure_bind]
      rfl
theorem enc_method {M : Model} {A : Around} {E : Value → Shared → Prop} {s : Shared} {x : Str} {t : Tok} {pl : Sem Bool} {Q : Value × List Value → Shared → Prop} (h : Q (.builtin "str.encode", [.str x t]) s) : wpAny M A (getMethod (.str x t) "encode" pl) Q E s := by
  with_reducible exact GM.of (.str x t) (typeIs_str _ _ _) PySem.F.slot_str_encode PySem.F.type_str_encode GM.noRef h
theorem enc_call {prog : Program} {w : World} {A : Around} {E : Value → Shared → Prop} {s : Shared} {x : Str} {t u : Tok} {Q : Value → Shared → Prop} (hx : ∀ c ∈ x.cps, c < 128) (hl : x.length ≤ 1000)
    (h : ∀ t', Q (.bytes (encB x) t') { s with toks := s.toks + 1 }) : wpAny (model prog w) A (call (.builtin "str.encode") [.str x t, .str (Str.ofString "ascii") u]) Q E s := by
  have hsz : ¬ (encB x).size > sizeLine := by
    have : (encB x).size = x.length := by simp [encB, Str.length]
    rw [this]; have : sizeLine = 2 ^ 24 := rfl
    omega
  refine wpAny_call_entry PySem.F.slot_str_encode (typeIs_str _ _ _) PySem.F.entry_str_encode ?_ (PySem.F.args_str_encode_2 _ _)
  rw [enc_tree, enc_road, enc_narrow _ _ _ hx hl]
  simp only [pure_bind]
  unfold mkBytes
  rw [if_neg hsz]
  refine wpAny_bind (wpAny_bind (wpAny_fresh' ?_))
  exact wpAny_pure (wpAny_pure ⟨_, rfl, h _⟩)
end Mine
end
section
set_option maxRecDepth 100000
open PySem PySem.W PySem.Calls PyProof.Rows PyProof.Rows.LCg
namespace Mine
section
variable {prog : Program} {w : World} {A : Around} {E : Value → Shared → Prop} {s : Shared} {h₀ : Heap} {L : Addr} {m : Str → Option Value} {env : Env}
/-- what a comprehension's source hands on: a fresh iterator of `n` items -/
def SrcI (prog : Program) (w : World) (A : Around) (h₀ : Heap) (L : Addr) (m : Str → Option Value) (env : Env) (elt : Expr) (x : Str) (scope : Scope) (cl : List (Str × Addr)) (Fin : Shared → List Value → List (Addr × Obj) → Prop) (xv : Value) (s₁ : Shared) : Prop :=
  ∃ n P St o news, A.handled = none ∧ n ≤ sizeLine ∧ Fr h₀ L s₁.heap m ∧ News h₀ L s₁.heap news ∧ o.isFreed = false ∧
    (∀ (E' : Value → Shared → Prop) (Q' : Value → Shared → Prop), Q' (.ref s₁.heap.objs.size) { s₁ with heap := s₁.heap.push o } → wpAny (model prog w) A (pyIter xv) Q' E' s₁) ∧
    Walks prog w A s₁.heap.objs.size [s₁.heap.objs.size] [s₁.heap.objs.size] n P St ∧ St 0 (s₁.heap.push o) ∧ (∀ i h, St i h → ∃ o, h.get? s₁.heap.objs.size = some o) ∧
    ∀ g, CompRest prog w A h₀ L m env elt x scope cl { s₁ with heap := g } (fun _ => True) P (Fin { s₁ with heap := g }) n 0 [] news
theorem comp_iter {elt iter : Expr} {x : Str} {px : Pos} {scope : Scope} {cl : List (Str × Addr)} {pos : Pos} {Q : Value → Shared → Prop} (_F₀ : Fr h₀ L s.heap m)
    (hclos : closureFor scope env = pure cl) (hcell : ∀ y ∈ scope.names, y.2 ≠ .cell) (hkind : scope.kind = .function)
    (hnames : ∀ y ∈ scope.names, y.2 = .local → scope.names.lookup y.1 = some .local) (hx : scope.names.lookup x = some .local)
    (h : wpAny (model prog w) A (eval iter env) (SrcI prog w A h₀ L m env elt x scope cl (fun s₂ => FinE h₀ L m s₂ Q)) E s)
    (hs : ∀ x, foldedSetIterable iter env x = pure x := by intro _; rfl) :
    wpAny (model prog w) A (eval (.ListComp elt [⟨.Name x px, iter, [], 0⟩] scope pos) env) Q E s := by
  rw [eval_ListComp]
  refine wpAny_comprehension_free (use := none) rfl hs hclos hkind hnames (wpAny_mono h (fun xv s₁ h₁ => ?_) fun _ _ e => e)
  obtain ⟨n, P, St, o, news, hh, hsz, F, N, hof, hit, W, h0, hlive, R⟩ := h₁
  refine hit _ _ ?_
  have up : ∀ b o', s₁.heap.get? b = some o' → (s₁.heap.push o).get? b = some o' := fun b o' e => Heap.get?_push_of_some _ e
  refine block_U W hsz hlive (fun i h h' oo nw st e e' _ _ _ => W.frame _ _ _ st (fun b hb o' eo => ?_)) hcell hkind hx h0 (fun b hb => ?_)
      (F.keeps up) (N.grown up) (Nat.ne_of_lt F.ns.lt) (next_is_new F) (fun p hp => Nat.ne_of_lt (Heap.lt_size (N p hp).1)) trivial (R _) ?_
  · rw [List.mem_singleton.mp hb] at eo ⊢
    rw [e] at eo; cases eo
    exact e'
  · rw [List.mem_singleton.mp hb]
    show s₁.heap.objs.size < (s₁.heap.push _).objs.size
    rw [Heap.size_push]; exact Nat.lt_succ_self _
  · intro D C h tk m' ys news' F' N' o1 hn hC₀ hD₀ hCL hDL hCD offC fin
    refine ⟨m', hn, fun h'' hs'' => fin D h'' tk (F'.change hs'' hCL hC₀) (fun p hp => ?_) o1⟩
    refine ⟨hs''.extBut _ _ ?_ (N' p hp).1, (N' p hp).2⟩
    rcases List.mem_cons.mp hp with rfl | hp
    · exact Ne.symm hCD
    · exact offC p hp
theorem src_bytes {elt : Expr} {x : Str} {scope : Scope} {cl : List (Str × Addr)} {Fin : Shared → List Value → List (Addr × Obj) → Prop} {b : Array UInt8} {t : Tok} {news : List (Addr × Obj)} {s₁ : Shared}
    (hh : A.handled = none) (F : Fr h₀ L s₁.heap m) (N : News h₀ L s₁.heap news) (hsz : b.size ≤ sizeLine)
    (h : ∀ g, CompRest prog w A h₀ L m env elt x scope cl { s₁ with heap := g } (fun _ => True) (fun i v => ∃ c u, b[i]? = some c ∧ v = .int ((c : UInt8).toNat : Int) u) (Fin { s₁ with heap := g }) b.size 0 [] news) :
    SrcI prog w A h₀ L m env elt x scope cl Fin (.bytes b t) s₁ :=
  ⟨b.size, _, _, { cls := .type "bytes_iterator", data := .fields #[.bytes b t, .int 0 0] }, news, hh, hsz, F, N, rfl, fun _ _ hq => KBw.pyIter_bytes hq, KBw.walks hh _ b t, ⟨_, Heap.get?_push_size _ rfl, rfl, rfl⟩, fun _ _ ⟨o, ho, _⟩ => ⟨o, ho⟩, h⟩
theorem src_str {elt : Expr} {x : Str} {scope : Scope} {cl : List (Str × Addr)} {Fin : Shared → List Value → List (Addr × Obj) → Prop} {b : Str} {t : Tok} {news : List (Addr × Obj)} {s₁ : Shared}
    (ha : b.cps.all (· < 128) = true) (hh : A.handled = none) (F : Fr h₀ L s₁.heap m) (N : News h₀ L s₁.heap news) (hsz : b.cps.size ≤ sizeLine)
    (h : ∀ g, CompRest prog w A h₀ L m env elt x scope cl { s₁ with heap := g } (fun _ => True) (SignAt b) (Fin { s₁ with heap := g }) b.cps.size 0 [] news) :
    SrcI prog w A h₀ L m env elt x scope cl Fin (.str b t) s₁ :=
  ⟨b.cps.size, _, _, _, news, hh, hsz, F, N, rfl, fun _ _ hq => wpAny_pyIter_ascii ha hq, Walks.strAscii hh _ b t, ⟨_, Heap.get?_push_size _ rfl, rfl, rfl⟩, fun _ _ ⟨o, ho, _⟩ => ⟨o, ho⟩, h⟩
theorem rest_inv {elt : Expr} {x : Str} {scope : Scope} {cl : List (Str × Addr)} {S : List (Addr × Obj) → Prop} {P : Nat → Value → Prop} {Fin : List Value → List (Addr × Obj) → Prop} {n : Nat} {news : List (Addr × Obj)}
    (J : Nat → List (Addr × Obj) → Prop) (g : Nat → Value → Prop) (j0 : J 0 news)
    (turn : ∀ i nw v I oI C oC D m₂ ys h tk (E' : Value → Shared → Prop), i < n → J i nw → P i v → NsObj oC m₂ → m₂ x = some v → Fr h₀ L h m → News h₀ L h ((I, oI) :: (C, oC) :: (D, lst ys) :: nw) → Off3 I C D nw → ((@Ne Nat I C) ∧ (@Ne Nat I D) ∧ (@Ne Nat C D)) →
      wpAny (model prog w) A (eval elt (compEnvC scope cl C env)) (CompEnd h₀ L m { s with heap := h, toks := tk } I oI C oC D (lst ys) S (fun y news' => J (i + 1) news' ∧ g i y)) E' { s with heap := h, toks := tk })
    (fin : ∀ ys nw, J n nw → ys.length = n → (∀ i v, ys[i]? = some v → g i v) → Fin ys nw) : CompRest prog w A h₀ L m env elt x scope cl s S P Fin n 0 [] news := by
  have key : ∀ (j i : Nat) (ys : List Value) (nw : List (Addr × Obj)), i + j = n → J i nw → ys.length = i → (∀ i v, ys[i]? = some v → g i v) → CompRest prog w A h₀ L m env elt x scope cl s S P Fin j i ys nw := by
    intro j
    induction j with
    | zero =>
      intro i ys nw hi hj hl hg
      have e : i = n := by omega
      subst e
      exact CompRest.zero (fin ys nw hj hl hg)
    | succ j ih =>
      intro i ys nw hi hj hl hg
      refine CompRest.succ ?_
      intro v I oI C oC D m₂ h tk E' hv hC hx F N off ne
      refine wpAny_mono (turn i nw v I oI C oC D m₂ ys h tk E' (by omega) hj hv hC hx F N off ne) (fun y s₂ hq => ?_) fun _ _ e => e
      obtain ⟨h', tk', nw', e, F', N', off', hS, hj', hy⟩ := hq
      refine ⟨h', tk', nw', e, F', N', off', hS, ih (i + 1) _ _ (by omega) hj' (by simp [hl]) ?_⟩
      intro k v' hk
      rw [List.getElem?_append] at hk
      split at hk
      · exact hg k v' hk
      · rename_i hlt
        have : k - ys.length = 0 := by
          cases z : k - ys.length with
          | zero => rfl
          | succ q => rw [z] at hk; simp at hk
        rw [this] at hk
        simp at hk
        have hk2 : k = i := by omega
        rw [hk2, ← hk]; exact hy
  exact key n 0 [] news (by omega) j0 rfl (fun i v h => by simp at h)
end
end Mine
end
section
set_option maxRecDepth 100000
open PySem PySem.W PySem.Calls PyProof.Rows
namespace Mine
theorem in_bytes {prog : Program} {w : World} {A : Around} {E : Value → Shared → Prop} {s : Shared} {b : Array UInt8} {t u : Tok} {c : UInt8} {Q : Value → Shared → Prop} (h : Q (.bool (b.contains c)) s) :
    wpAny (model prog w) A (compareOp .In (.int (c.toNat : Int) u) (.bytes b t)) Q E s := by
  show wpAny _ _ (do return .bool (← contains (.bytes b t) (.int (c.toNat : Int) u))) Q E s
  refine wpAny_bind ?_
  unfold contains
  try with_reducible refine wpAny_holding ?_
  refine wpAny_bind (wpAny_specialOf (typeIs_bytes s b t) PySem.W.FB.slot_bytes_contains.lookup ?_)
  show wpAny _ _ (if (some (Value.builtin "bytes.__contains__") == some Value.none) = true then _ else _) _ E s
  rw [if_neg (by decide)]
  have hc : ((decide ((c.toNat : Int) < 0) || decide ((c.toNat : Int) ≥ 256)) = true) = False := by
    have : c.toNat < 256 := c.toNat_lt
    simp; omega
  refine wpAny_bind (wpAny_callSpecialUnlessNone?_slot (name := Str.ofString "__contains__") (typeIs_bytes s b t) PySem.W.FB.slot_bytes_contains
    (wpAny_call_entry PySem.W.FB.slot_bytes_contains (typeIs_bytes s b t) PySem.W.FB.entry_bytes_contains ?_ (PySem.W.FB.args_bytes_contains_2 _ _)))
  unfold Builtin.«bytes.__contains__»
  have hb : Builtin.Bytes.buffer? "bytes.__contains__" (.bytes b t) = pure (some b) := KBy.buffer_eq
  repeat (first | (simp only [hc, if_false]) | (with_reducible refine wpAny_of_eq hb ?_) | wp_step | dsimp only)
  refine ⟨_, rfl, wpAny_truthy_bool (wpAny_pure ?_)⟩
  have e : (c.toNat : Int).toNat.toUInt8 = c := by simp
  rw [e]
  exact h
theorem boolsAre_true : ∀ {ys : List Value}, (∀ (i : Nat) (v : Value), ys[i]? = some v → v = Value.bool true) → LSm.BoolsAre ys (List.replicate ys.length true)
  | [], _ => .nil
  | y :: r, h => by
    have h0 := h 0 y (by simp)
    subst h0
    exact .cons _ (boolsAre_true fun i v e => h (i + 1) v (by simpa using e))
theorem all_replicate (n : Nat) : (List.replicate n true).all id = true := by simp
end Mine
end
section
set_option maxRecDepth 100000
open PySem PySem.W PySem.Calls PyProof.Rows
namespace Mine
/-- how many signs `c` stand ahead, `n` at most -/
def cnt (c : UInt8) : Nat → List UInt8 → Nat
  | 0, _ => 0
  | n + 1, l => if l.take 1 = [c] then 1 + cnt c n (l.drop 1) else 0
/-- a digit of the signs one, five, ten: what it takes, its worth -/
def digT (one five ten : UInt8) (l : List UInt8) : Nat :=
  if l.take 2 = [one, ten] then 2 else if l.take 2 = [one, five] then 2 else if l.take 1 = [five] then 1 + cnt one 3 (l.drop 1) else cnt one 3 l
def digV (one five ten : UInt8) (l : List UInt8) : Nat :=
  if l.take 2 = [one, ten] then 9 else if l.take 2 = [one, five] then 4 else if l.take 1 = [five] then 5 + cnt one 3 (l.drop 1) else cnt one 3 l
def I1 (cs : List UInt8) : Nat := cnt 77 4 cs
def R1 (cs : List UInt8) : Nat := 1000 * cnt 77 4 cs
def I2 (cs : List UInt8) : Nat := I1 cs + digT 67 68 77 (cs.drop (I1 cs))
def R2 (cs : List UInt8) : Nat := R1 cs + 100 * digV 67 68 77 (cs.drop (I1 cs))
def I3 (cs : List UInt8) : Nat := I2 cs + digT 88 76 67 (cs.drop (I2 cs))
def R3 (cs : List UInt8) : Nat := R2 cs + 10 * digV 88 76 67 (cs.drop (I2 cs))
def I4 (cs : List UInt8) : Nat := I3 cs + digT 73 86 88 (cs.drop (I3 cs))
def R4 (cs : List UInt8) : Nat := R3 cs + digV 73 86 88 (cs.drop (I3 cs))
theorem cnt_le (c : UInt8) : ∀ (n : Nat) (l : List UInt8), cnt c n l ≤ n
  | 0, _ => Nat.le_refl _
  | n + 1, l => by
    unfold cnt
    split
    · have := cnt_le c n (l.drop 1); omega
    · omega
theorem dig_le (one five ten : UInt8) (l : List UInt8) : digT one five ten l ≤ digV one five ten l ∧ digV one five ten l ≤ 9 := by
  unfold digT digV
  have h1 := cnt_le one 3 l
  have h2 := cnt_le one 3 (l.drop 1)
  repeat' split
  all_goals omega
theorem b1 (cs : List UInt8) : I1 cs ≤ R1 cs ∧ R1 cs ≤ 4000 := by
  have := cnt_le 77 4 cs
  unfold I1 R1; omega
theorem b2 (cs : List UInt8) : I2 cs ≤ R2 cs ∧ R2 cs ≤ 4900 := by
  have := b1 cs
  have := dig_le 67 68 77 (cs.drop (I1 cs))
  unfold I2 R2; omega
theorem b3 (cs : List UInt8) : I3 cs ≤ R3 cs ∧ R3 cs ≤ 4990 := by
  have := b2 cs
  have := dig_le 88 76 67 (cs.drop (I2 cs))
  unfold I3 R3; omega
theorem b4 (cs : List UInt8) : I4 cs ≤ R4 cs ∧ R4 cs ≤ 4999 := by
  have := b3 cs
  have := dig_le 73 86 88 (cs.drop (I3 cs))
  unfold I4 R4; omega

structure Inside : Prop where mk ::
structure At (k : Nat) : Prop where mk ::
def StageEnd (g : Heap) (L : Addr) (m : Str → Option Value) (news : List (Addr × Obj)) (s : Shared) (i r : Nat) (fl : Flow) (s' : Shared) : Prop :=
  fl = .next ∧ ∃ h' tk t1 t2 u, s' = { s with heap := h', toks := tk } ∧ Fr g L h' (fun y => if y = Str.ofString "idx" then some (.int (i : Int) t1) else if y = Str.ofString "result" then some (.int (r : Int) t2) else if y = Str.ofString "_" then u else m y) ∧ News g L h' news
theorem cut_at (i r : Nat) {M : Model} {A : Around} {E : Value → Shared → Prop} {s : Shared} {g : Heap} {L : Addr} {m : Str → Option Value} {news : List (Addr × Obj)} {env : Env} {st : Stmt} {rest : List Stmt} {Q : Flow → Shared → Prop}
    (_F : Fr g L s.heap m) (_N : News g L s.heap news) (h1 : wpAny M A (exec st env) (StageEnd g L m news s i r) E s)
    (h2 : ∀ h' tk t1 t2 u, Fr g L h' (fun y => if y = Str.ofString "idx" then some (.int (i : Int) t1) else if y = Str.ofString "result" then some (.int (r : Int) t2) else if y = Str.ofString "_" then u else m y) → News g L h' news → wpAny M A (execs rest env) Q E { s with heap := h', toks := tk }) :
    wpAny M A (execs (st :: rest) env) Q E s := by
  rw [execs_cons]
  refine wpAny_bind (wpAny_mono h1 (fun fl s' q => ?_) fun _ _ q => q)
  obtain ⟨rfl, h', tk, t1, t2, u, rfl, F', N'⟩ := q
  exact h2 h' tk t1 t2 u F' N'
theorem stage_end {g h' : Heap} {L : Addr} {m m' : Str → Option Value} {news news' : List (Addr × Obj)} {s : Shared} {i r tk : Nat} {i' r' : Int} {t1 t2 : Tok} (F' : Fr g L h' m') (N' : News g L h' news') (hN : ∀ p ∈ news, p ∈ news')
    (hi : m' (Str.ofString "idx") = some (.int i' t1)) (hr : m' (Str.ofString "result") = some (.int r' t2)) (ho : ∀ y, y ≠ Str.ofString "idx" → y ≠ Str.ofString "result" → y ≠ Str.ofString "_" → m' y = m y)
    (ei : i' = (i : Int)) (er : r' = (r : Int)) : StageEnd g L m news s i r .next { s with heap := h', toks := tk } := by
  subst ei er
  refine ⟨rfl, h', tk, t1, t2, m' (Str.ofString "_"), rfl, ⟨?_, F'.keep, F'.above⟩, fun p hp => N' p (hN p hp)⟩
  obtain ⟨oL, es, ep, hL, hd, hk, hf⟩ := F'.ns
  refine ⟨oL, es, ep, hL, hd, hk, fun y => ?_⟩
  rw [hf]
  dsimp only
  by_cases h1 : y = Str.ofString "idx"
  · rw [h1, if_pos rfl, hi]
  rw [if_neg h1]
  by_cases h2 : y = Str.ofString "result"
  · rw [h2, if_pos rfl, hr]
  rw [if_neg h2]
  by_cases h3 : y = Str.ofString "_"
  · rw [h3, if_pos rfl]
  rw [if_neg h3]
  exact ho y h1 h2 h3
theorem picked_at (cs : List UInt8) (i k : Nat) : KBy.picked cs.toArray (some (i : Int)) (some ((i : Int) + (k : Int))) = ((cs.drop i).take k).toArray := by
  rw [KBc.picked_eq]
  simp only [Option.elim]
  rw [show ((i : Int) + (k : Int)) = ((i + k : Nat) : Int) by omega, clipAt_nat, clipAt_nat]
  congr 1
  simp only [List.size_toArray]
  by_cases h : i ≤ cs.length
  · rw [Nat.min_eq_left h]
    rw [List.take_eq_take_iff]
    simp only [List.length_drop]
    omega
  · rw [Nat.min_eq_right (by omega)]
    simp [List.drop_eq_nil_of_le (show cs.length ≤ i by omega)]
    omega
end Mine
namespace Mine
def NatIs (z : Int) (n : Nat) : Prop := z = (n : Int)
theorem natIs_zero : NatIs 0 0 := rfl
theorem natIs_cast (n : Nat) : NatIs (n : Int) n := rfl
theorem natIs_one {z : Int} {n : Nat} (h : NatIs z n) : NatIs (z + 1) (n + 1) := by unfold NatIs at *; omega
theorem natIs_two {z : Int} {n : Nat} (h : NatIs z n) : NatIs (z + 2) (n + 2) := by unfold NatIs at *; omega
section
variable {prog : Program} {w : World} {A : Around} {E : Value → Shared → Prop} {s : Shared} {value slice : PySem.Expr} {cs : List UInt8} {t u1 u2 : Tok} {h₀ : Heap} {L : Addr} {m : PySem.Str → Option Value} {news : List (Addr × Obj)} {lo : Int} {i : Nat} {Q : Value → Shared → Prop}
theorem slice_at (k : Nat) (hF : Fr h₀ L s.heap m) (hN : News h₀ L s.heap news) (hi : NatIs lo i) (hz : cs.length ≤ 16777216)
    (h : ∀ h' t' k', Fr h₀ L h' m → News h₀ L h' news → Q (.bytes ((cs.drop i).take k).toArray t') { s with heap := h', toks := k' })
    (hs : subscripted slice false (.bytes cs.toArray t) (.ref s.heap.objs.size) = operate [.ref s.heap.objs.size, .bytes cs.toArray t] (getItem (.bytes cs.toArray t) (.ref s.heap.objs.size)) := by with_unfolding_all rfl)
    (ht : ∀ r, letTemporaryGo value (.bytes cs.toArray t) r = pure () := by intro _; with_unfolding_all rfl) :
    wpAny (model prog w) A (subscriptTail value slice (.bytes cs.toArray t) (.ref s.heap.objs.size)) Q E { s with heap := s.heap.push { cls := .type "slice", data := .fields #[.int lo u1, .int (lo + (k : Int)) u2, .none] } } := by
  refine KBc.slice_K (lo := some lo) (hi := some (lo + (k : Int))) hF hN rfl (by constructor) (by constructor) (by rw [KBw.ints_length]; simpa using hz) (fun h' t' k' F' N' _ => ?_) hs ht
  unfold NatIs at hi
  subst hi
  rw [picked_at]
  exact h h' t' k' F' N'
theorem eq_at {l l' : List UInt8} (h : Q (.bool (decide (l = l'))) s) : wpAny (model prog w) A (compareOp .Eq (.bytes l.toArray t) (.bytes l'.toArray u1)) Q E s := by
  refine eq_bytes ?_
  have e : (l.toArray.toList == l'.toArray.toList) = decide (l = l') := by
    rw [Bool.eq_iff_iff, decide_eq_true_eq]
    exact beq_iff_eq
  rw [e]
  exact h
end
end Mine
namespace Mine
def encL (x : Str) : List UInt8 := x.cps.toList.map (·.toUInt8)
theorem encB_eq (x : Str) : encB x = (encL x).toArray := by
  obtain ⟨⟨l⟩⟩ := x
  simp [encB, encL]
theorem enc_callL {prog : Program} {w : World} {A : Around} {E : Value → Shared → Prop} {s : Shared} {x : Str} {t u : Tok} {cs : List UInt8} {Q : Value → Shared → Prop} (hcs : encL x = cs) (hx : ∀ c ∈ x.cps, c < 128) (hl : x.length ≤ 1000)
    (h : ∀ t', Q (.bytes cs.toArray t') { s with toks := s.toks + 1 }) : wpAny (model prog w) A (call (.builtin "str.encode") [.str x t, .str (Str.ofString "ascii") u]) Q E s :=
  enc_call hx hl (fun t' => by rw [encB_eq, hcs]; exact h t')
end Mine

namespace Mine
theorem allLt_ne {d : Addr} {l : List (Addr × Obj)} (h : AllLt d l) : ∀ p ∈ l, p.1 ≠ d := by
  induction l with
  | nil => intro p hp; cases hp
  | cons q r ih =>
    intro p hp
    rcases List.mem_cons.mp hp with e | hp
    · rw [e]; exact Nat.ne_of_lt h.1
    · exact ih h.2 p hp
theorem unr_end {h₀ : Heap} {L I : Addr} {it : Obj} {rest : (Str → Option Value) → List (Addr × Obj) → Prop} {s₁ : Shared} {h' : Heap} {tk : Nat} {m' : Str → Option Value} {nw : List (Addr × Obj)} (F : Fr h₀ L h' m') (N : News h₀ L h' ((I, it) :: nw))
    (l : AllLt I nw) (r : rest m' nw) : UnrEnd h₀ L s₁ I it rest { s₁ with heap := h', toks := tk } :=
  UnrEnd.intro F N nw (fun _ h => h) (allLt_ne l) r
/-- what the reading of the signs `cs` gives -/
def ReadOut (cs : List UInt8) (r : Value) : Prop := if cs.length = I4 cs then ∃ t, r = .int ((R4 cs : Nat) : Int) t else r = .none
theorem dig_nil (a b c : UInt8) : digT a b c [] = 0 ∧ digV a b c [] = 0 := by simp [digT, digV, cnt]
theorem e3 {cs : List UInt8} (h : cs.length = I3 cs) : cs.length = I4 cs ∧ R4 cs = R3 cs := by
  have e : cs.drop (I3 cs) = [] := List.drop_eq_nil_of_le (by omega)
  have d := dig_nil 73 86 88
  unfold I4 R4
  rw [e, d.1, d.2]; exact ⟨h, rfl⟩
theorem e2 {cs : List UInt8} (h : cs.length = I2 cs) : cs.length = I4 cs ∧ R4 cs = R2 cs := by
  have e : cs.drop (I2 cs) = [] := List.drop_eq_nil_of_le (by omega)
  have d := dig_nil 88 76 67
  have h3 : I3 cs = I2 cs ∧ R3 cs = R2 cs := by
    unfold I3 R3
    rw [e, d.1, d.2]; exact ⟨rfl, rfl⟩
  have := e3 (cs := cs) (by omega)
  exact ⟨this.1, by omega⟩
theorem e1 {cs : List UInt8} (h : cs.length = I1 cs) : cs.length = I4 cs ∧ R4 cs = R1 cs := by
  have e : cs.drop (I1 cs) = [] := List.drop_eq_nil_of_le (by omega)
  have d := dig_nil 67 68 77
  have h3 : I2 cs = I1 cs ∧ R2 cs = R1 cs := by
    unfold I2 R2
    rw [e, d.1, d.2]; exact ⟨rfl, rfl⟩
  have := e2 (cs := cs) (by omega)
  exact ⟨this.1, by omega⟩
theorem out1 {cs : List UInt8} {t : Tok} (h : cs.length = I1 cs) : ReadOut cs (.int ((R1 cs : Nat) : Int) t) := by
  unfold ReadOut; rw [if_pos (e1 h).1, (e1 h).2]; exact ⟨_, rfl⟩
theorem out2 {cs : List UInt8} {t : Tok} (h : cs.length = I2 cs) : ReadOut cs (.int ((R2 cs : Nat) : Int) t) := by
  unfold ReadOut; rw [if_pos (e2 h).1, (e2 h).2]; exact ⟨_, rfl⟩
theorem out3 {cs : List UInt8} {t : Tok} (h : cs.length = I3 cs) : ReadOut cs (.int ((R3 cs : Nat) : Int) t) := by
  unfold ReadOut; rw [if_pos (e3 h).1, (e3 h).2]; exact ⟨_, rfl⟩
theorem out4 {cs : List UInt8} {t : Tok} (h : cs.length = I4 cs) : ReadOut cs (.int ((R4 cs : Nat) : Int) t) := by
  unfold ReadOut; rw [if_pos h]; exact ⟨_, rfl⟩
theorem out5 {cs : List UInt8} (h : ¬ cs.length = I4 cs) : ReadOut cs .none := by
  unfold ReadOut; rw [if_neg h]
end Mine

namespace Mine
theorem lit_at {cs : List UInt8} {b : Array UInt8} {i : Nat} {c : UInt8} (h : ∀ c ∈ cs, b.contains c = true) (hc : cs.toArray[i]? = some c) : Value.bool (b.contains c) = Value.bool true := by
  rw [h c (List.mem_of_getElem? (by simpa using hc))]
end Mine

namespace Mine
structure Plain : Prop where mk ::
structure Inner : Prop where mk ::
def CharsEnd (P : Prop) (g : Heap) (L : Addr) (m : Str → Option Value) (news : List (Addr × Obj)) (s : Shared) (cs : List UInt8) (fl : Flow) (s' : Shared) : Prop :=
  fl = .next ∧ P ∧ ∃ h' tk t1, s' = { s with heap := h', toks := tk } ∧ Fr g L h' (fun y => if y = Str.ofString "chars" then some (.bytes cs.toArray t1) else m y) ∧ News g L h' news
theorem cut_chars (P : Prop) (cs : List UInt8) {M : Model} {A : Around} {E : Value → Shared → Prop} {s : Shared} {g : Heap} {L : Addr} {m : Str → Option Value} {news : List (Addr × Obj)} {env : Env} {st : Stmt} {rest : List Stmt} {Q : Flow → Shared → Prop}
    (_F : Fr g L s.heap m) (_N : News g L s.heap news) (h1 : wpAny M A (exec st env) (CharsEnd P g L m news s cs) E s)
    (h2 : P → ∀ h' tk t1, Fr g L h' (fun y => if y = Str.ofString "chars" then some (.bytes cs.toArray t1) else m y) → News g L h' news → wpAny M A (execs rest env) Q E { s with heap := h', toks := tk }) :
    wpAny M A (execs (st :: rest) env) Q E s := by
  rw [execs_cons]
  refine wpAny_bind (wpAny_mono h1 (fun fl s' q => ?_) fun _ _ q => q)
  obtain ⟨rfl, hP, h', tk, t1, rfl, F', N'⟩ := q
  exact h2 hP h' tk t1 F' N'
theorem chars_end {P : Prop} {g h' : Heap} {L : Addr} {m : Str → Option Value} {news : List (Addr × Obj)} {s : Shared} {cs : List UInt8} {tk : Nat} {t1 : Tok} (F' : Fr g L h' (fun y => if y = Str.ofString "chars" then some (.bytes cs.toArray t1) else m y)) (N' : News g L h' news) (hP : P) :
    CharsEnd P g L m news s cs .next { s with heap := h', toks := tk } := ⟨rfl, hP, h', tk, t1, rfl, F', N'⟩
/-- what the reading of the text `x` gives; `cs` are its signs in great letters -/
def ReadX (x : Str) (cs : List UInt8) (r : Value) : Prop := if x.length = 0 ∨ (Txt.isupper x = false ∧ Txt.islower x = false) then r = .none else ReadOut cs r
theorem rx_empty {x : Str} {cs : List UInt8} (h : x.length = 0) : ReadX x cs .none := by unfold ReadX; rw [if_pos (Or.inl h)]
theorem rx_mixed {x : Str} {cs : List UInt8} (h : Txt.isupper x = false) (h' : Txt.islower x = false) : ReadX x cs .none := by unfold ReadX; rw [if_pos (Or.inr ⟨h, h'⟩)]
def f5 (c : UInt8) (l : List UInt8) : Nat := if l.take 1 = [c] then 1 else 0
/-- the idx and the result after the sign of five -/
def J (k : Nat) (cs : List UInt8) : Nat := match k with
  | 2 => I1 cs + f5 68 (cs.drop (I1 cs))
  | 3 => I2 cs + f5 76 (cs.drop (I2 cs))
  | _ => I3 cs + f5 86 (cs.drop (I3 cs))
def S (k : Nat) (cs : List UInt8) : Nat := match k with
  | 2 => R1 cs + 500 * f5 68 (cs.drop (I1 cs))
  | 3 => R2 cs + 50 * f5 76 (cs.drop (I2 cs))
  | _ => R3 cs + 5 * f5 86 (cs.drop (I3 cs))
end Mine

namespace Mine
theorem dig_cut (one five ten : UInt8) (l : List UInt8) (h9 : ¬ l.take 2 = [one, ten]) (h4 : ¬ l.take 2 = [one, five]) :
    digT one five ten l = f5 five l + cnt one 3 (l.drop (f5 five l)) ∧ digV one five ten l = 5 * f5 five l + cnt one 3 (l.drop (f5 five l)) := by
  unfold digT digV f5
  rw [if_neg h9, if_neg h4, if_neg h9, if_neg h4]
  by_cases h : l.take 1 = [five]
  · rw [if_pos h, if_pos h, if_pos h]; exact ⟨rfl, rfl⟩
  · rw [if_neg h, if_neg h, if_neg h]; simp
section
variable {cs : List UInt8}
theorem j2 (h9 : ¬ (cs.drop (I1 cs)).take 2 = [67, 77]) (h4 : ¬ (cs.drop (I1 cs)).take 2 = [67, 68]) : I2 cs = J 2 cs + cnt 67 3 (cs.drop (J 2 cs)) := by
  show I1 cs + digT 67 68 77 (cs.drop (I1 cs)) = I1 cs + f5 68 (cs.drop (I1 cs)) + cnt 67 3 (cs.drop (I1 cs + f5 68 (cs.drop (I1 cs))))
  rw [(dig_cut 67 68 77 _ h9 h4).1, List.drop_drop]; omega
theorem s2 (h9 : ¬ (cs.drop (I1 cs)).take 2 = [67, 77]) (h4 : ¬ (cs.drop (I1 cs)).take 2 = [67, 68]) : R2 cs = S 2 cs + 100 * cnt 67 3 (cs.drop (J 2 cs)) := by
  show R1 cs + 100 * digV 67 68 77 (cs.drop (I1 cs)) = R1 cs + 500 * f5 68 (cs.drop (I1 cs)) + 100 * cnt 67 3 (cs.drop (I1 cs + f5 68 (cs.drop (I1 cs))))
  rw [(dig_cut 67 68 77 _ h9 h4).2, List.drop_drop]; omega
theorem j3 (h9 : ¬ (cs.drop (I2 cs)).take 2 = [88, 67]) (h4 : ¬ (cs.drop (I2 cs)).take 2 = [88, 76]) : I3 cs = J 3 cs + cnt 88 3 (cs.drop (J 3 cs)) := by
  show I2 cs + digT 88 76 67 (cs.drop (I2 cs)) = I2 cs + f5 76 (cs.drop (I2 cs)) + cnt 88 3 (cs.drop (I2 cs + f5 76 (cs.drop (I2 cs))))
  rw [(dig_cut 88 76 67 _ h9 h4).1, List.drop_drop]; omega
theorem s3 (h9 : ¬ (cs.drop (I2 cs)).take 2 = [88, 67]) (h4 : ¬ (cs.drop (I2 cs)).take 2 = [88, 76]) : R3 cs = S 3 cs + 10 * cnt 88 3 (cs.drop (J 3 cs)) := by
  show R2 cs + 10 * digV 88 76 67 (cs.drop (I2 cs)) = R2 cs + 50 * f5 76 (cs.drop (I2 cs)) + 10 * cnt 88 3 (cs.drop (I2 cs + f5 76 (cs.drop (I2 cs))))
  rw [(dig_cut 88 76 67 _ h9 h4).2, List.drop_drop]; omega
theorem j4 (h9 : ¬ (cs.drop (I3 cs)).take 2 = [73, 88]) (h4 : ¬ (cs.drop (I3 cs)).take 2 = [73, 86]) : I4 cs = J 4 cs + cnt 73 3 (cs.drop (J 4 cs)) := by
  show I3 cs + digT 73 86 88 (cs.drop (I3 cs)) = I3 cs + f5 86 (cs.drop (I3 cs)) + cnt 73 3 (cs.drop (I3 cs + f5 86 (cs.drop (I3 cs))))
  rw [(dig_cut 73 86 88 _ h9 h4).1, List.drop_drop]; omega
theorem s4 (h9 : ¬ (cs.drop (I3 cs)).take 2 = [73, 88]) (h4 : ¬ (cs.drop (I3 cs)).take 2 = [73, 86]) : R4 cs = S 4 cs + cnt 73 3 (cs.drop (J 4 cs)) := by
  show R3 cs + digV 73 86 88 (cs.drop (I3 cs)) = R3 cs + 5 * f5 86 (cs.drop (I3 cs)) + cnt 73 3 (cs.drop (I3 cs + f5 86 (cs.drop (I3 cs))))
  rw [(dig_cut 73 86 88 _ h9 h4).2, List.drop_drop]; omega
end
end Mine

namespace Mine
def Pure (x : Str) : Prop := ¬ (Txt.isupper x = false ∧ Txt.islower x = false)
theorem pure_up {x : Str} (h : Txt.isupper x = true) : Pure x := fun e => by rw [h] at e; exact Bool.noConfusion e.1
theorem pure_lo {x : Str} (h : Txt.islower x = true) : Pure x := fun e => by rw [h] at e; exact Bool.noConfusion e.2
section
variable {x : Str} {cs : List UInt8} {t : Tok}
theorem rx_in {r : Value} (hn : ((x.length : Nat) : Int) ≠ 0) (hp : Pure x) (h : ReadOut cs r) : ReadX x cs r := by
  unfold ReadX
  rw [if_neg]
  · exact h
  · rintro (e | e)
    · omega
    · exact hp e
theorem rx1 (hn : ((x.length : Nat) : Int) ≠ 0) (hp : Pure x) (h : ((cs.toArray.size : Nat) : Int) = ((I1 cs : Nat) : Int)) : ReadX x cs (.int ((R1 cs : Nat) : Int) t) :=
  rx_in hn hp (out1 (by rw [List.size_toArray] at h; omega))
theorem rx2 (hn : ((x.length : Nat) : Int) ≠ 0) (hp : Pure x) (h : ((cs.toArray.size : Nat) : Int) = ((I2 cs : Nat) : Int)) : ReadX x cs (.int ((R2 cs : Nat) : Int) t) :=
  rx_in hn hp (out2 (by rw [List.size_toArray] at h; omega))
theorem rx3 (hn : ((x.length : Nat) : Int) ≠ 0) (hp : Pure x) (h : ((cs.toArray.size : Nat) : Int) = ((I3 cs : Nat) : Int)) : ReadX x cs (.int ((R3 cs : Nat) : Int) t) :=
  rx_in hn hp (out3 (by rw [List.size_toArray] at h; omega))
theorem rx4 (hn : ((x.length : Nat) : Int) ≠ 0) (hp : Pure x) (h : ((cs.toArray.size : Nat) : Int) = ((I4 cs : Nat) : Int)) : ReadX x cs (.int ((R4 cs : Nat) : Int) t) :=
  rx_in hn hp (out4 (by rw [List.size_toArray] at h; omega))
theorem rx5 (hn : ((x.length : Nat) : Int) ≠ 0) (hp : Pure x) (h : ((cs.toArray.size : Nat) : Int) ≠ ((I4 cs : Nat) : Int)) : ReadX x cs .none :=
  rx_in hn hp (out5 (by rw [List.size_toArray] at h; omega))
theorem rx_nil (h : ((x.length : Nat) : Int) = 0) : ReadX x cs .none := rx_empty (by omega)
theorem rx_not {P : Prop} {n : Nat} (h : (List.replicate n true).all id = false) : P := by
  rw [all_replicate] at h; cases h
end
end Mine
end
section
set_option maxRecDepth 100000
open PySem PySem.W PySem.Calls PyProof.Rows
namespace Mine
def TS : List (List Str) := [["", "M", "MM", "MMM", "MMMM"].map Str.ofString, ["", "C", "CC", "CCC", "CD", "D", "DC", "DCC", "DCCC", "CM"].map Str.ofString,
  ["", "X", "XX", "XXX", "XL", "L", "LX", "LXX", "LXXX", "XC"].map Str.ofString, ["", "I", "II", "III", "IV", "V", "VI", "VII", "VIII", "IX"].map Str.ofString]
/-- the digit at place `k` of four -/
def dg (n : Int) (k : Nat) : Int := (n.fdiv (10 ^ (3 - k))).fmod 10
def tx (n : Int) (k : Nat) : Str := (TS.getD k []).getD (dg n k).toNat Str.empty
def W (n : Int) : Str := Txt.join (Str.ofString "") [tx n 0, tx n 1, tx n 2, tx n 3]
def WOut (n : Int) (r : Value) : Prop := ∃ t, r = .str (if n < 1 ∨ n > 4999 then Str.ofString "" else W n) t
section
variable {prog : Program} {w : World} {A : Around} {E : Value → Shared → Prop} {s : Shared} {t : Tok} {D : Addr} {ys : List Value} {l : List Str} {Q : Value → Shared → Prop}
theorem strs_carried : ∀ {ys : List Value} {l : List Str}, StrsAre ys l → CarriedAll ys (l.map PyData.str)
  | _, _, h => h.carried
theorem join_at (hl : s.heap.IsList D ys.toArray) (hy : StrsAre ys l) (hB : ∀ a ∈ l, a.length ≤ 10) (hn : l.length ≤ 1000)
    (h : ∀ t' k, Q (.str (Txt.join (Str.ofString "") l) t') { s with toks := k }) : wpAny (model prog w) A (call (.builtin "str.join") [.str (Str.ofString "") t, .ref D]) Q E s := by
  refine KT.join_B (l := l) (g := fun a => a) 10 hl hy.carried hB (by omega) (by decide) (fun t' k => ?_)
  rw [List.map_id']
  exact h t' k
end
theorem strs4 {ys : List Value} {g : Nat → Str} (hl : ys.length = 4) (hg : ∀ (i : Nat) (v : Value), ys[i]? = some v → ∃ t, v = .str (g i) t) : StrsAre ys [g 0, g 1, g 2, g 3] := by
  match ys, hl with
  | [a, b, c, d], _ =>
    obtain ⟨t0, rfl⟩ := hg 0 a rfl
    obtain ⟨t1, rfl⟩ := hg 1 b rfl
    obtain ⟨t2, rfl⟩ := hg 2 c rfl
    obtain ⟨t3, rfl⟩ := hg 3 d rfl
    exact .cons _ _ (.cons _ _ (.cons _ _ (.cons _ _ .nil)))
theorem tx_len (n : Int) (k : Nat) : (tx n k).length ≤ 4 := by
  have key : ∀ l ∈ TS, ∀ x ∈ l, x.length ≤ 4 := by decide +kernel
  unfold tx
  rw [List.getD_eq_getElem?_getD, List.getD_eq_getElem?_getD]
  cases h1 : TS[k]? with
  | none => simp; decide
  | some l =>
    simp only [Option.getD_some]
    cases h2 : l[(dg n k).toNat]? with
    | none => simp; decide
    | some x => exact key l (List.mem_of_getElem? h1) x (List.mem_of_getElem? h2)
theorem tx4 (n : Int) : ∀ a ∈ [tx n 0, tx n 1, tx n 2, tx n 3], a.length ≤ 10 := by
  intro a ha
  have h0 := tx_len n 0
  have h1 := tx_len n 1
  have h2 := tx_len n 2
  have h3 := tx_len n 3
  simp only [List.mem_cons, List.not_mem_nil, or_false] at ha
  rcases ha with rfl | rfl | rfl | rfl <;> omega
theorem four {a b c d : Str} : [a, b, c, d].length ≤ 1000 := Nat.le_of_ble_eq_true rfl
theorem w_in {n : Int} {t : Tok} (h1 : ¬ n < 1) (h2 : ¬ 4999 < n) : WOut n (.str (W n) t) := ⟨t, by rw [if_neg (by omega)]⟩
theorem w_low {n : Int} {t : Tok} (h1 : n < 1) : WOut n (.str (Str.ofString "") t) := ⟨t, by rw [if_pos (by omega)]⟩
theorem w_high {n : Int} {t : Tok} (h1 : 4999 < n) : WOut n (.str (Str.ofString "") t) := ⟨t, by rw [if_pos (by omega)]⟩
end Mine

namespace Mine
theorem dg_eq (n : Int) (k : Nat) (h0 : ¬ n < 1) : dg n k = (n / 10 ^ (3 - k)) % 10 := by
  unfold dg
  rw [Int.fmod_eq_emod_of_nonneg _ (by decide), Int.fdiv_eq_ediv_of_nonneg _ (Int.le_of_lt (Int.pow_pos (by decide)))]
theorem dg_bd (n : Int) (k : Nat) (h0 : ¬ n < 1) : 0 ≤ dg n k ∧ dg n k < 10 := by
  rw [dg_eq n k h0]; omega
theorem dg_b0 (n : Int) (h0 : ¬ n < 1) (h1 : ¬ 4999 < n) : dg n 0 < 5 := by
  rw [dg_eq n 0 h0]
  have : n / 10 ^ (3 - 0) = n / 1000 := rfl
  rw [this]; omega
theorem dg_fit (n : Int) (k : Nat) (h0 : ¬ n < 1) (h1 : ¬ 4999 < n) (hk : k < 4) : dg n k < ((TS.getD k []).length : Int) := by
  have hb := dg_bd n k h0
  rcases k with _ | _ | _ | _ | k
  · exact dg_b0 n h0 h1
  · exact hb.2
  · exact hb.2
  · exact hb.2
  · omega
section
variable {prog : Program} {w : World} {A : Around} {E : Value → Shared → Prop} {s : Shared} {value slice : PySem.Expr} {l : Addr} {vs : List Value} {vA : Array Value} {ws : List Str} {n i : Int} {t u : Tok} {x : Value} {Q : Value → Shared → Prop}
theorem row_at (k : Nat) (hl : s.heap.IsList l vs.toArray) (hw : StrsAre vs ws) (hws : TS.getD k [] = ws) (hk : k < 4) (h0 : ¬ n < 1) (h1 : ¬ 4999 < n) (hi : i = dg n k) (h : ∀ t', Q (.str (tx n k) t') s)
    (hs : subscripted slice false (.ref l) (.int i u) = operate [.ref l, .int i u] (getItem (.ref l) (.int i u)) := by with_unfolding_all rfl) :
    wpAny (model prog w) A (subscriptTail value slice (.ref l) (.int i u)) Q E s := by
  subst hi hws
  have hb := dg_bd n k h0
  have hf := dg_fit n k h0 h1 hk
  exact KTb.item_list hl hw hb.1 hf (by omega) (fun t' _ => h t') hs
theorem tab_at (hl : s.heap.IsList l vA) (h0 : 0 ≤ i) (hf : i < 2 ^ 63) (hx : vA[i.toNat]? = some x) (h : Q x s)
    (hs : subscripted slice false (.ref l) (.int i u) = operate [.ref l, .int i u] (getItem (.ref l) (.int i u)) := by with_unfolding_all rfl) :
    wpAny (model prog w) A (subscriptTail value slice (.ref l) (.int i u)) Q E s :=
  tail_any hl.typeIs slot_list_getitem.lookup (wpAny_getItem_list hl h0 hf hx h) hs
end
end Mine

namespace Mine
def worthOf (c : Nat) : Int := if c = 73 then 1 else if c = 86 then 5 else if c = 88 then 10 else if c = 76 then 50 else if c = 67 then 100 else if c = 68 then 500 else 1000
def wsOf (y : Str) : List Int := y.cps.toList.map worthOf
def elt (ws : List Int) (k : Nat) : Int := if k + 1 < ws.length ∧ ws.getD k 0 < ws.getD (k + 1) 0 then - ws.getD k 0 else ws.getD k 0
def V (y : Str) : Int := ((List.range (wsOf y).length).map (elt (wsOf y))).sum
def Seven (y : Str) : Prop := ∀ c ∈ y.cps.toList, c = 73 ∨ c = 86 ∨ c = 88 ∨ c = 76 ∨ c = 67 ∨ c = 68 ∨ c = 77
theorem ints_of : ∀ {n : Nat} {ys : List Value} (f : Nat → Int), ys.length = n → (∀ (i : Nat) (v : Value), ys[i]? = some v → ∃ t, v = .int (f i) t) → IntsAre ys ((List.range n).map f)
  | 0, [], _, _, _ => .nil
  | n + 1, y :: r, f, hl, hg => by
    obtain ⟨t, e⟩ := hg 0 y rfl
    subst e
    have h := ints_of (n := n) (ys := r) (fun i => f (i + 1)) (by simpa using hl) (fun i v h => hg (i + 1) v (by simpa using h))
    rw [List.range_succ_eq_map]
    simp only [List.map_cons, List.map_map]
    exact .cons _ _ h
theorem range_getD (l : List Int) : (List.range l.length).map (fun i => l.getD i 0) = l := by
  apply List.ext_getElem
  · simp
  · intro i h1 h2
    simp at h1
    simp [h1]
theorem ws_at {y : Str} {i c : Nat} (h : y.cps[i]? = some c) : (wsOf y).getD i 0 = worthOf c := by
  unfold wsOf
  rw [List.getD_eq_getElem?_getD, List.getElem?_map]
  have : y.cps.toList[i]? = some c := by simpa using h
  rw [this]; rfl
theorem seven_at {y : Str} {i c : Nat} (h7 : Seven y) (h : y.cps[i]? = some c) : c = 73 ∨ c = 86 ∨ c = 88 ∨ c = 76 ∨ c = 67 ∨ c = 68 ∨ c = 77 :=
  h7 c (List.mem_of_getElem? (by simpa using h))
theorem ws_len (y : Str) : (wsOf y).length = y.cps.size := by simp [wsOf]
section
variable {prog : Program} {w : World} {A : Around} {E : Value → Shared → Prop} {s : Shared} {value slice : PySem.Expr} {l : Addr} {vs : List Value} {ns : List Int} {i : Int} {t u : Tok} {Q : Value → Shared → Prop}
theorem int_at (k : Nat) (hl : s.heap.IsList l vs.toArray) (hi : IntsAre vs ns) (e : i = (k : Int)) (hk : k < ns.length) (hf : ns.length ≤ 1000) (h : ∀ t', Q (.int (ns.getD k 0) t') s)
    (hs : subscripted slice false (.ref l) (.int i u) = operate [.ref l, .int i u] (getItem (.ref l) (.int i u)) := by with_unfolding_all rfl) :
    wpAny (model prog w) A (subscriptTail value slice (.ref l) (.int i u)) Q E s := by
  subst e
  have hlen : vs.length = ns.length := hi.length
  obtain ⟨z, t', e2, e1⟩ := IntsAre.at hi k (vs[k]'(by omega)) (List.getElem?_eq_getElem (by omega))
  refine tab_at (x := .int z t') hl (by omega) (by omega) ?_ ?_ hs
  · rw [Int.toNat_natCast]
    rw [← e2]
    simp [List.getElem?_eq_getElem (show k < vs.length by omega)]
  · have : ns.getD k 0 = z := by rw [List.getD_eq_getElem?_getD, e1]; rfl
    rw [← this]; exact h t'
end
end Mine

namespace Mine
theorem v_sum (y : Str) : ((rangeKs 0 ((((wsOf y).length : Nat) : Int) - 0).toNat).map (fun k' : Int => if k' + 1 < (((wsOf y).length : Nat) : Int) ∧ (wsOf y).getD k'.toNat 0 < (wsOf y).getD (k' + 1).toNat 0 then - (wsOf y).getD k'.toNat 0
      else if k' + 1 < (((wsOf y).length : Nat) : Int) ∧ ¬ (wsOf y).getD k'.toNat 0 < (wsOf y).getD (k' + 1).toNat 0 then (wsOf y).getD k'.toNat 0 else (wsOf y).getD k'.toNat 0)).sum = V y := by
  unfold V rangeKs
  rw [show ((((wsOf y).length : Nat) : Int) - 0).toNat = (wsOf y).length by omega, List.map_map]
  congr 1
  apply List.map_congr_left
  intro k _
  unfold elt
  simp only [Function.comp, Int.zero_add, Int.toNat_natCast]
  rw [show ((k : Int) + 1).toNat = k + 1 by omega]
  simp only [ite_self, show ((k : Int) + 1 < (((wsOf y).length : Nat) : Int)) ↔ k + 1 < (wsOf y).length from by omega]
end Mine
end
section
open PySem PySem.W PySem.Calls PyProof.Rows
namespace Mine
set_option pp.deepTerms false
set_option pp.deepTerms.threshold 8
set_option pp.proofs false
local macro_rules | `(tactic| k_room) => `(tactic| ktr_room)
local macro_rules | `(tactic| k_units) => `(tactic| ktr_units)
local macro_rules | `(tactic| walk_at "eval ListComp") => `(tactic| (k_here; k_dflt (refine LCg.ListComp_U (F₀ := by k_asm) (by with_unfolding_all rfl) (by decide) (by rfl) (by decide) (by rfl) ?_)))
set_option hygiene false in
local macro_rules | `(tactic| walk_at "CompSrc") => `(tactic| (k_here; k_dflt (refine LCg.CompSrc.range (n := 4) (by rfl) (by k_asm) (by k_asm) (by assumption) (by decide) (by rfl) (by exact Nat.le_of_ble_eq_true rfl) ?_); intro g'; refine rest_inv (fun _ nw => nw = _) (fun i y => ∃ t, y = Value.str (tx n i) t) rfl (fun i nw v I oI C oC D m₂ ys h tk E' hi hj hP hC hx F N off ne => ?_) (fun ys nw hj hl hg => ?_); (all_goals subst hj); (case' refine_1 => obtain ⟨u, hv⟩ := hP; subst hv; rcases i with _ | _ | _ | _ | i <;> first | (exfalso; omega) | (k_dflt (change _ = some (Value.int 0 _) at hx)) | (k_dflt (change _ = some (Value.int 1 _) at hx)) | (k_dflt (change _ = some (Value.int 2 _) at hx)) | (k_dflt (change _ = some (Value.int 3 _) at hx))); (case' refine_2 => have hS := strs4 hl hg)))
local macro_rules | `(tactic| walk_at "call builtin:str.join") => `(tactic| (k_here; k_dflt (refine join_at (by first | assumption | is_list | exact News.isList (by k_asm) (by k_mem)) (by assumption) (tx4 _) four ?_); intro _ _))
local macro_rules | `(tactic| walk_at "CompEnd") => `(tactic| (k_here; k_dflt (refine LCg.CompEnd.intro (by assumption) (by assumption) _ (fun _ hp => hp) (by assumption) trivial ⟨rfl, _, rfl⟩)))
local macro_rules | `(tactic| walk_at "subscriptTail") => `(tactic| (k_here; (first | ((with_reducible show wpAny _ _ (subscriptTail _ _ (Value.ref 118) (Value.int 0 _)) _ _ _); k_dflt (refine' tab_at (x := Value.ref 114) ?l ?h0 ?hf ?hx ?_)) | ((with_reducible show wpAny _ _ (subscriptTail _ _ (Value.ref 118) (Value.int 1 _)) _ _ _); k_dflt (refine' tab_at (x := Value.ref 115) ?l ?h0 ?hf ?hx ?_)) | ((with_reducible show wpAny _ _ (subscriptTail _ _ (Value.ref 118) (Value.int 2 _)) _ _ _); k_dflt (refine' tab_at (x := Value.ref 116) ?l ?h0 ?hf ?hx ?_)) | ((with_reducible show wpAny _ _ (subscriptTail _ _ (Value.ref 118) (Value.int 3 _)) _ _ _); k_dflt (refine' tab_at (x := Value.ref 117) ?l ?h0 ?hf ?hx ?_))); (case l => ktb_isList); (case h0 => decide); (case hf => decide); (case hx => with_unfolding_all rfl)))
local macro_rules | `(tactic| walk_at "subscriptTail") => `(tactic| (k_here; (first | ((with_reducible show wpAny _ _ (subscriptTail _ _ (Value.ref 114) (Value.int _ _)) _ _ _); k_dflt (refine' row_at 0 ?l ?w ?ws ?hk ?h0 ?h1 ?hi ?_)) | ((with_reducible show wpAny _ _ (subscriptTail _ _ (Value.ref 115) (Value.int _ _)) _ _ _); k_dflt (refine' row_at 1 ?l ?w ?ws ?hk ?h0 ?h1 ?hi ?_)) | ((with_reducible show wpAny _ _ (subscriptTail _ _ (Value.ref 116) (Value.int _ _)) _ _ _); k_dflt (refine' row_at 2 ?l ?w ?ws ?hk ?h0 ?h1 ?hi ?_)) | ((with_reducible show wpAny _ _ (subscriptTail _ _ (Value.ref 117) (Value.int _ _)) _ _ _); k_dflt (refine' row_at 3 ?l ?w ?ws ?hk ?h0 ?h1 ?hi ?_)));  (case l => ktb_isList); (case w => repeat constructor); (case ws => with_unfolding_all rfl); (case hk => decide); (case h0 => assumption); (case h1 => assumption); (case hi => with_unfolding_all rfl); intro _))
set_option maxRecDepth 100000 in
set_option maxHeartbeats 1200000 in
theorem c_writing (w : World) (n : Int) (t : Tok) (hb : -1000000 ≤ n ∧ n ≤ 1000000) : Calls w 131 [.int n t] 2 (WOut n) := by
  unfold Calls
  k_fill
  intro mean mg mb dp un gd cn cs a ccd cl outer A₀ base h₀ L m news s Q E B F X N T hk hd hu hret
  obtain ⟨ck, cnm, cg, cc, cmo⟩ := cs
  simp only at hk
  subst hk
  refine wpAny_call ?_
  k_with "table" => skip
  k_dflt k_enter
  k_steps
  all_goals (rename News _ _ _ _ => N')
  all_goals (refine hret _ _ _ (by k_asm) (fun p hp => N' p (by first | exact hp | exact List.Mem.tail _ hp | exact List.Mem.tail _ (List.Mem.tail _ hp))) ?_)
  all_goals first | exact w_low (by assumption) | exact w_high (by assumption) | exact w_in (by assumption) (by assumption)
end Mine
end
section
open PySem PySem.W PySem.Calls PyProof.Rows
namespace Mine
set_option pp.deepTerms false
set_option pp.deepTerms.threshold 8
set_option pp.proofs false
local macro_rules | `(tactic| k_room) => `(tactic| ktr_room)
local macro_rules | `(tactic| k_units) => `(tactic| ktr_units)
structure Sec : Prop where mk ::
local macro_rules | `(tactic| walk_at "eval ListComp") => `(tactic| (k_here; k_dflt (refine LCg.ListComp_U (F₀ := by k_asm) (by with_unfolding_all rfl) (by decide) (by rfl) (by decide) (by rfl) ?_)))
local macro_rules | `(tactic| walk_at "eval ListComp") => `(tactic| (k_here; (fail_if_success (with_reducible rename Sec => zz)); k_dflt (refine comp_iter (by k_asm) (by with_unfolding_all rfl) (by decide) (by rfl) (by decide) (by rfl) ?_)))
set_option hygiene false in
local macro_rules | `(tactic| walk_at "SrcI") => `(tactic| (rw [hy]; k_dflt (refine' src_str ?z1 ?z2 ?z3 ?z4 ?z5 ?_; (case z1 => exact ha); (case z2 => first | rfl | assumption); (case z3 => k_asm); (case z4 => k_asm); (case z5 => exact hsz); intro g'; refine rest_inv (fun _ nw => nw = _) (fun i y' => ∃ t, y' = Value.int ((wsOf y).getD i 0) t) rfl (fun i nw v I oI C oC D m₂ ys h tk E' hi hj hP hC hx F N off ne => ?_) (fun ys nw hj hl hg => ?_); (all_goals subst hj); (case' refine_1 => obtain ⟨c, u, hc, hv⟩ := hP; subst hv; rw [show (wsOf y).getD i 0 = worthOf c from ws_at hc]; rcases seven_at h7 hc with hv | hv | hv | hv | hv | hv | hv <;> subst hv <;> first | (change _ = some (Value.str (Str.ofString "I") _) at hx) | (change _ = some (Value.str (Str.ofString "V") _) at hx) | (change _ = some (Value.str (Str.ofString "X") _) at hx) | (change _ = some (Value.str (Str.ofString "L") _) at hx) | (change _ = some (Value.str (Str.ofString "C") _) at hx) | (change _ = some (Value.str (Str.ofString "D") _) at hx) | (change _ = some (Value.str (Str.ofString "M") _) at hx)); (case' refine_2 => have hI := ints_of _ hl hg; rw [← ws_len, range_getD] at hI; have hL := ws_len y; have mm := Sec.mk))))
local macro_rules | `(tactic| walk_at "CompEnd") => `(tactic| (k_here; k_dflt (refine LCg.CompEnd.intro (by assumption) (by assumption) _ (fun _ hp => hp) (by assumption) trivial ⟨rfl, _, rfl⟩)))
local macro_rules | `(tactic| walk_at "storeName") => `(tactic| (k_here; rename (∀ p ∈ _, Prod.fst p < _) => lA; rename (_ ∧ LCg.Off1 _ _) => oA; k_dflt (refine' storeX_C ?F ?N ?c ?U ?d ?_ ?a ?b; (case a => rfl); (case b => rfl); (case F => k_asm); (case N => k_asm); (case c => rfl); (case U => exact UpdF.tail (Ne.symm oA.1) (UpdF.head fun p hp => Nat.ne_of_lt (Nat.lt_succ_of_lt (lA p hp)))); (case d => k_asm); k_whole; intro h' o' F' N' d'; (try dsimp only at N'))))
set_option maxRecDepth 100000 in
set_option maxHeartbeats 1200000 in
theorem c_value (w : World) (x y : Str) (t : Tok) (hy : Txt.upper x = y) (h7 : Seven y) (hx' : x.length ≤ 100) (hsz : y.cps.size ≤ sizeLine) (hsz' : y.cps.size ≤ 100) (ha : y.cps.all (· < 128) = true) : Calls w 136 [.str x t] 2 (fun r => ∃ t, r = .int (V y) t) := by
  unfold Calls
  k_fill
  intro mean mg mb dp un gd cn cs a ccd cl outer A₀ base h₀ L m news s Q E B F X N T hk hd hu hret
  obtain ⟨ck, cnm, cg, cc, cmo⟩ := cs
  simp only at hk
  subst hk
  refine wpAny_call ?_
  k_dflt k_enter
  k_steps
  (rename News _ _ _ _ => N')
  refine hret _ _ _ (by k_asm) (fun p hp => N' p (by first | exact hp | exact List.Mem.tail _ hp | exact List.Mem.tail _ (List.Mem.tail _ hp) | exact List.Mem.tail _ (List.Mem.tail _ (List.Mem.tail _ hp)))) ⟨_, congrArg (fun z => Value.int z _) ?_⟩
  clear hret N' hg
  exact v_sum _
end Mine
end
section
set_option maxRecDepth 100000
open PySem PySem.W PySem.Calls PyProof.Rows
namespace Mine
theorem Calls.at {w : World} {f : Addr} {vs : List Value} {d : Nat} {Out : Value → Prop} (c : Calls w f vs d Out)
  {mean : ExcName → Option Value} {mg mb : Str → Option Value} {dp un : Nat} {gd : Option (List Code)} {cn : Str} {cs : Scope} {a : Addr} {ccd : Value} {cl : List (Str × Addr)} {outer : List Env} {A₀ : Around} {base h₀ : Heap} {L : Addr} {m : Str → Option Value} {news : List (Addr × Obj)} {s : Shared}
    {Q E : Value → Shared → Prop}
    (B : Below A₀ base outer h₀) (F : Fr h₀ L s.heap m) (X : (Mine.hd.heap_39 w.params).In h₀) (N : News h₀ L s.heap news)
    (T : Top Mine.hd.view_39 (looseW Mine.hd.view_39 [Str.ofString "RomanNumeral", Str.ofString "_ROMAN_NUMERAL_PREFIXES", Str.ofString "_law_tables", Str.ofString "_law_worth"]) mean mg mb h₀)
    (hk : cs.kind = .function) (hd : dp + d < recursionLimit) (hu : un + 8 * d < cLine)
    (h : ∀ r h' tk', Fr h₀ L h' m → News h₀ L h' news → Out r → Q r { s with heap := h', toks := tk' }) :
    wpAny (model PySem.Challenge.rw_ff0005_01.row.prog w) (ktrTop dp un gd cn cs L a ccd cl outer) (call (.ref f) vs) Q E s := c mean mg mb dp un gd cn cs a ccd cl outer A₀ base h₀ L m news s Q E B F X N T hk hd hu h
def DueOut (x y z : Str) (r : Value) : Prop :=
  if x = Str.ofString "" ∨ (x ≠ y ∧ x ≠ z) then r = .none else if (if V y < 1 ∨ V y > 4999 then Str.ofString "" else W (V y)) = y then ∃ t, r = .int (V y) t else r = .none
theorem due0 {x y z : Str} (h : (x == Str.ofString "") = true) : DueOut x y z .none := by
  unfold DueOut; rw [if_pos (Or.inl (eq_of_beq h))]
theorem due1 {x y z : Str} (hy : Txt.upper x = y) (hz : Txt.lower x = z) (h1 : (x != Txt.upper x) = true) (h2 : (x != Txt.lower x) = true) : DueOut x y z .none := by
  subst hy hz
  unfold DueOut; rw [if_pos (Or.inr ⟨bne_iff_ne.mp h1, bne_iff_ne.mp h2⟩)]
theorem due_c {x y z : Str} (hy : Txt.upper x = y) (hz : Txt.lower x = z) (h0 : (x == Str.ofString "") = false) (h : (x != Txt.upper x) = false ∨ (x != Txt.lower x) = false) : ¬ (x = Str.ofString "" ∨ (x ≠ y ∧ x ≠ z)) := by
  subst hy hz
  rintro (e | ⟨e1, e2⟩)
  · rw [e, beq_self_eq_true] at h0; cases h0
  · rcases h with h | h
    · rw [bne_iff_ne.mpr e1] at h; cases h
    · rw [bne_iff_ne.mpr e2] at h; cases h
theorem due2 {x y z : Str} {t : Tok} (hy : Txt.upper x = y) (hz : Txt.lower x = z) (h0 : (x == Str.ofString "") = false) (h : (x != Txt.upper x) = false ∨ (x != Txt.lower x) = false)
    (h3 : ((if V y < 1 ∨ V y > 4999 then Str.ofString "" else W (V y)) == Txt.upper x) = true) : DueOut x y z (.int (V y) t) := by
  unfold DueOut; rw [if_neg (due_c hy hz h0 h), if_pos (by rw [← hy]; rw [← hy] at h3; exact eq_of_beq h3)]; exact ⟨t, rfl⟩
theorem due3 {x y z : Str} (hy : Txt.upper x = y) (hz : Txt.lower x = z) (h0 : (x == Str.ofString "") = false) (h : (x != Txt.upper x) = false ∨ (x != Txt.lower x) = false)
    (h3 : ((if V y < 1 ∨ V y > 4999 then Str.ofString "" else W (V y)) == Txt.upper x) = false) : DueOut x y z .none := by
  unfold DueOut; rw [if_neg (due_c hy hz h0 h), if_neg (by rw [← hy]; rw [← hy] at h3; intro e; rw [e, beq_self_eq_true] at h3; cases h3)]
set_option pp.deepTerms false
set_option pp.deepTerms.threshold 8
set_option pp.proofs false
local macro_rules | `(tactic| k_room) => `(tactic| ktr_room)
local macro_rules | `(tactic| k_units) => `(tactic| ktr_units)
set_option hygiene false in
local macro_rules | `(tactic| walk_at "call ref") => `(tactic| (k_here; (with_reducible show wpAny _ _ (call (Value.ref 136) [Value.str _ _]) _ _ _); k_dflt (refine' Calls.at (c_value w x y _ hy h7 hx' hsz hsz' ha) ?vB ?vF ?vX ?vN ?vT ?vk ?vd ?vu ?_; (case vB => k_asm); (case vF => k_asm); (case vX => k_asm); (case vN => k_asm); (case vT => k_asm); (case vk => exact rfl); (case vd => ktr_room); (case vu => ktr_units); intro _ _ _ _ _ hO; obtain ⟨_, hO⟩ := hO; subst hO)))
set_option hygiene false in
local macro_rules | `(tactic| walk_at "call ref") => `(tactic| (k_here; (with_reducible show wpAny _ _ (call (Value.ref 131) [Value.int _ _]) _ _ _); k_dflt (refine' Calls.at (c_writing w (V y) _ hV) ?wB ?wF ?wX ?wN ?wT ?wk ?wd ?wu ?_; (case wB => k_asm); (case wF => k_asm); (case wX => k_asm); (case wN => k_asm); (case wT => k_asm); (case wk => exact rfl); (case wd => ktr_room); (case wu => ktr_units); intro _ _ _ _ _ hO; obtain ⟨_, hO⟩ := hO; subst hO)))
set_option maxRecDepth 100000 in
set_option maxHeartbeats 1200000 in
theorem c_due (w : World) (x y z : Str) (t : Tok) (hy : Txt.upper x = y) (hz : Txt.lower x = z) (h7 : Seven y) (hx' : x.length ≤ 100) (hsz : y.cps.size ≤ sizeLine) (hsz' : y.cps.size ≤ 100) (ha : y.cps.all (· < 128) = true) (hV : -1000000 ≤ V y ∧ V y ≤ 1000000) : Calls w 157 [.str x t] 4 (DueOut x y z) := by
  unfold Calls
  k_fill
  intro mean mg mb dp un gd cn cs a ccd cl outer A₀ base h₀ L m news s Q E B F X N T hk hd hu hret
  obtain ⟨ck, cnm, cg, cc, cmo⟩ := cs
  simp only at hk
  subst hk
  refine wpAny_call ?_
  k_dflt k_enter
  k_steps
  all_goals (rename News _ _ _ _ => N')
  all_goals (refine hret _ _ _ (by k_asm) N' ?_)
  all_goals first
  | exact due0 (by assumption)
  | exact due1 hy hz (by assumption) (by assumption)
  | exact due2 hy hz (by assumption) (.inl (by assumption)) (by assumption)
  | exact due2 hy hz (by assumption) (.inr (by assumption)) (by assumption)
  | exact due3 hy hz (by assumption) (.inl (by assumption)) (by assumption)
  | exact due3 hy hz (by assumption) (.inr (by assumption)) (by assumption)
end Mine
end
section
set_option maxRecDepth 100000
open PySem PySem.W PySem.Calls PyProof.Rows
namespace Mine
theorem fmod_lo {z l : Int} (h : 0 < l) : 0 ≤ z.fmod l := by
  rw [Int.fmod_eq_emod_of_nonneg _ (Int.le_of_lt h)]
  exact Int.emod_nonneg _ (by omega)
/-- the state's list: the script's cut at `S`, the count of what has been asked -/
def IsSt (S : Addr) (c : Nat) (o : Obj) : Prop := o.cls = .type "list" ∧ ∃ u k, o.data = .seq #[.ref S, .int (c : Int) u] k
def IsLs (vs : List Value) (o : Obj) : Prop := o.cls = .type "list" ∧ ∃ k, o.data = .seq vs.toArray k
/-- a call of `_law_next`: a number below the limit; the count grows by one -/
def NextAt (w : World) : Prop :=
  ∀ {mean : ExcName → Option Value} {mg mb : Str → Option Value} {dp un : Nat} {gd : Option (List Code)} {cn : Str} {cs : Scope} {a : Addr} {ccd : Value} {cl : List (Str × Addr)} {outer : List Env} {A₀ : Around} {base h₀ : Heap} {L : Addr} {m : Str → Option Value} {news : List (Addr × Obj)} {s : Shared}
    {Q E : Value → Shared → Prop} {St S : Addr} {c : Nat} {t : Tok} {vs : List Value} {ns : List Int} {o oS : Obj} {g : Obj → List (Addr × Obj)} {lim : Int},
    Below A₀ base outer h₀ → Fr h₀ L s.heap m → (Mine.hd.heap_39 w.params).In h₀ → News h₀ L s.heap news →
    Top Mine.hd.view_39 (looseW Mine.hd.view_39 [Str.ofString "RomanNumeral", Str.ofString "_ROMAN_NUMERAL_PREFIXES", Str.ofString "_law_tables", Str.ofString "_law_worth"]) mean mg mb h₀ →
    cs.kind = .function → dp + 2 < recursionLimit → un + 8 * 2 < cLine →
    UpdF St o news g → IsSt S c o → (∀ o', (S, oS) ∈ g o') → IsLs vs oS → IntsAre vs ns → ns.length ≤ 40 → c ≤ 1000 → 0 < lim → lim ≤ 5000 →
    (∀ r h' tk' t' o', Fr h₀ L h' m → News h₀ L h' (g o') → IsSt S (c + 1) o' → 0 ≤ r → r < lim → Q (.int r t') { s with heap := h', toks := tk' }) →
    wpAny (model PySem.Challenge.rw_ff0005_01.row.prog w) (ktrTop dp un gd cn cs L a ccd cl outer) (call (.ref 126) [.ref St, .int lim t]) Q E s
set_option pp.deepTerms false
set_option pp.deepTerms.threshold 8
set_option pp.proofs false
local macro_rules | `(tactic| k_room) => `(tactic| ktr_room)
local macro_rules | `(tactic| k_units) => `(tactic| ktr_units)
theorem updF_mem {d : Addr} {o : Obj} {l : List (Addr × Obj)} {g : Obj → List (Addr × Obj)} (U : UpdF d o l g) : (d, o) ∈ l := by
  obtain ⟨pre, post, e, -, -, -⟩ := U.split
  rw [e]; exact List.mem_append_right _ (.head _)
theorem updF_memg {d : Addr} {o o' : Obj} {l : List (Addr × Obj)} {g : Obj → List (Addr × Obj)} (U : UpdF d o l g) : (d, o') ∈ g o' := by
  obtain ⟨pre, post, -, e, -, -⟩ := U.split
  rw [e]; exact List.mem_append_right _ (.head _)
section
variable {prog : Program} {w : World} {A : Around} {E : Value → Shared → Prop} {s : Shared} {h₀ : Heap} {L St S : Addr} {m : Str → Option Value} {news : List (Addr × Obj)} {g : Obj → List (Addr × Obj)} {c : Nat} {t : Tok} {i : Tok} {o : Obj} {value slice : PySem.Expr}
theorem st_list (N : News h₀ L s.heap news) (hm : (St, o) ∈ news) (ho : IsSt S c o) : ∃ u, s.heap.IsList St #[.ref S, .int (c : Int) u] := by
  obtain ⟨hc, u, k, hd⟩ := ho
  exact ⟨u, o, (N _ hm).1, hc, k, hd⟩
theorem st_get {Q : Value → Shared → Prop} (N : News h₀ L s.heap news) (hm : (St, o) ∈ news) (ho : IsSt S c o) (h : ∀ u, Q (.int (c : Int) u) s) : wpAny (model prog w) A (getItem (.ref St) (.int 1 t)) Q E s := by
  obtain ⟨u, hl⟩ := st_list N hm ho
  exact wpAny_getItem_list hl (by decide) (by decide) rfl (h u)
theorem st_set {z : Int} {z' : Nat} {Q : Unit → Shared → Prop} (F : Fr h₀ L s.heap m) (N : News h₀ L s.heap news) (U : UpdF St o news g) (ho : IsSt S c o) (hz : z = (z' : Int))
    (h : ∀ h' o', Fr h₀ L h' m → News h₀ L h' (g o') → IsSt S z' o' → Q () { s with heap := h' }) : wpAny (model prog w) A (setItem (.ref St) (.int 1 t) (.int z i)) Q E s := by
  subst hz
  obtain ⟨u, hl⟩ := st_list N (updF_mem U) ho
  refine wpAny_setItem_list hl (by decide) (by decide) (by show (1 : Int) < (2 : Nat); decide) fun h' hl' hs => ?_
  obtain ⟨o', e', hc', k', hd'⟩ := hl'
  obtain ⟨own, rest, rfl, hg, h1, h2⟩ := U.split
  have hmem := N (St, o) (List.mem_append_right _ (.head _))
  refine h h' o' (F.change hs hmem.2.1 hmem.2.2) ?_ ⟨hc', i, k', hd'⟩
  rw [hg]
  exact N.setAt h1 h2 hs e'
theorem st_at0 {Q : Value → Shared → Prop} (N : News h₀ L s.heap news) (hm : (St, o) ∈ news) (ho : IsSt S c o) (h : Q (.ref S) s)
    (hs : subscripted slice false (.ref St) (.int 0 t) = operate [.ref St, .int 0 t] (getItem (.ref St) (.int 0 t)) := by with_unfolding_all rfl) : wpAny (model prog w) A (subscriptTail value slice (.ref St) (.int 0 t)) Q E s := by
  obtain ⟨u, hl⟩ := st_list N hm ho
  exact tab_at hl (by decide) (by decide) rfl h hs
theorem st_at1 {Q : Value → Shared → Prop} (N : News h₀ L s.heap news) (hm : (St, o) ∈ news) (ho : IsSt S c o) (h : ∀ u, Q (.int (c : Int) u) s)
    (hs : subscripted slice false (.ref St) (.int 1 t) = operate [.ref St, .int 1 t] (getItem (.ref St) (.int 1 t)) := by with_unfolding_all rfl) : wpAny (model prog w) A (subscriptTail value slice (.ref St) (.int 1 t)) Q E s := by
  obtain ⟨u, hl⟩ := st_list N hm ho
  exact tab_at hl (by decide) (by decide) rfl (h u) hs
theorem ls_at {Q : Value → Shared → Prop} {vs : List Value} {ns : List Int} {z : Int} (j : Nat) (N : News h₀ L s.heap news) (hm : (S, o) ∈ news) (ho : IsLs vs o) (hI : IntsAre vs ns) (hz : z = (j : Int)) (hj : j < ns.length) (hn : ns.length ≤ 40) (h : ∀ z u, Q (.int z u) s)
    (hs : subscripted slice false (.ref S) (.int z t) = operate [.ref S, .int z t] (getItem (.ref S) (.int z t)) := by with_unfolding_all rfl) : wpAny (model prog w) A (subscriptTail value slice (.ref S) (.int z t)) Q E s := by
  obtain ⟨hc, k, hd⟩ := ho
  exact int_at j ⟨o, (N _ hm).1, hc, k, hd⟩ hI hz hj (by omega) (fun t' => h _ t') hs
theorem ls_len {Q : Value → Shared → Prop} {vs : List Value} {ns : List Int} (N : News h₀ L s.heap news) (hm : (S, o) ∈ news) (ho : IsLs vs o) (hI : IntsAre vs ns) (hn : ns.length ≤ 40)
    (h : Q (.int ((ns.length : Nat) : Int) (s.toks + 1)) { s with toks := s.toks + 1 + 1 }) : wpAny (model prog w) A (call (.builtin "len") [.ref S]) Q E s := by
  obtain ⟨hc, k, hd⟩ := ho
  have hlen : vs.length = ns.length := hI.length
  refine kun_lenL (items := vs.toArray) ⟨o, (N _ hm).1, hc, k, hd⟩ (by rw [List.size_toArray, hlen]) (by omega) h
end
set_option hygiene false in
local macro_rules | `(tactic| walk_at "call builtin:len") => `(tactic| (k_here; k_dflt (refine' ls_len ?f1 (hS _) hLs hI hn ?_; (case f1 => k_asm))))
set_option hygiene false in
local macro_rules | `(tactic| walk_at "getItem ref int") => `(tactic| (k_here; k_dflt (refine' st_get ?a1 (updF_mem U) hO ?_; (case a1 => k_asm)); intro _))
set_option hygiene false in
local macro_rules | `(tactic| walk_at "setItem ref int") => `(tactic| (k_here; k_dflt (refine' st_set (z' := c + 1) ?b1 ?b2 U hO ?b3 ?_; (case b1 => k_asm); (case b2 => k_asm); (case b3 => omega)); intro h' o' F' N' hO'))
set_option hygiene false in
local macro_rules | `(tactic| walk_at "subscriptTail") => `(tactic| (k_here; (first
  | ((with_reducible show wpAny _ _ (subscriptTail _ _ (Value.ref _) (Value.int 0 _)) _ _ _); k_dflt (refine' st_at0 ?c1 (updF_memg U) hO' ?_; (case c1 => k_asm)))
  | ((with_reducible show wpAny _ _ (subscriptTail _ _ (Value.ref _) (Value.int 1 _)) _ _ _); k_dflt (refine' st_at1 ?d1 (updF_memg U) hO' ?_; (case d1 => k_asm)); intro _)
  | (k_dflt (refine' ls_at c ?e1 (hS _) hLs hI ?e2 ?e3 hn ?_; (case e1 => k_asm); (case e2 => omega); (case e3 => omega)); intro _ _))))
set_option maxRecDepth 100000 in
set_option maxHeartbeats 1200000 in
theorem c_next (w : World) : NextAt w := by
  unfold NextAt
  k_fill
  intro mean mg mb dp un gd cn cs a ccd cl outer A₀ base h₀ L m news s Q E St S c t vs ns o oS g lim B F X N T hk hd hu U hO hS hLs hI hn hc hl0 hl1 hret
  obtain ⟨ck, cnm, cg, cc, cmo⟩ := cs
  simp only at hk
  subst hk
  refine wpAny_call ?_
  k_dflt k_enter
  k_steps
  all_goals (rename News _ _ _ _ => NN)
  all_goals (refine hret _ _ _ _ o' (by k_asm) NN hO' ?_ ?_)
  · exact Int.le_refl 0
  · exact hl0
  · exact fmod_lo hl0
  · exact Int.fmod_lt_of_pos _ hl0
end Mine
end
section
open PySem PySem.W PySem.Calls PyProof.Rows
set_option maxRecDepth 100000
namespace Mine
section
variable {prog : Program} {w : World} {A : Around} {E : Value → Shared → Prop} {s : Shared} {env : Env} {h₀ : Heap} {L : Addr} {target : Expr} {body : List Stmt} {Q : Flow → Shared → Prop}
def IsPl (ys : List Value) (o : Obj) : Prop := ∃ k, o = { cls := .type "list", data := .seq ys.toArray k }
theorem fr_congr {h : Heap} {m m' : Str → Option Value} (F : Fr h₀ L h m) (e : ∀ y, m y = m' y) : Fr h₀ L h m' := by
  have : m = m' := funext e
  rw [← this]; exact F
theorem iter_lstK {ax : Addr} {lo : Obj} {vs : List Value} {n : Nat} {m₀ : Str → Option Value} {news : List (Addr × Obj)}
    (hh : A.handled = none) (F : Fr h₀ env.locals s.heap m₀) (N : News h₀ env.locals s.heap news) (hg : h₀.get? ax = some lo) (hc : lo.cls = .type "list") (hd : lo.data = .seq vs.toArray n)
    (rest₀ : ∀ I : Addr, (∀ p ∈ news, p.1 < I) → ItemsRest prog w A E h₀ env target body Q s [(I, "list_iterator")] [] (vs.map .val) m₀ news) :
    wpAny (model prog w) A (pyIter (.ref ax)) (fun it s₂ => TurnsAt prog w A h₀ env target body Q E it s₂) E s := by
  have hax : s.heap.get? ax = some lo := F.keep _ _ hg
  have hl : s.heap.IsList ax vs.toArray := ⟨lo, hax, hc, n, hd⟩
  have hlt : ax < s.heap.objs.size := Heap.lt_size hax
  have hne : ax ≠ s.heap.objs.size := Nat.ne_of_lt hlt
  refine wpAny_pyIter_list hl ?_
  refine ktg_core (tk0 := s.toks) (keep := []) (KTurns.ofWalks (Walks.list hh s.heap.objs.size ax hne vs.toArray) fun i v s Q E st q => letGo_listiter st.1 q) (by simp) (fun i v h hp => ⟨.val v, ?_, rfl⟩) (fun i h st => ?_) (fun b hb => ?_) (fun b hb => by simpa using hb) (fun b hb => ?_) ?_ (fun p hp hI => ?_) ?_ (F.push _) (fun p hp => ⟨Heap.get?_push_of_some _ (N p hp).1, (N p hp).2⟩) trivial (rest₀ _ fun p hp => Heap.lt_size (N p hp).1)
  · have hp' : vs.toArray[i]? = some v := hp
    simpa using hp'
  · obtain ⟨it, hit, hic, _⟩ := st.1
    exact ⟨[(s.heap.objs.size, it)], ⟨⟨rfl, hic⟩, trivial⟩, fun p hp => by rw [List.mem_singleton.mp hp]; exact hit⟩
  · have hb' : b = s.heap.objs.size := by simpa using hb
    rw [hb']
    exact ⟨List.mem_cons_self .., next_is_new F⟩
  · have hb' : b = s.heap.objs.size ∨ b = ax := by simpa using hb
    rcases hb' with e | e
    · exact .inl (by simp [e])
    · exact .inr (.inr ⟨lo, by rw [e]; exact hg⟩)
  · intro hI
    rcases List.mem_cons.mp hI with e | hI
    · exact absurd F.ns.lt (e ▸ Nat.lt_irrefl _)
    · have e : env.locals = ax := List.mem_singleton.mp hI
      exact absurd (Heap.lt_size hg) (Nat.not_lt.mpr (e ▸ F.above))
  · exact absurd (Heap.lt_size (N p hp).1) ((List.mem_singleton.mp hI) ▸ Nat.lt_irrefl _)
  · exact ⟨⟨_, Heap.get?_push_size _ rfl, rfl, rfl⟩, hl.at fun o e => Heap.get?_push_of_some _ e⟩
theorem app_at {D : Addr} {o : Obj} {ys : List Value} {v : Value} {m : Str → Option Value} {news : List (Addr × Obj)} {g : Obj → List (Addr × Obj)} {Q : Value → Shared → Prop} (F : Fr h₀ L s.heap m) (N : News h₀ L s.heap news) (U : UpdF D o news g) (ho : IsPl ys o) (hz : ys.length ≤ 6000)
    (h : ∀ h' o', Fr h₀ L h' m → News h₀ L h' (g o') → IsPl (ys ++ [v]) o' → Q .none { s with heap := h' }) : wpAny (model prog w) A (call (.builtin "list.append") [.ref D, v]) Q E s := by
  obtain ⟨k, rfl⟩ := ho
  have hl : s.heap.PlainList D ys.toArray := ⟨k, (N _ (updF_mem U)).1⟩
  refine wpAny_list_append_plain (hsz := by rw [PySem.sizeLine_eq, List.size_toArray]; omega) hl fun h' hl' hs => ?_
  obtain ⟨k', e'⟩ := hl'
  rw [List.push_toArray] at e'
  obtain ⟨own, rest, rfl, hg, h1, h2⟩ := U.split
  have hmem := N (D, _) (List.mem_append_right _ (.head _))
  refine h h' _ (F.change hs hmem.2.1 hmem.2.2) ?_ ⟨k', rfl⟩
  rw [hg]
  exact N.setAt h1 h2 hs e'
end
/-- one row of the table -/
structure Row where
  at_ : Addr
  v : Int
  up : Str
  lo : Str
def RowAt (h : Heap) (r : Row) : Prop := ∃ o n t1 t2 t3, h.get? r.at_ = some o ∧ o.cls = .type "tuple" ∧ o.data = .seq #[.int r.v t1, .str r.up t2, .str r.lo t3] n
/-- the names that the greedy loop takes -/
def gr (sel : Row → Str) : List Row → Int → List Str
  | [], _ => []
  | r :: rs, n => List.replicate (n / r.v).toNat (sel r) ++ gr sel rs (n % r.v)
def sh (m0 : Str → Option Value) (n : Int) (tn : Tok) (a b c : Option Value) : Str → Option Value := fun y =>
  if y = Str.ofString "n" then some (.int n tn) else if y = Str.ofString "value" then a else if y = Str.ofString "name" then b else if y = Str.ofString "_" then c else m0 y
def LoopJ (sel : Row → Str) (D : Addr) (rest : List (Addr × Obj)) (m0 : Str → Option Value) (all : List Str) (rs : List Row) (m : Str → Option Value) (news : List (Addr × Obj)) : Prop :=
  ∃ n tn o ys l a b c, m = sh m0 n tn a b c ∧ news = (D, o) :: rest ∧ IsPl ys o ∧ StrsAre ys l ∧ 0 ≤ n ∧ l ++ gr sel rs n = all ∧ (l.length : Int) + n ≤ 5000
section
variable {prog : Program} {w : World} {A : Around} {E : Value → Shared → Prop} {s : Shared} {env : Env} {h₀ : Heap} {target : Expr} {body : List Stmt} {Q : Flow → Shared → Prop}
theorem turns_up {ax : Addr} {lo : Obj} {vs : List Value} {k : Nat} {D : Addr} {o : Obj} {rest : List (Addr × Obj)} {m : Str → Option Value} {N : Int} {tN : Tok} (sel : Row → Str) (rows : List Row)
    (hh : A.handled = none) (F : Fr h₀ env.locals s.heap m) (hm : m (Str.ofString "n") = some (.int N tN)) (Nw : News h₀ env.locals s.heap ((D, o) :: rest)) (hg : h₀.get? ax = some lo) (hc : lo.cls = .type "list") (hd : lo.data = .seq vs.toArray k)
    (hvs : vs = rows.map fun r => .ref r.at_) (ho : IsPl [] o) (hN0 : 0 ≤ N) (hN1 : N ≤ 5000) (hrows : ∀ r ∈ rows, RowAt h₀ r) (hDr : ∀ p ∈ rest, p.1 ≠ D)
    (turn : ∀ (r : Row) (rs : List Row) (I : Addr) (it : Obj) (n : Int) (tn : Tok) (o : Obj) (ys : List Value) (l : List Str) (a b c : Option Value) (h : Heap) (tk : Nat), r ∈ rows → RowAt h₀ r → IsPl ys o → StrsAre ys l → 0 ≤ n → (l.length : Int) + n ≤ 5000 →
      Fr h₀ env.locals h (sh m n tn a b c) → News h₀ env.locals h ((I, it) :: (D, o) :: rest) → D ≠ I → (∀ p ∈ rest, p.1 ≠ I) → (∀ p ∈ rest, p.1 ≠ D) →
      wpAny (model prog w) A (assign target env (.ref r.at_)) (fun _ s₂ => wpAny (model prog w) A (execs body env)
        (UnrPostW h₀ env.locals { s with heap := h, toks := tk } [(I, it)] (fun m' n' => LoopJ sel D rest m (l ++ gr sel (r :: rs) n) rs m' n') Q) E s₂) E { s with heap := h, toks := tk })
    (fin : ∀ h tk n tn o ys a b c, Fr h₀ env.locals h (sh m n tn a b c) → News h₀ env.locals h ((D, o) :: rest) → IsPl ys o → StrsAre ys (gr sel rows N) → (gr sel rows N).length ≤ 5000 → Q .next { s with heap := h, toks := tk }) :
    wpAny (model prog w) A (pyIter (.ref ax)) (fun it s₂ => TurnsAt prog w A h₀ env target body Q E it s₂) E s := by
  subst hvs
  have F' : Fr h₀ env.locals s.heap (sh m N tN (m (Str.ofString "value")) (m (Str.ofString "name")) (m (Str.ofString "_"))) := fr_congr F fun y => by
    unfold sh
    by_cases e1 : y = Str.ofString "n"
    · rw [e1, if_pos rfl, hm]
    rw [if_neg e1]
    by_cases e2 : y = Str.ofString "value"
    · rw [e2, if_pos rfl]
    rw [if_neg e2]
    by_cases e3 : y = Str.ofString "name"
    · rw [e3, if_pos rfl]
    rw [if_neg e3]
    by_cases e4 : y = Str.ofString "_"
    · rw [e4, if_pos rfl]
    rw [if_neg e4]
  refine iter_lstK hh F' Nw hg hc hd fun I hI => ?_
  have key : ∀ (rs : List Row) (m' : Str → Option Value) (nw : List (Addr × Obj)), (∀ r ∈ rs, r ∈ rows) → LoopJ sel D rest m (gr sel rows N) rs m' nw → ItemsRest prog w A E h₀ env target body Q s [(I, "list_iterator")] [] ((rs.map fun r => (Value.ref r.at_)).map .val) m' nw := by
    intro rs
    induction rs with
    | nil =>
      rintro m' nw _ ⟨n, tn, o, ys, l, a, b, c, rfl, rfl, h1, h2, h3, h4, h5⟩
      refine ItemsRest.zero fun h tk Fh Nh => ?_
      simp only [gr, List.append_nil] at h4
      subst h4
      exact fin h tk n tn o ys a b c Fh Nh h1 h2 (by omega)
    | cons r rs ih =>
      rintro m' nw hsub ⟨n, tn, o, ys, l, a, b, c, rfl, rfl, h1, h2, h3, h4, h5⟩
      refine ItemsRest.val fun h tk Fh => AllObj.cons fun it hit => AllObj.nil fun Nh => ?_
      have hr := hsub r (.head _)
      refine wpAny_mono (turn r rs I it n tn o ys l a b c h tk hr (hrows r hr) h1 h2 h3 h5 Fh Nh (Nat.ne_of_lt (hI (D, _) (.head _))) (fun p hp => Nat.ne_of_lt (hI p (.tail _ hp))) hDr) (fun _ s₂ h₂ => wpAny_mono h₂ (fun f s₃ p => ?_) fun _ _ e => e) fun _ _ e => e
      have conv : UnrEndW h₀ env.locals { s with heap := h, toks := tk } [(I, it)] (fun m' n' => LoopJ sel D rest m (l ++ gr sel (r :: rs) n) rs m' n') s₃ →
          UnrEndW h₀ env.locals { s with heap := h, toks := tk } [(I, it)] (fun m' n' => SubL [] n' ∧ ItemsRest prog w A E h₀ env target body Q s [(I, "list_iterator")] [] ((rs.map fun r => (Value.ref r.at_)).map .val) m' n') s₃ := by
        rintro ⟨h', tk', m', n', e, Fr', Nw', hoff, hJ⟩
        rw [h4] at hJ
        exact ⟨h', tk', m', n', e, Fr', Nw', hoff, trivial, ih m' n' (fun r hr => hsub r (.tail _ hr)) hJ⟩
      cases f with
      | ret v => exact p
      | brk => exact p
      | next => exact conv p
      | cont => exact conv p
  exact key rows _ _ (fun r h => h) ⟨N, tN, o, [], [], _, _, _, rfl, rfl, ho, .nil, hN0, rfl, by simpa using hN1⟩
end
end Mine

namespace Mine
def rowsT : List Row := [⟨100, 1000, Str.ofString "M", Str.ofString "m"⟩, ⟨101, 900, Str.ofString "CM", Str.ofString "cm"⟩, ⟨102, 500, Str.ofString "D", Str.ofString "d"⟩, ⟨103, 400, Str.ofString "CD", Str.ofString "cd"⟩, ⟨104, 100, Str.ofString "C", Str.ofString "c"⟩, ⟨105, 90, Str.ofString "XC", Str.ofString "xc"⟩, ⟨106, 50, Str.ofString "L", Str.ofString "l"⟩,
  ⟨107, 40, Str.ofString "XL", Str.ofString "xl"⟩, ⟨108, 10, Str.ofString "X", Str.ofString "x"⟩, ⟨109, 9, Str.ofString "IX", Str.ofString "ix"⟩, ⟨110, 5, Str.ofString "V", Str.ofString "v"⟩, ⟨111, 4, Str.ofString "IV", Str.ofString "iv"⟩, ⟨112, 1, Str.ofString "I", Str.ofString "i"⟩]
theorem rows_pos : ∀ r ∈ rowsT, 0 < r.v := by decide
theorem rows_in {w : World} {h : Heap} (X : (Mine.hd.heap_39 w.params).In h) : ∀ r ∈ rowsT, RowAt h r := by
  intro r hr
  simp only [rowsT, List.mem_cons, List.not_mem_nil, or_false] at hr
  rcases hr with rfl | rfl | rfl | rfl | rfl | rfl | rfl | rfl | rfl | rfl | rfl | rfl | rfl
  · exact ⟨_, _, _, _, _, X 100 _ (by rfl), rfl, rfl⟩
  · exact ⟨_, _, _, _, _, X 101 _ (by rfl), rfl, rfl⟩
  · exact ⟨_, _, _, _, _, X 102 _ (by rfl), rfl, rfl⟩
  · exact ⟨_, _, _, _, _, X 103 _ (by rfl), rfl, rfl⟩
  · exact ⟨_, _, _, _, _, X 104 _ (by rfl), rfl, rfl⟩
  · exact ⟨_, _, _, _, _, X 105 _ (by rfl), rfl, rfl⟩
  · exact ⟨_, _, _, _, _, X 106 _ (by rfl), rfl, rfl⟩
  · exact ⟨_, _, _, _, _, X 107 _ (by rfl), rfl, rfl⟩
  · exact ⟨_, _, _, _, _, X 108 _ (by rfl), rfl, rfl⟩
  · exact ⟨_, _, _, _, _, X 109 _ (by rfl), rfl, rfl⟩
  · exact ⟨_, _, _, _, _, X 110 _ (by rfl), rfl, rfl⟩
  · exact ⟨_, _, _, _, _, X 111 _ (by rfl), rfl, rfl⟩
  · exact ⟨_, _, _, _, _, X 112 _ (by rfl), rfl, rfl⟩
theorem tab_in {w : World} {h : Heap} (X : (Mine.hd.heap_39 w.params).In h) : ∃ lo k, h.get? 113 = some lo ∧ lo.cls = .type "list" ∧ lo.data = .seq (rowsT.map fun r => Value.ref r.at_).toArray k :=
  ⟨_, _, X 113 _ (by rfl), rfl, rfl⟩
def WStep (g : Heap) (L : Addr) (mW : Str → Option Value) (pre rest : List (Addr × Obj)) (D : Addr) (s : Shared) (v n : Int) (nm : Str) (ys : List Value) (fl : Flow) (s' : Shared) : Prop :=
  fl = .next ∧ ∃ h' tk t t' o'', s' = { s with heap := h', toks := tk } ∧ Fr g L h' (fun y => if y = Str.ofString "n" then some (.int (n - v) t) else mW y) ∧ News g L h' (pre ++ (D, o'') :: rest) ∧ IsPl (ys ++ [.str nm t']) o'' ∧ v ≤ n
def WExit (g : Heap) (L : Addr) (mW : Str → Option Value) (pre rest : List (Addr × Obj)) (D : Addr) (s : Shared) (v n : Int) (ys : List Value) (s' : Shared) : Prop :=
  ∃ h' tk t o'', s' = { s with heap := h', toks := tk } ∧ Fr g L h' (fun y => if y = Str.ofString "n" then some (.int n t) else mW y) ∧ News g L h' (pre ++ (D, o'') :: rest) ∧ IsPl ys o'' ∧ n < v
section
variable {prog : Program} {w : World} {A : Around} {E : Value → Shared → Prop} {s : Shared} {env : Env} {g : Heap} {L : Addr} {test : Expr} {body : List Stmt} {pos : Pos} {Q : Flow → Shared → Prop}
theorem wstep_end {h' : Heap} {tk : Nat} {mW m' : Str → Option Value} {pre rest : List (Addr × Obj)} {D : Addr} {v n : Int} {nm : Str} {t t' : Tok} {ys : List Value} {o'' : Obj} (F' : Fr g L h' m') (hn : m' (Str.ofString "n") = some (.int (n - v) t)) (he : ∀ y, y ≠ Str.ofString "n" → m' y = mW y) (N' : News g L h' (pre ++ (D, o'') :: rest)) (ho : IsPl (ys ++ [.str nm t']) o'') (hv : v ≤ n) :
    WStep g L mW pre rest D s v n nm ys .next { s with heap := h', toks := tk } := ⟨rfl, h', tk, t, t', o'', rfl, fr_congr F' (fun y => by
    by_cases e : y = Str.ofString "n"
    · rw [e, if_pos rfl, hn]
    · rw [if_neg e, he y e]), N', ho, hv⟩
theorem wexit_end {h' : Heap} {tk : Nat} {mW m' : Str → Option Value} {pre rest : List (Addr × Obj)} {D : Addr} {v n : Int} {t : Tok} {ys : List Value} {o'' : Obj} (F' : Fr g L h' m') (hn : m' (Str.ofString "n") = some (.int n t)) (he : ∀ y, y ≠ Str.ofString "n" → m' y = mW y) (N' : News g L h' (pre ++ (D, o'') :: rest)) (ho : IsPl ys o'') (hv : n < v) :
    WExit g L mW pre rest D s v n ys { s with heap := h', toks := tk } := ⟨h', tk, t, o'', rfl, fr_congr F' (fun y => by
    by_cases e : y = Str.ofString "n"
    · rw [e, if_pos rfl, hn]
    · rw [if_neg e, he y e]), N', ho, hv⟩
theorem strs_snoc {nm : Str} {t : Tok} : ∀ {ys : List Value} {l : List Str}, StrsAre ys l → StrsAre (ys ++ [.str nm t]) (l ++ [nm])
  | _, _, .nil => .cons _ _ .nil
  | _, _, .cons z u r => .cons z u (strs_snoc r)
theorem while_up {mW : Str → Option Value} {pre rest : List (Addr × Obj)} {D : Addr} {o : Obj} {n : Int} {tn : Tok} {ys : List Value} {l : List Str} (v : Int) (nm : Str)
    (F : Fr g L s.heap mW) (hn : mW (Str.ofString "n") = some (.int n tn)) (N : News g L s.heap (pre ++ (D, o) :: rest)) (ho : IsPl ys o) (hl : StrsAre ys l) (h0 : 0 ≤ n) (hv : 0 < v) (hb : (l.length : Int) + n ≤ 5000)
    (turn : ∀ n' tn' o' ys' h₁ tk₁, IsPl ys' o' → ys'.length ≤ 5000 → 0 ≤ n' → n' ≤ 5000 → Fr g L h₁ (fun y => if y = Str.ofString "n" then some (.int n' tn') else mW y) → News g L h₁ (pre ++ (D, o') :: rest) →
      wpAny (model prog w) A (isTrue test env (eval test env)) (fun b s₂ =>
        if b = true then wpAny (model prog w) A (execs body env) (WStep g L mW pre rest D s v n' nm ys') E s₂ else WExit g L mW pre rest D s v n' ys' s₂) E { s with heap := h₁, toks := tk₁ })
    (exit : ∀ h' tk t o' ys', Fr g L h' (fun y => if y = Str.ofString "n" then some (.int (n % v) t) else mW y) → News g L h' (pre ++ (D, o') :: rest) → IsPl ys' o' → StrsAre ys' (l ++ List.replicate (n / v).toNat nm) → Q .next { s with heap := h', toks := tk })
    (hE : PassesOwn (model prog w) A env E := by passes_own) :
    wpAny (model prog w) A (exec (.While test body [] pos) env) Q E s := by
  have F' : Fr g L s.heap (fun y => if y = Str.ofString "n" then some (.int n tn) else mW y) := fr_congr F fun y => by
    by_cases e : y = Str.ofString "n"
    · rw [e, if_pos rfl, hn]
    · rw [if_neg e]
  refine While_inv (n₀ := n.toNat) (fun k m' nw => ∃ n' tn' o' ys' l', m' = (fun y => if y = Str.ofString "n" then some (.int n' tn') else mW y) ∧ nw = pre ++ (D, o') :: rest ∧ IsPl ys' o' ∧ StrsAre ys' l' ∧ 0 ≤ n' ∧ k = n'.toNat ∧ n' % v = n % v ∧
      l' ++ List.replicate (n' / v).toNat nm = l ++ List.replicate (n / v).toNat nm ∧ (l'.length : Int) + n' ≤ 5000) F' N ⟨n, tn, o, ys, l, rfl, rfl, ho, hl, h0, rfl, rfl, rfl, hb⟩ ?_ hE
  rintro k m₁ nw h₁ tk₁ F₁ N₁ ⟨n', tn', o', ys', l', rfl, rfl, ho', hl', h0', rfl, hmod, hrep, hb'⟩
  have hlen : ys'.length = l'.length := by
    have := hl'.length
    omega
  refine wpAny_mono (turn n' tn' o' ys' h₁ tk₁ ho' (by omega) h0' (by omega) F₁ N₁) (fun b s₂ h₂ => ?_) fun _ _ e => e
  cases b with
  | false =>
    simp only [Bool.false_eq_true, if_false] at h₂ ⊢
    obtain ⟨h', tk, t, o'', rfl, F₂, N₂, ho₂, hlt⟩ := h₂
    have e1 : n' / v = 0 := Int.ediv_eq_zero_of_lt h0' hlt
    have e2 : n' % v = n' := Int.emod_eq_of_lt h0' hlt
    rw [e1] at hrep
    simp only [Int.toNat_zero, List.replicate_zero, List.append_nil] at hrep
    rw [e2] at hmod
    subst hrep
    rw [hmod] at F₂
    exact exit h' tk t o'' ys' F₂ N₂ ho₂ hl'
  | true =>
    simp only [if_true] at h₂ ⊢
    refine wpAny_mono h₂ (fun f s₃ h₃ => ?_) fun _ _ e => e
    obtain ⟨rfl, h', tk, t, t', o'', rfl, F₂, N₂, ho₂, hle⟩ := h₃
    refine WhileStep.intro F₂ N₂ (n' := (n' - v).toNat) (by omega) ⟨n' - v, t, o'', _, l' ++ [nm], rfl, rfl, ho₂, strs_snoc hl', by omega, rfl, ?_, ?_, ?_⟩
    · rw [← hmod, Int.sub_emod_right]
    · rw [← hrep]
      have e1 : n' / v = (n' - v) / v + 1 := by
        rw [show n' = (n' - v) + 1 * v by omega, Int.add_mul_ediv_right _ _ (by omega)]
        simp
      have e2 : 0 ≤ (n' - v) / v := Int.ediv_nonneg (by omega) (by omega)
      rw [e1, show ((n' - v) / v + 1).toNat = ((n' - v) / v).toNat + 1 by omega, List.replicate_succ]
      simp
    · simp only [List.length_append, List.length_cons, List.length_nil]
      omega
end
end Mine

namespace Mine
section
variable {prog : Program} {w : World} {A : Around} {E : Value → Shared → Prop} {s : Shared} {env : Env} {h₀ : Heap} {target : Expr} {body : List Stmt} {Q : Flow → Shared → Prop}
theorem turns_X {D : Addr} {o : Obj} {rest : List (Addr × Obj)} {m : Str → Option Value} {N : Int} {tN : Tok} (sel : Row → Str)
    (hh : A.handled = none) (F : Fr h₀ env.locals s.heap m) (hm : m (Str.ofString "n") = some (.int N tN)) (Nw : News h₀ env.locals s.heap ((D, o) :: rest)) (X : (Mine.hd.heap_39 w.params).In h₀)
    (ho : IsPl [] o) (hN0 : 0 ≤ N) (hN1 : N ≤ 5000) (hDr : ∀ p ∈ rest, p.1 ≠ D)
    (turn : ∀ (r : Row) (rs : List Row) (I : Addr) (it : Obj) (n : Int) (tn : Tok) (o : Obj) (ys : List Value) (l : List Str) (a b c : Option Value) (h : Heap) (tk : Nat), 0 < r.v → RowAt h₀ r → IsPl ys o → StrsAre ys l → 0 ≤ n → (l.length : Int) + n ≤ 5000 →
      Fr h₀ env.locals h (sh m n tn a b c) → News h₀ env.locals h ((I, it) :: (D, o) :: rest) → D ≠ I → (∀ p ∈ rest, p.1 ≠ I) → (∀ p ∈ rest, p.1 ≠ D) →
      wpAny (model prog w) A (assign target env (.ref r.at_)) (fun _ s₂ => wpAny (model prog w) A (execs body env)
        (UnrPostW h₀ env.locals { s with heap := h, toks := tk } [(I, it)] (fun m' n' => LoopJ sel D rest m (l ++ gr sel (r :: rs) n) rs m' n') Q) E s₂) E { s with heap := h, toks := tk })
    (fin : ∀ h tk n tn o ys a b c, Fr h₀ env.locals h (sh m n tn a b c) → News h₀ env.locals h ((D, o) :: rest) → IsPl ys o → StrsAre ys (gr sel rowsT N) → (gr sel rowsT N).length ≤ 5000 → Q .next { s with heap := h, toks := tk }) :
    wpAny (model prog w) A (pyIter (.ref 113)) (fun it s₂ => TurnsAt prog w A h₀ env target body Q E it s₂) E s := by
  obtain ⟨lo, k, hg, hc, hd⟩ := tab_in X
  exact turns_up sel rowsT hh F hm Nw hg hc hd rfl ho hN0 hN1 (rows_in X) hDr (fun r rs I it n tn o ys l a b c h tk hr => turn r rs I it n tn o ys l a b c h tk (rows_pos r hr)) fin
theorem turn_end {sel : Row → Str} {r : Row} {rs : List Row} {D I : Addr} {it o' : Obj} {rest : List (Addr × Obj)} {m m' : Str → Option Value} {h' : Heap} {tk : Nat} {n : Int} {t : Tok} {ys' : List Value} {l : List Str} {L : Addr}
    (F' : Fr h₀ L h' m') (N' : News h₀ L h' ((I, it) :: (D, o') :: rest)) (hn : m' (Str.ofString "n") = some (.int (n % r.v) t))
    (he : ∀ y, y ≠ Str.ofString "n" → y ≠ Str.ofString "value" → y ≠ Str.ofString "name" → y ≠ Str.ofString "_" → m' y = m y)
    (hDI : D ≠ I) (hrI : ∀ p ∈ rest, p.1 ≠ I) (ho' : IsPl ys' o') (hl' : StrsAre ys' (l ++ List.replicate (n / r.v).toNat (sel r))) (h0 : 0 ≤ n) (hv : 0 < r.v) (hb : (l.length : Int) + n ≤ 5000) :
    UnrEndW h₀ L s [(I, it)] (fun m' n' => LoopJ sel D rest m (l ++ gr sel (r :: rs) n) rs m' n') { s with heap := h', toks := tk } := by
  have F'' : Fr h₀ L h' (sh m (n % r.v) t (m' (Str.ofString "value")) (m' (Str.ofString "name")) (m' (Str.ofString "_"))) := fr_congr F' fun y => by
    unfold sh
    by_cases e1 : y = Str.ofString "n"
    · rw [e1, if_pos rfl, hn]
    rw [if_neg e1]
    by_cases e2 : y = Str.ofString "value"
    · rw [e2, if_pos rfl]
    rw [if_neg e2]
    by_cases e3 : y = Str.ofString "name"
    · rw [e3, if_pos rfl]
    rw [if_neg e3]
    by_cases e4 : y = Str.ofString "_"
    · rw [e4, if_pos rfl]
    rw [if_neg e4]
    exact he y e1 e2 e3 e4
  refine ⟨h', tk, _, (D, o') :: rest, rfl, F'', N', ?_, n % r.v, t, o', ys', _, _, _, _, rfl, rfl, ho', hl', Int.emod_nonneg _ (by omega), ?_, ?_⟩
  · intro p hp q hq
    rw [List.mem_singleton.mp hq]
    rcases List.mem_cons.mp hp with rfl | hp
    · exact hDI
    · exact hrI p hp
  · simp [gr]
  · simp only [List.length_append, List.length_replicate]
    have h1 : 0 ≤ n / r.v := Int.ediv_nonneg h0 (by omega)
    have h2 := Int.mul_ediv_add_emod n r.v
    have h3 : n / r.v ≤ r.v * (n / r.v) := by
      have := Int.mul_le_mul_of_nonneg_right (show (1 : Int) ≤ r.v by omega) h1
      omega
    omega
theorem gr_mem (sel : Row → Str) : ∀ (rows : List Row) (n : Int), ∀ a ∈ gr sel rows n, ∃ r ∈ rows, a = sel r
  | [], _, a, h => by simp [gr] at h
  | r :: rs, n, a, h => by
    simp only [gr, List.mem_append] at h
    rcases h with h | h
    · exact ⟨r, .head _, (List.mem_replicate.mp h).2⟩
    · obtain ⟨q, hq, e⟩ := gr_mem sel rs _ a h
      exact ⟨q, .tail _ hq, e⟩
theorem join_ls {D : Addr} {o : Obj} {rest : List (Addr × Obj)} {L : Addr} {ys : List Value} {n : Int} {sel : Row → Str} {t : Tok} {Q : Value → Shared → Prop} (Nw : News h₀ L s.heap ((D, o) :: rest)) (ho : IsPl ys o) (hl : StrsAre ys (gr sel rowsT n)) (hn : (gr sel rowsT n).length ≤ 5000)
    (hs : ∀ r ∈ rowsT, (sel r).length ≤ 10) (h : ∀ t' k, Q (.str (Txt.join (Str.ofString "") (gr sel rowsT n)) t') { s with toks := k }) : wpAny (model prog w) A (call (.builtin "str.join") [.str (Str.ofString "") t, .ref D]) Q E s := by
  obtain ⟨k, rfl⟩ := ho
  refine KT.join_B (l := gr sel rowsT n) (g := fun a => a) 10 ⟨_, (Nw _ (.head _)).1, rfl, k, rfl⟩ hl.carried (fun a ha => ?_) (by omega) (by decide) (fun t' k => ?_)
  · obtain ⟨r, hr, e⟩ := gr_mem sel rowsT n a ha
    rw [e]; exact hs r hr
  · rw [List.map_id']
    exact h t' k
end
end Mine

namespace Mine
theorem allLt_ne2 {d a b : Addr} {oa ob : Obj} {l : List (Addr × Obj)} (h : a < d ∧ b < d ∧ AllLt d l) : ∀ p ∈ (a, oa) :: (b, ob) :: l, p.1 ≠ d := by
  intro p hp
  rcases List.mem_cons.mp hp with rfl | hp
  · exact Nat.ne_of_lt h.1
  rcases List.mem_cons.mp hp with rfl | hp
  · exact Nat.ne_of_lt h.2.1
  exact allLt_ne h.2.2 p hp
theorem allLt_ne3 {d a b c : Addr} {oa ob oc : Obj} {l : List (Addr × Obj)} (h : a < d ∧ b < d ∧ c < d ∧ AllLt d l) : ∀ p ∈ (a, oa) :: (b, ob) :: (c, oc) :: l, p.1 ≠ d := by
  intro p hp
  rcases List.mem_cons.mp hp with rfl | hp
  · exact Nat.ne_of_lt h.1
  exact allLt_ne2 h.2 p hp
end Mine

namespace Mine
theorem list_method {prog : Program} {w : World} {A : Around} {E : Value → Shared → Prop} {s : Shared} {h₀ : Heap} {L D : Addr} {news : List (Addr × Obj)} {o : Obj} {ys : List Value} {pl : Sem Bool} {Q : Value × List Value → Shared → Prop} (ho : IsPl ys o) (N : News h₀ L s.heap news) (hm : (D, o) ∈ news)
    (h : Q (.builtin "list.append", [.ref D]) s) : wpAny (model prog w) A (getMethod (.ref D) "append" pl) Q E s := by
  obtain ⟨k, rfl⟩ := ho
  exact getMethod_builtin ⟨_, (N _ hm).1, rfl⟩ PySem.F.plainAttrs_list PySem.F.slot_list_append PySem.F.type_list_append (fun a e => by cases e; exact ⟨_, (N _ hm).1, rfl⟩) h
end Mine

namespace Mine
def GU (n : Int) : Str := Txt.join (Str.ofString "") (gr (fun r => r.up) rowsT n)
def GL (n : Int) : Str := Txt.join (Str.ofString "") (gr (fun r => r.lo) rowsT n)
end Mine
end
section
open PySem PySem.W PySem.Calls PyProof.Rows
namespace Mine
theorem allLt_lt {d : Addr} {l : List (Addr × Obj)} (h : AllLt d l) : ∀ p ∈ l, p.1 < d := by
  induction l with
  | nil => intro p hp; cases hp
  | cons q r ih =>
    intro p hp
    rcases List.mem_cons.mp hp with e | hp
    · rw [e]; exact h.1
    · exact ih h.2 p hp
theorem news_pick {h₀ h : Heap} {L : Addr} {p a b c d : Addr × Obj} {l : List (Addr × Obj)} (N : News h₀ L h (p :: a :: b :: c :: d :: l)) : News h₀ L h (p :: l) := by
  intro q hq
  rcases List.mem_cons.mp hq with rfl | hq
  · exact N _ (.head _)
  · exact N _ (.tail _ (.tail _ (.tail _ (.tail _ (.tail _ hq)))))
/-- a call of `_law_told` out of the law's own frame -/
def ToldAt (w : World) : Prop :=
  ∀ {mean : ExcName → Option Value} {mg mb : Str → Option Value} {dp un : Nat} {gd : Option (List Code)} {cn : Str} {cs : Scope} {a : Addr} {ccd : Value} {cl : List (Str × Addr)} {A₀ : Around} {h₀ : Heap} {L : Addr} {m : Str → Option Value} {news : List (Addr × Obj)} {s : Shared}
    {Q E : Value → Shared → Prop} {n : Int} {t : Tok},
    Below A₀ h₀ [] h₀ → Fr h₀ L s.heap m → (Mine.hd.heap_39 w.params).In h₀ → News h₀ L s.heap news →
    Top Mine.hd.view_39 (looseW Mine.hd.view_39 [Str.ofString "RomanNumeral", Str.ofString "_ROMAN_NUMERAL_PREFIXES", Str.ofString "_law_tables", Str.ofString "_law_worth"]) mean mg mb h₀ →
    cs.kind = .function → dp + 5 < recursionLimit → un + 8 * 5 < cLine → (-100000 ≤ n ∧ n ≤ 100000) →
    ((n < 1 ∨ n > 4999) → ∀ h' tk', Fr h₀ L h' m → News h₀ L h' news → Q .none { s with heap := h', toks := tk' }) →
    (¬ (n < 1 ∨ n > 4999) → ∀ T h' tk' t1 t2, Fr h₀ L h' m → News h₀ L h' ((T, ({ cls := .type "tuple", data := .seq #[.str (GU n) t1, .str (GL n) t2] } : Obj)) :: news) → (∀ p ∈ news, p.1 < T) → Q (.ref T) { s with heap := h', toks := tk' }) →
    wpAny (model PySem.Challenge.rw_ff0005_01.row.prog w) (ktrTop dp un gd cn cs L a ccd cl []) (call (.ref 150) [.int n t]) Q E s
set_option pp.deepTerms false
set_option pp.deepTerms.threshold 8
set_option pp.proofs false
local macro_rules | `(tactic| k_room) => `(tactic| ktr_room)
local macro_rules | `(tactic| k_units) => `(tactic| ktr_units)
local macro_rules | `(tactic| walk_at "InitBack") => `(tactic| (dsimp only [InitBack]))
set_option hygiene false in
local macro_rules | `(tactic| walk_at "pyIter ref") => `(tactic| (k_here; (with_reducible show wpAny _ _ (pyIter (Value.ref 113)) (fun it s₂ => TurnsAt _ _ _ _ _ (Expr.Tuple [_, Expr.Name (Str.ofString "name") _, _] _ _) _ _ _ it s₂) _ _); k_dflt (refine' turns_X (fun r => r.up) ?phU ?pFU ?pmU ?pNU ?pXU ?poU ?p0U ?p1U ?prU ?ptU ?pfU; (case phU => with_unfolding_all rfl); (case pFU => k_asm); (case pmU => rfl); (case pNU => k_asm); (case pXU => k_asm); (case poU => exact ⟨_, rfl⟩); (case p0U => omega); (case p1U => omega); (case prU => first | exact allLt_ne2 (by assumption) | exact allLt_ne3 (by assumption))); (case' ptU => (intro r9 rs9 I9 it9 n9 tn9 o9 ys9 l9 a9 b9 c9 h9 tk9 hv9 hRow9 hIs9 hSt9 h09 hb9 F9 N9 hDI9 hrI9 hrD9; obtain ⟨oR9, kR9, t19, t29, t39, hR9, hRc9, hRd9⟩ := hRow9)); (case' pfU => (intro hF9 tkF9 nF9 tnF9 oF9 ysF9 aF9 bF9 cF9 FF9 NF9 hoF9 hlF9 hnF9))))
set_option hygiene false in
local macro_rules | `(tactic| walk_at "pyIter ref") => `(tactic| (k_here; (with_reducible show wpAny _ _ (pyIter (Value.ref 113)) (fun it s₂ => TurnsAt _ _ _ _ _ (Expr.Tuple [_, Expr.Name (Str.ofString "_") _, _] _ _) _ _ _ it s₂) _ _); k_dflt (refine' turns_X (fun r => r.lo) ?phL ?pFL ?pmL ?pNL ?pXL ?poL ?p0L ?p1L ?prL ?ptL ?pfL; (case phL => with_unfolding_all rfl); (case pFL => k_asm); (case pmL => rfl); (case pNL => k_asm); (case pXL => k_asm); (case poL => exact ⟨_, rfl⟩); (case p0L => omega); (case p1L => omega); (case prL => first | exact allLt_ne2 (by assumption) | exact allLt_ne3 (by assumption))); (case' ptL => (intro r9 rs9 I9 it9 n9 tn9 o9 ys9 l9 a9 b9 c9 h9 tk9 hv9 hRow9 hIs9 hSt9 h09 hb9 F9 N9 hDI9 hrI9 hrD9; obtain ⟨oR9, kR9, t19, t29, t39, hR9, hRc9, hRd9⟩ := hRow9)); (case' pfL => (intro hF9 tkF9 nF9 tnF9 oF9 ysF9 aF9 bF9 cF9 FF9 NF9 hoF9 hlF9 hnF9))))
set_option hygiene false in
local macro_rules | `(tactic| walk_at "assign Tuple") => `(tactic| (k_here; (with_reducible show wpAny _ _ (assign (Expr.Tuple _ _ _) _ (Value.ref (Row.at_ r9))) _ _ _); k_dflt (refine unpackN_ F9 N9 ⟨oR9, F9.keep _ _ hR9, hRc9, _, hRd9⟩ (by with_unfolding_all rfl) (by rfl) (by rfl) ?_); intro h' F' N'))
set_option hygiene false in
local macro_rules | `(tactic| walk_at "call builtin:str.join") => `(tactic| (k_here; k_dflt (refine' join_ls ?jN hoF9 hlF9 hnF9 ?jr ?_; (case jN => k_asm); (case jr => decide)); intro _ _))
set_option hygiene false in
local macro_rules | `(tactic| walk_at "exec While") => `(tactic| (k_here; (with_reducible show wpAny _ _ (exec _ (envOf (Str.ofString "RomanNumeral.to_uppercase") _ _ _ _)) _ _ _); k_dflt (refine' while_up (pre := [(I9, it9)]) r9.v r9.up ?wFU ?wnU ?wNU hIs9 hSt9 h09 hv9 hb9 ?wtU ?weU; (case wFU => k_asm); (case wnU => with_unfolding_all rfl); (case wNU => k_asm)); (case' wtU => (intro n8 tn8 o8 ys8 h8 tk8 ho8 hl8 h08 h18 F8 N8; (try dsimp only [List.cons_append, List.nil_append] at N8))); (case' weU => (intro h7 tk7 t7 o7 ys7 F7 N7 ho7 hl7; (try dsimp only [List.cons_append, List.nil_append] at N7)))))
set_option hygiene false in
local macro_rules | `(tactic| walk_at "exec While") => `(tactic| (k_here; (with_reducible show wpAny _ _ (exec _ (envOf (Str.ofString "RomanNumeral.to_lowercase") _ _ _ _)) _ _ _); k_dflt (refine' while_up (pre := [(I9, it9)]) r9.v r9.lo ?wFL ?wnL ?wNL hIs9 hSt9 h09 hv9 hb9 ?wtL ?weL; (case wFL => k_asm); (case wnL => with_unfolding_all rfl); (case wNL => k_asm)); (case' wtL => (intro n8 tn8 o8 ys8 h8 tk8 ho8 hl8 h08 h18 F8 N8; (try dsimp only [List.cons_append, List.nil_append] at N8))); (case' weL => (intro h7 tk7 t7 o7 ys7 F7 N7 ho7 hl7; (try dsimp only [List.cons_append, List.nil_append] at N7)))))
set_option hygiene false in
local macro_rules | `(tactic| walk_at "getMethod ref") => `(tactic| (k_here; (with_reducible show wpAny _ _ (getMethod (Value.ref _) (PySem.Str.ofString "append") _) _ _ _); k_dflt (refine' list_method ho8 ?gN ?gm ?_; (case gN => k_asm); (case gm => exact List.Mem.tail _ (List.Mem.head _)))))
set_option hygiene false in
local macro_rules | `(tactic| walk_at "call builtin:list.append") => `(tactic| (k_here; k_dflt (refine' app_at ?aF ?aN ?aU ho8 (by omega) ?_; (case aF => k_asm); (case aN => k_asm); (case aU => exact UpdF.tail (Ne.symm hDI9) (UpdF.head hrD9))); intro h6 o6 F6 N6 ho6))
set_option hygiene false in
local macro_rules | `(tactic| walk_at "WStep") => `(tactic| (k_here; k_dflt (refine' wstep_end F6 rfl ?_ ?_ ho6 ?_); (all_goals first | omega | exact N6 | (intro y ey; simp only [ey, if_false]))))
set_option hygiene false in
local macro_rules | `(tactic| walk_at "WExit") => `(tactic| (k_here; k_dflt (refine' wexit_end F8 rfl ?_ ?_ ho8 ?_); (all_goals first | omega | exact N8 | (intro y ey; simp only [ey, if_false]))))
set_option hygiene false in
local macro_rules | `(tactic| walk_at "UnrPostW") => `(tactic| (k_here; dsimp only [UnrPostW]; k_dflt (refine turn_end F7 N7 rfl ?_ hDI9 hrI9 ho7 hl7 h09 hv9 hb9); (intro y e1 e2 e3 e4; simp only [sh, e1, e2, e3, e4, if_false])))
set_option maxRecDepth 100000 in
set_option maxHeartbeats 1600000 in
theorem c_told (w : World) : ToldAt w := by
  unfold ToldAt
  k_fill
  intro mean mg mb dp un gd cn cs' a ccd cl A₀ h₀ L m news s Q E n t B F X N T hk hd hu hb hnone htup
  obtain ⟨ck, cnm, cg, cc, cmo⟩ := cs'
  simp only at hk
  subst hk
  refine wpAny_call ?_
  k_dflt (refine' enter_try (base := h₀) ?k1 ?k2 ?k3 ?k4 ?k5 ?kA ?kF ?kK ?k6 ?k7 ?k8 ?k9 ?kB ?_ ?c2 ?c3 ?c4 ?c5; (case kA => exact rfl); (case kF => exact rfl); (case kK => exact rfl); (case k1 => k_asm); (case k2 => k_asm); (case k3 => k_asm); (case k4 => k_asm); (case k5 => k_asm); (case k6 => k_is); (case k7 => k_is); (case k8 => ktr_room); (case k9 => exact BindsTo.of_eq rfl); (case kB => exact locs rfl); (case c2 => exact rfl); (case c3 => exact rfl); (case c4 => exact rfl); (case c5 => decide); intro g' L' h' FG' F' N' B' X' T' D'; (try dsimp only); (try k_lift B'); (try k_fold))
  k_steps
  · rename News h₀ L _ _ => NZ9
    refine hnone (by omega) _ _ (by k_asm) (fun p hp => NZ9 p (by first | exact hp | exact List.Mem.tail _ hp | exact List.Mem.tail _ (List.Mem.tail _ hp) | exact List.Mem.tail _ (List.Mem.tail _ (List.Mem.tail _ hp)) | exact List.Mem.tail _ (List.Mem.tail _ (List.Mem.tail _ (List.Mem.tail _ hp)))))
  · rename News h₀ L _ _ => NZ9
    refine hnone (by omega) _ _ (by k_asm) (fun p hp => NZ9 p (by first | exact hp | exact List.Mem.tail _ hp | exact List.Mem.tail _ (List.Mem.tail _ hp) | exact List.Mem.tail _ (List.Mem.tail _ (List.Mem.tail _ hp)) | exact List.Mem.tail _ (List.Mem.tail _ (List.Mem.tail _ (List.Mem.tail _ hp)))))
  · rename News h₀ L _ _ => NZ9
    rename _ ∧ _ ∧ _ ∧ _ ∧ AllLt _ news => lZ9
    refine htup (by omega) _ _ _ _ _ (by k_asm) (news_pick NZ9) (allLt_lt lZ9.2.2.2.2)
end Mine
end
section
open PySem PySem.W PySem.Calls PyProof.Rows
namespace Mine
set_option pp.deepTerms false
set_option pp.deepTerms.threshold 8
set_option pp.proofs false
local macro_rules | `(tactic| k_room) => `(tactic| ktr_room)
local macro_rules | `(tactic| k_units) => `(tactic| ktr_units)
local macro_rules | `(tactic| walk_at "call ref") => `(tactic| (k_here; (with_reducible show wpAny _ _ (call (Value.ref 46) [Value.str _ _]) _ _ _); k_dflt (refine' mk_invalid ?k1 ?k2 ?k3 ?k4 ?k5 ?kA ?kF ?kK ?kr ?ku ?kx ?_; (case k1 => k_asm); (case k2 => k_asm); (case k3 => k_asm); (case k4 => k_asm); (case k5 => k_asm); (case kA => exact rfl); (case kF => exact rfl); (case kK => exact rfl); (case kr => ktr_room); (case ku => ktr_units); (case kx => omega); intro hR' h' e' tk' msg' t' FR' NR' hM'; (try dsimp only); (refine' raisableI_of ?z1 FR' hM' ?_; (case z1 => k_asm)))))
local macro_rules | `(tactic| walk_at "exec Raise some none") => `(tactic| (k_here; k_dflt (refine raise_inv (by first | rfl | assumption) ?_)))
local macro_rules | `(tactic| walk_at "getMethod str") => `(tactic| with_reducible refine enc_method ?_)
set_option hygiene false in
local macro_rules | `(tactic| walk_at "call builtin:str.encode") => `(tactic| ((first | refine enc_callL (hcs (by assumption)) h3 hx ?_ | refine enc_callL (hcl (by assumption) (by assumption)) h3' hx' ?_); intro _))
local macro_rules | `(tactic| walk_at "CharsEnd") => `(tactic| (k_here; (with_reducible rename Fr _ _ _ _ => F'); (with_reducible rename News _ _ _ _ => N'); k_dflt (first | exact chars_end F' N' (pure_up (by assumption)) | exact chars_end F' N' (pure_lo (by assumption)))))
set_option hygiene false in
local macro_rules | `(tactic| walk_at "execs cons") => `(tactic| (k_here; (with_reducible show wpAny _ _ (execs (Stmt.If (Expr.BoolOp _ _ _) _ (_ :: _) _ :: _) _) _ _ _); (fail_if_success (with_reducible rename Inside => zz)); k_dflt (refine' cut_chars (Pure x) cs ?cF0 ?cN0 ?ch0 ?ci0; (case cF0 => k_asm); (case cN0 => k_asm)); (case' ch0 => (have zz := Inside.mk)); (case' ci0 => intro hpure _ _ _ _ _; trace "CUT0")))
local macro_rules | `(tactic| walk_at "eval ListComp") => `(tactic| (k_here; k_dflt (refine comp_iter (by k_asm) (by with_unfolding_all rfl) (by decide) (by rfl) (by decide) (by rfl) ?_)))
local macro_rules | `(tactic| walk_at "SrcI") => `(tactic| (k_dflt (refine' src_bytes ?z1 ?z2 ?z3 ?z4 ?_; (case z1 => first | rfl | assumption); (case z2 => k_asm); (case z3 => k_asm); (case z4 => first | assumption | omega); intro g'; refine rest_inv (fun _ nw => nw = _) (fun _ y => y = Value.bool true) rfl (fun i nw v I oI C oC D m₂ ys h tk E' hi hj hP hC hx F N off ne => ?_) (fun ys nw hj hl hg => ?_); (all_goals subst hj); (all_goals (try (obtain ⟨c, u, hc, hv⟩ := hP; subst hv))); (all_goals (try (have hB := boolsAre_true hg))))))
local macro_rules | `(tactic| walk_at "compareOp In int bytes") => `(tactic| (refine in_bytes ?_))
local macro_rules | `(tactic| lsm_bools) => `(tactic| assumption)
local macro_rules | `(tactic| walk_at "subscriptTail") => `(tactic| (k_here; (with_reducible show wpAny _ _ (subscriptTail _ (Expr.Slice _ _ none _) (Value.bytes _ _) (Value.ref _)) _ _ _); (with_reducible rename Fr _ _ _ _ => F'); (with_reducible rename News _ _ _ _ => N'); (first | (refine slice_at (s := ⟨_, _, _, _, _⟩) 1 F' N' (by first | (with_reducible exact natIs_zero) | (with_reducible exact natIs_cast _) | (k_dflt (exact natIs_cast _))) (by assumption) ?_) | (refine slice_at (s := ⟨_, _, _, _, _⟩) 2 F' N' (by first | (with_reducible exact natIs_zero) | (with_reducible exact natIs_cast _) | (k_dflt (exact natIs_cast _))) (by assumption) ?_)); intro _ _ _ _ _))
local macro_rules | `(tactic| walk_at "compareOp Eq bytes bytes") => `(tactic| refine eq_at ?_)
local macro_rules | `(tactic| walk_at "UnrEnd") => `(tactic| (k_here; (with_reducible rename Fr _ _ _ _ => F'); (with_reducible rename News _ _ _ _ => N'); (k_dflt (refine unr_end F' N' (by assumption) ?_))))
local macro_rules | `(tactic| walk_at "StageEnd") => `(tactic| (k_here; (with_reducible rename Fr _ _ _ _ => F'); (with_reducible rename News _ _ _ _ => N'); (k_dflt (refine' stage_end F' N' ?hN ?hi ?hr ?ho ?ei ?er)); (case hN => exact fun p hp => by first | exact hp | exact List.Mem.tail _ hp | exact List.Mem.tail _ (List.Mem.tail _ hp)); (case hi => exact rfl); (case hr => exact rfl); (case ho => intro y n1 n2 n3; first | (with_reducible rfl) | ((try dsimp only); simp only [n1, n2, n3, if_false])); (case ei => ((first | rw [j4 (by assumption) (by assumption)] | rw [s4 (by assumption) (by assumption)] | rw [j3 (by assumption) (by assumption)] | rw [s3 (by assumption) (by assumption)] | rw [j2 (by assumption) (by assumption)] | rw [s2 (by assumption) (by assumption)] | rw [show ∀ l, J 4 l = I3 l + f5 86 (l.drop (I3 l)) from fun _ => rfl] | rw [show ∀ l, S 4 l = R3 l + 5 * f5 86 (l.drop (I3 l)) from fun _ => rfl] | rw [show ∀ l, J 3 l = I2 l + f5 76 (l.drop (I2 l)) from fun _ => rfl] | rw [show ∀ l, S 3 l = R2 l + 50 * f5 76 (l.drop (I2 l)) from fun _ => rfl] | rw [show ∀ l, J 2 l = I1 l + f5 68 (l.drop (I1 l)) from fun _ => rfl] | rw [show ∀ l, S 2 l = R1 l + 500 * f5 68 (l.drop (I1 l)) from fun _ => rfl] | rw [show ∀ l, I4 l = I3 l + digT 73 86 88 (l.drop (I3 l)) from fun _ => rfl] | rw [show ∀ l, I3 l = I2 l + digT 88 76 67 (l.drop (I2 l)) from fun _ => rfl] | rw [show ∀ l, I2 l = I1 l + digT 67 68 77 (l.drop (I1 l)) from fun _ => rfl] | rw [show ∀ l, I1 l = cnt 77 4 l from fun _ => rfl] | rw [show ∀ l, R4 l = R3 l + digV 73 86 88 (l.drop (I3 l)) from fun _ => rfl] | rw [show ∀ l, R3 l = R2 l + 10 * digV 88 76 67 (l.drop (I2 l)) from fun _ => rfl] | rw [show ∀ l, R2 l = R1 l + 100 * digV 67 68 77 (l.drop (I1 l)) from fun _ => rfl] | rw [show ∀ l, R1 l = 1000 * cnt 77 4 l from fun _ => rfl]); (repeat (with_reducible first | (rename List.take _ _ = _ => q; revert q) | (rename ¬ (List.take _ _ = _) => q; revert q))); (first | (((simp +contextual only [f5, digT, digV, cnt, List.drop_drop, List.drop_zero, Nat.add_assoc, Nat.reduceAdd, Nat.zero_add, if_true, if_false, ite_true, ite_false]) <;> (intros; omega)); done) | (((simp +contextual +decide only [f5, digT, digV, cnt, List.drop_drop, List.drop_zero, Nat.add_assoc, Nat.reduceAdd, Nat.zero_add, if_true, if_false, ite_true, ite_false]) <;> (intros; omega)); done)))); (case er => ((first | rw [j4 (by assumption) (by assumption)] | rw [s4 (by assumption) (by assumption)] | rw [j3 (by assumption) (by assumption)] | rw [s3 (by assumption) (by assumption)] | rw [j2 (by assumption) (by assumption)] | rw [s2 (by assumption) (by assumption)] | rw [show ∀ l, J 4 l = I3 l + f5 86 (l.drop (I3 l)) from fun _ => rfl] | rw [show ∀ l, S 4 l = R3 l + 5 * f5 86 (l.drop (I3 l)) from fun _ => rfl] | rw [show ∀ l, J 3 l = I2 l + f5 76 (l.drop (I2 l)) from fun _ => rfl] | rw [show ∀ l, S 3 l = R2 l + 50 * f5 76 (l.drop (I2 l)) from fun _ => rfl] | rw [show ∀ l, J 2 l = I1 l + f5 68 (l.drop (I1 l)) from fun _ => rfl] | rw [show ∀ l, S 2 l = R1 l + 500 * f5 68 (l.drop (I1 l)) from fun _ => rfl] | rw [show ∀ l, I4 l = I3 l + digT 73 86 88 (l.drop (I3 l)) from fun _ => rfl] | rw [show ∀ l, I3 l = I2 l + digT 88 76 67 (l.drop (I2 l)) from fun _ => rfl] | rw [show ∀ l, I2 l = I1 l + digT 67 68 77 (l.drop (I1 l)) from fun _ => rfl] | rw [show ∀ l, I1 l = cnt 77 4 l from fun _ => rfl] | rw [show ∀ l, R4 l = R3 l + digV 73 86 88 (l.drop (I3 l)) from fun _ => rfl] | rw [show ∀ l, R3 l = R2 l + 10 * digV 88 76 67 (l.drop (I2 l)) from fun _ => rfl] | rw [show ∀ l, R2 l = R1 l + 100 * digV 67 68 77 (l.drop (I1 l)) from fun _ => rfl] | rw [show ∀ l, R1 l = 1000 * cnt 77 4 l from fun _ => rfl]); (repeat (with_reducible first | (rename List.take _ _ = _ => q; revert q) | (rename ¬ (List.take _ _ = _) => q; revert q))); (first | (((simp +contextual only [f5, digT, digV, cnt, List.drop_drop, List.drop_zero, Nat.add_assoc, Nat.reduceAdd, Nat.zero_add, if_true, if_false, ite_true, ite_false]) <;> (intros; omega)); done) | (((simp +contextual +decide only [f5, digT, digV, cnt, List.drop_drop, List.drop_zero, Nat.add_assoc, Nat.reduceAdd, Nat.zero_add, if_true, if_false, ite_true, ite_false]) <;> (intros; omega)); done))))))
set_option hygiene false in
local macro_rules | `(tactic| walk_at "CompEnd") => `(tactic| (k_here; k_dflt (refine LCg.CompEnd.intro (by assumption) (by assumption) _ (fun _ hp => hp) (by assumption) trivial ⟨rfl, lit_at hlit (by assumption)⟩)))
set_option hygiene false in
local macro_rules | `(tactic| walk_at "execs cons") => `(tactic| (k_here; (with_reducible show wpAny _ _ (execs (Stmt.For _ _ _ _ _ :: _) _) _ _ _); (fail_if_success (with_reducible rename Inside => zz)); k_dflt (refine' cut_at (I1 cs) (R1 cs) ?cF1 ?cN1 ?ch1 ?ci1; (case cF1 => k_asm); (case cN1 => k_asm)); (case' ch1 => (have zz := Inside.mk)); (case' ci1 => intro _ _ _ _ _ _ _; have bb := b1 cs; have mm := At.mk (k := 1); trace "CUT1")))
set_option hygiene false in
local macro_rules | `(tactic| walk_at "execs cons") => `(tactic| (k_here; (with_reducible show wpAny _ _ (execs (Stmt.If (Expr.Compare (Expr.Subscript _ _ _) _ _ _) _ _ _ :: _) _) _ _ _); (fail_if_success (with_reducible rename Inside => zz)); (with_reducible rename At 1 => zz); k_dflt (refine' cut_at (I2 cs) (R2 cs) ?cF2 ?cN2 ?ch2 ?ci2; (case cF2 => k_asm); (case cN2 => k_asm)); (case' ch2 => (have zz := Inside.mk)); (case' ci2 => intro _ _ _ _ _ _ _; have bb := b2 cs; have mm := At.mk (k := 2); trace "CUT2")))
set_option hygiene false in
local macro_rules | `(tactic| walk_at "execs cons") => `(tactic| (k_here; (with_reducible show wpAny _ _ (execs (Stmt.If (Expr.Compare (Expr.Subscript _ _ _) _ _ _) _ _ _ :: _) _) _ _ _); (fail_if_success (with_reducible rename Inside => zz)); (with_reducible rename At 2 => zz); k_dflt (refine' cut_at (I3 cs) (R3 cs) ?cF3 ?cN3 ?ch3 ?ci3; (case cF3 => k_asm); (case cN3 => k_asm)); (case' ch3 => (have zz := Inside.mk)); (case' ci3 => intro _ _ _ _ _ _ _; have bb := b3 cs; have mm := At.mk (k := 3); trace "CUT3")))
set_option hygiene false in
local macro_rules | `(tactic| walk_at "execs cons") => `(tactic| (k_here; (with_reducible show wpAny _ _ (execs (Stmt.If (Expr.Compare (Expr.Subscript _ _ _) _ _ _) _ _ _ :: _) _) _ _ _); (fail_if_success (with_reducible rename Inside => zz)); (with_reducible rename At 3 => zz); k_dflt (refine' cut_at (I4 cs) (R4 cs) ?cF4 ?cN4 ?ch4 ?ci4; (case cF4 => k_asm); (case cN4 => k_asm)); (case' ch4 => (have zz := Inside.mk)); (case' ci4 => intro _ _ _ _ _ _ _; have bb := b4 cs; have mm := At.mk (k := 4); trace "CUT4")))
set_option hygiene false in
local macro_rules | `(tactic| walk_at "execs cons") => `(tactic| (k_here; (with_reducible show wpAny _ _ (execs (Stmt.If _ _ _ _ :: Stmt.For _ _ _ _ _ :: _) _) _ _ _); (with_reducible rename Inside => zz); (with_reducible rename At 1 => zq); k_dflt (refine' cut_at (J 2 cs) (S 2 cs) ?dF2 ?dN2 ?dh2 ?di2; (case dF2 => k_asm); (case dN2 => k_asm)); (case' di2 => intro _ _ _ _ _ _ _; trace "INNER2")))
set_option hygiene false in
local macro_rules | `(tactic| walk_at "execs cons") => `(tactic| (k_here; (with_reducible show wpAny _ _ (execs (Stmt.If _ _ _ _ :: Stmt.For _ _ _ _ _ :: _) _) _ _ _); (with_reducible rename Inside => zz); (with_reducible rename At 2 => zq); k_dflt (refine' cut_at (J 3 cs) (S 3 cs) ?dF3 ?dN3 ?dh3 ?di3; (case dF3 => k_asm); (case dN3 => k_asm)); (case' di3 => intro _ _ _ _ _ _ _; trace "INNER3")))
set_option hygiene false in
local macro_rules | `(tactic| walk_at "execs cons") => `(tactic| (k_here; (with_reducible show wpAny _ _ (execs (Stmt.If _ _ _ _ :: Stmt.For _ _ _ _ _ :: _) _) _ _ _); (with_reducible rename Inside => zz); (with_reducible rename At 3 => zq); k_dflt (refine' cut_at (J 4 cs) (S 4 cs) ?dF4 ?dN4 ?dh4 ?di4; (case dF4 => k_asm); (case dN4 => k_asm)); (case' di4 => intro _ _ _ _ _ _ _; trace "INNER4")))
set_option maxRecDepth 100000 in
set_option maxHeartbeats 6000000 in
theorem c_read (w : World) (x : Str) (t : Tok) (cs : List UInt8) (hx : x.length ≤ 1000) (hx' : (Txt.upper x).length ≤ 1000) (h1 : Txt.isascii x = true) (h3 : ∀ c ∈ x.cps, c < 128) (h3' : ∀ c ∈ (Txt.upper x).cps, c < 128)
    (hcs : Txt.isupper x = true → encL x = cs) (hcl : Txt.isupper x = false → Txt.islower x = true → encL (Txt.upper x) = cs) (hlit : ∀ c ∈ cs, (#[73, 86, 88, 76, 67, 68, 77] : Array UInt8).contains c = true) (hsz : cs.toArray.size ≤ sizeLine) (hl2 : cs.length ≤ 16777216) (hlx : cs.length = x.length) : CallsL w 143 [.str x t] 5 (ReadX x cs) := by
  unfold CallsL
  k_fill
  intro mean mg mb dp un gd cn cs' a ccd cl A₀ h₀ L m news s Q E B F X N T hk hd hu hret
  obtain ⟨ck, cnm, cg, cc, cmo⟩ := cs'
  simp only at hk
  subst hk
  refine wpAny_call ?_
  k_dflt (refine' enter_try (base := h₀) ?k1 ?k2 ?k3 ?k4 ?k5 ?kA ?kF ?kK ?k6 ?k7 ?k8 ?k9 ?kB ?_ ?c2 ?c3 ?c4 ?c5; (case kA => exact rfl); (case kF => exact rfl); (case kK => exact rfl); (case k1 => k_asm); (case k2 => k_asm); (case k3 => k_asm); (case k4 => k_asm); (case k5 => k_asm); (case k6 => k_is); (case k7 => k_is); (case k8 => ktr_room); (case k9 => exact BindsTo.of_eq rfl); (case kB => exact locs rfl); (case c2 => exact rfl); (case c3 => exact rfl); (case c4 => exact rfl); (case c5 => decide); intro g' L' h' FG' F' N' B' X' T' D'; (try dsimp only); (try k_lift B'); (try k_fold))
  k_steps
  all_goals (with_reducible rename News h₀ L _ _ => NZ9)
  all_goals (refine hret _ _ _ (by k_asm) (fun p hp => NZ9 p (by first | exact hp | exact List.Mem.tail _ hp | exact List.Mem.tail _ (List.Mem.tail _ hp) | exact List.Mem.tail _ (List.Mem.tail _ (List.Mem.tail _ hp)) | exact List.Mem.tail _ (List.Mem.tail _ (List.Mem.tail _ (List.Mem.tail _ hp))))) ?_)
  all_goals first
  | exact rx1 (by assumption) hpure (by assumption)
  | exact rx2 (by assumption) hpure (by assumption)
  | exact rx3 (by assumption) hpure (by assumption)
  | exact rx4 (by assumption) hpure (by assumption)
  | exact rx5 (by assumption) hpure (by assumption)
  | exact rx_nil (by assumption)
  | exact rx_mixed (by assumption) (by assumption)
  | exact rx_not (by assumption)
end Mine
end
section
set_option maxRecDepth 100000
open PySem PySem.W PySem.Calls PyProof.Rows
namespace Mine
/-- a digit's signs -/
def blk (one five ten : UInt8) : Nat → List UInt8
  | 0 => [] | 1 => [one] | 2 => [one, one] | 3 => [one, one, one] | 4 => [one, five] | 5 => [five] | 6 => [five, one] | 7 => [five, one, one] | 8 => [five, one, one, one] | _ => [one, ten]
def B0 (a : Nat) : List UInt8 := List.replicate a 77
def wr4 (a b c d : Nat) : List UInt8 := B0 a ++ (blk 67 68 77 b ++ (blk 88 76 67 c ++ blk 73 86 88 d))
theorem ten_cases {b : Nat} (h : b < 10) : b = 0 ∨ b = 1 ∨ b = 2 ∨ b = 3 ∨ b = 4 ∨ b = 5 ∨ b = 6 ∨ b = 7 ∨ b = 8 ∨ b = 9 := by omega
theorem dig_stage (one five ten : UInt8) (h15 : one ≠ five) (h1t : one ≠ ten) (h5t : five ≠ ten) (rest : List UInt8) (hr : ∀ x ∈ rest.head?, x ≠ one ∧ x ≠ five ∧ x ≠ ten) {b : Nat} (hb : b < 10) :
    digT one five ten (blk one five ten b ++ rest) = (blk one five ten b).length ∧ digV one five ten (blk one five ten b ++ rest) = b := by
  have h51 : five ≠ one := Ne.symm h15
  have ht1 : ten ≠ one := Ne.symm h1t
  have ht5 : ten ≠ five := Ne.symm h5t
  cases rest with
  | nil => rcases ten_cases hb with h | h | h | h | h | h | h | h | h | h <;> subst h <;> simp [blk, digT, digV, cnt, *]
  | cons x r =>
    obtain ⟨q1, q2, q3⟩ := hr x (by simp)
    rcases ten_cases hb with h | h | h | h | h | h | h | h | h | h <;> subst h <;> simp [blk, digT, digV, cnt, *]
theorem blk_head (one five ten : UInt8) (rest : List UInt8) {b : Nat} (hb : b < 10) : ∀ x ∈ (blk one five ten b ++ rest).head?, x = one ∨ x = five ∨ x ∈ rest.head? := by
  intro x hx
  rcases ten_cases hb with h | h | h | h | h | h | h | h | h | h <;> subst h <;> simp [blk] at hx ⊢ <;> first | exact Or.inl hx.symm | exact Or.inr (Or.inl hx.symm) | exact Or.inr (Or.inr hx)
theorem cnt_rep (c : UInt8) (rest : List UInt8) (hr : ∀ x ∈ rest.head?, x ≠ c) : ∀ (n a : Nat), a ≤ n → cnt c n (List.replicate a c ++ rest) = a
  | 0, a, h => by
    have : a = 0 := by omega
    subst this; rfl
  | n + 1, 0, _ => by
    cases rest with
    | nil => simp [cnt]
    | cons x r =>
      have := hr x (by simp)
      simp [cnt, this]
  | n + 1, a + 1, h => by
    have ih := cnt_rep c rest hr n a (by omega)
    simp [cnt, List.replicate_succ, ih]; omega
theorem parse_wr : ∀ a, a < 5 → ∀ b, b < 10 → ∀ c, c < 10 → ∀ d, d < 10 → I4 (wr4 a b c d) = (wr4 a b c d).length ∧ R4 (wr4 a b c d) = 1000 * a + 100 * b + 10 * c + d := by
  intro a ha b hb c hc d hd
  have hd3 := blk_head 73 86 88 [] hd
  have hc2 := blk_head 88 76 67 (blk 73 86 88 d) hc
  have hb1 := blk_head 67 68 77 (blk 88 76 67 c ++ blk 73 86 88 d) hb
  rw [List.append_nil] at hd3
  have k3 : ∀ x ∈ (blk 73 86 88 d).head?, x = 73 ∨ x = 86 := fun x hx => by
    rcases hd3 x hx with h | h | h
    · exact Or.inl h
    · exact Or.inr h
    · cases h
  have k2 : ∀ x ∈ (blk 88 76 67 c ++ blk 73 86 88 d).head?, x = 88 ∨ x = 76 ∨ x = 73 ∨ x = 86 := fun x hx => by
    rcases hc2 x hx with h | h | h
    · exact Or.inl h
    · exact Or.inr (Or.inl h)
    · exact Or.inr (Or.inr (k3 x h))
  have k1 : ∀ x ∈ (blk 67 68 77 b ++ (blk 88 76 67 c ++ blk 73 86 88 d)).head?, x ≠ 77 := fun x hx => by
    rcases hb1 x hx with h | h | h
    · subst h; decide
    · subst h; decide
    · rcases k2 x h with h | h | h | h <;> subst h <;> decide
  have s1 : I1 (wr4 a b c d) = a := cnt_rep 77 _ k1 4 a (by omega)
  have d1 : (wr4 a b c d).drop a = blk 67 68 77 b ++ (blk 88 76 67 c ++ blk 73 86 88 d) := by
    unfold wr4 B0
    rw [List.drop_left' (by simp)]
  have s2 := dig_stage 67 68 77 (by decide) (by decide) (by decide) (blk 88 76 67 c ++ blk 73 86 88 d) (fun x hx => by rcases k2 x hx with h | h | h | h <;> subst h <;> decide) hb
  have s3 := dig_stage 88 76 67 (by decide) (by decide) (by decide) (blk 73 86 88 d) (fun x hx => by rcases k3 x hx with h | h <;> subst h <;> decide) hc
  have s4 := dig_stage 73 86 88 (by decide) (by decide) (by decide) [] (fun x hx => by cases hx) hd
  rw [List.append_nil] at s4
  have i2 : I2 (wr4 a b c d) = a + (blk 67 68 77 b).length ∧ R2 (wr4 a b c d) = 1000 * a + 100 * b := by
    unfold I2 R2
    rw [s1, d1, s2.1, s2.2]
    exact ⟨rfl, by show 1000 * I1 (wr4 a b c d) + _ = _; rw [s1]⟩
  have d2 : (wr4 a b c d).drop (a + (blk 67 68 77 b).length) = blk 88 76 67 c ++ blk 73 86 88 d := by
    rw [← List.drop_drop, d1, List.drop_left]
  have i3 : I3 (wr4 a b c d) = a + (blk 67 68 77 b).length + (blk 88 76 67 c).length ∧ R3 (wr4 a b c d) = 1000 * a + 100 * b + 10 * c := by
    unfold I3 R3
    rw [i2.1, i2.2, d2, s3.1, s3.2]
    exact ⟨rfl, rfl⟩
  have d3 : (wr4 a b c d).drop (a + (blk 67 68 77 b).length + (blk 88 76 67 c).length) = blk 73 86 88 d := by
    rw [← List.drop_drop, d2, List.drop_left]
  constructor
  · unfold I4
    rw [i3.1, d3, s4.1]
    simp [wr4, B0]
    omega
  · unfold R4
    rw [i3.1, i3.2, d3, s4.2]
end Mine
end
section
set_option maxRecDepth 100000
open PySem PySem.W PySem.Calls PyProof.Rows
namespace Mine
def val (ws : List Int) : Int := ((List.range ws.length).map (elt ws)).sum
def wo (l : List UInt8) : List Int := l.map fun c => worthOf c.toNat
theorem elt_succ (x : Int) (r : List Int) (k : Nat) : elt (x :: r) (k + 1) = elt r k := by
  unfold elt
  simp
theorem elt_zero (x : Int) (r : List Int) : elt (x :: r) 0 = if 0 < r.length ∧ x < r.getD 0 0 then - x else x := by
  unfold elt
  simp
theorem val_cons (x : Int) (r : List Int) : val (x :: r) = elt (x :: r) 0 + val r := by
  unfold val
  rw [List.length_cons, List.range_succ_eq_map, List.map_cons, List.sum_cons, List.map_map]
  congr 2
  apply List.map_congr_left
  intro k _
  exact elt_succ x r k
theorem val_app : ∀ (l r : List Int), (∀ x ∈ l, ∀ y ∈ r, y ≤ x) → val (l ++ r) = val l + val r
  | [], r, _ => by
    have : val [] = 0 := rfl
    rw [this]; simp
  | x :: l, r, h => by
    have ih := val_app l r fun z hz => h z (.tail _ hz)
    have e : elt (x :: (l ++ r)) 0 = elt (x :: l) 0 := by
      rw [elt_zero, elt_zero]
      cases l with
      | nil =>
        cases r with
        | nil => rfl
        | cons y r =>
          have := h x (.head _) y (.head _)
          rw [if_neg (by simp; omega), if_neg (by simp)]
      | cons z l => simp
    rw [List.cons_append, val_cons, val_cons, ih, e]
    omega
theorem wo_app (l r : List UInt8) : wo (l ++ r) = wo l ++ wo r := by unfold wo; rw [List.map_append]
theorem bd_C : ∀ b, b < 10 → ∀ x ∈ wo (blk 67 68 77 b), 100 ≤ x ∧ x ≤ 1000 := by decide
theorem bd_X : ∀ b, b < 10 → ∀ x ∈ wo (blk 88 76 67 b), 10 ≤ x ∧ x ≤ 100 := by decide
theorem bd_I : ∀ b, b < 10 → ∀ x ∈ wo (blk 73 86 88 b), 1 ≤ x ∧ x ≤ 10 := by decide
theorem bd_M : ∀ a, a < 5 → ∀ x ∈ wo (B0 a), x = 1000 := by decide
theorem v_C : ∀ b : Nat, b < 10 → val (wo (blk 67 68 77 b)) = 100 * (b : Int) := by decide
theorem v_X : ∀ b : Nat, b < 10 → val (wo (blk 88 76 67 b)) = 10 * (b : Int) := by decide
theorem v_I : ∀ b : Nat, b < 10 → val (wo (blk 73 86 88 b)) = (b : Int) := by decide
theorem v_M : ∀ a : Nat, a < 5 → val (wo (B0 a)) = 1000 * (a : Int) := by decide
theorem val_wr : ∀ a, a < 5 → ∀ b, b < 10 → ∀ c, c < 10 → ∀ d, d < 10 → val (wo (wr4 a b c d)) = 1000 * (a : Int) + 100 * b + 10 * c + d := by
  intro a ha b hb c hc d hd
  have h3 : ∀ y ∈ wo (blk 73 86 88 d), y ≤ 10 := fun y hy => (bd_I d hd y hy).2
  have h2 : ∀ y ∈ wo (blk 88 76 67 c) ++ wo (blk 73 86 88 d), y ≤ 100 := fun y hy => by
    rcases List.mem_append.mp hy with h | h
    · exact (bd_X c hc y h).2
    · have := h3 y h; omega
  have h1 : ∀ y ∈ wo (blk 67 68 77 b) ++ (wo (blk 88 76 67 c) ++ wo (blk 73 86 88 d)), y ≤ 1000 := fun y hy => by
    rcases List.mem_append.mp hy with h | h
    · exact (bd_C b hb y h).2
    · have := h2 y h; omega
  unfold wr4
  rw [wo_app, wo_app, wo_app]
  rw [val_app _ _ (fun x hx y hy => by have := bd_M a ha x hx; have := h1 y hy; omega)]
  rw [val_app _ _ (fun x hx y hy => by have := bd_C b hb x hx; have := h2 y hy; omega)]
  rw [val_app _ _ (fun x hx y hy => by have := bd_X c hc x hx; have := h3 y hy; omega)]
  rw [v_M a ha, v_C b hb, v_X c hc, v_I d hd]
  omega
end Mine
end
section
set_option maxRecDepth 100000
open PySem PySem.W PySem.Calls PyProof.Rows
namespace Mine
def u8 (x : Str) : List UInt8 := x.cps.toList.map (·.toUInt8)
def rem : List Row → Int → Int
  | [], n => n
  | r :: rs, n => rem rs (n % r.v)
theorem gr_app (sel : Row → Str) : ∀ (p q : List Row) (n : Int), gr sel (p ++ q) n = gr sel p n ++ gr sel q (rem p n)
  | [], _, _ => rfl
  | r :: p, q, n => by
    show List.replicate _ _ ++ gr sel (p ++ q) _ = (List.replicate _ _ ++ gr sel p _) ++ gr sel q (rem p _)
    rw [gr_app sel p q, List.append_assoc]
def q9 (b : Nat) : Nat := if b = 9 then 1 else 0
def q5 (b : Nat) : Nat := if 5 ≤ b ∧ b < 9 then 1 else 0
def q4 (b : Nat) : Nat := if b = 4 then 1 else 0
def q1 (b : Nat) : Nat := if b < 4 then b else if b < 5 then 0 else if b < 9 then b - 5 else 0
/-- the names of a digit, by what is taken of nine, five, four, one -/
def names (s9 s5 s4 s1 : Str) (b : Nat) : List Str := List.replicate (q9 b) s9 ++ (List.replicate (q5 b) s5 ++ (List.replicate (q4 b) s4 ++ List.replicate (q1 b) s1))
theorem gr_four (r9 r5 r4 r1 : Row) (n : Int) (b : Nat) (e9 : (n / r9.v).toNat = q9 b) (e5 : (n % r9.v / r5.v).toNat = q5 b) (e4 : (n % r9.v % r5.v / r4.v).toNat = q4 b) (e1 : (n % r9.v % r5.v % r4.v / r1.v).toNat = q1 b) :
    gr (fun r => r.up) [r9, r5, r4, r1] n = names r9.up r5.up r4.up r1.up b := by
  show List.replicate (n / r9.v).toNat r9.up ++ (List.replicate (n % r9.v / r5.v).toNat r5.up ++ (List.replicate (n % r9.v % r5.v / r4.v).toNat r4.up ++ (List.replicate (n % r9.v % r5.v % r4.v / r1.v).toNat r1.up ++ []))) = _
  rw [e9, e5, e4, e1, List.append_nil]
  rfl
def rM : Row := ⟨100, 1000, Str.ofString "M", Str.ofString "m"⟩
def rC : List Row := [⟨101, 900, Str.ofString "CM", Str.ofString "cm"⟩, ⟨102, 500, Str.ofString "D", Str.ofString "d"⟩, ⟨103, 400, Str.ofString "CD", Str.ofString "cd"⟩, ⟨104, 100, Str.ofString "C", Str.ofString "c"⟩]
def rX : List Row := [⟨105, 90, Str.ofString "XC", Str.ofString "xc"⟩, ⟨106, 50, Str.ofString "L", Str.ofString "l"⟩, ⟨107, 40, Str.ofString "XL", Str.ofString "xl"⟩, ⟨108, 10, Str.ofString "X", Str.ofString "x"⟩]
def rI : List Row := [⟨109, 9, Str.ofString "IX", Str.ofString "ix"⟩, ⟨110, 5, Str.ofString "V", Str.ofString "v"⟩, ⟨111, 4, Str.ofString "IV", Str.ofString "iv"⟩, ⟨112, 1, Str.ofString "I", Str.ofString "i"⟩]
theorem rows_cut : rowsT = [rM] ++ (rC ++ (rX ++ rI)) := rfl
theorem nm_C : ∀ b, b < 10 → ((names (Str.ofString "CM") (Str.ofString "D") (Str.ofString "CD") (Str.ofString "C") b).map u8).flatten = blk 67 68 77 b := by decide
theorem nm_X : ∀ b, b < 10 → ((names (Str.ofString "XC") (Str.ofString "L") (Str.ofString "XL") (Str.ofString "X") b).map u8).flatten = blk 88 76 67 b := by decide
theorem nm_I : ∀ b, b < 10 → ((names (Str.ofString "IX") (Str.ofString "V") (Str.ofString "IV") (Str.ofString "I") b).map u8).flatten = blk 73 86 88 b := by decide
theorem nm_M : ∀ a, a < 5 → ((List.replicate a (Str.ofString "M")).map u8).flatten = B0 a := by decide
theorem gr_C {b : Nat} {m : Int} (hb : b < 10) (h0 : 0 ≤ m) (h1 : m < 100) : gr (fun r => r.up) rC (100 * (b : Int) + m) = names (Str.ofString "CM") (Str.ofString "D") (Str.ofString "CD") (Str.ofString "C") b ∧ rem rC (100 * (b : Int) + m) = m := by
  refine ⟨gr_four _ _ _ _ _ b ?_ ?_ ?_ ?_, ?_⟩
  · show ((100 * (b : Int) + m) / 900).toNat = _
    unfold q9; split <;> omega
  · show ((100 * (b : Int) + m) % 900 / 500).toNat = _
    unfold q5; split <;> omega
  · show ((100 * (b : Int) + m) % 900 % 500 / 400).toNat = _
    unfold q4; rcases ten_cases hb with h | h | h | h | h | h | h | h | h | h <;> subst h <;> split <;> omega
  · show ((100 * (b : Int) + m) % 900 % 500 % 400 / 100).toNat = _
    unfold q1; split <;> (try split) <;> (try split) <;> omega
  · show (100 * (b : Int) + m) % 900 % 500 % 400 % 100 = m
    omega
theorem gr_X {b : Nat} {m : Int} (hb : b < 10) (h0 : 0 ≤ m) (h1 : m < 10) : gr (fun r => r.up) rX (10 * (b : Int) + m) = names (Str.ofString "XC") (Str.ofString "L") (Str.ofString "XL") (Str.ofString "X") b ∧ rem rX (10 * (b : Int) + m) = m := by
  refine ⟨gr_four _ _ _ _ _ b ?_ ?_ ?_ ?_, ?_⟩
  · show ((10 * (b : Int) + m) / 90).toNat = _
    unfold q9; split <;> omega
  · show ((10 * (b : Int) + m) % 90 / 50).toNat = _
    unfold q5; split <;> omega
  · show ((10 * (b : Int) + m) % 90 % 50 / 40).toNat = _
    unfold q4; rcases ten_cases hb with h | h | h | h | h | h | h | h | h | h <;> subst h <;> split <;> omega
  · show ((10 * (b : Int) + m) % 90 % 50 % 40 / 10).toNat = _
    unfold q1; split <;> (try split) <;> (try split) <;> omega
  · show (10 * (b : Int) + m) % 90 % 50 % 40 % 10 = m
    omega
theorem gr_I {b : Nat} (hb : b < 10) : gr (fun r => r.up) rI (b : Int) = names (Str.ofString "IX") (Str.ofString "V") (Str.ofString "IV") (Str.ofString "I") b := by
  refine gr_four _ _ _ _ _ b ?_ ?_ ?_ ?_
  · show ((b : Int) / 9).toNat = _
    unfold q9; split <;> omega
  · show ((b : Int) % 9 / 5).toNat = _
    unfold q5; split <;> omega
  · show ((b : Int) % 9 % 5 / 4).toNat = _
    unfold q4; rcases ten_cases hb with h | h | h | h | h | h | h | h | h | h <;> subst h <;> split <;> omega
  · show ((b : Int) % 9 % 5 % 4 / 1).toNat = _
    unfold q1; split <;> (try split) <;> (try split) <;> omega
theorem gr_wr : ∀ a : Nat, a < 5 → ∀ b : Nat, b < 10 → ∀ c : Nat, c < 10 → ∀ d : Nat, d < 10 → ((gr (fun r => r.up) rowsT (1000 * (a : Int) + 100 * b + 10 * c + d)).map u8).flatten = wr4 a b c d := by
  intro a ha b hb c hc d hd
  have hM : gr (fun r => r.up) [rM] (1000 * (a : Int) + 100 * b + 10 * c + d) = List.replicate a (Str.ofString "M") := by
    show List.replicate ((1000 * (a : Int) + 100 * b + 10 * c + d) / 1000).toNat (Str.ofString "M") ++ [] = _
    rw [List.append_nil, show ((1000 * (a : Int) + 100 * b + 10 * c + d) / 1000).toNat = a by omega]
  have hr : rem [rM] (1000 * (a : Int) + 100 * b + 10 * c + d) = 100 * (b : Int) + (10 * c + d) := by
    show (1000 * (a : Int) + 100 * b + 10 * c + d) % 1000 = _
    omega
  have hC := gr_C (b := b) (m := 10 * (c : Int) + d) hb (by omega) (by omega)
  have hX := gr_X (b := c) (m := (d : Int)) hc (by omega) (by omega)
  rw [rows_cut, gr_app, hM, hr, gr_app, hC.1, hC.2, gr_app, hX.1, hX.2, gr_I hd]
  simp only [List.map_append, List.flatten_append]
  rw [nm_M a ha, nm_C b hb, nm_X c hc, nm_I d hd]
  rfl
end Mine
end
section
set_option maxRecDepth 100000
open PySem PySem.W PySem.Calls PyProof.Rows
namespace Mine
theorem app_cps (a b : Str) : (a ++ b).cps.toList = a.cps.toList ++ b.cps.toList := by
  show (a.cps ++ b.cps).toList = _
  simp
theorem join_flat (l : List Str) : (Txt.join (Str.ofString "") l).cps.toList = (l.map (·.cps.toList)).flatten := by
  show (Builtin.Str.glued (Str.ofString "") l).cps.toList = _
  rw [StrLaws.glued_eq_join]
  induction l with
  | nil => rfl
  | cons a r ih =>
    cases r with
    | nil => simp [Str.join]
    | cons b r =>
      have e : Str.join (Str.ofString "") (a :: b :: r) = a ++ Str.ofString "" ++ Str.join (Str.ofString "") (b :: r) := rfl
      rw [e, app_cps, app_cps, ih]
      have z : (Str.ofString "").cps.toList = [] := by decide
      rw [z]
      simp
theorem cnt_blk (c : UInt8) : ∀ (n : Nat) (l : List UInt8), l = List.replicate (cnt c n l) c ++ l.drop (cnt c n l)
  | 0, l => by simp [cnt]
  | n + 1, l => by
    unfold cnt
    split
    · rename_i h
      have ih := cnt_blk c n (l.drop 1)
      cases l with
      | nil => simp at h
      | cons a r =>
        simp at h
        subst h
        simp only [List.drop_succ_cons, List.drop_zero] at ih ⊢
        rw [show 1 + cnt a n r = cnt a n r + 1 by omega, List.replicate_succ, List.drop_succ_cons, List.cons_append, ← ih]
    · simp
theorem blk_rep (one five ten : UInt8) : ∀ k, k ≤ 3 → blk one five ten k = List.replicate k one
  | 0, _ => rfl
  | 1, _ => rfl
  | 2, _ => rfl
  | 3, _ => rfl
theorem blk_five (one five ten : UInt8) : ∀ k, k ≤ 3 → blk one five ten (5 + k) = five :: List.replicate k one
  | 0, _ => rfl
  | 1, _ => rfl
  | 2, _ => rfl
  | 3, _ => rfl
theorem take2 {l : List UInt8} {a b : UInt8} (h : l.take 2 = [a, b]) : l = [a, b] ++ l.drop 2 := by
  rw [← h, List.take_append_drop]
theorem dig_blk (one five ten : UInt8) (l : List UInt8) : l = blk one five ten (digV one five ten l) ++ l.drop (digT one five ten l) := by
  unfold digV digT
  split
  · rename_i h
    exact take2 h
  split
  · rename_i h
    exact take2 h
  split
  · rename_i h
    rw [blk_five _ _ _ _ (cnt_le one 3 _)]
    cases l with
    | nil => simp at h
    | cons a r =>
      simp at h
      subst h
      simp only [List.drop_succ_cons, List.drop_zero]
      rw [show 1 + cnt one 3 r = cnt one 3 r + 1 by omega, List.drop_succ_cons, List.cons_append, ← cnt_blk]
  · rw [blk_rep _ _ _ _ (cnt_le one 3 _)]
    exact cnt_blk one 3 l
theorem dig9 (one five ten : UInt8) (l : List UInt8) : digV one five ten l ≤ 9 := (dig_le one five ten l).2
/-- what is read is a writing: its own -/
theorem parse_only {cs : List UInt8} (h : cs.length = I4 cs) : ∃ a b c d, a < 5 ∧ b < 10 ∧ c < 10 ∧ d < 10 ∧ cs = wr4 a b c d ∧ R4 cs = 1000 * a + 100 * b + 10 * c + d := by
  refine ⟨cnt 77 4 cs, digV 67 68 77 (cs.drop (I1 cs)), digV 88 76 67 (cs.drop (I2 cs)), digV 73 86 88 (cs.drop (I3 cs)), ?_, ?_, ?_, ?_, ?_, ?_⟩
  · have := cnt_le 77 4 cs; omega
  · have := dig9 67 68 77 (cs.drop (I1 cs)); omega
  · have := dig9 88 76 67 (cs.drop (I2 cs)); omega
  · have := dig9 73 86 88 (cs.drop (I3 cs)); omega
  · have e1 := cnt_blk 77 4 cs
    have e2 := dig_blk 67 68 77 (cs.drop (I1 cs))
    have e3 := dig_blk 88 76 67 (cs.drop (I2 cs))
    have e4 := dig_blk 73 86 88 (cs.drop (I3 cs))
    rw [List.drop_drop] at e2 e3 e4
    have z : cs.drop (I4 cs) = [] := List.drop_eq_nil_of_le (by omega)
    unfold wr4 B0
    rw [show I3 cs + digT 73 86 88 (cs.drop (I3 cs)) = I4 cs from rfl, z, List.append_nil] at e4
    rw [show I2 cs + digT 88 76 67 (cs.drop (I2 cs)) = I3 cs from rfl] at e3
    rw [show I1 cs + digT 67 68 77 (cs.drop (I1 cs)) = I2 cs from rfl] at e2
    rw [← e4, ← e3, ← e2]
    exact e1
  · unfold R4 R3 R2 R1; omega
theorem enc_join (l : List Str) : encL (Txt.join (Str.ofString "") l) = (l.map encL).flatten := by
  unfold encL
  rw [join_flat, List.map_flatten, List.map_map]
  rfl
theorem enc_row0 : ∀ d : Nat, d < 5 → encL ((TS.getD 0 []).getD d Str.empty) = B0 d := by decide +kernel
theorem enc_row1 : ∀ d : Nat, d < 10 → encL ((TS.getD 1 []).getD d Str.empty) = blk 67 68 77 d := by decide +kernel
theorem enc_row2 : ∀ d : Nat, d < 10 → encL ((TS.getD 2 []).getD d Str.empty) = blk 88 76 67 d := by decide +kernel
theorem enc_row3 : ∀ d : Nat, d < 10 → encL ((TS.getD 3 []).getD d Str.empty) = blk 73 86 88 d := by decide +kernel
theorem enc_W {a b c d : Nat} {n : Int} (ha : a < 5) (hb : b < 10) (hc : c < 10) (hd : d < 10) (hn : n = 1000 * a + 100 * b + 10 * c + d) (h1 : 1 ≤ n) : encL (W n) = wr4 a b c d := by
  have h0 : ¬ n < 1 := by omega
  have e0 : (dg n 0).toNat = a := by rw [dg_eq n 0 h0]; show (n / 1000 % 10).toNat = a; omega
  have e1 : (dg n 1).toNat = b := by rw [dg_eq n 1 h0]; show (n / 100 % 10).toNat = b; omega
  have e2 : (dg n 2).toNat = c := by rw [dg_eq n 2 h0]; show (n / 10 % 10).toNat = c; omega
  have e3 : (dg n 3).toNat = d := by rw [dg_eq n 3 h0]; show (n / 1 % 10).toNat = d; omega
  unfold W tx
  rw [enc_join, e0, e1, e2, e3]
  simp only [List.map_cons, List.map_nil, List.flatten_cons, List.flatten_nil, List.append_nil]
  rw [enc_row0 a ha, enc_row1 b hb, enc_row2 c hc, enc_row3 d hd]
  rfl
theorem digits {n : Int} (h1 : 1 ≤ n) (h2 : n ≤ 4999) : ∃ a b c d : Nat, a < 5 ∧ b < 10 ∧ c < 10 ∧ d < 10 ∧ n = 1000 * a + 100 * b + 10 * c + d :=
  ⟨(n / 1000).toNat, (n / 100 % 10).toNat, (n / 10 % 10).toNat, (n % 10).toNat, by omega, by omega, by omega, by omega, by omega⟩
theorem enc_inj {x y : Str} (hx : ∀ c ∈ x.cps.toList, c < 256) (hy : ∀ c ∈ y.cps.toList, c < 256) (h : encL x = encL y) : x = y := by
  unfold encL at h
  have key : ∀ (l l' : List Nat), (∀ c ∈ l, c < 256) → (∀ c ∈ l', c < 256) → l.map (·.toUInt8) = l'.map (·.toUInt8) → l = l' := by
    intro l
    induction l with
    | nil => intro l' _ _ h; cases l' with
      | nil => rfl
      | cons b r => simp at h
    | cons a r ih =>
      intro l' h1 h2 h
      cases l' with
      | nil => simp at h
      | cons b r' =>
        simp only [List.map_cons, List.cons.injEq] at h
        have e1 : a.toUInt8.toNat = b.toUInt8.toNat := by rw [h.1]
        have ha := h1 a (.head _)
        have hb := h2 b (.head _)
        simp only [Nat.toUInt8, UInt8.toNat_ofNat'] at e1
        have e2 : a = b := by omega
        rw [e2, ih r' (fun c hc => h1 c (.tail _ hc)) (fun c hc => h2 c (.tail _ hc)) h.2]
  have e := key _ _ hx hy h
  cases x; cases y
  simp only [Str.mk.injEq]
  exact Array.toList_inj.mp e
end Mine
end
section
set_option maxRecDepth 100000
open PySem PySem.W PySem.Calls PyProof.Rows
namespace Mine
def IsOpt : Option Int → Value → Prop
  | none, r => r = .none
  | some k, r => ∃ t, r = .int k t
theorem seven_lt {y : Str} (h7 : Seven y) : ∀ c ∈ y.cps.toList, c < 256 := by
  intro c hc
  rcases h7 c hc with h | h | h | h | h | h | h <;> omega
theorem ws_wo {y : Str} (hy : ∀ c ∈ y.cps.toList, c < 256) : wsOf y = wo (encL y) := by
  unfold wsOf wo encL
  rw [List.map_map]
  apply List.map_congr_left
  intro c hc
  have := hy c hc
  simp only [Function.comp, Nat.toUInt8, UInt8.toNat_ofNat']
  rw [Nat.mod_eq_of_lt (by omega)]
theorem V_val {y : Str} (h7 : Seven y) : V y = val (wo (encL y)) := by
  rw [← ws_wo (seven_lt h7)]; rfl
theorem enc_len (y : Str) : (encL y).length = y.cps.size := by simp [encL]
theorem W_lt {n : Int} : ∀ c ∈ (W n).cps.toList, c < 256 := by
  have key : ∀ l ∈ TS, ∀ x ∈ l, ∀ c ∈ x.cps.toList, c < 256 := by decide +kernel
  have keye : ∀ c ∈ (Str.empty).cps.toList, c < 256 := by decide
  have kt : ∀ k, ∀ c ∈ (tx n k).cps.toList, c < 256 := by
    intro k
    unfold tx
    rw [List.getD_eq_getElem?_getD, List.getD_eq_getElem?_getD]
    cases h1 : TS[k]? with
    | none => simpa using keye
    | some l =>
      simp only [Option.getD_some]
      cases h2 : l[(dg n k).toNat]? with
      | none => simpa using keye
      | some x => exact key l (List.mem_of_getElem? h1) x (List.mem_of_getElem? h2)
  intro c hc
  unfold W at hc
  rw [join_flat] at hc
  simp only [List.map_cons, List.map_nil, List.flatten_cons, List.flatten_nil, List.append_nil, List.mem_append] at hc
  rcases hc with h | h | h | h
  · exact kt _ c h
  · exact kt _ c h
  · exact kt _ c h
  · exact kt _ c h
/-- a number's writing, read: the number; valued: the number -/
theorem own_in {n : Int} (h1 : 1 ≤ n) (h2 : n ≤ 4999) : (encL (W n)).length = I4 (encL (W n)) ∧ ((R4 (encL (W n)) : Nat) : Int) = n ∧ val (wo (encL (W n))) = n := by
  obtain ⟨a, b, c, d, ha, hb, hc, hd, hn⟩ := digits h1 h2
  rw [enc_W ha hb hc hd hn h1]
  have p := parse_wr a ha b hb c hc d hd
  have v := val_wr a ha b hb c hc d hd
  refine ⟨p.1.symm, ?_, ?_⟩
  · rw [p.2]; omega
  · rw [v]; omega
theorem read_due_pure {x y z : Str} (h7 : Seven y) (hne : y.cps.size ≠ 0) (hp : ¬ (x = Str.ofString "" ∨ (x ≠ y ∧ x ≠ z))) :
    ∃ o, (∀ r, ReadOut (encL y) r → IsOpt o r) ∧ (∀ r, DueOut x y z r → IsOpt o r) := by
  by_cases h : (encL y).length = I4 (encL y)
  · obtain ⟨a, b, c, d, ha, hb, hc, hd, e, hR⟩ := parse_only h
    have hv : V y = 1000 * (a : Int) + 100 * b + 10 * c + d := by rw [V_val h7, e]; exact val_wr a ha b hb c hc d hd
    have hpos : 1 ≤ V y := by
      by_cases hz : 1 ≤ V y
      · exact hz
      · have ha0 : a = 0 := by omega
        have hb0 : b = 0 := by omega
        have hc0 : c = 0 := by omega
        have hd0 : d = 0 := by omega
        subst ha0 hb0 hc0 hd0
        have : (encL y).length = 0 := by rw [e]; rfl
        rw [enc_len] at this
        exact absurd this hne
    have hw : W (V y) = y := by
      apply enc_inj W_lt (seven_lt h7)
      rw [enc_W ha hb hc hd hv hpos, e]
    refine ⟨some (V y), ?_, ?_⟩
    · intro r hr
      unfold ReadOut at hr
      rw [if_pos h] at hr
      obtain ⟨t, rfl⟩ := hr
      refine ⟨t, ?_⟩
      congr 1
      rw [hR]; omega
    · intro r hr
      unfold DueOut at hr
      rw [if_neg hp, if_pos (by rw [if_neg (by omega)]; exact hw)] at hr
      exact hr
  · refine ⟨none, ?_, ?_⟩
    · intro r hr
      unfold ReadOut at hr
      rw [if_neg h] at hr
      exact hr
    · intro r hr
      unfold DueOut at hr
      rw [if_neg hp] at hr
      by_cases hq : (if V y < 1 ∨ V y > 4999 then Str.ofString "" else W (V y)) = y
      · exfalso
        by_cases hz : V y < 1 ∨ V y > 4999
        · rw [if_pos hz] at hq
          have : y.cps.size = 0 := by rw [← hq]; rfl
          exact hne this
        · rw [if_neg hz] at hq
          have o := own_in (n := V y) (by omega) (by omega)
          rw [hq] at o
          exact h o.1
      · rw [if_neg hq] at hr
        exact hr
/-! the fourteen letters -/
def Great (c : Nat) : Prop := c = 73 ∨ c = 86 ∨ c = 88 ∨ c = 76 ∨ c = 67 ∨ c = 68 ∨ c = 77
def Small (c : Nat) : Prop := c = 105 ∨ c = 118 ∨ c = 120 ∨ c = 108 ∨ c = 99 ∨ c = 100 ∨ c = 109
def Letters (x : Str) : Prop := ∀ c ∈ x.cps.toList, Great c ∨ Small c
theorem let_up {c : Nat} (h : Great c ∨ Small c) : Great (up1 c) ∧ c < 128 := by
  rcases h with h | h <;> rcases h with h | h | h | h | h | h | h <;> subst h <;> (constructor <;> (first | (unfold Great up1; simp) | omega))
theorem let_cls {c : Nat} (h : Great c ∨ Small c) : (Unicode.isUpper c = decide (up1 c = c)) ∧ (Unicode.isLower c = decide (lo1 c = c)) ∧ Unicode.isTitle c = false ∧ (up1 c = c ↔ ¬ lo1 c = c) := by
  rcases h with h | h <;> rcases h with h | h | h | h | h | h | h <;> subst h <;> decide +kernel
theorem up_eq {x : Str} (h : Letters x) : Txt.upper x = ⟨x.cps.map up1⟩ := upper_ascii fun c hc => (let_up (h c hc)).2
theorem lo_eq {x : Str} (h : Letters x) : Txt.lower x = ⟨x.cps.map lo1⟩ := lower_ascii fun c hc => (let_up (h c hc)).2
theorem up_seven {x : Str} (h : Letters x) : Seven (Txt.upper x) := by
  rw [up_eq h]
  intro c hc
  simp only [Array.toList_map, List.mem_map] at hc
  obtain ⟨a, ha, rfl⟩ := hc
  exact (let_up (h a ha)).1
theorem str_eq {x y : Str} : x = y ↔ x.cps.toList = y.cps.toList := by
  constructor
  · rintro rfl; rfl
  · intro e
    cases x; cases y
    simp only [Str.mk.injEq]
    exact Array.toList_inj.mp e
theorem map_fix {f : Nat → Nat} : ∀ {l : List Nat}, l.map f = l ↔ ∀ c ∈ l, f c = c
  | [] => by simp
  | a :: r => by simp [map_fix (l := r)]
theorem eq_up {x : Str} (h : Letters x) : x = Txt.upper x ↔ ∀ c ∈ x.cps.toList, up1 c = c := by
  rw [up_eq h, str_eq]
  simp only [Array.toList_map]
  exact ⟨fun e => map_fix.mp e.symm, fun e => (map_fix.mpr e).symm⟩
theorem eq_lo {x : Str} (h : Letters x) : x = Txt.lower x ↔ ∀ c ∈ x.cps.toList, lo1 c = c := by
  rw [lo_eq h, str_eq]
  simp only [Array.toList_map]
  exact ⟨fun e => map_fix.mp e.symm, fun e => (map_fix.mpr e).symm⟩
theorem isup_iff {x : Str} (h : Letters x) : Txt.isupper x = true ↔ (x.cps.toList ≠ [] ∧ ∀ c ∈ x.cps.toList, up1 c = c) := by
  unfold Txt.isupper
  rw [Bool.and_eq_true, Bool.not_eq_true', ← Array.any_toList, ← Array.any_toList, List.any_eq_true, List.any_eq_false]
  constructor
  · rintro ⟨⟨c, hc, _⟩, h2⟩
    refine ⟨List.ne_nil_of_mem hc, fun d hd => ?_⟩
    have q := let_cls (h d hd)
    have := h2 d hd
    rw [q.2.1, q.2.2.1] at this
    simp at this
    exact q.2.2.2.mpr this
  · rintro ⟨hne, h2⟩
    refine ⟨?_, fun d hd => ?_⟩
    · obtain ⟨c, hc⟩ := List.exists_mem_of_ne_nil _ hne
      exact ⟨c, hc, by rw [(let_cls (h c hc)).1]; simpa using h2 c hc⟩
    · have q := let_cls (h d hd)
      rw [q.2.1, q.2.2.1]
      simp
      exact q.2.2.2.mp (h2 d hd)
theorem islo_iff {x : Str} (h : Letters x) : Txt.islower x = true ↔ (x.cps.toList ≠ [] ∧ ∀ c ∈ x.cps.toList, lo1 c = c) := by
  unfold Txt.islower
  rw [Bool.and_eq_true, Bool.not_eq_true', ← Array.any_toList, ← Array.any_toList, List.any_eq_true, List.any_eq_false]
  constructor
  · rintro ⟨⟨c, hc, _⟩, h2⟩
    refine ⟨List.ne_nil_of_mem hc, fun d hd => ?_⟩
    have q := let_cls (h d hd)
    have := h2 d hd
    rw [q.1, q.2.2.1] at this
    simp at this
    by_cases e : lo1 d = d
    · exact e
    · exact absurd (q.2.2.2.mpr e) this
  · rintro ⟨hne, h2⟩
    refine ⟨?_, fun d hd => ?_⟩
    · obtain ⟨c, hc⟩ := List.exists_mem_of_ne_nil _ hne
      exact ⟨c, hc, by rw [(let_cls (h c hc)).2.1]; simpa using h2 c hc⟩
    · have q := let_cls (h d hd)
      rw [q.1, q.2.2.1]
      simp
      intro e
      exact q.2.2.2.mp e (h2 d hd)
end Mine
end
section
set_option maxRecDepth 100000
open PySem PySem.W PySem.Calls PyProof.Rows
namespace Mine
theorem len_nil {x : Str} : x.length = 0 ↔ x.cps.toList = [] := by
  show x.cps.size = 0 ↔ _
  rw [← Array.length_toList]
  exact List.length_eq_zero_iff
theorem empty_iff {x : Str} : x = Str.ofString "" ↔ x.cps.toList = [] := by
  rw [str_eq]
  have : (Str.ofString "").cps.toList = [] := by decide
  rw [this]
theorem read_due {x : Str} (h : Letters x) :
    ∃ o, (∀ r, ReadX x (encL (Txt.upper x)) r → IsOpt o r) ∧ (∀ r, DueOut x (Txt.upper x) (Txt.lower x) r → IsOpt o r) := by
  by_cases h0 : x.cps.toList = []
  · refine ⟨none, ?_, ?_⟩
    · intro r hr
      unfold ReadX at hr
      rw [if_pos (Or.inl (len_nil.mpr h0))] at hr
      exact hr
    · intro r hr
      unfold DueOut at hr
      rw [if_pos (Or.inl (empty_iff.mpr h0))] at hr
      exact hr
  by_cases hu : x = Txt.upper x ∨ x = Txt.lower x
  · have hp : ¬ (x = Str.ofString "" ∨ (x ≠ Txt.upper x ∧ x ≠ Txt.lower x)) := by
      rintro (e | ⟨e1, e2⟩)
      · exact h0 (empty_iff.mp e)
      · rcases hu with e | e
        · exact e1 e
        · exact e2 e
    have hm : ¬ (x.length = 0 ∨ (Txt.isupper x = false ∧ Txt.islower x = false)) := by
      rintro (e | ⟨e1, e2⟩)
      · exact h0 (len_nil.mp e)
      · rcases hu with e | e
        · rw [(isup_iff h).mpr ⟨h0, (eq_up h).mp e⟩] at e1; cases e1
        · rw [(islo_iff h).mpr ⟨h0, (eq_lo h).mp e⟩] at e2; cases e2
    have hne : (Txt.upper x).cps.size ≠ 0 := by
      rw [up_eq h]
      simp only [Array.size_map]
      intro e
      exact h0 (len_nil.mp e)
    obtain ⟨o, h1, h2⟩ := read_due_pure (z := Txt.lower x) (up_seven h) hne hp
    refine ⟨o, fun r hr => h1 r ?_, h2⟩
    unfold ReadX at hr
    rw [if_neg hm] at hr
    exact hr
  · refine ⟨none, ?_, ?_⟩
    · intro r hr
      unfold ReadX at hr
      rw [if_pos] at hr
      · exact hr
      · refine Or.inr ⟨?_, ?_⟩
        · cases e : Txt.isupper x with
          | false => rfl
          | true => exact absurd (Or.inl ((eq_up h).mpr ((isup_iff h).mp e).2)) hu
        · cases e : Txt.islower x with
          | false => rfl
          | true => exact absurd (Or.inr ((eq_lo h).mpr ((islo_iff h).mp e).2)) hu
    · intro r hr
      unfold DueOut at hr
      rw [if_pos (Or.inr ⟨fun e => hu (Or.inl e), fun e => hu (Or.inr e)⟩)] at hr
      exact hr
/-- the side conditions of the reading, for texts of the fourteen letters -/
theorem asc {x : Str} (h : Letters x) : Txt.isascii x = true := by
  unfold Txt.isascii
  rw [← Array.all_toList, List.all_eq_true]
  intro c hc
  exact decide_eq_true (let_up (h c hc)).2
theorem lt128 {x : Str} (h : Letters x) : ∀ c ∈ x.cps, c < 128 := fun c hc => (let_up (h c (by simpa using hc))).2
theorem up_let {x : Str} (h : Letters x) : Letters (Txt.upper x) := fun c hc => Or.inl (up_seven h c hc)
theorem up_len {x : Str} (h : Letters x) : (Txt.upper x).length = x.length := by
  rw [up_eq h]
  show (x.cps.map up1).size = x.cps.size
  simp
theorem enc_up {x : Str} (h : Letters x) (hu : Txt.isupper x = true) : encL x = encL (Txt.upper x) := by
  rw [← (eq_up h).mpr ((isup_iff h).mp hu).2]
theorem enc_lit {y : Str} (h7 : Seven y) : ∀ c ∈ encL y, (#[73, 86, 88, 76, 67, 68, 77] : Array UInt8).contains c = true := by
  intro c hc
  unfold encL at hc
  simp only [List.mem_map] at hc
  obtain ⟨a, ha, rfl⟩ := hc
  rcases h7 a ha with h | h | h | h | h | h | h <;> subst h <;> decide +kernel
theorem encL_len {x : Str} (h : Letters x) : (encL (Txt.upper x)).length = x.length := by
  rw [enc_len]
  exact up_len h
theorem gr_low : ∀ (rows : List Row) (n : Int), (∀ r ∈ rows, r.lo.cps.toList = r.up.cps.toList.map lo1) → (gr (fun r => r.lo) rows n).map (·.cps.toList) = (gr (fun r => r.up) rows n).map fun x => x.cps.toList.map lo1
  | [], _, _ => rfl
  | r :: rs, n, h => by
    simp only [gr, List.map_append, List.map_replicate]
    rw [gr_low rs _ fun q hq => h q (.tail _ hq), h r (.head _)]
theorem W_great (n : Int) : ∀ c ∈ (W n).cps.toList, Great c := by
  have key : ∀ l ∈ TS, ∀ x ∈ l, ∀ c ∈ x.cps.toList, c = 73 ∨ c = 86 ∨ c = 88 ∨ c = 76 ∨ c = 67 ∨ c = 68 ∨ c = 77 := by decide +kernel
  have kt : ∀ k, ∀ c ∈ (tx n k).cps.toList, Great c := by
    intro k
    unfold tx
    rw [List.getD_eq_getElem?_getD, List.getD_eq_getElem?_getD]
    cases h1 : TS[k]? with
    | none => intro c hc; simp at hc; exact absurd hc (by simp [Str.empty])
    | some l =>
      simp only [Option.getD_some]
      cases h2 : l[(dg n k).toNat]? with
      | none => intro c hc; simp at hc; exact absurd hc (by simp [Str.empty])
      | some x => exact key l (List.mem_of_getElem? h1) x (List.mem_of_getElem? h2)
  intro c hc
  unfold W at hc
  rw [join_flat] at hc
  simp only [List.map_cons, List.map_nil, List.flatten_cons, List.flatten_nil, List.append_nil, List.mem_append] at hc
  rcases hc with h | h | h | h <;> exact kt _ c h
theorem W_let (n : Int) : Letters (W n) := fun c hc => Or.inl (W_great n c hc)
theorem GU_lt (n : Int) : ∀ c ∈ (GU n).cps.toList, c < 256 := by
  have key : ∀ r ∈ rowsT, ∀ c ∈ r.up.cps.toList, c < 256 := by decide +kernel
  intro c hc
  unfold GU at hc
  rw [join_flat] at hc
  simp only [List.mem_flatten, List.mem_map] at hc
  obtain ⟨l, ⟨x, hx, rfl⟩, hc⟩ := hc
  obtain ⟨r, hr, e⟩ := gr_mem _ rowsT n x hx
  subst e
  exact key r hr c hc
/-- the greedy writing is the own writing -/
theorem GU_W {n : Int} (h1 : 1 ≤ n) (h2 : n ≤ 4999) : GU n = W n := by
  obtain ⟨a, b, c, d, ha, hb, hc, hd, hn⟩ := digits h1 h2
  apply enc_inj (GU_lt n) W_lt
  rw [enc_W ha hb hc hd hn h1]
  unfold GU
  rw [enc_join, hn]
  exact gr_wr a ha b hb c hc d hd
theorem GL_W {n : Int} (h1 : 1 ≤ n) (h2 : n ≤ 4999) : GL n = Txt.lower (W n) := by
  have hr : ∀ r ∈ rowsT, r.lo.cps.toList = r.up.cps.toList.map lo1 := by decide +kernel
  rw [lo_eq (W_let n), ← GU_W h1 h2, str_eq]
  unfold GL GU
  rw [join_flat, gr_low rowsT n hr]
  simp only [Array.toList_map]
  rw [join_flat, List.map_flatten, List.map_map]
  rfl
end Mine
end
section
set_option maxRecDepth 100000
open PySem PySem.W PySem.Calls PyProof.Rows
namespace Mine
theorem strOk_let {x : Str} (h : Letters x) : PyData.strOk x = true := by
  unfold PyData.strOk
  rw [← Array.all_toList, List.all_eq_true]
  intro c hc
  have := (let_up (h c hc)).2
  exact decide_eq_true (by omega)
theorem let_lo {c : Nat} (h : Great c ∨ Small c) : Small (lo1 c) := by
  rcases h with h | h <;> rcases h with h | h | h | h | h | h | h <;> subst h <;> (unfold Small lo1; simp)
theorem lo_let {x : Str} (h : Letters x) : Letters (Txt.lower x) := by
  rw [lo_eq h]
  intro c hc
  simp only [Array.toList_map, List.mem_map] at hc
  obtain ⟨a, ha, rfl⟩ := hc
  exact Or.inr (let_lo (h a ha))
theorem lo_len {x : Str} (h : Letters x) : (Txt.lower x).length = x.length := by
  rw [lo_eq h]
  show (x.cps.map lo1).size = x.cps.size
  simp
theorem W_len (n : Int) : (W n).length ≤ 16 := by
  have h0 := tx_len n 0
  have h1 := tx_len n 1
  have h2 := tx_len n 2
  have h3 := tx_len n 3
  show (W n).cps.size ≤ 16
  rw [← Array.length_toList]
  unfold W
  rw [join_flat]
  simp only [List.map_cons, List.map_nil, List.flatten_cons, List.flatten_nil, List.append_nil, List.length_append, Array.length_toList]
  have e : ∀ x : Str, x.length = x.cps.size := fun _ => rfl
  rw [e] at h0 h1 h2 h3
  omega
end Mine
end
section
set_option maxRecDepth 100000
open PySem PySem.W PySem.Calls PyProof.Rows
namespace Mine
theorem c_readL (w : World) {x : Str} {t : Tok} (h : Letters x) (hl : x.length ≤ 100) : CallsL w 143 [.str x t] 5 (ReadX x (encL (Txt.upper x))) := by
  have hu := up_len h
  have he := encL_len h
  refine c_read w x t _ (by omega) (by omega) (asc h) (lt128 h) (lt128 (up_let h)) (enc_up h) (fun _ _ => rfl) (enc_lit (up_seven h)) ?_ (by omega) he
  rw [PySem.sizeLine_eq, List.size_toArray]; omega
end Mine
end
section
set_option maxRecDepth 100000
open PySem PySem.W PySem.Calls PyProof.Rows
namespace Mine
theorem worth_bd (c : Nat) : 0 ≤ worthOf c ∧ worthOf c ≤ 1000 := by
  unfold worthOf
  repeat' split
  all_goals omega
theorem getD_bd {l : List Int} (h : ∀ z ∈ l, 0 ≤ z ∧ z ≤ 1000) (k : Nat) : 0 ≤ l.getD k 0 ∧ l.getD k 0 ≤ 1000 := by
  rw [List.getD_eq_getElem?_getD]
  cases e : l[k]? with
  | none => simp
  | some z => simpa using h z (List.mem_of_getElem? e)
theorem sum_bd : ∀ {l : List Int}, (∀ z ∈ l, -1000 ≤ z ∧ z ≤ 1000) → -1000 * (l.length : Int) ≤ l.sum ∧ l.sum ≤ 1000 * (l.length : Int)
  | [], _ => by simp
  | a :: r, h => by
    have h1 := h a (.head _)
    have h2 := sum_bd (l := r) fun z hz => h z (.tail _ hz)
    simp only [List.sum_cons, List.length_cons]
    omega
theorem V_bd {y : Str} (h : y.cps.size ≤ 100) : -1000000 ≤ V y ∧ V y ≤ 1000000 := by
  have hw : ∀ z ∈ wsOf y, 0 ≤ z ∧ z ≤ 1000 := by
    intro z hz
    unfold wsOf at hz
    obtain ⟨c, _, rfl⟩ := List.mem_map.mp hz
    exact worth_bd c
  have hs := sum_bd (l := (List.range (wsOf y).length).map (elt (wsOf y))) (by
    intro z hz
    obtain ⟨k, _, rfl⟩ := List.mem_map.mp hz
    unfold elt
    have h1 := getD_bd hw k
    split <;> omega)
  rw [List.length_map, List.length_range] at hs
  have e : V y = ((List.range (wsOf y).length).map (elt (wsOf y))).sum := rfl
  have e2 := ws_len y
  omega
theorem c_dueL (w : World) {x : Str} {t : Tok} (h : Letters x) (hl : x.length ≤ 100) : Calls w 157 [.str x t] 4 (DueOut x (Txt.upper x) (Txt.lower x)) := by
  have hu : (Txt.upper x).cps.size = x.length := up_len h
  refine c_due w x _ _ t rfl rfl (up_seven h) hl ?_ (by omega) ?_ (V_bd (by omega))
  · rw [PySem.sizeLine_eq]; omega
  · exact asc (up_let h)
end Mine
end
section
set_option maxRecDepth 100000
open PySem PySem.W PySem.Calls PyProof.Rows
namespace Mine
theorem up1_lo1 {c : Nat} (h : Great c) : up1 (lo1 c) = c := by
  rcases h with h | h | h | h | h | h | h <;> subst h <;> decide
theorem up1_great {c : Nat} (h : Great c) : up1 c = c := by
  rcases h with h | h | h | h | h | h | h <;> subst h <;> decide
theorem lo1_small {c : Nat} (h : Great c) : lo1 (lo1 c) = lo1 c := by
  rcases h with h | h | h | h | h | h | h <;> subst h <;> decide
theorem own_read {x : Str} {n : Int} {r : Value} (hx : Letters x) (hu : Txt.upper x = W n) (hp : x = Txt.upper x ∨ x = Txt.lower x) (h1 : 1 ≤ n) (h2 : n ≤ 4999) (h : ReadX x (encL (Txt.upper x)) r) : ∃ t, r = .int n t := by
  have o := own_in h1 h2
  rw [hu] at h
  have hne : x.cps.toList ≠ [] := by
    intro e
    have e1 : x.length = 0 := len_nil.mpr e
    have e2 := up_len hx
    rw [hu] at e2
    have e3 := enc_len (W n)
    have e4 : (W n).cps.size = (W n).length := rfl
    have e5 : encL (W n) = [] := List.length_eq_zero_iff.mp (by omega)
    have e6 := o.2.2
    rw [e5] at e6
    have : val (wo []) = 0 := by decide
    omega
  have hm : ¬ (x.length = 0 ∨ (Txt.isupper x = false ∧ Txt.islower x = false)) := by
    rintro (e | ⟨e1, e2⟩)
    · exact hne (len_nil.mp e)
    · rcases hp with e | e
      · rw [(isup_iff hx).mpr ⟨hne, (eq_up hx).mp e⟩] at e1; cases e1
      · rw [(islo_iff hx).mpr ⟨hne, (eq_lo hx).mp e⟩] at e2; cases e2
  unfold ReadX at h
  rw [if_neg hm] at h
  unfold ReadOut at h
  rw [if_pos o.1, o.2.1] at h
  exact h
theorem W_up (n : Int) : Txt.upper (W n) = W n := by
  have h := W_let n
  have hg : ∀ c ∈ (W n).cps.toList, Great c := W_great n
  exact ((eq_up h).mpr fun c hc => up1_great (hg c hc)).symm
theorem W_lowup (n : Int) : Txt.upper (Txt.lower (W n)) = W n := by
  have h := W_let n
  have hg : ∀ c ∈ (W n).cps.toList, Great c := W_great n
  rw [up_eq (lo_let h), lo_eq h, str_eq]
  simp only [Array.toList_map, List.map_map]
  exact map_fix.mpr fun c hc => up1_lo1 (hg c hc)
theorem W_low2 (n : Int) : Txt.lower (W n) = Txt.lower (Txt.lower (W n)) := by
  have h := W_let n
  refine (eq_lo (lo_let h)).mpr ?_
  rw [lo_eq h]
  intro c hc
  simp only [Array.toList_map, List.mem_map] at hc
  obtain ⟨a, ha, rfl⟩ := hc
  exact lo1_small (W_great n a ha)
theorem own_W {n : Int} {r : Value} (h1 : 1 ≤ n) (h2 : n ≤ 4999) (h : ReadX (W n) (encL (Txt.upper (W n))) r) : ∃ t, r = .int n t :=
  own_read (W_let n) (W_up n) (Or.inl (W_up n).symm) h1 h2 h
theorem own_lW {n : Int} {r : Value} (h1 : 1 ≤ n) (h2 : n ≤ 4999) (h : ReadX (Txt.lower (W n)) (encL (Txt.upper (Txt.lower (W n)))) r) : ∃ t, r = .int n t :=
  own_read (lo_let (W_let n)) (W_lowup n) (Or.inr (W_low2 n)) h1 h2 h
end Mine
end
section
set_option maxRecDepth 100000
open PySem PySem.W PySem.Calls PyProof.Rows
namespace Mine
/-- a text of the fourteen letters, of `k` signs at most -/
def LT (k : Nat) (x : Str) : Prop := Letters x ∧ x.length ≤ k
theorem lt_W (n : Int) : LT 16 (W n) := ⟨W_let n, W_len n⟩
theorem lt_lower {k : Nat} {x : Str} (h : LT k x) : LT k (Txt.lower x) := ⟨lo_let h.1, by rw [lo_len h.1]; exact h.2⟩
theorem let_slice {x : Str} (h : Letters x) (l u : Option Int) : Letters (Txt.slice x l u) := by
  unfold Txt.slice
  split
  · exact h
  · intro c hc
    simp only [List.mem_filterMap] at hc
    obtain ⟨i, _, hi⟩ := hc
    exact h c (by simpa using Array.mem_of_getElem? hi)
theorem lt_slice {k : Nat} {x : Str} (h : LT k x) (l u : Option Int) : LT k (Txt.slice x l u) :=
  ⟨let_slice h.1 l u, Nat.le_trans (PyProof.Txt.length_slice_le x l u) h.2⟩
theorem lt_app {j k : Nat} {x y : Str} (hx : LT j x) (hy : LT k y) : LT (j + k) (x ++ y) := by
  refine ⟨fun c hc => ?_, ?_⟩
  · rw [app_cps, List.mem_append] at hc
    rcases hc with h | h
    · exact hx.1 c h
    · exact hy.1 c h
  · have h1 : (x ++ y).length = x.length + y.length := by
      show (x.cps ++ y.cps).size = _
      rw [Array.size_append]; rfl
    have := hx.2
    have := hy.2
    omega
theorem lt_lit (s : Str) (k : Nat) (h : (s.cps.toList.all fun c => decide (c = 73) || decide (c = 86) || decide (c = 88) || decide (c = 76) || decide (c = 67) || decide (c = 68) || decide (c = 77)) = true) (hl : s.length ≤ k) : LT k s := by
  refine ⟨fun c hc => Or.inl ?_, hl⟩
  have := List.all_eq_true.mp h c hc
  simp only [Bool.or_eq_true, decide_eq_true_eq] at this
  unfold Great
  omega
theorem W_pos {n : Int} (h1 : 1 ≤ n) (h2 : n ≤ 4999) : 1 ≤ (W n).length := by
  have o := own_in h1 h2
  have e3 := enc_len (W n)
  have e4 : (W n).cps.size = (W n).length := rfl
  by_cases h : (W n).length = 0
  · exfalso
    have e5 : encL (W n) = [] := List.length_eq_zero_iff.mp (by omega)
    have e6 := o.2.2
    rw [e5] at e6
    have : val (wo []) = 0 := by decide
    omega
  · omega
section
variable {prog : Program} {w : World} {A : Around} {E : Value → Shared → Prop} {s : Shared} {value slice : PySem.Expr} {x y : Str} {t u u1 u2 : Tok} {h₀ : Heap} {L : Addr} {m : Str → Option Value} {news : List (Addr × Obj)} {j k : Nat} {Q : Value → Shared → Prop}
theorem lt_room {k : Nat} {x : Str} (h : LT k x) (hk : k ≤ 1000) : x.length ≤ sizeLine := by
  rw [PySem.sizeLine_eq]; have := h.2; omega
theorem ls_ns {i : Int} (hx : LT k x) (hk : k ≤ 1000) (hF : Fr h₀ L s.heap m) (hN : News h₀ L s.heap news)
    (h : ∀ y h' t' k', LT k y → Fr h₀ L h' m → News h₀ L h' news → Q (.str y t') { s with heap := h', toks := k' })
    (hs : subscripted slice false (.str x t) (.ref s.heap.objs.size) = operate [.ref s.heap.objs.size, .str x t] (getItem (.str x t) (.ref s.heap.objs.size)) := by with_unfolding_all rfl)
    (ht : ∀ r, letTemporaryGo value (.str x t) r = pure () := by intro _; with_unfolding_all rfl) :
    wpAny (model prog w) A (subscriptTail value slice (.str x t) (.ref s.heap.objs.size)) Q E { s with heap := s.heap.push { cls := .type "slice", data := .fields #[.none, .int i u1, .none] } } :=
  slice_strN_ns hF hN (fun h' t' k' F' N' => h _ h' t' k' (lt_slice hx _ _) F' N') hs ht (lt_room hx hk)
theorem ls_sn {i : Int} (hx : LT k x) (hk : k ≤ 1000) (hF : Fr h₀ L s.heap m) (hN : News h₀ L s.heap news)
    (h : ∀ y h' t' k', LT k y → Fr h₀ L h' m → News h₀ L h' news → Q (.str y t') { s with heap := h', toks := k' })
    (hs : subscripted slice false (.str x t) (.ref s.heap.objs.size) = operate [.ref s.heap.objs.size, .str x t] (getItem (.str x t) (.ref s.heap.objs.size)) := by with_unfolding_all rfl)
    (ht : ∀ r, letTemporaryGo value (.str x t) r = pure () := by intro _; with_unfolding_all rfl) :
    wpAny (model prog w) A (subscriptTail value slice (.str x t) (.ref s.heap.objs.size)) Q E { s with heap := s.heap.push { cls := .type "slice", data := .fields #[.int i u1, .none, .none] } } :=
  slice_strN_sn hF hN (fun h' t' k' F' N' => h _ h' t' k' (lt_slice hx _ _) F' N') hs ht (lt_room hx hk)
theorem la_add (hx : LT j x) (hy : LT k y) (hk : j + k ≤ 1000) (h : ∀ z t' k', LT (j + k) z → Q (.str z t') { s with toks := k' }) : wpAny (model prog w) A (binaryOp .Add (.str x t) (.str y u)) Q E s := by
  have h1 := hx.2
  have h2 := hy.2
  exact PyProof.Rows.SBL.add (hsz := by rw [PySem.sizeLine_eq]; omega) (fun t' k' _ => h _ t' k' (lt_app hx hy))
theorem ll_lower (hx : LT k x) (hk : k ≤ 100) (h : ∀ y t', LT k y → Q (.str y t') { s with toks := s.toks + 1 }) : wpAny (model prog w) A (call (.builtin "str.lower") [.str x t]) Q E s := by
  have h1 := hx.2
  have h2 := (lt_lower hx).2
  exact SC.lower (short24 (by omega)) (h _ _ (lt_lower hx))
theorem li_item {i : Int} (hx : LT k x) (h0 : 0 ≤ i) (h1 : i < x.length) (hk : k ≤ 100) (h : ∀ y t' k', LT 1 y → Q (.str y t') { s with toks := k' })
    (hs : subscripted slice false (.str x t) (.int i u) = operate [.str x t, .int i u] (getItem (.str x t) (.int i u)) := by with_unfolding_all rfl)
    (ht : ∀ r, letTemporaryGo value (.str x t) r = pure () := by intro _; with_unfolding_all rfl) :
    wpAny (model prog w) A (subscriptTail value slice (.str x t) (.int i u)) Q E s := by
  have hl := hx.2
  refine item_str (PyProof.Rows.fitsSsize_of (N := 9223372036854775808) (by omega) (by omega) (Int.le_refl _)) (by omega) h1 (fun hh => h _ _ _ ⟨fun c hc => ?_, hh.2⟩) hs ht
  have hs := charAt_isSome (x := x) (i := i) (by omega) h1
  unfold Txt.item at hc
  cases e : Txt.charAt x i with
  | none => rw [e] at hs; cases hs
  | some d =>
    rw [e] at hc
    simp at hc
    subst hc
    unfold Txt.charAt at e
    obtain ⟨p, _, hp⟩ := Option.bind_eq_some_iff.mp e
    exact hx.1 c (by simpa using Array.mem_of_getElem? hp)
theorem li_seven {i : Int} (h0 : 0 ≤ i) (h1 : i < 7) (h : ∀ y t' k', LT 1 y → Q (.str y t') { s with toks := k' })
    (hs : subscripted slice false (.str (Str.ofString "IVXLCDM") t) (.int i u) = operate [.str (Str.ofString "IVXLCDM") t, .int i u] (getItem (.str (Str.ofString "IVXLCDM") t) (.int i u)) := by with_unfolding_all rfl)
    (ht : ∀ r, letTemporaryGo value (.str (Str.ofString "IVXLCDM") t) r = pure () := by intro _; with_unfolding_all rfl) :
    wpAny (model prog w) A (subscriptTail value slice (.str (Str.ofString "IVXLCDM") t) (.int i u)) Q E s :=
  li_item (k := 7) (lt_lit _ 7 (by decide) (by decide)) h0 (by have e : (Str.ofString "IVXLCDM").length = 7 := by decide
                                                               rw [e]; exact h1) (by decide) h hs ht
end
end Mine
end
section
set_option maxRecDepth 100000
open PySem PySem.W PySem.Calls PyProof.Rows
namespace Mine
/-- a number's own writing, in great letters or in small -/
def Own (n : Int) (x : Str) : Prop := x = W n ∨ x = Txt.lower (W n)
/-- the state's list at `St` -/
def StAt (_St S : Addr) (c : Nat) (o : Obj) : Prop := IsSt S c o
def RdA (x : Str) (r : Value) : Prop := ReadX x (encL (Txt.upper x)) r
def DuA (x : Str) (r : Value) : Prop := DueOut x (Txt.upper x) (Txt.lower x) r
theorem own_int {n : Int} {x : Str} {r : Value} (o : Own n x) (h1 : 1 ≤ n) (h2 : n ≤ 4999) (h : ReadX x (encL (Txt.upper x)) r) : ∃ t, r = .int n t := by
  rcases o with e | e
  · subst e; exact own_W h1 h2 h
  · subst e; exact own_lW h1 h2 h
theorem same_rd {k : Nat} {x : Str} {a b : Value} (h : LT k x) (ha : RdA x a) (hb : DuA x b) : (a = .none ∧ b = .none) ∨ ∃ n t u, a = .int n t ∧ b = .int n u := by
  obtain ⟨o, h1, h2⟩ := read_due h.1
  have p := h1 a ha
  have q := h2 b hb
  cases o with
  | none => exact .inl ⟨p, q⟩
  | some n =>
    obtain ⟨t, e⟩ := p
    obtain ⟨u, f⟩ := q
    exact .inr ⟨n, t, u, e, f⟩
theorem w_own {n : Int} {r : Value} (h : WOut n r) (h1 : 1 ≤ n) (h2 : n ≤ 4999) : ∃ wr lw t, r = .str wr t ∧ wr = W n ∧ lw = Txt.lower (W n) ∧ LT 16 wr ∧ LT 16 lw ∧ Own n wr ∧ Own n lw ∧ 1 ≤ wr.length ∧ wr.length ≤ 16 := by
  obtain ⟨t, e⟩ := h
  rw [if_neg (by omega)] at e
  exact ⟨W n, Txt.lower (W n), t, e, rfl, rfl, lt_W n, lt_lower (lt_W n), .inl rfl, .inr rfl, W_pos h1 h2, W_len n⟩
section
variable {w : World} {mean : ExcName → Option Value} {mg mb : Str → Option Value} {dp un : Nat} {gd : Option (List Code)} {cn : Str} {cs : Scope} {a : Addr} {ccd : Value} {cl : List (Str × Addr)} {A₀ : Around} {h₀ : Heap} {L : Addr} {m : Str → Option Value} {news : List (Addr × Obj)} {s : Shared} {Q E : Value → Shared → Prop}
theorem CallsL.at {f : Addr} {vs : List Value} {d : Nat} {Out : Value → Prop} (c : CallsL w f vs d Out)
    (B : Below A₀ h₀ [] h₀) (F : Fr h₀ L s.heap m) (X : (Mine.hd.heap_39 w.params).In h₀) (N : News h₀ L s.heap news)
    (T : Top Mine.hd.view_39 (looseW Mine.hd.view_39 [Str.ofString "RomanNumeral", Str.ofString "_ROMAN_NUMERAL_PREFIXES", Str.ofString "_law_tables", Str.ofString "_law_worth"]) mean mg mb h₀)
    (hk : cs.kind = .function) (hd : dp + d < recursionLimit) (hu : un + 8 * d < cLine)
    (h : ∀ r h' tk', Fr h₀ L h' m → News h₀ L h' news → Out r → Q r { s with heap := h', toks := tk' }) :
    wpAny (model PySem.Challenge.rw_ff0005_01.row.prog w) (ktrTop dp un gd cn cs L a ccd cl []) (call (.ref f) vs) Q E s := c mean mg mb dp un gd cn cs a ccd cl A₀ h₀ L m news s Q E B F X N T hk hd hu h
theorem c_nextP {outer : List Env} {base : Heap} {St S : Addr} {c : Nat} {t : Tok} {vs : List Value} {ns : List Int} {o oS : Obj} {g : Obj → List (Addr × Obj)} {lim : Int} (hO : StAt St S c o) (U : UpdF St o news g)
    (B : Below A₀ base outer h₀) (F : Fr h₀ L s.heap m) (X : (Mine.hd.heap_39 w.params).In h₀) (N : News h₀ L s.heap news)
    (T : Top Mine.hd.view_39 (looseW Mine.hd.view_39 [Str.ofString "RomanNumeral", Str.ofString "_ROMAN_NUMERAL_PREFIXES", Str.ofString "_law_tables", Str.ofString "_law_worth"]) mean mg mb h₀)
    (hk : cs.kind = .function) (hd : dp + 2 < recursionLimit) (hu : un + 8 * 2 < cLine) (hS : ∀ o', (S, oS) ∈ g o') (hLs : IsLs vs oS) (hI : IntsAre vs ns) (hn : ns.length ≤ 40) (hc : c ≤ 1000) (hl0 : 0 < lim) (hl1 : lim ≤ 5000)
    (h : ∀ r h' tk' t' o', Fr h₀ L h' m → News h₀ L h' (g o') → StAt St S (c + 1) o' → 0 ≤ r → r < lim → Q (.int r t') { s with heap := h', toks := tk' }) :
    wpAny (model PySem.Challenge.rw_ff0005_01.row.prog w) (ktrTop dp un gd cn cs L a ccd cl outer) (call (.ref 126) [.ref St, .int lim t]) Q E s :=
  c_next w B F X N T hk hd hu U hO hS hLs hI hn hc hl0 hl1 h
/-- the reading of the own writing -/
theorem read_own {n : Int} {x : Str} {t : Tok} (hO : Own n x) (hx : LT 16 x) (h1 : 1 ≤ n) (h2 : n ≤ 4999)
    (B : Below A₀ h₀ [] h₀) (F : Fr h₀ L s.heap m) (X : (Mine.hd.heap_39 w.params).In h₀) (N : News h₀ L s.heap news)
    (T : Top Mine.hd.view_39 (looseW Mine.hd.view_39 [Str.ofString "RomanNumeral", Str.ofString "_ROMAN_NUMERAL_PREFIXES", Str.ofString "_law_tables", Str.ofString "_law_worth"]) mean mg mb h₀)
    (hk : cs.kind = .function) (hd : dp + 5 < recursionLimit) (hu : un + 8 * 5 < cLine)
    (h : ∀ h' tk' t', Fr h₀ L h' m → News h₀ L h' news → Q (.int n t') { s with heap := h', toks := tk' }) :
    wpAny (model PySem.Challenge.rw_ff0005_01.row.prog w) (ktrTop dp un gd cn cs L a ccd cl []) (call (.ref 143) [.str x t]) Q E s := by
  refine CallsL.at (c_readL w hx.1 (by have := hx.2; omega)) B F X N T hk hd hu (fun r h' tk' F' N' hr => ?_)
  obtain ⟨u, e⟩ := own_int hO h1 h2 hr
  subst e
  exact h h' tk' u F' N'
theorem read_any {k : Nat} {x : Str} {t : Tok} (hx : LT k x) (hk' : k ≤ 100)
    (B : Below A₀ h₀ [] h₀) (F : Fr h₀ L s.heap m) (X : (Mine.hd.heap_39 w.params).In h₀) (N : News h₀ L s.heap news)
    (T : Top Mine.hd.view_39 (looseW Mine.hd.view_39 [Str.ofString "RomanNumeral", Str.ofString "_ROMAN_NUMERAL_PREFIXES", Str.ofString "_law_tables", Str.ofString "_law_worth"]) mean mg mb h₀)
    (hk : cs.kind = .function) (hd : dp + 5 < recursionLimit) (hu : un + 8 * 5 < cLine)
    (h : ∀ r h' tk', Fr h₀ L h' m → News h₀ L h' news → RdA x r → Q r { s with heap := h', toks := tk' }) :
    wpAny (model PySem.Challenge.rw_ff0005_01.row.prog w) (ktrTop dp un gd cn cs L a ccd cl []) (call (.ref 143) [.str x t]) Q E s :=
  CallsL.at (c_readL w hx.1 (Nat.le_trans hx.2 hk')) B F X N T hk hd hu h
theorem due_any {k : Nat} {x : Str} {t : Tok} {r₁ : Value} (hR : RdA x r₁) (hx : LT k x) (hk' : k ≤ 100)
    (B : Below A₀ h₀ [] h₀) (F : Fr h₀ L s.heap m) (X : (Mine.hd.heap_39 w.params).In h₀) (N : News h₀ L s.heap news)
    (T : Top Mine.hd.view_39 (looseW Mine.hd.view_39 [Str.ofString "RomanNumeral", Str.ofString "_ROMAN_NUMERAL_PREFIXES", Str.ofString "_law_tables", Str.ofString "_law_worth"]) mean mg mb h₀)
    (hk : cs.kind = .function) (hd : dp + 4 < recursionLimit) (hu : un + 8 * 4 < cLine)
    (h : ∀ r h' tk', Fr h₀ L h' m → News h₀ L h' news → ((r₁ = .none ∧ r = .none) ∨ ∃ n t u, r₁ = .int n t ∧ r = .int n u) → Q r { s with heap := h', toks := tk' }) :
    wpAny (model PySem.Challenge.rw_ff0005_01.row.prog w) (ktrTop dp un gd cn cs L a ccd cl []) (call (.ref 157) [.str x t]) Q E s :=
  Calls.at (c_dueL w hx.1 (Nat.le_trans hx.2 hk')) B F X N T hk hd hu (fun r h' tk' F' N' hr => h r h' tk' F' N' (same_rd hx hR hr))
theorem told_own {n : Int} {wr lw : Str} {t : Tok} (hw : wr = W n) (hl : lw = Txt.lower (W n)) (h1 : 1 ≤ n) (h2 : n ≤ 4999)
    (B : Below A₀ h₀ [] h₀) (F : Fr h₀ L s.heap m) (X : (Mine.hd.heap_39 w.params).In h₀) (N : News h₀ L s.heap news)
    (T : Top Mine.hd.view_39 (looseW Mine.hd.view_39 [Str.ofString "RomanNumeral", Str.ofString "_ROMAN_NUMERAL_PREFIXES", Str.ofString "_law_tables", Str.ofString "_law_worth"]) mean mg mb h₀)
    (hk : cs.kind = .function) (hd : dp + 5 < recursionLimit) (hu : un + 8 * 5 < cLine)
    (h : ∀ T h' tk' t1 t2, Fr h₀ L h' m → News h₀ L h' ((T, ({ cls := .type "tuple", data := .seq #[.str wr t1, .str lw t2] } : Obj)) :: news) → (∀ p ∈ news, p.1 < T) → Q (.ref T) { s with heap := h', toks := tk' }) :
    wpAny (model PySem.Challenge.rw_ff0005_01.row.prog w) (ktrTop dp un gd cn cs L a ccd cl []) (call (.ref 150) [.int n t]) Q E s := by
  refine c_told w B F X N T hk hd hu ⟨by omega, by omega⟩ (fun hb => by omega) (fun _ T' h' tk' t1 t2 F' N' l => ?_)
  rw [GU_W h1 h2, GL_W h1 h2, ← hl, ← hw] at N'
  exact h T' h' tk' t1 t2 F' N' l
theorem told_none {n : Int} {t : Tok} (hn : n < 1 ∨ n > 4999) (h1 : -100000 ≤ n) (h2 : n ≤ 100000)
    (B : Below A₀ h₀ [] h₀) (F : Fr h₀ L s.heap m) (X : (Mine.hd.heap_39 w.params).In h₀) (N : News h₀ L s.heap news)
    (T : Top Mine.hd.view_39 (looseW Mine.hd.view_39 [Str.ofString "RomanNumeral", Str.ofString "_ROMAN_NUMERAL_PREFIXES", Str.ofString "_law_tables", Str.ofString "_law_worth"]) mean mg mb h₀)
    (hk : cs.kind = .function) (hd : dp + 5 < recursionLimit) (hu : un + 8 * 5 < cLine)
    (h : ∀ h' tk', Fr h₀ L h' m → News h₀ L h' news → Q .none { s with heap := h', toks := tk' }) :
    wpAny (model PySem.Challenge.rw_ff0005_01.row.prog w) (ktrTop dp un gd cn cs L a ccd cl []) (call (.ref 150) [.int n t]) Q E s :=
  c_told w B F X N T hk hd hu ⟨h1, h2⟩ (fun _ h' tk' F' N' => h h' tk' F' N') (fun hg => absurd hn hg)
end
section
variable {prog : Program} {w : World} {A : Around} {E : Value → Shared → Prop} {s : Shared} {t u : Tok} {Q : Value → Shared → Prop}
theorem low_own {n : Int} {wr lw : Str} (hw : wr = W n) (hl : lw = Txt.lower (W n)) (hx : LT 16 wr) (h : ∀ t', Q (.str lw t') { s with toks := s.toks + 1 }) : wpAny (model prog w) A (call (.builtin "str.lower") [.str wr t]) Q E s := by
  have e : lw = Txt.lower wr := by rw [hl, hw]
  subst e
  have h1 := hx.2
  have h2 := (lt_lower hx).2
  exact SC.lower (short24 (by omega)) (h _)
theorem ne_self {n : Int} (h : Q (.bool false) s) : wpAny (model prog w) A (compareOp .NotEq (.int n t) (.int n u)) Q E s :=
  ne_int (by rw [show (n != n) = false by simp]; exact h)
theorem eq_self {n : Int} (h : Q (.bool true) s) : wpAny (model prog w) A (compareOp .Eq (.int n t) (.int n u)) Q E s :=
  eq_int (by rw [show (n == n) = true by simp]; exact h)
theorem shapedLT {j k : Nat} {x y : Str} (hx : LT j x) (hy : LT k y) : SeqAt.shaped (.tuple [.str x, .str y]) = true := by
  simp [SeqAt.shaped, PyData.canLay0, PyData.canLayAll0, PyData.depth, PyData.depthAll, strOk_let hx.1, strOk_let hy.1]
theorem st0 {St S : Addr} {t : Tok} {k : Nat} : StAt St S 0 (W.listOf #[.ref S, .int 0 t] k) := ⟨rfl, t, k, rfl⟩
theorem ls0 {vs : List Value} {k : Nat} : IsLs vs (W.listOf vs.toArray k) := ⟨rfl, k, rfl⟩
end
end Mine
end
section
set_option maxRecDepth 100000
open PySem PySem.W PySem.Calls PyProof.Rows PyProof.Rows.LCg
namespace Mine
theorem lt_up {j k : Nat} {x : Str} (h : LT j x) (hk : j ≤ k) : LT k x := ⟨h.1, Nat.le_trans h.2 hk⟩
theorem lt_nil : LT 0 (Str.ofString "") := lt_lit _ 0 (by decide) (by decide)
/-- the item is a text of the letters -/
def TxV (v : Value) : Prop := ∃ x t, v = .str x t ∧ LT 40 x
theorem tx_of {j : Nat} {x : Str} {t : Tok} (h : LT j x) (hk : j ≤ 40) : TxV (.str x t) := ⟨x, t, rfl, lt_up h hk⟩
def AllTx : List Value → Prop
  | [] => True
  | v :: r => TxV v ∧ AllTx r
theorem allTx_mem : ∀ {l : List Value}, AllTx l → ∀ v ∈ l, TxV v
  | [], _, _, h => nomatch h
  | _ :: _, a, v, h => by
    rcases List.mem_cons.mp h with rfl | h
    · exact a.1
    · exact allTx_mem a.2 v h
theorem allTx_at {l : List Value} {i : Nat} {v : Value} (h : AllTx l) (e : l.toArray[i]? = some v) : ∃ x t, v = .str x t ∧ LT 40 x :=
  allTx_mem h v (List.mem_of_getElem? (by simpa using e))
theorem allTx_nil : AllTx [] := trivial
theorem allTx_cons {v : Value} {r : List Value} (h : TxV v) (h' : AllTx r) : AllTx (v :: r) := ⟨h, h'⟩
theorem strs_app : ∀ {xs ys : List Value} {l k : List Str}, StrsAre xs l → StrsAre ys k → StrsAre (xs ++ ys) (l ++ k)
  | _, _, _, _, .nil, h => h
  | _, _, _, _, .cons z u r, h => .cons z u (strs_app r h)
theorem strs_lt : ∀ {ys : List Value}, (∀ (i : Nat) (v : Value), ys[i]? = some v → ∃ x t, v = .str x t ∧ LT 1 x) → ∃ l, StrsAre ys l ∧ (∀ a ∈ l, LT 1 a) ∧ l.length = ys.length
  | [], _ => ⟨[], .nil, (fun a ha => absurd ha (List.not_mem_nil)), rfl⟩
  | y :: r, h => by
    obtain ⟨x, t, rfl, hx⟩ := h 0 y rfl
    obtain ⟨l, h1, h2, h3⟩ := strs_lt (ys := r) fun i v e => h (i + 1) v (by simpa using e)
    refine ⟨x :: l, .cons x t h1, fun a ha => ?_, by simp [h3]⟩
    rcases List.mem_cons.mp ha with rfl | ha
    · exact hx
    · exact h2 a ha
theorem len_eq (x : Str) : x.length = x.cps.toList.length := by rw [Array.length_toList]; rfl
theorem lt_join : ∀ {l : List Str}, (∀ a ∈ l, LT 1 a) → (∀ c ∈ (l.map (·.cps.toList)).flatten, Great c ∨ Small c) ∧ (l.map (·.cps.toList)).flatten.length ≤ l.length
  | [], _ => ⟨(fun c hc => absurd hc (List.not_mem_nil)), Nat.le_refl _⟩
  | a :: r, h => by
    have ih := lt_join (l := r) fun b hb => h b (.tail _ hb)
    have ha := h a (.head _)
    have e := len_eq a
    have := ha.2
    simp only [List.map_cons, List.flatten_cons, List.length_append, List.length_cons]
    refine ⟨fun c hc => ?_, by omega⟩
    rcases List.mem_append.mp hc with hc | hc
    · exact ha.1 c hc
    · exact ih.1 c hc
theorem join_lt6 {l : List Str} (h : ∀ a ∈ l, LT 1 a) (hn : l.length ≤ 6) : LT 6 (Txt.join (Str.ofString "") l) := by
  have q := lt_join h
  refine ⟨fun c hc => ?_, ?_⟩
  · rw [join_flat] at hc
    exact q.1 c hc
  · rw [len_eq, join_flat]; omega
theorem updF_self {d : Addr} {o : Obj} : ∀ {l : List (Addr × Obj)} {g : Obj → List (Addr × Obj)}, UpdF d o l g → ∀ o', UpdF d o' (g o') g
  | _, _, .head h, _ => .head h
  | _, _, .tail h r, o' => .tail h (updF_self r o')
theorem unr_drop {h₀ : Heap} {L I D St S ce : Addr} {it oD o oS oC : Obj} {c : Nat} {rest : (Str → Option Value) → List (Addr × Obj) → Prop} {s₁ : Shared} {h' : Heap} {tk : Nat} {m' : Str → Option Value} {all : List (Addr × Obj)}
    (F : Fr h₀ L h' m') (N : News h₀ L h' all) (hI : (I, it) ∈ all) (hT : m' (Str.ofString "texts") = some (.ref D)) (hD : (D, oD) ∈ all) (_hO : StAt St S c o) (hSt : (St, o) ∈ all) (hS : (S, oS) ∈ all) (_dC : oC.data = .cell (some (.ref St))) (hC : (ce, oC) ∈ all)
    (ne : @Ne Nat D I) (ne2 : @Ne Nat St I) (ne3 : @Ne Nat S I) (ne4 : @Ne Nat ce I) (r : rest m' [(D, oD), (St, o), (S, oS), (ce, oC)]) : UnrEnd h₀ L s₁ I it rest { s₁ with heap := h', toks := tk } := by
  refine UnrEnd.intro F N [(D, oD), (St, o), (S, oS), (ce, oC)] (fun p hp => ?_) (fun p hp => ?_) r
  · rcases List.mem_cons.mp hp with rfl | hp
    · exact hI
    rcases List.mem_cons.mp hp with rfl | hp
    · exact hD
    rcases List.mem_cons.mp hp with rfl | hp
    · exact hSt
    rcases List.mem_cons.mp hp with rfl | hp
    · exact hS
    rw [List.mem_singleton.mp hp]; exact hC
  · rcases List.mem_cons.mp hp with rfl | hp
    · exact ne
    rcases List.mem_cons.mp hp with rfl | hp
    · exact ne2
    rcases List.mem_cons.mp hp with rfl | hp
    · exact ne3
    rw [List.mem_singleton.mp hp]; exact ne4
section
variable {prog : Program} {w : World} {A : Around} {E : Value → Shared → Prop} {s : Shared} {h₀ : Heap} {L : Addr} {m : Str → Option Value} {env : Env}
theorem join_six {D : Addr} {ys : List Value} {l : List Str} {t : Tok} {Q : Value → Shared → Prop} (hl : s.heap.IsList D ys.toArray) (hy : StrsAre ys l) (hB : ∀ a ∈ l, LT 1 a) (hn : l.length ≤ 6)
    (h : ∀ y t' k, LT 6 y → Q (.str y t') { s with toks := k }) : wpAny (model prog w) A (call (.builtin "str.join") [.str (Str.ofString "") t, .ref D]) Q E s :=
  join_at hl hy (fun a ha => Nat.le_trans (hB a ha).2 (by decide)) (by omega) (fun t' k => h _ t' k (join_lt6 hB hn))
theorem src_rng {elt : Expr} {x : Str} {scope : Scope} {cl : List (Str × Addr)} {Fin : Shared → List Value → List (Addr × Obj) → Prop} {r : Addr} {b : Int} {t u v : Tok} {news : List (Addr × Obj)} {s₁ : Shared}
    (hh : A.handled = none) (F : Fr h₀ L s₁.heap m) (N : News h₀ L s₁.heap news) (hr : IsRange s₁.heap r 0 b 1 t u v) (h0 : 0 ≤ b) (h1 : b < 7)
    (h : ∀ g n, n ≤ 6 → CompRest prog w A h₀ L m env elt x scope cl { s₁ with heap := g } (fun _ => True) (fun i v => ∃ t, v = .int (0 + (i : Int)) t) (Fin { s₁ with heap := g }) n 0 [] news) :
    CompSrc prog w A h₀ L m env elt x scope cl Fin (.ref r) s₁ :=
  CompSrc.range (n := (b - 0).toNat) hh F N hr (small_one (by omega) (by omega) (by omega) (by omega)) (rangeSize_nat 0 b) (by rw [PySem.sizeLine_eq]; omega) (fun g => h g _ (by omega))
/-- the turns of a comprehension whose element asks for one number of the script each -/
theorem rest_next {elt : Expr} {x : Str} {scope : Scope} {cl : List (Str × Addr)} {P : Nat → Value → Prop} {Fin : List Value → List (Addr × Obj) → Prop} {n c : Nat} {news : List (Addr × Obj)} {St S : Addr} {o : Obj} {G : Obj → List (Addr × Obj)}
    (hO : StAt St S c o) (U : UpdF St o news G) (hn : n ≤ 6)
    (turn : ∀ i o' c' v I oI C oC D m₂ ys h tk (E' : Value → Shared → Prop), StAt St S c' o' → c' ≤ c + 6 → P i v → NsObj oC m₂ → m₂ x = some v → Fr h₀ L h m → News h₀ L h ((I, oI) :: (C, oC) :: (D, lst ys) :: G o') → Off3 I C D (G o') → UpdF St o' ((I, oI) :: (C, oC) :: (D, lst ys) :: G o') (fun o'' => (I, oI) :: (C, oC) :: (D, lst ys) :: G o'') →
      wpAny (model prog w) A (eval elt (compEnvC scope cl C env)) (CompEnd h₀ L m { s with heap := h, toks := tk } I oI C oC D (lst ys) (fun _ => True) (fun y news' => (∃ o'', news' = G o'' ∧ StAt St S (c' + 1) o'') ∧ ∃ z t, y = .str z t ∧ LT 1 z)) E' { s with heap := h, toks := tk })
    (fin : ∀ ys o' c' l, StAt St S c' o' → c' ≤ c + 6 → StrsAre ys l → (∀ a ∈ l, LT 1 a) → l.length ≤ 6 → Fin ys (G o')) : CompRest prog w A h₀ L m env elt x scope cl s (fun _ => True) P Fin n 0 [] news := by
  have eN : news = G o := by
    obtain ⟨pre, post, e, hg, -, -⟩ := U.split
    rw [e, hg]
  refine rest_inv (fun i nw => ∃ o' c', nw = G o' ∧ StAt St S c' o' ∧ c' ≤ c + i) (fun _ y => ∃ z t, y = .str z t ∧ LT 1 z) ⟨o, c, eN, hO, Nat.le_refl _⟩ (fun i nw v I oI C oC D m₂ ys h tk E' hi hj hP hC hx F N off ne => ?_) (fun ys nw hj hl hg => ?_)
  · obtain ⟨o', c', rfl, hO', hc'⟩ := hj
    have off3 := off.mem
    have hmem : (St, o') ∈ G o' := updF_memg U
    have z := off3 _ hmem
    have U' : UpdF St o' (G o') G := updF_self U o'
    refine wpAny_mono (turn i o' c' v I oI C oC D m₂ ys h tk E' hO' (by omega) hP hC hx F N off (.tail (Ne.symm z.1) (.tail (Ne.symm z.2.1) (.tail (Ne.symm z.2.2) U')))) (fun y s₂ hq => ?_) fun _ _ e => e
    obtain ⟨h', tk', nw', e, F', N', off', hS, ⟨o'', e2, hO''⟩, hy⟩ := hq
    exact ⟨h', tk', nw', e, F', N', off', hS, ⟨o'', c' + 1, e2, hO'', by omega⟩, hy⟩
  · obtain ⟨o', c', rfl, hO', hc'⟩ := hj
    obtain ⟨l, h1, h2, h3⟩ := strs_lt hg
    exact fin ys o' c' l hO' (by omega) h1 h2 (by omega)
theorem all_true {l : Addr} {vs : List Value} {n : Nat} {Q : Value → Shared → Prop} {news : List (Addr × Obj)} (F : Fr h₀ L s.heap m) (N : News h₀ L s.heap news) (hh : A.handled = none) (hl : s.heap.IsList l vs.toArray) (hb : LSm.BoolsAre vs (List.replicate n true))
    (h : ∀ h' tk, Fr h₀ L h' m → News h₀ L h' news → Q (.bool true) { s with heap := h', toks := tk }) : wpAny (model prog w) A (call (.builtin "all") [.ref l]) Q E s :=
  LSm.all_bools F N hh hl hb (fun h' tk F' N' => by rw [all_replicate]; exact h h' tk F' N')
end
end Mine
end
section
open PySem PySem.W PySem.Calls PyProof.Rows
namespace Mine
set_option pp.deepTerms false
set_option pp.deepTerms.threshold 8
set_option pp.proofs false
local macro_rules | `(tactic| walk_at "call ref") => `(tactic| (k_here; (with_reducible show wpAny _ _ (call (Value.ref 126) [Value.ref _, Value.int _ _]) _ _ _); k_dflt (refine' c_nextP (ns := List.take 40 _) (St := _) (lim := _) ?nO ?nU ?nB ?nF ?nX ?nN ?nT ?nk ?nd ?nu ?nS ?nLs ?nI ?nn ?nc ?nl0 ?nl1 ?_; (case nB => k_asm); (case nF => k_asm); (case nX => k_asm); (case nN => k_asm); (case nT => k_asm); (case nk => exact rfl); (case nd => ktr_room); (case nu => ktr_units); (first | ((case nO => with_reducible assumption); (case nU => first | with_reducible assumption | k_updF)) | ((case nU => k_updF); (case nO => exact st0))); (case nS => intro _; k_mem); (case nLs => exact ls0); (case nI => assumption); (case nn => exact List.length_take_le _ _); (case nc => omega); (case nl0 => omega); (case nl1 => omega)); intro r9' h9 tk9 t9 o9 F9 N9 hO9 hr0 hr1; (try dsimp only at N9)))
set_option hygiene false in
local macro_rules | `(tactic| walk_at "call ref") => `(tactic| (k_here; (with_reducible show wpAny _ _ (call (Value.ref 131) [Value.int _ _]) _ _ _); k_dflt (refine' Calls.at (c_writing _ _ _ (by omega)) ?wB ?wF ?wX ?wN ?wT ?wk ?wd ?wu ?_; (case wB => k_asm); (case wF => k_asm); (case wX => k_asm); (case wN => k_asm); (case wT => k_asm); (case wk => exact rfl); (case wd => ktr_room); (case wu => ktr_units)); intro rW hW tkW FW NW hOW; obtain ⟨wr, lw, tW, eW, hwr, hlw, hwT, hlT, hwO, hlO, hwp, hwl⟩ := w_own hOW (by omega) (by omega); subst eW))
local macro_rules | `(tactic| walk_at "call ref") => `(tactic| (k_here; (with_reducible show wpAny _ _ (call (Value.ref 150) [Value.int _ _]) _ _ _); k_dflt (refine' told_own ?tw ?tl ?t1 ?t2 ?tB ?tF ?tX ?tN ?tT ?tk ?td ?tu ?_; (case tw => with_reducible assumption); (case tl => with_reducible assumption); (case t1 => omega); (case t2 => omega); (case tB => k_asm); (case tF => k_asm); (case tX => k_asm); (case tN => k_asm); (case tT => k_asm); (case tk => exact rfl); (case td => ktr_room); (case tu => ktr_units)); intro T9 hT9 tkT9 tT1 tT2 FT9 NT9 lT9; (try k_lt lT9)))
local macro_rules | `(tactic| walk_at "call ref") => `(tactic| (k_here; (with_reducible show wpAny _ _ (call (Value.ref 150) [Value.int _ _]) _ _ _); k_dflt (refine' told_none ?vn ?v1 ?v2 ?vB ?vF ?vX ?vN ?vT ?vk ?vd ?vu ?_; (case vn => omega); (case v1 => omega); (case v2 => omega); (case vB => k_asm); (case vF => k_asm); (case vX => k_asm); (case vN => k_asm); (case vT => k_asm); (case vk => exact rfl); (case vd => ktr_room); (case vu => ktr_units)); intro hV9 tkV9 FV9 NV9))
local macro_rules | `(tactic| walk_at "call builtin:str.lower") => `(tactic| (k_here; k_dflt (refine' ll_lower ?la ?lb ?_; (case la => with_reducible assumption); (case lb => decide)); intro y9 t9 hy9))
local macro_rules | `(tactic| walk_at "call builtin:str.lower") => `(tactic| (k_here; k_dflt (refine' low_own ?lw ?ll ?lx ?_; (case lw => with_reducible assumption); (case ll => with_reducible assumption); (case lx => with_reducible assumption)); intro _))
set_option hygiene false in
local macro_rules | `(tactic| walk_at "compareOp NotEq ref ref") => `(tactic| (k_here; k_dflt (refine' ne_dataH ?zz1 ?zz2 ?zz3 ?zz4 ?zz5 ?_; (case zz1 => ke_read); (case zz2 => ke_read); (case zz3 => exact shapedLT hwT hlT); (case zz4 => exact shapedLT hwT hlT); (case zz5 => ke_room)); ke_norm))
local macro_rules | `(tactic| walk_at "compareOp NotEq int int") => `(tactic| (k_here; k_dflt (refine ne_self ?_)))
local macro_rules | `(tactic| walk_at "compareOp Eq int int") => `(tactic| (k_here; k_dflt (refine eq_self ?_)))
local macro_rules | `(tactic| walk_at "call ref") => `(tactic| (k_here; (with_reducible show wpAny _ _ (call (Value.ref 143) [Value.str _ _]) _ _ _); k_dflt (refine' read_any ?rx ?rz ?rB ?rF ?rX ?rN ?rT ?rk ?rd ?ru ?_; (case rx => with_reducible assumption); (case rz => decide); (case rB => k_asm); (case rF => k_asm); (case rX => k_asm); (case rN => k_asm); (case rT => k_asm); (case rk => exact rfl); (case rd => ktr_room); (case ru => ktr_units)); intro rR hR tkR FR NR hRd))
local macro_rules | `(tactic| walk_at "call ref") => `(tactic| (k_here; (with_reducible show wpAny _ _ (call (Value.ref 143) [Value.str _ _]) _ _ _); k_dflt (refine' read_own ?oO ?ox ?o1 ?o2 ?oB ?oF ?oX ?oN ?oT ?ok ?od ?ou ?_; (case oO => with_reducible assumption); (case ox => with_reducible assumption); (case o1 => omega); (case o2 => omega); (case oB => k_asm); (case oF => k_asm); (case oX => k_asm); (case oN => k_asm); (case oT => k_asm); (case ok => exact rfl); (case od => ktr_room); (case ou => ktr_units)); intro hR tkR tR FR NR))
local macro_rules | `(tactic| walk_at "subscriptTail Name Slice str ref") => `(tactic| (k_here; (with_reducible show wpAny _ _ (subscriptTail _ (Expr.Slice _ _ none _) (Value.str _ _) (Value.ref _)) _ _ _); (with_reducible rename Fr _ _ _ _ => F'); (with_reducible rename News _ _ _ _ => N'); (first | (refine ls_ns (s := ⟨_, _, _, _, _⟩) (by with_reducible assumption) (by decide) F' N' ?_) | (refine ls_sn (s := ⟨_, _, _, _, _⟩) (by with_reducible assumption) (by decide) F' N' ?_)); intro y9 h9 t9 k9 hy9 F9 N9))
local macro_rules | `(tactic| walk_at "binaryOp Add str str") => `(tactic| (k_here; k_dflt (refine' la_add ?ax ?ay ?ak ?_; (case ax => first | with_reducible assumption | exact lt_lit _ 1 (by decide) (by decide)); (case ay => first | with_reducible assumption | exact lt_lit _ 1 (by decide) (by decide)); (case ak => decide)); intro z9 t9 k9 hz9))
local macro_rules | `(tactic| walk_at "subscriptTail") => `(tactic| (k_here; (with_reducible show wpAny _ _ (subscriptTail _ _ (Value.str _ _) (Value.int _ _)) _ _ _); k_dflt (refine' li_seven ?i0 ?i1 ?_; (case i0 => omega); (case i1 => omega)); intro y9 t9 k9 hy9))
local macro_rules | `(tactic| walk_at "eval ListComp") => `(tactic| (k_here; k_dflt (refine LCg.ListComp_U (F₀ := by k_asm) (by with_unfolding_all rfl) (by decide) (by rfl) (by decide) (by rfl) ?_)))
local macro_rules | `(tactic| walk_at "CompSrc") => `(tactic| (k_here; k_dflt (refine' LCg.CompSrc.ledger ?lh ?lF ?lN ?lm ?lz ?_; (case lh => rfl); (case lF => k_asm); (case lN => k_asm); (case lm => k_mem); (case lz => exact Nat.le_of_ble_eq_true rfl)); intro g'; k_dflt (refine rest_inv (fun _ nw => nw = _) (fun _ y => y = Value.bool true) rfl (fun i nw v I oI C oC D m₂ ys h tk E' hi hj hP hC hx F N off ne => ?_) (fun ys nw hj hl hg => ?_)); (all_goals subst hj); (case' refine_2 => have hB := boolsAre_true hg); (case' refine_1 => (rcases allTx_at (by (repeat (first | exact allTx_nil | refine allTx_cons (tx_of (by with_reducible assumption) (by decide)) ?_ | refine allTx_cons (tx_of lt_nil (by decide)) ?_))) hP with ⟨x9, t9, ev, hx9⟩; subst ev))))
local macro_rules | `(tactic| walk_at "CompSrc") => `(tactic| (k_here; k_dflt (refine' src_rng ?sh ?sF ?sN ?sr ?s0 ?s1 ?_; (case sh => rfl); (case sF => k_asm); (case sN => k_asm); (case sr => assumption); (case s0 => omega); (case s1 => omega)); intro g' n' hn'; (with_reducible rename StAt _ _ _ _ => hO'); k_dflt (refine' rest_next hO' ?rU hn' ?_ ?_; (case rU => k_updF)); (all_goals first | (intro i' o' c' v' I' oI' C' oC' D' m' ys' h' tk' E' hO' hc' hP' hC' hx' F' N' off' hU'; (try dsimp only at N' hU')) | (intro ys' o' c' l' hO' hc' hS' hB' hl'))))
local macro_rules | `(tactic| walk_at "CompEnd") => `(tactic| (k_here; (with_reducible rename Fr _ _ _ _ => F'); (with_reducible rename News _ _ _ _ => N'); (with_reducible rename LCg.Off3 _ _ _ _ => off'); k_dflt (exact LCg.CompEnd.intro F' N' _ (fun _ hp => hp) off' (Or.inr ⟨_, by k_mem, rfl, _, rfl⟩) ⟨rfl, rfl⟩)))
local macro_rules | `(tactic| walk_at "CompEnd") => `(tactic| (k_here; (with_reducible rename Fr _ _ _ _ => F'); (with_reducible rename News _ _ _ _ => N'); (with_reducible rename LCg.Off3 _ _ _ _ => off'); (with_reducible rename StAt _ _ _ _ => hO'); (with_reducible rename LT 1 _ => hy'); k_dflt (exact LCg.CompEnd.intro F' N' _ (fun _ hp => hp) off' trivial ⟨⟨_, rfl, hO'⟩, _, _, rfl, hy'⟩)))
local macro_rules | `(tactic| walk_at "FinE") => `(tactic| (k_here; (unfold LCg.FinE); intro D' h' tk' F' N' o1'; (try simp only [List.nil_append, List.cons_append] at N'); (try dsimp only)))
local macro_rules | `(tactic| walk_at "UnrEnd") => `(tactic| (k_here; (with_reducible rename Fr _ _ _ _ => F'); (with_reducible rename News _ _ _ _ => N'); (with_reducible rename StAt _ _ _ _ => hO'); (with_reducible rename Obj.data _ = Data.cell _ => dC'); k_dflt (refine' unr_drop F' N' ?uI ?uT ?uD hO' ?uO ?uS dC' ?uC ?u1 ?u2 ?u3 ?u4 ?_; (case uI => k_mem); (case uT => rfl); (case uD => k_mem); (case uO => k_mem); (case uS => k_mem); (case uC => k_mem); (case u1 => k_ne); (case u2 => k_ne); (case u3 => k_ne); (case u4 => k_ne))))
local macro_rules | `(tactic| walk_at "call builtin:str.join") => `(tactic| (k_here; k_dflt (refine' join_six ?jl ?jy ?jB ?jn ?_; (case jl => first | assumption | is_list | exact News.isList (by k_asm) (by k_mem)); (case jy => assumption); (case jB => assumption); (case jn => assumption)); intro y9 t9 k9 hy9))
local macro_rules | `(tactic| walk_at "call ref") => `(tactic| (k_here; (with_reducible show wpAny _ _ (call (Value.ref 157) [Value.str _ _]) _ _ _); k_dflt (refine' due_any ?qR ?qx ?qm ?qB ?qF ?qX ?qN ?qT ?qk ?qd ?qu ?_; (case qR => with_reducible assumption); (case qx => with_reducible assumption); (case qm => decide); (case qB => k_asm); (case qF => k_asm); (case qX => k_asm); (case qN => k_asm); (case qT => k_asm); (case qk => exact rfl); (case qd => ktr_room); (case qu => ktr_units)); intro rQ hQ tkQ FQ NQ hSm; (rcases hSm with ⟨e1, e2⟩ | ⟨n9, t9, u9, e1, e2⟩ <;> subst e1 <;> subst e2)))
local macro_rules | `(tactic| walk_at "call builtin:all") => `(tactic| (k_here; k_dflt (refine' all_true ?uF ?uN ?uh ?ul ?ub ?_; (case uF => k_asm); (case uN => k_asm); (case uh => rfl); (case ul => first | is_list | exact News.isList (by k_asm) (by k_mem)); (case ub => assumption)); intro h9 k9 F9 N9))
set_option maxRecDepth 100000 in
set_option maxHeartbeats 4000000 in
theorem main : PySem.Challenge.rw_ff0005_01.Holds := by
  refine Mine.hd ?_
  k_go0
  all_goals try k_fold
  k_steps
end Mine
end
theorem PySem.Challenge.cw_ff0005_01_holds : PySem.Challenge.rw_ff0005_01.Holds :=
  Mine.main
