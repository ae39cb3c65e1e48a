import PyProof.Rows.All
import Wide.All
import OpenK.AllK
import Wide.FinOn
import KE.KTryDeep
import Lean
import PySem.Challenge.RW_bi0018_01
set_option Elab.async false
section
open PySem PySem.W PyProof.Rows
set_option maxRecDepth 100000
set_option maxHeartbeats 8000000
namespace Mine
open_top hd for PySem.Challenge.rw_bi0018_01
end Mine
end
section
open PySem PySem.W PyProof.Rows
set_option maxRecDepth 100000
set_option maxHeartbeats 8000000
namespace Mine
local macro_rules | `(tactic| walk_at "none0") => `(tactic| fail)
local macro_rules | `(tactic| walk_at "none1") => `(tactic| fail)
local macro_rules | `(tactic| walk_at "none2") => `(tactic| fail)
local macro_rules | `(tactic| walk_at "none3") => `(tactic| fail)
local macro_rules | `(tactic| walk_at "none4") => `(tactic| fail)
local macro_rules | `(tactic| walk_at "none5") => `(tactic| fail)
local macro_rules | `(tactic| walk_at "none6") => `(tactic| fail)
local macro_rules | `(tactic| walk_at "none7") => `(tactic| fail)
local macro_rules | `(tactic| walk_at "none8") => `(tactic| fail)
local macro_rules | `(tactic| walk_at "none9") => `(tactic| fail)
local macro_rules | `(tactic| walk_at "none10") => `(tactic| fail)
local macro_rules | `(tactic| walk_at "none11") => `(tactic| fail)
noncomputable section
open PySem.Calls

/-- a mark: it bears the row and the written part, so that the written part may be kept -/
def Mark (_ : OpenLaw) (_ : Params → Frag) : Prop := True
abbrev PG : Program := PySem.Challenge.rw_bi0018_01.row.prog
abbrev LO : List Str := looseW hd.view_39 [Str.ofString "Binary", Str.ofString "big_endian_int"]

/-! any over a made tuple of bools -/
section
variable {prog : Program} {w : World} {A : Around} {E : Value → Shared → Prop} {s : Shared} {h₀ : Heap} {L l : Addr} {m : Str → Option Value} {news : List (Addr × Obj)} {vs : List Value}
theorem any_tup {bs : List Bool} {Q : Value → Shared → Prop} (F : Fr h₀ L s.heap m) (N : News h₀ L s.heap news) (hh : A.handled = none) (hl : s.heap.IsTuple l vs.toArray) (hb : LSm.BoolsAre vs bs)
    (h : ∀ h' tk, Fr h₀ L h' m → News h₀ L h' news → Q (.bool (bs.any id)) { s with heap := h', toks := tk }) : wpAny (model prog w) A (call (.builtin "any") [.ref l]) Q E s := by
  have hlt : l < s.heap.objs.size := by obtain ⟨_, e, _⟩ := hl; exact Heap.lt_size e
  refine call_any_walk (wpAny_pyIter_tuple hl ?_)
  refine ⟨s.heap.objs.size, [s.heap.objs.size, l], [s.heap.objs.size], vs.toArray.size, _, _, fun i => (bs[i]?).getD false, rfl, Walks.tuple (A := A.in1) hh _ l (Nat.ne_of_lt hlt) vs.toArray,
    ⟨⟨_, Heap.get?_push_size _ rfl, rfl, rfl⟩, hl.push _⟩, fun i v s' Q' E' hP hQ => ?_, fun h' tk hk => ?_⟩
  · obtain ⟨b, e, rfl⟩ := hb.get i v (by simpa using hP)
    simp only [e, Option.getD_some] at hQ
    exact wpAny_truthy_bool hQ
  · have e : ((List.range vs.toArray.size).any fun i => (bs[i]?).getD false) = bs.any id := by
      rw [List.size_toArray, hb.length]; exact LSm.range_any bs
    rw [e]
    exact h h' tk (F.keeps (LSm.kept_iter hk)) (N.grown (LSm.kept_iter hk))
theorem any_tup2 {a b : Bool} {Q : Value → Shared → Prop} (F : Fr h₀ L s.heap m) (N : News h₀ L s.heap news) (hh : A.handled = none) (hm : (l, (⟨.type "tuple", none, .seq #[.bool a, .bool b], #[]⟩ : Obj)) ∈ news)
    (h : ∀ h' tk, Fr h₀ L h' m → News h₀ L h' news → Q (.bool (a || b)) { s with heap := h', toks := tk }) : wpAny (model prog w) A (call (.builtin "any") [.ref l]) Q E s := by
  refine any_tup (vs := [.bool a, .bool b]) (bs := [a, b]) F N hh ⟨_, (N _ hm).1, rfl, _, rfl⟩ (.cons _ (.cons _ .nil)) fun h' tk F' N' => ?_
  have e : [a, b].any id = (a || b) := by simp
  rw [e]; exact h h' tk F' N'
end

/-! the fields of the project's objects -/
abbrev hiV (hi : Option Int) (th : Tok) : Value := match hi with
  | none => .none
  | some b => .int b th
abbrev binD (h1 h2 h3 : Int) (t1 t2 t3 : Tok) (lo hi em : Value) : Obj := dictOf [⟨h1, .str "min_length" t1, lo⟩, ⟨h2, .str "max_length" t2, hi⟩, ⟨h3, .str "allow_empty" t3, em⟩] 3
/-- what is_valid_length says -/
def lenOk (lo : Int) (hi : Option Int) (em : Bool) (n : Int) : Bool := (decide (lo ≤ n) && (match hi with | none => true | some b => decide (n ≤ b))) || (em && decide (n = 0))
end
end Mine
end
section
open PySem PySem.W PyProof.Rows PySem.Calls
set_option maxRecDepth 100000
set_option maxHeartbeats 8000000
namespace Mine
noncomputable section
/-! super().__init__ where the next class in the order is the built-in Exception -/
def mwObj (e : Addr) : Obj := { cls := .type "method-wrapper", data := .fields #[.builtin "Exception.__init__", .ref e] }
theorem mw_slot_get : Slot "wrapper_descriptor" "__get__" "wrapper_descriptor.__get__" :=
  .of (owner := "wrapper_descriptor") (n := "__get__") (by rw [typeLookup_type, builtinLookup_eq_fast]; kernel_rfl) (by decide +kernel) (by decide +kernel) (by decide +kernel)
    (by first | exact .inl (by decide +kernel) | exact .inr (by decide +kernel)) (by rw [isSubtype_type]; kernel_rfl)
theorem mw_entry_get : entryFor table "wrapper_descriptor.__get__" = some Builtin.«wrapper_descriptor.__get__» := entryFor_of_tree (by kernel_rfl)
theorem mw_args_get (a b c : Value) : argsOk "wrapper_descriptor.__get__" ⟨[a, b, c], []⟩ := by unfold argsOk; kernel_rfl
theorem mw_type : typeOf (.builtin "Exception.__init__") = pure (.type "wrapper_descriptor") := by kernel_rfl
theorem mw_owner : (kfb_private% "ownerAndName") "Exception.__init__" = ("Exception", "__init__") := by first | decide +kernel | kernel_rfl
section
variable {prog : Program} {w : World} {M : Model} {A : Around} {E : Value → Shared → Prop} {s : Shared} {K : Frag} {h₀ : Heap} {L : Addr} {m : PySem.Str → Option Value} {news : List (Addr × Obj)}
theorem mw_run_get {x C : Addr} {P : Fin → Shared → Prop} (hi : Looks M s.heap (isInstance (.ref x) (.type "Exception")) true) (h : P (.done (.ret (.ref s.heap.objs.size))) { s with heap := s.heap.push (mwObj x) }) :
    wpAny M A (Builtin.«wrapper_descriptor.__get__» ⟨[.builtin "Exception.__init__", .ref x, .ref C], []⟩) P E s := by
  unfold Builtin.«wrapper_descriptor.__get__»
  refine wpAny_bind (wpAny_of_eq (a := (.builtin "Exception.__init__", some (.ref x), some (.ref C))) (by first | rfl | kernel_rfl) ?_)
  show wpAny M A ((do (kfb_private% "checkInstance") (.builtin "Exception.__init__") (.ref x); ret (← newFields "method-wrapper" [.builtin "Exception.__init__", .ref x]))) P E s
  refine wpAny_bind ?_
  show wpAny M A (do
    let (name, cls) ← (do let (owner, name) := (kfb_private% "ownerAndName") "Exception.__init__"; pure ((name : PySem.Str), Value.type owner))
    if !(← isInstance (.ref x) cls) then
      rule "descr.get.wrong-instance"
      raiseError "TypeError" s!"descriptor '{name.toString}' for '{← typeName cls}' objects doesn't apply to a '{← typeNameOf (.ref x)}' object") _ E s
  rw [mw_owner]
  refine wpAny_bind (wpAny_pure ?_)
  refine wpAny_bind (hi.here ?_)
  refine KFB.if_not rfl ?_
  refine wpAny_pure ?_
  exact wpAny_bind (wpAny_newObj_type (wpAny_pure h))

/-- the attribute __init__ of a bound super object over an instance of a class of its own -/
theorem sup_ga {so D x C : Addr} {l₀ l : List Value} {tk : Tok} {Q : Fin → Shared → Prop} {h : Heap} {g : Array GenState} {d : Drawn} {t : Nat} {os : OsState}
    (hso : h.get? so = some { cls := .type "super", dict := none, data := .fields #[.ref D, .ref x, .ref C], slots := #[] }) (hno : Looks (model prog w) h (opaqueClassAbove (.ref C)) none)
    (hC : Looks (model prog w) h (mroOf (.ref C)) l₀) (hl : (l₀.dropWhile (· != .ref D)).drop 1 = l) (X : K.In h)
    (hf : alongIn K "__init__" l = some (some (.builtin "Exception.__init__"))) (hi : Looks (model prog w) h (isInstance (.ref x) (.type "Exception")) true) (hxC : x ≠ C)
    (hq : Q (.done (.ret (.ref h.objs.size))) ⟨h.push (mwObj x), g, d, t, os⟩) :
    wpAny (model prog w) A (Builtin.«super.__getattribute__» ⟨[.ref so, .str "__init__" tk], []⟩) Q E ⟨h, g, d, t, os⟩ := by
  have hlk := mw_slot_get.lookup
  have hty := mw_type
  have hne : (Value.ref x == Value.ref C) = false := by simp [hxC]
  have hn : ((PySem.Str.ofString "__init__") == ("__class__" : Str)) = false := by decide
  have hTf : (⟨h, g, d, t, os⟩ : Shared).TypeIs (.builtin "Exception.__init__") "wrapper_descriptor" := mw_type
  have hdt : ({ cls := .type "super", dict := none, data := .fields #[.ref D, .ref x, .ref C], slots := #[] } : Obj).data = .fields #[.ref D, .ref x, .ref C] := rfl
  have f0 : (#[.ref D, .ref x, .ref C] : Array Value)[0]? = some (.ref D) := rfl
  have f1 : (#[.ref D, .ref x, .ref C] : Array Value)[1]? = some (.ref x) := rfl
  have f2 : (#[.ref D, .ref x, .ref C] : Array Value)[2]? = some (.ref C) := rfl
  unfold Builtin.«super.__getattribute__»
  repeat (first
    | (with_reducible refine wpAny_field hso hdt f0 ?_) | (with_reducible refine wpAny_field hso hdt f1 ?_) | (with_reducible refine wpAny_field hso hdt f2 ?_)
    | (with_reducible refine ks_wpAny_notOpaque hno ?_)
    | (with_reducible refine Looks.at hC ?_; rw [hl])
    | (refine ks_forIn_along X (fun _ _ => rfl) rfl ?_ hf)
    | (with_reducible refine wpAny_of_eq hty ?_)
    | (with_reducible refine wpAny_call_entry mw_slot_get hTf mw_entry_get ?_ (mw_args_get _ _ _))
    | (refine mw_run_get hi ?_)
    | (with_reducible refine ⟨_, rfl, ?_⟩)
    | (simp only [hn, hne, Bool.or_false, Bool.false_eq_true, if_false])
    | wp_step
    | dsimp only)
  all_goals exact hq

theorem sup_getm {so D x C : Addr} {l₀ l : List Value} {pl : Sem Bool} {Q : Value × List Value → Shared → Prop} {h : Heap} {g : Array GenState} {d : Drawn} {t : Nat} {os : OsState}
    (hso : h.get? so = some { cls := .type "super", dict := none, data := .fields #[.ref D, .ref x, .ref C], slots := #[] }) (hno : Looks (model prog w) h (opaqueClassAbove (.ref C)) none)
    (hC : Looks (model prog w) h (mroOf (.ref C)) l₀) (hl : (l₀.dropWhile (· != .ref D)).drop 1 = l) (X : K.In h)
    (hf : alongIn K "__init__" l = some (some (.builtin "Exception.__init__"))) (hi : Looks (model prog w) h (isInstance (.ref x) (.type "Exception")) true) (hxC : x ≠ C)
    (hq : Q (.ref h.objs.size, []) ⟨h.push (mwObj x), g, d, t + 1, os⟩) :
    wpAny (model prog w) A (getMethod (.ref so) "__init__" pl) Q E ⟨h, g, d, t, os⟩ := by
  have hlk := F.ks_slot_super_ga.lookup
  have hcan := F.ks_canon_super_ga
  have hT : ∀ t', (⟨h, g, d, t', os⟩ : Shared).TypeIs (.ref so) "super" := fun _ => ⟨_, hso, rfl⟩
  unfold getMethod
  refine wpAny_bind (wpAny_specialOf (hT _) hlk ?_)
  show wpAny _ _ (if (Manifest.canonical "super.__getattribute__" != "object.__getattribute__") = true then _ else _) _ _ _
  rw [if_pos hcan]
  unfold getAttr getAttrBy
  refine wpAny_bind (wpAny_bind (wpAny_mkText (wpAny_holding (wpAny_bind (wpAny_typeOf (hT _) (wpAny_bind (wpAny_of_eq hlk ?_)))))))
  show wpAny _ _ (getAttrByItsOwn (.ref so) (.str "__init__" t) (.type "super") (.builtin "super.__getattribute__") true false) _ _ _
  unfold getAttrByItsOwn hookBefore callGetattribute boundAndCalled
  refine wpAny_bind (wpAny_of_eq (show (if onTheHeap (.type "super") then typeLookup (.type "super") "__getattr__" else pure none) = pure none from rfl) ?_)
  refine wpAny_bind (wpAny_attempt (wpAny_holding ?_))
  show wpAny _ _ (bindSpecial (.builtin "super.__getattribute__") (.ref so) >>= _) _ _ _
  refine wpAny_bind (wpAny_of_eq (F.ks_slot_super_ga.bind _) ?_)
  refine wpAny_mono (Q := fun v s' => v = .ref h.objs.size ∧ s' = ⟨h.push (mwObj x), g, d, t + 1, os⟩) (E := fun _ _ => False)
    (wpAny_call_entry F.ks_slot_super_ga (hT _) F.ks_entry_super_ga (sup_ga hso hno hC hl X hf hi hxC ⟨_, rfl, rfl, rfl⟩) (F.ks_gaArgs_super _ _)) (fun v s' hv => ?_) fun _ _ z => z.elim
  obtain ⟨rfl, rfl⟩ := hv
  exact wpAny_pure (wpAny_pure hq)

/-- the walk's own rule -/
theorem sup_method {so D x C : Addr} {ox : Obj} {odx : Option Obj} {pl : Sem Bool} {Q : Value × List Value → Shared → Prop} (F : Fr h₀ L s.heap m) (X₀ : K.In h₀) (N : News h₀ L s.heap news) (hso : (so, ks_superObj D x C) ∈ news) (I : InstAt s.heap x ox C odx) (ho : nsIn K cStatics "thirdparty.any" = some none)
    (hm : ks_superIn K C D "__init__" = some (some (.builtin "Exception.__init__"))) (he : mroIn K C (.type "Exception") = some true)
    (h : ∀ q h', Fr h₀ L h' m → News h₀ L h' ((q, mwObj x) :: news) → (∀ p ∈ news, p.1 < q) → Q (.ref q, []) { s with heap := h', toks := s.toks + 1 }) : wpAny (model prog w) A (getMethod (.ref so) "__init__" pl) Q E s := by
  have X : K.In s.heap := X₀.keeps F.keep
  obtain ⟨hh, g, d, t, os⟩ := s
  cases hc : clsIn K C with
  | none => unfold ks_superIn at hm; rw [hc] at hm; cases hm
  | some cd =>
    unfold ks_superIn at hm
    rw [hc] at hm
    refine sup_getm (N _ hso).1 (looks_opaque X ho) (l₀ := cd.mro) ?_ rfl X hm (I.type.andThen (looks_mroIn X he)) (ks_ne X I hc) ?_
    · exact fun A Q E s k q => wpAny_bind ((looks_clsIn X hc) A _ E s k (wpAny_pure q))
    · obtain ⟨F', N', l'⟩ := ks_newsPush (s := ⟨hh, g, d, t, os⟩) (o := mwObj x) F N rfl (Heap.get?_push_at rfl rfl) (fun b o e => Heap.get?_push_of_some _ e)
      exact h _ _ F' N' l'

end
end
end Mine
end
section
open PySem PySem.W PyProof.Rows PySem.Calls
set_option maxRecDepth 100000
set_option maxHeartbeats 8000000
namespace Mine
local macro_rules | `(tactic| walk_at "none0") => `(tactic| fail)
local macro_rules | `(tactic| walk_at "none1") => `(tactic| fail)
local macro_rules | `(tactic| walk_at "none2") => `(tactic| fail)
local macro_rules | `(tactic| walk_at "none3") => `(tactic| fail)
local macro_rules | `(tactic| walk_at "none4") => `(tactic| fail)
local macro_rules | `(tactic| walk_at "none5") => `(tactic| fail)
local macro_rules | `(tactic| walk_at "none6") => `(tactic| fail)
local macro_rules | `(tactic| walk_at "none7") => `(tactic| fail)
local macro_rules | `(tactic| walk_at "none8") => `(tactic| fail)
local macro_rules | `(tactic| walk_at "none9") => `(tactic| fail)
local macro_rules | `(tactic| walk_at "none10") => `(tactic| fail)
local macro_rules | `(tactic| walk_at "none11") => `(tactic| fail)
noncomputable section
section
variable {prog : Program} {w : World} {M : Model} {A : Around} {E : Value → Shared → Prop} {s : Shared} {K : Frag} {h₀ : Heap} {L : Addr} {m : PySem.Str → Option Value} {news : List (Addr × Obj)}
/-! the method-wrapper called -/
def MwAt (u x : Addr) (h : Heap) : Prop := h.get? u = some (mwObj x)
theorem callWith_mwF {pos : Pos} {u x : Addr} {first : List Value} {args : List (Bool × Sem Value)} {Q : Value → Shared → Prop} (hplain : args.any (·.1) = false)
    (h : wpAny M A (evalArgs (.ref u) true args []) (fun y s₁ => MwAt u x s₁.heap ∧ wpAny M A (call (.ref u) (first ++ y.pos) y.kw) Q E s₁) E s) : wpAny M A (callWith pos (.ref u) first args []) Q E s := by
  unfold callWith
  refine wpAny_bind (wpAny_holding (wpAny_mono h (fun x s₁ h₁ => wpAny_bind (wpAny_standAt ?_)) fun _ _ x => x))
  obtain ⟨ho, hcall⟩ := h₁
  simp only [hplain, List.any_nil, Bool.or_false]
  refine wpAny_bind (m := keeperOf (.ref u)) ?_
  unfold keeperOf
  refine wpAny_bind (wpAny_load ho ?_)
  simp only [mwObj, show (Value.type "method-wrapper" != Value.type "method") = true by decide, show (Value.type "method-wrapper" == Value.type "builtin_function_or_method" || Value.type "method-wrapper" == Value.type "method-wrapper") = true by decide, if_true]
  refine wpAny_pure ?_
  exact wpAny_bind (wpAny_mono hcall (fun r s₂ hr => wpAny_bind (wpAny_holding (wpAny_point (wpAny_pure hr)))) fun _ _ x => x)
theorem callWith_mw {pos : Pos} {u x : Addr} {first : List Value} {env : Env} {e : Expr} {rest : List Expr} {Q : Value → Shared → Prop} (_N : News h₀ L s.heap news) (_hm : (u, mwObj x) ∈ news)
    (h : wpAny M A (spliced (backTo pos (starEach (e :: rest) env))) (fun vs s₁ => MwAt u x s₁.heap ∧ wpAny M A (call (.ref u) (first ++ vs)) Q E s₁) E s)
    (he : starEach (e :: rest) env = (false, eval e env) :: starEach rest env := by rfl) (hplain : (backTo pos (starEach rest env)).any (·.1) = false := by rfl) :
    wpAny M A (callWith pos (.ref u) first (backTo pos (starEach (e :: rest) env)) []) Q E s := by
  rw [he] at h ⊢
  refine callWith_mwF (x := x) (by show (false || (backTo pos (starEach rest env)).any (·.1)) = false; rw [hplain]; rfl) ?_
  exact evalArgs_plain h
theorem ei_args {h : Heap} {g : Array GenState} {d : Drawn} {t : Nat} {os : OsState} {x C : Addr} {ox : Obj} {c0 : Value} {dd : Option Addr} {cdC : ClassData} {slC : Array (Option Value)} {v : Value} {Q : Unit → Shared → Prop} (hx : h.get? x = some ox) (hc : ox.cls = .ref C) (hC : h.get? C = some ⟨c0, dd, .cls cdC, slC⟩) (hq : Q () ⟨h, g, d, t, os⟩) :
    wpAny M A (Bind.checkArgs "Exception.__init__" ⟨.positional, "*", "Exception", .self, [⟨"args", .varPos, false⟩]⟩ ⟨[.ref x, v], []⟩) Q E ⟨h, g, d, t, os⟩ := by
  have hshort := PySem.F.excBase_Exception.noStar
  repeat (first | (with_reducible refine wpAny_loadPart_at hx ?_; rw [hc]) | with_reducible refine wpAny_loadPart_at hC ?_ | wp_step)
  all_goals exact hq
theorem exc_call_mw {u x C : Addr} {vs : Array Value} {sl : Array (Option Value)} {od : Option Addr} {t0 : Addr} {c0 : Value} {dd : Option Addr} {cdC : ClassData} {slC : Array (Option Value)} {v : Value} {Q : Value → Shared → Prop} (hu : s.heap.get? u = some (mwObj x)) (hx : s.heap.get? x = some ⟨.ref C, od, .fields vs, sl⟩) (hC : s.heap.get? C = some ⟨c0, dd, .cls cdC, slC⟩) (h0 : vs[0]? = some (.ref t0))
    (h : Q .none { s with heap := (s.heap.push { cls := .type "tuple", data := .seq #[v] }).update x (Obj.mapFields (·.setIfInBounds 0 (.ref s.heap.objs.size))) }) :
    wpAny (model prog w) A (call (.ref u) [v]) Q E s := by
  have FC := PySem.F.excBase_Exception
  obtain ⟨hh, g, d, t, os⟩ := s
  refine wpAny_call (codeAny_of_tree ?_)
  show wpAny _ _ (callAny (.ref u) _) _ _ _
  unfold callAny
  refine wpAny_bind (wpAny_load hu ?_)
  show wpAny _ _ (do
        checkBoundCall "Exception.__init__" ⟨[.ref x, v], []⟩
        return ← again (.builtin "Exception.__init__" ⟨[.ref x, v], []⟩)) _ _ _
  refine wpAny_bind ?_
  unfold checkBoundCall
  rw [FC.initRow, FC.initKind]
  dsimp only
  rw [if_pos (by decide)]
  refine ei_args hx rfl hC ?_
  refine wpAny_pure ⟨plainId_quiet FC.init.plain _, codeAny_builtin FC.initEntry ?_⟩
  have hx₁ := Heap.get?_push_of_some { cls := .type "tuple", data := .seq #[v] } hx
  have hsz : 0 < vs.size := (Array.getElem?_eq_some_iff.mp h0).1
  repeat (first | (rw [h0]) | wp_step)
  all_goals exact h

/-! a first attribute of an exception's own -/
theorem fr_but {h h' : Heap} {x : Addr} {o : Obj} (F : Fr h₀ L h m) (N : News h₀ L h ((x, o) :: news)) (k : ∀ b q, b ≠ x → h.get? b = some q → h'.get? b = some q) : Fr h₀ L h' m := by
  obtain ⟨h1, h2, h3⟩ := N _ (List.mem_cons_self ..)
  obtain ⟨oL, es, ep, hL, r⟩ := F.ns
  exact ⟨⟨oL, es, ep, k _ _ (Ne.symm h2) hL, r⟩, fun b q e => k b q (fun z => by rw [z, h3] at e; cases e) (F.keep b q e), F.above⟩
theorem news_but {h h' : Heap} {x : Addr} {o o' : Obj} (N : News h₀ L h ((x, o) :: news)) (k : ∀ b q, b ≠ x → h.get? b = some q → h'.get? b = some q) (e : h'.get? x = some o') (off : ∀ p ∈ news, p.1 ≠ x) : News h₀ L h' ((x, o') :: news) := by
  intro p hp
  rcases List.mem_cons.mp hp with rfl | hp
  · exact ⟨e, (N _ (List.mem_cons_self ..)).2⟩
  · have q := N _ (List.mem_cons_of_mem _ hp)
    exact ⟨k _ _ (off p hp) q.1, q.2⟩
theorem exc_pass (self : Value) (a b : Addr) : refuseLoop self "__setattr__" [.ref a, .ref b, .type "Exception", .type "BaseException", .type "object"] = pure () := by
  rw [refuseLoop_ref, refuseLoop_ref]
  kernel_rfl

theorem exc_store {x C : Addr} {cd : ClassData} {vs : Array Value} {name : Str} {v : Value} {Q : Unit → Shared → Prop} (F : Fr h₀ L s.heap m) (X₀ : K.In h₀) (N : News h₀ L s.heap ((x, ⟨.ref C, none, .fields vs, #[]⟩) :: news)) (off : ∀ p ∈ news, p.1 ≠ x)
    (hc : clsIn K C = some cd) (hmro : ∃ a b, cd.mro = [.ref a, .ref b, .type "Exception", .type "BaseException", .type "object"]) (hdd : cd.hasDict = true)
    (hs : findIn K (.ref C) "__setattr__" = some (some (.builtin "object.__setattr__"))) (ha : findIn K (.ref C) name = some none)
    (h : ∀ h' tk dx, Fr h₀ L h' m → News h₀ L h' ((x, ⟨.ref C, some dx, .fields vs, #[]⟩) :: news) → Q () { s with heap := h', toks := tk }) :
    wpAny (model prog w) A (setAttr (.ref x) name v) Q E s := by
  obtain ⟨hh, g, d, t, os⟩ := s
  have X : K.In hh := X₀.keeps F.keep
  have I : InstAt hh x ⟨.ref C, none, .fields vs, #[]⟩ C none := ⟨(N _ (List.mem_cons_self ..)).1, rfl, rfl, trivial⟩
  obtain ⟨a, b, hmro⟩ := hmro
  refine set_plain (s := ⟨hh, g, d, t, os⟩) X I hs ?_
  have SF := PySem.F.store_object
  have hm : Looks (model prog w) hh (mroOf (.ref C)) cd.mro := (looks_clsIn X hc).andThen .now
  have sub : Looks (model prog w) hh (isInstance (.ref x) (.type "object")) true := I.type.andThen (looks_mroIn X (by unfold mroIn; rw [hc, Option.bind_some, hmro]; rfl))
  have hI := I.type (M := model prog w)
  have hA := looks_findIn (M := model prog w) X ha
  refine codeAny_call_builtin SF.slot.plain SF.entry (@check_slot (model prog w) _ _ _ "object.__setattr__" "object" "__setattr__" (.ref x) [.str name t, v] [] _ SF.kind SF.split sub (SF.args (.ref x) (.str name t) v) ?_)
  rw [osa_eq, refuse_eq]
  refine wpAny_bind (wpAny_bind (hI.at (wpAny_bind (hm.at ?_))))
  rw [hmro, exc_pass]
  refine wpAny_pure (wpAny_bind (hI.at (wpAny_bind (hA.at (wpAny_bind (wpAny_pure ?_))))))
  have hx := I.at_
  have hC := looks_clsIn (M := model prog w) X hc
  show wpAny _ _ (Builtin.ObjectAttr.storeInOwnDict (.ref x) (.ref C) (.str name t) name v false) _ _ _
  unfold Builtin.ObjectAttr.storeInOwnDict
  have hxs : x ≠ hh.objs.size := Nat.ne_of_lt (Heap.lt_size hx)
  have hxs' : hh.objs.size ≠ x := hxs.symm
  have hgd : ((hh.push { cls := .type "dict", data := .dict #[] }).update x fun o => { cls := o.cls, dict := some hh.objs.size, data := o.data, slots := o.slots }).get? hh.objs.size
      = some { cls := .type "dict", data := .dict #[] } :=
    (Heap.get?_update_ne _ _ _ _ hxs.symm).trans (Heap.get?_push_at rfl rfl)
  have hnd : ((hh.push { cls := .type "dict", data := .dict #[] }).update x fun o => { cls := o.cls, dict := some hh.objs.size, data := o.data, slots := o.slots }).Ns hh.objs.size (fun _ => none) :=
    ⟨_, #[], _, hgd, rfl, fun e he => absurd he (by simp), fun _ => rfl⟩
  have hn1 := Heap.Ns1.of_empty hnd
  repeat (first | (with_reducible refine wpAny_loadPart_at hx ?_) | (with_reducible refine hC.at ?_) | ((fail_if_success with_reducible show wpAny _ _ (nsSet _ _ _) _ _ _); wp_step))
  refine wpAny_nsSet1 hn1 fun h' hn' hs => ?_
  obtain ⟨oD, esD, epD, hoD, hdD, hcD⟩ := hn'.count (Within.cons name v Within.nil)
  refine wpAny_bind (wpAny_lookBehind hoD (by rw [hdD]; exact pastItsLine_dict (Nat.le_trans hcD (by rw [List.length_cons, List.length_nil, sizeLine_eq]; omega))) ?_)
  refine wpAny_pure ?_
  refine h h' _ hh.objs.size (fr_but F N fun b q hb e => ?_) (news_but N (fun b q hb e => ?_) ?_ off)
  · exact (hs.2 b (Nat.ne_of_lt (Heap.lt_size e))).trans ((Heap.get?_update_ne _ _ _ _ hb).trans (Heap.get?_push_of_some _ e))
  · exact (hs.2 b (Nat.ne_of_lt (Heap.lt_size e))).trans ((Heap.get?_update_ne _ _ _ _ hb).trans (Heap.get?_push_of_some _ e))
  · exact (hs.2 x hxs).trans (Heap.get?_update_self _ (Heap.get?_push_of_some _ hx) rfl)

theorem exc_call_mwK {u x so C : Addr} {o2 : Obj} {cd : ClassData} {vs : Array Value} {t0 : Addr} {v : Value} {Q : Value → Shared → Prop} (F : Fr h₀ L s.heap m) (X₀ : K.In h₀)
    (N : News h₀ L s.heap ((u, mwObj x) :: (so, o2) :: (x, ⟨.ref C, none, .fields vs, #[]⟩) :: news)) (off : ∀ p ∈ news, p.1 ≠ x) (hc : clsIn K C = some cd) (h0 : vs[0]? = some (.ref t0))
    (h : ∀ h' t', Fr h₀ L h' m → News h₀ L h' ((x, ⟨.ref C, none, .fields (vs.setIfInBounds 0 (.ref t')), #[]⟩) :: (t', ⟨.type "tuple", none, .seq #[v], #[]⟩) :: news) → t' ≠ x → (∀ p ∈ news, p.1 ≠ t') → Q .none { s with heap := h' }) :
    wpAny (model prog w) A (call (.ref u) [v]) Q E s := by
  have X : K.In s.heap := X₀.keeps F.keep
  obtain ⟨hh, g, d, t, os⟩ := s
  obtain ⟨c0, dd, slC, hC⟩ : ∃ c0 dd slC, hh.get? C = some ⟨c0, dd, .cls cd, slC⟩ := by
    unfold clsIn at hc
    split at hc
    · rename_i c d cd' sl ho
      cases hc
      exact ⟨_, _, _, X _ _ ho⟩
    · cases hc
  have hx := (N _ (List.mem_cons_of_mem _ (List.mem_cons_of_mem _ (List.mem_cons_self ..)))).1
  have hxs : x ≠ hh.objs.size := Nat.ne_of_lt (Heap.lt_size hx)
  have Nx : News h₀ L hh ((x, ⟨.ref C, none, .fields vs, #[]⟩) :: news) := fun p hp => N p (List.mem_cons_of_mem _ (List.mem_cons_of_mem _ hp))
  refine exc_call_mw (s := ⟨hh, g, d, t, os⟩) (N _ (List.mem_cons_self ..)).1 hx hC h0 ?_
  have kp : ∀ b q, b ≠ x → hh.get? b = some q → ((hh.push { cls := .type "tuple", data := .seq #[v] }).update x (Obj.mapFields (·.setIfInBounds 0 (.ref hh.objs.size)))).get? b = some q :=
    fun b q hb e => (Heap.get?_update_ne _ _ _ _ hb).trans (Heap.get?_push_of_some _ e)
  have N1 := news_but (o' := ⟨.ref C, none, .fields (vs.setIfInBounds 0 (.ref hh.objs.size)), #[]⟩) Nx kp (Heap.get?_update_self _ (Heap.get?_push_of_some _ hx) rfl) off
  have F1 := fr_but F Nx kp
  refine h _ hh.objs.size F1 (fun p hp => ?_) hxs.symm (fun p hp => Nat.ne_of_lt (Heap.lt_size (Nx p (List.mem_cons_of_mem _ hp)).1))
  rcases List.mem_cons.mp hp with rfl | hp
  · exact N1 _ (List.mem_cons_self ..)
  · rcases List.mem_cons.mp hp with rfl | hp
    · refine ⟨(Heap.get?_update_ne _ _ _ _ hxs.symm).trans (Heap.get?_push_at rfl rfl), fun q => ?_, ?_⟩
      · obtain ⟨oL, es, ep, hL, r⟩ := F.ns
        exact absurd (Heap.lt_size hL) (by rw [← q]; exact Nat.lt_irrefl _)
      · cases z : h₀.get? hh.objs.size with
        | none => rfl
        | some o => exact absurd (Heap.lt_size (F.keep _ _ z)) (Nat.lt_irrefl _)
    · exact N1 _ (List.mem_cons_of_mem _ hp)
end
end
end Mine
end
section
open PySem PySem.W PyProof.Rows PySem.Calls
set_option maxRecDepth 100000
set_option maxHeartbeats 8000000
namespace Mine
noncomputable section
/-! an exception class of the text's own with an __init__ of its own, called -/
section
variable {prog : Program} {w : World} {A : Around} {E : Value → Shared → Prop} {h : Heap} {g : Array GenState} {d : Drawn} {t : Nat} {os : OsState}
variable {nm q : Str} {C N : Addr} {bs bm bmB : List Value} {hdct : Bool} {sn : List Str} {sub : List Value} {ab : Bool} {col : Option Bool} {dd : Option Addr} {k0 k1 k2 k3 k5 : Option Value} {B Bn newId nid initId inN : String} {bmN : List Value}
theorem type_call_exc_initU (Fn : ExcBaseFacts Bn newId inN bmN) (hBn : bmB.contains (.type Bn) = true) (F : ExcBaseFacts B nid initId bmB) (T : OwnTail h bmB bm) {mN : Str → Option Value} {rest : List Value} {fI : Addr} {oI : Obj} {Q : Fin → Shared → Prop}
    (hC : h.get? C = some (excClassObj nm q C N bs bm hdct sn sub ab col dd k0 k1 k2 k3 k5 newId)) (hn : h.Ns N mN) (hi : mN "__init__" = some (.ref fI)) (hfI : h.get? fI = some oI) (hfc : oI.cls = .type "function")
    (hq : ∀ h' e, Heap.MadeExcOf h h' e (.ref C) rest →
      wpAny (model prog w) A (call (.ref fI) (.ref e :: rest)) (fun r s' => r = .none ∧ Q (.done (.ret (.ref e))) s') E ⟨h', g, d, t, os⟩) (hrest : rest.length ≤ sizeLine := by size_fits) :
    wpAny (model prog w) A (Builtin.«type.__call__» ⟨.ref C :: rest, []⟩) Q E ⟨h, g, d, t, os⟩ := by
  repeat (first | with_reducible refine wpAny_loadPart_at hC ?_ | with_reducible refine wpAny_madeBy_exc hC ?_ | wp_step)
  refine codeAny_call_builtin_code (Code.quiet_builtin _ Fn.quiet) (wpAny_check_new_subU Fn hBn T hC ?_)
  refine codeAny_exc_new_subU Fn hBn F T hC ?_ hrest
  show wpAny _ _ _ _ _ _
  have hC₁ := Heap.get?_push_of_some { cls := .ref C, data := .fields #[.ref h.objs.size, .none, .none, .none, .bool false, .none] }
    (Heap.get?_push_of_some { cls := .type "tuple", data := .seq rest.toArray } hC)
  have hfI₁ := Heap.get?_push_of_some { cls := .ref C, data := .fields #[.ref h.objs.size, .none, .none, .none, .bool false, .none] }
    (Heap.get?_push_of_some { cls := .type "tuple", data := .seq rest.toArray } hfI)
  have hn₁ : ((h.push { cls := .type "tuple", data := .seq rest.toArray }).push { cls := .ref C, data := .fields #[.ref h.objs.size, .none, .none, .none, .bool false, .none] }).Ns N mN :=
    let ⟨o, es, ep, e, r⟩ := hn; ⟨o, es, ep, Heap.get?_push_of_some _ (Heap.get?_push_of_some _ e), r⟩
  have hget : ((h.push { cls := .type "tuple", data := .seq rest.toArray }).push
      { cls := .ref C, data := .fields #[.ref h.objs.size, .none, .none, .none, .bool false, .none] }).get? (h.objs.size + 1) = some
      { cls := .ref C, data := .fields #[.ref h.objs.size, .none, .none, .none, .bool false, .none] } := by heap_get
  have hcC : (Value.ref C :: bm).contains (.ref C) = true := by simp
  have T₁ := T.keeps (h' := (h.push { cls := .type "tuple", data := .seq rest.toArray }).push { cls := .ref C, data := .fields #[.ref h.objs.size, .none, .none, .none, .bool false, .none] })
    fun b o e => Heap.get?_push_of_some _ (Heap.get?_push_of_some _ e)
  unfold isInstance
  repeat (first | with_reducible refine wpAny_loadPart_at hget ?_ | (with_reducible refine wpAny_isSubtype_exc hC₁ ?_; rw [hcC]) | wp_step)
  show wpAny _ _ (typeLookup (.ref C) _) _ _ _
  refine wpAny_typeLookup_tail hC₁ hn₁ T₁ F.mroIs F.init.lookup ?_
  rw [hi]
  refine wpAny_holding (wpAny_bind ?_)
  unfold bindSpecial
  refine wpAny_bind (wpAny_typeOf (T := "function") ⟨_, hfI₁, hfc⟩ ?_)
  rw [if_pos (by decide)]
  refine wpAny_pure (wpAny_bind (wpAny_mono (hq _ (h.objs.size + 1) ⟨fun b o hb => Heap.get?_push_of_some _ (Heap.get?_push_of_some _ hb), Heap.get?_none_of_le (Nat.le_succ _), h.objs.size, hget, Heap.get?_none_of_le (Nat.le_refl _), ?_⟩) (fun r s' hr => ?_) fun _ _ x => x))
  · exact Heap.get?_push_of_some _ (Heap.get?_push_at rfl rfl)
  · obtain ⟨rfl, hQ⟩ := hr
    wp_walk
    exact hQ
theorem call_exc_initU (Fn : ExcBaseFacts Bn newId inN bmN) (hBn : bmB.contains (.type Bn) = true) (F : ExcBaseFacts B nid initId bmB) (T : OwnTail h bmB bm) {mN : Str → Option Value} {rest : List Value} {fI : Addr} {oI : Obj} {Q : Value → Shared → Prop}
    (hC : h.get? C = some (excClassObj nm q C N bs bm hdct sn sub ab col dd k0 k1 k2 k3 k5 newId)) (hn : h.Ns N mN) (hi : mN "__init__" = some (.ref fI)) (hfI : h.get? fI = some oI) (hfc : oI.cls = .type "function")
    (hq : ∀ h' e, Heap.MadeExcOf h h' e (.ref C) rest →
      wpAny (model prog w) (A.under (.builtin "type.__call__" ⟨.ref C :: rest, []⟩)) (call (.ref fI) (.ref e :: rest)) (fun r s' => r = .none ∧ Q (.ref e) s') E ⟨h', g, d, t, os⟩) (hrest : rest.length ≤ sizeLine := by size_fits) :
    wpAny (model prog w) A (call (.ref C) rest) Q E ⟨h, g, d, t, os⟩ := by
  have f1 := tc_lookup
  have f2 := tc_bind (.ref C)
  have hT : (⟨h, g, d, t, os⟩ : Shared).TypeIs (.ref C) "type" := ⟨_, hC, rfl⟩
  refine wpAny_call (codeAny_of_tree ?_)
  show wpAny _ _ (callAny (.ref C) _) _ _ _
  repeat (any_goals (first | assumption | with_reducible refine wpAny_loadPart_at hC ?_ | wp_step))
  refine ⟨rfl, ?_⟩
  refine codeAny_call_builtin_at (Code.quiet_builtin _ (by decide +kernel)) entry_typeCall (wpAny_check_type_call_sub hC (type_call_exc_initU (hrest := hrest) Fn hBn F T hC hn hi hfI hfc fun h' e hm => ?_))
  exact hq h' e hm
end
end
end Mine
end
section
open PySem PySem.W PyProof.Rows PySem.Calls
set_option maxRecDepth 100000
set_option maxHeartbeats 8000000
namespace Mine
local macro_rules | `(tactic| walk_at "none0") => `(tactic| fail)
local macro_rules | `(tactic| walk_at "none1") => `(tactic| fail)
local macro_rules | `(tactic| walk_at "none2") => `(tactic| fail)
local macro_rules | `(tactic| walk_at "none3") => `(tactic| fail)
local macro_rules | `(tactic| walk_at "none4") => `(tactic| fail)
local macro_rules | `(tactic| walk_at "none5") => `(tactic| fail)
local macro_rules | `(tactic| walk_at "none6") => `(tactic| fail)
local macro_rules | `(tactic| walk_at "none7") => `(tactic| fail)
local macro_rules | `(tactic| walk_at "none8") => `(tactic| fail)
local macro_rules | `(tactic| walk_at "none9") => `(tactic| fail)
local macro_rules | `(tactic| walk_at "none10") => `(tactic| fail)
local macro_rules | `(tactic| walk_at "none11") => `(tactic| fail)
noncomputable section
/-- the object of an exception, its record as it stands before it flies -/
abbrev excObj (C t : Addr) (od : Option Addr) : Obj := ⟨.ref C, od, .fields #[.ref t, .none, .none, .none, .bool false, .none], #[]⟩
abbrev tupObj (vs : Array Value) : Obj := ⟨.type "tuple", none, .seq vs, #[]⟩

section
variable {M : Model} {A : Around} {E : Value → Shared → Prop} {s' : Shared} {base g : Heap} {outer : List Env} {L a e t : Addr} {m : Str → Option Value} {name : Str} {scope : Scope} {cd : Value} {Q : Unit → Shared → Prop} {news : List (Addr × Obj)}
theorem leave_raise2 {C : Addr} {od : Option Addr} {vs : List Value} (K : Below A base outer g) (F : Fr g L s'.heap m) (N : News g L s'.heap ((e, excObj C t od) :: (t, tupObj vs.toArray) :: news)) (oe : ∀ p ∈ news, p.1 ≠ e) (ot : ∀ p ∈ news, p.1 ≠ t)
    (hQ : ∀ h' t, RaisedS base g outer e (.ref C) t vs news h' → RaisedK base outer e (.ref C) t vs news h' → g.UpToSlots h' → Q () { s' with heap := h' }) (hk : scope.kind = .function := by rfl) :
    wpAny M (A.deeper (envOf name scope L a cd)) (leaving (envOf name scope L a cd) (.ref e)) Q E s' := by
  have K' := K.push (name := name) (a := a) (cd := cd) F hk
  have Ne := N _ (List.mem_cons_self ..)
  have Nt := N _ (List.mem_cons_of_mem _ (List.mem_cons_self ..))
  have be : base.get? e = none := fresh_of_stays K.stays Ne.2.2
  have bt : base.get? t = none := fresh_of_stays K.stays Nt.2.2
  let as : List Addr := e :: t :: (envOf name scope L a cd :: outer).filterMap (·.frame)
  have hin : ∀ env ∈ (envOf name scope L a cd :: outer), ∀ b, env.frame = some b → b ∈ as := fun env he b hb => List.mem_cons_of_mem _ (List.mem_cons_of_mem _ (List.mem_filterMap.mpr ⟨env, he, hb⟩))
  have st : base.StaysIn (hideAll s'.heap as) := fun b o q => hideAll_get _ (K'.stays b o q) fun hm => by
    rcases List.mem_cons.mp hm with rfl | hm
    · rw [be] at q; cases q
    · rcases List.mem_cons.mp hm with rfl | hm
      · rw [bt] at q; cases q
      · rw [(K'.frames.mem hm).1] at q; cases q
  have sg : ∀ b o, g.get? b = some o → b ∉ outer.filterMap (·.frame) → (hideAll s'.heap as).get? b = some o := fun b o q nm => hideAll_get _ (F.keep b o q) fun hm => by
    rcases List.mem_cons.mp hm with rfl | hm
    · rw [Ne.2.2] at q; cases q
    · rcases List.mem_cons.mp hm with rfl | hm
      · rw [Nt.2.2] at q; cases q
      · rcases kts_mem hm with z | z
        · rw [z, kts_self F] at q
          cases q
        · exact nm z
  have hl : ∀ q ∈ news, (hideAll s'.heap as).get? q.1 = some q.2 ∧ g.get? q.1 = none ∧ base.get? q.1 = none := fun q hq => by
    have Nq := N q (List.mem_cons_of_mem _ (List.mem_cons_of_mem _ hq))
    refine ⟨hideAll_get _ Nq.1 fun hm => ?_, Nq.2.2, fresh_of_stays K.stays Nq.2.2⟩
    rcases List.mem_cons.mp hm with z | hm
    · exact oe q hq z
    · rcases List.mem_cons.mp hm with z | hm
      · exact ot q hq z
      · obtain ⟨env, he, hf⟩ := List.mem_filterMap.mp hm
        rcases List.mem_cons.mp he with rfl | he
        · exact Nq.2.1 (Option.some.inj hf).symm
        · obtain ⟨o, ho, _⟩ := (K.frames.mem (List.mem_filterMap.mpr ⟨env, he, hf⟩)).2
          rw [Nq.2.2] at ho; cases ho
  refine wpAny_leaving_firstW (base := hideAll s'.heap as) (a0 := .ref t) K'.stack (funFrames_hide K'.frames hin) rfl Ne.1 (fun b o q => of_hideAll _ q) (hideAll_none _ (List.mem_cons_self ..)) rfl rfl rfl fun h' hL => ?_
  obtain ⟨k1, ⟨_, _, k2⟩, k3, k4⟩ := hL
  have R : RaisedS base g outer e (.ref C) t vs news h' := ⟨⟨_, st, sg, hl, ⟨k1, hideAll_none _ (List.mem_cons_self ..), k2, k3⟩, hideAll_none _ (List.mem_cons_of_mem _ (List.mem_cons_self ..))⟩, Heap.TupAt.of_slots ⟨_, _, Nt.1, rfl, rfl⟩ k4⟩
  exact hQ h' t R R.toK ((Heap.UpToSlots.of_keeps F.keep).trans k4)
end

/-! the statement raise -/
def RaiseOk (C : Addr) (E : Value → Shared → Prop) (v : Value) (s : Shared) : Prop :=
  ∃ e t od bm nm q N bs hdct sn sub ab col dd k0 k1 k2 k3 k5 newId, v = .ref e ∧ bm.contains (.type "BaseException") = true ∧ s.heap.get? C = some (excClassObj nm q C N bs bm hdct sn sub ab col dd k0 k1 k2 k3 k5 newId) ∧ s.heap.get? e = some (excObj C t od) ∧ E (.ref e) s
section
variable {M : Model} {A : Around} {E : Value → Shared → Prop} {env : Env}
theorem raiseStmt2 {C : Addr} {s : Shared} {x : Sem Value} {Q : Flow → Shared → Prop} (hh : A.handled = none)
    (h : wpAny M A x (RaiseOk C E) E s) : wpAny M A (raiseStmt env (some x) none) Q E s := by
  unfold raiseStmt
  refine wpAny_bind (wpAny_mono h (fun v s₁ h₁ => ?_) fun _ _ x => x)
  obtain ⟨e, t, od, bm, nm, q, N, bs, hdct, sn, sub, ab, col, dd, k0, k1, k2, k3, k5, newId, rfl, hbase, hC, he, hE⟩ := h₁
  have hcB : (Value.ref C :: bm).contains (.type "BaseException") = true := by rw [List.contains_cons, hbase, Bool.or_true]
  obtain ⟨hp, g, d, tk, os⟩ := s₁
  repeat (first | with_reducible refine wpAny_loadPart_at he ?_ | with_reducible refine wpAny_loadPart_at hC ?_ | (with_reducible refine wpAny_isSubtype_exc hC ?_; rw [hcB]) | wp_step)
  exact wpAny_raiseNew_none hh hE
theorem raise2 {C : Addr} {s : Shared} {x : Expr} {pos : Pos} {Q : Flow → Shared → Prop} (hh : A.handled = none) (h : wpAny M A (eval x env) (RaiseOk C E) E s) :
    wpAny M A (exec (.Raise (some x) none pos) env) Q E s := by
  rw [arm_exec_Raise]
  refine wpAny_bind (wpAny_standAt ?_)
  simp only [evalOpt, Option.map]
  exact raiseStmt2 (C := C) hh (wpAny_bind (wpAny_mono h (fun v s₃ h₃ => wpAny_bind (wpAny_standAt (wpAny_pure h₃))) fun _ _ x => x))
end
end
end Mine
end
section
open PySem PySem.W PyProof.Rows
set_option maxRecDepth 100000
set_option maxHeartbeats 8000000
namespace Mine
noncomputable section
theorem mark : Mark PySem.Challenge.rw_bi0018_01 hd.heap_39 := by
  k_fill
  trivial
theorem inst_exc {h₀ h : Heap} {L e C : Addr} {news : List (Addr × Obj)} {vs : Array Value} {sl : Array (Option Value)} (N : News h₀ L h news) (hm : (e, (⟨.ref C, none, .fields vs, sl⟩ : Obj)) ∈ news) : InstAt h e ⟨.ref C, none, .fields vs, sl⟩ C none :=
  ⟨(N _ hm).1, rfl, rfl, trivial⟩
local macro_rules | `(tactic| k_inst) => `(tactic| (refine' inst_exc ?N ?h1; (case N => k_asm); (case h1 => k_mem)))
local macro_rules | `(tactic| walk_at "getMethod ref") => `(tactic| (k_here; k_dflt (refine' sup_method ?k1 ?k2 ?k3 ?k4 ?k5 ?k6 ?k7 ?k8 ?_; (case k1 => k_asm); (case k2 => k_asm); (case k3 => k_asm); (case k4 => k_mem); (case k5 => k_inst); (case k6 => k_is); (case k7 => ks_is); (case k8 => k_is); k_whole); intro q' h' F' N' l1; (try k_lt l1)))
local macro_rules | `(tactic| walk_at "callWith ref") => `(tactic| (k_here; k_dflt (refine' callWith_mw ?k1 ?k2 ?_; (case k1 => k_asm); (case k2 => k_mem); k_whole)))
theorem mw_at {h₀ h : Heap} {L u x : Addr} {news : List (Addr × Obj)} (N : News h₀ L h news) (hm : (u, mwObj x) ∈ news) : MwAt u x h := (N _ hm).1
local macro_rules | `(tactic| walk_at "And") => `(tactic| ((with_reducible show MwAt _ _ _ ∧ _); k_dflt (refine' And.intro (mw_at ?mwN ?mwM) ?_; (case mwN => k_asm); (case mwM => k_mem)); try dsimp only [List.nil_append, List.cons_append]))
local macro_rules | `(tactic| walk_at "call ref") => `(tactic| (k_here; k_dflt (refine' exc_call_mwK ?k1 ?k2 ?k3 ?k4 ?k5 ?k6 ?_; (case k1 => k_asm); (case k2 => k_asm); (case k3 => k_asm); (case k4 => assumption); (case k5 => k_is); (case k6 => rfl); k_whole); intro h' t' F' N' d' o'))
theorem off_cons {x t : Addr} {o : Obj} {news : List (Addr × Obj)} (d : t ≠ x) (off : ∀ p ∈ news, p.1 ≠ x) : ∀ p ∈ (t, o) :: news, p.1 ≠ x := fun p hp => by
  rcases List.mem_cons.mp hp with rfl | hp
  · exact d
  · exact off p hp
local macro_rules | `(tactic| walk_at "setAttr ref") => `(tactic| (k_here; k_dflt (refine' exc_store ?k1 ?k2 ?k3 ?k4 ?k5 ?k6 ?k7 ?k8 ?k9 ?_; (case k1 => k_asm); (case k2 => k_asm); (case k3 => k_asm); (case k4 => exact off_cons (by assumption) (by assumption)); (case k5 => k_is); (case k6 => exact ⟨_, _, rfl⟩); (case k7 => rfl); (case k8 => k_is); (case k9 => k_is); k_whole); intro h' tk' dx' F' N'))

theorem c_init46 {w : World} {mean : ExcName → Option Value} {mg mb : Str → Option Value} {dp un : Nat} {gd : Option (List Code)} {cn : Str} {cs : Scope} {a : Addr} {ccd : Value} {cl : List (Str × Addr)} {outer : List Env} {A₀ : Around} {base h₀ : Heap} {L : Addr} {m : Str → Option Value} {s : Shared} {Q E : Value → Shared → Prop} {news : List (Addr × Obj)}
    {e t : Addr} {msg : Str} {tm : Tok} {v : Value}
    (B : Below A₀ base outer h₀) (F : Fr h₀ L s.heap m) (X : (hd.heap_39 w.params).In h₀) (T : Top hd.view_39 LO mean mg mb h₀) (hk : cs.kind = .function)
    (N : News h₀ L s.heap ((e, excObj 46 t none) :: news)) (off : ∀ p ∈ news, p.1 ≠ e) (hdp : dp + 3 < recursionLimit)
    (hret : ∀ (h' : Heap) (tk' : Nat) (od : Option Addr) (t' : Addr), Fr h₀ L h' m → News h₀ L h' ((e, excObj 46 t' od) :: (t', tupObj #[.str msg tm]) :: news) → (∀ p ∈ news, p.1 ≠ t') → Q .none { s with heap := h', toks := tk' }) :
    wpAny (model PG w) (ktrTop dp un gd cn cs L a ccd cl outer) (call (.ref 43) [.ref e, .str msg tm, v]) Q E s := by
  have hm := mark
  w_top on
  refine wpAny_call ?_
  k_dflt (refine' ks_code_super ?k1 ?k2 ?k3 ?k4 ?k5 ?kA ?kF ?kK ?k6 ?k7 ?k8 ?k9 ?kB ?_ ?c1 ?c2 ?c3 ?c4; (case kA => exact rfl); (case kF => exact rfl); (case kK => assumption); (case k1 => k_asm); (case k2 => k_asm); (case k3 => k_asm); (case k4 => k_asm); (case k5 => k_asm); (case k6 => k_is); (case k7 => k_is); (case k8 => ktr_room); (case k9 => exact BindsTo.of_eq rfl); (case kB => exact locs rfl); (case c1 => decide); (case c2 => exact rfl); (case c3 => exact rfl); (case c4 => exact rfl); intro g' L' h' FG' F' N' B' X' T' l1; (try k_lt l1); (try dsimp only); (try k_lift B'))
  k_steps
  all_goals exact hret _ _ _ _ (by k_asm) (by k_asm) (by assumption)
theorem c_init67 {w : World} {mean : ExcName → Option Value} {mg mb : Str → Option Value} {dp un : Nat} {gd : Option (List Code)} {cn : Str} {cs : Scope} {a : Addr} {ccd : Value} {cl : List (Str × Addr)} {outer : List Env} {A₀ : Around} {base h₀ : Heap} {L : Addr} {m : Str → Option Value} {s : Shared} {Q E : Value → Shared → Prop} {news : List (Addr × Obj)}
    {e t : Addr} {msg : Str} {tm : Tok} {v : Value}
    (B : Below A₀ base outer h₀) (F : Fr h₀ L s.heap m) (X : (hd.heap_39 w.params).In h₀) (T : Top hd.view_39 LO mean mg mb h₀) (hk : cs.kind = .function)
    (N : News h₀ L s.heap ((e, excObj 67 t none) :: news)) (off : ∀ p ∈ news, p.1 ≠ e) (hdp : dp + 3 < recursionLimit)
    (hret : ∀ (h' : Heap) (tk' : Nat) (od : Option Addr) (t' : Addr), Fr h₀ L h' m → News h₀ L h' ((e, excObj 67 t' od) :: (t', tupObj #[.str msg tm]) :: news) → (∀ p ∈ news, p.1 ≠ t') → Q .none { s with heap := h', toks := tk' }) :
    wpAny (model PG w) (ktrTop dp un gd cn cs L a ccd cl outer) (call (.ref 64) [.ref e, .str msg tm, v]) Q E s := by
  have hm := mark
  w_top on
  refine wpAny_call ?_
  k_dflt (refine' ks_code_super ?k1 ?k2 ?k3 ?k4 ?k5 ?kA ?kF ?kK ?k6 ?k7 ?k8 ?k9 ?kB ?_ ?c1 ?c2 ?c3 ?c4; (case kA => exact rfl); (case kF => exact rfl); (case kK => assumption); (case k1 => k_asm); (case k2 => k_asm); (case k3 => k_asm); (case k4 => k_asm); (case k5 => k_asm); (case k6 => k_is); (case k7 => k_is); (case k8 => ktr_room); (case k9 => exact BindsTo.of_eq rfl); (case kB => exact locs rfl); (case c1 => decide); (case c2 => exact rfl); (case c3 => exact rfl); (case c4 => exact rfl); intro g' L' h' FG' F' N' B' X' T' l1; (try k_lt l1); (try dsimp only); (try k_lift B'))
  k_steps
  all_goals exact hret _ _ _ _ (by k_asm) (by k_asm) (by assumption)
theorem ns_some_of {K : Frag} {h : Heap} {N : Addr} {mg : Str → Option Value} {n : Str} {v : Value} (X : K.In h) (G : h.Ns N mg) (e : nsIn K N n = some (some v)) : mg n = some v := by
  obtain ⟨o, es, ep, ho, hd, _, hf⟩ := G
  unfold nsIn at e
  split at e
  · rename_i c d es' n' sl q
    have := X _ _ q
    rw [ho] at this
    cases this
    cases hd
    split at e
    · rename_i en he
      cases e
      rw [← hf]
      unfold nsFind findBy
      rw [← Array.find?_toList, he]
      rfl
    · split at e <;> cases e
  · cases e
theorem c_exc46 {w : World} {mean : ExcName → Option Value} {mg mb : Str → Option Value} {dp un : Nat} {gd : Option (List Code)} {cn : Str} {cs : Scope} {a : Addr} {ccd : Value} {cl : List (Str × Addr)} {outer : List Env} {A₀ : Around} {base h₀ : Heap} {L : Addr} {m : Str → Option Value} {s : Shared} {Q E : Value → Shared → Prop} {news : List (Addr × Obj)}
    {msg : Str} {tm : Tok} {v : Value}
    (B : Below A₀ base outer h₀) (F : Fr h₀ L s.heap m) (X : (hd.heap_39 w.params).In h₀) (T : Top hd.view_39 LO mean mg mb h₀) (hk : cs.kind = .function)
    (N : News h₀ L s.heap news) (hdp : dp + 6 < recursionLimit)
    (hret : ∀ (h' : Heap) (tk' : Nat) (e t' : Addr) (od : Option Addr), Fr h₀ L h' m → News h₀ L h' ((e, excObj 46 t' od) :: (t', tupObj #[.str msg tm]) :: news) → (∀ p ∈ news, p.1 ≠ e) → (∀ p ∈ news, p.1 ≠ t') → Q (.ref e) { s with heap := h', toks := tk' }) :
    wpAny (model PG w) (ktrTop dp un gd cn cs L a ccd cl outer) (call (.ref 46) [.str msg tm, v]) Q E s := by
  have hm := mark
  have XS := X.keeps F.keep
  obtain ⟨hh, g, d, t, os⟩ := s
  have ok : nsOkIn (hd.heap_39 w.params) 45 = true := by kernel_rfl
  have hi : nsIn (hd.heap_39 w.params) 45 "__init__" = some (some (.ref 43)) := by kernel_rfl
  have tl : tailIn (hd.heap_39 w.params) [.type "Exception", .type "BaseException", .type "object"] [.ref 24, .type "Exception", .type "BaseException", .type "object"] = true := by kernel_rfl
  refine call_exc_initU PySem.F.excBase_Exception (by decide +kernel) PySem.F.excBase_Exception (tail_of_in XS tl) (XS _ _ (by k_is)) (.of_isNs (isNs_of_in XS ok)) (ns_some_of XS (.of_isNs (isNs_of_in XS ok)) hi) (XS _ _ (by k_is)) rfl fun h' e hm => ?_
  have F' := F.keeps hm.keeps
  obtain ⟨t', he, ht, _⟩ := hm.there
  have N' := N.grown hm.keeps
  have fresh : h₀.get? e = none := by
    cases z : h₀.get? e with
    | none => rfl
    | some o => have := F.keep _ _ z; rw [hm.new] at this; cases this
  refine c_init46 (t := t') (news := news) B F' X T hk ?_ ?_ ?_ ?_
  · intro p hp
    rcases List.mem_cons.mp hp with rfl | hp
    · refine ⟨he, fun q => ?_, fresh⟩
      obtain ⟨oL, es, ep, hL, r⟩ := F.ns
      rw [← q, hm.new] at hL
      cases hL
    · exact N' p hp
  · intro p hp q
    have := (N p hp).1
    rw [q, hm.new] at this
    cases this
  · show dp + 1 + 3 < recursionLimit
    omega
  · intro h'' tk' od t'' F'' N'' o''
    refine ⟨rfl, hret h'' tk' e t'' od F'' N'' (fun p hp q => ?_) o''⟩
    have := (N p hp).1
    rw [q, hm.new] at this
    cases this
theorem c_exc67 {w : World} {mean : ExcName → Option Value} {mg mb : Str → Option Value} {dp un : Nat} {gd : Option (List Code)} {cn : Str} {cs : Scope} {a : Addr} {ccd : Value} {cl : List (Str × Addr)} {outer : List Env} {A₀ : Around} {base h₀ : Heap} {L : Addr} {m : Str → Option Value} {s : Shared} {Q E : Value → Shared → Prop} {news : List (Addr × Obj)}
    {msg : Str} {tm : Tok} {v : Value}
    (B : Below A₀ base outer h₀) (F : Fr h₀ L s.heap m) (X : (hd.heap_39 w.params).In h₀) (T : Top hd.view_39 LO mean mg mb h₀) (hk : cs.kind = .function)
    (N : News h₀ L s.heap news) (hdp : dp + 6 < recursionLimit)
    (hret : ∀ (h' : Heap) (tk' : Nat) (e t' : Addr) (od : Option Addr), Fr h₀ L h' m → News h₀ L h' ((e, excObj 67 t' od) :: (t', tupObj #[.str msg tm]) :: news) → (∀ p ∈ news, p.1 ≠ e) → (∀ p ∈ news, p.1 ≠ t') → Q (.ref e) { s with heap := h', toks := tk' }) :
    wpAny (model PG w) (ktrTop dp un gd cn cs L a ccd cl outer) (call (.ref 67) [.str msg tm, v]) Q E s := by
  have hm := mark
  have XS := X.keeps F.keep
  obtain ⟨hh, g, d, t, os⟩ := s
  have ok : nsOkIn (hd.heap_39 w.params) 66 = true := by kernel_rfl
  have hi : nsIn (hd.heap_39 w.params) 66 "__init__" = some (some (.ref 64)) := by kernel_rfl
  have tl : tailIn (hd.heap_39 w.params) [.type "Exception", .type "BaseException", .type "object"] [.ref 24, .type "Exception", .type "BaseException", .type "object"] = true := by kernel_rfl
  refine call_exc_initU PySem.F.excBase_Exception (by decide +kernel) PySem.F.excBase_Exception (tail_of_in XS tl) (XS _ _ (by k_is)) (.of_isNs (isNs_of_in XS ok)) (ns_some_of XS (.of_isNs (isNs_of_in XS ok)) hi) (XS _ _ (by k_is)) rfl fun h' e hm => ?_
  have F' := F.keeps hm.keeps
  obtain ⟨t', he, ht, _⟩ := hm.there
  have N' := N.grown hm.keeps
  have fresh : h₀.get? e = none := by
    cases z : h₀.get? e with
    | none => rfl
    | some o => have := F.keep _ _ z; rw [hm.new] at this; cases this
  refine c_init67 (t := t') (news := news) B F' X T hk ?_ ?_ ?_ ?_
  · intro p hp
    rcases List.mem_cons.mp hp with rfl | hp
    · refine ⟨he, fun q => ?_, fresh⟩
      obtain ⟨oL, es, ep, hL, r⟩ := F.ns
      rw [← q, hm.new] at hL
      cases hL
    · exact N' p hp
  · intro p hp q
    have := (N p hp).1
    rw [q, hm.new] at this
    cases this
  · show dp + 1 + 3 < recursionLimit
    omega
  · intro h'' tk' od t'' F'' N'' o''
    refine ⟨rfl, hret h'' tk' e t'' od F'' N'' (fun p hp q => ?_) o''⟩
    have := (N p hp).1
    rw [q, hm.new] at this
    cases this
theorem raiseOk {K : Frag} {E : Value → Shared → Prop} {s : Shared} {h₀ : Heap} {L : Addr} {m : Str → Option Value} {news : List (Addr × Obj)} {C e t N : Addr} {od : Option Addr} {nm q : Str} {bs bm : List Value} {hdct : Bool} {sn : List Str} {sub : List Value} {ab : Bool} {col : Option Bool} {dd : Option Addr} {k0 k1 k2 k3 k5 : Option Value} {newId : String}
    (F : Fr h₀ L s.heap m) (X : K.In h₀) (Nw : News h₀ L s.heap news) (hm : (e, excObj C t od) ∈ news) (ho : K.lookup C = some (excClassObj nm q C N bs bm hdct sn sub ab col dd k0 k1 k2 k3 k5 newId)) (hb : bm.contains (.type "BaseException") = true) (h : E (.ref e) s) : RaiseOk C E (.ref e) s :=
  ⟨e, t, od, bm, nm, q, N, bs, hdct, sn, sub, ab, col, dd, k0, k1, k2, k3, k5, newId, rfl, hb, (X.keeps F.keep) _ _ ho, (Nw _ hm).1, h⟩
end
end Mine
end
section
open PySem PySem.W PyProof.Rows PySem.Calls
set_option maxRecDepth 100000
set_option maxHeartbeats 8000000
namespace Mine
local macro_rules | `(tactic| walk_at "none0") => `(tactic| fail)
local macro_rules | `(tactic| walk_at "none1") => `(tactic| fail)
local macro_rules | `(tactic| walk_at "none2") => `(tactic| fail)
local macro_rules | `(tactic| walk_at "none3") => `(tactic| fail)
local macro_rules | `(tactic| walk_at "none4") => `(tactic| fail)
local macro_rules | `(tactic| walk_at "none5") => `(tactic| fail)
local macro_rules | `(tactic| walk_at "none6") => `(tactic| fail)
local macro_rules | `(tactic| walk_at "none7") => `(tactic| fail)
local macro_rules | `(tactic| walk_at "none8") => `(tactic| fail)
local macro_rules | `(tactic| walk_at "none9") => `(tactic| fail)
local macro_rules | `(tactic| walk_at "none10") => `(tactic| fail)
local macro_rules | `(tactic| walk_at "none11") => `(tactic| fail)
noncomputable section
section
variable {prog : Program} {w : World} {A₀ A : Around} {s : Shared} {base h₀ g₀ : Heap} {outer : List Env} {L a : Addr} {m : Str → Option Value} {env : Env} {news : List (Addr × Obj)} {K : Frag} {p : Program} {loose : List Str} {mean : ExcName → Option Value} {mg mb : Str → Option Value}
    {R : Result → Shared → Prop} {name qual : Str} {params : Arguments} {body : List Stmt} {scope : Scope} {dV kV doc pm cdv ct oc : Value} {an od : Option Addr} {osl : Array (Option Value)} {f : Addr} {args : Args} {binds : List (Str × Value)}
theorem enterX (B : Below A₀ base outer h₀) (F : Fr h₀ L s.heap m) (N : News h₀ L s.heap news) (hA : A.frames = some (env :: outer)) (hf : env.frame = some L) (hke : env.scope.kind = .function) :
    ∃ oL es ep, (hideAll s.heap (news.map (·.1))).get? L = some oL ∧ oL.data = .dict es ep ∧ (∀ h', h'.get? L = some oL → Heap.Ns h' L m) ∧ (∀ (sl : Array (Option Value)) h', h'.get? L = some { oL with slots := sl } → Heap.Ns h' L m) ∧
      h₀.StaysIn (hideAll s.heap (news.map (·.1))) ∧ Below A base (env :: outer) (hideAll s.heap (news.map (·.1))) := by
  have nm : ∀ b o, h₀.get? b = some o → b ∉ news.map (·.1) := fun b o e q => by
    obtain ⟨p, hp, rfl⟩ := List.mem_map.mp q
    rw [(N p hp).2.2] at e; cases e
  have st : h₀.StaysIn (hideAll s.heap (news.map (·.1))) := fun b o e => hideAll_get _ (F.keep b o e) (nm b o e)
  obtain ⟨oL, es, ep, hL, hLd, hLk, hLf⟩ := F.ns
  have nL : L ∉ news.map (·.1) := fun q => by
    obtain ⟨p, hp, e⟩ := List.mem_map.mp q
    exact (N p hp).2.1 e
  have hLg := hideAll_get (news.map (·.1)) hL nL
  have B₁ := pushX B F hf hke
  exact ⟨oL, es, ep, hLg, hLd, fun h' e => ⟨oL, es, ep, e, hLd, hLk, hLf⟩, fun sl h' e => ⟨_, es, ep, e, hLd, hLk, hLf⟩, st, ⟨hA, fun b o e => st b o (B.stays b o e), funFrames_hideAll B₁.frames fun env' he b hb hf' => by
    cases he with
    | head => exact nL ((Option.some.inj (hf.symm.trans hf') : L = b) ▸ hb)
    | tail _ he =>
      obtain ⟨L₁, o₁, hf₁, ho₁⟩ := funFrames_in B.frames env' he
      rw [hf₁] at hf'
      exact nm L₁ o₁ ho₁ ((Option.some.inj hf' : L₁ = b) ▸ hb)⟩⟩
theorem memX (hf : env.frame = some L) {b : Addr} (hm : b ∈ [env].filterMap (·.frame)) : b = L := by
  simp only [List.filterMap_cons, hf, List.filterMap_nil, List.mem_singleton] at hm
  exact hm
theorem code_defSX (B : Below A₀ base [] h₀) (F : Fr h₀ L s.heap m) (X₀ : K.In h₀) (N : News h₀ L s.heap news) (T : Top p loose mean mg mb h₀) (hA : A.frames = some [env]) (hf : env.frame = some L) (hke : env.scope.kind = .function)
    (ho : K.lookup f = some ⟨oc, od, .func (fnOf name qual params body scope dV kV doc pm an cdv ct), osl⟩) (hcd : codeIn K cdv qual = true) (hroom : A.depth < recursionLimit)
    (hbind : BindsTo s (fnOf name qual params body scope dV kV doc pm an cdv ct) args binds) (hloc : ∀ y ∈ binds, scope.names.lookup y.1 = some .local)
    (h : ∀ g L' h₁, Fr h₀ L g m → Fr g L' h₁ (fun y => binds.reverse.lookup y) → News g L' h₁ news → Below A base [env] g → K.In g → Top p loose mean mg mb g → KtsDicts ([env].filterMap (·.frame)) g →
      wpAny (model prog w) (A.deeper (envOf qual scope L' f cdv)) (execs body (envOf qual scope L' f cdv))
        (fun fl s' => LeaveS0 ([env].filterMap (·.frame)) h₀ L m g R (match fl with | .ret v => v | _ => .none) s')
        (fun e s' => wpAny (model prog w) (A.deeper (envOf qual scope L' f cdv)) (leaving (envOf qual scope L' f cdv) e) (fun _ s'' => R (.error e) s'') (fun e' s'' => R (.error e') s'') s')
        { s with heap := h₁, toks := s.toks + binds.length })
    (hco : scope.isCoroutine = false) (hgen : scope.isGenerator = false) (hk : scope.kind = .function)
    (hcell : ∀ x ∈ scope.names, x.2 ≠ .cell) : codeAny (model prog w) A (.call (.ref f) args) R s := by
  have X := X₀.keeps F.keep
  refine codeAny_call_def (fd := fnOf name qual params body scope dV kV doc pm an cdv ct) (body := body) (binds := binds) hroom (X _ _ ho) rfl (T.nolimit.keeps F.keep) (codeRec_of X hcd) rfl hbind hcell hloc (fun h₁ hns hk₁ => ?_) hco hgen hk
  obtain ⟨oL, es, ep, hLg, hLd, hN, hNs, st, B₂⟩ := enterX B F N hA hf hke
  refine wpAny_mono (h _ s.heap.objs.size h₁ ⟨hN _ hLg, st, F.above⟩ ⟨hns, fun b o e => hk₁ b o (of_hideAll _ e), Nat.le_of_eq (hideAll_size _ _)⟩
    (fun p hp => ⟨hk₁ _ _ (N p hp).1, Nat.ne_of_lt (Heap.lt_size (N p hp).1), hideAll_none _ (List.mem_map_of_mem hp)⟩) B₂ (X₀.keeps st) (T.keeps st) (fun b hb => by
      rw [memX hf hb]
      exact ⟨oL, es, ep, hLg, hLd⟩)) (fun fl s' hl => ?_) fun _ _ y => y
  obtain ⟨g', L', m', news', T', F', N', k⟩ := hl
  have nL₀ : h₀.get? L = none := kts_self F
  obtain ⟨sl, hs⟩ := T'.up hLg
  refine k ⟨hNs sl _ (F'.keep _ _ hs), fun b o e => F'.keep b o (T'.other b o (st b o e) (fun q => by
    rw [memX hf q, nL₀] at e
    cases e)), F.above⟩ fun p hp => ⟨(N' p hp).1, fun q => ?_, ?_⟩
  · have := (N' p hp).2.2; rw [q, hs] at this; cases this
  · cases q : h₀.get? p.1 with
    | none => rfl
    | some o =>
      obtain ⟨sl', hs'⟩ := T'.up (st _ _ q)
      have := (N' p hp).2.2
      rw [hs'] at this
      cases this
end
end
end Mine
end
section
open PySem PySem.W PyProof.Rows PySem.Calls
set_option maxRecDepth 100000
set_option maxHeartbeats 8000000
namespace Mine
noncomputable section
theorem mark_Val : Mark PySem.Challenge.rw_bi0018_01 hd.heap_39 := by
  k_fill
  trivial
local macro_rules | `(tactic| walk_at "call builtin:any") => `(tactic| (k_here; (with_reducible show wpAny _ _ (call (Value.builtin "any") [Value.ref _]) _ _ _); k_dflt (refine' any_tup2 ?k1 ?k2 ?k3 ?k4 ?_; (case k1 => k_asm); (case k2 => k_asm); (case k3 => rfl); (case k4 => k_mem); k_whole); intro h' tk' F' N'; (try k_sweep)))
theorem valid_end {h₀ h' : Heap} {L : Addr} {m : Str → Option Value} {news news' : List (Addr × Obj)} {s : Shared} {Q : Value → Shared → Prop} {x y : Bool} {tk' : Nat}
    (hret : ∀ (h' : Heap) (tk' : Nat), Fr h₀ L h' m → News h₀ L h' news → Q (.bool x) { s with heap := h', toks := tk' }) (e : y = x) (F : Fr h₀ L h' m) (N : News h₀ L h' news') (hs : ∀ p ∈ news, p ∈ news') : Q (.bool y) { s with heap := h', toks := tk' } := by
  subst e
  exact hret h' tk' F (cb_drop N hs)
theorem c_valid {w : World} {mean : ExcName → Option Value} {mg mb : Str → Option Value} {dp un : Nat} {gd : Option (List Code)} {cn : Str} {cs : Scope} {a : Addr} {ccd : Value} {cl : List (Str × Addr)} {outer : List Env} {A₀ : Around} {base h₀ : Heap} {L : Addr} {m : Str → Option Value} {s : Shared} {Q E : Value → Shared → Prop} {news : List (Addr × Obj)}
    {x dx : Addr} {h1 h2 h3 : Int} {t1 t2 t3 tl th tn : Tok} {lo n : Int} {hi : Option Int} {em : Bool}
    (B : Below A₀ base outer h₀) (F : Fr h₀ L s.heap m) (X : (hd.heap_39 w.params).In h₀) (N : News h₀ L s.heap news) (T : Top hd.view_39 LO mean mg mb h₀) (hk : cs.kind = .function)
    (hx : (x, instObj 129 dx) ∈ news) (hdx : (dx, binD h1 h2 h3 t1 t2 t3 (.int lo tl) (hiV hi th) (.bool em)) ∈ news) (hdp : dp + 3 < recursionLimit)
    (hret : ∀ (h' : Heap) (tk' : Nat), Fr h₀ L h' m → News h₀ L h' news → Q (.bool (lenOk lo hi em n)) { s with heap := h', toks := tk' }) :
    wpAny (model PG w) (ktrTop dp un gd cn cs L a ccd cl outer) (call (.ref 112) [.ref x, .int n tn]) Q E s := by
  have hm := mark
  have e0 : ∀ k : Int, (k == 0) = decide (k = 0) := fun _ => rfl
  rcases hi with _ | b
  all_goals (
    dsimp only [hiV] at hdx
    w_top on
    refine wpAny_call ?_
    k_dflt cell_enter
    k_steps
    all_goals (refine valid_end hret ?_ (by k_asm) (by assumption) (by k_sub)))
  all_goals (
    clear hret
    simp only [lenOk, e0]
    try simp only [decide_eq_true (show lo ≤ n by assumption)]
    try simp only [decide_eq_false (show ¬ lo ≤ n by assumption)]
    try simp only [decide_eq_true (show n ≤ b by assumption)]
    try simp only [decide_eq_false (show ¬ n ≤ b by assumption)]
    try simp only [show em = true by assumption]
    try simp only [show em = false by assumption]
    try simp)
end
end Mine
end
section
open PySem PySem.W PyProof.Rows PySem.Calls
set_option maxRecDepth 100000
set_option maxHeartbeats 8000000
namespace Mine
local macro_rules | `(tactic| walk_at "none0") => `(tactic| fail)
local macro_rules | `(tactic| walk_at "none1") => `(tactic| fail)
local macro_rules | `(tactic| walk_at "none2") => `(tactic| fail)
local macro_rules | `(tactic| walk_at "none3") => `(tactic| fail)
local macro_rules | `(tactic| walk_at "none4") => `(tactic| fail)
local macro_rules | `(tactic| walk_at "none5") => `(tactic| fail)
local macro_rules | `(tactic| walk_at "none6") => `(tactic| fail)
local macro_rules | `(tactic| walk_at "none7") => `(tactic| fail)
local macro_rules | `(tactic| walk_at "none8") => `(tactic| fail)
local macro_rules | `(tactic| walk_at "none9") => `(tactic| fail)
local macro_rules | `(tactic| walk_at "none10") => `(tactic| fail)
local macro_rules | `(tactic| walk_at "none11") => `(tactic| fail)
noncomputable section
theorem mark_TryB : Mark PySem.Challenge.rw_bi0018_01 hd.heap_39 := by
  k_fill
  trivial
local macro_rules | `(tactic| k_room) => `(tactic| ktr_room)
local macro_rules | `(tactic| k_mem) => `(tactic| (k_dflt assumption))
local macro_rules | `(tactic| walk_at "exec Raise some none") => `(tactic| (k_here; (with_reducible show wpAny _ _ (exec (Stmt.Raise (some (Expr.Call (Expr.Name ("SerializationError" : Str) _) _ _ _)) none _) _) _ _ _); k_dflt (refine' raise2 (C := 46) ?hh ?_; (case hh => rfl))))
local macro_rules | `(tactic| walk_at "exec Raise some none") => `(tactic| (k_here; (with_reducible show wpAny _ _ (exec (Stmt.Raise (some (Expr.Call (Expr.Name ("DeserializationError" : Str) _) _ _ _)) none _) _) _ _ _); k_dflt (refine' raise2 (C := 67) ?hh ?_; (case hh => rfl))))
local macro_rules | `(tactic| walk_at "call ref") => `(tactic| (k_here; k_dflt (first
  | (refine' c_exc46 ?B ?F ?X ?T ?hk ?N ?hd ?_; (case B => k_asm); (case F => k_asm); (case X => k_asm); (case T => k_asm); (case hk => first | exact rfl | assumption); (case N => k_asm); (case hd => ktr_room))
  | (refine' c_exc67 ?B ?F ?X ?T ?hk ?N ?hd ?_; (case B => k_asm); (case F => k_asm); (case X => k_asm); (case T => k_asm); (case hk => first | exact rfl | assumption); (case N => k_asm); (case hd => ktr_room))); intro h' tk' e' t' od' F' N' o1 o2))
local macro_rules | `(tactic| walk_at "RaiseOk") => `(tactic| (k_here; k_dflt (refine' raiseOk ?F ?X ?N ?m ?o ?b ?_; (case F => k_asm); (case X => k_asm); (case N => k_asm); (case m => k_mem); (case o => k_is); (case b => decide +kernel))))
local macro_rules | `(tactic| walk_at "leaving ref") => `(tactic| (k_here; k_dflt (refine' leave_raise2 ?K ?F ?N ?o1 ?o2 ?_; (case K => assumption); (case N => assumption); (case F => k_asm); (case o1 => assumption); (case o2 => assumption)); intro h' t2 S' R' U'; (try dsimp only at S' R' U' ⊢)))
local macro_rules | `(tactic| walk_at "call ref") => `(tactic| (k_here; k_dflt (refine' c_valid ?B ?F ?X ?N ?T ?hk ?hx ?hdx ?hd ?_; (case B => k_asm); (case F => k_asm); (case X => k_asm); (case N => k_asm); (case T => k_asm); (case hk => first | exact rfl | assumption); (case hx => k_mem); (case hdx => k_mem); (case hd => ktr_room)); intro h' tk' F' N'))

theorem tried_ret {h₀ h' : Heap} {L l : Addr} {m : Str → Option Value} {news news' : List (Addr × Obj)} {s : Shared} {Q : Value → Shared → Prop} {mk : Tok → Value} {v : Value} {tk' : Nat} (t : Tok)
    (hret : ∀ (h' : Heap) (tk' : Nat) (l : Addr) (t : Tok), Fr h₀ L h' m → News h₀ L h' ((l, listOf #[mk t] 0) :: news) → (∀ p ∈ news, p.1 < l) → Q (.ref l) { s with heap := h', toks := tk' })
    (e : v = mk t) (F : Fr h₀ L h' m) (N : News h₀ L h' ((l, listOf #[v] 0) :: news')) (hs : ∀ p ∈ news, p ∈ news') (lt : ∀ p ∈ news, p.1 < l) : Q (.ref l) { s with heap := h', toks := tk' } := by
  subst e
  refine hret h' tk' l t F (fun p hp => ?_) lt
  rcases List.mem_cons.mp hp with rfl | hp
  · exact N _ (List.mem_cons_self ..)
  · exact N _ (List.mem_cons_of_mem _ (hs p hp))
/-- what _law_tried hands back -/
def tryV (d : Bool) (v : Value) (x : Str) (t : Tok) : Value := match d with
  | true => v
  | false => .str x t
theorem lt_all {l : Addr} {news : List (Addr × Obj)} (h : AllLt l news) : ∀ p ∈ news, p.1 < l := fun p hp => tb_ltOf h p hp
theorem c_bin_ser {w : World} {mean : ExcName → Option Value} {mg mb : Str → Option Value} {dp un : Nat} {gd : Option (List Code)} {cn : Str} {cs : Scope} {a : Addr} {ccd : Value} {cl : List (Str × Addr)} {A₀ : Around} {base h₀ : Heap} {L : Addr} {m : Str → Option Value} {s : Shared} {Q E : Value → Shared → Prop} {news : List (Addr × Obj)}
    {x dx : Addr} {h1 h2 h3 : Int} {t1 t2 t3 tl th : Tok} {lo : Int} {hi : Option Int} {em : Bool} {arr : Array UInt8} {tb : Tok} {d : Bool}
    (B : Below A₀ base [] h₀) (F : Fr h₀ L s.heap m) (X : (hd.heap_39 w.params).In h₀) (XB : (hd.heap_39 w.params).In base) (N : News h₀ L s.heap news) (T : Top hd.view_39 LO mean mg mb h₀) (TB : Top hd.view_39 LO mean mg mb base) (hk : cs.kind = .function) (hdp : dp + 20 < recursionLimit)
    (hx : (x, instObj 129 dx) ∈ news) (hdx : (dx, binD h1 h2 h3 t1 t2 t3 (.int lo tl) (hiV hi th) (.bool em)) ∈ news) (hd : lenOk lo hi em arr.size = d) (hsz : arr.size < 2 ^ 20)
    (hret : ∀ (h' : Heap) (tk' : Nat) (l : Addr) (t : Tok), Fr h₀ L h' m → News h₀ L h' ((l, listOf #[(tryV d (.bytes arr tb) "to") t] 0) :: news) → (∀ p ∈ news, p.1 < l) → Q (.ref l) { s with heap := h', toks := tk' }) :
    wpAny (model PG w) (ktrTop dp un gd cn cs L a ccd cl []) (call (.ref 200) [.ref x, .bytes arr tb, .bool false]) Q E s := by
  have hm := mark_TryB
  w_top on
  refine wpAny_call ?_
  k_dflt (refine' code_defSX ?k1 ?k2 ?k3 ?k4 ?k5 ?kA ?kF ?kK ?k6 ?k7 ?k8 ?k9 ?kB ?_ ?c2 ?c3 ?c4 ?c5; (case kA => exact rfl); (case kF => exact rfl); (case kK => assumption); (case k2 => k_asm); (case k1 => k_asm); (case k3 => k_asm); (case k4 => k_asm); (case k5 => k_asm); (case k6 => k_is); (case k7 => k_is); (case k8 => ktr_room); (case k9 => exact BindsTo.of_eq rfl); (case kB => exact locs rfl); (case c2 => exact rfl); (case c3 => exact rfl); (case c4 => exact rfl); (case c5 => decide); k_whole; intro g' L' h' FG' F' N' B' X' T' D'; (try dsimp only); (try k_lift B'); (try k_fold))
  k_steps
  all_goals (refine' tried_ret _ hret ?e ?F ?N ?hs ?lt; (case F => k_asm); (case N => assumption); (case hs => k_sub); (case e => first | (rw [← hd, show lenOk lo hi em arr.size = true by assumption]; exact rfl) | (rw [← hd, show lenOk lo hi em arr.size = false by assumption]; exact rfl)); (case lt => first | assumption | (refine lt_all ?_; tbn_find)))
  all_goals (try exact 0)
theorem c_bin_des {w : World} {mean : ExcName → Option Value} {mg mb : Str → Option Value} {dp un : Nat} {gd : Option (List Code)} {cn : Str} {cs : Scope} {a : Addr} {ccd : Value} {cl : List (Str × Addr)} {A₀ : Around} {base h₀ : Heap} {L : Addr} {m : Str → Option Value} {s : Shared} {Q E : Value → Shared → Prop} {news : List (Addr × Obj)}
    {x dx : Addr} {h1 h2 h3 : Int} {t1 t2 t3 tl th : Tok} {lo : Int} {hi : Option Int} {em : Bool} {arr : Array UInt8} {tb : Tok} {d : Bool}
    (B : Below A₀ base [] h₀) (F : Fr h₀ L s.heap m) (X : (hd.heap_39 w.params).In h₀) (XB : (hd.heap_39 w.params).In base) (N : News h₀ L s.heap news) (T : Top hd.view_39 LO mean mg mb h₀) (TB : Top hd.view_39 LO mean mg mb base) (hk : cs.kind = .function) (hdp : dp + 20 < recursionLimit)
    (hx : (x, instObj 129 dx) ∈ news) (hdx : (dx, binD h1 h2 h3 t1 t2 t3 (.int lo tl) (hiV hi th) (.bool em)) ∈ news) (hd : lenOk lo hi em arr.size = d) (hsz : arr.size < 2 ^ 20)
    (hret : ∀ (h' : Heap) (tk' : Nat) (l : Addr) (t : Tok), Fr h₀ L h' m → News h₀ L h' ((l, listOf #[(tryV d (.bytes arr tb) "from") t] 0) :: news) → (∀ p ∈ news, p.1 < l) → Q (.ref l) { s with heap := h', toks := tk' }) :
    wpAny (model PG w) (ktrTop dp un gd cn cs L a ccd cl []) (call (.ref 200) [.ref x, .bytes arr tb, .bool true]) Q E s := by
  have hm := mark_TryB
  w_top on
  refine wpAny_call ?_
  k_dflt (refine' code_defSX ?k1 ?k2 ?k3 ?k4 ?k5 ?kA ?kF ?kK ?k6 ?k7 ?k8 ?k9 ?kB ?_ ?c2 ?c3 ?c4 ?c5; (case kA => exact rfl); (case kF => exact rfl); (case kK => assumption); (case k2 => k_asm); (case k1 => k_asm); (case k3 => k_asm); (case k4 => k_asm); (case k5 => k_asm); (case k6 => k_is); (case k7 => k_is); (case k8 => ktr_room); (case k9 => exact BindsTo.of_eq rfl); (case kB => exact locs rfl); (case c2 => exact rfl); (case c3 => exact rfl); (case c4 => exact rfl); (case c5 => decide); k_whole; intro g' L' h' FG' F' N' B' X' T' D'; (try dsimp only); (try k_lift B'); (try k_fold))
  k_steps
  all_goals (refine' tried_ret _ hret ?e ?F ?N ?hs ?lt; (case F => k_asm); (case N => assumption); (case hs => k_sub); (case e => first | (rw [← hd, show lenOk lo hi em arr.size = true by assumption]; exact rfl) | (rw [← hd, show lenOk lo hi em arr.size = false by assumption]; exact rfl)); (case lt => first | assumption | (refine lt_all ?_; tbn_find)))
  all_goals (try exact 0)
end
end Mine
end
section
open PySem PySem.W PyProof.Rows PySem.Calls
set_option maxRecDepth 100000
set_option maxHeartbeats 8000000
namespace Mine
noncomputable section
theorem mark_TryC : Mark PySem.Challenge.rw_bi0018_01 hd.heap_39 := by
  k_fill
  trivial
local macro_rules | `(tactic| k_room) => `(tactic| ktr_room)
local macro_rules | `(tactic| k_mem) => `(tactic| (k_dflt assumption))
local macro_rules | `(tactic| walk_at "exec Raise some none") => `(tactic| (k_here; (with_reducible show wpAny _ _ (exec (Stmt.Raise (some (Expr.Call (Expr.Name ("SerializationError" : Str) _) _ _ _)) none _) _) _ _ _); k_dflt (refine' raise2 (C := 46) ?hh ?_; (case hh => rfl))))
local macro_rules | `(tactic| walk_at "exec Raise some none") => `(tactic| (k_here; (with_reducible show wpAny _ _ (exec (Stmt.Raise (some (Expr.Call (Expr.Name ("DeserializationError" : Str) _) _ _ _)) none _) _) _ _ _); k_dflt (refine' raise2 (C := 67) ?hh ?_; (case hh => rfl))))
local macro_rules | `(tactic| walk_at "call ref") => `(tactic| (k_here; k_dflt (first
  | (refine' c_exc46 ?B ?F ?X ?T ?hk ?N ?hd ?_; (case B => k_asm); (case F => k_asm); (case X => k_asm); (case T => k_asm); (case hk => first | exact rfl | assumption); (case N => k_asm); (case hd => ktr_room))
  | (refine' c_exc67 ?B ?F ?X ?T ?hk ?N ?hd ?_; (case B => k_asm); (case F => k_asm); (case X => k_asm); (case T => k_asm); (case hk => first | exact rfl | assumption); (case N => k_asm); (case hd => ktr_room))); intro h' tk' e' t' od' F' N' o1 o2))
local macro_rules | `(tactic| walk_at "RaiseOk") => `(tactic| (k_here; k_dflt (refine' raiseOk ?F ?X ?N ?m ?o ?b ?_; (case F => k_asm); (case X => k_asm); (case N => k_asm); (case m => k_mem); (case o => k_is); (case b => decide +kernel))))
local macro_rules | `(tactic| walk_at "leaving ref") => `(tactic| (k_here; k_dflt (refine' leave_raise2 ?K ?F ?N ?o1 ?o2 ?_; (case K => assumption); (case N => assumption); (case F => k_asm); (case o1 => assumption); (case o2 => assumption)); intro h' t2 S' R' U'; (try dsimp only at S' R' U' ⊢)))
local macro_rules | `(tactic| walk_at "call ref") => `(tactic| (k_here; k_dflt (refine' c_valid ?B ?F ?X ?N ?T ?hk ?hx ?hdx ?hd ?_; (case B => k_asm); (case F => k_asm); (case X => k_asm); (case N => k_asm); (case T => k_asm); (case hk => first | exact rfl | assumption); (case hx => k_mem); (case hdx => k_mem); (case hd => ktr_room)); intro h' tk' F' N'))

theorem c_bin_ser5 {w : World} {mean : ExcName → Option Value} {mg mb : Str → Option Value} {dp un : Nat} {gd : Option (List Code)} {cn : Str} {cs : Scope} {a : Addr} {ccd : Value} {cl : List (Str × Addr)} {A₀ : Around} {base h₀ : Heap} {L : Addr} {m : Str → Option Value} {s : Shared} {Q E : Value → Shared → Prop} {news : List (Addr × Obj)}
    {x dx : Addr} {h1 h2 h3 : Int} {t1 t2 t3 tl th : Tok} {lo : Int} {hi : Option Int} {em : Bool} {t5 : Tok}
    (B : Below A₀ base [] h₀) (F : Fr h₀ L s.heap m) (X : (hd.heap_39 w.params).In h₀) (XB : (hd.heap_39 w.params).In base) (N : News h₀ L s.heap news) (T : Top hd.view_39 LO mean mg mb h₀) (TB : Top hd.view_39 LO mean mg mb base) (hk : cs.kind = .function) (hdp : dp + 20 < recursionLimit)
    (hx : (x, instObj 129 dx) ∈ news) (hdx : (dx, binD h1 h2 h3 t1 t2 t3 (.int lo tl) (hiV hi th) (.bool em)) ∈ news)
    (hret : ∀ (h' : Heap) (tk' : Nat) (l : Addr) (t : Tok), Fr h₀ L h' m → News h₀ L h' ((l, listOf #[.str "to" t] 0) :: news) → (∀ p ∈ news, p.1 < l) → Q (.ref l) { s with heap := h', toks := tk' }) :
    wpAny (model PG w) (ktrTop dp un gd cn cs L a ccd cl []) (call (.ref 200) [.ref x, .int 5 t5, .bool false]) Q E s := by
  have hm := mark_TryC
  w_top on
  refine wpAny_call ?_
  k_dflt (refine' code_defSX ?k1 ?k2 ?k3 ?k4 ?k5 ?kA ?kF ?kK ?k6 ?k7 ?k8 ?k9 ?kB ?_ ?c2 ?c3 ?c4 ?c5; (case kA => exact rfl); (case kF => exact rfl); (case kK => assumption); (case k2 => k_asm); (case k1 => k_asm); (case k3 => k_asm); (case k4 => k_asm); (case k5 => k_asm); (case k6 => k_is); (case k7 => k_is); (case k8 => ktr_room); (case k9 => exact BindsTo.of_eq rfl); (case kB => exact locs rfl); (case c2 => exact rfl); (case c3 => exact rfl); (case c4 => exact rfl); (case c5 => decide); k_whole; intro g' L' h' FG' F' N' B' X' T' D'; (try dsimp only); (try k_lift B'); (try k_fold))
  k_steps
  all_goals (refine' tried_ret _ hret ?e ?F ?N ?hs ?lt; (case F => k_asm); (case N => assumption); (case hs => k_sub); (case e => exact rfl); (case lt => first | assumption | (refine lt_all ?_; tbn_find)))
theorem c_bin_desL {w : World} {mean : ExcName → Option Value} {mg mb : Str → Option Value} {dp un : Nat} {gd : Option (List Code)} {cn : Str} {cs : Scope} {a : Addr} {ccd : Value} {cl : List (Str × Addr)} {A₀ : Around} {base h₀ : Heap} {L : Addr} {m : Str → Option Value} {s : Shared} {Q E : Value → Shared → Prop} {news : List (Addr × Obj)}
    {x dx : Addr} {h1 h2 h3 : Int} {t1 t2 t3 tl th : Tok} {lo : Int} {hi : Option Int} {em : Bool} {lv : Addr}
    (B : Below A₀ base [] h₀) (F : Fr h₀ L s.heap m) (X : (hd.heap_39 w.params).In h₀) (XB : (hd.heap_39 w.params).In base) (N : News h₀ L s.heap news) (T : Top hd.view_39 LO mean mg mb h₀) (TB : Top hd.view_39 LO mean mg mb base) (hk : cs.kind = .function) (hdp : dp + 20 < recursionLimit)
    (hx : (x, instObj 129 dx) ∈ news) (hdx : (dx, binD h1 h2 h3 t1 t2 t3 (.int lo tl) (hiV hi th) (.bool em)) ∈ news) (hlv : (lv, listOf #[] 0) ∈ news)
    (hret : ∀ (h' : Heap) (tk' : Nat) (l : Addr) (t : Tok), Fr h₀ L h' m → News h₀ L h' ((l, listOf #[.str "from" t] 0) :: news) → (∀ p ∈ news, p.1 < l) → Q (.ref l) { s with heap := h', toks := tk' }) :
    wpAny (model PG w) (ktrTop dp un gd cn cs L a ccd cl []) (call (.ref 200) [.ref x, .ref lv, .bool true]) Q E s := by
  have hm := mark_TryC
  w_top on
  refine wpAny_call ?_
  k_dflt (refine' code_defSX ?k1 ?k2 ?k3 ?k4 ?k5 ?kA ?kF ?kK ?k6 ?k7 ?k8 ?k9 ?kB ?_ ?c2 ?c3 ?c4 ?c5; (case kA => exact rfl); (case kF => exact rfl); (case kK => assumption); (case k2 => k_asm); (case k1 => k_asm); (case k3 => k_asm); (case k4 => k_asm); (case k5 => k_asm); (case k6 => k_is); (case k7 => k_is); (case k8 => ktr_room); (case k9 => exact BindsTo.of_eq rfl); (case kB => exact locs rfl); (case c2 => exact rfl); (case c3 => exact rfl); (case c4 => exact rfl); (case c5 => decide); k_whole; intro g' L' h' FG' F' N' B' X' T' D'; (try dsimp only); (try k_lift B'); (try k_fold))
  k_steps
  all_goals (refine' tried_ret _ hret ?e ?F ?N ?hs ?lt; (case F => k_asm); (case N => assumption); (case hs => k_sub); (case e => exact rfl); (case lt => first | assumption | (refine lt_all ?_; tbn_find)))
end
end Mine
end
section
open PySem PySem.W PyProof.Rows PySem.Calls
set_option maxRecDepth 100000
set_option maxHeartbeats 8000000
namespace Mine
local macro_rules | `(tactic| walk_at "none0") => `(tactic| fail)
local macro_rules | `(tactic| walk_at "none1") => `(tactic| fail)
local macro_rules | `(tactic| walk_at "none2") => `(tactic| fail)
local macro_rules | `(tactic| walk_at "none3") => `(tactic| fail)
local macro_rules | `(tactic| walk_at "none4") => `(tactic| fail)
local macro_rules | `(tactic| walk_at "none5") => `(tactic| fail)
local macro_rules | `(tactic| walk_at "none6") => `(tactic| fail)
local macro_rules | `(tactic| walk_at "none7") => `(tactic| fail)
local macro_rules | `(tactic| walk_at "none8") => `(tactic| fail)
local macro_rules | `(tactic| walk_at "none9") => `(tactic| fail)
local macro_rules | `(tactic| walk_at "none10") => `(tactic| fail)
local macro_rules | `(tactic| walk_at "none11") => `(tactic| fail)
noncomputable section
open PySem.Builtin.Int (intBits)
/-- the k bytes of n, greatest first -/
def be (k : Nat) (n : Int) : Array UInt8 := ((KTBy.little k n).reverse.map fun x => x.toNat.toUInt8).toArray
theorem little_in : ∀ (k : Nat) (n : Int), ∀ x ∈ KTBy.little k n, 0 ≤ x ∧ x < 256
  | 0, _, x, h => by cases h
  | k + 1, n, x, h => by
    rcases List.mem_cons.mp h with rfl | h
    · omega
    · exact little_in k _ x h
theorem byte_back {x : Int} (h : 0 ≤ x ∧ x < 256) : ((x.toNat.toUInt8.toNat : Nat) : Int) = x := by
  show ((UInt8.ofNat x.toNat).toNat : Int) = x
  rw [UInt8.toNat_ofNat']
  omega
theorem be_ints (k : Nat) (n : Int) : KBw.bInts (be k n) = (KTBy.little k n).reverse := by
  unfold KBw.bInts be
  simp only [List.map_map]
  conv => rhs; rw [← List.map_id ((KTBy.little k n).reverse)]
  refine List.map_congr_left fun x hx => ?_
  exact byte_back (little_in k n x (List.mem_reverse.mp hx))
theorem ints_inj {b c : Array UInt8} (h : KBw.bInts b = KBw.bInts c) : b = c := by
  unfold KBw.bInts at h
  have h2 : b.toList = c.toList := by
    refine (List.map_inj_right (f := fun c : UInt8 => (c.toNat : Int)) fun x y e => ?_).mp h
    exact UInt8.toNat_inj.mp (Int.ofNat_inj.mp e)
  exact Array.toList_inj.mp h2
theorem be_of {b : Array UInt8} {k : Nat} {n : Int} (h : KBw.bInts b = (KTBy.little k n).reverse) : b = be k n := ints_inj (h.trans (be_ints k n).symm)
theorem be_size (k : Nat) (n : Int) : (be k n).size = k := by
  rw [← KBw.ints_length, be_ints, List.length_reverse, KTBy.little_length]
theorem value_snoc (l : List Int) (x : Int) : KFB.value (l ++ [x]) = KFB.value l * 256 + x := by
  unfold KFB.value; rw [List.foldl_append]; rfl
theorem value_little : ∀ (k : Nat) (n : Int), 0 ≤ n → n < 256 ^ k → KFB.value (KTBy.little k n).reverse = n
  | 0, n, h0, h1 => by
    have : n = 0 := by simp at h1; omega
    subst this; rfl
  | k + 1, n, h0, h1 => by
    show KFB.value (n % 256 :: KTBy.little k (n / 256)).reverse = n
    rw [List.reverse_cons, value_snoc, value_little k (n / 256) (by omega) (by rw [Int.pow_succ] at h1; omega)]
    omega
theorem be_value {k : Nat} {n : Int} (h0 : 0 ≤ n) (h1 : n < 256 ^ k) : KFB.value (KBw.bInts (be k n)) = n := by
  rw [be_ints]; exact value_little k n h0 h1
theorem little_pad : ∀ (j z : Nat) (n : Int), 0 ≤ n → n < 256 ^ j → KTBy.little (j + z) n = KTBy.little j n ++ List.replicate z 0
  | 0, z, n, h0, h1 => by
    have : n = 0 := by simp at h1; omega
    subst this
    rw [Nat.zero_add]
    induction z with
    | zero => rfl
    | succ z ih =>
      show (0 : Int) % 256 :: KTBy.little z ((0 : Int) / 256) = _
      rw [show (0 : Int) / 256 = 0 from rfl, ih, List.replicate_succ]; rfl
  | j + 1, z, n, h0, h1 => by
    rw [show j + 1 + z = (j + z) + 1 by omega]
    show n % 256 :: KTBy.little (j + z) (n / 256) = n % 256 :: KTBy.little j (n / 256) ++ _
    rw [little_pad j z (n / 256) (by omega) (by rw [Int.pow_succ] at h1; omega)]; rfl
theorem be_pad {j z : Nat} {n : Int} (h0 : 0 ≤ n) (h1 : n < 256 ^ j) : (List.replicate z (0 : UInt8)).toArray ++ be j n = be (j + z) n := by
  refine ints_inj ?_
  rw [KBw.ints_app rfl rfl, be_ints, be_ints, little_pad j z n h0 h1, List.reverse_append, List.reverse_replicate]
  congr 1
  simp [KBw.bInts]
theorem little_take : ∀ (j z : Nat) (n : Int), KTBy.little (j + z) n = KTBy.little j n ++ KTBy.little z (n / 256 ^ j)
  | 0, z, n => by simp [KTBy.little]
  | j + 1, z, n => by
    rw [show j + 1 + z = (j + z) + 1 by omega]
    show n % 256 :: KTBy.little (j + z) (n / 256) = n % 256 :: KTBy.little j (n / 256) ++ _
    rw [little_take j z (n / 256)]
    have : n / 256 / 256 ^ j = n / 256 ^ (j + 1) := by
      first
        | rw [Int.ediv_ediv (by decide), Int.pow_succ, Int.mul_comm]
        | rw [Int.ediv_ediv_of_nonneg (by decide), Int.pow_succ, Int.mul_comm]
    rw [this]; rfl
/-- the length that int_to_big_endian writes -/
def bl (n : Int) : Nat := (intBits n + 7) / 8
theorem bl_ub {n : Int} (h : 0 < n) : n < 256 ^ bl n := by
  have h1 : intBits n ≤ 8 * bl n := by unfold bl; omega
  have h2 := intBits_le_iff.mp h1
  have e2 : (2 : Nat) ^ 8 = 256 := by decide
  rw [Nat.pow_mul, e2] at h2
  rw [KTBy.p256]; omega
theorem bl_le {n : Int} {k : Nat} (h : 0 < n) (hk : n < 256 ^ k) : bl n ≤ k := by
  have := KTBy.bits_le (x := n) (k := k) (B := 256 ^ k) rfl (by omega) hk
  unfold bl; omega
theorem bl_pos {n : Int} (h : 0 < n) : 1 ≤ bl n := by
  rcases Nat.eq_zero_or_pos (bl n) with h0 | h0
  · have := bl_ub h; rw [h0] at this; simp at this; omega
  · exact h0
theorem pick_zero {b : Array UInt8} {k0 : Int} {ks : List Int} (h : KBw.bInts b = k0 :: ks) : ((KBy.picked b (some 0) (some 1)).toList == #[(0 : UInt8)].toList) = decide (k0 = 0) := by
  have e := KBc.ints_picked h (some 0) (some 1)
  have hc : clipAt (k0 :: ks).length 1 = 1 := by rw [KBc.clip_lit]; simp
  have hc0 : clipAt (k0 :: ks).length 0 = 0 := by rw [KBc.clip_lit]; simp
  simp only [Option.elim, hc, hc0, List.drop_zero, Nat.sub_zero, List.take_succ_cons, List.take_zero] at e
  by_cases c : k0 = 0
  · subst c
    have : KBy.picked b (some 0) (some 1) = #[0] := ints_inj (e.trans rfl)
    rw [this]; decide
  · rw [decide_eq_false c]
    refine beq_eq_false_iff_ne.mpr fun q => c ?_
    have e2 : KBw.bInts (KBy.picked b (some 0) (some 1)) = [0] := by unfold KBw.bInts; rw [q]; rfl
    rw [e] at e2
    exact (List.cons.inj e2).1
/-- what big_endian_int is seen to read -/
def bigV (d : Bool) (n : Int) (t : Tok) : Value := match d with
  | true => .str "from" t
  | false => .int n t
theorem bl_fdiv (n : Int) : ((intBits n : Int) + 7).fdiv 8 = (bl n : Int) := by
  rw [Int.fdiv_eq_ediv_of_nonneg _ (by decide)]
  unfold bl; omega
section
variable {prog : Program} {w : World} {A : Around} {E : Value → Shared → Prop} {s : Shared} {x l : Int} {k : Nat} {t u v : Tok}
theorem pad_eq {j : Nat} {z n q : Int} (h0 : 0 ≤ n) (h1 : n < 256 ^ j) (hq : q.toNat + j = z.toNat) : (List.replicate q.toNat [(0 : UInt8)]).flatten.toArray ++ be j n = be z.toNat n := by
  rw [← hq, Nat.add_comm q.toNat j, ← be_pad h0 h1]
  congr 2
  generalize q.toNat = r
  induction r with
  | zero => rfl
  | succ r ih => rw [List.replicate_succ, List.flatten_cons, ih, List.replicate_succ]; rfl
/-- a mark that names z and n -/
def ZN (z n : Int) : Prop := z ≤ 6 ∧ n = n
theorem add_pad {b c : Array UInt8} {z n : Int} {Q : Value → Shared → Prop} (hz : ZN z n) (e : b ++ c = be z.toNat n) (h : ∀ t' k', Q (.bytes (be z.toNat n) t') { s with toks := k' }) :
    wpAny (model prog w) A (binaryOp .Add (.bytes b t) (.bytes c u)) Q E s := by
  refine KBy.add_bytes ?_ fun t' k' => ?_
  · have := hz.1
    rw [← Array.size_append, e, be_size]; omega
  · rw [e]; exact h t' k'
theorem be_zero (n : Int) : be 0 n = #[] := rfl
theorem pad_nil {q z n : Int} (h0 : n = 0) (hq : q.toNat = z.toNat) : (List.replicate q.toNat [(0 : UInt8)]).flatten.toArray ++ #[] = be z.toNat n := by
  subst h0
  exact pad_eq (j := 0) (n := 0) (by omega) (by decide) (by omega)
theorem pad_nil2 {z n : Int} (h0 : n = 0) (h1 : 1 ≤ z) : (List.replicate (if z - ((#[] : Array UInt8).size : Int) > 0 then z - ((#[] : Array UInt8).size : Int) else 0).toNat [(0 : UInt8)]).flatten.toArray ++ #[] = be z.toNat n := by
  refine pad_nil h0 ?_
  rw [show ((#[] : Array UInt8).size : Int) = 0 from rfl, if_pos (by omega), Int.sub_zero]
theorem pad_eq2 {j : Nat} {z n : Int} (h0 : 0 ≤ n) (h1 : n < 256 ^ j) (hj : j ≤ z.toNat) : (List.replicate (if z - ((be j n).size : Int) > 0 then z - ((be j n).size : Int) else 0).toNat [(0 : UInt8)]).flatten.toArray ++ be j n = be z.toNat n := by
  refine pad_eq h0 h1 ?_
  rw [be_size]; split <;> omega
/-- the value that BigEndianInt.serialize is seen to hand back -/
def serV (d : Bool) (b : Array UInt8) (t : Tok) : Value := match d with
  | true => .bytes b t
  | false => .str "to" t
theorem tb_call {Q : Value → Shared → Prop} (hl : l = (k : Int)) (hk : k ≤ 8) (h0 : 0 ≤ x) (h1 : x < 256 ^ k) (h : ∀ t' k', Q (.bytes (be k x) t') { s with toks := k' }) :
    wpAny (model prog w) A (call (.builtin "int.to_bytes") [.int x t, .int l u, .str (PySem.Str.ofString "big") v]) Q E s := by
  subst hl
  refine KTBy.to_big hk rfl h0 h1 fun b t' k' e _ => ?_
  rw [be_of e]; exact h t' k'
end
end
end Mine
end
section
open PySem PySem.W PyProof.Rows PySem.Calls
set_option maxRecDepth 100000
set_option maxHeartbeats 8000000
namespace Mine
noncomputable section
theorem mark_I2b : Mark PySem.Challenge.rw_bi0018_01 hd.heap_39 := by
  k_fill
  trivial
local macro_rules | `(tactic| k_room) => `(tactic| ktr_room)
local macro_rules | `(tactic| k_mem) => `(tactic| (k_dflt assumption))
local macro_rules | `(tactic| walk_at "call builtin:int.to_bytes") => `(tactic| (k_here; k_dflt (refine' tb_call ?hl ?hk ?h0 ?h1 ?_; (case hl => assumption); (case hk => omega); (case h0 => omega); (case h1 => assumption)); intro t' k'))
theorem i2b_end {h₀ h' : Heap} {L : Addr} {m : Str → Option Value} {news news' : List (Addr × Obj)} {s : Shared} {Q : Value → Shared → Prop} {mk : Tok → Value} {tk' : Nat} (t : Tok)
    (hret : ∀ (h' : Heap) (tk' : Nat) (t : Tok), Fr h₀ L h' m → News h₀ L h' news → Q (mk t) { s with heap := h', toks := tk' })
    (F : Fr h₀ L h' m) (N : News h₀ L h' news') (hs : ∀ p ∈ news, p ∈ news') : Q (mk t) { s with heap := h', toks := tk' } := hret h' tk' t F (cb_drop N hs)
theorem c_i2b {w : World} {mean : ExcName → Option Value} {mg mb : Str → Option Value} {dp un : Nat} {gd : Option (List Code)} {cn : Str} {cs : Scope} {a : Addr} {ccd : Value} {cl : List (Str × Addr)} {outer : List Env} {A₀ : Around} {base h₀ : Heap} {L : Addr} {m : Str → Option Value} {s : Shared} {Q E : Value → Shared → Prop} {news : List (Addr × Obj)}
    {n : Int} {tn : Tok}
    (B : Below A₀ base outer h₀) (F : Fr h₀ L s.heap m) (X : (hd.heap_39 w.params).In h₀) (N : News h₀ L s.heap news) (T : Top hd.view_39 LO mean mg mb h₀) (hk : cs.kind = .function) (hdp : dp + 3 < recursionLimit)
    (h0 : 0 < n) (h1 : n < 256 ^ 6)
    (hret : ∀ (h' : Heap) (tk' : Nat) (t : Tok), Fr h₀ L h' m → News h₀ L h' news → Q (.bytes (be (bl n) n) t) { s with heap := h', toks := tk' }) :
    wpAny (model PG w) (ktrTop dp un gd cn cs L a ccd cl outer) (call (.ref 147) [.int n tn]) Q E s := by
  have hm := mark_I2b
  have hl := bl_fdiv n
  have hp := bl_pos h0
  have hb : bl n ≤ 6 := bl_le h0 h1
  have hu := bl_ub h0
  w_top on
  refine wpAny_call ?_
  k_dflt cell_enter
  k_steps
  all_goals first
    | (exfalso; omega)
    | exact i2b_end _ hret (by k_asm) (by assumption) (by k_sub)
end
end Mine
end
section
open PySem PySem.W PyProof.Rows PySem.Calls
set_option maxRecDepth 100000
set_option maxHeartbeats 8000000
namespace Mine
local macro_rules | `(tactic| walk_at "none0") => `(tactic| fail)
local macro_rules | `(tactic| walk_at "none1") => `(tactic| fail)
local macro_rules | `(tactic| walk_at "none2") => `(tactic| fail)
local macro_rules | `(tactic| walk_at "none3") => `(tactic| fail)
local macro_rules | `(tactic| walk_at "none4") => `(tactic| fail)
local macro_rules | `(tactic| walk_at "none5") => `(tactic| fail)
local macro_rules | `(tactic| walk_at "none6") => `(tactic| fail)
local macro_rules | `(tactic| walk_at "none7") => `(tactic| fail)
local macro_rules | `(tactic| walk_at "none8") => `(tactic| fail)
local macro_rules | `(tactic| walk_at "none9") => `(tactic| fail)
local macro_rules | `(tactic| walk_at "none10") => `(tactic| fail)
local macro_rules | `(tactic| walk_at "none11") => `(tactic| fail)
noncomputable section
theorem mark_TryI : Mark PySem.Challenge.rw_bi0018_01 hd.heap_39 := by
  k_fill
  trivial
local macro_rules | `(tactic| k_room) => `(tactic| ktr_room)
local macro_rules | `(tactic| k_mem) => `(tactic| (k_dflt assumption))
local macro_rules | `(tactic| walk_at "exec Raise some none") => `(tactic| (k_here; (with_reducible show wpAny _ _ (exec (Stmt.Raise (some (Expr.Call (Expr.Name ("SerializationError" : Str) _) _ _ _)) none _) _) _ _ _); k_dflt (refine' raise2 (C := 46) ?hh ?_; (case hh => rfl))))
local macro_rules | `(tactic| walk_at "exec Raise some none") => `(tactic| (k_here; (with_reducible show wpAny _ _ (exec (Stmt.Raise (some (Expr.Call (Expr.Name ("DeserializationError" : Str) _) _ _ _)) none _) _) _ _ _); k_dflt (refine' raise2 (C := 67) ?hh ?_; (case hh => rfl))))
local macro_rules | `(tactic| walk_at "call ref") => `(tactic| (k_here; k_dflt (first
  | (refine' c_exc46 ?B ?F ?X ?T ?hk ?N ?hd ?_; (case B => k_asm); (case F => k_asm); (case X => k_asm); (case T => k_asm); (case hk => first | exact rfl | assumption); (case N => k_asm); (case hd => ktr_room))
  | (refine' c_exc67 ?B ?F ?X ?T ?hk ?N ?hd ?_; (case B => k_asm); (case F => k_asm); (case X => k_asm); (case T => k_asm); (case hk => first | exact rfl | assumption); (case N => k_asm); (case hd => ktr_room))); intro h' tk' e' t' od' F' N' o1 o2))
local macro_rules | `(tactic| walk_at "RaiseOk") => `(tactic| (k_here; k_dflt (refine' raiseOk ?F ?X ?N ?m ?o ?b ?_; (case F => k_asm); (case X => k_asm); (case N => k_asm); (case m => k_mem); (case o => k_is); (case b => decide +kernel))))
local macro_rules | `(tactic| walk_at "leaving ref") => `(tactic| (k_here; k_dflt (refine' leave_raise2 ?K ?F ?N ?o1 ?o2 ?_; (case K => assumption); (case N => assumption); (case F => k_asm); (case o1 => assumption); (case o2 => assumption)); intro h' t2 S' R' U'; (try dsimp only at S' R' U' ⊢)))
local macro_rules | `(tactic| walk_at "call ref") => `(tactic| (k_here; k_dflt (refine' c_valid ?B ?F ?X ?N ?T ?hk ?hx ?hdx ?hd ?_; (case B => k_asm); (case F => k_asm); (case X => k_asm); (case N => k_asm); (case T => k_asm); (case hk => first | exact rfl | assumption); (case hx => k_mem); (case hdx => k_mem); (case hd => ktr_room)); intro h' tk' F' N'))
local macro_rules | `(tactic| walk_at "call ref") => `(tactic| (k_here; k_dflt (refine' c_i2b ?B ?F ?X ?N ?T ?hk ?hd ?h0 ?h1 ?_; (case B => k_asm); (case F => k_asm); (case X => k_asm); (case N => k_asm); (case T => k_asm); (case hk => first | exact rfl | assumption); (case hd => ktr_room); (case h0 => omega); (case h1 => omega)); intro h' tk' t' F' N'))
local macro_rules | `(tactic| walk_at "binaryOp Add bytes bytes") => `(tactic| (k_here; k_dflt (refine' add_pad ?hz ?e ?_; (case hz => assumption); (case e => first | exact pad_nil2 (by omega) (by assumption) | exact pad_eq2 (by omega) (by apply bl_ub; omega) (by apply bl_le <;> omega))); intro t' k'))

theorem c_int_ser {w : World} {mean : ExcName → Option Value} {mg mb : Str → Option Value} {dp un : Nat} {gd : Option (List Code)} {cn : Str} {cs : Scope} {a : Addr} {ccd : Value} {cl : List (Str × Addr)} {A₀ : Around} {base h₀ : Heap} {L : Addr} {m : Str → Option Value} {s : Shared} {Q E : Value → Shared → Prop} {news : List (Addr × Obj)}
    {x dx : Addr} {h1 : Int} {t1 tz tn : Tok} {z n : Int} {d : Bool}
    (B : Below A₀ base [] h₀) (F : Fr h₀ L s.heap m) (X : (hd.heap_39 w.params).In h₀) (XB : (hd.heap_39 w.params).In base) (N : News h₀ L s.heap news) (T : Top hd.view_39 LO mean mg mb h₀) (TB : Top hd.view_39 LO mean mg mb base) (hk : cs.kind = .function) (hdp : dp + 20 < recursionLimit)
    (hx : (x, instObj 179 dx) ∈ news) (hdx : (dx, dictOf [⟨h1, .str "length" t1, .int z tz⟩] 1) ∈ news) (hz1 : 1 ≤ z) (hz6 : z ≤ 6) (hd : decide (0 ≤ n ∧ n < 256 ^ z.toNat) = d)
    (hret : ∀ (h' : Heap) (tk' : Nat) (l : Addr) (t : Tok), Fr h₀ L h' m → News h₀ L h' ((l, listOf #[serV d (be z.toNat n) t] 0) :: news) → (∀ p ∈ news, p.1 < l) → Q (.ref l) { s with heap := h', toks := tk' }) :
    wpAny (model PG w) (ktrTop dp un gd cn cs L a ccd cl []) (call (.ref 200) [.ref x, .int n tn, .bool false]) Q E s := by
  have hm := mark_TryI
  have hz6' : (256:Int) ^ z.toNat ≤ 256 ^ 6 := by
    rw [KTBy.p256, KTBy.p256]; exact Int.ofNat_le.mpr (Nat.pow_le_pow_right (by decide) (by omega))
  have hzn : ZN z n := ⟨hz6, rfl⟩
  have hbs : n ≤ 0 ∨ 256 ^ z.toNat ≤ n ∨ (be (bl n) n).size ≤ 6 := by
    by_cases c1 : n ≤ 0
    · exact .inl c1
    by_cases c2 : 256 ^ z.toNat ≤ n
    · exact .inr (.inl c2)
    have := bl_le (n := n) (k := z.toNat) (by omega) (by omega)
    rw [be_size]; omega
  w_top on
  refine wpAny_call ?_
  k_dflt (refine' code_defSX ?k1 ?k2 ?k3 ?k4 ?k5 ?kA ?kF ?kK ?k6 ?k7 ?k8 ?k9 ?kB ?_ ?c2 ?c3 ?c4 ?c5; (case kA => exact rfl); (case kF => exact rfl); (case kK => assumption); (case k2 => k_asm); (case k1 => k_asm); (case k3 => k_asm); (case k4 => k_asm); (case k5 => k_asm); (case k6 => k_is); (case k7 => k_is); (case k8 => ktr_room); (case k9 => exact BindsTo.of_eq rfl); (case kB => exact locs rfl); (case c2 => exact rfl); (case c3 => exact rfl); (case c4 => exact rfl); (case c5 => decide); k_whole; intro g' L' h' FG' F' N' B' X' T' D'; (try dsimp only); (try k_lift B'); (try k_fold))
  k_steps
  all_goals (refine' tried_ret (mk := fun t => serV d (be z.toNat n) t) _ hret ?e ?F ?N ?hs ?lt; (case F => k_asm); (case N => assumption); (case hs => k_sub); (case e => first | (rw [← hd, decide_eq_true (show 0 ≤ n ∧ n < 256 ^ z.toNat by omega)]; exact rfl) | (rw [← hd, decide_eq_false (show ¬ (0 ≤ n ∧ n < 256 ^ z.toNat) by omega)]; exact rfl)); (case lt => first | assumption | (refine lt_all ?_; tbn_find)))
  all_goals (try exact 0)
end
end Mine
end
section
open PySem PySem.W PyProof.Rows PySem.Calls
set_option maxRecDepth 100000
set_option maxHeartbeats 8000000
namespace Mine
noncomputable section
theorem mark_TryD : Mark PySem.Challenge.rw_bi0018_01 hd.heap_39 := by
  k_fill
  trivial
local macro_rules | `(tactic| k_room) => `(tactic| ktr_room)
local macro_rules | `(tactic| k_mem) => `(tactic| (k_dflt assumption))
local macro_rules | `(tactic| walk_at "exec Raise some none") => `(tactic| (k_here; (with_reducible show wpAny _ _ (exec (Stmt.Raise (some (Expr.Call (Expr.Name ("SerializationError" : Str) _) _ _ _)) none _) _) _ _ _); k_dflt (refine' raise2 (C := 46) ?hh ?_; (case hh => rfl))))
local macro_rules | `(tactic| walk_at "exec Raise some none") => `(tactic| (k_here; (with_reducible show wpAny _ _ (exec (Stmt.Raise (some (Expr.Call (Expr.Name ("DeserializationError" : Str) _) _ _ _)) none _) _) _ _ _); k_dflt (refine' raise2 (C := 67) ?hh ?_; (case hh => rfl))))
local macro_rules | `(tactic| walk_at "call ref") => `(tactic| (k_here; k_dflt (first
  | (refine' c_exc46 ?B ?F ?X ?T ?hk ?N ?hd ?_; (case B => k_asm); (case F => k_asm); (case X => k_asm); (case T => k_asm); (case hk => first | exact rfl | assumption); (case N => k_asm); (case hd => ktr_room))
  | (refine' c_exc67 ?B ?F ?X ?T ?hk ?N ?hd ?_; (case B => k_asm); (case F => k_asm); (case X => k_asm); (case T => k_asm); (case hk => first | exact rfl | assumption); (case N => k_asm); (case hd => ktr_room))); intro h' tk' e' t' od' F' N' o1 o2))
local macro_rules | `(tactic| walk_at "RaiseOk") => `(tactic| (k_here; k_dflt (refine' raiseOk ?F ?X ?N ?m ?o ?b ?_; (case F => k_asm); (case X => k_asm); (case N => k_asm); (case m => k_mem); (case o => k_is); (case b => decide +kernel))))
local macro_rules | `(tactic| walk_at "leaving ref") => `(tactic| (k_here; k_dflt (refine' leave_raise2 ?K ?F ?N ?o1 ?o2 ?_; (case K => assumption); (case N => assumption); (case F => k_asm); (case o1 => assumption); (case o2 => assumption)); intro h' t2 S' R' U'; (try dsimp only at S' R' U' ⊢)))
local macro_rules | `(tactic| walk_at "call ref") => `(tactic| (k_here; k_dflt (refine' c_valid ?B ?F ?X ?N ?T ?hk ?hx ?hdx ?hd ?_; (case B => k_asm); (case F => k_asm); (case X => k_asm); (case N => k_asm); (case T => k_asm); (case hk => first | exact rfl | assumption); (case hx => k_mem); (case hdx => k_mem); (case hd => ktr_room)); intro h' tk' F' N'))
local macro_rules | `(tactic| walk_at "call ref") => `(tactic| (k_here; k_dflt (refine' KFB.call_big ?N ?hm ?hb ?hl ?_; (case N => k_asm); (case hm => k_mem); (case hb => exact rfl); (case hl => (rw [KBw.ints_length]; omega))); intro _ _))
theorem c_int_desF {w : World} {mean : ExcName → Option Value} {mg mb : Str → Option Value} {dp un : Nat} {gd : Option (List Code)} {cn : Str} {cs : Scope} {a : Addr} {ccd : Value} {cl : List (Str × Addr)} {A₀ : Around} {base h₀ : Heap} {L : Addr} {m : Str → Option Value} {s : Shared} {Q E : Value → Shared → Prop} {news : List (Addr × Obj)}
    {x dx : Addr} {h1 : Int} {t1 tz tb : Tok} {z : Int} {arr : Array UInt8}
    (B : Below A₀ base [] h₀) (F : Fr h₀ L s.heap m) (X : (hd.heap_39 w.params).In h₀) (XB : (hd.heap_39 w.params).In base) (N : News h₀ L s.heap news) (T : Top hd.view_39 LO mean mg mb h₀) (TB : Top hd.view_39 LO mean mg mb base) (hk : cs.kind = .function) (hdp : dp + 20 < recursionLimit)
    (hx : (x, instObj 179 dx) ∈ news) (hdx : (dx, dictOf [⟨h1, .str "length" t1, .int z tz⟩] 1) ∈ news) (hz1 : 1 ≤ z) (hz6 : z ≤ 6) (hsz : arr.size < 2 ^ 20) (hne : (arr.size : Int) ≠ z)
    (hret : ∀ (h' : Heap) (tk' : Nat) (l : Addr) (t : Tok), Fr h₀ L h' m → News h₀ L h' ((l, listOf #[.str "from" t] 0) :: news) → (∀ p ∈ news, p.1 < l) → Q (.ref l) { s with heap := h', toks := tk' }) :
    wpAny (model PG w) (ktrTop dp un gd cn cs L a ccd cl []) (call (.ref 200) [.ref x, .bytes arr tb, .bool true]) Q E s := by
  have hm := mark_TryD
  w_top on
  refine wpAny_call ?_
  k_dflt (refine' code_defSX ?k1 ?k2 ?k3 ?k4 ?k5 ?kA ?kF ?kK ?k6 ?k7 ?k8 ?k9 ?kB ?_ ?c2 ?c3 ?c4 ?c5; (case kA => exact rfl); (case kF => exact rfl); (case kK => assumption); (case k2 => k_asm); (case k1 => k_asm); (case k3 => k_asm); (case k4 => k_asm); (case k5 => k_asm); (case k6 => k_is); (case k7 => k_is); (case k8 => ktr_room); (case k9 => exact BindsTo.of_eq rfl); (case kB => exact locs rfl); (case c2 => exact rfl); (case c3 => exact rfl); (case c4 => exact rfl); (case c5 => decide); k_whole; intro g' L' h' FG' F' N' B' X' T' D'; (try dsimp only); (try k_lift B'); (try k_fold))
  k_steps
  all_goals first | (exfalso; omega) | skip
  all_goals (refine' tried_ret (mk := fun t => .str "from" t) _ hret ?e ?F ?N ?hs ?lt; (case F => k_asm); (case N => assumption); (case hs => k_sub); (case e => exact rfl); (case lt => first | assumption | (refine lt_all ?_; tbn_find)))
  all_goals (try exact 0)
theorem c_int_desV {w : World} {mean : ExcName → Option Value} {mg mb : Str → Option Value} {dp un : Nat} {gd : Option (List Code)} {cn : Str} {cs : Scope} {a : Addr} {ccd : Value} {cl : List (Str × Addr)} {A₀ : Around} {base h₀ : Heap} {L : Addr} {m : Str → Option Value} {s : Shared} {Q E : Value → Shared → Prop} {news : List (Addr × Obj)}
    {x dx : Addr} {h1 : Int} {t1 tz tb : Tok} {z : Int} {arr : Array UInt8}
    (B : Below A₀ base [] h₀) (F : Fr h₀ L s.heap m) (X : (hd.heap_39 w.params).In h₀) (XB : (hd.heap_39 w.params).In base) (N : News h₀ L s.heap news) (T : Top hd.view_39 LO mean mg mb h₀) (TB : Top hd.view_39 LO mean mg mb base) (hk : cs.kind = .function) (hdp : dp + 20 < recursionLimit)
    (hx : (x, instObj 179 dx) ∈ news) (hdx : (dx, dictOf [⟨h1, .str "length" t1, .int z tz⟩] 1) ∈ news) (hz1 : 1 ≤ z) (hz6 : z ≤ 6) (hsz : arr.size < 2 ^ 20) (heq : (arr.size : Int) = z)
    (hret : ∀ (h' : Heap) (tk' : Nat) (l : Addr) (t : Tok), Fr h₀ L h' m → News h₀ L h' ((l, listOf #[.int (KFB.value (KBw.bInts arr)) t] 0) :: news) → (∀ p ∈ news, p.1 < l) → Q (.ref l) { s with heap := h', toks := tk' }) :
    wpAny (model PG w) (ktrTop dp un gd cn cs L a ccd cl []) (call (.ref 200) [.ref x, .bytes arr tb, .bool true]) Q E s := by
  have hm := mark_TryD
  w_top on
  refine wpAny_call ?_
  k_dflt (refine' code_defSX ?k1 ?k2 ?k3 ?k4 ?k5 ?kA ?kF ?kK ?k6 ?k7 ?k8 ?k9 ?kB ?_ ?c2 ?c3 ?c4 ?c5; (case kA => exact rfl); (case kF => exact rfl); (case kK => assumption); (case k2 => k_asm); (case k1 => k_asm); (case k3 => k_asm); (case k4 => k_asm); (case k5 => k_asm); (case k6 => k_is); (case k7 => k_is); (case k8 => ktr_room); (case k9 => exact BindsTo.of_eq rfl); (case kB => exact locs rfl); (case c2 => exact rfl); (case c3 => exact rfl); (case c4 => exact rfl); (case c5 => decide); k_whole; intro g' L' h' FG' F' N' B' X' T' D'; (try dsimp only); (try k_lift B'); (try k_fold))
  k_steps
  all_goals first | (exfalso; omega) | skip
  all_goals (refine' tried_ret (mk := fun t => .int (KFB.value (KBw.bInts arr)) t) _ hret ?e ?F ?N ?hs ?lt; (case F => k_asm); (case N => assumption); (case hs => k_sub); (case e => exact rfl); (case lt => first | assumption | (refine lt_all ?_; tbn_find)))
  all_goals (try exact 0)
end
end Mine
end
section
open PySem PySem.W PyProof.Rows PySem.Calls
set_option maxRecDepth 100000
set_option maxHeartbeats 8000000
namespace Mine
local macro_rules | `(tactic| walk_at "none0") => `(tactic| fail)
local macro_rules | `(tactic| walk_at "none1") => `(tactic| fail)
local macro_rules | `(tactic| walk_at "none2") => `(tactic| fail)
local macro_rules | `(tactic| walk_at "none3") => `(tactic| fail)
local macro_rules | `(tactic| walk_at "none4") => `(tactic| fail)
local macro_rules | `(tactic| walk_at "none5") => `(tactic| fail)
local macro_rules | `(tactic| walk_at "none6") => `(tactic| fail)
local macro_rules | `(tactic| walk_at "none7") => `(tactic| fail)
local macro_rules | `(tactic| walk_at "none8") => `(tactic| fail)
local macro_rules | `(tactic| walk_at "none9") => `(tactic| fail)
local macro_rules | `(tactic| walk_at "none10") => `(tactic| fail)
local macro_rules | `(tactic| walk_at "none11") => `(tactic| fail)
noncomputable section
theorem mark_TryG : Mark PySem.Challenge.rw_bi0018_01 hd.heap_39 := by
  k_fill
  trivial
local macro_rules | `(tactic| k_room) => `(tactic| ktr_room)
local macro_rules | `(tactic| k_mem) => `(tactic| (k_dflt assumption))
local macro_rules | `(tactic| walk_at "exec Raise some none") => `(tactic| (k_here; (with_reducible show wpAny _ _ (exec (Stmt.Raise (some (Expr.Call (Expr.Name ("SerializationError" : Str) _) _ _ _)) none _) _) _ _ _); k_dflt (refine' raise2 (C := 46) ?hh ?_; (case hh => rfl))))
local macro_rules | `(tactic| walk_at "exec Raise some none") => `(tactic| (k_here; (with_reducible show wpAny _ _ (exec (Stmt.Raise (some (Expr.Call (Expr.Name ("DeserializationError" : Str) _) _ _ _)) none _) _) _ _ _); k_dflt (refine' raise2 (C := 67) ?hh ?_; (case hh => rfl))))
local macro_rules | `(tactic| walk_at "call ref") => `(tactic| (k_here; k_dflt (first
  | (refine' c_exc46 ?B ?F ?X ?T ?hk ?N ?hd ?_; (case B => k_asm); (case F => k_asm); (case X => k_asm); (case T => k_asm); (case hk => first | exact rfl | assumption); (case N => k_asm); (case hd => ktr_room))
  | (refine' c_exc67 ?B ?F ?X ?T ?hk ?N ?hd ?_; (case B => k_asm); (case F => k_asm); (case X => k_asm); (case T => k_asm); (case hk => first | exact rfl | assumption); (case N => k_asm); (case hd => ktr_room))); intro h' tk' e' t' od' F' N' o1 o2))
local macro_rules | `(tactic| walk_at "RaiseOk") => `(tactic| (k_here; k_dflt (refine' raiseOk ?F ?X ?N ?m ?o ?b ?_; (case F => k_asm); (case X => k_asm); (case N => k_asm); (case m => k_mem); (case o => k_is); (case b => decide +kernel))))
local macro_rules | `(tactic| walk_at "leaving ref") => `(tactic| (k_here; k_dflt (refine' leave_raise2 ?K ?F ?N ?o1 ?o2 ?_; (case K => assumption); (case N => assumption); (case F => k_asm); (case o1 => assumption); (case o2 => assumption)); intro h' t2 S' R' U'; (try dsimp only at S' R' U' ⊢)))
local macro_rules | `(tactic| walk_at "call ref") => `(tactic| (k_here; k_dflt (refine' c_valid ?B ?F ?X ?N ?T ?hk ?hx ?hdx ?hd ?_; (case B => k_asm); (case F => k_asm); (case X => k_asm); (case N => k_asm); (case T => k_asm); (case hk => first | exact rfl | assumption); (case hx => k_mem); (case hdx => k_mem); (case hd => ktr_room)); intro h' tk' F' N'))
local macro_rules | `(tactic| walk_at "call ref") => `(tactic| (k_here; k_dflt (refine' KFB.call_big ?N ?hm ?hb ?hl ?_; (case N => k_asm); (case hm => k_mem); (case hb => exact rfl); (case hl => first | (rw [KBw.ints_length]; omega) | (rw [show KBw.bInts arr = k0 :: ks by assumption, List.length_cons]; omega))); intro _ _))
theorem c_big_des {w : World} {mean : ExcName → Option Value} {mg mb : Str → Option Value} {dp un : Nat} {gd : Option (List Code)} {cn : Str} {cs : Scope} {a : Addr} {ccd : Value} {cl : List (Str × Addr)} {A₀ : Around} {base h₀ : Heap} {L : Addr} {m : Str → Option Value} {s : Shared} {Q E : Value → Shared → Prop} {news : List (Addr × Obj)}
    {tb : Tok} {arr : Array UInt8}
    (B : Below A₀ base [] h₀) (F : Fr h₀ L s.heap m) (X : (hd.heap_39 w.params).In h₀) (XB : (hd.heap_39 w.params).In base) (N : News h₀ L s.heap news) (T : Top hd.view_39 LO mean mg mb h₀) (TB : Top hd.view_39 LO mean mg mb base) (hk : cs.kind = .function) (hdp : dp + 20 < recursionLimit)
    {k0 : Int} {ks : List Int} (hks : KBw.bInts arr = k0 :: ks) (hz6 : ks.length ≤ 7)
    {d : Bool} {v : Int} (hd : decide (k0 = 0) = d) (hv : KFB.value (KBw.bInts arr) = v)
    (hret : ∀ (h' : Heap) (tk' : Nat) (l : Addr) (t : Tok), Fr h₀ L h' m → News h₀ L h' ((l, listOf #[bigV d v t] 0) :: news) → (∀ p ∈ news, p.1 < l) → Q (.ref l) { s with heap := h', toks := tk' }) :
    wpAny (model PG w) (ktrTop dp un gd cn cs L a ccd cl []) (call (.ref 200) [.ref 185, .bytes arr tb, .bool true]) Q E s := by
  have hm := mark_TryG
  w_top on
  refine wpAny_call ?_
  k_dflt (refine' code_defSX ?k1 ?k2 ?k3 ?k4 ?k5 ?kA ?kF ?kK ?k6 ?k7 ?k8 ?k9 ?kB ?_ ?c2 ?c3 ?c4 ?c5; (case kA => exact rfl); (case kF => exact rfl); (case kK => assumption); (case k2 => k_asm); (case k1 => k_asm); (case k3 => k_asm); (case k4 => k_asm); (case k5 => k_asm); (case k6 => k_is); (case k7 => k_is); (case k8 => ktr_room); (case k9 => exact BindsTo.of_eq rfl); (case kB => exact locs rfl); (case c2 => exact rfl); (case c3 => exact rfl); (case c4 => exact rfl); (case c5 => decide); k_whole; intro g' L' h' FG' F' N' B' X' T' D'; (try dsimp only); (try k_lift B'); (try k_fold))
  k_steps
  all_goals first | (have hpos : 0 < ((k0 :: ks).length : Int) := (by rw [List.length_cons]; omega); exfalso; omega) | skip
  all_goals (refine' tried_ret (mk := fun t => bigV d v t) _ hret ?e ?F ?N ?hs ?lt; (case F => k_asm); (case N => assumption); (case hs => k_sub); (case lt => first | assumption | (refine lt_all ?_; tbn_find)); (case e => first
    | (have e1 := (pick_zero hks).symm.trans (show ((KBy.picked arr (some 0) (some 1)).toList == #[(0 : UInt8)].toList) = true by assumption); rw [← hd, e1]; exact rfl)
    | (have e1 := (pick_zero hks).symm.trans (show ((KBy.picked arr (some 0) (some 1)).toList == #[(0 : UInt8)].toList) = false by assumption); rw [← hd, e1, ← hv]; first | exact rfl | (rw [hks]; exact rfl))
    | fail))
  all_goals (try exact 0)
end
end Mine
end
section
open PySem PySem.W PyProof.Rows PySem.Calls
set_option maxRecDepth 100000
set_option maxHeartbeats 8000000
namespace Mine
section
variable {prog : Program} {w : World} {M : Model} {A : Around} {E : Value → Shared → Prop} {s : Shared} {env : Env} {h₀ : Heap} {x : Str} {body : List Stmt} {Q : Flow → Shared → Prop}
theorem execs_split (env : Env) : ∀ (n : Nat) (body : List Stmt), execs body env = (do match ← execs (body.take n) env with | .next => execs (body.drop n) env | f => pure f)
  | 0, body => by
    show execs body env = (pure Flow.next >>= _)
    rw [pure_bind]; rfl
  | n + 1, [] => by
    show execs [] env = (pure Flow.next >>= _)
    rw [pure_bind]; rfl
  | n + 1, st :: body => by
    show execs (st :: body) env = (do match ← execs (st :: body.take n) env with | .next => execs (body.drop n) env | f => pure f)
    rw [execs_cons, execs_cons, bind_assoc]
    congr 1
    funext f
    cases f with
    | next => exact execs_split env n body
    | _ => rw [pure_bind]
/-- the first statements, and what stands behind them, apart -/
theorem execs_cut (n : Nat) (h : wpAny M A (execs (body.take n) env) (fun f s' => match f with | .next => wpAny M A (execs (body.drop n) env) Q E s' | f => Q f s') E s) : wpAny M A (execs body env) Q E s := by
  rw [execs_split env n body]
  refine wpAny_bind (wpAny_mono h (fun f s' hf => ?_) fun _ _ e => e)
  cases f with
  | next => exact hf
  | _ => exact wpAny_pure hf
end
section
variable {prog : Program} {w : World} {A : Around} {E : Value → Shared → Prop} {s : Shared} {env : Env} {h₀ : Heap} {x : Str} {body : List Stmt} {Q : Flow → Shared → Prop}
/-- what a turn of a loop over a cell must leave -/
def CTurn (h₀ : Heap) (L I c : Addr) (io : Obj) (news : List (Addr × Obj)) (J : (Str → Option Value) → Prop) (s : Shared) (f : Flow) (s' : Shared) : Prop :=
  (f = .next ∨ f = .cont) ∧ ∃ h' tk' m' oc' vc' news', s' = { s with heap := h', toks := tk' } ∧ Fr h₀ L h' m' ∧ News h₀ L h' news' ∧ (∀ p ∈ (I, io) :: news, p ∈ news') ∧ (c, oc') ∈ news' ∧ oc'.data = .cell vc' ∧ J m'
/-- a loop whose target is a cell -/
def LoopAtC (prog : Program) (w : World) (A : Around) (h₀ : Heap) (env : Env) (c : Addr) (body : List Stmt) (Q : Flow → Shared → Prop) (it : Value) (s : Shared) : Prop :=
  ∃ (I : Addr) (fp : List Addr) (n : Nat) (P : Nat → Value → Prop) (St : Nat → Heap → Prop) (m₀ : Str → Option Value) (oc : Obj) (vc : Option Value) (news : List (Addr × Obj)) (J : (Str → Option Value) → Prop),
    it = .ref I ∧ Walks prog w A I fp [I] n P St ∧ (∀ b ∈ fp, b = I ∨ ∃ o, (b, o) ∈ news) ∧ (∀ i h, St i h → ∃ o, h.get? I = some o) ∧ h₀.get? I = none ∧ I ≠ env.locals ∧ I ≠ c ∧ (∀ p ∈ news, p.1 ≠ I ∧ p.1 ≠ c) ∧ St 0 s.heap ∧
    oc.data = .cell vc ∧ News h₀ env.locals s.heap ((c, oc) :: news) ∧ Fr h₀ env.locals s.heap m₀ ∧ J m₀ ∧
    (∀ i v m₁ h tk oc io, i < n → P i v → J m₁ → oc.data = .cell (some v) → Fr h₀ env.locals h m₁ → News h₀ env.locals h ((c, oc) :: (I, io) :: news) →
      wpAny (model prog w) A (execs body env) (CTurn h₀ env.locals I c io news J { s with heap := h, toks := tk }) (fun _ _ => False) { s with heap := h, toks := tk }) ∧
    ∀ h tk m₁ oc vc, J m₁ → oc.data = .cell vc → Fr h₀ env.locals h m₁ → News h₀ env.locals h ((c, oc) :: news) → Q .next { s with heap := h, toks := tk }
theorem For_cell {px pos : Pos} {iter : Expr} {c : Addr} (hk : env.scope.kind = .function) (hx : env.kindOf x = some .cell) (hc : env.cells.lookup x = some c)
    (h : wpAny (model prog w) A (eval iter env) (fun xv s₁ => wpAny (model prog w) A (pyIter xv) (fun it s₂ => LoopAtC prog w A h₀ env c body Q it s₂) E s₁) E s)
    (hs : ∀ x, foldedSetIterable iter env x = pure x := by intro _; rfl) :
    wpAny (model prog w) A (exec (.For (.Name x px) iter body [] pos) env) Q E s := by
  refine wpAny_For (wpAny_mono h (fun xv s₁ h₁ => wpAny_mono h₁ (fun it s h₂ => ?_) fun _ _ e => e) fun _ _ e => e) hs
  obtain ⟨I, fp, n, P, St, m₀, oc, vc, news, J, rfl, W, hfp, hob, hI0, hIL, hIc, hap, hst, hoc, N, F, h0, turn, hQ⟩ := h₂
  have hL : env.locals ≠ c := fun e => (N _ (.head _)).2.1 e.symm
  refine codeAny_forLoop
    (fun k s' => ∃ h' tk m' oc' vc' i, s' = { s with heap := h', toks := tk } ∧ St i h' ∧ Fr h₀ env.locals h' m' ∧ oc'.data = .cell vc' ∧ News h₀ env.locals h' ((c, oc') :: news) ∧ J m' ∧ i ≤ n ∧ k = n + 1 - i) ?_ (n + 1)
    ⟨s.heap, s.toks, m₀, oc, vc, 0, rfl, hst, F, hoc, N, h0, Nat.zero_le _, rfl⟩
  rintro k s' ⟨h', tk, m', oc', vc', i, rfl, hst', F', hoc', N', hJ, hi, rfl⟩
  have next : ∀ h₁ : Heap, (∀ b o, b ∉ [I] → h'.get? b = some o → h₁.get? b = some o) → Fr h₀ env.locals h₁ m' ∧ News h₀ env.locals h₁ ((c, oc') :: news) := fun h₁ hk₁ =>
    ⟨⟨F'.ns.at' fun o e => hk₁ _ o (fun q => hIL (List.mem_singleton.mp q).symm) e, fun b o e => hk₁ b o (fun q => by rw [List.mem_singleton.mp q, hI0] at e; cases e) (F'.keep b o e), F'.above⟩,
      fun p hp => ⟨hk₁ _ _ (fun q => by
        rcases List.mem_cons.mp hp with rfl | hp
        · exact hIc (List.mem_singleton.mp q).symm
        · exact (hap p hp).1 (List.mem_singleton.mp q)) (N' p hp).1, (N' p hp).2⟩⟩
  by_cases hlt : i < n
  · refine W.item i _ _ _ hlt hst' fun v h₁ tk₁ hP hst₁ hk₁ => ?_
    obtain ⟨F₁, N₁⟩ := next h₁ hk₁
    refine wpAny_assign_Name (wpAny_storeName_cell hk hx hc ⟨oc', (N₁ _ (.head _)).1, hoc'⟩ fun h₂ hv₂ hs₂ => ?_)
    obtain ⟨oc₂, ho₂, hd₂⟩ := hv₂
    have old : ∀ b o, b ≠ c → h₁.get? b = some o → h₂.get? b = some o := fun b o q e => (hs₂.2 b q).trans e
    have F₂ : Fr h₀ env.locals h₂ m' := ⟨F₁.ns.at' fun o e => old _ o hL e, fun b o e => old b o (fun q => by rw [q, (N₁ _ (.head _)).2.2] at e; cases e) (F₁.keep b o e), F₁.above⟩
    obtain ⟨io, hio⟩ := hob _ _ hst₁
    have hio₂ := old I io hIc hio
    have N₂ : News h₀ env.locals h₂ ((c, oc₂) :: (I, io) :: news) := by
      intro p hp
      rcases List.mem_cons.mp hp with rfl | hp
      · exact ⟨ho₂, (N₁ (c, oc') (.head _)).2⟩
      rcases List.mem_cons.mp hp with rfl | hp
      · exact ⟨hio₂, hIL, hI0⟩
      · exact ⟨old _ _ (hap p hp).2 (N₁ p (.tail _ hp)).1, (N₁ p (.tail _ hp)).2⟩
    refine wpAny_mono (turn i v m' h₂ tk₁ oc₂ io hlt hP hJ hd₂ F₂ N₂) (fun f s₃ h₃ => ?_) fun _ _ e => e.elim
    obtain ⟨hf, h₃', tk₃, m₃, oc₃, vc₃, news₃, rfl, F₃, N₃, hn₃, hc₃, hd₃, hJ₃⟩ := h₃
    have fin : ∃ m, m < n + 1 - i ∧ ∃ h' tk m' oc' vc' j, ({ s with heap := h₃', toks := tk₃ } : Shared) = { s with heap := h', toks := tk } ∧ St j h' ∧ Fr h₀ env.locals h' m' ∧ oc'.data = .cell vc' ∧ News h₀ env.locals h' ((c, oc') :: news) ∧ J m' ∧ j ≤ n ∧ m = n + 1 - j := by
      refine ⟨n + 1 - (i + 1), by omega, h₃', tk₃, m₃, oc₃, vc₃, i + 1, rfl, ?_, F₃, hd₃, ?_, hJ₃, hlt, rfl⟩
      · refine W.frame _ _ _ hst₁ fun b hb o e => ?_
        rcases hfp b hb with rfl | ⟨o', hm⟩
        · rw [hio] at e; cases e
          exact (N₃ _ (hn₃ _ (.head _))).1
        · have e2 := (N₁ (b, o') (.tail _ hm)).1
          rw [e] at e2; cases e2
          exact (N₃ _ (hn₃ _ (.tail _ hm))).1
      · intro p hp
        rcases List.mem_cons.mp hp with rfl | hp
        · exact N₃ _ hc₃
        · exact N₃ _ (hn₃ _ (.tail _ hp))
    rcases hf with rfl | rfl
    · exact fin
    · exact fin
  · have hin : i = n := by omega
    subst hin
    refine W.done _ _ _ hst' fun h₁ tk₁ hk₁ => wpAny_execs_nil ?_
    obtain ⟨F₁, N₁⟩ := next h₁ hk₁
    exact hQ h₁ tk₁ m' oc' vc' hJ hoc' F₁ N₁
theorem iterC_range {r c : Addr} {a₀ b₀ : Int} {t₀ u₀ v₀ : Tok} {n : Nat} {m₀ : Str → Option Value} {oc : Obj} {vc : Option Value} {news₀ : List (Addr × Obj)} (need : List (Addr × Obj)) (J : (Str → Option Value) → Prop)
    (hh : A.handled = none) (hr : IsRange s.heap r a₀ b₀ 1 t₀ u₀ v₀) (hsmall : Builtin.Range.small a₀ b₀ 1 = true) (hn : Builtin.Range.rangeSize a₀ b₀ 1 = (n : Int)) (F : Fr h₀ env.locals s.heap m₀) (N : News h₀ env.locals s.heap news₀)
    (hc : (c, oc) ∈ news₀) (hd : oc.data = .cell vc) (hneed : ∀ p ∈ need, p ∈ news₀) (hap : ∀ p ∈ need, p.1 ≠ c) (hJ : J m₀)
    (turn : ∀ k t m₁ h tk oc I io, a₀ ≤ k → k < a₀ + (n : Int) → J m₁ → oc.data = .cell (some (.int k t)) → Fr h₀ env.locals h m₁ → News h₀ env.locals h ((c, oc) :: (I, io) :: need) →
      wpAny (model prog w) A (execs body env) (CTurn h₀ env.locals I c io need J { s with heap := h, toks := tk }) (fun _ _ => False) { s with heap := h, toks := tk })
    (done : ∀ h tk m₁ oc vc, J m₁ → oc.data = .cell vc → Fr h₀ env.locals h m₁ → News h₀ env.locals h ((c, oc) :: need) → Q .next { s with heap := h, toks := tk }) :
    wpAny (model prog w) A (pyIter (.ref r)) (fun it s₂ => LoopAtC prog w A h₀ env c body Q it s₂) E s := by
  refine wpAny_pyIter_range hr hsmall ?_
  have W : Walks prog w A s.heap.objs.size [s.heap.objs.size] [s.heap.objs.size] n (fun i v => i < n ∧ ∃ t, v = .int (a₀ + i * 1) t)
      (fun i h => IsRangeIter h s.heap.objs.size (a₀ + (i : Nat) * 1) ((n : Int) - (i : Nat)) 1) := (Walks.range hh _ a₀ 1 n).bound
  have lt : ∀ p ∈ news₀, p.1 < s.heap.objs.size := fun p hp => Heap.lt_size (N p hp).1
  refine ⟨_, _, n, _, _, m₀, oc, vc, need, J, rfl, W, fun b hb => .inl (List.mem_singleton.mp hb), fun i h st => ⟨_, st⟩, next_is_new F, fun e => ?_, fun e => ?_, fun p hp => ⟨fun e => ?_, hap p hp⟩, (by show IsRangeIter _ _ _ _ _; rw [hn]; simpa using Heap.get?_push_size _ rfl), hd,
    fun p hp => ?_, F.push _, hJ, ?_, done⟩
  · exact absurd F.ns.lt (e ▸ Nat.lt_irrefl _)
  · exact absurd (lt _ hc) (by rw [← e]; exact Nat.lt_irrefl _)
  · exact absurd (lt _ (hneed p hp)) (by rw [e]; exact Nat.lt_irrefl _)
  · have hp' : p ∈ news₀ := by
      rcases List.mem_cons.mp hp with rfl | hp
      · exact hc
      · exact hneed p hp
    exact ⟨Heap.get?_push_of_some _ (N p hp').1, (N p hp').2⟩
  · rintro i v m₁ h tk oc io hi ⟨_, t, rfl⟩ hJ hoc F₁ N₁
    exact turn _ t m₁ h tk oc _ io (by omega) (by omega) hJ hoc F₁ N₁
theorem iterC_list {l c : Addr} {vs : Array Value} {m₀ : Str → Option Value} {oc lo : Obj} {vc : Option Value} {news₀ : List (Addr × Obj)} (need : List (Addr × Obj)) (J : (Str → Option Value) → Prop)
    (hh : A.handled = none) (hm : (l, lo) ∈ need) (hcl : lo.cls = .type "list") {cap : _} (hda : lo.data = .seq vs cap) (F : Fr h₀ env.locals s.heap m₀) (N : News h₀ env.locals s.heap news₀)
    (hc : (c, oc) ∈ news₀) (hd : oc.data = .cell vc) (hneed : ∀ p ∈ need, p ∈ news₀) (hap : ∀ p ∈ need, p.1 ≠ c) (hJ : J m₀)
    (turn : ∀ v m₁ h tk oc I io, v ∈ vs → J m₁ → oc.data = .cell (some v) → Fr h₀ env.locals h m₁ → News h₀ env.locals h ((c, oc) :: (I, io) :: need) →
      wpAny (model prog w) A (execs body env) (CTurn h₀ env.locals I c io need J { s with heap := h, toks := tk }) (fun _ _ => False) { s with heap := h, toks := tk })
    (done : ∀ h tk m₁ oc vc, J m₁ → oc.data = .cell vc → Fr h₀ env.locals h m₁ → News h₀ env.locals h ((c, oc) :: need) → Q .next { s with heap := h, toks := tk }) :
    wpAny (model prog w) A (pyIter (.ref l)) (fun it s₂ => LoopAtC prog w A h₀ env c body Q it s₂) E s := by
  have lt : ∀ p ∈ news₀, p.1 < s.heap.objs.size := fun p hp => Heap.lt_size (N p hp).1
  have hls : s.heap.IsList l vs := ⟨lo, (N _ (hneed _ hm)).1, hcl, _, hda⟩
  refine wpAny_pyIter_list hls ?_
  have W := Walks.list (prog := prog) (w := w) (A := A) hh s.heap.objs.size l (fun e => absurd (lt _ (hneed _ hm)) (by rw [← e]; exact Nat.lt_irrefl _)) vs
  refine ⟨_, _, _, _, _, m₀, oc, vc, need, J, rfl, W, fun b hb => ?_, fun i h st => ?_, next_is_new F, fun e => ?_, fun e => ?_, fun p hp => ⟨fun e => ?_, hap p hp⟩, ⟨⟨_, Heap.get?_push_size _ rfl, rfl, rfl⟩, hls.at fun o e => Heap.get?_push_of_some _ e⟩, hd,
    fun p hp => ?_, F.push _, hJ, ?_, done⟩
  · rcases List.mem_cons.mp hb with rfl | hb
    · exact .inl rfl
    · rw [List.mem_singleton.mp hb]; exact .inr ⟨lo, hm⟩
  · obtain ⟨⟨o, ho, _⟩, _⟩ := st; exact ⟨o, ho⟩
  · exact absurd F.ns.lt (e ▸ Nat.lt_irrefl _)
  · exact absurd (lt _ hc) (by rw [← e]; exact Nat.lt_irrefl _)
  · exact absurd (lt _ (hneed p hp)) (by rw [e]; exact Nat.lt_irrefl _)
  · have hp' : p ∈ news₀ := by
      rcases List.mem_cons.mp hp with rfl | hp
      · exact hc
      · exact hneed p hp
    exact ⟨Heap.get?_push_of_some _ (N p hp').1, (N p hp').2⟩
  · rintro i v m₁ h tk oc io hi hP hJ hoc F₁ N₁
    exact turn v m₁ h tk oc _ io (Array.mem_of_getElem? hP) hJ hoc F₁ N₁
end
end Mine
end
section
open PySem PySem.W PyProof.Rows PySem.Calls
set_option maxRecDepth 100000
set_option maxHeartbeats 8000000
namespace Mine
local macro_rules | `(tactic| walk_at "none0") => `(tactic| fail)
local macro_rules | `(tactic| walk_at "none1") => `(tactic| fail)
local macro_rules | `(tactic| walk_at "none2") => `(tactic| fail)
local macro_rules | `(tactic| walk_at "none3") => `(tactic| fail)
local macro_rules | `(tactic| walk_at "none4") => `(tactic| fail)
local macro_rules | `(tactic| walk_at "none5") => `(tactic| fail)
local macro_rules | `(tactic| walk_at "none6") => `(tactic| fail)
local macro_rules | `(tactic| walk_at "none7") => `(tactic| fail)
local macro_rules | `(tactic| walk_at "none8") => `(tactic| fail)
local macro_rules | `(tactic| walk_at "none9") => `(tactic| fail)
local macro_rules | `(tactic| walk_at "none10") => `(tactic| fail)
local macro_rules | `(tactic| walk_at "none11") => `(tactic| fail)
/-- the parts of the law's own text, found in the row's program -/
def bodyOf : Stmt → List Stmt
  | .FunctionDef _ _ b _ _ _ _ _ _ _ => b
  | .For _ _ b _ _ => b
  | _ => []
def scopeOf : Stmt → Scope
  | .FunctionDef _ _ _ _ _ _ sc _ _ _ => sc
  | _ => default
def nthStmt : Nat → List Stmt → Stmt
  | 0, st :: _ => st
  | n + 1, _ :: r => nthStmt n r
  | _, [] => .Pass default
def lawStmt : Stmt := nthStmt 15 PySem.Challenge.pw_bi0018_01.main.body
def lawBody : List Stmt := bodyOf lawStmt
def lawScope : Scope := scopeOf lawStmt
def turn1 : List Stmt := bodyOf (nthStmt 3 lawBody)
def turn2 : List Stmt := bodyOf (nthStmt 7 lawBody)
def turn3 : List Stmt := bodyOf (nthStmt 1 turn2)
theorem lens : lawBody.length = 9 ∧ turn1.length = 5 ∧ turn2.length = 3 ∧ turn3.length = 3 := by decide
def vlook : List (Str × Value) → (Str → Option Value) → Str → Option Value
  | [], m, y => m y
  | (x, v) :: r, m, y => if y = x then some v else vlook r m y
def VJ (vars : List (Str × Value)) (m : Str → Option Value) : Prop := ∀ p ∈ vars, m p.1 = some p.2
theorem vlook_eq : ∀ {vars : List (Str × Value)} {m : Str → Option Value}, VJ vars m → vlook vars m = m
  | [], m, _ => rfl
  | (x, v) :: r, m, h => by
    funext y
    show (if y = x then some v else vlook r m y) = m y
    rw [vlook_eq (fun p hp => h p (.tail _ hp))]
    split
    · rename_i e; rw [e]; exact (h _ (.head _)).symm
    · rfl
theorem VJ.nil {m : Str → Option Value} : VJ [] m := fun _ h => nomatch h
theorem VJ.cons {m : Str → Option Value} {x : Str} {v : Value} {r : List (Str × Value)} (h1 : m x = some v) (h2 : VJ r m) : VJ ((x, v) :: r) m := fun p hp => by
  rcases List.mem_cons.mp hp with rfl | hp
  · exact h1
  · exact h2 p hp
/-- what some statements of the law leave -/
def TMid (h₀ : Heap) (L : Addr) (news : List (Addr × Obj)) (J : (Str → Option Value) → Prop) (s : Shared) (f : Flow) (s' : Shared) : Prop :=
  f = .next ∧ ∃ h' tk' m' news', s' = { s with heap := h', toks := tk' } ∧ Fr h₀ L h' m' ∧ News h₀ L h' news' ∧ (∀ p ∈ news, p ∈ news') ∧ J m'
theorem TMid.intro {h₀ : Heap} {L : Addr} {news news' : List (Addr × Obj)} {J : (Str → Option Value) → Prop} {s : Shared} {h' : Heap} {tk' : Nat} {m' : Str → Option Value} (F : Fr h₀ L h' m') (N : News h₀ L h' news') (hs : ∀ p ∈ news, p ∈ news') (hJ : J m') :
    TMid h₀ L news J s .next { s with heap := h', toks := tk' } := ⟨rfl, h', tk', m', news', rfl, F, N, hs, hJ⟩
abbrev lawCl (c1 c2 : Addr) : List (Str × Addr) := [(Str.ofString "n", c2), (Str.ofString "length", c1)]
/-- the names that the first loop reads -/
abbrev vars1 (lv : Addr) (least : Int) (tl : Tok) (mv : Value) (em : Bool) (x1 x2 x3 : Addr) : List (Str × Value) :=
  [(Str.ofString "script", .ref lv), (Str.ofString "least", .int least tl), (Str.ofString "most", mv), (Str.ofString "empty", .bool em), (Str.ofString "both", .ref x1), (Str.ofString "lower", .ref x2), (Str.ofString "upper", .ref x3)]
end Mine
end
section
open PySem PySem.W PyProof.Rows PySem.Calls
set_option maxRecDepth 100000
set_option maxHeartbeats 8000000
namespace Mine
noncomputable section
theorem mark_Turn1 : Mark PySem.Challenge.rw_bi0018_01 hd.heap_39 := by
  k_fill
  trivial
local macro_rules | `(tactic| k_room) => `(tactic| ktr_room)
local macro_rules | `(tactic| k_mem) => `(tactic| (k_dflt assumption))
local macro_rules | `(tactic| walk_at "exec Raise some none") => `(tactic| (k_here; (with_reducible show wpAny _ _ (exec (Stmt.Raise (some (Expr.Call (Expr.Name ("SerializationError" : Str) _) _ _ _)) none _) _) _ _ _); k_dflt (refine' raise2 (C := 46) ?hh ?_; (case hh => rfl))))
local macro_rules | `(tactic| walk_at "exec Raise some none") => `(tactic| (k_here; (with_reducible show wpAny _ _ (exec (Stmt.Raise (some (Expr.Call (Expr.Name ("DeserializationError" : Str) _) _ _ _)) none _) _) _ _ _); k_dflt (refine' raise2 (C := 67) ?hh ?_; (case hh => rfl))))
local macro_rules | `(tactic| walk_at "call ref") => `(tactic| (k_here; k_dflt (first
  | (refine' c_exc46 ?B ?F ?X ?T ?hk ?N ?hd ?_; (case B => k_asm); (case F => k_asm); (case X => k_asm); (case T => k_asm); (case hk => first | exact rfl | assumption); (case N => k_asm); (case hd => ktr_room))
  | (refine' c_exc67 ?B ?F ?X ?T ?hk ?N ?hd ?_; (case B => k_asm); (case F => k_asm); (case X => k_asm); (case T => k_asm); (case hk => first | exact rfl | assumption); (case N => k_asm); (case hd => ktr_room))); intro h' tk' e' t' od' F' N' o1 o2))
local macro_rules | `(tactic| walk_at "RaiseOk") => `(tactic| (k_here; k_dflt (refine' raiseOk ?F ?X ?N ?m ?o ?b ?_; (case F => k_asm); (case X => k_asm); (case N => k_asm); (case m => k_mem); (case o => k_is); (case b => decide +kernel))))
local macro_rules | `(tactic| walk_at "leaving ref") => `(tactic| (k_here; k_dflt (refine' leave_raise2 ?K ?F ?N ?o1 ?o2 ?_; (case K => assumption); (case N => assumption); (case F => k_asm); (case o1 => assumption); (case o2 => assumption)); intro h' t2 S' R' U'; (try dsimp only at S' R' U' ⊢)))
local macro_rules | `(tactic| walk_at "call ref") => `(tactic| (k_here; k_dflt (refine' c_valid ?B ?F ?X ?N ?T ?hk ?hx ?hdx ?hd ?_; (case B => k_asm); (case F => k_asm); (case X => k_asm); (case N => k_asm); (case T => k_asm); (case hk => first | exact rfl | assumption); (case hx => k_mem); (case hdx => k_mem); (case hd => ktr_room)); intro h' tk' F' N'))

theorem t1_due {w : World} {mean : ExcName → Option Value} {mg mb : Str → Option Value} {dp un : Nat} {gd : Option (List Code)} {L a : Addr} {ccd : Value} {c1 c2 : Addr} {A₀ : Around} {base h₀ : Heap} {m : Str → Option Value} {s : Shared} {news : List (Addr × Obj)}
    {lv x1 x2 x3 : Addr} {tl th tn : Tok} {least n : Int} {hi : Option Int} {em : Bool} {oc : Obj}
    (B : Below A₀ base [] h₀) (F₀ : Fr h₀ L s.heap m) (hJ : VJ (vars1 lv least tl (hiV hi th) em x1 x2 x3) m) (X : (hd.heap_39 w.params).In h₀) (N : News h₀ L s.heap news) (T : Top hd.view_39 LO mean mg mb h₀)
    (hc : (c1, oc) ∈ news) (hoc : oc.data = .cell (some (.int n tn))) :
    wpAny (model PG w) (ktrTop dp un gd "law" lawScope L a ccd (lawCl c1 c2) []) (execs (turn1.take 1) (envX "law" lawScope L a ccd (lawCl c1 c2))) (TMid h₀ L news (VJ ((Str.ofString "due", .bool (lenOk least hi em n)) :: vars1 lv least tl (hiV hi th) em x1 x2 x3)) s) (fun _ _ => False) s := by
  have hm := mark_Turn1
  have F := F₀
  rw [← vlook_eq hJ] at F
  clear F₀
  generalize hcs : lawScope = cs
  conv at hcs => lhs; whnf
  generalize hb : turn1 = body
  conv at hb => lhs; whnf
  subst hcs hb
  simp only [List.take_succ_cons, List.take_zero, List.drop_succ_cons, List.drop_zero]
  have e0 : ∀ k : Int, (k == 0) = decide (k = 0) := fun _ => rfl
  w_top on
  rcases hi with _ | b
  all_goals k_steps
  all_goals (refine TMid.intro (by k_asm) (by assumption) (by k_sub) (.cons ?_ (.cons rfl (.cons rfl (.cons rfl (.cons rfl (.cons rfl (.cons rfl (.cons rfl .nil)))))))))
  all_goals (
    simp only [lenOk, e0]
    try simp only [decide_eq_true (show least ≤ n by assumption)]
    try simp only [decide_eq_false (show ¬ least ≤ n by assumption)]
    try simp only [decide_eq_true (show n ≤ b by assumption)]
    try simp only [decide_eq_false (show ¬ n ≤ b by assumption)]
    try simp only [show em = true by assumption]
    try simp only [show em = false by assumption]
    try simp)
end
end Mine
end
section
open PySem PySem.W PyProof.Rows PySem.Calls
set_option maxRecDepth 100000
set_option maxHeartbeats 8000000
namespace Mine
local macro_rules | `(tactic| walk_at "none0") => `(tactic| fail)
local macro_rules | `(tactic| walk_at "none1") => `(tactic| fail)
local macro_rules | `(tactic| walk_at "none2") => `(tactic| fail)
local macro_rules | `(tactic| walk_at "none3") => `(tactic| fail)
local macro_rules | `(tactic| walk_at "none4") => `(tactic| fail)
local macro_rules | `(tactic| walk_at "none5") => `(tactic| fail)
local macro_rules | `(tactic| walk_at "none6") => `(tactic| fail)
local macro_rules | `(tactic| walk_at "none7") => `(tactic| fail)
local macro_rules | `(tactic| walk_at "none8") => `(tactic| fail)
local macro_rules | `(tactic| walk_at "none9") => `(tactic| fail)
local macro_rules | `(tactic| walk_at "none10") => `(tactic| fail)
local macro_rules | `(tactic| walk_at "none11") => `(tactic| fail)
open Builtin SeqAt
section
variable {A : Around} {s : Shared}
theorem gives_bytes_eq_str (b : Array UInt8) (t : Tok) (x : Str) (u : Tok) : Gives («bytes.__eq__» ⟨[.bytes b t, .str x u], []⟩) (.val .notImplemented) := by
  refine .of_wp fun M A E s Q hq => ?_
  show wpAny M A (isInstance (.str x u) (.type "bytes") >>= fun r => _) _ E s
  refine wpAny_bind (wpAny_isInstance (typeIs_str s x u) F.sub_str_bytes ?_)
  show wpAny M A (PySem.rule _ >>= fun _ => _) _ E s
  exact wpAny_bind (wpAny_rule (wpAny_pure ⟨_, rfl, hq⟩))
theorem gives_str_eq_bytes (x : Str) (t : Tok) (b : Array UInt8) (u : Tok) : Gives («str.__eq__» ⟨[.str x t, .bytes b u], []⟩) (.val .notImplemented) :=
  .of_wp fun M A E s Q h => by obtain ⟨hp, g, d, tk, os⟩ := s; wp_walk; exact ⟨_, rfl, h⟩
theorem at_bytes_str (b : Array UInt8) (t : Tok) (x : Str) (u : Tok) : EqAt A s (.bytes b t) (.str x u) false := fun prog w E Q h => by
  unfold eqBool
  refine wpAny_holding ?_
  refine wpAny_ite_split (fun hab => absurd (eq_of_beq hab) nofun) (fun _ => ?_)
  refine wpAny_bind ?_
  exact rc_eq_decline_or (k := false) (typeIs_bytes s b t) (typeIs_str s x u) (by decide) F.sub_str_bytes FB.slot_bytes_eq F.slot_str_eq_refl
    (fun _ hq => call_gives FB.slot_bytes_eq (typeIs_bytes s b t) FB.entry_bytes_eq (FB.args_bytes_eq_2 _ _) (gives_bytes_eq_str b t x u) hq)
    (fun _ hq => call_gives F.slot_str_eq_refl (typeIs_str s x u) F.entry_str_eq (F.args_str_eq_2 _ _) (gives_str_eq_bytes x u b t) hq)
    (fun _ hq => wpAny_of_eq (rfl : isSame (.bytes b t) (.str x u) = pure false) hq) (.inl rfl) (wpAny_truthy_bool h)
theorem at_bytes_same (b : Array UInt8) (t u : Tok) : EqAt A s (.bytes b t) (.bytes b u) true := fun prog w E Q h => by
  unfold eqBool
  refine wpAny_holding ?_
  refine wpAny_ite_split (fun _ => wpAny_bind (wpAny_rule (wpAny_pure h))) (fun _ => ?_)
  exact wpAny_bind (richCompare_gives (op := .Eq) (typeIs_bytes s b t) (typeIs_bytes s b u) FB.slot_bytes_eq FB.entry_bytes_eq (FB.args_bytes_eq_2 _ _) (gives_bytes_eq b b t u) (fun e => nomatch e) (wpAny_truthy_bool (by
    rw [beq_self_eq_true]; exact h)))
theorem at_str_same (b : Str) (t u : Tok) : EqAt A s (.str b t) (.str b u) true := by
  have h := EqAt.str_str (A := A) (s := s) b t b u
  rw [beq_self_eq_true] at h; exact h
theorem at_int_same (b : Int) (t u : Tok) : EqAt A s (.int b t) (.int b u) true := by
  have h := EqAt.int_int (A := A) (s := s) b t b u
  rw [beq_self_eq_true] at h; exact h
theorem at_to_from (t u : Tok) : EqAt A s (.str (Str.ofString "to") t) (.str (Str.ofString "from") u) false := by
  have h := EqAt.str_str (A := A) (s := s) (Str.ofString "to") t (Str.ofString "from") u
  exact h
end
section
variable {prog : Program} {w : World} {A : Around} {E : Value → Shared → Prop} {s : Shared} {h₀ : Heap} {L a b : Addr} {news : List (Addr × Obj)} {x y : Value} {e : Bool} {Q : Value → Shared → Prop}
theorem ne_one (N : News h₀ L s.heap news) (ma : (a, listOf #[x] 0) ∈ news) (mb : (b, listOf #[y] 0) ∈ news) (hu : A.units < cLine) (he : EqAt A.in1 s x y e) (h : Q (.bool (!e)) s) : wpAny (model prog w) A (compareOp .NotEq (.ref a) (.ref b)) Q E s := by
  have := RcNeAt.lists (A := A) (s := s) (l := a) (b := b) (items := #[x]) (items2 := #[y]) (e := fun _ => e) ⟨_, (N _ ma).1, rfl, _, rfl⟩ ⟨_, (N _ mb).1, rfl, _, rfl⟩ rfl hu (fun j h1 h2 => by
    have hj : j = 0 := by simp at h1; exact h1
    subst hj; exact he)
  refine this prog w E Q ?_
  have e1 : (List.range (#[x] : Array Value).size).all (fun _ => e) = e := by simp
  rw [e1]; exact h
def isStr : Value → Bool
  | .str _ _ => true
  | _ => false
theorem notIn_two {v : Value} {d : Bool} (N : News h₀ L s.heap news) (ma : (a, (⟨.type "tuple", none, .seq #[x, y], #[]⟩ : Obj)) ∈ news) (he1 : EqAt A.in1 s x v (isStr x)) (he2 : EqAt A.in1 s y v (isStr y)) (hd : (!(isStr x || isStr y)) = d) (h : Q (.bool d) s) : wpAny (model prog w) A (compareOp .NotIn v (.ref a)) Q E s := by
  refine notIn_tupleAt isStr (l := a) (items := #[x, y]) ⟨_, (N _ ma).1, rfl, _, rfl⟩ (fun z hz => ?_) ?_
  · have : z = x ∨ z = y := by simpa using hz
    rcases this with rfl | rfl
    · exact he1
    · exact he2
  · have e1 : (#[x, y] : Array Value).any isStr = (isStr x || isStr y) := by simp
    rw [e1, hd]; exact h
end
end Mine
end
section
open PySem PySem.W PyProof.Rows PySem.Calls
set_option maxRecDepth 100000
set_option maxHeartbeats 8000000
namespace Mine
noncomputable section
theorem mark_Turn1b : Mark PySem.Challenge.rw_bi0018_01 hd.heap_39 := by
  k_fill
  trivial
local macro_rules | `(tactic| k_room) => `(tactic| ktr_room)
local macro_rules | `(tactic| k_mem) => `(tactic| (k_dflt assumption))
local macro_rules | `(tactic| walk_at "exec Raise some none") => `(tactic| (k_here; (with_reducible show wpAny _ _ (exec (Stmt.Raise (some (Expr.Call (Expr.Name ("SerializationError" : Str) _) _ _ _)) none _) _) _ _ _); k_dflt (refine' raise2 (C := 46) ?hh ?_; (case hh => rfl))))
local macro_rules | `(tactic| walk_at "exec Raise some none") => `(tactic| (k_here; (with_reducible show wpAny _ _ (exec (Stmt.Raise (some (Expr.Call (Expr.Name ("DeserializationError" : Str) _) _ _ _)) none _) _) _ _ _); k_dflt (refine' raise2 (C := 67) ?hh ?_; (case hh => rfl))))
local macro_rules | `(tactic| walk_at "call ref") => `(tactic| (k_here; k_dflt (first
  | (refine' c_exc46 ?B ?F ?X ?T ?hk ?N ?hd ?_; (case B => k_asm); (case F => k_asm); (case X => k_asm); (case T => k_asm); (case hk => first | exact rfl | assumption); (case N => k_asm); (case hd => ktr_room))
  | (refine' c_exc67 ?B ?F ?X ?T ?hk ?N ?hd ?_; (case B => k_asm); (case F => k_asm); (case X => k_asm); (case T => k_asm); (case hk => first | exact rfl | assumption); (case N => k_asm); (case hd => ktr_room))); intro h' tk' e' t' od' F' N' o1 o2))
local macro_rules | `(tactic| walk_at "RaiseOk") => `(tactic| (k_here; k_dflt (refine' raiseOk ?F ?X ?N ?m ?o ?b ?_; (case F => k_asm); (case X => k_asm); (case N => k_asm); (case m => k_mem); (case o => k_is); (case b => decide +kernel))))
local macro_rules | `(tactic| walk_at "leaving ref") => `(tactic| (k_here; k_dflt (refine' leave_raise2 ?K ?F ?N ?o1 ?o2 ?_; (case K => assumption); (case N => assumption); (case F => k_asm); (case o1 => assumption); (case o2 => assumption)); intro h' t2 S' R' U'; (try dsimp only at S' R' U' ⊢)))
local macro_rules | `(tactic| walk_at "call ref") => `(tactic| (k_here; k_dflt (refine' c_valid ?B ?F ?X ?N ?T ?hk ?hx ?hdx ?hd ?_; (case B => k_asm); (case F => k_asm); (case X => k_asm); (case N => k_asm); (case T => k_asm); (case hk => first | exact rfl | assumption); (case hx => k_mem); (case hdx => k_mem); (case hd => ktr_room)); intro h' tk' F' N'))

theorem c_validD {w : World} {mean : ExcName → Option Value} {mg mb : Str → Option Value} {dp un : Nat} {gd : Option (List Code)} {cn : Str} {cs : Scope} {a : Addr} {ccd : Value} {cl : List (Str × Addr)} {outer : List Env} {A₀ : Around} {base h₀ : Heap} {L : Addr} {m : Str → Option Value} {s : Shared} {Q E : Value → Shared → Prop} {news : List (Addr × Obj)}
    {x dx : Addr} {h1 h2 h3 : Int} {t1 t2 t3 tl th tn : Tok} {lo n : Int} {hi : Option Int} {em d : Bool}
    (B : Below A₀ base outer h₀) (F : Fr h₀ L s.heap m) (X : (hd.heap_39 w.params).In h₀) (N : News h₀ L s.heap news) (T : Top hd.view_39 LO mean mg mb h₀) (hk : cs.kind = .function)
    (hx : (x, instObj 129 dx) ∈ news) (hdx : (dx, binD h1 h2 h3 t1 t2 t3 (.int lo tl) (hiV hi th) (.bool em)) ∈ news) (hdp : dp + 3 < recursionLimit) (hd : lenOk lo hi em n = d)
    (hret : ∀ (h' : Heap) (tk' : Nat), Fr h₀ L h' m → News h₀ L h' news → Q (.bool d) { s with heap := h', toks := tk' }) :
    wpAny (model PG w) (ktrTop dp un gd cn cs L a ccd cl outer) (call (.ref 112) [.ref x, .int n tn]) Q E s :=
  c_valid B F X N T hk hx hdx hdp (by rw [hd]; exact hret)
theorem c_validF {w : World} {mean : ExcName → Option Value} {mg mb : Str → Option Value} {dp un : Nat} {gd : Option (List Code)} {cn : Str} {cs : Scope} {a : Addr} {ccd : Value} {cl : List (Str × Addr)} {outer : List Env} {A₀ : Around} {base h₀ : Heap} {L : Addr} {m : Str → Option Value} {s : Shared} {Q E : Value → Shared → Prop} {news : List (Addr × Obj)}
    {x dx : Addr} {h1 h2 h3 : Int} {t1 t2 t3 tl th tn : Tok} {lo n b : Int} {em d : Bool}
    (B : Below A₀ base outer h₀) (F : Fr h₀ L s.heap m) (X : (hd.heap_39 w.params).In h₀) (N : News h₀ L s.heap news) (T : Top hd.view_39 LO mean mg mb h₀) (hk : cs.kind = .function)
    (hx : (x, instObj 129 dx) ∈ news) (hdx : (dx, dictOf [⟨h1, .str "min_length" t1, .int lo tl⟩, ⟨h2, .str "max_length" t2, .int b th⟩, ⟨h3, .str "allow_empty" t3, .bool em⟩] 3) ∈ news) (hdp : dp + 3 < recursionLimit) (hd : lenOk lo (some b) em n = d)
    (hret : ∀ (h' : Heap) (tk' : Nat), Fr h₀ L h' m → News h₀ L h' news → Q (.bool d) { s with heap := h', toks := tk' }) :
    wpAny (model PG w) (ktrTop dp un gd cn cs L a ccd cl outer) (call (.ref 112) [.ref x, .int n tn]) Q E s :=
  c_validD (hi := some b) B F X N T hk hx hdx hdp hd hret
theorem t1_oct {w : World} {mean : ExcName → Option Value} {mg mb : Str → Option Value} {dp un : Nat} {gd : Option (List Code)} {L a : Addr} {ccd : Value} {c1 c2 : Addr} {A₀ : Around} {base h₀ : Heap} {m : Str → Option Value} {s : Shared} {news : List (Addr × Obj)}
    {lv x1 x2 x3 : Addr} {tl th tn : Tok} {least n : Int} {hi : Option Int} {em : Bool} {oc : Obj}
    {d : Bool}
    (B : Below A₀ base [] h₀) (F₀ : Fr h₀ L s.heap m) (hJ : VJ ((Str.ofString "due", .bool d) :: vars1 lv least tl (hiV hi th) em x1 x2 x3) m) (X : (hd.heap_39 w.params).In h₀) (N : News h₀ L s.heap news) (T : Top hd.view_39 LO mean mg mb h₀)
    (hc : (c1, oc) ∈ news) (hoc : oc.data = .cell (some (.int n tn))) (h0 : 0 ≤ n) (h1 : n < 13) (hdp : dp + 30 < recursionLimit) :
    wpAny (model PG w) (ktrTop dp un gd "law" lawScope L a ccd (lawCl c1 c2) []) (execs ((turn1.drop 1).take 1) (envX "law" lawScope L a ccd (lawCl c1 c2))) (TMid h₀ L news (fun m => ∃ (arr : Array UInt8) (tb : Tok), (arr.size : Int) = n ∧ VJ ((Str.ofString "octets", .bytes arr tb) :: (Str.ofString "due", .bool d) :: vars1 lv least tl (hiV hi th) em x1 x2 x3) m) s) (fun _ _ => False) s := by
  have hm := mark_Turn1b
  have F := F₀
  rw [← vlook_eq hJ] at F
  clear F₀
  generalize hcs : lawScope = cs
  conv at hcs => lhs; whnf
  generalize hb : turn1 = body
  conv at hb => lhs; whnf
  subst hcs hb
  simp only [List.take_succ_cons, List.take_zero, List.drop_succ_cons, List.drop_zero]
  w_top on
  k_steps
  all_goals (refine TMid.intro (by k_asm) (by assumption) (by k_sub) ⟨_, _, ?hs, .cons rfl (.cons rfl (.cons rfl (.cons rfl (.cons rfl (.cons rfl (.cons rfl (.cons rfl (.cons rfl .nil))))))))⟩)
  simp only [byteArr, List.size_toArray, List.length_map, rangeKs_length]
  omega
end
end Mine
end
section
open PySem PySem.W PyProof.Rows PySem.Calls
set_option maxRecDepth 100000
set_option maxHeartbeats 8000000
namespace Mine
local macro_rules | `(tactic| walk_at "none0") => `(tactic| fail)
local macro_rules | `(tactic| walk_at "none1") => `(tactic| fail)
local macro_rules | `(tactic| walk_at "none2") => `(tactic| fail)
local macro_rules | `(tactic| walk_at "none3") => `(tactic| fail)
local macro_rules | `(tactic| walk_at "none4") => `(tactic| fail)
local macro_rules | `(tactic| walk_at "none5") => `(tactic| fail)
local macro_rules | `(tactic| walk_at "none6") => `(tactic| fail)
local macro_rules | `(tactic| walk_at "none7") => `(tactic| fail)
local macro_rules | `(tactic| walk_at "none8") => `(tactic| fail)
local macro_rules | `(tactic| walk_at "none9") => `(tactic| fail)
local macro_rules | `(tactic| walk_at "none10") => `(tactic| fail)
local macro_rules | `(tactic| walk_at "none11") => `(tactic| fail)
noncomputable section
theorem mark_Turn1c : Mark PySem.Challenge.rw_bi0018_01 hd.heap_39 := by
  k_fill
  trivial
local macro_rules | `(tactic| k_room) => `(tactic| ktr_room)
local macro_rules | `(tactic| k_mem) => `(tactic| (k_dflt assumption))
local macro_rules | `(tactic| walk_at "call ref") => `(tactic| (k_here; k_dflt (refine' c_validD ?B ?F ?X ?N ?T ?hk ?hx ?hdx ?hdp ?hd ?_; (case B => k_asm); (case F => k_asm); (case X => k_asm); (case N => k_asm); (case T => k_asm); (case hk => first | exact rfl | assumption); (case hx => k_mem); (case hdx => k_mem); (case hdp => ktr_room); (case hd => assumption)); intro h' tk' F' N'))
local macro_rules | `(tactic| walk_at "call ref") => `(tactic| (k_here; k_dflt (first
  | (refine' c_bin_ser ?B ?F ?X ?XB ?N ?T ?TB ?hk ?hdp ?hx ?hdx ?hd ?hsz ?_; (case B => k_asm); (case F => k_asm); (case X => k_asm); (case XB => assumption); (case N => k_asm); (case T => k_asm); (case TB => assumption); (case hk => first | exact rfl | assumption); (case hdp => ktr_room); (case hx => k_mem); (case hdx => k_mem); (case hd => assumption); (case hsz => omega))
  | (refine' c_bin_des ?B ?F ?X ?XB ?N ?T ?TB ?hk ?hdp ?hx ?hdx ?hd ?hsz ?_; (case B => k_asm); (case F => k_asm); (case X => k_asm); (case XB => assumption); (case N => k_asm); (case T => k_asm); (case TB => assumption); (case hk => first | exact rfl | assumption); (case hdp => ktr_room); (case hx => k_mem); (case hdx => k_mem); (case hd => assumption); (case hsz => omega))); intro h' tk' l' t' F' N' l1; (try dsimp only [tryV] at N'); (try k_lt l1)))
local macro_rules | `(tactic| walk_at "compareOp NotEq ref ref") => `(tactic| (k_here; k_dflt (refine' ne_one ?N ?ma ?mb ?hu ?he ?_; (case N => k_asm); (case ma => k_mem); (case mb => k_mem); (case hu => units_room); (case he => first | exact SeqAt.EqAt.same _ | exact at_bytes_same _ _ _ | exact at_str_same _ _ _ | exact at_int_same _ _ _ | exact at_bytes_str _ _ _ _ | exact at_to_from _ _))))
theorem t1_if1 {w : World} {mean : ExcName → Option Value} {mg mb : Str → Option Value} {dp un : Nat} {gd : Option (List Code)} {L a : Addr} {ccd : Value} {c1 c2 : Addr} {A₀ : Around} {base h₀ : Heap} {m : Str → Option Value} {s : Shared} {news : List (Addr × Obj)}
    {lv x1 x2 x3 dx1 dx2 dx3 : Addr} {tl th tn tb : Tok} {least n : Int} {hi : Option Int} {em : Bool} {oc : Obj} {arr : Array UInt8} {p1 p2 p3 q1 q2 q3 r1 r2 r3 : Int} {u1 u2 u3 v1 v2 v3 w1 w2 w3 tl1 tl2 tl3 th1 th2 th3 : Tok}
    {d d1 d2 : Bool}
    (B : Below A₀ base [] h₀) (F₀ : Fr h₀ L s.heap m) (hJ : VJ ((Str.ofString "octets", .bytes arr tb) :: (Str.ofString "due", .bool d) :: vars1 lv least tl (hiV hi th) em x1 x2 x3) m) (X : (hd.heap_39 w.params).In h₀) (XB : (hd.heap_39 w.params).In base) (N : News h₀ L s.heap news) (T : Top hd.view_39 LO mean mg mb h₀) (TB : Top hd.view_39 LO mean mg mb base)
    (hc : (c1, oc) ∈ news) (hoc : oc.data = .cell (some (.int n tn))) (h1 : n < 13) (hsz : (arr.size : Int) = n) (hdp : dp + 30 < recursionLimit)
    (hx1 : (x1, instObj 129 dx1) ∈ news) (hdx1 : (dx1, binD p1 p2 p3 u1 u2 u3 (.int least tl1) (hiV hi th1) (.bool em)) ∈ news)
    (hx2 : (x2, instObj 129 dx2) ∈ news) (hdx2 : (dx2, binD q1 q2 q3 v1 v2 v3 (.int least tl2) (hiV none th2) (.bool em)) ∈ news)
    (hx3 : (x3, instObj 129 dx3) ∈ news) (hdx3 : (dx3, binD r1 r2 r3 w1 w2 w3 (.int 0 tl3) (hiV hi th3) (.bool em)) ∈ news)
    (e : lenOk least hi em n = d) (e1 : lenOk least none em n = d1) (e2 : lenOk 0 hi em n = d2) (ed : d = (d1 && d2)) :
    wpAny (model PG w) (ktrTop dp un gd "law" lawScope L a ccd (lawCl c1 c2) []) (execs ((turn1.drop 2).take 1) (envX "law" lawScope L a ccd (lawCl c1 c2))) (TMid h₀ L news (VJ ((Str.ofString "octets", .bytes arr tb) :: (Str.ofString "due", .bool d) :: vars1 lv least tl (hiV hi th) em x1 x2 x3)) s) (fun _ _ => False) s := by
  have hm := mark_Turn1c
  have F := F₀
  rw [← vlook_eq hJ] at F
  clear F₀
  have ea : lenOk least hi em arr.size = d := by rw [hsz]; exact e
  generalize hcs : lawScope = cs
  conv at hcs => lhs; whnf
  generalize hb : turn1 = body
  conv at hb => lhs; whnf
  subst hcs hb
  simp only [List.take_succ_cons, List.take_zero, List.drop_succ_cons, List.drop_zero]
  cases d <;> cases d1 <;> cases d2 <;> first | (exfalso; revert ed; decide) | skip
  all_goals (
    w_top on
    k_steps)
  all_goals (refine TMid.intro (by k_asm) (by assumption) (by k_sub) (.cons rfl (.cons rfl (.cons rfl (.cons rfl (.cons rfl (.cons rfl (.cons rfl (.cons rfl (.cons rfl .nil))))))))))
end
end Mine
end
section
open PySem PySem.W PyProof.Rows PySem.Calls
set_option maxRecDepth 100000
set_option maxHeartbeats 8000000
namespace Mine
noncomputable section
theorem mark_Turn1d : Mark PySem.Challenge.rw_bi0018_01 hd.heap_39 := by
  k_fill
  trivial
local macro_rules | `(tactic| k_room) => `(tactic| ktr_room)
local macro_rules | `(tactic| k_mem) => `(tactic| (k_dflt assumption))
local macro_rules | `(tactic| walk_at "call ref") => `(tactic| (k_here; k_dflt (refine' c_validD ?B ?F ?X ?N ?T ?hk ?hx ?hdx ?hdp ?hd ?_; (case B => k_asm); (case F => k_asm); (case X => k_asm); (case N => k_asm); (case T => k_asm); (case hk => first | exact rfl | assumption); (case hx => k_mem); (case hdx => k_mem); (case hdp => ktr_room); (case hd => assumption)); intro h' tk' F' N'))
local macro_rules | `(tactic| walk_at "call ref") => `(tactic| (k_here; k_dflt (first
  | (refine' c_bin_ser ?B ?F ?X ?XB ?N ?T ?TB ?hk ?hdp ?hx ?hdx ?hd ?hsz ?_; (case B => k_asm); (case F => k_asm); (case X => k_asm); (case XB => assumption); (case N => k_asm); (case T => k_asm); (case TB => assumption); (case hk => first | exact rfl | assumption); (case hdp => ktr_room); (case hx => k_mem); (case hdx => k_mem); (case hd => assumption); (case hsz => omega))
  | (refine' c_bin_des ?B ?F ?X ?XB ?N ?T ?TB ?hk ?hdp ?hx ?hdx ?hd ?hsz ?_; (case B => k_asm); (case F => k_asm); (case X => k_asm); (case XB => assumption); (case N => k_asm); (case T => k_asm); (case TB => assumption); (case hk => first | exact rfl | assumption); (case hdp => ktr_room); (case hx => k_mem); (case hdx => k_mem); (case hd => assumption); (case hsz => omega))); intro h' tk' l' t' F' N' l1; (try dsimp only [tryV] at N'); (try k_lt l1)))
local macro_rules | `(tactic| walk_at "compareOp NotEq ref ref") => `(tactic| (k_here; k_dflt (refine' ne_one ?N ?ma ?mb ?hu ?he ?_; (case N => k_asm); (case ma => k_mem); (case mb => k_mem); (case hu => assumption); (case he => first | exact SeqAt.EqAt.same _ | exact at_bytes_same _ _ _ | exact at_str_same _ _ _ | exact at_int_same _ _ _ | exact at_bytes_str _ _ _ _ | exact at_to_from _ _))))
theorem t1_if2 {w : World} {mean : ExcName → Option Value} {mg mb : Str → Option Value} {dp un : Nat} {gd : Option (List Code)} {L a : Addr} {ccd : Value} {c1 c2 : Addr} {A₀ : Around} {base h₀ : Heap} {m : Str → Option Value} {s : Shared} {news : List (Addr × Obj)}
    {lv x1 x2 x3 dx1 dx2 dx3 : Addr} {tl th tn tb : Tok} {least n : Int} {hi : Option Int} {em : Bool} {oc : Obj} {arr : Array UInt8} {p1 p2 p3 q1 q2 q3 r1 r2 r3 : Int} {u1 u2 u3 v1 v2 v3 w1 w2 w3 tl1 tl2 tl3 th1 th2 th3 : Tok}
    {d : Bool}
    (B : Below A₀ base [] h₀) (F₀ : Fr h₀ L s.heap m) (hJ : VJ ((Str.ofString "octets", .bytes arr tb) :: (Str.ofString "due", .bool d) :: vars1 lv least tl (hiV hi th) em x1 x2 x3) m) (X : (hd.heap_39 w.params).In h₀) (XB : (hd.heap_39 w.params).In base) (N : News h₀ L s.heap news) (T : Top hd.view_39 LO mean mg mb h₀) (TB : Top hd.view_39 LO mean mg mb base)
    (hc : (c1, oc) ∈ news) (hoc : oc.data = .cell (some (.int n tn))) (h1 : n < 13) (hsz : (arr.size : Int) = n) (hdp : dp + 30 < recursionLimit) (hun : un < cLine)
    (hx1 : (x1, instObj 129 dx1) ∈ news) (hdx1 : (dx1, binD p1 p2 p3 u1 u2 u3 (.int least tl1) (hiV hi th1) (.bool em)) ∈ news)
    (hx2 : (x2, instObj 129 dx2) ∈ news) (hdx2 : (dx2, binD q1 q2 q3 v1 v2 v3 (.int least tl2) (hiV none th2) (.bool em)) ∈ news)
    (hx3 : (x3, instObj 129 dx3) ∈ news) (hdx3 : (dx3, binD r1 r2 r3 w1 w2 w3 (.int 0 tl3) (hiV hi th3) (.bool em)) ∈ news)
    (e : lenOk least hi em n = d) :
    wpAny (model PG w) (ktrTop dp un gd "law" lawScope L a ccd (lawCl c1 c2) []) (execs ((turn1.drop 3).take 1) (envX "law" lawScope L a ccd (lawCl c1 c2))) (TMid h₀ L news (VJ (vars1 lv least tl (hiV hi th) em x1 x2 x3)) s) (fun _ _ => False) s := by
  have hm := mark_Turn1d
  have F := F₀
  rw [← vlook_eq hJ] at F
  clear F₀
  have ea : lenOk least hi em arr.size = d := by rw [hsz]; exact e
  generalize hcs : lawScope = cs
  conv at hcs => lhs; whnf
  generalize hb : turn1 = body
  conv at hb => lhs; whnf
  subst hcs hb
  simp only [List.take_succ_cons, List.take_zero, List.drop_succ_cons, List.drop_zero]
  cases d
  all_goals (
    w_top on
    k_steps)
  all_goals (refine TMid.intro (by k_asm) (by assumption) (by k_sub) (.cons rfl (.cons rfl (.cons rfl (.cons rfl (.cons rfl (.cons rfl (.cons rfl .nil))))))))
end
end Mine
end
section
open PySem PySem.W PyProof.Rows PySem.Calls
set_option maxRecDepth 100000
set_option maxHeartbeats 1000000
namespace Mine
local macro_rules | `(tactic| walk_at "none0") => `(tactic| fail)
local macro_rules | `(tactic| walk_at "none1") => `(tactic| fail)
local macro_rules | `(tactic| walk_at "none2") => `(tactic| fail)
local macro_rules | `(tactic| walk_at "none3") => `(tactic| fail)
local macro_rules | `(tactic| walk_at "none4") => `(tactic| fail)
local macro_rules | `(tactic| walk_at "none5") => `(tactic| fail)
local macro_rules | `(tactic| walk_at "none6") => `(tactic| fail)
local macro_rules | `(tactic| walk_at "none7") => `(tactic| fail)
local macro_rules | `(tactic| walk_at "none8") => `(tactic| fail)
local macro_rules | `(tactic| walk_at "none9") => `(tactic| fail)
local macro_rules | `(tactic| walk_at "none10") => `(tactic| fail)
local macro_rules | `(tactic| walk_at "none11") => `(tactic| fail)
noncomputable section
theorem mark_Turn1e : Mark PySem.Challenge.rw_bi0018_01 hd.heap_39 := by
  k_fill
  trivial
local macro_rules | `(tactic| k_room) => `(tactic| ktr_room)
local macro_rules | `(tactic| k_mem) => `(tactic| (k_dflt assumption))
local macro_rules | `(tactic| walk_at "call ref") => `(tactic| (k_here; k_dflt (first | (refine' c_validD ?B ?F ?X ?N ?T ?hk ?hx ?hdx ?hdp ?hd ?_; (case B => k_asm); (case F => k_asm); (case X => k_asm); (case N => k_asm); (case T => k_asm); (case hk => first | exact rfl | assumption); (case hx => k_mem); (case hdx => k_mem); (case hdp => ktr_room); (case hd => assumption)) | (refine' c_validF ?B ?F ?X ?N ?T ?hk ?hx ?hdx ?hdp ?hd ?_; (case B => k_asm); (case F => k_asm); (case X => k_asm); (case N => k_asm); (case T => k_asm); (case hk => first | exact rfl | assumption); (case hx => k_mem); (case hdx => k_mem); (case hdp => ktr_room); (case hd => assumption))); intro h' tk' F' N'))
local macro_rules | `(tactic| walk_at "call ref") => `(tactic| (k_here; k_dflt (first
  | (refine' c_bin_ser ?B ?F ?X ?XB ?N ?T ?TB ?hk ?hdp ?hx ?hdx ?hd ?hsz ?_; (case B => k_asm); (case F => k_asm); (case X => k_asm); (case XB => assumption); (case N => k_asm); (case T => k_asm); (case TB => assumption); (case hk => first | exact rfl | assumption); (case hdp => ktr_room); (case hx => k_mem); (case hdx => k_mem); (case hd => assumption); (case hsz => omega))
  | (refine' c_bin_des ?B ?F ?X ?XB ?N ?T ?TB ?hk ?hdp ?hx ?hdx ?hd ?hsz ?_; (case B => k_asm); (case F => k_asm); (case X => k_asm); (case XB => assumption); (case N => k_asm); (case T => k_asm); (case TB => assumption); (case hk => first | exact rfl | assumption); (case hdp => ktr_room); (case hx => k_mem); (case hdx => k_mem); (case hd => assumption); (case hsz => omega))); intro h' tk' l' t' F' N' l1; (try dsimp only [tryV] at N'); (try k_lt l1)))
local macro_rules | `(tactic| walk_at "compareOp NotEq ref ref") => `(tactic| (k_here; k_dflt (refine' ne_one ?N ?ma ?mb ?hu ?he ?_; (case N => k_asm); (case ma => k_mem); (case mb => k_mem); (case hu => assumption); (case he => first | exact SeqAt.EqAt.same _ | exact at_bytes_same _ _ _ | exact at_str_same _ _ _ | exact at_int_same _ _ _ | exact at_bytes_str _ _ _ _ | exact at_to_from _ _))))
theorem t1_if3 {w : World} {mean : ExcName → Option Value} {mg mb : Str → Option Value} {dp un : Nat} {gd : Option (List Code)} {L a : Addr} {ccd : Value} {c1 c2 : Addr} {A₀ : Around} {base h₀ : Heap} {m : Str → Option Value} {s : Shared} {news : List (Addr × Obj)}
    {lv x1 x2 x3 : Addr} {tl th tn : Tok} {least n : Int} {hi : Option Int} {em : Bool} {oc : Obj}
    {d : Bool}
    (B : Below A₀ base [] h₀) (F₀ : Fr h₀ L s.heap m) (hJ : VJ (vars1 lv least tl (hiV hi th) em x1 x2 x3) m) (X : (hd.heap_39 w.params).In h₀) (N : News h₀ L s.heap news) (T : Top hd.view_39 LO mean mg mb h₀)
    (hc : (c1, oc) ∈ news) (hoc : oc.data = .cell (some (.int n tn))) (h0 : 0 ≤ least) (hdp : dp + 30 < recursionLimit) (hun : un < cLine)
    (e : lenOk least (some least) false n = d) (ed : (d = true ∧ n = least) ∨ (d = false ∧ n ≠ least)) :
    wpAny (model PG w) (ktrTop dp un gd "law" lawScope L a ccd (lawCl c1 c2) []) (execs (turn1.drop 4) (envX "law" lawScope L a ccd (lawCl c1 c2))) (TMid h₀ L news (VJ (vars1 lv least tl (hiV hi th) em x1 x2 x3)) s) (fun _ _ => False) s := by
  have hm := mark_Turn1e
  have F := F₀
  rw [← vlook_eq hJ] at F
  clear F₀
  generalize hcs : lawScope = cs
  conv at hcs => lhs; whnf
  generalize hb : turn1 = body
  conv at hb => lhs; whnf
  subst hcs hb
  simp only [List.drop_succ_cons, List.drop_zero]
  by_cases hz : least = 0
  all_goals (rcases ed with ⟨rfl, ed⟩ | ⟨rfl, ed⟩)
  all_goals (first | subst hz | skip)
  all_goals (
    w_top on
    k_steps)
  all_goals first
    | (exfalso; omega)
    | (exfalso; have q := ‹(true != (n == _)) = true›; simp [ed] at q; done)
    | (exfalso; have q := ‹(false != (n == _)) = true›; simp [ed] at q; done)
    | skip
  all_goals (refine TMid.intro (by k_asm) (by assumption) (by k_sub) (.cons rfl (.cons rfl (.cons rfl (.cons rfl (.cons rfl (.cons rfl (.cons rfl .nil))))))))
end
end Mine
end
section
open PySem PySem.W PyProof.Rows PySem.Calls
set_option maxRecDepth 100000
set_option maxHeartbeats 8000000
namespace Mine
noncomputable section
theorem mark_Law1 : Mark PySem.Challenge.rw_bi0018_01 hd.heap_39 := by
  k_fill
  trivial
local macro_rules | `(tactic| k_room) => `(tactic| ktr_room)
local macro_rules | `(tactic| k_mem) => `(tactic| (k_dflt assumption))
local macro_rules | `(tactic| walk_at "call ref") => `(tactic| (k_here; k_dflt (first | (refine' c_validD ?B ?F ?X ?N ?T ?hk ?hx ?hdx ?hdp ?hd ?_; (case B => k_asm); (case F => k_asm); (case X => k_asm); (case N => k_asm); (case T => k_asm); (case hk => first | exact rfl | assumption); (case hx => k_mem); (case hdx => k_mem); (case hdp => ktr_room); (case hd => assumption)) | (refine' c_validD (hi := some _) ?B ?F ?X ?N ?T ?hk ?hx ?hdx ?hdp ?hd ?_; (case B => k_asm); (case F => k_asm); (case X => k_asm); (case N => k_asm); (case T => k_asm); (case hk => first | exact rfl | assumption); (case hx => k_mem); (case hdx => k_mem); (case hdp => ktr_room); (case hd => assumption))); intro h' tk' F' N'))
local macro_rules | `(tactic| walk_at "call ref") => `(tactic| (k_here; k_dflt (first
  | (refine' c_bin_ser ?B ?F ?X ?XB ?N ?T ?TB ?hk ?hdp ?hx ?hdx ?hd ?hsz ?_; (case B => k_asm); (case F => k_asm); (case X => k_asm); (case XB => assumption); (case N => k_asm); (case T => k_asm); (case TB => assumption); (case hk => first | exact rfl | assumption); (case hdp => ktr_room); (case hx => k_mem); (case hdx => k_mem); (case hd => assumption); (case hsz => omega))
  | (refine' c_bin_des ?B ?F ?X ?XB ?N ?T ?TB ?hk ?hdp ?hx ?hdx ?hd ?hsz ?_; (case B => k_asm); (case F => k_asm); (case X => k_asm); (case XB => assumption); (case N => k_asm); (case T => k_asm); (case TB => assumption); (case hk => first | exact rfl | assumption); (case hdp => ktr_room); (case hx => k_mem); (case hdx => k_mem); (case hd => assumption); (case hsz => omega))); intro h' tk' l' t' F' N' l1; (try dsimp only [tryV] at N'); (try k_lt l1)))
local macro_rules | `(tactic| walk_at "compareOp NotEq ref ref") => `(tactic| (k_here; k_dflt (refine' ne_one ?N ?ma ?mb ?hu ?he ?_; (case N => k_asm); (case ma => k_mem); (case mb => k_mem); (case hu => assumption); (case he => first | exact SeqAt.EqAt.same _ | exact at_bytes_same _ _ _ | exact at_str_same _ _ _ | exact at_int_same _ _ _ | exact at_bytes_str _ _ _ _ | exact at_to_from _ _))))
theorem TMid.chain {prog : Program} {w : World} {A : Around} {env : Env} {h₀ : Heap} {L : Addr} {news : List (Addr × Obj)} {s : Shared} {body : List Stmt} {J J2 : (Str → Option Value) → Prop} (n : Nat)
    (h1 : wpAny (model prog w) A (execs (body.take n) env) (TMid h₀ L news J s) (fun _ _ => False) s)
    (h2 : ∀ h' tk' m' news', Fr h₀ L h' m' → News h₀ L h' news' → (∀ p ∈ news, p ∈ news') → J m' → wpAny (model prog w) A (execs (body.drop n) env) (TMid h₀ L news' J2 { s with heap := h', toks := tk' }) (fun _ _ => False) { s with heap := h', toks := tk' }) :
    wpAny (model prog w) A (execs body env) (TMid h₀ L news J2 s) (fun _ _ => False) s := by
  refine execs_cut n (wpAny_mono h1 (fun f s' hf => ?_) fun _ _ e => e)
  obtain ⟨rfl, h', tk', m', news', rfl, F', N', hs, hJ⟩ := hf
  refine wpAny_mono (h2 h' tk' m' news' F' N' hs hJ) (fun f s' hf => ?_) fun _ _ e => e
  obtain ⟨rfl, h'', tk'', m'', news'', rfl, F'', N'', hs', hJ'⟩ := hf
  exact ⟨rfl, h'', tk'', m'', news'', rfl, F'', N'', fun p hp => hs' p (hs p hp), hJ'⟩
theorem lenOk_and (lo : Int) (hi : Option Int) (em : Bool) {n : Int} (h0 : 0 ≤ n) : lenOk lo hi em n = (lenOk lo none em n && lenOk 0 hi em n) := by
  have e : decide (0 ≤ n) = true := decide_eq_true h0
  unfold lenOk
  rw [e]
  cases decide (lo ≤ n) <;> cases hi <;> cases em <;> cases decide (n = 0) <;> simp
theorem turn1_all {w : World} {mean : ExcName → Option Value} {mg mb : Str → Option Value} {dp un : Nat} {gd : Option (List Code)} {L a : Addr} {ccd : Value} {c1 c2 : Addr} {A₀ : Around} {base h₀ : Heap} {m : Str → Option Value} {s : Shared} {need : List (Addr × Obj)}
    {lv x1 x2 x3 dx1 dx2 dx3 : Addr} {tl th tn : Tok} {least n : Int} {hi : Option Int} {em : Bool} {oc : Obj} {p1 p2 p3 q1 q2 q3 r1 r2 r3 : Int} {u1 u2 u3 v1 v2 v3 w1 w2 w3 tl1 tl2 tl3 th1 th2 th3 : Tok}
    (B : Below A₀ base [] h₀) (X : (hd.heap_39 w.params).In h₀) (XB : (hd.heap_39 w.params).In base) (T : Top hd.view_39 LO mean mg mb h₀) (TB : Top hd.view_39 LO mean mg mb base) (hdp : dp + 30 < recursionLimit) (hun : un < cLine) (hl0 : 0 ≤ least)
    (hx1 : (x1, instObj 129 dx1) ∈ need) (hdx1 : (dx1, binD p1 p2 p3 u1 u2 u3 (.int least tl1) (hiV hi th1) (.bool em)) ∈ need)
    (hx2 : (x2, instObj 129 dx2) ∈ need) (hdx2 : (dx2, binD q1 q2 q3 v1 v2 v3 (.int least tl2) (hiV none th2) (.bool em)) ∈ need)
    (hx3 : (x3, instObj 129 dx3) ∈ need) (hdx3 : (dx3, binD r1 r2 r3 w1 w2 w3 (.int 0 tl3) (hiV hi th3) (.bool em)) ∈ need)
    {I : Addr} {io : Obj} (F : Fr h₀ L s.heap m) (hJ : VJ (vars1 lv least tl (hiV hi th) em x1 x2 x3) m) (N : News h₀ L s.heap ((c1, oc) :: (I, io) :: need)) (hoc : oc.data = .cell (some (.int n tn))) (h0 : 0 ≤ n) (h1 : n < 13) :
    wpAny (model PG w) (ktrTop dp un gd "law" lawScope L a ccd (lawCl c1 c2) []) (execs turn1 (envX "law" lawScope L a ccd (lawCl c1 c2))) (CTurn h₀ L I c1 io need (VJ (vars1 lv least tl (hiV hi th) em x1 x2 x3)) s) (fun _ _ => False) s := by
  have key : wpAny (model PG w) (ktrTop dp un gd "law" lawScope L a ccd (lawCl c1 c2) []) (execs turn1 (envX "law" lawScope L a ccd (lawCl c1 c2))) (TMid h₀ L ((c1, oc) :: (I, io) :: need) (VJ (vars1 lv least tl (hiV hi th) em x1 x2 x3)) s) (fun _ _ => False) s := by
    refine TMid.chain 1 (t1_due B F hJ X N T (.head _) hoc) fun h' tk' m' news' F N hs hJ => ?_
    refine TMid.chain 1 (t1_oct B F hJ X N T (hs _ (.head _)) hoc h0 h1 hdp) fun h' tk' m' news' F N hs2 hJ => ?_
    obtain ⟨arr, tb, hsz, hJ⟩ := hJ
    have up : ∀ p ∈ need, p ∈ news' := fun p hp => hs2 p (hs p (.tail _ (.tail _ hp)))
    rw [List.drop_drop]
    refine TMid.chain 1 (t1_if1 B F hJ X XB N T TB (hs2 _ (hs _ (.head _))) hoc h1 hsz hdp (up _ hx1) (up _ hdx1) (up _ hx2) (up _ hdx2) (up _ hx3) (up _ hdx3) rfl rfl rfl (lenOk_and least hi em h0)) fun h' tk' m' news' F N hs3 hJ => ?_
    have up : ∀ p ∈ need, p ∈ news' := fun p hp => hs3 p (up p hp)
    rw [List.drop_drop]
    refine TMid.chain 1 (t1_if2 B F hJ X XB N T TB (hs3 _ (hs2 _ (hs _ (.head _)))) hoc h1 hsz hdp hun (up _ hx1) (up _ hdx1) (up _ hx2) (up _ hdx2) (up _ hx3) (up _ hdx3) rfl) fun h' tk' m' news' F N hs4 hJ => ?_
    rw [List.drop_drop]
    have ed : (decide (n = least) = true ∧ n = least) ∨ (decide (n = least) = false ∧ n ≠ least) := by
      by_cases c : n = least
      · exact .inl ⟨decide_eq_true c, c⟩
      · exact .inr ⟨decide_eq_false c, c⟩
    refine t1_if3 B F hJ X N T (hs4 _ (hs3 _ (hs2 _ (hs _ (.head _))))) hoc hl0 hdp hun (d := decide (n = least)) ?_ ed
    unfold lenOk
    by_cases c : n = least
    · subst c; simp
    · have : (decide (least ≤ n) && decide (n ≤ least)) = false := by
        rw [Bool.and_eq_false_iff]
        rcases Int.lt_or_lt_of_ne c with q | q
        · exact .inl (decide_eq_false (by omega))
        · exact .inr (decide_eq_false (by omega))
      simp only [this, decide_eq_false c, Bool.false_and, Bool.or_false]
  refine wpAny_mono key (fun f s' hf => ?_) fun _ _ e => e
  obtain ⟨rfl, h', tk', m', news', rfl, F', N', hs, hJ'⟩ := hf
  exact ⟨.inl rfl, h', tk', m', oc, _, news', rfl, F', N', fun p hp => hs p (.tail _ hp), hs _ (.head _), hoc, hJ'⟩
theorem law_for1 {w : World} {mean : ExcName → Option Value} {mg mb : Str → Option Value} {dp un : Nat} {gd : Option (List Code)} {L a : Addr} {ccd : Value} {c1 c2 : Addr} {A₀ : Around} {base h₀ : Heap} {m : Str → Option Value} {s : Shared} {need : List (Addr × Obj)}
    {lv x1 x2 x3 dx1 dx2 dx3 : Addr} {tl th tn : Tok} {least n : Int} {hi : Option Int} {em : Bool} {oc : Obj} {p1 p2 p3 q1 q2 q3 r1 r2 r3 : Int} {u1 u2 u3 v1 v2 v3 w1 w2 w3 tl1 tl2 tl3 th1 th2 th3 : Tok}
    (B : Below A₀ base [] h₀) (X : (hd.heap_39 w.params).In h₀) (XB : (hd.heap_39 w.params).In base) (T : Top hd.view_39 LO mean mg mb h₀) (TB : Top hd.view_39 LO mean mg mb base) (hdp : dp + 30 < recursionLimit) (hun : un < cLine) (hl0 : 0 ≤ least)
    (hx1 : (x1, instObj 129 dx1) ∈ need) (hdx1 : (dx1, binD p1 p2 p3 u1 u2 u3 (.int least tl1) (hiV hi th1) (.bool em)) ∈ need)
    (hx2 : (x2, instObj 129 dx2) ∈ need) (hdx2 : (dx2, binD q1 q2 q3 v1 v2 v3 (.int least tl2) (hiV none th2) (.bool em)) ∈ need)
    (hx3 : (x3, instObj 129 dx3) ∈ need) (hdx3 : (dx3, binD r1 r2 r3 w1 w2 w3 (.int 0 tl3) (hiV hi th3) (.bool em)) ∈ need)
    (F₀ : Fr h₀ L s.heap m) (hJ : VJ (vars1 lv least tl (hiV hi th) em x1 x2 x3) m) {news : List (Addr × Obj)} {vc : Option Value} {Q : Flow → Shared → Prop} (N : News h₀ L s.heap news) (hc : (c1, oc) ∈ news) (hoc : oc.data = .cell vc) (hneed : ∀ p ∈ need, p ∈ news) (hap : ∀ p ∈ need, p.1 ≠ c1)
    (done : ∀ h tk m₁ oc vc, VJ (vars1 lv least tl (hiV hi th) em x1 x2 x3) m₁ → oc.data = .cell vc → Fr h₀ L h m₁ → News h₀ L h ((c1, oc) :: need) → Q .next { s with heap := h, toks := tk }) :
    wpAny (model PG w) (ktrTop dp un gd "law" lawScope L a ccd (lawCl c1 c2) []) (exec (nthStmt 3 lawBody) (envX "law" lawScope L a ccd (lawCl c1 c2))) Q (fun _ _ => False) s := by
  have hm := mark_Law1
  have F := F₀
  rw [← vlook_eq hJ] at F
  clear F₀
  have turn : ∀ k t m₁ h tk oc I io, 0 ≤ k → k < 13 → VJ (vars1 lv least tl (hiV hi th) em x1 x2 x3) m₁ → oc.data = .cell (some (.int k t)) → Fr h₀ L h m₁ → News h₀ L h ((c1, oc) :: (I, io) :: need) →
      wpAny (model PG w) (ktrTop dp un gd "law" lawScope L a ccd (lawCl c1 c2) []) (execs turn1 (envX "law" lawScope L a ccd (lawCl c1 c2))) (CTurn h₀ L I c1 io need (VJ (vars1 lv least tl (hiV hi th) em x1 x2 x3)) { s with heap := h, toks := tk }) (fun _ _ => False) { s with heap := h, toks := tk } :=
    fun k t m₁ h tk oc I io h0 h1 hJ hoc F N => turn1_all B X XB T TB hdp hun hl0 hx1 hdx1 hx2 hdx2 hx3 hdx3 F hJ N hoc h0 h1
  generalize hb1 : turn1 = body1 at turn
  generalize hst : nthStmt 3 lawBody = st
  conv at hst => lhs; whnf
  subst hst
  conv at hb1 => lhs; whnf
  subst hb1
  refine For_cell (h₀ := h₀) (c := c1) rfl rfl rfl ?_
  generalize hcs : lawScope = cs at turn ⊢
  conv at hcs => lhs; whnf
  subst hcs
  w_top on
  k_steps
  refine iterC_range (n := 13) (m₀ := vlook (vars1 lv least tl (hiV hi th) em x1 x2 x3) m) need (VJ (vars1 lv least tl (hiV hi th) em x1 x2 x3)) rfl (by assumption) (by decide) (by decide) (by assumption) (by assumption) hc hoc hneed hap (by rw [vlook_eq hJ]; exact hJ) (fun k t m₁ h tk oc I io h0 h1 hJ hoc F N => turn k t m₁ h tk oc I io h0 (by omega) hJ hoc F N) ?_
  intro h tk m₁ oc vc hJ hoc F N
  exact done h tk m₁ oc vc hJ hoc F N
end
end Mine
end
section
open PySem PySem.W PyProof.Rows PySem.Calls
set_option maxRecDepth 100000
set_option maxHeartbeats 2000000
namespace Mine
local macro_rules | `(tactic| walk_at "none0") => `(tactic| fail)
local macro_rules | `(tactic| walk_at "none1") => `(tactic| fail)
local macro_rules | `(tactic| walk_at "none2") => `(tactic| fail)
local macro_rules | `(tactic| walk_at "none3") => `(tactic| fail)
local macro_rules | `(tactic| walk_at "none4") => `(tactic| fail)
local macro_rules | `(tactic| walk_at "none5") => `(tactic| fail)
local macro_rules | `(tactic| walk_at "none6") => `(tactic| fail)
local macro_rules | `(tactic| walk_at "none7") => `(tactic| fail)
local macro_rules | `(tactic| walk_at "none8") => `(tactic| fail)
local macro_rules | `(tactic| walk_at "none9") => `(tactic| fail)
local macro_rules | `(tactic| walk_at "none10") => `(tactic| fail)
local macro_rules | `(tactic| walk_at "none11") => `(tactic| fail)
noncomputable section
theorem mark_Law2 : Mark PySem.Challenge.rw_bi0018_01 hd.heap_39 := by
  k_fill
  trivial
local macro_rules | `(tactic| k_room) => `(tactic| ktr_room)
local macro_rules | `(tactic| k_mem) => `(tactic| (k_dflt assumption))
local macro_rules | `(tactic| walk_at "call ref") => `(tactic| (k_here; k_dflt (first
  | (refine' c_bin_ser5 ?B ?F ?X ?XB ?N ?T ?TB ?hk ?hdp ?hx ?hdx ?_; (case B => k_asm); (case F => k_asm); (case X => k_asm); (case XB => assumption); (case N => k_asm); (case T => k_asm); (case TB => assumption); (case hk => first | exact rfl | assumption); (case hdp => ktr_room); (case hx => k_mem); (case hdx => k_mem))
  | (refine' c_bin_desL ?B ?F ?X ?XB ?N ?T ?TB ?hk ?hdp ?hx ?hdx ?hlv ?_; (case B => k_asm); (case F => k_asm); (case X => k_asm); (case XB => assumption); (case N => k_asm); (case T => k_asm); (case TB => assumption); (case hk => first | exact rfl | assumption); (case hdp => ktr_room); (case hx => k_mem); (case hdx => k_mem); (case hlv => k_mem))); intro h' tk' l' t' F' N' l1; (try k_lt l1)))
local macro_rules | `(tactic| walk_at "compareOp NotEq ref ref") => `(tactic| (k_here; k_dflt (refine' ne_one ?N ?ma ?mb ?hu ?he ?_; (case N => k_asm); (case ma => k_mem); (case mb => k_mem); (case hu => assumption); (case he => first | exact SeqAt.EqAt.same _ | exact at_bytes_same _ _ _ | exact at_str_same _ _ _ | exact at_int_same _ _ _ | exact at_bytes_str _ _ _ _ | exact at_to_from _ _))))
theorem law_if5 {w : World} {mean : ExcName → Option Value} {mg mb : Str → Option Value} {dp un : Nat} {gd : Option (List Code)} {L a : Addr} {ccd : Value} {c1 c2 : Addr} {A₀ : Around} {base h₀ : Heap} {m : Str → Option Value} {s : Shared} {news : List (Addr × Obj)}
    {lv x1 x2 x3 dx1 : Addr} {tl th : Tok} {least : Int} {hi : Option Int} {em : Bool} {p1 p2 p3 : Int} {u1 u2 u3 tl1 th1 : Tok}
    (B : Below A₀ base [] h₀) (F₀ : Fr h₀ L s.heap m) (X : (hd.heap_39 w.params).In h₀) (XB : (hd.heap_39 w.params).In base) (N : News h₀ L s.heap news) (T : Top hd.view_39 LO mean mg mb h₀) (TB : Top hd.view_39 LO mean mg mb base) (hdp : dp + 40 < recursionLimit) (hun : un < cLine)
    (hJ : VJ (vars1 lv least tl (hiV hi th) em x1 x2 x3) m) (hx1 : (x1, instObj 129 dx1) ∈ news) (hdx1 : (dx1, binD p1 p2 p3 u1 u2 u3 (.int least tl1) (hiV hi th1) (.bool em)) ∈ news) :
    wpAny (model PG w) (ktrTop dp un gd "law" lawScope L a ccd (lawCl c1 c2) []) (execs ((lawBody.drop 4).take 1) (envX "law" lawScope L a ccd (lawCl c1 c2))) (TMid h₀ L news (VJ (vars1 lv least tl (hiV hi th) em x1 x2 x3)) s) (fun _ _ => False) s := by
  have hm := mark_Law2
  have F := F₀
  rw [← vlook_eq hJ] at F
  clear F₀
  generalize hcs : lawScope = cs
  conv at hcs => lhs; whnf
  generalize hb : lawBody = body
  conv at hb => lhs; whnf
  subst hcs hb
  simp only [List.take_succ_cons, List.take_zero, List.drop_succ_cons, List.drop_zero]
  w_top on
  k_steps
  all_goals (refine TMid.intro (by k_asm) (by assumption) (by k_sub) (.cons rfl (.cons rfl (.cons rfl (.cons rfl (.cons rfl (.cons rfl (.cons rfl .nil))))))))
end
end Mine
end
section
open PySem PySem.W PyProof.Rows PySem.Calls
set_option maxRecDepth 100000
set_option maxHeartbeats 2000000
namespace Mine
noncomputable section
theorem mark_LawAt : Mark PySem.Challenge.rw_bi0018_01 hd.heap_39 := by
  k_fill
  trivial
local macro_rules | `(tactic| k_room) => `(tactic| ktr_room)
local macro_rules | `(tactic| k_mem) => `(tactic| (k_dflt assumption))
theorem at_end {h₀ h' : Heap} {L : Addr} {m : Str → Option Value} {news news' : List (Addr × Obj)} {s : Shared} {Q : Value → Shared → Prop} {tk' : Nat} (v : Int) (t : Tok)
    (hret : ∀ (h' : Heap) (tk' : Nat) (v : Int) (t : Tok), Fr h₀ L h' m → News h₀ L h' news → Q (.int v t) { s with heap := h', toks := tk' })
    (F : Fr h₀ L h' m) (N : News h₀ L h' news') (hs : ∀ p ∈ news, p ∈ news') : Q (.int v t) { s with heap := h', toks := tk' } := hret h' tk' v t F (cb_drop N hs)
theorem c_at {w : World} {mean : ExcName → Option Value} {mg mb : Str → Option Value} {dp un : Nat} {gd : Option (List Code)} {cn : Str} {cs : Scope} {a : Addr} {ccd : Value} {cl : List (Str × Addr)} {outer : List Env} {A₀ : Around} {base h₀ : Heap} {L : Addr} {m : Str → Option Value} {s : Shared} {Q E : Value → Shared → Prop} {news : List (Addr × Obj)}
    {lv : Addr} {vs : List Value} {ns : List Int} {k o : Int} {tk1 to1 : Tok}
    (B : Below A₀ base outer h₀) (F : Fr h₀ L s.heap m) (X : (hd.heap_39 w.params).In h₀) (N : News h₀ L s.heap news) (T : Top hd.view_39 LO mean mg mb h₀) (hk : cs.kind = .function)
    (hL : base.IsList lv vs.toArray) (hI : IntsAre vs ns) (hlay : (PyData.list (ns.map PyData.int)).layable0 = true) (hn : ns.length ≤ 63) (hdp : dp + 3 < recursionLimit) (h0 : 0 ≤ k)
    (hret : ∀ (h' : Heap) (tk' : Nat) (v : Int) (t : Tok), Fr h₀ L h' m → News h₀ L h' news → Q (.int v t) { s with heap := h', toks := tk' }) :
    wpAny (model PG w) (ktrTop dp un gd cn cs L a ccd cl outer) (call (.ref 193) [.ref lv, .int k tk1, .int o to1]) Q E s := by
  have hm := mark_LawAt
  w_top on
  refine wpAny_call ?_
  k_dflt cell_enter
  k_steps
  all_goals exact at_end _ _ hret (by k_asm) (by assumption) (by k_sub)
end
end Mine
end
section
open PySem PySem.W PyProof.Rows PySem.Calls
set_option maxRecDepth 100000
set_option maxHeartbeats 2000000
namespace Mine
local macro_rules | `(tactic| walk_at "none0") => `(tactic| fail)
local macro_rules | `(tactic| walk_at "none1") => `(tactic| fail)
local macro_rules | `(tactic| walk_at "none2") => `(tactic| fail)
local macro_rules | `(tactic| walk_at "none3") => `(tactic| fail)
local macro_rules | `(tactic| walk_at "none4") => `(tactic| fail)
local macro_rules | `(tactic| walk_at "none5") => `(tactic| fail)
local macro_rules | `(tactic| walk_at "none6") => `(tactic| fail)
local macro_rules | `(tactic| walk_at "none7") => `(tactic| fail)
local macro_rules | `(tactic| walk_at "none8") => `(tactic| fail)
local macro_rules | `(tactic| walk_at "none9") => `(tactic| fail)
local macro_rules | `(tactic| walk_at "none10") => `(tactic| fail)
local macro_rules | `(tactic| walk_at "none11") => `(tactic| fail)
noncomputable section
theorem mark_Law3 : Mark PySem.Challenge.rw_bi0018_01 hd.heap_39 := by
  k_fill
  trivial
local macro_rules | `(tactic| k_room) => `(tactic| ktr_room)
local macro_rules | `(tactic| k_mem) => `(tactic| (k_dflt assumption))
local macro_rules | `(tactic| walk_at "call ref") => `(tactic| (k_here; k_dflt (refine' c_at ?B ?F ?X ?N ?T ?hk ?hL ?hI ?hlay ?hn ?hdp ?h0 ?_; (case B => k_asm); (case F => k_asm); (case X => k_asm); (case N => k_asm); (case T => k_asm); (case hk => first | exact rfl | assumption); (case hL => assumption); (case hI => assumption); (case hlay => assumption); (case hn => assumption); (case hdp => ktr_room); (case h0 => decide)); intro h' tk' v' t' F' N'))
local macro_rules | `(tactic| walk_at "eval Call") => `(tactic| (k_here; (with_reducible show wpAny _ _ (eval (Expr.Call (Expr.Name _ _) _ [] _) _) _ _ _); k_dflt (refine Call_ ?_)))
theorem fm6_lo (v : Int) : 1 ≤ 1 + v.fmod 6 := by have := fmod_lo v (by decide : (0 : Int) < 6); omega
theorem fm6_hi (v : Int) : 1 + v.fmod 6 ≤ 6 := by have := fmod_hi v (by decide : (0 : Int) < 6); omega
theorem law_sizes {w : World} {mean : ExcName → Option Value} {mg mb : Str → Option Value} {dp un : Nat} {gd : Option (List Code)} {L a : Addr} {ccd : Value} {c1 c2 : Addr} {A₀ : Around} {base h₀ : Heap} {m : Str → Option Value} {s : Shared} {news : List (Addr × Obj)}
    {lv : Addr} {vs : List Value} {ns : List Int} {Q : Flow → Shared → Prop}
    (B : Below A₀ base [] h₀) (F₀ : Fr h₀ L s.heap m) (X : (hd.heap_39 w.params).In h₀) (XB : (hd.heap_39 w.params).In base) (N : News h₀ L s.heap news) (T : Top hd.view_39 LO mean mg mb h₀) (TB : Top hd.view_39 LO mean mg mb base) (hdp : dp + 40 < recursionLimit) (hun : un < cLine)
    (hJ : VJ [(Str.ofString "script", .ref lv)] m) (hL : base.IsList lv vs.toArray) (hI : IntsAre vs ns) (hlay : (PyData.list (ns.map PyData.int)).layable0 = true) (hn : ns.length ≤ 63)
    (hret : ∀ h' tk' m' ls z0 z1 t0 t1, 1 ≤ z0 → z0 ≤ 6 → 1 ≤ z1 → z1 ≤ 6 → Fr h₀ L h' m' → VJ [(Str.ofString "sizes", .ref ls), (Str.ofString "script", .ref lv)] m' → News h₀ L h' ((ls, listOf #[.int z0 t0, .int z1 t1] 0) :: news) → (∀ p ∈ news, p.1 < ls) → Q .next { s with heap := h', toks := tk' }) :
    wpAny (model PG w) (ktrTop dp un gd "law" lawScope L a ccd (lawCl c1 c2) []) (execs ((lawBody.drop 5).take 1) (envX "law" lawScope L a ccd (lawCl c1 c2))) Q (fun _ _ => False) s := by
  have hm := mark_Law3
  have F := F₀
  rw [← vlook_eq hJ] at F
  clear F₀
  generalize hcs : lawScope = cs
  conv at hcs => lhs; whnf
  generalize hb : lawBody = body
  conv at hb => lhs; whnf
  subst hcs hb
  simp only [List.take_succ_cons, List.take_zero, List.drop_succ_cons, List.drop_zero]
  w_top on
  k_steps
  refine' hret _ _ _ _ _ _ _ _ ?a ?b ?c ?d ?F ?J ?N ?lt
  case N => assumption
  case F => k_asm
  case lt => first | assumption | (refine lt_all ?_; tbn_find)
  case J => exact (.cons rfl (.cons rfl .nil))
  all_goals first | exact fm6_lo _ | exact fm6_hi _
end
end Mine
end
section
open PySem PySem.W PyProof.Rows PySem.Calls
set_option maxRecDepth 100000
set_option maxHeartbeats 2000000
namespace Mine
noncomputable section
theorem mark_New : Mark PySem.Challenge.rw_bi0018_01 hd.heap_39 := by
  k_fill
  trivial
local macro_rules | `(tactic| k_room) => `(tactic| ktr_room)
local macro_rules | `(tactic| k_mem) => `(tactic| (k_dflt assumption))
theorem off3_cons {I C D : Addr} {p : Addr × Obj} {news : List (Addr × Obj)} (h : p.1 ≠ I ∧ p.1 ≠ C ∧ p.1 ≠ D) (off : LCg.Off3 I C D news) : LCg.Off3 I C D (p :: news) := ⟨h, off⟩
theorem cend1 {h₀ : Heap} {L I C D x : Addr} {m : Str → Option Value} {s₁ : Shared} {oI oC oD ox : Obj} {S : List (Addr × Obj) → Prop} {rest : Value → List (Addr × Obj) → Prop} {y : Value} {h' : Heap} {tk : Nat} {news : List (Addr × Obj)}
    (F : Fr h₀ L h' m) (N : News h₀ L h' ((x, ox) :: (I, oI) :: (C, oC) :: (D, oD) :: news)) (off : LCg.Off3 I C D news) (hx : x ≠ I ∧ x ≠ C ∧ x ≠ D) (hS : S ((x, ox) :: news)) (r : rest y ((x, ox) :: news)) :
    LCg.CompEnd h₀ L m s₁ I oI C oC D oD S rest y { s₁ with heap := h', toks := tk } :=
  LCg.CompEnd.intro F N _ (fun p hp => by
    simp only [List.mem_cons] at hp ⊢
    rcases hp with h | h | h | h | h <;> simp [h]) (off3_cons hx off) hS r
theorem cend2 {h₀ : Heap} {L I C D x d : Addr} {m : Str → Option Value} {s₁ : Shared} {oI oC oD ox od : Obj} {S : List (Addr × Obj) → Prop} {rest : Value → List (Addr × Obj) → Prop} {y : Value} {h' : Heap} {tk : Nat} {news : List (Addr × Obj)}
    (F : Fr h₀ L h' m) (N : News h₀ L h' ((x, ox) :: (d, od) :: (I, oI) :: (C, oC) :: (D, oD) :: news)) (off : LCg.Off3 I C D news) (hx : x ≠ I ∧ x ≠ C ∧ x ≠ D) (hd : d ≠ I ∧ d ≠ C ∧ d ≠ D) (hS : S ((x, ox) :: (d, od) :: news)) (r : rest y ((x, ox) :: (d, od) :: news)) :
    LCg.CompEnd h₀ L m s₁ I oI C oC D oD S rest y { s₁ with heap := h', toks := tk } :=
  LCg.CompEnd.intro F N _ (fun p hp => by
    simp only [List.mem_cons] at hp ⊢
    rcases hp with h | h | h | h | h | h <;> simp [h]) (off3_cons hx (off3_cons hd off)) hS r
theorem new_end {h₀ h' : Heap} {L x d : Addr} {m : Str → Option Value} {news news' : List (Addr × Obj)} {s : Shared} {Q : Value → Shared → Prop} {tk' : Nat} {z : Int} {tz : Tok} (h1 : Int) (t1 : Tok)
    (hret : ∀ (h' : Heap) (tk' : Nat) (x d : Addr) (h1 : Int) (t1 : Tok), Fr h₀ L h' m → News h₀ L h' ((x, instObj 179 d) :: (d, dictOf [⟨h1, .str "length" t1, .int z tz⟩] 1) :: news) → @LT.lt Nat _ d x → (∀ p ∈ news, p.1 < d) → Q (.ref x) { s with heap := h', toks := tk' })
    (F : Fr h₀ L h' m) (N : News h₀ L h' news') (hs : ∀ p ∈ (x, instObj 179 d) :: (d, dictOf [⟨h1, .str "length" t1, .int z tz⟩] 1) :: news, p ∈ news') (lt : @LT.lt Nat _ d x) (lt2 : ∀ p ∈ news, p.1 < d) : Q (.ref x) { s with heap := h', toks := tk' } := hret h' tk' x d h1 t1 F (cb_drop N hs) lt lt2
theorem c_new {w : World} {mean : ExcName → Option Value} {mg mb : Str → Option Value} {dp un : Nat} {gd : Option (List Code)} {a c1 c2 : Addr} {ccd : Value} {outer : List Env} {A₀ : Around} {base h₀ : Heap} {L : Addr} {m : Str → Option Value} {s : Shared} {Q E : Value → Shared → Prop} {news : List (Addr × Obj)}
    {z : Int} {tz : Tok}
    (B : Below A₀ base outer h₀) (F : Fr h₀ L s.heap m) (X : (hd.heap_39 w.params).In h₀) (N : News h₀ L s.heap news) (T : Top hd.view_39 LO mean mg mb h₀) (hdp : dp + 6 < recursionLimit)
    (hret : ∀ (h' : Heap) (tk' : Nat) (x d : Addr) (h1 : Int) (t1 : Tok), Fr h₀ L h' m → News h₀ L h' ((x, instObj 179 d) :: (d, dictOf [⟨h1, .str "length" t1, .int z tz⟩] 1) :: news) → @LT.lt Nat _ d x → (∀ p ∈ news, p.1 < d) → Q (.ref x) { s with heap := h', toks := tk' }) :
    wpAny (model PG w) (ktrTop dp un gd "law" lawScope L a ccd (lawCl c1 c2) outer) (call (.ref 179) [.int z tz]) Q E s := by
  have hm := mark_New
  generalize hcs : lawScope = cs
  conv at hcs => lhs; whnf
  subst hcs
  w_top on
  k_steps
  exact new_end _ _ hret (by k_asm) (by assumption) (by k_sub) (by assumption) (by first | assumption | (refine lt_all ?_; tbn_find))
end
end Mine
end
section
open PySem PySem.W PyProof.Rows PySem.Calls
set_option maxRecDepth 100000
set_option maxHeartbeats 2000000
namespace Mine
local macro_rules | `(tactic| walk_at "none0") => `(tactic| fail)
local macro_rules | `(tactic| walk_at "none1") => `(tactic| fail)
local macro_rules | `(tactic| walk_at "none2") => `(tactic| fail)
local macro_rules | `(tactic| walk_at "none3") => `(tactic| fail)
local macro_rules | `(tactic| walk_at "none4") => `(tactic| fail)
local macro_rules | `(tactic| walk_at "none5") => `(tactic| fail)
local macro_rules | `(tactic| walk_at "none6") => `(tactic| fail)
local macro_rules | `(tactic| walk_at "none7") => `(tactic| fail)
local macro_rules | `(tactic| walk_at "none8") => `(tactic| fail)
local macro_rules | `(tactic| walk_at "none9") => `(tactic| fail)
local macro_rules | `(tactic| walk_at "none10") => `(tactic| fail)
local macro_rules | `(tactic| walk_at "none11") => `(tactic| fail)
noncomputable section
theorem mark_Law4 : Mark PySem.Challenge.rw_bi0018_01 hd.heap_39 := by
  k_fill
  trivial
local macro_rules | `(tactic| k_room) => `(tactic| ktr_room)
local macro_rules | `(tactic| k_mem) => `(tactic| (k_dflt assumption))
local macro_rules | `(tactic| walk_at "call ref") => `(tactic| (k_here; k_dflt (refine' c_new ?B ?F ?X ?N ?T ?hdp ?_; (case B => k_asm); (case F => k_asm); (case X => k_asm); (case N => k_asm); (case T => k_asm); (case hdp => ktr_room)); intro h' tk' x' d' h1' t1' F' N' l1 l2; (try k_lt l2)))
local macro_rules | `(tactic| walk_at "CompEnd") => `(tactic| (k_dflt (refine cend2 (by k_asm) (by assumption) (by first | assumption | exact off3_cons ⟨by k_ne, by k_ne, by k_ne⟩ (off3_cons ⟨by k_ne, by k_ne, by k_ne⟩ (by assumption))) ⟨by k_ne, by k_ne, by k_ne⟩ ⟨by k_ne, by k_ne, by k_ne⟩ (Or.inr ⟨_, by k_mem, rfl, _, rfl⟩) ?_)))
theorem law_fixed {w : World} {mean : ExcName → Option Value} {mg mb : Str → Option Value} {dp un : Nat} {gd : Option (List Code)} {L a : Addr} {ccd : Value} {c1 c2 : Addr} {A₀ : Around} {base h₀ : Heap} {m : Str → Option Value} {s : Shared} {news : List (Addr × Obj)}
    {lv ls : Addr} {z0 z1 : Int} {t0 t1 : Tok} {Q : Flow → Shared → Prop}
    (B : Below A₀ base [] h₀) (F₀ : Fr h₀ L s.heap m) (X : (hd.heap_39 w.params).In h₀) (XB : (hd.heap_39 w.params).In base) (N : News h₀ L s.heap news) (T : Top hd.view_39 LO mean mg mb h₀) (TB : Top hd.view_39 LO mean mg mb base) (hdp : dp + 40 < recursionLimit) (hun : un < cLine)
    (hJ : VJ [(Str.ofString "sizes", .ref ls), (Str.ofString "script", .ref lv)] m) (hls : (ls, listOf #[.int z0 t0, .int z1 t1] 0) ∈ news)
    (hret : ∀ h' tk' m' lf y0 d0 y1 d1 k0 k1 s0 s1, Fr h₀ L h' m' → VJ [(Str.ofString "fixed", .ref lf), (Str.ofString "sizes", .ref ls), (Str.ofString "script", .ref lv)] m' →
      News h₀ L h' ((lf, LCg.lst [.ref y0, .ref y1]) :: (y1, instObj 179 d1) :: (d1, dictOf [⟨k1, .str "length" s1, .int z1 t1⟩] 1) :: (y0, instObj 179 d0) :: (d0, dictOf [⟨k0, .str "length" s0, .int z0 t0⟩] 1) :: news) → Q .next { s with heap := h', toks := tk' }) :
    wpAny (model PG w) (ktrTop dp un gd "law" lawScope L a ccd (lawCl c1 c2) []) (execs ((lawBody.drop 6).take 1) (envX "law" lawScope L a ccd (lawCl c1 c2))) Q (fun _ _ => False) s := by
  have hm := mark_Law4
  have F := F₀
  rw [← vlook_eq hJ] at F
  clear F₀
  generalize hcs : lawScope = cs
  conv at hcs => lhs; whnf
  generalize hb : lawBody = body
  conv at hb => lhs; whnf
  subst hcs hb
  simp only [List.take_succ_cons, List.take_zero, List.drop_succ_cons, List.drop_zero]
  w_top on
  k_steps
  refine' hret _ _ _ _ _ _ _ _ _ _ _ _ ?F ?J ?N
  case N => assumption
  case F => k_asm
  case J => exact (.cons rfl (.cons rfl (.cons rfl .nil)))
end
end Mine
end
section
open PySem PySem.W PyProof.Rows PySem.Calls
set_option maxRecDepth 100000
set_option maxHeartbeats 2000000
namespace Mine
noncomputable section
theorem mark_Told : Mark PySem.Challenge.rw_bi0018_01 hd.heap_39 := by
  k_fill
  trivial
local macro_rules | `(tactic| k_room) => `(tactic| ktr_room)
local macro_rules | `(tactic| k_mem) => `(tactic| (k_dflt assumption))
local macro_rules | `(tactic| walk_at "call ref") => `(tactic| (k_here; k_dflt (refine' c_int_ser ?B ?F ?X ?XB ?N ?T ?TB ?hk ?hdp ?hx ?hdx ?hz1 ?hz6 ?hd ?_; (case B => k_asm); (case F => k_asm); (case X => k_asm); (case XB => assumption); (case N => k_asm); (case T => k_asm); (case TB => assumption); (case hk => first | exact rfl | assumption); (case hdp => ktr_room); (case hx => k_mem); (case hdx => k_mem); (case hz1 => assumption); (case hz6 => assumption); (case hd => assumption)); intro h' tk' l' t' F' N' l1; (try k_lt l1)))
local macro_rules | `(tactic| walk_at "CompEnd") => `(tactic| (k_dflt (refine cend1 (by k_asm) (by assumption) (by first | assumption | exact off3_cons ⟨by k_ne, by k_ne, by k_ne⟩ (by assumption)) ⟨by k_ne, by k_ne, by k_ne⟩ (Or.inr ⟨_, by k_mem, rfl, _, rfl⟩) ?_)))
theorem t2_told {w : World} {mean : ExcName → Option Value} {mg mb : Str → Option Value} {dp un : Nat} {gd : Option (List Code)} {L a : Addr} {ccd : Value} {c1 c2 : Addr} {A₀ : Around} {base h₀ : Heap} {m : Str → Option Value} {s : Shared} {news : List (Addr × Obj)}
    {lf ls y0 d0 y1 d1 : Addr} {z0 z1 n k0 k1 : Int} {t0 t1 s0 s1 tn : Tok} {Q : Flow → Shared → Prop} {oc : Obj} {e0 e1 : Bool}
    (B : Below A₀ base [] h₀) (F₀ : Fr h₀ L s.heap m) (X : (hd.heap_39 w.params).In h₀) (XB : (hd.heap_39 w.params).In base) (N : News h₀ L s.heap news) (T : Top hd.view_39 LO mean mg mb h₀) (TB : Top hd.view_39 LO mean mg mb base) (hdp : dp + 40 < recursionLimit) (hun : un < cLine)
    (hJ : VJ [(Str.ofString "fixed", .ref lf), (Str.ofString "sizes", .ref ls)] m) (hc : (c2, oc) ∈ news) (hoc : oc.data = .cell (some (.int n tn)))
    (hlf : (lf, LCg.lst [.ref y0, .ref y1]) ∈ news) (hy1 : (y1, instObj 179 d1) ∈ news) (hd1 : (d1, dictOf [⟨k1, .str "length" s1, .int z1 t1⟩] 1) ∈ news) (hy0 : (y0, instObj 179 d0) ∈ news) (hd0 : (d0, dictOf [⟨k0, .str "length" s0, .int z0 t0⟩] 1) ∈ news)
    (g1 : 1 ≤ z0) (g2 : z0 ≤ 6) (g3 : 1 ≤ z1) (g4 : z1 ≤ 6) (he0 : decide (0 ≤ n ∧ n < 256 ^ z0.toNat) = e0) (he1 : decide (0 ≤ n ∧ n < 256 ^ z1.toNat) = e1)
    (hret : ∀ h' tk' m' lt r0 r1 q0 q1, Fr h₀ L h' m' → VJ [(Str.ofString "told", .ref lt), (Str.ofString "fixed", .ref lf), (Str.ofString "sizes", .ref ls)] m' →
      News h₀ L h' ((lt, LCg.lst [.ref r0, .ref r1]) :: (r1, listOf #[serV e1 (be z1.toNat n) q1] 0) :: (r0, listOf #[serV e0 (be z0.toNat n) q0] 0) :: news) → Q .next { s with heap := h', toks := tk' }) :
    wpAny (model PG w) (ktrTop dp un gd "law" lawScope L a ccd (lawCl c1 c2) []) (execs (turn2.take 1) (envX "law" lawScope L a ccd (lawCl c1 c2))) Q (fun _ _ => False) s := by
  have hm := mark_Told
  have F := F₀
  rw [← vlook_eq hJ] at F
  clear F₀
  generalize hcs : lawScope = cs
  conv at hcs => lhs; whnf
  generalize hb : turn2 = body
  conv at hb => lhs; whnf
  subst hcs hb
  simp only [List.take_succ_cons, List.take_zero, List.drop_succ_cons, List.drop_zero]
  w_top on
  k_steps
  refine' hret _ _ _ _ _ _ _ _ ?F ?J ?N
  case N => assumption
  case F => k_asm
  case J => exact (.cons rfl (.cons rfl (.cons rfl .nil)))
end
end Mine
end
section
open PySem PySem.W PyProof.Rows PySem.Calls
set_option maxRecDepth 100000
set_option maxHeartbeats 8000000
namespace Mine
local macro_rules | `(tactic| walk_at "none0") => `(tactic| fail)
local macro_rules | `(tactic| walk_at "none1") => `(tactic| fail)
local macro_rules | `(tactic| walk_at "none2") => `(tactic| fail)
local macro_rules | `(tactic| walk_at "none3") => `(tactic| fail)
local macro_rules | `(tactic| walk_at "none4") => `(tactic| fail)
local macro_rules | `(tactic| walk_at "none5") => `(tactic| fail)
local macro_rules | `(tactic| walk_at "none6") => `(tactic| fail)
local macro_rules | `(tactic| walk_at "none7") => `(tactic| fail)
local macro_rules | `(tactic| walk_at "none8") => `(tactic| fail)
local macro_rules | `(tactic| walk_at "none9") => `(tactic| fail)
local macro_rules | `(tactic| walk_at "none10") => `(tactic| fail)
local macro_rules | `(tactic| walk_at "none11") => `(tactic| fail)
abbrev Trip (h : Heap) (T : Addr) (a b c : Value) : Prop := h.get? T = some { cls := .type "tuple", data := .seq #[a, b, c] }
/-- a zip of three lists, and its parts, at S to S + 5; u is what is kept of the heap g -/
structure Z3 (g : Heap) (S l1 l2 l3 : Nat) (xs ys zs : Array Value) (f0 : Value) (k1 k2 k3 : Nat) (a b c : Value) (h : Heap) : Prop where
  hz : IsZip h (S + 5) (S + 3) (S + 4) f0
  hTI : Trip h (S + 3) (.ref S) (.ref (S + 1)) (.ref (S + 2))
  hTO : Trip h (S + 4) a b c
  h1 : h.IsListIter S l1 k1
  h2 : h.IsListIter (S + 1) l2 k2
  h3 : h.IsListIter (S + 2) l3 k3
  hl1 : h.IsList l1 xs
  hl2 : h.IsList l2 ys
  hl3 : h.IsList l3 zs
  b1 : l1 < S
  b2 : l2 < S
  b3 : l3 < S
  size : h.objs.size = g.objs.size
  old : ∀ (d : Nat) o, d ≠ S → d ≠ S + 1 → d ≠ S + 2 → d ≠ S + 4 → d ≠ S + 5 → g.get? d = some o → h.get? d = some o
section
variable {g h h' : Heap} {S l1 l2 l3 : Nat} {xs ys zs : Array Value} {f0 : Value} {k1 k2 k3 : Nat} {a b c : Value}
theorem Z3.setF (Z : Z3 g S l1 l2 l3 xs ys zs f0 k1 k2 k3 a b c h) {f : Value} (hn : IsZip h' (S + 5) (S + 3) (S + 4) f) (hs : Heap.SameBut (S + 5) h h') : Z3 g S l1 l2 l3 xs ys zs f k1 k2 k3 a b c h' := by
  obtain ⟨hz, hTI, hTO, h1, h2, h3, hl1, hl2, hl3, b1, b2, b3, size, old⟩ := Z
  exact ⟨hn, hs.extBut _ _ (by show (S + 3 : Nat) ≠ S + 5; omega) hTI, hs.extBut _ _ (by show (S + 4 : Nat) ≠ S + 5; omega) hTO, h1.extBut hs.extBut (by show (S : Nat) ≠ S + 5; omega), h2.extBut hs.extBut (by show (S + 1 : Nat) ≠ S + 5; omega), h3.extBut hs.extBut (by show (S + 2 : Nat) ≠ S + 5; omega),
    hl1.extBut hs.extBut (by show (l1 : Nat) ≠ S + 5; omega), hl2.extBut hs.extBut (by show (l2 : Nat) ≠ S + 5; omega), hl3.extBut hs.extBut (by show (l3 : Nat) ≠ S + 5; omega), b1, b2, b3, hs.1.trans size,
    fun d o n1 n2 n3 n4 n5 e => hs.extBut _ _ n5 (old d o n1 n2 n3 n4 n5 e)⟩
theorem Z3.setO (Z : Z3 g S l1 l2 l3 xs ys zs f0 k1 k2 k3 a b c h) {a' b' c' : Value} (hn : Trip h' (S + 4) a' b' c') (hs : Heap.SameBut (S + 4) h h') : Z3 g S l1 l2 l3 xs ys zs f0 k1 k2 k3 a' b' c' h' := by
  obtain ⟨hz, hTI, hTO, h1, h2, h3, hl1, hl2, hl3, b1, b2, b3, size, old⟩ := Z
  exact ⟨hs.extBut _ _ (by show (S + 5 : Nat) ≠ S + 4; omega) hz, hs.extBut _ _ (by show (S + 3 : Nat) ≠ S + 4; omega) hTI, hn, h1.extBut hs.extBut (by show (S : Nat) ≠ S + 4; omega), h2.extBut hs.extBut (by show (S + 1 : Nat) ≠ S + 4; omega), h3.extBut hs.extBut (by show (S + 2 : Nat) ≠ S + 4; omega),
    hl1.extBut hs.extBut (by show (l1 : Nat) ≠ S + 4; omega), hl2.extBut hs.extBut (by show (l2 : Nat) ≠ S + 4; omega), hl3.extBut hs.extBut (by show (l3 : Nat) ≠ S + 4; omega), b1, b2, b3, hs.1.trans size,
    fun d o n1 n2 n3 n4 n5 e => hs.extBut _ _ n4 (old d o n1 n2 n3 n4 n5 e)⟩
theorem Z3.set1 (Z : Z3 g S l1 l2 l3 xs ys zs f0 k1 k2 k3 a b c h) {k : Nat} (hn : h'.IsListIter S l1 k) (hs : Heap.SameBut S h h') : Z3 g S l1 l2 l3 xs ys zs f0 k k2 k3 a b c h' := by
  obtain ⟨hz, hTI, hTO, h1, h2, h3, hl1, hl2, hl3, b1, b2, b3, size, old⟩ := Z
  exact ⟨hs.extBut _ _ (by show (S + 5 : Nat) ≠ S; omega) hz, hs.extBut _ _ (by show (S + 3 : Nat) ≠ S; omega) hTI, hs.extBut _ _ (by show (S + 4 : Nat) ≠ S; omega) hTO, hn, h2.extBut hs.extBut (by show (S + 1 : Nat) ≠ S; omega), h3.extBut hs.extBut (by show (S + 2 : Nat) ≠ S; omega),
    hl1.extBut hs.extBut (by show (l1 : Nat) ≠ S; omega), hl2.extBut hs.extBut (by show (l2 : Nat) ≠ S; omega), hl3.extBut hs.extBut (by show (l3 : Nat) ≠ S; omega), b1, b2, b3, hs.1.trans size,
    fun d o n1 n2 n3 n4 n5 e => hs.extBut _ _ n1 (old d o n1 n2 n3 n4 n5 e)⟩
theorem Z3.set2 (Z : Z3 g S l1 l2 l3 xs ys zs f0 k1 k2 k3 a b c h) {k : Nat} (hn : h'.IsListIter (S + 1) l2 k) (hs : Heap.SameBut (S + 1) h h') : Z3 g S l1 l2 l3 xs ys zs f0 k1 k k3 a b c h' := by
  obtain ⟨hz, hTI, hTO, h1, h2, h3, hl1, hl2, hl3, b1, b2, b3, size, old⟩ := Z
  exact ⟨hs.extBut _ _ (by show (S + 5 : Nat) ≠ S + 1; omega) hz, hs.extBut _ _ (by show (S + 3 : Nat) ≠ S + 1; omega) hTI, hs.extBut _ _ (by show (S + 4 : Nat) ≠ S + 1; omega) hTO, h1.extBut hs.extBut (by show (S : Nat) ≠ S + 1; omega), hn, h3.extBut hs.extBut (by show (S + 2 : Nat) ≠ S + 1; omega),
    hl1.extBut hs.extBut (by show (l1 : Nat) ≠ S + 1; omega), hl2.extBut hs.extBut (by show (l2 : Nat) ≠ S + 1; omega), hl3.extBut hs.extBut (by show (l3 : Nat) ≠ S + 1; omega), b1, b2, b3, hs.1.trans size,
    fun d o n1 n2 n3 n4 n5 e => hs.extBut _ _ n2 (old d o n1 n2 n3 n4 n5 e)⟩
theorem Z3.set3 (Z : Z3 g S l1 l2 l3 xs ys zs f0 k1 k2 k3 a b c h) {k : Nat} (hn : h'.IsListIter (S + 2) l3 k) (hs : Heap.SameBut (S + 2) h h') : Z3 g S l1 l2 l3 xs ys zs f0 k1 k2 k a b c h' := by
  obtain ⟨hz, hTI, hTO, h1, h2, h3, hl1, hl2, hl3, b1, b2, b3, size, old⟩ := Z
  exact ⟨hs.extBut _ _ (by show (S + 5 : Nat) ≠ S + 2; omega) hz, hs.extBut _ _ (by show (S + 3 : Nat) ≠ S + 2; omega) hTI, hs.extBut _ _ (by show (S + 4 : Nat) ≠ S + 2; omega) hTO, h1.extBut hs.extBut (by show (S : Nat) ≠ S + 2; omega), h2.extBut hs.extBut (by show (S + 1 : Nat) ≠ S + 2; omega), hn,
    hl1.extBut hs.extBut (by show (l1 : Nat) ≠ S + 2; omega), hl2.extBut hs.extBut (by show (l2 : Nat) ≠ S + 2; omega), hl3.extBut hs.extBut (by show (l3 : Nat) ≠ S + 2; omega), b1, b2, b3, hs.1.trans size,
    fun d o n1 n2 n3 n4 n5 e => hs.extBut _ _ n3 (old d o n1 n2 n3 n4 n5 e)⟩
end
section
variable {prog : Program} {w : World} {A : Around} {E : Value → Shared → Prop} {s : Shared} {S l1 l2 l3 : Nat} {xs ys zs : Array Value} {k : Nat} {a b c x y z : Value}
theorem update3 {T : Addr} {v : Value} {j : Nat} {Q : Unit → Shared → Prop} (hT : Trip s.heap T a b c)
    (h : ∀ h', h'.get? T = some { cls := .type "tuple", data := .seq ((#[a, b, c] : Array Value).setIfInBounds j v) } → Heap.SameBut T s.heap h' → Q () { s with heap := h' }) :
    wpAny (model prog w) A (updateSeq T (·.setIfInBounds j v)) Q E s := by
  refine wpAny_updateSeq hT rfl (h _ ?_ (Heap.SameBut.update ..))
  rw [Heap.get?_update_self _ hT rfl]
  simp [Obj.mapSeq]
theorem next3 {Q : Value → Shared → Prop} (Z : Z3 s.heap S l1 l2 l3 xs ys zs .none k k k a b c s.heap) (hx : xs[k]? = some x) (hy : ys[k]? = some y) (hz : zs[k]? = some z)
    (hQ : ∀ h₁ h', Z3 s.heap S l1 l2 l3 xs ys zs .ellipsis (k + 1) (k + 1) (k + 1) x y z h₁ → IsZip h' (S + 5) (S + 3) (S + 4) (rawInt s.heap.objs.size) → Trip h' s.heap.objs.size x y z → (∀ (d : Nat) o, d ≠ S + 5 → h₁.get? d = some o → h'.get? d = some o) → Q (.ref s.heap.objs.size) { s with heap := h' }) :
    wpAny (model prog w) A (Builtin.«zip.__next__» ⟨[.ref (S + 5)], []⟩) (fun fin s' => ∃ v, fin = .done (.ret v) ∧ Q v s') E s := by
  show wpAny _ _ (field (.ref (S + 5)) 2 >>= _) _ _ _
  refine wpAny_bind (wpAny_field Z.hz rfl (x := .bool false) rfl ?_)
  show wpAny _ _ (field (.ref (S + 5)) 3 >>= _) _ _ _
  refine wpAny_bind (wpAny_field Z.hz rfl (x := .ref (S + 3)) rfl ?_)
  refine wpAny_bind (wpAny_seqItems Z.hTI rfl ?_)
  show wpAny _ _ (Builtin.SmallTypes.ownedTupleIsFree (.ref (S + 5)) >>= _) _ _ _
  refine wpAny_bind ?_
  unfold Builtin.SmallTypes.ownedTupleIsFree
  refine wpAny_bind (wpAny_field Z.hz rfl (x := .none) rfl (wpAny_pure ?_))
  simp only [if_true]
  refine wpAny_bind (wpAny_rule ?_)
  refine wpAny_bind (wpAny_field Z.hz rfl (x := .ref (S + 4)) rfl ?_)
  refine wpAny_bind (wpAny_setField_rec Z.hz (by simp) fun h₁ hz₁ hs₁ => ?_)
  have Z₁ : Z3 s.heap S l1 l2 l3 xs ys zs .ellipsis k k k a b c h₁ := Z.setF hz₁ hs₁
  refine wpAny_bind ?_
  simp only [List.zipIdx_cons, List.zipIdx_nil, List.forIn_cons, List.forIn_nil]
  refine wpAny_bind (wpAny_bind (wpAny_onRaise ?_))
  show wpAny _ _ (Builtin.SmallTypes.nextOf (.ref S) >>= _) _ _ _
  refine wpAny_bind (wpAny_nextOf_list_item Z₁.h1 Z₁.hl1 hx fun h₂ hn₂ hs₂ => wpAny_pure ?_)
  have Z₂ := Z₁.set1 hn₂ hs₂
  refine wpAny_bind (wpAny_seqItems Z₂.hTO rfl ?_)
  refine wpAny_bind (update3 Z₂.hTO fun h₃ hn₃ hs₃ => ?_)
  have Z₃ := Z₂.setO (a' := x) (b' := b) (c' := c) hn₃ hs₃
  refine wpAny_bind (wpAny_letGo (wpAny_pure ?_))
  refine wpAny_bind (wpAny_bind (wpAny_onRaise ?_))
  show wpAny _ _ (Builtin.SmallTypes.nextOf (.ref (S + 1)) >>= _) _ _ _
  refine wpAny_bind (wpAny_nextOf_list_item Z₃.h2 Z₃.hl2 hy fun h₄ hn₄ hs₄ => wpAny_pure ?_)
  have Z₄ := Z₃.set2 hn₄ hs₄
  refine wpAny_bind (wpAny_seqItems Z₄.hTO rfl ?_)
  refine wpAny_bind (update3 Z₄.hTO fun h₅ hn₅ hs₅ => ?_)
  have Z₅ := Z₄.setO (a' := x) (b' := y) (c' := c) hn₅ hs₅
  refine wpAny_bind (wpAny_letGo (wpAny_pure ?_))
  refine wpAny_bind (wpAny_bind (wpAny_onRaise ?_))
  show wpAny _ _ (Builtin.SmallTypes.nextOf (.ref (S + 2)) >>= _) _ _ _
  refine wpAny_bind (wpAny_nextOf_list_item Z₅.h3 Z₅.hl3 hz fun h₆ hn₆ hs₆ => wpAny_pure ?_)
  have Z₆ := Z₅.set3 hn₆ hs₆
  refine wpAny_bind (wpAny_seqItems Z₆.hTO rfl ?_)
  refine wpAny_bind (update3 Z₆.hTO fun h₇ hn₇ hs₇ => ?_)
  have Z₇ := Z₆.setO (a' := x) (b' := y) (c' := z) hn₇ hs₇
  refine wpAny_bind (wpAny_letGo (wpAny_pure (wpAny_pure ?_)))
  refine wpAny_bind (wpAny_seqItems Z₇.hTO rfl ?_)
  refine wpAny_bind (wpAny_newTuple ?_)
  have hzlt : S + 5 < h₇.objs.size := Heap.lt_size Z₇.hz
  show wpAny _ _ (Builtin.SmallTypes.ownedTupleHandOut (.ref (S + 5)) (.ref h₇.objs.size) >>= _) _ _ _
  refine wpAny_bind ?_
  unfold Builtin.SmallTypes.ownedTupleHandOut
  have hz₈ : IsZip (h₇.push { cls := .type "tuple", data := .seq #[x, y, z] }) (S + 5) (S + 3) (S + 4) .ellipsis := Heap.get?_push_of_some _ Z₇.hz
  refine wpAny_bind (wpAny_setField_rec hz₈ (by simp) fun h₉ hz₉ hs₉ => ?_)
  replace hz₉ : IsZip h₉ (S + 5) (S + 3) (S + 4) (rawInt h₇.objs.size) := hz₉
  refine wpAny_setField_rec hz₉ (by simp) fun h₀ hz₀ hs₀ => ?_
  replace hz₀ : IsZip h₀ (S + 5) (S + 3) (S + 4) (rawInt h₇.objs.size) := hz₀
  have hT : Trip h₀ h₇.objs.size x y z := hs₀.extBut _ _ (Nat.ne_of_gt hzlt) (hs₉.extBut _ _ (Nat.ne_of_gt hzlt) (Heap.get?_push_size _ rfl))
  refine wpAny_pure ⟨_, rfl, ?_⟩
  have e := Z₇.size
  show Q (.ref h₇.objs.size) _
  rw [e]
  rw [e] at hz₀ hT
  exact hQ h₇ h₀ Z₇ hz₀ hT fun d o n1 e => hs₀.extBut _ _ n1 (hs₉.extBut _ _ n1 (Heap.get?_push_of_some _ e))
theorem end3 {Q : Fin → Shared → Prop} (hh : A.handled = none) (Z : Z3 s.heap S l1 l2 l3 xs ys zs .none k k k a b c s.heap) (hx : xs[k]? = none)
    (hE : ∀ h' e, (∀ (d : Nat) o, d ≠ S → d ≠ S + 5 → s.heap.get? d = some o → h'.get? d = some o) → (∃ o, h'.get? e = some o ∧ o.cls = .type "StopIteration") → E (.ref e) { s with heap := h' }) :
    wpAny (model prog w) A (Builtin.«zip.__next__» ⟨[.ref (S + 5)], []⟩) Q E s := by
  show wpAny _ _ (field (.ref (S + 5)) 2 >>= _) _ _ _
  refine wpAny_bind (wpAny_field Z.hz rfl (x := .bool false) rfl ?_)
  show wpAny _ _ (field (.ref (S + 5)) 3 >>= _) _ _ _
  refine wpAny_bind (wpAny_field Z.hz rfl (x := .ref (S + 3)) rfl ?_)
  refine wpAny_bind (wpAny_seqItems Z.hTI rfl ?_)
  show wpAny _ _ (Builtin.SmallTypes.ownedTupleIsFree (.ref (S + 5)) >>= _) _ _ _
  refine wpAny_bind ?_
  unfold Builtin.SmallTypes.ownedTupleIsFree
  refine wpAny_bind (wpAny_field Z.hz rfl (x := .none) rfl (wpAny_pure ?_))
  simp only [if_true]
  refine wpAny_bind (wpAny_rule ?_)
  refine wpAny_bind (wpAny_field Z.hz rfl (x := .ref (S + 4)) rfl ?_)
  refine wpAny_bind (wpAny_setField_rec Z.hz (by simp) fun h₁ hz₁ hs₁ => ?_)
  have Z₁ : Z3 s.heap S l1 l2 l3 xs ys zs .ellipsis k k k a b c h₁ := Z.setF hz₁ hs₁
  refine wpAny_bind ?_
  simp only [List.zipIdx_cons, List.zipIdx_nil, List.forIn_cons, List.forIn_nil]
  refine wpAny_bind (wpAny_bind (wpAny_onRaise ?_))
  show wpAny _ _ (Builtin.SmallTypes.nextOf (.ref S) >>= _) _ _ _
  refine wpAny_bind (wpAny_nextOf_list_end hh Z₁.h1 Z₁.hl1 hx fun h₂ e hs₂ he => ?_)
  obtain ⟨oe, hoe, hce⟩ := he
  have hz₂ : IsZip h₂ (S + 5) (S + 3) (S + 4) .ellipsis := hs₂ _ _ (by show (S + 5 : Nat) ≠ S; omega) Z₁.hz
  have hez : e ≠ S + 5 := fun q => by subst q; rw [hz₂] at hoe; cases hoe; simp at hce
  exact wpAny_setField_rec hz₂ (by simp) fun h₃ _ hs₃ => hE h₃ e (fun d o c1 c5 q => hs₃.extBut _ _ c5 (hs₂ _ _ c1 (hs₁.extBut _ _ c5 q))) ⟨oe, hs₃.extBut _ _ hez hoe, hce⟩
end
end Mine
end
section
open PySem PySem.W PyProof.Rows PySem.Calls
set_option maxRecDepth 100000
set_option maxHeartbeats 8000000
namespace Mine
section
variable {g h h' : Heap} {S l1 l2 l3 : Nat} {xs ys zs : Array Value} {f0 : Value} {k1 k2 k3 : Nat} {a b c : Value}
theorem Z3.moved (Z : Z3 g S l1 l2 l3 xs ys zs f0 k1 k2 k3 a b c h) {f : Value} (hz' : IsZip h' (S + 5) (S + 3) (S + 4) f)
    (keep : ∀ (d : Nat) o, d = S ∨ d = S + 1 ∨ d = S + 2 ∨ d = S + 3 ∨ d = S + 4 ∨ d = l1 ∨ d = l2 ∨ d = l3 → h.get? d = some o → h'.get? d = some o) : Z3 h' S l1 l2 l3 xs ys zs f k1 k2 k3 a b c h' := by
  obtain ⟨hz, hTI, hTO, h1, h2, h3, hl1, hl2, hl3, b1, b2, b3, size, old⟩ := Z
  exact ⟨hz', keep _ _ (by simp) hTI, keep _ _ (by simp) hTO, h1.at fun o e => keep _ _ (by simp) e, h2.at fun o e => keep _ _ (by simp) e, h3.at fun o e => keep _ _ (by simp) e,
    hl1.at fun o e => keep _ _ (by simp) e, hl2.at fun o e => keep _ _ (by simp) e, hl3.at fun o e => keep _ _ (by simp) e, b1, b2, b3, rfl, fun _ _ _ _ _ _ _ e => e⟩
end
section
variable {prog : Program} {w : World} {A : Around} {E : Value → Shared → Prop} {s : Shared} {env : Env} {h₀ : Heap} {body : List Stmt}
theorem loop_zip3 {R : Result → Shared → Prop} {x1 x2 x3 : Str} {p1 p2 p3 tp : Pos} {kk : Nat} {S l1 l2 l3 : Nat} {xs ys zs : Array Value} {n : Nat} {a b c : Value} {o1 o2 o3 : Obj} {m : Str → Option Value} {need : List (Addr × Obj)} {J : (Str → Option Value) → Prop}
    (hh : A.handled = none) (hx1 : env.kindOf x1 = some .local) (hx2 : env.kindOf x2 = some .local) (hx3 : env.kindOf x3 = some .local)
    (hp : (env.scope.kind == .class || (env.scope.kind == .module && env.locals != env.globals)) = false)
    (Z : Z3 s.heap S l1 l2 l3 xs ys zs .none 0 0 0 a b c s.heap) (n1 : xs.size = n) (n2 : ys.size = n) (n3 : zs.size = n) (hS0 : ∀ d : Nat, S ≤ d → h₀.get? d = none) (hL : @LT.lt Nat _ env.locals S)
    (F : Fr h₀ env.locals s.heap m) (N : News h₀ env.locals s.heap need) (hlt : ∀ p ∈ need, @LT.lt Nat _ p.1 S) (m1 : (l1, o1) ∈ need) (m2 : (l2, o2) ∈ need) (m3 : (l3, o3) ∈ need) (hJ : J m)
    (turn : ∀ (i : Nat) v1 v2 v3 m₁ h tk own, xs[i]? = some v1 → ys[i]? = some v2 → zs[i]? = some v3 → J m₁ → Fr h₀ env.locals h (fun y => if y = x3 then some v3 else if y = x2 then some v2 else if y = x1 then some v1 else m₁ y) → News h₀ env.locals h (own ++ need) →
      wpAny (model prog w) A (execs body env) (TMid h₀ env.locals (own ++ need) J { s with heap := h, toks := tk }) (fun _ _ => False) { s with heap := h, toks := tk })
    (done : ∀ h tk m₁, J m₁ → Fr h₀ env.locals h m₁ → News h₀ env.locals h need → R (.ok .next) { s with heap := h, toks := tk }) :
    codeAny (model prog w) A (.forLoop (.Tuple [.Name x1 p1, .Name x2 p2, .Name x3 p3] kk tp) (.ref (S + 5)) body [] env) R s := by
  refine codeAny_forLoop_any
    (fun k s' => ∃ h' tk m' i a b c, s' = { s with heap := h', toks := tk } ∧ Z3 h' S l1 l2 l3 xs ys zs .none i i i a b c h' ∧ Fr h₀ env.locals h' m' ∧ News h₀ env.locals h' need ∧ J m' ∧ i ≤ n ∧ k = n + 1 - i) ?_ (n + 1)
    ⟨s.heap, s.toks, m, 0, a, b, c, rfl, Z, F, N, hJ, Nat.zero_le _, rfl⟩
  rintro k s' ⟨h', tk, m', i, a, b, c, rfl, Z, F, N, hJ, hi, rfl⟩
  have hT : Shared.TypeIs { s with heap := h', toks := tk } (.ref (S + 5)) "zip" := ⟨_, Z.hz, rfl⟩
  by_cases hlt' : i < n
  · obtain ⟨v1, e1⟩ : ∃ v, xs[i]? = some v := ⟨_, Array.getElem?_eq_getElem (by omega)⟩
    obtain ⟨v2, e2⟩ : ∃ v, ys[i]? = some v := ⟨_, Array.getElem?_eq_getElem (by omega)⟩
    obtain ⟨v3, e3⟩ : ∃ v, zs[i]? = some v := ⟨_, Array.getElem?_eq_getElem (by omega)⟩
    unfold pyNext
    refine wpAny_bind (wpAny_attempt (wpAny_callSpecial?_slot (name := Str.ofString "__next__") hT PySem.F.slot_zip_next (wpAny_call_entry PySem.F.slot_zip_next hT PySem.F.entry_zip_next
      (next3 Z e1 e2 e3 fun h₁ h₂ Z₁ hz₂ hT₂ k₂ => wpAny_pure ?_) (PySem.F.args_zip_next_1 _))))
    dsimp only
    refine wpAny_letOwnedTupleGo_zip hz₂ fun h₃ hz₃ hs₃ => ?_
    have hTne : h'.objs.size ≠ S + 5 := Nat.ne_of_gt (Heap.lt_size Z.hz)
    have hTup : Heap.IsTuple h₃ h'.objs.size #[v1, v2, v3] := ⟨_, hs₃.extBut _ _ hTne hT₂, rfl, _, rfl⟩
    refine wpAny_assign_Tuple hh hTup rfl rfl fun h₄ hx₄ => ?_
    have k₄ : ∀ (d : Nat) o, d ≠ S + 5 → h₁.get? d = some o → h₄.get? d = some o := fun d o ne e => by
      have q := hs₃.extBut _ _ ne (k₂ d o ne e)
      exact hx₄ d o (Nat.ne_of_lt (Heap.lt_size q)) q
    have hz₄ : IsZip h₄ (S + 5) (S + 3) (S + 4) .none := hx₄ _ _ (Nat.ne_of_lt (Heap.lt_size hz₃)) hz₃
    have k₀ : ∀ (d : Nat) o, d ≠ S → d ≠ S + 1 → d ≠ S + 2 → d ≠ S + 4 → d ≠ S + 5 → h'.get? d = some o → h₄.get? d = some o := fun d o n1 n2 n3 n4 n5 e => k₄ d o n5 (Z₁.old d o n1 n2 n3 n4 n5 e)
    have hLS : @LT.lt Nat _ env.locals S := hL
    have F₄ : Fr h₀ env.locals h₄ m' := ⟨F.ns.at' fun o e => k₀ _ o (by omega) (by omega) (by omega) (by omega) (by omega) e, fun d o e => by
      have lt : @LT.lt Nat _ d S := Nat.lt_of_not_le fun q => by rw [hS0 d q] at e; cases e
      exact k₀ d o (by omega) (by omega) (by omega) (by omega) (by omega) (F.keep d o e), F.above⟩
    have N₄ : News h₀ env.locals h₄ need := fun p hp => by
      have lt := hlt p hp
      exact ⟨k₀ p.1 p.2 (by omega) (by omega) (by omega) (by omega) (by omega) (N p hp).1, (N p hp).2⟩
    refine wpAny_assignInOrder_more (wpAny_assign_Name (wpAny_storeName_local hx1 F₄.ns (fun h₅ hn₅ hs₅ => ?_) hp))
    have F₅ := F₄.set hn₅ hs₅
    have N₅ := N₄.set hs₅
    refine wpAny_assignInOrder_more (wpAny_assign_Name (wpAny_storeName_local hx2 F₅.ns (fun h₆ hn₆ hs₆ => ?_) hp))
    have F₆ := F₅.set hn₆ hs₆
    have N₆ := N₅.set hs₆
    refine wpAny_assignInOrder_more (wpAny_assign_Name (wpAny_storeName_local hx3 F₆.ns (fun h₇ hn₇ hs₇ => ?_) hp))
    have F₇ := F₆.set hn₇ hs₇
    have N₇ := N₆.set hs₇
    refine wpAny_assignInOrder_none ?_
    have up : ∀ (d : Nat) o, d ≠ env.locals → h₄.get? d = some o → h₇.get? d = some o := fun d o ne e => (hs₇.2 d ne).trans ((hs₆.2 d ne).trans ((hs₅.2 d ne).trans e))
    have Z₇ : Z3 h₇ S l1 l2 l3 xs ys zs .none (i + 1) (i + 1) (i + 1) v1 v2 v3 h₇ := Z₁.moved (up _ _ (by omega) hz₄) fun d o hd e => by
      have b1 := hlt _ m1
      have b2 := hlt _ m2
      have b3 := hlt _ m3
      have c1 : l1 ≠ env.locals := (N _ m1).2.1
      have c2 : l2 ≠ env.locals := (N _ m2).2.1
      have c3 : l3 ≠ env.locals := (N _ m3).2.1
      dsimp only at b1 b2 b3
      exact up d o (by rcases hd with q | q | q | q | q | q | q | q <;> subst q <;> first | assumption | omega) (k₄ d o (by omega) e)
    obtain ⟨q1, i1, _⟩ := id Z₇.h1
    obtain ⟨q2, i2, _⟩ := id Z₇.h2
    obtain ⟨q3, i3, _⟩ := id Z₇.h3
    obtain ⟨q4, i4⟩ : ∃ o, h₇.get? (S + 3 : Nat) = some o := ⟨_, Z₇.hTI⟩
    obtain ⟨q5, i5⟩ : ∃ o, h₇.get? (S + 4 : Nat) = some o := ⟨_, Z₇.hTO⟩
    obtain ⟨q6, i6⟩ : ∃ o, h₇.get? (S + 5 : Nat) = some o := ⟨_, Z₇.hz⟩
    have N₈ : News h₀ env.locals h₇ ([((S : Addr), q1), ((S + 1 : Nat), q2), ((S + 2 : Nat), q3), ((S + 3 : Nat), q4), ((S + 4 : Nat), q5), ((S + 5 : Nat), q6)] ++ need) := by
      intro p hp
      rcases List.mem_append.mp hp with hp | hp
      · simp only [List.mem_cons, List.not_mem_nil, or_false] at hp
        rcases hp with rfl | rfl | rfl | rfl | rfl | rfl
        · exact ⟨i1, (by show (S : Nat) ≠ env.locals; omega), hS0 _ (by omega)⟩
        · exact ⟨i2, (by show (S + 1 : Nat) ≠ env.locals; omega), hS0 _ (by omega)⟩
        · exact ⟨i3, (by show (S + 2 : Nat) ≠ env.locals; omega), hS0 _ (by omega)⟩
        · exact ⟨i4, (by show (S + 3 : Nat) ≠ env.locals; omega), hS0 _ (by omega)⟩
        · exact ⟨i5, (by show (S + 4 : Nat) ≠ env.locals; omega), hS0 _ (by omega)⟩
        · exact ⟨i6, (by show (S + 5 : Nat) ≠ env.locals; omega), hS0 _ (by omega)⟩
      · exact N₇ p hp
    refine wpAny_mono (turn i v1 v2 v3 m' h₇ _ _ e1 e2 e3 hJ F₇ N₈) (fun f s₃ h₃ => ?_) fun _ _ e => e.elim
    obtain ⟨rfl, h₉, tk₉, m₉, news₉, rfl, F₉, N₉, hn₉, hJ₉⟩ := h₃
    refine ⟨n + 1 - (i + 1), by omega, h₉, tk₉, m₉, i + 1, v1, v2, v3, rfl, ?_, F₉, fun p hp => N₉ p (hn₉ p (List.mem_append_right _ hp)), hJ₉, hlt', rfl⟩
    have own : ∀ (d : Nat) o o', (d, o') ∈ news₉ → (d, o') ∈ ([((S : Addr), q1), ((S + 1 : Nat), q2), ((S + 2 : Nat), q3), ((S + 3 : Nat), q4), ((S + 4 : Nat), q5), ((S + 5 : Nat), q6)] ++ need) → h₇.get? d = some o → h₉.get? d = some o := fun d o o' hm hm2 e => by
      have e2 := (N₈ _ hm2).1
      rw [e] at e2; cases e2
      exact (N₉ _ hm).1
    refine Z₇.moved (own _ _ q6 (hn₉ _ (by simp)) (by simp) Z₇.hz) fun d o hd e => ?_
    rcases hd with q | q | q | q | q | q | q | q <;> subst q
    · exact own _ o q1 (hn₉ _ (by simp)) (by simp) e
    · exact own _ o q2 (hn₉ _ (by simp)) (by simp) e
    · exact own _ o q3 (hn₉ _ (by simp)) (by simp) e
    · exact own _ o q4 (hn₉ _ (by simp)) (by simp) e
    · exact own _ o q5 (hn₉ _ (by simp)) (by simp) e
    · exact own _ o o1 (hn₉ _ (List.mem_append_right _ m1)) (List.mem_append_right _ m1) e
    · exact own _ o o2 (hn₉ _ (List.mem_append_right _ m2)) (List.mem_append_right _ m2) e
    · exact own _ o o3 (hn₉ _ (List.mem_append_right _ m3)) (List.mem_append_right _ m3) e
  · have hin : i = n := by omega
    subst hin
    have hend : xs[i]? = none := Array.getElem?_eq_none (by omega)
    unfold pyNext
    refine wpAny_bind (wpAny_attempt (wpAny_callSpecial?_slot (name := Str.ofString "__next__") hT PySem.F.slot_zip_next
      (wpAny_call_entry PySem.F.slot_zip_next hT PySem.F.entry_zip_next (end3 hh Z hend fun h₂ e hk he => ?_) (PySem.F.args_zip_next_1 _))))
    obtain ⟨o, ho, hc⟩ := he
    refine wpAny_bind (wpAny_isInstance (T := "StopIteration") (b := true) ⟨o, ho, hc⟩ isSubtype_stop ?_)
    refine wpAny_pure (wpAny_execs_nil ?_)
    have F₂ : Fr h₀ env.locals h₂ m' := ⟨F.ns.at' fun o e => hk _ o (by omega) (by omega) e, fun d o e => by
      have lt : @LT.lt Nat _ d S := Nat.lt_of_not_le fun q => by rw [hS0 d q] at e; cases e
      exact hk d o (by omega) (by omega) (F.keep d o e), F.above⟩
    exact done h₂ _ m' hJ F₂ fun p hp => by
      have lt := hlt p hp
      exact ⟨hk p.1 p.2 (by omega) (by omega) (N p hp).1, (N p hp).2⟩
end
end Mine
end
section
open PySem PySem.W PyProof.Rows PySem.Calls
set_option maxRecDepth 100000
set_option maxHeartbeats 8000000
namespace Mine
local macro_rules | `(tactic| walk_at "none0") => `(tactic| fail)
local macro_rules | `(tactic| walk_at "none1") => `(tactic| fail)
local macro_rules | `(tactic| walk_at "none2") => `(tactic| fail)
local macro_rules | `(tactic| walk_at "none3") => `(tactic| fail)
local macro_rules | `(tactic| walk_at "none4") => `(tactic| fail)
local macro_rules | `(tactic| walk_at "none5") => `(tactic| fail)
local macro_rules | `(tactic| walk_at "none6") => `(tactic| fail)
local macro_rules | `(tactic| walk_at "none7") => `(tactic| fail)
local macro_rules | `(tactic| walk_at "none8") => `(tactic| fail)
local macro_rules | `(tactic| walk_at "none9") => `(tactic| fail)
local macro_rules | `(tactic| walk_at "none10") => `(tactic| fail)
local macro_rules | `(tactic| walk_at "none11") => `(tactic| fail)
theorem typeCall3 (a b c : Value) : checkTypeCall "zip" ⟨[a, b, c], []⟩ = pure () := by kernel_rfl
theorem newCall3 (a b c : Value) : checkBuiltinCall "zip.__new__" ⟨[.type "zip", a, b, c], []⟩ = pure () := by kernel_rfl
theorem argsInit4 (a b c d : Value) : argsOk "object.__init__" ⟨[a, b, c, d], []⟩ := by
  unfold argsOk; rw [signature?_of (id := "object.__init__") (n := ['_', '_', 't', 'i', 'n', 'i', '_', '_']) (o := ['t', 'c', 'e', 'j', 'b', 'o']) (by kernel_rfl) PySem.F.owner_object]; kernel_rfl
abbrev zh1 (h : Heap) (l1 : Addr) : Heap := h.push { cls := .type "list_iterator", data := .fields #[.ref l1, .int 0 0] }
abbrev zh4 (h : Heap) (l1 l2 l3 : Addr) : Heap := (zh1 (zh1 (zh1 h l1) l2) l3).push { cls := .type "tuple", data := .seq #[.ref h.objs.size, .ref (zh1 h l1).objs.size, .ref (zh1 (zh1 h l1) l2).objs.size] }
abbrev zh5 (h : Heap) (l1 l2 l3 : Addr) : Heap := (zh4 h l1 l2 l3).push { cls := .type "tuple", data := .seq #[.none, .none, .none] }
abbrev zh6 (h : Heap) (l1 l2 l3 : Addr) : Heap := (zh5 h l1 l2 l3).push { cls := .type "zip", data := .fields #[.none, .bool false, .bool false, .ref (zh1 (zh1 (zh1 h l1) l2) l3).objs.size, .ref (zh4 h l1 l2 l3).objs.size] }
theorem meets3 (l1 l2 l3 : Addr) (xs ys zs : Array Value) :
    Meets (Builtin.«zip.__new__» ⟨[.type "zip", .ref l1, .ref l2, .ref l3], []⟩) (fun _ R s => s.heap.IsList l1 xs ∧ s.heap.IsList l2 ys ∧ s.heap.IsList l3 zs ∧
      R (.ok (.ret (.ref (zh5 s.heap l1 l2 l3).objs.size))) { s with heap := zh6 s.heap l1 l2 l3 }) :=
  .of_wp fun prog w A R s h => by
    obtain ⟨hp, g, d, tk, os⟩ := s; obtain ⟨hl1, hl2, hl3, h⟩ := h
    have hsub := sub_zip
    have hL1 : Heap.IsList (Shared.heap ⟨hp, g, d, tk, os⟩) l1 xs := hl1
    have hL2 : Heap.IsList (Shared.heap ⟨zh1 hp l1, g, d, tk, os⟩) l2 ys := Heap.IsList.push hl2 _
    have hL3 : Heap.IsList (Shared.heap ⟨zh1 (zh1 hp l1) l2, g, d, tk, os⟩) l3 zs := Heap.IsList.push (Heap.IsList.push hl3 _) _
    wp_walk using wpAny_pyIter_list hL1, wpAny_pyIter_list hL2, wpAny_pyIter_list hL3
    exact ⟨_, rfl, h⟩
section
variable {prog : Program} {w : World} {A : Around} {E : Value → Shared → Prop} {s : Shared}
theorem call_zip3 {l1 l2 l3 : Nat} {xs ys zs : Array Value} {Q : Value → Shared → Prop} (hl1 : s.heap.IsList l1 xs) (hl2 : s.heap.IsList l2 ys) (hl3 : s.heap.IsList l3 zs)
    (h : ∀ h', Z3 h' s.heap.objs.size l1 l2 l3 xs ys zs .none 0 0 0 .none .none .none h' → (∀ c o, s.heap.get? c = some o → h'.get? c = some o) → Q (.ref (s.heap.objs.size + 5)) { s with heap := h' }) :
    wpAny (model prog w) A (call (.type "zip") [.ref l1, .ref l2, .ref l3]) Q E s := by
  refine callType_new PySem.F.called_zip (by decide) (typeCall3 _ _ _) (newCall3 _ _ _) (fun obj => argsInit4 obj _ _ _) PySem.F.entry_zip_new
    (meets3 l1 l2 l3 xs ys zs) ⟨hl1, hl2, hl3, ?_⟩
  have z1 : (zh1 s.heap l1).objs.size = s.heap.objs.size + 1 := Heap.size_push ..
  have z2 : (zh1 (zh1 s.heap l1) l2).objs.size = s.heap.objs.size + 2 := by rw [Heap.size_push, z1]
  have z3 : (zh1 (zh1 (zh1 s.heap l1) l2) l3).objs.size = s.heap.objs.size + 3 := by rw [Heap.size_push, z2]
  have z4 : (zh4 s.heap l1 l2 l3).objs.size = s.heap.objs.size + 4 := by rw [Heap.size_push, z3]
  have z5 : (zh5 s.heap l1 l2 l3).objs.size = s.heap.objs.size + 5 := by rw [Heap.size_push, z4]
  have p : ∀ {h : Heap} {c : Addr} {o o' : Obj}, h.get? c = some o → (h.push o').get? c = some o := fun e => Heap.get?_push_of_some _ e
  have g6 : (zh6 s.heap l1 l2 l3).get? (zh5 s.heap l1 l2 l3).objs.size = some _ := Heap.get?_push_size _ rfl
  have g5 : (zh6 s.heap l1 l2 l3).get? (zh4 s.heap l1 l2 l3).objs.size = some _ := p (Heap.get?_push_size _ rfl)
  have g4 : (zh6 s.heap l1 l2 l3).get? (zh1 (zh1 (zh1 s.heap l1) l2) l3).objs.size = some _ := p (p (Heap.get?_push_size _ rfl))
  have g3 : (zh6 s.heap l1 l2 l3).get? (zh1 (zh1 s.heap l1) l2).objs.size = some _ := p (p (p (Heap.get?_push_size _ rfl)))
  have g2 : (zh6 s.heap l1 l2 l3).get? (zh1 s.heap l1).objs.size = some _ := p (p (p (p (Heap.get?_push_size _ rfl))))
  have g1 : (zh6 s.heap l1 l2 l3).get? s.heap.objs.size = some _ := p (p (p (p (p (Heap.get?_push_size _ rfl)))))
  have up : ∀ c o, s.heap.get? c = some o → (zh6 s.heap l1 l2 l3).get? c = some o := fun c o x => p (p (p (p (p (p x)))))
  show _ ∧ _
  rw [z5] at g6 ⊢
  rw [z3, z4] at g6
  rw [z4] at g5
  rw [z3, z1, z2] at g4
  rw [z2] at g3
  rw [z1] at g2
  exact ⟨⟨_, g6, rfl⟩, h _ ⟨g6, g4, g5, ⟨_, g1, rfl, rfl⟩, ⟨_, g2, rfl, rfl⟩, ⟨_, g3, rfl, rfl⟩, hl1.at fun o e => up _ o e, hl2.at fun o e => up _ o e, hl3.at fun o e => up _ o e,
    (by obtain ⟨_, e, _⟩ := hl1; exact Heap.lt_size e), (by obtain ⟨_, e, _⟩ := hl2; exact Heap.lt_size e), (by obtain ⟨_, e, _⟩ := hl3; exact Heap.lt_size e), rfl, fun _ _ _ _ _ _ _ e => e⟩ up⟩
end
end Mine
end
section
open PySem PySem.W PyProof.Rows PySem.Calls
set_option maxRecDepth 100000
set_option maxHeartbeats 2000000
namespace Mine
noncomputable section
abbrev vars3 (lt lf ls r y : Addr) (z : Int) (tz : Tok) : List (Str × Value) := [(Str.ofString "one", .ref y), (Str.ofString "size", .int z tz), (Str.ofString "what", .ref r), (Str.ofString "told", .ref lt), (Str.ofString "fixed", .ref lf), (Str.ofString "sizes", .ref ls)]
theorem tb_callA {prog : Program} {w : World} {A : Around} {E : Value → Shared → Prop} {s : Shared} {x l : Int} {k : Nat} {t u v : Tok} {arr : Array UInt8} {Q : Value → Shared → Prop} (hb : be k x = arr) (hl : l = (k : Int)) (hk : k ≤ 8) (h0 : 0 ≤ x) (h1 : x < 256 ^ k) (h : ∀ t' k', Q (.bytes arr t') { s with toks := k' }) :
    wpAny (model prog w) A (call (.builtin "int.to_bytes") [.int x t, .int l u, .str (PySem.Str.ofString "big") v]) Q E s := by
  subst hb; exact tb_call hl hk h0 h1 h
theorem mark_T3a : Mark PySem.Challenge.rw_bi0018_01 hd.heap_39 := by
  k_fill
  trivial
local macro_rules | `(tactic| k_room) => `(tactic| ktr_room)
local macro_rules | `(tactic| k_mem) => `(tactic| (k_dflt assumption))
local macro_rules | `(tactic| walk_at "compareOp NotEq ref ref") => `(tactic| (k_here; k_dflt (refine' ne_one ?N ?ma ?mb ?hu ?he ?_; (case N => k_asm); (case ma => k_mem); (case mb => k_mem); (case hu => assumption); (case he => first | exact SeqAt.EqAt.same _ | exact at_bytes_same _ _ _ | exact at_str_same _ _ _ | exact at_int_same _ _ _ | exact at_bytes_str _ _ _ _ | exact at_to_from _ _))))
local macro_rules | `(tactic| walk_at "call builtin:int.to_bytes") => `(tactic| (k_here; k_dflt (refine' tb_callA ?hb ?hl ?hk ?h0 ?h1 ?_; (case hb => assumption); (case hl => omega); (case hk => omega); (case h0 => assumption); (case h1 => assumption)); intro t' k'))
theorem t3a {w : World} {mean : ExcName → Option Value} {mg mb : Str → Option Value} {dp un : Nat} {gd : Option (List Code)} {L a : Addr} {ccd : Value} {c1 c2 : Addr} {A₀ : Around} {base h₀ : Heap} {m : Str → Option Value} {s : Shared} {news : List (Addr × Obj)}
    {lt lf ls r y d : Addr} {z n k1 : Int} {tz s1 tn q tz' : Tok} {oc : Obj} {arr : Array UInt8} {k0 : Int} {ks : List Int}
    (B : Below A₀ base [] h₀) (F₀ : Fr h₀ L s.heap m) (X : (hd.heap_39 w.params).In h₀) (XB : (hd.heap_39 w.params).In base) (N : News h₀ L s.heap news) (T : Top hd.view_39 LO mean mg mb h₀) (TB : Top hd.view_39 LO mean mg mb base) (hdp : dp + 40 < recursionLimit) (hun : un < cLine)
    (hJ : VJ (vars3 lt lf ls r y z tz') m) (hc : (c2, oc) ∈ news) (hoc : oc.data = .cell (some (.int n tn)))
    (hy : (y, instObj 179 d) ∈ news) (hd : (d, dictOf [⟨k1, .str "length" s1, .int z tz⟩] 1) ∈ news) (g1 : 1 ≤ z) (g2 : z ≤ 6)
    (hr : (r, listOf #[.bytes arr q] 0) ∈ news) (h0 : 0 ≤ n) (h1 : n < 256 ^ z.toNat) (harr : be z.toNat n = arr) (hsz : (arr.size : Int) = z) (hks : KBw.bInts arr = k0 :: ks) (hkl : (ks.length : Int) + 1 = z) (hv : KFB.value (KBw.bInts arr) = n)
    : wpAny (model PG w) (ktrTop dp un gd "law" lawScope L a ccd (lawCl c1 c2) []) (execs (turn3.take 1) (envX "law" lawScope L a ccd (lawCl c1 c2))) (TMid h₀ L news (VJ (vars3 lt lf ls r y z tz')) s) (fun _ _ => False) s := by
  have hm := mark_T3a
  have F := F₀
  rw [← vlook_eq hJ] at F
  clear F₀
  generalize hcs : lawScope = cs
  conv at hcs => lhs; whnf
  generalize hb : turn3 = body
  conv at hb => lhs; whnf
  subst hcs hb
  simp only [List.take_succ_cons, List.take_zero]
  w_top on
  k_steps
  all_goals (refine TMid.intro (by k_asm) (by assumption) (by k_sub) (.cons rfl (.cons rfl (.cons rfl (.cons rfl (.cons rfl (.cons rfl .nil)))))))
end
end Mine
end
section
open PySem PySem.W PyProof.Rows PySem.Calls
set_option maxRecDepth 100000
set_option maxHeartbeats 800000
namespace Mine
local macro_rules | `(tactic| walk_at "none0") => `(tactic| fail)
local macro_rules | `(tactic| walk_at "none1") => `(tactic| fail)
local macro_rules | `(tactic| walk_at "none2") => `(tactic| fail)
local macro_rules | `(tactic| walk_at "none3") => `(tactic| fail)
local macro_rules | `(tactic| walk_at "none4") => `(tactic| fail)
local macro_rules | `(tactic| walk_at "none5") => `(tactic| fail)
local macro_rules | `(tactic| walk_at "none6") => `(tactic| fail)
local macro_rules | `(tactic| walk_at "none7") => `(tactic| fail)
local macro_rules | `(tactic| walk_at "none8") => `(tactic| fail)
local macro_rules | `(tactic| walk_at "none9") => `(tactic| fail)
local macro_rules | `(tactic| walk_at "none10") => `(tactic| fail)
local macro_rules | `(tactic| walk_at "none11") => `(tactic| fail)
noncomputable section
theorem c_desN {w : World} {mean : ExcName → Option Value} {mg mb : Str → Option Value} {dp un : Nat} {gd : Option (List Code)} {cn : Str} {cs : Scope} {a : Addr} {ccd : Value} {cl : List (Str × Addr)} {A₀ : Around} {base h₀ : Heap} {L : Addr} {m : Str → Option Value} {s : Shared} {Q E : Value → Shared → Prop} {news : List (Addr × Obj)}
    {x dx : Addr} {h1 : Int} {t1 tz tb : Tok} {z : Int} {arr : Array UInt8}
    (B : Below A₀ base [] h₀) (F : Fr h₀ L s.heap m) (X : (hd.heap_39 w.params).In h₀) (XB : (hd.heap_39 w.params).In base) (N : News h₀ L s.heap news) (T : Top hd.view_39 LO mean mg mb h₀) (TB : Top hd.view_39 LO mean mg mb base) (hk : cs.kind = .function) (hdp : dp + 20 < recursionLimit)
    (hx : (x, instObj 179 dx) ∈ news) (hdx : (dx, dictOf [⟨h1, .str "length" t1, .int z tz⟩] 1) ∈ news) (hz1 : 1 ≤ z) (hz6 : z ≤ 6) {v : Int} (heq : (arr.size : Int) = z) (hv : KFB.value (KBw.bInts arr) = v)
    (hret : ∀ (h' : Heap) (tk' : Nat) (l : Addr) (t : Tok), Fr h₀ L h' m → News h₀ L h' ((l, listOf #[.int v t] 0) :: news) → (∀ p ∈ news, p.1 < l) → Q (.ref l) { s with heap := h', toks := tk' }) :
    wpAny (model PG w) (ktrTop dp un gd cn cs L a ccd cl []) (call (.ref 200) [.ref x, .bytes arr tb, .bool true]) Q E s :=
  c_int_desV B F X XB N T TB hk hdp hx hdx hz1 hz6 (by omega) heq (by rw [hv]; exact hret)
theorem c_desF {w : World} {mean : ExcName → Option Value} {mg mb : Str → Option Value} {dp un : Nat} {gd : Option (List Code)} {cn : Str} {cs : Scope} {a : Addr} {ccd : Value} {cl : List (Str × Addr)} {A₀ : Around} {base h₀ : Heap} {L : Addr} {m : Str → Option Value} {s : Shared} {Q E : Value → Shared → Prop} {news : List (Addr × Obj)}
    {x dx : Addr} {h1 : Int} {t1 tz tb : Tok} {z : Int} {arr : Array UInt8}
    (B : Below A₀ base [] h₀) (F : Fr h₀ L s.heap m) (X : (hd.heap_39 w.params).In h₀) (XB : (hd.heap_39 w.params).In base) (N : News h₀ L s.heap news) (T : Top hd.view_39 LO mean mg mb h₀) (TB : Top hd.view_39 LO mean mg mb base) (hk : cs.kind = .function) (hdp : dp + 20 < recursionLimit)
    (hx : (x, instObj 179 dx) ∈ news) (hdx : (dx, dictOf [⟨h1, .str "length" t1, .int z tz⟩] 1) ∈ news) (hz1 : 1 ≤ z) (hz6 : z ≤ 6) {kk : List Int} (hkk : KBw.bInts arr = kk) (hne : (kk.length : Int) ≠ z) (hkl : kk.length < 2 ^ 20)
    (hret : ∀ (h' : Heap) (tk' : Nat) (l : Addr) (t : Tok), Fr h₀ L h' m → News h₀ L h' ((l, listOf #[.str "from" t] 0) :: news) → (∀ p ∈ news, p.1 < l) → Q (.ref l) { s with heap := h', toks := tk' }) :
    wpAny (model PG w) (ktrTop dp un gd cn cs L a ccd cl []) (call (.ref 200) [.ref x, .bytes arr tb, .bool true]) Q E s :=
  c_int_desF B F X XB N T TB hk hdp hx hdx hz1 hz6 (by rw [← KBw.ints_length, hkk]; exact hkl) (by rw [← KBw.ints_length, hkk]; exact hne) hret
theorem pick_tail {b : Array UInt8} {k0 : Int} {ks : List Int} (h : KBw.bInts b = k0 :: ks) : KBw.bInts (KBy.picked b (some 1) none) = ks := by
  have e := KBc.ints_picked h (some 1) none
  have hc : clipAt (k0 :: ks).length 1 = 1 := by rw [KBc.clip_lit]; simp
  simp only [Option.elim] at e
  rw [hc] at e
  simp only [List.drop_succ_cons, List.drop_zero, List.length_cons, Nat.add_sub_cancel, List.take_length] at e
  exact e
theorem c_desP {w : World} {mean : ExcName → Option Value} {mg mb : Str → Option Value} {dp un : Nat} {gd : Option (List Code)} {cn : Str} {cs : Scope} {a : Addr} {ccd : Value} {cl : List (Str × Addr)} {A₀ : Around} {base h₀ : Heap} {L : Addr} {m : Str → Option Value} {s : Shared} {Q E : Value → Shared → Prop} {news : List (Addr × Obj)}
    {x dx : Addr} {h1 : Int} {t1 tz tb : Tok} {z : Int} {arr : Array UInt8}
    (B : Below A₀ base [] h₀) (F : Fr h₀ L s.heap m) (X : (hd.heap_39 w.params).In h₀) (XB : (hd.heap_39 w.params).In base) (N : News h₀ L s.heap news) (T : Top hd.view_39 LO mean mg mb h₀) (TB : Top hd.view_39 LO mean mg mb base) (hk : cs.kind = .function) (hdp : dp + 20 < recursionLimit)
    (hx : (x, instObj 179 dx) ∈ news) (hdx : (dx, dictOf [⟨h1, .str "length" t1, .int z tz⟩] 1) ∈ news) (hz1 : 1 ≤ z) (hz6 : z ≤ 6) {k0 : Int} {ks : List Int} (hks : KBw.bInts arr = k0 :: ks) (hkl : (ks.length : Int) + 1 = z)
    (hret : ∀ (h' : Heap) (tk' : Nat) (l : Addr) (t : Tok), Fr h₀ L h' m → News h₀ L h' ((l, listOf #[.str "from" t] 0) :: news) → (∀ p ∈ news, p.1 < l) → Q (.ref l) { s with heap := h', toks := tk' }) :
    wpAny (model PG w) (ktrTop dp un gd cn cs L a ccd cl []) (call (.ref 200) [.ref x, .bytes (KBy.picked arr (some 1) none) tb, .bool true]) Q E s :=
  c_desF B F X XB N T TB hk hdp hx hdx hz1 hz6 (pick_tail hks) (by omega) (by omega) hret
theorem mark_T3b : Mark PySem.Challenge.rw_bi0018_01 hd.heap_39 := by
  k_fill
  trivial
local macro_rules | `(tactic| k_room) => `(tactic| ktr_room)
local macro_rules | `(tactic| is_list) => `(tactic| (k_dflt (exact News.isList (by k_asm) (by k_mem))))
local macro_rules | `(tactic| k_mem) => `(tactic| (k_dflt assumption))
local macro_rules | `(tactic| walk_at "compareOp NotEq ref ref") => `(tactic| (k_here; k_dflt (refine' ne_one ?N ?ma ?mb ?hu ?he ?_; (case N => k_asm); (case ma => k_mem); (case mb => k_mem); (case hu => assumption); (case he => first | exact SeqAt.EqAt.same _ | exact at_bytes_same _ _ _ | exact at_str_same _ _ _ | exact at_int_same _ _ _ | exact at_bytes_str _ _ _ _ | exact at_to_from _ _))))
local macro_rules | `(tactic| walk_at "call ref") => `(tactic| (k_here; k_dflt (first
  | (refine' c_desN ?B ?F ?X ?XB ?N ?T ?TB ?hk ?hdp ?hx ?hdx ?hz1 ?hz6 ?heq ?hv ?_; (case B => k_asm); (case F => k_asm); (case X => k_asm); (case XB => assumption); (case N => k_asm); (case T => k_asm); (case TB => assumption); (case hk => first | exact rfl | assumption); (case hdp => ktr_room); (case hx => k_mem); (case hdx => k_mem); (case hz1 => assumption); (case hz6 => assumption); (case heq => assumption); (case hv => assumption))
  | (refine' c_desP ?B ?F ?X ?XB ?N ?T ?TB ?hk ?hdp ?hx ?hdx ?hz1 ?hz6 ?hks ?hkl ?_; (case B => k_asm); (case F => k_asm); (case X => k_asm); (case XB => assumption); (case N => k_asm); (case T => k_asm); (case TB => assumption); (case hk => first | exact rfl | assumption); (case hdp => ktr_room); (case hx => k_mem); (case hdx => k_mem); (case hz1 => assumption); (case hz6 => assumption); (case hks => assumption); (case hkl => assumption))
  | (refine' c_desF ?B ?F ?X ?XB ?N ?T ?TB ?hk ?hdp ?hx ?hdx ?hz1 ?hz6 ?hkk ?hne ?hkl ?_; (case B => k_asm); (case F => k_asm); (case X => k_asm); (case XB => assumption); (case N => k_asm); (case T => k_asm); (case TB => assumption); (case hk => first | exact rfl | assumption); (case hdp => ktr_room); (case hx => k_mem); (case hdx => k_mem); (case hz1 => assumption); (case hz6 => assumption); (case hkk => assumption); (case hne => ((simp only [Option.elim, KBc.clip_lit, List.length_take, List.length_drop, List.length_cons, List.length_append, List.length_nil, List.length_map]); omega)); (case hkl => ((simp only [Option.elim, KBc.clip_lit, List.length_take, List.length_drop, List.length_cons, List.length_append, List.length_nil, List.length_map]); omega)))); intro h' tk' l' t' F' N' l1; (try k_lt l1)))
theorem t3b {w : World} {mean : ExcName → Option Value} {mg mb : Str → Option Value} {dp un : Nat} {gd : Option (List Code)} {L a : Addr} {ccd : Value} {c1 c2 : Addr} {A₀ : Around} {base h₀ : Heap} {m : Str → Option Value} {s : Shared} {news : List (Addr × Obj)}
    {lt lf ls r y d : Addr} {z n k1 : Int} {tz s1 tn q tz' : Tok} {oc : Obj} {arr : Array UInt8} {k0 : Int} {ks : List Int}
    (B : Below A₀ base [] h₀) (F₀ : Fr h₀ L s.heap m) (X : (hd.heap_39 w.params).In h₀) (XB : (hd.heap_39 w.params).In base) (N : News h₀ L s.heap news) (T : Top hd.view_39 LO mean mg mb h₀) (TB : Top hd.view_39 LO mean mg mb base) (hdp : dp + 40 < recursionLimit) (hun : un < cLine)
    (hJ : VJ (vars3 lt lf ls r y z tz') m) (hc : (c2, oc) ∈ news) (hoc : oc.data = .cell (some (.int n tn)))
    (hy : (y, instObj 179 d) ∈ news) (hd : (d, dictOf [⟨k1, .str "length" s1, .int z tz⟩] 1) ∈ news) (g1 : 1 ≤ z) (g2 : z ≤ 6)
    (hr : (r, listOf #[.bytes arr q] 0) ∈ news) (h0 : 0 ≤ n) (h1 : n < 256 ^ z.toNat) (harr : be z.toNat n = arr) (hsz : (arr.size : Int) = z) (hks : KBw.bInts arr = k0 :: ks) (hkl : (ks.length : Int) + 1 = z) (hv : KFB.value (KBw.bInts arr) = n)
    : wpAny (model PG w) (ktrTop dp un gd "law" lawScope L a ccd (lawCl c1 c2) []) (execs ((turn3.drop 1).take 1) (envX "law" lawScope L a ccd (lawCl c1 c2))) (TMid h₀ L news (VJ (vars3 lt lf ls r y z tz')) s) (fun _ _ => False) s := by
  have hm := mark_T3b
  have F := F₀
  rw [← vlook_eq hJ] at F
  clear F₀
  generalize hcs : lawScope = cs
  conv at hcs => lhs; whnf
  generalize hb : turn3 = body
  conv at hb => lhs; whnf
  subst hcs hb
  simp only [List.take_succ_cons, List.take_zero, List.drop_succ_cons, List.drop_zero]
  w_top on
  k_steps
  all_goals (refine TMid.intro (by k_asm) (by assumption) (by k_sub) (.cons rfl (.cons rfl (.cons rfl (.cons rfl (.cons rfl (.cons rfl .nil)))))))
end
end Mine
end
section
open PySem PySem.W PyProof.Rows PySem.Calls
set_option maxRecDepth 100000
set_option maxHeartbeats 800000
namespace Mine
noncomputable section
theorem sub_first {prog : Program} {w : World} {A : Around} {E : Value → Shared → Prop} {s : Shared} {value slice : PySem.Expr} {b : Array UInt8} {t ui : Tok} {k0 : Int} {ks : List Int} {Q : Value → Shared → Prop} (hk : KBw.bInts b = k0 :: ks) (hfit : (ks.length : Int) + 1 ≤ 6)
    (h : ∀ t' k, Q (.int k0 t') { s with toks := k })
    (hs : subscripted slice false (.bytes b t) (.int 0 ui) = operate [.bytes b t, .int 0 ui] (getItem (.bytes b t) (.int 0 ui)) := by with_unfolding_all rfl)
    (ht : ∀ r, letTemporaryGo value (.bytes b t) r = pure () := by intro _; with_unfolding_all rfl) : wpAny (model prog w) A (subscriptTail value slice (.bytes b t) (.int 0 ui)) Q E s :=
  KBw.item_K hk (by rw [List.length_cons]; omega) (by decide) (by rw [List.length_cons]; omega) (fun t' k _ _ => h t' k) hs ht
theorem eq_int_d {prog : Program} {w : World} {A : Around} {E : Value → Shared → Prop} {s : Shared} {x y : Int} {t u : Tok} {d : Bool} {Q : Value → Shared → Prop} (hd : decide (x = y) = d) (h : Q (.bool d) s) : wpAny (model prog w) A (compareOp .Eq (.int x t) (.int y u)) Q E s :=
  SeqAt.RcAt.int_int x t y u prog w E Q (by
    rw [show (x == y) = d from hd]; exact h)
theorem mark_T3c : Mark PySem.Challenge.rw_bi0018_01 hd.heap_39 := by
  k_fill
  trivial
local macro_rules | `(tactic| k_room) => `(tactic| ktr_room)
local macro_rules | `(tactic| is_list) => `(tactic| (k_dflt (exact News.isList (by k_asm) (by k_mem))))
local macro_rules | `(tactic| k_mem) => `(tactic| (k_dflt assumption))
local macro_rules | `(tactic| walk_at "compareOp NotEq ref ref") => `(tactic| (k_here; k_dflt (refine' ne_one ?N ?ma ?mb ?hu ?he ?_; (case N => k_asm); (case ma => k_mem); (case mb => k_mem); (case hu => assumption); (case he => first | exact SeqAt.EqAt.same _ | exact at_bytes_same _ _ _ | exact at_str_same _ _ _ | exact at_int_same _ _ _ | exact at_bytes_str _ _ _ _ | exact at_to_from _ _))))
local macro_rules | `(tactic| walk_at "call ref") => `(tactic| (k_here; k_dflt (refine' c_big_des ?B ?F ?X ?XB ?N ?T ?TB ?hk ?hdp ?hks ?hz6 ?hd ?hv ?_; (case B => k_asm); (case F => k_asm); (case X => k_asm); (case XB => assumption); (case N => k_asm); (case T => k_asm); (case TB => assumption); (case hk => first | exact rfl | assumption); (case hdp => ktr_room); (case hks => assumption); (case hz6 => omega); (case hd => assumption); (case hv => assumption)); intro h' tk' l' t' F' N' l1; (try dsimp only [bigV] at N'); (try k_lt l1)))
local macro_rules | `(tactic| walk_at "subscriptTail") => `(tactic| (k_here; (with_reducible show wpAny _ _ (subscriptTail _ _ (Value.bytes _ _) (Value.int _ _)) _ _ _); k_dflt (refine sub_first (by assumption) (by omega) ?_); intro _ _))
local macro_rules | `(tactic| walk_at "compareOp Eq int int") => `(tactic| (k_here; k_dflt (refine' eq_int_d ?hd ?_; (case hd => assumption))))
theorem t3c {w : World} {mean : ExcName → Option Value} {mg mb : Str → Option Value} {dp un : Nat} {gd : Option (List Code)} {L a : Addr} {ccd : Value} {c1 c2 : Addr} {A₀ : Around} {base h₀ : Heap} {m : Str → Option Value} {s : Shared} {news : List (Addr × Obj)}
    {lt lf ls r y d : Addr} {z n k1 : Int} {tz s1 tn q tz' : Tok} {oc : Obj} {arr : Array UInt8} {k0 : Int} {ks : List Int}
    (B : Below A₀ base [] h₀) (F₀ : Fr h₀ L s.heap m) (X : (hd.heap_39 w.params).In h₀) (XB : (hd.heap_39 w.params).In base) (N : News h₀ L s.heap news) (T : Top hd.view_39 LO mean mg mb h₀) (TB : Top hd.view_39 LO mean mg mb base) (hdp : dp + 40 < recursionLimit) (hun : un < cLine)
    (hJ : VJ (vars3 lt lf ls r y z tz') m) (hc : (c2, oc) ∈ news) (hoc : oc.data = .cell (some (.int n tn)))
    (hy : (y, instObj 179 d) ∈ news) (hd : (d, dictOf [⟨k1, .str "length" s1, .int z tz⟩] 1) ∈ news) (g1 : 1 ≤ z) (g2 : z ≤ 6)
    (hr : (r, listOf #[.bytes arr q] 0) ∈ news) (h0 : 0 ≤ n) (h1 : n < 256 ^ z.toNat) (harr : be z.toNat n = arr) (hsz : (arr.size : Int) = z) (hks : KBw.bInts arr = k0 :: ks) (hkl : (ks.length : Int) + 1 = z) (hv : KFB.value (KBw.bInts arr) = n)
    : wpAny (model PG w) (ktrTop dp un gd "law" lawScope L a ccd (lawCl c1 c2) []) (execs (turn3.drop 2) (envX "law" lawScope L a ccd (lawCl c1 c2))) (TMid h₀ L news (VJ (vars3 lt lf ls r y z tz')) s) (fun _ _ => False) s := by
  have hm := mark_T3c
  have F := F₀
  rw [← vlook_eq hJ] at F
  clear F₀
  generalize hcs : lawScope = cs
  conv at hcs => lhs; whnf
  generalize hb : turn3 = body
  conv at hb => lhs; whnf
  subst hcs hb
  simp only [List.take_succ_cons, List.take_zero, List.drop_succ_cons, List.drop_zero]
  have hdz : decide (k0 = 0) = true ∨ decide (k0 = 0) = false := by cases decide (k0 = 0) <;> simp
  rcases hdz with hdz | hdz
  all_goals (first | have hk0 := of_decide_eq_true hdz | have hk0 := of_decide_eq_false hdz)
  all_goals (
    w_top on
    k_steps)
  all_goals (refine TMid.intro (by k_asm) (by assumption) (by k_sub) (.cons rfl (.cons rfl (.cons rfl (.cons rfl (.cons rfl (.cons rfl .nil)))))))
end
end Mine
end
section
open PySem PySem.W PyProof.Rows PySem.Calls
set_option maxRecDepth 100000
set_option maxHeartbeats 2000000
namespace Mine
local macro_rules | `(tactic| walk_at "none0") => `(tactic| fail)
local macro_rules | `(tactic| walk_at "none1") => `(tactic| fail)
local macro_rules | `(tactic| walk_at "none2") => `(tactic| fail)
local macro_rules | `(tactic| walk_at "none3") => `(tactic| fail)
local macro_rules | `(tactic| walk_at "none4") => `(tactic| fail)
local macro_rules | `(tactic| walk_at "none5") => `(tactic| fail)
local macro_rules | `(tactic| walk_at "none6") => `(tactic| fail)
local macro_rules | `(tactic| walk_at "none7") => `(tactic| fail)
local macro_rules | `(tactic| walk_at "none8") => `(tactic| fail)
local macro_rules | `(tactic| walk_at "none9") => `(tactic| fail)
local macro_rules | `(tactic| walk_at "none10") => `(tactic| fail)
local macro_rules | `(tactic| walk_at "none11") => `(tactic| fail)
noncomputable section
theorem mark_T3f : Mark PySem.Challenge.rw_bi0018_01 hd.heap_39 := by
  k_fill
  trivial
local macro_rules | `(tactic| k_room) => `(tactic| ktr_room)
local macro_rules | `(tactic| k_mem) => `(tactic| (k_dflt assumption))
local macro_rules | `(tactic| walk_at "compareOp NotEq ref ref") => `(tactic| (k_here; k_dflt (refine' ne_one ?N ?ma ?mb ?hu ?he ?_; (case N => k_asm); (case ma => k_mem); (case mb => k_mem); (case hu => assumption); (case he => first | exact SeqAt.EqAt.same _ | exact at_bytes_same _ _ _ | exact at_str_same _ _ _ | exact at_int_same _ _ _ | exact at_bytes_str _ _ _ _ | exact at_to_from _ _))))
theorem t3f {w : World} {mean : ExcName → Option Value} {mg mb : Str → Option Value} {dp un : Nat} {gd : Option (List Code)} {L a : Addr} {ccd : Value} {c1 c2 : Addr} {A₀ : Around} {base h₀ : Heap} {m : Str → Option Value} {s : Shared} {news : List (Addr × Obj)}
    {lt lf ls r y d : Addr} {z n k1 : Int} {tz s1 tn q tz' : Tok} {oc : Obj} {arr : Array UInt8} {k0 : Int} {ks : List Int}
    (B : Below A₀ base [] h₀) (F₀ : Fr h₀ L s.heap m) (X : (hd.heap_39 w.params).In h₀) (XB : (hd.heap_39 w.params).In base) (N : News h₀ L s.heap news) (T : Top hd.view_39 LO mean mg mb h₀) (TB : Top hd.view_39 LO mean mg mb base) (hdp : dp + 40 < recursionLimit) (hun : un < cLine)
    (hJ : VJ (vars3 lt lf ls r y z tz') m) (hc : (c2, oc) ∈ news) (hoc : oc.data = .cell (some (.int n tn)))
    (hy : (y, instObj 179 d) ∈ news) (hd : (d, dictOf [⟨k1, .str "length" s1, .int z tz⟩] 1) ∈ news) (g1 : 1 ≤ z) (g2 : z ≤ 6)
    (hr : (r, listOf #[.str "to" q] 0) ∈ news) (hf : n < 0 ∨ 256 ^ z.toNat ≤ n)
    : wpAny (model PG w) (ktrTop dp un gd "law" lawScope L a ccd (lawCl c1 c2) []) (execs turn3 (envX "law" lawScope L a ccd (lawCl c1 c2))) (TMid h₀ L news (VJ (vars3 lt lf ls r y z tz')) s) (fun _ _ => False) s := by
  have hm := mark_T3f
  have F := F₀
  rw [← vlook_eq hJ] at F
  clear F₀
  generalize hcs : lawScope = cs
  conv at hcs => lhs; whnf
  generalize hb : turn3 = body
  conv at hb => lhs; whnf
  subst hcs hb
  w_top on
  k_steps
  all_goals first | (exfalso; omega) | skip
  all_goals (refine TMid.intro (by k_asm) (by assumption) (by k_sub) (.cons rfl (.cons rfl (.cons rfl (.cons rfl (.cons rfl (.cons rfl .nil)))))))
end
end Mine
end
section
open PySem PySem.W PyProof.Rows PySem.Calls
set_option maxRecDepth 100000
set_option maxHeartbeats 2000000
namespace Mine
noncomputable section
theorem mark_T2s : Mark PySem.Challenge.rw_bi0018_01 hd.heap_39 := by
  k_fill
  trivial
local macro_rules | `(tactic| k_room) => `(tactic| ktr_room)
local macro_rules | `(tactic| is_list) => `(tactic| (k_dflt (exact News.isList (by k_asm) (by k_mem))))
local macro_rules | `(tactic| k_mem) => `(tactic| (k_dflt assumption))
local macro_rules | `(tactic| walk_at "compareOp NotEq ref ref") => `(tactic| (k_here; k_dflt (refine' ne_one ?N ?ma ?mb ?hu ?he ?_; (case N => k_asm); (case ma => k_mem); (case mb => k_mem); (case hu => assumption); (case he => first | exact SeqAt.EqAt.same _ | exact at_bytes_same _ _ _ | exact at_str_same _ _ _ | exact at_int_same _ _ _ | exact at_bytes_str _ _ _ _ | exact at_to_from _ _))))
local macro_rules | `(tactic| walk_at "compareOp NotIn") => `(tactic| (k_here; k_dflt (refine' notIn_two ?N ?ma ?h1 ?h2 ?hd ?_; (case N => k_asm); (case ma => k_mem); (case h1 => first | exact at_bytes_str _ _ _ _ | exact at_str_same _ _ _); (case h2 => first | exact at_bytes_str _ _ _ _ | exact at_str_same _ _ _); (case hd => first | exact (rfl : (_ : Bool) = false) | exact (rfl : (_ : Bool) = true)))))
theorem t2_bs {w : World} {mean : ExcName → Option Value} {mg mb : Str → Option Value} {dp un : Nat} {gd : Option (List Code)} {L a : Addr} {ccd : Value} {c1 c2 : Addr} {A₀ : Around} {base h₀ : Heap} {m : Str → Option Value} {s : Shared} {news : List (Addr × Obj)}
    {lt lf ls r0 r1 : Addr} {z0 z1 : Int} {t0 t1 : Tok} {v0 v1 : Value}
    (B : Below A₀ base [] h₀) (F₀ : Fr h₀ L s.heap m) (X : (hd.heap_39 w.params).In h₀) (N : News h₀ L s.heap news) (T : Top hd.view_39 LO mean mg mb h₀) (hdp : dp + 40 < recursionLimit) (hun : un < cLine)
    (hJ : VJ [(Str.ofString "told", .ref lt), (Str.ofString "fixed", .ref lf), (Str.ofString "sizes", .ref ls)] m) (hls : (ls, listOf #[.int z0 t0, .int z1 t1] 0) ∈ news) (g1 : 1 ≤ z0) (g2 : z0 ≤ 6) (g3 : 1 ≤ z1) (g4 : z1 ≤ 6)
    (hlt : (lt, LCg.lst [.ref r0, .ref r1]) ∈ news) (hr0 : (r0, listOf #[v0] 0) ∈ news) (hr1 : (r1, listOf #[v1] 0) ∈ news)
    {b0 : Array UInt8} {q0 q1 : Tok} (hv0 : v0 = .bytes b0 q0) (hv1 : v1 = .str "to" q1)
    : wpAny (model PG w) (ktrTop dp un gd "law" lawScope L a ccd (lawCl c1 c2) []) (execs (turn2.drop 2) (envX "law" lawScope L a ccd (lawCl c1 c2))) (TMid h₀ L news (VJ [(Str.ofString "told", .ref lt), (Str.ofString "fixed", .ref lf), (Str.ofString "sizes", .ref ls)]) s) (fun _ _ => False) s := by
  have hm := mark_T2s
  have F := F₀
  rw [← vlook_eq hJ] at F
  clear F₀
  subst hv0 hv1
  generalize hcs : lawScope = cs
  conv at hcs => lhs; whnf
  generalize hb : turn2 = body
  conv at hb => lhs; whnf
  subst hcs hb
  simp only [List.drop_succ_cons, List.drop_zero]
  w_top on
  k_steps
  all_goals (refine TMid.intro (by k_asm) (by assumption) (by k_sub) (.cons rfl (.cons rfl (.cons rfl .nil))))
theorem t2_sb {w : World} {mean : ExcName → Option Value} {mg mb : Str → Option Value} {dp un : Nat} {gd : Option (List Code)} {L a : Addr} {ccd : Value} {c1 c2 : Addr} {A₀ : Around} {base h₀ : Heap} {m : Str → Option Value} {s : Shared} {news : List (Addr × Obj)}
    {lt lf ls r0 r1 : Addr} {z0 z1 : Int} {t0 t1 : Tok} {v0 v1 : Value}
    (B : Below A₀ base [] h₀) (F₀ : Fr h₀ L s.heap m) (X : (hd.heap_39 w.params).In h₀) (N : News h₀ L s.heap news) (T : Top hd.view_39 LO mean mg mb h₀) (hdp : dp + 40 < recursionLimit) (hun : un < cLine)
    (hJ : VJ [(Str.ofString "told", .ref lt), (Str.ofString "fixed", .ref lf), (Str.ofString "sizes", .ref ls)] m) (hls : (ls, listOf #[.int z0 t0, .int z1 t1] 0) ∈ news) (g1 : 1 ≤ z0) (g2 : z0 ≤ 6) (g3 : 1 ≤ z1) (g4 : z1 ≤ 6)
    (hlt : (lt, LCg.lst [.ref r0, .ref r1]) ∈ news) (hr0 : (r0, listOf #[v0] 0) ∈ news) (hr1 : (r1, listOf #[v1] 0) ∈ news)
    {b1 : Array UInt8} {q0 q1 : Tok} (hv0 : v0 = .str "to" q0) (hv1 : v1 = .bytes b1 q1)
    : wpAny (model PG w) (ktrTop dp un gd "law" lawScope L a ccd (lawCl c1 c2) []) (execs (turn2.drop 2) (envX "law" lawScope L a ccd (lawCl c1 c2))) (TMid h₀ L news (VJ [(Str.ofString "told", .ref lt), (Str.ofString "fixed", .ref lf), (Str.ofString "sizes", .ref ls)]) s) (fun _ _ => False) s := by
  have hm := mark_T2s
  have F := F₀
  rw [← vlook_eq hJ] at F
  clear F₀
  subst hv0 hv1
  generalize hcs : lawScope = cs
  conv at hcs => lhs; whnf
  generalize hb : turn2 = body
  conv at hb => lhs; whnf
  subst hcs hb
  simp only [List.drop_succ_cons, List.drop_zero]
  w_top on
  k_steps
  all_goals (refine TMid.intro (by k_asm) (by assumption) (by k_sub) (.cons rfl (.cons rfl (.cons rfl .nil))))
theorem t2_ss {w : World} {mean : ExcName → Option Value} {mg mb : Str → Option Value} {dp un : Nat} {gd : Option (List Code)} {L a : Addr} {ccd : Value} {c1 c2 : Addr} {A₀ : Around} {base h₀ : Heap} {m : Str → Option Value} {s : Shared} {news : List (Addr × Obj)}
    {lt lf ls r0 r1 : Addr} {z0 z1 : Int} {t0 t1 : Tok} {v0 v1 : Value}
    (B : Below A₀ base [] h₀) (F₀ : Fr h₀ L s.heap m) (X : (hd.heap_39 w.params).In h₀) (N : News h₀ L s.heap news) (T : Top hd.view_39 LO mean mg mb h₀) (hdp : dp + 40 < recursionLimit) (hun : un < cLine)
    (hJ : VJ [(Str.ofString "told", .ref lt), (Str.ofString "fixed", .ref lf), (Str.ofString "sizes", .ref ls)] m) (hls : (ls, listOf #[.int z0 t0, .int z1 t1] 0) ∈ news) (g1 : 1 ≤ z0) (g2 : z0 ≤ 6) (g3 : 1 ≤ z1) (g4 : z1 ≤ 6)
    (hlt : (lt, LCg.lst [.ref r0, .ref r1]) ∈ news) (hr0 : (r0, listOf #[v0] 0) ∈ news) (hr1 : (r1, listOf #[v1] 0) ∈ news)
    {q0 q1 : Tok} (hv0 : v0 = .str "to" q0) (hv1 : v1 = .str "to" q1)
    : wpAny (model PG w) (ktrTop dp un gd "law" lawScope L a ccd (lawCl c1 c2) []) (execs (turn2.drop 2) (envX "law" lawScope L a ccd (lawCl c1 c2))) (TMid h₀ L news (VJ [(Str.ofString "told", .ref lt), (Str.ofString "fixed", .ref lf), (Str.ofString "sizes", .ref ls)]) s) (fun _ _ => False) s := by
  have hm := mark_T2s
  have F := F₀
  rw [← vlook_eq hJ] at F
  clear F₀
  subst hv0 hv1
  generalize hcs : lawScope = cs
  conv at hcs => lhs; whnf
  generalize hb : turn2 = body
  conv at hb => lhs; whnf
  subst hcs hb
  simp only [List.drop_succ_cons, List.drop_zero]
  w_top on
  k_steps
  all_goals (refine TMid.intro (by k_asm) (by assumption) (by k_sub) (.cons rfl (.cons rfl (.cons rfl .nil))))
end
end Mine
end
section
open PySem PySem.W PyProof.Rows PySem.Calls
set_option maxRecDepth 100000
set_option maxHeartbeats 2000000
namespace Mine
local macro_rules | `(tactic| walk_at "none0") => `(tactic| fail)
local macro_rules | `(tactic| walk_at "none1") => `(tactic| fail)
local macro_rules | `(tactic| walk_at "none2") => `(tactic| fail)
local macro_rules | `(tactic| walk_at "none3") => `(tactic| fail)
local macro_rules | `(tactic| walk_at "none4") => `(tactic| fail)
local macro_rules | `(tactic| walk_at "none5") => `(tactic| fail)
local macro_rules | `(tactic| walk_at "none6") => `(tactic| fail)
local macro_rules | `(tactic| walk_at "none7") => `(tactic| fail)
local macro_rules | `(tactic| walk_at "none8") => `(tactic| fail)
local macro_rules | `(tactic| walk_at "none9") => `(tactic| fail)
local macro_rules | `(tactic| walk_at "none10") => `(tactic| fail)
local macro_rules | `(tactic| walk_at "none11") => `(tactic| fail)
noncomputable section
theorem slice_raw {prog : Program} {w : World} {A : Around} {E : Value → Shared → Prop} {s : Shared} {value slice : PySem.Expr} {b : Array UInt8} {t : Tok} {h₀ : Heap} {L : Addr} {m : PySem.Str → Option Value} {news : List (Addr × Obj)} {l u : Value} {lo hi : Option Int} {Q : Value → Shared → Prop}
    (hF : Fr h₀ L s.heap m) (hN : News h₀ L s.heap news) (hl : IsPart l lo) (hu : IsPart u hi) (hz : b.size ≤ 6)
    (h : ∀ h' t' k, Fr h₀ L h' m → News h₀ L h' news → Q (.bytes (KBy.picked b lo hi) t') { s with heap := h', toks := k })
    (hs : subscripted slice false (.bytes b t) (.ref s.heap.objs.size) = operate [.ref s.heap.objs.size, .bytes b t] (getItem (.bytes b t) (.ref s.heap.objs.size)))
    (ht : ∀ r, letTemporaryGo value (.bytes b t) r = pure ()) :
    wpAny (model prog w) A (subscriptTail value slice (.bytes b t) (.ref s.heap.objs.size)) Q E { s with heap := s.heap.push { cls := .type "slice", data := .fields #[l, u, .none] } } :=
  KBc.slice_K (ks := KBw.bInts b) hF hN rfl hl hu (by rw [KBw.ints_length]; omega) (fun h' t' k F N _ => h h' t' k F N) hs ht
theorem ne_same {prog : Program} {w : World} {A : Around} {E : Value → Shared → Prop} {s : Shared} {b c : Array UInt8} {t u : Tok} {Q : Value → Shared → Prop} (e : b = c) (h : Q (.bool false) s) : wpAny (model prog w) A (compareOp .NotEq (.bytes b t) (.bytes c u)) Q E s := by
  subst e
  refine ne_bytes ?_
  rw [show (b.toList != b.toList) = false from by rw [bne, beq_self_eq_true]; rfl]
  exact h
theorem mark_T2l : Mark PySem.Challenge.rw_bi0018_01 hd.heap_39 := by
  k_fill
  trivial
local macro_rules | `(tactic| k_room) => `(tactic| ktr_room)
local macro_rules | `(tactic| is_list) => `(tactic| (k_dflt (exact News.isList (by k_asm) (by k_mem))))
local macro_rules | `(tactic| k_mem) => `(tactic| (k_dflt assumption))
local macro_rules | `(tactic| walk_at "compareOp NotEq ref ref") => `(tactic| (k_here; k_dflt (refine' ne_one ?N ?ma ?mb ?hu ?he ?_; (case N => k_asm); (case ma => k_mem); (case mb => k_mem); (case hu => assumption); (case he => first | exact SeqAt.EqAt.same _ | exact at_bytes_same _ _ _ | exact at_str_same _ _ _ | exact at_int_same _ _ _ | exact at_bytes_str _ _ _ _ | exact at_to_from _ _))))
local macro_rules | `(tactic| walk_at "compareOp NotIn") => `(tactic| (k_here; k_dflt (refine' notIn_two ?N ?ma ?h1 ?h2 ?hd ?_; (case N => k_asm); (case ma => k_mem); (case h1 => first | exact at_bytes_str _ _ _ _ | exact at_str_same _ _ _); (case h2 => first | exact at_bytes_str _ _ _ _ | exact at_str_same _ _ _); (case hd => first | exact (rfl : (_ : Bool) = false) | exact (rfl : (_ : Bool) = true)))))
theorem t2_bb {w : World} {mean : ExcName → Option Value} {mg mb : Str → Option Value} {dp un : Nat} {gd : Option (List Code)} {L a : Addr} {ccd : Value} {c1 c2 : Addr} {A₀ : Around} {base h₀ : Heap} {m : Str → Option Value} {s : Shared} {news : List (Addr × Obj)}
    {lt lf ls r0 r1 : Addr} {z0 z1 : Int} {t0 t1 : Tok} {v0 v1 : Value}
    (B : Below A₀ base [] h₀) (F₀ : Fr h₀ L s.heap m) (X : (hd.heap_39 w.params).In h₀) (N : News h₀ L s.heap news) (T : Top hd.view_39 LO mean mg mb h₀) (hdp : dp + 40 < recursionLimit) (hun : un < cLine)
    (hJ : VJ [(Str.ofString "told", .ref lt), (Str.ofString "fixed", .ref lf), (Str.ofString "sizes", .ref ls)] m) (hls : (ls, listOf #[.int z0 t0, .int z1 t1] 0) ∈ news) (g1 : 1 ≤ z0) (g2 : z0 ≤ 6) (g3 : 1 ≤ z1) (g4 : z1 ≤ 6)
    (hlt : (lt, LCg.lst [.ref r0, .ref r1]) ∈ news) (hr0 : (r0, listOf #[v0] 0) ∈ news) (hr1 : (r1, listOf #[v1] 0) ∈ news)
    {b0 b1 : Array UInt8} {q0 q1 : Tok} (hv0 : v0 = .bytes b0 q0) (hv1 : v1 = .bytes b1 q1) (hb0 : b0.size ≤ 6) (hb1 : b1.size ≤ 6) (hpick : ∀ M M' : Int, M = M' → 1 ≤ M → M ≤ z0 → M ≤ z1 → KBy.picked b0 (some (-M)) none = KBy.picked b1 (some (-M')) none)
    : wpAny (model PG w) (ktrTop dp un gd "law" lawScope L a ccd (lawCl c1 c2) []) (execs (turn2.drop 2) (envX "law" lawScope L a ccd (lawCl c1 c2))) (TMid h₀ L news (VJ [(Str.ofString "told", .ref lt), (Str.ofString "fixed", .ref lf), (Str.ofString "sizes", .ref ls)]) s) (fun _ _ => False) s := by
  have hm := mark_T2l
  have F := F₀
  rw [← vlook_eq hJ] at F
  clear F₀
  subst hv0 hv1
  generalize hcs : lawScope = cs
  conv at hcs => lhs; whnf
  generalize hb : turn2 = body
  conv at hb => lhs; whnf
  subst hcs hb
  simp only [List.drop_succ_cons, List.drop_zero]
  w_top on
  k_steps
  rename Fr _ _ _ _ => F8
  rename News _ _ _ _ => N8
  refine' slice_raw (s := ⟨_, _, _, _, _⟩) F8 N8 ?hl ?hu ?hz ?_ ?hs ?ht
  case hl => constructor
  case hu => constructor
  case hz => omega
  case hs => with_unfolding_all rfl
  case ht => intro _; with_unfolding_all rfl
  intro _ _ _ _ _
  clear F8 N8
  k_steps
  rename Fr _ _ _ _ => F9
  rename News _ _ _ _ => N9
  refine' slice_raw (s := ⟨_, _, _, _, _⟩) F9 N9 ?hl ?hu ?hz ?_ ?hs ?ht
  case hl => constructor
  case hu => constructor
  case hz => omega
  case hs => with_unfolding_all rfl
  case ht => intro _; with_unfolding_all rfl
  intro _ _ _ _ _
  clear F9 N9
  refine ne_same ?_ ?_
  · refine hpick _ _ (by omega) (by omega) (by omega) ?_
    omega
  k_steps
  all_goals (refine TMid.intro (by k_asm) (by assumption) (by k_sub) (.cons rfl (.cons rfl (.cons rfl .nil))))
end
end Mine
end
section
open PySem PySem.W PyProof.Rows PySem.Calls
set_option maxRecDepth 100000
set_option maxHeartbeats 8000000
namespace Mine
noncomputable section
theorem mark_Zip : Mark PySem.Challenge.rw_bi0018_01 hd.heap_39 := by
  k_fill
  trivial
local macro_rules | `(tactic| k_room) => `(tactic| ktr_room)
local macro_rules | `(tactic| k_mem) => `(tactic| (k_dflt assumption))
theorem t3_all {w : World} {mean : ExcName → Option Value} {mg mb : Str → Option Value} {dp un : Nat} {gd : Option (List Code)} {L a : Addr} {ccd : Value} {c1 c2 : Addr} {A₀ : Around} {base h₀ : Heap} {m : Str → Option Value} {s : Shared} {news : List (Addr × Obj)}
    {lt lf ls r y d : Addr} {z n k1 : Int} {tz s1 tn q tz' : Tok} {oc : Obj} {e : Bool}
    (B : Below A₀ base [] h₀) (F : Fr h₀ L s.heap m) (X : (hd.heap_39 w.params).In h₀) (XB : (hd.heap_39 w.params).In base) (N : News h₀ L s.heap news) (T : Top hd.view_39 LO mean mg mb h₀) (TB : Top hd.view_39 LO mean mg mb base) (hdp : dp + 40 < recursionLimit) (hun : un < cLine)
    (hJ : VJ (vars3 lt lf ls r y z tz') m) (hc : (c2, oc) ∈ news) (hoc : oc.data = .cell (some (.int n tn)))
    (hy : (y, instObj 179 d) ∈ news) (hd : (d, dictOf [⟨k1, .str "length" s1, .int z tz⟩] 1) ∈ news) (g1 : 1 ≤ z) (g2 : z ≤ 6) (he : decide (0 ≤ n ∧ n < 256 ^ z.toNat) = e) (hr : (r, listOf #[serV e (be z.toNat n) q] 0) ∈ news) :
    wpAny (model PG w) (ktrTop dp un gd "law" lawScope L a ccd (lawCl c1 c2) []) (execs turn3 (envX "law" lawScope L a ccd (lawCl c1 c2))) (TMid h₀ L news (VJ (vars3 lt lf ls r y z tz')) s) (fun _ _ => False) s := by
  cases e with
  | false =>
    have hf := of_decide_eq_false he
    exact t3f (arr := #[]) (k0 := 0) (ks := []) B F X XB N T TB hdp hun hJ hc hoc hy hd g1 g2 hr (by omega)
  | true =>
    obtain ⟨h0, h1⟩ := of_decide_eq_true he
    have hsz : ((be z.toNat n).size : Int) = z := by rw [be_size]; omega
    have hv := be_value h0 h1
    have hlen : (KBw.bInts (be z.toNat n)).length = z.toNat := by rw [KBw.ints_length, be_size]
    generalize harr : be z.toNat n = arr at hr hsz hv hlen
    obtain ⟨k0, ks, hks⟩ : ∃ k0 ks, KBw.bInts arr = k0 :: ks := by
      cases hb : KBw.bInts arr with
      | nil => rw [hb] at hlen; simp at hlen; omega
      | cons k0 ks => exact ⟨k0, ks, rfl⟩
    have hkl : (ks.length : Int) + 1 = z := by
      rw [hks, List.length_cons] at hlen; omega
    refine TMid.chain 1 (t3a B F X XB N T TB hdp hun hJ hc hoc hy hd g1 g2 hr h0 h1 harr hsz hks hkl hv) fun h' tk' m' news' F N hs hJ => ?_
    refine TMid.chain 1 (t3b B F X XB N T TB hdp hun hJ (hs _ hc) hoc (hs _ hy) (hs _ hd) g1 g2 (hs _ hr) h0 h1 harr hsz hks hkl hv) fun h' tk' m' news' F N hs2 hJ => ?_
    rw [List.drop_drop]
    exact t3c B F X XB N T TB hdp hun hJ (hs2 _ (hs _ hc)) hoc (hs2 _ (hs _ hy)) (hs2 _ (hs _ hd)) g1 g2 (hs2 _ (hs _ hr)) h0 h1 harr hsz hks hkl hv
theorem t2_zip {w : World} {mean : ExcName → Option Value} {mg mb : Str → Option Value} {dp un : Nat} {gd : Option (List Code)} {L a : Addr} {ccd : Value} {c1 c2 : Addr} {A₀ : Around} {base h₀ : Heap} {m : Str → Option Value} {s : Shared} {news : List (Addr × Obj)}
    {lt lf ls r0 r1 y0 d0 y1 d1 : Addr} {z0 z1 n k0 k1 : Int} {t0 t1 s0 s1 tn q0 q1 : Tok} {oc : Obj} {e0 e1 : Bool}
    (B : Below A₀ base [] h₀) (F₀ : Fr h₀ L s.heap m) (X : (hd.heap_39 w.params).In h₀) (XB : (hd.heap_39 w.params).In base) (N : News h₀ L s.heap news) (T : Top hd.view_39 LO mean mg mb h₀) (TB : Top hd.view_39 LO mean mg mb base) (hdp : dp + 40 < recursionLimit) (hun : un < cLine)
    (hJ : VJ [(Str.ofString "told", .ref lt), (Str.ofString "fixed", .ref lf), (Str.ofString "sizes", .ref ls)] m) (hc : (c2, oc) ∈ news) (hoc : oc.data = .cell (some (.int n tn)))
    (hlf : (lf, LCg.lst [.ref y0, .ref y1]) ∈ news) (hy1 : (y1, instObj 179 d1) ∈ news) (hd1 : (d1, dictOf [⟨k1, .str "length" s1, .int z1 t1⟩] 1) ∈ news) (hy0 : (y0, instObj 179 d0) ∈ news) (hd0 : (d0, dictOf [⟨k0, .str "length" s0, .int z0 t0⟩] 1) ∈ news)
    (g1 : 1 ≤ z0) (g2 : z0 ≤ 6) (g3 : 1 ≤ z1) (g4 : z1 ≤ 6) (he0 : decide (0 ≤ n ∧ n < 256 ^ z0.toNat) = e0) (he1 : decide (0 ≤ n ∧ n < 256 ^ z1.toNat) = e1)
    (hls : (ls, listOf #[.int z0 t0, .int z1 t1] 0) ∈ news) (hlt : (lt, LCg.lst [.ref r0, .ref r1]) ∈ news) (hr0 : (r0, listOf #[serV e0 (be z0.toNat n) q0] 0) ∈ news) (hr1 : (r1, listOf #[serV e1 (be z1.toNat n) q1] 0) ∈ news) :
    wpAny (model PG w) (ktrTop dp un gd "law" lawScope L a ccd (lawCl c1 c2) []) (exec (nthStmt 1 turn2) (envX "law" lawScope L a ccd (lawCl c1 c2))) (TMid h₀ L news (VJ [(Str.ofString "told", .ref lt), (Str.ofString "fixed", .ref lf), (Str.ofString "sizes", .ref ls)]) s) (fun _ _ => False) s := by
  have hm := mark_Zip
  have turn : ∀ (i : Nat) v1 v2 v3 m₁ h tk own, (#[.ref y0, .ref y1] : Array Value)[i]? = some v1 → (#[.int z0 t0, .int z1 t1] : Array Value)[i]? = some v2 → (#[.ref r0, .ref r1] : Array Value)[i]? = some v3 → VJ [(Str.ofString "told", .ref lt), (Str.ofString "fixed", .ref lf), (Str.ofString "sizes", .ref ls)] m₁ →
      Fr h₀ L h (fun y => if y = Str.ofString "what" then some v3 else if y = Str.ofString "size" then some v2 else if y = Str.ofString "one" then some v1 else m₁ y) → News h₀ L h (own ++ news) →
      wpAny (model PG w) (ktrTop dp un gd "law" lawScope L a ccd (lawCl c1 c2) []) (execs turn3 (envX "law" lawScope L a ccd (lawCl c1 c2))) (TMid h₀ L (own ++ news) (VJ [(Str.ofString "told", .ref lt), (Str.ofString "fixed", .ref lf), (Str.ofString "sizes", .ref ls)]) { s with heap := h, toks := tk }) (fun _ _ => False) { s with heap := h, toks := tk } := by
    intro i v1 v2 v3 m₁ h tk own e1' e2' e3' hJ₁ F₁ N₁
    have up : ∀ p ∈ news, p ∈ own ++ news := fun p hp => List.mem_append_right _ hp
    have fin : ∀ {r y : Addr} {z : Int} {tz : Tok} {s' : Shared} {f : Flow}, TMid h₀ L (own ++ news) (VJ (vars3 lt lf ls r y z tz)) { s with heap := h, toks := tk } f s' → TMid h₀ L (own ++ news) (VJ [(Str.ofString "told", .ref lt), (Str.ofString "fixed", .ref lf), (Str.ofString "sizes", .ref ls)]) { s with heap := h, toks := tk } f s' := by
      rintro r y z tz s' f ⟨hf, h', tk', m', news', es, F', N', hs, hJ'⟩
      exact ⟨hf, h', tk', m', news', es, F', N', hs, fun p hp => hJ' p (.tail _ (.tail _ (.tail _ hp)))⟩
    have vj : ∀ {r y : Addr} {z : Int} {tz : Tok}, VJ (vars3 lt lf ls r y z tz) (fun x => if x = Str.ofString "what" then some (.ref r) else if x = Str.ofString "size" then some (.int z tz) else if x = Str.ofString "one" then some (.ref y) else m₁ x) := fun {r y z tz} =>
      .cons rfl (.cons rfl (.cons rfl (.cons (hJ₁ _ (.head _)) (.cons (hJ₁ _ (.tail _ (.head _))) (.cons (hJ₁ _ (.tail _ (.tail _ (.head _)))) .nil)))))
    match i, e1', e2', e3' with
    | 0, e1', e2', e3' =>
      cases e1'; cases e2'; cases e3'
      exact wpAny_mono (t3_all B F₁ X XB N₁ T TB hdp hun vj (up _ hc) hoc (up _ hy0) (up _ hd0) g1 g2 he0 (up _ hr0)) (fun f s' hf => fin hf) fun _ _ e => e
    | 1, e1', e2', e3' =>
      cases e1'; cases e2'; cases e3'
      exact wpAny_mono (t3_all B F₁ X XB N₁ T TB hdp hun vj (up _ hc) hoc (up _ hy1) (up _ hd1) g3 g4 he1 (up _ hr1)) (fun f s' hf => fin hf) fun _ _ e => e
    | i + 2, e1', _, _ => simp at e1'
  have F := F₀
  rw [← vlook_eq hJ] at F
  clear F₀
  generalize hb1 : turn3 = body1 at turn
  generalize hst : nthStmt 1 turn2 = st
  conv at hst => lhs; whnf
  subst hst
  conv at hb1 => lhs; whnf
  subst hb1
  refine wpAny_For ?_
  generalize hcs : lawScope = cs at turn ⊢
  conv at hcs => lhs; whnf
  subst hcs
  w_top on
  k_steps
  refine call_zip3 (xs := #[.ref y0, .ref y1]) (ys := #[.int z0 t0, .int z1 t1]) (zs := #[.ref r0, .ref r1]) (News.isList N hlf) (News.isList N hls) (News.isList N hlt) fun h' Z hk => ?_
  refine wpAny_pyIter_zip Z.hz ?_
  have ltL : @LT.lt Nat _ L s.heap.objs.size := F.ns.lt
  refine loop_zip3 (h₀ := h₀) (n := 2) (need := news) (J := VJ [(Str.ofString "told", .ref lt), (Str.ofString "fixed", .ref lf), (Str.ofString "sizes", .ref ls)]) rfl rfl rfl rfl rfl Z rfl rfl rfl (fun d hd => ?_) ltL (F.keeps hk) (N.grown hk) (fun p hp => Heap.lt_size (N p hp).1) hlf hls hlt (by rw [vlook_eq hJ]; exact hJ) (fun i v1 v2 v3 m₁ h tk own a b c hJ F N => turn i v1 v2 v3 m₁ h tk own a b c hJ F N) (fun h tk m₁ hJ F N => ?_)
  · cases hq : h₀.get? d with
    | none => rfl
    | some o =>
      have q1 : @LT.lt Nat _ d h₀.objs.size := Heap.lt_size hq
      have q2 : @LE.le Nat _ h₀.objs.size L := F.above
      omega
  · exact TMid.intro F N (fun p hp => hp) hJ
end
end Mine
end
section
open PySem PySem.W PyProof.Rows PySem.Calls
set_option maxRecDepth 100000
set_option maxHeartbeats 8000000
namespace Mine
local macro_rules | `(tactic| walk_at "none0") => `(tactic| fail)
local macro_rules | `(tactic| walk_at "none1") => `(tactic| fail)
local macro_rules | `(tactic| walk_at "none2") => `(tactic| fail)
local macro_rules | `(tactic| walk_at "none3") => `(tactic| fail)
local macro_rules | `(tactic| walk_at "none4") => `(tactic| fail)
local macro_rules | `(tactic| walk_at "none5") => `(tactic| fail)
local macro_rules | `(tactic| walk_at "none6") => `(tactic| fail)
local macro_rules | `(tactic| walk_at "none7") => `(tactic| fail)
local macro_rules | `(tactic| walk_at "none8") => `(tactic| fail)
local macro_rules | `(tactic| walk_at "none9") => `(tactic| fail)
local macro_rules | `(tactic| walk_at "none10") => `(tactic| fail)
local macro_rules | `(tactic| walk_at "none11") => `(tactic| fail)
noncomputable section
theorem pick_last {k : Nat} {n M : Int} (h1 : 1 ≤ M) (hk : M.toNat ≤ k) : KBy.picked (be k n) (some (-M)) none = be M.toNat n := by
  refine ints_inj ?_
  have e := KBc.ints_picked (be_ints k n) (some (-M)) none
  have hlen : (KTBy.little k n).reverse.length = k := by rw [List.length_reverse, KTBy.little_length]
  have hc : clipAt k (-M) = k - M.toNat := by
    unfold clipAt
    split <;> omega
  simp only [Option.elim, hlen, hc] at e
  rw [e, be_ints]
  obtain ⟨r, rfl⟩ : ∃ r, k = M.toNat + r := ⟨k - M.toNat, by omega⟩
  rw [little_take M.toNat r n, List.reverse_append]
  have hr : (KTBy.little r (n / 256 ^ M.toNat)).reverse.length = M.toNat + r - M.toNat := by rw [List.length_reverse, KTBy.little_length]; omega
  rw [← hr, List.drop_left]
  have hj : (KTBy.little M.toNat n).reverse.length = M.toNat := by rw [List.length_reverse, KTBy.little_length]
  refine List.take_of_length_le ?_
  rw [hj, hr]; omega
theorem t2_last {w : World} {mean : ExcName → Option Value} {mg mb : Str → Option Value} {dp un : Nat} {gd : Option (List Code)} {L a : Addr} {ccd : Value} {c1 c2 : Addr} {A₀ : Around} {base h₀ : Heap} {m : Str → Option Value} {s : Shared} {news : List (Addr × Obj)}
    {lt lf ls r0 r1 : Addr} {z0 z1 n : Int} {t0 t1 q0 q1 : Tok} {e0 e1 : Bool}
    (B : Below A₀ base [] h₀) (F : Fr h₀ L s.heap m) (X : (hd.heap_39 w.params).In h₀) (XB : (hd.heap_39 w.params).In base) (N : News h₀ L s.heap news) (T : Top hd.view_39 LO mean mg mb h₀) (TB : Top hd.view_39 LO mean mg mb base) (hdp : dp + 40 < recursionLimit) (hun : un < cLine)
    (hJ : VJ [(Str.ofString "told", .ref lt), (Str.ofString "fixed", .ref lf), (Str.ofString "sizes", .ref ls)] m) (hls : (ls, listOf #[.int z0 t0, .int z1 t1] 0) ∈ news) (g1 : 1 ≤ z0) (g2 : z0 ≤ 6) (g3 : 1 ≤ z1) (g4 : z1 ≤ 6)
    (hlt : (lt, LCg.lst [.ref r0, .ref r1]) ∈ news) (hr0 : (r0, listOf #[serV e0 (be z0.toNat n) q0] 0) ∈ news) (hr1 : (r1, listOf #[serV e1 (be z1.toNat n) q1] 0) ∈ news) :
    wpAny (model PG w) (ktrTop dp un gd "law" lawScope L a ccd (lawCl c1 c2) []) (execs (turn2.drop 2) (envX "law" lawScope L a ccd (lawCl c1 c2))) (TMid h₀ L news (VJ [(Str.ofString "told", .ref lt), (Str.ofString "fixed", .ref lf), (Str.ofString "sizes", .ref ls)]) s) (fun _ _ => False) s := by
  cases e0 <;> cases e1
  · exact t2_ss B F X N T hdp hun hJ hls g1 g2 g3 g4 hlt hr0 hr1 rfl rfl
  · exact t2_sb B F X N T hdp hun hJ hls g1 g2 g3 g4 hlt hr0 hr1 rfl rfl
  · exact t2_bs B F X N T hdp hun hJ hls g1 g2 g3 g4 hlt hr0 hr1 rfl rfl
  · refine t2_bb B F X N T hdp hun hJ hls g1 g2 g3 g4 hlt hr0 hr1 rfl rfl (by rw [be_size]; omega) (by rw [be_size]; omega) fun M M' e h1 h2 h3 => ?_
    subst e
    rw [pick_last h1 (by omega), pick_last h1 (by omega)]
theorem turn2_all {w : World} {mean : ExcName → Option Value} {mg mb : Str → Option Value} {dp un : Nat} {gd : Option (List Code)} {L a : Addr} {ccd : Value} {c1 c2 : Addr} {A₀ : Around} {base h₀ : Heap} {m : Str → Option Value} {s : Shared} {news : List (Addr × Obj)}
    {lf ls y0 d0 y1 d1 : Addr} {z0 z1 n k0 k1 : Int} {t0 t1 s0 s1 tn : Tok} {oc : Obj}
    (B : Below A₀ base [] h₀) (F : Fr h₀ L s.heap m) (X : (hd.heap_39 w.params).In h₀) (XB : (hd.heap_39 w.params).In base) (N : News h₀ L s.heap news) (T : Top hd.view_39 LO mean mg mb h₀) (TB : Top hd.view_39 LO mean mg mb base) (hdp : dp + 40 < recursionLimit) (hun : un < cLine)
    (hJ : VJ [(Str.ofString "fixed", .ref lf), (Str.ofString "sizes", .ref ls)] m) (hc : (c2, oc) ∈ news) (hoc : oc.data = .cell (some (.int n tn)))
    (hlf : (lf, LCg.lst [.ref y0, .ref y1]) ∈ news) (hy1 : (y1, instObj 179 d1) ∈ news) (hd1 : (d1, dictOf [⟨k1, .str "length" s1, .int z1 t1⟩] 1) ∈ news) (hy0 : (y0, instObj 179 d0) ∈ news) (hd0 : (d0, dictOf [⟨k0, .str "length" s0, .int z0 t0⟩] 1) ∈ news)
    (hls : (ls, listOf #[.int z0 t0, .int z1 t1] 0) ∈ news) (g1 : 1 ≤ z0) (g2 : z0 ≤ 6) (g3 : 1 ≤ z1) (g4 : z1 ≤ 6) :
    wpAny (model PG w) (ktrTop dp un gd "law" lawScope L a ccd (lawCl c1 c2) []) (execs turn2 (envX "law" lawScope L a ccd (lawCl c1 c2))) (TMid h₀ L news (VJ [(Str.ofString "fixed", .ref lf), (Str.ofString "sizes", .ref ls)]) s) (fun _ _ => False) s := by
  obtain ⟨e0, he0⟩ : ∃ e0, decide (0 ≤ n ∧ n < 256 ^ z0.toNat) = e0 := ⟨_, rfl⟩
  obtain ⟨e1, he1⟩ : ∃ e1, decide (0 ≤ n ∧ n < 256 ^ z1.toNat) = e1 := ⟨_, rfl⟩
  refine execs_cut 1 (t2_told B F X XB N T TB hdp hun hJ hc hoc hlf hy1 hd1 hy0 hd0 g1 g2 g3 g4 he0 he1 fun h' tk' m' lt r0 r1 q0 q1 F hJ N => ?_)
  obtain ⟨nws, hnws⟩ : ∃ nws, nws = (lt, LCg.lst [.ref r0, .ref r1]) :: (r1, listOf #[serV e1 (be z1.toNat n) q1] 0) :: (r0, listOf #[serV e0 (be z0.toNat n) q0] 0) :: news := ⟨_, rfl⟩
  rw [← hnws] at N
  have up : ∀ p ∈ news, p ∈ nws := fun p hp => hnws ▸ .tail _ (.tail _ (.tail _ hp))
  have w1 : (lt, LCg.lst [.ref r0, .ref r1]) ∈ nws := hnws ▸ .head _
  have w2 : (r1, listOf #[serV e1 (be z1.toNat n) q1] 0) ∈ nws := hnws ▸ .tail _ (.head _)
  have w3 : (r0, listOf #[serV e0 (be z0.toNat n) q0] 0) ∈ nws := hnws ▸ .tail _ (.tail _ (.head _))
  have es : turn2.drop 1 = nthStmt 1 turn2 :: turn2.drop 2 := rfl
  dsimp only
  rw [es]
  have key : wpAny (model PG w) (ktrTop dp un gd "law" lawScope L a ccd (lawCl c1 c2) []) (execs (nthStmt 1 turn2 :: turn2.drop 2) (envX "law" lawScope L a ccd (lawCl c1 c2))) (TMid h₀ L nws (VJ [(Str.ofString "told", .ref lt), (Str.ofString "fixed", .ref lf), (Str.ofString "sizes", .ref ls)]) { s with heap := h', toks := tk' }) (fun _ _ => False) { s with heap := h', toks := tk' } := by
    refine wpAny_execs_cons (wpAny_mono (t2_zip B F X XB N T TB hdp hun hJ (up _ hc) hoc (up _ hlf) (up _ hy1) (up _ hd1) (up _ hy0) (up _ hd0) g1 g2 g3 g4 he0 he1 (up _ hls) w1 w3 w2) (fun f s' hf => ?_) fun _ _ e => e)
    obtain ⟨rfl, h₂, tk₂, m₂, news₂, rfl, F₂, N₂, hs₂, hJ₂⟩ := hf
    refine wpAny_mono (t2_last B F₂ X XB N₂ T TB hdp hun hJ₂ (hs₂ _ (up _ hls)) g1 g2 g3 g4 (hs₂ _ w1) (hs₂ _ w3) (hs₂ _ w2)) (fun f s' hf => ?_) fun _ _ e => e
    obtain ⟨rfl, h₃, tk₃, m₃, news₃, rfl, F₃, N₃, hs₃, hJ₃⟩ := hf
    exact ⟨rfl, h₃, tk₃, m₃, news₃, rfl, F₃, N₃, fun p hp => hs₃ p (hs₂ p hp), hJ₃⟩
  refine wpAny_mono key (fun f s' hf => ?_) fun _ _ e => e
  obtain ⟨rfl, h₃, tk₃, m₃, news₃, rfl, F₃, N₃, hs₃, hJ₃⟩ := hf
  exact ⟨rfl, h₃, tk₃, m₃, news₃, rfl, F₃, N₃, fun p hp => hs₃ p (up p hp), fun p hp => hJ₃ p (.tail _ hp)⟩
end
end Mine
end
section
open PySem PySem.W PyProof.Rows PySem.Calls
set_option maxRecDepth 100000
set_option maxHeartbeats 2000000
namespace Mine
noncomputable section
theorem mark_Law6 : Mark PySem.Challenge.rw_bi0018_01 hd.heap_39 := by
  k_fill
  trivial
local macro_rules | `(tactic| k_room) => `(tactic| ktr_room)
local macro_rules | `(tactic| k_mem) => `(tactic| (k_dflt assumption))
local macro_rules | `(tactic| walk_at "call ref") => `(tactic| (k_here; k_dflt (refine' c_at ?B ?F ?X ?N ?T ?hk ?hL ?hI ?hlay ?hn ?hdp ?h0 ?_; (case B => k_asm); (case F => k_asm); (case X => k_asm); (case N => k_asm); (case T => k_asm); (case hk => first | exact rfl | assumption); (case hL => assumption); (case hI => assumption); (case hlay => assumption); (case hn => assumption); (case hdp => ktr_room); (case h0 => decide)); intro h' tk' v' t' F' N'))
local macro_rules | `(tactic| walk_at "eval Call") => `(tactic| (k_here; (with_reducible show wpAny _ _ (eval (Expr.Call (Expr.Name _ _) _ [] _) _) _ _ _); k_dflt (refine Call_ ?_)))
theorem apart_cell {h₀ h : Heap} {L c : Addr} {news : List (Addr × Obj)} {p : Addr × Obj} {oc : Obj} (N : News h₀ L h news) (hp : p ∈ news) (hc : (c, oc) ∈ news) (hne : p.2 ≠ oc) : p.1 ≠ c := fun e => by
  have e1 := (N p hp).1
  have e2 := (N _ hc).1
  rw [e] at e1
  rw [e1] at e2
  exact hne (Option.some.inj e2)
theorem law_for2 {w : World} {mean : ExcName → Option Value} {mg mb : Str → Option Value} {dp un : Nat} {gd : Option (List Code)} {L a : Addr} {ccd : Value} {c1 c2 : Addr} {A₀ : Around} {base h₀ : Heap} {m : Str → Option Value} {s : Shared} {news : List (Addr × Obj)}
    {lv lf ls y0 d0 y1 d1 : Addr} {z0 z1 k0 k1 : Int} {t0 t1 s0 s1 : Tok} {oc : Obj} {vc : Option Value} {vs : List Value} {ns : List Int} {Q : Flow → Shared → Prop}
    (B : Below A₀ base [] h₀) (F₀ : Fr h₀ L s.heap m) (X : (hd.heap_39 w.params).In h₀) (XB : (hd.heap_39 w.params).In base) (N : News h₀ L s.heap news) (T : Top hd.view_39 LO mean mg mb h₀) (TB : Top hd.view_39 LO mean mg mb base) (hdp : dp + 40 < recursionLimit) (hun : un < cLine)
    (hJ : VJ [(Str.ofString "fixed", .ref lf), (Str.ofString "sizes", .ref ls), (Str.ofString "script", .ref lv)] m) (hL : base.IsList lv vs.toArray) (hI : IntsAre vs ns) (hlay : (PyData.list (ns.map PyData.int)).layable0 = true) (hn : ns.length ≤ 63) (hc : (c2, oc) ∈ news) (hoc : oc.data = .cell vc)
    (hlf : (lf, LCg.lst [.ref y0, .ref y1]) ∈ news) (hy1 : (y1, instObj 179 d1) ∈ news) (hd1 : (d1, dictOf [⟨k1, .str "length" s1, .int z1 t1⟩] 1) ∈ news) (hy0 : (y0, instObj 179 d0) ∈ news) (hd0 : (d0, dictOf [⟨k0, .str "length" s0, .int z0 t0⟩] 1) ∈ news)
    (hls : (ls, listOf #[.int z0 t0, .int z1 t1] 0) ∈ news) (g1 : 1 ≤ z0) (g2 : z0 ≤ 6) (g3 : 1 ≤ z1) (g4 : z1 ≤ 6)
    (done : ∀ h tk m₁ news', Fr h₀ L h m₁ → News h₀ L h news' → Q .next { s with heap := h, toks := tk }) :
    wpAny (model PG w) (ktrTop dp un gd "law" lawScope L a ccd (lawCl c1 c2) []) (exec (nthStmt 7 lawBody) (envX "law" lawScope L a ccd (lawCl c1 c2))) Q (fun _ _ => False) s := by
  have hm := mark_Law6
  have turn : ∀ k t m₁ h tk oc I io need, (lf, LCg.lst [.ref y0, .ref y1]) ∈ need → (y1, instObj 179 d1) ∈ need → (d1, dictOf [⟨k1, .str "length" s1, .int z1 t1⟩] 1) ∈ need → (y0, instObj 179 d0) ∈ need → (d0, dictOf [⟨k0, .str "length" s0, .int z0 t0⟩] 1) ∈ need → (ls, listOf #[.int z0 t0, .int z1 t1] 0) ∈ need →
      (VJ [(Str.ofString "fixed", .ref lf), (Str.ofString "sizes", .ref ls)]) m₁ → oc.data = .cell (some (.int k t)) → Fr h₀ L h m₁ → News h₀ L h ((c2, oc) :: (I, io) :: need) →
      wpAny (model PG w) (ktrTop dp un gd "law" lawScope L a ccd (lawCl c1 c2) []) (execs turn2 (envX "law" lawScope L a ccd (lawCl c1 c2))) (CTurn h₀ L I c2 io need (VJ [(Str.ofString "fixed", .ref lf), (Str.ofString "sizes", .ref ls)]) { s with heap := h, toks := tk }) (fun _ _ => False) { s with heap := h, toks := tk } := by
    intro k t m₁ h tk oc I io need w1 w2 w3 w4 w5 w6 hJ hoc F N
    refine wpAny_mono (turn2_all B F X XB N T TB hdp hun hJ (.head _) hoc (.tail _ (.tail _ w1)) (.tail _ (.tail _ w2)) (.tail _ (.tail _ w3)) (.tail _ (.tail _ w4)) (.tail _ (.tail _ w5)) (.tail _ (.tail _ w6)) g1 g2 g3 g4) (fun f s' hf => ?_) fun _ _ e => e
    obtain ⟨rfl, h', tk', m', news', rfl, F', N', hs, hJ'⟩ := hf
    exact ⟨.inl rfl, h', tk', m', oc, _, news', rfl, F', N', fun p hp => hs p (.tail _ hp), hs _ (.head _), hoc, hJ'⟩
  have F := F₀
  rw [← vlook_eq hJ] at F
  clear F₀
  generalize hb1 : turn2 = body1 at turn
  generalize hst : nthStmt 7 lawBody = st
  conv at hst => lhs; whnf
  subst hst
  conv at hb1 => lhs; whnf
  subst hb1
  refine For_cell (h₀ := h₀) (c := c2) rfl rfl rfl ?_
  generalize hcs : lawScope = cs at turn ⊢
  conv at hcs => lhs; whnf
  subst hcs
  w_top on
  k_steps
  refine' item_litK ?k1 ?k2 ?k3 ?k4 ?_ ?k6
  case k1 => exact News.isList (by k_asm) (by k_mem)
  case k2 => decide
  case k3 => decide
  case k4 => rfl
  case k6 => with_unfolding_all rfl
  k_steps
  refine' item_litK ?k1 ?k2 ?k3 ?k4 ?_ ?k6
  case k1 => exact News.isList (by k_asm) (by k_mem)
  case k2 => decide
  case k3 => decide
  case k4 => rfl
  case k6 => with_unfolding_all rfl
  iterate 7 walk1
  rename News _ _ _ _ => N9
  rename Fr _ _ _ _ => F9
  refine' iterC_list ((_, _) :: [(lf, LCg.lst [.ref y0, .ref y1]), (y1, instObj 179 d1), (d1, dictOf [⟨k1, .str "length" s1, .int z1 t1⟩] 1), (y0, instObj 179 d0), (d0, dictOf [⟨k0, .str "length" s0, .int z0 t0⟩] 1), (ls, listOf #[.int z0 t0, .int z1 t1] 0)]) (VJ [(Str.ofString "fixed", .ref lf), (Str.ofString "sizes", .ref ls)]) rfl (.head _) ?hcl ?hda F9 N9 (.tail _ hc) hoc (List.forall_mem_cons.2 ⟨.head _, ?rest⟩) ?hap ?hJ2 ?turn ?done
  case hcl => rfl
  case hda => rfl
  case rest =>
    intro p hp
    simp only [List.mem_cons, List.not_mem_nil, or_false] at hp
    exact .tail _ (by rcases hp with rfl | rfl | rfl | rfl | rfl | rfl <;> assumption)
  case hap =>
    refine List.forall_mem_cons.2 ⟨apart_cell N9 (.head _) (.tail _ hc) (fun e => by subst e; cases hoc), fun p hp => ?_⟩
    have hp' := hp
    simp only [List.mem_cons, List.not_mem_nil, or_false] at hp
    refine apart_cell N9 (.tail _ (by rcases hp with rfl | rfl | rfl | rfl | rfl | rfl <;> assumption)) (.tail _ hc) (fun e => ?_)
    subst e
    rcases hp with rfl | rfl | rfl | rfl | rfl | rfl <;> cases hoc
  case hJ2 => exact .cons rfl (.cons rfl .nil)
  case done =>
    intro h tk m₁ oc vc _ _ F N
    exact done h tk m₁ _ F N
  case turn =>
    intro v m₁ h tk oc I io hv hJ hoc F N
    have hm : ∀ k t, oc.data = .cell (some (.int k t)) → _ := fun k t hoc => turn k t m₁ h tk oc I io _ (.tail _ (.head _)) (.tail _ (.tail _ (.head _))) (.tail _ (.tail _ (.tail _ (.head _)))) (.tail _ (.tail _ (.tail _ (.tail _ (.head _))))) (.tail _ (.tail _ (.tail _ (.tail _ (.tail _ (.head _)))))) (.tail _ (.tail _ (.tail _ (.tail _ (.tail _ (.tail _ (.head _))))))) hJ hoc F N
    simp only [List.mem_toArray, List.mem_cons, List.not_mem_nil, or_false] at hv
    rcases hv with rfl | rfl | rfl | rfl | rfl <;> exact hm _ _ hoc
end
end Mine
end
section
open PySem PySem.W PyProof.Rows PySem.Calls
set_option maxRecDepth 100000
set_option maxHeartbeats 2000000
namespace Mine
local macro_rules | `(tactic| walk_at "none0") => `(tactic| fail)
local macro_rules | `(tactic| walk_at "none1") => `(tactic| fail)
local macro_rules | `(tactic| walk_at "none2") => `(tactic| fail)
local macro_rules | `(tactic| walk_at "none3") => `(tactic| fail)
local macro_rules | `(tactic| walk_at "none4") => `(tactic| fail)
local macro_rules | `(tactic| walk_at "none5") => `(tactic| fail)
local macro_rules | `(tactic| walk_at "none6") => `(tactic| fail)
local macro_rules | `(tactic| walk_at "none7") => `(tactic| fail)
local macro_rules | `(tactic| walk_at "none8") => `(tactic| fail)
local macro_rules | `(tactic| walk_at "none9") => `(tactic| fail)
local macro_rules | `(tactic| walk_at "none10") => `(tactic| fail)
local macro_rules | `(tactic| walk_at "none11") => `(tactic| fail)
noncomputable section
theorem mark_NewB : Mark PySem.Challenge.rw_bi0018_01 hd.heap_39 := by
  k_fill
  trivial
local macro_rules | `(tactic| k_room) => `(tactic| ktr_room)
local macro_rules | `(tactic| k_mem) => `(tactic| (k_dflt assumption))
theorem newB_end {h₀ h' : Heap} {L x d : Addr} {m : Str → Option Value} {news : List (Addr × Obj)} {s : Shared} {Q : Value → Shared → Prop} {tk' : Nat} {lo : Int} {hi : Option Int} {em : Bool} {th tl' : Tok} {h1 h2 h3 : Int} {t1 t2 t3 : Tok}
    (hret : ∀ (h' : Heap) (tk' : Nat) (x d : Addr) (h1 h2 h3 : Int) (t1 t2 t3 tl' : Tok), Fr h₀ L h' m → News h₀ L h' ((x, instObj 129 d) :: (d, binD h1 h2 h3 t1 t2 t3 (.int lo tl') (hiV hi th) (.bool em)) :: news) → Q (.ref x) { s with heap := h', toks := tk' })
    (F : Fr h₀ L h' m) (N : News h₀ L h' ((x, instObj 129 d) :: (d, binD h1 h2 h3 t1 t2 t3 (.int lo tl') (hiV hi th) (.bool em)) :: news)) : Q (.ref x) { s with heap := h', toks := tk' } := hret h' tk' x d h1 h2 h3 t1 t2 t3 tl' F N
theorem c_newB1 {w : World} {mean : ExcName → Option Value} {mg mb : Str → Option Value} {dp un : Nat} {gd : Option (List Code)} {a c1 c2 : Addr} {ccd : Value} {outer : List Env} {A₀ : Around} {base h₀ : Heap} {L : Addr} {m : Str → Option Value} {s : Shared} {Q E : Value → Shared → Prop} {news : List (Addr × Obj)}
    {lo : Int} {tl : Tok} {hi : Option Int} {th : Tok} {em : Bool}
    (B : Below A₀ base outer h₀) (F : Fr h₀ L s.heap m) (X : (hd.heap_39 w.params).In h₀) (N : News h₀ L s.heap news) (T : Top hd.view_39 LO mean mg mb h₀) (hdp : dp + 6 < recursionLimit)
    (hret : ∀ (h' : Heap) (tk' : Nat) (x d : Addr) (h1 h2 h3 : Int) (t1 t2 t3 tl' : Tok), Fr h₀ L h' m → News h₀ L h' ((x, instObj 129 d) :: (d, binD h1 h2 h3 t1 t2 t3 (.int lo tl') (hiV hi th) (.bool em)) :: news) → Q (.ref x) { s with heap := h', toks := tk' }) :
    wpAny (model PG w) (ktrTop dp un gd "law" lawScope L a ccd (lawCl c1 c2) outer) (call (.ref 129) [.int lo tl, hiV hi th, .bool em]) Q E s := by
  have hm := mark_NewB
  generalize hcs : lawScope = cs
  conv at hcs => lhs; whnf
  subst hcs
  rcases hi with _ | b
  all_goals (
    dsimp only [hiV]
    w_top on
    k_steps)
  all_goals first
    | exact newB_end hret (by k_asm) (by assumption)
    | (have e0 : lo = 0 := (by omega); subst e0; exact newB_end hret (by k_asm) (by assumption))
theorem c_newB0 {w : World} {mean : ExcName → Option Value} {mg mb : Str → Option Value} {dp un : Nat} {gd : Option (List Code)} {a c1 c2 : Addr} {ccd : Value} {outer : List Env} {A₀ : Around} {base h₀ : Heap} {L : Addr} {m : Str → Option Value} {s : Shared} {Q E : Value → Shared → Prop} {news : List (Addr × Obj)}
     {hi : Option Int} {th : Tok} {em : Bool}
    (B : Below A₀ base outer h₀) (F : Fr h₀ L s.heap m) (X : (hd.heap_39 w.params).In h₀) (N : News h₀ L s.heap news) (T : Top hd.view_39 LO mean mg mb h₀) (hdp : dp + 6 < recursionLimit)
    (hret : ∀ (h' : Heap) (tk' : Nat) (x d : Addr) (h1 h2 h3 : Int) (t1 t2 t3 tl' : Tok), Fr h₀ L h' m → News h₀ L h' ((x, instObj 129 d) :: (d, binD h1 h2 h3 t1 t2 t3 (.int 0 tl') (hiV hi th) (.bool em)) :: news) → Q (.ref x) { s with heap := h', toks := tk' }) :
    wpAny (model PG w) (ktrTop dp un gd "law" lawScope L a ccd (lawCl c1 c2) outer) (call (.ref 129) [.none, hiV hi th, .bool em]) Q E s := by
  have hm := mark_NewB
  generalize hcs : lawScope = cs
  conv at hcs => lhs; whnf
  subst hcs
  rcases hi with _ | b
  all_goals (
    dsimp only [hiV]
    w_top on
    k_steps)
  all_goals exact newB_end hret (by k_asm) (by assumption)
end
end Mine
end
section
open PySem PySem.W PyProof.Rows PySem.Calls
set_option maxRecDepth 100000
set_option maxHeartbeats 8000000
namespace Mine
noncomputable section
theorem mark_Law7 : Mark PySem.Challenge.rw_bi0018_01 hd.heap_39 := by
  k_fill
  trivial
local macro_rules | `(tactic| k_room) => `(tactic| ktr_room)
local macro_rules | `(tactic| k_mem) => `(tactic| (k_dflt assumption))
theorem law_ret {w : World} {dp un : Nat} {gd : Option (List Code)} {L a : Addr} {ccd : Value} {c1 c2 : Addr} {h₀ : Heap} {m : Str → Option Value} {s : Shared} {news : List (Addr × Obj)}
    {Q : Flow → Shared → Prop} (F : Fr h₀ L s.heap m) (N : News h₀ L s.heap news)
    (hret : ∀ h tk m' news', Fr h₀ L h m' → News h₀ L h news' → Q (.ret (.bool true)) { s with heap := h, toks := tk }) :
    wpAny (model PG w) (ktrTop dp un gd "law" lawScope L a ccd (lawCl c1 c2) []) (execs (lawBody.drop 8) (envX "law" lawScope L a ccd (lawCl c1 c2))) Q (fun _ _ => False) s := by
  have hm := mark_Law7
  generalize hcs : lawScope = cs
  conv at hcs => lhs; whnf
  generalize hb : lawBody = body
  conv at hb => lhs; whnf
  subst hcs hb
  simp only [List.drop_succ_cons, List.drop_zero]
  w_top on
  k_steps
  exact hret _ _ _ _ F N
theorem law_tail {w : World} {mean : ExcName → Option Value} {mg mb : Str → Option Value} {dp un : Nat} {gd : Option (List Code)} {L a : Addr} {ccd : Value} {c1 c2 : Addr} {A₀ : Around} {base h₀ : Heap} {m : Str → Option Value} {s : Shared} {news : List (Addr × Obj)}
    {lv x1 x2 x3 dx1 dx2 dx3 : Addr} {tl th : Tok} {least : Int} {hi : Option Int} {em : Bool} {oc1 oc2 : Obj} {vc1 vc2 : Option Value} {p1 p2 p3 q1 q2 q3 r1 r2 r3 : Int} {u1 u2 u3 v1 v2 v3 w1 w2 w3 tl1 tl2 tl3 th1 th2 th3 : Tok} {vs : List Value} {ns : List Int} {Q : Flow → Shared → Prop}
    (B : Below A₀ base [] h₀) (F : Fr h₀ L s.heap m) (X : (hd.heap_39 w.params).In h₀) (XB : (hd.heap_39 w.params).In base) (N : News h₀ L s.heap news) (T : Top hd.view_39 LO mean mg mb h₀) (TB : Top hd.view_39 LO mean mg mb base) (hdp : dp + 40 < recursionLimit) (hun : un < cLine)
    (hJ : VJ (vars1 lv least tl (hiV hi th) em x1 x2 x3) m) (hL : base.IsList lv vs.toArray) (hI : IntsAre vs ns) (hlay : (PyData.list (ns.map PyData.int)).layable0 = true) (hn : ns.length ≤ 63) (hl0 : 0 ≤ least)
    (hc1 : (c1, oc1) ∈ news) (hoc1 : oc1.data = .cell vc1) (hc2 : (c2, oc2) ∈ news) (hoc2 : oc2.data = .cell vc2) (hcc : c2 ≠ c1)
    (hx1 : (x1, instObj 129 dx1) ∈ news) (hdx1 : (dx1, binD p1 p2 p3 u1 u2 u3 (.int least tl1) (hiV hi th1) (.bool em)) ∈ news) (hx2 : (x2, instObj 129 dx2) ∈ news) (hdx2 : (dx2, binD q1 q2 q3 v1 v2 v3 (.int least tl2) (hiV none th2) (.bool em)) ∈ news) (hx3 : (x3, instObj 129 dx3) ∈ news) (hdx3 : (dx3, binD r1 r2 r3 w1 w2 w3 (.int 0 tl3) (hiV hi th3) (.bool em)) ∈ news)
    (hret : ∀ h tk m' news', Fr h₀ L h m' → News h₀ L h news' → Q (.ret (.bool true)) { s with heap := h, toks := tk }) :
    wpAny (model PG w) (ktrTop dp un gd "law" lawScope L a ccd (lawCl c1 c2) []) (execs (lawBody.drop 3) (envX "law" lawScope L a ccd (lawCl c1 c2))) Q (fun _ _ => False) s := by
  have es : lawBody.drop 3 = nthStmt 3 lawBody :: lawBody.drop 4 := rfl
  rw [es]
  obtain ⟨need, hneed⟩ : ∃ need, need = [(c2, oc2), (x1, instObj 129 dx1), (dx1, binD p1 p2 p3 u1 u2 u3 (.int least tl1) (hiV hi th1) (.bool em)), (x2, instObj 129 dx2), (dx2, binD q1 q2 q3 v1 v2 v3 (.int least tl2) (hiV none th2) (.bool em)), (x3, instObj 129 dx3), (dx3, binD r1 r2 r3 w1 w2 w3 (.int 0 tl3) (hiV hi th3) (.bool em))] := ⟨_, rfl⟩
  have e0 : (c2, oc2) ∈ need := by rw [hneed]; simp
  have e1 : (x1, instObj 129 dx1) ∈ need := by rw [hneed]; simp
  have e2 : (dx1, binD p1 p2 p3 u1 u2 u3 (.int least tl1) (hiV hi th1) (.bool em)) ∈ need := by rw [hneed]; simp
  have e3 : (x2, instObj 129 dx2) ∈ need := by rw [hneed]; simp
  have e4 : (dx2, binD q1 q2 q3 v1 v2 v3 (.int least tl2) (hiV none th2) (.bool em)) ∈ need := by rw [hneed]; simp
  have e5 : (x3, instObj 129 dx3) ∈ need := by rw [hneed]; simp
  have e6 : (dx3, binD r1 r2 r3 w1 w2 w3 (.int 0 tl3) (hiV hi th3) (.bool em)) ∈ need := by rw [hneed]; simp
  have hsub : ∀ p ∈ need, p ∈ news := by
    intro p hp
    rw [hneed] at hp
    simp only [List.mem_cons, List.not_mem_nil, or_false] at hp
    rcases hp with rfl | rfl | rfl | rfl | rfl | rfl | rfl <;> assumption
  have hap : ∀ p ∈ need, p.1 ≠ c1 := by
    intro p hp
    have hp' := hsub p hp
    rw [hneed] at hp
    simp only [List.mem_cons, List.not_mem_nil, or_false] at hp
    rcases hp with rfl | hp
    · exact hcc
    · refine apart_cell N hp' hc1 (fun e => ?_)
      subst e
      rcases hp with rfl | rfl | rfl | rfl | rfl | rfl <;> cases hoc1
  refine wpAny_execs_cons (law_for1 (n := 0) (tn := 0) (need := need) B X XB T TB (by omega) hun hl0 e1 e2 e3 e4 e5 e6 F hJ N hc1 hoc1 hsub hap fun h tk m₁ oc vc hJ hoc F N => ?_)
  dsimp only
  refine execs_cut 1 (wpAny_mono (law_if5 B F X XB N T TB hdp hun hJ (.tail _ e1) (.tail _ e2)) (fun f s' hf => ?_) fun _ _ e => e)
  obtain ⟨rfl, h', tk', m', news', rfl, F, N, hs, hJ⟩ := hf
  dsimp only
  rw [List.drop_drop]
  refine execs_cut 1 (law_sizes B F X XB N T TB hdp hun (.cons (hJ _ (.head _)) .nil) hL hI hlay hn fun h₂ tk₂ m₂ ls z0 z1 t0 t1 g1 g2 g3 g4 F hJ N _ => ?_)
  dsimp only
  rw [List.drop_drop]
  have wc : (c2, oc2) ∈ news' := hs _ (.tail _ e0)
  refine execs_cut 1 (law_fixed B F X XB N T TB hdp hun hJ (.head _) fun h₃ tk₃ m₃ lf y0 d0 y1 d1 k0 k1 s0 s1 F hJ N => ?_)
  dsimp only
  rw [List.drop_drop]
  have es7 : lawBody.drop 7 = nthStmt 7 lawBody :: lawBody.drop 8 := rfl
  show wpAny _ _ (execs (lawBody.drop 7) _) _ _ _
  rw [es7]
  refine wpAny_execs_cons (law_for2 B F X XB N T TB hdp hun hJ hL hI hlay hn (.tail _ (.tail _ (.tail _ (.tail _ (.tail _ (.tail _ wc)))))) hoc2 (.head _) (.tail _ (.head _)) (.tail _ (.tail _ (.head _))) (.tail _ (.tail _ (.tail _ (.head _)))) (.tail _ (.tail _ (.tail _ (.tail _ (.head _))))) (.tail _ (.tail _ (.tail _ (.tail _ (.tail _ (.head _)))))) g1 g2 g3 g4 fun h₄ tk₄ m₄ news₄ F N => ?_)
  dsimp only
  exact law_ret F N fun h tk m' news' F N => hret h tk m' news' F N
end
end Mine
end
section
open PySem PySem.W PyProof.Rows PySem.Calls
set_option maxRecDepth 100000
set_option maxHeartbeats 2000000
namespace Mine
local macro_rules | `(tactic| walk_at "none0") => `(tactic| fail)
local macro_rules | `(tactic| walk_at "none1") => `(tactic| fail)
local macro_rules | `(tactic| walk_at "none2") => `(tactic| fail)
local macro_rules | `(tactic| walk_at "none3") => `(tactic| fail)
local macro_rules | `(tactic| walk_at "none4") => `(tactic| fail)
local macro_rules | `(tactic| walk_at "none5") => `(tactic| fail)
local macro_rules | `(tactic| walk_at "none6") => `(tactic| fail)
local macro_rules | `(tactic| walk_at "none7") => `(tactic| fail)
local macro_rules | `(tactic| walk_at "none8") => `(tactic| fail)
local macro_rules | `(tactic| walk_at "none9") => `(tactic| fail)
local macro_rules | `(tactic| walk_at "none10") => `(tactic| fail)
local macro_rules | `(tactic| walk_at "none11") => `(tactic| fail)
noncomputable section
theorem mark_Law8 : Mark PySem.Challenge.rw_bi0018_01 hd.heap_39 := by
  k_fill
  trivial
local macro_rules | `(tactic| k_room) => `(tactic| ktr_room)
local macro_rules | `(tactic| k_mem) => `(tactic| (k_dflt assumption))
theorem news_tail {h₀ h : Heap} {L : Addr} {a : Addr × Obj} {news : List (Addr × Obj)} (N : News h₀ L h (a :: news)) : News h₀ L h news := fun p hp => N p (.tail _ hp)
theorem law_s0 {w : World} {mean : ExcName → Option Value} {mg mb : Str → Option Value} {dp un : Nat} {gd : Option (List Code)} {L a : Addr} {ccd : Value} {c1 c2 : Addr} {A₀ : Around} {base h₀ : Heap} {m : Str → Option Value} {s : Shared} {news : List (Addr × Obj)}
    {lv : Addr} {vs : List Value} {ns : List Int} {Q : Flow → Shared → Prop}
    (B : Below A₀ base [] h₀) (F₀ : Fr h₀ L s.heap m) (X : (hd.heap_39 w.params).In h₀) (N : News h₀ L s.heap news) (T : Top hd.view_39 LO mean mg mb h₀) (hdp : dp + 40 < recursionLimit)
    (hJ : VJ [(Str.ofString "script", .ref lv)] m) (hL : base.IsList lv vs.toArray) (hI : IntsAre vs ns) (hlay : (PyData.list (ns.map PyData.int)).layable0 = true) (hn : ns.length ≤ 63)
    (hret : ∀ h' tk' m' least span em tl ts, 0 ≤ least → Fr h₀ L h' m' → VJ [(Str.ofString "script", .ref lv), (Str.ofString "least", .int least tl), (Str.ofString "span", .int span ts), (Str.ofString "empty", .bool em)] m' → News h₀ L h' news → Q .next { s with heap := h', toks := tk' }) :
    wpAny (model PG w) (ktrTop dp un gd "law" lawScope L a ccd (lawCl c1 c2) []) (execs (lawBody.take 1) (envX "law" lawScope L a ccd (lawCl c1 c2))) Q (fun _ _ => False) s := by
  have hm := mark_Law8
  have F := F₀
  rw [← vlook_eq hJ] at F
  clear F₀
  generalize hcs : lawScope = cs
  conv at hcs => lhs; whnf
  generalize hb : lawBody = body
  conv at hb => lhs; whnf
  subst hcs hb
  simp only [List.take_succ_cons, List.take_zero]
  w_top on
  k_steps
  rename Fr _ _ _ _ => F8
  rename News _ _ _ _ => N8
  exact hret _ _ _ _ _ _ _ _ (fmod_lo _ (by decide)) F8 (.cons rfl (.cons rfl (.cons rfl (.cons rfl .nil)))) (news_tail N8)
end
end Mine
end
section
open PySem PySem.W PyProof.Rows PySem.Calls
set_option maxRecDepth 100000
set_option maxHeartbeats 2000000
namespace Mine
noncomputable section
theorem mark_Law8b : Mark PySem.Challenge.rw_bi0018_01 hd.heap_39 := by
  k_fill
  trivial
local macro_rules | `(tactic| k_room) => `(tactic| ktr_room)
local macro_rules | `(tactic| k_mem) => `(tactic| (k_dflt assumption))
theorem law_s1 {w : World} {mean : ExcName → Option Value} {mg mb : Str → Option Value} {dp un : Nat} {gd : Option (List Code)} {L a : Addr} {ccd : Value} {c1 c2 : Addr} {A₀ : Around} {base h₀ : Heap} {m : Str → Option Value} {s : Shared} {news : List (Addr × Obj)}
    {lv : Addr} {least span : Int} {em : Bool} {tl ts : Tok} {Q : Flow → Shared → Prop}
    (B : Below A₀ base [] h₀) (F₀ : Fr h₀ L s.heap m) (X : (hd.heap_39 w.params).In h₀) (N : News h₀ L s.heap news) (T : Top hd.view_39 LO mean mg mb h₀) (hdp : dp + 40 < recursionLimit)
    (hJ : VJ [(Str.ofString "script", .ref lv), (Str.ofString "least", .int least tl), (Str.ofString "span", .int span ts), (Str.ofString "empty", .bool em)] m)
    (hret : ∀ h' tk' m' mv, Fr h₀ L h' m' → VJ [(Str.ofString "script", .ref lv), (Str.ofString "least", .int least tl), (Str.ofString "most", mv), (Str.ofString "empty", .bool em)] m' → News h₀ L h' news → (∃ hi th, mv = hiV hi th) → Q .next { s with heap := h', toks := tk' }) :
    wpAny (model PG w) (ktrTop dp un gd "law" lawScope L a ccd (lawCl c1 c2) []) (execs ((lawBody.drop 1).take 1) (envX "law" lawScope L a ccd (lawCl c1 c2))) Q (fun _ _ => False) s := by
  have hm := mark_Law8b
  have F := F₀
  rw [← vlook_eq hJ] at F
  clear F₀
  generalize hcs : lawScope = cs
  conv at hcs => lhs; whnf
  generalize hb : lawBody = body
  conv at hb => lhs; whnf
  subst hcs hb
  simp only [List.take_succ_cons, List.take_zero, List.drop_succ_cons, List.drop_zero]
  w_top on
  k_steps
  all_goals (
    rename Fr _ _ _ _ => F8
    rename News _ _ _ _ => N8
    first
      | exact hret _ _ _ _ F8 (.cons rfl (.cons rfl (.cons rfl (.cons rfl .nil)))) N8 ⟨some _, _, rfl⟩
      | exact hret _ _ _ _ F8 (.cons rfl (.cons rfl (.cons rfl (.cons rfl .nil)))) N8 ⟨none, 0, rfl⟩)
end
end Mine
end
section
open PySem PySem.W PyProof.Rows PySem.Calls
set_option maxRecDepth 100000
set_option maxHeartbeats 1000000
namespace Mine
local macro_rules | `(tactic| walk_at "none0") => `(tactic| fail)
local macro_rules | `(tactic| walk_at "none1") => `(tactic| fail)
local macro_rules | `(tactic| walk_at "none2") => `(tactic| fail)
local macro_rules | `(tactic| walk_at "none3") => `(tactic| fail)
local macro_rules | `(tactic| walk_at "none4") => `(tactic| fail)
local macro_rules | `(tactic| walk_at "none5") => `(tactic| fail)
local macro_rules | `(tactic| walk_at "none6") => `(tactic| fail)
local macro_rules | `(tactic| walk_at "none7") => `(tactic| fail)
local macro_rules | `(tactic| walk_at "none8") => `(tactic| fail)
local macro_rules | `(tactic| walk_at "none9") => `(tactic| fail)
local macro_rules | `(tactic| walk_at "none10") => `(tactic| fail)
local macro_rules | `(tactic| walk_at "none11") => `(tactic| fail)
noncomputable section
theorem mark_Law9 : Mark PySem.Challenge.rw_bi0018_01 hd.heap_39 := by
  k_fill
  trivial
local macro_rules | `(tactic| k_room) => `(tactic| ktr_room)
local macro_rules | `(tactic| k_mem) => `(tactic| (k_dflt assumption))
local macro_rules | `(tactic| walk_at "eval Call") => `(tactic| (k_here; (with_reducible show wpAny _ _ (eval (Expr.Call (Expr.Name _ _) _ [] _) _) _ _ _); k_dflt (refine Call_ ?_)))
local macro_rules | `(tactic| walk_at "call ref") => `(tactic| (k_here; k_dflt (first
  | (refine' c_newB1 (hi := none) (th := 0) ?B ?F ?X ?N ?T ?hdp ?_; (case B => k_asm); (case F => k_asm); (case X => k_asm); (case N => k_asm); (case T => k_asm); (case hdp => ktr_room))
  | (refine' c_newB1 (hi := some _) ?B ?F ?X ?N ?T ?hdp ?_; (case B => k_asm); (case F => k_asm); (case X => k_asm); (case N => k_asm); (case T => k_asm); (case hdp => ktr_room))
  | (refine' c_newB0 (hi := none) (th := 0) ?B ?F ?X ?N ?T ?hdp ?_; (case B => k_asm); (case F => k_asm); (case X => k_asm); (case N => k_asm); (case T => k_asm); (case hdp => ktr_room))
  | (refine' c_newB0 (hi := some _) ?B ?F ?X ?N ?T ?hdp ?_; (case B => k_asm); (case F => k_asm); (case X => k_asm); (case N => k_asm); (case T => k_asm); (case hdp => ktr_room))); intro h' tk' x' d' h1' h2' h3' t1' t2' t3' tl' F' N'; (try dsimp only [hiV] at N')))
theorem law_s2 {w : World} {mean : ExcName → Option Value} {mg mb : Str → Option Value} {dp un : Nat} {gd : Option (List Code)} {L a : Addr} {ccd : Value} {c1 c2 : Addr} {A₀ : Around} {base h₀ : Heap} {m : Str → Option Value} {s : Shared} {news : List (Addr × Obj)}
    {lv : Addr} {least : Int} {hi : Option Int} {em : Bool} {tl th : Tok} {Q : Flow → Shared → Prop}
    (B : Below A₀ base [] h₀) (F₀ : Fr h₀ L s.heap m) (X : (hd.heap_39 w.params).In h₀) (N : News h₀ L s.heap news) (T : Top hd.view_39 LO mean mg mb h₀) (hdp : dp + 40 < recursionLimit)
    (hJ : VJ [(Str.ofString "script", .ref lv), (Str.ofString "least", .int least tl), (Str.ofString "most", hiV hi th), (Str.ofString "empty", .bool em)] m)
    (hret : ∀ h' tk' m' x1 dx1 x2 dx2 x3 dx3 p1 p2 p3 u1 u2 u3 tl1 q1 q2 q3 v1 v2 v3 tl2 th2 r1 r2 r3 w1 w2 w3 tl3, Fr h₀ L h' m' → VJ (vars1 lv least tl (hiV hi th) em x1 x2 x3) m' →
      News h₀ L h' ((x3, instObj 129 dx3) :: (dx3, binD r1 r2 r3 w1 w2 w3 (.int 0 tl3) (hiV hi th) (.bool em)) :: (x2, instObj 129 dx2) :: (dx2, binD q1 q2 q3 v1 v2 v3 (.int least tl2) (hiV none th2) (.bool em)) :: (x1, instObj 129 dx1) :: (dx1, binD p1 p2 p3 u1 u2 u3 (.int least tl1) (hiV hi th) (.bool em)) :: news) → Q .next { s with heap := h', toks := tk' }) :
    wpAny (model PG w) (ktrTop dp un gd "law" lawScope L a ccd (lawCl c1 c2) []) (execs ((lawBody.drop 2).take 1) (envX "law" lawScope L a ccd (lawCl c1 c2))) Q (fun _ _ => False) s := by
  have hm := mark_Law9
  have F := F₀
  rw [← vlook_eq hJ] at F
  clear F₀
  generalize hcs : lawScope = cs
  conv at hcs => lhs; whnf
  generalize hb : lawBody = body
  conv at hb => lhs; whnf
  subst hcs hb
  simp only [List.take_succ_cons, List.take_zero, List.drop_succ_cons, List.drop_zero]
  rcases hi with _ | b
  all_goals (
    dsimp only [hiV] at F
    w_top on
    k_steps
    rename Fr _ _ _ _ => F8
    rename News _ _ _ _ => N8
    exact hret _ _ _ _ _ _ _ _ _ _ _ _ _ _ _ _ _ _ _ _ _ _ _ 0 _ _ _ _ _ _ _ F8 (.cons rfl (.cons rfl (.cons rfl (.cons rfl (.cons rfl (.cons rfl (.cons rfl .nil))))))) (news_tail N8))
end
end Mine
end
section
open PySem PySem.W PyProof.Rows PySem.Calls
set_option maxRecDepth 100000
set_option maxHeartbeats 8000000
namespace Mine
noncomputable section
theorem law_all {w : World} {mean : ExcName → Option Value} {mg mb : Str → Option Value} {dp un : Nat} {gd : Option (List Code)} {L a : Addr} {ccd : Value} {c1 c2 : Addr} {A₀ : Around} {base h₀ : Heap} {m : Str → Option Value} {s : Shared} {news : List (Addr × Obj)}
    {lv : Addr} {oc1 oc2 : Obj} {vc1 vc2 : Option Value} {vs : List Value} {ns : List Int} {Q : Flow → Shared → Prop} {E : Value → Shared → Prop}
    (B : Below A₀ base [] h₀) (F : Fr h₀ L s.heap m) (X : (hd.heap_39 w.params).In h₀) (XB : (hd.heap_39 w.params).In base) (N : News h₀ L s.heap news) (T : Top hd.view_39 LO mean mg mb h₀) (TB : Top hd.view_39 LO mean mg mb base) (hdp : dp + 40 < recursionLimit) (hun : un < cLine)
    (hJ : VJ [(Str.ofString "script", .ref lv)] m) (hL : base.IsList lv vs.toArray) (hI : IntsAre vs ns) (hlay : (PyData.list (ns.map PyData.int)).layable0 = true) (hn : ns.length ≤ 63)
    (hc1 : (c1, oc1) ∈ news) (hoc1 : oc1.data = .cell vc1) (hc2 : (c2, oc2) ∈ news) (hoc2 : oc2.data = .cell vc2) (hcc : c2 ≠ c1)
    (hret : ∀ h tk m' news', Fr h₀ L h m' → News h₀ L h news' → Q (.ret (.bool true)) { s with heap := h, toks := tk }) :
    wpAny (model PG w) (ktrTop dp un gd "law" lawScope L a ccd (lawCl c1 c2) []) (execs lawBody (envX "law" lawScope L a ccd (lawCl c1 c2))) Q E s := by
  refine wpAny_mono (E := fun _ _ => False) ?_ (fun _ _ q => q) (fun _ _ e => e.elim)
  refine execs_cut 1 (law_s0 B F X N T hdp hJ hL hI hlay hn fun h₁ tk₁ m₁ least span em tl ts hl0 F hJ N => ?_)
  dsimp only
  refine execs_cut 1 (law_s1 B F X N T hdp hJ fun h₂ tk₂ m₂ mv F hJ N hmv => ?_)
  obtain ⟨hi, th, rfl⟩ := hmv
  dsimp only
  rw [List.drop_drop]
  refine execs_cut 1 (law_s2 B F X N T hdp hJ fun h₃ tk₃ m₃ x1 dx1 x2 dx2 x3 dx3 p1 p2 p3 u1 u2 u3 tl1 q1 q2 q3 v1 v2 v3 tl2 th2 r1 r2 r3 w1 w2 w3 tl3 F hJ N => ?_)
  dsimp only
  rw [List.drop_drop]
  have up : ∀ {p : Addr × Obj} {a b c d e f : Addr × Obj}, p ∈ news → p ∈ a :: b :: c :: d :: e :: f :: news := fun h => .tail _ (.tail _ (.tail _ (.tail _ (.tail _ (.tail _ h)))))
  exact law_tail B F X XB N T TB hdp hun hJ hL hI hlay hn hl0 (up hc1) hoc1 (up hc2) hoc2 hcc (.tail _ (.tail _ (.tail _ (.tail _ (.head _))))) (.tail _ (.tail _ (.tail _ (.tail _ (.tail _ (.head _)))))) (.tail _ (.tail _ (.head _))) (.tail _ (.tail _ (.tail _ (.head _)))) (.head _) (.tail _ (.head _)) fun h tk m' news' F N => hret h tk m' news' F N
end
end Mine
end
section
open PySem PySem.W PyProof.Rows PySem.Calls
set_option maxRecDepth 100000
set_option maxHeartbeats 8000000
namespace Mine
local macro_rules | `(tactic| walk_at "none0") => `(tactic| fail)
local macro_rules | `(tactic| walk_at "none1") => `(tactic| fail)
local macro_rules | `(tactic| walk_at "none2") => `(tactic| fail)
local macro_rules | `(tactic| walk_at "none3") => `(tactic| fail)
local macro_rules | `(tactic| walk_at "none4") => `(tactic| fail)
local macro_rules | `(tactic| walk_at "none5") => `(tactic| fail)
local macro_rules | `(tactic| walk_at "none6") => `(tactic| fail)
local macro_rules | `(tactic| walk_at "none7") => `(tactic| fail)
local macro_rules | `(tactic| walk_at "none8") => `(tactic| fail)
local macro_rules | `(tactic| walk_at "none9") => `(tactic| fail)
local macro_rules | `(tactic| walk_at "none10") => `(tactic| fail)
local macro_rules | `(tactic| walk_at "none11") => `(tactic| fail)
theorem mainHolds : PySem.Challenge.rw_bi0018_01.Holds := hd (by
  w_strict (
    k_go0
    rename News _ _ _ _ => N0
    rename Fr _ _ _ _ => F0
    rename Below _ _ _ _ => K0
    rename Top _ _ _ _ _ _ => T0
    refine law_all (hlay := by assumption) (hI := by assumption) K0 F0 (by assumption) (by assumption) N0 T0 T0 ?hdp ?hun (.cons rfl .nil) (by assumption) ?hn (.tail _ (.head _)) (by assumption) (.head _) (by assumption) ?hcc ?hret
    case hdp => first | decide | exact Nat.lt_of_ble_eq_true rfl | decide +kernel
    case hun => first | decide | exact Nat.lt_of_ble_eq_true rfl | decide +kernel
    case hn => omega
    case hcc => exact Nat.succ_ne_self _
    case hret =>
      intro h tk m' news' F N
      w_top on
      k_steps))
end Mine
end
theorem PySem.Challenge.cw_bi0018_01_holds : PySem.Challenge.rw_bi0018_01.Holds := by
  exact Mine.mainHolds
