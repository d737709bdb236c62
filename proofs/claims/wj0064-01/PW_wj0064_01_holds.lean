import PyProof.Rows.All
import Wide.All
import OpenK.AllK
import Wide.FinOn
import PySem.Challenge.RW_wj0064_01
set_option Elab.async false
-- PHead
section
open PySem PySem.W PyProof.Rows
namespace Mine
def textP : Program := PySem.Challenge.pw_wj0064_01
def view : Program := { textP with main := { textP.main with body := (((textP.main.body.eraseIdx 13).eraseIdx 9).eraseIdx 6).eraseIdx 2 } }
abbrev looseN : List Str := [Str.ofString "_name_disallowed_re", Str.ofString "_value_disallowed_re", Str.ofString "_Accumulator"]
abbrev lawRow : RowW := OpenRow.toRowW (OpenLaw.row PySem.Challenge.rw_wj0064_01)
noncomputable def topO (w : World) (s₀ : Shared) : Option Shared :=
  match s₀.heap.isNs mainGlobals && s₀.gens.size == 0 with
  | true => (topRun treeTable textP w s₀.heap.objs.size (s₀.heap.nsMap mainGlobals "__annotations__") 3534 s₀ (topStub textP)).bind fun s₁ => match staticsOk (importedModules textP.main.body) s₀.heap s₁.heap && namesBound textP s₁.heap && gensDone s₁ && laidKept s₀.heap s₁.heap with
      | true => some s₁
      | false => none
  | false => none
noncomputable def runO (w : World) : Option Shared :=
  ((importEnds treeTable (opening textP) w 3534 (start (opening textP)).1 (start (opening textP)).2).bind (fenceModules? textP)).bind (topO w)
noncomputable def seenO (s : Shared) := openSeen view looseN (importedModules textP.main.body) (fun s => xlAt view [] s && recOk (RowW.records lawRow) s) true s
noncomputable def goodO := openGood view looseN
theorem topO_eq (w : World) : topFrom treeTable textP w 3534 = topO w := by
  funext s
  unfold topFrom topO
  rfl
theorem runO_eq (w : World) : openEnds treeTable textP w 3534 = runO w := by
  unfold openEnds fencedOpening runO
  rw [topO_eq]
set_option maxRecDepth 100000 in
theorem twins : (fun (_ : (World → Option Shared) × (Shared → _) × _) => true) (runO, seenO, goodO) = true := by k_qdec
theorem left_of {α : Type} {Yf : Shared → α} {Ya : World → α}
    (h : ∀ w, (PySem.W.Fast.tw5529113570730868616 w).map (fun s => (PySem.W.Fast.tw61461541009093629 s, Yf s)) = some (PySem.W.Fast.tw5672778457778494143, Ya w)) :
    LeftO textP view looseN (fun s => xlAt view [] s && recOk (RowW.records lawRow) s) Yf Ya 3534 := by
  intro w
  have e := h w
  rw [← PySem.W.Fast.te5529113570730868616, ← PySem.W.Fast.te61461541009093629, ← PySem.W.Fast.te5672778457778494143, ← runO_eq] at e
  exact e
local macro_rules | `(tactic| o_head ($_f:ident $K:term $A:term $e:term)) => `(tactic| (
  refine holds_open (r := OpenLaw.row PySem.Challenge.rw_wj0064_01) (q := view) (loose := looseN) (N := 3534)
    (Xt := fun s => xlAt view [] s && recOk (RowW.records lawRow) s) (XP := XL view [])
    (Yf := (kmHook $K $A $e [215]).obs) (Ya := (kmHook $K $A $e [215]).val) (YP := (kmHook $K $A $e [215]).says)
    (hY := (kmHook $K $A $e [215]).of) (hYk := (kmHook $K $A $e [215]).keeps)
    (hX := fun s e => xl_of s (Bool.and_eq_true_iff.mp e).1) (hXk := XL.keeps)
    (left := left_of ?hl) (hdef := by rfl) (hp := by rfl) (hk := by rfl)
    (hRf := fun s e => recFacts_of (Bool.and_eq_true_iff.mp e).2) (hwr := by rfl) (k1 := by assumption) (ok := by decide +kernel)
    (hb := ⟨rfl, rfl, rfl, rfl, rfl, by decide +kernel⟩) (hw := ?hw) (call := ?hc)
  case hl => (intro w; kernel_rfl)))
set_option maxRecDepth 100000 in
set_option maxHeartbeats 0 in
open_top hd for PySem.Challenge.rw_wj0064_01
theorem top_off : True := by
  w_top off
  trivial
end Mine
end
-- PL1
section
open PySem PySem.Calls PySem.W PyProof.Rows
namespace Mine
section
variable {prog : Program} {w : World} {A : Around} {E : Value → Shared → Prop} {s : Shared} {K : Frag} {x C : Addr} {ox : Obj} {od : Option Obj} {name : Str}
theorem method_any {f t : Value} {ga : String} {pl : Sem Bool} {Q : Value × List Value → Shared → Prop} (X : K.In s.heap) (I : InstAt s.heap x ox C od) (hga : findIn K (.ref C) "__getattribute__" = some (some (.builtin ga)))
    (hcan : (Manifest.canonical ga != "object.__getattribute__") = false) (hk : findIn K (.ref C) "__getattr__" = some none)
    (hf : findIn K (.ref C) name = some (some f)) (ht : typeIn K f = some t) (htt : (t != .type "function" && t != .type "method_descriptor" && t != .type "wrapper_descriptor") = false)
    (hs : shadowIn od name = some false) (h : Q (f, [.ref x]) s) : wpAny (model prog w) A (getMethod (.ref x) name pl) Q E s := by
  unfold getMethod specialOf
  refine wpAny_bind (wpAny_bind (I.type.here ((looks_findIn X hga).here ?_)))
  dsimp only
  rw [hcan, if_neg (by decide)]
  refine wpAny_bind (wpAny_bind (I.type.here ((looks_findIn X hk).here ?_)))
  refine wpAny_bind (wpAny_bind (I.type.here ((looks_findIn X hf).here (wpAny_bind ((looks_typeIn X ht).here ?_)))))
  rw [htt, if_neg (by decide)]
  refine wpAny_bind (wpAny_loadPart I.at_ ?_)
  have hd := I.dict
  cases e : ox.dict with
  | none => exact wpAny_bind (wpAny_rule (wpAny_pure h))
  | some dx =>
    cases od with
    | none => rw [e] at hd; exact hd.elim
    | some o =>
      rw [e] at hd
      obtain ⟨r, a, b⟩ := Option.map_eq_some_iff.mp hs
      refine wpAny_bind (wpAny_bind (wpAny_loadPart hd ?_))
      rw [nsLook_of a]
      refine wpAny_pure ?_
      rw [b]
      exact wpAny_bind (wpAny_rule (wpAny_pure h))
theorem isinst_own {M : Model} {h : Heap} {base : Value} {r : Bool} (X : K.In h) (I : InstAt h x ox C od) (hm : mroIn K C base = some r) : Looks M h (isInstance (.ref x) base) r :=
  I.type.andThen (looks_mroIn X hm)
theorem check_own {id owner n : String} {self : Value} {rest : List Value} {Q : Unit → Shared → Prop} (hk : builtinKind id = some .method ∨ builtinKind id = some .slot) (hsp : splitId id = some (owner, n))
    (hi : Looks (model prog w) s.heap (isInstance self (.type owner)) true) (ha : argsOk id ⟨self :: rest, []⟩) (h : Q () s) :
    wpAny (model prog w) A (checkBuiltinCall id ⟨self :: rest, []⟩) Q E s := by
  rcases hk with hk | hk <;>
  · simp only [checkBuiltinCall, hk, hsp]
    refine wpAny_bind (hi.here ?_)
    simp only [Bool.not_true, Bool.false_eq_true, if_false]
    cases hsig : Manifest.signature? id with
    | none => exact wpAny_pure h
    | some sig =>
      simp only [argsOk, hsig] at ha
      have h2 : Bind.checkArgs id sig ⟨self :: rest, []⟩ = pure () := ha
      show wpAny _ A (Bind.checkArgs id sig ⟨self :: rest, []⟩) Q E s
      rw [h2]; exact wpAny_pure h
theorem call_own {id owner n : String} {b : Builtin} {self : Value} {rest : List Value} {Q : Value → Shared → Prop} (hk : builtinKind id = some .method ∨ builtinKind id = some .slot) (hsp : splitId id = some (owner, n)) (hp : plainId id = true)
    (hb : entryFor table id = some b) (hi : Looks (model prog w) s.heap (isInstance self (.type owner)) true) (ha : argsOk id ⟨self :: rest, []⟩)
    (hc : wpAny (model prog w) A.in1 (b ⟨self :: rest, []⟩) (fun fin s' => ∃ v, fin = .done (.ret v) ∧ Q v s') E s) : wpAny (model prog w) A (call (.builtin id) (self :: rest)) Q E s := by
  refine wpAny_call (codeAny_call_builtin hp hb (check_own hk hsp hi ha (wpAny_mono hc (fun fin s' h' => ?_) fun _ _ h' => h')))
  obtain ⟨v, rfl, hv⟩ := h'; exact hv
theorem append_own {l : Addr} {o : Obj} {its : Array Value} {k : Nat} {y : Value} {Q : Value → Shared → Prop} (ho : s.heap.get? l = some o) (hd : o.data = .seq its k)
    (hi : Looks (model prog w) s.heap (isInstance (.ref l) (.type "list")) true) (hsz : its.size ≤ sizeLine)
    (h : Q .none { s with heap := s.heap.update l (Obj.mapSeq (·.push y)) }) : wpAny (model prog w) A (call (.builtin "list.append") [.ref l, y]) Q E s := by
  refine call_own (owner := "list") (n := "append") (b := Builtin.«list.append») (.inl (by decide +kernel)) (by decide +kernel) (by decide +kernel) entry_list_append hi (args_list_append _ _) ?_
  show wpAny _ _ (updateSeq l (·.push y) >>= fun _ => ret .none) _ _ s
  refine wpAny_bind ?_
  exact wpAny_updateSeq ho hd (wpAny_pure ⟨.none, rfl, h⟩)
def pileO (dx : Addr) (its : Array Value) (k : Nat) : Obj := { cls := .ref 253, dict := some dx, data := .seq its k }
theorem pile_inst {h₀ h : Heap} {L x dx : Addr} {news : List (Addr × Obj)} {its : Array Value} {k : Nat} {od : Obj} (N : News h₀ L h news) (h1 : (x, pileO dx its k) ∈ news) (h2 : (dx, od) ∈ news) :
    InstAt h x (pileO dx its k) 253 (some od) := ⟨(N _ h1).1, rfl, rfl, (N _ h2).1⟩
variable {h₀ : Heap} {L : Addr} {m : Str → Option Value} {news news' : List (Addr × Obj)}
theorem method_pile {f t : Value} {pl : Sem Bool} {dx : Addr} {its : Array Value} {k n : Nat} {es : List DictEntry} {Q : Value × List Value → Shared → Prop} (F : Fr h₀ L s.heap m) (X₀ : K.In h₀) (N : News h₀ L s.heap news)
    (h1 : (x, pileO dx its k) ∈ news) (h2 : (dx, dictOf es n) ∈ news) (hga : findIn K (.ref 253) "__getattribute__" = some (some (.builtin "list.__getattribute__"))) (hk : findIn K (.ref 253) "__getattr__" = some none)
    (hf : findIn K (.ref 253) name = some (some f)) (ht : typeIn K f = some t) (htt : (t != .type "function" && t != .type "method_descriptor" && t != .type "wrapper_descriptor") = false)
    (hl : getL name es = some none) (h : Q (f, [.ref x]) s) : wpAny (model prog w) A (getMethod (.ref x) name pl) Q E s :=
  method_any (X₀.keeps F.keep) (pile_inst N h1 h2) hga (by decide +kernel) hk hf ht htt (by show (lookIn name (dictOf es n)).map _ = _; rw [lookIn_dict, hl]; rfl) h
theorem append_pile {dx : Addr} {its : Array Value} {k n : Nat} {es : List DictEntry} {y : Value} {Q : Value → Shared → Prop} (F : Fr h₀ L s.heap m) (X₀ : K.In h₀) (N : News h₀ L s.heap news)
    (h2 : (dx, dictOf es n) ∈ news) (hm : mroIn K 253 (.type "list") = some true) (U : Upd x (pileO dx its k) (pileO dx (its.push y) (k + 1)) news news') (hsz : its.size ≤ sizeLine)
    (h : ∀ h', Fr h₀ L h' m → News h₀ L h' news' → Q .none { s with heap := h' }) : wpAny (model prog w) A (call (.builtin "list.append") [.ref x, y]) Q E s := by
  obtain ⟨pre, post, rfl, rfl, a, b⟩ := U.split
  have hx : (x, pileO dx its k) ∈ pre ++ (x, pileO dx its k) :: post := List.mem_append.mpr (.inr (.head _))
  have I := pile_inst N hx h2
  have e : Obj.mapSeq (·.push y) (pileO dx its k) = pileO dx (its.push y) (k + 1) := by
    unfold pileO Obj.mapSeq
    simp
  refine append_own (N _ hx).1 rfl (isinst_own (X₀.keeps F.keep) I hm) hsz ?_
  have z := news_upd F N a b e rfl
  exact h _ z.1 z.2
end
theorem news_swap {h₀ h : Heap} {L : Addr} {a b : Addr × Obj} {l : List (Addr × Obj)} (N : News h₀ L h (a :: b :: l)) : News h₀ L h (b :: a :: l) := fun q hq => N q (by
  rcases List.mem_cons.mp hq with rfl | hq
  · exact .tail _ (.head _)
  · rcases List.mem_cons.mp hq with rfl | hq
    · exact .head _
    · exact .tail _ (.tail _ hq))
theorem news_sub {h₀ h : Heap} {L : Addr} {l l' : List (Addr × Obj)} (N : News h₀ L h l) (hs : ∀ q ∈ l', q ∈ l) : News h₀ L h l' := fun q hq => N q (hs q hq)
theorem allLt_ne {d : Addr} : ∀ {l : List (Addr × Obj)}, AllLt d l → ∀ p ∈ l, p.1 ≠ d
  | [], _, _, h => nomatch h
  | _ :: _, h, _, .head _ => Nat.ne_of_lt h.1
  | _ :: _, h, p, .tail _ m => allLt_ne h.2 p m
end Mine
end
-- PC
section
open PySem PySem.W PyProof.Rows
namespace Mine
abbrev Ctxt (w : World) (p : Program) (loose : List Str) (mean : ExcName → Option Value) (mg mb : Str → Option Value) (dp un : Nat) (cs : Scope) (outer : List Env) (A₀ : Around) (base h₀ : Heap) (L : Addr) (m : Str → Option Value) (h : Heap) (led : List (Addr × Obj)) (d : Nat) (P : Prop) : Prop :=
  Below A₀ base outer h₀ → Fr h₀ L h m → (hd.heap_39 w.params).In h₀ → News h₀ L h led → Top p loose mean mg mb h₀ → cs.kind = .function → dp + d < recursionLimit → un + 10 * d < cLine → P
abbrev DefSpec (w : World) (f : Addr) (d : Nat) (args : List Value) (led : List (Addr × Obj)) (Post : Heap → Addr → (Str → Option Value) → Shared → (Value → Shared → Prop) → Prop) : Prop :=
  ∀ (p : Program) (loose : List Str) (mean : ExcName → Option Value) (mg mb : Str → Option Value) (dp un : Nat) (gd : Option (List Code)) (cn : Str) (cs : Scope) (a : Addr) (ccd : Value) (cl : List (Str × Addr)) (outer : List Env) (A₀ : Around) (base h₀ : Heap) (L : Addr) (m : Str → Option Value) (s : Shared) (Q E : Value → Shared → Prop),
    Ctxt w p loose mean mg mb dp un cs outer A₀ base h₀ L m s.heap led d
      (Post h₀ L m s Q → wpAny (model PySem.Challenge.rw_wj0064_01.row.prog w) (ktrTop dp un gd cn cs L a ccd cl outer) (call (.ref f) args) Q E s)
abbrev initD (w : World) (t1 t2 : Tok) (k : Nat) : Obj := dictOf [⟨PyData.keyHash w.params (Str.ofString "_initial_size"), .str (Str.ofString "_initial_size") t1, .int 0 t2⟩] k
abbrev tupO (vs : List Value) (n : Nat) : Obj := { cls := .type "tuple", data := .seq vs.toArray n }
end Mine
end
-- PS
section
open PySem PySem.Calls PySem.W PyProof.Rows
namespace Mine
section
variable {prog : Program} {w : World} {A : Around} {E : Value → Shared → Prop} {h : Heap} {g : Array GenState} {d : Drawn} {t : Nat} {os : OsState} {x C : Addr} {id : String}
theorem get_wrapper {Q : Fin → Shared → Prop} (e : ".".intercalate (id.cutAt '.').dropLast = "list") (hi : Looks (model prog w) h (isInstance (.ref x) (.type "list")) true)
    (hq : Q (.done (.ret (.ref h.objs.size))) ⟨h.push { cls := .type "method-wrapper", data := .fields #[.builtin id, .ref x] }, g, d, t, os⟩) :
    wpAny (model prog w) A (Builtin.«wrapper_descriptor.__get__» ⟨[.builtin id, .ref x, .ref C], []⟩) Q E ⟨h, g, d, t, os⟩ := by
  have hi' : Looks (model prog w) h (isInstance (.ref x) (.type (".".intercalate (id.cutAt '.').dropLast))) true := by rw [e]; exact hi
  unfold Builtin.«wrapper_descriptor.__get__»
  repeat (first | (with_reducible refine Looks.at hi' ?_) | (with_reducible refine wpAny_newObj_type ?_ (by size_fits)) | wp_step)
  all_goals exact hq
theorem get_method {Q : Fin → Shared → Prop} (e : ".".intercalate (id.cutAt '.').dropLast = "list") (hno : Manifest.toldItsClass.contains id = false) (hi : Looks (model prog w) h (isInstance (.ref x) (.type "list")) true)
    (hq : Q (.done (.ret (.ref h.objs.size))) ⟨h.push { cls := .type "builtin_function_or_method", data := .fields #[.builtin id, .ref x] }, g, d, t, os⟩) :
    wpAny (model prog w) A (Builtin.«method_descriptor.__get__» ⟨[.builtin id, .ref x, .ref C], []⟩) Q E ⟨h, g, d, t, os⟩ := by
  have hi' : Looks (model prog w) h (isInstance (.ref x) (.type (".".intercalate (id.cutAt '.').dropLast))) true := by rw [e]; exact hi
  unfold Builtin.«method_descriptor.__get__»
  repeat (first | (with_reducible refine Looks.at hi' ?_) | (with_reducible refine wpAny_newObj_type ?_ (by size_fits)) | (rw [hno]) | (rw [if_neg (by decide)]) | wp_step)
  all_goals exact hq
theorem slot_wd_get : Slot "wrapper_descriptor" "__get__" "wrapper_descriptor.__get__" := .of (owner := "wrapper_descriptor") (n := "__get__") (by rw [typeLookup_type, builtinLookup_eq_fast]; kernel_rfl) (by decide +kernel) (by decide +kernel) (by decide +kernel)
  (by first | exact .inl (by decide +kernel) | exact .inr (by decide +kernel)) (by rw [isSubtype_type]; kernel_rfl)
theorem slot_md_get : Slot "method_descriptor" "__get__" "method_descriptor.__get__" := .of (owner := "method_descriptor") (n := "__get__") (by rw [typeLookup_type, builtinLookup_eq_fast]; kernel_rfl) (by decide +kernel) (by decide +kernel) (by decide +kernel)
  (by first | exact .inl (by decide +kernel) | exact .inr (by decide +kernel)) (by rw [isSubtype_type]; kernel_rfl)
theorem entry_wd_get : entryFor table "wrapper_descriptor.__get__" = some Builtin.«wrapper_descriptor.__get__» := entryFor_of_tree (by kernel_rfl)
theorem entry_md_get : entryFor table "method_descriptor.__get__" = some Builtin.«method_descriptor.__get__» := entryFor_of_tree (by kernel_rfl)
theorem args_wd_get (a b c : Value) : argsOk "wrapper_descriptor.__get__" ⟨[a, b, c], []⟩ := by unfold argsOk; kernel_rfl
theorem args_md_get (a b c : Value) : argsOk "method_descriptor.__get__" ⟨[a, b, c], []⟩ := by unfold argsOk; kernel_rfl
theorem super_ga_b {so D : Addr} {l₀ l : List Value} {K : Frag} {name : Str} {tk : Tok} {T gid : String} {Bg : Builtin} {bo : Obj} {Q : Fin → Shared → Prop}
    (hso : h.get? so = some { cls := .type "super", dict := none, data := .fields #[.ref D, .ref x, .ref C], slots := #[] }) (hno : Looks (model prog w) h (opaqueClassAbove (.ref C)) none)
    (hC : Looks (model prog w) h (mroOf (.ref C)) l₀) (hl : (l₀.dropWhile (· != .ref D)).drop 1 = l) (X : K.In h)
    (hf : alongIn K name l = some (some (.builtin id))) (hT : typeOf (.builtin id) = pure (.type T)) (hTI : ∀ s : Shared, s.TypeIs (.builtin id) T) (hS : Slot T "__get__" gid) (hE : entryFor table gid = some Bg) (hA : argsOk gid ⟨[.builtin id, .ref x, .ref C], []⟩)
    (hxC : x ≠ C) (hn : (name == ("__class__" : Str)) = false)
    (hget : ∀ (A' : Around) (Q' : Fin → Shared → Prop) (E' : Value → Shared → Prop), Q' (.done (.ret (.ref h.objs.size))) ⟨h.push bo, g, d, t, os⟩ → wpAny (model prog w) A' (Bg ⟨[.builtin id, .ref x, .ref C], []⟩) Q' E' ⟨h, g, d, t, os⟩)
    (hq : Q (.done (.ret (.ref h.objs.size))) ⟨h.push bo, g, d, t, os⟩) :
    wpAny (model prog w) A (Builtin.«super.__getattribute__» ⟨[.ref so, .str name tk], []⟩) Q E ⟨h, g, d, t, os⟩ := by
  have hlk := hS.lookup
  have hne : (Value.ref x == Value.ref C) = false := by simp [hxC]
  have hdt : ({ cls := .type "super", dict := none, data := .fields #[.ref D, .ref x, .ref C], slots := #[] } : Obj).data = .fields #[.ref D, .ref x, .ref C] := rfl
  have f0 : (#[.ref D, .ref x, .ref C] : Array Value)[0]? = some (.ref D) := rfl
  have f1 : (#[.ref D, .ref x, .ref C] : Array Value)[1]? = some (.ref x) := rfl
  have f2 : (#[.ref D, .ref x, .ref C] : Array Value)[2]? = some (.ref C) := rfl
  unfold Builtin.«super.__getattribute__»
  repeat (first
    | (with_reducible refine wpAny_field hso hdt f0 ?_) | (with_reducible refine wpAny_field hso hdt f1 ?_) | (with_reducible refine wpAny_field hso hdt f2 ?_)
    | (with_reducible refine ks_wpAny_notOpaque hno ?_)
    | (with_reducible refine Looks.at hC ?_; rw [hl])
    | (refine ks_forIn_along X (fun _ _ => rfl) rfl ?_ hf)
    | (with_reducible refine wpAny_of_eq hT ?_)
    | (with_reducible refine wpAny_call_entry hS (hTI _) hE ?_ hA)
    | (with_reducible refine hget _ _ _ ?_)
    | (with_reducible refine ⟨_, rfl, ?_⟩)
    | (simp only [hn, hne, Bool.or_false, Bool.false_eq_true, if_false])
    | wp_step
    | dsimp only)
  all_goals exact hq
theorem getMethod_super_b {so D : Addr} {l₀ l : List Value} {K : Frag} {name : Str} {T gid : String} {Bg : Builtin} {bo : Obj} {pl : Sem Bool} {Q : Value × List Value → Shared → Prop}
    (hso : h.get? so = some { cls := .type "super", dict := none, data := .fields #[.ref D, .ref x, .ref C], slots := #[] }) (hno : Looks (model prog w) h (opaqueClassAbove (.ref C)) none)
    (hC : Looks (model prog w) h (mroOf (.ref C)) l₀) (hl : (l₀.dropWhile (· != .ref D)).drop 1 = l) (X : K.In h)
    (hf : alongIn K name l = some (some (.builtin id))) (hT : typeOf (.builtin id) = pure (.type T)) (hTI : ∀ s : Shared, s.TypeIs (.builtin id) T) (hS : Slot T "__get__" gid) (hE : entryFor table gid = some Bg) (hA : argsOk gid ⟨[.builtin id, .ref x, .ref C], []⟩)
    (hxC : x ≠ C) (hn : (name == ("__class__" : Str)) = false)
    (hget : ∀ (A' : Around) (Q' : Fin → Shared → Prop) (E' : Value → Shared → Prop), Q' (.done (.ret (.ref h.objs.size))) ⟨h.push bo, g, d, t + 1, os⟩ → wpAny (model prog w) A' (Bg ⟨[.builtin id, .ref x, .ref C], []⟩) Q' E' ⟨h, g, d, t + 1, os⟩)
    (hq : Q (.ref h.objs.size, []) ⟨h.push bo, g, d, t + 1, os⟩) :
    wpAny (model prog w) A (getMethod (.ref so) name pl) Q E ⟨h, g, d, t, os⟩ := by
  have hlk := F.ks_slot_super_ga.lookup
  have hcan := F.ks_canon_super_ga
  have hTs : ∀ t', (⟨h, g, d, t', os⟩ : Shared).TypeIs (.ref so) "super" := fun _ => ⟨_, hso, rfl⟩
  unfold getMethod
  refine wpAny_bind (wpAny_specialOf (hTs _) hlk ?_)
  show wpAny _ _ (if (Manifest.canonical "super.__getattribute__" != "object.__getattribute__") = true then _ else _) _ _ _
  rw [if_pos hcan]
  unfold getAttr getAttrBy
  refine wpAny_bind (wpAny_bind (wpAny_mkText (wpAny_holding (wpAny_bind (wpAny_typeOf (hTs _) (wpAny_bind (wpAny_of_eq hlk ?_)))))))
  show wpAny _ _ (getAttrByItsOwn (.ref so) (.str name t) (.type "super") (.builtin "super.__getattribute__") true false) _ _ _
  unfold getAttrByItsOwn hookBefore callGetattribute boundAndCalled
  refine wpAny_bind (wpAny_of_eq (show (if onTheHeap (.type "super") then typeLookup (.type "super") "__getattr__" else pure none) = pure none from rfl) ?_)
  refine wpAny_bind (wpAny_attempt (wpAny_holding ?_))
  show wpAny _ _ (bindSpecial (.builtin "super.__getattribute__") (.ref so) >>= _) _ _ _
  refine wpAny_bind (wpAny_of_eq (F.ks_slot_super_ga.bind _) ?_)
  refine wpAny_mono (Q := fun v s' => v = .ref h.objs.size ∧ s' = ⟨h.push bo, g, d, t + 1, os⟩) (E := fun _ _ => False)
    (wpAny_call_entry F.ks_slot_super_ga (hTs _) F.ks_entry_super_ga (super_ga_b hso hno hC hl X hf hT hTI hS hE hA hxC hn hget ⟨_, rfl, rfl, rfl⟩) (F.ks_gaArgs_super _ _)) (fun v s' hv => ?_) fun _ _ z => z.elim
  obtain ⟨rfl, rfl⟩ := hv
  exact wpAny_pure (wpAny_pure hq)
end
end Mine
end
-- PS2
section
open PySem PySem.Calls PySem.W PyProof.Rows
namespace Mine
abbrev boundO (T id : String) (x : Addr) : Obj := { cls := .type T, data := .fields #[.builtin id, .ref x] }
section
variable {prog : Program} {w : World} {A : Around} {E : Value → Shared → Prop} {s : Shared} {h₀ : Heap} {L : Addr} {m : Str → Option Value} {news : List (Addr × Obj)} {K : Frag} {so x C D : Addr} {ox odx : Obj} {id : String} {name : Str}
theorem super_len {pl : Sem Bool} {Q : Value × List Value → Shared → Prop} (F : Fr h₀ L s.heap m) (X₀ : K.In h₀) (N : News h₀ L s.heap news) (hso : (so, ks_superObj D x C) ∈ news) (I : InstAt s.heap x ox C (some odx)) (ho : nsIn K cStatics "thirdparty.any" = some none)
    (hm : ks_superIn K C D name = some (some (.builtin id))) (hlist : mroIn K C (.type "list") = some true) (hn : (name == ("__class__" : Str)) = false)
    (hT : typeOf (.builtin id) = pure (.type "wrapper_descriptor")) (e : ".".intercalate (id.cutAt '.').dropLast = "list")
    (h : ∀ q h', Fr h₀ L h' m → News h₀ L h' ((q, boundO "method-wrapper" id x) :: news) → (∀ p ∈ news, p.1 < q) → Q (.ref q, []) { s with heap := h', toks := s.toks + 1 }) : wpAny (model prog w) A (getMethod (.ref so) name pl) Q E s := by
  have X : K.In s.heap := X₀.keeps F.keep
  obtain ⟨hh, g, d, t, os⟩ := s
  cases hc : clsIn K C with
  | none => unfold ks_superIn at hm; rw [hc] at hm; cases hm
  | some cd =>
    unfold ks_superIn at hm
    rw [hc] at hm
    refine getMethod_super_b (bo := boundO "method-wrapper" id x) (N _ hso).1 (looks_opaque X ho) (l₀ := cd.mro) ?_ rfl X hm hT (fun _ => hT) slot_wd_get entry_wd_get (args_wd_get _ _ _) (ks_ne X I hc) hn (fun A' Q' E' hq => ?_) ?_
    · exact fun A Q E s k q => wpAny_bind ((looks_clsIn X hc) A _ E s k (wpAny_pure q))
    · exact get_wrapper e (isinst_own X I hlist) hq
    · obtain ⟨F', N', l'⟩ := ks_newsPush (s := ⟨hh, g, d, t, os⟩) (o := boundO "method-wrapper" id x) F N rfl (Heap.get?_push_at rfl rfl) (fun b o e => Heap.get?_push_of_some _ e)
      exact h _ _ F' N' l'
theorem super_pop {pl : Sem Bool} {Q : Value × List Value → Shared → Prop} (F : Fr h₀ L s.heap m) (X₀ : K.In h₀) (N : News h₀ L s.heap news) (hso : (so, ks_superObj D x C) ∈ news) (I : InstAt s.heap x ox C (some odx)) (ho : nsIn K cStatics "thirdparty.any" = some none)
    (hm : ks_superIn K C D name = some (some (.builtin id))) (hlist : mroIn K C (.type "list") = some true) (hn : (name == ("__class__" : Str)) = false)
    (hT : typeOf (.builtin id) = pure (.type "method_descriptor")) (e : ".".intercalate (id.cutAt '.').dropLast = "list") (hno : Manifest.toldItsClass.contains id = false)
    (h : ∀ q h', Fr h₀ L h' m → News h₀ L h' ((q, boundO "builtin_function_or_method" id x) :: news) → (∀ p ∈ news, p.1 < q) → Q (.ref q, []) { s with heap := h', toks := s.toks + 1 }) : wpAny (model prog w) A (getMethod (.ref so) name pl) Q E s := by
  have X : K.In s.heap := X₀.keeps F.keep
  obtain ⟨hh, g, d, t, os⟩ := s
  cases hc : clsIn K C with
  | none => unfold ks_superIn at hm; rw [hc] at hm; cases hm
  | some cd =>
    unfold ks_superIn at hm
    rw [hc] at hm
    refine getMethod_super_b (bo := boundO "builtin_function_or_method" id x) (N _ hso).1 (looks_opaque X ho) (l₀ := cd.mro) ?_ rfl X hm hT (fun _ => hT) slot_md_get entry_md_get (args_md_get _ _ _) (ks_ne X I hc) hn (fun A' Q' E' hq => ?_) ?_
    · exact fun A Q E s k q => wpAny_bind ((looks_clsIn X hc) A _ E s k (wpAny_pure q))
    · exact get_method e hno (isinst_own X I hlist) hq
    · obtain ⟨F', N', l'⟩ := ks_newsPush (s := ⟨hh, g, d, t, os⟩) (o := boundO "builtin_function_or_method" id x) F N rfl (Heap.get?_push_at rfl rfl) (fun b o e => Heap.get?_push_of_some _ e)
      exact h _ _ F' N' l'
theorem callWith_bound0 {M : Model} {q : Addr} {T : String} {pos p : Pos} {env : Env} {Q : Value → Shared → Prop} (hT : (Value.type T != .type "method") = true) (hT2 : (Value.type T == .type "builtin_function_or_method" || Value.type T == .type "method-wrapper") = true)
    (N : News h₀ L s.heap news) (hq : (q, boundO T id x) ∈ news) (h : wpAny M A (call (.ref q) []) Q E s) : wpAny M A (callWith pos (.ref q) [] (backTo p (starEach [] env)) []) Q E s := by
  have hl := N.get hq
  show wpAny M A (callWith pos (.ref q) [] [] []) Q E s
  unfold callWith
  refine wpAny_bind (wpAny_holding (wpAny_of_eq (show evalArgs (.ref q) true [] [] = pure ⟨[], []⟩ from rfl) ?_))
  refine wpAny_bind (wpAny_standAt ?_)
  unfold keeperOf
  refine wpAny_bind (wpAny_bind (wpAny_load hl ?_))
  show wpAny M A (if (Value.type T != .type "method") = true then _ else _) _ _ _
  rw [if_pos hT, if_pos hT2]
  refine wpAny_pure (wpAny_bind (wpAny_mono h (fun _ _ z => wpAny_bind (wpAny_holding (wpAny_point (wpAny_pure z)))) fun _ _ z => z))
end
end Mine
end
-- PS3
section
open PySem PySem.Calls PySem.W PyProof.Rows
namespace Mine
theorem cbc_len (x : Addr) : checkBoundCall "list.__len__" ⟨[.ref x], []⟩ = pure () := by kernel_rfl
theorem entry_list_len' : entryFor table "list.__len__" = some Builtin.«list.__len__» := entryFor_of_tree (by kernel_rfl)
theorem entry_list_pop' : entryFor table "list.pop" = some Builtin.«list.pop» := entryFor_of_tree (by kernel_rfl)
section
variable {prog : Program} {w : World} {A : Around} {E : Value → Shared → Prop} {s : Shared} {h₀ : Heap} {L : Addr} {m : Str → Option Value} {news : List (Addr × Obj)} {K : Frag} {q x dx : Addr} {its : Array Value} {k : Nat} {cd : ClassData} {od : Option Obj} {dob : Obj}
theorem call_bound_len {Q : Value → Shared → Prop} (N : News h₀ L s.heap news) (hq : (q, boundO "method-wrapper" "list.__len__" x) ∈ news) (hx : (x, pileO dx its k) ∈ news)
    (h : Q (.int its.size s.toks) { s with toks := s.toks + 1 }) : wpAny (model prog w) A (call (.ref q) []) Q E s := by
  refine wpAny_call (codeAny_of_tree ?_)
  show wpAny _ A.in1 (callAny (.ref q) ⟨[], []⟩) _ _ s
  unfold callAny
  refine wpAny_bind (wpAny_load (N.get hq) ?_)
  show wpAny _ _ (do checkBoundCall "list.__len__" ⟨[.ref x], []⟩; again (.builtin "list.__len__" ⟨[.ref x], []⟩)) _ _ _
  refine wpAny_bind (wpAny_of_eq (cbc_len x) (wpAny_pure ⟨Code.quiet_builtin _ (by decide +kernel), codeAny_builtin entry_list_len' ?_⟩))
  unfold Builtin.«list.__len__»
  have hl := N.get hx
  obtain ⟨hh, g, d, t, os⟩ := s
  repeat (first | (with_reducible refine wpAny_loadPart hl ?_) | (with_reducible refine wpAny_load hl ?_) | wp_step)
  exact h
theorem sig_pop : Manifest.signature? "list.pop" = some ⟨.positional, "list.pop", "pop", .self, [⟨"index", .posOnly, false⟩]⟩ := by kernel_rfl
theorem kind_pop : builtinKind "list.pop" = some .method := by decide +kernel
theorem var_pop : Manifest.varargsMethods.contains "list.pop" = false := by decide +kernel
theorem args_pop (x : Addr) : Bind.checkArgs "list.pop" ⟨.positional, "_Accumulator.pop", "pop", .self, [⟨"index", .posOnly, false⟩]⟩ ⟨[.ref x], []⟩ = pure () := by kernel_rfl
theorem cbc_pop {Q : Unit → Shared → Prop} (X : K.In s.heap) (I : InstAt s.heap x (pileO dx its k) 253 od) (hc : clsIn K 253 = some cd) (hcn : cd.qualname.toString = "_Accumulator") (ht : typeIn K (.ref 253) = some (.type "type")) (hm : mroIn K 253 (.type "module") = some false) (h : Q () s) :
    wpAny (model prog w) A (checkBoundCall "list.pop" ⟨[.ref x], []⟩) Q E s := by
  have I' : Looks (model prog w) s.heap (isInstance (.ref x) (.type "module")) false := isinst_own X I hm
  have T1 := I.type (M := model prog w)
  have T2 := looks_clsIn (M := model prog w) X hc
  have T3 := looks_typeIn (M := model prog w) X ht
  have T4 : Looks (model prog w) s.heap (isType (.ref x)) false := by
    intro A Q E s hk hq
    obtain ⟨hh, g, d, t, os⟩ := s
    exact ks_wpAny_isType_inst (hk _ _ I.at_) (fun _ => by simp [pileO]) hq
  unfold checkBoundCall
  rw [sig_pop]
  dsimp only
  rw [kind_pop]
  dsimp only
  rw [if_neg (by decide)]
  refine wpAny_bind (I'.here ?_)
  rw [var_pop, if_neg (by decide)]
  refine wpAny_bind (T4.here ?_)
  rw [if_neg (by decide)]
  refine wpAny_bind (T1.here ?_)
  dsimp only
  refine wpAny_bind (T2.here ?_)
  refine wpAny_bind (T3.here ?_)
  rw [if_pos (by decide)]
  have e1 : (toString cd.qualname.toString ++ toString "." ++ toString (Bind.lastOf "list.pop") : String) = "_Accumulator.pop" := by rw [hcn]; decide +kernel
  rw [e1]
  exact wpAny_of_eq (args_pop _) h
theorem call_bound_pop {v : Value} {news' : List (Addr × Obj)} {Q : Value → Shared → Prop} (F : Fr h₀ L s.heap m) (X₀ : K.In h₀) (N : News h₀ L s.heap news) (hq : (q, boundO "builtin_function_or_method" "list.pop" x) ∈ news)
    (h2 : (dx, dob) ∈ news) (hc : clsIn K 253 = some cd) (hcn : cd.qualname.toString = "_Accumulator") (ht : typeIn K (.ref 253) = some (.type "type")) (hm : mroIn K 253 (.type "module") = some false)
    (U : Upd x (pileO dx (its.push v) k) (pileO dx its (k + 1)) news news') (hsz : its.size ≤ 1000)
    (h : ∀ h', Fr h₀ L h' m → News h₀ L h' news' → Q v { s with heap := h' }) : wpAny (model prog w) A (call (.ref q) []) Q E s := by
  obtain ⟨pre, post, rfl, rfl, a, b⟩ := U.split
  have hx : (x, pileO dx (its.push v) k) ∈ pre ++ (x, pileO dx (its.push v) k) :: post := List.mem_append.mpr (.inr (.head _))
  have I := pile_inst N hx h2
  have hl := N.get hx
  refine wpAny_call (codeAny_of_tree ?_)
  show wpAny _ A.in1 (callAny (.ref q) ⟨[], []⟩) _ _ s
  unfold callAny
  refine wpAny_bind (wpAny_load (N.get hq) ?_)
  show wpAny _ _ (do checkBoundCall "list.pop" ⟨[.ref x], []⟩; again (.builtin "list.pop" ⟨[.ref x], []⟩)) _ _ _
  refine wpAny_bind (cbc_pop (X₀.keeps F.keep) I hc hcn ht hm (wpAny_pure ⟨Code.quiet_builtin _ (by decide +kernel), codeAny_builtin entry_list_pop' ?_⟩))
  unfold Builtin.«list.pop»
  have er : (its.push v).eraseIdxIfInBounds its.size = its := by
    rw [Array.eraseIdxIfInBounds, dif_pos (by simp)]
    apply Array.toList_inj.mp
    rw [Array.toList_eraseIdx, Array.toList_push, List.eraseIdx_append_of_length_le (by simp)]
    simp
  have e : Obj.mapSeq (·.eraseIdxIfInBounds its.size) (pileO dx (its.push v) k) = pileO dx its (k + 1) := by
    unfold pileO Obj.mapSeq
    simp only [er]
    simp
  have z := news_upd F N a b e rfl
  obtain ⟨hh, g, d, t, os⟩ := s
  repeat (first | (with_reducible refine wpAny_loadPart hl ?_) | (with_reducible refine wpAny_load hl ?_) | wp_step)
  have i1 : (seqIndex? (-1) (its.push v).size).bind (fun k => Option.map (fun x => (k, x)) (its.push v)[k]?) = some (its.size, v) := by
    have : seqIndex? (-1) (its.push v).size = some its.size := by
      unfold seqIndex?
      rw [Array.size_push]
      have : ((-1 : Int) + ((its.size + 1 : Nat) : Int)) = its.size := by omega
      simp only [show ((-1 : Int) < 0) from by decide, if_true, this]
      rw [if_pos (by simp; omega)]
      simp
    rw [this]
    simp
  rw [i1]
  dsimp only
  refine wpAny_bind ?_
  show wpAny _ _ (updateSeq x (fun x => x.eraseIdxIfInBounds its.size)) _ _ _
  refine wpAny_updateSeq hl rfl (wpAny_pure ?_) (hz := by simp; unfold sizeLine; omega) (_hz' := by rw [er]; unfold sizeLine; omega)
  exact h _ z.1 z.2
end
end Mine
end
-- KP2
section
open PySem PySem.W PyProof.Rows Mine
local macro_rules | `(tactic| k_all) => `(tactic| assumption)
local macro_rules | `(tactic| k_inst) => `(tactic| (refine' Mine.pile_inst ?N ?h1 ?h2; (case N => k_asm); (case h1 => k_mem); (case h2 => k_mem)))
local macro_rules | `(tactic| walk_at "getMethod ref") => `(tactic| (k_here; k_dflt (refine' Mine.method_pile ?k1 ?k2 ?k3 ?k4 ?k5 ?k6 ?k7 ?k8 ?k9 ?ka ?kb ?_; (case k1 => k_asm); (case k2 => k_asm); (case k3 => k_asm); (case k4 => k_mem); (case k5 => k_mem); (case k6 => k_is); (case k7 => k_is); (case k8 => k_is); (case k9 => k_is); (case ka => decide); (case kb => k_get); k_whole)))
local macro_rules | `(tactic| walk_at "getMethod ref") => `(tactic| (k_here; k_dflt (refine' Mine.super_len ?k1 ?k2 ?k3 ?k4 ?k5 ?k6 ?k7 ?k8 ?k9 ?ka ?kb ?_; (case k1 => k_asm); (case k2 => k_asm); (case k3 => k_asm); (case k4 => k_mem); (case k5 => k_inst); (case k6 => k_is); (case k7 => ks_is); (case k8 => k_is); (case k9 => decide); (case ka => exact rfl); (case kb => decide +kernel); intro q' h' F' N' l1; (try k_lt l1); (try dsimp only))))
local macro_rules | `(tactic| walk_at "callWith ref") => `(tactic| (k_here; k_dflt (refine' Mine.callWith_bound0 ?k1 ?k2 ?k3 ?k4 ?_; (case k3 => k_asm); (case k4 => k_mem); (case k1 => decide); (case k2 => decide))))
local macro_rules | `(tactic| walk_at "call ref") => `(tactic| (k_here; k_dflt (refine' Mine.call_bound_len ?k1 ?k2 ?k3 ?_; (case k1 => k_asm); (case k2 => k_mem); (case k3 => k_mem))))
set_option maxRecDepth 100000 in
set_option maxHeartbeats 2000000 in
theorem part_count_spec (w : World) (pa da : Addr) (its : Array Value) (n k : Nat) (t1 t2 : Tok) (led : List (Addr × Obj)) (hs : its.size < 100) :
    DefSpec w 250 5 [.ref pa] ((pa, pileO da its n) :: (da, initD w t1 t2 k) :: led) fun h₀ L m s Q =>
      ∀ t h' tk', Fr h₀ L h' m → News h₀ L h' ((pa, pileO da its n) :: (da, initD w t1 t2 k) :: led) → Q (.int its.size t) { s with heap := h', toks := tk' } := by
  unfold DefSpec Ctxt
  k_fill
  intro p loose mean mg mb dp un gd cn cs a ccd cl outer A₀ base h₀ L m s Q E hB hF hX hN hT hcs hdp hun hQ
  refine wpAny_call ?_
  (refine' ks_code_super ?k1 ?k2 ?k3 ?k4 ?k5 ?kA ?kF ?kK ?k6 ?k7 ?k8 ?k9 ?kB ?_ ?c1 ?c2 ?c3 ?c4; (case kA => exact rfl); (case kF => exact rfl); (case kK => exact hcs); (case k1 => k_asm); (case k2 => k_asm); (case k3 => k_asm); (case k4 => k_asm); (case k5 => k_asm); (case k6 => k_is); (case k7 => k_is); (case k8 => ktr_room); (case k9 => exact BindsTo.of_eq rfl); (case kB => exact locs rfl); (case c1 => decide); (case c2 => exact rfl); (case c3 => exact rfl); (case c4 => exact rfl); intro g' L' h' FG' F' N' B' X' T' l1; (try k_lt l1); (try dsimp only); (try k_lift B'))
  k_steps
  rename Fr h₀ L _ _ => kF2
  rename News h₀ L _ _ => kN2
  exact hQ _ _ _ kF2 (news_sub kN2 fun _ h => .tail _ (.tail _ h))
end
-- KP3
section
open PySem PySem.W PyProof.Rows Mine
local macro_rules | `(tactic| k_all) => `(tactic| assumption)
local macro_rules | `(tactic| k_inst) => `(tactic| (refine' Mine.pile_inst ?N ?h1 ?h2; (case N => k_asm); (case h1 => k_mem); (case h2 => k_mem)))
local macro_rules | `(tactic| walk_at "getMethod ref") => `(tactic| (k_here; k_dflt (refine' Mine.method_pile ?k1 ?k2 ?k3 ?k4 ?k5 ?k6 ?k7 ?k8 ?k9 ?ka ?kb ?_; (case k1 => k_asm); (case k2 => k_asm); (case k3 => k_asm); (case k4 => k_mem); (case k5 => k_mem); (case k6 => k_is); (case k7 => k_is); (case k8 => k_is); (case k9 => k_is); (case ka => decide); (case kb => k_get); k_whole)))
local macro_rules | `(tactic| walk_at "getMethod ref") => `(tactic| (k_here; k_dflt (refine' Mine.super_pop ?k1 ?k2 ?k3 ?k4 ?k5 ?k6 ?k7 ?k8 ?k9 ?ka ?kb ?kc ?_; (case k1 => k_asm); (case k2 => k_asm); (case k3 => k_asm); (case k4 => k_mem); (case k5 => k_inst); (case k6 => k_is); (case k7 => ks_is); (case k8 => k_is); (case k9 => decide); (case ka => exact rfl); (case kb => decide +kernel); (case kc => decide +kernel); intro q' h' F' N' l1; (try k_lt l1); (try dsimp only))))
local macro_rules | `(tactic| walk_at "callWith ref") => `(tactic| (k_here; k_dflt (refine' Mine.callWith_bound0 ?k1 ?k2 ?k3 ?k4 ?_; (case k3 => k_asm); (case k4 => k_mem); (case k1 => decide); (case k2 => decide))))
local macro_rules | `(tactic| walk_at "call ref") => `(tactic| (k_here; (with_reducible show wpAny _ _ (call (Value.ref 250) _) _ _ _); k_dflt (refine' part_count_spec _ _ _ _ _ _ _ _ _ (by assumption) _ _ _ _ _ _ _ _ _ _ _ _ _ _ _ _ _ _ _ _ _ _ ?k1 ?k2 ?k3 ?k4 ?k5 ?kK ?kd ?ku ?_; (case k1 => k_asm); (case k2 => k_asm); (case k3 => k_asm); (case k4 => k_asm); (case k5 => k_asm); (case kK => exact rfl); (case kd => ktr_room); (case ku => ktr_units); intro t9 h9 tk9 F9 N9; (try dsimp only))))
local macro_rules | `(tactic| walk_at "wpAt") => `(tactic| (dsimp only; ks_step "execs cons"; refine ks_wpAt_execs_cons ?_))
local macro_rules | `(tactic| walk_at "wpAt") => `(tactic| (ks_step "attributeBase Call"; (try dsimp only); k_here; k_dflt (refine ks_node (by k_asm) (by k_asm) (by k_asm) (by k_asm) (by k_is) (by rfl) (by rfl) (by k_inst) (by k_is) (by rfl) (by first | rfl | decide +kernel) (by k_is) (by k_is) (by k_is) (by k_is) (by decide) (by rfl) (by rfl) (by rfl) (by rfl) (by decide +kernel) (by first | boot_by_name | rfl | kernel_rfl) ?_; intro so' h' F' N' l1; (try k_lt l1))))
local macro_rules | `(tactic| walk_at "wpAt") => `(tactic| (ks_step "eval Call"; k_dflt (refine ks_wpAt_MethodCall ?_)))
set_option maxRecDepth 100000 in
set_option maxHeartbeats 2000000 in
theorem pop_spec (w : World) (pa da : Addr) (its : Array Value) (v : Value) (n k : Nat) (t1 t2 : Tok) (led : List (Addr × Obj)) (hl : ∀ p ∈ led, p.1 ≠ pa) (hn : @Ne Nat pa da) (hs : (its.push v).size < 100) :
    DefSpec w 213 10 [.ref pa] ((pa, pileO da (its.push v) n) :: (da, initD w t1 t2 k) :: led) fun h₀ L m s Q =>
      ∀ h' tk', Fr h₀ L h' m → News h₀ L h' ((pa, pileO da its (n + 1)) :: (da, initD w t1 t2 k) :: led) → Q v { s with heap := h', toks := tk' } := by
  unfold DefSpec Ctxt
  k_fill
  intro p loose mean mg mb dp un gd cn cs a ccd cl outer A₀ base h₀ L m s Q E hB hF hX hN hT hcs hdp hun hQ
  refine wpAny_call ?_
  (refine' ks_code_super ?k1 ?k2 ?k3 ?k4 ?k5 ?kA ?kF ?kK ?k6 ?k7 ?k8 ?k9 ?kB ?_ ?c1 ?c2 ?c3 ?c4; (case kA => exact rfl); (case kF => exact rfl); (case kK => exact hcs); (case k1 => k_asm); (case k2 => k_asm); (case k3 => k_asm); (case k4 => k_asm); (case k5 => k_asm); (case k6 => k_is); (case k7 => k_is); (case k8 => ktr_room); (case k9 => exact BindsTo.of_eq rfl); (case kB => exact locs rfl); (case c1 => decide); (case c2 => exact rfl); (case c3 => exact rfl); (case c4 => exact rfl); intro g' L' h' FG' F' N' B' X' T' l1; (try k_lt l1); (try dsimp only); (try k_lift B'))
  k_steps
  · rename _ = (0 : Int) => h0
    simp at h0
    omega
  rename Fr g' _ _ _ => kF
  rename News g' _ _ _ => kN
  rename (hd.heap_39 w.params).In g' => kX
  refine' call_bound_pop (its := its) (v := v) (dx := da) (k := n) kF kX kN (by k_mem) ?k2 ?k3 ?kc ?k4 ?k5 ?k6 ?k7 ?k8
  (case k2 => k_mem)
  (case k3 => k_is)
  (case kc => decide +kernel)
  (case k4 => k_is)
  (case k5 => k_is)
  (case k6 => k_upd)
  (case k7 => simp at hs; omega)
  intro h5 F5 N5
  k_steps
  rename Fr h₀ L _ _ => kF2
  rename News h₀ L _ _ => kN2
  exact hQ _ _ kF2 (news_sub kN2 fun _ h => .tail _ (.tail _ h))
end
-- PM
section
set_option maxRecDepth 100000
set_option maxHeartbeats 4000000
open PySem PySem.Calls PySem.W PyProof.Rows Builtin Builtin.ObjectAttr Builtin.Getset_descriptor
namespace Mine
def makesL (K : Frag) (C : Addr) : Bool := match K.lookup C with
  | some ⟨_, _, .cls cd, sl⟩ => !cd.abstract && !cd.hasDel && (sl.toList[4]?).join == some (.builtin "list.__new__") && !cd.mro.isEmpty && cd.mro.contains (.ref C) && cd.mro.contains (.type "list") &&
      specialIn K (.ref C) "__call__" == some (some (.builtin "type.__call__")) && instIn K (.ref C) (.type "type") == some true
  | _ => false
structure MakesL (M : Model) (h : Heap) (C : Addr) : Prop where
  obj : ∃ oc od cd sl, h.get? C = some ⟨oc, od, .cls cd, sl⟩ ∧ cd.abstract = false ∧ cd.hasDel = false ∧ cd.mro.isEmpty = false
  made : Looks M h (Bind.madeBy (.ref C)) (some "list.__new__")
  base : Looks M h (Bind.staticBase (.ref C)) (.ref C)
  self : Looks M h (isSubtype (.ref C) (.ref C)) true
  top : Looks M h (isSubtype (.ref C) (.type "list")) true
  call : Looks M h (specialOf (.ref C) "__call__") (some (.builtin "type.__call__"))
  typ : Looks M h (isInstance (.ref C) (.type "type")) true
theorem makesL_of {K : Frag} {M : Model} {h : Heap} (X : K.In h) {C : Addr} (e : makesL K C = true) : MakesL M h C := by
  unfold makesL at e
  split at e
  · rename_i oc od cd sl ho
    simp only [Bool.and_eq_true, Bool.not_eq_true', beq_iff_eq] at e
    obtain ⟨⟨⟨⟨⟨⟨⟨e1, e2⟩, e3⟩, e4⟩, e5⟩, e6⟩, e7⟩, e8⟩ := e
    have hc : clsIn K C = some cd := by unfold clsIn; rw [ho]
    have hm : Looks M h (mroOf (.ref C)) cd.mro := (looks_clsIn X hc).andThen .now
    obtain ⟨c, l, hl⟩ : ∃ c l, cd.mro = c :: l := by cases q : cd.mro with | nil => rw [q] at e4; cases e4 | cons c l => exact ⟨c, l, rfl⟩
    have made : Looks M h (Bind.madeBy (.ref C)) (some "list.__new__") := by
      intro A Q E s k q
      unfold Bind.madeBy
      refine wpAny_bind (hm A _ E s k ?_)
      rw [hl, List.forIn_cons]
      refine wpAny_bind (wpAny_bind (wpAny_bind (wpAny_bind (wpAny_loadPart (k _ _ (X _ _ ho)) (wpAny_pure ?_)))))
      dsimp only
      rw [← Array.getElem?_toList, e3]
      exact wpAny_pure (wpAny_pure (wpAny_pure q))
    refine ⟨⟨oc, od, cd, sl, X _ _ ho, e1, e2, e4⟩, made, ?_, looks_mroIn X ?_, looks_mroIn X ?_, looks_specialIn X e7, looks_instIn X e8⟩
    · intro A Q E s k q
      unfold Bind.staticBase
      refine wpAny_bind (hm A _ E s k ?_)
      rw [hl, List.forIn_cons]
      exact wpAny_bind (wpAny_bind (wpAny_bind (made A _ E s k (wpAny_pure (wpAny_pure (wpAny_pure q))))))
    · unfold mroIn; rw [hc, Option.bind_some, if_neg (by rw [e4]; decide), e5]
    · unfold mroIn; rw [hc, Option.bind_some, if_neg (by rw [e4]; decide), e6]
  · cases e
theorem ln_kind : builtinKind "list.__new__" = some .builtinFn := by decide +kernel
theorem ln_split : splitId "list.__new__" = some ("list", "__new__") := by decide +kernel
abbrev listInst (C dx : Addr) : Obj := { cls := .ref C, dict := some dx, data := .seq #[] }
section
variable {prog : Program} {w : World} {A : Around} {K : Frag} {C : Addr} {R : Result → Shared → Prop} {h : Heap} {g : Array GenState} {d : Drawn} {t : Nat} {os : OsState}
theorem newL_K (Y : MakesL (model prog w) h C) (hq : R (.ok (.ret (.ref (h.objs.size + 1)))) ⟨(h.push emptyDict).push (listInst C h.objs.size), g, d, t, os⟩) :
    codeAny (model prog w) A (.call (.builtin "list.__new__") ⟨[.ref C], []⟩) R ⟨h, g, d, t, os⟩ := by
  obtain ⟨⟨oc, od, cd, sl, hC, e1, e2, e4⟩, made, base, self, top, call, typ⟩ := Y
  refine codeAny_call_builtin_code (plainId_quiet F.plain_list_new _) ?_
  simp only [checkBuiltinCall, ln_kind, ln_split]
  have here : Looks (model prog w) h (Bind.madeHere "list.__new__" (.ref C)) () := base.andThen (made.andThen (Looks.of_pure (by simp only [Option.map_some, bne_self_eq_false, Bool.false_eq_true, if_false])))
  repeat (first | simp only [bne_self_eq_false, Bool.false_eq_true, if_false] | lk)
  refine codeAny_builtin_stack F.entry_list_new rfl fun p st => ?_
  rw [Around.under_plainId F.plain_list_new _]
  have hown := owner_list_new
  simp only [hown]
  have ht : Looks (model prog w) h (isType (.ref C)) true := by
    intro A Q E s k q
    obtain ⟨hh, g, d, t, os⟩ := s
    exact ks_wpAny_isType_cls (k _ _ hC) rfl q
  have hd : typeHasDict (.ref C) = true := rfl
  repeat (first | simp only [hd, Bool.not_true, bne_self_eq_false, Bool.false_eq_true, if_false] | lk)
  refine wpAny_load (Heap.get?_push_of_some _ (Heap.get?_push_of_some _ hC)) (wpAny_pure ?_)
  rw [e2]
  refine wpAny_pure (wpAny_pure ?_)
  show R _ _
  rw [Heap.size_push]
  exact hq
theorem makeL_core {init : Value} (Y : MakesL (model prog w) h C) (hi : Looks (model prog w) h (typeLookup (.ref C) "__init__") (some init))
    (hb : ∀ self, Looks (model prog w) h (bindSpecial init self) (init, [self]))
    (hq : codeAny (model prog w) (A.under (.builtin "type.__call__" ⟨[.ref C], []⟩)) (.call init ⟨[.ref (h.objs.size + 1)], []⟩) (InitBack (h.objs.size + 1) R) ⟨(h.push emptyDict).push (listInst C h.objs.size), g, d, t, os⟩) :
    codeAny (model prog w) A (.call (.ref C) ⟨[], []⟩) R ⟨h, g, d, t, os⟩ := by
  have Y' := Y
  obtain ⟨⟨oc, od, cd, sl, hC, e1, e2, e4⟩, made, base, self, top, call, typ⟩ := Y
  refine codeAny_of_tree ?_
  show wpAny _ _ (callAny (.ref C) _) _ _ _
  refine nd_load hC ?_
  show wpAny _ _ (callAny.viaDunder (.ref C) _) _ _ _
  unfold callAny.viaDunder
  refine wpAny_bind (call.at ?_)
  dsimp only
  rw [tc_bind]
  refine wpAny_bind (wpAny_pure (wpAny_bind (wpAny_pure ?_)))
  refine wpAny_pure (a := Fin.again (.call (.builtin "type.__call__") ⟨[.ref C], []⟩)) (And.intro rfl ?_)
  refine codeAny_call_builtin_at (Code.quiet_builtin _ (by decide +kernel)) entry_typeCall (check_slot tc_kind tc_split typ (tc_args _ _ _) ?_)
  unfold Builtin.«type.__call__»
  have hm : Looks (model prog w) h (mroOf (.ref C)) cd.mro := ((Looks.ld (part := none) hC).andThen .now).andThen .now
  repeat (first | simp only [e4, Bool.false_eq_true, if_false] | with_reducible refine wpAny_call ?_ | lk)
  refine newL_K Y' ?_
  have k : ∀ b o, h.get? b = some o → ((h.push emptyDict).push (listInst C h.objs.size)).get? b = some o := fun b o e => Heap.get?_push_of_some _ (Heap.get?_push_of_some _ e)
  have hx : ((h.push emptyDict).push (listInst C h.objs.size)).get? (h.objs.size + 1) = some (listInst C h.objs.size) := by heap_get
  have t1 : Looks (model prog w) ((h.push emptyDict).push (listInst C h.objs.size)) (typeOf (.ref (h.objs.size + 1))) (.ref C) := (Looks.ld hx).andThen .now
  have s1 := self.keeps k
  have i1 := hi.keeps k
  have b1 := (hb (.ref (h.objs.size + 1))).keeps k
  unfold isInstance callSpecial? specialOf
  repeat (first | with_reducible refine wpAny_call ?_ | lk)
  refine codeAny_mono hq fun r s' z => ?_
  rcases r with e | (v | _ | _ | _) <;> first | exact z | exact z.elim | skip
  obtain ⟨rfl, z⟩ := z
  exact wpAny_pure (wpAny_pure z)
end
section
variable {prog : Program} {w : World} {A : Around} {K : Frag} {C x : Addr} {s : Shared} {h₀ : Heap} {L : Addr} {m : Str → Option Value} {news : List (Addr × Obj)} {Q : Value → Shared → Prop} {E : Value → Shared → Prop}
theorem call_clsL {fI : Addr} (F : Fr h₀ L s.heap m) (X₀ : K.In h₀) (N : News h₀ L s.heap news) (hm : makesL K C = true)
    (hi : findIn K (.ref C) "__init__" = some (some (.ref fI))) (hf : isFn K (.ref fI) = true)
    (h : ∀ x dx h', Fr h₀ L h' m → News h₀ L h' ((x, listInst C dx) :: (dx, dictOf [] 0) :: news) → (∀ p ∈ news, p.1 < dx) → dx < x →
      codeAny (model prog w) (A.under (.builtin "type.__call__" ⟨[.ref C], []⟩)) (.call (.ref fI) ⟨[.ref x], []⟩) (InitBack x fun r s' => match r with | .ok (.ret v) => Q v s' | .ok _ => False | .error e => E e s') { s with heap := h' }) :
    wpAny (model prog w) A (call (.ref C) []) Q E s := by
  have X := X₀.keeps F.keep
  obtain ⟨hh, g, d, t, os⟩ := s
  refine wpAny_call (makeL_core (makesL_of X hm) (looks_findIn X hi) (fun self => bind_fn X self (beq_iff_eq.mp hf)) (h _ hh.objs.size _ ((F.push _).push _) ?_ (fun p hp => Heap.lt_size (N p hp).1) (Nat.lt_succ_self _)))
  have := (N.push F emptyDict).push (F.push _) (listInst C hh.objs.size)
  rwa [Heap.size_push] at this
end
theorem makesL_253 (w : World) : makesL (hd.heap_39 w.params) 253 = true := by kernel_rfl
end Mine
end
-- PM2
section
set_option maxRecDepth 100000
set_option maxHeartbeats 4000000
open PySem PySem.Calls PySem.W PyProof.Rows Builtin Builtin.ObjectAttr Builtin.Getset_descriptor
namespace Mine
def overL (K : Frag) (C : Addr) : Bool := (clsIn K C).any fun cd => cd.mro == [.ref C, .type "list", .type "object"]
theorem refuseL (self : Value) (C : Addr) : refuseLoop self "__setattr__" [.ref C, .type "list", .type "object"] = pure () := by
  rw [refuseLoop_ref]; kernel_rfl
theorem cbc_init (x : Addr) : checkBoundCall "list.__init__" ⟨[.ref x], []⟩ = pure () := by kernel_rfl
section
variable {prog : Program} {w : World} {A : Around} {K : Frag} {C x L : Addr} {s : Shared} {h₀ : Heap} {m : Str → Option Value} {news news' : List (Addr × Obj)} {R : Result → Shared → Prop}
theorem osa_openL {ox : Obj} {od : Option Obj} {name : Str} {tk : Tok} {v : Value} {r : Option Value} (X : K.In s.heap) (I : InstAt s.heap x ox C od) (hp : overL K C = true) (ht : takerIn K C name = some r)
    (h : ∀ b, wpAny (model prog w) A.in1 (match r with | some a => setByDescriptor a (.ref x) v | none => storeInOwnDict (.ref x) (.ref C) (.str name tk) name v b)
      (fun fin s' => match fin with | .done f => R (.ok f) s' | .again c' => c'.quiet = true ∧ codeAny (model prog w) A c' R s') (fun e s' => R (.error e) s') s) :
    codeAny (model prog w) A (.call (.builtin "object.__setattr__") ⟨[.ref x, .str name tk, v], []⟩) R s := by
  have SF := PySem.F.store_object
  obtain ⟨cd, hc, ho⟩ := any_some hp
  have ho : cd.mro = [.ref C, .type "list", .type "object"] := by simpa using ho
  have sub : Looks (model prog w) s.heap (isInstance (.ref x) (.type "object")) true := I.type.andThen (looks_mroIn X (by unfold mroIn; rw [hc, Option.bind_some, ho]; simp))
  refine codeAny_call_builtin SF.slot.plain SF.entry (@check_slot (model prog w) _ _ s "object.__setattr__" "object" "__setattr__" (.ref x) [.str name tk, v] [] _ SF.kind SF.split sub (SF.args (.ref x) (.str name tk) v) ?_)
  obtain ⟨attr, ha, hr⟩ := Option.bind_eq_some_iff.mp ht
  have hm : Looks (model prog w) s.heap (mroOf (.ref C)) cd.mro := (looks_clsIn X hc).andThen .now
  have L3 : Looks (model prog w) s.heap (storeTaker? attr) r := by
    cases attr with
    | none => cases hr; exact .now
    | some a =>
      obtain ⟨b, hb, rfl⟩ := Option.map_eq_some_iff.mp hr
      refine (looks_takesIn X hb).andThen ?_
      cases b <;> exact .now
  rw [osa_eq, refuse_eq]
  refine wpAny_bind (wpAny_bind (I.type.here (wpAny_bind (hm.here ?_))))
  rw [ho, refuseL]
  refine wpAny_pure (wpAny_bind (I.type.here (wpAny_bind ((looks_findIn X ha).here (wpAny_bind (L3.here ?_))))))
  exact h _
theorem osa_dictL {ox od od' : Obj} {dx : Addr} {name : Str} {tk : Tok} {v : Value} {pre post : List (Addr × Obj)} {es : List DictEntry} {n : Nat} (F : Fr h₀ L s.heap m) (N : News h₀ L s.heap (pre ++ (dx, od) :: post)) (X : K.In s.heap)
    (I : InstAt s.heap x ox C (some od)) (hd : ox.dict = some dx) (hp : overL K C = true) (ht : takerIn K C name = some none) (hh : (clsIn K C).any (·.hasDict) = true)
    (hl : (lookIn name od).isSome = true) (h1 : ∀ p ∈ pre, p.1 ≠ dx) (h2 : ∀ p ∈ post, p.1 ≠ dx)
    (e : Obj.putName name (PyData.keyHash w.params name) (.str name s.toks) v od = od') (e' : od'.data = .dict es.toArray n) (hz : es.length ≤ 1000)
    (h : ∀ h', Fr h₀ L h' m → News h₀ L h' (pre ++ (dx, od') :: post) → R (.ok (.ret .none)) { s with heap := h', toks := s.toks + 1 }) :
    codeAny (model prog w) A (.call (.builtin "object.__setattr__") ⟨[.ref x, .str name tk, v], []⟩) R s := by
  refine osa_openL X I hp ht fun b => ?_
  obtain ⟨cd, hc, hd'⟩ := any_some hh
  obtain ⟨U1, U2⟩ := news_upd (f := Obj.putName name (PyData.keyHash w.params name) (.str name s.toks) v) F N h1 h2 e (by obtain ⟨_, _, dd, _⟩ := od'; cases e'; rfl)
  have D := (N (dx, od) (by simp)).1
  have D' := (U2 (dx, od') (by simp)).1
  obtain ⟨hx, hcl, hn, -⟩ := I
  obtain ⟨oc, odi, oda, osl⟩ := ox
  dsimp only at hcl hd
  subst hcl hd
  refine wpAny_bind (wpAny_pure (wpAny_bind (wpAny_bind (wpAny_loadPart hx (wpAny_bind ((looks_clsIn X hc).here ?_))))))
  rw [hd']
  refine wpAny_pure (a := some dx) (wpAny_bind (wpAny_pure (wpAny_bind ?_)))
  unfold nsSet
  refine wpAny_bind (wpAny_bind (wpAny_askSetting (wpAny_pure (wpAny_bind (wpAny_mkText (wpAny_bind (wpAny_loadPart D ?_)))))))
  unfold lookIn at hl
  split at hl
  · rename_i es₀ n₀ q
    rw [q]
    dsimp only
    have c : (!es₀.any (·.key.isStr name) && es₀.any (·.refKey)) = false := by
      rw [← Array.any_toList, ← Array.any_toList]
      split at hl
      · rename_i en he
        rw [List.any_eq_true.mpr ⟨en, List.mem_of_find?_eq_some he, List.find?_some he⟩]; rfl
      · split at hl
        · cases hl
        · rename_i z; rw [Bool.not_eq_true] at z; rw [z, Bool.and_false]
    rw [aRefKeyMayBeTheName_at, c]
    refine wpAny_updatePart D ?_
    refine wpAny_bind (wpAny_lookBehind D' (by rw [e']; exact pastItsLine_dict (by rw [List.size_toArray, sizeLine_eq]; omega)) ?_)
    exact wpAny_pure (h _ U1 U2)
  · cases hl
end
section
variable {prog : Program} {w : World} {A A₀ : Around} {E : Value → Shared → Prop} {s : Shared} {K : Frag} {q x C dx L : Addr} {h₀ : Heap} {m : Str → Option Value} {news news' : List (Addr × Obj)} {ox od : Obj} {es es' : List DictEntry} {n n' : Nat} {name : Str} {v : Value}
theorem set_dictL {Q : Unit → Shared → Prop} (F : Fr h₀ L s.heap m) (X₀ : K.In h₀) (N : News h₀ L s.heap news) (I : InstAt s.heap x ox C (some (dictOf es n))) (hd : ox.dict = some dx)
    (hs : findIn K (.ref C) "__setattr__" = some (some (.builtin "object.__setattr__"))) (hp : overL K C = true) (ht : takerIn K C name = some none) (hh : hasDictIn K C = true) (hl : (getL name es).isSome = true)
    (e : (putL name (PyData.keyHash w.params name) (.str name (s.toks + 1)) v es, putN name es n) = (es', n')) (U : Upd dx (dictOf es n) (dictOf es' n') news news') (hz : es'.length ≤ 1000)
    (h : ∀ h', Fr h₀ L h' m → News h₀ L h' news' → Q () { s with heap := h', toks := s.toks + 2 }) :
    wpAny (model prog w) A (setAttr (.ref x) name v) Q E s := by
  obtain ⟨pre, post, rfl, rfl, a, b⟩ := U.split
  obtain ⟨e1, e2⟩ := Prod.mk.inj e
  exact set_plain (X₀.keeps F.keep) I hs (osa_dictL (s := { s with toks := s.toks + 1 }) F N (X₀.keeps F.keep) I hd hp ht hh (by rw [lookIn_dict]; exact hl) a b (by rw [putName_dict, e1, e2]) rfl hz fun h' F' N' => h h' F' N')
theorem call_bound_init {dx : Addr} {k : Nat} {Q : Value → Shared → Prop} (F : Fr h₀ L s.heap m) (N : News h₀ L s.heap news) (hq : (q, boundO "method-wrapper" "list.__init__" x) ∈ news)
    (U : Upd x (pileO dx #[] k) (pileO dx #[] k) news news') (h : ∀ h', Fr h₀ L h' m → News h₀ L h' news' → Q .none { s with heap := h' }) : wpAny (model prog w) A (call (.ref q) []) Q E s := by
  obtain ⟨pre, post, rfl, rfl, a, b⟩ := U.split
  have hx : (x, pileO dx #[] k) ∈ pre ++ (x, pileO dx #[] k) :: post := List.mem_append.mpr (.inr (.head _))
  have hl := N.get hx
  refine wpAny_call (codeAny_of_tree ?_)
  show wpAny _ A.in1 (callAny (.ref q) ⟨[], []⟩) _ _ s
  unfold callAny
  refine wpAny_bind (wpAny_load (N.get hq) ?_)
  show wpAny _ _ (do checkBoundCall "list.__init__" ⟨[.ref x], []⟩; again (.builtin "list.__init__" ⟨[.ref x], []⟩)) _ _ _
  refine wpAny_bind (wpAny_of_eq (cbc_init x) (wpAny_pure ⟨Code.quiet_builtin _ (by decide +kernel), codeAny_builtin PySem.F.entry_list_init ?_⟩))
  have z := news_upd F N a b (f := Obj.mapSeq (fun _ => #[])) (o' := pileO dx #[] k) rfl rfl
  show wpAny _ _ (do let old ← Builtin.List.listItems (.ref x); Builtin.List.listUpdate (.ref x) (fun _ => #[]); letGo old.toList.reverse; ret .none) _ _ s
  refine wpAny_bind ?_
  unfold Builtin.List.listItems
  refine wpAny_bind (wpAny_seqItems hl rfl (wpAny_pure ?_))
  show wpAny _ _ (updateSeq x (fun _ => #[]) >>= fun _ => letGo (#[] : Array Value).toList.reverse >>= fun _ => ret .none) _ _ s
  refine wpAny_bind (wpAny_updateSeq hl rfl ?_)
  refine wpAny_bind (wpAny_letGo (wpAny_pure ?_))
  exact h _ z.1 z.2
end
end Mine
end
-- KM
section
open PySem PySem.W PyProof.Rows Mine
local macro_rules | `(tactic| k_all) => `(tactic| assumption)
local macro_rules | `(tactic| k_inst) => `(tactic| (refine' Mine.pile_inst ?N ?h1 ?h2; (case N => k_asm); (case h1 => k_mem); (case h2 => k_mem)))
local macro_rules | `(tactic| walk_at "getMethod ref") => `(tactic| (k_here; k_dflt (refine' Mine.super_len ?k1 ?k2 ?k3 ?k4 ?k5 ?k6 ?k7 ?k8 ?k9 ?ka ?kb ?_; (case k1 => k_asm); (case k2 => k_asm); (case k3 => k_asm); (case k4 => k_mem); (case k5 => k_inst); (case k6 => k_is); (case k7 => ks_is); (case k8 => k_is); (case k9 => decide); (case ka => exact rfl); (case kb => decide +kernel); intro q' h' F' N' l1; (try k_lt l1); (try dsimp only))))
local macro_rules | `(tactic| walk_at "callWith ref") => `(tactic| (k_here; k_dflt (refine' Mine.callWith_bound0 ?k1 ?k2 ?k3 ?k4 ?_; (case k3 => k_asm); (case k4 => k_mem); (case k1 => decide); (case k2 => decide))))
local macro_rules | `(tactic| walk_at "setAttr ref") => `(tactic| (k_here; k_dflt (refine' Mine.set_dictL ?k1 ?k2 ?k3 ?k4 ?k5 ?k6 ?k7 ?k8 ?k9 ?k10 ?k11 ?k12 ?k13 ?_; (case k1 => k_asm); (case k2 => k_asm); (case k3 => k_asm); (case k4 => k_inst); (case k5 => exact rfl); (case k6 => k_is); (case k7 => kernel_rfl); (case k8 => k_is); (case k9 => k_is); (case k10 => k_get); (case k11 => k_put); (case k12 => k_upd); (case k13 => exact Nat.le_of_ble_eq_true rfl); k_whole; intro h' F' N'; (try k_sweep))))
local macro_rules | `(tactic| walk_at "call ref") => `(tactic| (k_here; k_dflt (refine' Mine.call_bound_init ?k1 ?k2 ?k3 ?k4 ?_; (case k1 => k_asm); (case k2 => k_asm); (case k3 => k_mem); (case k4 => k_upd); intro h' F' N')))
local macro_rules | `(tactic| walk_at "wpAt") => `(tactic| (dsimp only; ks_step "execs cons"; refine ks_wpAt_execs_cons ?_))
local macro_rules | `(tactic| walk_at "wpAt") => `(tactic| (ks_step "attributeBase Call"; (try dsimp only); k_here; k_dflt (refine ks_node (by k_asm) (by k_asm) (by k_asm) (by k_asm) (by k_is) (by rfl) (by rfl) (by k_inst) (by k_is) (by rfl) (by first | rfl | decide +kernel) (by k_is) (by k_is) (by k_is) (by k_is) (by decide) (by rfl) (by rfl) (by rfl) (by rfl) (by decide +kernel) (by first | boot_by_name | rfl | kernel_rfl) ?_; intro so' h' F' N' l1; (try k_lt l1))))
local macro_rules | `(tactic| walk_at "wpAt") => `(tactic| (ks_step "eval Call"; k_dflt (refine ks_wpAt_MethodCall ?_)))
local macro_rules | `(tactic| walk_at "wpAt") => `(tactic| (ks_step "exec Expr"; k_dflt (refine ks_wpAt_Expr_any ?_)))
set_option maxRecDepth 100000 in
set_option maxHeartbeats 2000000 in
theorem make_spec (w : World) (led : List (Addr × Obj)) :
    DefSpec w 253 10 [] led fun h₀ L m s Q =>
      ∀ x dx t1 t2 k h' tk', Fr h₀ L h' m → News h₀ L h' ((x, pileO dx #[] 0) :: (dx, initD w t1 t2 k) :: led) → (∀ p ∈ led, p.1 < dx) → dx < x → Q (.ref x) { s with heap := h', toks := tk' } := by
  unfold DefSpec Ctxt
  k_fill
  intro p loose mean mg mb dp un gd cn cs a ccd cl outer A₀ base h₀ L m s Q E hB hF hX hN hT hcs hdp hun hQ
  refine call_clsL hF hX hN (makesL_253 w) (fI := 190) (by k_is) (by k_is) ?_
  intro x dx hh hF1 hN1 l1 l2
  clear hF hN
  (refine' ks_code_super ?k1 ?k2 ?k3 ?k4 ?k5 ?kA ?kF ?kK ?k6 ?k7 ?k8 ?k9 ?kB ?_ ?c1 ?c2 ?c3 ?c4; (case kA => exact rfl); (case kF => exact rfl); (case kK => exact hcs); (case k1 => k_asm); (case k2 => k_asm); (case k3 => k_asm); (case k4 => k_asm); (case k5 => k_asm); (case k6 => k_is); (case k7 => k_is); (case k8 => ktr_room); (case k9 => exact binds_K (by k_in) rfl (by k_is) rfl rfl rfl); (case kB => exact locs rfl); (case c1 => decide); (case c2 => exact rfl); (case c3 => exact rfl); (case c4 => exact rfl); intro g' L' h' FG' F' N' B' X' T' l3; (try k_lt l3); (try dsimp only); (try k_lift B'))
  have n1 : ∀ p ∈ led, p.1 ≠ dx := fun p hp => Nat.ne_of_lt (l1 p hp)
  have n2 : ∀ p ∈ led, p.1 ≠ x := fun p hp => Nat.ne_of_lt (Nat.lt_trans (l1 p hp) l2)
  have n3 : @Ne Nat x dx := Nat.ne_of_gt l2
  k_steps
  rename Fr h₀ L _ _ => kF2
  rename News h₀ L _ _ => kN2
  exact hQ _ _ _ _ _ _ _ kF2 (news_sub kN2 fun _ h => .tail _ (.tail _ h)) l1 l2
end
-- PG
section
set_option maxRecDepth 100000
set_option maxHeartbeats 4000000
open PySem PySem.Calls PySem.W PyProof.Rows Builtin
namespace Mine
def IsSeq (h : Heap) (a : Addr) (items : Array Value) : Prop := ∃ o n, h.get? a = some o ∧ o.data = .seq items n
theorem IsSeq.keeps {h h' : Heap} {a : Addr} {items : Array Value} (x : IsSeq h a items) (k : ∀ o, h.get? a = some o → h'.get? a = some o) : IsSeq h' a items := let ⟨o, n, e, d⟩ := x; ⟨o, n, k _ e, d⟩
section
open PySem.F
variable {prog : Program} {w : World} {A : Around} {E : Value → Shared → Prop} {s : Shared}
theorem next_item {it l : Addr} {i : Nat} {items : Array Value} {x : Value} {Q : Option Value → Shared → Prop} (hit : s.heap.IsListIter it l i)
    (hl : IsSeq s.heap l items) (hx : items[i]? = some x)
    (hQ : ∀ h', h'.IsListIter it l (i + 1) → Heap.SameBut it s.heap h' → Q (some x) { s with heap := h' }) :
    wpAny (model prog w) A (pyNext (.ref it)) Q E s := by
  obtain ⟨o, ho, hc, hd⟩ := id hit
  obtain ⟨ol, nl, hol, hdl⟩ := hl
  unfold pyNext
  refine wpAny_bind (wpAny_attempt (wpAny_callSpecial?_slot (name := Str.ofString "__next__") hit.typeIs slot_listiter_next
    (wpAny_call_entry slot_listiter_next hit.typeIs entry_listiter_next ?_ (args_listiter_next _))))
  show wpAny _ _ (field (.ref it) 0 >>= _) _ _ s
  refine wpAny_bind (wpAny_field ho hd (x := .ref l) rfl ?_)
  show wpAny _ _ (if (Value.ref l == Value.none) = true then _ else _) _ _ s
  rw [if_neg (show ¬ ((Value.ref l == Value.none) = true) from Bool.false_ne_true)]
  show wpAny _ _ (field (.ref it) 1 >>= _) _ _ s
  refine wpAny_bind (wpAny_field ho hd (x := .int i 0) rfl ?_)
  show wpAny _ _ (seqItems? (.ref l) >>= _) _ _ s
  refine wpAny_bind (wpAny_seqItems hol hdl ?_)
  simp only [Int.toNat_natCast, hx]
  refine wpAny_bind (wpAny_setField ho hd (by simp) (wpAny_pure ⟨x, rfl, wpAny_pure (hQ _ ?_ (Heap.SameBut.update ..))⟩))
  exact ⟨_, Heap.get?_update_self _ ho (Obj.isFreed_of_fields (Obj.data_mapFields hd _)), (Obj.cls_mapFields ..).trans hc, by
    rw [Obj.data_mapFields hd]; simp [rawInt]⟩
theorem next_end {it l : Addr} {i : Nat} {items : Array Value} {Q : Option Value → Shared → Prop} (hh : A.handled = none)
    (hit : s.heap.IsListIter it l i) (hl : IsSeq s.heap l items) (hx : items[i]? = none)
    (hQ : ∀ h', Heap.ExtBut it s.heap h' → Q none { s with heap := h' }) : wpAny (model prog w) A (pyNext (.ref it)) Q E s := by
  obtain ⟨o, ho, hc, hd⟩ := id hit
  obtain ⟨ol, nl, hol, hdl⟩ := hl
  unfold pyNext
  refine wpAny_bind (wpAny_attempt (wpAny_callSpecial?_slot (name := Str.ofString "__next__") hit.typeIs slot_listiter_next
    (wpAny_call_entry slot_listiter_next hit.typeIs entry_listiter_next ?_ (args_listiter_next _))))
  show wpAny _ _ (field (.ref it) 0 >>= _) _ _ s
  refine wpAny_bind (wpAny_field ho hd (x := .ref l) rfl ?_)
  show wpAny _ _ (if (Value.ref l == Value.none) = true then _ else _) _ _ s
  rw [if_neg (show ¬ ((Value.ref l == Value.none) = true) from Bool.false_ne_true)]
  show wpAny _ _ (field (.ref it) 1 >>= _) _ _ s
  refine wpAny_bind (wpAny_field ho hd (x := .int i 0) rfl ?_)
  show wpAny _ _ (seqItems? (.ref l) >>= _) _ _ s
  refine wpAny_bind (wpAny_seqItems hol hdl ?_)
  simp only [Int.toNat_natCast, hx]
  refine wpAny_bind (wpAny_rule (wpAny_bind (wpAny_setField ho hd (by simp) ?_)))
  show wpAny _ _ (newExc (.type "StopIteration") [] >>= _) _ _ _
  refine wpAny_bind ?_
  simp only [newExc, newTuple]
  refine wpAny_bind (wpAny_newObj_type ?_ (by size_fits))
  refine wpAny_bind (m := firstArgMember _ _) (wpAny_of_eq (a := Value.none) (by first | rfl | (simp only [firstArgMember]; rfl)) ?_)
  refine wpAny_newObj_type ?_ (by size_fits)
  simp only [raiseNew]
  refine wpAny_bind (wpAny_handled ?_)
  rw [show A.in1.handled = none from hh]
  refine wpAny_bind (wpAny_pure (wpAny_throw ?_))
  refine wpAny_bind (wpAny_isInstance (T := "StopIteration") (b := true) ⟨_, Heap.get?_push_size _ rfl, rfl⟩ isSubtype_stop ?_)
  exact wpAny_pure (hQ _ (((Heap.SameBut.update ..).extBut.push _).push _))
theorem sum_start {x : Value} {t0 : Tok} {Q : Value → Shared → Prop}
    (h : wpAny (model prog w) A.in1 (pyIter x) (fun it s₂ => ∃ I fp wr G n P St val, it = .ref I ∧ WalksS prog w A.in1 I fp wr G n P St ∧ St 0 s₂ ∧ (∀ b ∈ fp, b < s₂.heap.objs.size) ∧
      (∀ i v, P i v → ∃ t, v = .int (val i) t) ∧ (∀ j, j < n → InLong (val j) ∧ InLong (preSum val (j + 1))) ∧
      ∀ s' t', Moved wr G s₂ s' → Q (.int (preSum val n) t') s') E s) :
    wpAny (model prog w) A (call (.builtin "sum") [x, .int 0 t0]) Q E s := by
  refine call_function_tree F.kind_sum F.plain_sum F.entry_sum (by unfold argsOk; kernel_rfl) ?_
  unfold Builtin.«sum»
  simp only [List.length_cons, List.length_nil]
  rw [if_neg (by decide)]
  refine wpAny_bind (wpAny_of_eq (show Builtin.Builtins.bindParams "sum" ["start"] 0 ⟨[.int 0 t0], []⟩ = pure [some (.int 0 t0)] from rfl) ?_)
  refine wpAny_bind (wpAny_mono h (fun it s₂ h₂ => ?_) fun _ _ e => e)
  obtain ⟨I, fp, wr, G, n, P, St, val, rfl, W, hst, hfp, hval, hfit, hQ⟩ := h₂
  dsimp only
  rw [if_pos (by decide)]
  refine wpAny_bind (wpAny_rule (wpAny_bind (wpAny_mkInt (wpAny_bind (wpAny_pure ?_)))))
  simp only [List.forIn_cons, List.forIn_nil]
  refine wpAny_bind (wpAny_bind (wpAny_bind (wpAny_isInstance (T := "int") (b := false) (typeIs_int _ _ _) F.sub_int_str ?_)))
  simp only [Bool.false_eq_true, if_false]
  refine wpAny_pure (wpAny_bind (wpAny_bind (wpAny_isInstance (T := "int") (b := false) (typeIs_int _ _ _) F.sub_int_bytes ?_)))
  simp only [Bool.false_eq_true, if_false]
  refine wpAny_pure (wpAny_bind (wpAny_bind (wpAny_isInstance (T := "int") (b := false) (typeIs_int _ _ _) F.sub_int_bytearray ?_)))
  simp only [Bool.false_eq_true, if_false]
  refine wpAny_pure (wpAny_pure ?_)
  refine wpAny_bind (wpAny_newObj_type ?_)
  have hSf : s₂.heap.objs.size ∉ fp := fun hm => Nat.lt_irrefl _ (hfp _ hm)
  refine wpAny_pure ⟨plainId_quiet F.plain_sum_loop _, codeAny_sum_loopS W val hval hfit s₂.heap.objs.size hSf n 0 _ s₂.toks 0 rfl (Nat.zero_le _)
    (W.frame 0 s₂ _ _ hst (by first | exact Nat.le_refl _ | exact Nat.le_succ _ | omega) fun b _ o e => Heap.get?_push_of_some _ e) (Heap.get?_push_size _ rfl) fun s' t' hm => ?_⟩
  exact hQ s' t' (hm.drop_new (by first | exact Nat.le_refl _ | exact Nat.le_succ _ | omega))
end
theorem walksPile {prog : Program} {w : World} {A : Around} (hh : A.handled = none) (I ax : Addr) (hne : ax ≠ I) (items : Array Value) (Ts : Nat → Addr) (vals : Nat → Array Value)
    (hit : ∀ j, j < items.size → items[j]? = some (.ref (Ts j))) (hTI : ∀ j, j < items.size → Ts j ≠ I) :
    WalksU prog w A I (I :: ax :: (List.range items.size).map Ts) [I] items.size (fun j v => v = vals j)
      (fun j h => h.IsListIter I ax j ∧ IsSeq h ax items ∧ ∀ k, k < items.size → h.IsTuple (Ts k) (vals k))
      (fun j T h => (j < items.size ∧ T = Ts j) ∧ h.IsListIter I ax (j + 1) ∧ IsSeq h ax items ∧ ∀ k, k < items.size → h.IsTuple (Ts k) (vals k)) where
  sub := fun b hb => by simp at hb; simp [hb]
  frame := fun _ _ _ st hk => ⟨st.1.at fun o e => hk I (by simp) o e, st.2.1.keeps fun o e => hk ax (by simp) o e,
    fun k hk' => (st.2.2 k hk').at fun o e => hk (Ts k) (List.mem_cons_of_mem _ (List.mem_cons_of_mem _ (List.mem_map.mpr ⟨k, List.mem_range.mpr hk', rfl⟩))) o e⟩
  item := fun i s Q E hi st hQ => by
    refine next_item st.1 st.2.1 (x := .ref (Ts i)) (hit i hi) fun h' hit' hs' => ?_
    have tup : ∀ k, k < items.size → h'.IsTuple (Ts k) (vals k) := fun k hk' => (st.2.2 k hk').extBut hs'.extBut (hTI k hk')
    exact hQ (Ts i) (vals i) h' s.toks rfl (tup i hi) ⟨⟨hi, rfl⟩, hit', st.2.1.keeps fun o e => hs'.extBut _ o hne e, tup⟩ fun b o hb e => hs'.extBut b o (fun h => hb (by simp [h])) e
  go := fun _ _ _ _ _ s Q _ hm hQ => wpAny_letOwnedTupleGo_listiter hm.2.1 (hQ s.heap hm.2 fun _ _ _ e => e)
  apart := fun j T _ hm hmem => by
    rcases List.mem_cons.mp hmem with e | e
    · exact hTI j hm.1.1 (hm.1.2 ▸ e)
    · cases e
  done := fun s Q E st hQ => next_end hh st.1 st.2.1 (by simp) fun h' he' => hQ h' s.toks fun b o hb e => he' b o (fun h => hb (by simp [h])) e
  self := fun _ _ _ _ st hQ => wpAny_pyIter_listiter st.1 hQ
section
variable {prog : Program} {w : World} {A : Around} {E : Value → Shared → Prop} {s : Shared} {K : Frag} {x C L : Addr} {h₀ : Heap} {m : Str → Option Value} {ox : Obj} {od : Option Obj} {its : Array Value} {k : Nat}
theorem iter_pile {Q : Value → Shared → Prop} (F : Fr h₀ L s.heap m) (X₀ : K.In h₀) (I : InstAt s.heap x ox C od) (hs : findIn K (.ref C) "__iter__" = some (some (.builtin "list.__iter__"))) (hm : mroIn K C (.type "list") = some true)
    (hQ : Q (.ref s.heap.objs.size) { s with heap := s.heap.push { cls := .type "list_iterator", data := .fields #[.ref x, .int 0 0] } }) : wpAny (model prog w) A (pyIter (.ref x)) Q E s := by
  have X := X₀.keeps F.keep
  have hb : bindSpecial (.builtin "list.__iter__") (.ref x) = pure (.builtin "list.__iter__", [.ref x]) := PySem.F.slot_list_iter.bind _
  have hc : wpAny (model prog w) A (call (.builtin "list.__iter__") [.ref x]) (fun v s' => v = .ref s.heap.objs.size ∧ s' = { s with heap := s.heap.push { cls := .type "list_iterator", data := .fields #[.ref x, .int 0 0] } }) E s := by
    refine call_own (owner := "list") (n := "__iter__") (b := Builtin.«list.__iter__») (.inr (by decide +kernel)) (by decide +kernel) (by decide +kernel) PySem.F.entry_list_iter (isinst_own X I hm) (PySem.F.args_list_iter_1 _) ?_
    show wpAny _ _ (do ret (← newFields "list_iterator" [.ref x, rawInt 0])) _ _ s
    exact wpAny_bind (wpAny_newObj_type (wpAny_pure ⟨_, rfl, rfl, rfl⟩))
  have fin : wpAny (model prog w) A (call (.builtin "list.__iter__") [.ref x] >>= fun v => pure (some v)) (fun r s' => r = some (.ref s.heap.objs.size) ∧ s' = { s with heap := s.heap.push { cls := .type "list_iterator", data := .fields #[.ref x, .int 0 0] } }) E s :=
    wpAny_bind (wpAny_mono hc (fun v s' h' => wpAny_pure ⟨by rw [h'.1], h'.2⟩) fun _ _ z => z)
  have one : ∀ refuse : Sem Value, wpAny (model prog w) A (callSpecialIfBoundUnlessNone? (.ref x) "__iter__" refuse) (fun r s' => r = some (.ref s.heap.objs.size) ∧ s' = { s with heap := s.heap.push { cls := .type "list_iterator", data := .fields #[.ref x, .int 0 0] } }) E s := by
    intro refuse
    simp only [callSpecialIfBoundUnlessNone?, bindSpecialIfBound?]
    refine wpAny_holding (wpAny_bind (wpAny_bind (wpAny_bind (I.type.here ((looks_findIn X hs).here ?_)))))
    refine wpAny_bind (wpAny_askSetting (wpAny_ite ?_))
    have fin2 : wpAny (model prog w) A (if (Value.builtin "list.__iter__" == Value.none) = true then (refuse >>= fun v => pure (some v)) else (call (.builtin "list.__iter__") [.ref x] >>= fun v => pure (some v))) (fun r s' => r = some (.ref s.heap.objs.size) ∧ s' = { s with heap := s.heap.push { cls := .type "list_iterator", data := .fields #[.ref x, .int 0 0] } }) E s := by
      rw [if_neg (show ¬ ((Value.builtin "list.__iter__" == Value.none) = true) from Bool.false_ne_true)]
      exact fin
    rw [hb]
    split
    · exact wpAny_bind (wpAny_pure (wpAny_pure (by exact fin2)))
    · exact wpAny_tryCatch (wpAny_bind (wpAny_pure (wpAny_pure (by exact fin2))))
  unfold pyIter
  refine wpAny_bind (wpAny_bind (I.type.here ((looks_findIn X hs).here ?_)))
  show wpAny _ A (callSpecialIfBoundUnlessNone? (.ref x) "__iter__" _ >>= _) Q E s
  refine wpAny_bind (wpAny_mono (one _) (fun r s' hr => ?_) fun _ _ z => z)
  obtain ⟨rfl, rfl⟩ := hr
  have hT : Shared.TypeIs { s with heap := s.heap.push { cls := .type "list_iterator", data := .fields #[.ref x, .int 0 0] } } (.ref s.heap.objs.size) "list_iterator" := ⟨_, Heap.get?_push_size _ rfl, rfl⟩
  refine wpAny_bind (wpAny_specialOf hT _root_.PySem.slot_listiter_next.lookup ?_)
  exact wpAny_pure hQ
end
end Mine
end
-- PG2
section
set_option maxRecDepth 100000
set_option maxHeartbeats 4000000
open PySem PySem.Calls PySem.W PyProof.Rows Builtin
namespace Mine
def TabOk (pos : Pos) (ps : Array Value) : Prop := ps = #[] ∨ ∃ c', ps = #[rawInt pos.line, rawInt pos.col, .ref c']
section
variable {M : Model} {A : Around} {E : Value → Shared → Prop} {s : Shared} {h₀ : Heap} {L c P : Addr} {m : Str → Option Value} {ps : Array Value} {led : List (Addr × Obj)}
theorem news_tab {h' : Heap} {ps' : Array Value} (N : News h₀ L s.heap ((P, tabObj ps) :: led)) (hl : ∀ p ∈ led, p.1 ≠ P) (hx : Heap.ExtBut P s.heap h') (ht : h'.get? P = some (tabObj ps')) : News h₀ L h' ((P, tabObj ps') :: led) := by
  intro q hq
  rcases List.mem_cons.mp hq with rfl | hq
  · exact ⟨ht, (N _ (.head _)).2⟩
  · exact ⟨hx _ _ (hl q hq) (N q (.tail _ hq)).1, (N q (.tail _ hq)).2⟩
theorem fr_tab {h' : Heap} (F : Fr h₀ L s.heap m) (N : News h₀ L s.heap ((P, tabObj ps) :: led)) (hx : Heap.ExtBut P s.heap h') : Fr h₀ L h' m := by
  have n := (N _ (.head _)).2
  obtain ⟨oL, a1, a2, hL, a3⟩ := F.ns
  exact ⟨⟨oL, a1, a2, hx _ _ (Ne.symm n.1) hL, a3⟩, fun b o e => hx b o (fun z => by rw [z, n.2] at e; cases e) (F.keep b o e), F.above⟩
theorem code_gen {env : Env} {pos : Pos} {q : Str} {scope : Scope} {Q : Value → Shared → Prop} (F : Fr h₀ L s.heap m) (N : News h₀ L s.heap ((P, tabObj ps) :: led)) (hl : ∀ p ∈ led, p.1 ≠ P) (C : CodeHd h₀ c P) (hc : env.code = .ref c) (ht : TabOk pos ps)
    (h : ∀ v h' tk ps', TabOk pos ps' → Fr h₀ L h' m → News h₀ L h' ((P, tabObj ps') :: led) → Heap.ExtBut P s.heap h' → s.heap.objs.size ≤ h'.objs.size → Q v { s with heap := h', toks := tk }) :
    wpAny M A (genexprCode env pos q scope) Q E s := by
  have CH := C.keeps F.keep
  have hP := (N _ (.head _)).1
  rcases ht with rfl | ⟨c', rfl⟩
  · refine wpAny_genexprCodeX hc (CH.code hP (by trivial)) (CH.tab hP) rfl fun c' h' tk hx hge hlt hcode _ htab _ => ?_
    exact h _ _ _ _ (.inr ⟨c', rfl⟩) (fr_tab F N hx) (news_tab N hl hx htab.2) hx (Nat.le_trans hge (Nat.le_of_lt hlt))
  · obtain ⟨o, vs, file, tf, flags, tg, inF, text, tt, op, ho, hd, h11, h2, h7, h9, h10, hop, hpd, htr, hne⟩ := CH.code (ps := #[rawInt pos.line, rawInt pos.col, .ref c']) hP (by simp [TriplesOk, rawInt])
    unfold genexprCode codeAt
    rw [hc, if_neg (show ¬ ((Value.ref c == Value.none) = true) from Bool.false_ne_true)]
    refine wpAny_bind (wpAny_fieldsOf ho hd ?_)
    rw [h11]
    refine wpAny_bind (wpAny_fieldsOf hop hpd ?_)
    have e : codeAmong pos [rawInt pos.line, rawInt pos.col, Value.ref c'] = some (.ref c') := by simp [codeAmong, rawInt]
    rw [e]
    exact wpAny_pure (h _ s.heap _ _ (.inr ⟨c', rfl⟩) F N (fun _ _ _ e => e) (Nat.le_refl _))
end
end Mine
end
-- PG3
section
set_option maxRecDepth 100000
set_option maxHeartbeats 4000000
open PySem PySem.Calls PySem.W PyProof.Rows Builtin
namespace Mine
section
variable {prog : Program} {w : World} {A : Around} {E : Value → Shared → Prop} {s : Shared} {mg mb m : Str → Option Value}
theorem len_name {env : Env} {x : Str} {X : Str} {t : Tok} {p1 p2 p3 : Pos} {Q : Value → Shared → Prop} (hk : env.scope.kind = .function) (hlen : env.kindOf "len" = some .globalImplicit) (hx : env.kindOf x = some .local)
    (hg : s.heap.Ns env.globals mg) (hb : s.heap.Ns env.builtins mb) (hn : s.heap.Ns env.locals m) (hmg : mg "len" = none) (hmb : mb "len" = some (.builtin "len")) (hm : m x = some (.str X t)) (hd : (x == ("__debug__" : Str)) = false)
    (hfit : ¬ (X.length : Int) ≥ 2 ^ 63) (h : ∀ u, Q (.int X.length u) { s with toks := s.toks + 1 + 1 }) : wpAny (model prog w) A (eval (.Call (.Name "len" p1) [.Name x p2] [] p3) env) Q E s := by
  refine wpAny_Call_NameR (wpAny_Name (ks_loadName_global hk hlen (loadGlobal_builtin hg hmg hb hmb ?_)))
  show wpAny _ _ (callWith p3 (.builtin "len") [] [(false, PySem.eval (.Name x p2) env)] []) _ _ _
  exact callWith_builtin (by rfl) (evalArgs_plain (wpAny_bind (wpAny_mono (wpAny_Name (wpAny_loadName_local (Q := fun v s' => v = .str X t ∧ s' = s) hk hx hn hm ⟨rfl, rfl⟩) hd) (fun v s' hv => by obtain ⟨rfl, rfl⟩ := hv; exact wpAny_pure (P.len_str hfit (h _))) fun _ _ z => z)))
theorem elt_len {env : Env} {X Y : Str} {t u : Tok} {p1 p2 p3 p4 p5 p6 p7 : Pos} {Q : Value → Shared → Prop} (hk : env.scope.kind = .function) (hlen : env.kindOf "len" = some .globalImplicit) (hx : env.kindOf "fws" = some .local) (hy : env.kindOf "part" = some .local)
    (hg : s.heap.Ns env.globals mg) (hb : s.heap.Ns env.builtins mb) (hn : s.heap.Ns env.locals m) (hmg : mg "len" = none) (hmb : mb "len" = some (.builtin "len")) (hm : m "fws" = some (.str X t)) (hm2 : m "part" = some (.str Y u))
    (hX : X.length < 1000) (hY : Y.length < 1000) (h : ∀ v, Q (.int (X.length + Y.length) v) { s with toks := s.toks + 1 + 1 + 1 + 1 + 1 }) :
    wpAny (model prog w) A (eval (.BinOp (.Call (.Name "len" p1) [.Name "fws" p2] [] p3) .Add (.Call (.Name "len" p4) [.Name "part" p5] [] p6) p7) env) Q E s := by
  refine wpAny_BinOp (len_name hk hlen hx hg hb hn hmg hmb hm (by decide) (by omega) fun a => ?_)
  refine len_name (s := { s with toks := s.toks + 1 + 1 }) hk hlen hy hg hb hn hmg hmb hm2 (by decide) (by omega) fun b => ?_
  exact PySem.wpAny_add_int (h _)
end
end Mine
end
-- PG4
section
set_option maxRecDepth 100000
set_option maxHeartbeats 4000000
open PySem PySem.Calls PySem.W PyProof.Rows Builtin
namespace Mine
def LenGen (prog : Program) (w : World) (A : Around) (lo : Addr) (a : Addr) (n : Nat) (s : Shared) : Prop :=
  ∃ fp wr G P St, WalksS prog w A a fp wr G n P St ∧ St 0 s ∧ (∀ b ∈ fp, b < s.heap.objs.size) ∧ (∀ i v, P i v → ∃ t, v = .int 1 t) ∧ (∀ b ∈ wr, lo ≤ b) ∧ (∀ x y, G x y → AllBare x → AllBare y)
section
variable {prog : Program} {w : World} {A : Around} {E : Value → Shared → Prop} {s : Shared} {h₀ : Heap} {L : Addr} {m mg mb : Str → Option Value} {ps its : Array Value} {led : List (Addr × Obj)} {K : Frag} {p : Program} {loose : List Str} {mean : ExcName → Option Value} {pa da : Addr} {n : Nat} {od : Obj}
theorem gen_len {q : Str} {sc gsc : Scope} {f : Addr} {p1 p2 p3 p4 p5 p6 p7 pf pp pt pi pos : Pos} {kt : Nat} {Q : Value → Shared → Prop} (F : Fr h₀ L s.heap m) (X₀ : K.In h₀) (N : News h₀ L s.heap ((215, tabObj ps) :: led)) (hl : ∀ p ∈ led, p.1 ≠ 215) (T : Top p loose mean mg mb h₀)
    (I1 : (pa, pileO da its n) ∈ led) (I2 : (da, od) ∈ led) (Ts : Nat → Addr) (hT : ∀ j, j < its.size → its[j]? = some (.ref (Ts j)) ∧ ∃ t u k, (Ts j, tupO [.str "" t, .str "(" u] k) ∈ led)
    (C : CodeHd h₀ 219 215) (ht : TabOk pos ps) (hm : m "self" = some (.ref pa)) (hsc : sc.kind = .function) (hself : sc.names.lookup ("self" : Str) = some .local)
    (hg : gsc = { kind := .function, names := [(".0", .local), ("fws", .local), ("part", .local), ("len", .globalImplicit)], isGenerator := true, isCoroutine := false })
    (hlen : nsIn K mainGlobals "len" = some none) (hboot : bootBuiltins "len" = some (.builtin "len")) (hit : findIn K (.ref 253) "__iter__" = some (some (.builtin "list.__iter__"))) (hmro : mroIn K 253 (.type "list") = some true)
    (hh : A.handled = none) (hroom : A.depth < recursionLimit)
    (h : ∀ a h' tk gs ps', TabOk pos ps' → Fr h₀ L h' m → News h₀ L h' ((215, tabObj ps') :: led) → gs.bare = true → LenGen prog w A.in1 s.heap.objs.size a (passing (fun _ => true) its.size 0).length { s with heap := h', gens := s.gens.push gs, toks := tk } → (∀ q ∈ (215, tabObj ps') :: led, q.1 < s.heap.objs.size) → L < s.heap.objs.size → Q (.ref a) { s with heap := h', gens := s.gens.push gs, toks := tk }) :
    wpAny (model prog w) A (eval (.GeneratorExp (.BinOp (.Call (.Name "len" p1) [.Name "fws" p2] [] p3) .Add (.Call (.Name "len" p4) [.Name "part" p5] [] p6) p7) [⟨.Tuple [.Name "fws" pf, .Name "part" pp] kt pt, .Name "self" pi, [], 0⟩] gsc pos) (envOf q sc L f (.ref 219))) Q E s := by
  subst hg
  have nl : h₀.NoLimit := T.nolimit
  have hmg : mg "len" = none := mg_none_of X₀ T.g hlen
  have hmb : mb "len" = some (.builtin "len") := (T.builtins _ (by decide +kernel)).trans hboot
  obtain ⟨bm, ob, M⟩ := bmod_of_top T
  refine wpAny_GeneratorExp_walksQT (cl := []) hh rfl rfl (by decide) rfl rfl rfl (by decide) rfl hroom ?_ (fun _ => rfl)
  refine ld F hm ?_ hsc (by show sc.names.lookup _ = _; exact hself)
  have Ip : InstAt s.heap pa (pileO da its n) 253 (some od) := pile_inst N (.tail _ I1) (.tail _ I2)
  refine iter_pile F X₀ Ip hit hmro ?_
  have F1 := F.push { cls := .type "list_iterator", data := .fields #[.ref pa, .int 0 0] }
  have N1 := N.push F { cls := .type "list_iterator", data := .fields #[.ref pa, .int 0 0] }
  have h215 : s.heap.get? 215 = some (tabObj ps) := (N _ (.head _)).1
  have hJ : s.heap.objs.size ≠ 215 := fun z => by have h := Heap.lt_size h215; rw [z] at h; exact Nat.lt_irrefl _ h
  have C1 : CodeHd h₀ 219 215 := C
  refine ⟨nl.keeps F1.keep, code_gen F1 (news_swap N1) (fun p hp => ?_) C rfl ht fun v h2 tk2 ps' hps F2 N2 hx hsz => ?_⟩
  · rcases List.mem_cons.mp hp with rfl | hp
    · exact hJ
    · exact hl p hp
  have hsz1 : s.heap.objs.size + 1 ≤ h2.objs.size := by rw [Heap.size_push] at hsz; exact hsz
  have M2 := M.keeps F2.keep
  refine wpAny_builtinsFor M2.ns M2.name M2.ne M2.obj M2.cls M2.dict M2.data ?_
  obtain ⟨ch, hch⟩ := Classical.axiomOfChoice (r := fun (j : Nat) (y : Tok × Tok × Nat) => j < its.size → (Ts j, tupO [.str "" y.1, .str "(" y.2.1] y.2.2) ∈ led) fun j => by
    by_cases hj : j < its.size
    · obtain ⟨t, u, k, e⟩ := (hT j hj).2
      exact ⟨(t, u, k), fun _ => e⟩
    · exact ⟨(0, 0, 0), fun z => absurd z hj⟩
  have none0 : h₀.get? s.heap.objs.size = none := (N1 _ (.head _)).2.2
  have neJ : ∀ b o, h₀.get? b = some o → b ≠ s.heap.objs.size := fun b o e z => by rw [z, none0] at e; cases e
  have inled : ∀ q ∈ led, q.1 < s.heap.objs.size := fun q hq => Heap.lt_size (N _ (.tail _ hq)).1
  have get2 : ∀ q ∈ led, h2.get? q.1 = some q.2 := fun q hq => (N2 _ (.tail _ (.tail _ hq))).1
  refine ⟨s.heap.objs.size, s.heap.objs.size :: pa :: (List.range its.size).map Ts, [s.heap.objs.size], its.size, fun j v => v = #[.str "" (ch j).1, .str "(" (ch j).2.1], _, _, fun _ => true, fun _ v => ∃ t, v = .int 1 t, rfl,
    fun A' hA => walksPile hA _ pa (Nat.ne_of_lt (inled _ I1)) its Ts _ (fun j hj => (hT j hj).1) (fun j hj => Nat.ne_of_lt (inled _ (hch j hj))), fun i vals e => ⟨_, _, e⟩, ?_, ?_, nl.keeps F2.keep, ?_, ?_, ?_⟩
  · refine ⟨⟨_, (N2 _ (.tail _ (.head _))).1, rfl, rfl⟩, ⟨_, _, get2 _ I1, rfl⟩, fun j hj => ⟨_, get2 _ (hch j hj), rfl, _, rfl⟩⟩
  · intro b hb
    rcases List.mem_cons.mp hb with rfl | hb
    · exact Heap.lt_size (N2 _ (.tail _ (.head _))).1
    · rcases List.mem_cons.mp hb with rfl | hb
      · exact Heap.lt_size (get2 _ I1)
      · obtain ⟨j, hj, rfl⟩ := List.mem_map.mp hb
        exact Heap.lt_size (get2 _ (hch j (List.mem_range.mp hj)))
  · intro hm
    obtain ⟨_, hns, _⟩ := nl
    obtain ⟨o, _, _, ho, _⟩ := hns
    exact neJ _ _ ho (List.mem_singleton.mp hm)
  · intro href hk
    refine ⟨fun A' E' i va vb s2 m2 hA hP hns h1 h2' hkeep => wpAny_pure ⟨rfl, s2.heap, s2.toks, rfl, fun _ _ e => e⟩, fun A' E' i va vb s2 m2 hA hP hpz hns h1 h2' hkeep => ?_⟩
    have e1 : va = .str "" (ch i).1 ∧ vb = .str "(" (ch i).2.1 := by
      have := congrArg Array.toList hP
      simpa using this
    have keep0 : ∀ b o, h₀.get? b = some o → s2.heap.get? b = some o := fun b o e => hkeep b (List.mem_range.mpr (Heap.lt_size (F2.keep b o e))) (fun z => neJ b o e (List.mem_singleton.mp z)) o (hk b o (F2.keep b o e))
    rw [e1.1] at h1
    rw [e1.2] at h2'
    refine elt_len (mg := mg) (mb := mb) (m := m2) rfl rfl rfl rfl (T.g.keeps keep0) (T.b.keeps keep0) hns hmg hmb h1 h2' (by decide) (by decide) fun u => ⟨⟨u, rfl⟩, s2.heap, _, rfl, fun _ _ e => e⟩
  · intro a h5 tk gs hgb hag hsz5 hk5 W hat
    have F5 : Fr h₀ L h5 m := F2.keeps hk5
    refine h a h5 tk gs ps' hps F5 ?_ hgb ⟨_, _, _, _, _, W.in4_1, hat, ?_, ?_, ?_, fun x y hg ha => hg.bare ha⟩ ?_ F.ns.lt
    · intro q hq
      have hq' : q ∈ (215, tabObj ps') :: (s.heap.objs.size, ({ cls := .type "list_iterator", data := .fields #[.ref pa, .int 0 0] } : Obj)) :: led := by
        rcases List.mem_cons.mp hq with rfl | hq
        · exact .head _
        · exact .tail _ (.tail _ hq)
      exact ⟨hk5 _ _ (N2 q hq').1, (N2 q hq').2⟩
    · intro b hb
      show b < h5.objs.size
      rw [hsz5]
      rcases List.mem_cons.mp hb with rfl | hb
      · exact Nat.lt_succ_self _
      · rcases List.mem_cons.mp hb with rfl | hb
        · exact Nat.lt_succ_of_lt hag
        · exact Nat.lt_succ_of_lt (Nat.lt_trans (List.mem_range.mp hb) hag)
    · intro i v hv
      obtain ⟨_, _, hv⟩ := hv
      exact hv
    · intro b hb
      rcases List.mem_cons.mp hb with rfl | hb
      · exact Nat.le_of_succ_le hsz1
      · rw [List.mem_singleton.mp hb]; exact Nat.le_refl _
    · intro q hq
      rcases List.mem_cons.mp hq with rfl | hq
      · exact Heap.lt_size h215
      · exact inled q hq
end
end Mine
end
-- PG5
section
set_option maxRecDepth 100000
set_option maxHeartbeats 4000000
open PySem PySem.Calls PySem.W PyProof.Rows Builtin
namespace Mine
theorem slot_lga : Slot "list" "__getattribute__" "list.__getattribute__" := .of (owner := "list") (n := "__getattribute__") (by rw [typeLookup_type, builtinLookup_eq_fast]; kernel_rfl) (by decide +kernel) (by decide +kernel) (by decide +kernel)
  (by first | exact .inl (by decide +kernel) | exact .inr (by decide +kernel)) (by rw [isSubtype_type]; kernel_rfl)
theorem entry_lga : entryFor table "list.__getattribute__" = some Builtin.«object.__getattribute__» := entryFor_alias (id' := "object.__getattribute__") (by kernel_rfl) (by decide +kernel) (by decide +kernel) (by kernel_rfl)
theorem args_lga (o a : Value) : argsOk "list.__getattribute__" ⟨[o, a], []⟩ := by unfold argsOk; kernel_rfl
section
variable {prog : Program} {w : World} {A : Around} {E : Value → Shared → Prop} {s : Shared} {K : Frag} {x C : Addr} {ox : Obj} {od : Option Obj} {name : Str} {expr : Bool} {Q : Value → Shared → Prop}
theorem get_valueL {v : Value} (X : K.In s.heap) (I : InstAt s.heap x ox C od) (hga : findIn K (.ref C) "__getattribute__" = some (some (.builtin "list.__getattribute__"))) (hk : findIn K (.ref C) "__getattr__" = some none)
    (hf : findObj K C od name = some (.value v)) (hh : handedIn v = true) (hm : mroIn K C (.type "list") = some true) (h : Q v { s with toks := s.toks + 1 }) : wpAny (model prog w) A (getAttr (.ref x) name expr) Q E s := by
  obtain ⟨hh', g, d, t, os⟩ := s
  have L0 := I.type (M := model prog w)
  have L1 := looks_findIn (M := model prog w) X hga
  have L2 := looks_findIn (M := model prog w) X hk
  have L3 := looks_find (M := model prog w) X I hf
  unfold getAttr getAttrBy
  refine wpAny_bind (wpAny_mkText (wpAny_holding (wpAny_bind (L0.at (wpAny_bind (L1.at ?_))))))
  show wpAny _ _ (getAttrByItsOwn (.ref x) (.str name t) (.ref C) (.builtin "list.__getattribute__") true expr) _ _ _
  unfold getAttrByItsOwn hookBefore callGetattribute boundAndCalled
  refine wpAny_bind (L2.at ?_)
  refine wpAny_bind (wpAny_attempt (wpAny_holding ?_))
  rw [if_neg (by cases expr <;> decide)]
  refine wpAny_bind (wpAny_of_eq (slot_lga.bind _) ?_)
  refine wpAny_mono (Q := fun r s' => r = v ∧ s' = ⟨hh', g, d, t + 1, os⟩) (E := fun _ _ => False) (call_own (owner := "list") (n := "__getattribute__") (.inr (by decide +kernel)) (by decide +kernel) (by decide +kernel) entry_lga (isinst_own X I hm) (args_lga _ _) ?_) (fun r s' hr => ?_) fun _ _ z => z.elim
  · unfold Builtin.«object.__getattribute__»
    refine wpAny_bind (wpAny_pure (wpAny_bind (wpAny_pure (wpAny_bind (L0.at (wpAny_bind (L3.at ?_)))))))
    exact wpAny_pure ⟨v, rfl, rfl, rfl⟩
  · obtain ⟨rfl, rfl⟩ := hr
    show wpAny _ _ (handedOut r) _ _ _
    rw [handedOut_of hh]; exact wpAny_pure h
variable {h₀ : Heap} {L pa da : Addr} {m mg mb : Str → Option Value} {its : Array Value} {n k : Nat} {news : List (Addr × Obj)} {t1 t2 : Tok}
theorem get_size (F : Fr h₀ L s.heap m) (X₀ : K.In h₀) (N : News h₀ L s.heap news) (h1 : (pa, pileO da its n) ∈ news) (h2 : (da, initD w t1 t2 k) ∈ news)
    (hga : findIn K (.ref 253) "__getattribute__" = some (some (.builtin "list.__getattribute__"))) (hk : findIn K (.ref 253) "__getattr__" = some none) (hf : findIn K (.ref 253) "_initial_size" = some none) (hd : hasDictIn K 253 = true) (hm : mroIn K 253 (.type "list") = some true)
    (h : Q (.int 0 t2) { s with toks := s.toks + 1 }) : wpAny (model prog w) A (getAttr (.ref pa) "_initial_size" expr) Q E s := by
  refine get_valueL (X₀.keeps F.keep) (pile_inst N h1 h2) hga hk (findObj_own hd hf rfl ?_) rfl hm h
  rfl
end
end Mine
end
-- PG6
section
set_option maxRecDepth 100000
set_option maxHeartbeats 4000000
open PySem PySem.Calls PySem.W PyProof.Rows Builtin
namespace Mine
theorem LenGen.toks {prog : Program} {w : World} {A : Around} {lo a : Addr} {n tk : Nat} {s : Shared} (x : LenGen prog w A lo a n s) (h : s.toks ≤ tk) : LenGen prog w A lo a n { s with toks := tk } := by
  obtain ⟨fp, wr, G, P, St, W, hst, r⟩ := x
  exact ⟨fp, wr, G, P, St, W, W.frame 0 s s.heap tk hst h fun _ _ _ e => e, r⟩
theorem pass_all (n : Nat) : (passing (fun _ => true) n 0).length = n := by simp [passing, PySem.W.filter_tt]
theorem preSum_one (n : Nat) : preSum (fun _ => (1 : Int)) n = n := by
  induction n with
  | zero => rfl
  | succ n ih =>
    show preSum (fun _ => (1 : Int)) n + 1 = _
    rw [ih]; omega
section
variable {prog : Program} {w : World} {A : Around} {E : Value → Shared → Prop} {s : Shared} {h₀ : Heap} {L lo a : Addr} {m : Str → Option Value} {news : List (Addr × Obj)} {n : Nat} {t0 : Tok} {Q : Value → Shared → Prop}
theorem sum_len (F : Fr h₀ L s.heap m) (N : News h₀ L s.heap news) (X : LenGen prog w A.in1 lo a n s) (hn : n < 1000) (h1 : ∀ q ∈ news, q.1 < lo) (h2 : L < lo)
    (h : ∀ t h' tk' gs', (AllBare s.gens → AllBare gs') → Fr h₀ L h' m → News h₀ L h' news → Q (.int n t) { s with heap := h', gens := gs', toks := tk' }) : wpAny (model prog w) A (call (.builtin "sum") [.ref a, .int 0 t0]) Q E s := by
  obtain ⟨fp, wr, G, P, St, W, hst, hfp, hP, hwr, hG⟩ := X
  refine sum_start (W.self 0 s _ _ hst ?_)
  refine ⟨a, fp, wr, G, n, P, St, fun _ => 1, rfl, W, hst, hfp, hP, fun j hj => ⟨by unfold InLong; dsimp only; omega, ?_⟩, fun s' t' hm => ?_⟩
  · rw [preSum_one]
    unfold InLong
    omega
  · rw [preSum_one]
    have kp : ∀ b o, b < lo → s.heap.get? b = some o → s'.heap.get? b = some o := fun b o hb e => hm.heap b o (fun z => Nat.lt_irrefl _ (Nat.lt_of_lt_of_le hb (hwr b z))) e
    have F' : Fr h₀ L s'.heap m := by
      obtain ⟨oL, a1, a2, hL, a3⟩ := F.ns
      exact ⟨⟨oL, a1, a2, kp _ _ h2 hL, a3⟩, fun b o e => kp b o (Nat.lt_trans (Nat.lt_of_lt_of_le (Heap.lt_size e) F.above) h2) (F.keep b o e), F.above⟩
    have N' : News h₀ L s'.heap news := fun q hq => ⟨kp _ _ (h1 q hq) (N q hq).1, (N q hq).2⟩
    have := h t' s'.heap s'.toks s'.gens (hG _ _ hm.gens) F' N'
    have e : s' = { s with heap := s'.heap, gens := s'.gens, toks := s'.toks } := by
      obtain ⟨a1, a2, a3, a4, a5⟩ := s'
      have h1 := hm.drawn
      have h2 := hm.os
      simp only at h1 h2
      subst h1 h2
      rfl
    rw [e]
    exact this
end
end Mine
end
-- KL
section
open PySem PySem.Calls PySem.W PyProof.Rows Mine
theorem codeHd_len (w : World) : codeHdIn (hd.heap_39 w.params) 219 215 = true := by kernel_rfl
abbrev posLen : Pos := { line := 99, col := 19, endLine := 99, endCol := 63 }
local macro_rules | `(tactic| k_all) => `(tactic| assumption)
local macro_rules | `(tactic| walk_at "getAttr ref") => `(tactic| (k_here; k_dflt (refine' Mine.get_size ?k1 ?k2 ?k3 ?k4 ?k5 ?k6 ?k7 ?k8 ?k9 ?ka ?_; (case k1 => k_asm); (case k2 => k_asm); (case k3 => k_asm); (case k4 => k_mem); (case k5 => k_mem); (case k6 => k_is); (case k7 => k_is); (case k8 => k_is); (case k9 => k_is); (case ka => k_is))))
local macro_rules | `(tactic| k_inst) => `(tactic| (refine' Mine.pile_inst ?N ?h1 ?h2; (case N => k_asm); (case h1 => k_mem); (case h2 => k_mem)))
set_option maxRecDepth 100000 in
set_option maxHeartbeats 2000000 in
theorem len_spec (w : World) (pa da : Addr) (its : Array Value) (n k : Nat) (t1 t2 : Tok) (led : List (Addr × Obj)) (ps : Array Value) (Ts : Nat → Addr) (hl : ∀ p ∈ led, p.1 ≠ 215) (hn : @Ne Nat pa 215) (hn2 : @Ne Nat da 215) (hs : its.size < 100) (ht : TabOk posLen ps)
    (hT : ∀ j, j < its.size → its[j]? = some (.ref (Ts j)) ∧ ∃ t u k, (Ts j, tupO [.str "" t, .str "(" u] k) ∈ led) :
    DefSpec w 220 10 [.ref pa] ((215, tabObj ps) :: (pa, pileO da its n) :: (da, initD w t1 t2 k) :: led) fun h₀ L m s Q =>
      ∀ t h' tk' gs' ps', TabOk posLen ps' → (AllBare s.gens → AllBare gs') → Fr h₀ L h' m → News h₀ L h' ((215, tabObj ps') :: (pa, pileO da its n) :: (da, initD w t1 t2 k) :: led) → Q (.int its.size t) { s with heap := h', gens := gs', toks := tk' } := by
  unfold DefSpec Ctxt
  k_fill
  intro p loose mean mg mb dp un gd cn cs a ccd cl outer A₀ base h₀ L m s Q E hB hF hX hN hT1 hcs hdp hun hQ
  refine wpAny_call ?_
  cell_enter
  k_steps
  rename Fr _ _ _ _ => kF
  rename News _ _ _ _ => kN
  rename (hd.heap_39 w.params).In _ => kX
  rename Top _ _ _ _ _ _ => kT
  refine gen_len kF kX kN (fun q hq => ?_) kT (.head _) (.tail _ (.head _)) Ts (fun j hj => ⟨(hT j hj).1, ?_⟩) (codeHd_of_K kX (codeHd_len w)) ht rfl rfl rfl rfl (by k_is) (by first | boot_by_name | rfl | kernel_rfl) (by k_is) (by k_is) rfl ?kd ?_
  · rcases List.mem_cons.mp hq with rfl | hq
    · exact hn
    · rcases List.mem_cons.mp hq with rfl | hq
      · exact hn2
      · exact hl q hq
  · obtain ⟨t, u, k, e⟩ := (hT j hj).2
    exact ⟨t, u, k, .tail _ (.tail _ e)⟩
  case kd => ktr_room
  intro ga h5 tk5 gs ps' hps F5 N5 hgb LG hlo hL
  clear kF kN
  k_steps
  refine sum_len F5 N5 (LG.toks (Nat.le_succ _)) ?_ hlo hL ?_
  · rw [pass_all]; omega
  intro t6 h6 tk6 gs6 hb F6 N6
  rw [pass_all]
  k_steps
  rename Fr h₀ L _ _ => kF2
  rename News h₀ L _ _ => kN2
  exact hQ _ _ _ _ _ hps (fun z => hb (z.push hgb)) kF2 kN2
end
-- PY1
section
set_option maxRecDepth 100000
set_option maxHeartbeats 4000000
open PySem PySem.Calls PySem.W PyProof.Rows
namespace Mine
theorem post_law {M : Model} {A : Around} {cd : Code} {s s₁ : Shared} {cw : ClaimW} {cl : Str → Option Addr} {mean : ExcName → Option Value} {args : List WData} {tabs : List (Addr × Addr)} (hT : TabsAt tabs s₁.heap) (hr : ∀ x, cw.raises args x = false) (hp : cw.post args (.bool true) args = true)
    (h : codeAny M A cd (fun r s' => r = .ok (.ret (.bool true)) ∧ (∀ b o, (ghostOf s₁.heap tabs).get? b = some o → s'.heap.get? b = some o) ∧ GrownAll tabs s'.heap ∧ s'.os = s₁.os ∧ AllBare s'.gens) s) : codeAny M A cd (GoodWG cw cl mean args s₁) s :=
  codeAny_mono h fun r s' ⟨hc, hk, hgr, hos, hg⟩ => by
    have keep : ∀ b o, b ∉ tabs.map (·.2) → s₁.heap.get? b = some o → s'.heap.get? b = some o := fun b o hb e => hk b o (ghost_ne e hb)
    have grown : ∀ b o, b ∈ tabs.map (·.2) → s₁.heap.get? b = some o → isCodeTable s₁.heap b ∧ o = tabObj #[] ∧ ∃ ps, s'.heap.get? b = some (tabObj ps) := fun b o hb e => by
      obtain ⟨q, hq, rfl⟩ := List.mem_map.mp hb
      have e2 := (hT q hq).2
      rw [e] at e2
      exact ⟨((hT q hq).1.tab (hT q hq).2).isCodeTable, Option.some.inj e2, hgr.get q hq⟩
    refine ⟨.inl ⟨_, _, [], hc, hr, ReadsW.bool true, hp, fun _ => ⟨List.nodup_nil, fun _ hm => (nomatch hm)⟩⟩, ⟨fun b o e => ?_, fun b o e => ?_⟩, hos, hg⟩
    · by_cases hb : b ∈ tabs.map (·.2)
      · obtain ⟨ht, rfl, ps, hP⟩ := grown b o hb e
        exact .inr (.inl ⟨ht, rfl, #[], ps, rfl, by rw [Array.empty_append]; exact hP⟩)
      · exact .inl (keep b o hb e)
    · by_cases hb : b ∈ tabs.map (·.2)
      · obtain ⟨_, _, ps, hP⟩ := grown b o hb e
        exact ⟨_, hP⟩
      · exact ⟨o, keep b o hb e⟩
end Mine
end
-- PR
section
open PySem PySem.Calls PySem.W PyProof.Rows
set_option maxRecDepth 100000
namespace Mine
theorem plainAttrs_pat : PlainAttrs "re.Pattern" :=
  ⟨⟨"object.__getattribute__", by rw [typeLookup_type, builtinLookup_eq_fast]; kernel_rfl, by decide +kernel⟩, by rw [typeLookup_type, builtinLookup_eq_fast]; kernel_rfl⟩
theorem slot_search : Slot "re.Pattern" "search" "re.Pattern.search" :=
  .of (owner := "re.Pattern") (n := "search") (by rw [typeLookup_type, builtinLookup_eq_fast]; kernel_rfl) (by decide +kernel) (by decide +kernel) (by decide +kernel)
    (by first | exact .inl (by decide +kernel) | exact .inr (by decide +kernel)) (by rw [isSubtype_type]; kernel_rfl)
theorem type_search : typeOf (.builtin "re.Pattern.search") = pure (.type "method_descriptor") := by show builtinType _ = _; rw [builtinType_eq_fast]; kernel_rfl
theorem entry_search : entryFor table "re.Pattern.search" = some Builtin.«re.Pattern.search» := entryFor_of_tree (by kernel_rfl)
theorem args_search (a b : Value) : argsOk "re.Pattern.search" ⟨[a, b], []⟩ := by unfold argsOk; kernel_rfl
abbrev patO (p : String) (t1 t2 : Tok) (c : Addr) : Obj := { cls := .type "re.Pattern", data := .fields #[.str (Str.ofString p) t1, .int 32 t2, .int 0 0, .none, .none, .ref c, .int 0 0] }
abbrev codeO (l : List Int) : Obj := { cls := .type "tuple", data := .seq (l.map fun i => Value.int i 0).toArray }
open PySem.Builtin.Re
theorem reNamed_search (x : Str) (t : Tok) : reNamed "re.Pattern.search" "search" ["string", "pos", "endpos"] 1 [.str x t] [] = pure [some (.str x t), none, none] := by kernel_rfl
/-- the search ends in its first turn, without a match -/
def deadAt (m : Sre.M) : Bool := match (m.runFor 4).outcome with | some .failed => true | _ => false
theorem drive_dead {m : Sre.M} (h : deadAt m = true) : ∀ n, 0 < n → reDrive n m = pure (m.runFor 4)
  | 0, z => absurd z (Nat.lt_irrefl 0)
  | n + 1, _ => by
    unfold reDrive
    have : ((m.runFor reTurnSteps).outcome).isSome = true := by
      unfold deadAt at h
      show ((m.runFor 4).outcome).isSome = true
      cases e : (m.runFor 4).outcome with
      | none => rw [e] at h; cases h
      | some _ => rfl
    show (if ((m.runFor reTurnSteps).outcome).isSome = true then pure (m.runFor reTurnSteps) else _) = _
    rw [if_pos this]; rfl
section
variable {M : Model} {A : Around} {E : Value → Shared → Prop} {s : Shared}
theorem forIn_rules {Q : PUnit → Shared → Prop} (p : Nat → Bool) (f : Nat → String) : ∀ l : List Nat, Q ⟨⟩ s → wpAny M A (forIn l PUnit.unit fun i (_ : PUnit) => (if p i = true then rule (f i) >>= fun _ => pure (ForInStep.yield PUnit.unit) else pure (ForInStep.yield PUnit.unit) : Sem (ForInStep PUnit))) Q E s
  | [], h => by rw [List.forIn_nil]; exact wpAny_pure h
  | i :: l, h => by
    rw [List.forIn_cons]
    refine wpAny_bind ?_
    split
    · exact wpAny_bind (wpAny_rule (wpAny_pure (forIn_rules p f l h)))
    · exact wpAny_pure (forIn_rules p f l h)
theorem run_dead {m : Sre.M} (h : deadAt m = true) {Q : Option Sre.M → Shared → Prop} (q : Q none s) : wpAny M A (reRunToEnd m) Q E s := by
  unfold reRunToEnd
  rw [drive_dead h (2 ^ 64) (by decide)]
  refine wpAny_bind (wpAny_pure (wpAny_bind ?_))
  refine forIn_rules _ _ _ ?_
  unfold deadAt at h
  cases e : (m.runFor 4).outcome with
  | none => rw [e] at h; cases h
  | some o =>
    rw [e] at h
    cases o with
    | failed => exact wpAny_pure q
    | matched => cases h
    | stuck => cases h
end
section
variable {prog : Program} {w : World} {A : Around} {E : Value → Shared → Prop} {s : Shared}
theorem search_none {pa c : Addr} {p : String} {t1 t2 t : Tok} {x : Str} {l : List Int} {Q : Value → Shared → Prop} (hp : s.heap.get? pa = some (patO p t1 t2 c)) (hc : s.heap.get? c = some (codeO l))
    (hd : deadAt (Sre.forSearch ((l.map fun i => i.toNat).toArray) x.cps 0 (min 0 x.cps.size) (min (2 ^ 63 - 1) x.cps.size) false) = true) (h : Q .none s) :
    wpAny (model prog w) A (call (.builtin "re.Pattern.search") [.ref pa, .str x t]) Q E s := by
  refine wpAny_call_entry slot_search ⟨_, hp, rfl⟩ entry_search ?_ (args_search _ _)
  unfold Builtin.«re.Pattern.search» reTarget
  dsimp only
  refine wpAny_bind (wpAny_bind ?_)
  refine wpAny_of_eq (reNamed_search x t) ?_
  dsimp only
  refine wpAny_bind (wpAny_pure (wpAny_bind (wpAny_pure (wpAny_bind ?_))))
  refine wpAny_fieldsOf hp rfl ?_
  refine wpAny_bind ?_
  refine wpAny_of_eq (show reTextOf (.str x t) = pure (x.cps, 0) from rfl) ?_
  dsimp only
  rw [if_neg (show ¬ ((reRawNat (#[Value.str (Str.ofString p) t1, Value.int 32 t2, Value.int 0 0, Value.none, Value.none, Value.ref c, Value.int 0 0].getD 6 Value.none) == 0 && 0 == 1) = true) from Bool.false_ne_true)]
  rw [if_neg (show ¬ ((reRawNat (#[Value.str (Str.ofString p) t1, Value.int 32 t2, Value.int 0 0, Value.none, Value.none, Value.ref c, Value.int 0 0].getD 6 Value.none) == 1 && 0 == 0) = true) from Bool.false_ne_true)]
  refine wpAny_bind (wpAny_of_eq (show reNoCollectionInside (.str x t) 0 = pure () from rfl) ?_)
  refine wpAny_bind ?_
  show wpAny _ _ (reRawItems (.ref c)) _ _ _
  unfold reRawItems
  refine wpAny_bind (wpAny_seqItems hc rfl (wpAny_pure (wpAny_pure ?_)))
  unfold reAnswer
  refine wpAny_bind (run_dead ?_ (wpAny_pure ⟨_, rfl, h⟩))
  have e1 : (((some (List.map (fun i => Value.int i 0) l).toArray).getD #[]).map reRawOf).map (·.toNat) = (l.map fun i => i.toNat).toArray := by
    simp [Function.comp_def, reRawOf]
  dsimp only
  rw [e1]
  exact hd
section
variable {K : Frag} {h₀ : Heap} {L pa c : Addr} {m : Str → Option Value} {p : String} {t1 t2 t : Tok} {x : Str} {l : List Int}
theorem search_method {pl : Sem Bool} {Q : Value × List Value → Shared → Prop} (F : Fr h₀ L s.heap m) (X : K.In h₀) (e : K.lookup pa = some (patO p t1 t2 c)) (h : Q (.builtin "re.Pattern.search", [.ref pa]) s) :
    wpAny (model prog w) A (getMethod (.ref pa) "search" pl) Q E s := by
  have hp := (X.keeps F.keep) _ _ e
  exact getMethod_builtin ⟨_, hp, rfl⟩ plainAttrs_pat slot_search type_search (fun a e => by cases e; exact ⟨_, hp, rfl⟩) h
theorem search_K {Q : Value → Shared → Prop} (F : Fr h₀ L s.heap m) (X : K.In h₀) (e : K.lookup pa = some (patO p t1 t2 c)) (ec : K.lookup c = some (codeO l))
    (hd : deadAt (Sre.forSearch ((l.map fun i => i.toNat).toArray) x.cps 0 (min 0 x.cps.size) (min (2 ^ 63 - 1) x.cps.size) false) = true) (h : Q .none s) :
    wpAny (model prog w) A (call (.builtin "re.Pattern.search") [.ref pa, .str x t]) Q E s := search_none ((X.keeps F.keep) _ _ e) ((X.keeps F.keep) _ _ ec) hd h
end
end
abbrev nameL : List Int := [14, 10, 4, 1, 1, 22, 0, 31, 16, 127, 0, 13, 7, 22, 0, 31, 16, 127, 0, 1]
abbrev valueL : List Int := [14, 14, 4, 1, 1, 9, 4294966783, 0, 0, 2147483648, 0, 0, 0, 0, 0, 13, 11, 9, 4294966783, 0, 0, 2147483648, 0, 0, 0, 0, 0, 1]
structure Clear (l : List Int) (x : Str) : Prop where
  out : deadAt (Sre.forSearch ((l.map fun i => i.toNat).toArray) x.cps 0 (min 0 x.cps.size) (min (2 ^ 63 - 1) x.cps.size) false) = true
end Mine
end
-- KR
section
open PySem PySem.Calls PySem.W PyProof.Rows Mine
local macro_rules | `(tactic| k_all) => `(tactic| assumption)
local macro_rules | `(tactic| walk_at "getMethod ref") => `(tactic| (k_here; k_dflt (refine' Mine.search_method ?k1 ?k2 ?k3 ?_; (case k1 => k_asm); (case k2 => k_asm); (case k3 => k_is))))
local macro_rules | `(tactic| walk_at "call builtin:re.Pattern.search") => `(tactic| (k_here; k_dflt (refine' Mine.search_K (l := nameL) ?k1 ?k2 ?k3 ?k4 ?k5 ?_; (case k1 => k_asm); (case k2 => k_asm); (case k3 => k_is); (case k4 => k_is); (case k5 => assumption))))
local macro_rules | `(tactic| walk_at "call builtin:re.Pattern.search") => `(tactic| (k_here; k_dflt (refine' Mine.search_K (l := valueL) ?k1 ?k2 ?k3 ?k4 ?k5 ?_; (case k1 => k_asm); (case k2 => k_asm); (case k3 => k_is); (case k4 => k_is); (case k5 => assumption))))
set_option maxRecDepth 100000 in
set_option maxHeartbeats 2000000 in
theorem conv_spec (w : World) (sa : Value) (x : Str) (t : Tok) (nm : Bool) (hx : Clear (if nm then nameL else valueL) x) (led : List (Addr × Obj)) :
  ∀ (p : Program) (loose : List Str) (mean : ExcName → Option Value) (mg mb : Str → Option Value) (dp un : Nat) (gd : Option (List Code)) (cn : Str) (cs : Scope) (a : Addr) (ccd : Value) (cl : List (Str × Addr)) (outer : List Env) (A₀ : Around) (base h₀ : Heap) (L : Addr) (m : Str → Option Value) (s : Shared) (Q E : Value → Shared → Prop),
    Below A₀ base outer h₀ → Fr h₀ L s.heap m → (hd.heap_39 w.params).In h₀ → News h₀ L s.heap led → Top p loose mean mg mb h₀ → cs.kind = .function → dp + 5 < recursionLimit → un + 10 * 5 < cLine →
      (∀ h' tk', Fr h₀ L h' m → News h₀ L h' led → Q (.str x t) { s with heap := h', toks := tk' }) → wpAny (model PySem.Challenge.rw_wj0064_01.row.prog w) (ktrTop dp un gd cn cs L a ccd cl outer) (call (.ref 70) [sa, .str x t] [("name", .bool nm)]) Q E s := by
  k_fill
  intro p loose mean mg mb dp un gd cn cs a ccd cl outer A₀ base h₀ L m s Q E hB hF hX hN hT1 hcs hdp hun hQ
  have hy1 : nm = true → Mine.deadAt (Sre.forSearch ((nameL.map fun i => i.toNat).toArray) x.cps 0 (min 0 x.cps.size) (min (2 ^ 63 - 1) x.cps.size) false) = true := fun z => by subst z; exact hx.out
  have hy2 : nm = false → Mine.deadAt (Sre.forSearch ((valueL.map fun i => i.toNat).toArray) x.cps 0 (min 0 x.cps.size) (min (2 ^ 63 - 1) x.cps.size) false) = true := fun z => by subst z; exact hx.out
  clear hx
  cases nm
  · replace hy2 := hy2 rfl
    clear hy1
    refine wpAny_call ?_
    cell_enter
    k_steps
    rename Fr h₀ L _ _ => kF2
    rename News h₀ L _ _ => kN2
    exact hQ _ _ kF2 kN2
  · replace hy1 := hy1 rfl
    clear hy2
    refine wpAny_call ?_
    cell_enter
    k_steps
    rename Fr h₀ L _ _ => kF2
    rename News h₀ L _ _ => kN2
    exact hQ _ _ kF2 kN2
end
-- PF
section
set_option maxRecDepth 100000
set_option maxHeartbeats 4000000
open PySem PySem.Calls PySem.W PyProof.Rows
namespace Mine
section
variable {prog : Program} {w : World} {A : Around} {E : Value → Shared → Prop} {s : Shared} {env : Env} {h₀ : Heap} {target iter : Expr} {body : List Stmt} {Q : Flow → Shared → Prop}
def LoopOwn (prog : Program) (w : World) (A : Around) (env : Env) (target : Expr) (body : List Stmt) (Q : Flow → Shared → Prop) (E : Value → Shared → Prop) (it : Value) (s₂ : Shared) : Prop :=
  ∃ (I : Nat → Shared → Prop) (n : Nat), I n s₂ ∧ ∀ k s, I k s → wpAny (model prog w) A (pyNext it) (fun r s₁ => match r with
    | none => Q .next s₁
    | some v => wpAny (model prog w) A (letOwnedTupleGo target it v) (fun _ s₁' => wpAny (model prog w) A (assign target env v) (fun _ s₂ => wpAny (model prog w) A (execs body env) (fun f s₃ => match f with
        | .next | .cont => ∃ m, m < k ∧ I m s₃
        | .brk => Q .next s₃
        | .ret v => Q (.ret v) s₃) E s₂) E s₁') E s₁) E s
theorem for_own {pos : Pos} (h : wpAny (model prog w) A (eval iter env) (fun xv s₁ => wpAny (model prog w) A (pyIter xv) (fun it s₂ => LoopOwn prog w A env target body Q E it s₂) E s₁) E s)
    (hs : ∀ x, foldedSetIterable iter env x = pure x) (hE : PassesOwn (model prog w) A env E) : wpAny (model prog w) A (exec (.For target iter body [] pos) env) Q E s := by
  refine wpAny_For (wpAny_mono h (fun xv s₁ h₁ => wpAny_mono h₁ (fun it s₂ h₂ => ?_) fun _ _ e => e) fun _ _ e => e) hs
  obtain ⟨I, n, h0, turn⟩ := h₂
  refine codeAny_forLoop_any I (fun k s hI => wpAny_mono (turn k s hI) (fun r s₁ h₁ => ?_) hE) n h0
  cases r with
  | none => exact wpAny_execs_nil h₁
  | some v =>
    refine wpAny_mono h₁ (fun _ s₂ h₂ => wpAny_mono h₂ (fun _ s₃ h₃ => wpAny_mono h₃ (fun f s₄ h₄ => ?_) hE) hE) hE
    cases f <;> exact h₄
/-- what a turn of a loop hands on: a state told by the frame's map, the ledger and the generators -/
def TurnEnd (h₀ : Heap) (L : Addr) (P : (Str → Option Value) → List (Addr × Obj) → Array GenState → Prop) (it : Addr) (o : Obj) (s₁ s₂ : Shared) : Prop :=
  ∃ h' tk gs m' led', s₂ = { s₁ with heap := h', toks := tk, gens := gs } ∧ Fr h₀ L h' m' ∧ News h₀ L h' ((it, o) :: led') ∧ (∀ p ∈ led', p.1 ≠ it) ∧ P m' led' gs
def TurnPost (h₀ : Heap) (L : Addr) (P : (Str → Option Value) → List (Addr × Obj) → Array GenState → Prop) (it : Addr) (o : Obj) (Q : Flow → Shared → Prop) (s₁ : Shared) (f : Flow) (s₂ : Shared) : Prop :=
  match f with
  | .next | .cont => TurnEnd h₀ L P it o s₁ s₂
  | .brk => Q .next s₂
  | .ret v => Q (.ret v) s₂
theorem TurnEnd.intro {L : Addr} {P : (Str → Option Value) → List (Addr × Obj) → Array GenState → Prop} {it : Addr} {o : Obj} {s₁ : Shared} {h' : Heap} {tk : Nat} {gs : Array GenState} {m' : Str → Option Value} {led' : List (Addr × Obj)}
    (F : Fr h₀ L h' m') (N : News h₀ L h' ((it, o) :: led')) (n : ∀ p ∈ led', p.1 ≠ it) (p : P m' led' gs) : TurnEnd h₀ L P it o s₁ { s₁ with heap := h', toks := tk, gens := gs } := ⟨_, _, _, _, _, rfl, F, N, n, p⟩
theorem fr_but {L it : Addr} {h h' : Heap} {m : Str → Option Value} (F : Fr h₀ L h m) (h1 : it ≠ L) (h2 : h₀.get? it = none) (k : ∀ b o, b ≠ it → h.get? b = some o → h'.get? b = some o) : Fr h₀ L h' m := by
  obtain ⟨oL, a1, a2, hL, a3⟩ := F.ns
  exact ⟨⟨oL, a1, a2, k _ _ (Ne.symm h1) hL, a3⟩, fun b o e => k b o (fun z => by rw [z, h2] at e; cases e) (F.keep b o e), F.above⟩
theorem news_but {L it : Addr} {h h' : Heap} {led : List (Addr × Obj)} (N : News h₀ L h led) (n : ∀ p ∈ led, p.1 ≠ it) (k : ∀ b o, b ≠ it → h.get? b = some o → h'.get? b = some o) : News h₀ L h' led :=
  fun p hp => ⟨k _ _ (n p hp) (N p hp).1, (N p hp).2⟩
/-- a loop over a list of the ledger -/
theorem loop_list {l : Addr} {items : Array Value} {m₀ : Str → Option Value} {led₀ : List (Addr × Obj)} (P : Nat → (Str → Option Value) → List (Addr × Obj) → Array GenState → Prop)
    (hh : A.handled = none) (F₀ : Fr h₀ env.locals s.heap m₀) (N₀ : News h₀ env.locals s.heap led₀) (hl : ∀ i m led gs, P i m led gs → ∃ o n, (l, o) ∈ led ∧ o.data = .seq items n)
    (hit : ∀ Q' : Value → Shared → Prop, Q' (.ref s.heap.objs.size) { s with heap := s.heap.push { cls := .type "list_iterator", data := .fields #[.ref l, .int 0 0] } } → wpAny (model prog w) A (pyIter (.ref l)) Q' E s)
    (h0 : P 0 m₀ led₀ s.gens)
    (turn : ∀ i v m led gs h tk it o, items[i]? = some v → P i m led gs → Fr h₀ env.locals h m → News h₀ env.locals h ((it, o) :: led) → (∀ p ∈ led, p.1 ≠ it) →
      wpAny (model prog w) A (assign target env v) (fun _ s₂ => wpAny (model prog w) A (execs body env) (TurnPost h₀ env.locals (P (i + 1)) it o Q s) E s₂) E { s with heap := h, toks := tk, gens := gs })
    (done : ∀ m led gs h tk, P items.size m led gs → Fr h₀ env.locals h m → News h₀ env.locals h led → Q .next { s with heap := h, toks := tk, gens := gs }) :
    wpAny (model prog w) A (pyIter (.ref l)) (fun it s₂ => LoopOwn prog w A env target body Q E it s₂) E s := by
  refine hit _ ?_
  have itL : s.heap.objs.size ≠ env.locals := Nat.ne_of_gt F₀.ns.lt
  have itN : h₀.get? s.heap.objs.size = none := Heap.get?_none_of_le (Nat.le_of_lt (Nat.lt_of_le_of_lt F₀.above F₀.ns.lt))
  refine ⟨fun k s' => ∃ i h tk gs m led o, s' = { s with heap := h, toks := tk, gens := gs } ∧ k = items.size + 1 - i ∧ i ≤ items.size ∧ o.cls = .type "list_iterator" ∧ o.data = .fields #[.ref l, .int i 0] ∧
    Fr h₀ env.locals h m ∧ News h₀ env.locals h ((s.heap.objs.size, o) :: led) ∧ (∀ p ∈ led, p.1 ≠ s.heap.objs.size) ∧ P i m led gs, items.size + 1,
    ⟨0, _, s.toks, s.gens, m₀, led₀, _, rfl, rfl, Nat.zero_le _, rfl, rfl, F₀.push _, N₀.push F₀ _, fun p hp => Nat.ne_of_lt (Heap.lt_size (N₀ p hp).1), h0⟩, ?_⟩
  rintro k s' ⟨i, h, tk, gs, m, led, o, rfl, rfl, hi, hc, hd, F, N, hn, hP⟩
  obtain ⟨ol, nl, hol, hdl⟩ := hl _ _ _ _ hP
  have Nt : News h₀ env.locals h led := fun p hp => N p (.tail _ hp)
  have ho := (N _ (.head _)).1
  have hI : h.IsListIter s.heap.objs.size l i := ⟨o, ho, hc, hd⟩
  have hS : IsSeq h l items := ⟨ol, nl, (Nt _ hol).1, hdl⟩
  by_cases hlt : i < items.size
  · obtain ⟨v, hv⟩ : ∃ v, items[i]? = some v := ⟨_, Array.getElem?_eq_getElem hlt⟩
    refine next_item (s := { s with heap := h, toks := tk, gens := gs }) hI hS hv fun h₁ hit₁ hs₁ => ?_
    obtain ⟨o₁, ho₁, hc₁, hd₁⟩ := hit₁
    have kp : ∀ b o, b ≠ s.heap.objs.size → h.get? b = some o → h₁.get? b = some o := fun b o hb e => hs₁.extBut b o hb e
    have F₁ := fr_but F itL itN kp
    have N₁ : News h₀ env.locals h₁ ((s.heap.objs.size, o₁) :: led) := by
      intro p hp
      rcases List.mem_cons.mp hp with rfl | hp
      · exact ⟨ho₁, itL, itN⟩
      · exact news_but Nt hn kp p hp
    refine letGo_listiter ⟨o₁, ho₁, hc₁, hd₁⟩ ?_
    refine wpAny_mono (turn i v m led gs h₁ tk _ o₁ hv hP F₁ N₁ hn) (fun _ s₂ h₂ => wpAny_mono h₂ (fun f s₃ h₃ => ?_) fun _ _ e => e) fun _ _ e => e
    have nx : TurnEnd h₀ env.locals (P (i + 1)) s.heap.objs.size o₁ s s₃ → ∃ m, m < items.size + 1 - i ∧ ∃ i h tk gs m' led o, s₃ = { s with heap := h, toks := tk, gens := gs } ∧ m = items.size + 1 - i ∧ i ≤ items.size ∧ o.cls = .type "list_iterator" ∧ o.data = .fields #[.ref l, .int i 0] ∧
      Fr h₀ env.locals h m' ∧ News h₀ env.locals h ((s.heap.objs.size, o) :: led) ∧ (∀ p ∈ led, p.1 ≠ s.heap.objs.size) ∧ P i m' led gs := by
      rintro ⟨h', tk', gs', m', led', e, F', N', n', p'⟩
      exact ⟨items.size + 1 - (i + 1), by omega, i + 1, h', tk', gs', m', led', o₁, e, rfl, hlt, hc₁, hd₁, F', N', n', p'⟩
    cases f with
    | next => exact nx h₃
    | cont => exact nx h₃
    | brk => exact h₃
    | ret v => exact h₃
  · have hin : i = items.size := by omega
    subst hin
    refine next_end (s := { s with heap := h, toks := tk, gens := gs }) hh hI hS (by simp) fun h' hx => ?_
    exact done m led gs h' tk hP (fr_but F itL itN fun b o hb e => hx b o hb e) (news_but Nt hn fun b o hb e => hx b o hb e)
end
end Mine
namespace Mine
theorem ups1 {m₀ m : Str → Option Value} {a : Str} (h : ∀ y, y ≠ a → m y = m₀ y) : ∃ va, m = fun y => if y = a then va else m₀ y := ⟨m a, by
  funext y
  by_cases e : y = a
  · simp [e]
  · simp [e, h y e]⟩
theorem ups2 {m₀ m : Str → Option Value} {a b : Str} (h : ∀ y, y ≠ a → y ≠ b → m y = m₀ y) : ∃ va vb, m = fun y => if y = b then vb else if y = a then va else m₀ y := ⟨m a, m b, by
  funext y
  by_cases e : y = b
  · simp [e]
  · by_cases e' : y = a
    · simp [e, e']
      intro q; rw [q]
    · simp [e, e', h y e' e]⟩
end Mine
namespace Mine
theorem frX {h₀ h : Heap} {L : Addr} {m : Str → Option Value} (F : Fr h₀ L h m) : ∃ m', m' = m ∧ Fr h₀ L h m' := ⟨m, rfl, F⟩
theorem newsX {h₀ h : Heap} {L : Addr} {l : List (Addr × Obj)} (N : News h₀ L h l) : ∃ l', l' = l ∧ News h₀ L h l' := ⟨l, rfl, N⟩
end Mine
namespace Mine
theorem units_make (A : Around) (a : Args) : (A.under (.builtin "type.__call__" a)).units ≤ A.units + 10 := by
  show A.units + Code.cUnits (.builtin "type.__call__" a) ≤ _
  refine Nat.add_le_add_left ?_ _
  have : Code.cUnits (.builtin "type.__call__" a) = Code.cUnits (.builtin "type.__call__" ⟨[], []⟩) := rfl
  rw [this]
  decide +kernel
end Mine
end
-- KH
section
open PySem PySem.W PyProof.Rows Mine
local macro_rules | `(tactic| k_all) => `(tactic| assumption)
local macro_rules | `(tactic| cell_enter) => `(tactic| (refine' code_def ?k1 ?k2 ?k3 ?k4 ?k5 ?kA ?kF ?kK ?k6 ?k7 ?k8 ?k9 ?kB ?_ ?c2 ?c3 ?c4 ?c5; (case kA => exact rfl); (case kF => exact rfl); (case kK => assumption); (case k1 => k_asm); (case k2 => k_asm); (case k3 => k_asm); (case k4 => k_asm); (case k5 => k_asm); (case k6 => k_is); (case k7 => k_is); (case k8 => ktr_room); (case k9 => exact binds_K (by k_in) rfl (by k_is) rfl rfl rfl); (case c5 => decide); (case kB => exact locs rfl); (case c2 => exact rfl); (case c3 => exact rfl); (case c4 => exact rfl); k_whole; intro g' L' h' FG' F' N' B' X' T'; (try dsimp only); (try k_lift B'); (try k_fold)))
local macro_rules | `(tactic| ktr_units) => `(tactic| (have hcL9 := cLine_is; refine Nat.lt_of_le_of_lt (Nat.add_le_add_right (Nat.add_le_add_right (Mine.units_make _ _) _) _) ?_; (try simp only [units_in1, units_deeper, Around.mark_units, units_caller, cLine] at *); omega))
local macro_rules | `(tactic| walk_at "call ref") => `(tactic| (k_here; (with_reducible show wpAny _ _ (call (Value.ref 70) _ _) _ _ _); k_dflt (refine' conv_spec _ _ _ _ _ (by assumption) _ _ _ _ _ _ _ _ _ _ _ _ _ _ _ _ _ _ _ _ _ _ _ ?k1 ?k2 ?k3 ?k4 ?k5 ?kK ?kd ?ku ?_; (case k1 => k_asm); (case k2 => k_asm); (case k3 => k_asm); (case k4 => k_asm); (case k5 => k_asm); (case kK => exact rfl); (case kd => ktr_room); (case ku => ktr_units); intro h9 tk9 F9 N9; (try dsimp only))))
set_option maxRecDepth 100000 in
set_option maxHeartbeats 2000000 in
theorem head_spec (w : World) (l : Addr) (items : List Value) (n : Nat) (Ts : Nat → Addr) (ks vs : Nat → Str) (led : List (Addr × Obj)) (hl : ∀ p ∈ led, p.1 ≠ l) (hs : items.length < 100)
    (hT : ∀ j, j < items.length → items[j]? = some (.ref (Ts j)) ∧ Clear nameL (ks j) ∧ Clear valueL (vs j) ∧ ∃ t u k, (Ts j, tupO [.str (ks j) t, .str (vs j) u] k) ∈ led) :
    DefSpec w 169 20 [.ref l] ((l, listOf items.toArray n) :: led) fun h₀ L m s Q =>
      ∀ x dx t k h' tk', Fr h₀ L h' m → News h₀ L h' ((x, instObj 169 dx) :: (dx, dictOf [⟨PyData.keyHash w.params (Str.ofString "_headers"), .str (Str.ofString "_headers") t, .ref l⟩] k) :: (l, listOf items.toArray n) :: led) →
        (∀ p ∈ led, p.1 < dx) → l < dx → dx < x → Q (.ref x) { s with heap := h', toks := tk' } := by
  unfold DefSpec Ctxt
  k_fill
  intro p loose mean mg mb dp un gd cn cs a ccd cl outer A₀ base h₀ L m s Q E hB hF hX hN hT1 hcs hdp hun hQ
  refine call_cls hF hX hN (by k_is) (fI := 63) (by k_is) (by k_is) ?_
  intro x dx hh hF1 hN1 l1 l2
  clear hF hN
  have n1 : ∀ p ∈ led, p.1 ≠ dx := fun p hp => Nat.ne_of_lt (l1 p (.tail _ hp))
  have n2 : ∀ p ∈ led, p.1 ≠ x := fun p hp => Nat.ne_of_lt (Nat.lt_trans (l1 p (.tail _ hp)) l2)
  have n3 : @Ne Nat x dx := Nat.ne_of_gt l2
  have n4 : @LT.lt Nat _ l dx := l1 _ (.head _)
  cell_enter
  k_steps
  refine for_own ?_ (by intro _; rfl) (by with_unfolding_all passes_own)
  k_steps
  rename Fr _ _ _ _ => kF
  rename News _ _ _ _ => kN
  obtain ⟨m0, em, kF⟩ := frX kF
  obtain ⟨l0, el, kN⟩ := newsX kN
  refine loop_list (items := items.toArray) (fun i m led' gs => (∀ y : Str, y ≠ "k" → y ≠ "v" → m y = m0 y) ∧ led' = l0 ∧ gs = s.gens) rfl kF kN ?_ ?_ ⟨fun _ _ _ => rfl, rfl, rfl⟩ ?_ ?_
  · rintro i m led' gs ⟨-, rfl, -⟩
    subst el
    exact ⟨_, n, .tail _ (.tail _ (.head _)), rfl⟩
  · intro Q' hQ'
    subst el
    exact wpAny_pyIter_list (IsL.isList (n := n) (kN (l, listOf items.toArray n) (.tail _ (.tail _ (.head _)))).1) hQ'
  · rintro i v m led' gs h tk it o hv ⟨hm, rfl, rfl⟩ F N hn
    obtain ⟨va, vb, rfl⟩ := ups2 hm
    have hj : i < items.length := by simpa using (Array.getElem?_eq_some_iff.mp hv).1
    obtain ⟨e1, c1, c2, t, u, k, e2⟩ := hT i hj
    have hv' : v = .ref (Ts i) := by
      have z : items[i]? = some v := by simpa using hv
      rw [e1] at z; exact (Option.some.inj z).symm
    subst hv'
    clear kF kN
    subst em el
    have N2 := news_sub (l' := (Ts i, tupO [.str (ks i) t, .str (vs i) u] k) :: _) N (fun q hq => by
      rcases List.mem_cons.mp hq with rfl | hq
      · exact .tail _ (.tail _ (.tail _ (.tail _ e2)))
      · exact hq)
    clear N
    k_steps
    rename Fr _ _ _ _ => kF3
    rename News _ _ _ _ => kN3
    refine TurnEnd.intro kF3 (news_sub kN3 fun _ h => .tail _ h) hn ⟨fun y h1 h2 => ?_, rfl, rfl⟩
    simp only [if_neg h1, if_neg h2]
  · rintro m led' gs h tk ⟨hm, rfl, rfl⟩ F N
    obtain ⟨va, vb, rfl⟩ := ups2 hm
    clear kF kN
    subst em el
    k_steps
    rename Fr h₀ L _ _ => kF2
    rename News h₀ L _ _ => kN2
    exact hQ _ _ _ _ _ _ kF2 kN2 (fun p hp => l1 p (.tail _ hp)) n4 l2
end
-- PK
section
set_option maxRecDepth 100000
set_option maxHeartbeats 4000000
open PySem PySem.Calls PySem.W PyProof.Rows
namespace Mine
theorem compEnd_mono {h₀ : Heap} {L I C D : Addr} {m : Str → Option Value} {s₁ s₂ : Shared} {oI oC oD : Obj} {S : List (Addr × Obj) → Prop} {r r' : Value → List (Addr × Obj) → Prop} {y : Value}
    (hr : ∀ y l, r y l → r' y l) (h : LCg.CompEnd h₀ L m s₁ I oI C oC D oD S r y s₂) : LCg.CompEnd h₀ L m s₁ I oI C oC D oD S r' y s₂ := by
  obtain ⟨a, b, c, d, e, f, g, k, l⟩ := h
  exact ⟨a, b, c, d, e, f, g, k, hr _ _ l⟩
section
variable {prog : Program} {w : World} {A : Around} {s : Shared} {h₀ : Heap} {L : Addr} {m : Str → Option Value} {env : Env} {ct elt : Expr} {x : Str} {scope : Scope} {cl : List (Str × Addr)} {S : List (Addr × Obj) → Prop} {P : Nat → Value → Prop} {Fin : List Value → List (Addr × Obj) → Prop} {n : Nat} {news₀ : List (Addr × Obj)}
theorem rest_test (Inv : Nat → List Value → List (Addr × Obj) → Prop) (h0 : Inv 0 [] news₀)
    (turn : ∀ i ys news v I oI C oC D m₂ h tk (E' : Value → Shared → Prop), i < n → Inv i ys news → P i v → LCg.NsObj oC m₂ → m₂ x = some v → Fr h₀ L h m → News h₀ L h ((I, oI) :: (C, oC) :: (D, LCg.lst ys) :: news) → LCg.Off3 I C D news → ((@Ne Nat I C) ∧ (@Ne Nat I D) ∧ (@Ne Nat C D)) →
      wpAny (model prog w) A (isTrue ct (compEnvC scope cl C env) (eval ct (compEnvC scope cl C env))) (fun ok s' => if ok = true then
        wpAny (model prog w) A (eval elt (compEnvC scope cl C env)) (LCg.CompEnd h₀ L m { s with heap := h, toks := tk } I oI C oC D (LCg.lst ys) S (fun y news' => Inv (i + 1) (ys ++ [y]) news')) E' s'
        else LCg.CompEnd h₀ L m { s with heap := h, toks := tk } I oI C oC D (LCg.lst ys) S (fun _ news' => Inv (i + 1) ys news') Value.none s') E' { s with heap := h, toks := tk })
    (fin : ∀ ys news, Inv n ys news → Fin ys news) : LCt.CompRestT prog w A h₀ L m env ct elt x scope cl s S P Fin n 0 [] news₀ := by
  have key : ∀ k i ys news, i + k = n → Inv i ys news → LCt.CompRestT prog w A h₀ L m env ct elt x scope cl s S P Fin k i ys news := by
    intro k
    induction k with
    | zero => intro i ys news e hI; exact LCt.CompRestT.zero (fin ys news (by rw [← e]; exact hI))
    | succ k ih =>
      intro i ys news e hI
      refine LCt.CompRestT.succ fun v I oI C oC D m₂ h tk E' hP hC hx F N off ne => ?_
      refine wpAny_mono (turn i ys news v I oI C oC D m₂ h tk E' (by omega) hI hP hC hx F N off ne) (fun ok s' hok => ?_) fun _ _ e => e
      cases ok with
      | true =>
        rw [if_pos rfl] at hok ⊢
        exact wpAny_mono hok (fun y s'' hy => compEnd_mono (fun y l hl => ih (i + 1) _ _ (by omega) hl) hy) fun _ _ e => e
      | false =>
        rw [if_neg Bool.false_ne_true] at hok ⊢
        exact compEnd_mono (fun y l hl => ih (i + 1) _ _ (by omega) hl) hok
  exact key n 0 [] news₀ (Nat.zero_add n) h0
theorem rest_plain (Inv : Nat → List Value → List (Addr × Obj) → Prop) (h0 : Inv 0 [] news₀)
    (turn : ∀ i ys news v I oI C oC D m₂ h tk (E' : Value → Shared → Prop), i < n → Inv i ys news → P i v → LCg.NsObj oC m₂ → m₂ x = some v → Fr h₀ L h m → News h₀ L h ((I, oI) :: (C, oC) :: (D, LCg.lst ys) :: news) → LCg.Off3 I C D news → ((@Ne Nat I C) ∧ (@Ne Nat I D) ∧ (@Ne Nat C D)) →
      wpAny (model prog w) A (eval elt (compEnvC scope cl C env)) (LCg.CompEnd h₀ L m { s with heap := h, toks := tk } I oI C oC D (LCg.lst ys) S (fun y news' => Inv (i + 1) (ys ++ [y]) news')) E' { s with heap := h, toks := tk })
    (fin : ∀ ys news, Inv n ys news → Fin ys news) : LCg.CompRest prog w A h₀ L m env elt x scope cl s S P Fin n 0 [] news₀ := by
  have key : ∀ k i ys news, i + k = n → Inv i ys news → LCg.CompRest prog w A h₀ L m env elt x scope cl s S P Fin k i ys news := by
    intro k
    induction k with
    | zero => intro i ys news e hI; exact LCg.CompRest.zero (fin ys news (by rw [← e]; exact hI))
    | succ k ih =>
      intro i ys news e hI
      refine LCg.CompRest.succ fun v I oI C oC D m₂ h tk E' hP hC hx F N off ne => ?_
      exact wpAny_mono (turn i ys news v I oI C oC D m₂ h tk E' (by omega) hI hP hC hx F N off ne) (fun y s'' hy => compEnd_mono (fun y l hl => ih (i + 1) _ _ (by omega) hl) hy) fun _ _ e => e
  exact key n 0 [] news₀ (Nat.zero_add n) h0
end
/-- what str.lower makes of a text -/
structure Low (x y : Str) : Prop where
  fit : Builtin.Str.tooLong (Txt.lower x).length = false
  is : Txt.lower x = y
theorem call_lower {prog : Program} {w : World} {A : Around} {E : Value → Shared → Prop} {s : Shared} {x y : Str} {t : Tok} {Q : Value → Shared → Prop} (hx : Low x y) (h : Q (.str y s.toks) { s with toks := s.toks + 1 }) :
    wpAny (model prog w) A (call (.builtin "str.lower") [.str x t]) Q E s := PySem.SC.lower hx.fit (by rw [hx.is]; exact h)
theorem allLt_ne1 {d : Addr} : ∀ {l : List (Addr × Obj)}, AllLt d l → ∀ p ∈ l, p.1 ≠ d + 1
  | [], _, _, h => nomatch h
  | _ :: _, h, _, .head _ => Nat.ne_of_lt (Nat.lt_succ_of_lt h.1)
  | _ :: _, h, p, .tail _ m => allLt_ne1 h.2 p m
theorem strs_snoc {y : Str} {t : Tok} : ∀ {vs : List Value} {ys : List Str}, StrsAre vs ys → StrsAre (vs ++ [.str y t]) (ys ++ [y])
  | _, _, .nil => .cons y t .nil
  | _, _, .cons a u h => .cons a u (strs_snoc h)
def getF (ks' vs : Nat → Str) (nm : Str) : Nat → List Str
  | 0 => []
  | i + 1 => if ks' i = nm then getF ks' vs nm i ++ [vs i] else getF ks' vs nm i
theorem getF_in {ks' vs : Nat → Str} {nm : Str} {i : Nat} {ys : List Value} {u : Tok} (h : StrsAre ys (getF ks' vs nm i)) (e : (ks' i == nm) = true) : StrsAre (ys ++ [.str (vs i) u]) (getF ks' vs nm (i + 1)) := by
  unfold getF
  rw [if_pos (by simpa using e)]
  exact strs_snoc h
theorem getF_out {ks' vs : Nat → Str} {nm : Str} {i : Nat} {ys : List Value} (h : StrsAre ys (getF ks' vs nm i)) (e : (ks' i == nm) = false) : StrsAre ys (getF ks' vs nm (i + 1)) := by
  unfold getF
  rw [if_neg (by simpa using e)]
  exact h
end Mine
namespace Mine
def signC (b : Bool) : Nat := if b then 40 else 41
def wordS (bs : List Bool) : Str := ⟨(bs.map signC).toArray⟩
theorem wordS_ascii (bs : List Bool) : (wordS bs).cps.all (· < 128) = true := by
  unfold wordS
  rw [List.all_toArray, List.all_map, List.all_eq_true]
  intro b _
  cases b <;> decide
end Mine
namespace Mine
def stepS (s : Nat × List (Nat × Bool)) (b : Bool) : Nat × List (Nat × Bool) := if b then (s.1 + 1, s.2 ++ [(s.1, true), (s.1 + 1, false)]) else (s.1 - 1, s.2)
def stF (bs : List Bool) : Nat × List (Nat × Bool) := bs.foldl stepS (0, [])
theorem stF_take {bs : List Bool} {i : Nat} {b : Bool} (h : bs[i]? = some b) : stF (bs.take (i + 1)) = stepS (stF (bs.take i)) b := by
  unfold stF
  rw [List.take_add_one, h]
  simp
def Bal (bs : List Bool) : Prop := ∀ i, i < bs.length → bs[i]? = some false → 0 < (stF (bs.take i)).1
theorem wordS_at {bs : List Bool} {i c : Nat} (h : (wordS bs).cps[i]? = some c) : ∃ b, bs[i]? = some b ∧ c = signC b := by
  unfold wordS at h
  rw [List.getElem?_toArray, List.getElem?_map] at h
  obtain ⟨b, e, r⟩ := Option.map_eq_some_iff.mp h
  exact ⟨b, e, r.symm⟩
theorem wordS_size (bs : List Bool) : (wordS bs).cps.size = bs.length := by simp [wordS]
def UpIn (its : List Value) (rest : List (Addr × Obj)) : Prop := ∀ j, j < its.length → ∃ T t u k, its[j]? = some (.ref T) ∧ (T, ({ cls := .type "tuple", data := .seq #[.str "" t, .str "(" u] k } : Obj)) ∈ rest
end Mine
namespace Mine
theorem news_pick {h₀ h : Heap} {L : Addr} {p : Addr × Obj} {led r : List (Addr × Obj)} (N : News h₀ L h led) (hp : p ∈ led) (R : News h₀ L h r) : News h₀ L h (p :: r) := by
  intro q hq
  rcases List.mem_cons.mp hq with rfl | hq
  · exact N _ hp
  · exact R _ hq
def PrIn (key : Nat × Bool → Str) (items : List Value) (prs : List (Nat × Bool)) (rest : List (Addr × Obj)) : Prop := items.length = prs.length ∧ ∀ (j : Nat) (p : Nat × Bool), prs[j]? = some p → ∃ T t u k, items[j]? = some (Value.ref T) ∧ (T, ({ cls := .type "tuple", data := .seq #[.str (key p) t, .str (if p.2 then "(" else ")") u] k } : Obj)) ∈ rest
theorem sign_open : (⟨#[signC true]⟩ : Str) = "(" := by decide
theorem sign_close : (⟨#[signC false]⟩ : Str) = ")" := by decide
theorem upIn_fun {its : List Value} {rest : List (Addr × Obj)} (h : UpIn its rest) : ∃ Ts : Nat → Addr, ∀ j, j < its.toArray.size → its.toArray[j]? = some (Value.ref (Ts j)) ∧ ∃ t u k, (Ts j, tupO [.str "" t, .str "(" u] k) ∈ rest := by
  obtain ⟨Ts, hT⟩ := Classical.axiomOfChoice (r := fun (j : Nat) (T : Addr) => j < its.toArray.size → its.toArray[j]? = some (Value.ref T) ∧ ∃ t u k, (T, tupO [.str "" t, .str "(" u] k) ∈ rest) fun j => by
    by_cases hj : j < its.length
    · obtain ⟨T, t, u, k, e1, e2⟩ := h j hj
      exact ⟨T, fun _ => ⟨by simpa using e1, t, u, k, e2⟩⟩
    · exact ⟨0, fun z => absurd (by simpa using z) hj⟩
  exact ⟨Ts, hT⟩
theorem upIn_mono {its : List Value} {rest rest' : List (Addr × Obj)} (h : UpIn its rest) (hs : ∀ p ∈ rest, p ∈ rest') : UpIn its rest' := fun j hj => by
  obtain ⟨T, t, u, k, a, b⟩ := h j hj
  exact ⟨T, t, u, k, a, hs _ b⟩
theorem prIn_mono {key : Nat × Bool → Str} {its : List Value} {prs : List (Nat × Bool)} {rest rest' : List (Addr × Obj)} (h : PrIn key its prs rest) (hs : ∀ p ∈ rest, p ∈ rest') : PrIn key its prs rest' := ⟨h.1, fun j p hj => by
  obtain ⟨T, t, u, k, a, b⟩ := h.2 j p hj
  exact ⟨T, t, u, k, a, hs _ b⟩⟩
end Mine
namespace Mine
theorem stF_le (bs : List Bool) : (stF bs).1 ≤ bs.length := by
  have key : ∀ (l : List Bool) (s : Nat × List (Nat × Bool)), (l.foldl stepS s).1 ≤ s.1 + l.length := by
    intro l
    induction l with
    | nil => intro s; simp
    | cons b l ih =>
      intro s
      rw [List.foldl_cons, List.length_cons]
      refine Nat.le_trans (ih _) ?_
      cases b <;> simp [stepS] <;> omega
  simpa [stF] using key bs (0, [])
end Mine
namespace Mine
theorem stF_len (bs : List Bool) : (stF bs).2.length ≤ 2 * bs.length := by
  have key : ∀ (l : List Bool) (s : Nat × List (Nat × Bool)), (l.foldl stepS s).2.length ≤ s.2.length + 2 * l.length := by
    intro l
    induction l with
    | nil => intro s; simp
    | cons b l ih =>
      intro s
      rw [List.foldl_cons, List.length_cons]
      refine Nat.le_trans (ih _) ?_
      cases b <;> simp [stepS] <;> omega
  simpa [stF] using key bs (0, [])
end Mine
namespace Mine
theorem upIn_snoc {its : List Value} {rest : List (Addr × Obj)} {T : Addr} {t u : Tok} {k : Nat} (h : UpIn its rest) (e : (T, ({ cls := .type "tuple", data := .seq #[.str "" t, .str "(" u] k } : Obj)) ∈ rest) : UpIn (its ++ [.ref T]) rest := by
  intro j hj
  by_cases hlt : j < its.length
  · obtain ⟨T, t, u, k, a, b⟩ := h j hlt
    exact ⟨T, t, u, k, by rw [List.getElem?_append_left hlt]; exact a, b⟩
  · have : j = its.length := by simp at hj; omega
    subst this
    exact ⟨T, t, u, k, by simp, e⟩
theorem upIn_init {its : List Value} {v : Value} {rest : List (Addr × Obj)} (h : UpIn (its ++ [v]) rest) : UpIn its rest := by
  intro j hj
  obtain ⟨T, t, u, k, a, b⟩ := h j (by simp; omega)
  exact ⟨T, t, u, k, by rw [List.getElem?_append_left hj] at a; exact a, b⟩
theorem prIn_snoc {key : Nat × Bool → Str} {items : List Value} {prs : List (Nat × Bool)} {rest : List (Addr × Obj)} {T : Addr} {p : Nat × Bool} {t u : Tok} {k : Nat} (h : PrIn key items prs rest)
    (e : (T, ({ cls := .type "tuple", data := .seq #[.str (key p) t, .str (if p.2 then "(" else ")") u] k } : Obj)) ∈ rest) : PrIn key (items ++ [.ref T]) (prs ++ [p]) rest := by
  refine ⟨by simp [h.1], fun j q hj => ?_⟩
  by_cases hlt : j < prs.length
  · rw [List.getElem?_append_left hlt] at hj
    obtain ⟨T, t, u, k, a, b⟩ := h.2 j q hj
    exact ⟨T, t, u, k, by rw [List.getElem?_append_left (by rw [h.1]; exact hlt)]; exact a, b⟩
  · have hj' := (List.getElem?_eq_some_iff.mp hj).1
    have : j = prs.length := by simp at hj'; omega
    subst this
    simp at hj
    subst hj
    exact ⟨T, t, u, k, by rw [← h.1]; simp, e⟩
theorem snoc_of {its : List Value} (h : 0 < its.length) : ∃ l v, its = l ++ [v] := by
  have hne : its ≠ [] := by intro e; rw [e] at h; exact Nat.lt_irrefl 0 h
  exact ⟨its.dropLast, its.getLast hne, (List.dropLast_concat_getLast hne).symm⟩
end Mine
namespace Mine
theorem mem2 {α : Type} {a b : α} {l : List α} : ∀ p ∈ l, p ∈ a :: b :: l := fun _ h => .tail _ (.tail _ h)
theorem mem3 {α : Type} {a b c : α} {l : List α} : ∀ p ∈ l, p ∈ a :: b :: c :: l := fun _ h => .tail _ (.tail _ (.tail _ h))
theorem off3 {x a b c : Addr} {oa ob oc : Obj} {l : List (Addr × Obj)} (h : ∀ p ∈ l, p.1 ≠ x) (ha : @Ne Nat a x) (hb : @Ne Nat b x) (hc : @Ne Nat c x) : ∀ p ∈ (a, oa) :: (b, ob) :: (c, oc) :: l, p.1 ≠ x := by
  intro p hp
  rcases List.mem_cons.mp hp with rfl | hp
  · exact ha
  rcases List.mem_cons.mp hp with rfl | hp
  · exact hb
  rcases List.mem_cons.mp hp with rfl | hp
  · exact hc
  exact h p hp
theorem push_list (its : List Value) (v : Value) : its.toArray.push v = (its ++ [v]).toArray := by simp
theorem push_list2 (its : List Value) (v u : Value) : (its.toArray.push v).push u = (its ++ [v] ++ [u]).toArray := by simp
end Mine
namespace Mine
theorem allLt_trans {a b : Addr} : ∀ {l : List (Addr × Obj)}, AllLt a l → a < b → AllLt b l
  | [], _, _ => trivial
  | _ :: _, h, e => ⟨Nat.lt_trans h.1 e, allLt_trans h.2 e⟩
end Mine
end
-- KG
section
open PySem PySem.W PyProof.Rows Mine
local macro_rules | `(tactic| k_all) => `(tactic| assumption)
local macro_rules | `(tactic| cell_enter) => `(tactic| (refine' code_defC ?k1 ?k2 ?k3 ?k4 ?k5 ?kA ?kF ?kK ?k6 ?k7 ?k8 ?k9 ?kB ?kD ?_ ?c2 ?c3 ?c4; (case kA => exact rfl); (case kF => exact rfl); (case kK => assumption); (case k1 => k_asm); (case k2 => k_asm); (case k3 => k_asm); (case k4 => k_asm); (case k5 => k_asm); (case k6 => k_is); (case k7 => k_is); (case k8 => ktr_room); (case k9 => exact BindsTo.of_eq rfl); (case kB => exact rfl); (case kD => decide +kernel); (case c2 => exact rfl); (case c3 => exact rfl); (case c4 => exact rfl); k_whole; intro g' L' h' tk' cells' FG' F' N' Y' B' X' T' l1; (try k_lt l1); k_cells Y'; (try simp only [List.cons_append, List.nil_append] at N'); (try dsimp only); (try k_lift B'); (try k_fold)))
local macro_rules | `(tactic| walk_at "call ref") => `(tactic| (k_here; (with_reducible show wpAny _ _ (call (Value.ref 70) _ _) _ _ _); k_dflt (refine' conv_spec _ _ _ _ _ (by assumption) _ _ _ _ _ _ _ _ _ _ _ _ _ _ _ _ _ _ _ _ _ _ _ ?k1 ?k2 ?k3 ?k4 ?k5 ?kK ?kd ?ku ?_; (case k1 => k_asm); (case k2 => k_asm); (case k3 => k_asm); (case k4 => k_asm); (case k5 => k_asm); (case kK => exact rfl); (case kd => ktr_room); (case ku => ktr_units); intro h9 tk9 F9 N9; (try dsimp only))))
local macro_rules | `(tactic| walk_at "call builtin:str.lower") => `(tactic| (k_here; (with_reducible show wpAny _ _ (call (Value.builtin _) [Value.str _ _]) _ _ _); k_dflt (refine' Mine.call_lower ?k1 ?_; (case k1 => assumption))))
local macro_rules | `(tactic| walk_at "eval ListComp") => `(tactic| (k_here; k_dflt (refine LCt.ListComp_T (F₀ := by k_asm) (by with_unfolding_all rfl) (by decide) (by rfl) (by decide) (by rfl) ?_)))
local macro_rules | `(tactic| walk_at "CompSrcT") => `(tactic| (k_here; k_dflt (refine LCt.CompSrcT.ledger (by rfl) (by k_asm) (by k_asm) (by k_mem) (by (simp only [List.size_toArray]; unfold sizeLine; omega)) ?_); intro g'))
set_option maxRecDepth 100000 in
set_option maxHeartbeats 2000000 in
theorem get_spec (w : World) (x dx l : Addr) (items : List Value) (n k0 : Nat) (Ts : Nat → Addr) (ks ks' vs : Nat → Str) (nm nm' : Str) (hn : Low nm nm') (hc : Clear nameL nm') (t0 t : Tok) (led : List (Addr × Obj)) (hs : items.length < 100)
    (hT : ∀ j, j < items.length → items[j]? = some (.ref (Ts j)) ∧ Low (ks j) (ks' j) ∧ ∃ t u k, (Ts j, tupO [.str (ks j) t, .str (vs j) u] k) ∈ led) :
    DefSpec w 108 20 [.ref x, .str nm t] ((x, instObj 169 dx) :: (dx, dictOf [⟨PyData.keyHash w.params (Str.ofString "_headers"), .str (Str.ofString "_headers") t0, .ref l⟩] k0) :: (l, listOf items.toArray n) :: led) fun h₀ L m s Q =>
      ∀ r res h' tk', StrsAre res (getF ks' vs nm' items.length) → Fr h₀ L h' m → News h₀ L h' ((r, LCg.lst res) :: (x, instObj 169 dx) :: (dx, dictOf [⟨PyData.keyHash w.params (Str.ofString "_headers"), .str (Str.ofString "_headers") t0, .ref l⟩] k0) :: (l, listOf items.toArray n) :: led) →
        Q (.ref r) { s with heap := h', toks := tk' } := by
  unfold DefSpec Ctxt
  k_fill
  intro p loose mean mg mb dp un gd cn cs a ccd cl outer A₀ base h₀ L m s Q E hB hF hX hN hT1 hcs hdp hun hQ
  refine wpAny_call ?_
  cell_enter
  rename _ ∧ _ ∧ _ ∧ AllLt _ _ => l1
  have nC := allLt_ne1 l1.2.2.2
  k_steps
  rename Fr _ _ _ _ => kF
  rename News _ _ _ _ => kN
  obtain ⟨l0, el, kN⟩ := newsX kN
  refine rest_test (fun i ys news => news = l0 ∧ StrsAre ys (getF ks' vs nm' i)) ⟨el.symm, .nil⟩ ?_ ?_
  · rintro i ys news v I oI C oC D m₂ h tk E' hi ⟨rfl, hys⟩ hP hC hx F N off ne
    have hj : i < items.length := by simpa using hi
    obtain ⟨e1, c1, t9, u9, k9, e2⟩ := hT i hj
    have hv' : v = .ref (Ts i) := by
      have z : items[i]? = some v := by simpa using hP
      rw [e1] at z; exact (Option.some.inj z).symm
    subst hv'
    clear kF kN
    subst el
    have N2 := news_sub (l' := (Ts i, tupO [.str (ks i) t9, .str (vs i) u9] k9) :: _) N (fun q hq => by
      rcases List.mem_cons.mp hq with rfl | hq
      · exact .tail _ (.tail _ (.tail _ (.tail _ (.tail _ (.tail _ (.tail _ e2))))))
      · exact hq)
    clear N
    k_steps
    · rename Fr _ _ _ _ => kF3
      rename News _ _ _ _ => kN3
      exact LCg.CompEnd.intro kF3 kN3 _ (fun q hq => .tail _ hq) off (.inr ⟨_, .tail _ (.tail _ (.tail _ (.head _))), rfl, n, rfl⟩) ⟨rfl, getF_in hys (by assumption)⟩
    · rename Fr _ _ _ _ => kF3
      rename News _ _ _ _ => kN3
      exact LCg.CompEnd.intro kF3 kN3 _ (fun q hq => .tail _ hq) off (.inr ⟨_, .tail _ (.tail _ (.tail _ (.head _))), rfl, n, rfl⟩) ⟨rfl, getF_out hys (by assumption)⟩
  · rintro ys news ⟨rfl, hys⟩
    clear kF kN
    subst el
    k_steps
    rename Fr h₀ L _ _ => kF3
    rename News h₀ L _ _ => kN3
    refine hQ _ _ _ _ (by simpa using hys) kF3 (news_sub kN3 fun q hq => ?_)
    rcases List.mem_cons.mp hq with rfl | hq
    · exact .head _
    · exact .tail _ (.tail _ hq)
end
-- PN
section
set_option maxRecDepth 100000
open PySem PySem.Calls PySem.W PyProof.Rows
namespace Mine
def keyS (p : Nat × Bool) : Str := if p.2 then Str.ofString "x" ++ Str.ofString (toString (p.1 : Int)) else Str.ofString "X" ++ Str.ofString (toString (p.1 : Int))
def valS (b : Bool) : Str := if b then "(" else ")"
theorem vals_clear (b : Bool) : Clear valueL (valS b) := ⟨by cases b <;> decide +kernel⟩
theorem key_clear_all : ∀ h : Fin 9, ∀ b : Bool, deadAt (Sre.forSearch ((nameL.map fun i => i.toNat).toArray) (keyS (h.val, b)).cps 0 (min 0 (keyS (h.val, b)).cps.size) (min (2 ^ 63 - 1) (keyS (h.val, b)).cps.size) false) = true := by decide +kernel
theorem key_clear {p : Nat × Bool} (h : p.1 ≤ 8) : Clear nameL (keyS p) := ⟨key_clear_all ⟨p.1, by omega⟩ p.2⟩
theorem key_low_all : ∀ h : Fin 9, ∀ b : Bool, Builtin.Str.tooLong (Txt.lower (keyS (h.val, b))).length = false ∧ Txt.lower (keyS (h.val, b)) = keyS (h.val, true) := by decide +kernel
theorem key_low {p : Nat × Bool} (h : p.1 ≤ 8) : Low (keyS p) (keyS (p.1, true)) := ⟨(key_low_all ⟨p.1, by omega⟩ p.2).1, (key_low_all ⟨p.1, by omega⟩ p.2).2⟩
theorem key_inj_all : ∀ h k : Fin 9, keyS (h.val, true) = keyS (k.val, true) → h = k := by decide +kernel
theorem key_inj {h k : Nat} (hh : h ≤ 8) (hk : k ≤ 8) (e : keyS (h, true) = keyS (k, true)) : h = k := by
  have := key_inj_all ⟨h, by omega⟩ ⟨k, by omega⟩ e
  simpa using this
theorem stF_small (bs : List Bool) : ∀ p ∈ (stF bs).2, p.1 ≤ bs.length := by
  have key : ∀ (l : List Bool) (s : Nat × List (Nat × Bool)) (n : Nat), s.1 ≤ n → (∀ p ∈ s.2, p.1 ≤ n) → ∀ p ∈ (l.foldl stepS s).2, p.1 ≤ n + l.length := by
    intro l
    induction l with
    | nil => intro s n h1 h2 p hp; exact h2 p hp
    | cons b l ih =>
      intro s n h1 h2 p hp
      rw [List.foldl_cons] at hp
      rw [List.length_cons, show n + (l.length + 1) = (n + 1) + l.length by omega]
      refine ih _ (n + 1) ?_ ?_ p hp
      · cases b <;> simp [stepS] <;> omega
      · intro q hq
        cases b with
        | false => exact Nat.le_succ_of_le (h2 q (by simpa [stepS] using hq))
        | true =>
          simp [stepS] at hq
          rcases hq with hq | rfl | rfl
          · exact Nat.le_succ_of_le (h2 q hq)
          · show s.1 ≤ n + 1; omega
          · show s.1 + 1 ≤ n + 1; omega
  intro p hp
  have := key bs (0, []) 0 (Nat.le_refl 0) (by simp) p hp
  simpa using this
def keyAt (prs : List (Nat × Bool)) (j : Nat) : Str := keyS (prs.getD j (0, true))
def lowAt (prs : List (Nat × Bool)) (j : Nat) : Str := keyS ((prs.getD j (0, true)).1, true)
def valAt (prs : List (Nat × Bool)) (j : Nat) : Str := valS (prs.getD j (0, true)).2
theorem prIn_fun {items : List Value} {prs : List (Nat × Bool)} {rest : List (Addr × Obj)} (h : PrIn keyS items prs rest) (hb : ∀ p ∈ prs, p.1 ≤ 8) :
    ∃ Ts : Nat → Addr, ∀ j, j < items.length → items[j]? = some (Value.ref (Ts j)) ∧ Clear nameL (keyAt prs j) ∧ Clear valueL (valAt prs j) ∧ Low (keyAt prs j) (lowAt prs j) ∧ ∃ t u k, (Ts j, tupO [.str (keyAt prs j) t, .str (valAt prs j) u] k) ∈ rest := by
  obtain ⟨Ts, hT⟩ := Classical.axiomOfChoice (r := fun (j : Nat) (T : Addr) => j < items.length → items[j]? = some (Value.ref T) ∧ ∃ t u k, (T, tupO [.str (keyAt prs j) t, .str (valAt prs j) u] k) ∈ rest) fun j => by
    by_cases hj : j < items.length
    · have hj' : j < prs.length := by rw [← h.1]; exact hj
      obtain ⟨T, t, u, k, e1, e2⟩ := h.2 j prs[j] (List.getElem?_eq_getElem hj')
      refine ⟨T, fun _ => ⟨e1, t, u, k, ?_⟩⟩
      have e : prs.getD j (0, true) = prs[j] := by rw [List.getD_eq_getElem?_getD, List.getElem?_eq_getElem hj']; rfl
      unfold keyAt valAt
      rw [e]
      exact e2
    · exact ⟨0, fun z => absurd z hj⟩
  refine ⟨Ts, fun j hj => ?_⟩
  have hj' : j < prs.length := by rw [← h.1]; exact hj
  have e : prs.getD j (0, true) = prs[j] := by rw [List.getD_eq_getElem?_getD, List.getElem?_eq_getElem hj']; rfl
  have b : (prs.getD j (0, true)).1 ≤ 8 := by rw [e]; exact hb _ (List.getElem_mem hj')
  exact ⟨(hT j hj).1, key_clear b, vals_clear _, key_low b, (hT j hj).2⟩
theorem len_word {prog : Program} {w : World} {A : Around} {E : Value → Shared → Prop} {s : Shared} {bs : List Bool} {t : Tok} {Q : Value → Shared → Prop} (h8 : bs.length ≤ 8) (h : Q (.int (bs.length : Nat) (s.toks + 1)) { s with toks := s.toks + 1 + 1 }) :
    wpAny (model prog w) A (call (.builtin "len") [.str (wordS bs) t]) Q E s := by
  have e : (wordS bs).length = bs.length := by simp [wordS, Str.length]
  refine PySem.P.len_str (by rw [e]; omega) ?_
  rw [e]
  exact h
theorem half_small {n : Nat} (h : n ≤ 8) : Builtin.Range.small 0 ((n : Int).fdiv 2 + 1) 1 = true := by
  have : ∀ k : Fin 9, Builtin.Range.small 0 ((k.val : Int).fdiv 2 + 1) 1 = true := by decide +kernel
  exact this ⟨n, by omega⟩
theorem half_size {n : Nat} (h : n ≤ 8) : Builtin.Range.rangeSize 0 ((n : Int).fdiv 2 + 1) 1 = ((n / 2 + 1 : Nat) : Int) := by
  have : ∀ k : Fin 9, Builtin.Range.rangeSize 0 ((k.val : Int).fdiv 2 + 1) 1 = ((k.val / 2 + 1 : Nat) : Int) := by decide +kernel
  exact this ⟨n, by omega⟩
def joinS (ys : List Str) : Str := Txt.join (Str.ofString "") ys
structure JoinFits (ys : List Str) : Prop where
  out : (ys.map (·.length)).sum ≤ 1000000
theorem sum_le {ys : List Str} {B : Nat} (h : ∀ y ∈ ys, y.length ≤ B) : (ys.map (·.length)).sum ≤ ys.length * B := by
  induction ys with
  | nil => simp
  | cons y r ih =>
    rw [List.map_cons, List.sum_cons, List.length_cons, Nat.succ_mul]
    have h1 := h y (.head _)
    have h2 := ih fun z hz => h z (.tail _ hz)
    omega
theorem joinS_len (ys : List Str) : (joinS ys).length ≤ (ys.map (·.length)).sum := by
  have := PySem.StrLaws.join_length_le (Str.ofString "") ys
  have e : (Str.ofString "").length = 0 := by decide
  rw [e, Nat.mul_zero, Nat.add_zero] at this
  unfold joinS Txt.join
  rw [PySem.StrLaws.glued_eq_join]
  exact this
theorem getF_len (ks vs : Nat → Str) (nm : Str) : ∀ n, (getF ks vs nm n).length ≤ n
  | 0 => Nat.le_refl 0
  | n + 1 => by
    have := getF_len ks vs nm n
    unfold getF
    split
    · rw [List.length_append, List.length_singleton]; omega
    · omega
theorem getF_mem {ks vs : Nat → Str} {nm : Str} {B : Nat} (h : ∀ j, (vs j).length ≤ B) : ∀ n, ∀ y ∈ getF ks vs nm n, y.length ≤ B
  | 0, _, hy => nomatch hy
  | n + 1, y, hy => by
    unfold getF at hy
    split at hy
    · rcases List.mem_append.mp hy with hy | hy
      · exact getF_mem h n y hy
      · rw [List.mem_singleton.mp hy]; exact h n
    · exact getF_mem h n y hy
theorem valAt_len (prs : List (Nat × Bool)) (j : Nat) : (valAt prs j).length ≤ 1 := by
  unfold valAt valS
  split <;> decide
def piece (prs : List (Nat × Bool)) (n k : Nat) : Str := joinS (getF (lowAt prs) (valAt prs) (keyS (k, true)) n)
theorem getF_fits {prs : List (Nat × Bool)} {nm : Str} {n : Nat} (h : n ≤ 16) : JoinFits (getF (lowAt prs) (valAt prs) nm n) := ⟨by
  have := sum_le (getF_mem (ks := lowAt prs) (nm := nm) (valAt_len prs) n)
  have := getF_len (lowAt prs) (valAt prs) nm n
  omega⟩
theorem piece_len {prs : List (Nat × Bool)} {n : Nat} (h : n ≤ 16) (k : Nat) : (piece prs n k).length ≤ 16 := by
  have h0 := joinS_len (getF (lowAt prs) (valAt prs) (keyS (k, true)) n)
  have := sum_le (getF_mem (ks := lowAt prs) (nm := keyS (k, true)) (valAt_len prs) n)
  have := getF_len (lowAt prs) (valAt prs) (keyS (k, true)) n
  unfold piece
  omega
theorem pieces_fits {prs : List (Nat × Bool)} {n i : Nat} (h : n ≤ 16) (hi : i ≤ 5) : JoinFits ((List.range i).map (piece prs n)) := ⟨by
  have := sum_le (ys := (List.range i).map (piece prs n)) (B := 16) fun y hy => by
    obtain ⟨k, _, rfl⟩ := List.mem_map.mp hy
    exact piece_len h k
  rw [List.length_map, List.length_range] at this
  omega⟩
theorem call_joinS {prog : Program} {w : World} {A : Around} {E : Value → Shared → Prop} {s : Shared} {h₀ : Heap} {L r : Addr} {news : List (Addr × Obj)} {res : List Value} {ys : List Str} {t : Tok} {Q : Value → Shared → Prop} (N : News h₀ L s.heap news) (hm : (r, LCg.lst res) ∈ news)
    (hi : StrsAre res ys) (hB : JoinFits ys) (h : ∀ t' k, Q (.str (joinS ys) t') { s with toks := k }) : wpAny (model prog w) A (call (.builtin "str.join") [.str (Str.ofString "") t, .ref r]) Q E s := by
  refine join_list (ys := ys) (IsL.isList (N _ hm).1) (by simpa using hi) ?_ h
  have := hB.out
  have e : (Str.ofString "").length = 0 := by decide
  rw [e]
  omega
def sentS (bs : List Bool) : Str := joinS ((List.range (bs.length / 2 + 1)).map (piece (stF bs).2 (stF bs).2.length))
theorem strs_range {ys : List Value} {i : Nat} {f : Nat → Str} {t : Tok} (h : StrsAre ys ((List.range i).map f)) : StrsAre (ys ++ [.str (f i) t]) ((List.range (i + 1)).map f) := by
  rw [List.range_succ, List.map_append]
  exact strs_snoc h
end Mine
end
-- PW1
section
set_option maxRecDepth 100000
set_option maxHeartbeats 4000000
open PySem PySem.Calls PySem.W PyProof.Rows
namespace Mine
def allW : Nat → List (List Bool)
  | 0 => [[]]
  | n + 1 => [] :: (allW n).flatMap fun l => [true :: l, false :: l]
theorem mem_allW : ∀ (n : Nat) (bs : List Bool), bs.length ≤ n → bs ∈ allW n
  | 0, [], _ => .head _
  | n + 1, [], _ => .head _
  | n + 1, b :: bs, h => by
    have := mem_allW n bs (Nat.le_of_succ_le_succ h)
    refine .tail _ (List.mem_flatMap.mpr ⟨bs, this, ?_⟩)
    cases b
    · exact .tail _ (.head _)
    · exact .head _
theorem no_quote_all : ((allW 8).all fun bs => (Builtin.Str.occurrences (wordS bs) "\"" 0 (wordS bs).length 1).isEmpty) = true := by decide +kernel
theorem no_quote {bs : List Bool} (h : bs.length ≤ 8) : (Builtin.Str.occurrences (wordS bs) "\"" 0 (wordS bs).length 1).isEmpty = true := List.all_eq_true.mp no_quote_all bs (mem_allW 8 bs h)
section
variable {prog : Program} {w : World} {A : Around} {E : Value → Shared → Prop} {s : Shared}
theorem not_in_word {bs : List Bool} {t u : Tok} {Q : Value → Shared → Prop} (h8 : bs.length ≤ 8) (h : Q (.bool true) s) : wpAny (model prog w) A (compareOp .NotIn (.str "\"" u) (.str (wordS bs) t)) Q E s := by
  refine notIn_str ?_
  rw [no_quote h8]
  exact h
end
end Mine
end
-- PF2
section
set_option maxRecDepth 100000
set_option maxHeartbeats 4000000
open PySem PySem.Calls PySem.W PyProof.Rows
namespace Mine
theorem letGo_striter {M : Model} {A : Around} {E : Value → Shared → Prop} {target : Expr} {I : Addr} {o : Obj} {v : Value} {Q' : Unit → Shared → Prop} {s' : Shared} (ho : s'.heap.get? I = some o) {x : Str} {t : Tok} {i : Nat} (hc : o.cls = .type "str_ascii_iterator") (hd : o.data = .fields #[.str x t, .int i 0]) (h : Q' () s') :
    wpAny M A (letOwnedTupleGo target (.ref I) v) Q' E s' := by
  unfold letOwnedTupleGo
  cases target <;> first
    | exact wpAny_pure h
    | (cases v <;> first
        | exact wpAny_pure h
        | (refine wpAny_bind (wpAny_load ho ?_)
           rw [hc, hd]
           exact wpAny_pure h))
section
variable {prog : Program} {w : World} {A : Around} {E : Value → Shared → Prop} {s : Shared} {env : Env} {h₀ : Heap} {target iter : Expr} {body : List Stmt} {Q : Flow → Shared → Prop}
/-- a loop over the signs of a text below 128 -/
theorem loop_text {x : Str} {t : Tok} {m₀ : Str → Option Value} {led₀ : List (Addr × Obj)} (P : Nat → (Str → Option Value) → List (Addr × Obj) → Array GenState → Prop)
    (hh : A.handled = none) (F₀ : Fr h₀ env.locals s.heap m₀) (N₀ : News h₀ env.locals s.heap led₀) (ha : x.cps.all (· < 128) = true) (h0 : P 0 m₀ led₀ s.gens)
    (turn : ∀ i c u m led gs h tk it o, x.cps[i]? = some c → P i m led gs → Fr h₀ env.locals h m → News h₀ env.locals h ((it, o) :: led) → (∀ p ∈ led, p.1 ≠ it) →
      wpAny (model prog w) A (assign target env (.str ⟨#[c]⟩ u)) (fun _ s₂ => wpAny (model prog w) A (execs body env) (TurnPost h₀ env.locals (P (i + 1)) it o Q s) E s₂) E { s with heap := h, toks := tk, gens := gs })
    (done : ∀ m led gs h tk, P x.cps.size m led gs → Fr h₀ env.locals h m → News h₀ env.locals h led → Q .next { s with heap := h, toks := tk, gens := gs }) :
    wpAny (model prog w) A (pyIter (.str x t)) (fun it s₂ => LoopOwn prog w A env target body Q E it s₂) E s := by
  refine wpAny_pyIter_ascii ha ?_
  have itL : s.heap.objs.size ≠ env.locals := Nat.ne_of_gt F₀.ns.lt
  have itN : h₀.get? s.heap.objs.size = none := Heap.get?_none_of_le (Nat.le_of_lt (Nat.lt_of_le_of_lt F₀.above F₀.ns.lt))
  refine ⟨fun k s' => ∃ i h tk gs m led o, s' = { s with heap := h, toks := tk, gens := gs } ∧ k = x.cps.size + 1 - i ∧ i ≤ x.cps.size ∧ o.cls = .type "str_ascii_iterator" ∧ o.data = .fields #[.str x t, .int i 0] ∧
    Fr h₀ env.locals h m ∧ News h₀ env.locals h ((s.heap.objs.size, o) :: led) ∧ (∀ p ∈ led, p.1 ≠ s.heap.objs.size) ∧ P i m led gs, x.cps.size + 1,
    ⟨0, _, s.toks, s.gens, m₀, led₀, _, rfl, rfl, Nat.zero_le _, rfl, rfl, F₀.push _, N₀.push F₀ _, fun p hp => Nat.ne_of_lt (Heap.lt_size (N₀ p hp).1), h0⟩, ?_⟩
  rintro k s' ⟨i, h, tk, gs, m, led, o, rfl, rfl, hi, hc, hd, F, N, hn, hP⟩
  have Nt : News h₀ env.locals h led := fun p hp => N p (.tail _ hp)
  have ho := (N _ (.head _)).1
  have hI : h.IsStrIter s.heap.objs.size "str_ascii_iterator" x t i := ⟨o, ho, hc, hd⟩
  by_cases hlt : i < x.cps.size
  · obtain ⟨v, hv⟩ : ∃ v, x.cps[i]? = some v := ⟨_, Array.getElem?_eq_getElem hlt⟩
    refine wpAny_pyNext_ascii_item (s := { s with heap := h, toks := tk, gens := gs }) hI hv fun h₁ hit₁ hs₁ => ?_
    obtain ⟨o₁, ho₁, hc₁, hd₁⟩ := hit₁
    have kp : ∀ b o, b ≠ s.heap.objs.size → h.get? b = some o → h₁.get? b = some o := fun b o hb e => hs₁.extBut b o hb e
    have F₁ := fr_but F itL itN kp
    have N₁ : News h₀ env.locals h₁ ((s.heap.objs.size, o₁) :: led) := by
      intro p hp
      rcases List.mem_cons.mp hp with rfl | hp
      · exact ⟨ho₁, itL, itN⟩
      · exact news_but Nt hn kp p hp
    refine letGo_striter ho₁ hc₁ hd₁ ?_
    refine wpAny_mono (turn i v tk m led gs h₁ (tk + 1) _ o₁ hv hP F₁ N₁ hn) (fun _ s₂ h₂ => wpAny_mono h₂ (fun f s₃ h₃ => ?_) fun _ _ e => e) fun _ _ e => e
    have nx : TurnEnd h₀ env.locals (P (i + 1)) s.heap.objs.size o₁ s s₃ → ∃ m, m < x.cps.size + 1 - i ∧ ∃ i h tk gs m' led o, s₃ = { s with heap := h, toks := tk, gens := gs } ∧ m = x.cps.size + 1 - i ∧ i ≤ x.cps.size ∧ o.cls = .type "str_ascii_iterator" ∧ o.data = .fields #[.str x t, .int i 0] ∧
      Fr h₀ env.locals h m' ∧ News h₀ env.locals h ((s.heap.objs.size, o) :: led) ∧ (∀ p ∈ led, p.1 ≠ s.heap.objs.size) ∧ P i m' led gs := by
      rintro ⟨h', tk', gs', m', led', e, F', N', n', p'⟩
      exact ⟨x.cps.size + 1 - (i + 1), by omega, i + 1, h', tk', gs', m', led', o₁, e, rfl, hlt, hc₁, hd₁, F', N', n', p'⟩
    cases f with
    | next => exact nx h₃
    | cont => exact nx h₃
    | brk => exact h₃
    | ret v => exact h₃
  · have hin : i = x.cps.size := by omega
    subst hin
    refine wpAny_pyNext_ascii_end (s := { s with heap := h, toks := tk, gens := gs }) hh hI (by simp) fun h' hx => ?_
    exact done m led gs h' tk hP (fr_but F itL itN fun b o hb e => hx b o hb e) (news_but Nt hn fun b o hb e => hx b o hb e)
end
end Mine
end
-- PF3
section
set_option maxRecDepth 100000
set_option maxHeartbeats 4000000
open PySem PySem.Calls PySem.W PyProof.Rows
namespace Mine
theorem letGo_rangeiter {M : Model} {A : Around} {E : Value → Shared → Prop} {target : Expr} {I : Addr} {x left step : Int} {v : Value} {Q' : Unit → Shared → Prop} {s' : Shared} (ho : IsRangeIter s'.heap I x left step) (h : Q' () s') :
    wpAny M A (letOwnedTupleGo target (.ref I) v) Q' E s' := by
  unfold letOwnedTupleGo
  cases target <;> first
    | exact wpAny_pure h
    | (cases v <;> first
        | exact wpAny_pure h
        | (refine wpAny_bind (wpAny_load ho ?_)
           exact wpAny_pure h))
section
variable {prog : Program} {w : World} {A : Around} {E : Value → Shared → Prop} {s : Shared} {env : Env} {h₀ : Heap} {target iter : Expr} {body : List Stmt} {Q : Flow → Shared → Prop}
abbrev rgIt (i n : Nat) : Obj := { cls := .type "range_iterator", data := .fields #[rawInt ((i : Nat) : Int), rawInt ((n - i : Nat) : Int), rawInt 1] }
/-- a loop over range(n) -/
theorem loop_range {r : Addr} {n : Nat} {t u v : Tok} {m₀ : Str → Option Value} {led₀ : List (Addr × Obj)} (P : Nat → (Str → Option Value) → List (Addr × Obj) → Array GenState → Prop)
    (hh : A.handled = none) (F₀ : Fr h₀ env.locals s.heap m₀) (N₀ : News h₀ env.locals s.heap led₀) (hr : IsRange s.heap r 0 (n : Nat) 1 t u v) (hn : n ≤ 1000) (h0 : P 0 m₀ led₀ s.gens)
    (turn : ∀ i u m led gs h tk it o, i < n → P i m led gs → Fr h₀ env.locals h m → News h₀ env.locals h ((it, o) :: led) → (∀ p ∈ led, p.1 ≠ it) →
      wpAny (model prog w) A (assign target env (.int (i : Nat) u)) (fun _ s₂ => wpAny (model prog w) A (execs body env) (TurnPost h₀ env.locals (P (i + 1)) it o Q s) E s₂) E { s with heap := h, toks := tk, gens := gs })
    (done : ∀ m led gs h tk, P n m led gs → Fr h₀ env.locals h m → News h₀ env.locals h led → Q .next { s with heap := h, toks := tk, gens := gs }) :
    wpAny (model prog w) A (pyIter (.ref r)) (fun it s₂ => LoopOwn prog w A env target body Q E it s₂) E s := by
  refine wpAny_pyIter_range hr (small_one (by decide) (by decide) (by omega) (by omega)) ?_
  have itL : s.heap.objs.size ≠ env.locals := Nat.ne_of_gt F₀.ns.lt
  have itN : h₀.get? s.heap.objs.size = none := Heap.get?_none_of_le (Nat.le_of_lt (Nat.lt_of_le_of_lt F₀.above F₀.ns.lt))
  have hsz : Builtin.Range.rangeSize 0 (n : Int) 1 = ((n - 0 : Nat) : Int) := by rw [rangeSize_one]; split <;> omega
  rw [hsz]
  refine ⟨fun k s' => ∃ i h tk gs m led, s' = { s with heap := h, toks := tk, gens := gs } ∧ k = n + 1 - i ∧ i ≤ n ∧
    Fr h₀ env.locals h m ∧ News h₀ env.locals h ((s.heap.objs.size, rgIt i n) :: led) ∧ (∀ p ∈ led, p.1 ≠ s.heap.objs.size) ∧ P i m led gs, n + 1,
    ⟨0, _, s.toks, s.gens, m₀, led₀, rfl, rfl, Nat.zero_le _, F₀.push _, N₀.push F₀ _, fun p hp => Nat.ne_of_lt (Heap.lt_size (N₀ p hp).1), h0⟩, ?_⟩
  rintro k s' ⟨i, h, tk, gs, m, led, rfl, rfl, hi, F, N, hn', hP⟩
  have Nt : News h₀ env.locals h led := fun p hp => N p (.tail _ hp)
  have ho : IsRangeIter h s.heap.objs.size ((i : Nat) : Int) ((n - i : Nat) : Int) 1 := (N _ (.head _)).1
  by_cases hlt : i < n
  · refine wpAny_pyNext_range_item (s := { s with heap := h, toks := tk, gens := gs }) ho (by omega) fun h₁ hit₁ hs₁ => ?_
    have kp : ∀ b o, b ≠ s.heap.objs.size → h.get? b = some o → h₁.get? b = some o := fun b o hb e => hs₁.extBut b o hb e
    have F₁ := fr_but F itL itN kp
    have hit₂ : h₁.get? s.heap.objs.size = some (rgIt (i + 1) n) := by
      have e1 : (((i : Nat) : Int) + 1) = ((i + 1 : Nat) : Int) := by omega
      have e2 : (((n - i : Nat) : Int) - 1) = ((n - (i + 1) : Nat) : Int) := by omega
      rw [e1, e2] at hit₁
      exact hit₁
    have N₁ : News h₀ env.locals h₁ ((s.heap.objs.size, rgIt (i + 1) n) :: led) := by
      intro p hp
      rcases List.mem_cons.mp hp with rfl | hp
      · exact ⟨hit₂, itL, itN⟩
      · exact news_but Nt hn' kp p hp
    refine letGo_rangeiter hit₂ ?_
    refine wpAny_mono (turn i tk m led gs h₁ (tk + 1) _ _ hlt hP F₁ N₁ hn') (fun _ s₂ h₂ => wpAny_mono h₂ (fun f s₃ h₃ => ?_) fun _ _ e => e) fun _ _ e => e
    have nx : TurnEnd h₀ env.locals (P (i + 1)) s.heap.objs.size (rgIt (i + 1) n) s s₃ → ∃ m, m < n + 1 - i ∧ ∃ i h tk gs m' led, s₃ = { s with heap := h, toks := tk, gens := gs } ∧ m = n + 1 - i ∧ i ≤ n ∧
      Fr h₀ env.locals h m' ∧ News h₀ env.locals h ((s.heap.objs.size, rgIt i n) :: led) ∧ (∀ p ∈ led, p.1 ≠ s.heap.objs.size) ∧ P i m' led gs := by
      rintro ⟨h', tk', gs', m', led', e, F', N', n', p'⟩
      exact ⟨n + 1 - (i + 1), by omega, i + 1, h', tk', gs', m', led', e, rfl, hlt, F', N', n', p'⟩
    cases f with
    | next => exact nx h₃
    | cont => exact nx h₃
    | brk => exact h₃
    | ret v => exact h₃
  · have hin : i = n := by omega
    subst hin
    refine wpAny_pyNext_range_end (s := { s with heap := h, toks := tk, gens := gs }) hh ho (by omega) fun h' hx => ?_
    exact done m led gs h' tk hP (fr_but F itL itN fun b o hb e => hx b o hb e) (news_but Nt hn' fun b o hb e => hx b o hb e)
end
end Mine
end
-- PW2
section
set_option maxRecDepth 100000
set_option maxHeartbeats 4000000
open PySem PySem.Calls PySem.W PyProof.Rows
namespace Mine
section
variable {prog : Program} {w : World} {A : Around} {E : Value → Shared → Prop} {s : Shared}
theorem tail_item {M : Model} {ks : List Value} {value slice : Expr} {o i : Value} {Q : Value → Shared → Prop} (h : ItemOn M A E o i Q s) (hs : subscripted slice false o i = operate ks (getItem o i)) (ht : ∀ r, letTemporaryGo value o r = pure ()) :
    wpAny M A (subscriptTail value slice o i) Q E s := by
  obtain ⟨T, id, hl, hT, hg⟩ := h
  unfold subscriptTail
  have fin : wpAny M A (operate ks (getItem o i)) (fun r s₃ => wpAny M A (letTemporaryGo value o r >>= fun _ => pure r) Q E s₃) E s :=
    wpAny_operating (wpAny_mono hg (fun r s₃ h₃ => wpAny_bind (wpAny_of_eq (ht r) (wpAny_pure h₃))) fun _ _ x => x)
  rw [← hs] at fin
  refine wpAny_bind ?_
  rw [getitemInPython_of_ne hT.not_modules]
  refine wpAny_bind (wpAny_specialOf hT hl ?_)
  exact wpAny_pure (wpAny_bind fin)
theorem slice_lo {bs : List Bool} {i : Nat} (hi : i ≤ bs.length) : Txt.slice (wordS bs) (some (i : Int)) none = wordS (bs.drop i) := by
  refine (StrLaws.sliceText_from (x := wordS bs) (i := (i : Int)) ⟨by omega, by simp [wordS]; exact hi⟩).trans ?_
  simp only [wordS, Int.toNat_natCast, List.toList_toArray, List.length_map]
  rw [← List.map_drop, show (((bs.length : Nat) : Int) - (i : Nat)).toNat = (bs.drop i).length by rw [List.length_drop]; omega, ← List.map_take, List.take_length]
theorem slice_hi {bs : List Bool} {i : Nat} (hi : i ≤ bs.length) : Txt.slice (wordS bs) none (some (i : Int)) = wordS (bs.take i) := by
  refine (StrLaws.sliceText_to (x := wordS bs) (j := (i : Int)) ⟨by omega, by simp [wordS]; exact hi⟩).trans ?_
  simp [wordS, List.map_take]
variable {h₀ : Heap} {L : Addr} {m : Str → Option Value} {led : List (Addr × Obj)}
theorem keptFN : KeptH (fun h => Fr h₀ L h m ∧ News h₀ L h led) := fun _ ob ⟨F, N⟩ => ⟨F.push ob, fun p hp => ⟨Heap.get?_push_of_some _ (N p hp).1, (N p hp).2⟩⟩
theorem len_fits {bs : List Bool} (h8 : bs.length ≤ 8) : (wordS bs).length ≤ sizeLine := by
  show (wordS bs).cps.size ≤ sizeLine
  rw [wordS_size]; unfold sizeLine; omega
theorem tail_lo {bs : List Bool} {t u : Tok} {i : Nat} {value slice : Expr} {Q : Value → Shared → Prop} (h8 : bs.length ≤ 8) (hi : i ≤ bs.length) (F : Fr h₀ L s.heap m) (N : News h₀ L s.heap led)
    (h : ∀ h' t' k, Fr h₀ L h' m → News h₀ L h' led → Q (.str (wordS (bs.drop i)) t') { s with heap := h', toks := k })
    (hs : subscripted slice false (.str (wordS bs) t) (.ref s.heap.objs.size) = operate [(.ref s.heap.objs.size), (.str (wordS bs) t)] (getItem (.str (wordS bs) t) (.ref s.heap.objs.size))) (ht : ∀ r, letTemporaryGo value (.str (wordS bs) t) r = pure ()) :
    wpAny (model prog w) A (subscriptTail value slice (.str (wordS bs) t) (.ref s.heap.objs.size)) Q E { s with heap := s.heap.push { cls := .type "slice", data := .fields #[.int (i : Nat) u, .none, .none] } } := by
  refine tail_item (SBH.sliceItem_sn keptFN ⟨F, N⟩ (fun h' t' k hp => ?_) (len_fits h8)) hs ht
  rw [slice_lo hi]
  exact h h' t' k hp.1 hp.2
theorem tail_hi {bs : List Bool} {t u : Tok} {i : Nat} {value slice : Expr} {Q : Value → Shared → Prop} (h8 : bs.length ≤ 8) (hi : i ≤ bs.length) (F : Fr h₀ L s.heap m) (N : News h₀ L s.heap led)
    (h : ∀ h' t' k, Fr h₀ L h' m → News h₀ L h' led → Q (.str (wordS (bs.take i)) t') { s with heap := h', toks := k })
    (hs : subscripted slice false (.str (wordS bs) t) (.ref s.heap.objs.size) = operate [(.ref s.heap.objs.size), (.str (wordS bs) t)] (getItem (.str (wordS bs) t) (.ref s.heap.objs.size))) (ht : ∀ r, letTemporaryGo value (.str (wordS bs) t) r = pure ()) :
    wpAny (model prog w) A (subscriptTail value slice (.str (wordS bs) t) (.ref s.heap.objs.size)) Q E { s with heap := s.heap.push { cls := .type "slice", data := .fields #[.none, .int (i : Nat) u, .none] } } := by
  refine tail_item (SBH.sliceItem_ns keptFN ⟨F, N⟩ (fun h' t' k hp => ?_) (len_fits h8)) hs ht
  rw [slice_hi hi]
  exact h h' t' k hp.1 hp.2
theorem wordS_app (a b : List Bool) : wordS a ++ wordS b = wordS (a ++ b) := by
  show (⟨(wordS a).cps ++ (wordS b).cps⟩ : Str) = _
  simp [wordS]
theorem add_word {a b : List Bool} {t u : Tok} {Q : Value → Shared → Prop} (ha : a.length ≤ 8) (hb : b.length ≤ 8) (h : ∀ t' tk, Q (.str (wordS (a ++ b)) t') { s with toks := tk }) : wpAny (model prog w) A (binaryOp .Add (.str (wordS a) t) (.str (wordS b) u)) Q E s := by
  refine add_str (fun t' tk => ?_) ?_
  · rw [wordS_app]; exact h t' tk
  · show (wordS a).cps.size + (wordS b).cps.size ≤ sizeLine
    rw [wordS_size, wordS_size]; unfold sizeLine; omega
end
end Mine
end
-- PW3
section
set_option maxRecDepth 100000
set_option maxHeartbeats 4000000
open PySem PySem.Calls PySem.W PyProof.Rows
namespace Mine
section
variable {prog : Program} {w : World} {A : Around} {E : Value → Shared → Prop} {s : Shared}
theorem tail_at {bs : List Bool} {t u : Tok} {i : Nat} {b : Bool} {ks : List Value} {value slice : Expr} {Q : Value → Shared → Prop} (h8 : bs.length ≤ 8) (hi : bs[i]? = some b)
    (h : Q (.str ⟨#[signC b]⟩ s.toks) { s with toks := s.toks + 1 })
    (hs : subscripted slice false (.str (wordS bs) t) (.int (i : Nat) u) = operate ks (getItem (.str (wordS bs) t) (.int (i : Nat) u))) (ht : ∀ r, letTemporaryGo value (.str (wordS bs) t) r = pure ()) :
    wpAny (model prog w) A (subscriptTail value slice (.str (wordS bs) t) (.int (i : Nat) u)) Q E s := by
  have hlt : i < bs.length := (List.getElem?_eq_some_iff.mp hi).1
  refine tail_item ⟨"str", _, F.slot_str_getitem.lookup, typeIs_str _ _ _, P.getItem_str (c := signC b) ?_ ?_ h⟩ hs ht
  · simp; omega
  · rw [StrLaws.seqIndex_nonneg (by omega) (by show ((i : Nat) : Int) < ((wordS bs).cps.size : Nat); rw [wordS_size]; omega)]
    simp [wordS, hi]
def opensIn (bs : List Bool) : Nat := bs.countP id
theorem count_all : ((allW 8).all fun bs => Txt.count (wordS bs) "(" == (opensIn bs : Nat)) = true := by decide +kernel
theorem count_word {bs : List Bool} (h : bs.length ≤ 8) : Txt.count (wordS bs) "(" = (opensIn bs : Nat) := eq_of_beq (List.all_eq_true.mp count_all bs (mem_allW 8 bs h))
theorem call_count {bs : List Bool} {t u : Tok} {Q : Value → Shared → Prop} (h : bs.length ≤ 8) (hq : Q (.int (opensIn bs : Nat) s.toks) { s with toks := s.toks + 1 }) : wpAny (model prog w) A (call (.builtin "str.count") [.str (wordS bs) t, .str "(" u]) Q E s :=
  SC.count (by rw [count_word h]; exact hq)
end
def heightsUpto (bs : List Bool) : Nat → List Int
  | 0 => []
  | i + 1 => heightsUpto bs i ++ (match bs[i]? with | some true => [2 * ((opensIn (bs.take i) : Nat) : Int) - ((i : Nat) : Int)] | _ => [])
def heightsF (bs : List Bool) : List Int := heightsUpto bs bs.length
theorem range_small {n : Nat} (h : n ≤ 8) : Builtin.Range.small 0 ((n : Nat) : Int) 1 = true := small_one (by decide) (by decide) (by omega) (by omega)
theorem range_size (n : Nat) : Builtin.Range.rangeSize 0 ((n : Nat) : Int) 1 = ((n : Nat) : Int) := by rw [rangeSize_one]; split <;> omega
theorem ints_snoc {y : Int} {t : Tok} : ∀ {vs : List Value} {ys : List Int}, IntsAre vs ys → IntsAre (vs ++ [.int y t]) (ys ++ [y])
  | _, _, .nil => .cons y t .nil
  | _, _, .cons a u h => .cons a u (ints_snoc h)
theorem heights_in {bs : List Bool} {i : Nat} {ys : List Value} {u : Tok} (h : IntsAre ys (heightsUpto bs i)) (e : bs[i]? = some true) : IntsAre (ys ++ [.int (2 * ((opensIn (bs.take i) : Nat) : Int) - ((i : Nat) : Int)) u]) (heightsUpto bs (i + 1)) := by
  unfold heightsUpto
  rw [e]
  exact ints_snoc h
theorem heights_out {bs : List Bool} {i : Nat} {ys : List Value} (h : IntsAre ys (heightsUpto bs i)) (e : bs[i]? = some false) : IntsAre ys (heightsUpto bs (i + 1)) := by
  unfold heightsUpto
  rw [e]
  simpa using h
theorem off1_mem {D : Addr} : ∀ {l : List (Addr × Obj)}, LCg.Off1 D l → ∀ p ∈ l, p.1 ≠ D := by
  intro l
  induction l with
  | nil => intro _ p hp; cases hp
  | cons q l ih =>
    intro h p hp
    obtain ⟨h1, h2⟩ := h
    rcases List.mem_cons.mp hp with rfl | hp
    · exact h1
    · exact ih h2 p hp
end Mine
end
-- KI
section
open PySem PySem.W PyProof.Rows Mine
local macro_rules | `(tactic| k_all) => `(tactic| assumption)
local macro_rules | `(tactic| cell_enter) => `(tactic| (refine' code_defC ?k1 ?k2 ?k3 ?k4 ?k5 ?kA ?kF ?kK ?k6 ?k7 ?k8 ?k9 ?kB ?kD ?_ ?c2 ?c3 ?c4; (case kA => exact rfl); (case kF => exact rfl); (case kK => assumption); (case k1 => k_asm); (case k2 => k_asm); (case k3 => k_asm); (case k4 => k_asm); (case k5 => k_asm); (case k6 => k_is); (case k7 => k_is); (case k8 => ktr_room); (case k9 => exact BindsTo.of_eq rfl); (case kB => exact rfl); (case kD => decide +kernel); (case c2 => exact rfl); (case c3 => exact rfl); (case c4 => exact rfl); k_whole; intro g' L' h' tk' cells' FG' F' N' Y' B' X' T' l1; (try k_lt l1); k_cells Y'; (try simp only [List.cons_append, List.nil_append] at N'); (try dsimp only); (try k_lift B'); (try k_fold)))
local macro_rules | `(tactic| walk_at "call builtin:len") => `(tactic| (k_here; (with_reducible show wpAny _ _ (call (Value.builtin "len") [Value.str (wordS _) _]) _ _ _); k_dflt (refine' Mine.len_word ?k1 ?_; (case k1 => assumption))))
local macro_rules | `(tactic| walk_at "eval ListComp") => `(tactic| (k_here; k_dflt (refine LCt.ListComp_T (F₀ := by k_asm) (by with_unfolding_all rfl) (by decide) (by rfl) (by decide) (by rfl) ?_)))
local macro_rules | `(tactic| walk_at "CompSrcT") => `(tactic| (k_here; k_dflt (refine LCt.CompSrcT.range (by rfl) (by k_asm) (by k_asm) (by assumption) (Mine.range_small (by assumption)) (Mine.range_size _) (by unfold sizeLine; omega) ?_); intro g'))
local macro_rules | `(tactic| walk_at "subscriptTail Name Name str int") => `(tactic| (k_here; (with_reducible show wpAny _ _ (subscriptTail _ _ (Value.str (wordS _) _) (Value.int _ _)) _ _ _); k_dflt (refine' Mine.tail_at ?h8 ?hi ?_ ?hs ?ht; (case h8 => assumption); (case hi => assumption); (case hs => with_unfolding_all rfl); (case ht => intro _; rfl); k_whole)))
local macro_rules | `(tactic| walk_at "subscriptTail") => `(tactic| (k_here; (with_reducible show wpAny _ _ (subscriptTail _ _ (Value.str (wordS _) _) (Value.ref _)) _ _ _); k_dflt (refine' Mine.tail_hi ?h8 ?hi ?F ?N ?_ ?hs ?ht; (case h8 => assumption); (case hi => assumption); (case F => k_asm); (case N => k_asm); (case hs => with_unfolding_all rfl); (case ht => intro _; rfl); k_whole; intro h' t' k' F' N')))
local macro_rules | `(tactic| walk_at "call builtin:str.count") => `(tactic| (k_here; (with_reducible show wpAny _ _ (call (Value.builtin "str.count") [Value.str (wordS _) _, Value.str _ _]) _ _ _); k_dflt (refine' Mine.call_count ?k1 ?_; (case k1 => simp only [List.length_take]; omega))))
set_option maxRecDepth 100000 in
set_option maxHeartbeats 2000000 in
theorem heights_spec (w : World) (bs : List Bool) (t : Tok) (led : List (Addr × Obj)) (h8 : bs.length ≤ 8) :
    DefSpec w 295 20 [.str (wordS bs) t] led fun h₀ L m s Q =>
      ∀ r res h' tk', IntsAre res (heightsF bs) → Fr h₀ L h' m → News h₀ L h' ((r, LCg.lst res) :: led) → (∀ p ∈ led, p.1 ≠ r) → Q (.ref r) { s with heap := h', toks := tk' } := by
  unfold DefSpec Ctxt
  k_fill
  intro p loose mean mg mb dp un gd cn cs ca ccd cl outer A₀ base h₀ L m s Q E hB hF hX hN hT1 hcs hdp hun hQ
  refine wpAny_call ?_
  cell_enter
  k_steps
  rename Fr _ _ _ _ => kF
  rename News _ _ _ _ => kN
  rename ∀ p ∈ led, p.1 < _ => l1
  obtain ⟨l0, el, kN⟩ := newsX kN
  refine rest_test (fun i ys news => news = l0 ∧ IntsAre ys (heightsUpto bs i)) ⟨el.symm, .nil⟩ ?_ ?_
  · rintro i ys news v I oI C oC D m₂ h tk E' hi ⟨rfl, hys⟩ ⟨t9, rfl⟩ hC hx F N off ne
    rw [show (0 : Int) + (i : Nat) = (i : Nat) by omega] at hx
    obtain ⟨b, hb⟩ : ∃ b, bs[i]? = some b := ⟨_, List.getElem?_eq_getElem hi⟩
    have hi' : i ≤ bs.length := Nat.le_of_lt hi
    clear kF kN
    subst el
    cases b with
    | true =>
      k_steps
      rename Fr _ _ _ _ => kF3
      rename News _ _ _ _ => kN3
      exact LCg.CompEnd.intro kF3 kN3 _ (fun q hq => hq) off trivial ⟨rfl, heights_in hys hb⟩
    | false =>
      k_steps
      exact LCg.CompEnd.intro F N _ (fun q hq => hq) off trivial ⟨rfl, heights_out hys hb⟩
  · rintro ys news ⟨rfl, hys⟩
    clear kF kN
    subst el
    k_steps
    rename Fr h₀ L _ _ => kF
    rename News h₀ L _ _ => kN
    rename _ ∧ LCg.Off1 _ led => o1
    refine hQ _ _ _ _ hys kF (news_sub kN fun q hq => ?_) (off1_mem o1.2)
    rcases List.mem_cons.mp hq with rfl | hq
    · exact .head _
    · exact .tail _ (.tail _ hq)
end
-- PF4
section
set_option maxRecDepth 100000
set_option maxHeartbeats 4000000
open PySem PySem.Calls PySem.W PyProof.Rows
namespace Mine
section
variable {prog : Program} {w : World} {A : Around} {E : Value → Shared → Prop} {s : Shared} {env : Env} {h₀ : Heap} {test : Expr} {body : List Stmt} {Q : Flow → Shared → Prop}
def WhileOwn (prog : Program) (w : World) (A : Around) (env : Env) (test : Expr) (body : List Stmt) (Q : Flow → Shared → Prop) (E : Value → Shared → Prop) (s₀ : Shared) : Prop :=
  ∃ (I : Nat → Shared → Prop) (n : Nat), I n s₀ ∧ ∀ k s, I k s → wpAny (model prog w) A (isTrue test env (eval test env)) (fun b s₂ => if b = true then wpAny (model prog w) A (execs body env) (fun f s₃ => match f with
        | .next | .cont => ∃ m, m < k ∧ I m s₃
        | .brk => Q .next s₃
        | .ret v => Q (.ret v) s₃) E s₂ else Q .next s₂) E s
theorem while_own {pos : Pos} (h : WhileOwn prog w A env test body Q E s) (hE : PassesOwn (model prog w) A env E) : wpAny (model prog w) A (exec (.While test body [] pos) env) Q E s := by
  obtain ⟨I, n, h0, turn⟩ := h
  refine wpAny_While (codeAny_whileLoop I (fun k s hI => wpAny_mono (turn k s hI) (fun b s₂ h₂ => ?_) hE) n h0)
  cases b with
  | true =>
    rw [if_pos rfl] at h₂ ⊢
    refine wpAny_mono h₂ (fun f s₄ h₄ => ?_) hE
    cases f <;> exact h₄
  | false =>
    rw [if_neg Bool.false_ne_true] at h₂ ⊢
    exact wpAny_execs_nil h₂
def WPost (h₀ : Heap) (L : Addr) (P : Nat → (Str → Option Value) → List (Addr × Obj) → Array GenState → Prop) (k : Nat) (Q : Flow → Shared → Prop) (s₁ : Shared) (f : Flow) (s₂ : Shared) : Prop :=
  match f with
  | .next | .cont => ∃ k' h' tk gs m' led', k' < k ∧ s₂ = { s₁ with heap := h', toks := tk, gens := gs } ∧ Fr h₀ L h' m' ∧ News h₀ L h' led' ∧ P k' m' led' gs
  | .brk => Q .next s₂
  | .ret v => Q (.ret v) s₂
theorem loop_while {k₀ : Nat} {m₀ : Str → Option Value} {led₀ : List (Addr × Obj)} (P : Nat → (Str → Option Value) → List (Addr × Obj) → Array GenState → Prop) (F₀ : Fr h₀ env.locals s.heap m₀) (N₀ : News h₀ env.locals s.heap led₀) (h0 : P k₀ m₀ led₀ s.gens)
    (turn : ∀ k m led gs h tk, P k m led gs → Fr h₀ env.locals h m → News h₀ env.locals h led → wpAny (model prog w) A (isTrue test env (eval test env)) (fun b s₂ => if b = true then wpAny (model prog w) A (execs body env) (WPost h₀ env.locals P k Q s) E s₂ else Q .next s₂) E { s with heap := h, toks := tk, gens := gs }) :
    WhileOwn prog w A env test body Q E s := by
  refine ⟨fun k s' => ∃ m led gs h tk, s' = { s with heap := h, toks := tk, gens := gs } ∧ P k m led gs ∧ Fr h₀ env.locals h m ∧ News h₀ env.locals h led, k₀, ⟨m₀, led₀, s.gens, s.heap, s.toks, rfl, h0, F₀, N₀⟩, ?_⟩
  rintro k s' ⟨m, led, gs, h, tk, rfl, hP, F, N⟩
  refine wpAny_mono (turn k m led gs h tk hP F N) (fun b s₂ h₂ => ?_) fun _ _ e => e
  cases b with
  | true =>
    rw [if_pos rfl] at h₂ ⊢
    refine wpAny_mono h₂ (fun f s₄ h₄ => ?_) fun _ _ e => e
    have nx : (∃ k' h' tk gs m' led', k' < k ∧ s₄ = { s with heap := h', toks := tk, gens := gs } ∧ Fr h₀ env.locals h' m' ∧ News h₀ env.locals h' led' ∧ P k' m' led' gs) → ∃ m, m < k ∧ ∃ m' led gs h tk, s₄ = { s with heap := h, toks := tk, gens := gs } ∧ P m m' led gs ∧ Fr h₀ env.locals h m' ∧ News h₀ env.locals h led := by
      rintro ⟨k', h', tk, gs, m', led', e1, e2, e3, e4, e5⟩
      exact ⟨k', e1, m', led', gs, h', tk, e2, e5, e3, e4⟩
    cases f with
    | next => exact nx h₄
    | cont => exact nx h₄
    | brk => exact h₄
    | ret v => exact h₄
  | false =>
    rw [if_neg Bool.false_ne_true] at h₂ ⊢
    exact h₂
end
end Mine
end
-- KB
section
open PySem PySem.W PyProof.Rows Mine
local macro_rules | `(tactic| walk_at "idle") => `(tactic| fail)
local macro_rules | `(tactic| k_all) => `(tactic| assumption)
local macro_rules | `(tactic| cell_enter) => `(tactic| (refine' code_defC ?k1 ?k2 ?k3 ?k4 ?k5 ?kA ?kF ?kK ?k6 ?k7 ?k8 ?k9 ?kB ?kD ?_ ?c2 ?c3 ?c4; (case kA => exact rfl); (case kF => exact rfl); (case kK => assumption); (case k1 => k_asm); (case k2 => k_asm); (case k3 => k_asm); (case k4 => k_asm); (case k5 => k_asm); (case k6 => k_is); (case k7 => k_is); (case k8 => ktr_room); (case k9 => exact BindsTo.of_eq rfl); (case kB => exact rfl); (case kD => decide +kernel); (case c2 => exact rfl); (case c3 => exact rfl); (case c4 => exact rfl); k_whole; intro g' L' h' tk' cells' FG' F' N' Y' B' X' T' l1; (try k_lt l1); k_cells Y'; (try simp only [List.cons_append, List.nil_append] at N'); (try dsimp only); (try k_lift B'); (try k_fold)))
local macro_rules | `(tactic| walk_at "call builtin:len") => `(tactic| (k_here; (with_reducible show wpAny _ _ (call (Value.builtin "len") [Value.str (wordS _) _]) _ _ _); k_dflt (refine' Mine.len_word ?k1 ?_; (case k1 => assumption))))
local macro_rules | `(tactic| walk_at "exec Assign cons ListComp") => `(tactic| (k_here; k_dflt (refine LCt.Assign_ListComp_T (F₀ := by k_asm) (by rfl) (by with_unfolding_all rfl) (by with_unfolding_all rfl) (by decide) (by rfl) (by decide) (by rfl) (by rfl) (by rfl) ?_)))
local macro_rules | `(tactic| walk_at "CompSrcT") => `(tactic| (k_here; k_dflt (refine LCt.CompSrcT.range (by rfl) (by k_asm) (by k_asm) (by assumption) (Mine.range_small (by assumption)) (Mine.range_size _) (by unfold sizeLine; omega) ?_); intro g'))
local macro_rules | `(tactic| walk_at "subscriptTail Name Name str int") => `(tactic| (k_here; (with_reducible show wpAny _ _ (subscriptTail _ _ (Value.str (wordS _) _) (Value.int _ _)) _ _ _); k_dflt (refine' Mine.tail_at ?h8 ?hi ?_ ?hs ?ht; (case h8 => assumption); (case hi => assumption); (case hs => with_unfolding_all rfl); (case ht => intro _; rfl); k_whole)))
local macro_rules | `(tactic| walk_at "exec While") => `(tactic| (k_here; k_dflt (refine while_own ?_ (by with_unfolding_all passes_own))))
local macro_rules | `(tactic| walk_at "exec While Compare") => `(tactic| (k_here; k_dflt (refine while_own ?_ (by with_unfolding_all passes_own))))
def closesUpto (bs : List Bool) : Nat → List Int
  | 0 => []
  | i + 1 => closesUpto bs i ++ (match bs[i]? with | some false => [((i : Nat) : Int)] | _ => [])
def closesF (bs : List Bool) : List Int := closesUpto bs bs.length
theorem closes_in {bs : List Bool} {i : Nat} {ys : List Value} {u : Tok} (h : IntsAre ys (closesUpto bs i)) (e : bs[i]? = some false) : IntsAre (ys ++ [.int ((i : Nat) : Int) u]) (closesUpto bs (i + 1)) := by
  unfold closesUpto
  rw [e]
  exact ints_snoc h
theorem closes_out {bs : List Bool} {i : Nat} {ys : List Value} (h : IntsAre ys (closesUpto bs i)) (e : bs[i]? = some true) : IntsAre ys (closesUpto bs (i + 1)) := by
  unfold closesUpto
  rw [e]
  simpa using h
def bnc (cl : List Int) : Nat → Int → Int → Int
  | 0, _, t => t
  | f + 1, g, t => if g < (cl.length : Nat) then bnc cl f (cl.getD g.toNat 0 - g) (t + ((cl.length : Nat) - (cl.getD g.toNat 0 - g))) else t
def bouncedF (bs : List Bool) : Int := bnc (closesF bs) ((closesF bs).length + 1) 0 0
theorem closes_len (bs : List Bool) : ∀ i, (closesUpto bs i).length ≤ i
  | 0 => Nat.le_refl _
  | i + 1 => by
    have := closes_len bs i
    unfold closesUpto
    rw [List.length_append]
    split <;> simp <;> omega
set_option maxRecDepth 100000 in
set_option maxHeartbeats 2000000 in
theorem bounced_spec (w : World) (bs : List Bool) (t : Tok) (led : List (Addr × Obj)) (h8 : bs.length ≤ 8) (hst : ∀ g : Nat, g < (closesF bs).length → 2 * (g : Int) < (closesF bs).getD g 0) :
    DefSpec w 305 20 [.str (wordS bs) t] led fun h₀ L m s Q =>
      ∀ t h' tk', Fr h₀ L h' m → News h₀ L h' led → Q (.int (bouncedF bs) t) { s with heap := h', toks := tk' } := by
  unfold DefSpec Ctxt
  k_fill
  intro p loose mean mg mb dp un gd cn cs ca ccd cl outer A₀ base h₀ L m s Q E hB hF hX hN hT1 hcs hdp hun hQ
  refine wpAny_call ?_
  cell_enter
  rename ∀ p ∈ led, p.1 < _ => l1
  have nC := fun p hp => (Nat.ne_of_lt (Nat.lt_succ_of_lt (l1 p hp)) : p.1 ≠ _ + 1)
  have hl8 : (closesF bs).length ≤ 8 := Nat.le_trans (closes_len bs _) h8
  k_steps
  rename Fr _ _ _ _ => kF
  rename News _ _ _ _ => kN
  obtain ⟨l0, el, kN⟩ := newsX kN
  refine rest_test (fun i ys news => news = l0 ∧ IntsAre ys (closesUpto bs i)) ⟨el.symm, .nil⟩ ?_ ?_
  · rintro i ys news v I oI C oC D m₂ h tk E' hi ⟨rfl, hys⟩ ⟨t9, rfl⟩ hC hx F N off ne
    rw [show (0 : Int) + (i : Nat) = (i : Nat) by omega] at hx
    obtain ⟨b, hb⟩ : ∃ b, bs[i]? = some b := ⟨_, List.getElem?_eq_getElem hi⟩
    have hi' : i ≤ bs.length := Nat.le_of_lt hi
    clear kF kN
    subst el
    cases b with
    | false =>
      k_steps
      exact LCg.CompEnd.intro F N _ (fun q hq => hq) off trivial ⟨rfl, closes_in hys hb⟩
    | true =>
      k_steps
      exact LCg.CompEnd.intro F N _ (fun q hq => hq) off trivial ⟨rfl, closes_out hys hb⟩
  · rintro ys news ⟨rfl, hys⟩
    replace hys : IntsAre ys (closesF bs) := hys
    have hcl : bouncedF bs = bnc (closesF bs) ((closesF bs).length + 1) 0 0 := rfl
    generalize closesF bs = cl at *
    clear kF kN
    subst el
    k_steps
    rename Fr _ _ _ _ => kF
    rename News _ _ _ _ => kN
    obtain ⟨m0, em, kF⟩ := frX kF
    obtain ⟨l0, el, kN⟩ := newsX kN
    refine loop_while (k₀ := cl.length + 1) (fun k m led' gs => ∃ (g t : Int) (tg tt : Tok), m "ground" = some (.int g tg) ∧ m "total" = some (.int t tt) ∧ (∀ y : Str, y ≠ "ground" → y ≠ "total" → m y = m0 y) ∧ led' = l0 ∧ gs = s.gens ∧ 0 ≤ g ∧ bouncedF bs = bnc cl k g t ∧ (cl.length : Int) + 1 ≤ k + g) kF kN ?_ ?_
    · rw [em]
      exact ⟨0, 0, _, _, rfl, rfl, fun _ _ _ => rfl, rfl, rfl, Int.le_refl _, hcl, by omega⟩
    · rintro k m led' gs h tk ⟨g, t, tg, tt, hg, ht, hm, rfl, rfl, g0, hb, hk⟩ F N
      obtain ⟨va, vb, rfl⟩ := ups2 hm
      have ea : va = some (.int g tg) := by dsimp only at hg; rwa [if_neg (by decide), if_pos rfl] at hg
      have eb : vb = some (.int t tt) := by dsimp only at ht; rwa [if_pos rfl] at ht
      subst ea eb
      clear kF kN
      subst em el
      k_steps
      · rename g < (cl.length : Int) => hlt
        rename Fr _ _ _ _ => kF3
        rename News _ _ _ _ => kN3
        obtain ⟨k', rfl⟩ : ∃ k', k = k' + 1 := ⟨k - 1, by omega⟩
        have h1 := hst g.toNat (by omega)
        have e1 : ((g.toNat : Nat) : Int) = g := Int.toNat_of_nonneg g0
        rw [e1] at h1
        refine ⟨k', _, _, _, _, _, Nat.lt_succ_self _, rfl, kF3, kN3, cl.getD g.toNat 0 - g, t + ((cl.length : Nat) - (cl.getD g.toNat 0 - g)), _, _, rfl, rfl, ?_, rfl, rfl, by omega, ?_, by omega⟩
        · intro y n1 n2
          show (if y = ("total" : Str) then _ else if y = ("ground" : Str) then _ else if y = ("total" : Str) then _ else if y = ("ground" : Str) then _ else _) = _
          rw [if_neg n2, if_neg n1, if_neg n2, if_neg n1]
        · rw [hb]
          show (if g < (cl.length : Nat) then _ else _) = _
          rw [if_pos hlt]
      · rename ¬ (g < (cl.length : Int)) => hlt
        rename Fr h₀ L _ _ => kF3
        rename News h₀ L _ _ => kN3
        have e : t = bouncedF bs := by
          rw [hb]
          cases k with
          | zero => rfl
          | succ k => show _ = (if g < (cl.length : Nat) then _ else _); rw [if_neg hlt]
        rw [e]
        exact hQ _ _ _ kF3 (news_sub kN3 fun q hq => .tail _ (.tail _ hq))
end
-- PD
section
set_option maxRecDepth 100000
set_option maxHeartbeats 4000000
open PySem PySem.Calls PySem.W PyProof.Rows
namespace Mine
theorem turn2_0 (elt t1 it1 t2 it2 : Expr) (ifs : List Expr) (scope : Scope) (pos : Pos) (it acc : Value) (env : Env) :
    compTurn (.ListComp elt [⟨t1, it1, [], 0⟩, ⟨t2, it2, ifs, 0⟩] scope pos) 0 it acc env = (do
      standAt it1.pos
      match ← pyNext it with
      | none => pure (.done .next)
      | some v =>
        letOwnedTupleGo t1 it v
        assign t1 env v
        let x ← eval it2 env
        standAt it2.pos
        let x ← foldedSetIterable it2 env x
        let _ ← runOwn (.compStart (.ListComp elt [⟨t1, it1, [], 0⟩, ⟨t2, it2, ifs, 0⟩] scope pos) 1 (← holding [x] (pyIter x)) acc env) env
        again (.compLoop (.ListComp elt [⟨t1, it1, [], 0⟩, ⟨t2, it2, ifs, 0⟩] scope pos) 0 it acc env)) := by rfl
theorem turn2_1 (elt t1 it1 t2 it2 : Expr) (ifs : List Expr) (scope : Scope) (pos : Pos) (it acc : Value) (env : Env) :
    compTurn (.ListComp elt [⟨t1, it1, [], 0⟩, ⟨t2, it2, ifs, 0⟩] scope pos) 1 it acc env = (do
      standAt it2.pos
      match ← pyNext it with
      | none => pure (.done .next)
      | some v =>
        letOwnedTupleGo t2 it v
        assign t2 env v
        let mut ok := true
        for c in ifs do
          if ok then ok ← isTrue c env (eval c env)
        if ok then
          (do let _ ← call (.builtin "list.append") [acc, ← eval elt env])
        again (.compLoop (.ListComp elt [⟨t1, it1, [], 0⟩, ⟨t2, it2, ifs, 0⟩] scope pos) 1 it acc env)) := by rfl
section
variable {prog : Program} {w : World} {A : Around} {E : Value → Shared → Prop} {R : Result → Shared → Prop} {s : Shared}
theorem start2 {elt t1 it1 t2 it2 : Expr} {ifs : List Expr} {scope : Scope} {pos : Pos} {it acc : Value} {env : Env}
    (h0 : codeAny (model prog w) A (.compLoop (.ListComp elt [⟨t1, it1, [], 0⟩, ⟨t2, it2, ifs, 0⟩] scope pos) 1 it acc env) R s)
    (h : wpAny (model prog w) A (pyIter it) (fun it' s' => codeAny (model prog w) A (.compLoop (.ListComp elt [⟨t1, it1, [], 0⟩, ⟨t2, it2, ifs, 0⟩] scope pos) 1 it' acc env) R s')
      (notedBy (model prog w) A env fun x s' => R (.error x) s') s) :
    codeAny (model prog w) A (.compStart (.ListComp elt [⟨t1, it1, [], 0⟩, ⟨t2, it2, ifs, 0⟩] scope pos) 1 it acc env) R s := by
  refine codeAny_of_tree ?_
  show wpAny _ _ ((compStart (.ListComp elt [⟨t1, it1, [], 0⟩, ⟨t2, it2, ifs, 0⟩] scope pos) 1 it acc env).onRaise (fun x => do noteFrame x env; standAt theWindowsPlace)) _ _ s
  refine wpAny_notedAt ?_
  unfold compStart
  show wpAny _ _ (ask >>= _) _ _ s
  refine wpAny_bind (wpAny_askSetting (wpAny_ite ?_))
  split
  · first
      | exact wpAny_bind (wpAny_pure (wpAny_pure (And.intro rfl h0)))
      | exact wpAny_pure (And.intro rfl h0)
  · first
      | exact wpAny_bind (wpAny_rule (wpAny_bind (wpAny_standAt (wpAny_bind (wpAny_mono h (fun it' s' h' => wpAny_pure (And.intro rfl h')) fun _ _ x => x)))))
      | (refine wpAny_bind (wpAny_rule ?_); show wpAny _ _ (standAt it2.pos >>= _) _ _ s; exact wpAny_bind (wpAny_standAt (wpAny_bind (wpAny_mono h (fun it' s' h' => wpAny_pure (And.intro rfl h')) fun _ _ x => x))))
theorem loop2_1 {elt t1 it1 t2 it2 : Expr} {ct : Expr} {scope : Scope} {pos : Pos} {it acc : Value} {env : Env} (I : Nat → Shared → Prop)
    (turn : ∀ n s, I n s → wpAny (model prog w) A (pyNext it) (fun r s₁ => match r with
      | none => R (.ok .next) s₁
      | some v => wpAny (model prog w) A (assign t2 env v) (fun _ s₂ =>
          wpAny (model prog w) A (isTrue ct env (eval ct env)) (fun ok s₃ =>
            if ok = true then wpAny (model prog w) A (eval elt env) (fun x s₄ =>
              wpAny (model prog w) A (call (.builtin "list.append") [acc, x]) (fun _ s₅ => ∃ m, m < n ∧ I m s₅) (notedBy (model prog w) A env fun e s' => R (.error e) s') s₄) (notedBy (model prog w) A env fun e s' => R (.error e) s') s₃
            else ∃ m, m < n ∧ I m s₃) (notedBy (model prog w) A env fun e s' => R (.error e) s') s₂) (notedBy (model prog w) A env fun e s' => R (.error e) s') s₁) (notedBy (model prog w) A env fun e s' => R (.error e) s') s)
    (n : Nat) (h : I n s) (ht : ∀ v, letOwnedTupleGo t2 it v = pure ()) :
    codeAny (model prog w) A (.compLoop (.ListComp elt [⟨t1, it1, [], 0⟩, ⟨t2, it2, [ct], 0⟩] scope pos) 1 it acc env) R s := by
  refine codeAny_loop rfl I (fun n s hI => ?_) n h
  show wpAny _ A ((compTurn (.ListComp elt [⟨t1, it1, [], 0⟩, ⟨t2, it2, [ct], 0⟩] scope pos) 1 it acc env).onRaise (fun x => do noteFrame x env; theTreesLotGoes x)) _ _ s
  refine wpAny_noted ?_
  rw [turn2_1]
  refine wpAny_bind (wpAny_standAt (wpAny_bind (wpAny_mono (turn n s hI) (fun r s₁ h₁ => ?_) fun _ _ h' => h')))
  cases r with
  | none => exact wpAny_pure h₁
  | some v =>
    refine wpAny_bind (wpAny_of_eq (ht v) ?_)
    refine wpAny_bind (wpAny_mono h₁ (fun _ s₂ h₂ => wpAny_bind (wpAny_tests_one (wpAny_mono h₂ (fun ok s₃ h₃ => ?_) fun _ _ h' => h'))) fun _ _ h' => h')
    cases ok with
    | false => exact wpAny_pure ⟨rfl, h₃⟩
    | true =>
      exact wpAny_bind (wpAny_bind (wpAny_mono h₃ (fun x s₄ h₄ => wpAny_bind (wpAny_mono h₄ (fun _ s₅ h₅ => wpAny_pure (wpAny_pure ⟨rfl, h₅⟩)) fun _ _ h' => h')) fun _ _ h' => h'))
theorem loop2_0 {elt t1 it1 t2 it2 : Expr} {ct : Expr} {scope : Scope} {pos : Pos} {it acc : Value} {env : Env} (I : Nat → Shared → Prop)
    (turn : ∀ n s, I n s → wpAny (model prog w) A (pyNext it) (fun r s₁ => match r with
      | none => R (.ok .next) s₁
      | some v => wpAny (model prog w) A (assign t1 env v) (fun _ s₂ =>
          wpAny (model prog w) A (eval it2 env) (fun xv s₃ => wpAny (model prog w) A (pyIter xv) (fun it' s₄ =>
            codeAny (model prog w) A (.compStart (.ListComp elt [⟨t1, it1, [], 0⟩, ⟨t2, it2, [ct], 0⟩] scope pos) 1 it' acc env) (fun r s' => match r with | .ok _ => ∃ m, m < n ∧ I m s' | .error _ => False) s₄) (fun _ _ => False) s₃) (fun _ _ => False) s₂) (fun _ _ => False) s₁) (notedBy (model prog w) A env fun e s' => R (.error e) s') s)
    (n : Nat) (h : I n s) (ht : ∀ v, letOwnedTupleGo t1 it v = pure ()) (hs : ∀ e x, foldedSetIterable it2 e x = pure x) :
    codeAny (model prog w) A (.compLoop (.ListComp elt [⟨t1, it1, [], 0⟩, ⟨t2, it2, [ct], 0⟩] scope pos) 0 it acc env) R s := by
  refine codeAny_loop rfl I (fun n s hI => ?_) n h
  show wpAny _ A ((compTurn (.ListComp elt [⟨t1, it1, [], 0⟩, ⟨t2, it2, [ct], 0⟩] scope pos) 0 it acc env).onRaise (fun x => do noteFrame x env; theTreesLotGoes x)) _ _ s
  refine wpAny_noted ?_
  rw [turn2_0]
  refine wpAny_bind (wpAny_standAt (wpAny_bind (wpAny_mono (turn n s hI) (fun r s₁ h₁ => ?_) fun _ _ h' => h')))
  cases r with
  | none => exact wpAny_pure h₁
  | some v =>
    refine wpAny_bind (wpAny_of_eq (ht v) ?_)
    refine wpAny_bind (wpAny_mono h₁ (fun _ s₂ h₂ => ?_) fun _ _ z => z.elim)
    refine wpAny_bind (wpAny_mono h₂ (fun xv s₃ h₃ => wpAny_bind (wpAny_standAt (wpAny_bind (wpAny_of_eq (hs _ _) (wpAny_bind (wpAny_holding (wpAny_mono h₃ (fun it' s₄ h₄ => ?_) fun _ _ z => z.elim))))))) fun _ _ z => z.elim)
    refine wpAny_bind (wpAny_runOwn (codeAny_mono h₄ fun r s' hr => ?_))
    cases r with
    | ok f => exact wpAny_pure ⟨rfl, hr⟩
    | error e => exact hr.elim
end
end Mine
end
-- PD2
section
set_option maxRecDepth 100000
set_option maxHeartbeats 4000000
open PySem PySem.Calls PySem.W PyProof.Rows
namespace Mine
def Two (h₀ : Heap) (L : Addr) (m : Str → Option Value) (s₂ : Shared) (led : List (Addr × Obj)) (J : Prop) (s' : Shared) : Prop :=
  J ∧ ∃ h' tk', s' = { s₂ with heap := h', toks := tk' } ∧ Fr h₀ L h' m ∧ News h₀ L h' led
def TwoSrc (h₀ : Heap) (L : Addr) (m : Str → Option Value) (s₂ : Shared) (led : List (Addr × Obj)) (n : Nat) (xv : Value) (s' : Shared) : Prop :=
  ∃ r t u v, xv = .ref r ∧ IsRange s'.heap r 0 (n : Nat) 1 t u v ∧ Two h₀ L m s₂ led True s'
theorem Two.intro {h₀ : Heap} {L : Addr} {m : Str → Option Value} {s₂ : Shared} {led : List (Addr × Obj)} {J : Prop} {h' : Heap} {tk' : Nat} (F : Fr h₀ L h' m) (N : News h₀ L h' led) (j : J) : Two h₀ L m s₂ led J { s₂ with heap := h', toks := tk' } := ⟨j, _, _, rfl, F, N⟩
theorem TwoSrc.intro {h₀ : Heap} {L : Addr} {m : Str → Option Value} {s₂ : Shared} {led : List (Addr × Obj)} {n : Nat} {r : Addr} {t u v : Tok} {h' : Heap} {tk' : Nat} (F : Fr h₀ L h' m) (N : News h₀ L h' led) (hr : IsRange h' r 0 (n : Nat) 1 t u v) :
    TwoSrc h₀ L m s₂ led n (.ref r) { s₂ with heap := h', toks := tk' } := ⟨r, t, u, v, rfl, hr, .intro F N trivial⟩
section
variable {prog : Program} {w : World} {A : Around} {E : Value → Shared → Prop} {s : Shared} {h₀ : Heap} {L : Addr} {m : Str → Option Value} {env : Env} {ct elt iter1 iter2 : Expr} {x y : Str} {px py : Pos} {scope : Scope} {cl : List (Str × Addr)} {pos : Pos} {Q : Value → Shared → Prop}
structure Rest2 (prog : Program) (w : World) (A : Around) (h₀ : Heap) (L : Addr) (m : Str → Option Value) (env : Env) (ct elt iter2 : Expr) (x y : Str) (scope : Scope) (cl : List (Str × Addr)) (Q : Value → Shared → Prop) (n : Nat) (f : Nat → Nat) (Inv : Nat → Nat → List Value → Prop) (news : List (Addr × Obj)) (s₂ : Shared) : Prop where
  start : Inv 0 0 []
  len : ∀ i j ys, Inv i j ys → ys.length ≤ 1000
  fits : ∀ i, i < n → f i ≤ 1000
  src : ∀ i ys I oI C oC D m₂ h tk t (E' : Value → Shared → Prop), i < n → Inv i 0 ys → LCg.NsObj oC m₂ → m₂ x = some (.int (i : Nat) t) → Fr h₀ L h m → News h₀ L h ((I, oI) :: (C, oC) :: (D, LCg.lst ys) :: news) →
    wpAny (model prog w) A (eval iter2 (compEnvC scope cl C env)) (TwoSrc h₀ L m { s₂ with heap := h, toks := tk } ((I, oI) :: (C, oC) :: (D, LCg.lst ys) :: news) (f i)) E' { s₂ with heap := h, toks := tk }
  turn : ∀ i j ys I2 oI2 I oI C oC D m₂ h tk t u (E' : Value → Shared → Prop), i < n → j < f i → Inv i j ys → LCg.NsObj oC m₂ → m₂ x = some (.int (i : Nat) t) → m₂ y = some (.int (j : Nat) u) → Fr h₀ L h m → News h₀ L h ((I2, oI2) :: (I, oI) :: (C, oC) :: (D, LCg.lst ys) :: news) →
    wpAny (model prog w) A (isTrue ct (compEnvC scope cl C env) (eval ct (compEnvC scope cl C env))) (fun ok s' => if ok = true then
      wpAny (model prog w) A (eval elt (compEnvC scope cl C env)) (fun v s'' => Two h₀ L m { s₂ with heap := h, toks := tk } ((I2, oI2) :: (I, oI) :: (C, oC) :: (D, LCg.lst ys) :: news) (Inv i (j + 1) (ys ++ [v])) s'') E' s'
      else Two h₀ L m { s₂ with heap := h, toks := tk } ((I2, oI2) :: (I, oI) :: (C, oC) :: (D, LCg.lst ys) :: news) (Inv i (j + 1) ys) s') E' { s₂ with heap := h, toks := tk }
  next : ∀ i ys, i < n → Inv i (f i) ys → Inv (i + 1) 0 ys
  fin : ∀ ys, Inv n 0 ys → LCg.FinE h₀ L m s₂ Q ys news
def Src2 (prog : Program) (w : World) (A : Around) (h₀ : Heap) (L : Addr) (m : Str → Option Value) (env : Env) (ct elt iter2 : Expr) (x y : Str) (scope : Scope) (cl : List (Str × Addr)) (Q : Value → Shared → Prop) (xv : Value) (s₁ : Shared) : Prop :=
  ∃ r t u v news n f Inv, xv = .ref r ∧ A.handled = none ∧ Fr h₀ L s₁.heap m ∧ News h₀ L s₁.heap news ∧ IsRange s₁.heap r 0 (n : Nat) 1 t u v ∧ n ≤ 1000 ∧ ∀ g, Rest2 prog w A h₀ L m env ct elt iter2 x y scope cl Q n f Inv news { s₁ with heap := g }
theorem news_set {h h' : Heap} {a : Addr} {o o' : Obj} {l : List (Addr × Obj)} (N : News h₀ L h ((a, o) :: l)) (n : ∀ p ∈ l, p.1 ≠ a) (k : ∀ b x, b ≠ a → h.get? b = some x → h'.get? b = some x) (e : h'.get? a = some o') : News h₀ L h' ((a, o') :: l) := by
  intro p hp
  rcases List.mem_cons.mp hp with rfl | hp
  · exact ⟨e, (N _ (.head _)).2⟩
  · exact ⟨k _ _ (n p hp) (N p (.tail _ hp)).1, (N p (.tail _ hp)).2⟩
theorem inner2 {s₂ : Shared} {n i : Nat} {f : Nat → Nat} {Inv : Nat → Nat → List Value → Prop} {news : List (Addr × Obj)} {r I C D : Addr} {oI oC : Obj} {m₂ : Str → Option Value} {h : Heap} {tk : Nat} {t t' u v : Tok} {ys : List Value} {R : Result → Shared → Prop}
    (hh : A.handled = none) (hkind : scope.kind = .function) (hy : scope.names.lookup y = some .local) (hxy : x ≠ y)
    (X : Rest2 prog w A h₀ L m env ct elt iter2 x y scope cl Q n f Inv news s₂) (hi : i < n) (hI : Inv i 0 ys) (hC : LCg.NsObj oC m₂) (hm : m₂ x = some (.int (i : Nat) t')) (F : Fr h₀ L h m) (N : News h₀ L h ((I, oI) :: (C, oC) :: (D, LCg.lst ys) :: news))
    (nCI : @Ne Nat C I) (nDI : @Ne Nat D I) (nCD : @Ne Nat C D) (nC : ∀ p ∈ news, p.1 ≠ C) (nD : ∀ p ∈ news, p.1 ≠ D) (hr : IsRange h r 0 (f i : Nat) 1 t u v)
    (hR : ∀ h' tk' ys' oC' m', LCg.NsObj oC' m' → Fr h₀ L h' m → News h₀ L h' ((I, oI) :: (C, oC') :: (D, LCg.lst ys') :: news) → Inv i (f i) ys' → R (.ok .next) { s₂ with heap := h', toks := tk' }) :
    wpAny (model prog w) A (pyIter (.ref r)) (fun it' s₄ => codeAny (model prog w) A (.compStart (.ListComp elt [⟨.Name x px, iter1, [], 0⟩, ⟨.Name y py, iter2, [ct], 0⟩] scope pos) 1 it' (.ref D) (compEnvC scope cl C env)) R s₄) E { s₂ with heap := h, toks := tk } := by
  have hf := X.fits i hi
  refine wpAny_pyIter_range hr (small_one (by decide) (by decide) (by omega) (by omega)) ?_
  have hsz : Builtin.Range.rangeSize 0 (f i : Int) 1 = ((f i - 0 : Nat) : Int) := by rw [rangeSize_one]; split <;> omega
  rw [hsz]
  dsimp only
  obtain ⟨I2, eI2⟩ : ∃ I2, I2 = h.objs.size := ⟨_, rfl⟩
  rw [← eI2]
  have itL : I2 ≠ L := by rw [eI2]; exact Nat.ne_of_gt F.ns.lt
  have itN : h₀.get? I2 = none := by rw [eI2]; exact next_is_new F
  have lI := fun p hp => (eI2 ▸ Nat.ne_of_lt (Heap.lt_size (N p hp).1) : p.1 ≠ I2)
  have NN : News h₀ L (h.push (rgIt 0 (f i))) ((I2, rgIt 0 (f i)) :: (I, oI) :: (C, oC) :: (D, LCg.lst ys) :: news) := by rw [eI2]; exact N.push F _
  have n2C := lI _ (.tail _ (.head _))
  have n2D := lI _ (.tail _ (.tail _ (.head _)))
  have n2n : ∀ p ∈ news, p.1 ≠ I2 := fun p hp => lI p (.tail _ (.tail _ (.tail _ hp)))
  have n2I := lI _ (.head _)
  dsimp only at n2C n2D n2I
  have loop : codeAny (model prog w) A (.compLoop (.ListComp elt [⟨.Name x px, iter1, [], 0⟩, ⟨.Name y py, iter2, [ct], 0⟩] scope pos) 1 (.ref I2) (.ref D) (compEnvC scope cl C env)) R { s₂ with heap := h.push (rgIt 0 (f i)), toks := tk } := by
    refine loop2_1 (fun k s' => ∃ h' tk' j ys' oC' m', s' = { s₂ with heap := h', toks := tk' } ∧ k = f i + 1 - j ∧ j ≤ f i ∧ LCg.NsObj oC' m' ∧ m' x = some (.int (i : Nat) t') ∧ Fr h₀ L h' m ∧ News h₀ L h' ((I2, rgIt j (f i)) :: (I, oI) :: (C, oC') :: (D, LCg.lst ys') :: news) ∧ Inv i j ys') ?_ (f i + 1)
      ⟨_, tk, 0, ys, oC, m₂, rfl, rfl, Nat.zero_le _, hC, hm, F.push _, NN, hI⟩ (fun v => rfl)
    rintro k s' ⟨h', tk', j, ys', oC', m', rfl, rfl, hj, hC', hm', F', N', hI'⟩
    have ho : IsRangeIter h' I2 ((j : Nat) : Int) ((f i - j : Nat) : Int) 1 := (N' _ (.head _)).1
    by_cases hlt : j < f i
    · refine wpAny_pyNext_range_item (s := { s₂ with heap := h', toks := tk' }) ho (by omega) fun h₁ hit₁ hs₁ => ?_
      have hit₂ : h₁.get? I2 = some (rgIt (j + 1) (f i)) := by
        have e1 : (((j : Nat) : Int) + 1) = ((j + 1 : Nat) : Int) := by omega
        have e2 : (((f i - j : Nat) : Int) - 1) = ((f i - (j + 1) : Nat) : Int) := by omega
        rw [e1, e2] at hit₁
        exact hit₁
      have F₁ := F'.change hs₁ itL itN
      have N₁ := news_set N' (fun p hp => by
        rcases List.mem_cons.mp hp with rfl | hp
        · exact n2I
        rcases List.mem_cons.mp hp with rfl | hp
        · exact n2C
        rcases List.mem_cons.mp hp with rfl | hp
        · exact n2D
        exact n2n p hp) (fun b x n e => hs₁.extBut b x n e) hit₂
      have zC := N₁ (C, oC') (.tail _ (.tail _ (.head _)))
      refine wpAny_assign_Name (wpAny_storeName_local (lookup_relabel_local hy) (hC'.ns zC.1) (fun h₂ hn₂ hs₂ => ?_) (by simp [compEnvC, relabel, hkind]))
      obtain ⟨oC2, e2, hC2⟩ := LCg.ns_obj hn₂
      replace hs₂ : Heap.SameBut C h₁ h₂ := hs₂
      replace e2 : h₂.get? C = some oC2 := e2
      have F₂ := F₁.change hs₂ zC.2.1 zC.2.2
      have N₂ : News h₀ L h₂ ((I2, rgIt (j + 1) (f i)) :: (I, oI) :: (C, oC2) :: (D, LCg.lst ys') :: news) := by
        intro p hp
        rcases List.mem_cons.mp hp with rfl | hp
        · have q := N₁ _ (.head _)
          exact ⟨hs₂.extBut _ _ (Ne.symm n2C) q.1, q.2⟩
        rcases List.mem_cons.mp hp with rfl | hp
        · have q := N₁ _ (.tail _ (.head _))
          exact ⟨hs₂.extBut _ _ (Ne.symm nCI) q.1, q.2⟩
        rcases List.mem_cons.mp hp with rfl | hp
        · exact ⟨e2, zC.2⟩
        rcases List.mem_cons.mp hp with rfl | hp
        · have q := N₁ _ (.tail _ (.tail _ (.tail _ (.head _))))
          exact ⟨hs₂.extBut _ _ (Ne.symm nCD) q.1, q.2⟩
        have q := N₁ _ (.tail _ (.tail _ (.tail _ (.tail _ hp))))
        exact ⟨hs₂.extBut _ _ (nC p hp) q.1, q.2⟩
      refine wpAny_mono (X.turn i j ys' I2 _ I oI C oC2 D _ h₂ _ t' _ _ hi hlt hI' hC2 (by simp [hxy, hm']) (by simp; rfl) F₂ N₂) (fun ok s₃ h₃ => ?_) fun _ _ e => e
      cases ok with
      | true =>
        rw [if_pos rfl] at h₃ ⊢
        refine wpAny_mono h₃ (fun yv s₄ h₄ => ?_) fun _ _ e => e
        obtain ⟨hI4, h4, tk4, rfl, F4, N4⟩ := h₄
        have zD := N4 _ (.tail _ (.tail _ (.tail _ (.head _))))
        refine append_at (its := ys'.toArray) (hsz := by rw [List.size_toArray]; have := X.len _ _ _ hI'; unfold sizeLine; omega) zD.1 fun h₅ hs₅ hD₅ => ?_
        refine ⟨f i + 1 - (j + 1), by omega, h₅, tk4, j + 1, ys' ++ [yv], oC2, _, rfl, rfl, hlt, hC2, (by simp [hxy, hm']), F4.change hs₅ zD.2.1 zD.2.2, ?_, hI4⟩
        intro p hp
        rcases List.mem_cons.mp hp with rfl | hp
        · have q := N4 _ (.head _)
          exact ⟨hs₅.extBut _ _ (Ne.symm n2D) q.1, q.2⟩
        rcases List.mem_cons.mp hp with rfl | hp
        · have q := N4 _ (.tail _ (.head _))
          exact ⟨hs₅.extBut _ _ (Ne.symm nDI) q.1, q.2⟩
        rcases List.mem_cons.mp hp with rfl | hp
        · have q := N4 _ (.tail _ (.tail _ (.head _)))
          exact ⟨hs₅.extBut _ _ nCD q.1, q.2⟩
        rcases List.mem_cons.mp hp with rfl | hp
        · exact ⟨hD₅.trans (congrArg some (LCg.lst_snoc ys' yv)), zD.2⟩
        have q := N4 _ (.tail _ (.tail _ (.tail _ (.tail _ hp))))
        exact ⟨hs₅.extBut _ _ (nD p hp) q.1, q.2⟩
      | false =>
        rw [if_neg Bool.false_ne_true] at h₃ ⊢
        obtain ⟨hI4, h4, tk4, rfl, F4, N4⟩ := h₃
        exact ⟨f i + 1 - (j + 1), by omega, h4, tk4, j + 1, ys', oC2, _, rfl, rfl, hlt, hC2, (by simp [hxy, hm']), F4, N4, hI4⟩
    · have hin : j = f i := by omega
      subst hin
      refine wpAny_pyNext_range_end (s := { s₂ with heap := h', toks := tk' }) hh ho (by omega) fun h'' hx => ?_
      refine hR h'' tk' ys' oC' m' hC' (fr_but F' itL itN fun b o hb e => hx b o hb e) (fun p hp => ?_) hI'
      have q := N' p (.tail _ hp)
      refine ⟨hx _ _ ?_ q.1, q.2⟩
      rcases List.mem_cons.mp hp with rfl | hp
      · exact n2I
      rcases List.mem_cons.mp hp with rfl | hp
      · exact n2C
      rcases List.mem_cons.mp hp with rfl | hp
      · exact n2D
      exact n2n p hp
  refine start2 loop ((LCg.range_walks hh 0 (f i)).self 0 _ _ _ ?_ loop)
  have e1 : (0 : Int) + ((0 : Nat) : Int) * 1 = ((0 : Nat) : Int) := by omega
  have e2 : ((f i : Nat) : Int) - ((0 : Nat) : Int) = ((f i - 0 : Nat) : Int) := by omega
  show IsRangeIter _ I2 ((0 : Int) + ((0 : Nat) : Int) * 1) (((f i : Nat) : Int) - ((0 : Nat) : Int)) 1
  rw [e1, e2]
  exact (NN _ (.head _)).1
end
end Mine
end
-- PD3
section
set_option maxRecDepth 100000
set_option maxHeartbeats 4000000
open PySem PySem.Calls PySem.W PyProof.Rows
namespace Mine
section
variable {prog : Program} {w : World} {A : Around} {E : Value → Shared → Prop} {s : Shared} {h₀ : Heap} {L : Addr} {m : Str → Option Value} {env : Env} {ct elt iter1 iter2 : Expr} {x y : Str} {px py : Pos} {scope : Scope} {cl : List (Str × Addr)} {pos : Pos} {Q : Value → Shared → Prop}
theorem ListComp_2 (F₀ : Fr h₀ L s.heap m) (hclos : closureFor scope env = pure cl) (hcell : ∀ y ∈ scope.names, y.2 ≠ .cell) (hkind : scope.kind = .function)
    (hnames : ∀ y ∈ scope.names, y.2 = .local → scope.names.lookup y.1 = some .local) (hx : scope.names.lookup x = some .local) (hy : scope.names.lookup y = some .local) (hxy : x ≠ y)
    (h : wpAny (model prog w) A (eval iter1 env) (Src2 prog w A h₀ L m env ct elt iter2 x y scope cl Q) E s)
    (hs : ∀ x, foldedSetIterable iter1 env x = pure x) (hs2 : ∀ e x, foldedSetIterable iter2 e x = pure x) :
    wpAny (model prog w) A (eval (.ListComp elt [⟨.Name x px, iter1, [], 0⟩, ⟨.Name y py, iter2, [ct], 0⟩] scope pos) env) Q E s := by
  rw [eval_ListComp]
  refine wpAny_comprehension_free (use := none) rfl hs hclos hkind hnames (wpAny_mono h (fun xv s₁ h₁ => ?_) fun _ _ e => e)
  obtain ⟨r, t, u, v, news, n, f, Inv, rfl, hh, F, N, hr, hn, X⟩ := h₁
  refine wpAny_pyIter_range hr (small_one (by decide) (by decide) (by omega) (by omega)) ?_
  have hsz : Builtin.Range.rangeSize 0 (n : Int) 1 = ((n - 0 : Nat) : Int) := by rw [rangeSize_one]; split <;> omega
  rw [hsz]
  obtain ⟨I, eI⟩ : ∃ I, I = s₁.heap.objs.size := ⟨_, rfl⟩
  rw [← eI]
  have itL : I ≠ L := by rw [eI]; exact Nat.ne_of_gt F.ns.lt
  have itN : h₀.get? I = none := by rw [eI]; exact next_is_new F
  have lI : ∀ p ∈ news, p.1 ≠ I := fun p hp => (eI ▸ Nat.ne_of_lt (Heap.lt_size (N p hp).1) : p.1 ≠ I)
  have NN : News h₀ L (s₁.heap.push (rgIt 0 n)) ((I, rgIt 0 n) :: news) := by rw [eI]; exact N.push F _
  have FN : Fr h₀ L (s₁.heap.push (rgIt 0 n)) m := F.push _
  generalize hH1 : s₁.heap.push (rgIt 0 n) = H1 at NN FN
  obtain ⟨D, eD⟩ : ∃ D, D = H1.objs.size := ⟨_, rfl⟩
  refine wpAny_newObj_type (s := { s₁ with heap := H1 }) (wpAny_newFunctionEnv hcell (by intro y hy; simp at hy) (fun h₁ hns₁ hsb₁ => ?_) hkind)
  dsimp only at hns₁ hsb₁ ⊢
  rw [← eD]
  have FD : Fr h₀ L (H1.push (LCg.lst [])) m := FN.push _
  have ND : News h₀ L (H1.push (LCg.lst [])) ((D, LCg.lst []) :: (I, rgIt 0 n) :: news) := by rw [eD]; exact NN.push FN _
  have lD : ∀ p ∈ (I, rgIt 0 n) :: news, p.1 ≠ D := fun p hp => (eD ▸ Nat.ne_of_lt (Heap.lt_size (NN p hp).1) : p.1 ≠ D)
  generalize hH2 : H1.push (LCg.lst []) = H2 at FD ND hns₁ hsb₁ ⊢
  obtain ⟨C, eC⟩ : ∃ C, C = H2.objs.size := ⟨_, rfl⟩
  rw [← eC] at hns₁ hsb₁ ⊢
  have lC : ∀ p ∈ (D, LCg.lst []) :: (I, rgIt 0 n) :: news, p.1 ≠ C := fun p hp => (eC ▸ Nat.ne_of_lt (Heap.lt_size (ND p hp).1) : p.1 ≠ C)
  have CL : C ≠ L := by rw [eC]; exact Nat.ne_of_gt FD.ns.lt
  have CN : h₀.get? C = none := by rw [eC]; exact next_is_new FD
  have up : ∀ b o, H2.get? b = some o → h₁.get? b = some o := fun b o e => hsb₁.extBut b o (eC ▸ Nat.ne_of_lt (Heap.lt_size e)) (Heap.get?_push_of_some _ e)
  obtain ⟨oC, eoC, hoC⟩ := LCg.ns_obj hns₁
  have nDI : @Ne Nat D I := Ne.symm (lD _ (.head _))
  have nCD : @Ne Nat C D := Ne.symm (lC _ (.head _))
  have nCI : @Ne Nat C I := Ne.symm (lC _ (.tail _ (.head _)))
  have nD : ∀ p ∈ news, p.1 ≠ D := fun p hp => lD p (.tail _ hp)
  have nC : ∀ p ∈ news, p.1 ≠ C := fun p hp => lC p (.tail _ (.tail _ hp))
  have N1 : News h₀ L h₁ ((I, rgIt 0 n) :: (C, oC) :: (D, LCg.lst []) :: news) := by
    intro p hp
    rcases List.mem_cons.mp hp with rfl | hp
    · have q := ND _ (.tail _ (.head _))
      exact ⟨up _ _ q.1, q.2⟩
    rcases List.mem_cons.mp hp with rfl | hp
    · exact ⟨eoC, CL, CN⟩
    rcases List.mem_cons.mp hp with rfl | hp
    · have q := ND _ (.head _)
      exact ⟨up _ _ q.1, q.2⟩
    have q := ND _ (.tail _ (.tail _ hp))
    exact ⟨up _ _ q.1, q.2⟩
  have F1 : Fr h₀ L h₁ m := FD.keeps up
  replace X := X H1
  have loop : ∀ tk, codeAny (model prog w) A (.compLoop (.ListComp elt [⟨.Name x px, iter1, [], 0⟩, ⟨.Name y py, iter2, [ct], 0⟩] scope pos) 0 (.ref I) (.ref D) (compEnvC scope cl C env)) (compPost (model prog w) A E none Q (.ref D) C) { s₁ with heap := h₁, toks := tk } := by
    intro tk
    refine loop2_0 (fun k s' => ∃ h' tk' i ys' oC' m', s' = { s₁ with heap := h', toks := tk' } ∧ k = n + 1 - i ∧ i ≤ n ∧ LCg.NsObj oC' m' ∧ Fr h₀ L h' m ∧ News h₀ L h' ((I, rgIt i n) :: (C, oC') :: (D, LCg.lst ys') :: news) ∧ Inv i 0 ys') ?_ (n + 1)
      ⟨h₁, tk, 0, [], oC, _, rfl, rfl, Nat.zero_le _, hoC, F1, N1, X.start⟩ (fun v => rfl) hs2
    rintro k s' ⟨h', tk', i, ys', oC', m', rfl, rfl, hi, hC', F', N', hI'⟩
    have ho : IsRangeIter h' I ((i : Nat) : Int) ((n - i : Nat) : Int) 1 := (N' _ (.head _)).1
    by_cases hlt : i < n
    · refine wpAny_pyNext_range_item (s := { s₁ with heap := h', toks := tk' }) ho (by omega) fun h₁ hit₁ hs₁ => ?_
      have hit₂ : h₁.get? I = some (rgIt (i + 1) n) := by
        have e1 : (((i : Nat) : Int) + 1) = ((i + 1 : Nat) : Int) := by omega
        have e2 : (((n - i : Nat) : Int) - 1) = ((n - (i + 1) : Nat) : Int) := by omega
        rw [e1, e2] at hit₁
        exact hit₁
      have F₁ := F'.change hs₁ itL itN
      have N₁ := news_set N' (fun p hp => by
        rcases List.mem_cons.mp hp with rfl | hp
        · exact nCI
        rcases List.mem_cons.mp hp with rfl | hp
        · exact nDI
        exact lI p hp) (fun b x n e => hs₁.extBut b x n e) hit₂
      have zC := N₁ (C, oC') (.tail _ (.head _))
      refine wpAny_assign_Name (wpAny_storeName_local (lookup_relabel_local hx) (hC'.ns zC.1) (fun h₂ hn₂ hs₂ => ?_) (by simp [compEnvC, relabel, hkind]))
      obtain ⟨oC2, e2, hC2⟩ := LCg.ns_obj hn₂
      replace hs₂ : Heap.SameBut C h₁ h₂ := hs₂
      replace e2 : h₂.get? C = some oC2 := e2
      have F₂ := F₁.change hs₂ zC.2.1 zC.2.2
      have N₂ : News h₀ L h₂ ((I, rgIt (i + 1) n) :: (C, oC2) :: (D, LCg.lst ys') :: news) := by
        intro p hp
        rcases List.mem_cons.mp hp with rfl | hp
        · have q := N₁ _ (.head _)
          exact ⟨hs₂.extBut _ _ (Ne.symm nCI) q.1, q.2⟩
        rcases List.mem_cons.mp hp with rfl | hp
        · exact ⟨e2, zC.2⟩
        rcases List.mem_cons.mp hp with rfl | hp
        · have q := N₁ _ (.tail _ (.tail _ (.head _)))
          exact ⟨hs₂.extBut _ _ (Ne.symm nCD) q.1, q.2⟩
        have q := N₁ _ (.tail _ (.tail _ (.tail _ hp)))
        exact ⟨hs₂.extBut _ _ (nC p hp) q.1, q.2⟩
      refine wpAny_mono (X.src i ys' I _ C oC2 D _ h₂ _ _ _ hlt hI' hC2 (by simp; rfl) F₂ N₂) (fun xv s₃ h₃ => ?_) fun _ _ e => e
      obtain ⟨r2, t2, u2, v2, rfl, hr2, _, h3, tk3, rfl, F3, N3⟩ := h₃
      refine inner2 (s₂ := { s₁ with heap := H1 }) hh hkind hy hxy X hlt hI' hC2 (by simp; rfl) F3 N3 nCI nDI nCD nC nD hr2 fun h'' tk'' ys'' oC'' m'' hC'' F'' N'' hI'' => ?_
      exact ⟨n + 1 - (i + 1), by omega, h'', tk'', i + 1, ys'', oC'', m'', rfl, rfl, hlt, hC'', F'', N'', X.next i ys'' hlt hI''⟩
    · have hin : i = n := by omega
      subst hin
      refine wpAny_pyNext_range_end (s := { s₁ with heap := h', toks := tk' }) hh ho (by omega) fun h'' hx => ?_
      have F'' := fr_but F' itL itN fun b o hb e => hx b o hb e
      have N'' : News h₀ L h'' ((C, oC') :: (D, LCg.lst ys') :: news) := fun p hp => by
        have q := N' p (.tail _ hp)
        refine ⟨hx _ _ ?_ q.1, q.2⟩
        rcases List.mem_cons.mp hp with rfl | hp
        · exact nCI
        rcases List.mem_cons.mp hp with rfl | hp
        · exact nDI
        exact lI p hp
      refine ⟨m', hC'.ns (N'' _ (.head _)).1, fun h3 hs3 => ?_⟩
      have zC := (N'' _ (.head _)).2
      refine X.fin ys' hI' D h3 tk' (F''.change hs3 zC.1 zC.2) (fun p hp => ?_) (LCg.Off3.one (I := D) (C := D) (LCg.Off3.of fun p hp => ⟨nD p hp, nD p hp, nD p hp⟩))
      have q := N'' p (.tail _ hp)
      refine ⟨hs3.extBut _ _ ?_ q.1, q.2⟩
      rcases List.mem_cons.mp hp with rfl | hp
      · exact Ne.symm nCD
      · exact nC p hp
  refine codeAny_compStart_list (loop _) ((LCg.range_walks hh 0 n).self 0 _ _ _ ?_ (loop _))
  have e1 : (0 : Int) + ((0 : Nat) : Int) * 1 = ((0 : Nat) : Int) := by omega
  have e2 : ((n : Nat) : Int) - ((0 : Nat) : Int) = ((n - 0 : Nat) : Int) := by omega
  show IsRangeIter _ I ((0 : Int) + ((0 : Nat) : Int) * 1) (((n : Nat) : Int) - ((0 : Nat) : Int)) 1
  rw [e1, e2]
  exact (N1 _ (.head _)).1
end
end Mine
end
-- KQ
section
open PySem PySem.W PyProof.Rows Mine
local macro_rules | `(tactic| k_all) => `(tactic| assumption)
local macro_rules | `(tactic| cell_enter) => `(tactic| (refine' code_defC ?k1 ?k2 ?k3 ?k4 ?k5 ?kA ?kF ?kK ?k6 ?k7 ?k8 ?k9 ?kB ?kD ?_ ?c2 ?c3 ?c4; (case kA => exact rfl); (case kF => exact rfl); (case kK => assumption); (case k1 => k_asm); (case k2 => k_asm); (case k3 => k_asm); (case k4 => k_asm); (case k5 => k_asm); (case k6 => k_is); (case k7 => k_is); (case k8 => ktr_room); (case k9 => exact BindsTo.of_eq rfl); (case kB => exact rfl); (case kD => decide +kernel); (case c2 => exact rfl); (case c3 => exact rfl); (case c4 => exact rfl); k_whole; intro g' L' h' tk' cells' FG' F' N' Y' B' X' T' l1; (try k_lt l1); k_cells Y'; (try simp only [List.cons_append, List.nil_append] at N'); (try dsimp only); (try k_lift B'); (try k_fold)))
local macro_rules | `(tactic| walk_at "eval ListComp") => `(tactic| (k_here; k_dflt (refine Mine.ListComp_2 (F₀ := by k_asm) (by with_unfolding_all rfl) (by decide) (by rfl) (by decide) (by rfl) (by rfl) (by decide) ?_ (by intro _; rfl) (by intro _ _; rfl))))
local macro_rules | `(tactic| walk_at "call ref") => `(tactic| (k_here; (with_reducible show wpAny _ _ (call (Value.ref 295) _ _) _ _ _); k_dflt (refine' heights_spec _ _ _ _ (by assumption) _ _ _ _ _ _ _ _ _ _ _ _ _ _ _ _ _ _ _ _ _ _ ?k1 ?k2 ?k3 ?k4 ?k5 ?kK ?kd ?ku ?_; (case k1 => k_asm); (case k2 => k_asm); (case k3 => k_asm); (case k4 => k_asm); (case k5 => k_asm); (case kK => exact rfl); (case kd => ktr_room); (case ku => ktr_units); intro hr9 hres9 h9 tk9 hi9 F9 N9 hn9; have q9 : @Ne Nat _ _ := Ne.symm (hn9 _ (.head _)); (try dsimp only at q9); (try dsimp only))))
theorem heights_len (bs : List Bool) : ∀ i, (heightsUpto bs i).length ≤ i
  | 0 => Nat.le_refl _
  | i + 1 => by
    have := heights_len bs i
    unfold heightsUpto
    rw [List.length_append]
    split <;> simp <;> omega
def pairOk (hs : List Int) (i j : Nat) : Bool := let d := hs.getD i 0 - hs.getD j 0; d == 0 || d == 1
theorem pair_any (hs : List Int) (i j : Nat) : (([0, 1] : List Int).any fun x => x == hs.getD ((i : Nat) : Int).toNat 0 - hs.getD ((j : Nat) : Int).toNat 0) = pairOk hs i j := by
  simp only [List.any_cons, List.any_nil, Bool.or_false, Int.toNat_natCast, pairOk]
  rw [Bool.eq_iff_iff]
  simp only [Bool.or_eq_true, beq_iff_eq]
  omega
def cntIn (hs : List Int) (j : Nat) : Nat → Nat
  | 0 => 0
  | i + 1 => cntIn hs j i + (if pairOk hs i j then 1 else 0)
def cntTo (hs : List Int) : Nat → Nat
  | 0 => 0
  | j + 1 => cntTo hs j + cntIn hs j j
def pairsF (bs : List Bool) : Nat := cntTo (heightsF bs) (heightsF bs).length
set_option maxRecDepth 100000 in
set_option maxHeartbeats 2000000 in
theorem pairs_spec (w : World) (bs : List Bool) (t : Tok) (led : List (Addr × Obj)) (h8 : bs.length ≤ 8) :
    DefSpec w 300 40 [.str (wordS bs) t] led fun h₀ L m s Q =>
      ∀ t h' tk', Fr h₀ L h' m → News h₀ L h' led → Q (.int (pairsF bs : Nat) t) { s with heap := h', toks := tk' } := by
  unfold DefSpec Ctxt
  k_fill
  intro p loose mean mg mb dp un gd cn cs ca ccd cl outer A₀ base h₀ L m s Q E hB hF hX hN hT1 hcs hdp hun hQ
  refine wpAny_call ?_
  cell_enter
  rename ∀ p ∈ led, p.1 < _ => l1
  have nC := fun p hp => (Nat.ne_of_lt (Nat.lt_succ_of_lt (l1 p hp)) : p.1 ≠ _ + 1)
  have hl8 : (heightsF bs).length ≤ 8 := Nat.le_trans (heights_len bs _) h8
  k_steps
  rename_i g' L' hh1 FG B' X' T' o1 d1 hr hres hh2 tk2 hi hn q9 hh3 oc F1 N1 dc hh4 tk4 t1 u1 v1 hrg F2 N2 hk4
  have hp : pairsF bs = cntTo (heightsF bs) (heightsF bs).length := rfl
  generalize heightsF bs = hs at *
  obtain ⟨l0, el, kN⟩ := newsX N2
  refine ⟨_, _, _, _, l0, hs.length, fun j => j, fun j i ys => ys.length = cntTo hs j + cntIn hs j i ∧ ys.length ≤ 8 * j + i ∧ j ≤ 8 ∧ i ≤ 8, rfl, rfl, F2, kN, hrg, by omega, fun g => { start := ⟨rfl, Nat.zero_le _, Nat.zero_le _, Nat.zero_le _⟩, len := ?_, fits := ?_, src := ?_, turn := ?_, next := ?_, fin := ?_ }⟩
  · rintro i j ys ⟨_, h1, h2, h3⟩
    omega
  · intro i hi
    omega
  · rintro i ys I oI C oC D m₂ h tk t E' hi' ⟨c1, c2, c3, c4⟩ hC hm F N
    clear F1 N1 F2 N2 kN
    subst el
    k_steps
    exact TwoSrc.intro (by k_asm) (by k_asm) (by assumption)
  · rintro j i ys I2 oI2 I oI C oC D m₂ h tk t u E' hj' hi' ⟨c1, c2, c3, c4⟩ hC hmj hmi F N
    clear F1 N1 F2 N2 kN
    subst el
    k_steps
    · rename Fr _ _ _ _ => kF3
      rename News _ _ _ _ => kN3
      rename List.any _ _ = true => e1
      rw [pair_any] at e1
      refine Two.intro kF3 (news_sub kN3 fun q hq => .tail _ hq) ⟨?_, ?_, by omega, by omega⟩
      · rw [List.length_append, c1]
        show _ = cntTo hs j + (cntIn hs j i + _)
        rw [if_pos e1]
        rfl
      · rw [List.length_append]
        show ys.length + 1 ≤ _
        omega
    · rename Fr _ _ _ _ => kF3
      rename News _ _ _ _ => kN3
      rename List.any _ _ = false => e1
      rw [pair_any] at e1
      refine Two.intro kF3 (news_sub kN3 fun q hq => .tail _ hq) ⟨?_, by omega, by omega, by omega⟩
      rw [c1]
      show _ = cntTo hs j + (cntIn hs j i + _)
      rw [if_neg (by rw [e1]; exact Bool.false_ne_true)]
      rfl
  · rintro j ys hj ⟨c1, c2, c3, c4⟩
    refine ⟨by rw [c1]; rfl, by omega, by omega, by omega⟩
  · rintro ys ⟨c1, c2, c3, c4⟩
    clear F1 N1 F2 N2 kN
    subst el
    k_steps
    rename Fr _ _ _ _ => kF3
    rename News _ _ _ _ => kN3
    refine Calls.call_len_list (items := ys.toArray) (News.isList kN3 (.head _)) (by rw [List.size_toArray]; omega) ?_
    rw [List.size_toArray, c1]
    k_steps
    have e : cntTo hs hs.length + cntIn hs hs.length 0 = pairsF bs := by rw [hp]; rfl
    rw [e]
    rename Fr h₀ L _ _ => kF4
    rename News h₀ L _ _ => kN4
    exact hQ _ _ _ kF4 (news_sub kN4 fun q hq => .tail _ (.tail _ (.tail _ hq)))
end
-- KP1
section
open PySem PySem.W PyProof.Rows Mine
local macro_rules | `(tactic| walk_at "idle") => `(tactic| fail)
local macro_rules | `(tactic| k_all) => `(tactic| assumption)
local macro_rules | `(tactic| walk_at "getMethod ref") => `(tactic| (k_here; k_dflt (refine' Mine.method_pile ?k1 ?k2 ?k3 ?k4 ?k5 ?k6 ?k7 ?k8 ?k9 ?ka ?kb ?_; (case k1 => k_asm); (case k2 => k_asm); (case k3 => k_asm); (case k4 => k_mem); (case k5 => k_mem); (case k6 => k_is); (case k7 => k_is); (case k8 => k_is); (case k9 => k_is); (case ka => decide); (case kb => k_get); k_whole)))
local macro_rules | `(tactic| walk_at "call builtin:list.append") => `(tactic| (k_here; (with_reducible show wpAny _ _ (call (Value.builtin _) [Value.ref _, _]) _ _ _); k_dflt (refine' Mine.append_pile ?k1 ?k2 ?k3 ?k4 ?k5 ?k6 ?k7 ?_; (case k1 => k_asm); (case k2 => k_asm); (case k3 => k_asm); (case k4 => k_mem); (case k5 => k_is); (case k6 => k_upd); (case k7 => (simp only [List.size_toArray]; unfold sizeLine; omega)); k_whole); intro h' F' N'))
set_option maxRecDepth 100000 in
set_option maxHeartbeats 2000000 in
theorem push_spec (w : World) (pa da : Addr) (its : List Value) (n k : Nat) (x y : Str) (t u t1 t2 : Tok) (led : List (Addr × Obj)) (hl : ∀ p ∈ led, p.1 ≠ pa) (hn : @Ne Nat pa da) (hs : its.length < 100) :
    DefSpec w 197 5 [.ref pa, .str x t, .str y u] ((pa, pileO da its.toArray n) :: (da, initD w t1 t2 k) :: led) fun h₀ L m s Q =>
      ∀ b h' tk', Fr h₀ L h' m → News h₀ L h' ((pa, pileO da (its.toArray.push (.ref b)) (n + 1)) :: (b, tupO [.str x t, .str y u] 0) :: (da, initD w t1 t2 k) :: led) → (∀ p ∈ led, p.1 ≠ b) → @Ne Nat b pa → @Ne Nat b da → Q .none { s with heap := h', toks := tk' } := by
  unfold DefSpec Ctxt
  k_fill
  intro p loose mean mg mb dp un gd cn cs a ccd cl outer A₀ base h₀ L m s Q E hB hF hX hN hT hcs hdp hun hQ
  refine wpAny_call ?_
  cell_enter
  k_steps
  rename Fr _ _ _ _ => kF
  rename News _ _ _ _ => kN
  rename _ ∧ _ ∧ AllLt _ _ => l1
  refine hQ _ _ _ kF (news_swap kN) (allLt_ne l1.2.2) (Nat.ne_of_gt l1.1) (Nat.ne_of_gt l1.2.1)
end
-- KS
section
open PySem PySem.W PyProof.Rows Mine
local macro_rules | `(tactic| k_all) => `(tactic| assumption)
local macro_rules | `(tactic| k_ne) => `(tactic| (refine neN ?_; (try dsimp only); first | with_reducible assumption | exact Ne.symm (by with_reducible assumption) | omega))
local macro_rules | `(tactic| k_inst) => `(tactic| (refine' Mine.pile_inst ?N ?h1 ?h2; (case N => k_asm); (case h1 => k_mem); (case h2 => k_mem)))
local macro_rules | `(tactic| walk_at "getMethod ref") => `(tactic| (k_here; k_dflt (refine' Mine.method_pile ?k1 ?k2 ?k3 ?k4 ?k5 ?k6 ?k7 ?k8 ?k9 ?ka ?kb ?_; (case k1 => k_asm); (case k2 => k_asm); (case k3 => k_asm); (case k4 => k_mem); (case k5 => k_mem); (case k6 => k_is); (case k7 => k_is); (case k8 => k_is); (case k9 => k_is); (case ka => decide); (case kb => k_get); k_whole)))
local macro_rules | `(tactic| walk_at "call ref") => `(tactic| (k_here; (with_reducible show wpAny _ _ (call (Value.ref 253) _ _) _ _ _); k_dflt (refine' make_spec _ _ _ _ _ _ _ _ _ _ _ _ _ _ _ _ _ _ _ _ _ _ _ _ ?k1 ?k2 ?k3 ?k4 ?k5 ?kK ?kd ?ku ?_; (case k1 => k_asm); (case k2 => k_asm); (case k3 => k_asm); (case k4 => k_asm); (case k5 => k_asm); (case kK => exact rfl); (case kd => ktr_room); (case ku => ktr_units); intro x9 dx9 t19 t29 k9 h9 tk9 F9 N9 l19 l29; (try k_lt l19); (try k_lt2 l29); (try dsimp only); (try k_sweep))))
local macro_rules | `(tactic| walk_at "exec For Name Name cons nil") => `(tactic| (k_here; k_dflt (refine for_own ?_ (by intro _; rfl) (by with_unfolding_all passes_own))))
local macro_rules | `(tactic| walk_at "call builtin:list.append") => `(tactic| (k_here; (with_reducible show wpAny _ _ (call (Value.builtin _) [Value.ref _, _]) _ _ _); k_dflt (refine' append_K ?k1 ?k2 ?k3 ?_ ?z; (case k1 => k_asm); (case k2 => k_asm); (case k3 => k_upd); (case z => (simp only [List.size_toArray, Array.size_push]; unfold sizeLine; omega)); k_whole); intro h' F' N'; (try k_sweep)))
local macro_rules | `(tactic| walk_at "call builtin:len") => `(tactic| (k_here; (with_reducible show wpAny _ _ (call (Value.builtin "len") [Value.str (wordS _) _]) _ _ _); k_dflt (refine' Mine.len_word ?k1 ?_; (case k1 => assumption))))
local macro_rules | `(tactic| walk_at "eval ListComp") => `(tactic| (k_here; k_dflt (refine LCg.ListComp_U (F₀ := by k_asm) (by with_unfolding_all rfl) (by decide) (by rfl) (by decide) (by rfl) ?_)))
local macro_rules | `(tactic| walk_at "CompSrc") => `(tactic| (k_here; k_dflt (refine LCg.CompSrc.range (by rfl) (by k_asm) (by k_asm) (by assumption) (by assumption) (by assumption) (by unfold sizeLine; omega) ?_); intro g'))
local macro_rules | `(tactic| walk_at "call builtin:str.join") => `(tactic| (k_here; (with_reducible show wpAny _ _ (call (Value.builtin "str.join") [Value.str _ _, Value.ref _]) _ _ _); k_dflt (refine' Mine.call_joinS ?k1 ?k2 ?k3 ?k4 ?_; (case k1 => k_asm); (case k2 => k_mem); (case k3 => assumption); (case k4 => first | exact Mine.getF_fits (by assumption) | exact Mine.pieces_fits (by assumption) (by assumption))); intro t9' k9'))
local macro_rules | `(tactic| cell_enter) => `(tactic| (refine' code_defC ?k1 ?k2 ?k3 ?k4 ?k5 ?kA ?kF ?kK ?k6 ?k7 ?k8 ?k9 ?kB ?kD ?_ ?c2 ?c3 ?c4; (case kA => exact rfl); (case kF => exact rfl); (case kK => assumption); (case k1 => k_asm); (case k2 => k_asm); (case k3 => k_asm); (case k4 => k_asm); (case k5 => k_asm); (case k6 => k_is); (case k7 => k_is); (case k8 => ktr_room); (case k9 => exact BindsTo.of_eq rfl); (case kB => exact rfl); (case kD => decide +kernel); (case c2 => exact rfl); (case c3 => exact rfl); (case c4 => exact rfl); k_whole; intro g' L' h' tk' cells' FG' F' N' Y' B' X' T' l1; (try k_lt l1); k_cells Y'; (try simp only [List.cons_append, List.nil_append] at N'); (try dsimp only); (try k_lift B'); (try k_fold)))
set_option maxRecDepth 100000 in
set_option maxHeartbeats 2000000 in
theorem sent_spec (w : World) (bs : List Bool) (t : Tok) (ps : Array Value) (led : List (Addr × Obj)) (hl : ∀ p ∈ led, p.1 ≠ 215) (ht : TabOk posLen ps) (h8 : bs.length ≤ 8) (hbal : Bal bs) :
    DefSpec w 290 60 [.str (wordS bs) t] ((215, tabObj ps) :: led) fun h₀ L m s Q =>
      ∀ t h' tk' gs' ps', TabOk posLen ps' → (AllBare s.gens → AllBare gs') → Fr h₀ L h' m → News h₀ L h' ((215, tabObj ps') :: led) → Q (.str (sentS bs) t) { s with heap := h', gens := gs', toks := tk' } := by
  unfold DefSpec Ctxt
  k_fill
  intro p loose mean mg mb dp un gd cn cs a ccd cl outer A₀ base h₀ L m s Q E hB hF hX hN hT1 hcs hdp hun hQ
  refine wpAny_call ?_
  cell_enter
  k_steps
  rename_i g' L' h0' tk0 FG B' X' T' lA oc hoc pa da t1 t2 kk h1 tk1 lB lC h2 lp h3 lD h4 _ _
  rename Fr _ _ _ _ => kF
  rename News _ _ _ _ => kN
  have kM := news_sub (l' := (pa, pileO da #[] 0) :: (da, initD w t1 t2 kk) :: (lp, listOf #[] 0) :: (L' + 1, oc) :: (215, tabObj ps) :: led) kN (by
    intro q hq
    rcases List.mem_cons.mp hq with rfl | hq
    · exact .tail _ (.head _)
    rcases List.mem_cons.mp hq with rfl | hq
    · exact .tail _ (.tail _ (.head _))
    rcases List.mem_cons.mp hq with rfl | hq
    · exact .head _
    exact .tail _ (.tail _ (.tail _ hq)))
  obtain ⟨m0, em, kF⟩ := frX kF
  obtain ⟨l0, el, kN⟩ := newsX kM
  refine loop_text (fun i m led' gs => ∃ (its items : List Value) (n1 n2 : Nat) (ps' : Array Value) (rest : List (Addr × Obj)), (∀ y : Str, y ≠ "sign" → y ≠ "height" → m y = m0 y) ∧ TabOk posLen ps' ∧ (AllBare s.gens → AllBare gs) ∧
    led' = (pa, pileO da its.toArray n1) :: (da, initD w t1 t2 kk) :: (lp, listOf items.toArray n2) :: (L' + 1, oc) :: (215, tabObj ps') :: rest ∧ (∀ p ∈ rest, p.1 ≠ pa) ∧ (∀ p ∈ rest, p.1 ≠ da) ∧ (∀ p ∈ rest, p.1 ≠ lp) ∧ (∀ p ∈ rest, p.1 ≠ L' + 1) ∧ (∀ p ∈ rest, p.1 ≠ 215) ∧
    its.length = (stF (bs.take i)).1 ∧ UpIn its rest ∧ PrIn keyS items (stF (bs.take i)).2 rest ∧ (∀ p ∈ led, p ∈ rest))
    rfl kF kN (wordS_ascii bs) ?_ ?_ ?_
  · refine ⟨[], [], 0, 0, ps, led, fun _ _ _ => rfl, ht, id, el, ?_, ?_, ?_, ?_, hl, rfl, fun j hj => absurd hj (Nat.not_lt_zero j), ⟨rfl, fun j p hj => by simp [stF] at hj⟩, fun p hp => hp⟩
    · exact allLt_ne (allLt_trans lB.2.2 lC)
    · exact allLt_ne lB.2.2
    · exact allLt_ne lD.2.2.2.2
    · exact allLt_ne1 lA.2
  · rintro i c u m led' gs h tk it o hc ⟨its, items, n1, n2, ps', rest, hm, hps, hgs, rfl, r1, r2, r3, r4, r5, hlen, hup, hpr, hled⟩ F N hn
    obtain ⟨b, hb, rfl⟩ := wordS_at hc
    obtain ⟨va, vb, rfl⟩ := ups2 hm
    have hsz : its.length ≤ 8 := by
      rw [hlen]
      refine Nat.le_trans (stF_le _) ?_
      rw [List.length_take]
      omega
    have hsz2 : items.length ≤ 16 := by
      rw [hpr.1]
      refine Nat.le_trans (stF_len _) ?_
      rw [List.length_take]
      omega
    have i1 : @Ne Nat lp it := hn _ (.tail _ (.tail _ (.head _)))
    have i2 : @Ne Nat pa it := hn _ (.head _)
    have i3 : @Ne Nat da it := hn _ (.tail _ (.head _))
    have i4 : @Ne Nat (L' + 1) it := hn _ (.tail _ (.tail _ (.tail _ (.head _))))
    have i5 : @Ne Nat 215 it := hn _ (.tail _ (.tail _ (.tail _ (.tail _ (.head _)))))
    clear kF kN
    subst em el
    cases b with
    | true =>
      rw [sign_open]
      k_steps
      rename Fr _ _ _ _ => kF
      rename News _ _ _ _ => kN
      obtain ⟨Ts, hT⟩ := upIn_fun hup
      have q1 : ∀ p ∈ ((it, o) :: (lp, listOf items.toArray n2) :: (L' + 1, oc) :: rest), p.1 ≠ 215 := by
        intro p hp
        rcases List.mem_cons.mp hp with rfl | hp
        · exact Ne.symm (hn (215, tabObj ps') (by k_mem))
        rcases List.mem_cons.mp hp with rfl | hp
        · exact Nat.ne_of_gt lD.2.2.2.1
        rcases List.mem_cons.mp hp with rfl | hp
        · exact Nat.ne_of_gt (Nat.lt_succ_of_lt lA.1)
        exact r5 p hp
      refine' len_spec w pa da its.toArray n1 kk t1 t2 ((it, o) :: (lp, listOf items.toArray n2) :: (L' + 1, oc) :: rest) ps' Ts q1 (Nat.ne_of_gt (Nat.lt_trans lB.2.1 lC)) (Nat.ne_of_gt lB.2.1) ?hs hps (fun j hj => ⟨(hT j hj).1, ?hm⟩) _ _ _ _ _ _ _ _ _ _ _ _ _ _ _ _ _ _ _ _ _ _ ?k1 ?k2 ?k3 ?k4 ?k5 ?kK ?kd ?ku ?_
      (case k1 => k_asm)
      (case k2 => k_asm)
      (case k3 => k_asm)
      (case k4 => (repeat (refine Mine.news_pick kN (by k_mem) ?_)); exact news_sub kN (fun q h => by repeat (first | exact h | refine List.Mem.tail _ ?_)))
      (case k5 => k_asm)
      (case kK => exact rfl)
      (case kd => ktr_room)
      (case ku => ktr_units)
      (case hs => simp; omega)
      (case hm => obtain ⟨t, u, k, e⟩ := (hT j hj).2; exact ⟨t, u, k, .tail _ (.tail _ (.tail _ e))⟩)
      intro t9 h9 tk9 gs9 ps9 hps9 hgs9 F9 N9
      clear kF kN
      refine ⟨⟨by simp, by simp; omega⟩, ?_⟩
      k_steps
      rename_i tA kA D1 h5 lE h6 tk6 tB kB D2 h7 lF h8 F8 N8
      obtain ⟨o1, eo1⟩ : ∃ o : Obj, o = { cls := .type "tuple", data := .seq #[.str (Str.ofString "x" ++ Str.ofString (toString (its.toArray.size : Int))) tA, .str (Str.ofString "(") kA] } := ⟨_, rfl⟩
      obtain ⟨o2, eo2⟩ : ∃ o : Obj, o = { cls := .type "tuple", data := .seq #[.str (Str.ofString "X" ++ Str.ofString (toString ((its.toArray.size : Int) + 1))) tB, .str (Str.ofString ")") kB] } := ⟨_, rfl⟩
      rw [← eo1, ← eo2] at N8
      have q2 : ∀ p ∈ ((D2, o2) :: (D1, o1) :: (215, tabObj ps9) :: (it, o) :: (lp, listOf ((items.toArray.push (.ref D1)).push (.ref D2)) (n2 + 1 + 1)) :: (L' + 1, oc) :: rest), p.1 ≠ pa := by
        intro p hp
        rcases List.mem_cons.mp hp with rfl | hp
        · exact Nat.ne_of_gt lF.2.2.1
        rcases List.mem_cons.mp hp with rfl | hp
        · exact Nat.ne_of_gt lE.2.1
        rcases List.mem_cons.mp hp with rfl | hp
        · exact Nat.ne_of_lt (Nat.lt_trans lB.2.1 lC)
        rcases List.mem_cons.mp hp with rfl | hp
        · exact Ne.symm i2
        rcases List.mem_cons.mp hp with rfl | hp
        · exact Nat.ne_of_gt lD.1
        rcases List.mem_cons.mp hp with rfl | hp
        · exact Nat.ne_of_lt (Nat.lt_trans lB.1 lC)
        exact r1 p hp
      refine' push_spec w pa da its n1 kk _ _ _ _ t1 t2 _ q2 (Nat.ne_of_gt lC) (by omega) _ _ _ _ _ _ _ _ _ _ _ _ _ _ _ _ _ _ _ _ _ _ ?k1 ?k2 ?k3 ?k4 ?k5 ?kK ?kd ?ku ?_
      (case k1 => k_asm)
      (case k2 => k_asm)
      (case k3 => k_asm)
      (case k4 => (repeat (refine Mine.news_pick N8 (by k_mem) ?_)); exact news_sub N8 (fun q h => by repeat (first | exact h | refine List.Mem.tail _ ?_)))
      (case k5 => k_asm)
      (case kK => exact rfl)
      (case kd => ktr_room)
      (case ku => ktr_units)
      intro b h10 tk10 F10 N10 b1 b2 b3
      clear F8 N8
      k_steps
      rename Fr _ _ _ _ => F11
      rename News _ _ _ _ => N11
      rw [push_list, push_list2] at N11
      have b4 : @Ne Nat it b := b1 _ (.tail _ (.tail _ (.tail _ (.head _))))
      have b5 : @Ne Nat lp b := b1 _ (.tail _ (.tail _ (.tail _ (.tail _ (.head _)))))
      have b6 : @Ne Nat (L' + 1) b := b1 _ (.tail _ (.tail _ (.tail _ (.tail _ (.tail _ (.head _))))))
      have b7 : @Ne Nat 215 b := b1 _ (.tail _ (.tail _ (.head _)))
      have b2 : @Ne Nat b pa := b2
      have b3 : @Ne Nat b da := b3
      have e1 : o1 = { cls := .type "tuple", data := .seq #[.str (keyS (its.length, true)) tA, .str (if (its.length, true).2 then "(" else ")") kA] 0 } := eo1.trans rfl
      have e2 : o2 = { cls := .type "tuple", data := .seq #[.str (keyS (its.length + 1, false)) tB, .str (if (its.length + 1, false).2 then "(" else ")") kB] 0 } := eo2.trans (by simp [keyS])
      have es : stF (bs.take (i + 1)) = (its.length + 1, (stF (bs.take i)).2 ++ [(its.length, true)] ++ [(its.length + 1, false)]) := by
        rw [stF_take hb]
        simp [stepS, hlen]
      refine' TurnEnd.intro F11 (led' := (pa, pileO da (its ++ [Value.ref b]).toArray (n1 + 1)) :: (da, initD w t1 t2 kk) :: (lp, listOf (items ++ [Value.ref D1] ++ [Value.ref D2]).toArray (n2 + 1 + 1)) :: (L' + 1, oc) :: (215, tabObj ps9) :: ((b, _) :: (D2, o2) :: (D1, o1) :: rest)) ?hN ?g1 ⟨its ++ [Value.ref b], items ++ [Value.ref D1] ++ [Value.ref D2], n1 + 1, n2 + 1 + 1, ps9, (b, _) :: (D2, o2) :: (D1, o1) :: rest, fun y h1 h2 => ?g2, hps9, fun z => hgs9 (hgs z), rfl, off3 r1 b2 (Nat.ne_of_gt lF.2.2.1) (Nat.ne_of_gt lE.2.1), off3 r2 b3 (Nat.ne_of_gt lF.2.2.2.1) (Nat.ne_of_gt lE.2.2.1),
        off3 r3 (Ne.symm b5) (Nat.ne_of_gt lF.2.2.2.2.2.1) (Nat.ne_of_gt lE.2.2.2.2.1), off3 r4 (Ne.symm b6) (Nat.ne_of_gt lF.2.2.2.2.2.2.1) (Nat.ne_of_gt lE.2.2.2.2.2.1), off3 r5 (Ne.symm b7) (Nat.ne_of_gt lF.2.1) (Nat.ne_of_gt lE.1), by rw [es]; simp,
        upIn_snoc (upIn_mono hup mem3) (.head _), ?g3, fun p hp => mem3 _ (hled p hp)⟩
      (case hN => (repeat (refine Mine.news_pick N11 (by k_mem) ?_)); exact news_sub N11 (fun q h => by repeat (first | exact h | refine List.Mem.tail _ ?_)))
      case g1 =>
        intro p hp
        rcases List.mem_cons.mp hp with rfl | hp
        · exact i2
        rcases List.mem_cons.mp hp with rfl | hp
        · exact i3
        rcases List.mem_cons.mp hp with rfl | hp
        · exact i1
        rcases List.mem_cons.mp hp with rfl | hp
        · exact i4
        rcases List.mem_cons.mp hp with rfl | hp
        · exact i5
        exact off3 (fun p hp => hn p (.tail _ (.tail _ (.tail _ (.tail _ (.tail _ hp)))))) (Ne.symm b4) (Nat.ne_of_gt lF.2.2.2.2.1) (Nat.ne_of_gt lE.2.2.2.1) p hp
      case g2 => simp only [if_neg h1, if_neg h2]
      case g3 =>
        rw [es]
        exact prIn_snoc (prIn_snoc (prIn_mono hpr mem3) (by rw [← e1]; exact .tail _ (.tail _ (.head _)))) (by rw [← e2]; exact .tail _ (.head _))
    | false =>
      obtain ⟨its', v', eits⟩ := snoc_of (its := its) (by rw [hlen]; exact hbal i (List.getElem?_eq_some_iff.mp hb).1 hb)
      subst eits
      k_steps
      rename Fr _ _ _ _ => F8
      rename News _ _ _ _ => N8
      have q2 : ∀ p ∈ ((215, tabObj ps') :: (it, o) :: (lp, listOf items.toArray n2) :: (L' + 1, oc) :: rest), p.1 ≠ pa := by
        intro p hp
        rcases List.mem_cons.mp hp with rfl | hp
        · exact Nat.ne_of_lt (Nat.lt_trans lB.2.1 lC)
        rcases List.mem_cons.mp hp with rfl | hp
        · exact Ne.symm i2
        rcases List.mem_cons.mp hp with rfl | hp
        · exact Nat.ne_of_gt lD.1
        rcases List.mem_cons.mp hp with rfl | hp
        · exact Nat.ne_of_lt (Nat.lt_trans lB.1 lC)
        exact r1 p hp
      rw [← push_list] at N8
      refine' pop_spec w pa da its'.toArray v' n1 kk t1 t2 _ q2 (Nat.ne_of_gt lC) (by simp at hsz ⊢; omega) _ _ _ _ _ _ _ _ _ _ _ _ _ _ _ _ _ _ _ _ _ _ ?k1 ?k2 ?k3 ?k4 ?k5 ?kK ?kd ?ku ?_
      (case k1 => k_asm)
      (case k2 => k_asm)
      (case k3 => k_asm)
      (case k4 => (repeat (refine Mine.news_pick N8 (by k_mem) ?_)); exact news_sub N8 (fun q h => by repeat (first | exact h | refine List.Mem.tail _ ?_)))
      (case k5 => k_asm)
      (case kK => exact rfl)
      (case kd => ktr_room)
      (case ku => ktr_units)
      intro h10 tk10 F10 N10
      clear F8 N8
      k_steps
      rename Fr _ _ _ _ => F11
      rename News _ _ _ _ => N11
      have es : stF (bs.take (i + 1)) = ((stF (bs.take i)).1 - 1, (stF (bs.take i)).2) := by
        rw [stF_take hb]
        simp [stepS]
      refine' TurnEnd.intro F11 (led' := (pa, pileO da its'.toArray (n1 + 1)) :: (da, initD w t1 t2 kk) :: (lp, listOf items.toArray n2) :: (L' + 1, oc) :: (215, tabObj ps') :: rest) ?hN ?_ ⟨its', items, n1 + 1, n2, ps', rest, fun y h1 h2 => ?_, hps, hgs, rfl, r1, r2, r3, r4, r5, ?_, upIn_init hup, ?_, hled⟩
      (case hN => (repeat (refine Mine.news_pick N11 (by k_mem) ?_)); exact news_sub N11 (fun q h => by repeat (first | exact h | refine List.Mem.tail _ ?_)))
      · intro p hp
        rcases List.mem_cons.mp hp with rfl | hp
        · exact i2
        rcases List.mem_cons.mp hp with rfl | hp
        · exact i3
        exact hn p (.tail _ (.tail _ hp))
      · simp only [if_neg h1, if_neg h2]
      · rw [es, ← hlen]; simp
      · rw [es]; exact hpr
  · rintro m led' gs h tk ⟨its, items, n1, n2, ps', rest, hm, hps, hgs, rfl, r1, r2, r3, r4, r5, hlen, hup, hpr, hled⟩ F N
    obtain ⟨va, vb, rfl⟩ := ups2 hm
    rw [wordS_size, List.take_length] at hlen hpr
    have hsz2 : items.length ≤ 16 := by
      rw [hpr.1]
      refine Nat.le_trans (stF_len _) ?_
      omega
    clear kF kN kM
    subst em el
    obtain ⟨Ts, hTs⟩ := prIn_fun hpr fun p hp => Nat.le_trans (stF_small bs p hp) h8
    k_steps
    have q3 : ∀ p ∈ ((pa, pileO da its.toArray n1) :: (da, initD w t1 t2 kk) :: (L' + 1, oc) :: (215, tabObj ps') :: rest), p.1 ≠ lp := by
      intro p hp
      rcases List.mem_cons.mp hp with rfl | hp
      · exact Nat.ne_of_lt lD.1
      exact off3 r3 (Nat.ne_of_lt lD.2.1) (Nat.ne_of_lt lD.2.2.1) (Nat.ne_of_lt lD.2.2.2.1) p hp
    refine' head_spec w lp items n2 Ts (keyAt (stF bs).2) (valAt (stF bs).2) _ q3 (by omega) (fun j hj => ⟨(hTs j hj).1, (hTs j hj).2.1, (hTs j hj).2.2.1, ?hm⟩) _ _ _ _ _ _ _ _ _ _ _ _ _ _ _ _ _ _ _ _ _ _ ?k1 ?k2 ?k3 ?k4 ?k5 ?kK ?kd ?ku ?_
    (case k1 => k_asm)
    (case k2 => k_asm)
    (case k3 => k_asm)
    (case k4 => (repeat (refine Mine.news_pick N (by k_mem) ?_)); exact news_sub N (fun q h => by repeat (first | exact h | refine List.Mem.tail _ ?_)))
    (case k5 => k_asm)
    (case kK => exact rfl)
    (case kd => ktr_room)
    (case ku => ktr_units)
    (case hm => obtain ⟨t, u, k, e⟩ := (hTs j hj).2.2.2.2; exact ⟨t, u, k, .tail _ (.tail _ (.tail _ (.tail _ e)))⟩)
    intro x dx t20 k20 h20 tk20 F20 N20 x1 x2 x3
    clear F N
    have x4 : @Ne Nat x (L' + 1) := Nat.ne_of_gt (Nat.lt_trans (x1 _ (.tail _ (.tail _ (.head _)))) x3)
    have x5 : @Ne Nat dx (L' + 1) := Nat.ne_of_gt (x1 _ (.tail _ (.tail _ (.head _))))
    obtain ⟨n, hn⟩ : ∃ n, n = bs.length / 2 + 1 := ⟨_, rfl⟩
    have hn5 : n ≤ 5 := by omega
    have hr1 := half_small h8
    have hr2 := half_size h8
    rw [← hn] at hr2
    k_steps
    rename_i o9 _ _ _ _ _ _ _ _ _ _ _ _ _
    rename News _ _ _ _ => kN
    obtain ⟨l0, el, kN⟩ := newsX kN
    refine rest_plain (fun i ys news => news = l0 ∧ StrsAre ys ((List.range i).map (piece (stF bs).2 items.length))) ⟨el.symm, .nil⟩ ?_ ?_
    · rintro i ys news v I oI C oC D m₂ h tk E' hi ⟨rfl, hys⟩ ⟨t9, rfl⟩ hC hx F N off ne
      clear kN
      subst el
      have i5 : i = 0 ∨ i = 1 ∨ i = 2 ∨ i = 3 ∨ i = 4 := by omega
      rcases i5 with rfl | rfl | rfl | rfl | rfl
      · k_steps
        rename News _ _ _ _ => N29
        refine' get_spec w x dx lp items n2 k20 Ts (keyAt (stF bs).2) (lowAt (stF bs).2) (valAt (stF bs).2) _ (keyS (0, true)) ⟨by decide +kernel, by decide +kernel⟩ (key_clear (by decide)) t20 _ ((I, oI) :: (C, oC) :: (D, LCg.lst ys) :: (pa, pileO da its.toArray n1) :: (da, initD w t1 t2 kk) :: (L' + 1, o9) :: (215, tabObj ps') :: rest) (by omega) (fun j hj => ⟨(hTs j hj).1, (hTs j hj).2.2.2.1, ?hm⟩) _ _ _ _ _ _ _ _ _ _ _ _ _ _ _ _ _ _ _ _ _ _ ?k1 ?k2 ?k3 ?k4 ?k5 ?kK ?kd ?ku ?_
        (case k1 => k_asm)
        (case k2 => k_asm)
        (case k3 => k_asm)
        (case k4 => (repeat (refine Mine.news_pick N29 (by k_mem) ?_)); exact news_sub N29 (fun q h => by repeat (first | exact h | refine List.Mem.tail _ ?_)))
        (case k5 => k_asm)
        (case kK => exact rfl)
        (case kd => ktr_room)
        (case ku => ktr_units)
        (case hm => obtain ⟨t, u, k, e⟩ := (hTs j hj).2.2.2.2; exact ⟨t, u, k, .tail _ (.tail _ (.tail _ (.tail _ (.tail _ (.tail _ (.tail _ e))))))⟩)
        intro r res h30 tk30 hres F30 N30
        clear N29
        k_steps
        rename Fr _ _ _ _ => F31
        rename News _ _ _ _ => N31
        refine LCg.CompEnd.intro F31 N31 _ (fun q hq => ?_) off trivial ⟨rfl, strs_range (f := piece (stF bs).2 items.length) hys⟩
        iterate 10 (rcases List.mem_cons.mp hq with rfl | hq; · k_mem)
        repeat (first | exact hq | refine List.Mem.tail _ ?_)
      · k_steps
        rename News _ _ _ _ => N29
        refine' get_spec w x dx lp items n2 k20 Ts (keyAt (stF bs).2) (lowAt (stF bs).2) (valAt (stF bs).2) _ (keyS (1, true)) ⟨by decide +kernel, by decide +kernel⟩ (key_clear (by decide)) t20 _ ((I, oI) :: (C, oC) :: (D, LCg.lst ys) :: (pa, pileO da its.toArray n1) :: (da, initD w t1 t2 kk) :: (L' + 1, o9) :: (215, tabObj ps') :: rest) (by omega) (fun j hj => ⟨(hTs j hj).1, (hTs j hj).2.2.2.1, ?hm⟩) _ _ _ _ _ _ _ _ _ _ _ _ _ _ _ _ _ _ _ _ _ _ ?k1 ?k2 ?k3 ?k4 ?k5 ?kK ?kd ?ku ?_
        (case k1 => k_asm)
        (case k2 => k_asm)
        (case k3 => k_asm)
        (case k4 => (repeat (refine Mine.news_pick N29 (by k_mem) ?_)); exact news_sub N29 (fun q h => by repeat (first | exact h | refine List.Mem.tail _ ?_)))
        (case k5 => k_asm)
        (case kK => exact rfl)
        (case kd => ktr_room)
        (case ku => ktr_units)
        (case hm => obtain ⟨t, u, k, e⟩ := (hTs j hj).2.2.2.2; exact ⟨t, u, k, .tail _ (.tail _ (.tail _ (.tail _ (.tail _ (.tail _ (.tail _ e))))))⟩)
        intro r res h30 tk30 hres F30 N30
        clear N29
        k_steps
        rename Fr _ _ _ _ => F31
        rename News _ _ _ _ => N31
        refine LCg.CompEnd.intro F31 N31 _ (fun q hq => ?_) off trivial ⟨rfl, strs_range (f := piece (stF bs).2 items.length) hys⟩
        iterate 10 (rcases List.mem_cons.mp hq with rfl | hq; · k_mem)
        repeat (first | exact hq | refine List.Mem.tail _ ?_)
      · k_steps
        rename News _ _ _ _ => N29
        refine' get_spec w x dx lp items n2 k20 Ts (keyAt (stF bs).2) (lowAt (stF bs).2) (valAt (stF bs).2) _ (keyS (2, true)) ⟨by decide +kernel, by decide +kernel⟩ (key_clear (by decide)) t20 _ ((I, oI) :: (C, oC) :: (D, LCg.lst ys) :: (pa, pileO da its.toArray n1) :: (da, initD w t1 t2 kk) :: (L' + 1, o9) :: (215, tabObj ps') :: rest) (by omega) (fun j hj => ⟨(hTs j hj).1, (hTs j hj).2.2.2.1, ?hm⟩) _ _ _ _ _ _ _ _ _ _ _ _ _ _ _ _ _ _ _ _ _ _ ?k1 ?k2 ?k3 ?k4 ?k5 ?kK ?kd ?ku ?_
        (case k1 => k_asm)
        (case k2 => k_asm)
        (case k3 => k_asm)
        (case k4 => (repeat (refine Mine.news_pick N29 (by k_mem) ?_)); exact news_sub N29 (fun q h => by repeat (first | exact h | refine List.Mem.tail _ ?_)))
        (case k5 => k_asm)
        (case kK => exact rfl)
        (case kd => ktr_room)
        (case ku => ktr_units)
        (case hm => obtain ⟨t, u, k, e⟩ := (hTs j hj).2.2.2.2; exact ⟨t, u, k, .tail _ (.tail _ (.tail _ (.tail _ (.tail _ (.tail _ (.tail _ e))))))⟩)
        intro r res h30 tk30 hres F30 N30
        clear N29
        k_steps
        rename Fr _ _ _ _ => F31
        rename News _ _ _ _ => N31
        refine LCg.CompEnd.intro F31 N31 _ (fun q hq => ?_) off trivial ⟨rfl, strs_range (f := piece (stF bs).2 items.length) hys⟩
        iterate 10 (rcases List.mem_cons.mp hq with rfl | hq; · k_mem)
        repeat (first | exact hq | refine List.Mem.tail _ ?_)
      · k_steps
        rename News _ _ _ _ => N29
        refine' get_spec w x dx lp items n2 k20 Ts (keyAt (stF bs).2) (lowAt (stF bs).2) (valAt (stF bs).2) _ (keyS (3, true)) ⟨by decide +kernel, by decide +kernel⟩ (key_clear (by decide)) t20 _ ((I, oI) :: (C, oC) :: (D, LCg.lst ys) :: (pa, pileO da its.toArray n1) :: (da, initD w t1 t2 kk) :: (L' + 1, o9) :: (215, tabObj ps') :: rest) (by omega) (fun j hj => ⟨(hTs j hj).1, (hTs j hj).2.2.2.1, ?hm⟩) _ _ _ _ _ _ _ _ _ _ _ _ _ _ _ _ _ _ _ _ _ _ ?k1 ?k2 ?k3 ?k4 ?k5 ?kK ?kd ?ku ?_
        (case k1 => k_asm)
        (case k2 => k_asm)
        (case k3 => k_asm)
        (case k4 => (repeat (refine Mine.news_pick N29 (by k_mem) ?_)); exact news_sub N29 (fun q h => by repeat (first | exact h | refine List.Mem.tail _ ?_)))
        (case k5 => k_asm)
        (case kK => exact rfl)
        (case kd => ktr_room)
        (case ku => ktr_units)
        (case hm => obtain ⟨t, u, k, e⟩ := (hTs j hj).2.2.2.2; exact ⟨t, u, k, .tail _ (.tail _ (.tail _ (.tail _ (.tail _ (.tail _ (.tail _ e))))))⟩)
        intro r res h30 tk30 hres F30 N30
        clear N29
        k_steps
        rename Fr _ _ _ _ => F31
        rename News _ _ _ _ => N31
        refine LCg.CompEnd.intro F31 N31 _ (fun q hq => ?_) off trivial ⟨rfl, strs_range (f := piece (stF bs).2 items.length) hys⟩
        iterate 10 (rcases List.mem_cons.mp hq with rfl | hq; · k_mem)
        repeat (first | exact hq | refine List.Mem.tail _ ?_)
      · k_steps
        rename News _ _ _ _ => N29
        refine' get_spec w x dx lp items n2 k20 Ts (keyAt (stF bs).2) (lowAt (stF bs).2) (valAt (stF bs).2) _ (keyS (4, true)) ⟨by decide +kernel, by decide +kernel⟩ (key_clear (by decide)) t20 _ ((I, oI) :: (C, oC) :: (D, LCg.lst ys) :: (pa, pileO da its.toArray n1) :: (da, initD w t1 t2 kk) :: (L' + 1, o9) :: (215, tabObj ps') :: rest) (by omega) (fun j hj => ⟨(hTs j hj).1, (hTs j hj).2.2.2.1, ?hm⟩) _ _ _ _ _ _ _ _ _ _ _ _ _ _ _ _ _ _ _ _ _ _ ?k1 ?k2 ?k3 ?k4 ?k5 ?kK ?kd ?ku ?_
        (case k1 => k_asm)
        (case k2 => k_asm)
        (case k3 => k_asm)
        (case k4 => (repeat (refine Mine.news_pick N29 (by k_mem) ?_)); exact news_sub N29 (fun q h => by repeat (first | exact h | refine List.Mem.tail _ ?_)))
        (case k5 => k_asm)
        (case kK => exact rfl)
        (case kd => ktr_room)
        (case ku => ktr_units)
        (case hm => obtain ⟨t, u, k, e⟩ := (hTs j hj).2.2.2.2; exact ⟨t, u, k, .tail _ (.tail _ (.tail _ (.tail _ (.tail _ (.tail _ (.tail _ e))))))⟩)
        intro r res h30 tk30 hres F30 N30
        clear N29
        k_steps
        rename Fr _ _ _ _ => F31
        rename News _ _ _ _ => N31
        refine LCg.CompEnd.intro F31 N31 _ (fun q hq => ?_) off trivial ⟨rfl, strs_range (f := piece (stF bs).2 items.length) hys⟩
        iterate 10 (rcases List.mem_cons.mp hq with rfl | hq; · k_mem)
        repeat (first | exact hq | refine List.Mem.tail _ ?_)
    · rintro ys news ⟨rfl, hys⟩
      clear kN
      subst el
      k_steps
      rename Fr h₀ L _ _ => F31
      rename News h₀ L _ _ => N31
      have e : joinS ((List.range n).map (piece (stF bs).2 items.length)) = sentS bs := by unfold sentS; rw [hpr.1, hn]
      rw [e]
      refine hQ _ _ _ _ _ hps hgs F31 ?_
      refine news_pick N31 (by k_mem) (news_sub N31 fun q hq => ?_)
      have := hled q hq
      simp only [List.mem_cons]
      simp [this]
end
-- PX
section
set_option maxRecDepth 100000
set_option maxHeartbeats 4000000
open PySem PySem.Calls PySem.W PySem.W.X PyProof.Rows
namespace Mine
section
variable {prog : Program} {w : World} {A : Around} {c : Code} {fs : List Frame} {P : End → Shared → Prop} {s : Shared}
theorem x_wrap {α : Type} {m : Sem α} {K : α → Sem Fin} {H : Value → Sem Fin} {gd : Bool → Bool} {lv : List Value → List Value}
    (h : wpAny (model prog w) (A.over c fs) m (fun a s' => SegX (model prog w) A c (K a) fs s' P) (fun x s' => SegX (model prog w) A c (H x) fs s' P) s) : SegX (model prog w) A c (m.wrap K H gd lv) fs s P := by
  rintro Γ p rfl hΓ
  obtain ⟨e, s', hr, hq⟩ := runs_wrap_of_wp (Φ := fun e s' => e.quiet = true ∧ P e s') K H gd lv m (h (Γ.over fs) p (hΓ.over fs)) (fun a p' s' h' => h' Γ p' rfl hΓ) (fun x p' s' h' => h' Γ p' rfl hΓ)
  exact ⟨e, s', hr, hq⟩
theorem bind_wrap {α β : Type} (m : Sem α) (f : α → Sem β) (K : β → Sem Fin) (H : Value → Sem Fin) (gd : Bool → Bool) (lv : List Value → List Value) :
    (m >>= f).wrap K H gd lv = m.wrap (fun a => (f a).wrap K H gd lv) H gd lv := by
  rw [Sem.bind_eq_wrap', Sem.wrap_wrap]; rfl
theorem x_bind {α β : Type} {m : Sem α} {f : α → Sem β} {K : β → Sem Fin} {H : Value → Sem Fin} {gd : Bool → Bool} {lv : List Value → List Value}
    (h : wpAny (model prog w) (A.over c fs) m (fun a s' => SegX (model prog w) A c ((f a).wrap K H gd lv) fs s' P) (fun x s' => SegX (model prog w) A c (H x) fs s' P) s) : SegX (model prog w) A c ((m >>= f).wrap K H gd lv) fs s P := by
  rw [bind_wrap]; exact x_wrap h
variable {env : Env} {K : Flow → Sem Fin} {H : Value → Sem Fin} {gd : Bool → Bool} {lv : List Value → List Value}
theorem x_cons {st : Stmt} {rest : List Stmt} (h : SegX (model prog w) A c ((exec st env).wrap (fun f => match f with | .next => (execs rest env).wrap K H gd lv | f => K f) H gd lv) fs s P) :
    SegX (model prog w) A c ((execs (st :: rest) env).wrap K H gd lv) fs s P := by rw [execs_cons_wrap]; exact h
theorem x_stmt {st : Stmt} {rest : List Stmt} (h : wpAny (model prog w) (A.over c fs) (exec st env) (fun f s' => f = .next ∧ SegX (model prog w) A c ((execs rest env).wrap K H gd lv) fs s' P) (fun _ _ => False) s) :
    SegX (model prog w) A c ((execs (st :: rest) env).wrap K H gd lv) fs s P := by
  refine x_cons (x_wrap (wpAny_mono h (fun f s' hf => ?_) fun _ _ z => z.elim))
  obtain ⟨rfl, hf⟩ := hf
  exact hf
theorem x_if {test : Expr} {body orelse : List Stmt} {pos : Pos} (h : wpAny (model prog w) (A.over c fs) (isTrue test env (eval test env)) (fun b s' => SegX (model prog w) A c ((execs (if b = true then body else orelse) env).wrap K H gd lv) fs s' P) (fun _ _ => False) s) :
    SegX (model prog w) A c ((exec (.If test body orelse pos) env).wrap K H gd lv) fs s P := by
  rw [exec_If]
  refine x_bind (wpAny_standAt ?_)
  refine x_bind (wpAny_mono h (fun b s' hb => ?_) fun _ _ z => z.elim)
  cases b <;> exact hb
def forBack (env : Env) (K : Flow → Sem Fin) (H : Value → Sem Fin) (gd : Bool → Bool) (lv : List Value → List Value) (r : Result) : Sem Fin :=
  ((match r with | .ok f => (.pure f : Sem Flow) | .error e => .raise e).onRaise fun (x : Value) => do
    if (← field x 1) == Value.none then unsupported "frame.own-activation:exception-without-traceback"
    setFlight x env.frame).wrap K H gd lv
theorem x_for {target iter : Expr} {body : List Stmt} {pos : Pos}
    (h : wpAny (model prog w) (A.over c fs) (eval iter env) (fun xv s₁ => wpAny (model prog w) (A.over c fs) (pyIter xv) (fun it s₂ => ∀ p, SegX (model prog w) A (.forLoop target it body [] env) (denote table (.forLoop target it body [] env)) (.ret (forBack env K H gd lv) none (gd false) (lv []) c p [] :: fs) s₂ P) (fun _ _ => False) s₁) (fun _ _ => False) s)
    (hs : ∀ x, foldedSetIterable iter env x = pure x) :
    SegX (model prog w) A c ((exec (.For target iter body [] pos) env).wrap K H gd lv) fs s P := by
  rw [exec_For]
  refine x_bind (wpAny_standAt (x_bind (wpAny_mono h (fun xv s₁ h₁ => ?_) fun _ _ z => z.elim)))
  rw [hs]
  refine x_bind (wpAny_pure (x_bind (wpAny_standAt (x_bind (wpAny_holding (wpAny_mono h₁ (fun it s₂ h₂ => ?_) fun _ _ z => z.elim))))))
  exact s_call prog w A c fs P s₂ _ none (gd false) (lv []) _ h₂
def loopK (target : Expr) (it : Value) (body : List Stmt) (env : Env) (f : Flow) : Sem Fin := match f with
  | .next | .cont => .pure (.again (.forLoop target it body [] env))
  | .brk => .pure (.done .next)
  | .ret v => .pure (.done (.ret v))
def loopH (env : Env) (e : Value) : Sem Fin := (do noteFrame e env; theTreesLotGoes e : Sem Unit).wrap (fun _ => .raise e) .raise id id
theorem x_turn {target : Expr} {it : Value} {body : List Stmt} {F : Frame}
    (h : wpAny (model prog w) (A.over (.forLoop target it body [] env) fs) (pyNext it) (fun r s₁ => match r with
      | none => SegX (model prog w) A (.block [] env) (.pure (.done .next)) fs s₁ P
      | some v => wpAny (model prog w) (A.over (.forLoop target it body [] env) fs) (letOwnedTupleGo target it v) (fun _ s₂ => wpAny (model prog w) (A.over (.forLoop target it body [] env) fs) (assign target env v) (fun _ s₃ =>
          SegX (model prog w) A (.forLoop target it body [] env) ((execs body env).wrap (loopK target it body env) (loopH env) id id) fs s₃ P) (fun _ _ => False) s₂) (fun _ _ => False) s₁) (fun _ _ => False) s) :
    SegX (model prog w) A (.forLoop target it body [] env) (denote table (.forLoop target it body [] env)) fs s P := by
  show SegX (model prog w) A _ ((forTurn target it body [] env).onRaise (fun x => do noteFrame x env; theTreesLotGoes x)) fs s P
  rw [Sem.onRaise_eq_wrap]
  unfold forTurn
  refine x_bind (wpAny_standAt (x_bind (wpAny_onRaise (wpAny_mono h (fun r s₁ h₁ => ?_) fun _ _ z => z.elim))))
  cases r with
  | none => exact s_again prog w A _ fs P s₁ _ rfl h₁
  | some v =>
    refine x_bind (wpAny_mono h₁ (fun _ s₂ h₂ => x_bind (wpAny_mono h₂ (fun _ s₃ h₃ => ?_) fun _ _ z => z.elim)) fun _ _ z => z.elim)
    rw [bind_wrap]
    have e1 : (fun a : Flow => (match a with
        | .next | .cont => again (.forLoop target it body [] env)
        | .brk => pure (.done .next)
        | .ret v => pure (.done (.ret v)) : Sem Fin).wrap Sem.pure (fun e => (noteFrame e env >>= fun _ => theTreesLotGoes e : Sem Unit).bind fun _ => .raise e) id id) = loopK target it body env := by
      funext a; cases a <;> rfl
    have e2 : (fun e => (noteFrame e env >>= fun _ => theTreesLotGoes e : Sem Unit).bind fun _ => (.raise e : Sem Fin)) = loopH env := by
      funext e
      unfold loopH
      rw [Sem.bind_eq_wrap]
    rw [← e1, ← e2] at h₃
    exact h₃
theorem x_yield {e : Expr} {ypos pos : Pos} (hfs : splitAtGen fs = none) (hgd : gd false = false) (hfg : fs.any Frame.guarded = false)
    (h : wpAny (model prog w) (A.over c fs) (eval e env) (fun v s' => ∀ (p : Pos) (l : List Value) (kk : Resume → Sem Fin), kk (.send .none) = K .next → P (.susp v false l kk c p fs) s') (fun _ _ => False) s)
    (hco : env.scope.isCoroutine = false) (hi : interactive env = false) :
    SegX (model prog w) A c ((exec (.Expr (.Yield (some e) ypos) pos) env).wrap K H gd lv) fs s P := by
  rw [exec_Expr env _ pos hi rfl]
  refine x_bind (wpAny_standAt ?_)
  show SegX (model prog w) A c (((eval e env >>= fun v => (standAt ypos >>= fun _ => yieldOut env v)) >>= fun x => dropValue (.Yield (some e) ypos) pos x).wrap K H gd lv) fs s P
  have hy : ∀ v, yieldOut env v = yieldValue v := fun v => by simp only [yieldOut, hco, Bool.false_eq_true, if_false]
  simp only [hy]
  rw [bind_wrap, bind_wrap]
  refine x_wrap (wpAny_mono h (fun v s' h' => ?_) fun _ _ z => z.elim)
  refine x_bind (wpAny_standAt ?_)
  show SegX (model prog w) A c (Sem.yield v (gd false) (lv []) _) fs s' P
  rw [hgd]
  exact s_yield prog w A c fs P s' v _ _ hfs hfg fun p => h' p _ _ rfl
theorem x_func {body : List Stmt} (h : SegX (model prog w) A (.func body env) ((execs body env).wrap (fun f => .pure (.done (.ret (match f with | .ret v => v | _ => .none)))) (fun e => (leaving env e).wrap (fun _ => .raise e) .raise id id) id id) fs s P) :
    SegX (model prog w) A (.func body env) (denote table (.func body env)) fs s P := by
  show SegX (model prog w) A _ (.point [] fun _ => ((execs body env).onRaise (leaving env)) >>= _) fs s P
  refine s_skim prog w A _ fs P s _ 1 ?_
  show SegX (model prog w) A _ (((execs body env).onRaise (leaving env)) >>= _) fs s P
  rw [Sem.onRaise_eq_wrap, Sem.bind_eq_wrap', Sem.wrap_wrap]
  rw [Sem.wrap_congr (execs body env) _ _ (K' := fun f => .pure (.done (.ret (match f with | .ret v => v | _ => .none)))) (H' := fun e => (leaving env e).wrap (fun _ => .raise e) .raise id id) (fun f => by cases f <;> rfl)
    (fun e => by rw [Sem.bind_eq_wrap, Sem.wrap_wrap]; rfl)]
  exact h
end
end Mine
end
-- PX2
section
set_option maxRecDepth 100000
set_option maxHeartbeats 4000000
open PySem PySem.Calls PySem.W PySem.W.X PyProof.Rows
namespace Mine
theorem segX_quiet {M : Model} {A : Around} {c : Code} {t : Sem Fin} {fs : List Frame} {s : Shared} {P : End → Shared → Prop} (x : SegX M A c t fs s P) : SegX M A c t fs s (fun e s' => e.quiet = true ∧ P e s') := fun Γ p hc hΓ => by
  obtain ⟨e, s', hr, hq, hp⟩ := x Γ p hc hΓ
  exact ⟨e, s', hr, hq, hq, hp⟩
/-- one waking of a generator -/
def Wake (prog : Program) (w : World) (A : Around) (gs : GenState) (s : Shared) (P : End → Shared → Prop) : Prop := match gs with
  | .fresh c => SegX (model prog w) A c (denote table c) [] s P
  | .suspended k _ c _ fs _ => SegX (model prog w) A c (k (.send .none)) fs s P
  | _ => False
theorem resumeX {prog : Program} {w : World} {A : Around} {E : Value → Shared → Prop} {s : Shared} {g : Nat} {gs : GenState} {l : List Value} {α : Type} {k : GenResult → Sem α} {Q : α → Shared → Prop} (hgs : s.gens[g]? = some gs)
    (h : Wake prog w A gs (s.setGen g .running) (fun e s₁ => wpAny (model prog w) A (k e.result) Q E (s₁.setGen g e.genState))) : wpAny (model prog w) A (.resume g (.send .none) l k) Q E s := by
  intro Γ p hΓ
  cases gs with
  | fresh c => exact wake_any α prog w hgs (.inl ⟨rfl, rfl, rfl, rfl⟩) (fun Γ => Γ.In A) (fun _ h => h) (SegX.mono h fun e s' he Γ p hC => he Γ p hC) Γ p hΓ
  | suspended k₀ l₀ c₀ p₀ fs₀ cl => exact wake_any α prog w hgs (.inr ⟨k₀, l₀, p₀, cl, rfl, rfl⟩) (fun Γ => Γ.In A) (fun _ h => h) (SegX.mono h fun e s' he Γ p hC => he Γ p hC) Γ p hΓ
  | running => exact h.elim
  | finished => exact h.elim
theorem wake_quiet {prog : Program} {w : World} {A : Around} {gs : GenState} {s : Shared} {P : End → Shared → Prop} (h : Wake prog w A gs s P) : Wake prog w A gs s (fun e s' => e.quiet = true ∧ P e s') := by
  cases gs with
  | fresh c => exact segX_quiet h
  | suspended => exact segX_quiet h
  | running => exact h.elim
  | finished => exact h.elim
theorem wake_mono {prog : Program} {w : World} {A : Around} {gs : GenState} {s : Shared} {P P' : End → Shared → Prop} (h : Wake prog w A gs s P) (hp : ∀ e s', P e s' → P' e s') : Wake prog w A gs s P' := by
  cases gs with
  | fresh c => exact SegX.mono h hp
  | suspended => exact SegX.mono h hp
  | running => exact h.elim
  | finished => exact h.elim
section
open PySem.F
variable {prog : Program} {w : World} {A : Around} {E : Value → Shared → Prop} {s : Shared}
theorem next_genX {a : Addr} {g : Nat} {gs : GenState} {Q : Option Value → Shared → Prop} (hh : A.handled = none) (hl : s.heap.NoLimit) (hroom : A.depth < recursionLimit) (hg : s.heap.IsGen a g) (hgs : s.gens[g]? = some gs)
    (h : Wake prog w A.in1 gs (s.setGen g .running) (fun e s₁ => match e with
      | .susp v .. => e.genState.bare = true → Q (some v) (s₁.setGen g e.genState)
      | .ret r => r = .ok (.ret .none) ∧ ∀ h', (∀ b o, s₁.heap.get? b = some o → h'.get? b = some o) → Q none { s₁.setGen g .finished with heap := h' })) :
    wpAny (model prog w) A (pyNext (.ref a)) Q E s := by
  unfold pyNext
  refine wpAny_bind (wpAny_attempt (wpAny_callSpecial?_slot (name := Str.ofString "__next__") hg.typeIs slot_gen_next
    (wpAny_call_entry slot_gen_next hg.typeIs entry_gen_next ?_ (args_gen_next _))))
  show wpAny _ A.in1 (Builtin.Generator.genWake (.ref a) (.send .none)) _ _ s
  unfold Builtin.Generator.genWake
  refine wpAny_bind (wpAny_holding (wpAny_genNumber hg (wpAny_bind (wpAny_genState hgs ?_))))
  cases gs with
  | running => exact h.elim
  | finished => exact h.elim
  | _ =>
    refine wpAny_bind (wpAny_roomToWake hl hroom ?_)
    show wpAny _ A.in1 (.resume g (.send .none) [] _) _ _ s
    refine resumeX hgs (wake_mono (wake_quiet h) fun e s₁ he => ?_)
    obtain ⟨hq, he⟩ := he
    cases e with
    | ret r =>
      obtain ⟨rfl, hp⟩ := he
      show wpAny _ A.in1 (newExc (.type "StopIteration") [] >>= _) _ _ _
      refine wpAny_bind ?_
      simp only [newExc, newTuple]
      refine wpAny_bind (wpAny_newObj_type ?_ (by size_fits))
      refine wpAny_bind (m := firstArgMember _ _) (wpAny_of_eq (a := Value.none) (by first | rfl | (simp only [firstArgMember]; rfl)) ?_)
      refine wpAny_newObj_type ?_ (by size_fits)
      simp only [raiseNew]
      refine wpAny_bind (wpAny_bind (wpAny_handled ?_))
      first | rw [show A.in1.handled = none from hh] | rw [hh]
      refine wpAny_throw ?_
      refine wpAny_bind (wpAny_isInstance (T := "StopIteration") (b := true) ⟨_, Heap.get?_push_size _ rfl, rfl⟩ isSubtype_stop ?_)
      exact wpAny_pure (hp _ fun b o hb => Heap.get?_push_of_some _ (Heap.get?_push_of_some _ hb))
    | susp v gd l k₀ c p fs => exact wpAny_pure ⟨v, rfl, wpAny_pure (he (End.bare_of_quiet hq))⟩
end
end Mine
end
-- PX3
section
set_option maxRecDepth 100000
set_option maxHeartbeats 4000000
open PySem PySem.Calls PySem.W PySem.W.X PyProof.Rows
namespace Mine
abbrev arOf (dp un : Nat) (gd : Option (List Code)) (fr : Option (List Env)) : Around := { handled := none, depth := dp, frames := fr, guards := gd, units := un }
abbrev pairObj (i : Nat) (t : Tok) (b : Bool) (u : Tok) : Obj := { cls := .type "tuple", data := .seq #[.int (i : Nat) t, .str ⟨#[signC b]⟩ u] }
def MovedBut (own : List (Addr × Obj)) (s s' : Shared) : Prop := ∃ h' tk, s' = { s with heap := h', toks := tk } ∧ ∀ b o, (∀ p ∈ own, p.1 ≠ b) → s.heap.get? b = some o → h'.get? b = some o
/-- what is left of a generator's items -/
def GenSt (prog : Program) (w : World) (h₀ : Heap) (bs : List Bool) : (left i : Nat) → GenState → List (Addr × Obj) → Prop
  | 0, _, gs, own => ∀ (s : Shared) dp un gd fr, (∀ b o, h₀.get? b = some o → s.heap.get? b = some o) → (∀ p ∈ own, s.heap.get? p.1 = some p.2) →
      Wake prog w (arOf dp un gd fr) gs s (fun e s' => e = .ret (.ok (.ret .none)) ∧ MovedBut own s s')
  | left + 1, i, gs, own => ∀ (s : Shared) dp un gd fr, (∀ b o, h₀.get? b = some o → s.heap.get? b = some o) → (∀ p ∈ own, s.heap.get? p.1 = some p.2) →
      Wake prog w (arOf dp un gd fr) gs s (fun e s' => ∃ T own' t u b, (∃ l k c p fs, e = .susp (.ref T) false l k c p fs) ∧ bs[i]? = some b ∧ MovedBut own s s' ∧ s'.heap.get? T = some (pairObj i t b u) ∧ s.heap.get? T = none ∧
        (∀ p ∈ own', s'.heap.get? p.1 = some p.2) ∧ (∀ p ∈ own', (∃ q ∈ own, q.1 = p.1) ∨ s.heap.get? p.1 = none) ∧ (∀ p ∈ own', p.1 ≠ T) ∧ GenSt prog w h₀ bs left (i + 1) e.genState own')
section
variable {prog : Program} {w : World} {h₀ : Heap} {bs : List Bool} {Lg I itr : Addr} {t0 : Tok} {env : Env} {target : Expr} {body : List Stmt} {F : Frame} {xi xv xe : Str}
def LoopSt (h₀ : Heap) (bs : List Bool) (Lg I itr : Addr) (t0 : Tok) (xe : Str) (i : Nat) (h : Heap) : Prop :=
  ∃ m old, Fr h₀ Lg h m ∧ m xe = some (.bool false) ∧ IsEnum h I itr (i : Nat) old ∧ h.IsStrIter itr "str_ascii_iterator" (wordS bs) t0 i
def Upd (Lg I itr : Addr) (s s' : Shared) : Prop := ∃ h' tk, s' = { s with heap := h', toks := tk } ∧ ∀ b o, b ≠ Lg → b ≠ I → b ≠ itr → s.heap.get? b = some o → h'.get? b = some o
/-- a turn of the generator's loop, handed a place and a sign, hands them on -/
def GTurn (prog : Program) (w : World) (h₀ : Heap) (Lg I : Addr) (env : Env) (target : Expr) (body : List Stmt) (F : Frame) (xi xv xe : Str) : Prop :=
  ∀ (i : Nat) (b : Bool) (t u : Tok) (m : Str → Option Value) (s : Shared) dp un gd fr (P : End → Shared → Prop), m xi = some (.int (i : Nat) t) → m xv = some (.str ⟨#[signC b]⟩ u) → m xe = some (.bool false) → Fr h₀ Lg s.heap m →
    (∀ l kk p tk, kk (.send .none) = .pure (.again (.forLoop target (.ref I) body [] env)) → P (.susp (.ref s.heap.objs.size) false l kk (.forLoop target (.ref I) body [] env) p [F]) { s with heap := s.heap.push (pairObj i t b u), toks := tk }) →
    SegX (model prog w) (arOf dp un gd fr) (.forLoop target (.ref I) body [] env) ((execs body env).wrap (loopK target (.ref I) body env) (loopH env) id id) [F] s P
def GEnd (prog : Program) (w : World) (h₀ : Heap) (Lg : Addr) (env : Env) (F : Frame) (xe : Str) : Prop :=
  ∀ (m : Str → Option Value) (s : Shared) dp un gd fr (P : End → Shared → Prop), m xe = some (.bool false) → Fr h₀ Lg s.heap m → (∀ tk, P (.ret (.ok (.ret .none))) { s with toks := tk }) → SegX (model prog w) (arOf dp un gd fr) (.block [] env) (.pure (.done .next)) [F] s P
def LoopEnd (prog : Program) (w : World) (h₀ : Heap) (bs : List Bool) (Lg I itr : Addr) (s : Shared) (i : Nat) : Nat → End → Shared → Prop
  | 0, e, s' => e = .ret (.ok (.ret .none)) ∧ Upd Lg I itr s s'
  | left + 1, e, s' => ∃ T own' t u b, (∃ l k c p fs, e = .susp (.ref T) false l k c p fs) ∧ bs[i]? = some b ∧ Upd Lg I itr s s' ∧
            s'.heap.get? T = some (pairObj i t b u) ∧ s.heap.get? T = none ∧ (∀ p ∈ own', s'.heap.get? p.1 = some p.2) ∧ (∀ p ∈ own', p.1 = Lg ∨ p.1 = I ∨ p.1 = itr) ∧ (∀ p ∈ own', p.1 ≠ T) ∧ GenSt prog w h₀ bs left (i + 1) e.genState own'
theorem gen_loop {p1 p2 p3 : Pos} {k} (hT : target = .Tuple [.Name xi p1, .Name xv p2] k p3) (hL : env.locals = Lg) (ki : env.kindOf xi = some .local) (kv : env.kindOf xv = some .local) (nei : xe ≠ xi) (nev : xe ≠ xv) (niv : xi ≠ xv) (hscope : (env.scope.kind == .class || (env.scope.kind == .module && env.locals != env.globals)) = false)
    (hI : Lg < I) (hit : Lg < itr) (hne : I ≠ itr) (turn : GTurn prog w h₀ Lg I env target body F xi xv xe) (fin : GEnd prog w h₀ Lg env F xe)
    (ho : ∀ c dp un gd fr, (Around.over (arOf dp un gd fr) c [F]).handled = none) :
    ∀ left i, i + left = bs.length → ∀ (s : Shared) dp un gd fr (P : End → Shared → Prop), LoopSt h₀ bs Lg I itr t0 xe i s.heap →
      (∀ e s', LoopEnd prog w h₀ bs Lg I itr s i left e s' → P e s') →
      SegX (model prog w) (arOf dp un gd fr) (.forLoop target (.ref I) body [] env) (denote table (.forLoop target (.ref I) body [] env)) [F] s P := by
  intro left
  induction left with
  | zero =>
    intro i hi s dp un gd fr P ⟨m, old, Fm, he, hen, hst⟩ hP
    refine x_turn (F := F) ?_
    have D := Draws.strAscii (prog := prog) (w := w) (A := ((arOf dp un gd fr).over (.forLoop target (.ref I) body [] env) [F]).in1) (ho (.forLoop target (.ref I) body [] env) dp un gd fr) itr (wordS bs) t0
    have hi' : i = (wordS bs).cps.size := by rw [wordS_size]; omega
    have nL := Nat.le_of_lt (Nat.lt_of_le_of_lt Fm.above hit)
    refine wpAny_pyNext_enum_endD D hen (by rw [← hi']; exact hst) fun h' hx => ?_
    have F' : Fr h₀ Lg h' m := ⟨Fm.ns.extBut hx (Nat.ne_of_lt hit), fun b o e => hx b o (Nat.ne_of_lt (Nat.lt_of_lt_of_le (Heap.lt_size e) nL)) (Fm.keep b o e), Fm.above⟩
    exact fin m _ dp un gd fr P he F' fun tk => hP _ _ ⟨rfl, h', tk, rfl, fun b o _ _ h3 e => hx b o h3 e⟩
  | succ left ih =>
    intro i hi s dp un gd fr P ⟨m, old, Fm, he, hen, hst⟩ hP
    refine x_turn (F := F) ?_
    have hh := ho (.forLoop target (.ref I) body [] env) dp un gd fr
    have D := Draws.strAscii (prog := prog) (w := w) (A := ((arOf dp un gd fr).over (.forLoop target (.ref I) body [] env) [F]).in1) hh itr (wordS bs) t0
    have hl : i < (wordS bs).cps.size := by rw [wordS_size]; omega
    have aI := Nat.lt_of_le_of_lt Fm.above hI
    have aT := Nat.lt_of_le_of_lt Fm.above hit
    refine wpAny_pyNext_enum_itemD D hen hst hl hne (by simpa using hne) fun x h1 tk hPx he1 hs1 ht1 hz1 hk1 => ?_
    obtain ⟨c, u, hc, rfl⟩ := hPx
    obtain ⟨b, hb, rfl⟩ := wordS_at hc
    subst hL
    have F1 : Fr h₀ env.locals h1 m := by
      obtain ⟨oL, a1, a2, hL, a3⟩ := Fm.ns
      exact ⟨⟨oL, a1, a2, hk1 _ _ (Nat.ne_of_lt hI) (Nat.ne_of_lt hit) hL, a3⟩, fun b o e => hk1 b o (Nat.ne_of_lt (Nat.lt_trans (Heap.lt_size e) aI)) (Nat.ne_of_lt (Nat.lt_trans (Heap.lt_size e) aT)) (Fm.keep b o e), Fm.above⟩
    have nT : ∀ b o, s.heap.get? b = some o → b ≠ s.heap.objs.size := fun b o e => Nat.ne_of_lt (Heap.lt_size e)
    rw [hT]
    refine wpAny_letOwnedTupleGo_enum (s := { s with heap := h1, toks := tk + 1 }) he1 fun h2 he2 hx2 => ?_
    have neT : s.heap.objs.size ≠ I := fun z => nT _ _ hen z.symm
    refine wpAny_assign_Tuple (t := s.heap.objs.size) (s := { s with heap := h2, toks := tk + 1 }) hh ⟨_, hx2.extBut _ _ neT ht1, rfl, 0, rfl⟩ rfl rfl fun h3 hx3 => ?_
    have F2 : Fr h₀ env.locals h2 m := ⟨F1.ns.extBut hx2.extBut (Nat.ne_of_lt hI), fun b o e => hx2.extBut b o (Nat.ne_of_lt (Nat.lt_trans (Heap.lt_size e) aI)) (F1.keep b o e), F1.above⟩
    have k3 : ∀ b o, h2.get? b = some o → h3.get? b = some o := fun b o e => hx3 b o (Nat.ne_of_lt (Heap.lt_size e)) e
    have F3 : Fr h₀ env.locals h3 m := ⟨F2.ns.keeps k3, fun b o e => k3 _ _ (F2.keep b o e), F2.above⟩
    refine wpAny_assignInOrder_more (wpAny_assign_Name (wpAny_storeName_local ki F3.ns (fun h4 n4 b4 => ?_) hscope))
    have F4 := F3.set n4 b4
    refine wpAny_assignInOrder_more (wpAny_assign_Name (wpAny_storeName_local kv F4.ns (fun h5 n5 b5 => ?_) hscope))
    have F5 := F4.set n5 b5
    refine wpAny_assignInOrder_none ?_
    rw [← hT]
    have k5 : ∀ b o, b ≠ env.locals → h2.get? b = some o → h5.get? b = some o := fun b o n e => b5.extBut b o n (b4.extBut b o n (k3 b o e))
    have k25 : ∀ b o, b ≠ env.locals → b ≠ I → b ≠ itr → s.heap.get? b = some o → h5.get? b = some o := fun b o n1 n2 n3 e => k5 b o n1 (hx2.extBut b o n2 (hk1 b o n2 n3 e))
    have en5 : IsEnum h5 I itr ((i + 1 : Nat) : Int) (.str ⟨#[signC b]⟩ u) := k5 _ _ (Nat.ne_of_gt hI) he2
    have it5 : h5.IsStrIter itr "str_ascii_iterator" (wordS bs) t0 (i + 1) := by
      obtain ⟨o, a1, a2⟩ := hs1
      exact ⟨o, k5 _ _ (Nat.ne_of_gt hit) (hx2.extBut _ _ (Ne.symm hne) a1), a2⟩
    refine turn i b tk u _ { s with heap := h5, toks := _ } dp un gd fr P ?_ ?_ ?_ F5 ?_
    · simp [niv]
    · simp
    · simp [nei, nev, he]
    · intro l kk p tk' hk
      refine hP _ _ ?_
      obtain ⟨oL, L2, L3, L1, L4⟩ := F5.ns
      obtain ⟨oT, T1, T2⟩ := it5
      obtain ⟨oI, eI, rI⟩ : ∃ oI, h5.get? I = some oI ∧ ∀ h : Heap, h.get? I = some oI → IsEnum h I itr ((i + 1 : Nat) : Int) (.str ⟨#[signC b]⟩ u) := ⟨_, en5, fun _ h => h⟩
      refine ⟨h5.objs.size, [(env.locals, oL), (I, oI), (itr, oT)], tk, u, b, ⟨_, _, _, _, _, rfl⟩, hb, ⟨_, _, rfl, fun b o n1 n2 n3 e => Heap.get?_push_of_some _ (k25 b o n1 n2 n3 e)⟩, Heap.get?_push_size _ rfl, ?_, ?_, ?_, ?_, ?_⟩
      · cases e : s.heap.get? h5.objs.size with
        | none => rfl
        | some o =>
          have lt1 := Heap.lt_size L1
          have lt2 := Heap.lt_size eI
          have lt3 := Heap.lt_size T1
          exact absurd (Heap.lt_size (k25 _ _ (Nat.ne_of_gt lt1) (Nat.ne_of_gt lt2) (Nat.ne_of_gt lt3) e)) (Nat.lt_irrefl _)
      · intro p hp
        simp only [List.mem_cons, List.not_mem_nil, or_false] at hp
        rcases hp with rfl | rfl | rfl
        · exact Heap.get?_push_of_some _ L1
        · exact Heap.get?_push_of_some _ eI
        · exact Heap.get?_push_of_some _ T1
      · intro p hp
        simp only [List.mem_cons, List.not_mem_nil, or_false] at hp
        rcases hp with rfl | rfl | rfl <;> simp
      · intro p hp
        simp only [List.mem_cons, List.not_mem_nil, or_false] at hp
        rcases hp with rfl | rfl | rfl
        · exact Nat.ne_of_lt (Heap.lt_size L1)
        · exact Nat.ne_of_lt (Heap.lt_size eI)
        · exact Nat.ne_of_lt (Heap.lt_size T1)
      · have nxt : ∀ (s : Shared) dp un gd fr P, (∀ b o, h₀.get? b = some o → s.heap.get? b = some o) → (∀ p ∈ [(env.locals, oL), (I, oI), (itr, oT)], s.heap.get? p.1 = some p.2) →
            (∀ e s', LoopEnd prog w h₀ bs env.locals I itr s (i + 1) left e s' → P e s') →
            SegX (model prog w) (arOf dp un gd fr) (.forLoop target (.ref I) body [] env) (kk (.send .none)) [F] s P := by
          intro s dp un gd fr P hk1 hk2 hP'
          rw [hk]
          refine s_again prog w _ _ [F] P s _ rfl ?_
          refine ih (i + 1) (by omega) s dp un gd fr P ⟨_, _, ⟨⟨oL, L2, L3, hk2 _ (.head _), L4⟩, hk1, F5.above⟩, (by show (if xe = xv then _ else if xe = xi then _ else m xe) = _; rw [if_neg nev, if_neg nei]; exact he), rI _ (hk2 _ (.tail _ (.head _))), ⟨oT, hk2 _ (.tail _ (.tail _ (.head _))), T2⟩⟩ hP'
        cases left with
        | zero =>
          intro s dp un gd fr hk1 hk2
          refine nxt s dp un gd fr _ hk1 hk2 ?_
          rintro e s' ⟨r, h', tk, e1, e2⟩
          refine ⟨r, h', tk, e1, fun b o n1 e3 => e2 b o ?_ ?_ ?_ e3⟩
          · exact Ne.symm (n1 _ (.head _))
          · exact Ne.symm (n1 _ (.tail _ (.head _)))
          · exact Ne.symm (n1 _ (.tail _ (.tail _ (.head _))))
        | succ left =>
          intro s dp un gd fr hk1 hk2
          refine nxt s dp un gd fr _ hk1 hk2 ?_
          rintro e s' ⟨T, own', t, u, b, a1, a2, ⟨h', tk, e1, e2⟩, a4, a5, a6, a7, a8, a9⟩
          refine ⟨T, own', t, u, b, a1, a2, ⟨h', tk, e1, fun b o n1 e3 => e2 b o ?_ ?_ ?_ e3⟩, a4, a5, a6, fun p hp => .inl ?_, a8, a9⟩
          · exact Ne.symm (n1 _ (.head _))
          · exact Ne.symm (n1 _ (.tail _ (.head _)))
          · exact Ne.symm (n1 _ (.tail _ (.tail _ (.head _))))
          · rcases a7 p hp with h | h | h
            · exact ⟨_, .head _, h.symm⟩
            · exact ⟨_, .tail _ (.head _), h.symm⟩
            · exact ⟨_, .tail _ (.tail _ (.head _)), h.symm⟩
end
end Mine
end
-- PX4
section
set_option maxRecDepth 100000
set_option maxHeartbeats 4000000
open PySem PySem.Calls PySem.W PySem.W.X PyProof.Rows
namespace Mine
abbrev genObj (g : Nat) (nm : Str) (t1 : Tok) (qn : Str) (t2 : Tok) : Obj := { cls := .type "generator", data := .fields #[.int g 0, .str nm t1, .str qn t2] }
section
variable {prog : Program} {w : World} {A : Around} {E : Value → Shared → Prop} {s : Shared} {h₀ : Heap} {L : Addr} {m mg mb : Str → Option Value} {K : Frag} {p : Program} {loose : List Str} {mean : ExcName → Option Value} {news : List (Addr × Obj)}
theorem code_genr {R : Result → Shared → Prop} {name qual : Str} {params : Arguments} {body : List Stmt} {scope : Scope} {dV kV doc pm cdv ct oc : Value} {an od : Option Addr} {osl : Array (Option Value)} {f : Addr} {args : Args} {binds : List (Str × Value)}
    (F : Fr h₀ L s.heap m) (X₀ : K.In h₀) (N : News h₀ L s.heap news) (T : Top p loose mean mg mb h₀)
    (ho : K.lookup f = some ⟨oc, od, .func (fnOf name qual params body scope dV kV doc pm an cdv ct), osl⟩) (hcd : codeIn K cdv qual = true) (hroom : A.depth < recursionLimit)
    (hbind : BindsTo s (fnOf name qual params body scope dV kV doc pm an cdv ct) args binds) (hloc : ∀ y ∈ binds, scope.names.lookup y.1 = some .local)
    (h : ∀ Lg a h₁ oL t1 t2, Fr h₀ L h₁ m → News h₀ L h₁ ((a, genObj s.gens.size name t1 qual t2) :: (Lg, oL) :: news) → (∀ p ∈ news, p.1 < Lg) → Lg < a → h₀.objs.size ≤ Lg → (∀ h : Heap, h.get? Lg = some oL → h.Ns Lg (fun y => binds.reverse.lookup y)) →
      R (.ok (.ret (.ref a))) { s with heap := h₁, gens := s.gens.push (.fresh (.func body (envOf qual scope Lg f cdv))), toks := s.toks + binds.length + 1 + 1 })
    (hco : scope.isCoroutine = false) (hgen : scope.isGenerator = true) (hk : scope.kind = .function)
    (hcell : ∀ x ∈ scope.names, x.2 ≠ .cell) : codeAny (model prog w) A (.call (.ref f) args) R s := by
  refine codeAny_call_generator (body := body) hroom ((X₀.keeps F.keep) _ _ ho) rfl hco hgen rfl (codeRec_of (X₀.keeps F.keep) hcd) ?_
  refine hbind _ _ _ _ ?_
  refine wpAny_newFunctionEnv hcell hloc (fun h₁ hns hsb => ⟨(T.nolimit.keeps F.keep).fresh _ hsb, ?_⟩) hk
  obtain ⟨oL, a1, a2, hL, a3⟩ := hns
  have hsz : h₁.objs.size = s.heap.objs.size + 1 := by rw [hsb.1, Heap.size_push]
  have up : ∀ b o, s.heap.get? b = some o → h₁.get? b = some o := fun b o e => hsb.extBut b o (Nat.ne_of_lt (Heap.lt_size e)) (Heap.get?_push_of_some _ e)
  have F1 : Fr h₀ L h₁ m := ⟨F.ns.keeps up, fun b o e => up b o (F.keep b o e), F.above⟩
  have nL := F.ns.lt
  refine h s.heap.objs.size h₁.objs.size _ oL (s.toks + binds.length) (s.toks + binds.length + 1) (F1.push _) (fun q hq => ?_) (fun q hq => Heap.lt_size (N q hq).1) (by rw [hsz]; exact Nat.lt_succ_self _) (Nat.le_trans F.above (Nat.le_of_lt nL)) (fun h e => ⟨oL, a1, a2, e, a3⟩)
  rcases List.mem_cons.mp hq with rfl | hq
  · refine ⟨Heap.get?_push_size _ rfl, Nat.ne_of_gt (Nat.lt_of_lt_of_le nL (by rw [hsz]; exact Nat.le_succ _)), Heap.get?_none_of_le (Nat.le_trans F.above (Nat.le_trans (Nat.le_of_lt nL) (by rw [hsz]; exact Nat.le_succ _)))⟩
  rcases List.mem_cons.mp hq with rfl | hq
  · exact ⟨Heap.get?_push_of_some _ hL, Nat.ne_of_gt nL, Heap.get?_none_of_le (Nat.le_trans F.above (Nat.le_of_lt nL))⟩
  · exact ⟨Heap.get?_push_of_some _ (up _ _ (N q hq).1), (N q hq).2⟩
end
end Mine
end
-- PX5
section
set_option maxRecDepth 100000
set_option maxHeartbeats 4000000
open PySem PySem.Calls PySem.W PySem.W.X PyProof.Rows
namespace Mine
section
variable {prog : Program} {w : World} {A : Around} {c : Code} {fs : List Frame} {P : End → Shared → Prop} {s : Shared} {env : Env} {K : Flow → Sem Fin} {H : Value → Sem Fin} {gd : Bool → Bool} {lv : List Value → List Value}
theorem x_nil (h : SegX (model prog w) A c (K .next) fs s P) : SegX (model prog w) A c ((execs [] env).wrap K H gd lv) fs s P := x_wrap (wpAny_execs_nil h)
theorem x_back {kp} {c₁ : Code} {p₁ : Pos} {hd : Option Value} {g : Bool} {l : List Value} (h : SegX (model prog w) A c₁ (K .next) fs s P) :
    SegX (model prog w) A c (.pure (.done .next)) (.ret (forBack env K H gd lv) hd g l c₁ p₁ kp :: fs) s P := by
  refine s_pop prog w A c fs P s (.ok .next) _ rfl _ hd g l c₁ p₁ kp ?_
  unfold forBack
  exact x_wrap (wpAny_onRaise (wpAny_pure h))
def Begun (s s₂ : Shared) (Lg I itr : Addr) : Prop := s₂ = { s with heap := s₂.heap, toks := s₂.toks } ∧ s.heap.get? I = none ∧ s.heap.get? itr = none ∧ (∃ o, s₂.heap.get? Lg = some o) ∧ ∀ b o, b ≠ Lg → s.heap.get? b = some o → s₂.heap.get? b = some o
theorem gen_start {h₀ : Heap} {bs : List Bool} {Lg : Addr} {oL : Obj} {c : Code} (h : ∀ (s : Shared) dp un gd fr P, (∀ b o, h₀.get? b = some o → s.heap.get? b = some o) → s.heap.get? Lg = some oL →
      (∀ s₂ I itr, Begun s s₂ Lg I itr → ∀ e s', LoopEnd prog w h₀ bs Lg I itr s₂ 0 bs.length e s' → P e s') → SegX (model prog w) (arOf dp un gd fr) c (denote table c) [] s P) :
    GenSt prog w h₀ bs bs.length 0 (.fresh c) [(Lg, oL)] := by
  generalize hn : bs.length = n
  rw [hn] at h
  cases n with
  | zero =>
    intro s dp un gd fr hk ho
    refine h s dp un gd fr _ hk (ho _ (.head _)) ?_
    rintro s₂ I itr ⟨e0, e1, e2, ⟨o5, e5⟩, e3⟩ e s' ⟨r, h', tk, rfl, e4⟩
    refine ⟨r, h', tk, by rw [e0], fun b o n e => ?_⟩
    have n1 := Ne.symm (n _ (.head _))
    refine e4 b o n1 (fun z => ?_) (fun z => ?_) (e3 b o n1 e)
    · rw [z, e1] at e; cases e
    · rw [z, e2] at e; cases e
  | succ n =>
    intro s dp un gd fr hk ho
    refine h s dp un gd fr _ hk (ho _ (.head _)) ?_
    rintro s₂ I itr ⟨e0, e1, e2, ⟨o5, e5⟩, e3⟩ e s' ⟨T, own', t, u, b, a1, a2, ⟨h', tk, rfl, e4⟩, a4, a5, a6, a7, a8, a9⟩
    have hLg := ho _ (.head _)
    have nT : T ≠ Lg → s.heap.get? T = none := fun n => by
      cases q : s.heap.get? T with
      | none => rfl
      | some o => rw [e3 T o n q] at a5; cases a5
    have nTL : T ≠ Lg := fun z => by rw [z, e5] at a5; cases a5
    refine ⟨T, own', t, u, b, a1, a2, ⟨h', tk, by rw [e0], fun b o n e => ?_⟩, a4, nT nTL, a6, fun p hp => ?_, a8, a9⟩
    · have n1 := Ne.symm (n _ (.head _))
      refine e4 b o n1 (fun z => ?_) (fun z => ?_) (e3 b o n1 e)
      · rw [z, e1] at e; cases e
      · rw [z, e2] at e; cases e
    · rcases a7 p hp with h | h | h
      · exact .inl ⟨_, .head _, h.symm⟩
      · exact .inr (h ▸ e1)
      · exact .inr (h ▸ e2)
end
end Mine
end
-- PX6
section
set_option maxRecDepth 100000
set_option maxHeartbeats 4000000
open PySem PySem.Calls PySem.W PySem.W.X PyProof.Rows
namespace Mine
theorem letGo_gen {M : Model} {A : Around} {E : Value → Shared → Prop} {target : Expr} {a : Addr} {o : Obj} {v : Value} {Q' : Unit → Shared → Prop} {s' : Shared} (ho : s'.heap.get? a = some o) (hc : o.cls = .type "generator") {vs : Array Value} (hd : o.data = .fields vs) (h : Q' () s') :
    wpAny M A (letOwnedTupleGo target (.ref a) v) Q' E s' := by
  unfold letOwnedTupleGo
  cases target <;> first
    | exact wpAny_pure h
    | (cases v <;> first
        | exact wpAny_pure h
        | (refine wpAny_bind (wpAny_load ho ?_)
           rw [hc, hd]
           exact wpAny_pure h))
theorem bare_set {gs : Array GenState} {g : Nat} {x y : GenState} (h : AllBare gs) (hy : y.bare = true) : AllBare ((gs.setIfInBounds g x).setIfInBounds g y) := by
  intro z hz
  rw [Array.setIfInBounds_setIfInBounds] at hz
  rcases Array.mem_or_eq_of_mem_setIfInBounds hz with h1 | rfl
  · exact h z h1
  · exact hy
section
variable {prog : Program} {w : World} {A : Around} {E : Value → Shared → Prop} {s : Shared} {env : Env} {h₀ : Heap} {target : Expr} {body : List Stmt} {Q : Flow → Shared → Prop} {bs : List Bool}
def GTurnPost (h₀ : Heap) (L : Addr) (P : (Str → Option Value) → Prop) (rest : List (Addr × Obj)) (Q : Flow → Shared → Prop) (s₁ : Shared) (f : Flow) (s₂ : Shared) : Prop :=
  match f with
  | .next | .cont => ∃ h' tk m', s₂ = { s₁ with heap := h', toks := tk } ∧ Fr h₀ L h' m' ∧ News h₀ L h' rest ∧ P m'
  | .brk => Q .next s₂
  | .ret v => Q (.ret v) s₂
/-- a loop over the items of a generator -/
theorem loop_gen {a : Addr} {g : Nat} {og : Obj} {gs : GenState} {own led : List (Addr × Obj)} {m₀ : Str → Option Value} {xi xv : Str} {p1 p2 p3 : Pos} {k0} (P : Nat → (Str → Option Value) → Prop)
    (hT : target = .Tuple [.Name xi p1, .Name xv p2] k0 p3) (ki : env.kindOf xi = some .local) (kv : env.kindOf xv = some .local) (hscope : (env.scope.kind == .class || (env.scope.kind == .module && env.locals != env.globals)) = false)
    (hh : A.handled = none) (hlim : h₀.NoLimit) (hroom : A.depth < recursionLimit) (F₀ : Fr h₀ env.locals s.heap m₀) (N₀ : News h₀ env.locals s.heap ((a, og) :: own ++ led)) (hog : ∀ h : Heap, h.get? a = some og → h.IsGen a g) (hgs : s.gens[g]? = some gs)
    (hG : GenSt prog w h₀ bs bs.length 0 gs own) (d1 : ∀ p ∈ own, p.1 ≠ a) (d2 : ∀ p ∈ led, p.1 ≠ a) (d3 : ∀ p ∈ led, ∀ q ∈ own, p.1 ≠ q.1) (h0 : P 0 m₀)
    (turn : ∀ i b t u m h tk gens rest, bs[i]? = some b → P i m → (AllBare s.gens → AllBare gens) → Fr h₀ env.locals h (fun y => if y = xv then some (.str ⟨#[signC b]⟩ u) else if y = xi then some (.int (i : Nat) t) else m y) → News h₀ env.locals h rest → (∀ p ∈ led, p ∈ rest) →
      wpAny (model prog w) A (execs body env) (GTurnPost h₀ env.locals (P (i + 1)) rest Q { s with heap := h, toks := tk, gens := gens }) E { s with heap := h, toks := tk, gens := gens })
    (done : ∀ m gens h tk, P bs.length m → (AllBare s.gens → AllBare gens) → Fr h₀ env.locals h m → News h₀ env.locals h led → Q .next { s with heap := h, toks := tk, gens := gens }) :
    LoopOwn prog w A env target body Q E (.ref a) s := by
  refine ⟨fun k s' => ∃ i h tk gens m own g0, s' = { s with heap := h, toks := tk, gens := gens } ∧ k = bs.length + 1 - i ∧ i ≤ bs.length ∧ Fr h₀ env.locals h m ∧ News h₀ env.locals h ((a, og) :: own ++ led) ∧
    (∀ p ∈ own, p.1 ≠ a) ∧ (∀ p ∈ led, ∀ q ∈ own, p.1 ≠ q.1) ∧ gens[g]? = some g0 ∧ GenSt prog w h₀ bs (bs.length - i) i g0 own ∧ (AllBare s.gens → AllBare gens) ∧ P i m, bs.length + 1,
    ⟨0, s.heap, s.toks, s.gens, m₀, own, gs, rfl, rfl, Nat.zero_le _, F₀, N₀, d1, d3, hgs, hG, id, h0⟩, ?_⟩
  rintro k s' ⟨i, h, tk, gens, m, own, g0, rfl, rfl, hi, F, N, e1, e3, hg0, hGS, hb, hP⟩
  have hA : A.in1 = arOf A.in1.depth A.in1.units A.in1.guards A.in1.frames := by
    obtain ⟨x1, x2, x3, x4, x5⟩ := A
    cases hh
    rfl
  have Nown : ∀ p ∈ own, h.get? p.1 = some p.2 := fun p hp => (N p (.tail _ (List.mem_append_left _ hp))).1
  have hga := (N _ (.head _)).1
  refine next_genX (g := g) (gs := g0) (s := { s with heap := h, toks := tk, gens := gens }) hh (hlim.keeps F.keep) hroom (hog _ hga) hg0 ?_
  rw [hA]
  by_cases hlt : i < bs.length
  · obtain ⟨left, hleft⟩ : ∃ left, bs.length - i = left + 1 := ⟨bs.length - i - 1, by omega⟩
    rw [hleft] at hGS
    refine wake_mono (hGS _ _ _ _ _ F.keep Nown) ?_
    rintro e s₁ ⟨T, own', t, u, b, ⟨l, kk, c, pp, fs, rfl⟩, hbi, ⟨h₁, tk₁, rfl, hk⟩, hT1, hT2, o1, o2, o3, hG'⟩
    intro hbare
    have nown : ∀ p ∈ own, h₀.get? p.1 = none ∧ p.1 ≠ env.locals := fun p hp => (N p (.tail _ (List.mem_append_left _ hp))).2.symm
    have F1 : Fr h₀ env.locals h₁ m := by
      obtain ⟨oL, a1, a2, hL, a3⟩ := F.ns
      exact ⟨⟨oL, a1, a2, hk _ _ (fun p hp => (nown p hp).2) hL, a3⟩, fun b o e => hk b o (fun p hp z => by rw [← z, (nown p hp).1] at e; cases e) (F.keep b o e), F.above⟩
    have newN : ∀ p ∈ own', h₀.get? p.1 = none ∧ p.1 ≠ env.locals := fun p hp => by
      rcases o2 p hp with ⟨q, hq, eq⟩ | hn
      · exact eq ▸ nown q hq
      · refine ⟨?_, fun z => ?_⟩
        · cases e : h₀.get? p.1 with
          | none => rfl
          | some o => have := F.keep _ _ e; rw [show h.get? p.1 = none from hn] at this; cases this
        · obtain ⟨oL, a1, a2, hL, a3⟩ := F.ns
          rw [← z, show h.get? p.1 = none from hn] at hL; cases hL
    have newD : ∀ b o, h.get? b = some o → (∀ q ∈ own, q.1 ≠ b) → ∀ p ∈ own', p.1 ≠ b := fun b o e n p hp z => by
      rcases o2 p hp with ⟨q, hq, eq⟩ | hn
      · exact n q hq (eq.trans z)
      · rw [z, show h.get? b = none from (z ▸ hn)] at *
        cases e
    have N1 : News h₀ env.locals h₁ ((a, og) :: own' ++ led) := by
      intro p hp
      rcases List.mem_cons.mp hp with rfl | hp
      · have q := N _ (.head _)
        exact ⟨hk _ _ e1 q.1, q.2⟩
      rcases List.mem_append.mp hp with hp | hp
      · exact ⟨o1 p hp, (newN p hp).2, (newN p hp).1⟩
      · have q := N p (.tail _ (List.mem_append_right _ hp))
        exact ⟨hk _ _ (fun r hr z => e3 p hp r hr z.symm) q.1, q.2⟩
    have e1' : ∀ p ∈ own', p.1 ≠ a := newD a _ hga e1
    have e3' : ∀ p ∈ led, ∀ q ∈ own', p.1 ≠ q.1 := fun p hp q hq z => newD p.1 p.2 (N p (.tail _ (List.mem_append_right _ hp))).1 (fun r hr z => e3 p hp r hr z.symm) q hq z.symm
    have hg' : ∀ x, ((gens.setIfInBounds g .running).setIfInBounds g x)[g]? = some x := fun x => by
      have : g < gens.size := by
        rcases Nat.lt_or_ge g gens.size with h | h
        · exact h
        · rw [Array.getElem?_eq_none h] at hg0; cases hg0
      rw [Array.setIfInBounds_setIfInBounds]
      simp [this]
    have hgb : AllBare s.gens → AllBare ((gens.setIfInBounds g .running).setIfInBounds g (End.susp (.ref T) false l kk c pp fs).genState) := fun z => bare_set (hb z) hbare
    obtain ⟨o, nm, qn, q1, q2, q3, q4⟩ := hog _ (N1 _ (.head _)).1
    refine letGo_gen (s' := { s with heap := h₁, toks := tk₁, gens := _ }) q1 q2 q3 ?_
    rw [hT]
    refine wpAny_assign_Tuple (t := T) (s := { s with heap := h₁, toks := tk₁, gens := _ }) hh ⟨_, hT1, rfl, 0, rfl⟩ rfl rfl fun h2 hx2 => ?_
    have k2 : ∀ b o, h₁.get? b = some o → h2.get? b = some o := fun b o e => hx2 b o (Nat.ne_of_lt (Heap.lt_size e)) e
    have F2 : Fr h₀ env.locals h2 m := ⟨F1.ns.keeps k2, fun b o e => k2 _ _ (F1.keep b o e), F1.above⟩
    have N2 : News h₀ env.locals h2 ((a, og) :: own' ++ led) := fun p hp => ⟨k2 _ _ (N1 p hp).1, (N1 p hp).2⟩
    refine wpAny_assignInOrder_more (wpAny_assign_Name (wpAny_storeName_local ki F2.ns (fun h3 n3 b3 => ?_) hscope))
    have F3 := F2.set n3 b3
    have N3 : News h₀ env.locals h3 ((a, og) :: own' ++ led) := fun p hp => ⟨b3.extBut _ _ (N2 p hp).2.1 (N2 p hp).1, (N2 p hp).2⟩
    refine wpAny_assignInOrder_more (wpAny_assign_Name (wpAny_storeName_local kv F3.ns (fun h4 n4 b4 => ?_) hscope))
    have F4 := F3.set n4 b4
    have N4 : News h₀ env.locals h4 ((a, og) :: own' ++ led) := fun p hp => ⟨b4.extBut _ _ (N3 p hp).2.1 (N3 p hp).1, (N3 p hp).2⟩
    refine wpAny_assignInOrder_none ?_
    refine wpAny_mono (turn i b t u m h4 _ _ _ hbi hP hgb F4 N4 (fun p hp => .tail _ (List.mem_append_right _ hp))) (fun f s₃ h₃ => ?_) fun _ _ e => e
    have nx : (∃ h' tk' m', s₃ = { s with heap := h', toks := tk', gens := (gens.setIfInBounds g .running).setIfInBounds g (End.susp (.ref T) false l kk c pp fs).genState } ∧ Fr h₀ env.locals h' m' ∧ News h₀ env.locals h' ((a, og) :: own' ++ led) ∧ P (i + 1) m') →
        ∃ m, m < bs.length + 1 - i ∧ ∃ i h tk gens m' own g0, s₃ = { s with heap := h, toks := tk, gens := gens } ∧ m = bs.length + 1 - i ∧ i ≤ bs.length ∧ Fr h₀ env.locals h m' ∧ News h₀ env.locals h ((a, og) :: own ++ led) ∧
        (∀ p ∈ own, p.1 ≠ a) ∧ (∀ p ∈ led, ∀ q ∈ own, p.1 ≠ q.1) ∧ gens[g]? = some g0 ∧ GenSt prog w h₀ bs (bs.length - i) i g0 own ∧ (AllBare s.gens → AllBare gens) ∧ P i m' := by
      rintro ⟨h', tk', m', e, F', N', p'⟩
      refine ⟨bs.length + 1 - (i + 1), by omega, i + 1, h', tk', _, m', own', _, e, rfl, hlt, F', N', e1', e3', hg' _, ?_, hgb, p'⟩
      rw [show bs.length - (i + 1) = left by omega]
      exact hG'
    cases f with
    | next => exact nx h₃
    | cont => exact nx h₃
    | brk => exact h₃
    | ret v => exact h₃
  · have hin : i = bs.length := by omega
    subst hin
    rw [Nat.sub_self] at hGS
    refine wake_mono (hGS _ _ _ _ _ F.keep Nown) ?_
    rintro e s₁ ⟨rfl, h₁, tk₁, rfl, hk⟩
    refine ⟨rfl, fun h' hk' => ?_⟩
    have kp : ∀ b o, (∀ p ∈ own, p.1 ≠ b) → h.get? b = some o → h'.get? b = some o := fun b o n e => hk' b o (hk b o n e)
    have nown : ∀ p ∈ own, h₀.get? p.1 = none ∧ p.1 ≠ env.locals := fun p hp => (N p (.tail _ (List.mem_append_left _ hp))).2.symm
    have F' : Fr h₀ env.locals h' m := by
      obtain ⟨oL, a1, a2, hL, a3⟩ := F.ns
      exact ⟨⟨oL, a1, a2, kp _ _ (fun p hp => (nown p hp).2) hL, a3⟩, fun b o e => kp b o (fun p hp z => by rw [← z, (nown p hp).1] at e; cases e) (F.keep b o e), F.above⟩
    refine done m _ h' _ hP (fun z => bare_set (hb z) rfl) F' fun p hp => ?_
    have q := N p (.tail _ (List.mem_append_right _ hp))
    exact ⟨kp _ _ (fun r hr z => e3 p hp r hr z.symm) q.1, q.2⟩
end
end Mine
end
-- KX
section
open PySem PySem.Calls PySem.W PySem.W.X PyProof.Rows Mine
set_option maxRecDepth 100000 in
set_option maxHeartbeats 2000000 in
theorem gen_spec (w : World) (bs : List Bool) (t : Tok) (led : List (Addr × Obj)) :
    DefSpec w 264 2 [.str (wordS bs) t] led fun h₀ L m s Q =>
      ∀ a Lg oL og gs h' tk', GenSt PySem.Challenge.rw_wj0064_01.row.prog w h₀ bs bs.length 0 gs [(Lg, oL)] → gs.bare = true → (∀ h : Heap, h.get? a = some og → h.IsGen a s.gens.size) → Fr h₀ L h' m → News h₀ L h' ((a, og) :: (Lg, oL) :: led) → (∀ p ∈ led, p.1 < Lg) → Lg < a →
        Q (.ref a) { s with heap := h', gens := s.gens.push gs, toks := tk' } := by
  unfold DefSpec Ctxt
  k_fill
  intro p loose mean mg mb dp un gd cn cs ca ccd cl outer A₀ base h₀ L m s Q E hB hF hX hN hT1 hcs hdp hun hQ
  refine wpAny_call ?_
  refine' code_genr ?k1 ?k2 ?k3 ?k4 ?k6 ?k7 ?k8 ?k9 ?kD ?_ ?c2 ?c3 ?c4 ?c5
  (case k1 => k_asm); (case k2 => k_asm); (case k3 => k_asm); (case k4 => k_asm); (case k6 => k_is); (case k7 => k_is); (case k8 => ktr_room); (case k9 => exact BindsTo.of_eq rfl); (case c2 => exact rfl); (case c3 => exact rfl); (case c4 => exact rfl)
  case kD => exact locs (by rfl)
  case c5 => decide +kernel
  intro Lg a h₁ oL t1 t2 F1 N1 l1 l2 hab nsL
  refine hQ a Lg oL _ _ h₁ _ ?_ ?_ ?_ F1 N1 l1 l2
  · clear hQ F1 N1 hN
    have nsL' : ∀ h : Heap, h.get? Lg = some oL → h.Ns Lg (fun y => [(("addr" : Str), Value.str (wordS bs) t)].lookup y) := nsL
    clear nsL
    refine gen_start ?_
    intro s dp un gd fr P hk hL hP
    have F : Fr h₀ Lg s.heap _ := ⟨nsL' _ hL, hk, hab⟩
    refine x_func (x_stmt (wpAny_Assign_Name (wpAny_Constant_int (wpAny_storeName_local rfl F.ns (fun h1 n1 b1 => ⟨rfl, ?_⟩)))))
    have F1 := F.set n1 b1
    refine x_stmt (wpAny_Assign_Name (wpAny_Constant_bool (wpAny_storeName_local rfl F1.ns (fun h2 n2 b2 => ⟨rfl, ?_⟩))))
    have F2 := F1.set n2 b2
    refine x_cons (x_for ?_ (by intro _; rfl))
    refine wpAny_Call_NameR ?_
    refine name_B F2 hX (topRead_of hT1) (by k_is) (by boot_by_name) (by decide) ?_
    refine callWith_type1 (spliced_more (ld F2 rfl (spliced_none ?_)))
    refine call_enumerate_str fun h3 he3 hi3 hz3 hk3 => ?_
    refine wpAny_pyIter_enum he3 ?_
    intro p0
    have F3 : Fr h₀ Lg h3 _ := ⟨F2.ns.keeps hk3, fun b o e => hk3 _ _ (F2.keep b o e), F2.above⟩
    have lt2 : Lg < h2.objs.size := F2.ns.lt
    have z2 : h2.objs.size = s.heap.objs.size := by rw [b2.1, b1.1]
    refine gen_loop (itr := h2.objs.size) (xi := "pos") (xv := "ch") (xe := "escape") (bs := bs) (Lg := Lg) (h₀ := h₀) (t0 := t) rfl rfl rfl rfl (by decide) (by decide) (by decide) rfl (Nat.lt_succ_of_lt lt2) lt2 (Nat.succ_ne_self _) ?turn ?fin (fun _ _ _ _ _ => rfl) bs.length 0 (by simp) _ dp un gd fr P ⟨_, _, F3, rfl, he3, ?it⟩ (hP _ _ _ ⟨rfl, ?e1, ?e2, ?e3, ?e4⟩)
    case it => exact (show strIterType (wordS bs) = "str_ascii_iterator" by unfold strIterType; rw [if_pos (wordS_ascii bs)]) ▸ hi3
    case e1 => exact Heap.get?_none_of_le (by rw [← z2]; exact Nat.le_succ _)
    case e2 => exact Heap.get?_none_of_le (by rw [← z2]; exact Nat.le_refl _)
    case e3 => obtain ⟨o, _, _, q, _⟩ := F3.ns; exact ⟨o, q⟩
    case e4 => exact fun b o n e => hk3 _ _ (b2.extBut _ _ n (b1.extBut _ _ n e))
    case fin =>
      intro m s dp un gd fr P he F hP
      refine x_back ?_
      refine x_cons (x_if (wpAny_isTrue_value (ld F he (wpAny_truthy_bool ?_)))  )
      refine x_nil (x_nil ?_)
      exact s_end _ _ _ _ _ _ (Except.ok (.ret .none)) _ rfl (hP _)
    case turn =>
      intro i b t u m s dp un gd fr P h1 h2 h3 F hP
      refine x_cons (x_if (wpAny_isTrue_value (ld F h3 (wpAny_truthy_bool ?_))))
      refine x_cons (x_if (wpAny_isTrue_Compare1 (ld F h2 (wpAny_Constant_str (eq_str (wpAny_truthy_bool ?_))))))
      have hb : ((⟨#[signC b]⟩ : Str) == ("\\" : Str)) = false := by cases b <;> decide
      rw [hb]
      refine x_cons (x_yield rfl rfl rfl ?_ rfl rfl)
      refine wpAny_Tuple_spliced (spliced_more (ld F h1 (spliced_more (ld F h2 (spliced_none ?_)))))
      refine ⟨by show 2 ≤ sizeLine; unfold sizeLine; decide, fun p l kk hk => hP l kk p _ (hk.trans rfl)⟩
  · rfl
  · exact fun h e => ⟨_, _, _, e, rfl, rfl, rfl⟩
end
-- KC
section
open PySem PySem.W PyProof.Rows Mine
local macro_rules | `(tactic| k_all) => `(tactic| assumption)
local macro_rules | `(tactic| walk_at "compareOp NotIn str str") => `(tactic| (k_here; k_dflt (refine Mine.not_in_word (by assumption) ?_)))
set_option maxRecDepth 100000 in
set_option maxHeartbeats 2000000 in
theorem strip_spec (w : World) (bs : List Bool) (t : Tok) (led : List (Addr × Obj)) (h8 : bs.length ≤ 8) :
    DefSpec w 271 5 [.str (wordS bs) t] led fun h₀ L m s Q =>
      ∀ h' tk', Fr h₀ L h' m → News h₀ L h' led → Q (.str (wordS bs) t) { s with heap := h', toks := tk' } := by
  unfold DefSpec Ctxt
  k_fill
  intro p loose mean mg mb dp un gd cn cs ca ccd cl outer A₀ base h₀ L m s Q E hB hF hX hN hT1 hcs hdp hun hQ
  refine wpAny_call ?_
  cell_enter
  k_steps
  exact hQ _ _ (by k_asm) (by k_asm)
local macro_rules | `(tactic| walk_at "call ref") => `(tactic| (k_here; (with_reducible show wpAny _ _ (call (Value.ref 271) _ _) _ _ _); k_dflt (refine' strip_spec _ _ _ _ (by assumption) _ _ _ _ _ _ _ _ _ _ _ _ _ _ _ _ _ _ _ _ _ _ ?k1 ?k2 ?k3 ?k4 ?k5 ?kK ?kd ?ku ?_; (case k1 => k_asm); (case k2 => k_asm); (case k3 => k_asm); (case k4 => k_asm); (case k5 => k_asm); (case kK => exact rfl); (case kd => ktr_room); (case ku => ktr_units); intro h9 tk9 F9 N9; (try dsimp only))))
local macro_rules | `(tactic| walk_at "call ref") => `(tactic| (k_here; (with_reducible show wpAny _ _ (call (Value.ref 264) _ _) _ _ _); k_dflt (refine' gen_spec _ _ _ _ _ _ _ _ _ _ _ _ _ _ _ _ _ _ _ _ _ _ _ _ _ _ ?k1 ?k2 ?k3 ?k4 ?k5 ?kK ?kd ?ku ?_; (case k1 => k_asm); (case k2 => k_asm); (case k3 => k_asm); (case k4 => k_asm); (case k5 => k_asm); (case kK => exact rfl); (case kd => ktr_room); (case ku => ktr_units); intro ga gLg goL gog ggs h9 tk9 gG gB gI F9 N9 gl1 gl2; (try dsimp only))))
local macro_rules | `(tactic| walk_at "exec For") => `(tactic| (k_here; k_dflt (refine for_own ?_ (by intro _; rfl) (by with_unfolding_all passes_own))))
def goC : Int → List Bool → Bool
  | o, [] => o == 0
  | o, true :: r => goC (o + 1) r
  | o, false :: r => if o - 1 < 0 then false else goC (o - 1) r
abbrev checkF (bs : List Bool) : Bool := goC 0 bs
set_option maxRecDepth 100000 in
set_option maxHeartbeats 2000000 in
theorem check_spec (w : World) (bs : List Bool) (t : Tok) (led : List (Addr × Obj)) (h8 : bs.length ≤ 8) :
    DefSpec w 278 10 [.str (wordS bs) t] led fun h₀ L m s Q =>
      ∀ h' tk' gs', (AllBare s.gens → AllBare gs') → Fr h₀ L h' m → News h₀ L h' led → Q (.bool (checkF bs)) { s with heap := h', gens := gs', toks := tk' } := by
  unfold DefSpec Ctxt
  k_fill
  intro p loose mean mg mb dp un gd cn cs ca ccd cl outer A₀ base h₀ L m s Q E hB hF hX hN hT1 hcs hdp hun hQ
  refine wpAny_call ?_
  cell_enter
  k_steps
  rename_i g' L' h1 FG B' X' T' tk2 h2 tk3 h3 h4 F' N' ga gLg goL gog ggs h9 tk9 gG gB gI F9 N9 gl1 gl2
  refine wpAny_pyIter_gen (gI _ (N9 _ (.head _)).1) ?_
  refine loop_gen (xi := "pos") (xv := "ch") (own := [(gLg, goL)]) (led := led) (g := s.gens.size) (gs := ggs) (fun i m => ∃ (o : Int) (t : Tok), m "opens" = some (.int o t) ∧ 0 ≤ o ∧ o ≤ (i : Int) ∧ checkF bs = goC o (bs.drop i))
    rfl rfl rfl rfl rfl T'.nolimit (by ktr_room) F9 N9 gI ?e1 gG ?e2 ?e3 ?e4 ⟨0, _, rfl, Int.le_refl _, Int.le_refl _, rfl⟩ ?turn ?done
  case e1 => simp
  case e2 =>
    intro q hq
    cases List.mem_singleton.mp hq
    exact Nat.ne_of_lt gl2
  case e3 => exact fun q hq => Nat.ne_of_lt (Nat.lt_trans (gl1 q hq) gl2)
  case e4 =>
    intro q hq r hr
    cases List.mem_singleton.mp hr
    exact Nat.ne_of_lt (gl1 q hq)
  case done =>
    rintro m gens h tk ⟨o, t, ho, o1, o2, hc⟩ hb F N
    obtain ⟨m', rfl⟩ : ∃ m', m = fun y : Str => if y = ("opens" : Str) then some (.int o t) else m' y := ⟨m, by funext y; by_cases e : y = ("opens" : Str) <;> simp [e, ho]⟩
    clear F9 N9 F' N'
    k_steps
    rw [List.drop_length] at hc
    rename Fr h₀ L _ _ => kF
    rename News h₀ L _ _ => kN
    have := hQ h (tk + 1) gens (fun z => hb (z.push gB)) kF kN
    rw [hc] at this
    exact this
  case turn =>
    rintro i b t u m h tk gens rest hbi ⟨o, t', ho, o1, o2, hc⟩ hb F N hrest
    obtain ⟨m', rfl⟩ : ∃ m', m = fun y : Str => if y = ("opens" : Str) then some (.int o t') else m' y := ⟨m, by funext y; by_cases e : y = ("opens" : Str) <;> simp [e, ho]⟩
    clear F9 N9 F' N'
    have hi : i < bs.length := by
      rcases Nat.lt_or_ge i bs.length with z | z
      · exact z
      · rw [List.getElem?_eq_none z] at hbi; cases hbi
    have hd1 : bs.drop i = b :: bs.drop (i + 1) := by
      rw [List.drop_eq_getElem_cons hi]
      rw [List.getElem?_eq_getElem hi] at hbi
      rw [Option.some.inj hbi]
    rw [hd1] at hc
    cases b
    · k_steps
      · rename o - 1 < 0 => ho1
        dsimp only
        unfold GTurnPost
        dsimp only
        k_steps
        rename Fr h₀ L _ _ => kF
        rename News h₀ L _ _ => kN
        have hf : checkF bs = false := by rw [hc]; show (if o - 1 < 0 then false else _) = false; rw [if_pos ho1]
        have := hQ _ tk gens (fun z => hb (z.push gB)) kF (news_sub kN hrest)
        rw [hf] at this
        exact this
      · rename ¬ (o - 1 < 0) => ho1
        have hf : checkF bs = goC (o - 1) (bs.drop (i + 1)) := by rw [hc]; show (if o - 1 < 0 then false else _) = _; rw [if_neg ho1]
        refine ⟨_, _, _, rfl, by k_asm, by k_asm, o - 1, _, rfl, by omega, by omega, hf⟩
    · k_steps
      refine ⟨_, _, _, rfl, by k_asm, by k_asm, o + 1, _, rfl, by omega, by omega, hc⟩
end
-- KT
section
open PySem PySem.W PyProof.Rows Mine
local macro_rules | `(tactic| k_all) => `(tactic| assumption)
local macro_rules | `(tactic| walk_at "exec For Name Call cons nil") => `(tactic| (k_here; k_dflt (refine for_own ?_ (by intro _; rfl) (by with_unfolding_all passes_own))))
local macro_rules | `(tactic| walk_at "call builtin:len") => `(tactic| (k_here; (with_reducible show wpAny _ _ (call (Value.builtin "len") [Value.str (wordS _) _]) _ _ _); k_dflt (refine' Mine.len_word ?k1 ?_; (case k1 => assumption))))
local macro_rules | `(tactic| walk_at "subscriptTail") => `(tactic| (k_here; (with_reducible show wpAny _ _ (subscriptTail _ _ (Value.str (wordS _) _) (Value.ref _)) _ _ _); k_dflt (first
  | (refine' Mine.tail_lo ?h8 ?hi ?F ?N ?_ ?hs ?ht; (case h8 => assumption); (case hi => assumption); (case F => k_asm); (case N => k_asm); (case hs => with_unfolding_all rfl); (case ht => intro _; rfl); k_whole; intro h' t' k' F' N')
  | (refine' Mine.tail_hi ?h8 ?hi ?F ?N ?_ ?hs ?ht; (case h8 => assumption); (case hi => assumption); (case F => k_asm); (case N => k_asm); (case hs => with_unfolding_all rfl); (case ht => intro _; rfl); k_whole; intro h' t' k' F' N'))))
local macro_rules | `(tactic| walk_at "binaryOp Add str str") => `(tactic| (k_here; k_dflt (refine' Mine.add_word ?ha ?hb ?_; (case ha => simp only [List.length_drop, List.length_take]; omega); (case hb => simp only [List.length_drop, List.length_take]; omega); k_whole; intro t' k')))
local macro_rules | `(tactic| walk_at "call ref") => `(tactic| (k_here; (with_reducible show wpAny _ _ (call (Value.ref 278) _ _) _ _ _); k_dflt (refine' check_spec _ _ _ _ ?kh _ _ _ _ _ _ _ _ _ _ _ _ _ _ _ _ _ _ _ _ _ _ ?k1 ?k2 ?k3 ?k4 ?k5 ?kK ?kd ?ku ?_; (case kh => (simp only [List.length_append, List.length_drop, List.length_take]; omega)); (case k1 => k_asm); (case k2 => k_asm); (case k3 => k_asm); (case k4 => k_asm); (case k5 => k_asm); (case kK => exact rfl); (case kd => ktr_room); (case ku => ktr_units); intro h9 tk9 gs9 gB F9 N9; (try dsimp only))))
def rot (k : Nat) (bs : List Bool) : List Bool := bs.drop k ++ bs.take k
def turnF (bs : List Bool) : List Bool := match (List.range bs.length).find? (fun k => checkF (rot k bs)) with
  | some k => rot k bs
  | none => bs
theorem turnF_hit {bs : List Bool} {i : Nat} (hi : i < bs.length) (h : ∀ j, j < i → checkF (rot j bs) = false) (e : checkF (rot i bs) = true) : turnF bs = rot i bs := by
  have : (List.range bs.length).find? (fun k => checkF (rot k bs)) = some i := by
    rw [List.find?_range_eq_some]
    exact ⟨e, List.mem_range.mpr hi, fun j hj => by rw [h j hj]; rfl⟩
  unfold turnF
  rw [this]
theorem turnF_none {bs : List Bool} (h : ∀ j, j < bs.length → checkF (rot j bs) = false) : turnF bs = bs := by
  have : (List.range bs.length).find? (fun k => checkF (rot k bs)) = none := by
    rw [List.find?_range_eq_none]
    exact fun j hj => by rw [h j hj]; rfl
  unfold turnF
  rw [this]
set_option maxRecDepth 100000 in
set_option maxHeartbeats 2000000 in
theorem turn_spec (w : World) (bs : List Bool) (t : Tok) (led : List (Addr × Obj)) (h8 : bs.length ≤ 8) :
    DefSpec w 285 20 [.str (wordS bs) t] led fun h₀ L m s Q =>
      ∀ t h' tk' gs', (AllBare s.gens → AllBare gs') → Fr h₀ L h' m → News h₀ L h' led → Q (.str (wordS (turnF bs)) t) { s with heap := h', gens := gs', toks := tk' } := by
  unfold DefSpec Ctxt
  k_fill
  intro p loose mean mg mb dp un gd cn cs ca ccd cl outer A₀ base h₀ L m s Q E hB hF hX hN hT1 hcs hdp hun hQ
  refine wpAny_call ?_
  cell_enter
  k_steps
  rename_i g' L' h1 FG F1 N1 B' X' T' h2 tk t1 u1 v1 hr F2 N2 hk2
  obtain ⟨m0, em, kF⟩ := frX F2
  obtain ⟨l0, el, kN⟩ := newsX N2
  refine loop_range (fun i m led' gs => (∀ y : Str, y ≠ "k" → m y = m0 y) ∧ led' = l0 ∧ (AllBare s.gens → AllBare gs) ∧ ∀ j, j < i → checkF (rot j bs) = false) rfl kF kN hr (by omega) ⟨fun _ _ => rfl, rfl, id, fun j hj => absurd hj (Nat.not_lt_zero j)⟩ ?turn ?done
  case done =>
    rintro m led' gs h tk ⟨hm, rfl, hb, hc⟩ F N
    obtain ⟨va, rfl⟩ := ups1 hm
    subst em el
    k_steps
    have := hQ t h tk gs hb (by k_asm) (by k_asm)
    rw [turnF_none hc] at this
    exact this
  case turn =>
    rintro i u m led' gs h tk it o hi ⟨hm, rfl, hb, hc⟩ F N hn
    obtain ⟨va, rfl⟩ := ups1 hm
    clear F1 N1 F2 N2 kF kN
    subst em el
    have hi' : i ≤ bs.length := Nat.le_of_lt hi
    k_steps
    · rename checkF _ = true => e1
      have e2 := turnF_hit hi hc e1
      rename AllBare _ → AllBare _ => gB
      unfold Mine.TurnPost
      dsimp only
      k_steps
      rename Fr h₀ L _ _ => kF
      rename News h₀ L _ _ => kN
      have e3 : wordS (List.drop i bs ++ List.take i bs) = wordS (turnF bs) := by rw [e2]; rfl
      rw [e3]
      exact hQ _ _ _ _ (fun z => gB (hb z)) kF (news_sub kN fun q hq => .tail _ hq)
    · rename checkF _ = false => e1
      rename AllBare _ → AllBare _ => gB
      rename Fr _ _ _ _ => kF
      rename News _ _ _ _ => kN
      refine TurnEnd.intro kF kN hn ⟨?_, rfl, fun z => gB (hb z), ?_⟩
      · intro y hy
        exact (if_neg hy).trans (if_neg hy)
      · intro j hj
        rcases Nat.lt_or_eq_of_le (Nat.le_of_lt_succ hj) with z | z
        · exact hc j z
        · rw [z]; exact e1
end
-- PZ
section
set_option maxRecDepth 100000
set_option maxHeartbeats 4000000
open PySem PySem.Calls PySem.W PyProof.Rows
namespace Mine
def nxt (bs : List Bool) : List Bool := (sentS bs).cps.toList.map (· == 40)
def dycks : List (List Bool) := (allW 8).filter fun bs => (bs.length == 6 || bs.length == 8) && checkF bs
def balB (bs : List Bool) : Bool := (List.range bs.length).all fun i => bs[i]? != some false || decide (0 < (stF (bs.take i)).1)
def hstB (bs : List Bool) : Bool := (List.range (closesF bs).length).all fun g => decide (2 * (g : Int) < (closesF bs).getD g 0)
theorem dyck_len : dycks.length = 19 := by decide +kernel
theorem dyck_all : (dycks.all fun bs => decide (bs.length ≤ 8) && balB bs && hstB bs && checkF bs) = true := by decide +kernel
theorem sent_all : (dycks.all fun bs => sentS bs == wordS (nxt bs)) = true := by decide +kernel
theorem next_all : (dycks.all fun bs => dycks.contains (nxt bs)) = true := by decide +kernel
theorem turn_all : ((allW 8).all fun row => !((row.length == 6 || row.length == 8) && 2 * opensIn row == row.length) || dycks.contains (turnF row)) = true := by decide +kernel
def iter (f : List Bool) : Nat → List Bool
  | 0 => f
  | n + 1 => nxt (iter f n)
def areaF (bs : List Bool) : Int := (heightsF bs).sum
def wordsOf (f : List Bool) (n : Nat) : List (List Bool) := (List.range n).map (iter f)
def lawB (ws : List (List Bool)) : Bool :=
  let areas := ws.map areaF
  ws.map (fun w => ((pairsF w : Nat) : Int)) == areas.drop 1 ++ areas.take 1 && areas == (ws.map bouncedF).drop 1 ++ (ws.map bouncedF).take 1
def orbitB (f : List Bool) : Bool := match (List.range 12).find? fun p => iter f (p + 1) == f with
  | some p => lawB (wordsOf f (p + 1))
  | none => false
theorem orbit_all : (dycks.all orbitB) = true := by decide +kernel
end Mine
end
-- PZ2
section
set_option maxRecDepth 100000
set_option maxHeartbeats 4000000
open PySem PySem.Calls PySem.W PyProof.Rows
namespace Mine
structure Dy (bs : List Bool) : Prop where
  mem : bs ∈ dycks
theorem dy_all {bs : List Bool} (h : Dy bs) : (decide (bs.length ≤ 8) && balB bs && hstB bs && checkF bs) = true := List.all_eq_true.mp dyck_all bs h.mem
theorem Dy.len {bs : List Bool} (h : Dy bs) : bs.length ≤ 8 := by
  have := dy_all h
  simp only [Bool.and_eq_true, decide_eq_true_eq] at this
  exact this.1.1.1
theorem Dy.chk {bs : List Bool} (h : Dy bs) : checkF bs = true := by
  have := dy_all h
  simp only [Bool.and_eq_true, decide_eq_true_eq] at this
  exact this.2
theorem Dy.bal {bs : List Bool} (h : Dy bs) : Bal bs := by
  have := dy_all h
  simp only [Bool.and_eq_true, decide_eq_true_eq] at this
  intro i hi e
  have h2 := List.all_eq_true.mp this.1.1.2 i (List.mem_range.mpr hi)
  rw [e] at h2
  simpa using h2
theorem Dy.hst {bs : List Bool} (h : Dy bs) : ∀ g : Nat, g < (closesF bs).length → 2 * (g : Int) < (closesF bs).getD g 0 := by
  have := dy_all h
  simp only [Bool.and_eq_true, decide_eq_true_eq] at this
  intro g hg
  have h2 := List.all_eq_true.mp this.1.2 g (List.mem_range.mpr hg)
  simpa using h2
theorem Dy.sent {bs : List Bool} (h : Dy bs) : sentS bs = wordS (nxt bs) := eq_of_beq (List.all_eq_true.mp sent_all bs h.mem)
theorem Dy.next {bs : List Bool} (h : Dy bs) : Dy (nxt bs) := ⟨by simpa using List.all_eq_true.mp next_all bs h.mem⟩
theorem Dy.iter {bs : List Bool} (h : Dy bs) : ∀ n, Dy (iter bs n)
  | 0 => h
  | n + 1 => (Dy.iter h n).next
theorem turn_dy {row : List Bool} (h : row.length = 6 ∨ row.length = 8) (hc : 2 * opensIn row = row.length) : Dy (turnF row) := ⟨by
  have h8 : row.length ≤ 8 := by omega
  have := List.all_eq_true.mp turn_all row (mem_allW 8 row h8)
  rcases h with h | h
  · simpa [h, hc] using this
  · simpa [h, hc] using this⟩
theorem wordS_inj {a b : List Bool} (e : wordS a = wordS b) : a = b := by
  have h : (a.map signC).toArray = (b.map signC).toArray := congrArg Str.cps e
  have h2 : a.map signC = b.map signC := by simpa using h
  clear h e
  induction a generalizing b with
  | nil => cases b with
    | nil => rfl
    | cons y b => cases h2
  | cons x a ih => cases b with
    | nil => cases h2
    | cons y b =>
      simp only [List.map_cons, List.cons.injEq] at h2
      rw [ih h2.2]
      have : x = y := by cases x <;> cases y <;> simp [signC] at h2 <;> rfl
      rw [this]
theorem orbit {f : List Bool} (h : Dy f) : ∃ p, 1 ≤ p ∧ p ≤ 12 ∧ iter f p = f ∧ (∀ j, 1 ≤ j → j < p → iter f j ≠ f) ∧ lawB (wordsOf f p) = true := by
  have := List.all_eq_true.mp orbit_all f h.mem
  unfold orbitB at this
  split at this
  · rename_i p hp
    rw [List.find?_range_eq_some] at hp
    obtain ⟨e1, e2, e3⟩ := hp
    have := List.mem_range.mp e2
    refine ⟨p + 1, by omega, by omega, eq_of_beq e1, fun j j1 j2 e => ?_, by assumption⟩
    obtain ⟨i, rfl⟩ : ∃ i, j = i + 1 := ⟨j - 1, by omega⟩
    have := e3 i (by omega)
    rw [e] at this
    simp at this
  · cases this
end Mine
end
-- PV
section
set_option maxRecDepth 100000
set_option maxHeartbeats 4000000
open PySem PySem.Calls PySem.W PyProof.Rows
namespace Mine
def signS (b : Bool) : Str := ⟨#[signC b]⟩
section
variable {prog : Program} {w : World} {A : Around} {E : Value → Shared → Prop} {s : Shared} {h₀ : Heap} {L : Addr} {m : Str → Option Value} {news news' : List (Addr × Obj)}
theorem add_size {n : Nat} {t u : Tok} {Q : Value → Shared → Prop} (h : ∀ (sz : Nat) t' tk, sz = 3 ∨ sz = 4 → Q (.int (sz : Nat) t') { s with toks := tk }) : wpAny (model prog w) A (binaryOp .Add (.int 3 t) (.int (((n : Nat) : Int).fmod 2) u)) Q E s := by
  refine PySem.P.add_int ?_
  have h1 : ((n : Nat) : Int).fmod 2 = 0 ∨ ((n : Nat) : Int).fmod 2 = 1 := by
    rw [Int.fmod_eq_emod_of_nonneg _ (by omega)]; omega
  rcases h1 with h1 | h1
  · rw [h1]; exact h 3 _ _ (.inl rfl)
  · rw [h1]; exact h 4 _ _ (.inr rfl)
theorem mul_sign {b : Bool} {sz : Nat} {t u : Tok} {Q : Value → Shared → Prop} (hs : sz = 3 ∨ sz = 4) (h : ∀ t' tk, Q (.str (wordS (List.replicate sz b)) t') { s with toks := tk }) : wpAny (model prog w) A (binaryOp .Mult (.str (signS b) t) (.int (sz : Nat) u)) Q E s := by
  have e : Txt.mul (signS b) (sz : Nat) = wordS (List.replicate sz b) := by rcases hs with rfl | rfl <;> cases b <;> decide +kernel
  refine PySem.SB.mul ?_ (fun t' k => by rw [e]; exact h t' k)
  rcases hs with rfl | rfl <;> cases b <;> (unfold MulOk; decide)
theorem mul_open {sz : Nat} {t u : Tok} {Q : Value → Shared → Prop} (hs : sz = 3 ∨ sz = 4) (h : ∀ t' tk, Q (.str (wordS (List.replicate sz true)) t') { s with toks := tk }) : wpAny (model prog w) A (binaryOp .Mult (.str "(" t) (.int (sz : Nat) u)) Q E s := by
  rw [← sign_open]; exact mul_sign (b := true) hs h
theorem mul_close {sz : Nat} {t u : Tok} {Q : Value → Shared → Prop} (hs : sz = 3 ∨ sz = 4) (h : ∀ t' tk, Q (.str (wordS (List.replicate sz false)) t') { s with toks := tk }) : wpAny (model prog w) A (binaryOp .Mult (.str ")" t) (.int (sz : Nat) u)) Q E s := by
  rw [← sign_close]; exact mul_sign (b := false) hs h
theorem list_word {bs : List Bool} {t : Tok} {Q : Value → Shared → Prop} (hh : A.handled = none) (h8 : bs.length ≤ 8) (F : Fr h₀ L s.heap m) (N : News h₀ L s.heap news)
    (h : ∀ D vs c h' tk, StrsAre vs (bs.map signS) → Fr h₀ L h' m → News h₀ L h' ((D, listOf vs.toArray c) :: news) → (∀ p ∈ news, p.1 < D) → Q (.ref D) { s with heap := h', toks := tk }) :
    wpAny (model prog w) A (call (.type "list") [.str (wordS bs) t]) Q E s := by
  refine call_list_str hh (wordS bs) t (fun h' tk acc' c' hk hS hI => ?_) (len_fits h8)
  have hs : StrsAre acc'.toList (bs.map signS) := by
    obtain ⟨h1, h2⟩ := hI
    rw [wordS_size] at h1
    have key : ∀ (vs : List Value) (cs : List Bool), vs.length = cs.length → (∀ (j : Nat) v, vs[j]? = some v → ∃ b u, cs[j]? = some b ∧ v = Value.str (signS b) u) → StrsAre vs (cs.map signS) := by
      intro vs
      induction vs with
      | nil => intro cs e _; cases cs with
        | nil => exact .nil
        | cons b cs => cases e
      | cons v vs ih => intro cs e hv; cases cs with
        | nil => cases e
        | cons b cs =>
          obtain ⟨b', u, e1, rfl⟩ := hv 0 v rfl
          cases e1
          exact .cons _ _ (ih cs (by simpa using e) fun j v hj => hv (j + 1) v hj)
    refine key _ _ (by simpa using h1) fun j v hj => ?_
    obtain ⟨c, u, e1, rfl⟩ := h2 j v (by simpa using hj)
    obtain ⟨b, e2, rfl⟩ := wordS_at e1
    exact ⟨b, u, e2, rfl⟩
  refine h _ acc'.toList c' h' tk hs (F.keeps hk) (fun p hp => ?_) (fun p hp => Heap.lt_size (N p hp).1)
  rcases List.mem_cons.mp hp with rfl | hp
  · refine ⟨by rw [Array.toArray_toList]; exact hS, Nat.ne_of_gt F.ns.lt, next_is_new F⟩
  · exact ⟨hk _ _ (N p hp).1, (N p hp).2⟩
theorem cut_some : ∀ (vs : List Value) (k : Nat) (y : Value), vs[k]? = some y → kl_cut vs k = some (vs.take k, y, vs.drop (k + 1))
  | [], k, y, h => by cases k <;> cases h
  | x :: r, 0, y, h => by cases h; rfl
  | x :: r, k + 1, y, h => by
    have := cut_some r k y (by simpa using h)
    unfold kl_cut
    rw [this]
    rfl
theorem pop_at {D : Addr} {vs : List Value} {n k : Nat} {i : Int} {u : Tok} {y : Value} {Q : Value → Shared → Prop} (F : Fr h₀ L s.heap m) (N : News h₀ L s.heap news) (hi : i = (k : Nat)) (hk : vs[k]? = some y) (hz : vs.length ≤ 1000)
    (U : PySem.W.Upd D (listOf vs.toArray n) (listOf (vs.eraseIdx k).toArray (n + 1)) news news') (h : ∀ h', Fr h₀ L h' m → News h₀ L h' news' → Q y { s with heap := h' }) : wpAny (model prog w) A (call (.builtin "list.pop") [.ref D, .int i u]) Q E s := by
  have hlt : k < vs.length := (List.getElem?_eq_some_iff.mp hk).1
  subst hi
  rw [List.eraseIdx_eq_take_drop_succ] at U
  refine kl_popAt (its := vs.toArray) (k := k) F N ?_ ?_ (cut_some vs k y hk) U ?_ h
  · unfold Builtin.List.listFitsIndex
    simp
    omega
  · rw [StrLaws.seqIndex_nonneg (by omega) (by simp; omega)]
    simp
  · show vs.length ≤ sizeLine
    unfold sizeLine; omega
theorem slice_from {l : Addr} {vs : List Value} {ks : List Int} {n c : Nat} {u : Tok} {value slice : Expr} {Q : Value → Shared → Prop} (F : Fr h₀ L s.heap m) (N : News h₀ L s.heap news) (hm : (l, listOf vs.toArray c) ∈ news) (hi : IntsAre vs ks) (hz : vs.length ≤ 1000)
    (h : ∀ D zs h', IntsAre zs (ks.drop n) → Fr h₀ L h' m → News h₀ L h' ((D, listOf zs.toArray 0) :: news) → (∀ p ∈ news, p.1 < D) → Q (.ref D) { s with heap := h' })
    (hs : subscripted slice false (.ref l) (.ref s.heap.objs.size) = operate [.ref s.heap.objs.size, .ref l] (getItem (.ref l) (.ref s.heap.objs.size))) (ht : ∀ r, letTemporaryGo value (.ref l) r = pure ()) :
    wpAny (model prog w) A (subscriptTail value slice (.ref l) (.ref s.heap.objs.size)) Q E { s with heap := s.heap.push { cls := .type "slice", data := .fields #[.int (n : Nat) u, .none, .none] } } := by
  refine kmk_slice F N (News.isList N hm) (IsPart.int _ _) IsPart.none (fun D h' F' N' l1 => ?_) hs ht (by rw [List.size_toArray]; unfold sizeLine; omega)
  refine h D (slicePick vs.toArray (some ((n : Nat) : Int)) none none).toList h' ?_ F' (by rw [Array.toArray_toList]; exact N') l1
  have := kmk_from (x := ((n : Nat) : Int)) hi (by omega)
  rwa [Int.toNat_natCast] at this
theorem len_vals {D : Addr} {vs : List Value} {n : Nat} {Q : Value → Shared → Prop} (N : News h₀ L s.heap news) (hm : (D, listOf vs.toArray n) ∈ news) (hz : vs.length ≤ 1000) (h : Q (.int (vs.length : Nat) (s.toks + 1)) { s with toks := s.toks + 1 + 1 }) : wpAny (model prog w) A (call (.builtin "len") [.ref D]) Q E s := by
  refine Calls.call_len_list (items := vs.toArray) (News.isList N hm) (by rw [List.size_toArray]; omega) ?_
  rw [List.size_toArray]
  exact h
end
theorem abs_list {h₀ h : Heap} {L l : Addr} {vs : List Value} {ks : List Int} {c : Nat} {rest : List (Addr × Obj)} (N : News h₀ L h ((l, listOf vs.toArray c) :: rest)) (hi : IntsAre vs ks) : ∃ vs', IntsAre vs' ks ∧ News h₀ L h ((l, listOf vs'.toArray c) :: rest) := ⟨vs, hi, N⟩
theorem signs_at : ∀ {vs : List Value} {ws : List Bool} {k : Nat} {y : Value}, StrsAre vs (ws.map signS) → vs[k]? = some y → ∃ b u, ws[k]? = some b ∧ y = Value.str (signS b) u
  | _, [], _, _, .nil, h => by cases h
  | _, b :: ws, 0, _, .cons _ u _, h => by cases h; exact ⟨b, u, rfl, rfl⟩
  | _, b :: ws, k + 1, y, .cons _ u r, h => by
    obtain ⟨b', u', e1, e2⟩ := signs_at r (by simpa using h)
    exact ⟨b', u', by simpa using e1, e2⟩
theorem strs_len : ∀ {vs : List Value} {ys : List Str}, StrsAre vs ys → vs.length = ys.length
  | _, _, .nil => rfl
  | _, _, .cons _ _ h => congrArg (· + 1) (strs_len h)
theorem strs_erase : ∀ {vs : List Value} {ws : List Bool} {k : Nat}, StrsAre vs (ws.map signS) → StrsAre (vs.eraseIdx k) ((ws.eraseIdx k).map signS)
  | _, [], _, .nil => .nil
  | _, _ :: _, 0, .cons _ _ r => r
  | _, _ :: _, _ + 1, .cons _ _ r => .cons _ _ (strs_erase r)
theorem opens_erase : ∀ {ws : List Bool} {k : Nat} {b : Bool}, ws[k]? = some b → opensIn (ws.eraseIdx k) + (if b then 1 else 0) = opensIn ws
  | [], _, _, h => by cases h
  | x :: ws, 0, b, h => by
    cases h
    cases x <;> simp [opensIn]
  | x :: ws, k + 1, b, h => by
    have := opens_erase (ws := ws) (k := k) (b := b) (by simpa using h)
    cases x <;> simp [opensIn] at this ⊢ <;> omega
theorem opens_snoc (ws : List Bool) (b : Bool) : opensIn (ws ++ [b]) = opensIn ws + (if b then 1 else 0) := by
  cases b <;> simp [opensIn]
theorem ints_at : ∀ {vs : List Value} {ks : List Int} {i : Nat} {v : Value}, IntsAre vs ks → vs[i]? = some v → ∃ x t, v = Value.int x t
  | _, _, _, _, .nil, h => by cases h
  | _, _, 0, _, .cons x t _, h => by cases h; exact ⟨x, t, rfl⟩
  | _, _, i + 1, v, .cons _ _ r, h => ints_at r (i := i) (by simpa using h)
theorem fmod_at (x : Int) {n : Nat} (h : 0 < n) : ∃ k : Nat, Int.fmod x (n : Nat) = (k : Nat) ∧ k < n := by
  have h1 := fmod_lo x (n := (n : Int)) (by omega)
  have h2 := fmod_hi x (n := (n : Int)) (by omega)
  exact ⟨(Int.fmod x (n : Nat)).toNat, (Int.toNat_of_nonneg h1).symm, by omega⟩
theorem joinS_signs : ∀ (ws : List Bool), ws.length ≤ 8 → joinS (ws.map signS) = wordS ws := by
  intro ws h
  have : ((allW 8).all fun ws => joinS (ws.map signS) == wordS ws) = true := by decide +kernel
  exact eq_of_beq (List.all_eq_true.mp this ws (mem_allW 8 ws h))
def Held (p : Prop) : Prop := p
theorem hold {p : Prop} (h : Held p) : p := h
theorem unhold {p : Prop} (h : p) : Held p := h
section
variable {prog : Program} {w : World} {A : Around} {E : Value → Shared → Prop} {s : Shared}
theorem ne_same {a : List Bool} {t u : Tok} {Q : Value → Shared → Prop} (h : Q (.bool false) s) : wpAny (model prog w) A (compareOp .NotEq (.str (wordS a) t) (.str (wordS a) u)) Q E s := by
  refine ne_str ?_
  have : (wordS a != wordS a) = false := by simp
  rw [this]; exact h
theorem ne_diff {a b : List Bool} {t u : Tok} {Q : Value → Shared → Prop} (e : a ≠ b) (h : Q (.bool true) s) : wpAny (model prog w) A (compareOp .NotEq (.str (wordS a) t) (.str (wordS b) u)) Q E s := by
  refine ne_str ?_
  have : (wordS a != wordS b) = true := by rw [bne_iff_ne]; exact fun z => e (wordS_inj z)
  rw [this]; exact h
end
theorem words_succ (f : List Bool) (n : Nat) : wordsOf f (n + 1) = wordsOf f n ++ [iter f n] := by
  unfold wordsOf
  rw [List.range_succ, List.map_append]
  rfl
theorem words_at : ∀ {vs : List Value} {ws : List (List Bool)} {k : Nat} {y : Value}, StrsAre vs (ws.map wordS) → vs[k]? = some y → ∃ b u, ws[k]? = some b ∧ y = Value.str (wordS b) u
  | _, [], _, _, .nil, h => by cases h
  | _, b :: ws, 0, _, .cons _ u _, h => by cases h; exact ⟨b, u, rfl, rfl⟩
  | _, b :: ws, k + 1, y, .cons _ u r, h => by
    obtain ⟨b', u', e1, e2⟩ := words_at r (by simpa using h)
    exact ⟨b', u', by simpa using e1, e2⟩
theorem ints_take {ys : List Value} {ws : List (List Bool)} {f : List Bool → Int} {j : Nat} {b : List Bool} {t : Tok} (h : IntsAre ys ((ws.take j).map f)) (e : ws[j]? = some b) : IntsAre (ys ++ [.int (f b) t]) ((ws.take (j + 1)).map f) := by
  rw [List.take_add_one, e, List.map_append]
  exact ints_snoc h
theorem words_dy {f : List Bool} (h : Dy f) {n j : Nat} {b : List Bool} (e : (wordsOf f n)[j]? = some b) : Dy b := by
  unfold wordsOf at e
  rw [List.getElem?_map] at e
  obtain ⟨i, _, rfl⟩ := Option.map_eq_some_iff.mp e
  exact h.iter i
section
variable {prog : Program} {w : World} {A : Around} {E : Value → Shared → Prop} {s : Shared} {h₀ : Heap} {L : Addr} {m : Str → Option Value} {news : List (Addr × Obj)}
theorem slice_one {l : Addr} {vs : List Value} {ks : List Int} {c : Nat} {u : Tok} {value slice : Expr} {Q : Value → Shared → Prop} (F : Fr h₀ L s.heap m) (N : News h₀ L s.heap news) (hm : (l, listOf vs.toArray c) ∈ news) (hi : IntsAre vs ks) (hz : vs.length ≤ 1000)
    (h : ∀ D zs h', IntsAre zs (ks.drop 1) → Fr h₀ L h' m → News h₀ L h' ((D, listOf zs.toArray 0) :: news) → (∀ p ∈ news, p.1 < D) → Q (.ref D) { s with heap := h' })
    (hs : subscripted slice false (.ref l) (.ref s.heap.objs.size) = operate [.ref s.heap.objs.size, .ref l] (getItem (.ref l) (.ref s.heap.objs.size))) (ht : ∀ r, letTemporaryGo value (.ref l) r = pure ()) :
    wpAny (model prog w) A (subscriptTail value slice (.ref l) (.ref s.heap.objs.size)) Q E { s with heap := s.heap.push { cls := .type "slice", data := .fields #[.int 1 u, .none, .none] } } :=
  slice_from (n := 1) F N hm hi hz h hs ht
theorem slice_end {l : Addr} {vs : List Value} {ks : List Int} {c : Nat} {u : Tok} {value slice : Expr} {Q : Value → Shared → Prop} (F : Fr h₀ L s.heap m) (N : News h₀ L s.heap news) (hm : (l, listOf vs.toArray c) ∈ news) (hi : IntsAre vs ks) (hz : vs.length ≤ 1000)
    (h : ∀ D zs h', IntsAre zs (ks.take 1) → Fr h₀ L h' m → News h₀ L h' ((D, listOf zs.toArray 0) :: news) → (∀ p ∈ news, p.1 < D) → Q (.ref D) { s with heap := h' })
    (hs : subscripted slice false (.ref l) (.ref s.heap.objs.size) = operate [.ref s.heap.objs.size, .ref l] (getItem (.ref l) (.ref s.heap.objs.size))) (ht : ∀ r, letTemporaryGo value (.ref l) r = pure ()) :
    wpAny (model prog w) A (subscriptTail value slice (.ref l) (.ref s.heap.objs.size)) Q E { s with heap := s.heap.push { cls := .type "slice", data := .fields #[.none, .int 1 u, .none] } } := by
  refine kmk_slice F N (News.isList N hm) IsPart.none (IsPart.int _ _) (fun D h' F' N' l1 => ?_) hs ht (by rw [List.size_toArray]; unfold sizeLine; omega)
  refine h D (slicePick vs.toArray none (some 1) none).toList h' ?_ F' (by rw [Array.toArray_toList]; exact N') l1
  have := kssn_any (lo := none) (hi := some 1) hi
  have e : (ks.drop (kms_lo none ks.length)).take (kms_hi (some 1) ks.length - kms_lo none ks.length) = ks.take 1 := by
    have e1 : kms_lo none ks.length = 0 := rfl
    have e2 : kms_hi (some 1) ks.length = min 1 ks.length := by simp [kms_hi]
    rw [e1, e2, List.drop_zero, Nat.sub_zero]
    cases ks with
    | nil => rfl
    | cons x r => simp
  rwa [e] at this
end
end Mine
end
-- LAW
section
open PySem PySem.W PyProof.Rows Mine
local macro_rules | `(tactic| k_all) => `(tactic| assumption)
local macro_rules | `(tactic| k_ne) => `(tactic| (refine neN ?_; (try dsimp only); first | with_reducible assumption | exact Ne.symm (by with_reducible assumption) | omega))
local macro_rules | `(tactic| walk_at "binaryOp Add int int") => `(tactic| (k_here; (with_reducible show wpAny _ _ (binaryOp _ (Value.int 3 _) (Value.int (Int.fmod _ _) _)) _ _ _); k_dflt (refine Mine.add_size ?_); intro sz t' tk' hsz))
local macro_rules | `(tactic| walk_at "binaryOp Mult str int") => `(tactic| (k_here; (with_reducible show wpAny _ _ (binaryOp _ (Value.str (PySem.Str.ofString "(") _) _) _ _ _); k_dflt (refine Mine.mul_open (by assumption) ?_); intro t' tk'))
local macro_rules | `(tactic| walk_at "binaryOp Mult str int") => `(tactic| (k_here; (with_reducible show wpAny _ _ (binaryOp _ (Value.str (PySem.Str.ofString ")") _) _) _ _ _); k_dflt (refine Mine.mul_close (by assumption) ?_); intro t' tk'))
local macro_rules | `(tactic| walk_at "binaryOp Add str str") => `(tactic| (k_here; k_dflt (refine' Mine.add_word ?ha ?hb ?_; (case ha => simp only [List.length_replicate]; omega); (case hb => simp only [List.length_replicate]; omega); k_whole; intro t' k')))
local macro_rules | `(tactic| walk_at "eval ListComp") => `(tactic| (k_here; k_dflt (refine LCg.ListComp_U (F₀ := by k_asm) (by with_unfolding_all rfl) (by decide) (by rfl) (by decide) (by rfl) ?_)))
local macro_rules | `(tactic| walk_at "call builtin:len") => `(tactic| (k_here; (with_reducible show wpAny _ _ (call _ [Value.ref _]) _ _ _); k_dflt (refine' Mine.len_vals ?N ?m ?z ?_; (case N => k_asm); (case m => k_mem); (case z => assumption))))
local macro_rules | `(tactic| walk_at "call ref") => `(tactic| (k_here; (with_reducible show wpAny _ _ (call (Value.ref 285) _ _) _ _ _); k_dflt (refine' turn_spec _ _ _ _ ?kh _ _ _ _ _ _ _ _ _ _ _ _ _ _ _ _ _ _ _ _ _ _ ?k1 ?k2 ?k3 ?k4 ?k5 ?kK ?kd ?ku ?_; (case kh => (first | assumption | omega)); (case k1 => k_asm); (case k2 => k_asm); (case k3 => k_asm); (case k4 => k_asm); (case k5 => k_asm); (case kK => exact rfl); (case kd => ktr_room); (case ku => ktr_units); intro t9 h9 tk9 gs9 gB9 F9 N9; (try dsimp only))))
local macro_rules | `(tactic| walk_at "call ref") => `(tactic| (k_here; (with_reducible show wpAny _ _ (call (Value.ref 290) _ _) _ _ _); refine Mine.hold ?_))
local macro_rules | `(tactic| walk_at "exec While") => `(tactic| (k_here; k_dflt (refine while_own ?_ (by with_unfolding_all passes_own))))
local macro_rules | `(tactic| walk_at "exec While Compare") => `(tactic| (k_here; k_dflt (refine while_own ?_ (by with_unfolding_all passes_own))))
local macro_rules | `(tactic| walk_at "compareOp NotEq str str") => `(tactic| (k_here; k_dflt (first | refine Mine.ne_diff (by assumption) ?_ | refine Mine.ne_same ?_)))
local macro_rules | `(tactic| walk_at "call ref") => `(tactic| (k_here; (with_reducible show wpAny _ _ (call (Value.ref 278) _ _) _ _ _); k_dflt (refine' check_spec _ _ _ _ ?kh _ _ _ _ _ _ _ _ _ _ _ _ _ _ _ _ _ _ _ _ _ _ ?k1 ?k2 ?k3 ?k4 ?k5 ?kK ?kd ?ku ?_; (case kh => assumption); (case k1 => k_asm); (case k2 => k_asm); (case k3 => k_asm); (case k4 => k_asm); (case k5 => k_asm); (case kK => exact rfl); (case kd => ktr_room); (case ku => ktr_units); intro h9 tk9 gs9 gB9 F9 N9; (try dsimp only))))
local macro_rules | `(tactic| walk_at "call builtin:list.append") => `(tactic| (k_here; (with_reducible show wpAny _ _ (call (Value.builtin _) [Value.ref _, _]) _ _ _); k_dflt (refine' append_K ?k1 ?k2 ?k3 ?_ ?z; (case k1 => k_asm); (case k2 => k_asm); (case k3 => k_upd); (case z => (simp only [List.size_toArray, Array.size_push]; unfold sizeLine; omega)); k_whole); intro h' F' N'; (try k_sweep)))
local macro_rules | `(tactic| walk_at "call ref") => `(tactic| (k_here; (with_reducible show wpAny _ _ (call (Value.ref 295) _ _) _ _ _); k_dflt (refine' heights_spec _ _ _ _ ?kh _ _ _ _ _ _ _ _ _ _ _ _ _ _ _ _ _ _ _ _ _ _ ?k1 ?k2 ?k3 ?k4 ?k5 ?kK ?kd ?ku ?_; (case kh => assumption); (case k1 => k_asm); (case k2 => k_asm); (case k3 => k_asm); (case k4 => k_asm); (case k5 => k_asm); (case kK => exact rfl); (case kd => ktr_room); (case ku => ktr_units); intro hr9 hres9 h9 tk9 hi9 F9 N9 hn9; (try dsimp only))))
local macro_rules | `(tactic| walk_at "call ref") => `(tactic| (k_here; (with_reducible show wpAny _ _ (call (Value.ref 300) _ _) _ _ _); k_dflt (refine' pairs_spec _ _ _ _ ?kh _ _ _ _ _ _ _ _ _ _ _ _ _ _ _ _ _ _ _ _ _ _ ?k1 ?k2 ?k3 ?k4 ?k5 ?kK ?kd ?ku ?_; (case kh => assumption); (case k1 => k_asm); (case k2 => k_asm); (case k3 => k_asm); (case k4 => k_asm); (case k5 => k_asm); (case kK => exact rfl); (case kd => ktr_room); (case ku => ktr_units); intro t9 h9 tk9 F9 N9; (try dsimp only))))
local macro_rules | `(tactic| walk_at "call ref") => `(tactic| (k_here; (with_reducible show wpAny _ _ (call (Value.ref 305) _ _) _ _ _); k_dflt (refine' bounced_spec _ _ _ _ ?kh (by assumption) _ _ _ _ _ _ _ _ _ _ _ _ _ _ _ _ _ _ _ _ _ _ ?k1 ?k2 ?k3 ?k4 ?k5 ?kK ?kd ?ku ?_; (case kh => assumption); (case k1 => k_asm); (case k2 => k_asm); (case k3 => k_asm); (case k4 => k_asm); (case k5 => k_asm); (case kK => exact rfl); (case kd => ktr_room); (case ku => ktr_units); intro t9 h9 tk9 F9 N9; (try dsimp only))))
local macro_rules | `(tactic| walk_at "exec Assign cons ListComp") => `(tactic| (k_here; k_dflt (refine LCg.Assign_ListComp_U (F₀ := by k_asm) (by rfl) (by with_unfolding_all rfl) (by with_unfolding_all rfl) (by decide) (by rfl) (by decide) (by rfl) (by rfl) (by rfl) ?_)))
local macro_rules | `(tactic| walk_at "CompSrc") => `(tactic| (k_here; refine Mine.hold ?_))
local macro_rules | `(tactic| walk_at "call type:list") => `(tactic| (k_here; (with_reducible show wpAny _ _ (call _ [Value.str (wordS _) _]) _ _ _); k_dflt (refine' Mine.list_word ?h ?h8 ?F ?N ?_; (case h => exact rfl); (case h8 => simp only [List.length_append, List.length_replicate]; omega); (case F => k_asm); (case N => k_asm); k_whole); intro D' vs' c' h' tk' hvs' F' N' l1; (try k_lt l1)))
set_option maxRecDepth 100000 in
set_option maxHeartbeats 4000000 in
theorem Mine.lawT : PySem.Challenge.rw_wj0064_01.Holds := hd (by
  k_fill
  intro w s₀ s₁ mg mb G Y fa o pm cd doc dV kV ho hdd hcd hD hmg hg args vals as hpre hlay hrd hwl hlo
  have KX := km_in_of Y
  have hT8 := km_tabs_of Y
  have X := (Ground.X G).1
  have V := (Ground.X G).2
  refine Ground.open G ?_
  intro T B D TE TW
  try (refine guard_noD D (by decide +kernel) ?_; clear D)
  have hT9 : TabsAt [(219, 215)] s₁.heap := List.forall_mem_cons.mpr ⟨⟨codeHd_of_K (c := 219) (P := 215) KX (codeHd_len w), hT8 215 (.head _)⟩, fun _ h => nomatch h⟩
  clear hmg
  wrow_args hpre hlay hrd hwl hlo
  first | refine callC_kw (enter_call ?_) | refine enter_call ?_
  w_top on
  refine post_law hT9 (fun _ => rfl) (by first | rfl | wrow_post) ?_
  w_call any ho hdd hcd hD T F
  clear hdd
  have hO : s₁.os = s₁.os := rfl
  kn_ghosts F T
  k_drop
  skip
  (try k_fold)
  rename_i ns _ _ _ _ _ _ _ sa sv _ hL0 _ _ _ hI _ hlen _ h1 tk1 oc hoc hX0 hX hT hB hF hN l0
  have hn63 : ns.length ≤ 63 := by omega
  clear hT8 hT9 X V T B TE TW Y G hO hlen
  generalize ghostOf s₁.heap [(219, 215)] = base at *
  generalize s₁.heap.objs.size = L0 at *
  rename_i z1 z2 z3 z4 z5 z6 z7 z8 z9 z10 z11 z12 z13
  clear z9 z10 z11 z12 z13 z1 z2 z3 z4 z5 z6 z7 z8 ho hcd hD
  iterate 78 (first | (k_unfold; (try dsimp only)) | walk1 | (dsimp only; walk1) | skip)
  rename News _ _ _ _ => kN9
  obtain ⟨zs6, hi6, kN8⟩ := Mine.abs_list kN9 (ks := [6, 7, 10, 3, 8, 5, 4, 1]) (by repeat (first | exact PyProof.Rows.IntsAre.nil | refine PyProof.Rows.IntsAre.cons _ _ ?_))
  clear kN9
  rename Fr _ _ _ _ => kF9
  refine kba_turn (value' := PySem.Expr.Name (PySem.Str.ofString "_") ⟨0, 0, 0, 0⟩) (fun _ => rfl) ?_
  refine' Mine.slice_from (vs := zs6) kF9 kN8 (List.Mem.head _) hi6 ?z ?_ ?s ?t
  case z => (have e9 := hi6.length; simp only [List.length_cons, List.length_nil] at e9; omega)
  case t => (intro _; rfl)
  case s => rfl
  clear kN8 kF9
  intro D' zs' h' hz' F' N' l1
  k_lt l1
  iterate 10 (first | (k_unfold; (try dsimp only)) | walk1 | (dsimp only; walk1) | skip)
  rename IntsAre _ (_ ++ _) => hnum
  have hnn : (List.take 8 ns ++ List.drop ns.length [(6 : Int), 7, 10, 3, 8, 5, 4, 1]).length = 8 := by simp; omega
  generalize List.take 8 ns ++ List.drop ns.length [(6 : Int), 7, 10, 3, 8, 5, 4, 1] = nn at *
  iterate 16 (first | (k_unfold; (try dsimp only)) | walk1 | (dsimp only; walk1) | skip)
  rename_i sz q2 q3 hsz q5 q6 q7 q8 q9 q10 q11 q12 Dl vs cl q16 q17 hvs la q20 oc2 hoc2 Da wa q25 ha1 ha2 ha3 lb lx q31 lc Dn wn q35 ld q37 Dm wm q40 F9 N9 hmI hmC hmL le
  have hwl : wm.length = 2 * sz := by have := hmI.length; rw [this, hmC, hnn]; omega
  generalize List.take (2 * (sz : Int)).toNat nn = nm at *
  have ws9 : wm.length ≤ 8 := by omega
  have lf := le.2.2.2.2
  clear le ld l1 lc lb ha1 ha2 ha3 hi6 hz' hnum hmL hmC hnn hn63
  have kN := news_sub (l' := (Dm, W.listOf wm.toArray 0) :: (Dl, W.listOf vs.toArray cl) :: (L0 + 1, oc2) :: (215, tabObj #[]) :: []) N9 (by
    intro q hq
    simp only [List.mem_cons, List.not_mem_nil, or_false] at hq ⊢
    rcases hq with rfl | rfl | rfl | rfl <;> simp)
  clear N9
  refine LCg.CompSrc.ledger (by rfl) F9 kN (.head _) (by rw [List.size_toArray]; unfold sizeLine; omega) ?_
  intro g
  refine rest_plain (fun i ys news => ∃ vs' c' ws1 ws2, news = (Dm, W.listOf wm.toArray 0) :: (Dl, W.listOf vs'.toArray c') :: (L0 + 1, oc2) :: (215, tabObj #[]) :: [] ∧ StrsAre vs' (List.map signS ws1) ∧ StrsAre ys (List.map signS ws2) ∧ ws1.length + i = 2 * sz ∧ ws2.length = i ∧ opensIn ws1 + opensIn ws2 = sz)
    ⟨vs, cl, List.replicate sz true ++ List.replicate sz false, [], rfl, hvs, .nil, by simp; omega, rfl, by simp [opensIn, List.countP_replicate]⟩ ?_ ?_
  · rintro i ys news v I oI C oC D m₂ h tk E' hi ⟨vs', c', ws1, ws2, rfl, h1, h2, h3, h4, h5⟩ hP hC hx F N off ne
    have hi2 : i < 2 * sz := by simpa [hwl] using hi
    obtain ⟨x, t9, rfl⟩ := ints_at hmI (i := i) (by simpa using hP)
    have hvl := strs_len h1
    rw [List.length_map] at hvl
    have hz : vs'.length ≤ 1000 := by omega
    obtain ⟨k, hk, hkl⟩ := fmod_at x (n := vs'.length) (by omega)
    obtain ⟨y, hy⟩ : ∃ y, vs'[k]? = some y := ⟨_, List.getElem?_eq_getElem hkl⟩
    obtain ⟨b, u, e1, rfl⟩ := signs_at h1 hy
    clear F9 kN hvs
    have off9 := off
    simp only [LCg.Off3, and_true] at off9
    obtain ⟨⟨o0a, o0b, o0c⟩, ⟨o1a, o1b, o1c⟩, ⟨o2a, o2b, o2c⟩, ⟨o3a, o3b, o3c⟩⟩ := off9
    obtain ⟨e1n, e2n, e3n⟩ := ne
    k_steps
    refine' Mine.pop_at (vs := vs') (k := k) ?F ?N hk hy hz ?U ?_
    case F => k_asm
    case N => k_asm
    case U => k_upd
    intro h' F' N'
    k_unfold
    (try dsimp only)
    refine LCg.CompEnd.intro F' N' _ (fun q hq => hq) ?off (.inr ⟨_, .head _, rfl, 0, rfl⟩) ⟨_, _, ws1.eraseIdx k, ws2 ++ [b], rfl, strs_erase h1, ?e2, ?e3, ?e4, ?e5⟩
    case off => (simp only [LCg.Off3, and_true]; exact ⟨⟨o0a, o0b, o0c⟩, ⟨o1a, o1b, o1c⟩, ⟨o2a, o2b, o2c⟩, ⟨o3a, o3b, o3c⟩⟩)
    case e2 => (rw [List.map_append]; exact strs_snoc h2)
    case e3 => (have hk1 : k < ws1.length := (by omega); rw [List.length_eraseIdx_of_lt hk1]; omega)
    case e4 => exact (by simp [h4])
    case e5 => (have := opens_erase e1; rw [opens_snoc]; omega)
  · rintro ys news ⟨vs', c', ws1, ws2, rfl, h1, h2, h3, h4, h5⟩
    clear F9 kN hvs
    have hw8 : ws2.length = 2 * sz := by rw [h4]; simp [hwl]
    k_steps
    rename Fr _ _ _ _ => F8
    rename News _ _ _ _ => N8
    refine Mine.call_joinS N8 (.head _) h2 ⟨?jf⟩ ?_
    case jf => (refine Nat.le_trans (sum_le (B := 1) fun y hy => ?_) (by rw [List.length_map, hw8]; omega); obtain ⟨b, _, rfl⟩ := List.mem_map.mp hy; exact Nat.le_refl 1)
    intro t7 k7
    rw [joinS_signs ws2 (by omega)]
    have dy : Dy (turnF ws2) := by
      have e0 : ws1.length = 0 := by
        rw [List.size_toArray, hwl] at h3
        omega
      have e1 : ws1 = [] := List.eq_nil_of_length_eq_zero e0
      subst e1
      simp [opensIn] at h5
      refine turn_dy (by omega) ?_
      rw [hw8, ← h5]
      rfl
    k_steps
    generalize turnF ws2 = f0 at *
    refine unhold ?_
    rename Fr _ _ _ _ => F8
    rename News _ _ _ _ => N8
    rename_i q1 q2 D4 q4 q5 q6 t9 h9 tk9 gs9 gB9 h11 lw h12 lA h13
    have hb9 : AllBare gs9 := gB9 (by rw [hg]; exact AllBare.empty)
    have n215 : @Ne Nat lw 215 := Nat.ne_of_gt lA.2.2.2.2
    have lB := lA.2.2.2
    clear lA lf la q6 hwl ws9 h1 h2 h3 h4 h5 hw8 hsz hmI hoc2
    have kN := news_sub (l' := (215, tabObj #[]) :: (lw, W.listOf [Value.str (wordS f0) t9].toArray 0) :: []) N8 (by
      intro q hq
      simp only [List.mem_cons, List.not_mem_nil, or_false] at hq ⊢
      rcases hq with rfl | rfl <;> simp)
    clear N8
    refine' sent_spec w f0 t9 #[] [(lw, W.listOf [Value.str (wordS f0) t9].toArray 0)] (by simpa using n215) (.inl rfl) dy.len dy.bal _ _ _ _ _ _ _ _ _ _ _ _ _ _ _ _ _ _ _ _ _ _ ?k1 ?k2 ?k3 ?k4 ?k5 ?kK ?kd ?ku ?_
    case k1 => k_asm
    case k2 => k_asm
    case k3 => k_asm
    case k4 => exact kN
    case k5 => k_asm
    case kK => exact rfl
    case kd => ktr_room
    case ku => ktr_units
    intro t10 h10 tk10 gs10 ps10 hps10 hgs10 F10 N10
    rw [dy.sent]
    clear F8 kN
    k_steps
    rename Fr _ _ _ _ => F8
    rename News _ _ _ _ => N8
    have hb10 : AllBare gs10 := hgs10 hb9
    obtain ⟨m0, em, F8⟩ := frX F8
    obtain ⟨p, p1, p2, p3, p4, p5⟩ := orbit dy
    refine loop_while (k₀ := p) (fun k m led' gs => ∃ (i : Nat) (vs : List Value) (c : Nat) (ps : Array Value) (t : Tok), i + 1 ≤ p ∧ k = p - i ∧ m "word" = some (.str (wordS (iter f0 (i + 1))) t) ∧ (∀ y : Str, y ≠ "word" → m y = m0 y) ∧ led' = (215, tabObj ps) :: (lw, W.listOf vs.toArray c) :: [] ∧ StrsAre vs ((wordsOf f0 (i + 1)).map wordS) ∧ TabOk posLen ps ∧ AllBare gs) F8 N8 ?_ ?_
    · refine ⟨0, [.str (wordS f0) t9], 0, ps10, t10, p1, rfl, ?_, fun _ _ => rfl, rfl, .cons _ _ .nil, hps10, hb10⟩
      rw [em]
      rfl
    · rintro k m led' gs h tk ⟨i, vs, c, ps, t, i1, rfl, hw, hm, rfl, hvs, hps, hbs⟩ F N
      obtain ⟨va, rfl⟩ := ups1 hm
      have ea : va = some (.str (wordS (iter f0 (i + 1))) t) := by dsimp only at hw; rwa [if_pos rfl] at hw
      subst ea
      have hvl := strs_len hvs
      rw [List.length_map, Mine.wordsOf, List.length_map, List.length_range] at hvl
      have hz : vs.length ≤ 1000 := by omega
      have dyi := dy.iter (i + 1)
      have h8i := dyi.len
      clear F8 N8
      subst em
      rcases Nat.lt_or_ge (i + 1) p with hlt | hge
      · have hne := p4 (i + 1) (by omega) hlt
        have n215' : @Ne Nat 215 lw := Ne.symm n215
        k_steps
        · exfalso
          omega
        · rename checkF _ = true => hch
          rename AllBare _ → AllBare _ => gB
          refine' append_K ?k1 ?k2 ?k3 ?_ ?z
          case k1 => k_asm
          case k2 => k_asm
          case k3 => k_upd
          case z => (simp only [List.size_toArray, Array.size_push]; unfold sizeLine; omega)
          intro h' F' N'
          k_steps
          refine unhold ?_
          have hgs9 := gB hbs
          have N8 : News base L0 h' ((215, tabObj ps) :: (lw, W.listOf (vs ++ [Value.str (wordS (iter f0 (i + 1))) t]).toArray (c + 1)) :: []) := by
            rw [← push_list]
            exact N'
          refine' sent_spec w (iter f0 (i + 1)) t ps [(lw, W.listOf (vs ++ [Value.str (wordS (iter f0 (i + 1))) t]).toArray (c + 1))] (by simpa using n215) hps h8i dyi.bal _ _ _ _ _ _ _ _ _ _ _ _ _ _ _ _ _ _ _ _ _ _ ?k1 ?k2 ?k3 ?k4 ?k5 ?kK ?kd ?ku ?_
          case k1 => k_asm
          case k2 => k_asm
          case k3 => k_asm
          case k4 => exact N8
          case k5 => k_asm
          case kK => exact rfl
          case kd => ktr_room
          case ku => ktr_units
          intro t11 h11 tk11 gs11 ps11 hps11 hgs11 F11 N11
          rw [dyi.sent]
          clear N8 N'
          k_steps
          rename Fr _ _ _ _ => F12
          rename News _ _ _ _ => N12
          refine ⟨p - (i + 1), _, _, _, _, _, by omega, rfl, F12, N12, i + 1, _, _, _, _, hlt, rfl, rfl, ?_, rfl, ?_, hps11, hgs11 hgs9⟩
          · intro y hy
            exact (if_neg hy).trans (if_neg hy)
          · rw [words_succ f0 (i + 1), List.map_append]
            exact strs_snoc hvs
        · rename checkF _ = false => hch
          rw [dyi.chk] at hch
          cases hch
      · have hip : i + 1 = p := by omega
        subst hip
        rw [p3] at F
        k_steps
        refine unhold ?_
        rename Fr _ _ _ _ => F8
        rename News _ _ _ _ => N8
        refine LCg.CompSrc.ledger (by rfl) F8 N8 (.tail _ (.head _)) (by rw [List.size_toArray]; unfold sizeLine; omega) ?_
        intro g2
        refine rest_plain (fun j ys news => news = (215, tabObj ps) :: (lw, W.listOf vs.toArray c) :: [] ∧ IntsAre ys (((Mine.wordsOf f0 (i + 1)).take j).map areaF)) ⟨rfl, .nil⟩ ?_ ?_
        · rintro j ys news v I oI C oC D m₂ h2 tk2 E2 hj ⟨rfl, hys⟩ hP hC hx F N off ne
          obtain ⟨b, u, e1, rfl⟩ := words_at hvs (k := j) (by simpa using hP)
          have dyb := words_dy dy e1
          have hb8 := dyb.len
          have off9 := off
          simp only [LCg.Off3, and_true] at off9
          obtain ⟨⟨o0a, o0b, o0c⟩, ⟨o1a, o1b, o1c⟩⟩ := off9
          obtain ⟨e1n, e2n, e3n⟩ := ne
          clear F8 N8
          k_steps
          rename Fr _ _ _ _ => F7
          rename News _ _ _ _ => N7
          refine LCg.CompEnd.intro F7 N7 _ (fun q hq => .tail _ hq) off (.inr ⟨_, .tail _ (.head _), rfl, c, rfl⟩) ⟨rfl, ints_take (f := areaF) hys e1⟩
        · rintro ys news ⟨rfl, hys⟩
          rw [List.take_of_length_le (by simp [Mine.wordsOf, hvl])] at hys
          clear F8 N8
          k_steps
          refine unhold ?_
          rename Fr _ _ _ _ => F8
          rename News _ _ _ _ => N8
          rename_i Da _ _ oa
          refine LCg.CompSrc.ledger (by rfl) F8 N8 (.tail _ (.tail _ (.head _))) (by rw [List.size_toArray]; unfold sizeLine; omega) ?_
          intro g3
          refine rest_plain (fun j zs news => news = (Da, LCg.lst ys) :: (215, tabObj ps) :: (lw, W.listOf vs.toArray c) :: [] ∧ IntsAre zs (((Mine.wordsOf f0 (i + 1)).take j).map fun w => ((pairsF w : Nat) : Int))) ⟨rfl, .nil⟩ ?_ ?_
          · rintro j zs news v I oI C oC D m₂ h2 tk2 E2 hj ⟨rfl, hzs⟩ hP hC hx F N off ne
            obtain ⟨b, u, e1, rfl⟩ := words_at hvs (k := j) (by simpa using hP)
            have dyb := words_dy dy e1
            have hb8 := dyb.len
            have off9 := off
            simp only [LCg.Off3, and_true] at off9
            obtain ⟨⟨o0a, o0b, o0c⟩, ⟨o1a, o1b, o1c⟩, ⟨o2a, o2b, o2c⟩⟩ := off9
            obtain ⟨e1n, e2n, e3n⟩ := ne
            clear F8 N8
            k_steps
            exact ints_take (f := fun w => ((pairsF w : Nat) : Int)) hzs e1
          · rintro zs news ⟨rfl, hzs⟩
            rw [List.take_of_length_le (by simp [Mine.wordsOf, hvl])] at hzs
            clear F8 N8
            k_steps
            refine unhold ?_
            rename Fr _ _ _ _ => F8
            rename News _ _ _ _ => N8
            rename_i Dp _ _ ob
            refine LCg.CompSrc.ledger (by rfl) F8 N8 (.tail _ (.tail _ (.tail _ (.head _)))) (by rw [List.size_toArray]; unfold sizeLine; omega) ?_
            intro g4
            refine rest_plain (fun j us news => news = (Dp, LCg.lst zs) :: (Da, LCg.lst ys) :: (215, tabObj ps) :: (lw, W.listOf vs.toArray c) :: [] ∧ IntsAre us (((Mine.wordsOf f0 (i + 1)).take j).map bouncedF)) ⟨rfl, .nil⟩ ?_ ?_
            · rintro j us news v I oI C oC D m₂ h2 tk2 E2 hj ⟨rfl, hus⟩ hP hC hx F N off ne
              obtain ⟨b, u, e1, rfl⟩ := words_at hvs (k := j) (by simpa using hP)
              have dyb := words_dy dy e1
              have hb8 := dyb.len
              have hst := dyb.hst
              have off9 := off
              simp only [LCg.Off3, and_true] at off9
              obtain ⟨⟨o0a, o0b, o0c⟩, ⟨o1a, o1b, o1c⟩, ⟨o2a, o2b, o2c⟩, ⟨o3a, o3b, o3c⟩⟩ := off9
              obtain ⟨e1n, e2n, e3n⟩ := ne
              clear F8 N8
              k_steps
              exact ints_take (f := bouncedF) hus e1
            · rintro us news ⟨rfl, hus⟩
              rw [List.take_of_length_le (by simp [Mine.wordsOf, hvl])] at hus
              clear F8 N8
              generalize hA : (Mine.wordsOf f0 (i + 1)).map areaF = as at *
              iterate 14 (first | (k_unfold; (try dsimp only)) | walk1 | (dsimp only; walk1) | skip)
              have hl : List.map (fun w => ((pairsF w : Nat) : Int)) (Mine.wordsOf f0 (i + 1)) = List.drop 1 as ++ List.take 1 as ∧ as = List.drop 1 ((Mine.wordsOf f0 (i + 1)).map bouncedF) ++ List.take 1 ((Mine.wordsOf f0 (i + 1)).map bouncedF) := by
                unfold Mine.lawB at p5
                simp only [Bool.and_eq_true, beq_iff_eq, hA] at p5
                exact p5
              have hal : as.length = i + 1 := by rw [← hA]; simp [Mine.wordsOf]
              have hyl : ys.length ≤ 1000 := by have := hys.length; omega
              have hul : us.length ≤ 1000 := by have := hus.length; simp [Mine.wordsOf] at this; omega
              rename Fr _ _ _ _ => F8
              rename News _ _ _ _ => N0
              obtain ⟨l8, el8, N8⟩ := newsX N0
              clear N0
              refine' Mine.slice_one (h₀ := base) (L := L0) (news := l8) ?F ?N ?m hys hyl ?_ ?s ?t
              case F => k_asm
              case N => k_asm
              case m => (rw [el8]; exact .tail _ (.tail _ (.head _)))
              case s => rfl
              case t => (intro _; rfl)
              clear N8 F8
              subst el8
              intro D1 zs1 h1 hz1 F8 N8 l1
              k_lt l1
              iterate 7 (first | (k_unfold; (try dsimp only)) | walk1 | (dsimp only; walk1) | skip)
              rename Fr _ _ _ _ => F8
              rename News _ _ _ _ => N0
              obtain ⟨l8, el8, N8⟩ := newsX N0
              clear N0
              refine' Mine.slice_end (h₀ := base) (L := L0) (news := l8) ?F ?N ?m hys hyl ?_ ?s ?t
              case F => k_asm
              case N => k_asm
              case m => (rw [el8]; exact .tail _ (.tail _ (.tail _ (.head _))))
              case s => rfl
              case t => (intro _; rfl)
              clear N8 F8
              subst el8
              intro D2 zs2 h2' hz2 F8 N8 l2
              k_lt l2
              iterate 4 (first | (k_unfold; (try dsimp only)) | walk1 | (dsimp only; walk1) | skip)
              rotate_left
              · rename ¬_ => hno
                exact absurd hl.1 hno
              iterate 11 (first | (k_unfold; (try dsimp only)) | walk1 | (dsimp only; walk1) | skip)
              have hbl : (List.map bouncedF (Mine.wordsOf f0 (i + 1))).length = i + 1 := by simp [Mine.wordsOf]
              generalize List.map bouncedF (Mine.wordsOf f0 (i + 1)) = bs at *
              rename Fr _ _ _ _ => F8
              rename News _ _ _ _ => N0
              obtain ⟨l8, el8, N8⟩ := newsX N0
              clear N0
              refine' Mine.slice_one (h₀ := base) (L := L0) (news := l8) ?F ?N ?m hus hul ?_ ?s ?t
              case F => k_asm
              case N => k_asm
              case m => (rw [el8]; exact .tail _ (.tail _ (.tail _ (.head _))))
              case s => rfl
              case t => (intro _; rfl)
              clear N8 F8
              subst el8
              intro D3 zs3 h3' hz3 F8 N8 l3
              k_lt l3
              iterate 7 (first | (k_unfold; (try dsimp only)) | walk1 | (dsimp only; walk1) | skip)
              rename Fr _ _ _ _ => F8
              rename News _ _ _ _ => N0
              obtain ⟨l8, el8, N8⟩ := newsX N0
              clear N0
              refine' Mine.slice_end (h₀ := base) (L := L0) (news := l8) ?F ?N ?m hus hul ?_ ?s ?t
              case F => k_asm
              case N => k_asm
              case m => (rw [el8]; exact .tail _ (.tail _ (.tail _ (.tail _ (.head _)))))
              case s => rfl
              case t => (intro _; rfl)
              clear N8 F8
              subst el8
              intro D4' zs4 h4' hz4 F8 N8 l4
              k_lt l4
              iterate 2 (first | (k_unfold; (try dsimp only)) | walk1 | (dsimp only; walk1) | skip)
              rename Fr _ _ _ _ => F8
              rename News _ _ _ _ => N8
              refine ⟨?_, F8.keep, ⟨GrownAt.of (by k_asm) (by k_mem), True.intro⟩, ?_, hbs⟩
              · have hl2 := hl.2
                rw [decide_eq_true hl2]
              · first | exact True.intro | rfl
  )
end
theorem PySem.Challenge.cw_wj0064_01_holds : PySem.Challenge.rw_wj0064_01.Holds :=
  Mine.lawT
