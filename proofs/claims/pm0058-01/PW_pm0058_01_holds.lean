import PyProof.Rows.All
import Wide.All
import OpenK.AllK
import Wide.FinOn
import PySem.Challenge.RW_pm0058_01
set_option Elab.async false
set_option linter.all false
set_option maxRecDepth 100000
set_option maxHeartbeats 8000000
set_option rowWalk.seconds 100000

section
open PySem PySem.W PyProof.Rows
namespace Mine
/-- the plain opening is the library's; the top alone is run by the kernel -/
theorem left_plain {p q : Program} {loose : List Str} {Xt : Shared → Bool} {α : Type} {Yf : Shared → α} {Ya : World → α} {N : Nat} (e : opening p = plainProg p.main.scope.names) (hN : Nat.ble 600 N = true) (f : ∀ s, fenceModules? p s = some s)
    (h : ∀ (w : World) (os : OsState), (topFrom treeTable p w N ⟨boot_heap w.params, #[], boot_drawn, boot_toks, os⟩).map (fun s => (openSeen q loose (importedModules p.main.body) Xt true s, Yf s)) = some (openGood q loose, Ya w)) : LeftO p q loose Xt Yf Ya N := fun w => by
  obtain ⟨s, hs, hv⟩ := Option.map_eq_some_iff.mp (boot_open e hN f w)
  have h9 := h w s.os
  obtain ⟨hp, gs, dr, tk, os⟩ := s
  injection hv with h1 hv
  injection hv with h2 hv
  injection hv with h3 h4
  dsimp only at h1 h2 h3 h4
  subst h1 h2 h3 h4
  unfold openEnds
  rw [hs]
  exact h9
set_option hygiene false in
local macro_rules | `(tactic| o_head (kHook $k $a $p)) => `(tactic| (
  refine holds_open (q := view PySem.Challenge.pw_pm0058_01 [0, 2, 3, 4, 5, 12, 13]) (loose := [Str.ofString "_Accumulator", Str.ofString "insort_right", Str.ofString "bisect_right", Str.ofString "insort_left", Str.ofString "bisect_left"]) (Xt := fun s => xlAt (view PySem.Challenge.pw_pm0058_01 [0, 2, 3, 4, 5, 12, 13]) [] s && recOk (RowW.records (OpenRow.toRowW (OpenLaw.row PySem.Challenge.rw_pm0058_01))) s) (XP := XL (view PySem.Challenge.pw_pm0058_01 [0, 2, 3, 4, 5, 12, 13]) []) (Yf := Hook.obs (kmHook $k $a $p [140, 147])) (Ya := Hook.val (kmHook $k $a $p [140, 147])) (YP := Hook.says (kmHook $k $a $p [140, 147])) (N := 2702) ?hl (Hook.of (kmHook $k $a $p [140, 147])) (Hook.keeps (kmHook $k $a $p [140, 147])) (fun s e => xl_of s (Bool.and_eq_true_iff.mp e).1) XL.keeps (by rfl) (by rfl) (by rfl) (fun s e => recFacts_of (Bool.and_eq_true_iff.mp e).2) (by rfl) (by first | assumption | decide +kernel) (by decide +kernel) ⟨rfl, rfl, rfl, rfl, rfl, by decide +kernel⟩ ?hw ?hc
  (case hl => (refine left_plain (by kernel_rfl) (by decide) (fun s => by kernel_rfl) ?_; intro w os; kernel_rfl))))
open_top hd for PySem.Challenge.rw_pm0058_01
end Mine
end
theorem Mine.top_off : True := by
  w_top off
  trivial
section
open PySem PySem.W PyProof.Rows PySem.Spec PySem.Calls
namespace Mine
/-- an instance of an own class over list: its items, its dict -/
noncomputable abbrev accObj (C da : Addr) (its : List Value) (n : Nat) : Obj := ⟨.ref C, some da, .seq its.toArray n, #[]⟩

theorem inst_of_news {h₀ h : Heap} {L x C dx : Addr} {news : List (Addr × Obj)} {od : Obj} {its : List Value} {n : Nat} (N : News h₀ L h news) (h1 : (x, accObj C dx its n) ∈ news) (h2 : (dx, od) ∈ news) :
    InstAt h x (accObj C dx its n) C (some od) := ⟨(N _ h1).1, rfl, rfl, (N _ h2).1⟩

section
variable {prog : Program} {w : World} {A : Around} {E : Value → Shared → Prop} {s : Shared} {K : Frag} {x C L : Addr} {ox : Obj} {od : Obj} {name : Str} {h₀ : Heap} {m : Str → Option Value} {es : List DictEntry} {n : Nat}

theorem method_builtin {pl : Sem Bool} {Q : Value × List Value → Shared → Prop} {id : String} (F : Fr h₀ L s.heap m) (X₀ : K.In h₀) (I : InstAt s.heap x ox C (some (dictOf es n))) (hg : plainGet K C name = true)
    (hf : findIn K (.ref C) name = some (some (.builtin id))) (ht : typeIn K (.builtin id) = some (.type "method_descriptor")) (hl : getL name es = some none) (h : Q (.builtin id, [.ref x]) s) :
    wpAny (model prog w) A (getMethod (.ref x) name pl) Q E s := by
  have X := X₀.keeps F.keep
  have hcan := PySem.F.canon_object_ga
  unfold getMethod specialOf
  refine wpAny_bind (wpAny_bind (I.type.here ((looks_findIn X (plainGet_of hg).1).here ?_)))
  dsimp only
  rw [hcan, if_neg (by decide)]
  refine wpAny_bind (wpAny_bind (I.type.here ((looks_findIn X (plainGet_of hg).2).here ?_)))
  refine wpAny_bind (wpAny_bind (I.type.here ((looks_findIn X hf).here (wpAny_bind ((looks_typeIn X ht).here ?_)))))
  rw [if_neg (by decide +kernel)]
  refine wpAny_bind (wpAny_loadPart I.at_ ?_)
  have hd := I.dict
  cases e : ox.dict with
  | none => exact wpAny_bind (wpAny_rule (wpAny_pure h))
  | some dx =>
    rw [e] at hd
    refine wpAny_bind (wpAny_bind (wpAny_loadPart hd ?_))
    rw [nsLook_of (by rw [lookIn_dict]; exact hl)]
    refine wpAny_pure ?_
    exact wpAny_bind (wpAny_rule (wpAny_pure h))

theorem check_on {M : Model} {i owner nm : String} {self : Value} {rest : List Value} {kw : List (Str × Value)} {Q : Unit → Shared → Prop}
    (hk : builtinKind i = some .slot ∨ builtinKind i = some .method) (hs : splitId i = some (owner, nm)) (hi : Looks M s.heap (isInstance self (.type owner)) true) (ha : argsOk i ⟨self :: rest, kw⟩) (q : Q () s) :
    wpAny M A (checkBuiltinCall i ⟨self :: rest, kw⟩) Q E s := by
  rcases hk with hk | hk <;>
  · simp only [checkBuiltinCall, hk, hs]
    refine wpAny_bind (hi.here ?_)
    simp only [Bool.not_true, Bool.false_eq_true, if_false]
    cases hsig : Manifest.signature? i with
    | none => exact wpAny_pure q
    | some sig =>
      simp only [argsOk, hsig] at ha
      have h2 : Bind.checkArgs i sig ⟨self :: rest, kw⟩ = pure () := ha
      show wpAny M A (Bind.checkArgs i sig ⟨self :: rest, kw⟩) Q E s
      rw [h2]; exact wpAny_pure q

theorem call_on {i owner nm : String} {b : Builtin} {rest : List Value} {Q : Value → Shared → Prop} {od : Option Obj} (X : K.In s.heap) (I : InstAt s.heap x ox C od)
    (hk : builtinKind i = some .slot ∨ builtinKind i = some .method) (hs : splitId i = some (owner, nm)) (hsub : subIn K (.ref C) (.type owner) = some true) (hp : plainId i = true) (hb : entryFor table i = some b)
    (ha : argsOk i ⟨.ref x :: rest, []⟩) (h : wpAny (model prog w) A.in1 (b ⟨.ref x :: rest, []⟩) (fun fin s' => ∃ v, fin = .done (.ret v) ∧ Q v s') E s) :
    wpAny (model prog w) A (call (.builtin i) (.ref x :: rest)) Q E s := by
  refine wpAny_call (codeAny_call_builtin hp hb (check_on hk hs (I.type.andThen (looks_subIn X hsub)) ha (wpAny_mono h (fun fin s' h' => ?_) fun _ _ h' => h')))
  obtain ⟨v, rfl, hv⟩ := h'; exact hv
end

theorem acc_push (C da : Addr) (its : Array Value) (n : Nat) (v : Value) : Obj.mapSeq (·.push v) ⟨.ref C, some da, .seq its n, #[]⟩ = ⟨.ref C, some da, .seq (its.push v) (n + 1), #[]⟩ := by
  simp [Obj.mapSeq]

section
variable {prog : Program} {w : World} {A : Around} {E : Value → Shared → Prop} {s : Shared} {K : Frag} {ac C da L : Addr} {name : Str} {h₀ : Heap} {m : Str → Option Value} {es : List DictEntry} {its : List Value} {n nd : Nat} {news news' : List (Addr × Obj)}

theorem upd_self {h : Heap} {a : Addr} {o o' : Obj} {f : Obj → Obj} (ho : h.get? a = some o) (e : f o = o') (hf : o'.isFreed = false) : (h.update a f).get? a = some o' := by
  subst e
  exact Heap.get?_update_self _ ho hf

/-- one object of the ledger changed in place -/
theorem upd_ledger {o o' : Obj} {x : Addr} {h' : Heap} (F : Fr h₀ L s.heap m) (N : News h₀ L s.heap news) (U : Upd x o o' news news') (hs : Heap.SameBut x s.heap h') (ho : h'.get? x = some o') : Fr h₀ L h' m ∧ News h₀ L h' news' := by
  obtain ⟨pre, post, rfl, rfl, h1, h2⟩ := U.split
  have hm : (x, o) ∈ pre ++ (x, o) :: post := List.mem_append.mpr (.inr (.head _))
  have hx := N _ hm
  refine ⟨F.change hs hx.2.1 hx.2.2, fun p hp => ?_⟩
  rcases List.mem_append.mp hp with hp | hp
  · have q := N p (List.mem_append.mpr (.inl hp))
    exact ⟨(hs.2 _ (h1 p hp)).trans q.1, q.2⟩
  · rcases List.mem_cons.mp hp with rfl | hp
    · exact ⟨ho, hx.2⟩
    · have q := N p (List.mem_append.mpr (.inr (.tail _ hp)))
      exact ⟨(hs.2 _ (h2 p hp)).trans q.1, q.2⟩

theorem acc_append {v : Value} {Q : Value → Shared → Prop} (F : Fr h₀ L s.heap m) (X₀ : K.In h₀) (N : News h₀ L s.heap news) (hd : (da, dictOf es nd) ∈ news)
    (U : Upd ac (accObj C da its n) (accObj C da (its ++ [v]) (n + 1)) news news') (hsub : subIn K (.ref C) (.type "list") = some true)
    (h : ∀ h', Fr h₀ L h' m → News h₀ L h' news' → Q .none { s with heap := h' }) (hsz : its.length ≤ sizeLine := by size_fits) :
    wpAny (model prog w) A (call (.builtin "list.append") [.ref ac, v]) Q E s := by
  have X := X₀.keeps F.keep
  have hm : (ac, accObj C da its n) ∈ news := by
    obtain ⟨pre, post, rfl, _⟩ := U.split
    exact List.mem_append.mpr (.inr (.head _))
  refine call_on X (inst_of_news N hm hd) (.inr (by decide +kernel)) (nm := "append") (by decide +kernel) hsub (by decide +kernel) _root_.PySem.F.entry_list_append (_root_.PySem.F.args_list_append_2 _ _) ?_
  have ho := (N _ hm).1
  show wpAny _ _ (updateSeq ac (·.push v) >>= fun _ => ret .none) _ _ s
  refine wpAny_bind ?_
  refine wpAny_updateSeq ho rfl (wpAny_pure ⟨.none, rfl, ?_⟩) (by simpa using hsz) (by simp; omega)
  have e : Obj.mapSeq (·.push v) (accObj C da its n) = accObj C da (its ++ [v]) (n + 1) := by rw [acc_push]; simp
  obtain ⟨F', N'⟩ := upd_ledger F N U (Heap.SameBut.update ..) (upd_self ho e rfl)
  exact h _ F' N'
theorem acc_append_m {v : Value} {Q : Value → Shared → Prop} (_hm : (ac, accObj C da its n) ∈ news) (F : Fr h₀ L s.heap m) (X₀ : K.In h₀) (N : News h₀ L s.heap news) (hd : (da, dictOf es nd) ∈ news)
    (U : Upd ac (accObj C da its n) (accObj C da (its ++ [v]) (n + 1)) news news') (hsub : subIn K (.ref C) (.type "list") = some true)
    (h : ∀ h', Fr h₀ L h' m → News h₀ L h' news' → Q .none { s with heap := h' }) (hsz : its.length ≤ sizeLine := by size_fits) :
    wpAny (model prog w) A (call (.builtin "list.append") [.ref ac, v]) Q E s := acc_append F X₀ N hd U hsub h hsz
end
end Mine
end
section
open PySem PySem.W PyProof.Rows PySem.Spec PySem.Calls
namespace Mine
theorem slot_md_get : Slot "method_descriptor" "__get__" "method_descriptor.__get__" :=
  .of (owner := "method_descriptor") (n := "__get__") (by rw [typeLookup_type, builtinLookup_eq_fast]; kernel_rfl) (by decide +kernel) (by decide +kernel) (by decide +kernel)
    (by first | exact .inl (by decide +kernel) | exact .inr (by decide +kernel)) (by rw [isSubtype_type]; kernel_rfl)
theorem slot_wd_get : Slot "wrapper_descriptor" "__get__" "wrapper_descriptor.__get__" :=
  .of (owner := "wrapper_descriptor") (n := "__get__") (by rw [typeLookup_type, builtinLookup_eq_fast]; kernel_rfl) (by decide +kernel) (by decide +kernel) (by decide +kernel)
    (by first | exact .inl (by decide +kernel) | exact .inr (by decide +kernel)) (by rw [isSubtype_type]; kernel_rfl)
theorem entry_md_get : entryFor table "method_descriptor.__get__" = some Builtin.«method_descriptor.__get__» := entryFor_of_tree (by kernel_rfl)
theorem entry_wd_get : entryFor table "wrapper_descriptor.__get__" = some Builtin.«wrapper_descriptor.__get__» := entryFor_of_tree (by kernel_rfl)
theorem args_md_get (a b c : Value) : argsOk "method_descriptor.__get__" ⟨[a, b, c], []⟩ := by unfold argsOk; kernel_rfl
theorem args_wd_get (a b c : Value) : argsOk "wrapper_descriptor.__get__" ⟨[a, b, c], []⟩ := by unfold argsOk; kernel_rfl
theorem type_pop : typeOf (.builtin "list.pop") = pure (.type "method_descriptor") := by show builtinType _ = _; rw [builtinType_eq_fast]; kernel_rfl
theorem type_len : typeOf (.builtin "list.__len__") = pure (.type "wrapper_descriptor") := by show builtinType _ = _; rw [builtinType_eq_fast]; kernel_rfl
theorem type_init : typeOf (.builtin "list.__init__") = pure (.type "wrapper_descriptor") := by show builtinType _ = _; rw [builtinType_eq_fast]; kernel_rfl
theorem owner_pop : (kfb_private% "ownerAndName") "list.pop" = ("list", "pop") := by first | decide +kernel | kernel_rfl
theorem owner_len : (kfb_private% "ownerAndName") "list.__len__" = ("list", "__len__") := by first | decide +kernel | kernel_rfl
theorem owner_init : (kfb_private% "ownerAndName") "list.__init__" = ("list", "__init__") := by first | decide +kernel | kernel_rfl

/-- a built-in method or slot bound to an instance -/
noncomputable abbrev boundObj (T : String) (id : String) (x : Addr) : Obj := { cls := .type T, dict := none, data := .fields #[.builtin id, .ref x], slots := #[] }

section
variable {prog : Program} {w : World} {M : Model} {A : Around} {E : Value → Shared → Prop} {s : Shared} {K : Frag} {x C : Addr}
theorem run_md_get {id : String} {nm : String} {P : Fin → Shared → Prop} (ho : (kfb_private% "ownerAndName") id = ("list", nm)) (ht : Manifest.toldItsClass.contains id = false) (hi : Looks M s.heap (isInstance (.ref x) (.type "list")) true)
    (h : P (.done (.ret (.ref s.heap.objs.size))) { s with heap := s.heap.push (boundObj "builtin_function_or_method" id x) }) :
    wpAny M A (Builtin.«method_descriptor.__get__» ⟨[.builtin id, .ref x, .ref C], []⟩) P E s := by
  unfold Builtin.«method_descriptor.__get__»
  refine wpAny_bind (wpAny_of_eq (a := (.builtin id, some (.ref x), some (.ref C))) (by first | rfl | kernel_rfl) ?_)
  dsimp only
  rw [ht]
  refine KFB.if_not rfl ?_
  show wpAny _ _ ((kfb_private% "checkInstance") (.builtin id) (.ref x) >>= fun _ => newFields "builtin_function_or_method" [.builtin id, .ref x] >>= fun v => ret v) _ _ _
  refine wpAny_bind ?_
  show wpAny _ _ (do
    let (name, cls) ← (pure (((((kfb_private% "ownerAndName") id).2 : String) : Str), Value.type ((kfb_private% "ownerAndName") id).1) : Sem (Str × Value))
    if !(← isInstance (.ref x) cls) then
      rule "descr.get.wrong-instance"
      raiseError "TypeError" s!"descriptor '{name.toString}' for '{← typeName cls}' objects doesn't apply to a '{← typeNameOf (.ref x)}' object") _ _ _
  rw [ho]
  refine wpAny_bind (wpAny_pure ?_)
  refine wpAny_bind (hi.here ?_)
  refine KFB.if_not rfl ?_
  refine wpAny_pure ?_
  exact wpAny_bind (wpAny_newObj_type (wpAny_pure h))
theorem run_wd_get {id : String} {nm : String} {P : Fin → Shared → Prop} (ho : (kfb_private% "ownerAndName") id = ("list", nm)) (hi : Looks M s.heap (isInstance (.ref x) (.type "list")) true)
    (h : P (.done (.ret (.ref s.heap.objs.size))) { s with heap := s.heap.push (boundObj "method-wrapper" id x) }) :
    wpAny M A (Builtin.«wrapper_descriptor.__get__» ⟨[.builtin id, .ref x, .ref C], []⟩) P E s := by
  unfold Builtin.«wrapper_descriptor.__get__»
  refine wpAny_bind (wpAny_of_eq (a := (.builtin id, some (.ref x), some (.ref C))) (by first | rfl | kernel_rfl) ?_)
  dsimp only
  show wpAny _ _ ((kfb_private% "checkInstance") (.builtin id) (.ref x) >>= fun _ => newFields "method-wrapper" [.builtin id, .ref x] >>= fun v => ret v) _ _ _
  refine wpAny_bind ?_
  show wpAny _ _ (do
    let (name, cls) ← (pure (((((kfb_private% "ownerAndName") id).2 : String) : Str), Value.type ((kfb_private% "ownerAndName") id).1) : Sem (Str × Value))
    if !(← isInstance (.ref x) cls) then
      rule "descr.get.wrong-instance"
      raiseError "TypeError" s!"descriptor '{name.toString}' for '{← typeName cls}' objects doesn't apply to a '{← typeNameOf (.ref x)}' object") _ _ _
  rw [ho]
  refine wpAny_bind (wpAny_pure ?_)
  refine wpAny_bind (hi.here ?_)
  refine KFB.if_not rfl ?_
  refine wpAny_pure ?_
  exact wpAny_bind (wpAny_newObj_type (wpAny_pure h))
end
end Mine
end
section
open PySem PySem.W PyProof.Rows PySem.Spec PySem.Calls
namespace Mine
section
variable {prog : Program} {w : World} {M : Model} {A : Around} {E : Value → Shared → Prop} {h : Heap} {g : Array GenState} {d : Drawn} {t : Nat} {os : OsState}

/-- super().NAME, where the name is a built-in's of the class behind -/
theorem super_ga_b {T T' : String} {id' : String} {B : Builtin} {so D x C : Addr} {id : String} {l₀ l : List Value} {K : Frag} {name : Str} {tk : Tok} {Q : Fin → Shared → Prop}
    (hslot : Slot T "__get__" id') (hent : entryFor table id' = some B) (hargs : ∀ a b c : Value, argsOk id' ⟨[a, b, c], []⟩) (hty : typeOf (.builtin id) = pure (.type T))
    (hB : ∀ (A : Around) (P : Fin → Shared → Prop) (s : Shared), s.heap = h → P (.done (.ret (.ref s.heap.objs.size))) { s with heap := s.heap.push (boundObj T' id x) } → wpAny (model prog w) A (B ⟨[.builtin id, .ref x, .ref C], []⟩) P E s)
    (hso : h.get? so = some { cls := .type "super", dict := none, data := .fields #[.ref D, .ref x, .ref C], slots := #[] }) (hno : Looks (model prog w) h (opaqueClassAbove (.ref C)) none)
    (hC : Looks (model prog w) h (mroOf (.ref C)) l₀) (hl : (l₀.dropWhile (· != .ref D)).drop 1 = l) (X : K.In h)
    (hf : alongIn K name l = some (some (.builtin id))) (hxC : x ≠ C) (hn : (name == ("__class__" : Str)) = false)
    (hq : Q (.done (.ret (.ref h.objs.size))) ⟨h.push (boundObj T' id x), g, d, t, os⟩) :
    wpAny (model prog w) A (Builtin.«super.__getattribute__» ⟨[.ref so, .str name tk], []⟩) Q E ⟨h, g, d, t, os⟩ := by
  have hlk := hslot.lookup
  have hne : (Value.ref x == Value.ref C) = false := by simp [hxC]
  have hdt : ({ cls := .type "super", dict := none, data := .fields #[.ref D, .ref x, .ref C], slots := #[] } : Obj).data = .fields #[.ref D, .ref x, .ref C] := rfl
  have f0 : (#[.ref D, .ref x, .ref C] : Array Value)[0]? = some (.ref D) := rfl
  have f1 : (#[.ref D, .ref x, .ref C] : Array Value)[1]? = some (.ref x) := rfl
  have f2 : (#[.ref D, .ref x, .ref C] : Array Value)[2]? = some (.ref C) := rfl
  have hTf : (⟨h, g, d, t, os⟩ : Shared).TypeIs (.builtin id) T := hty
  unfold Builtin.«super.__getattribute__»
  repeat (first
    | (with_reducible refine wpAny_field hso hdt f0 ?_) | (with_reducible refine wpAny_field hso hdt f1 ?_) | (with_reducible refine wpAny_field hso hdt f2 ?_)
    | (with_reducible refine ks_wpAny_notOpaque hno ?_)
    | (with_reducible refine Looks.at hC ?_; rw [hl])
    | (refine ks_forIn_along X (fun _ _ => rfl) rfl ?_ hf)
    | (with_reducible refine wpAny_of_eq hty ?_)
    | (with_reducible refine wpAny_of_eq hlk ?_)
    | (with_reducible refine wpAny_call_entry hslot hTf hent ?_ (hargs _ _ _))
    | (with_reducible refine hB _ _ _ rfl ?_)
    | (with_reducible refine ⟨_, rfl, ?_⟩)
    | (simp only [hn, hne, Bool.or_false, Bool.false_eq_true, if_false])
    | wp_step
    | dsimp only)
  all_goals exact hq

theorem super_method_b {T T' : String} {id' : String} {B : Builtin} {so D x C : Addr} {id : String} {l₀ l : List Value} {K : Frag} {name : Str} {pl : Sem Bool} {Q : Value × List Value → Shared → Prop}
    (hslot : Slot T "__get__" id') (hent : entryFor table id' = some B) (hargs : ∀ a b c : Value, argsOk id' ⟨[a, b, c], []⟩) (hty : typeOf (.builtin id) = pure (.type T))
    (hB : ∀ (A : Around) (E : Value → Shared → Prop) (P : Fin → Shared → Prop) (s : Shared), s.heap = h → P (.done (.ret (.ref s.heap.objs.size))) { s with heap := s.heap.push (boundObj T' id x) } → wpAny (model prog w) A (B ⟨[.builtin id, .ref x, .ref C], []⟩) P E s)
    (hso : h.get? so = some { cls := .type "super", dict := none, data := .fields #[.ref D, .ref x, .ref C], slots := #[] }) (hno : Looks (model prog w) h (opaqueClassAbove (.ref C)) none)
    (hC : Looks (model prog w) h (mroOf (.ref C)) l₀) (hl : (l₀.dropWhile (· != .ref D)).drop 1 = l) (X : K.In h)
    (hf : alongIn K name l = some (some (.builtin id))) (hxC : x ≠ C) (hn : (name == ("__class__" : Str)) = false)
    (hq : Q (.ref h.objs.size, []) ⟨h.push (boundObj T' id x), g, d, t + 1, os⟩) :
    wpAny (model prog w) A (getMethod (.ref so) name pl) Q E ⟨h, g, d, t, os⟩ := by
  have hlk := PySem.F.ks_slot_super_ga.lookup
  have hcan := PySem.F.ks_canon_super_ga
  have hT : ∀ t', (⟨h, g, d, t', os⟩ : Shared).TypeIs (.ref so) "super" := fun _ => ⟨_, hso, rfl⟩
  unfold getMethod
  refine wpAny_bind (wpAny_specialOf (hT _) hlk ?_)
  show wpAny _ _ (if (Manifest.canonical "super.__getattribute__" != "object.__getattribute__") = true then _ else _) _ _ _
  rw [if_pos hcan]
  unfold getAttr getAttrBy
  refine wpAny_bind (wpAny_bind (wpAny_mkText (wpAny_holding (wpAny_bind (wpAny_typeOf (hT _) (wpAny_bind (wpAny_of_eq hlk ?_)))))))
  show wpAny _ _ (getAttrByItsOwn (.ref so) (.str name t) (.type "super") (.builtin "super.__getattribute__") true false) _ _ _
  unfold getAttrByItsOwn hookBefore callGetattribute boundAndCalled
  refine wpAny_bind (wpAny_of_eq (show (if onTheHeap (.type "super") then typeLookup (.type "super") "__getattr__" else pure none) = pure none from rfl) ?_)
  refine wpAny_bind (wpAny_attempt (wpAny_holding ?_))
  show wpAny _ _ (bindSpecial (.builtin "super.__getattribute__") (.ref so) >>= _) _ _ _
  refine wpAny_bind (wpAny_of_eq (PySem.F.ks_slot_super_ga.bind _) ?_)
  refine wpAny_mono (Q := fun v s' => v = .ref h.objs.size ∧ s' = ⟨h.push (boundObj T' id x), g, d, t + 1, os⟩) (E := fun _ _ => False)
    (wpAny_call_entry PySem.F.ks_slot_super_ga (hT _) PySem.F.ks_entry_super_ga (super_ga_b hslot hent hargs hty (fun A P s => hB A _ P s) hso hno hC hl X hf hxC hn ⟨_, rfl, rfl, rfl⟩) (PySem.F.ks_gaArgs_super _ _)) (fun v s' hv => ?_) fun _ _ z => z.elim
  obtain ⟨rfl, rfl⟩ := hv
  exact wpAny_pure (wpAny_pure hq)
end

section
variable {prog : Program} {w : World} {A : Around} {E : Value → Shared → Prop} {s : Shared} {h₀ : Heap} {L : Addr} {m : Str → Option Value} {news : List (Addr × Obj)} {K : Frag} {x C D so : Addr} {ox : Obj} {odx : Option Obj}

theorem super_list {name : Str} {id : String} {T T' : String} {pl : Sem Bool} {Q : Value × List Value → Shared → Prop} (F : Fr h₀ L s.heap m) (X₀ : K.In h₀) (N : News h₀ L s.heap news) (hso : (so, ks_superObj D x C) ∈ news) (I : InstAt s.heap x ox C odx)
    (ho : nsIn K cStatics "thirdparty.any" = some none) (hm : ks_superIn K C D name = some (some (.builtin id))) (hsub : subIn K (.ref C) (.type "list") = some true) (hn : (name == ("__class__" : Str)) = false)
    (hk : (T = "method_descriptor" ∧ T' = "builtin_function_or_method" ∧ id = "list.pop") ∨ (T = "wrapper_descriptor" ∧ T' = "method-wrapper" ∧ (id = "list.__len__" ∨ id = "list.__init__")))
    (h : ∀ q h', Fr h₀ L h' m → News h₀ L h' ((q, boundObj T' id x) :: news) → (∀ p ∈ news, p.1 < q) → Q (.ref q, []) { s with heap := h', toks := s.toks + 1 }) : wpAny (model prog w) A (getMethod (.ref so) name pl) Q E s := by
  have X : K.In s.heap := X₀.keeps F.keep
  obtain ⟨hh, g, d, t, os⟩ := s
  cases hc : clsIn K C with
  | none => unfold ks_superIn at hm; rw [hc] at hm; cases hm
  | some cd =>
    unfold ks_superIn at hm
    rw [hc] at hm
    have hi : Looks (model prog w) hh (isInstance (.ref x) (.type "list")) true := I.type.andThen (looks_subIn X hsub)
    have hmro : Looks (model prog w) hh (mroOf (.ref C)) cd.mro := fun A Q E s k q => wpAny_bind ((looks_clsIn X hc) A _ E s k (wpAny_pure q))
    have fin : Q (.ref hh.objs.size, []) ⟨hh.push (boundObj T' id x), g, d, t + 1, os⟩ := by
      obtain ⟨F', N', l'⟩ := ks_newsPush (s := ⟨hh, g, d, t, os⟩) (o := boundObj T' id x) F N rfl (Heap.get?_push_at rfl rfl) (fun b o e => Heap.get?_push_of_some _ e)
      exact h _ _ F' N' l'
    rcases hk with ⟨rfl, rfl, rfl⟩ | ⟨rfl, rfl, rfl | rfl⟩
    · exact super_method_b slot_md_get entry_md_get args_md_get type_pop (fun A E P s e z => run_md_get owner_pop (by decide +kernel) (by rw [e]; exact hi) z) (N _ hso).1 (looks_opaque X ho) hmro rfl X hm (ks_ne X I hc) hn fin
    · exact super_method_b slot_wd_get entry_wd_get args_wd_get type_len (fun A E P s e z => run_wd_get owner_len (by rw [e]; exact hi) z) (N _ hso).1 (looks_opaque X ho) hmro rfl X hm (ks_ne X I hc) hn fin
    · exact super_method_b slot_wd_get entry_wd_get args_wd_get type_init (fun A E P s e z => run_wd_get owner_init (by rw [e]; exact hi) z) (N _ hso).1 (looks_opaque X ho) hmro rfl X hm (ks_ne X I hc) hn fin
end
end Mine
end
section
open PySem PySem.W PyProof.Rows PySem.Spec PySem.Calls
namespace Mine
noncomputable def bindSem (id full : String) (args : Args) : Sem Unit := match Manifest.signature? id with | some sig => Bind.checkArgs id { sig with full := full } args | none => pure ()
theorem bind_pop (x : Value) : bindSem "list.pop" "_Accumulator.pop" ⟨[x], []⟩ = pure () := by
  unfold bindSem; rw [signature?_of (id := "list.pop") (n := ['p', 'o', 'p']) (o := ['t', 's', 'i', 'l']) (by kernel_rfl) PySem.F.owner_list]; kernel_rfl
theorem last_pop : Bind.lastOf "list.pop" = "pop" := by first | decide +kernel | kernel_rfl

section
variable {prog : Program} {w : World} {M : Model} {A : Around} {E : Value → Shared → Prop} {s : Shared} {K : Frag} {x C : Addr} {ox : Obj} {od : Option Obj}

theorem check_pop {cd : ClassData} {Q : Unit → Shared → Prop} (X : K.In s.heap) (I : InstAt s.heap x ox C od) (hc : clsIn K C = some cd) (hq : cd.qualname = ("_Accumulator" : Str)) (hm : subIn K (.ref C) (.type "module") = some false)
    (ht : typeIn K (.ref C) = some (.type "type")) (q : Q () s) : wpAny M A (checkBoundCall "list.pop" ⟨[.ref x], []⟩) Q E s := by
  have hb := bind_pop (.ref x)
  unfold bindSem at hb
  unfold checkBoundCall
  cases hs : Manifest.signature? "list.pop" with
  | none => exact wpAny_pure q
  | some sig =>
    rw [hs] at hb
    have hb : Bind.checkArgs "list.pop" { sig with full := "_Accumulator.pop" } ⟨[.ref x], []⟩ = pure () := hb
    have hk : builtinKind "list.pop" = some .method := by decide +kernel
    have hv : Manifest.varargsMethods.contains "list.pop" = false := by decide +kernel
    simp only [hk]
    refine KFB.if_not (by decide) ?_
    rw [last_pop]
    refine wpAny_bind ((show Looks M s.heap (isInstance (.ref x) (.type "module")) false from I.type.andThen (looks_subIn X hm)).here ?_)
    rw [hv]
    refine KFB.if_not rfl ?_
    have hn := I.no
    obtain ⟨hp, g, d, tk, os⟩ := s
    refine wpAny_bind (ks_wpAny_isType_inst I.at_ (fun c e => ?_) ?_)
    · unfold notCls at hn
      rw [e] at hn
      exact Bool.noConfusion hn
    refine KFB.if_not rfl ?_
    refine wpAny_bind (I.type.here ?_)
    refine wpAny_bind ((looks_clsIn X hc).here ?_)
    refine wpAny_bind ((looks_typeIn X ht).here ?_)
    refine KFB.if_so (by decide) ?_
    have e : s!"{cd.qualname.toString}.{"pop"}" = "_Accumulator.pop" := by rw [hq]; first | decide +kernel | kernel_rfl
    rw [e, hb]
    exact wpAny_pure q

theorem call_bound {T id : String} {bm : Addr} {b : Builtin} {Q : Value → Shared → Prop} (hbm : s.heap.get? bm = some (boundObj T id x)) (hT : T = "builtin_function_or_method" ∨ T = "method-wrapper") (hp : plainId id = true) (hb : entryFor table id = some b)
    (hck : ∀ (A : Around) (E : Value → Shared → Prop) (Q' : Unit → Shared → Prop), Q' () s → wpAny (model prog w) A (checkBoundCall id ⟨[.ref x], []⟩) Q' E s)
    (h : wpAny (model prog w) A.in1 (b ⟨[.ref x], []⟩) (fun fin s' => ∃ v, fin = .done (.ret v) ∧ Q v s') E s) :
    wpAny (model prog w) A (call (.ref bm) []) Q E s := by
  refine wpAny_call (codeAny_of_tree ?_)
  show wpAny _ A.in1 (callAny (.ref bm) ⟨[], []⟩) _ _ _
  unfold callAny
  refine wpAny_bind (wpAny_load hbm ?_)
  have e1 : (Value.type T == .type "method" || Value.type T == .type "builtin_function_or_method" || Value.type T == .type "method-wrapper") = true := by
    rcases hT with rfl | rfl <;> decide
  have e2 : (Value.type T != .type "method") = true := by
    rcases hT with rfl | rfl <;> decide
  refine KFB.if_so e1 ?_
  refine KFB.if_so e2 ?_
  refine wpAny_bind (hck _ _ _ ?_)
  refine wpAny_pure ⟨plainId_quiet hp _, codeAny_of_tree ?_⟩
  rw [Around.under_plainId hp _]
  show wpAny _ _ (match entryFor table id with | some b => b ⟨[.ref x], []⟩ | none => unsupported ((withoutEnding? id "#data").getD id)) _ _ s
  rw [hb]
  refine wpAny_mono h (fun fin s' z => ?_) fun _ _ z => z
  obtain ⟨v, rfl, hv⟩ := z
  exact hv
end

theorem keeps_bound {M : Model} {T id : String} {x bm : Addr} (hT : T = "builtin_function_or_method" ∨ T = "method-wrapper") (h : Heap) (ho : h.get? bm = some (boundObj T id x)) : ∃ k, (k = Keeper.frame ∨ k = Keeper.machine ∨ k = Keeper.boundFrame) ∧ Looks M h (keeperOf (.ref bm)) k := by
  refine ⟨.machine, .inr (.inl rfl), (Looks.ld (part := none) ho).andThen ?_⟩
  dsimp only
  rcases hT with rfl | rfl <;> exact Looks.of_pure rfl
section
variable {prog : Program} {w : World} {M : Model} {A : Around} {E : Value → Shared → Prop} {s : Shared} {K : Frag} {x C : Addr}
theorem callWith_bound0 {pos : Pos} {T id : String} {bm : Addr} {env : Env} {Q : Value → Shared → Prop} (ho : s.heap.get? bm = some (boundObj T id x)) (hT : T = "builtin_function_or_method" ∨ T = "method-wrapper")
    (h : wpAny M A (call (.ref bm) []) Q E s) : wpAny M A (callWith pos (.ref bm) [] (backTo pos (starEach [] env)) []) Q E s :=
  callWith_of (P := fun h => h.get? bm = some (boundObj T id x)) rfl (keeps_bound hT) (evalArgs_nil3 ⟨ho, h⟩)
end
end Mine
end
section
open PySem PySem.W PyProof.Rows PySem.Spec PySem.Calls
namespace Mine
/-- the count of changes behind a store into a list -/
noncomputable def bump (n : Nat) (its its' : List Value) : Nat := if its'.length == its.length then n else n + 1
theorem acc_map (C da : Addr) (its its' : List Value) (n : Nat) (f : Array Value → Array Value) (hf : f its.toArray = its'.toArray) : Obj.mapSeq f (accObj C da its n) = accObj C da its' (bump n its its') := by
  simp [Obj.mapSeq, hf, bump]

theorem plain_pop : plainId "list.pop" = true := by decide +kernel
theorem plain_len : plainId "list.__len__" = true := by decide +kernel
theorem plain_init : plainId "list.__init__" = true := by decide +kernel

section
variable {prog : Program} {w : World} {A : Around} {E : Value → Shared → Prop} {s : Shared} {K : Frag} {ac C da L q : Addr} {name : Str} {h₀ : Heap} {m : Str → Option Value} {es : List DictEntry} {its its' : List Value} {n nd : Nat} {news news' : List (Addr × Obj)}

theorem mem_of_upd {o o' : Obj} {x : Addr} (U : Upd x o o' news news') : (x, o) ∈ news := by
  obtain ⟨pre, post, rfl, _⟩ := U.split
  exact List.mem_append.mpr (.inr (.head _))

theorem acc_update {f : Array Value → Array Value} {Q : Unit → Shared → Prop} (F : Fr h₀ L s.heap m) (N : News h₀ L s.heap news) (U : Upd ac (accObj C da its n) (accObj C da its' (bump n its its')) news news') (hf : f its.toArray = its'.toArray)
    (h : ∀ h', Fr h₀ L h' m → News h₀ L h' news' → Q () { s with heap := h' }) (hsz : its.length ≤ sizeLine := by size_fits) (hsz' : its'.length ≤ sizeLine + 1 := by size_fits) : wpAny (model prog w) A (updateSeq ac f) Q E s := by
  have ho := (N _ (mem_of_upd U)).1
  refine wpAny_updateSeq ho rfl ?_ (by simpa using hsz) (by rw [hf]; simpa using hsz')
  obtain ⟨F', N'⟩ := upd_ledger F N U (Heap.SameBut.update ..) (upd_self ho (acc_map C da its its' n f hf) rfl)
  exact h _ F' N'

theorem acc_pop {v : Value} {cd : ClassData} {Q : Value → Shared → Prop} (F : Fr h₀ L s.heap m) (X₀ : K.In h₀) (N : News h₀ L s.heap news) (hq : (q, boundObj "builtin_function_or_method" "list.pop" ac) ∈ news) (hd : (da, dictOf es nd) ∈ news)
    (U : Upd ac (accObj C da (its ++ [v]) n) (accObj C da its (n + 1)) news news')
    (hc : clsIn K C = some cd) (hqn : cd.qualname = ("_Accumulator" : Str)) (hm : subIn K (.ref C) (.type "module") = some false) (ht : typeIn K (.ref C) = some (.type "type"))
    (h : ∀ h', Fr h₀ L h' m → News h₀ L h' news' → Q v { s with heap := h' }) (hsz : its.length + 1 ≤ sizeLine := by size_fits) :
    wpAny (model prog w) A (call (.ref q) []) Q E s := by
  have X := X₀.keeps F.keep
  have I := inst_of_news N (mem_of_upd U) hd
  refine call_bound (N _ hq).1 (.inl rfl) plain_pop PySem.F.entry_list_pop (fun A E Q' z => check_pop X I hc hqn hm ht z) ?_
  show wpAny _ _ (Builtin.List.listItems (.ref ac) >>= _) _ _ s
  refine wpAny_bind (wpAny_bind (wpAny_seqItems I.at_ rfl (wpAny_pure ?_)))
  have e1 : ((its ++ [v]).toArray.isEmpty) = false := by simp
  rw [e1]
  refine KFB.if_not rfl ?_
  have e2 : (seqIndex? (-1) (its ++ [v]).toArray.size).bind (fun k => (its ++ [v]).toArray[k]?.map (k, ·)) = some (its.length, v) := by
    have : seqIndex? (-1) (its ++ [v]).toArray.size = some its.length := by
      unfold seqIndex?
      simp
      omega
    rw [this]
    simp
  show wpAny _ _ (match (seqIndex? (-1) (its ++ [v]).toArray.size).bind (fun k => (its ++ [v]).toArray[k]?.map (k, ·)) with
    | some (k, x) => Builtin.List.listUpdate (.ref ac) (·.eraseIdxIfInBounds k) >>= fun _ => ret x
    | none => _) _ _ s
  rw [e2]
  show wpAny _ _ (updateSeq ac (·.eraseIdxIfInBounds its.length) >>= fun _ => ret v) _ _ s
  have hb : bump n (its ++ [v]) its = n + 1 := by simp [bump]
  rw [← hb] at U
  refine wpAny_bind (acc_update (its := its ++ [v]) (its' := its) F N U (by rw [kl_erase its [] v]; simp) (fun h' F' N' => wpAny_pure ⟨v, rfl, h h' F' N'⟩) (by simpa using hsz) (by omega))

theorem check_len {M : Model} {Q : Unit → Shared → Prop} {x : Value} (q : Q () s) : wpAny M A (checkBoundCall "list.__len__" ⟨[x], []⟩) Q E s := by
  have hk : builtinKind "list.__len__" = some .slot := by decide +kernel
  unfold checkBoundCall
  have ha : argsOk "list.__len__" ⟨[x], []⟩ := PySem.F.args_list_len_1 x
  cases hs : Manifest.signature? "list.__len__" with
  | none => exact wpAny_pure q
  | some sig =>
    simp only [argsOk, hs] at ha
    have ha : Bind.checkArgs "list.__len__" sig ⟨[x], []⟩ = pure () := ha
    simp only [hk]
    refine KFB.if_so (by decide) ?_
    rw [ha]
    exact wpAny_pure q
theorem check_init {M : Model} {Q : Unit → Shared → Prop} {x : Value} (q : Q () s) : wpAny M A (checkBoundCall "list.__init__" ⟨[x], []⟩) Q E s := by
  have hk : builtinKind "list.__init__" = some .slot := by decide +kernel
  unfold checkBoundCall
  have ha : argsOk "list.__init__" ⟨[x], []⟩ := PySem.F.args_list_init_1 x
  cases hs : Manifest.signature? "list.__init__" with
  | none => exact wpAny_pure q
  | some sig =>
    simp only [argsOk, hs] at ha
    have ha : Bind.checkArgs "list.__init__" sig ⟨[x], []⟩ = pure () := ha
    simp only [hk]
    refine KFB.if_so (by decide) ?_
    rw [ha]
    exact wpAny_pure q

theorem acc_len {Q : Value → Shared → Prop} (N : News h₀ L s.heap news) (hq : (q, boundObj "method-wrapper" "list.__len__" ac) ∈ news) (ha : (ac, accObj C da its n) ∈ news)
    (h : Q (.int its.length s.toks) { s with toks := s.toks + 1 }) :
    wpAny (model prog w) A (call (.ref q) []) Q E s := by
  refine call_bound (N _ hq).1 (.inr rfl) plain_len PySem.F.entry_list_len (fun A E Q' z => check_len z) ?_
  show wpAny _ _ (seqSize ac >>= fun k => retInt k) _ _ s
  refine wpAny_bind (wpAny_bind (wpAny_loadPart (N _ ha).1 (wpAny_pure ?_)))
  have e : (its.toArray.size : Int) = its.length := by simp
  rw [e]
  exact wpAny_bind (wpAny_mkInt (wpAny_pure ⟨_, rfl, h⟩))

theorem acc_init {Q : Value → Shared → Prop} (F : Fr h₀ L s.heap m) (N : News h₀ L s.heap news) (hq : (q, boundObj "method-wrapper" "list.__init__" ac) ∈ news)
    (U : Upd ac (accObj C da its n) (accObj C da [] (bump n its [])) news news')
    (h : ∀ h', Fr h₀ L h' m → News h₀ L h' news' → Q .none { s with heap := h' }) (hsz : its.length ≤ sizeLine := by size_fits) :
    wpAny (model prog w) A (call (.ref q) []) Q E s := by
  refine call_bound (N _ hq).1 (.inr rfl) plain_init PySem.F.entry_list_init (fun A E Q' z => check_init z) ?_
  show wpAny _ _ (Builtin.List.listItems (.ref ac) >>= _) _ _ s
  refine wpAny_bind (wpAny_bind (wpAny_seqItems (N _ (mem_of_upd U)).1 rfl (wpAny_pure ?_)))
  show wpAny _ _ (updateSeq ac (fun _ => #[]) >>= _) _ _ s
  refine wpAny_bind (acc_update (its' := []) F N U rfl (fun h' F' N' => ?_) hsz (by simp))
  refine wpAny_bind (wpAny_letGo ?_)
  exact wpAny_pure ⟨_, rfl, h h' F' N'⟩
end
end Mine
end
section
open PySem PySem.W PyProof.Rows PySem.Spec PySem.Calls
open PySem.Builtin.ObjectAttr
namespace Mine
theorem canon_lga : (Manifest.canonical "list.__getattribute__" != "object.__getattribute__") = false := by decide +kernel
theorem entry_lga : entryFor table "list.__getattribute__" = some Builtin.«object.__getattribute__» :=
  entryFor_alias (id' := "object.__getattribute__") (by rw [fastTable_eq_tree]; kernel_rfl) (by decide +kernel) (by decide +kernel) (by rw [fastTable_eq_tree]; kernel_rfl)
theorem kind_lga : builtinKind "list.__getattribute__" = some .slot := by decide +kernel
theorem split_lga : splitId "list.__getattribute__" = some ("list", "__getattribute__") := by decide +kernel
theorem plain_lga : plainId "list.__getattribute__" = true := by decide +kernel
theorem args_lga (a b : Value) : argsOk "list.__getattribute__" ⟨[a, b], []⟩ := by unfold argsOk; kernel_rfl
theorem bind_lga (self : Value) : bindSpecial (.builtin "list.__getattribute__") self = pure (.builtin "list.__getattribute__", [self]) := by
  have : typeOf (.builtin "list.__getattribute__") = pure (.type "wrapper_descriptor") := by show builtinType _ = _; rw [builtinType_eq_fast]; kernel_rfl
  unfold bindSpecial
  rw [this]
  rfl

/-- the looks of an own class over list: its reader is list's own -/
noncomputable def lookList (K : Frag) (C : Addr) : Bool := findIn K (.ref C) "__getattribute__" == some (some (.builtin "list.__getattribute__")) && findIn K (.ref C) "__getattr__" == some none && subIn K (.ref C) (.type "list") == some true
theorem lookList_of {K : Frag} {C : Addr} (h : lookList K C = true) : findIn K (.ref C) "__getattribute__" = some (some (.builtin "list.__getattribute__")) ∧ findIn K (.ref C) "__getattr__" = some none ∧ subIn K (.ref C) (.type "list") = some true := by
  obtain ⟨h1, h3⟩ := Bool.and_eq_true_iff.mp h
  obtain ⟨h1, h2⟩ := Bool.and_eq_true_iff.mp h1
  exact ⟨beq_iff_eq.mp h1, beq_iff_eq.mp h2, beq_iff_eq.mp h3⟩

section
variable {prog : Program} {w : World} {A : Around} {E : Value → Shared → Prop} {s : Shared} {K : Frag} {x C L : Addr} {ox : Obj} {od : Obj} {name : Str} {h₀ : Heap} {m : Str → Option Value} {es : List DictEntry} {n : Nat}

theorem lmethod {pl : Sem Bool} {Q : Value × List Value → Shared → Prop} {f tf : Value} (F : Fr h₀ L s.heap m) (X₀ : K.In h₀) (I : InstAt s.heap x ox C (some (dictOf es n))) (hg : lookList K C = true)
    (hf : findIn K (.ref C) name = some (some f)) (ht : typeIn K f = some tf) (htf : (tf != .type "function" && tf != .type "method_descriptor" && tf != .type "wrapper_descriptor") = false) (hl : getL name es = some none) (h : Q (f, [.ref x]) s) :
    wpAny (model prog w) A (getMethod (.ref x) name pl) Q E s := by
  have X := X₀.keeps F.keep
  obtain ⟨g1, g2, g3⟩ := lookList_of hg
  have hcan := canon_lga
  unfold getMethod specialOf
  refine wpAny_bind (wpAny_bind (I.type.here ((looks_findIn X g1).here ?_)))
  dsimp only
  rw [hcan, if_neg (by decide)]
  refine wpAny_bind (wpAny_bind (I.type.here ((looks_findIn X g2).here ?_)))
  refine wpAny_bind (wpAny_bind (I.type.here ((looks_findIn X hf).here (wpAny_bind ((looks_typeIn X ht).here ?_)))))
  rw [htf, if_neg (by decide)]
  refine wpAny_bind (wpAny_loadPart I.at_ ?_)
  have hd := I.dict
  cases e : ox.dict with
  | none => exact wpAny_bind (wpAny_rule (wpAny_pure h))
  | some dx =>
    rw [e] at hd
    refine wpAny_bind (wpAny_bind (wpAny_loadPart hd ?_))
    rw [nsLook_of (by rw [lookIn_dict]; exact hl)]
    refine wpAny_pure ?_
    exact wpAny_bind (wpAny_rule (wpAny_pure h))

theorem lget {v : Value} {expr : Bool} {Q : Value → Shared → Prop} {attr : Option Value} (F : Fr h₀ L s.heap m) (X₀ : K.In h₀) (I : InstAt s.heap x ox C (some (dictOf es n))) (hg : lookList K C = true) (hh : hasDictIn K C = true)
    (ha : findIn K (.ref C) name = some attr) (hn : noGet K attr = true) (hl : getL name es = some (some v)) (hv : handedIn v = true) (h : Q v { s with toks := s.toks + 1 }) :
    wpAny (model prog w) A (getAttr (.ref x) name expr) Q E s := by
  have X := X₀.keeps F.keep
  obtain ⟨g1, g2, g3⟩ := lookList_of hg
  obtain ⟨hh', g, d, t, os⟩ := s
  have L0 := I.type (M := model prog w)
  have L1 := looks_find (M := model prog w) X I (findObj_own hh ha hn hl)
  unfold getAttr getAttrBy
  refine wpAny_bind (wpAny_mkText (wpAny_holding (wpAny_bind (L0.at (wpAny_bind ((looks_findIn X g1).at ?_))))))
  dsimp only
  rw [show (onTheHeap (.ref C) && Value.builtin "list.__getattribute__" == Value.builtin "object.__getattribute__") = false from by rw [show (Value.builtin "list.__getattribute__" == Value.builtin "object.__getattribute__") = false from by decide +kernel, Bool.and_false], if_neg (by decide)]
  unfold getAttrByItsOwn hookBefore
  refine wpAny_bind ?_
  rw [show onTheHeap (.ref C) = true from rfl, if_pos rfl]
  refine (looks_findIn X g2).at ?_
  refine wpAny_bind (wpAny_attempt (wpAny_holding ?_))
  unfold callGetattribute
  rw [show (expr && onTheHeap (Value.builtin "list.__getattribute__")) = false from Bool.and_false _, if_neg (by decide)]
  unfold boundAndCalled
  rw [bind_lga]
  refine wpAny_bind (wpAny_pure ?_)
  refine call_on (s := ⟨hh', g, d, t + 1, os⟩) X I (.inl kind_lga) split_lga g3 plain_lga entry_lga (args_lga _ _) ?_
  show wpAny _ _ (typeOf (.ref x) >>= fun tp => find (.ref x) tp name >>= _) _ _ _
  refine wpAny_bind (L0.at (wpAny_bind (L1.at ?_)))
  refine wpAny_pure ⟨v, rfl, ?_⟩
  show wpAny _ _ (handedOut v) _ _ _
  rw [handedOut_of hv]
  exact wpAny_pure h
end

theorem refuse_list (self : Value) (C : Addr) : refuseLoop self "__setattr__" [.ref C, .type "list", .type "object"] = pure () := by
  rw [refuseLoop_ref]
  kernel_rfl

section
variable {prog : Program} {w : World} {A : Around} {E : Value → Shared → Prop} {s : Shared} {K : Frag} {x C L dx : Addr} {ox : Obj} {name : Str} {h₀ : Heap} {m : Str → Option Value} {es es' : List DictEntry} {n n' : Nat} {R : Result → Shared → Prop} {news news' : List (Addr × Obj)}

noncomputable def overList (K : Frag) (C : Addr) : Bool := (clsIn K C).any fun cd => cd.mro == [.ref C, .type "list", .type "object"]
theorem losa_open {od : Option Obj} {tk : Tok} {v : Value} {r : Option Value} (X : K.In s.heap) (I : InstAt s.heap x ox C od) (hp : overList K C = true) (ht : takerIn K C name = some r)
    (h : ∀ b, wpAny (model prog w) A.in1 (match r with | some a => setByDescriptor a (.ref x) v | none => storeInOwnDict (.ref x) (.ref C) (.str name tk) name v b)
      (fun fin s' => match fin with | .done f => R (.ok f) s' | .again c' => c'.quiet = true ∧ codeAny (model prog w) A c' R s') (fun e s' => R (.error e) s') s) :
    codeAny (model prog w) A (.call (.builtin "object.__setattr__") ⟨[.ref x, .str name tk, v], []⟩) R s := by
  have SF := PySem.F.store_object
  obtain ⟨cd, hc, ho⟩ := any_some hp
  have ho : cd.mro = [.ref C, .type "list", .type "object"] := beq_iff_eq.mp ho
  have sub : Looks (model prog w) s.heap (isInstance (.ref x) (.type "object")) true := I.type.andThen (looks_mroIn X (by unfold mroIn; rw [hc, Option.bind_some, ho, if_neg (by simp)]; simp))
  refine codeAny_call_builtin SF.slot.plain SF.entry (@check_slot (model prog w) _ _ s "object.__setattr__" "object" "__setattr__" (.ref x) [.str name tk, v] [] _ SF.kind SF.split sub (SF.args (.ref x) (.str name tk) v) ?_)
  obtain ⟨attr, ha, hr⟩ := Option.bind_eq_some_iff.mp ht
  have hm : Looks (model prog w) s.heap (mroOf (.ref C)) cd.mro := (looks_clsIn X hc).andThen .now
  have L3 : Looks (model prog w) s.heap (storeTaker? attr) r := by
    cases attr with
    | none => cases hr; exact .now
    | some a =>
      obtain ⟨b, hb, rfl⟩ := Option.map_eq_some_iff.mp hr
      refine (looks_takesIn X hb).andThen ?_
      cases b <;> exact .now
  rw [osa_eq, refuse_eq]
  refine wpAny_bind (wpAny_bind (I.type.here (wpAny_bind (hm.here ?_))))
  rw [ho, refuse_list]
  refine wpAny_pure (wpAny_bind (I.type.here (wpAny_bind ((looks_findIn X ha).here (wpAny_bind (L3.here ?_))))))
  exact h _

theorem losa_dict {od od' : Obj} {tk : Tok} {v : Value} {pre post : List (Addr × Obj)} (F : Fr h₀ L s.heap m) (N : News h₀ L s.heap (pre ++ (dx, od) :: post)) (X : K.In s.heap)
    (I : InstAt s.heap x ox C (some od)) (hd : ox.dict = some dx) (hp : overList K C = true) (ht : takerIn K C name = some none) (hh : (clsIn K C).any (·.hasDict) = true)
    (hl : (lookIn name od).isSome = true) (h1 : ∀ p ∈ pre, p.1 ≠ dx) (h2 : ∀ p ∈ post, p.1 ≠ dx)
    (e : Obj.putName name (PyData.keyHash w.params name) (.str name s.toks) v od = od') (e' : od'.data = .dict es.toArray n) (hz : es.length ≤ 1000)
    (h : ∀ h', Fr h₀ L h' m → News h₀ L h' (pre ++ (dx, od') :: post) → R (.ok (.ret .none)) { s with heap := h', toks := s.toks + 1 }) :
    codeAny (model prog w) A (.call (.builtin "object.__setattr__") ⟨[.ref x, .str name tk, v], []⟩) R s := by
  refine losa_open X I hp ht fun b => ?_
  obtain ⟨cd, hc, hd'⟩ := any_some hh
  obtain ⟨U1, U2⟩ := news_upd (f := Obj.putName name (PyData.keyHash w.params name) (.str name s.toks) v) F N h1 h2 e (by obtain ⟨_, _, dd, _⟩ := od'; cases e'; rfl)
  have D := (N (dx, od) (by simp)).1
  have D' := (U2 (dx, od') (by simp)).1
  obtain ⟨hx, hcl, hn, -⟩ := I
  obtain ⟨oc, odi, oda, osl⟩ := ox
  dsimp only at hcl hd
  subst hcl hd
  refine wpAny_bind (wpAny_pure (wpAny_bind (wpAny_bind (wpAny_loadPart hx (wpAny_bind ((looks_clsIn X hc).here ?_))))))
  rw [hd']
  refine wpAny_pure (a := some dx) (wpAny_bind (wpAny_pure (wpAny_bind ?_)))
  unfold nsSet
  refine wpAny_bind (wpAny_bind (wpAny_askSetting (wpAny_pure (wpAny_bind (wpAny_mkText (wpAny_bind (wpAny_loadPart D ?_)))))))
  unfold lookIn at hl
  split at hl
  · rename_i es₀ n₀ q
    rw [q]
    dsimp only
    have c : (!es₀.any (·.key.isStr name) && es₀.any (·.refKey)) = false := by
      rw [← Array.any_toList, ← Array.any_toList]
      split at hl
      · rename_i en he
        rw [List.any_eq_true.mpr ⟨en, List.mem_of_find?_eq_some he, List.find?_some he⟩]; rfl
      · split at hl
        · cases hl
        · rename_i z; rw [Bool.not_eq_true] at z; rw [z, Bool.and_false]
    rw [aRefKeyMayBeTheName_at, c]
    refine wpAny_updatePart D ?_
    refine wpAny_bind (wpAny_lookBehind D' (by rw [e']; exact pastItsLine_dict (by rw [List.size_toArray, sizeLine_eq]; omega)) ?_)
    exact wpAny_pure (h _ U1 U2)
  · cases hl

theorem lset {v : Value} {Q : Unit → Shared → Prop} (F : Fr h₀ L s.heap m) (X₀ : K.In h₀) (N : News h₀ L s.heap news) (I : InstAt s.heap x ox C (some (dictOf es n))) (hd : ox.dict = some dx)
    (hs : findIn K (.ref C) "__setattr__" = some (some (.builtin "object.__setattr__"))) (hp : overList K C = true) (ht : takerIn K C name = some none) (hh : hasDictIn K C = true) (hl : (getL name es).isSome = true)
    (e : (putL name (PyData.keyHash w.params name) (.str name (s.toks + 1)) v es, putN name es n) = (es', n')) (U : Upd dx (dictOf es n) (dictOf es' n') news news') (hz : es'.length ≤ 1000)
    (h : ∀ h', Fr h₀ L h' m → News h₀ L h' news' → Q () { s with heap := h', toks := s.toks + 2 }) :
    wpAny (model prog w) A (setAttr (.ref x) name v) Q E s := by
  obtain ⟨pre, post, rfl, rfl, a, b⟩ := U.split
  obtain ⟨e1, e2⟩ := Prod.mk.inj e
  exact set_plain (X₀.keeps F.keep) I hs (losa_dict (s := { s with toks := s.toks + 1 }) F N (X₀.keeps F.keep) I hd hp ht hh hl a b (by rw [putName_dict, e1, e2]) rfl hz fun h' F' N' => h h' F' N')
end
end Mine
end
section
open PySem PySem.W PyProof.Rows PySem.Spec PySem.Calls
namespace Mine
theorem bind_slot {id T : String} {name : Str} (h : Slot T name id) (self : Value) : bindSpecial (.builtin id) self = pure (.builtin id, [self]) := h.bind self

section
variable {prog : Program} {w : World} {M : Model} {A : Around} {E : Value → Shared → Prop} {s : Shared} {K : Frag} {x C : Addr} {ox : Obj} {od : Option Obj}

theorem special_b {name : Str} {id : String} {args : List Value} {Q : Option Value → Shared → Prop} (X : K.In s.heap) (I : InstAt s.heap x ox C od) (hs : findIn K (.ref C) name = some (some (.builtin id)))
    (hb : ∀ self, bindSpecial (.builtin id) self = pure (.builtin id, [self])) (h : wpAny M A (call (.builtin id) (.ref x :: args)) (fun v => Q (some v)) E s) : wpAny M A (callSpecial? (.ref x) name args) Q E s := by
  refine wpAny_bind (wpAny_bind (I.type.here ((looks_findIn X hs).here (wpAny_holding (wpAny_bind ?_)))))
  rw [hb]
  exact wpAny_pure (wpAny_bind (wpAny_mono h (fun _ _ z => wpAny_pure z) fun _ _ z => z))

theorem getItem_b {i : Value} {Q : Value → Shared → Prop} (X : K.In s.heap) (I : InstAt s.heap x ox C od) (hq : noSeq K C = true) (hs : findIn K (.ref C) "__getitem__" = some (some (.builtin "list.__getitem__"))) (hsub : subIn K (.ref C) (.type "list") = some true)
    (h : wpAny (model prog w) A.in1 (Builtin.«list.__getitem__» ⟨[.ref x, i], []⟩) (fun fin s' => ∃ v, fin = .done (.ret v) ∧ Q v s') E s) : wpAny (model prog w) A (getItem (.ref x) i) Q E s := by
  unfold getItem sequenceKey
  refine wpAny_holding (wpAny_bind (wpAny_bind (I.type.here ?_)))
  refine wpAny_bind ((anyM_none X hq).here ?_)
  rw [if_pos (show (!false) = true from rfl)]
  refine wpAny_pure (wpAny_bind (special_b X I hs slot_list_getitem.bind ?_))
  exact call_on X I (.inr (by decide +kernel)) (nm := "__getitem__") (by decide +kernel) hsub slot_list_getitem.plain entry_list_getitem (args_list_getitem _ _) (wpAny_mono h (fun fin s' ⟨v, e, z⟩ => ⟨v, e, wpAny_pure z⟩) fun _ _ z => z)

theorem setItem_b {i v : Value} {Q : Unit → Shared → Prop} (X : K.In s.heap) (I : InstAt s.heap x ox C od) (hq : noSeq K C = true) (hs : findIn K (.ref C) "__setitem__" = some (some (.builtin "list.__setitem__"))) (hsub : subIn K (.ref C) (.type "list") = some true)
    (h : wpAny (model prog w) A.in1 (Builtin.«list.__setitem__» ⟨[.ref x, i, v], []⟩) (fun fin s' => ∃ v, fin = .done (.ret v) ∧ Q () s') E s) : wpAny (model prog w) A (setItem (.ref x) i v) Q E s := by
  unfold setItem sequenceKey
  refine wpAny_holding (wpAny_bind (wpAny_bind (I.type.here ?_)))
  refine wpAny_bind ((anyM_none X hq).here ?_)
  rw [if_pos (show (!false) = true from rfl)]
  refine wpAny_pure (wpAny_bind (special_b X I hs slot_list_setitem.bind ?_))
  exact call_on X I (.inl (by decide +kernel)) (nm := "__setitem__") (by decide +kernel) hsub slot_list_setitem.plain entry_list_setitem (args_list_setitem _ _ _) (wpAny_mono h (fun fin s' ⟨v, e, z⟩ => ⟨v, e, wpAny_pure z⟩) fun _ _ z => z)

theorem acc_item {C da : Addr} {its : List Value} {n : Nat} {k : Int} {t : Tok} {v : Value} {Q : Value → Shared → Prop} (X : K.In s.heap) (I : InstAt s.heap x (accObj C da its n) C od) (hq : noSeq K C = true) (hs : findIn K (.ref C) "__getitem__" = some (some (.builtin "list.__getitem__"))) (hsub : subIn K (.ref C) (.type "list") = some true)
    (h0 : 0 ≤ k) (hk : its[k.toNat]? = some v) (hfit : k < 2 ^ 63) (h : Q v s) : wpAny (model prog w) A (getItem (.ref x) (.int k t)) Q E s := by
  refine getItem_b X I hq hs hsub ?_
  have ho := I.at_
  show wpAny _ _ (Builtin.List.listSubscript? (.int k t) >>= _) _ _ s
  refine wpAny_bind (wpAny_listSubscript_int (fitsIndex_of h0 hfit) ?_)
  clear hfit
  obtain ⟨j, rfl⟩ := Int.eq_ofNat_of_zero_le h0
  have hk : its[j]? = some v := hk
  show wpAny _ _ ((seqItemAt x j >>= fun r => pure (r.map (j, ·))) >>= _) _ _ s
  refine wpAny_bind (wpAny_bind (wpAny_seqItemAt ho rfl (wpAny_pure ?_)))
  have e : its.toArray[j]? = some v := by simpa using hk
  rw [e]
  first
    | exact wpAny_bind (wpAny_pure (wpAny_pure ⟨v, rfl, h⟩))
    | exact wpAny_pure ⟨v, rfl, h⟩

theorem acc_tail {value slice : Expr} {i : Value} {ops : List Value} {id : String} {Q : Value → Shared → Prop} (X : K.In s.heap) (I : InstAt s.heap x ox C od) (hf : findIn K (.ref C) "__getitem__" = some (some (.builtin id))) (hg : wpAny (model prog w) A (getItem (.ref x) i) Q E s)
    (hs : subscripted slice false (.ref x) i = operate ops (getItem (.ref x) i)) : wpAny (model prog w) A (subscriptTail value slice (.ref x) i) Q E s := by
  unfold subscriptTail getitemInPython
  refine wpAny_bind (wpAny_bind (wpAny_bind (I.type.here ((looks_findIn X hf).here ?_))))
  refine wpAny_pure ?_
  rw [hs]
  exact wpAny_bind (wpAny_operating (wpAny_mono hg (fun r s₃ h₃ => wpAny_bind (wpAny_letTemporaryGo (wpAny_pure h₃))) fun _ _ x => x))
end

section
variable {prog : Program} {w : World} {M : Model} {A : Around} {E : Value → Shared → Prop} {s : Shared} {K : Frag} {x C sl : Addr} {od : Option Obj}

theorem acc_slice {da : Addr} {its : List Value} {n : Nat} {vl vu vs : Value} {lo hi st : Option Int} {Q : Value → Shared → Prop} (X : K.In s.heap) (I : InstAt s.heap x (accObj C da its n) C od) (hq : noSeq K C = true) (hf : findIn K (.ref C) "__getitem__" = some (some (.builtin "list.__getitem__"))) (hsub : subIn K (.ref C) (.type "list") = some true)
    (hs : s.heap.IsSliceOf sl vl vu vs) (pl : IsPart vl lo) (pu : IsPart vu hi) (ps : IsPart vs st) (h0 : st ≠ some 0)
    (h : Q (.ref s.heap.objs.size) { s with heap := s.heap.push { cls := .type "list", data := .seq (slicePick its.toArray lo hi st) } })
    (hsz : its.length ≤ sizeLine := by size_fits) : wpAny (model prog w) A (getItem (.ref x) (.ref sl)) Q E s := by
  refine getItem_b X I hq hf hsub ?_
  obtain ⟨os, hos, hcs, hds⟩ := id hs
  have hTs : s.TypeIs (.ref sl) "slice" := ⟨os, hos, hcs⟩
  have ho := I.at_
  show wpAny _ _ (Builtin.List.listSubscript? (.ref sl) >>= _) _ _ s
  refine wpAny_bind ?_
  unfold Builtin.List.listSubscript?
  refine wpAny_bind (wpAny_specialOf hTs slice_no_index ?_)
  simp only [Option.isNone_none, if_true]
  refine wpAny_pure ?_
  show wpAny _ _ (typeOf (.ref sl) >>= _) _ _ s
  refine wpAny_bind (wpAny_typeOf hTs ?_)
  rw [if_neg (by decide)]
  rw [listSliceParts_eq]
  have hstep : ¬ ((rawPart st == rawInt 0) = true) := by
    cases st with
    | none => exact Bool.false_ne_true
    | some c =>
      intro hh
      have : c = 0 := by simpa [rawPart, rawInt] using hh
      exact h0 (by rw [this])
  refine wpAny_bind (wpAny_bind (wpAny_field hos hds (x := vs) rfl (wpAny_bind (wpAny_listPart ps ?_))))
  rw [if_neg hstep]
  refine wpAny_bind (wpAny_field hos hds (x := vl) rfl (wpAny_bind (wpAny_listPart pl ?_)))
  refine wpAny_bind (wpAny_field hos hds (x := vu) rfl (wpAny_bind (wpAny_listPart pu (wpAny_pure ?_))))
  refine wpAny_bind (m := Builtin.List.listItems (.ref x)) ?_
  unfold Builtin.List.listItems
  refine wpAny_bind (wpAny_seqItems ho rfl (wpAny_pure ?_))
  refine wpAny_bind (wpAny_of_eq (sliceIndices_raw lo hi st its.toArray.size h0) ?_)
  refine wpAny_bind (wpAny_newObj_type (wpAny_pure ⟨_, rfl, h⟩) (Nat.le_trans (slicePick_size_le its.toArray lo hi st) (by simpa using hsz)))

/-- what a store of a whole slice by ones leaves -/
noncomputable def sliceStored (its new : List Value) (lo hi : Option Int) : List Value :=
  let b := sliceBounds lo hi none its.length
  (its.toArray.extract 0 b.1.toNat ++ new.toArray ++ its.toArray.extract (max b.1 b.2.1).toNat its.length).toList

variable {h₀ : Heap} {L : Addr} {m : Str → Option Value} {news news' : List (Addr × Obj)}
theorem acc_setSlice {da lb : Addr} {its new : List Value} {n nl : Nat} {od : Obj} {vl vu : Value} {lo hi : Option Int} {Q : Unit → Shared → Prop} (F : Fr h₀ L s.heap m) (X₀ : K.In h₀) (N : News h₀ L s.heap news) (hd : (da, od) ∈ news)
    (U : Upd x (accObj C da its n) (accObj C da (sliceStored its new lo hi) (bump n its (sliceStored its new lo hi))) news news')
    (hq : noSeq K C = true) (hf : findIn K (.ref C) "__setitem__" = some (some (.builtin "list.__setitem__"))) (hsub : subIn K (.ref C) (.type "list") = some true)
    (hs : (sl, ({ cls := .type "slice", data := .fields #[vl, vu, .none] } : Obj)) ∈ news) (pl : IsPart vl lo) (pu : IsPart vu hi) (hl : (lb, listOf new.toArray nl) ∈ news) (hne : x ≠ lb)
    (h : ∀ h', Fr h₀ L h' m → News h₀ L h' news' → Q () { s with heap := h' }) (hsz : its.length + new.length ≤ 1000) : wpAny (model prog w) A (setItem (.ref x) (.ref sl) (.ref lb)) Q E s := by
  have hline : sizeLine = 16777216 := by rw [sizeLine_eq]
  have I := inst_of_news N (mem_of_upd U) hd
  refine setItem_b (X₀.keeps F.keep) I hq hf hsub ?_
  have hos := (N _ hs).1
  have hTs : s.TypeIs (.ref sl) "slice" := ⟨_, hos, rfl⟩
  have ho := I.at_
  have hlb := (N _ hl).1
  have hTl : s.TypeIs (.ref lb) "list" := ⟨_, hlb, rfl⟩
  show wpAny _ _ (Builtin.List.listSubscript? (.ref sl) >>= _) _ _ s
  refine wpAny_bind ?_
  unfold Builtin.List.listSubscript?
  refine wpAny_bind (wpAny_specialOf hTs slice_no_index ?_)
  simp only [Option.isNone_none, if_true]
  refine wpAny_pure ?_
  show wpAny _ _ (typeOf (.ref sl) >>= _) _ _ s
  refine wpAny_bind (wpAny_typeOf hTs ?_)
  rw [if_neg (by decide)]
  rw [listSliceParts_eq]
  refine wpAny_bind (wpAny_bind (wpAny_field hos rfl (x := .none) rfl (wpAny_bind (wpAny_listPart .none ?_))))
  rw [if_neg (by decide)]
  refine wpAny_bind (wpAny_field hos rfl (x := vl) rfl (wpAny_bind (wpAny_listPart pl ?_)))
  refine wpAny_bind (wpAny_field hos rfl (x := vu) rfl (wpAny_bind (wpAny_listPart pu (wpAny_pure ?_))))
  have hsame : Builtin.List.listSameRef (.ref x) (.ref lb) = false := by simp [Builtin.List.listSameRef, hne]
  rw [hsame, if_neg (by decide)]
  refine wpAny_bind ?_
  unfold Builtin.List.listAllItems
  refine wpAny_bind (wpAny_typeOf hTl ?_)
  rw [if_pos (by decide)]
  unfold Builtin.List.listItems
  refine wpAny_bind (wpAny_seqItems hlb rfl (wpAny_pure ?_))
  refine wpAny_bind (wpAny_bind (wpAny_seqItems ho rfl (wpAny_pure ?_)))
  refine wpAny_bind (wpAny_of_eq (sliceIndices_raw lo hi none its.toArray.size (by simp)) ?_)
  have hstep : (sliceBounds lo hi none its.toArray.size).2.snd = 1 := rfl
  rw [hstep, if_pos (by decide)]
  refine wpAny_bind (wpAny_rule ?_)
  have hlong : Builtin.List.listTooLong (its.toArray.size + new.toArray.size) = false := by
    simp only [Builtin.List.listTooLong, List.size_toArray, decide_eq_false_iff_not]
    omega
  rw [hlong, if_neg (by decide)]
  refine wpAny_bind ?_
  refine acc_update (its := its) F N U (by simp [sliceStored]) (fun h' F' N' => ?_) (by omega) ?_
  · refine wpAny_bind (wpAny_letGo ?_)
    exact wpAny_pure ⟨_, rfl, h h' F' N'⟩
  · simp only [sliceStored, Array.length_toList, Array.size_append, Array.size_extract, List.size_toArray]
    omega
end
end Mine
end
section
open PySem PySem.W PyProof.Rows PySem.Spec PySem.Calls
namespace Mine
/-- an object that bears items, whatever its class -/
noncomputable def SeqAt (h : Heap) (a : Addr) (items : Array Value) : Prop := ∃ o n, h.get? a = some o ∧ o.data = .seq items n
theorem SeqAt.at {h h' : Heap} {a : Addr} {items : Array Value} (x : SeqAt h a items) (e : ∀ o, h.get? a = some o → h'.get? a = some o) : SeqAt h' a items := let ⟨o, n, ho, hd⟩ := x; ⟨o, n, e o ho, hd⟩

section
variable {prog : Program} {w : World} {M : Model} {A : Around} {E : Value → Shared → Prop} {s : Shared} {K : Frag} {x C : Addr} {ox : Obj} {od : Option Obj}

theorem pyIter_b {Q : Value → Shared → Prop} (X : K.In s.heap) (I : InstAt s.heap x ox C od) (hs : findIn K (.ref C) "__iter__" = some (some (.builtin "list.__iter__"))) (hsub : subIn K (.ref C) (.type "list") = some true)
    (h : Q (.ref s.heap.objs.size) { s with heap := s.heap.push { cls := .type "list_iterator", data := .fields #[.ref x, .int 0 0] } }) : wpAny (model prog w) A (pyIter (.ref x)) Q E s := by
  unfold pyIter specialOf
  refine wpAny_bind (wpAny_bind (I.type.here ((looks_findIn X hs).here ?_)))
  show wpAny (model prog w) A (callSpecialIfBoundUnlessNone? (.ref x) "__iter__" _ >>= _) Q E s
  have call : ∀ {Q' : Value → Shared → Prop}, Q' (.ref s.heap.objs.size) { s with heap := s.heap.push { cls := .type "list_iterator", data := .fields #[.ref x, .int 0 0] } } → wpAny (model prog w) A (call (.builtin "list.__iter__") [.ref x]) Q' E s := by
    intro Q' z
    refine call_on X I (.inl (by decide +kernel)) (nm := "__iter__") (by decide +kernel) hsub slot_list_iter.plain entry_list_iter (args_list_iter _) ?_
    show wpAny _ _ (newFields "list_iterator" [.ref x, rawInt 0] >>= fun v => ret v) _ _ s
    exact wpAny_bind (wpAny_newObj_type (wpAny_pure ⟨_, rfl, z⟩))
  have fin : wpAny (model prog w) A (specialOf (.ref s.heap.objs.size) "__next__") (fun r s' => r = some (.builtin "list_iterator.__next__") ∧ s' = { s with heap := s.heap.push { cls := .type "list_iterator", data := .fields #[.ref x, .int 0 0] } }) E { s with heap := s.heap.push { cls := .type "list_iterator", data := .fields #[.ref x, .int 0 0] } } :=
    wpAny_specialOf (T := "list_iterator") ⟨_, Heap.get?_push_size _ rfl, rfl⟩ slot_listiter_next.lookup ⟨rfl, rfl⟩
  have hcall : ∀ refuse : Sem Value, wpAny (model prog w) A (callSpecialIfBoundUnlessNone? (.ref x) "__iter__" refuse) (fun r s' => r = some (.ref s.heap.objs.size) ∧ s' = { s with heap := s.heap.push { cls := .type "list_iterator", data := .fields #[.ref x, .int 0 0] } }) E s := by
    intro refuse
    simp only [callSpecialIfBoundUnlessNone?, bindSpecialIfBound?]
    refine wpAny_holding (wpAny_bind (wpAny_bind (wpAny_bind (I.type.here ((looks_findIn X hs).here ?_)))))
    refine wpAny_bind (wpAny_askSetting (wpAny_ite ?_))
    have rest : wpAny (model prog w) A (PySem.call (.builtin "list.__iter__") [.ref x] >>= fun v => pure (some v)) (fun r s' => r = some (.ref s.heap.objs.size) ∧ s' = { s with heap := s.heap.push { cls := .type "list_iterator", data := .fields #[.ref x, .int 0 0] } }) E s :=
      wpAny_bind (call (wpAny_pure ⟨rfl, rfl⟩))
    split
    · refine wpAny_bind ?_
      rw [slot_list_iter.bind]
      exact wpAny_pure (wpAny_pure rest)
    · refine wpAny_tryCatch (wpAny_bind ?_)
      rw [slot_list_iter.bind]
      exact wpAny_pure (wpAny_pure rest)
  refine wpAny_bind (wpAny_mono (hcall _) (fun r s' z => ?_) fun _ _ z => z)
  obtain ⟨rfl, rfl⟩ := z
  refine wpAny_bind (wpAny_mono fin (fun r s' z => ?_) fun _ _ z => z)
  obtain ⟨rfl, rfl⟩ := z
  exact wpAny_pure h

theorem next_item {it l : Addr} {i : Nat} {items : Array Value} {v : Value} {Q : Option Value → Shared → Prop} (hit : s.heap.IsListIter it l i) (hl : SeqAt s.heap l items) (hx : items[i]? = some v)
    (hQ : ∀ h', h'.IsListIter it l (i + 1) → Heap.SameBut it s.heap h' → Q (some v) { s with heap := h' }) : wpAny (model prog w) A (pyNext (.ref it)) Q E s := by
  obtain ⟨o, ho, hc, hd⟩ := id hit
  obtain ⟨ol, nl, hol, hdl⟩ := hl
  unfold pyNext
  refine wpAny_bind (wpAny_attempt (wpAny_callSpecial?_slot (name := Str.ofString "__next__") hit.typeIs slot_listiter_next
    (wpAny_call_entry slot_listiter_next hit.typeIs entry_listiter_next ?_ (args_listiter_next _))))
  show wpAny _ _ (field (.ref it) 0 >>= _) _ _ s
  refine wpAny_bind (wpAny_field ho hd (x := .ref l) rfl ?_)
  show wpAny _ _ (if (Value.ref l == Value.none) = true then _ else _) _ _ s
  rw [if_neg (show ¬ ((Value.ref l == Value.none) = true) from Bool.false_ne_true)]
  show wpAny _ _ (field (.ref it) 1 >>= _) _ _ s
  refine wpAny_bind (wpAny_field ho hd (x := .int i 0) rfl ?_)
  show wpAny _ _ (seqItems? (.ref l) >>= _) _ _ s
  refine wpAny_bind (wpAny_seqItems hol hdl ?_)
  simp only [Int.toNat_natCast, hx]
  refine wpAny_bind (wpAny_setField ho hd (by simp) (wpAny_pure ⟨v, rfl, wpAny_pure (hQ _ ?_ (Heap.SameBut.update ..))⟩))
  exact ⟨_, Heap.get?_update_self _ ho (Obj.isFreed_of_fields (Obj.data_mapFields hd _)), (Obj.cls_mapFields ..).trans hc, by
    rw [Obj.data_mapFields hd]; simp [rawInt]⟩

theorem next_end {it l : Addr} {i : Nat} {items : Array Value} {Q : Option Value → Shared → Prop} (hh : A.handled = none) (hit : s.heap.IsListIter it l i) (hl : SeqAt s.heap l items) (hx : items[i]? = none)
    (hQ : ∀ h', Heap.ExtBut it s.heap h' → Q none { s with heap := h' }) : wpAny (model prog w) A (pyNext (.ref it)) Q E s := by
  obtain ⟨o, ho, hc, hd⟩ := id hit
  obtain ⟨ol, nl, hol, hdl⟩ := hl
  unfold pyNext
  refine wpAny_bind (wpAny_attempt (wpAny_callSpecial?_slot (name := Str.ofString "__next__") hit.typeIs slot_listiter_next
    (wpAny_call_entry slot_listiter_next hit.typeIs entry_listiter_next ?_ (args_listiter_next _))))
  show wpAny _ _ (field (.ref it) 0 >>= _) _ _ s
  refine wpAny_bind (wpAny_field ho hd (x := .ref l) rfl ?_)
  show wpAny _ _ (if (Value.ref l == Value.none) = true then _ else _) _ _ s
  rw [if_neg (show ¬ ((Value.ref l == Value.none) = true) from Bool.false_ne_true)]
  show wpAny _ _ (field (.ref it) 1 >>= _) _ _ s
  refine wpAny_bind (wpAny_field ho hd (x := .int i 0) rfl ?_)
  show wpAny _ _ (seqItems? (.ref l) >>= _) _ _ s
  refine wpAny_bind (wpAny_seqItems hol hdl ?_)
  simp only [Int.toNat_natCast, hx]
  refine wpAny_bind (wpAny_rule (wpAny_bind (wpAny_setField ho hd (by simp) ?_)))
  show wpAny _ _ (newExc (.type "StopIteration") [] >>= _) _ _ _
  refine wpAny_bind ?_
  simp only [newExc, newTuple]
  refine wpAny_bind (wpAny_newObj_type ?_ (by size_fits))
  refine wpAny_bind (m := firstArgMember _ _) (wpAny_of_eq (a := Value.none) (by first | rfl | (simp only [firstArgMember]; rfl)) ?_)
  refine wpAny_newObj_type ?_ (by size_fits)
  simp only [raiseNew]
  refine wpAny_bind (wpAny_handled ?_)
  rw [show A.in1.handled = none from hh]
  refine wpAny_bind (wpAny_pure (wpAny_throw ?_))
  refine wpAny_bind (wpAny_isInstance (T := "StopIteration") (b := true) ⟨_, Heap.get?_push_size _ rfl, rfl⟩ isSubtype_stop ?_)
  exact wpAny_pure (hQ _ (((Heap.SameBut.update ..).extBut.push _).push _))

/-- a walk along the items of such an object, each a made tuple -/
theorem walks_pairs (hh : A.handled = none) (I ax : Addr) (hne : ax ≠ I) (ts : List (Addr × Array Value)) (hI : ∀ p ∈ ts, p.1 ≠ I) :
    WalksU prog w A I (I :: ax :: ts.map (·.1)) [I] ts.length (fun i vals => ∃ T, ts[i]? = some (T, vals)) (fun i h => h.IsListIter I ax i ∧ SeqAt h ax (ts.map fun p => Value.ref p.1).toArray ∧ ∀ p ∈ ts, h.IsTuple p.1 p.2)
      (fun i T h => T ≠ I ∧ h.IsListIter I ax (i + 1) ∧ SeqAt h ax (ts.map fun p => Value.ref p.1).toArray ∧ ∀ p ∈ ts, h.IsTuple p.1 p.2) where
  sub := fun b hb => by simp at hb; simp [hb]
  frame := fun _ _ _ st hk => ⟨st.1.at fun o e => hk I (by simp) o e, st.2.1.at fun o e => hk ax (by simp) o e, fun p hp => let ⟨o, e, r⟩ := st.2.2 p hp; ⟨o, hk p.1 (by simp; exact .inr (.inr ⟨_, hp⟩)) o e, r⟩⟩
  item := fun i s Q E hi st hQ => by
    have hx : (ts.map fun p => Value.ref p.1).toArray[i]? = some (.ref ts[i].1) := by simp [hi]
    refine next_item st.1 st.2.1 hx fun h' hit' hs' => ?_
    have hmem : ts[i] ∈ ts := List.getElem_mem hi
    have tup : ∀ p ∈ ts, h'.IsTuple p.1 p.2 := fun p hp => (st.2.2 p hp).extBut hs'.extBut (hI p hp)
    exact hQ _ ts[i].2 h' s.toks ⟨ts[i].1, by simp [hi]⟩ (tup _ hmem) ⟨hI _ hmem, hit', st.2.1.at fun o e => hs'.extBut _ o hne e, tup⟩ fun b o hb e => hs'.extBut b o (fun h => hb (by simp [h])) e
  go := fun elts k pos i T s Q E mid hQ => letGo_listiter mid.2.1 (hQ s.heap mid.2 fun _ _ _ e => e)
  apart := fun i T h mid hT => mid.1 (List.mem_singleton.mp hT)
  done := fun s Q E st hQ => next_end hh st.1 st.2.1 (by simp) fun h' he' => hQ h' s.toks fun b o hb e => he' b o (fun h => hb (by simp [h])) e
  self := fun _ _ _ _ st hQ => wpAny_pyIter_listiter st.1 hQ
end
end Mine
end
section
open PySem PySem.W PyProof.Rows PySem.Spec PySem.Calls
namespace Mine
noncomputable def lmakesIn (K : Frag) (C : Addr) : Bool := match K.lookup C with
  | some ⟨_, _, .cls cd, sl⟩ => !cd.hasDel && (sl.toList[4]?).join == some (.builtin "list.__new__") && !cd.mro.isEmpty && cd.mro.contains (.ref C) && cd.mro.contains (.type "list") &&
      specialIn K (.ref C) "__call__" == some (some (.builtin "type.__call__")) && instIn K (.ref C) (.type "type") == some true
  | _ => false
structure LMakes (M : Model) (h : Heap) (C : Addr) : Prop where
  obj : ∃ oc od cd sl, h.get? C = some ⟨oc, od, .cls cd, sl⟩ ∧ cd.hasDel = false ∧ cd.mro.isEmpty = false
  made : Looks M h (Bind.madeBy (.ref C)) (some "list.__new__")
  base : Looks M h (Bind.staticBase (.ref C)) (.ref C)
  self : Looks M h (isSubtype (.ref C) (.ref C)) true
  lst : Looks M h (isSubtype (.ref C) (.type "list")) true
  call : Looks M h (specialOf (.ref C) "__call__") (some (.builtin "type.__call__"))
  typ : Looks M h (isInstance (.ref C) (.type "type")) true
theorem lmakes_of {K : Frag} {M : Model} {h : Heap} (X : K.In h) {C : Addr} (e : lmakesIn K C = true) : LMakes M h C := by
  unfold lmakesIn at e
  split at e
  · rename_i oc od cd sl ho
    simp only [Bool.and_eq_true, Bool.not_eq_true', beq_iff_eq] at e
    obtain ⟨⟨⟨⟨⟨⟨e2, e3⟩, e4⟩, e5⟩, e6⟩, e7⟩, e8⟩ := e
    have hc : clsIn K C = some cd := by unfold clsIn; rw [ho]
    have hm : Looks M h (mroOf (.ref C)) cd.mro := (looks_clsIn X hc).andThen .now
    obtain ⟨c, l, hl⟩ : ∃ c l, cd.mro = c :: l := by cases q : cd.mro with | nil => rw [q] at e4; cases e4 | cons c l => exact ⟨c, l, rfl⟩
    have made : Looks M h (Bind.madeBy (.ref C)) (some "list.__new__") := by
      intro A Q E s k q
      unfold Bind.madeBy
      refine wpAny_bind (hm A _ E s k ?_)
      rw [hl, List.forIn_cons]
      refine wpAny_bind (wpAny_bind (wpAny_bind (wpAny_bind (wpAny_loadPart (k _ _ (X _ _ ho)) (wpAny_pure ?_)))))
      dsimp only
      rw [← Array.getElem?_toList, e3]
      exact wpAny_pure (wpAny_pure (wpAny_pure q))
    refine ⟨⟨oc, od, cd, sl, X _ _ ho, e2, e4⟩, made, ?_, looks_mroIn X ?_, looks_mroIn X ?_, looks_specialIn X e7, looks_instIn X e8⟩
    · intro A Q E s k q
      unfold Bind.staticBase
      refine wpAny_bind (hm A _ E s k ?_)
      rw [hl, List.forIn_cons]
      exact wpAny_bind (wpAny_bind (wpAny_bind (made A _ E s k (wpAny_pure (wpAny_pure (wpAny_pure q))))))
    · unfold mroIn; rw [hc, Option.bind_some, if_neg (by rw [e4]; decide), e5]
    · unfold mroIn; rw [hc, Option.bind_some, if_neg (by rw [e4]; decide), e6]
  · cases e

theorem kind_lnew : builtinKind "list.__new__" = some .builtinFn := by decide +kernel
theorem split_lnew : splitId "list.__new__" = some ("list", "__new__") := by decide +kernel
noncomputable def sigSem (id : String) (args : Args) : Sem Unit := match Manifest.signature? id with | some sig => Bind.checkArgs id sig args | none => pure ()
theorem sig_lnew (C : Addr) (rest : List Value) : sigSem "list.__new__" ⟨.ref C :: rest, []⟩ = pure () := by
  unfold sigSem; rw [signature?_of (id := "list.__new__") (n := ['_', '_', 'w', 'e', 'n', '_', '_']) (o := ['t', 's', 'i', 'l']) (by kernel_rfl) PySem.F.owner_list]; kernel_rfl

section
variable {prog : Program} {w : World} {A : Around} {K : Frag} {C : Addr} {R : Result → Shared → Prop} {h : Heap} {g : Array GenState} {d : Drawn} {t : Nat} {os : OsState}
theorem lnew_K {rest : List Value} (Y : LMakes (model prog w) h C) 
    (hq : R (.ok (.ret (.ref (h.objs.size + 1)))) ⟨(h.push emptyDict).push (accObj C h.objs.size [] 0), g, d, t, os⟩) :
    codeAny (model prog w) A (.call (.builtin "list.__new__") ⟨.ref C :: rest, []⟩) R ⟨h, g, d, t, os⟩ := by
  obtain ⟨⟨oc, od, cd, sl, hC, e2, e4⟩, made, base, self, lst, call, typ⟩ := Y
  have hs := sig_lnew C rest
  unfold sigSem at hs
  have isT : Looks (model prog w) h (isType (.ref C)) true := by
    intro A Q E s k q
    obtain ⟨h', g', d', t', os'⟩ := s
    exact ks_wpAny_isType_cls (k _ _ hC) rfl q
  refine codeAny_call_builtin_code (plainId_quiet PySem.F.plain_list_new _) ?_
  simp only [checkBuiltinCall, kind_lnew, split_lnew]
  have sig : ∀ {Q : Unit → Shared → Prop} {E : Value → Shared → Prop} {A}, Q () ⟨h, g, d, t, os⟩ → wpAny (model prog w) A (match Manifest.signature? "list.__new__" with | some sig => Bind.checkArgs "list.__new__" sig ⟨.ref C :: rest, []⟩ | none => pure ()) Q E ⟨h, g, d, t, os⟩ := fun q => by rw [hs]; exact wpAny_pure q
  refine KFB.if_so (by decide) ?_
  refine wpAny_bind (isT.at ?_)
  refine KFB.if_not rfl ?_
  refine wpAny_bind (lst.at ?_)
  refine KFB.if_not rfl ?_
  refine wpAny_bind (base.at ?_)
  refine wpAny_bind (made.at ?_)
  refine KFB.if_not (by simp) ?_
  refine sig ?_
  refine codeAny_builtin_stack PySem.F.entry_list_new rfl fun p st => ?_
  rw [Around.under_plainId PySem.F.plain_list_new _]
  have hown := owner_list_new
  simp only [hown]
  refine wpAny_bind (isT.at ?_)
  refine KFB.if_not rfl ?_
  refine wpAny_bind (lst.at ?_)
  refine KFB.if_not rfl ?_
  refine wpAny_bind (wpAny_pure ?_)
  refine KFB.if_not rfl ?_
  refine wpAny_bind (wpAny_newObj_type ?_)
  show wpAny _ _ (newObj (.ref C) (.seq #[]) (some h.objs.size) >>= fun v => ret v) _ _ _
  refine wpAny_bind ?_
  have fin : wpAny (model prog w) A.in1 (newObjAsIs (.ref C) (.seq #[]) (some h.objs.size)) (fun v s' => wpAny (model prog w) A.in1 (ret v) (fun fin s' => match fin with | .done f => R (.ok f) s' | .again c' => c'.quiet = true ∧ codeAny (model prog w) A c' R s') (fun e s' => R (.error e) s') s') (fun e s' => R (.error e) s') ⟨h.push emptyDict, g, d, t, os⟩ := by
    unfold newObjAsIs classHasDel
    refine wpAny_bind (wpAny_alloc (wpAny_bind (wpAny_bind (wpAny_load (Heap.get?_push_of_some _ (Heap.get?_push_of_some _ hC)) (wpAny_pure ?_)))))
    rw [e2]
    refine wpAny_pure (wpAny_pure ?_)
    show R _ _
    rw [Heap.size_push]
    exact hq
  unfold newObj
  dsimp only
  rw [if_neg (by simp)]
  exact fin

theorem lmake_core {rest : List Value} {init : Value} (Y : LMakes (model prog w) h C) (hi : Looks (model prog w) h (typeLookup (.ref C) "__init__") (some init))
    (hb : ∀ self, Looks (model prog w) h (bindSpecial init self) (init, [self]))
    (hq : codeAny (model prog w) (A.under (.builtin "type.__call__" ⟨.ref C :: rest, []⟩)) (.call init ⟨.ref (h.objs.size + 1) :: rest, []⟩) (InitBack (h.objs.size + 1) R) ⟨(h.push emptyDict).push (accObj C h.objs.size [] 0), g, d, t, os⟩) :
    codeAny (model prog w) A (.call (.ref C) ⟨rest, []⟩) R ⟨h, g, d, t, os⟩ := by
  have Y' := Y
  obtain ⟨⟨oc, od, cd, sl, hC, e2, e4⟩, made, base, self, lst, call, typ⟩ := Y
  refine codeAny_of_tree ?_
  show wpAny _ _ (callAny (.ref C) _) _ _ _
  refine nd_load hC ?_
  show wpAny _ _ (callAny.viaDunder (.ref C) _) _ _ _
  unfold callAny.viaDunder
  refine wpAny_bind (call.at ?_)
  dsimp only
  rw [tc_bind]
  refine wpAny_bind (wpAny_pure (wpAny_bind (wpAny_pure ?_)))
  refine wpAny_pure (a := Fin.again (.call (.builtin "type.__call__") ⟨.ref C :: rest, []⟩)) (And.intro rfl ?_)
  refine codeAny_call_builtin_at (Code.quiet_builtin _ (by decide +kernel)) entry_typeCall (check_slot tc_kind tc_split typ (tc_args _ _ _) ?_)
  unfold Builtin.«type.__call__»
  have hm : Looks (model prog w) h (mroOf (.ref C)) cd.mro := ((Looks.ld (part := none) hC).andThen .now).andThen .now
  repeat (first | simp only [e4, Bool.false_eq_true, if_false] | with_reducible refine wpAny_call ?_ | lk)
  refine lnew_K Y' ?_
  have k : ∀ b o, h.get? b = some o → ((h.push emptyDict).push (accObj C h.objs.size [] 0)).get? b = some o := fun b o e => Heap.get?_push_of_some _ (Heap.get?_push_of_some _ e)
  have hx : ((h.push emptyDict).push (accObj C h.objs.size [] 0)).get? (h.objs.size + 1) = some (accObj C h.objs.size [] 0) := by heap_get
  have t1 : Looks (model prog w) ((h.push emptyDict).push (accObj C h.objs.size [] 0)) (typeOf (.ref (h.objs.size + 1))) (.ref C) := (Looks.ld hx).andThen .now
  have s1 := self.keeps k
  have i1 := hi.keeps k
  have b1 := (hb (.ref (h.objs.size + 1))).keeps k
  unfold isInstance callSpecial? specialOf
  repeat (first | with_reducible refine wpAny_call ?_ | lk)
  refine codeAny_mono hq fun r s' z => ?_
  rcases r with e | (v | _ | _ | _) <;> first | exact z | exact z.elim | skip
  obtain ⟨rfl, z⟩ := z
  exact wpAny_pure (wpAny_pure z)
end

section
variable {prog : Program} {w : World} {A : Around} {E : Value → Shared → Prop} {K : Frag} {C x : Addr} {s : Shared} {h₀ : Heap} {L : Addr} {m : Str → Option Value} {news : List (Addr × Obj)} {Q : Value → Shared → Prop}
theorem call_lcls {pos : List Value} {fI : Addr} (F : Fr h₀ L s.heap m) (X₀ : K.In h₀) (N : News h₀ L s.heap news) (hm : lmakesIn K C = true) (hi : findIn K (.ref C) "__init__" = some (some (.ref fI))) (hf : isFn K (.ref fI) = true)
    (h : ∀ x dx h', Fr h₀ L h' m → News h₀ L h' ((x, accObj C dx [] 0) :: (dx, dictOf [] 0) :: news) → (∀ p ∈ news, p.1 < dx) → dx < x →
      codeAny (model prog w) (A.under (.builtin "type.__call__" ⟨.ref C :: pos, []⟩)) (.call (.ref fI) ⟨.ref x :: pos, []⟩) (InitBack x fun r s' => match r with | .ok (.ret v) => Q v s' | .ok _ => False | .error e => E e s') { s with heap := h' }) :
    wpAny (model prog w) A (call (.ref C) pos []) Q E s := by
  refine wpAny_call ?_
  have X := X₀.keeps F.keep
  obtain ⟨hh, g, d, t, os⟩ := s
  refine lmake_core (lmakes_of X hm) (looks_findIn X hi) (fun self => bind_fn X self (beq_iff_eq.mp hf)) (h _ hh.objs.size _ ((F.push _).push _) ?_ (fun p hp => Heap.lt_size (N p hp).1) (Nat.lt_succ_self _))
  have := (N.push F emptyDict).push (F.push _) (accObj C hh.objs.size [] 0)
  rwa [Heap.size_push] at this
end
end Mine
end
section
open PySem PySem.W PyProof.Rows PySem.Spec PySem.Calls
namespace Mine
theorem news_of {h₀ h : Heap} {L : Addr} {big small : List (Addr × Obj)} (N : News h₀ L h big) (hs : small.Sublist big) : News h₀ L h small := fun p hp => N p (hs.subset hp)
theorem ne_of_all_lt {q : Addr} {l : List (Addr × Obj)} (h : ∀ p ∈ l, p.1 < q) : ∀ p ∈ l, p.1 ≠ q := fun p hp => Nat.ne_of_lt (h p hp)
theorem lt_cons {q : Addr} {x : Addr × Obj} {l : List (Addr × Obj)} (h : ∀ p ∈ x :: l, p.1 < q) : @LT.lt Nat instLTNat x.1 q ∧ ∀ p ∈ l, p.1 < q := List.forall_mem_cons.mp h
theorem news_sub {h₀ h : Heap} {L : Addr} {big small : List (Addr × Obj)} (N : News h₀ L h big) (hs : ∀ p ∈ small, p ∈ big) : News h₀ L h small := fun p hp => N p (hs p hp)
theorem sub_cons {l r : List (Addr × Obj)} {x : Addr × Obj} (h : ∀ p ∈ l, p ∈ r) : ∀ p ∈ l, p ∈ x :: r := fun p hp => List.mem_cons_of_mem _ (h p hp)
theorem units_make (A : Around) (args : Args) : (A.under (.builtin "type.__call__" args)).units = A.units + 1 := by
  first | rfl | simp [Around.under, Code.cUnits, Code.frames, Code.isFrame]
theorem look178 (P : Params) : lookList (Mine.hd.heap_39 P) 178 = true := by kernel_rfl
theorem over178 (P : Params) : overList (Mine.hd.heap_39 P) 178 = true := by kernel_rfl
theorem makes178 (P : Params) : lmakesIn (Mine.hd.heap_39 P) 178 = true := by kernel_rfl
theorem sub178 (P : Params) : subIn (Mine.hd.heap_39 P) (.ref 178) (.type "list") = some true := by kernel_rfl
theorem noseq178 (P : Params) : noSeq (Mine.hd.heap_39 P) 178 = true := by kernel_rfl
theorem getitem178 (P : Params) : findIn (Mine.hd.heap_39 P) (.ref 178) "__getitem__" = some (some (.builtin "list.__getitem__")) := by kernel_rfl
theorem setitem178 (P : Params) : findIn (Mine.hd.heap_39 P) (.ref 178) "__setitem__" = some (some (.builtin "list.__setitem__")) := by kernel_rfl
theorem iter178 (P : Params) : findIn (Mine.hd.heap_39 P) (.ref 178) "__iter__" = some (some (.builtin "list.__iter__")) := by kernel_rfl
theorem mod178 (P : Params) : subIn (Mine.hd.heap_39 P) (.ref 178) (.type "module") = some false := by kernel_rfl
theorem type178 (P : Params) : typeIn (Mine.hd.heap_39 P) (.ref 178) = some (.type "type") := by kernel_rfl
theorem cls178 (P : Params) : ∃ cd, clsIn (Mine.hd.heap_39 P) 178 = some cd ∧ cd.qualname = ("_Accumulator" : Str) := by
  have h : ((clsIn (Mine.hd.heap_39 P) 178).any fun cd => cd.qualname == ("_Accumulator" : Str)) = true := by kernel_rfl
  obtain ⟨cd, h1, h2⟩ := any_some h
  exact ⟨cd, h1, beq_iff_eq.mp h2⟩

section
variable {prog : Program} {w : World} {A : Around} {E : Value → Shared → Prop} {s : Shared} {ac da L q : Addr} {h₀ : Heap} {m : Str → Option Value} {es : List DictEntry} {its : List Value} {n nd : Nat} {news news' : List (Addr × Obj)}
theorem acc_pop178 {v : Value} {Q : Value → Shared → Prop} (F : Fr h₀ L s.heap m) (X₀ : (Mine.hd.heap_39 w.params).In h₀) (N : News h₀ L s.heap news) (hq : (q, boundObj "builtin_function_or_method" "list.pop" ac) ∈ news) (hd : (da, dictOf es nd) ∈ news)
    (U : Upd ac (accObj 178 da (its ++ [v]) n) (accObj 178 da its (n + 1)) news news')
    (h : ∀ h', Fr h₀ L h' m → News h₀ L h' news' → Q v { s with heap := h' }) (hsz : its.length + 1 ≤ sizeLine := by size_fits) :
    wpAny (model prog w) A (call (.ref q) []) Q E s := by
  obtain ⟨cd, h1, h2⟩ := cls178 w.params
  exact acc_pop F X₀ N hq hd U h1 h2 (mod178 _) (type178 _) h hsz

theorem acc_sub_int {value slice : Expr} {t : Tok} {v : Value} {Q : Value → Shared → Prop} {k : Int} (F : Fr h₀ L s.heap m) (X₀ : (Mine.hd.heap_39 w.params).In h₀) (N : News h₀ L s.heap news) (hm : (ac, accObj 178 da its n) ∈ news) (hd : (da, dictOf es nd) ∈ news)
    (h0 : 0 ≤ k) (hk : its[k.toNat]? = some v) (hfit : k < 2 ^ 63) (h : Q v s) (hs : subscripted slice false (.ref ac) (.int k t) = operate [.ref ac, .int k t] (getItem (.ref ac) (.int k t))) :
    wpAny (model prog w) A (subscriptTail value slice (.ref ac) (.int k t)) Q E s := by
  have X := X₀.keeps F.keep
  have I := inst_of_news N hm hd
  exact acc_tail X I (getitem178 _) (acc_item X I (noseq178 _) (getitem178 _) (sub178 _) h0 hk hfit h) hs

theorem acc_sub_slice {value slice : Expr} {sl : Addr} {vl vu : Value} {lo hi : Option Int} {Q : Value → Shared → Prop} (F : Fr h₀ L s.heap m) (X₀ : (Mine.hd.heap_39 w.params).In h₀) (N : News h₀ L s.heap news) (hm : (ac, accObj 178 da its n) ∈ news) (hd : (da, dictOf es nd) ∈ news)
    (hs : (sl, ({ cls := .type "slice", data := .fields #[vl, vu, .none] } : Obj)) ∈ news) (pl : IsPart vl lo) (pu : IsPart vu hi)
    (h : ∀ q h', Fr h₀ L h' m → News h₀ L h' ((q, listOf (slicePick its.toArray lo hi none) 0) :: news) → (∀ p ∈ news, p.1 < q) → Q (.ref q) { s with heap := h' }) (hsz : its.length ≤ sizeLine)
    (hsub : subscripted slice false (.ref ac) (.ref sl) = operate [.ref sl, .ref ac] (getItem (.ref ac) (.ref sl))) :
    wpAny (model prog w) A (subscriptTail value slice (.ref ac) (.ref sl)) Q E s := by
  have X := X₀.keeps F.keep
  have I := inst_of_news N hm hd
  exact acc_tail X I (getitem178 _) (acc_slice X I (noseq178 _) (getitem178 _) (sub178 _) ⟨_, (N _ hs).1, rfl, rfl⟩ pl pu .none (by simp) (h _ _ (F.push _) (N.push F _) fun p hp => Heap.lt_size (N p hp).1) hsz) hsub
theorem acc_sub_slice2 {value slice : Expr} {vl vu : Value} {lo hi : Option Int} {Q : Value → Shared → Prop} (F : Fr h₀ L s.heap m) (X₀ : (Mine.hd.heap_39 w.params).In h₀) (N : News h₀ L s.heap news) (hm : (ac, accObj 178 da its n) ∈ news) (hd : (da, dictOf es nd) ∈ news)
    (pl : IsPart vl lo) (pu : IsPart vu hi)
    (h : ∀ q h', Fr h₀ L h' m → News h₀ L h' ((q, listOf (slicePick its.toArray lo hi none) 0) :: news) → (∀ p ∈ news, p.1 < q) → Q (.ref q) { s with heap := h' }) (hsz : its.length ≤ sizeLine)
    (hsub : subscripted slice false (.ref ac) (.ref s.heap.objs.size) = operate [.ref s.heap.objs.size, .ref ac] (getItem (.ref ac) (.ref s.heap.objs.size))) :
    wpAny (model prog w) A (subscriptTail value slice (.ref ac) (.ref s.heap.objs.size)) Q E { s with heap := s.heap.push { cls := .type "slice", data := .fields #[vl, vu, .none] } } := by
  refine acc_sub_slice (s := { s with heap := s.heap.push { cls := .type "slice", data := .fields #[vl, vu, .none] } }) (F.push _) X₀ (N.push F _) (List.mem_cons_of_mem _ hm) (List.mem_cons_of_mem _ hd) List.mem_cons_self pl pu (fun q h' F' N' l => h q h' F' (news_of N' (List.Sublist.cons₂ _ (List.Sublist.cons _ (List.Sublist.refl _)))) fun p hp => l p (List.mem_cons_of_mem _ hp)) hsz hsub
end
end Mine
end
section
open PySem PySem.W PyProof.Rows PySem.Spec PySem.Calls
open PySem.Builtin.ObjectAttr
namespace Mine
section
variable {prog : Program} {w : World} {A : Around} {E : Value → Shared → Prop} {s : Shared} {K : Frag} {x C f L : Addr} {ox : Obj} {od : Obj} {name : Str} {h₀ : Heap} {m : Str → Option Value} {es : List DictEntry} {n : Nat} {news : List (Addr × Obj)}
/-- a bound method of an own class over list -/
theorem lbound {expr : Bool} {Q : Value → Shared → Prop} (F : Fr h₀ L s.heap m) (X₀ : K.In h₀) (N : News h₀ L s.heap news) (I : InstAt s.heap x ox C (some (dictOf es n))) (hg : lookList K C = true) (hh : hasDictIn K C = true)
    (ha : findIn K (.ref C) name = some (some (.ref f))) (hf : isFn K (.ref f) = true) (hgf : specialIn K (.ref f) "__get__" = some (some (.builtin "function.__get__"))) (ht : takesIn K (.ref f) = some false) (hc : copiedNames.contains name = false) (hl : getL name es = some none)
    (h : ∀ q h', Fr h₀ L h' m → News h₀ L h' ((q, methodObj (.ref f) (.ref x)) :: news) → (∀ p ∈ news, p.1 < q) → Q (.ref q) { s with heap := h', toks := s.toks + 1 }) :
    wpAny (model prog w) A (getAttr (.ref x) name expr) Q E s := by
  have X := X₀.keeps F.keep
  obtain ⟨g1, g2, g3⟩ := lookList_of hg
  have fin : ∀ (A' A2 : Around) (E' E2 : Value → Shared → Prop), wpAny (model prog w) A' (call (.builtin "function.__get__") [.ref f, .ref x, .ref C]) (fun v s' => wpAny (model prog w) A2 (handedOut v) Q E2 s') E' { s with toks := s.toks + 1 } :=
    fun A' A2 E' E2 => wpAny_call (fn_get (s := { s with toks := s.toks + 1 }) X (beq_iff_eq.mp hf) (handed_on rfl (h s.heap.objs.size _ (F.push _) (N.push F _) fun p hp => Heap.lt_size (N p hp).1)))
  obtain ⟨hh', g, d, t, os⟩ := s
  have L0 := I.type (M := model prog w)
  have L1 := looks_find (M := model prog w) X I (findObj_fn hh ha hgf ht hc (by show lookIn name (dictOf es n) = _; rw [lookIn_dict, hl]))
  unfold getAttr getAttrBy
  refine wpAny_bind (wpAny_mkText (wpAny_holding (wpAny_bind (L0.at (wpAny_bind ((looks_findIn X g1).at ?_))))))
  dsimp only
  rw [show (onTheHeap (.ref C) && Value.builtin "list.__getattribute__" == Value.builtin "object.__getattribute__") = false from by rw [show (Value.builtin "list.__getattribute__" == Value.builtin "object.__getattribute__") = false from by decide +kernel, Bool.and_false], if_neg (by decide)]
  unfold getAttrByItsOwn hookBefore
  refine wpAny_bind ?_
  rw [show onTheHeap (.ref C) = true from rfl, if_pos rfl]
  refine (looks_findIn X g2).at ?_
  refine wpAny_bind (wpAny_attempt (wpAny_holding ?_))
  unfold callGetattribute
  rw [show (expr && onTheHeap (Value.builtin "list.__getattribute__")) = false from Bool.and_false _, if_neg (by decide)]
  unfold boundAndCalled
  rw [bind_lga]
  refine wpAny_bind (wpAny_pure ?_)
  refine call_on (s := ⟨hh', g, d, t + 1, os⟩) X I (.inl kind_lga) split_lga g3 plain_lga entry_lga (args_lga _ _) ?_
  show wpAny _ _ (typeOf (.ref x) >>= fun tp => find (.ref x) tp name >>= _) _ _ _
  refine wpAny_bind (L0.at (wpAny_bind (L1.at ?_)))
  show wpAny _ _ (holding [.ref f] (call (.builtin "function.__get__") [.ref f, .ref x, .ref C]) >>= ret) _ _ _
  refine wpAny_bind (wpAny_holding (wpAny_mono (fin _ _ _ _) (fun v s' z => wpAny_pure ⟨v, rfl, z⟩) fun _ _ z => z))
end
section
variable {M : Model} {A : Around} {E : Value → Shared → Prop} {s : Shared} {K : Frag} {env : Env} {pos apos p : Pos} {q g L : Addr} {self : Value} {first : List Value} {Q : Value → Shared → Prop} {h₀ : Heap} {e o : Expr} {name : Str} {args : List Expr} {news : List (Addr × Obj)}
theorem callWith_SM (_X : K.In h₀) (_N : News h₀ L s.heap news) (_q : (q, methodObj (.ref g) self) ∈ news) (hf : fnIn K g = true)
    (h : wpAny M A (eval e env) (fun v s₁ => StarOf M A E v (fun vs s₂ => MethP K q g self s₂.heap ∧ wpAny M A (call (.ref q) (first ++ vs)) Q E s₂) s₁) E s)
    (he : starEach [.Starred e p] env = [(true, eval e env)] := by rfl) :
    wpAny M A (callWith pos (.ref q) first (backTo pos (starEach [.Starred e p] env)) []) Q E s := by
  rw [he]
  exact ks_call rfl (keeps_M hf) (ks_lone h)
theorem MethodCall_star (h : wpAny M A (eval o env) (fun ov s₁ => wpAny M A (getAttr ov name true) (fun f s₂ => wpAny M A (callWith pos f [] (backTo pos (starEach args env)) []) Q E s₂) E s₁) E s)
    (he : eval (.Call (.Attribute o name apos) args [] pos) env = (do
      let ov ← eval o env
      standAt apos.atName
      let (f, first) ← holding [ov] (do pure (← getAttr ov name true, []))
      callWith pos f first (backTo pos (starEach args env)) (backToKw pos (keywordEach [] env))) := by rfl) :
    wpAny M A (eval (.Call (.Attribute o name apos) args [] pos) env) Q E s := by
  rw [he]
  refine wpAny_bind (wpAny_mono h (fun ov s₁ h₁ => wpAny_bind (wpAny_standAt (wpAny_bind (wpAny_holding (wpAny_bind (wpAny_mono h₁ (fun fx s₂ h₂ => wpAny_pure ?_) fun _ _ x => x)))))) fun _ _ x => x)
  exact h₂
end
end Mine
end
section
open PySem PySem.W PyProof.Rows PySem.Spec PySem.Calls
namespace Mine
structure PickIs (its : List Value) (lo hi : Option Int) (zs : List Value) : Prop where
  is : (slicePick its.toArray lo hi none).toList = zs
structure StoredIs (its new : List Value) (lo hi : Option Int) (zs : List Value) : Prop where
  is : sliceStored its new lo hi = zs
theorem pick_from (its : List Value) (k : Nat) (h : k ≤ its.length) : PickIs its (some (k : Int)) none (its.drop k) := by
  have e : sliceBounds (some (k : Int)) none none its.toArray.size = ((k : Int), ((its.length : Nat) : Int), 1) := by
    simp only [sliceBounds, Option.getD_none, show (1 : Int) > 0 by decide, if_true, if_neg (show ¬ ((k : Int) < 0) by omega), List.size_toArray]
    congr 1
    omega
  refine ⟨?_⟩
  rw [kmk_pick_nat _ e]
  show (its.drop k).take (its.length - k) = _
  rw [List.take_of_length_le (by rw [List.length_drop]; omega)]
theorem pick_last (pre : List Value) (v : Value) : PickIs (pre ++ [v]) (some (pre.length : Int)) none [v] := by
  have h := pick_from (pre ++ [v]) pre.length (by simp)
  rwa [List.drop_left] at h
theorem stored_all (its new : List Value) : StoredIs its new none none new := by
  refine ⟨?_⟩
  simp [sliceStored, sliceBounds]
theorem stored_last (pre : List Value) (v : Value) : StoredIs (pre ++ [v]) [] (some (pre.length : Int)) none pre := by
  refine ⟨?_⟩
  have e : sliceBounds (some (pre.length : Int)) none none (pre ++ [v]).length = ((pre.length : Int), (((pre ++ [v]).length : Nat) : Int), 1) := by
    simp only [sliceBounds, Option.getD_none, show (1 : Int) > 0 by decide, if_true, if_neg (show ¬ ((pre.length : Int) < 0) by omega)]
    congr 1
    · simp; omega
  simp only [sliceStored, e]
  simp
  omega
section
variable {prog : Program} {w : World} {A : Around} {E : Value → Shared → Prop} {s : Shared} {ac da L q sl lb : Addr} {h₀ : Heap} {m : Str → Option Value} {es : List DictEntry} {its new zs : List Value} {n nd nl : Nat} {news news' : List (Addr × Obj)}
theorem acc_sub_cut {value slice : Expr} {vl vu : Value} {lo hi : Option Int} {Q : Value → Shared → Prop} (F : Fr h₀ L s.heap m) (X₀ : (Mine.hd.heap_39 w.params).In h₀) (N : News h₀ L s.heap news) (hm : (ac, accObj 178 da its n) ∈ news) (hd : (da, dictOf es nd) ∈ news)
    (pl : IsPart vl lo) (pu : IsPart vu hi) (pk : PickIs its lo hi zs)
    (h : ∀ q h', Fr h₀ L h' m → News h₀ L h' ((q, listOf zs.toArray 0) :: news) → (∀ p ∈ news, p.1 < q) → Q (.ref q) { s with heap := h' }) (hsz : its.length ≤ sizeLine)
    (hsub : subscripted slice false (.ref ac) (.ref s.heap.objs.size) = operate [.ref s.heap.objs.size, .ref ac] (getItem (.ref ac) (.ref s.heap.objs.size))) :
    wpAny (model prog w) A (subscriptTail value slice (.ref ac) (.ref s.heap.objs.size)) Q E { s with heap := s.heap.push { cls := .type "slice", data := .fields #[vl, vu, .none] } } := by
  refine acc_sub_slice2 F X₀ N hm hd pl pu (fun q h' F' N' l => h q h' F' ?_ l) hsz hsub
  rw [← pk.is, Array.toArray_toList]
  exact N'
theorem acc_store_cut {vl vu : Value} {lo hi : Option Int} {Q : Unit → Shared → Prop} (F : Fr h₀ L s.heap m) (X₀ : (Mine.hd.heap_39 w.params).In h₀) (N : News h₀ L s.heap news) (_hm : (ac, accObj 178 da its n) ∈ news) (hd : (da, dictOf es nd) ∈ news) (hl : (lb, listOf new.toArray nl) ∈ news)
    (pl : IsPart vl lo) (pu : IsPart vu hi) (pk : StoredIs its new lo hi zs)
    (U : Upd ac (accObj 178 da its n) (accObj 178 da zs (bump n its zs)) news news')
    (hne : ac ≠ lb) (hsz : its.length + new.length ≤ 1000)
    (h : ∀ h', Fr h₀ L h' m → News h₀ L h' news' → Q () { s with heap := h' })  :
    wpAny (model prog w) A (setItem (.ref ac) (.ref s.heap.objs.size) (.ref lb)) Q E { s with heap := s.heap.push { cls := .type "slice", data := .fields #[vl, vu, .none] } } := by
  have hs : zs = sliceStored its new lo hi := Eq.symm pk.is
  subst hs
  have hlt : ac < s.heap.objs.size := Heap.lt_size (N _ (mem_of_upd U)).1
  exact acc_setSlice (s := { s with heap := s.heap.push { cls := .type "slice", data := .fields #[vl, vu, .none] } }) (F.push _) X₀ (N.push F _) (List.mem_cons_of_mem _ hd) (Upd.tail (Nat.ne_of_gt hlt) U) (noseq178 _) (setitem178 _) (sub178 _) List.mem_cons_self pl pu (List.mem_cons_of_mem _ hl) hne
    (fun h' F' N' => h h' F' (news_of N' (List.Sublist.cons _ (List.Sublist.refl _)))) hsz
end
end Mine
end
section
open PySem PySem.W PyProof.Rows PySem.Spec PySem.Calls
namespace Mine
section
variable {prog : Program} {w : World} {A : Around} {E : Value → Shared → Prop} {s : Shared}
/-- the start of a sum, taken as a first turn before the first -/
theorem walks_shift {I : Addr} {fp wr : List Addr} {G : Array GenState → Array GenState → Prop} {n : Nat} {P : Nat → Value → Prop} {St : Nat → Shared → Prop} (W : WalksS prog w A I fp wr G n P St) :
    WalksS prog w A I fp wr G (n + 1) (fun j v => 1 ≤ j ∧ P (j - 1) v) (fun j s => 1 ≤ j ∧ St (j - 1) s) where
  sub := W.sub
  grefl := W.grefl
  gtrans := W.gtrans
  frame := fun i s h' tk st ht hk => ⟨st.1, W.frame _ s h' tk st.2 ht hk⟩
  item := fun i s Q E hi st hQ => W.item (i - 1) s Q E (by have := st.1; omega) st.2 fun v s' hp hst hm => hQ v s' ⟨st.1, hp⟩ ⟨by omega, by rw [show i + 1 - 1 = i - 1 + 1 by have := st.1; omega]; exact hst⟩ hm
  done := fun s Q E st hQ => W.done s Q E (by have := st.2; rwa [Nat.add_sub_cancel] at this) hQ
  self := fun i s Q E st hQ => W.self _ s Q E st.2 hQ
noncomputable def shiftV (x0 : Int) (val : Nat → Int) (j : Nat) : Int := if j = 0 then x0 else val (j - 1)
theorem preSum_shift (x0 : Int) (val : Nat → Int) : ∀ n, preSum (shiftV x0 val) (n + 1) = x0 + preSum val n
  | 0 => by simp [preSum, shiftV]
  | n + 1 => by
    rw [preSum, preSum_shift x0 val n, preSum, shiftV, if_neg (Nat.succ_ne_zero n), Nat.add_sub_cancel, Int.add_assoc]
theorem args_sum2 (a b : Value) : argsOk "sum" ⟨[a, b], []⟩ := by unfold argsOk; kernel_rfl
theorem call_sum_start {a : Addr} {x0 : Int} {t0 : Tok} {fp wr : List Addr} {G : Array GenState → Array GenState → Prop} {n : Nat} {P : Nat → Value → Prop} {St : Nat → Shared → Prop} {val : Nat → Int} {Q : Value → Shared → Prop}
    (W : WalksS prog w A.in1 a fp wr G n P St) (hst : St 0 s) (hfp : ∀ b ∈ fp, b < s.heap.objs.size) (hval : ∀ i v, P i v → ∃ t, v = .int (val i) t) (hfit : -(2 ^ 63) ≤ x0 ∧ x0 < 2 ^ 63)
    (hQ : ∀ s' t', Moved wr G s s' → Q (.int (x0 + preSum val n) t') s') :
    wpAny (model prog w) A (call (.builtin "sum") [.ref a, .int x0 t0]) Q E s := by
  refine call_function_tree F.kind_sum F.plain_sum F.entry_sum (args_sum2 _ _) ?_
  unfold Builtin.«sum»
  simp only [List.length_cons, List.length_nil]
  rw [if_neg (by decide)]
  refine wpAny_bind (wpAny_of_eq (show Builtin.Builtins.bindParams "sum" ["start"] 0 { pos := [.int x0 t0], kw := [] } = pure [some (.int x0 t0)] from rfl) ?_)
  refine wpAny_bind (W.self 0 _ _ _ hst ?_)
  have hSf : s.heap.objs.size ∉ fp := fun hm => Nat.lt_irrefl _ (hfp _ hm)
  have hv : ∀ i v, 1 ≤ i ∧ P (i - 1) v → ∃ t, v = .int (shiftV x0 val i) t := fun i v h => by
    obtain ⟨t, e⟩ := hval _ v h.2
    exact ⟨t, by rw [e, shiftV, if_neg (by have := h.1; omega)]⟩
  have h1 : preSum (shiftV x0 val) 1 = x0 := by simp [preSum, shiftV]
  have hone : ∀ t1, (s.heap.push { cls := .type "list", dict := none, data := .seq #[.int x0 t1] 0, slots := #[] }).get? s.heap.objs.size = some { cls := .type "list", dict := none, data := .seq #[.int (preSum (shiftV x0 val) 1) t1] 0, slots := #[] } := fun t1 => by
    rw [h1]
    exact Heap.get?_push_size _ rfl
  dsimp only
  split
  · refine wpAny_bind (wpAny_rule ?_)
    refine wpAny_bind (wpAny_mkInt ?_)
    refine wpAny_bind (wpAny_pure ?_)
    simp only [List.forIn_cons, List.forIn_nil]
    refine wpAny_bind (wpAny_bind (wpAny_bind (wpAny_isInstance (T := "int") (b := false) (typeIs_int _ _ _) PySem.sub_int_str ?_)))
    simp only [Bool.false_eq_true, if_false]
    refine wpAny_pure (wpAny_bind (wpAny_bind (wpAny_isInstance (T := "int") (b := false) (typeIs_int _ _ _) PySem.sub_int_bytes ?_)))
    simp only [Bool.false_eq_true, if_false]
    refine wpAny_pure (wpAny_bind (wpAny_bind (wpAny_isInstance (T := "int") (b := false) (typeIs_int _ _ _) PySem.sub_int_bytearray ?_)))
    simp only [Bool.false_eq_true, if_false]
    refine wpAny_pure (wpAny_pure ?_)
    refine wpAny_bind (wpAny_newObj_type ?_)
    refine wpAny_pure ⟨plainId_quiet F.plain_sum_loop _, codeAny_sum_loopAnyS (walks_shift W) (shiftV x0 val) hv s.heap.objs.size hSf n 1 _ s.toks 0 0 (.inl rfl) rfl (by omega)
      ⟨Nat.le_refl _, W.frame 0 s _ _ hst (by first | exact Nat.le_refl _ | exact Nat.le_succ _ | omega) fun b _ o e => Heap.get?_push_of_some _ e⟩ (hone _) fun s' t' hm => ?_⟩
    rw [preSum_shift]
    exact hQ s' t' (hm.drop_new (by first | exact Nat.le_refl _ | exact Nat.le_succ _ | omega))
  · refine wpAny_bind (wpAny_pure ?_)
    simp only [List.forIn_cons, List.forIn_nil]
    refine wpAny_bind (wpAny_bind (wpAny_bind (wpAny_isInstance (T := "int") (b := false) (typeIs_int _ _ _) PySem.sub_int_str ?_)))
    simp only [Bool.false_eq_true, if_false]
    refine wpAny_pure (wpAny_bind (wpAny_bind (wpAny_isInstance (T := "int") (b := false) (typeIs_int _ _ _) PySem.sub_int_bytes ?_)))
    simp only [Bool.false_eq_true, if_false]
    refine wpAny_pure (wpAny_bind (wpAny_bind (wpAny_isInstance (T := "int") (b := false) (typeIs_int _ _ _) PySem.sub_int_bytearray ?_)))
    simp only [Bool.false_eq_true, if_false]
    refine wpAny_pure (wpAny_pure ?_)
    refine wpAny_bind (wpAny_newObj_type ?_)
    refine wpAny_pure ⟨plainId_quiet F.plain_sum_loop _, codeAny_sum_loopAnyS (walks_shift W) (shiftV x0 val) hv s.heap.objs.size hSf n 1 _ t0 0 2 (.inr rfl) rfl (by omega)
      ⟨Nat.le_refl _, W.frame 0 s _ _ hst (by first | exact Nat.le_refl _ | exact Nat.le_succ _ | omega) fun b _ o e => Heap.get?_push_of_some _ e⟩ (hone _) fun s' t' hm => ?_⟩
    rw [preSum_shift]
    exact hQ s' t' (hm.drop_new (by first | exact Nat.le_refl _ | exact Nat.le_succ _ | omega))
end
end Mine
end
section
open PySem PySem.W PyProof.Rows PySem.Spec PySem.Calls
namespace Mine
/-- the table of code objects that a code object bears -/
noncomputable abbrev tabObj (ps : Array Value) : Obj := { cls := .none, data := .fields ps }
noncomputable def TabOk (pos : Pos) (ps : Array Value) : Prop := ps = #[] ∨ ∃ c', ps = #[rawInt pos.line, rawInt pos.col, .ref c']
/-- a code object whose table stands at P (not held here) -/
noncomputable def CodeFor (h : Heap) (c P : Addr) : Prop :=
  ∃ o vs file tf flags tg inF text tt, h.get? c = some o ∧ o.cls = .type "code" ∧ o.data = .fields vs ∧ vs[11]? = some (.ref P) ∧ vs.getD 11 .none = .ref P ∧ vs.getD 18 .none = .str file tf ∧
    vs.getD 7 .none = .int flags tg ∧ vs.getD 9 .none = .bool inF ∧ vs.getD 10 .none = .int text tt ∧ c ≠ P
theorem CodeFor.keeps {h h' : Heap} {c P : Addr} (C : CodeFor h c P) (hk : ∀ b o, h.get? b = some o → h'.get? b = some o) : CodeFor h' c P := by
  obtain ⟨o, vs, file, tf, flags, tg, inF, text, tt, h1, r⟩ := C
  exact ⟨o, vs, file, tf, flags, tg, inF, text, tt, hk _ _ h1, r⟩
theorem TabOk.triples {pos : Pos} {ps : Array Value} (t : TabOk pos ps) : TriplesOk ps.toList := by
  rcases t with rfl | ⟨c', rfl⟩
  · trivial
  · simp [rawInt, TriplesOk]
theorem CodeFor.isCode {h : Heap} {c P : Addr} {ps : Array Value} (C : CodeFor h c P) (hp : h.get? P = some (tabObj ps)) (t : TriplesOk ps.toList) : h.IsCode c P ps := by
  obtain ⟨o, vs, file, tf, flags, tg, inF, text, tt, h1, h2, h3, h4, h5, h6, h7, h8, h9, h10⟩ := C
  exact ⟨o, vs, file, tf, flags, tg, inF, text, tt, _, h1, h3, h5, h6, h7, h8, h9, hp, rfl, t, h10⟩
theorem CodeFor.table {h : Heap} {c P : Addr} {ps : Array Value} (C : CodeFor h c P) (hp : h.get? P = some (tabObj ps)) : h.TableAt c P ps := by
  obtain ⟨o, vs, file, tf, flags, tg, inF, text, tt, h1, h2, h3, h4, h5, h6, h7, h8, h9, h10⟩ := C
  exact ⟨⟨o, vs, h1, h2, h3, h4⟩, hp⟩
theorem rawInt_beq (n : Nat) : ((n : Int) == (n : Int)) = true := by simp

section
variable {prog : Program} {w : World} {M : Model} {A : Around} {E : Value → Shared → Prop} {s : Shared} {c P L : Addr} {h₀ : Heap} {m : Str → Option Value} {news : List (Addr × Obj)} {news' : Obj → List (Addr × Obj)} {ps : Array Value}
theorem mem_updF {d : Addr} {o : Obj} : ∀ {l : List (Addr × Obj)} {g : Obj → List (Addr × Obj)}, UpdF d o l g → (d, o) ∈ l
  | _, _, .head _ => List.mem_cons_self
  | _, _, .tail _ r => List.mem_cons_of_mem _ (mem_updF r)
theorem updF_mem {d : Addr} {o o' : Obj} : ∀ {l : List (Addr × Obj)} {g : Obj → List (Addr × Obj)}, UpdF d o l g → ∀ p ∈ g o', p = (d, o') ∨ (p ∈ l ∧ p.1 ≠ d)
  | _, _, .head h, p, hp => by
    rcases List.mem_cons.mp hp with rfl | hp
    · exact .inl rfl
    · exact .inr ⟨List.mem_cons_of_mem _ hp, h p hp⟩
  | _, _, .tail h r, p, hp => by
    rcases List.mem_cons.mp hp with rfl | hp
    · exact .inr ⟨List.mem_cons_self, h⟩
    · rcases updF_mem r p hp with h | h
      · exact .inl h
      · exact .inr ⟨List.mem_cons_of_mem _ h.1, h.2⟩
theorem genexprCode_led {env : Env} {pos : Pos} {qual : Str} {scope : Scope} {Q : Value → Shared → Prop} (F : Fr h₀ L s.heap m) (N : News h₀ L s.heap news) (C : CodeFor h₀ c P) (hcode : env.code = .ref c) (t : TabOk pos ps)
    (U : UpdF P (tabObj ps) news news')
    (h : ∀ c' h' tk' ps', TabOk pos ps' → Fr h₀ L h' m → News h₀ L h' (news' (tabObj ps')) → (∀ b o, b ≠ P → s.heap.get? b = some o → h'.get? b = some o) → s.heap.objs.size ≤ h'.objs.size → Q (.ref c') { s with heap := h', toks := tk' }) :
    wpAny M A (genexprCode env pos qual scope) Q E s := by
  have hp := N _ (mem_updF U)
  have C' := C.keeps F.keep
  rcases t with rfl | ⟨c', rfl⟩
  · refine wpAny_genexprCodeX hcode (C'.isCode hp.1 trivial) (C'.table hp.1) rfl fun c' h₃ tk₃ hx₃ hge hlt hcode₃ _ htab₃ _ => ?_
    have hkeep : ∀ b o, b ≠ P → s.heap.get? b = some o → h₃.get? b = some o := fun b o hb e => hx₃ b o hb e
    have hne : ∀ b o, h₀.get? b = some o → b ≠ P := fun b o e hb => by rw [hb, hp.2.2] at e; cases e
    refine h c' h₃ tk₃ _ (.inr ⟨c', rfl⟩) ⟨F.ns.extBut hx₃ hp.2.1.symm, fun b o e => hkeep b o (hne b o e) (F.keep b o e), F.above⟩ (fun p hp' => ?_) hkeep (Nat.le_trans hge (Nat.le_of_lt hlt))
    rcases updF_mem U p hp' with rfl | ⟨hm, hn⟩
    · exact ⟨htab₃.2, hp.2⟩
    · exact ⟨hkeep _ _ hn (N p hm).1, (N p hm).2⟩
  · refine wpAny_genexprCode_hit (c' := .ref c') hcode (C'.isCode hp.1 (by simp [rawInt, TriplesOk])) (by simp [rawInt, codeAmong]) ?_
    refine h c' s.heap s.toks _ (.inr ⟨c', rfl⟩) F (fun p hp' => ?_) (fun b o _ e => e) (Nat.le_refl _)
    rcases updF_mem U p hp' with rfl | ⟨hm, hn⟩
    · exact hp
    · exact N p hm
end
end Mine
end
section
open PySem PySem.W PyProof.Rows PySem.Spec PySem.Calls
namespace Mine
noncomputable abbrev tupObj (x y : Str) (tx ty : Tok) : Obj := { cls := .type "tuple", data := .seq #[.str x tx, .str y ty] }
/-- a part of a line: the made pair, its two texts and their marks -/
structure Part where
  at_ : Addr
  fws : Str
  txt : Str
  t1 : Tok
  t2 : Tok
noncomputable def Part.vals (q : Part) : Array Value := #[.str q.fws q.t1, .str q.txt q.t2]
noncomputable def Part.obj (q : Part) : Addr × Obj := (q.at_, tupObj q.fws q.txt q.t1 q.t2)
noncomputable def refs (ps : List Part) : List Value := ps.map fun q => .ref q.at_
section
variable {prog : Program} {w : World} {A : Around} {E : Value → Shared → Prop} {s : Shared} {c P L ac da : Addr} {h₀ : Heap} {m mg mb : Str → Option Value} {news : List (Addr × Obj)} {news' : Obj → List (Addr × Obj)} {tb : Array Value} {es : List DictEntry} {n nd : Nat} {parts : List Part}
  {p : Program} {loose : List Str} {mean : ExcName → Option Value}
theorem genexp_pairs {env : Env} {elt iter : Expr} {xa xb : Str} {pa pb pt : Pos} {kt : Nat} {scope : Scope} {cl : List (Str × Addr)} {pos : Pos} {Q : Value → Shared → Prop} {val : Part → Tok → Value}
    (F : Fr h₀ L s.heap m) (X₀ : (Mine.hd.heap_39 w.params).In h₀) (N : News h₀ L s.heap news) (T : Top p loose mean mg mb h₀) (hg : AllBare s.gens)
    (C : CodeFor h₀ c P) (t : TabOk pos tb) (U : UpdF P (tabObj tb) news news')
    (hm : (ac, accObj 178 da (refs parts) n) ∈ news) (hd : (da, dictOf es nd) ∈ news) (hT : ∀ q ∈ parts, q.obj ∈ news)
    (hcode : env.code = .ref c) (hglob : env.globals = mainGlobals)
    (hh : A.handled = none) (hco : scope.isCoroutine = false) (hclos : closureFor scope env = pure cl) (hcell : ∀ y ∈ scope.names, y.2 ≠ .cell) (h0 : scope.names.lookup (".0" : Str) = some NameKind.local)
    (hxa : scope.names.lookup xa = some .local) (hxb : scope.names.lookup xb = some .local) (hab : xa ≠ xb) (hkind : scope.kind = .function) (hroom : A.depth < recursionLimit)
    (hit : ∀ Q' : Value → Shared → Prop, Q' (.ref ac) s → wpAny (model prog w) A (eval iter env) Q' E s)
    (helt : ∀ (c' C : Addr) (A' : Around) E' (q : Part) (t : Shared) m₂, A'.handled = none → A'.depth ≤ A.depth + 1 → A'.units ≤ A.units + 8 → q ∈ parts → Fr h₀ C t.heap m₂ → m₂ xa = some (.str q.fws q.t1) → m₂ xb = some (.str q.txt q.t2) →
      wpAny (model prog w) A' (eval elt (genEnv scope cl C (.ref c') builtinsNs env)) (fun y s₃ => (∃ u, y = val q u) ∧ Keeps t s₃) E' t)
    (hs : ∀ x, genFold iter env x = pure x)
    (hQ : ∀ a h' tk' gs' tb' K, TabOk pos tb' → Fr h₀ L h' m → News h₀ L h' (news' (tabObj tb')) → AllBare gs' → (∀ p ∈ news' (tabObj tb'), p.1 ≤ K) → L ≤ K → K < a →
      Gen prog w A K a parts.length (fun j y => ∃ i, (List.range parts.length)[j]? = some i ∧ ∃ q u, parts[i]? = some q ∧ y = val q u) { s with heap := h', gens := gs', toks := tk' } → Q (.ref a) { s with heap := h', gens := gs', toks := tk' }) :
    wpAny (model prog w) A (eval (.GeneratorExp elt [⟨.Tuple [.Name xa pa, .Name xb pb] kt pt, iter, [], 0⟩] scope pos) env) Q E s := by
  refine wpAny_GeneratorExp_walksQTD hh hco hclos hcell h0 hxa hxb hab hkind hroom (hit _ ?_) hs
  have X := X₀.keeps F.keep
  have I := inst_of_news N hm hd
  refine pyIter_b X I (iter178 _) (sub178 _) ?_
  have F₂ := F.push (h := s.heap) { cls := .type "list_iterator", data := .fields #[.ref ac, .int 0 0] }
  have N₂ := N.push F { cls := .type "list_iterator", data := .fields #[.ref ac, .int 0 0] }
  have hlim : (s.heap.push { cls := .type "list_iterator", data := .fields #[.ref ac, .int 0 0] }).NoLimit := T.nolimit.keeps F₂.keep
  refine ⟨hlim, ?_⟩
  have hPne : s.heap.objs.size ≠ P := Nat.ne_of_gt (Heap.lt_size (N _ (mem_updF U)).1)
  have hst : cStatics < s.heap.objs.size := let ⟨_, hn, _⟩ := T.nolimit.keeps F.keep; hn.lt
  have hlt : ∀ p ∈ news, p.1 < s.heap.objs.size := fun p hp => Heap.lt_size (N p hp).1
  obtain ⟨bm, ob, b1, b2, b3, b4, b5, b6⟩ := T.bmain
  have hPfresh : h₀.get? P = none := (N _ (mem_updF U)).2.2
  refine genexprCode_led (F := F₂) (N := N₂) (news' := fun o => (s.heap.objs.size, { cls := .type "list_iterator", data := .fields #[.ref ac, .int 0 0] }) :: news' o) C hcode t (.tail hPne U) fun c' h₃ tk₃ tb' ht' F₃ N₃ hk₃ hge => ?_
  have T₃ := T.keeps F₃.keep
  rw [hglob]
  refine wpAny_builtinsFor T₃.g b1 b2 (F₃.keep _ _ b3) b4 b5 b6 ?_
  have hsz : s.heap.objs.size < h₃.objs.size := by
    have := hge
    simp only [Heap.size_push] at this
    omega
  have hLs : L < s.heap.objs.size := F.ns.lt
  have hI := (N₃ _ List.mem_cons_self).1
  have hA : ∀ {o}, (ac, accObj 178 da (refs parts) o) ∈ news → True := fun _ => trivial
  have memN : ∀ q, q ∈ news → q.1 ≠ P → q ∈ news' (tabObj tb') := fun q hq hn => by
    obtain ⟨pre, post, e1, e2, _, _⟩ := U.split
    rw [e2]
    rw [e1] at hq
    rcases List.mem_append.mp hq with hq | hq
    · exact List.mem_append_left _ hq
    · rcases List.mem_cons.mp hq with rfl | hq
      · exact absurd rfl hn
      · exact List.mem_append_right _ (List.mem_cons_of_mem _ hq)
  have uniq : ∀ a o, (a, o) ∈ news → o.cls ≠ .none → a ≠ P := fun a o ho hc e => by
    have h1 := (N _ ho).1
    have h2 := (N _ (mem_updF U)).1
    simp only [e] at h1 h2
    rw [h1] at h2
    cases h2
    exact hc rfl
  have hac : ac ≠ P := uniq _ _ hm (by simp [accObj])
  have hpP : ∀ q ∈ parts, q.at_ ≠ P := fun q hq => uniq _ _ (hT q hq) (by simp)
  have get₃ : ∀ q, q ∈ news → q.1 ≠ P → h₃.get? q.1 = some q.2 := fun q hq hn => hk₃ _ _ hn (N₂ _ (List.mem_cons_of_mem _ hq)).1
  let ts : List (Addr × Array Value) := parts.map fun q => (q.at_, q.vals)
  have hlen : ts.length = parts.length := by simp [ts]
  have hacI : ac ≠ s.heap.objs.size := Nat.ne_of_lt (hlt _ hm)
  have hI' : ∀ x ∈ ts, x.1 ≠ s.heap.objs.size := fun x hx => by
    obtain ⟨q, hq, rfl⟩ := List.mem_map.mp hx
    exact Nat.ne_of_lt (hlt _ (hT q hq))
  have hpz : passing (fun _ => true) ts.length 0 = List.range ts.length := by simp [passing]
  refine ⟨s.heap.objs.size, _, _, _, _, _, _, fun _ => true, fun i y => ∃ q u, parts[i]? = some q ∧ y = val q u, rfl, fun A' hA' => walks_pairs (prog := prog) (w := w) (A := A') hA' s.heap.objs.size ac hacI ts hI', ?_, ?_, ?_, T.nolimit.keeps F₃.keep, ?_, ?_, ?_⟩
  · rintro i vals ⟨Tt, hi⟩
    simp only [ts, List.getElem?_map, Option.map_eq_some_iff] at hi
    obtain ⟨q, _, e⟩ := hi
    cases e
    exact ⟨_, _, rfl⟩
  · refine ⟨⟨_, hI, rfl, rfl⟩, ⟨_, n, get₃ _ hm hac, by simp [accObj, refs, ts]⟩, fun x hx => ?_⟩
    obtain ⟨q, hq, rfl⟩ := List.mem_map.mp hx
    exact ⟨_, get₃ _ (hT q hq) (hpP q hq), rfl, 0, rfl⟩
  · intro b hb
    rcases List.mem_cons.mp hb with rfl | hb
    · exact hsz
    · rcases List.mem_cons.mp hb with rfl | hb
      · exact Nat.lt_trans (hlt _ hm) hsz
      · obtain ⟨x, hx, rfl⟩ := List.mem_map.mp hb
        obtain ⟨q, hq, rfl⟩ := List.mem_map.mp hx
        exact Nat.lt_trans (hlt _ (hT q hq)) hsz
  · exact fun hc => Nat.ne_of_lt hst (List.mem_singleton.mp hc)
  · intro href hhref
    have frm : ∀ (t : Shared) m₂, t.heap.Ns h₃.objs.size m₂ → (∀ b ∈ List.range h₃.objs.size, b ∉ [s.heap.objs.size] → ∀ o, href.get? b = some o → t.heap.get? b = some o) → Fr h₀ h₃.objs.size t.heap m₂ := fun t m₂ hn hkp =>
      ⟨hn, fun b o e => hkp b (List.mem_range.mpr (Heap.lt_size (F₃.keep b o e))) (fun hb => by
        have h1 : b < L := Nat.lt_of_lt_of_le (Heap.lt_size e) F.above
        have h2 : b = s.heap.objs.size := List.mem_singleton.mp hb
        exact Nat.lt_irrefl _ (h2 ▸ Nat.lt_trans h1 hLs)) o (hhref b o (F₃.keep b o e)), Nat.le_trans F.above (Nat.le_of_lt (Nat.lt_trans hLs hsz))⟩
    refine ⟨fun A' E' i va vb t m₂ h1 h2 h3 hp hn hma hmb hkp => ?_, fun A' E' i va vb t m₂ h1 h2 h3 hp _ hn hma hmb hkp => ?_⟩
    · exact wpAny_pure ⟨rfl, ⟨t.heap, t.toks, rfl, fun _ _ e => e⟩⟩
    · obtain ⟨Tt, hi⟩ := hp
      simp only [ts, List.getElem?_map, Option.map_eq_some_iff] at hi
      obtain ⟨q, hq, e⟩ := hi
      cases e
      refine wpAny_mono (helt c' _ A' E' q t m₂ h1 h2 h3 (List.mem_of_getElem? hq) (frm t m₂ hn hkp) hma hmb) (fun y s₃ hy => ⟨?_, hy.2⟩) fun _ _ e => e
      obtain ⟨u, hu⟩ := hy.1
      exact ⟨q, u, hq, hu⟩
  · intro a h₅ tk gs hgb hag hsz₅ hk₅ Wg hat
    have hlt' : ∀ p ∈ news' (tabObj tb'), p.1 < s.heap.objs.size := fun p hp => by
      rcases updF_mem U p hp with rfl | ⟨hm, _⟩
      · exact hlt (P, tabObj tb) (mem_updF U)
      · exact hlt _ hm
    have F₅ : Fr h₀ L h₅ m := F₃.keeps hk₅
    refine hQ a h₅ tk _ tb' (s.heap.objs.size - 1) ht' F₅ (fun x hx => ?_) (hg.push hgb) (fun p hp => Nat.le_sub_one_of_lt (hlt' p hp)) (Nat.le_sub_one_of_lt hLs) (Nat.lt_of_le_of_lt (Nat.sub_le _ _) (Nat.lt_trans hsz hag)) ?_
    · have := N₃ x (List.mem_cons_of_mem _ hx)
      exact ⟨hk₅ _ _ this.1, this.2⟩
    · rw [hpz, List.length_range, hlen] at Wg
      refine ⟨_, _, _, _, Wg, by rw [hlen] at hat; exact hat, fun i s' st => st.1.typeIs, List.mem_cons_self, ?_, ?_⟩
      · intro b hb
        show b < h₅.objs.size
        have h1 : h₃.objs.size < a := hag
        rw [hsz₅]
        rcases List.mem_cons.mp hb with rfl | hb
        · exact Nat.lt_succ_self _
        · rcases List.mem_cons.mp hb with rfl | hb
          · exact Nat.lt_succ_of_lt h1
          · exact Nat.lt_succ_of_lt (Nat.lt_trans (List.mem_range.mp hb) h1)
      · intro b hb
        show s.heap.objs.size - 1 < b
        rcases List.mem_cons.mp hb with rfl | hb
        · exact Nat.lt_of_le_of_lt (Nat.sub_le _ _) hsz
        · rw [List.mem_singleton.mp hb]
          exact Nat.sub_lt (Nat.lt_of_le_of_lt (Nat.zero_le _) hLs) Nat.one_pos
end
end Mine
end
section
open PySem PySem.W PyProof.Rows PySem.Spec PySem.Calls
namespace Mine
noncomputable abbrev FromParts (parts : List Part) (val : Part → Tok → Value) : Nat → Value → Prop := fun j y => ∃ i, (List.range parts.length)[j]? = some i ∧ ∃ q u, parts[i]? = some q ∧ y = val q u
theorem fromParts_at {parts : List Part} {val : Part → Tok → Value} {j : Nat} {y : Value} (h : FromParts parts val j y) : ∃ q u, parts[j]? = some q ∧ y = val q u := by
  obtain ⟨i, hi, q, u, hq, hy⟩ := h
  obtain ⟨hj, e⟩ := List.getElem?_eq_some_iff.mp hi
  simp at e
  exact ⟨q, u, by rw [e]; exact hq, hy⟩
noncomputable def plen (q : Part) : Int := (q.fws.length : Int) + q.txt.length
noncomputable def psum (ps : List Part) : Int := (ps.map plen).sum
section
variable {prog : Program} {w : World} {A : Around} {E : Value → Shared → Prop} {s : Shared} {a K L : Addr} {h₀ : Heap} {m : Str → Option Value} {news : List (Addr × Obj)} {parts : List Part} {Q : Value → Shared → Prop}
theorem News.movedK {wr : List Addr} {G : Array GenState → Array GenState → Prop} {s' : Shared} (N : News h₀ L s.heap news) (hm : Moved wr G s s') (hwr : ∀ b ∈ wr, K < b) (hK : ∀ p ∈ news, p.1 ≤ K) : News h₀ L s'.heap news :=
  fun p hp => ⟨hm.heap _ _ (fun hb => Nat.lt_irrefl _ (Nat.lt_of_lt_of_le (hwr _ hb) (hK p hp))) (N p hp).1, (N p hp).2⟩
theorem moved_form {wr : List Addr} {G : Array GenState → Array GenState → Prop} {s' : Shared} (hm : Moved wr G s s') : s' = { s with heap := s'.heap, gens := s'.gens, toks := s'.toks } := by
  cases s'
  have h1 := hm.drawn
  have h2 := hm.os
  simp only at h1 h2
  subst h1 h2
  rfl
theorem gen_toks {n tk : Nat} {P : Nat → Value → Prop} (X : Gen prog w A K a n P s) (h : s.toks ≤ tk) : Gen prog w A K a n P { s with toks := tk } := by
  obtain ⟨fp, wr, g, St, W, hst, hT, ha, hfp, hwr⟩ := X
  exact ⟨fp, wr, g, St, W, W.frame _ s s.heap tk hst h fun _ _ _ e => e, hT, ha, hfp, hwr⟩
theorem sum_pairs {x0 : Int} {t0 : Tok} (F : Fr h₀ L s.heap m) (N : News h₀ L s.heap news) (hg : AllBare s.gens) (X : Gen prog w A K a parts.length (FromParts parts fun q u => .int (plen q) u) s) (hLK : L ≤ K) (hK : ∀ p ∈ news, p.1 ≤ K)
    (hQ : ∀ h' tk' gs' t', Fr h₀ L h' m → News h₀ L h' news → AllBare gs' → Q (.int (x0 + psum parts) t') { s with heap := h', gens := gs', toks := tk' }) (hfit : -(2 ^ 63) ≤ x0 ∧ x0 < 2 ^ 63) :
    wpAny (model prog w) A (call (.builtin "sum") [.ref a, .int x0 t0]) Q E s := by
  obtain ⟨fp, wr, g, St, W, hst, _, _, hfp, hwr⟩ := X
  have W := W.in4_1
  refine call_sum_start (val := fun j => (parts.map plen).getD j 0) W hst hfp (fun i v hv => ?_) hfit fun s' t' hm => ?_
  · obtain ⟨q, u, hq, rfl⟩ := fromParts_at hv
    exact ⟨u, by simp [List.getD, hq]⟩
  · rw [moved_form hm]
    have e : preSum (fun j => (parts.map plen).getD j 0) parts.length = psum parts := by
      rw [preSum_getD]
      simp [psum, List.take_of_length_le]
    rw [e]
    exact hQ _ _ _ t' (F.moved hm fun b hb => Nat.lt_of_le_of_lt hLK (hwr b hb)) (News.movedK N hm hwr hK) (hg.movedS hm)
theorem join_pairs {t0 : Tok} (F : Fr h₀ L s.heap m) (N : News h₀ L s.heap news) (hg : AllBare s.gens) (X : Gen prog w A K a parts.length (FromParts parts fun q u => .str (Txt.join "" [q.fws, q.txt]) u) s) (hLK : L ≤ K) (hK : ∀ p ∈ news, p.1 ≤ K)
    (hok : JoinOk "" (parts.map fun q => Txt.join "" [q.fws, q.txt]) = true)
    (hQ : ∀ h' tk' gs' t', Fr h₀ L h' m → News h₀ L h' news → AllBare gs' → Q (.str (Txt.join "" (parts.map fun q => Txt.join "" [q.fws, q.txt])) t') { s with heap := h', gens := gs', toks := tk' }) (hsz : parts.length ≤ sizeLine) :
    wpAny (model prog w) A (call (.builtin "str.join") [.str "" t0, .ref a]) Q E s := by
  obtain ⟨fp, wr, g, St, W, hst, hT, ha, hfp, hwr⟩ := X
  have W := W.in4_2
  refine SC.joinGen W hT hst hfp ha (fun j v hv => let ⟨q, u, _, e⟩ := fromParts_at hv; ⟨_, u, e⟩) (fun s' lt hm hacc => ?_) hsz
  have hl : lt.map (·.1) = parts.map fun q => Txt.join "" [q.fws, q.txt] := by
    have hsz : lt.length = parts.length := by simpa [strValues] using hacc.1
    apply List.ext_getElem?
    intro j
    by_cases hj : j < parts.length
    · have hj' : j < lt.length := hsz ▸ hj
      obtain ⟨q, u, hq, hv⟩ := fromParts_at (hacc.2 j (.str lt[j].1 lt[j].2) (by simp [strValues, List.getElem?_eq_getElem hj']))
      injection hv with h1 _
      simp [List.getElem?_eq_getElem hj', hq, h1]
    · rw [List.getElem?_eq_none (by simpa [hsz] using Nat.le_of_not_lt hj), List.getElem?_eq_none (by simpa using Nat.le_of_not_lt hj)]
  rw [hl]
  have f1 := F.moved hm fun b hb => Nat.lt_of_le_of_lt hLK (hwr b hb)
  have k1 := News.movedK N hm hwr hK
  have g1 := hg.movedS hm
  refine ⟨hok, fun t' k => ?_⟩
  have e := moved_form hm
  have := hQ s'.heap k s'.gens t' f1 k1 g1
  rw [e]
  exact this
end
end Mine
end
open PySem PySem.W PyProof.Rows PySem.Spec PySem.Calls
namespace Mine
theorem lines1 : True := by
  k_with "L1" => (refine' Mine.inst_of_news ?Nq1 ?h1q1 ?h2q1; (case Nq1 => k_asm); (case h1q1 => k_mem); (case h2q1 => k_mem))
  k_with "L2" => first | exact List.forall_mem_nil _ | with_reducible assumption | exact Mine.ne_of_all_lt (by with_reducible assumption) | (refine' List.forall_mem_cons.mpr ⟨?aq2, ?bq2⟩; (case aq2 => (first | with_reducible assumption | exact Ne.symm (by with_reducible assumption) | k_ne)); (case bq2 => k_all))
  k_with "L3" => first | (refine' Upd.head ?aq3; (case aq3 => k_all)) | (refine' Upd.tail ?aq3 ?bq3; (case aq3 => (first | with_reducible assumption | exact Ne.symm (by with_reducible assumption) | k_ne)); (case bq3 => k_upd))
  k_with "L4" => (refine' ks_code_super ?k1q4 ?k2q4 ?k3q4 ?k4q4 ?k5q4 ?kAq4 ?kFq4 ?kKq4 ?k6q4 ?k7q4 ?k8q4 ?k9q4 ?kBq4 ?_ ?c1q4 ?c2q4 ?c3q4 ?c4q4; (case kAq4 => exact rfl); (case kFq4 => exact rfl); (case kKq4 => assumption); (case k1q4 => k_asm); (case k2q4 => k_asm); (case k3q4 => k_asm); (case k4q4 => k_asm); (case k5q4 => k_asm); (case k6q4 => k_is); (case k7q4 => k_is); (case k8q4 => ktr_room); (case k9q4 => first | exact BindsTo.of_eq rfl | exact binds_K (by k_in) rfl (by k_is) rfl rfl rfl); (case kBq4 => exact locs rfl); (case c1q4 => decide); (case c2q4 => exact rfl); (case c3q4 => exact rfl); (case c4q4 => exact rfl); intro g'q9 L'q9 h'q9 FG'q9 F'q9 N'q9 B'q9 X'q9 T'q9 l1q9; (try dsimp only); (try k_fold))
  k_with "L5" => (k_here; k_dflt (refine' Mine.super_list ?k1q5 ?k2q5 ?k3q5 ?k4q5 ?k5q5 ?k6q5 ?k7q5 ?k8q5 ?k9q5 ?k10q5 ?_; (case k1q5 => k_asm); (case k2q5 => k_asm); (case k3q5 => k_asm); (case k4q5 => k_mem); (case k5q5 => k_inst); (case k6q5 => k_is); (case k7q5 => ks_is); (case k8q5 => k_is); (case k9q5 => decide); (case k10q5 => first | exact .inl ⟨rfl, rfl, rfl⟩ | exact .inr ⟨rfl, rfl, .inl rfl⟩ | exact .inr ⟨rfl, rfl, .inr rfl⟩); k_whole); intro q'q9 h'q9 F'q9 N'q9 l1q9; (try k_lt l1q9))
  k_with "L6" => (k_here; k_dflt (refine' Mine.lmethod ?k1q6 ?k2q6 ?k3q6 ?k4q6 ?k5q6 ?k6q6 ?k7q6 ?k8q6 ?_; (case k1q6 => k_asm); (case k2q6 => k_asm); (case k3q6 => k_inst); (case k4q6 => with_reducible exact Mine.look178 _); (case k5q6 => k_is); (case k6q6 => k_is); (case k7q6 => decide); (case k8q6 => k_get); k_whole))
  k_with "L7" => (k_here; k_dflt (refine' Mine.lget ?k1q7 ?k2q7 ?k3q7 ?k4q7 ?k5q7 ?k6q7 ?k7q7 ?k8q7 ?k9q7 ?_; (case k1q7 => k_asm); (case k2q7 => k_asm); (case k3q7 => k_inst); (case k4q7 => with_reducible exact Mine.look178 _); (case k5q7 => k_is); (case k6q7 => k_is); (case k7q7 => k_is); (case k8q7 => k_get); (case k9q7 => k_handed); k_whole))
  k_with "L8" => (k_here; k_dflt (refine' Mine.lset ?k1q8 ?k2q8 ?k3q8 ?k4q8 ?k5q8 ?k6q8 ?k7q8 ?k8q8 ?k9q8 ?k10q8 ?k11q8 ?k12q8 ?k13q8 ?_; (case k1q8 => k_asm); (case k2q8 => k_asm); (case k3q8 => k_asm); (case k4q8 => k_inst); (case k5q8 => exact rfl); (case k6q8 => k_is); (case k7q8 => exact Mine.over178 _); (case k8q8 => k_is); (case k9q8 => k_is); (case k10q8 => k_get); (case k11q8 => k_put); (case k12q8 => k_upd); (case k13q8 => exact Nat.le_of_ble_eq_true rfl); k_whole); intro h'q9 F'q9 N'q9)
  k_with "L9" => (k_here; (with_reducible show wpAny _ _ (callWith _ (Value.ref _) [] (backTo _ (starEach [] _)) []) _ _ _); k_dflt (refine' Mine.callWith_bound0 ?k1q9 ?k2q9 ?_; (case k1q9 => exact News.get (by k_asm) (by k_mem)); (case k2q9 => first | exact .inl rfl | exact .inr rfl); k_whole))
  k_with "L10" => (k_here; (with_reducible show wpAny _ _ (call (Value.ref _) []) _ _ _); k_dflt (refine' Mine.acc_len ?k1q10 ?k2q10 ?k3q10 ?_; (case k1q10 => k_asm); (case k2q10 => k_mem); (case k3q10 => k_mem); k_whole))
  k_with "L11" => (k_here; k_dflt (refine' Mine.acc_append_m ?k0q11 ?k1q11 ?k2q11 ?k3q11 ?k4q11 ?k5q11 ?k6q11 ?_ ?k7q11; (case k1q11 => k_asm); (case k2q11 => k_asm); (case k3q11 => k_asm); (case k0q11 => k_mem); (case k4q11 => k_mem); (case k5q11 => k_upd); (case k6q11 => with_reducible exact Mine.sub178 _); (case k7q11 => first | assumption | omega | size_fits); k_whole); intro h'q9 F'q9 N'q9)
  k_with "L12" => (refine' code_def ?k1q12 ?k2q12 ?k3q12 ?k4q12 ?k5q12 ?kAq12 ?kFq12 ?kKq12 ?k6q12 ?k7q12 ?k8q12 ?k9q12 ?kBq12 ?_ ?c2q12 ?c3q12 ?c4q12 ?c5q12; (case kAq12 => exact rfl); (case kFq12 => exact rfl); (case kKq12 => assumption); (case k1q12 => k_asm); (case k2q12 => k_asm); (case k3q12 => k_asm); (case k4q12 => k_asm); (case k5q12 => k_asm); (case k6q12 => k_is); (case k7q12 => k_is); (case k8q12 => ktr_room); (case k9q12 => first | exact BindsTo.of_eq rfl | exact binds_K (by k_in) rfl (by k_is) rfl rfl rfl); (case c5q12 => decide); (case kBq12 => exact locs rfl); (case c2q12 => exact rfl); (case c3q12 => exact rfl); (case c4q12 => exact rfl); k_whole; intro g'q9 L'q9 h'q9 FG'q9 F'q9 N'q9 B'q9 X'q9 T'q9; (try dsimp only); (try k_fold))
  k_with "L13" => (k_here; (with_reducible show wpAny _ _ (call (Value.ref _) []) _ _ _); k_dflt (refine' Mine.acc_pop178 ?k1q13 ?k2q13 ?k3q13 ?k4q13 ?k5q13 ?k6q13 ?_ ?k7q13; (case k1q13 => k_asm); (case k2q13 => k_asm); (case k3q13 => k_asm); (case k4q13 => k_mem); (case k5q13 => k_mem); (case k6q13 => k_upd); (case k7q13 => first | assumption | omega | size_fits); k_whole); intro h'q9 F'q9 N'q9)
  k_with "L14" => (k_here; (with_reducible show wpAny _ _ (subscriptTail _ (PySem.Expr.Slice _ _ none _) (Value.ref _) (Value.ref _)) _ _ _); k_dflt (refine' Mine.acc_sub_cut ?k1q14 ?k2q14 ?k3q14 ?k4q14 ?k5q14 ?k7q14 ?k8q14 ?kPq14 ?_ ?k9q14 ?k10q14; (case k1q14 => k_asm); (case k2q14 => k_asm); (case k3q14 => k_asm); (case k4q14 => k_mem); (case k5q14 => k_mem); (case k7q14 => kmk_part); (case k8q14 => kmk_part); (case kPq14 => exact Mine.pick_last _ _); (case k9q14 => first | (with_reducible assumption) | (rw [sizeLine_eq]; simp; omega) | size_fits); (case k10q14 => with_unfolding_all rfl)); intro q'q9 h'q9 F'q9 N'q9 l1q9; (try k_lt l1q9))
  k_with "L15" => (k_here; (with_reducible show wpAny _ _ (setItem (Value.ref _) (Value.ref _) (Value.ref _)) _ _ _); k_dflt (refine' Mine.acc_store_cut ?k1q15 ?k2q15 ?k3q15 ?kMq15 ?k4q15 ?k5q15 ?k7q15 ?k8q15 ?kPq15 ?kUq15 ?knq15 ?k9q15 ?_; (case k1q15 => k_asm); (case k2q15 => k_asm); (case k3q15 => k_asm); (case kMq15 => k_mem); (case k4q15 => k_mem); (case k5q15 => k_mem); (case k7q15 => kmk_part); (case k8q15 => kmk_part); (case kPq15 => first | exact Mine.stored_all _ _ | exact Mine.stored_last _ _); (case kUq15 => k_upd); (case knq15 => first | (with_reducible assumption) | k_ne); (case k9q15 => first | (with_reducible assumption) | (simp; omega))); intro h'q9 F'q9 N'q9)
  k_with "L16" => (k_dflt (ks_step "eval Call"; refine ks_wpAt_MethodCall ?_))
  k_with "L17" => (k_dflt (show PySem.wpAt _ _ _ (execs (_ :: _) _) _ _ _; ks_step "execs cons"; refine ks_wpAt_execs_cons ?_))
  k_with "L18" => (k_dflt (ks_step "exec Return"; refine ks_wpAt_Return_some ?_))
  k_with "L19" => (k_dflt (ks_step "exec If"; refine ks_wpAt_If ?_))
  k_with "L20" => (k_dflt (ks_step "exec Expr"; refine ks_wpAt_Expr_any ?_))
  k_with "L21" => first | k_asm | (refine Mine.news_sub (by assumption) ?_; repeat (first | exact List.forall_mem_nil _ | exact fun _ hq9 => hq9 | (refine' List.forall_mem_cons.mpr (And.intro ?ra9q21 ?_); (case ra9q21 => k_mem)) | refine Mine.sub_cons ?_))
  k_with "L22" => (have hcL9 := cLine_is; (try simp only [Mine.units_make, units_in1, units_deeper, Around.mark_units, units_caller]); (try dsimp only [ktrTop]); omega)
  k_with "L23" => (refine' code_def ?k1q23 ?k2q23 ?k3q23 ?k4q23 ?k5q23 ?kAq23 ?kFq23 ?kKq23 ?k6q23 ?k7q23 ?k8q23 ?k9q23 ?kBq23 ?_ ?c2q23 ?c3q23 ?c4q23 ?c5q23; (case kAq23 => exact rfl); (case kFq23 => exact rfl); (case kKq23 => assumption); (case k1q23 => k_asm); (case k2q23 => k_asm); (case k3q23 => k_asm); (case k4q23 => k_asm); (case k5q23 => k_asm); (case k6q23 => k_is); (case k7q23 => k_is); (case k8q23 => ktr_room); (case k9q23 => (refine' kp_binds ?kxq23 ?keq23; (case kxq23 => k_in); (case keq23 => exact fun _ => rfl))); (case c5q23 => decide); (case kBq23 => exact locs rfl); (case c2q23 => exact rfl); (case c3q23 => exact rfl); (case c4q23 => exact rfl); k_whole; intro g'q9 L'q9 h'q9 FG'q9 F'q9 N'q9 B'q9 X'q9 T'q9; (try dsimp only); (try k_fold))
  trivial
local macro_rules | `(tactic| k_inst) => `(tactic| k_extra "L1")
local macro_rules | `(tactic| k_room) => `(tactic| ktr_room)
local macro_rules | `(tactic| k_units) => `(tactic| ktr_units)
local macro_rules | `(tactic| k_lt $l) => `(tactic| first | (obtain ⟨hx, $l⟩ := Mine.lt_cons $l; dsimp only at hx; k_lt $l) | skip)
local macro_rules | `(tactic| k_all) => `(tactic| k_extra "L2")
local macro_rules | `(tactic| k_upd) => `(tactic| k_extra "L3")
local macro_rules | `(tactic| ktr_enter) => `(tactic| k_extra "L4")
local macro_rules | `(tactic| walk_at "getMethod ref") => `(tactic| k_extra "L5")
local macro_rules | `(tactic| walk_at "getMethod ref") => `(tactic| k_extra "L6")
local macro_rules | `(tactic| walk_at "getAttr ref") => `(tactic| k_extra "L7")
local macro_rules | `(tactic| walk_at "setAttr ref") => `(tactic| k_extra "L8")
local macro_rules | `(tactic| walk_at "callWith ref") => `(tactic| k_extra "L9")
local macro_rules | `(tactic| walk_at "call ref") => `(tactic| k_extra "L10")
local macro_rules | `(tactic| walk_at "call builtin:list.append") => `(tactic| k_extra "L11")
local macro_rules | `(tactic| ktr_enter) => `(tactic| k_extra "L12")
local macro_rules | `(tactic| walk_at "call ref") => `(tactic| k_extra "L13")
local macro_rules | `(tactic| walk_at "subscriptTail Name Slice ref ref") => `(tactic| k_extra "L14")
local macro_rules | `(tactic| walk_at "setItem ref ref ref") => `(tactic| k_extra "L15")
local macro_rules | `(tactic| walk_at "wpAt") => `(tactic| k_extra "L16")
local macro_rules | `(tactic| walk_at "wpAt") => `(tactic| k_extra "L17")
local macro_rules | `(tactic| walk_at "wpAt") => `(tactic| k_extra "L18")
local macro_rules | `(tactic| walk_at "wpAt") => `(tactic| k_extra "L19")
local macro_rules | `(tactic| walk_at "wpAt") => `(tactic| k_extra "L20")
local macro_rules | `(tactic| ktr_rel) => `(tactic| k_extra "L21")
local macro_rules | `(tactic| ktr_units) => `(tactic| k_extra "L22")
local macro_rules | `(tactic| ktr_enter) => `(tactic| k_extra "L23")
section
noncomputable abbrev initDict (w : World) (i : Int) (ti tk : Tok) : Obj := dictOf [⟨PyData.keyHash w.params "_initial_size", .str "_initial_size" tk, .int i ti⟩] 1

theorem part_count_told : ∀ {w : World} {p : Program} {loose : List Str} {mean : ExcName → Option Value} {mg mb : Str → Option Value}
    (dp un : Nat) (gd : Option (List Code)) (cn : Str) (cs : Scope) (a : Addr) (ccd : Value) (cl : List (Str × Addr)) (outer : List Env) (A₀ : Around) (base h₀ : Heap) (L : Addr) (m : Str → Option Value) (news : List (Addr × Obj)) (s : Shared) (Q E : Value → Shared → Prop)
    (ac da : Addr) (i : Int) (ti tk : Tok) (n : Nat) (its : List Value)
    (B : Below A₀ base outer h₀) (F : Fr h₀ L s.heap m) (X : (Mine.hd.heap_39 w.params).In h₀) (N : News h₀ L s.heap ((ac, accObj 178 da its n) :: (da, initDict w i ti tk) :: news)) (T : Top p loose mean mg mb h₀) (hk : cs.kind = .function)
    (hd : dp + 1 < recursionLimit) (hu : un + 8 < cLine) 
    (hret : ∀ (t : Tok) h' tk', Fr h₀ L h' m → News h₀ L h' ((ac, accObj 178 da its n) :: (da, initDict w i ti tk) :: news) → Q (.int its.length t) { s with heap := h', toks := tk' }),
    wpAny (model PySem.Challenge.rw_pm0058_01.row.prog w) (ktrTop dp un gd cn cs L a ccd cl outer) (call (.ref 175) [.ref ac]) Q E s := by
  k_fill
  intros
  rename_i hret
  refine wpAny_call ?_
  k_dflt ktr_enter
  k_steps
  all_goals exact hret _ _ _ (by k_asm) (by ktr_rel)


theorem push_told : ∀ {w : World} {p : Program} {loose : List Str} {mean : ExcName → Option Value} {mg mb : Str → Option Value}
    (dp un : Nat) (gd : Option (List Code)) (cn : Str) (cs : Scope) (a : Addr) (ccd : Value) (cl : List (Str × Addr)) (outer : List Env) (A₀ : Around) (base h₀ : Heap) (L : Addr) (m : Str → Option Value) (news : List (Addr × Obj)) (s : Shared) (Q E : Value → Shared → Prop)
    (ac da : Addr) (i : Int) (ti tk : Tok) (n : Nat) (its : List Value) (x y : Str) (tx ty : Tok)
    (B : Below A₀ base outer h₀) (F : Fr h₀ L s.heap m) (X : (Mine.hd.heap_39 w.params).In h₀) (N : News h₀ L s.heap ((ac, accObj 178 da its n) :: (da, initDict w i ti tk) :: news)) (T : Top p loose mean mg mb h₀) (hk : cs.kind = .function)
    (hd : dp + 1 < recursionLimit) (hu : un + 8 < cLine) (hsz : its.length ≤ sizeLine) (h1 : da ≠ ac) (h2 : ∀ p ∈ news, p.1 ≠ ac) (h3 : ∀ p ∈ news, p.1 ≠ da)
    (hret : ∀ (tp : Addr) h' tk', @LT.lt Nat instLTNat ac tp → @LT.lt Nat instLTNat da tp → (∀ p ∈ news, p.1 < tp) → Fr h₀ L h' m → News h₀ L h' ((tp, tupObj x y tx ty) :: (ac, accObj 178 da (its ++ [.ref tp]) (n + 1)) :: (da, initDict w i ti tk) :: news) → Q .none { s with heap := h', toks := tk' }),
    wpAny (model PySem.Challenge.rw_pm0058_01.row.prog w) (ktrTop dp un gd cn cs L a ccd cl outer) (call (.ref 122) [.ref ac, .str x tx, .str y ty]) Q E s := by
  k_fill
  intros
  rename_i hret
  refine wpAny_call ?_
  k_dflt ktr_enter
  k_steps
  all_goals exact hret _ _ _ (by assumption) (by assumption) (by assumption) (by k_asm) (by ktr_rel)


theorem push_code_told : ∀ {w : World} {p : Program} {loose : List Str} {mean : ExcName → Option Value} {mg mb : Str → Option Value}
    (dp un : Nat) (gd : Option (List Code)) (cn : Str) (cs : Scope) (a : Addr) (ccd : Value) (cl : List (Str × Addr)) (outer : List Env) (A₀ : Around) (base h₀ : Heap) (L : Addr) (m : Str → Option Value) (news : List (Addr × Obj)) (s : Shared) (Q E : Value → Shared → Prop)
    (ac da : Addr) (i : Int) (ti tk : Tok) (n : Nat) (its : List Value) (x y : Str) (tx ty : Tok)
    (B : Below A₀ base outer h₀) (F : Fr h₀ L s.heap m) (X : (Mine.hd.heap_39 w.params).In h₀) (N : News h₀ L s.heap ((ac, accObj 178 da its n) :: (da, initDict w i ti tk) :: news)) (T : Top p loose mean mg mb h₀) (hk : cs.kind = .function)
    (hd : dp + 1 < recursionLimit) (hu : un + 8 < cLine) (hsz : its.length ≤ sizeLine) (h1 : da ≠ ac) (h2 : ∀ p ∈ news, p.1 ≠ ac) (h3 : ∀ p ∈ news, p.1 ≠ da)
    (hret : ∀ (tp : Addr) h' tk', @LT.lt Nat instLTNat ac tp → @LT.lt Nat instLTNat da tp → (∀ p ∈ news, p.1 < tp) → Fr h₀ L h' m → News h₀ L h' ((tp, tupObj x y tx ty) :: (ac, accObj 178 da (its ++ [.ref tp]) (n + 1)) :: (da, initDict w i ti tk) :: news) → Q .none { s with heap := h', toks := tk' }),
    codeAny (model PySem.Challenge.rw_pm0058_01.row.prog w) (ktrTop dp un gd cn cs L a ccd cl outer) (.call (.ref 122) ⟨[.ref ac, .str x tx, .str y ty], []⟩) (fun r s' => match r with | .ok (.ret v) => Q v s' | .ok _ => False | .error e => E e s') s := by
  k_fill
  intros
  rename_i hret
  k_dflt ktr_enter
  k_steps
  all_goals exact hret _ _ _ (by assumption) (by assumption) (by assumption) (by k_asm) (by ktr_rel)


theorem pop_told : ∀ {w : World} {p : Program} {loose : List Str} {mean : ExcName → Option Value} {mg mb : Str → Option Value}
    (dp un : Nat) (gd : Option (List Code)) (cn : Str) (cs : Scope) (a : Addr) (ccd : Value) (cl : List (Str × Addr)) (outer : List Env) (A₀ : Around) (base h₀ : Heap) (L : Addr) (m : Str → Option Value) (news : List (Addr × Obj)) (s : Shared) (Q E : Value → Shared → Prop)
    (ac da : Addr) (i : Int) (ti tk : Tok) (n : Nat) (its : List Value) (v : Value)
    (B : Below A₀ base outer h₀) (F : Fr h₀ L s.heap m) (X : (Mine.hd.heap_39 w.params).In h₀) (N : News h₀ L s.heap ((ac, accObj 178 da (its ++ [v]) n) :: (da, initDict w i ti tk) :: news)) (T : Top p loose mean mg mb h₀) (hk : cs.kind = .function)
    (hd : dp + 2 < recursionLimit) (hu : un + 20 < cLine) (hsz : its.length + 1 ≤ sizeLine) (h1 : da ≠ ac) (h2 : ∀ p ∈ news, p.1 ≠ ac) (h3 : ∀ p ∈ news, p.1 ≠ da)
    (hret : ∀ h' tk', Fr h₀ L h' m → News h₀ L h' ((ac, accObj 178 da its (n + 1)) :: (da, initDict w i ti tk) :: news) → Q v { s with heap := h', toks := tk' }),
    wpAny (model PySem.Challenge.rw_pm0058_01.row.prog w) (ktrTop dp un gd cn cs L a ccd cl outer) (call (.ref 138) [.ref ac]) Q E s := by
  k_fill
  intro w p loose mean mg mb dp un gd cn cs a ccd cl outer A₀ base h₀ L m news s Q E ac da i ti tk n its v B F X N T hk hd hu hsz h1 h2 h3 hret
  refine wpAny_call ?_
  k_dflt ktr_enter
  k_steps
  all_goals try exact hret _ _ (by k_asm) (by ktr_rel)
  w_report


theorem pop_nil_told : ∀ {w : World} {p : Program} {loose : List Str} {mean : ExcName → Option Value} {mg mb : Str → Option Value}
    (dp un : Nat) (gd : Option (List Code)) (cn : Str) (cs : Scope) (a : Addr) (ccd : Value) (cl : List (Str × Addr)) (outer : List Env) (A₀ : Around) (base h₀ : Heap) (L : Addr) (m : Str → Option Value) (news : List (Addr × Obj)) (s : Shared) (Q E : Value → Shared → Prop)
    (ac da : Addr) (i : Int) (ti tk : Tok) (n : Nat)
    (B : Below A₀ base outer h₀) (F : Fr h₀ L s.heap m) (X : (Mine.hd.heap_39 w.params).In h₀) (N : News h₀ L s.heap ((ac, accObj 178 da [] n) :: (da, initDict w i ti tk) :: news)) (T : Top p loose mean mg mb h₀) (hk : cs.kind = .function)
    (hd : dp + 2 < recursionLimit) (hu : un + 20 < cLine) (h1 : da ≠ ac) (h2 : ∀ p ∈ news, p.1 ≠ ac) (h3 : ∀ p ∈ news, p.1 ≠ da)
    (hret : ∀ (tp : Addr) (t1 t2 : Tok) h' tk', @LT.lt Nat instLTNat ac tp → @LT.lt Nat instLTNat da tp → (∀ p ∈ news, p.1 < tp) → Fr h₀ L h' m → News h₀ L h' ((tp, tupObj "" "" t1 t2) :: (ac, accObj 178 da [] n) :: (da, initDict w i ti tk) :: news) → Q (.ref tp) { s with heap := h', toks := tk' }),
    wpAny (model PySem.Challenge.rw_pm0058_01.row.prog w) (ktrTop dp un gd cn cs L a ccd cl outer) (call (.ref 138) [.ref ac]) Q E s := by
  k_fill
  intros
  rename_i hret
  refine wpAny_call ?_
  k_dflt ktr_enter
  k_steps
  all_goals exact hret _ _ _ _ _ (by assumption) (by assumption) (by assumption) (by k_asm) (by ktr_rel)


theorem pop_from_told : ∀ {w : World} {p : Program} {loose : List Str} {mean : ExcName → Option Value} {mg mb : Str → Option Value}
    (dp un : Nat) (gd : Option (List Code)) (cn : Str) (cs : Scope) (a : Addr) (ccd : Value) (cl : List (Str × Addr)) (outer : List Env) (A₀ : Around) (base h₀ : Heap) (L : Addr) (m : Str → Option Value) (news : List (Addr × Obj)) (s : Shared) (Q E : Value → Shared → Prop)
    (ac da : Addr) (i : Int) (ti tk : Tok) (n : Nat) (pre : List Value) (v : Value) (t : Tok)
    (B : Below A₀ base outer h₀) (F : Fr h₀ L s.heap m) (X : (Mine.hd.heap_39 w.params).In h₀) (N : News h₀ L s.heap ((ac, accObj 178 da (pre ++ [v]) n) :: (da, initDict w i ti tk) :: news)) (T : Top p loose mean mg mb h₀) (hk : cs.kind = .function)
    (hd : dp + 1 < recursionLimit) (hu : un + 8 < cLine) (hsz2 : pre.length < 1000) (h1 : da ≠ ac) (h2 : ∀ p ∈ news, p.1 ≠ ac) (h3 : ∀ p ∈ news, p.1 ≠ da)
    (hret : ∀ (r n' : Nat) h' tk', @LT.lt Nat instLTNat ac r → @LT.lt Nat instLTNat da r → (∀ p ∈ news, p.1 < r) → Fr h₀ L h' m → News h₀ L h' ((r, listOf [v].toArray 0) :: (ac, accObj 178 da pre n') :: (da, initDict w i ti tk) :: news) → Q (.ref r) { s with heap := h', toks := tk' }),
    wpAny (model PySem.Challenge.rw_pm0058_01.row.prog w) (ktrTop dp un gd cn cs L a ccd cl outer) (call (.ref 130) [.ref ac, .int pre.length t]) Q E s := by
  k_fill
  intros
  rename_i hret
  refine wpAny_call ?_
  k_dflt ktr_enter
  k_steps
  all_goals exact hret _ _ _ _ (by assumption) (by assumption) (by assumption) (by k_asm) (by ktr_rel)


theorem reset_told : ∀ {w : World} {p : Program} {loose : List Str} {mean : ExcName → Option Value} {mg mb : Str → Option Value}
    (dp un : Nat) (gd : Option (List Code)) (cn : Str) (cs : Scope) (a : Addr) (ccd : Value) (cl : List (Str × Addr)) (outer : List Env) (A₀ : Around) (base h₀ : Heap) (L : Addr) (m : Str → Option Value) (news : List (Addr × Obj)) (s : Shared) (Q E : Value → Shared → Prop)
    (ac da : Addr) (i : Int) (ti tk : Tok) (n : Nat) (its : List Value)
    (B : Below A₀ base outer h₀) (F : Fr h₀ L s.heap m) (X : (Mine.hd.heap_39 w.params).In h₀) (N : News h₀ L s.heap ((ac, accObj 178 da its n) :: (da, initDict w i ti tk) :: news)) (T : Top p loose mean mg mb h₀) (hk : cs.kind = .function)
    (hd : dp + 1 < recursionLimit) (hu : un + 8 < cLine) (hsz2 : its.length ≤ 1000) (h1 : da ≠ ac) (h2 : ∀ p ∈ news, p.1 ≠ ac) (h3 : ∀ p ∈ news, p.1 ≠ da)
    (hret : ∀ (n' : Nat) (t1 : Tok) h' tk', Fr h₀ L h' m → News h₀ L h' ((ac, accObj 178 da [] n') :: (da, initDict w 0 t1 tk) :: news) → Q .none { s with heap := h', toks := tk' }),
    wpAny (model PySem.Challenge.rw_pm0058_01.row.prog w) (ktrTop dp un gd cn cs L a ccd cl outer) (call (.ref 160) [.ref ac]) Q E s := by
  k_fill
  intros
  rename_i hret
  refine wpAny_call ?_
  k_dflt ktr_enter
  k_steps
  all_goals exact hret _ _ _ _ (by k_asm) (by ktr_rel)


theorem reset_one_told : ∀ {w : World} {p : Program} {loose : List Str} {mean : ExcName → Option Value} {mg mb : Str → Option Value}
    (dp un : Nat) (gd : Option (List Code)) (cn : Str) (cs : Scope) (a : Addr) (ccd : Value) (cl : List (Str × Addr)) (outer : List Env) (A₀ : Around) (base h₀ : Heap) (L : Addr) (m : Str → Option Value) (news : List (Addr × Obj)) (s : Shared) (Q E : Value → Shared → Prop)
    (ac da : Addr) (i : Int) (ti tk : Tok) (n : Nat) (its : List Value) (r : Addr) (v : Value) (nr : Nat)
    (B : Below A₀ base outer h₀) (F : Fr h₀ L s.heap m) (X : (Mine.hd.heap_39 w.params).In h₀) (N : News h₀ L s.heap ((r, listOf [v].toArray nr) :: (ac, accObj 178 da its n) :: (da, initDict w i ti tk) :: news)) (T : Top p loose mean mg mb h₀) (hk : cs.kind = .function)
    (hd : dp + 1 < recursionLimit) (hu : un + 8 < cLine) (hsz2 : its.length < 1000) (h0 : ac ≠ r) (h4 : da ≠ r) (h1 : da ≠ ac) (h2 : ∀ p ∈ news, p.1 ≠ ac) (h3 : ∀ p ∈ news, p.1 ≠ da)
    (hret : ∀ (n' : Nat) (t1 : Tok) h' tk', Fr h₀ L h' m → News h₀ L h' ((r, listOf [v].toArray nr) :: (ac, accObj 178 da [v] n') :: (da, initDict w 0 t1 tk) :: news) → Q .none { s with heap := h', toks := tk' }),
    wpAny (model PySem.Challenge.rw_pm0058_01.row.prog w) (ktrTop dp un gd cn cs L a ccd cl outer) (call (.ref 160) [.ref ac, .ref r]) Q E s := by
  k_fill
  intros
  rename_i hret
  refine wpAny_call ?_
  k_dflt ktr_enter
  k_steps
  all_goals exact hret _ _ _ _ (by k_asm) (by ktr_rel)
end
section
noncomputable def isCodeObj (P : Addr) (o : Obj) : Bool := match o.cls with
  | .type "code" => (match o.data with
    | .fields vs => (match (vs[11]? : Option Value) with | some (Value.ref q) => q == P | _ => false) && (match vs.getD 11 Value.none with | Value.ref q => q == P | _ => false) && (match vs.getD 18 .none with | .str _ _ => true | _ => false) &&
      (match vs.getD 7 .none with | .int _ _ => true | _ => false) && (match vs.getD 9 .none with | .bool _ => true | _ => false) && (match vs.getD 10 .none with | .int _ _ => true | _ => false)
    | _ => false)
  | _ => false
noncomputable def codeIn (K : Frag) (c P : Addr) : Bool := (match K.lookup c with | some o => isCodeObj P o | none => false) && c != P
theorem codeFor_of {K : Frag} {h : Heap} {c P : Addr} (X : K.In h) (e : codeIn K c P = true) : CodeFor h c P := by
  simp only [codeIn, Bool.and_eq_true, bne_iff_ne, ne_eq] at e
  obtain ⟨ho, hne⟩ := e
  split at ho <;> first | cases ho | skip
  rename_i o hl
  have hg : h.get? c = some o := X _ _ hl
  unfold isCodeObj at ho
  split at ho
  · rename_i hc
    split at ho
    · rename_i vs hd
      simp only [Bool.and_eq_true] at ho
      obtain ⟨⟨⟨⟨⟨h1, h2⟩, h3⟩, h4⟩, h5⟩, h6⟩ := ho
      split at h1 <;> first | cases h1 | skip
      split at h2 <;> first | cases h2 | skip
      split at h3 <;> first | cases h3 | skip
      split at h4 <;> first | cases h4 | skip
      split at h5 <;> first | cases h5 | skip
      split at h6 <;> first | cases h6 | skip
      rename_i _ q1 e1 _ q2 e2 _ file tf e3 _ fl tg e4 _ b e5 _ x tt e6
      exact ⟨o, vs, file, tf, fl, tg, b, x, tt, hg, hc, hd, by rw [e1, eq_of_beq h1], by rw [e2, eq_of_beq h2], e3, e4, e5, e6, hne⟩
    · cases ho
  · cases ho
theorem code144 (P : Params) : codeIn (Mine.hd.heap_39 P) 144 140 = true := by kernel_rfl
theorem code151 (P : Params) : codeIn (Mine.hd.heap_39 P) 151 147 = true := by kernel_rfl
end
section
section
variable {M : Model} {A : Around} {E : Value → Shared → Prop} {s : Shared} {h₀ : Heap} {K : Frag} {C : Addr} {m mg mb : Str → Option Value} {scope : Scope} {cl : List (Str × Addr)} {env : Env} {p : Program} {loose : List Str} {mean : ExcName → Option Value} {x : Str} {pos : Pos} {v code : Value} {Q : Value → Shared → Prop}
theorem gen_local (F : Fr h₀ C s.heap m) (hv : m x = some v) (h : Q v s)
    (hk : (genEnv scope cl C code builtinsNs env).scope.kind = .function := by rfl) (hl : (genEnv scope cl C code builtinsNs env).kindOf x = some .local := by rfl) (hd : (x == ("__debug__" : Str)) = false := by decide) :
    wpAny M A (eval (.Name x pos) (genEnv scope cl C code builtinsNs env)) Q E s := wpAny_Name (wpAny_loadName_local hk hl F.ns hv h) hd
theorem gen_global (F : Fr h₀ C s.heap m) (X : K.In h₀) (T : Top p loose mean mg mb h₀) (e : nsIn K mainGlobals x = some (some v)) (h : Q v s) (hg : env.globals = mainGlobals := by rfl)
    (hk : (genEnv scope cl C code builtinsNs env).scope.kind = .function := by rfl) (hx : (genEnv scope cl C code builtinsNs env).kindOf x = some .globalImplicit := by rfl) (hd : (x == ("__debug__" : Str)) = false := by decide) :
    wpAny M A (eval (.Name x pos) (genEnv scope cl C code builtinsNs env)) Q E s :=
  Name_function_global hk hx (loadGlobal_global (env := genEnv scope cl C code builtinsNs env) (show s.heap.Ns env.globals mg from hg ▸ (T.keeps F.keep).g) (mg_of X T.g e) h) hd
theorem gen_built (F : Fr h₀ C s.heap m) (X : K.In h₀) (T : Top p loose mean mg mb h₀) (e : nsIn K mainGlobals x = some none) (hv : bootBuiltins x = some v) (hn : x ≠ "__name__") (h : Q v s) (hg : env.globals = mainGlobals := by rfl)
    (hk : (genEnv scope cl C code builtinsNs env).scope.kind = .function := by rfl) (hx : (genEnv scope cl C code builtinsNs env).kindOf x = some .globalImplicit := by rfl) (hd : (x == ("__debug__" : Str)) = false := by decide) :
    wpAny M A (eval (.Name x pos) (genEnv scope cl C code builtinsNs env)) Q E s :=
  Name_function_global hk hx (loadGlobal_builtin (env := genEnv scope cl C code builtinsNs env) (show s.heap.Ns env.globals mg from hg ▸ (T.keeps F.keep).g) (mg_none_of X T.g e) (show s.heap.Ns builtinsNs mb from (T.keeps F.keep).b) ((T.builtins x hn).trans hv) h) hd
end
end
section
theorem lines2 : True := by
  k_with "L24" => (k_here; k_dflt (refine' newTuple_NK ?Fq24 ?Nq24 ?_ ?zq24; (case Fq24 => k_asm); (case Nq24 => k_asm); (case zq24 => kmk_size)); intro h'q9 F'q9 N'q9 keep'q9)
  k_with "L25" => (k_here; (with_reducible show wpAny _ _ (eval (.Name _ _) (genEnv _ _ _ _ _ _)) _ _ _); k_dflt (refine' Mine.gen_local ?k1q25 ?k2q25 ?_; (case k1q25 => k_asm); (case k2q25 => assumption)))
  k_with "L26" => (k_here; (with_reducible show wpAny _ _ (call (Value.builtin "len") [Value.str _ _]) _ _ _); k_dflt (refine PyProof.Rows.len_str ?k1q26 ?_; (case k1q26 => omega)))
  k_with "L27" => (k_here; k_dflt (refine' Mine.sum_pairs (parts := parts) ?k1q27 ?k2q27 ?k3q27 ?k4q27 ?k5q27 ?k6q27 ?_ ?k7q27; (case k1q27 => k_asm); (case k2q27 => k_asm); (case k3q27 => assumption); (case k4q27 => assumption); (case k5q27 => assumption); (case k6q27 => assumption); (case k7q27 => assumption)); intro h'q9 tk'q9 gs'q9 t'q9 F'q9 N'q9 G'q9)
  k_with "L28" => (k_here; (with_reducible show wpAny _ _ (eval (.Name _ _) (genEnv _ _ _ _ _ _)) _ _ _); k_dflt (refine' Mine.gen_built ?k1q28 ?k2q28 ?k3q28 ?k4q28 ?k5q28 ?k6q28 ?_; (case k1q28 => k_asm); (case k2q28 => k_asm); (case k3q28 => k_asm); (case k4q28 => k_is); (case k5q28 => boot_fast); (case k6q28 => decide)))
  k_with "L29" => (k_here; (with_reducible show wpAny _ _ (eval (.Name _ _) (genEnv _ _ _ _ _ _)) _ _ _); k_dflt (refine' Mine.gen_global ?k1q29 ?k2q29 ?k3q29 ?k4q29 ?_; (case k1q29 => k_asm); (case k2q29 => k_asm); (case k3q29 => k_asm); (case k4q29 => k_is)))
  trivial
local macro_rules | `(tactic| walk_at "newTuple") => `(tactic| k_extra "L24")
local macro_rules | `(tactic| walk_at "eval Name") => `(tactic| k_extra "L25")
local macro_rules | `(tactic| walk_at "call builtin:len") => `(tactic| k_extra "L26")
local macro_rules | `(tactic| walk_at "call builtin:sum") => `(tactic| k_extra "L27")
local macro_rules | `(tactic| walk_at "eval Name") => `(tactic| k_extra "L28")
local macro_rules | `(tactic| walk_at "eval Name") => `(tactic| k_extra "L29")
theorem newsNil {h₀ h : Heap} {L : Addr} {m : Str → Option Value} (_F : Fr h₀ L h m) : News h₀ L h [] := News.nil
noncomputable def lenPos : Pos := ⟨93, 19, 93, 63⟩

theorem len_told : ∀ {w : World} {p : Program} {loose : List Str} {mean : ExcName → Option Value} {mg mb : Str → Option Value}
    (dp un : Nat) (gd : Option (List Code)) (cn : Str) (cs : Scope) (a : Addr) (ccd : Value) (cl : List (Str × Addr)) (outer : List Env) (A₀ : Around) (base h₀ : Heap) (L : Addr) (m : Str → Option Value) (news : List (Addr × Obj)) (s : Shared) (Q E : Value → Shared → Prop)
    (ac da : Addr) (i : Int) (ti tk : Tok) (n : Nat) (parts : List Part) (tb : Array Value)
    (B : Below A₀ base outer h₀) (F : Fr h₀ L s.heap m) (X : (Mine.hd.heap_39 w.params).In h₀) (N : News h₀ L s.heap ((ac, accObj 178 da (refs parts) n) :: (da, initDict w i ti tk) :: (140, tabObj tb) :: news)) (T : Top p loose mean mg mb h₀) (hk : cs.kind = .function)
    (hd : dp + 2 < recursionLimit) (hu : un + 16 < cLine) (hT : ∀ q ∈ parts, q.obj ∈ news) (hg : AllBare s.gens) (ht : TabOk lenPos tb) (hfit : -(2 ^ 63) ≤ i ∧ i < 2 ^ 63) (hq : ∀ q ∈ parts, q.fws.length ≤ 1000 ∧ q.txt.length ≤ 1000) (h1 : ac ≠ 140) (h2 : da ≠ 140) (h3 : ∀ p ∈ news, p.1 ≠ 140)
    (hret : ∀ (tb' : Array Value) (t : Tok) h' tk' gs', AllBare gs' → Fr h₀ L h' m → TabOk lenPos tb' → News h₀ L h' ((ac, accObj 178 da (refs parts) n) :: (da, initDict w i ti tk) :: (140, tabObj tb') :: news) → Q (.int (i + psum parts) t) { s with heap := h', toks := tk', gens := gs' }),
    wpAny (model PySem.Challenge.rw_pm0058_01.row.prog w) (ktrTop dp un gd cn cs L a ccd cl outer) (call (.ref 145) [.ref ac]) Q E s := by
  k_fill
  intro w p loose mean mg mb dp un gd cn cs a ccd cl outer A₀ base h₀ L m news s Q E ac da i ti tk n parts tb B F X N T hk hd hu hT hg ht hfit hq h1 h2 h3 hret
  refine wpAny_call ?_
  k_dflt ktr_enter
  k_steps
  k_here
  refine' Mine.genexp_pairs (val := fun q u => .int (plen q) u) ?k1 ?k2 ?k3 ?k4 ?k5 ?k6 ?k7 ?k8 ?k9 ?k10 ?k11 ?k12 ?k13 ?k14 ?k15 ?k16 ?k17 ?k18 ?k19 ?k20 ?k21 ?k22 ?k23 ?k24 ?k25 ?k26 ?_
  (case k1 => k_asm)
  (case k2 => k_asm)
  (case k3 => k_asm)
  (case k4 => k_asm)
  (case k5 => assumption)
  (case k6 => exact codeFor_of (by k_asm) (code144 _))
  (case k7 => assumption)
  (case k8 => refine .tail (by assumption) (.tail (by assumption) (.head (by assumption))))
  (case k9 => k_mem)
  (case k10 => k_mem)
  (case k11 => intro q hq; exact List.mem_cons_of_mem _ (List.mem_cons_of_mem _ (List.mem_cons_of_mem _ (hT q hq))))
  (case k12 => rfl)
  (case k13 => rfl)
  (case k14 => with_unfolding_all rfl)
  (case k15 => rfl)
  (case k16 => rfl)
  (case k17 => decide)
  (case k18 => rfl)
  (case k19 => rfl)
  (case k20 => rfl)
  (case k21 => decide)
  (case k22 => rfl)
  (case k23 => ktr_room)
  (case k24 => (intro Q' z; k_steps; exact z))
  (case k25 => (intro c' C A' E' q t m₂ g1 g2 g3 hq' F9 hma hmb; (have hb := hq q hq'); k_steps; first | exact ⟨_, _, rfl, fun _ _ e => e⟩ | exact ⟨⟨_, rfl⟩, ⟨_, _, rfl, fun _ _ e => e⟩⟩))
  (case k26 => intro _; with_unfolding_all rfl)
  intro a' h'9 tk9 gs9 tb9 K9 ht9 F9 N9 hg9 hK9 hLK9 hKa9 X9
  dsimp only at F9 N9 hK9
  k_steps
  k_here
  refine' Mine.sum_pairs (parts := parts) ?k1 ?k2 ?k3 ?k4 ?k5 ?k6 ?_ ?k7
  (case k1 => k_asm)
  (case k2 => k_asm)
  (case k3 => assumption)
  (case k4 => exact Mine.gen_toks X9 (Nat.le_succ _))
  (case k5 => assumption)
  (case k6 => assumption)
  (case k7 => assumption)
  intro h' tk' gs' t' F' N' G'
  k_steps
  exact hret _ _ _ _ _ (by assumption) (by k_asm) (by assumption) (by k_asm)

theorem join2_length (x y : Str) : (Txt.join "" [x, y]).length = x.length + y.length := by
  show (x ++ ("" : Str) ++ Str.join "" [y]).length = _
  show (x.cps ++ ("" : Str).cps ++ y.cps).size = _
  have e : ("" : Str).cps.size = 0 := by decide +kernel
  rw [Array.size_append, Array.size_append, e, Nat.add_zero]
  rfl
theorem sum_le_of {l : List Part} (f : Part → Nat) (k : Nat) (h : ∀ q ∈ l, f q ≤ k) : (l.map f).sum ≤ l.length * k := by
  induction l with
  | nil => simp
  | cons q r ih =>
    have h1 := h q List.mem_cons_self
    have h2 := ih fun z hz => h z (List.mem_cons_of_mem _ hz)
    simp only [List.map_cons, List.sum_cons, List.length_cons, Nat.succ_mul]
    omega
theorem joinOk_parts {parts : List Part} (hn : parts.length ≤ 500) (hq : ∀ q ∈ parts, q.fws.length ≤ 1000 ∧ q.txt.length ≤ 1000) : JoinOk "" (parts.map fun q => Txt.join "" [q.fws, q.txt]) = true := by
  refine joinOk_of_weight ?_ (by decide)
  rw [List.map_map, List.length_map]
  have h := sum_le_of (l := parts) ((fun (x : Str) => x.length) ∘ fun q => Txt.join "" [q.fws, q.txt]) 2000 fun q hq' => by
    have := hq q hq'
    simp only [Function.comp, join2_length]
    omega
  omega
noncomputable def strPos : Pos := ⟨96, 32, 96, 80⟩

theorem str_told : ∀ {w : World} {p : Program} {loose : List Str} {mean : ExcName → Option Value} {mg mb : Str → Option Value}
    (dp un : Nat) (gd : Option (List Code)) (cn : Str) (cs : Scope) (a : Addr) (ccd : Value) (cl : List (Str × Addr)) (outer : List Env) (A₀ : Around) (base h₀ : Heap) (L : Addr) (m : Str → Option Value) (news : List (Addr × Obj)) (s : Shared) (Q E : Value → Shared → Prop)
    (ac da : Addr) (i : Int) (ti tk : Tok) (n : Nat) (parts : List Part) (tb : Array Value)
    (B : Below A₀ base outer h₀) (F : Fr h₀ L s.heap m) (X : (Mine.hd.heap_39 w.params).In h₀) (N : News h₀ L s.heap ((ac, accObj 178 da (refs parts) n) :: (da, initDict w i ti tk) :: (147, tabObj tb) :: news)) (T : Top p loose mean mg mb h₀) (hk : cs.kind = .function)
    (hd : dp + 2 < recursionLimit) (hu : un + 16 < cLine) (hT : ∀ q ∈ parts, q.obj ∈ news) (hg : AllBare s.gens) (ht : TabOk strPos tb) (hn : parts.length ≤ 500) (hq : ∀ q ∈ parts, q.fws.length ≤ 1000 ∧ q.txt.length ≤ 1000) (h1 : ac ≠ 147) (h2 : da ≠ 147) (h3 : ∀ p ∈ news, p.1 ≠ 147)
    (hret : ∀ (tb' : Array Value) (t : Tok) h' tk' gs', AllBare gs' → Fr h₀ L h' m → TabOk strPos tb' → News h₀ L h' ((ac, accObj 178 da (refs parts) n) :: (da, initDict w i ti tk) :: (147, tabObj tb') :: news) → Q (.str (Txt.join "" (parts.map fun q => Txt.join "" [q.fws, q.txt])) t) { s with heap := h', toks := tk', gens := gs' }),
    wpAny (model PySem.Challenge.rw_pm0058_01.row.prog w) (ktrTop dp un gd cn cs L a ccd cl outer) (call (.ref 152) [.ref ac]) Q E s := by
  k_fill
  intro w p loose mean mg mb dp un gd cn cs a ccd cl outer A₀ base h₀ L m news s Q E ac da i ti tk n parts tb B F X N T hk hd hu hT hg ht hn hq h1 h2 h3 hret
  refine wpAny_call ?_
  k_dflt ktr_enter
  k_steps
  k_here
  refine' Mine.genexp_pairs (val := fun q u => .str (Txt.join "" [q.fws, q.txt]) u) ?k1 ?k2 ?k3 ?k4 ?k5 ?k6 ?k7 ?k8 ?k9 ?k10 ?k11 ?k12 ?k13 ?k14 ?k15 ?k16 ?k17 ?k18 ?k19 ?k20 ?k21 ?k22 ?k23 ?k24 ?k25 ?k26 ?_
  (case k1 => k_asm)
  (case k2 => k_asm)
  (case k3 => k_asm)
  (case k4 => k_asm)
  (case k5 => assumption)
  (case k6 => exact codeFor_of (by k_asm) (code151 _))
  (case k7 => assumption)
  (case k8 => refine .tail (by assumption) (.tail (by assumption) (.head (by assumption))))
  (case k9 => k_mem)
  (case k10 => k_mem)
  (case k11 => intro q hq; exact List.mem_cons_of_mem _ (List.mem_cons_of_mem _ (List.mem_cons_of_mem _ (hT q hq))))
  (case k12 => rfl)
  (case k13 => rfl)
  (case k14 => with_unfolding_all rfl)
  (case k15 => rfl)
  (case k16 => rfl)
  (case k17 => decide)
  (case k18 => rfl)
  (case k19 => rfl)
  (case k20 => rfl)
  (case k21 => decide)
  (case k22 => rfl)
  (case k23 => ktr_room)
  (case k24 => (intro Q' z; k_steps; exact z))
  (case k25 => (intro c' C A' E' q t m₂ g1 g2 g3 hq' F9 hma hmb; ((have N9 := newsNil F9); (have hb := hq q hq'); k_steps; exact ⟨_, _, rfl, by assumption⟩)))
  (case k26 => intro _; with_unfolding_all rfl)
  intro a' h'9 tk9 gs9 tb9 K9 ht9 F9 N9 hg9 hK9 hLK9 hKa9 X9
  dsimp only at F9 N9 hK9
  k_steps
  k_here
  refine' Mine.join_pairs (parts := parts) ?k1 ?k2 ?k3 ?k4 ?k5 ?k6 ?kj ?_ ?k7
  (case k1 => k_asm)
  (case k2 => k_asm)
  (case k3 => assumption)
  (case k4 => exact X9)
  (case k5 => assumption)
  (case k6 => assumption)
  (case kj => exact joinOk_parts hn hq)
  (case k7 => rw [sizeLine_eq]; omega)
  intro h' tk' gs' t' F' N' G'
  k_steps
  exact hret _ _ _ _ _ (by assumption) (by k_asm) (by assumption) (by k_asm)
end
section
theorem lines3 : True := by
  k_with "L30" => (k_here; (with_reducible show wpAny _ _ (call (Value.ref _) []) _ _ _); k_dflt (refine' Mine.acc_init ?k1q30 ?k2q30 ?k3q30 ?k4q30 ?_ ?k5q30; (case k1q30 => k_asm); (case k2q30 => k_asm); (case k3q30 => k_mem); (case k4q30 => k_upd); (case k5q30 => size_fits); k_whole); intro h'q9 F'q9 N'q9)
  trivial
local macro_rules | `(tactic| walk_at "call ref") => `(tactic| k_extra "L30")

theorem acc_new_told : ∀ {w : World} {p : Program} {loose : List Str} {mean : ExcName → Option Value} {mg mb : Str → Option Value}
    (dp un : Nat) (gd : Option (List Code)) (cn : Str) (cs : Scope) (a : Addr) (ccd : Value) (cl : List (Str × Addr)) (outer : List Env) (A₀ : Around) (base h₀ : Heap) (L : Addr) (m : Str → Option Value) (news : List (Addr × Obj)) (s : Shared) (Q E : Value → Shared → Prop)
    (i : Int) (ti : Tok)
    (B : Below A₀ base outer h₀) (F : Fr h₀ L s.heap m) (X : (Mine.hd.heap_39 w.params).In h₀) (N : News h₀ L s.heap (news)) (T : Top p loose mean mg mb h₀) (hk : cs.kind = .function)
    (hd : dp + 2 < recursionLimit) (hu : un + 16 < cLine) 
    (hret : ∀ (ac da : Addr) (n : Nat) (tk : Tok) h' tk', (∀ p ∈ news, p.1 < da) → @LT.lt Nat instLTNat da ac → Fr h₀ L h' m → News h₀ L h' ((ac, accObj 178 da [] n) :: (da, initDict w i ti tk) :: news) → Q (.ref ac) { s with heap := h', toks := tk' }),
    wpAny (model PySem.Challenge.rw_pm0058_01.row.prog w) (ktrTop dp un gd cn cs L a ccd cl outer) (call (.ref 178) [.int i ti]) Q E s := by
  k_fill
  intro w p loose mean mg mb dp un gd cn cs a ccd cl outer A₀ base h₀ L m news s Q E i ti B F X N T hk hd hu hret
  refine' Mine.call_lcls (fI := 115) F X N (makes178 _) ?ki ?kf ?_
  (case ki => k_is)
  (case kf => k_is)
  intro ac da h' F' N' l1 l2
  k_lt l1
  have l3 : @LT.lt Nat instLTNat da ac := l2
  have l4 : ∀ p ∈ news, p.1 ≠ ac := fun p hp => Nat.ne_of_lt (Nat.lt_trans (l1 p hp) l3)
  have l5 : ∀ p ∈ news, p.1 ≠ da := ne_of_all_lt l1
  ktr_enter
  k_steps
  all_goals exact hret ac da _ _ _ _ l1 l3 (by k_asm) (by ktr_rel)
end
section
inductive Take (x : Addr × Obj) : List (Addr × Obj) → List (Addr × Obj) → Prop
  | head {r} : Take x (x :: r) r
  | tail {q r r'} : Take x r r' → Take x (q :: r) (q :: r')
theorem Take.sub {x : Addr × Obj} : ∀ {l r}, Take x l r → ∀ p, p ∈ x :: r ↔ p ∈ l
  | _, _, .head => fun _ => Iff.rfl
  | _, _, .tail t => fun p => by
    have := t.sub p
    simp only [List.mem_cons] at this ⊢
    rw [← this]
    constructor
    · rintro (h | h | h)
      · exact .inr (.inl h)
      · exact .inl h
      · exact .inr (.inr h)
    · rintro (h | h | h)
      · exact .inr (.inl h)
      · exact .inl h
      · exact .inr (.inr h)
theorem news_take {h₀ h : Heap} {L : Addr} {x : Addr × Obj} {l r : List (Addr × Obj)} (N : News h₀ L h l) (t : Take x l r) : News h₀ L h (x :: r) := fun p hp => N p ((t.sub p).mp hp)
theorem news_take2 {h₀ h : Heap} {L : Addr} {x y : Addr × Obj} {l r r' : List (Addr × Obj)} (N : News h₀ L h l) (t : Take x l r) (t2 : Take y r r') : News h₀ L h (x :: y :: r') := fun p hp => by
  rcases List.mem_cons.mp hp with rfl | hp
  · exact N _ ((t.sub _).mp List.mem_cons_self)
  · exact N _ ((t.sub _).mp (List.mem_cons_of_mem _ ((t2.sub _).mp hp)))
theorem news_take3 {h₀ h : Heap} {L : Addr} {x y z : Addr × Obj} {l r r' r'' : List (Addr × Obj)} (N : News h₀ L h l) (t : Take x l r) (t2 : Take y r r') (t3 : Take z r' r'') : News h₀ L h (x :: y :: z :: r'') := fun p hp => by
  rcases List.mem_cons.mp hp with rfl | hp
  · exact N _ ((t.sub _).mp List.mem_cons_self)
  · exact N _ ((t.sub _).mp (List.mem_cons_of_mem _ (news_take2 (fun q hq => ⟨(news_take N t q hq).1, (news_take N t q hq).2⟩) (.tail t2) (.tail t3) |> fun _ => by
      rcases List.mem_cons.mp hp with rfl | hp
      · exact (t2.sub _).mp List.mem_cons_self
      · exact (t2.sub _).mp (List.mem_cons_of_mem _ ((t3.sub _).mp hp)))))
theorem lt_take {x y : Addr × Obj} {l r r' : List (Addr × Obj)} (t : Take x l r) (t2 : Take y r r') {q : Addr} (h1 : @LT.lt Nat instLTNat x.1 q) (h2 : @LT.lt Nat instLTNat y.1 q) (h3 : ∀ p ∈ r', p.1 < q) : ∀ p ∈ l, p.1 < q := fun p hp => by
  rcases List.mem_cons.mp ((t.sub p).mpr hp) with rfl | hp
  · exact h1
  · rcases List.mem_cons.mp ((t2.sub p).mpr hp) with rfl | hp
    · exact h2
    · exact h3 p hp
theorem refs_snoc (ps : List Part) (q : Part) : refs (ps ++ [q]) = refs ps ++ [.ref q.at_] := by simp [refs]
theorem refs_length (ps : List Part) : (refs ps).length = ps.length := by simp [refs]
theorem hp_snoc {ps : List Part} {q : Part} {r : List (Addr × Obj)} (h : ∀ z ∈ ps, z.obj ∈ r) (hq : (q.at_, tupObj q.fws q.txt q.t1 q.t2) ∈ r) : ∀ z ∈ ps ++ [q], z.obj ∈ r := fun z hz => by
  rcases List.mem_append.mp hz with hz | hz
  · exact h z hz
  · rw [List.mem_singleton.mp hz]
    exact hq
theorem hp_nil {r : List (Addr × Obj)} : ∀ z ∈ ([] : List Part), z.obj ∈ r := fun _ h => nomatch h
theorem short_nil : ∀ q ∈ ([] : List Part), q.fws.length ≤ 1000 ∧ q.txt.length ≤ 1000 := fun _ h => nomatch h
theorem short_snoc {ps : List Part} {q : Part} (h : ∀ q ∈ ps, q.fws.length ≤ 1000 ∧ q.txt.length ≤ 1000) (h1 : q.fws.length ≤ 1000) (h2 : q.txt.length ≤ 1000) : ∀ z ∈ ps ++ [q], z.fws.length ≤ 1000 ∧ z.txt.length ≤ 1000 := fun z hz => by
  rcases List.mem_append.mp hz with hz | hz
  · exact h z hz
  · rw [List.mem_singleton.mp hz]
    exact ⟨h1, h2⟩
theorem hp_cons {ps : List Part} {x : Addr × Obj} {r : List (Addr × Obj)} (h : ∀ z ∈ ps, z.obj ∈ r) : ∀ z ∈ ps, z.obj ∈ x :: r := fun z hz => List.mem_cons_of_mem _ (h z hz)

theorem part_count_use {w : World} {p : Program} {loose : List Str} {mean : ExcName → Option Value} {mg mb : Str → Option Value}
    {dp un : Nat} {gd : Option (List Code)} {cn : Str} {cs : Scope} {a : Addr} {ccd : Value} {cl : List (Str × Addr)} {outer : List Env} {A₀ : Around} {base h₀ : Heap} {L : Addr} {m : Str → Option Value} {led : List (Addr × Obj)} {s : Shared} {Q E : Value → Shared → Prop}
    {ac da : Addr} {i : Int} {ti tk : Tok} {n : Nat} {parts : List Part} {r1 r : List (Addr × Obj)}
    (B : Below A₀ base outer h₀) (F : Fr h₀ L s.heap m) (X : (Mine.hd.heap_39 w.params).In h₀) (N : News h₀ L s.heap led) (T : Top p loose mean mg mb h₀) (hk : cs.kind = .function)
    (t1 : Take (ac, accObj 178 da (refs parts) n) led r1)
    (t2 : Take (da, initDict w i ti tk) r1 r)
    (hd : dp + 1 < recursionLimit) (hu : un + 8 < cLine) 
    (hret : ∀ (t : Tok) h' tk', Fr h₀ L h' m → News h₀ L h' led → Q (.int parts.length t) { s with heap := h', toks := tk' }) :
    wpAny (model PySem.Challenge.rw_pm0058_01.row.prog w) (ktrTop dp un gd cn cs L a ccd cl outer) (call (.ref 175) [.ref ac]) Q E s := by
  refine part_count_told dp un gd cn cs a ccd cl outer A₀ base h₀ L m r s Q E ac da i ti tk n (refs parts) B F X (news_take2 N t1 t2) T hk hd hu fun t h' tk' F' N' => ?_
  rw [refs_length]
  exact hret t h' tk' F' fun p hp => N' p (by
    rcases List.mem_cons.mp ((t1.sub p).mpr hp) with rfl | hp
    · exact List.mem_cons_self
    · exact List.mem_cons_of_mem _ ((t2.sub p).mpr hp))

theorem push_use {w : World} {p : Program} {loose : List Str} {mean : ExcName → Option Value} {mg mb : Str → Option Value}
    {dp un : Nat} {gd : Option (List Code)} {cn : Str} {cs : Scope} {a : Addr} {ccd : Value} {cl : List (Str × Addr)} {outer : List Env} {A₀ : Around} {base h₀ : Heap} {L : Addr} {m : Str → Option Value} {led : List (Addr × Obj)} {s : Shared} {Q E : Value → Shared → Prop}
    {ac da : Addr} {i : Int} {ti tk : Tok} {n : Nat} {parts : List Part} {x y : Str} {tx ty : Tok} {r1 r : List (Addr × Obj)}
    (B : Below A₀ base outer h₀) (F : Fr h₀ L s.heap m) (X : (Mine.hd.heap_39 w.params).In h₀) (N : News h₀ L s.heap led) (T : Top p loose mean mg mb h₀) (hk : cs.kind = .function)
    (t1 : Take (ac, accObj 178 da (refs parts) n) led r1)
    (t2 : Take (da, initDict w i ti tk) r1 r)
    (hd : dp + 1 < recursionLimit) (hu : un + 8 < cLine) (hsz : parts.length ≤ 900) (h1 : da ≠ ac) (h2 : ∀ p ∈ r, p.1 ≠ ac) (h3 : ∀ p ∈ r, p.1 ≠ da)
    (hret : ∀ (tp : Addr) h' tk', (∀ p ∈ led, p.1 < tp) → Fr h₀ L h' m → News h₀ L h' ((tp, tupObj x y tx ty) :: (ac, accObj 178 da (refs (parts ++ [⟨tp, x, y, tx, ty⟩])) (n + 1)) :: (da, initDict w i ti tk) :: r) → Q .none { s with heap := h', toks := tk' }) :
    wpAny (model PySem.Challenge.rw_pm0058_01.row.prog w) (ktrTop dp un gd cn cs L a ccd cl outer) (call (.ref 122) [.ref ac, .str x tx, .str y ty]) Q E s := by
  refine push_told dp un gd cn cs a ccd cl outer A₀ base h₀ L m r s Q E ac da i ti tk n (refs parts) x y tx ty B F X (news_take2 N t1 t2) T hk hd hu (by rw [refs_length, sizeLine_eq]; omega) h1 h2 h3 fun tp h' tk' l1 l2 l3 F' N' => ?_
  exact hret tp h' tk' (lt_take t1 t2 l1 l2 l3) F' (by rw [refs_snoc]; exact N')

theorem push_meth_use {w : World} {p : Program} {loose : List Str} {mean : ExcName → Option Value} {mg mb : Str → Option Value}
    {dp un : Nat} {gd : Option (List Code)} {cn : Str} {cs : Scope} {a : Addr} {ccd : Value} {cl : List (Str × Addr)} {outer : List Env} {A₀ : Around} {base h₀ : Heap} {L : Addr} {m : Str → Option Value} {led : List (Addr × Obj)} {s : Shared} {Q E : Value → Shared → Prop}
    {ac da : Addr} {i : Int} {ti tk : Tok} {n : Nat} {parts : List Part} {x y : Str} {tx ty : Tok} {qm : Addr} {r1 r : List (Addr × Obj)}
    (B : Below A₀ base outer h₀) (F : Fr h₀ L s.heap m) (X : (Mine.hd.heap_39 w.params).In h₀) (N : News h₀ L s.heap led) (T : Top p loose mean mg mb h₀) (hk : cs.kind = .function)
    (t1 : Take (ac, accObj 178 da (refs parts) n) led r1)
    (t2 : Take (da, initDict w i ti tk) r1 r)
    (hd : dp + 1 < recursionLimit) (hu : un + 8 < cLine) (hm : (qm, methodObj (.ref 122) (.ref ac)) ∈ led) (hsz : parts.length ≤ 900) (h1 : da ≠ ac) (h2 : ∀ p ∈ r, p.1 ≠ ac) (h3 : ∀ p ∈ r, p.1 ≠ da)
    (hret : ∀ (tp : Addr) h' tk', (∀ p ∈ led, p.1 < tp) → Fr h₀ L h' m → News h₀ L h' ((tp, tupObj x y tx ty) :: (ac, accObj 178 da (refs (parts ++ [⟨tp, x, y, tx, ty⟩])) (n + 1)) :: (da, initDict w i ti tk) :: r) → Q .none { s with heap := h', toks := tk' }) :
    wpAny (model PySem.Challenge.rw_pm0058_01.row.prog w) (ktrTop dp un gd cn cs L a ccd cl outer) (call (.ref qm) [.str x tx, .str y ty]) Q E s := by
  refine call_meth N hm ?_
  refine push_code_told dp un gd cn cs a ccd cl outer A₀ base h₀ L m r s Q E ac da i ti tk n (refs parts) x y tx ty B F X (news_take2 N t1 t2) T hk hd hu (by rw [refs_length, sizeLine_eq]; omega) h1 h2 h3 fun tp h' tk' l1 l2 l3 F' N' => ?_
  exact hret tp h' tk' (lt_take t1 t2 l1 l2 l3) F' (by rw [refs_snoc]; exact N')

theorem pop_use {w : World} {p : Program} {loose : List Str} {mean : ExcName → Option Value} {mg mb : Str → Option Value}
    {dp un : Nat} {gd : Option (List Code)} {cn : Str} {cs : Scope} {a : Addr} {ccd : Value} {cl : List (Str × Addr)} {outer : List Env} {A₀ : Around} {base h₀ : Heap} {L : Addr} {m : Str → Option Value} {led : List (Addr × Obj)} {s : Shared} {Q E : Value → Shared → Prop}
    {ac da : Addr} {i : Int} {ti tk : Tok} {n : Nat} {parts : List Part} {q : Part} {r1 r : List (Addr × Obj)}
    (B : Below A₀ base outer h₀) (F : Fr h₀ L s.heap m) (X : (Mine.hd.heap_39 w.params).In h₀) (N : News h₀ L s.heap led) (T : Top p loose mean mg mb h₀) (hk : cs.kind = .function)
    (t1 : Take (ac, accObj 178 da (refs (parts ++ [q])) n) led r1)
    (t2 : Take (da, initDict w i ti tk) r1 r)
    (hd : dp + 2 < recursionLimit) (hu : un + 20 < cLine) (hsz : parts.length ≤ 900) (h1 : da ≠ ac) (h2 : ∀ p ∈ r, p.1 ≠ ac) (h3 : ∀ p ∈ r, p.1 ≠ da)
    (hret : ∀ h' tk', Fr h₀ L h' m → News h₀ L h' ((ac, accObj 178 da (refs parts) (n + 1)) :: (da, initDict w i ti tk) :: r) → Q (.ref q.at_) { s with heap := h', toks := tk' }) :
    wpAny (model PySem.Challenge.rw_pm0058_01.row.prog w) (ktrTop dp un gd cn cs L a ccd cl outer) (call (.ref 138) [.ref ac]) Q E s := by
  have e := refs_snoc parts q
  refine pop_told dp un gd cn cs a ccd cl outer A₀ base h₀ L m r s Q E ac da i ti tk n (refs parts) (.ref q.at_) B F X (e ▸ news_take2 N t1 t2) T hk hd hu (by rw [refs_length, sizeLine_eq]; omega) h1 h2 h3 fun h' tk' F' N' => hret h' tk' F' N'

theorem pop_nil_use {w : World} {p : Program} {loose : List Str} {mean : ExcName → Option Value} {mg mb : Str → Option Value}
    {dp un : Nat} {gd : Option (List Code)} {cn : Str} {cs : Scope} {a : Addr} {ccd : Value} {cl : List (Str × Addr)} {outer : List Env} {A₀ : Around} {base h₀ : Heap} {L : Addr} {m : Str → Option Value} {led : List (Addr × Obj)} {s : Shared} {Q E : Value → Shared → Prop}
    {ac da : Addr} {i : Int} {ti tk : Tok} {n : Nat} {r1 r : List (Addr × Obj)}
    (B : Below A₀ base outer h₀) (F : Fr h₀ L s.heap m) (X : (Mine.hd.heap_39 w.params).In h₀) (N : News h₀ L s.heap led) (T : Top p loose mean mg mb h₀) (hk : cs.kind = .function)
    (t1 : Take (ac, accObj 178 da (refs []) n) led r1)
    (t2 : Take (da, initDict w i ti tk) r1 r)
    (hd : dp + 2 < recursionLimit) (hu : un + 20 < cLine) (h1 : da ≠ ac) (h2 : ∀ p ∈ r, p.1 ≠ ac) (h3 : ∀ p ∈ r, p.1 ≠ da)
    (hret : ∀ (tp : Addr) (u1 u2 : Tok) h' tk', (∀ p ∈ led, p.1 < tp) → Fr h₀ L h' m → News h₀ L h' ((tp, tupObj "" "" u1 u2) :: (ac, accObj 178 da (refs []) n) :: (da, initDict w i ti tk) :: r) → Q (.ref tp) { s with heap := h', toks := tk' }) :
    wpAny (model PySem.Challenge.rw_pm0058_01.row.prog w) (ktrTop dp un gd cn cs L a ccd cl outer) (call (.ref 138) [.ref ac]) Q E s := by
  refine pop_nil_told dp un gd cn cs a ccd cl outer A₀ base h₀ L m r s Q E ac da i ti tk n B F X (news_take2 N t1 t2) T hk hd hu h1 h2 h3 fun tp u1 u2 h' tk' l1 l2 l3 F' N' => hret tp u1 u2 h' tk' (lt_take t1 t2 l1 l2 l3) F' N'

theorem pop_from_use {w : World} {p : Program} {loose : List Str} {mean : ExcName → Option Value} {mg mb : Str → Option Value}
    {dp un : Nat} {gd : Option (List Code)} {cn : Str} {cs : Scope} {a : Addr} {ccd : Value} {cl : List (Str × Addr)} {outer : List Env} {A₀ : Around} {base h₀ : Heap} {L : Addr} {m : Str → Option Value} {led : List (Addr × Obj)} {s : Shared} {Q E : Value → Shared → Prop}
    {ac da : Addr} {i : Int} {ti tk : Tok} {n : Nat} {parts : List Part} {q : Part} {k : Int} {t : Tok} {r1 r : List (Addr × Obj)}
    (B : Below A₀ base outer h₀) (F : Fr h₀ L s.heap m) (X : (Mine.hd.heap_39 w.params).In h₀) (N : News h₀ L s.heap led) (T : Top p loose mean mg mb h₀) (hk : cs.kind = .function)
    (t1 : Take (ac, accObj 178 da (refs (parts ++ [q])) n) led r1)
    (t2 : Take (da, initDict w i ti tk) r1 r)
    (hd : dp + 1 < recursionLimit) (hu : un + 8 < cLine) (hkk : k = parts.length) (hsz : parts.length ≤ 900) (h1 : da ≠ ac) (h2 : ∀ p ∈ r, p.1 ≠ ac) (h3 : ∀ p ∈ r, p.1 ≠ da)
    (hret : ∀ (rr n' : Nat) h' tk', (∀ p ∈ led, p.1 < rr) → Fr h₀ L h' m → News h₀ L h' ((rr, listOf (refs [q]).toArray 0) :: (ac, accObj 178 da (refs parts) n') :: (da, initDict w i ti tk) :: r) → Q (.ref rr) { s with heap := h', toks := tk' }) :
    wpAny (model PySem.Challenge.rw_pm0058_01.row.prog w) (ktrTop dp un gd cn cs L a ccd cl outer) (call (.ref 130) [.ref ac, .int k t]) Q E s := by
  have e := refs_snoc parts q
  have e2 : k = (refs parts).length := by rw [refs_length]; exact hkk
  subst e2
  refine pop_from_told dp un gd cn cs a ccd cl outer A₀ base h₀ L m r s Q E ac da i ti tk n (refs parts) (.ref q.at_) t B F X (e ▸ news_take2 N t1 t2) T hk hd hu (by rw [refs_length]; omega) h1 h2 h3 fun rr n' h' tk' l1 l2 l3 F' N' => hret rr n' h' tk' (lt_take t1 t2 l1 l2 l3) F' N'

theorem reset_use {w : World} {p : Program} {loose : List Str} {mean : ExcName → Option Value} {mg mb : Str → Option Value}
    {dp un : Nat} {gd : Option (List Code)} {cn : Str} {cs : Scope} {a : Addr} {ccd : Value} {cl : List (Str × Addr)} {outer : List Env} {A₀ : Around} {base h₀ : Heap} {L : Addr} {m : Str → Option Value} {led : List (Addr × Obj)} {s : Shared} {Q E : Value → Shared → Prop}
    {ac da : Addr} {i : Int} {ti tk : Tok} {n : Nat} {parts : List Part} {r1 r : List (Addr × Obj)}
    (B : Below A₀ base outer h₀) (F : Fr h₀ L s.heap m) (X : (Mine.hd.heap_39 w.params).In h₀) (N : News h₀ L s.heap led) (T : Top p loose mean mg mb h₀) (hk : cs.kind = .function)
    (t1 : Take (ac, accObj 178 da (refs parts) n) led r1)
    (t2 : Take (da, initDict w i ti tk) r1 r)
    (hd : dp + 1 < recursionLimit) (hu : un + 8 < cLine) (hsz : parts.length ≤ 900) (h1 : da ≠ ac) (h2 : ∀ p ∈ r, p.1 ≠ ac) (h3 : ∀ p ∈ r, p.1 ≠ da)
    (hret : ∀ (n' : Nat) (u : Tok) h' tk', Fr h₀ L h' m → News h₀ L h' ((ac, accObj 178 da (refs []) n') :: (da, initDict w 0 u tk) :: r) → Q .none { s with heap := h', toks := tk' }) :
    wpAny (model PySem.Challenge.rw_pm0058_01.row.prog w) (ktrTop dp un gd cn cs L a ccd cl outer) (call (.ref 160) [.ref ac]) Q E s := by
  refine reset_told dp un gd cn cs a ccd cl outer A₀ base h₀ L m r s Q E ac da i ti tk n (refs parts) B F X (news_take2 N t1 t2) T hk hd hu (by rw [refs_length]; omega) h1 h2 h3 fun n' u h' tk' F' N' => hret n' u h' tk' F' N'

theorem reset_one_use {w : World} {p : Program} {loose : List Str} {mean : ExcName → Option Value} {mg mb : Str → Option Value}
    {dp un : Nat} {gd : Option (List Code)} {cn : Str} {cs : Scope} {a : Addr} {ccd : Value} {cl : List (Str × Addr)} {outer : List Env} {A₀ : Around} {base h₀ : Heap} {L : Addr} {m : Str → Option Value} {led : List (Addr × Obj)} {s : Shared} {Q E : Value → Shared → Prop}
    {ac da : Addr} {i : Int} {ti tk : Tok} {n : Nat} {parts : List Part} {q : Part} {rr : Addr} {nr : Nat} {r0 r1 r : List (Addr × Obj)}
    (B : Below A₀ base outer h₀) (F : Fr h₀ L s.heap m) (X : (Mine.hd.heap_39 w.params).In h₀) (N : News h₀ L s.heap led) (T : Top p loose mean mg mb h₀) (hk : cs.kind = .function)
    (t1 : Take (rr, listOf (refs [q]).toArray nr) led r0)
    (t2 : Take (ac, accObj 178 da (refs parts) n) r0 r1)
    (t3 : Take (da, initDict w i ti tk) r1 r)
    (hd : dp + 1 < recursionLimit) (hu : un + 8 < cLine) (hsz : parts.length ≤ 900) (h0 : ac ≠ rr) (h4 : da ≠ rr) (h1 : da ≠ ac) (h2 : ∀ p ∈ r, p.1 ≠ ac) (h3 : ∀ p ∈ r, p.1 ≠ da)
    (hret : ∀ (n' : Nat) (u : Tok) h' tk', Fr h₀ L h' m → News h₀ L h' ((rr, listOf (refs [q]).toArray nr) :: (ac, accObj 178 da (refs [q]) n') :: (da, initDict w 0 u tk) :: r) → Q .none { s with heap := h', toks := tk' }) :
    wpAny (model PySem.Challenge.rw_pm0058_01.row.prog w) (ktrTop dp un gd cn cs L a ccd cl outer) (call (.ref 160) [.ref ac, .ref rr]) Q E s := by
  refine reset_one_told dp un gd cn cs a ccd cl outer A₀ base h₀ L m r s Q E ac da i ti tk n (refs parts) rr (.ref q.at_) nr B F X (news_take3 N t1 t2 t3) T hk hd hu (by rw [refs_length]; omega) h0 h4 h1 h2 h3 fun n' u h' tk' F' N' => hret n' u h' tk' F' N'

theorem len_use {w : World} {p : Program} {loose : List Str} {mean : ExcName → Option Value} {mg mb : Str → Option Value}
    {dp un : Nat} {gd : Option (List Code)} {cn : Str} {cs : Scope} {a : Addr} {ccd : Value} {cl : List (Str × Addr)} {outer : List Env} {A₀ : Around} {base h₀ : Heap} {L : Addr} {m : Str → Option Value} {led : List (Addr × Obj)} {s : Shared} {Q E : Value → Shared → Prop}
    {ac da : Addr} {i : Int} {ti tk : Tok} {n : Nat} {parts : List Part} {tb : Array Value} {r1 r2 r : List (Addr × Obj)}
    (B : Below A₀ base outer h₀) (F : Fr h₀ L s.heap m) (X : (Mine.hd.heap_39 w.params).In h₀) (N : News h₀ L s.heap led) (T : Top p loose mean mg mb h₀) (hk : cs.kind = .function)
    (t1 : Take (ac, accObj 178 da (refs parts) n) led r1)
    (t2 : Take (da, initDict w i ti tk) r1 r2)
    (t3 : Take (140, tabObj tb) r2 r)
    (hd : dp + 2 < recursionLimit) (hu : un + 16 < cLine) (hg : AllBare s.gens) (ht : TabOk lenPos tb) (hfit : -(2 ^ 63) ≤ i ∧ i < 2 ^ 63) (hq : ∀ q ∈ parts, q.fws.length ≤ 1000 ∧ q.txt.length ≤ 1000) (h1 : ac ≠ 140) (h2 : da ≠ 140) (h3 : ∀ p ∈ r, p.1 ≠ 140) (hT : ∀ q ∈ parts, q.obj ∈ r)
    (hret : ∀ (tb' : Array Value) (t : Tok) h' tk' gs', AllBare gs' → TabOk lenPos tb' → Fr h₀ L h' m → News h₀ L h' ((ac, accObj 178 da (refs parts) n) :: (da, initDict w i ti tk) :: (140, tabObj tb') :: r) → Q (.int (i + psum parts) t) { s with heap := h', gens := gs', toks := tk' }) :
    wpAny (model PySem.Challenge.rw_pm0058_01.row.prog w) (ktrTop dp un gd cn cs L a ccd cl outer) (call (.ref 145) [.ref ac]) Q E s := by
  exact len_told dp un gd cn cs a ccd cl outer A₀ base h₀ L m r s Q E ac da i ti tk n parts tb B F X (news_take3 N t1 t2 t3) T hk hd hu hT hg ht hfit hq h1 h2 h3 fun tb' t h' tk' gs' g' F' u' N' => hret tb' t h' tk' gs' g' u' F' N'

theorem str_use {w : World} {p : Program} {loose : List Str} {mean : ExcName → Option Value} {mg mb : Str → Option Value}
    {dp un : Nat} {gd : Option (List Code)} {cn : Str} {cs : Scope} {a : Addr} {ccd : Value} {cl : List (Str × Addr)} {outer : List Env} {A₀ : Around} {base h₀ : Heap} {L : Addr} {m : Str → Option Value} {led : List (Addr × Obj)} {s : Shared} {Q E : Value → Shared → Prop}
    {ac da : Addr} {i : Int} {ti tk : Tok} {n : Nat} {parts : List Part} {tb : Array Value} {r1 r2 r : List (Addr × Obj)}
    (B : Below A₀ base outer h₀) (F : Fr h₀ L s.heap m) (X : (Mine.hd.heap_39 w.params).In h₀) (N : News h₀ L s.heap led) (T : Top p loose mean mg mb h₀) (hk : cs.kind = .function)
    (t1 : Take (ac, accObj 178 da (refs parts) n) led r1)
    (t2 : Take (da, initDict w i ti tk) r1 r2)
    (t3 : Take (147, tabObj tb) r2 r)
    (hd : dp + 2 < recursionLimit) (hu : un + 16 < cLine) (hg : AllBare s.gens) (ht : TabOk strPos tb) (hn : parts.length ≤ 500) (hq : ∀ q ∈ parts, q.fws.length ≤ 1000 ∧ q.txt.length ≤ 1000) (h1 : ac ≠ 147) (h2 : da ≠ 147) (h3 : ∀ p ∈ r, p.1 ≠ 147) (hT : ∀ q ∈ parts, q.obj ∈ r)
    (hret : ∀ (tb' : Array Value) (t : Tok) h' tk' gs', AllBare gs' → TabOk strPos tb' → Fr h₀ L h' m → News h₀ L h' ((ac, accObj 178 da (refs parts) n) :: (da, initDict w i ti tk) :: (147, tabObj tb') :: r) → Q (.str (Txt.join "" (parts.map fun q => Txt.join "" [q.fws, q.txt])) t) { s with heap := h', gens := gs', toks := tk' }) :
    wpAny (model PySem.Challenge.rw_pm0058_01.row.prog w) (ktrTop dp un gd cn cs L a ccd cl outer) (call (.ref 152) [.ref ac]) Q E s := by
  exact str_told dp un gd cn cs a ccd cl outer A₀ base h₀ L m r s Q E ac da i ti tk n parts tb B F X (news_take3 N t1 t2 t3) T hk hd hu hT hg ht hn hq h1 h2 h3 fun tb' t h' tk' gs' g' F' u' N' => hret tb' t h' tk' gs' g' u' F' N'
end
section
noncomputable def LenTrue (Q : Bool → Shared → Prop) (v : Value) (s' : Shared) : Prop := match v with
  | .int n _ => (0 ≤ n ∧ n < 2 ^ 63) ∧ Q (n != 0) { s' with toks := s'.toks + 1 }
  | _ => False
theorem strBack_of {Q : Value → Shared → Prop} {a : Str} {t : Tok} {s : Shared} (h : Q (.str a t) s) : W.StrBack Q (.str a t) s := h
theorem psum_nil : psum [] = 0 := rfl
theorem psum_snoc (ps : List Part) (q : Part) : psum (ps ++ [q]) = psum ps + ((q.fws.length : Int) + q.txt.length) := by simp [psum, plen]
theorem psum_nil_snoc (q : Part) : psum ([] ++ [q]) = (q.fws.length : Int) + q.txt.length := by rw [psum_snoc, psum_nil, Int.zero_add]
theorem len_empty : Str.length (Str.ofString "") = 0 := by decide +kernel
theorem len_space : Str.length (Str.ofString " ") = 1 := by decide +kernel
theorem len178 (P : Params) : findIn (Mine.hd.heap_39 P) (.ref 178) "__len__" = some (some (.ref 145)) := by kernel_rfl
theorem bool178 (P : Params) : findIn (Mine.hd.heap_39 P) (.ref 178) "__bool__" = some none := by kernel_rfl
theorem isfn145 (P : Params) : isFn (Mine.hd.heap_39 P) (.ref 145) = true := by kernel_rfl
section
variable {prog : Program} {w : World} {A : Around} {E : Value → Shared → Prop} {s : Shared} {ac da L : Addr} {h₀ : Heap} {m : Str → Option Value} {ox : Obj} {od : Option Obj}
theorem truthy_len178 {Q : Bool → Shared → Prop} (F : Fr h₀ L s.heap m) (X₀ : (Mine.hd.heap_39 w.params).In h₀) (I : InstAt s.heap ac ox 178 od)
    (h : wpAny (model prog w) A.in1 (call (.ref 145) [.ref ac]) (LenTrue Q) E s) : wpAny (model prog w) A (truthy (.ref ac)) Q E s := by
  have X := X₀.keeps F.keep
  have key : wpAny (model prog w) A (runValue (.builtin "len" ⟨[.ref ac], []⟩)) (fun r s' => ∃ n t, r = .int n t ∧ Q (n != 0) s') E s := by
    refine wpAny_runValue (codeAny_builtin PySem.entry_len ?_)
    rw [Around.under_plainId PySem.plain_len _]
    unfold Builtin.«len»
    refine wpAny_bind (m := oneArg "len" _) (wpAny_pure ?_)
    refine wpAny_bind (m := callSpecial? (.ref ac) (Str.ofString "__len__")) (special_fn X I (len178 _) (beq_iff_eq.mp (isfn145 _)) (wpAny_mono h (fun r s' hr => ?_) fun _ _ y => y))
    cases r <;> first | exact hr.elim | skip
    rename_i n u
    obtain ⟨⟨h0, h1⟩, hq⟩ := hr
    refine wpAny_bind (wpAny_holding (wpAny_pure ?_))
    refine wpAny_bind (wpAny_letGo ?_)
    show wpAny _ _ (if n < 0 then _ else _) _ _ _
    rw [if_neg (by omega)]
    show wpAny _ _ (if n ≥ 2 ^ 63 then _ else _) _ _ _
    rw [if_neg (by omega)]
    exact wpAny_bind (wpAny_mkInt (wpAny_pure ⟨_, _, rfl, hq⟩))
  unfold truthy
  refine wpAny_bind (m := callSpecial? (.ref ac) (Str.ofString "__bool__")) (wpAny_bind (wpAny_bind (I.type.here ((looks_findIn X (bool178 _)).here (wpAny_pure ?_)))))
  refine wpAny_bind (wpAny_bind (I.type.here ((looks_findIn X (len178 _)).here ?_)))
  exact wpAny_bind (wpAny_mono key (fun r s' h' => by obtain ⟨n, t, rfl, hq⟩ := h'; exact wpAny_pure hq) fun _ _ e => e)
theorem len_acc {Q : Value → Shared → Prop} (F : Fr h₀ L s.heap m) (X₀ : (Mine.hd.heap_39 w.params).In h₀) (I : InstAt s.heap ac ox 178 od)
    (h : wpAny (model prog w) A.in1 (call (.ref 145) [.ref ac]) (W.LenBack Q) E s) : wpAny (model prog w) A (call (.builtin "len") [.ref ac]) Q E s := len_K F X₀ I (len178 _) (isfn145 _) h
end
end
theorem lines4 : True := by
  k_with "L31" => (k_here; k_dflt (refine' Mine.lbound ?k1q31 ?k2q31 ?k3q31 ?k4q31 ?k5q31 ?k6q31 ?k7q31 ?k8q31 ?k9q31 ?k10q31 ?k11q31 ?k12q31 ?_; (case k1q31 => k_asm); (case k2q31 => k_asm); (case k3q31 => k_asm); (case k4q31 => k_inst); (case k5q31 => with_reducible exact Mine.look178 _); (case k6q31 => k_is); (case k7q31 => k_is); (case k8q31 => k_is); (case k9q31 => k_is); (case k10q31 => k_is); (case k11q31 => decide +kernel); (case k12q31 => k_get)); intro q'q9 h'q9 F'q9 N'q9 l1q9; k_lt l1q9)
  k_with "L32" => (k_here; (with_reducible show wpAny _ _ (callWith _ (Value.ref _) _ (backTo _ (starEach [Expr.Starred _ _] _)) []) _ _ _); k_dflt (refine' Mine.callWith_SM ?k1q32 ?k2q32 ?k3q32 ?k4q32 ?_; (case k1q32 => k_asm); (case k2q32 => k_asm); (case k3q32 => k_mem); (case k4q32 => k_is)))
  k_with "L33" => (k_here; (with_reducible show wpAny _ _ (eval (Expr.Call (Expr.Attribute _ _ _) [Expr.Starred _ _] [] _) _) _ _ _); k_dflt (refine Mine.MethodCall_star ?_))
  k_with "L34" => (k_here; k_dflt ((show wpAny _ _ (call (Value.ref 175) [Value.ref _]) _ _ _); refine' Mine.part_count_use ?k1q34 ?k2q34 ?k3q34 ?k4q34 ?k5q34 ?kKq34 ?t1q34 ?t2q34 ?kdq34 ?kuq34  ?_; (case k1q34 => k_asm); (case k2q34 => k_asm); (case k3q34 => k_asm); (case k4q34 => k_asm); (case k5q34 => k_asm); (case kKq34 => first | exact rfl | assumption); (case t1q34 => (repeat (first | exact Mine.Take.head | apply Mine.Take.tail))); (case t2q34 => (repeat (first | exact Mine.Take.head | apply Mine.Take.tail))); (case kdq34 => ktr_room); (case kuq34 => ktr_units)); intro t'q9 h'q9 tk'q9 F'q9 N'q9)
  k_with "L35" => (k_here; k_dflt ((show wpAny _ _ (call (Value.ref 122) [Value.ref _, Value.str _ _, Value.str _ _]) _ _ _); refine' Mine.push_use ?k1q35 ?k2q35 ?k3q35 ?k4q35 ?k5q35 ?kKq35 ?t1q35 ?t2q35 ?kdq35 ?kuq35 ?h1q35 ?h2q35 ?h3q35 ?h4q35 ?_; (case k1q35 => k_asm); (case k2q35 => k_asm); (case k3q35 => k_asm); (case k4q35 => k_asm); (case k5q35 => k_asm); (case kKq35 => first | exact rfl | assumption); (case t1q35 => (repeat (first | exact Mine.Take.head | apply Mine.Take.tail))); (case t2q35 => (repeat (first | exact Mine.Take.head | apply Mine.Take.tail))); (case kdq35 => ktr_room); (case kuq35 => ktr_units); (case h1q35 => first | omega | (simp <;> omega)); (case h2q35 => (first | with_reducible assumption | exact Ne.symm (by with_reducible assumption) | k_ne)); (case h3q35 => k_all); (case h4q35 => k_all)); intro tp'q9 h'q9 tk'q9 l1q9 F'q9 N'q9; k_lt l1q9)
  k_with "L36" => (k_here; k_dflt ((show wpAny _ _ (call (Value.ref _) [Value.str _ _, Value.str _ _]) _ _ _); refine' Mine.push_meth_use ?k1q36 ?k2q36 ?k3q36 ?k4q36 ?k5q36 ?kKq36 ?t1q36 ?t2q36 ?kdq36 ?kuq36 ?h1q36 ?h2q36 ?h3q36 ?h4q36 ?h5q36 ?_; (case k1q36 => k_asm); (case k2q36 => k_asm); (case k3q36 => k_asm); (case k4q36 => k_asm); (case k5q36 => k_asm); (case kKq36 => first | exact rfl | assumption); (case t1q36 => (repeat (first | exact Mine.Take.head | apply Mine.Take.tail))); (case t2q36 => (repeat (first | exact Mine.Take.head | apply Mine.Take.tail))); (case kdq36 => ktr_room); (case kuq36 => ktr_units); (case h1q36 => k_mem); (case h2q36 => first | omega | (simp <;> omega)); (case h3q36 => (first | with_reducible assumption | exact Ne.symm (by with_reducible assumption) | k_ne)); (case h4q36 => k_all); (case h5q36 => k_all)); intro tp'q9 h'q9 tk'q9 l1q9 F'q9 N'q9; k_lt l1q9)
  k_with "L37" => (k_here; k_dflt ((show wpAny _ _ (call (Value.ref 138) [Value.ref _]) _ _ _); refine' Mine.pop_use ?k1q37 ?k2q37 ?k3q37 ?k4q37 ?k5q37 ?kKq37 ?t1q37 ?t2q37 ?kdq37 ?kuq37 ?h1q37 ?h2q37 ?h3q37 ?h4q37 ?_; (case k1q37 => k_asm); (case k2q37 => k_asm); (case k3q37 => k_asm); (case k4q37 => k_asm); (case k5q37 => k_asm); (case kKq37 => first | exact rfl | assumption); (case t1q37 => (repeat (first | exact Mine.Take.head | apply Mine.Take.tail))); (case t2q37 => (repeat (first | exact Mine.Take.head | apply Mine.Take.tail))); (case kdq37 => ktr_room); (case kuq37 => ktr_units); (case h1q37 => first | omega | (simp <;> omega)); (case h2q37 => (first | with_reducible assumption | exact Ne.symm (by with_reducible assumption) | k_ne)); (case h3q37 => k_all); (case h4q37 => k_all)); intro h'q9 tk'q9 F'q9 N'q9)
  k_with "L38" => (k_here; k_dflt ((show wpAny _ _ (call (Value.ref 138) [Value.ref _]) _ _ _); refine' Mine.pop_nil_use ?k1q38 ?k2q38 ?k3q38 ?k4q38 ?k5q38 ?kKq38 ?t1q38 ?t2q38 ?kdq38 ?kuq38 ?h1q38 ?h2q38 ?h3q38 ?_; (case k1q38 => k_asm); (case k2q38 => k_asm); (case k3q38 => k_asm); (case k4q38 => k_asm); (case k5q38 => k_asm); (case kKq38 => first | exact rfl | assumption); (case t1q38 => (repeat (first | exact Mine.Take.head | apply Mine.Take.tail))); (case t2q38 => (repeat (first | exact Mine.Take.head | apply Mine.Take.tail))); (case kdq38 => ktr_room); (case kuq38 => ktr_units); (case h1q38 => (first | with_reducible assumption | exact Ne.symm (by with_reducible assumption) | k_ne)); (case h2q38 => k_all); (case h3q38 => k_all)); intro tp'q9 u1q9 u2q9 h'q9 tk'q9 l1q9 F'q9 N'q9; k_lt l1q9)
  k_with "L39" => (k_here; k_dflt ((show wpAny _ _ (call (Value.ref 130) [Value.ref _, Value.int _ _]) _ _ _); refine' Mine.pop_from_use ?k1q39 ?k2q39 ?k3q39 ?k4q39 ?k5q39 ?kKq39 ?t1q39 ?t2q39 ?kdq39 ?kuq39 ?h1q39 ?h2q39 ?h3q39 ?h4q39 ?h5q39 ?_; (case k1q39 => k_asm); (case k2q39 => k_asm); (case k3q39 => k_asm); (case k4q39 => k_asm); (case k5q39 => k_asm); (case kKq39 => first | exact rfl | assumption); (case t1q39 => (repeat (first | exact Mine.Take.head | apply Mine.Take.tail))); (case t2q39 => (repeat (first | exact Mine.Take.head | apply Mine.Take.tail))); (case kdq39 => ktr_room); (case kuq39 => ktr_units); (case h1q39 => first | assumption | (simp; done) | (simp <;> omega)); (case h2q39 => first | omega | (simp <;> omega)); (case h3q39 => (first | with_reducible assumption | exact Ne.symm (by with_reducible assumption) | k_ne)); (case h4q39 => k_all); (case h5q39 => k_all)); intro rr'q9 n'q9 h'q9 tk'q9 l1q9 F'q9 N'q9; k_lt l1q9)
  k_with "L40" => (k_here; k_dflt ((show wpAny _ _ (call (Value.ref 160) [Value.ref _]) _ _ _); refine' Mine.reset_use ?k1q40 ?k2q40 ?k3q40 ?k4q40 ?k5q40 ?kKq40 ?t1q40 ?t2q40 ?kdq40 ?kuq40 ?h1q40 ?h2q40 ?h3q40 ?h4q40 ?_; (case k1q40 => k_asm); (case k2q40 => k_asm); (case k3q40 => k_asm); (case k4q40 => k_asm); (case k5q40 => k_asm); (case kKq40 => first | exact rfl | assumption); (case t1q40 => (repeat (first | exact Mine.Take.head | apply Mine.Take.tail))); (case t2q40 => (repeat (first | exact Mine.Take.head | apply Mine.Take.tail))); (case kdq40 => ktr_room); (case kuq40 => ktr_units); (case h1q40 => first | omega | (simp <;> omega)); (case h2q40 => (first | with_reducible assumption | exact Ne.symm (by with_reducible assumption) | k_ne)); (case h3q40 => k_all); (case h4q40 => k_all)); intro n'q9 u'q9 h'q9 tk'q9 F'q9 N'q9)
  k_with "L41" => (k_here; k_dflt ((show wpAny _ _ (call (Value.ref 160) [Value.ref _, Value.ref _]) _ _ _); refine' Mine.reset_one_use ?k1q41 ?k2q41 ?k3q41 ?k4q41 ?k5q41 ?kKq41 ?t1q41 ?t2q41 ?t3q41 ?kdq41 ?kuq41 ?h1q41 ?h2q41 ?h3q41 ?h4q41 ?h5q41 ?h6q41 ?_; (case k1q41 => k_asm); (case k2q41 => k_asm); (case k3q41 => k_asm); (case k4q41 => k_asm); (case k5q41 => k_asm); (case kKq41 => first | exact rfl | assumption); (case t1q41 => (repeat (first | exact Mine.Take.head | apply Mine.Take.tail))); (case t2q41 => (repeat (first | exact Mine.Take.head | apply Mine.Take.tail))); (case t3q41 => (repeat (first | exact Mine.Take.head | apply Mine.Take.tail))); (case kdq41 => ktr_room); (case kuq41 => ktr_units); (case h1q41 => first | omega | (simp <;> omega)); (case h2q41 => (first | with_reducible assumption | exact Ne.symm (by with_reducible assumption) | k_ne)); (case h3q41 => (first | with_reducible assumption | exact Ne.symm (by with_reducible assumption) | k_ne)); (case h4q41 => (first | with_reducible assumption | exact Ne.symm (by with_reducible assumption) | k_ne)); (case h5q41 => k_all); (case h6q41 => k_all)); intro n'q9 u'q9 h'q9 tk'q9 F'q9 N'q9)
  k_with "L42" => (k_here; k_dflt ((show wpAny _ _ (call (Value.ref 145) [Value.ref _]) _ _ _); refine' Mine.len_use ?k1q42 ?k2q42 ?k3q42 ?k4q42 ?k5q42 ?kKq42 ?t1q42 ?t2q42 ?t3q42 ?kdq42 ?kuq42 ?h1q42 ?h2q42 ?h3q42 ?h4q42 ?h5q42 ?h6q42 ?h7q42 ?h8q42 ?_; (case k1q42 => k_asm); (case k2q42 => k_asm); (case k3q42 => k_asm); (case k4q42 => k_asm); (case k5q42 => k_asm); (case kKq42 => first | exact rfl | assumption); (case t1q42 => (repeat (first | exact Mine.Take.head | apply Mine.Take.tail))); (case t2q42 => (repeat (first | exact Mine.Take.head | apply Mine.Take.tail))); (case t3q42 => (repeat (first | exact Mine.Take.head | apply Mine.Take.tail))); (case kdq42 => ktr_room); (case kuq42 => ktr_units); (case h1q42 => assumption); (case h2q42 => assumption); (case h3q42 => first | assumption | omega | (simp <;> omega)); (case h4q42 => (repeat (first | with_reducible assumption | exact Mine.short_nil | refine Mine.short_snoc ?_ (by first | assumption | (dsimp only; assumption) | exact Nat.le_of_ble_eq_true rfl | (dsimp only; omega)) (by first | assumption | (dsimp only; assumption) | exact Nat.le_of_ble_eq_true rfl | (dsimp only; omega))))); (case h5q42 => (first | with_reducible assumption | exact Ne.symm (by with_reducible assumption) | k_ne)); (case h6q42 => (first | with_reducible assumption | exact Ne.symm (by with_reducible assumption) | k_ne)); (case h7q42 => k_all); (case h8q42 => (repeat (first | with_reducible assumption | exact Mine.hp_nil | (refine' Mine.hp_snoc ?_ ?hb9q42; (case hb9q42 => k_mem)) | refine Mine.hp_cons ?_)))); intro tb'q9 t'q9 h'q9 tk'q9 gs'q9 G'q9 u'q9 F'q9 N'q9)
  k_with "L43" => (k_here; k_dflt ((show wpAny _ _ (call (Value.ref 152) [Value.ref _]) _ _ _); refine' Mine.str_use ?k1q43 ?k2q43 ?k3q43 ?k4q43 ?k5q43 ?kKq43 ?t1q43 ?t2q43 ?t3q43 ?kdq43 ?kuq43 ?h1q43 ?h2q43 ?h3q43 ?h4q43 ?h5q43 ?h6q43 ?h7q43 ?h8q43 ?_; (case k1q43 => k_asm); (case k2q43 => k_asm); (case k3q43 => k_asm); (case k4q43 => k_asm); (case k5q43 => k_asm); (case kKq43 => first | exact rfl | assumption); (case t1q43 => (repeat (first | exact Mine.Take.head | apply Mine.Take.tail))); (case t2q43 => (repeat (first | exact Mine.Take.head | apply Mine.Take.tail))); (case t3q43 => (repeat (first | exact Mine.Take.head | apply Mine.Take.tail))); (case kdq43 => ktr_room); (case kuq43 => ktr_units); (case h1q43 => assumption); (case h2q43 => assumption); (case h3q43 => first | assumption | omega | (simp <;> omega)); (case h4q43 => (repeat (first | with_reducible assumption | exact Mine.short_nil | refine Mine.short_snoc ?_ (by first | assumption | (dsimp only; assumption) | exact Nat.le_of_ble_eq_true rfl | (dsimp only; omega)) (by first | assumption | (dsimp only; assumption) | exact Nat.le_of_ble_eq_true rfl | (dsimp only; omega))))); (case h5q43 => (first | with_reducible assumption | exact Ne.symm (by with_reducible assumption) | k_ne)); (case h6q43 => (first | with_reducible assumption | exact Ne.symm (by with_reducible assumption) | k_ne)); (case h7q43 => k_all); (case h8q43 => (repeat (first | with_reducible assumption | exact Mine.hp_nil | (refine' Mine.hp_snoc ?_ ?hb9q43; (case hb9q43 => k_mem)) | refine Mine.hp_cons ?_)))); intro tb'q9 t'q9 h'q9 tk'q9 gs'q9 G'q9 u'q9 F'q9 N'q9)
  k_with "L44" => (k_here; (with_reducible show wpAny _ _ (truthy (Value.ref _)) _ _ _); k_dflt (refine' Mine.truthy_len178 ?k1q44 ?k2q44 ?k3q44 ?_; (case k1q44 => k_asm); (case k2q44 => k_asm); (case k3q44 => k_inst)))
  k_with "L45" => (k_here; k_dflt (refine' And.intro (And.intro ?k1q45 ?k2q45) ?_; (case k1q45 => first | omega | (simp only [Mine.psum_snoc, Mine.psum_nil, Mine.len_empty, Mine.len_space]; omega)); (case k2q45 => first | omega | (simp only [Mine.psum_snoc, Mine.psum_nil, Mine.len_empty, Mine.len_space]; omega))))
  k_with "L46" => (k_here; refine Mine.strBack_of ?_)
  trivial
local macro_rules | `(tactic| walk_at "getAttr ref") => `(tactic| k_extra "L31")
local macro_rules | `(tactic| walk_at "callWith ref") => `(tactic| k_extra "L32")
local macro_rules | `(tactic| walk_at "eval Call Attribute cons") => `(tactic| k_extra "L33")
local macro_rules | `(tactic| walk_at "call ref") => `(tactic| k_extra "L34")
local macro_rules | `(tactic| walk_at "call ref") => `(tactic| k_extra "L35")
local macro_rules | `(tactic| walk_at "call ref") => `(tactic| k_extra "L36")
local macro_rules | `(tactic| walk_at "call ref") => `(tactic| k_extra "L37")
local macro_rules | `(tactic| walk_at "call ref") => `(tactic| k_extra "L38")
local macro_rules | `(tactic| walk_at "call ref") => `(tactic| k_extra "L39")
local macro_rules | `(tactic| walk_at "call ref") => `(tactic| k_extra "L40")
local macro_rules | `(tactic| walk_at "call ref") => `(tactic| k_extra "L41")
local macro_rules | `(tactic| walk_at "call ref") => `(tactic| k_extra "L42")
local macro_rules | `(tactic| walk_at "call ref") => `(tactic| k_extra "L43")
local macro_rules | `(tactic| walk_at "truthy ref") => `(tactic| k_extra "L44")
local macro_rules | `(tactic| walk_at "LenBack") => `(tactic| k_extra "L45")
local macro_rules | `(tactic| walk_at "LenTrue") => `(tactic| k_extra "L45")
local macro_rules | `(tactic| walk_at "StrBack") => `(tactic| k_extra "L46")
section
theorem onlyws_init_told : ∀ {w : World} {p : Program} {loose : List Str} {mean : ExcName → Option Value} {mg mb : Str → Option Value}
    (dp un : Nat) (gd : Option (List Code)) (cn : Str) (cs : Scope) (a : Addr) (ccd : Value) (cl : List (Str × Addr)) (outer : List Env) (A₀ : Around) (base h₀ : Heap) (L : Addr) (m : Str → Option Value) (news : List (Addr × Obj)) (s : Shared) (Q E : Value → Shared → Prop)
    (ac da : Addr) (i : Int) (ti tk : Tok) (n : Nat) (parts : List Part)
    (B : Below A₀ base outer h₀) (F : Fr h₀ L s.heap m) (X : (Mine.hd.heap_39 w.params).In h₀) (N : News h₀ L s.heap ((ac, accObj 178 da (refs parts) n) :: (da, initDict w i ti tk) :: news)) (T : Top p loose mean mg mb h₀) (hk : cs.kind = .function)
    (hd : dp + 1 < recursionLimit) (hu : un + 8 < cLine) (hi : i ≠ 0)
    (hret : ∀ h' tk', Fr h₀ L h' m → News h₀ L h' ((ac, accObj 178 da (refs parts) n) :: (da, initDict w i ti tk) :: news) → Q (.bool false) { s with heap := h', toks := tk' }),
    wpAny (model PySem.Challenge.rw_pm0058_01.row.prog w) (ktrTop dp un gd cn cs L a ccd cl outer) (call (.ref 167) [.ref ac]) Q E s := by
  k_fill
  intro w p loose mean mg mb dp un gd cn cs a ccd cl outer A₀ base h₀ L m news s Q E ac da i ti tk n parts B F X N T hk hd hu hi hret
  have e : (i == 0) = false := by simpa using hi
  refine wpAny_call ?_
  k_dflt ktr_enter
  k_steps
  all_goals first | (exfalso; omega) | (rw [e]; exact hret _ _ (by k_asm) (by ktr_rel))


theorem onlyws_text_told : ∀ {w : World} {p : Program} {loose : List Str} {mean : ExcName → Option Value} {mg mb : Str → Option Value}
    (dp un : Nat) (gd : Option (List Code)) (cn : Str) (cs : Scope) (a : Addr) (ccd : Value) (cl : List (Str × Addr)) (outer : List Env) (A₀ : Around) (base h₀ : Heap) (L : Addr) (m : Str → Option Value) (news : List (Addr × Obj)) (s : Shared) (Q E : Value → Shared → Prop)
    (ac da : Addr) (i : Int) (ti tk : Tok) (n : Nat) (parts : List Part) (tb ub : Array Value)
    (B : Below A₀ base outer h₀) (F : Fr h₀ L s.heap m) (X : (Mine.hd.heap_39 w.params).In h₀) (N : News h₀ L s.heap ((ac, accObj 178 da (refs parts) n) :: (da, initDict w i ti tk) :: (140, tabObj tb) :: (147, tabObj ub) :: news)) (T : Top p loose mean mg mb h₀) (hk : cs.kind = .function)
    (hd : dp + 4 < recursionLimit) (hu : un + 60 < cLine) (hT : ∀ q ∈ parts, q.obj ∈ news) (hg : AllBare s.gens) (ht : TabOk lenPos tb) (hu2 : TabOk strPos ub) (hi0 : 0 ≤ i) (hi1 : i ≤ 1000000) (hp0 : 0 ≤ psum parts) (hp1 : psum parts ≤ 1000000) (hn : parts.length ≤ 500) (hq : ∀ q ∈ parts, q.fws.length ≤ 1000 ∧ q.txt.length ≤ 1000) (h1 : ac ≠ 140) (h2 : da ≠ 140) (h3 : ∀ p ∈ news, p.1 ≠ 140) (h4 : ac ≠ 147) (h5 : da ≠ 147) (h6 : ∀ p ∈ news, p.1 ≠ 147) (hpos : i + psum parts ≠ 0) (hsp : Txt.isspace (Txt.join "" (parts.map fun q => Txt.join "" [q.fws, q.txt])) = false)
    (hret : ∀  (tb' ub' : Array Value) h' tk' gs', AllBare gs' → TabOk lenPos tb' → TabOk strPos ub' → Fr h₀ L h' m → News h₀ L h' ((ac, accObj 178 da (refs parts) n) :: (da, initDict w i ti tk) :: (140, tabObj tb') :: (147, tabObj ub') :: news) → Q (.bool false) { s with heap := h', gens := gs', toks := tk' }),
    wpAny (model PySem.Challenge.rw_pm0058_01.row.prog w) (ktrTop dp un gd cn cs L a ccd cl outer) (call (.ref 167) [.ref ac]) Q E s := by
  k_fill
  intro w p loose mean mg mb dp un gd cn cs a ccd cl outer A₀ base h₀ L m news s Q E ac da i ti tk n parts tb ub B F X N T hk hd hu hT hg ht hu2 hi0 hi1 hp0 hp1 hn hq h1 h2 h3 h4 h5 h6 hpos hsp hret
  refine wpAny_call ?_
  k_dflt ktr_enter
  k_steps
  all_goals first
    | (exfalso; omega)
    | (rw [hsp]; exact hret _ _ _ _ _ (by assumption) (by assumption) (by assumption) (by k_asm) (by ktr_rel))
    | (rw [show (i == 0) = false from by (have e9 : i ≠ 0 := by omega); simpa using e9]; exact hret _ _ _ _ _ (by assumption) (by assumption) (by assumption) (by k_asm) (by ktr_rel))
end
section
theorem lines5 : True := by
  k_with "L47" => (k_here; (with_reducible show wpAny _ _ (call (Value.ref 178) [Value.int _ _]) _ _ _); k_dflt (refine' Mine.acc_new_told _ _ _ _ _ _ _ _ _ _ _ _ _ _ _ _ _ _ _ _ ?k1q47 ?k2q47 ?k3q47 ?k4q47 ?k5q47 ?kKq47 ?kdq47 ?kuq47 ?_; (case k1q47 => k_asm); (case k2q47 => k_asm); (case k3q47 => k_asm); (case k4q47 => k_asm); (case k5q47 => k_asm); (case kKq47 => first | exact rfl | assumption); (case kdq47 => ktr_room); (case kuq47 => ktr_units)); intro ac'q9 da'q9 n'q9 tk9q9 h'q9 tk'q9 l1q9 l2q9 F'q9 N'q9; k_lt l1q9)
  trivial
local macro_rules | `(tactic| walk_at "call ref") => `(tactic| k_extra "L47")

structure FToks where
  k1 : Tok
  k2 : Tok
  k3 : Tok
  k4 : Tok
  k5 : Tok
  k6 : Tok
  v1 : Tok
  v2 : Tok
  v3 : Tok
  v4 : Tok
noncomputable abbrev fmtDict (w : World) (T : FToks) (wi : Int) (sig : Str) (ln ac : Addr) : Obj := dictOf [⟨PyData.keyHash w.params "_maxlen", .str "_maxlen" T.k1, .int wi T.v1⟩, ⟨PyData.keyHash w.params "_continuation_ws", .str "_continuation_ws" T.k2, .str " " T.v2⟩,
  ⟨PyData.keyHash w.params "_continuation_ws_len", .str "_continuation_ws_len" T.k3, .int 1 T.v3⟩, ⟨PyData.keyHash w.params "_splitchars", .str "_splitchars" T.k4, .str sig T.v4⟩, ⟨PyData.keyHash w.params "_lines", .str "_lines" T.k5, .ref ln⟩,
  ⟨PyData.keyHash w.params "_current_line", .str "_current_line" T.k6, .ref ac⟩] 6

theorem fmt_new_told : ∀ {w : World} {p : Program} {loose : List Str} {mean : ExcName → Option Value} {mg mb : Str → Option Value}
    (dp un : Nat) (gd : Option (List Code)) (cn : Str) (cs : Scope) (a : Addr) (ccd : Value) (cl : List (Str × Addr)) (outer : List Env) (A₀ : Around) (base h₀ : Heap) (L : Addr) (m : Str → Option Value) (news : List (Addr × Obj)) (s : Shared) (Q E : Value → Shared → Prop)
    (hi wi : Int) (hti wti : Tok) (ct : Tok) (sig : Str) (st : Tok)
    (B : Below A₀ base outer h₀) (F : Fr h₀ L s.heap m) (X : (Mine.hd.heap_39 w.params).In h₀) (N : News h₀ L s.heap (news)) (T : Top p loose mean mg mb h₀) (hk : cs.kind = .function)
    (hd : dp + 4 < recursionLimit) (hu : un + 60 < cLine) 
    (hret : ∀ (f df ln ac da : Addr) (n : Nat) (tk : Tok) (ft : FToks) h' tk', (∀ p ∈ news, p.1 < df) → @LT.lt Nat instLTNat df f → @LT.lt Nat instLTNat f ln → @LT.lt Nat instLTNat ln da → @LT.lt Nat instLTNat da ac → Fr h₀ L h' m → News h₀ L h' ((f, instObj 94 df) :: (df, fmtDict w ft wi sig ln ac) :: (ln, listOf #[] 0) :: (ac, accObj 178 da (refs []) n) :: (da, initDict w hi hti tk) :: news) → Q (.ref f) { s with heap := h', toks := tk' }),
    wpAny (model PySem.Challenge.rw_pm0058_01.row.prog w) (ktrTop dp un gd cn cs L a ccd cl outer) (call (.ref 94) [.int hi hti, .int wi wti, .str " " ct, .str sig st]) Q E s := by
  k_fill
  intro w p loose mean mg mb dp un gd cn cs a ccd cl outer A₀ base h₀ L m news s Q E hi wi hti wti ct sig st B F X N T hk hd hu hret
  k_here
  k_dflt (refine' call_cls ?k1 ?k2 ?k3 ?k4 ?k5 ?k6 ?_; (case k1 => k_asm); (case k2 => k_asm); (case k3 => k_asm); (case k4 => k_is); (case k5 => k_is); (case k6 => k_is); intro f df h' F' N' l1 l2; (try k_lt2 l2); ktr_enter)
  have l4 : ∀ p ∈ news, p.1 ≠ f := fun p hp => Nat.ne_of_lt (Nat.lt_trans (l1 p hp) l2)
  have l5 : ∀ p ∈ news, p.1 ≠ df := ne_of_all_lt l1
  k_steps
  refine' hret f df ?ln ?da ?ac ?n ?tk ⟨?_, ?_, ?_, ?_, ?_, ?_, ?_, ?_, ?_, ?_⟩ _ _ l1 l2 ?a ?b ?c ?F ?N
  (case F => k_asm)
  (case N => ktr_rel)
  all_goals omega


theorem news_take4 {h₀ h : Heap} {L : Addr} {x y z u : Addr × Obj} {l r r' r'' r3 : List (Addr × Obj)} (N : News h₀ L h l) (t : Take x l r) (t2 : Take y r r') (t3 : Take z r' r'') (t4 : Take u r'' r3) : News h₀ L h (x :: y :: z :: u :: r3) := fun p hp => by
  have N3 := news_take3 N t t2 t3
  rcases List.mem_cons.mp hp with rfl | hp
  · exact N3 _ List.mem_cons_self
  · rcases List.mem_cons.mp hp with rfl | hp
    · exact N3 _ (List.mem_cons_of_mem _ List.mem_cons_self)
    · rcases List.mem_cons.mp hp with rfl | hp
      · exact N3 _ (List.mem_cons_of_mem _ (List.mem_cons_of_mem _ List.mem_cons_self))
      · exact N3 _ (List.mem_cons_of_mem _ (List.mem_cons_of_mem _ (List.mem_cons_of_mem _ ((t4.sub p).mp hp))))

theorem onlyws_init_use {w : World} {p : Program} {loose : List Str} {mean : ExcName → Option Value} {mg mb : Str → Option Value}
    {dp un : Nat} {gd : Option (List Code)} {cn : Str} {cs : Scope} {a : Addr} {ccd : Value} {cl : List (Str × Addr)} {outer : List Env} {A₀ : Around} {base h₀ : Heap} {L : Addr} {m : Str → Option Value} {led : List (Addr × Obj)} {s : Shared} {Q E : Value → Shared → Prop}
    {ac da : Addr} {i : Int} {ti tk : Tok} {n : Nat} {parts : List Part} {r1 r : List (Addr × Obj)}
    (B : Below A₀ base outer h₀) (F : Fr h₀ L s.heap m) (X : (Mine.hd.heap_39 w.params).In h₀) (N : News h₀ L s.heap led) (T : Top p loose mean mg mb h₀) (hk : cs.kind = .function)
    (t1 : Take (ac, accObj 178 da (refs parts) n) led r1)
    (t2 : Take (da, initDict w i ti tk) r1 r)
    (hd : dp + 1 < recursionLimit) (hu : un + 8 < cLine) (hi : i ≠ 0)
    (hret : ∀ h' tk', Fr h₀ L h' m → News h₀ L h' led → Q (.bool false) { s with heap := h', toks := tk' }) :
    wpAny (model PySem.Challenge.rw_pm0058_01.row.prog w) (ktrTop dp un gd cn cs L a ccd cl outer) (call (.ref 167) [.ref ac]) Q E s := by
  refine onlyws_init_told dp un gd cn cs a ccd cl outer A₀ base h₀ L m r s Q E ac da i ti tk n parts B F X (news_take2 N t1 t2) T hk hd hu hi fun h' tk' F' N' => hret h' tk' F' fun p hp => N' p (by
    rcases List.mem_cons.mp ((t1.sub p).mpr hp) with rfl | hp
    · exact List.mem_cons_self
    · exact List.mem_cons_of_mem _ ((t2.sub p).mpr hp))

theorem onlyws_text_use {w : World} {p : Program} {loose : List Str} {mean : ExcName → Option Value} {mg mb : Str → Option Value}
    {dp un : Nat} {gd : Option (List Code)} {cn : Str} {cs : Scope} {a : Addr} {ccd : Value} {cl : List (Str × Addr)} {outer : List Env} {A₀ : Around} {base h₀ : Heap} {L : Addr} {m : Str → Option Value} {led : List (Addr × Obj)} {s : Shared} {Q E : Value → Shared → Prop}
    {ac da : Addr} {i : Int} {ti tk : Tok} {n : Nat} {parts : List Part} {tb ub : Array Value} {r1 r2 r3 r : List (Addr × Obj)}
    (B : Below A₀ base outer h₀) (F : Fr h₀ L s.heap m) (X : (Mine.hd.heap_39 w.params).In h₀) (N : News h₀ L s.heap led) (T : Top p loose mean mg mb h₀) (hk : cs.kind = .function)
    (t1 : Take (ac, accObj 178 da (refs parts) n) led r1)
    (t2 : Take (da, initDict w i ti tk) r1 r2)
    (t3 : Take (140, tabObj tb) r2 r3)
    (t4 : Take (147, tabObj ub) r3 r)
    (hd : dp + 4 < recursionLimit) (hu : un + 60 < cLine) (hT : ∀ q ∈ parts, q.obj ∈ r) (hg : AllBare s.gens) (ht : TabOk lenPos tb) (hu2 : TabOk strPos ub) (hi0 : 0 ≤ i) (hi1 : i ≤ 1000000) (hp0 : 0 ≤ psum parts) (hp1 : psum parts ≤ 1000000) (hn : parts.length ≤ 500) (hq : ∀ q ∈ parts, q.fws.length ≤ 1000 ∧ q.txt.length ≤ 1000) (h1 : ac ≠ 140) (h2 : da ≠ 140) (h3 : ∀ p ∈ r, p.1 ≠ 140) (h4 : ac ≠ 147) (h5 : da ≠ 147) (h6 : ∀ p ∈ r, p.1 ≠ 147) (hpos : i + psum parts ≠ 0) (hsp : Txt.isspace (Txt.join "" (parts.map fun q => Txt.join "" [q.fws, q.txt])) = false)
    (hret : ∀ (tb' ub' : Array Value) h' tk' gs', AllBare gs' → TabOk lenPos tb' → TabOk strPos ub' → Fr h₀ L h' m → News h₀ L h' ((ac, accObj 178 da (refs parts) n) :: (da, initDict w i ti tk) :: (140, tabObj tb') :: (147, tabObj ub') :: r) → Q (.bool false) { s with heap := h', gens := gs', toks := tk' }) :
    wpAny (model PySem.Challenge.rw_pm0058_01.row.prog w) (ktrTop dp un gd cn cs L a ccd cl outer) (call (.ref 167) [.ref ac]) Q E s := by
  exact onlyws_text_told dp un gd cn cs a ccd cl outer A₀ base h₀ L m r s Q E ac da i ti tk n parts tb ub B F X (news_take4 N t1 t2 t3 t4) T hk hd hu hT hg ht hu2 hi0 hi1 hp0 hp1 hn hq h1 h2 h3 h4 h5 h6 hpos hsp hret
end
theorem lines6 : True := by
  k_with "L48" => (k_here; k_dflt ((show wpAny _ _ (call (Value.ref 167) [Value.ref _]) _ _ _); refine' Mine.onlyws_init_use ?k1q48 ?k2q48 ?k3q48 ?k4q48 ?k5q48 ?kKq48 ?t1q48 ?t2q48 ?kdq48 ?kuq48 ?h1q48 ?_; (case k1q48 => k_asm); (case k2q48 => k_asm); (case k3q48 => k_asm); (case k4q48 => k_asm); (case k5q48 => k_asm); (case kKq48 => first | exact rfl | assumption); (case t1q48 => (repeat (first | exact Mine.Take.head | apply Mine.Take.tail))); (case t2q48 => (repeat (first | exact Mine.Take.head | apply Mine.Take.tail))); (case kdq48 => ktr_room); (case kuq48 => ktr_units); (case h1q48 => first | assumption | omega)); intro h'q9 tk'q9 F'q9 N'q9)
  trivial
local macro_rules | `(tactic| walk_at "call ref") => `(tactic| k_extra "L48")
local macro_rules | `(tactic| walk_at "no key 0") => `(tactic| skip)
section
theorem text_new {a : Addr} {t1 t2 : Tok} : Txt.join (Str.ofString "") (List.map (fun q : Part => Txt.join (Str.ofString "") [q.fws, q.txt]) [⟨a, Str.ofString "", Str.ofString "", t1, t2⟩]) = Str.ofString "" := by simp only [List.map_cons, List.map_nil]; decide +kernel
theorem not_empty_line {i : Int} {a : Addr} {t1 t2 : Tok} (h0 : 0 ≤ i) (h1 : i ≠ 0) (h : ¬ (0 < i + psum ([] ++ [⟨a, Str.ofString "", Str.ofString "", t1, t2⟩]))) : False := by
  rw [psum_nil_snoc, len_empty] at h
  omega

theorem newline_first_told : ∀ {w : World} {p : Program} {loose : List Str} {mean : ExcName → Option Value} {mg mb : Str → Option Value}
    (dp un : Nat) (gd : Option (List Code)) (cn : Str) (cs : Scope) (a : Addr) (ccd : Value) (cl : List (Str × Addr)) (outer : List Env) (A₀ : Around) (base h₀ : Heap) (L : Addr) (m : Str → Option Value) (news : List (Addr × Obj)) (s : Shared) (Q E : Value → Shared → Prop)
    (f df ln ac da : Addr) (ft : FToks) (wi : Int) (sig : Str) (vs : Array Value) (nl n : Nat) (i : Int) (ti tk : Tok) (tb ub : Array Value)
    (B : Below A₀ base outer h₀) (F : Fr h₀ L s.heap m) (X : (Mine.hd.heap_39 w.params).In h₀) (N : News h₀ L s.heap ((f, instObj 94 df) :: (df, fmtDict w ft wi sig ln ac) :: (ln, listOf (vs) (nl)) :: (ac, accObj 178 da (refs []) n) :: (da, initDict w i ti tk) :: (140, tabObj tb) :: (147, tabObj ub) :: news)) (T : Top p loose mean mg mb h₀) (hk : cs.kind = .function)
    (hd : dp + 8 < recursionLimit) (hu : un + 200 < cLine) (hg : AllBare s.gens) (ht : TabOk lenPos tb) (hu2 : TabOk strPos ub) (hi0 : 0 ≤ i) (hi1 : i ≤ 1000000) (hvs : vs.size ≤ 1000) (hi : i ≠ 0) (e0 : f ≠ df) (e1 : f ≠ ln) (e2 : f ≠ ac) (e3 : f ≠ da) (e4 : f ≠ 140) (e5 : f ≠ 147) (e6 : df ≠ ln) (e7 : df ≠ ac) (e8 : df ≠ da) (e9 : df ≠ 140) (e10 : df ≠ 147) (e11 : ln ≠ ac) (e12 : ln ≠ da) (e13 : ln ≠ 140) (e14 : ln ≠ 147) (e15 : ac ≠ da) (e16 : ac ≠ 140) (e17 : ac ≠ 147) (e18 : da ≠ 140) (e19 : da ≠ 147) (r0 : ∀ p ∈ news, p.1 ≠ f) (r1 : ∀ p ∈ news, p.1 ≠ df) (r2 : ∀ p ∈ news, p.1 ≠ ln) (r3 : ∀ p ∈ news, p.1 ≠ ac) (r4 : ∀ p ∈ news, p.1 ≠ da) (r5 : ∀ p ∈ news, p.1 ≠ 140) (r6 : ∀ p ∈ news, p.1 ≠ 147)
    (hret : ∀ (x : Str) (t u : Tok) (n' : Nat) (tb' ub' : Array Value) h' tk' gs', x = "" → AllBare gs' → TabOk lenPos tb' → TabOk strPos ub' → Fr h₀ L h' m → News h₀ L h' ((f, instObj 94 df) :: (df, fmtDict w ft wi sig ln ac) :: (ln, listOf (vs.push (Value.str x t)) (nl + 1)) :: (ac, accObj 178 da (refs []) n') :: (da, initDict w 0 u tk) :: (140, tabObj tb') :: (147, tabObj ub') :: news) → Q .none { s with heap := h', gens := gs', toks := tk' }),
    wpAny (model PySem.Challenge.rw_pm0058_01.row.prog w) (ktrTop dp un gd cn cs L a ccd cl outer) (call (.ref 56) [.ref f]) Q E s := by
  k_fill
  intro w p loose mean mg mb dp un gd cn cs a ccd cl outer A₀ base h₀ L m news s Q E f df ln ac da ft wi sig vs nl n i ti tk tb ub B F X N T hk hd hu hg ht hu2 hi0 hi1 hvs hi e0 e1 e2 e3 e4 e5 e6 e7 e8 e9 e10 e11 e12 e13 e14 e15 e16 e17 e18 e19 r0 r1 r2 r3 r4 r5 r6 hret
  refine wpAny_call ?_
  k_dflt ktr_enter
  k_steps
  all_goals first
    | (exfalso; exact not_empty_line hi0 hi (by with_reducible assumption))
    | exact hret _ _ _ _ _ _ _ _ _ text_new (by assumption) (by assumption) (by assumption) (by k_asm) (by ktr_rel)
end
section
theorem lines7 : True := by
  k_with "L49" => (k_here; (with_reducible show wpAny _ _ (compareOp CmpOp.NotEq (Value.ref _) (Value.ref _)) _ _ _); k_dflt (refine' Mine.ne_pair ?k1q49 ?k2q49 ?k3q49 ?k4q49 ?k5q49 ?k6q49 ?k7q49 ?k8q49 ?k9q49 ?_; (case k1q49 => k_asm); (case k2q49 => k_mem); (case k3q49 => k_mem); (case k4q49 => ktr_units); (case k5q49 => assumption); (case k6q49 => first | assumption | decide +kernel); (case k7q49 => first | assumption | decide +kernel); (case k8q49 => first | assumption | decide +kernel); (case k9q49 => first | assumption | decide +kernel)))
  k_with "L50" => (k_here; k_dflt ((show wpAny _ _ (call (Value.ref 167) [Value.ref _]) _ _ _); refine' Mine.onlyws_text_use ?k1q50 ?k2q50 ?k3q50 ?k4q50 ?k5q50 ?kKq50 ?t1q50 ?t2q50 ?t3q50 ?t4q50 ?kdq50 ?kuq50 ?h1q50 ?h2q50 ?h3q50 ?h4q50 ?h5q50 ?h6q50 ?h7q50 ?h8q50 ?h9q50 ?h10q50 ?h11q50 ?h12q50 ?h13q50 ?h14q50 ?h15q50 ?h16q50 ?h17q50 ?h18q50 ?_; (case k1q50 => k_asm); (case k2q50 => k_asm); (case k3q50 => k_asm); (case k4q50 => k_asm); (case k5q50 => k_asm); (case kKq50 => first | exact rfl | assumption); (case t1q50 => (repeat (first | exact Mine.Take.head | apply Mine.Take.tail))); (case t2q50 => (repeat (first | exact Mine.Take.head | apply Mine.Take.tail))); (case t3q50 => (repeat (first | exact Mine.Take.head | apply Mine.Take.tail))); (case t4q50 => (repeat (first | exact Mine.Take.head | apply Mine.Take.tail))); (case kdq50 => ktr_room); (case kuq50 => ktr_units); (case h1q50 => (repeat (first | with_reducible assumption | exact Mine.hp_nil | (refine' Mine.hp_snoc ?_ ?hb9q50; (case hb9q50 => k_mem)) | refine Mine.hp_cons ?_))); (case h2q50 => assumption); (case h3q50 => assumption); (case h4q50 => assumption); (case h5q50 => first | assumption | omega); (case h6q50 => first | assumption | omega); (case h7q50 => first | assumption | omega | (simp only [Mine.psum_snoc]; omega)); (case h8q50 => first | assumption | omega | (simp only [Mine.psum_snoc]; omega)); (case h9q50 => first | assumption | omega | (simp <;> omega)); (case h10q50 => (repeat (first | with_reducible assumption | exact Mine.short_nil | refine Mine.short_snoc ?_ (by first | assumption | (dsimp only; assumption) | exact Nat.le_of_ble_eq_true rfl | (dsimp only; omega)) (by first | assumption | (dsimp only; assumption) | exact Nat.le_of_ble_eq_true rfl | (dsimp only; omega))))); (case h11q50 => (first | with_reducible assumption | exact Ne.symm (by with_reducible assumption) | k_ne)); (case h12q50 => (first | with_reducible assumption | exact Ne.symm (by with_reducible assumption) | k_ne)); (case h13q50 => k_all); (case h14q50 => (first | with_reducible assumption | exact Ne.symm (by with_reducible assumption) | k_ne)); (case h15q50 => (first | with_reducible assumption | exact Ne.symm (by with_reducible assumption) | k_ne)); (case h16q50 => k_all); (case h17q50 => first | assumption | omega | (simp only [Mine.psum_snoc]; omega)); (case h18q50 => first | (rw [Mine.text_swap]; with_reducible assumption) | with_reducible assumption)); intro tb'q9 ub'q9 h'q9 tk'q9 gs'q9 G'q9 u'q9 u2'q9 F'q9 N'q9)
  trivial
theorem text_swap {pre : List Part} {q : Part} {a : Addr} {t1 t2 : Tok} : Txt.join (Str.ofString "") (List.map (fun q : Part => Txt.join (Str.ofString "") [q.fws, q.txt]) (pre ++ [⟨a, q.fws, q.txt, t1, t2⟩])) = Txt.join "" ((pre ++ [q]).map fun q => Txt.join "" [q.fws, q.txt]) := by
  simp only [List.map_append, List.map_cons, List.map_nil]
theorem not_neg_line {i : Int} {pre : List Part} {q : Part} {a : Addr} {t1 t2 : Tok} (h : 0 < i + (psum pre + ((q.fws.length : Int) + q.txt.length))) (h2 : ¬ (0 < i + psum (pre ++ [⟨a, q.fws, q.txt, t1, t2⟩]))) : False := h2 (by rw [psum_snoc]; exact h)
open PyProof.Rows PySem.Spec PyProof.V PySem.SeqAt in
theorem pair_shaped {x y : Str} (h1 : PyData.strOk x = true) (h2 : PyData.strOk y = true) : SeqAt.shaped (.tuple [.str x, .str y]) = true := by
  unfold SeqAt.shaped
  rw [show (PyData.tuple [.str x, .str y]).canLay0 = true from by simp [PyData.canLay0, PyData.canLayAll0, h1, h2]]
  rfl
open PyProof.Rows PySem.Spec PyProof.V in
theorem ne_pair {prog : Program} {w : World} {A : Around} {E : Value → Shared → Prop} {s : Shared} {h₀ : Heap} {L a b : Addr} {news : List (Addr × Obj)} {x y x' y' : Str} {t1 t2 u1 u2 : Tok} {Q : Value → Shared → Prop} (N : News h₀ L s.heap news)
    (ma : (a, tupObj x y t1 t2) ∈ news) (mb : (b, tupObj x' y' u1 u2) ∈ news) (hu : A.units + 64 < cLine) (hy : y ≠ y') (o1 : PyData.strOk x = true) (o2 : PyData.strOk y = true) (o3 : PyData.strOk x' = true) (o4 : PyData.strOk y' = true) (h : Q (.bool true) s) : wpAny (model prog w) A (compareOp .NotEq (.ref a) (.ref b)) Q E s := by
  refine ne_dataH (da := .tuple [.str x, .str y]) (db := .tuple [.str x', .str y']) (reads_tuple_at (News.get N ma) rfl rfl (.cons (.str _ _) (.cons (.str _ _) .nil))) (reads_tuple_at (News.get N mb) rfl rfl (.cons (.str _ _) (.cons (.str _ _) .nil)))
    (pair_shaped o1 o2) (pair_shaped o3 o4) hu ?_
  have e : PyData.eqv (.tuple [.str x, .str y]) (.tuple [.str x', .str y']) = false := by
    simp [PyData.eqv, PyData.eqvAll, hy]
  rw [e]
  exact h
local macro_rules | `(tactic| walk_at "compareOp NotEq ref ref") => `(tactic| k_extra "L49")
local macro_rules | `(tactic| walk_at "call ref") => `(tactic| k_extra "L50")

theorem newline_last_told : ∀ {w : World} {p : Program} {loose : List Str} {mean : ExcName → Option Value} {mg mb : Str → Option Value}
    (dp un : Nat) (gd : Option (List Code)) (cn : Str) (cs : Scope) (a : Addr) (ccd : Value) (cl : List (Str × Addr)) (outer : List Env) (A₀ : Around) (base h₀ : Heap) (L : Addr) (m : Str → Option Value) (news : List (Addr × Obj)) (s : Shared) (Q E : Value → Shared → Prop)
    (f df ln ac da : Addr) (ft : FToks) (wi : Int) (sig : Str) (vs : Array Value) (nl n : Nat) (i : Int) (ti tk : Tok) (tb ub : Array Value) (pre : List Part) (q : Part)
    (B : Below A₀ base outer h₀) (F : Fr h₀ L s.heap m) (X : (Mine.hd.heap_39 w.params).In h₀) (N : News h₀ L s.heap ((f, instObj 94 df) :: (df, fmtDict w ft wi sig ln ac) :: (ln, listOf (vs) (nl)) :: (ac, accObj 178 da (refs (pre ++ [q])) n) :: (da, initDict w i ti tk) :: (140, tabObj tb) :: (147, tabObj ub) :: news)) (T : Top p loose mean mg mb h₀) (hk : cs.kind = .function)
    (hd : dp + 8 < recursionLimit) (hu : un + 200 < cLine) (hg : AllBare s.gens) (ht : TabOk lenPos tb) (hu2 : TabOk strPos ub) (hi0 : 0 ≤ i) (hi1 : i ≤ 1000000) (hvs : vs.size ≤ 1000) (ho1 : PyData.strOk q.fws = true) (ho2 : PyData.strOk q.txt = true) (hT : ∀ z ∈ pre ++ [q], z.obj ∈ news) (hp0 : 0 ≤ psum (pre ++ [q])) (hp1 : psum (pre ++ [q]) ≤ 1000000) (hn : pre.length ≤ 400) (hq : ∀ z ∈ pre ++ [q], z.fws.length ≤ 1000 ∧ z.txt.length ≤ 1000) (hqt : q.txt ≠ "") (hpos : 0 < i + psum (pre ++ [q])) (hsp : Txt.isspace (Txt.join "" ((pre ++ [q]).map fun q => Txt.join "" [q.fws, q.txt])) = false) (e0 : f ≠ df) (e1 : f ≠ ln) (e2 : f ≠ ac) (e3 : f ≠ da) (e4 : f ≠ 140) (e5 : f ≠ 147) (e6 : df ≠ ln) (e7 : df ≠ ac) (e8 : df ≠ da) (e9 : df ≠ 140) (e10 : df ≠ 147) (e11 : ln ≠ ac) (e12 : ln ≠ da) (e13 : ln ≠ 140) (e14 : ln ≠ 147) (e15 : ac ≠ da) (e16 : ac ≠ 140) (e17 : ac ≠ 147) (e18 : da ≠ 140) (e19 : da ≠ 147) (r0 : ∀ p ∈ news, p.1 ≠ f) (r1 : ∀ p ∈ news, p.1 ≠ df) (r2 : ∀ p ∈ news, p.1 ≠ ln) (r3 : ∀ p ∈ news, p.1 ≠ ac) (r4 : ∀ p ∈ news, p.1 ≠ da) (r5 : ∀ p ∈ news, p.1 ≠ 140) (r6 : ∀ p ∈ news, p.1 ≠ 147)
    (hret : ∀ (x : Str) (t u : Tok) (n' : Nat) (tb' ub' : Array Value) h' tk' gs', x = Txt.join "" ((pre ++ [q]).map fun q => Txt.join "" [q.fws, q.txt]) → AllBare gs' → TabOk lenPos tb' → TabOk strPos ub' → Fr h₀ L h' m → News h₀ L h' ((f, instObj 94 df) :: (df, fmtDict w ft wi sig ln ac) :: (ln, listOf (vs.push (Value.str x t)) (nl + 1)) :: (ac, accObj 178 da (refs []) n') :: (da, initDict w 0 u tk) :: (140, tabObj tb') :: (147, tabObj ub') :: news) → Q .none { s with heap := h', gens := gs', toks := tk' }),
    wpAny (model PySem.Challenge.rw_pm0058_01.row.prog w) (ktrTop dp un gd cn cs L a ccd cl outer) (call (.ref 56) [.ref f]) Q E s := by
  k_fill
  intro w p loose mean mg mb dp un gd cn cs a ccd cl outer A₀ base h₀ L m news s Q E f df ln ac da ft wi sig vs nl n i ti tk tb ub pre q B F X N T hk hd hu hg ht hu2 hi0 hi1 hvs ho1 ho2 hT hp0 hp1 hn hq hqt hpos hsp e0 e1 e2 e3 e4 e5 e6 e7 e8 e9 e10 e11 e12 e13 e14 e15 e16 e17 e18 e19 r0 r1 r2 r3 r4 r5 r6 hret
  have hqo : (q.at_, tupObj q.fws q.txt q.t1 q.t2) ∈ news := hT q (List.mem_append_right _ (List.mem_singleton.mpr rfl))
  have hTp : ∀ z ∈ pre, z.obj ∈ news := fun z hz => hT z (List.mem_append_left _ hz)
  have hqp : ∀ z ∈ pre, z.fws.length ≤ 1000 ∧ z.txt.length ≤ 1000 := fun z hz => hq z (List.mem_append_left _ hz)
  obtain ⟨hqa, hqb⟩ := hq q (List.mem_append_right _ (List.mem_singleton.mpr rfl))
  rw [psum_snoc] at hp0 hp1 hpos
  have z0 : q.at_ ≠ f := r0 _ hqo
  have z1 : q.at_ ≠ df := r1 _ hqo
  have z2 : q.at_ ≠ ln := r2 _ hqo
  have z3 : q.at_ ≠ ac := r3 _ hqo
  have z4 : q.at_ ≠ da := r4 _ hqo
  have z5 : q.at_ ≠ 140 := r5 _ hqo
  have z6 : q.at_ ≠ 147 := r6 _ hqo
  replace N : News h₀ L s.heap ((f, instObj 94 df) :: (df, fmtDict w ft wi sig ln ac) :: (ln, listOf (vs) (nl)) :: (ac, accObj 178 da (refs (pre ++ [q])) n) :: (da, initDict w i ti tk) :: (140, tabObj tb) :: (147, tabObj ub) :: (q.at_, tupObj q.fws q.txt q.t1 q.t2) :: news) := Mine.news_sub N (by repeat (first | exact List.forall_mem_nil _ | exact fun _ h => h | (refine' List.forall_mem_cons.mpr (And.intro ?ra9 ?_); (case ra9 => k_mem)) | refine Mine.sub_cons ?_))
  refine wpAny_call ?_
  k_dflt ktr_enter
  k_steps
  all_goals first
    | (exfalso; exact not_neg_line (by with_reducible assumption) (by with_reducible assumption))
    | exact hret _ _ _ _ _ _ _ _ _ text_swap (by assumption) (by assumption) (by assumption) (by k_asm) (by ktr_rel)
end
section
structure Steps (prog : Program) (w : World) (A : Around) (I : Addr) (n : Nat) (P : Nat → Value → Prop) (Ok : Nat → Obj → Prop) : Prop where
  item : ∀ i (s : Shared) (Q : Option Value → Shared → Prop) (E : Value → Shared → Prop) o, i < n → s.heap.get? I = some o → Ok i o →
    (∀ v h' tk o', P i v → Heap.SameBut I s.heap h' → h'.get? I = some o' → Ok (i + 1) o' → Q (some v) { s with heap := h', toks := tk }) → wpAny (model prog w) A (pyNext (.ref I)) Q E s
  done : ∀ (s : Shared) (Q : Option Value → Shared → Prop) (E : Value → Shared → Prop) o, s.heap.get? I = some o → Ok n o →
    (∀ h', Heap.ExtBut I s.heap h' → Q none { s with heap := h' }) → wpAny (model prog w) A (pyNext (.ref I)) Q E s

noncomputable abbrev StrItOk (x : Str) (t : Tok) (i : Nat) (o : Obj) : Prop := o.cls = .type "str_ascii_iterator" ∧ o.data = .fields #[.str x t, .int i 0]
noncomputable abbrev RanItOk (a n d : Int) (i : Nat) (o : Obj) : Prop := o = { cls := .type "range_iterator", dict := none, data := .fields #[rawInt (a + i * d), rawInt (n - i), rawInt d], slots := #[] }
/-- what a turn of a loop leaves -/
noncomputable def TurnPost (h₀ : Heap) (L I : Addr) (s : Shared) (J : (Str → Option Value) → List (Addr × Obj) → Array GenState → Prop) (o : Obj) (Q : Flow → Shared → Prop) (f : Flow) (s₂ : Shared) : Prop := match f with
  | .next | .cont => ∃ m₂ news₂, Fr h₀ L s₂.heap m₂ ∧ News h₀ L s₂.heap ((I, o) :: news₂) ∧ (∀ p ∈ news₂, p.1 ≠ I) ∧ J m₂ news₂ s₂.gens ∧ ∃ h gs tk, s₂ = { s with heap := h, gens := gs, toks := tk }
  | .brk => Q .next s₂
  | .ret v => Q (.ret v) s₂
section
variable {prog : Program} {w : World} {A : Around} {E : Value → Shared → Prop} {s : Shared} {h₀ : Heap} {L I : Addr} {m : Str → Option Value} {news : List (Addr × Obj)}
theorem TurnPost.next {J : (Str → Option Value) → List (Addr × Obj) → Array GenState → Prop} {o : Obj} {Q : Flow → Shared → Prop} {h gs tk m₂ news₂} (F : Fr h₀ L h m₂) (N : News h₀ L h ((I, o) :: news₂)) (hI : ∀ p ∈ news₂, p.1 ≠ I) (hJ : J m₂ news₂ gs) :
    TurnPost h₀ L I s J o Q .next { s with heap := h, gens := gs, toks := tk } := ⟨m₂, news₂, F, N, hI, hJ, h, gs, tk, rfl⟩
theorem TurnPost.cont {J : (Str → Option Value) → List (Addr × Obj) → Array GenState → Prop} {o : Obj} {Q : Flow → Shared → Prop} {h gs tk m₂ news₂} (F : Fr h₀ L h m₂) (N : News h₀ L h ((I, o) :: news₂)) (hI : ∀ p ∈ news₂, p.1 ≠ I) (hJ : J m₂ news₂ gs) :
    TurnPost h₀ L I s J o Q .cont { s with heap := h, gens := gs, toks := tk } := ⟨m₂, news₂, F, N, hI, hJ, h, gs, tk, rfl⟩
theorem steps_str (hh : A.handled = none) {x : Str} {t : Tok} : Steps prog w A I x.cps.size (fun i v => ∃ c tk, x.cps[i]? = some c ∧ v = .str ⟨#[c]⟩ tk) (StrItOk x t) where
  item i s Q E o hi ho hok h := by
    obtain ⟨h1, h2⟩ := hok
    have hc : x.cps[i]? = some x.cps[i] := Array.getElem?_eq_getElem hi
    refine wpAny_pyNext_ascii_item ⟨o, ho, h1, h2⟩ hc fun h' hit hs => ?_
    obtain ⟨o', ho', h1', h2'⟩ := hit
    exact h _ h' _ o' ⟨_, _, hc, rfl⟩ hs ho' ⟨h1', h2'⟩
  done s Q E o ho hok h := by
    obtain ⟨h1, h2⟩ := hok
    exact wpAny_pyNext_ascii_end hh ⟨o, ho, h1, h2⟩ (Array.getElem?_size ..) h
theorem steps_range (hh : A.handled = none) {a d : Int} {n : Nat} : Steps prog w A I n (fun i v => ∃ t, v = .int (a + i * d) t) (RanItOk a n d) where
  item i s Q E o hi ho hok h := by
    subst hok
    refine wpAny_pyNext_range_item ho (by omega) fun h' hit hs => ?_
    have e1 : a + (i : Int) * d + d = a + ((i + 1 : Nat) : Int) * d := by rw [Int.natCast_succ, Int.add_mul, Int.one_mul, Int.add_assoc]
    have e2 : (n : Int) - (i : Int) - 1 = (n : Int) - ((i + 1 : Nat) : Int) := by omega
    rw [e1, e2] at hit
    exact h _ h' _ _ ⟨_, rfl⟩ hs hit rfl
  done s Q E o ho hok h := by
    subst hok
    exact wpAny_pyNext_range_end hh ho (by omega) h
theorem ledger_same {o o' : Obj} {h' : Heap} (F : Fr h₀ L s.heap m) (N : News h₀ L s.heap ((I, o) :: news)) (hI : ∀ p ∈ news, p.1 ≠ I) (hs : Heap.SameBut I s.heap h') (ho : h'.get? I = some o') : Fr h₀ L h' m ∧ News h₀ L h' ((I, o') :: news) :=
  ⟨F.change hs (N.ne List.mem_cons_self) (N.fresh List.mem_cons_self), N.setHead hI hs ho⟩
theorem ledger_gone {o : Obj} {h' : Heap} (F : Fr h₀ L s.heap m) (N : News h₀ L s.heap ((I, o) :: news)) (hI : ∀ p ∈ news, p.1 ≠ I) (hs : Heap.ExtBut I s.heap h') : Fr h₀ L h' m ∧ News h₀ L h' news := by
  have hn := N.fresh List.mem_cons_self
  refine ⟨⟨F.ns.extBut hs (Ne.symm (N.ne List.mem_cons_self)), fun b o' e => hs b o' (fun q => by rw [q, hn] at e; cases e) (F.keep b o' e), F.above⟩, fun p hp => ?_⟩
  have := N p (List.mem_cons_of_mem _ hp)
  exact ⟨hs _ _ (hI p hp) this.1, this.2⟩
theorem forLoop_led {env : Env} {x : Str} {px : Pos} {body orelse : List Stmt} {n : Nat} {P : Nat → Value → Prop} {Ok : Nat → Obj → Prop} {Q : Flow → Shared → Prop} {o : Obj} (S : Steps prog w A I n P Ok)
    (F : Fr h₀ env.locals s.heap m) (N : News h₀ env.locals s.heap ((I, o) :: news)) (hI : ∀ p ∈ news, p.1 ≠ I) (ho : Ok 0 o)
    (hx : env.kindOf x = some .local) (hp : (env.scope.kind == .class || (env.scope.kind == .module && env.locals != env.globals)) = false) (hE : PassesOwn (model prog w) A env E)
    (J : Nat → (Str → Option Value) → List (Addr × Obj) → Array GenState → Prop) (h0 : J 0 m news s.gens)
    (step : ∀ i v m₁ news₁ o₁ h₁ gs₁ tk₁, i < n → P i v → J i m₁ news₁ gs₁ → (∀ p ∈ news₁, p.1 ≠ I) → Ok (i + 1) o₁ → Fr h₀ env.locals h₁ (fun y => if y = x then some v else m₁ y) → News h₀ env.locals h₁ ((I, o₁) :: news₁) →
      wpAny (model prog w) A (execs body env) (TurnPost h₀ env.locals I s (J (i + 1)) o₁ Q) E { s with heap := h₁, gens := gs₁, toks := tk₁ })
    (done : ∀ m₁ news₁ h₁ gs₁ tk₁, J n m₁ news₁ gs₁ → Fr h₀ env.locals h₁ m₁ → News h₀ env.locals h₁ news₁ → wpAny (model prog w) A (execs orelse env) Q E { s with heap := h₁, gens := gs₁, toks := tk₁ }) :
    codeAny (model prog w) A (.forLoop (.Name x px) (.ref I) body orelse env) (fun r s' => match r with | .ok f => Q f s' | .error e => cameBackBy (model prog w) A env E e s') s := by
  refine codeAny_forLoop
    (fun k s' => ∃ h gs tk m' news' i o', s' = { s with heap := h, gens := gs, toks := tk } ∧ Fr h₀ env.locals h m' ∧ News h₀ env.locals h ((I, o') :: news') ∧ (∀ p ∈ news', p.1 ≠ I) ∧ Ok i o' ∧ J i m' news' gs ∧ i ≤ n ∧ k = n + 1 - i) ?_ (n + 1)
    ⟨s.heap, s.gens, s.toks, m, news, 0, o, rfl, F, N, hI, ho, h0, Nat.zero_le _, rfl⟩
  rintro k s' ⟨h, gs, tk, m', news', i, o', rfl, F', N', hI', ho', hJ, hi, rfl⟩
  by_cases hlt : i < n
  · refine S.item i _ _ _ o' hlt (N'.get List.mem_cons_self) ho' fun v h₁ tk₁ o₁ hP hs₁ hg₁ hok₁ => ?_
    obtain ⟨F₁, N₁⟩ := ledger_same (s := { s with heap := h }) F' N' hI' hs₁ hg₁
    refine wpAny_assign_Name (wpAny_storeName_local hx F₁.ns (fun h₂ hn₂ hs₂ => ?_) hp)
    refine wpAny_mono (wpAny_passesOwn hE (step i v m' news' o₁ h₂ gs _ hlt hP hJ hI' hok₁ (F₁.set hn₂ hs₂) (N₁.set hs₂))) (fun f s₃ h₃ => ?_) fun _ _ e => e
    cases f with
    | next =>
      obtain ⟨m₂, news₂, F₃, N₃, hI₃, hJ₃, h₃, gs₃, tk₃, rfl⟩ := h₃
      exact ⟨n + 1 - (i + 1), by omega, h₃, gs₃, tk₃, m₂, news₂, i + 1, o₁, rfl, F₃, N₃, hI₃, hok₁, hJ₃, hlt, rfl⟩
    | cont =>
      obtain ⟨m₂, news₂, F₃, N₃, hI₃, hJ₃, h₃, gs₃, tk₃, rfl⟩ := h₃
      exact ⟨n + 1 - (i + 1), by omega, h₃, gs₃, tk₃, m₂, news₂, i + 1, o₁, rfl, F₃, N₃, hI₃, hok₁, hJ₃, hlt, rfl⟩
    | brk => exact h₃
    | ret v => exact h₃
  · have hin : i = n := by omega
    subst hin
    refine S.done _ _ _ o' (N'.get List.mem_cons_self) ho' fun h₁ hs₁ => ?_
    obtain ⟨F₁, N₁⟩ := ledger_gone (s := { s with heap := h }) F' N' hI' hs₁
    exact wpAny_passesOwn hE (done m' news' h₁ gs tk hJ F₁ N₁)
theorem pyIter_str {x : Str} {t : Tok} {Q : Value → Shared → Prop} (F : Fr h₀ L s.heap m) (N : News h₀ L s.heap news) (ha : x.cps.all (· < 128) = true)
    (h : ∀ (I : Addr) o h', (∀ p ∈ news, p.1 < I) → StrItOk x t 0 o → Fr h₀ L h' m → News h₀ L h' ((I, o) :: news) → Q (.ref I) { s with heap := h' }) : wpAny (model prog w) A (pyIter (.str x t)) Q E s :=
  wpAny_pyIter_ascii ha (h _ _ _ (fun p hp => Heap.lt_size (N p hp).1) ⟨rfl, rfl⟩ (F.push _) (N.push F _))
theorem pyIter_range {r : Addr} {a b c : Int} {t u v : Tok} {Q : Value → Shared → Prop} (F : Fr h₀ L s.heap m) (N : News h₀ L s.heap news) (hr : (r, ({ cls := .type "range", data := .fields #[.int a t, .int b u, .int c v] } : Obj)) ∈ news) (hsm : Builtin.Range.small a b c = true)
    (n : Nat) (hn : Builtin.Range.rangeSize a b c = n)
    (h : ∀ (I : Addr) o h', (∀ p ∈ news, p.1 < I) → RanItOk a n c 0 o → Fr h₀ L h' m → News h₀ L h' ((I, o) :: news) → Q (.ref I) { s with heap := h' }) : wpAny (model prog w) A (pyIter (.ref r)) Q E s :=
  wpAny_pyIter_range (N.get hr) hsm (h _ _ _ (fun p hp => Heap.lt_size (N p hp).1) (by rw [hn]; show _ = _; congr 4; · (push_cast; rw [Int.zero_mul, Int.add_zero])) (F.push _) (N.push F _))
end
theorem look_skip {m : Str → Option Value} {a b : Str} {v w : Value} (h : a ≠ b) (e : m a = some v) : (fun y => if y = b then some w else m y) a = some v := (if_neg h).trans e
theorem look_hit {m : Str → Option Value} {a : Str} {w : Value} : (fun y => if y = a then some w else m y) a = some w := if_pos rfl
end
section
/-- what a loop leaves that ends in its first turn -/
noncomputable def FirstPost (Q : Flow → Shared → Prop) (f : Flow) (s₂ : Shared) : Prop := match f with
  | .next | .cont => False
  | .brk => Q .next s₂
  | .ret v => Q (.ret v) s₂
theorem FirstPost.brk {Q : Flow → Shared → Prop} {s₂ : Shared} (h : Q .next s₂) : FirstPost Q .brk s₂ := h
theorem TurnPost.brk {h₀ : Heap} {L I : Addr} {s : Shared} {J : (Str → Option Value) → List (Addr × Obj) → Array GenState → Prop} {o : Obj} {Q : Flow → Shared → Prop} {s₂ : Shared} (h : Q .next s₂) : TurnPost h₀ L I s J o Q .brk s₂ := h
theorem TurnPost.ret {h₀ : Heap} {L I : Addr} {s : Shared} {J : (Str → Option Value) → List (Addr × Obj) → Array GenState → Prop} {o : Obj} {Q : Flow → Shared → Prop} {s₂ : Shared} {v : Value} (h : Q (.ret v) s₂) : TurnPost h₀ L I s J o Q (.ret v) s₂ := h
section
variable {prog : Program} {w : World} {A : Around} {E : Value → Shared → Prop} {s : Shared} {h₀ : Heap} {L I : Addr} {m : Str → Option Value} {news : List (Addr × Obj)}
theorem forLoop_first {env : Env} {x : Str} {px : Pos} {body orelse : List Stmt} {n : Nat} {P : Nat → Value → Prop} {Ok : Nat → Obj → Prop} {Q : Flow → Shared → Prop} {o : Obj} (S : Steps prog w A I n P Ok)
    (F : Fr h₀ env.locals s.heap m) (N : News h₀ env.locals s.heap ((I, o) :: news)) (hI : ∀ p ∈ news, p.1 ≠ I) (ho : Ok 0 o) (hn : 0 < n)
    (hx : env.kindOf x = some .local) (hp : (env.scope.kind == .class || (env.scope.kind == .module && env.locals != env.globals)) = false) (hE : PassesOwn (model prog w) A env E)
    (step : ∀ v o₁ h₁ tk₁, P 0 v → Ok 1 o₁ → Fr h₀ env.locals h₁ (fun y => if y = x then some v else m y) → News h₀ env.locals h₁ ((I, o₁) :: news) →
      wpAny (model prog w) A (execs body env) (FirstPost Q) E { s with heap := h₁, toks := tk₁ }) :
    codeAny (model prog w) A (.forLoop (.Name x px) (.ref I) body orelse env) (fun r s' => match r with | .ok f => Q f s' | .error e => cameBackBy (model prog w) A env E e s') s := by
  refine forLoop_led S F N hI ho hx hp hE (fun i m' n' g' => i = 0 ∧ m' = m ∧ n' = news ∧ g' = s.gens) ⟨rfl, rfl, rfl, rfl⟩ (fun i v m₁ news₁ o₁ h₁ gs₁ tk₁ hi hP hJ hI₁ hok F₁ N₁ => ?_) (fun m₁ news₁ h₁ gs₁ tk₁ hJ _ _ => absurd hJ.1 (Nat.ne_of_gt hn))
  obtain ⟨rfl, rfl, rfl, rfl⟩ := hJ
  refine wpAny_mono (step v o₁ h₁ tk₁ hP hok F₁ N₁) (fun f s₃ h₃ => ?_) fun _ _ e => e
  cases f with
  | next => exact h₃.elim
  | cont => exact h₃.elim
  | brk => exact h₃
  | ret v => exact h₃
theorem forLoop_space_first {env : Env} {x : Str} {t : Tok} {y : Str} {px : Pos} {body orelse : List Stmt} {Q : Flow → Shared → Prop} {o : Obj} (hh : A.handled = none)
    (F : Fr h₀ env.locals s.heap m) (N : News h₀ env.locals s.heap ((I, o) :: news)) (hI : ∀ p ∈ news, p.1 ≠ I) (ho : StrItOk y t 0 o) (hc : y.cps[0]? = some 32)
    (hx : env.kindOf x = some .local) (hp : (env.scope.kind == .class || (env.scope.kind == .module && env.locals != env.globals)) = false) (hE : PassesOwn (model prog w) A env E)
    (step : ∀ u o₁ h₁ tk₁, Fr h₀ env.locals h₁ (fun z => if z = x then some (.str (Str.ofString " ") u) else m z) → News h₀ env.locals h₁ ((I, o₁) :: news) →
      wpAny (model prog w) A (execs body env) (FirstPost Q) E { s with heap := h₁, toks := tk₁ }) :
    codeAny (model prog w) A (.forLoop (.Name x px) (.ref I) body orelse env) (fun r s' => match r with | .ok f => Q f s' | .error e => cameBackBy (model prog w) A env E e s') s := by
  refine forLoop_first (steps_str hh) F N hI ho (by cases h : y.cps.size with | zero => (rw [Array.getElem?_eq_none (by omega)] at hc; cases hc) | succ n => exact Nat.succ_pos _) hx hp hE fun v o₁ h₁ tk₁ hP hok F₁ N₁ => ?_
  obtain ⟨c, u, h1, rfl⟩ := hP
  rw [hc] at h1
  cases h1
  exact step u o₁ h₁ tk₁ F₁ N₁
theorem forLoop_down_first {env : Env} {x : Str} {p : Nat} {px : Pos} {body orelse : List Stmt} {Q : Flow → Shared → Prop} {o : Obj} (hh : A.handled = none)
    (F : Fr h₀ env.locals s.heap m) (N : News h₀ env.locals s.heap ((I, o) :: news)) (hI : ∀ p ∈ news, p.1 ≠ I) (ho : RanItOk p p (-1) 0 o) (hc : 0 < p)
    (hx : env.kindOf x = some .local) (hp : (env.scope.kind == .class || (env.scope.kind == .module && env.locals != env.globals)) = false) (hE : PassesOwn (model prog w) A env E)
    (step : ∀ u o₁ h₁ tk₁, Fr h₀ env.locals h₁ (fun z => if z = x then some (.int (p : Int) u) else m z) → News h₀ env.locals h₁ ((I, o₁) :: news) →
      wpAny (model prog w) A (execs body env) (FirstPost Q) E { s with heap := h₁, toks := tk₁ }) :
    codeAny (model prog w) A (.forLoop (.Name x px) (.ref I) body orelse env) (fun r s' => match r with | .ok f => Q f s' | .error e => cameBackBy (model prog w) A env E e s') s := by
  refine forLoop_first (n := p) (steps_range hh) F N hI ho hc hx hp hE fun v o₁ h₁ tk₁ hP hok F₁ N₁ => ?_
  obtain ⟨u, rfl⟩ := hP
  rw [show (p : Int) + ((0 : Nat) : Int) * (-1) = (p : Int) by simp] at F₁
  exact step u o₁ h₁ tk₁ F₁ N₁
theorem pyIter_down {r : Addr} {a : Int} {p : Nat} {t u v : Tok} {Q : Value → Shared → Prop} (F : Fr h₀ L s.heap m) (N : News h₀ L s.heap news) (hr : IsRange s.heap r a 0 (-1) t u v) (ha : a = (p : Int)) (hb : p ≤ 1000000)
    (h : ∀ (I : Addr) o h', (∀ p ∈ news, p.1 < I) → RanItOk p p (-1) 0 o → Fr h₀ L h' m → News h₀ L h' ((I, o) :: news) → Q (.ref I) { s with heap := h' }) : wpAny (model prog w) A (pyIter (.ref r)) Q E s := by
  subst ha
  have hs : Builtin.Range.rangeSize (p : Int) 0 (-1) = (p : Int) := by
    unfold Builtin.Range.rangeSize
    rw [if_neg (by omega)]
    split
    · rw [show (-(-1) : Int) = 1 from rfl, Int.ediv_one]
      omega
    · omega
  refine wpAny_pyIter_range hr ?_ ?_
  · unfold Builtin.Range.small Builtin.Range.rangeFitsLong
    rw [hs]
    simp
    omega
  · exact h _ _ _ (fun p hp => Heap.lt_size (N p hp).1) (by rw [hs]; simp [RanItOk]) (F.push _) (N.push F _)
theorem len_snoc_sub {ps : List Part} {q : Part} : (((ps ++ [q]).length : Nat) : Int) - 1 = (ps.length : Int) := by
  rw [List.length_append]
  simp
end
theorem len_one_sub {q : Part} : (((([] : List Part) ++ [q]).length : Nat) : Int) - 1 = ((0 : Nat) : Int) := rfl
theorem refs_last {ps : List Part} {q : Part} : (refs (ps ++ [q]))[((ps.length : Nat) : Int).toNat]? = some (.ref q.at_) := by
  simp [refs]
theorem psum_big {i wi : Int} {ps : List Part} {y : Str} {a : Addr} {t1 t2 : Tok} (h : i + (psum ps + (1 + (y.length : Int))) ≤ wi) (h2 : wi < i + psum (ps ++ [⟨a, Str.ofString " ", y, t1, t2⟩])) : False := by
  rw [psum_snoc, len_space] at h2
  dsimp only at h2
  omega
theorem psum_small {i wi : Int} {ps : List Part} {y : Str} {a : Addr} {t1 t2 : Tok} (h : ¬ i + (psum ps + (1 + (y.length : Int))) ≤ wi) (h2 : ¬ wi < i + psum (ps ++ [⟨a, Str.ofString " ", y, t1, t2⟩])) : False := by
  rw [psum_snoc, len_space] at h2
  dsimp only at h2
  omega
end
section
/-- the locals m, but for those named -/
noncomputable def over (ks : List Str) (c m : Str → Option Value) : Str → Option Value := match ks with
  | [] => m
  | k :: r => fun y => if y = k then c y else over r c m y
theorem over_off {c m : Str → Option Value} {y : Str} : ∀ {ks : List Str}, y ∉ ks → over ks c m y = m y
  | [], _ => rfl
  | a :: l, hl => by
    show (if y = a then c y else over l c m y) = m y
    rw [if_neg (fun q : y = a => hl (by rw [q]; exact List.mem_cons_self)), over_off (fun q => hl (List.mem_cons_of_mem _ q))]
theorem over_on {c m : Str → Option Value} {y : Str} : ∀ {ks : List Str}, y ∈ ks → over ks c m y = c y
  | [], h => nomatch h
  | a :: l, hl => by
    show (if y = a then c y else over l c m y) = c y
    by_cases q : y = a
    · rw [if_pos q]
    · rw [if_neg q, over_on ((List.mem_cons.mp hl).resolve_left q)]
theorem over_of {m m₁ : Str → Option Value} (ks : List Str) (h : ∀ y, y ∉ ks → m₁ y = m y) : m₁ = over ks m₁ m := by
  funext y
  by_cases e : y ∈ ks
  · rw [over_on e]
  · rw [over_off e, h y e]
/-- locals that differ from m at the named ones alone -/
inductive But (ks : List Str) (m : Str → Option Value) : (Str → Option Value) → Prop
  | refl : But ks m m
  | over {c} : But ks m (over ks c m)
  | sub {ks' c} {m₁ : Str → Option Value} : (∀ k ∈ ks', k ∈ ks) → But ks m m₁ → But ks m (Mine.over ks' c m₁)
  | set {m₁ : Str → Option Value} {k : Str} {v : Value} : k ∈ ks → But ks m m₁ → But ks m (fun y => if y = k then some v else m₁ y)
theorem But.same {ks : List Str} {m m₁ : Str → Option Value} (b : But ks m m₁) : ∀ y, y ∉ ks → m₁ y = m y := by
  induction b with
  | refl => exact fun _ _ => rfl
  | over => exact fun y hy => over_off hy
  | sub hk _ ih => exact fun y hy => (over_off (fun q => hy (hk y q))).trans (ih y hy)
  | set hk _ ih => exact fun y hy => (if_neg (fun q => hy (by rw [q]; exact hk))).trans (ih y hy)
/-- what a turn leaves that changes some locals alone -/
noncomputable def SamePost (h₀ : Heap) (L I : Addr) (s : Shared) (ks : List Str) (m : Str → Option Value) (news : List (Addr × Obj)) (o : Obj) (Q : Flow → Shared → Prop) (f : Flow) (s₂ : Shared) : Prop := match f with
  | .next | .cont => ∃ m₂ h tk, But ks m m₂ ∧ Fr h₀ L h m₂ ∧ News h₀ L h ((I, o) :: news) ∧ s₂ = { s with heap := h, toks := tk }
  | .brk => Q .next s₂
  | .ret v => Q (.ret v) s₂
section
variable {prog : Program} {w : World} {A : Around} {E : Value → Shared → Prop} {s : Shared} {h₀ : Heap} {L I : Addr} {m : Str → Option Value} {news : List (Addr × Obj)} {ks : List Str} {o : Obj} {Q : Flow → Shared → Prop}
theorem SamePost.next {m₂ h tk} (F : Fr h₀ L h m₂) (N : News h₀ L h ((I, o) :: news)) (b : But ks m m₂) : SamePost h₀ L I s ks m news o Q .next { s with heap := h, toks := tk } := ⟨m₂, h, tk, b, F, N, rfl⟩
theorem SamePost.cont {m₂ h tk} (F : Fr h₀ L h m₂) (N : News h₀ L h ((I, o) :: news)) (b : But ks m m₂) : SamePost h₀ L I s ks m news o Q .cont { s with heap := h, toks := tk } := ⟨m₂, h, tk, b, F, N, rfl⟩
theorem SamePost.brk {s₂ : Shared} (h : Q .next s₂) : SamePost h₀ L I s ks m news o Q .brk s₂ := h
theorem forLoop_same {env : Env} {x : Str} {px : Pos} {body orelse : List Stmt} {n : Nat} {P : Nat → Value → Prop} {Ok : Nat → Obj → Prop} {o : Obj} (S : Steps prog w A I n P Ok) (ks : List Str)
    (F : Fr h₀ env.locals s.heap m) (N : News h₀ env.locals s.heap ((I, o) :: news)) (hI : ∀ p ∈ news, p.1 ≠ I) (ho : Ok 0 o)
    (hx : env.kindOf x = some .local) (hp : (env.scope.kind == .class || (env.scope.kind == .module && env.locals != env.globals)) = false) (hE : PassesOwn (model prog w) A env E)
    (step : ∀ i v c o₁ h₁ tk₁, i < n → P i v → Ok (i + 1) o₁ → Fr h₀ env.locals h₁ (fun y => if y = x then some v else over ks c m y) → News h₀ env.locals h₁ ((I, o₁) :: news) →
      wpAny (model prog w) A (execs body env) (SamePost h₀ env.locals I s ks m news o₁ Q) E { s with heap := h₁, toks := tk₁ })
    (done : ∀ c h₁ tk₁, Fr h₀ env.locals h₁ (over ks c m) → News h₀ env.locals h₁ news → wpAny (model prog w) A (execs orelse env) Q E { s with heap := h₁, toks := tk₁ }) :
    codeAny (model prog w) A (.forLoop (.Name x px) (.ref I) body orelse env) (fun r s' => match r with | .ok f => Q f s' | .error e => cameBackBy (model prog w) A env E e s') s := by
  refine forLoop_led S F N hI ho hx hp hE (fun i m' n' g' => But ks m m' ∧ n' = news ∧ g' = s.gens) ⟨.refl, rfl, rfl⟩ (fun i v m₁ news₁ o₁ h₁ gs₁ tk₁ hi hP hJ hI₁ hok F₁ N₁ => ?_) (fun m₁ news₁ h₁ gs₁ tk₁ hJ F₁ N₁ => ?_)
  · obtain ⟨hb, rfl, rfl⟩ := hJ
    rw [over_of ks hb.same] at F₁
    refine wpAny_mono (step i v m₁ o₁ h₁ tk₁ hi hP hok F₁ N₁) (fun f s₃ h₃ => ?_) fun _ _ e => e
    cases f with
    | next =>
      obtain ⟨m₂, h, tk, b, F₂, N₂, rfl⟩ := h₃
      exact ⟨m₂, _, F₂, N₂, hI₁, ⟨b, rfl, rfl⟩, h, _, tk, rfl⟩
    | cont =>
      obtain ⟨m₂, h, tk, b, F₂, N₂, rfl⟩ := h₃
      exact ⟨m₂, _, F₂, N₂, hI₁, ⟨b, rfl, rfl⟩, h, _, tk, rfl⟩
    | brk => exact h₃
    | ret v => exact h₃
  · obtain ⟨hb, rfl, rfl⟩ := hJ
    rw [over_of ks hb.same] at F₁
    exact done m₁ h₁ tk₁ F₁ N₁
/-- over one of the two texts of signs -/
theorem forLoop_signs {env : Env} {x : Str} {sig : Str} {t : Tok} {px : Pos} {body orelse : List Stmt} {o : Obj} (hh : A.handled = none) (ks : List Str)
    (F : Fr h₀ env.locals s.heap m) (N : News h₀ env.locals s.heap ((I, o) :: news)) (hI : ∀ p ∈ news, p.1 ≠ I) (ho : StrItOk sig t 0 o)
    (hx : env.kindOf x = some .local) (hp : (env.scope.kind == .class || (env.scope.kind == .module && env.locals != env.globals)) = false) (hE : PassesOwn (model prog w) A env E)
    (step : ∀ i y u c o₁ h₁ tk₁, i < sig.cps.size → (∃ k, sig.cps[i]? = some k ∧ y = ⟨#[k]⟩) → Fr h₀ env.locals h₁ (fun z => if z = x then some (.str y u) else over ks c m z) → News h₀ env.locals h₁ ((I, o₁) :: news) →
      wpAny (model prog w) A (execs body env) (SamePost h₀ env.locals I s ks m news o₁ Q) E { s with heap := h₁, toks := tk₁ })
    (done : ∀ c h₁ tk₁, Fr h₀ env.locals h₁ (over ks c m) → News h₀ env.locals h₁ news → wpAny (model prog w) A (execs orelse env) Q E { s with heap := h₁, toks := tk₁ }) :
    codeAny (model prog w) A (.forLoop (.Name x px) (.ref I) body orelse env) (fun r s' => match r with | .ok f => Q f s' | .error e => cameBackBy (model prog w) A env E e s') s := by
  refine forLoop_same (steps_str hh) ks F N hI ho hx hp hE (fun i v c o₁ h₁ tk₁ hi hP _ F₁ N₁ => ?_) done
  obtain ⟨k, u, h1, rfl⟩ := hP
  exact step i _ u c o₁ h₁ tk₁ hi ⟨k, h1, rfl⟩ F₁ N₁
/-- over a range down to one -/
theorem forLoop_down {env : Env} {x : Str} {p : Nat} {px : Pos} {body orelse : List Stmt} {o : Obj} (hh : A.handled = none) (ks : List Str)
    (F : Fr h₀ env.locals s.heap m) (N : News h₀ env.locals s.heap ((I, o) :: news)) (hI : ∀ p ∈ news, p.1 ≠ I) (ho : RanItOk p p (-1) 0 o)
    (hx : env.kindOf x = some .local) (hp : (env.scope.kind == .class || (env.scope.kind == .module && env.locals != env.globals)) = false) (hE : PassesOwn (model prog w) A env E)
    (step : ∀ (j : Nat) u c o₁ h₁ tk₁, j < p → Fr h₀ env.locals h₁ (fun z => if z = x then some (.int ((j : Int) + 1) u) else over ks c m z) → News h₀ env.locals h₁ ((I, o₁) :: news) →
      wpAny (model prog w) A (execs body env) (SamePost h₀ env.locals I s ks m news o₁ Q) E { s with heap := h₁, toks := tk₁ })
    (done : ∀ c h₁ tk₁, Fr h₀ env.locals h₁ (over ks c m) → News h₀ env.locals h₁ news → wpAny (model prog w) A (execs orelse env) Q E { s with heap := h₁, toks := tk₁ }) :
    codeAny (model prog w) A (.forLoop (.Name x px) (.ref I) body orelse env) (fun r s' => match r with | .ok f => Q f s' | .error e => cameBackBy (model prog w) A env E e s') s := by
  refine forLoop_same (n := p) (steps_range hh) ks F N hI ho hx hp hE (fun i v c o₁ h₁ tk₁ hi hP _ F₁ N₁ => ?_) done
  obtain ⟨u, rfl⟩ := hP
  rw [show (p : Int) + (i : Int) * (-1) = ((p - 1 - i : Nat) : Int) + 1 by omega] at F₁
  exact step (p - 1 - i) u c o₁ h₁ tk₁ (by omega) F₁ N₁
/-- a range with nothing in it -/
theorem forLoop_none {env : Env} {x : Str} {px : Pos} {body orelse : List Stmt} {o : Obj} (hh : A.handled = none)
    (F : Fr h₀ env.locals s.heap m) (N : News h₀ env.locals s.heap ((I, o) :: news)) (hI : ∀ p ∈ news, p.1 ≠ I) (ho : RanItOk (0 : Nat) (0 : Nat) (-1) 0 o)
    (hx : env.kindOf x = some .local) (hp : (env.scope.kind == .class || (env.scope.kind == .module && env.locals != env.globals)) = false) (hE : PassesOwn (model prog w) A env E)
    (done : ∀ h₁ tk₁, Fr h₀ env.locals h₁ m → News h₀ env.locals h₁ news → wpAny (model prog w) A (execs orelse env) Q E { s with heap := h₁, toks := tk₁ }) :
    codeAny (model prog w) A (.forLoop (.Name x px) (.ref I) body orelse env) (fun r s' => match r with | .ok f => Q f s' | .error e => cameBackBy (model prog w) A env E e s') s :=
  forLoop_down (p := 0) hh [] F N hI ho hx hp hE (fun j _ _ _ _ _ hj _ _ => absurd hj (Nat.not_lt_zero _)) fun _ => done
end
end
section
noncomputable def WordTxt (x : Str) : Prop := 1 ≤ x.length ∧ x.length ≤ 1000 ∧ ∀ k, k < 97 → (Txt.item x (-1) == (⟨#[k]⟩ : Str)) = false
theorem ite_neg {c P Q : Prop} [Decidable c] (h : ¬ c) (q : Q) : if c then P else Q := by rw [if_neg h]; exact q
theorem ite_pos {c P Q : Prop} [Decidable c] (h : c) (q : P) : if c then P else Q := by rw [if_pos h]; exact q
theorem pair_item {prog : Program} {w : World} {A : Around} {E : Value → Shared → Prop} {s : Shared} {h₀ : Heap} {L : Addr} {news : List (Addr × Obj)} {value slice : Expr} {a : Addr} {x y : Str} {t1 t2 : Tok} {k : Int} {u : Tok} {j : Nat} {v : Value} {Q : Value → Shared → Prop} (N : News h₀ L s.heap news) (hm : (a, tupObj x y t1 t2) ∈ news)
    (hlo : -(2 ^ 63) ≤ k) (hhi : k < 2 ^ 63) (hj : seqIndex? k 2 = some j) (hx : [Value.str x t1, .str y t2][j]? = some v) (h : Q v s)
    (hs : subscripted slice false (.ref a) (.int k u) = operate [.ref a, .int k u] (getItem (.ref a) (.int k u))) :
    wpAny (model prog w) A (subscriptTail value slice (.ref a) (.int k u)) Q E s :=
  item_tupleT (l := [Value.str x t1, .str y t2]) (News.isTup N hm) hlo hhi hj hx h hs
section
variable {prog : Program} {w : World} {A : Around} {E : Value → Shared → Prop} {s : Shared} {h₀ : Heap} {L I : Addr} {m : Str → Option Value} {news : List (Addr × Obj)} {ks : List Str} {o : Obj} {Q : Flow → Shared → Prop}
theorem signs_size : (Str.ofString ";, \t").cps.size = 4 := by decide +kernel
theorem signs_at0 : (Str.ofString ";, \t").cps[0]? = some 59 := by decide +kernel
theorem signs_at1 : (Str.ofString ";, \t").cps[1]? = some 44 := by decide +kernel
theorem signs_at2 : (Str.ofString ";, \t").cps[2]? = some 32 := by decide +kernel
theorem forLoop_signs3 {env : Env} {x : Str} {t : Tok} {px : Pos} {body orelse : List Stmt} {o : Obj} (hh : A.handled = none) (ks : List Str)
    (F : Fr h₀ env.locals s.heap m) (N : News h₀ env.locals s.heap ((I, o) :: news)) (hI : ∀ p ∈ news, p.1 ≠ I) (ho : StrItOk (Str.ofString ";, \t") t 0 o)
    (hx : env.kindOf x = some .local) (hp : (env.scope.kind == .class || (env.scope.kind == .module && env.locals != env.globals)) = false) (hE : PassesOwn (model prog w) A env E)
    (step : ∀ k u c o₁ h₁ tk₁, Txt.isspace ⟨#[k]⟩ = false → k < 97 → Fr h₀ env.locals h₁ (fun z => if z = x then some (.str ⟨#[k]⟩ u) else over ks c m z) → News h₀ env.locals h₁ ((I, o₁) :: news) →
      wpAny (model prog w) A (execs body env) (SamePost h₀ env.locals I s ks m news o₁ fun _ _ => False) E { s with heap := h₁, toks := tk₁ })
    (last : ∀ u c o₁ h₁ tk₁, Fr h₀ env.locals h₁ (fun z => if z = x then some (.str (Str.ofString " ") u) else over ks c m z) → News h₀ env.locals h₁ ((I, o₁) :: news) →
      wpAny (model prog w) A (execs body env) (FirstPost Q) E { s with heap := h₁, toks := tk₁ }) :
    codeAny (model prog w) A (.forLoop (.Name x px) (.ref I) body orelse env) (fun r s' => match r with | .ok f => Q f s' | .error e => cameBackBy (model prog w) A env E e s') s := by
  refine forLoop_led (steps_str hh) F N hI ho hx hp hE (fun i m' n' g' => i ≤ 2 ∧ But ks m m' ∧ n' = news ∧ g' = s.gens) ⟨by omega, .refl, rfl, rfl⟩ (fun i v m₁ news₁ o₁ h₁ gs₁ tk₁ hi hP hJ hI₁ hok F₁ N₁ => ?_) (fun m₁ news₁ h₁ gs₁ tk₁ hJ F₁ N₁ => ?_)
  · obtain ⟨h2, hb, rfl, rfl⟩ := hJ
    rw [over_of ks hb.same] at F₁
    obtain ⟨k, u, h1, rfl⟩ := hP
    by_cases e2 : i = 2
    · subst e2
      rw [signs_at2] at h1
      cases h1
      refine wpAny_mono (last u m₁ o₁ h₁ tk₁ F₁ N₁) (fun f s₃ h₃ => ?_) fun _ _ e => e
      cases f with
      | next => exact h₃.elim
      | cont => exact h₃.elim
      | brk => exact h₃
      | ret v => exact h₃
    · have hk : k = 59 ∨ k = 44 := by
        by_cases e0 : i = 0
        · subst e0
          rw [signs_at0] at h1
          exact .inl (Option.some.inj h1).symm
        · have e1 : i = 1 := by omega
          subst e1
          rw [signs_at1] at h1
          exact .inr (Option.some.inj h1).symm
      refine wpAny_mono (step k u m₁ o₁ h₁ tk₁ (by rcases hk with rfl | rfl <;> decide +kernel) (by omega) F₁ N₁) (fun f s₃ h₃ => ?_) fun _ _ e => e
      cases f with
      | next =>
        obtain ⟨m₂, h, tk, b, F₂, N₂, rfl⟩ := h₃
        exact ⟨m₂, _, F₂, N₂, hI₁, ⟨by omega, b, rfl, rfl⟩, h, _, tk, rfl⟩
      | cont =>
        obtain ⟨m₂, h, tk, b, F₂, N₂, rfl⟩ := h₃
        exact ⟨m₂, _, F₂, N₂, hI₁, ⟨by omega, b, rfl, rfl⟩, h, _, tk, rfl⟩
      | brk => exact h₃.elim
      | ret v => exact h₃.elim
  · exfalso
    have := hJ.1
    rw [signs_size] at this
    omega
theorem forLoop_parts {env : Env} {x : Str} {px : Pos} {body orelse : List Stmt} {o : Obj} {parts : List Part} {z : Part} {led₀ : List (Addr × Obj)} {ac da : Addr} {nn k : Nat} (hk : k < 97) (hh : A.handled = none) (ks : List Str) (_hA : (ac, accObj 178 da (refs (parts ++ [z])) nn) ∈ news) (hT : ∀ q ∈ parts, q.obj ∈ led₀) (hG : ∀ q ∈ parts, WordTxt q.txt)
    (F : Fr h₀ env.locals s.heap m) (N : News h₀ env.locals s.heap ((I, o) :: news)) (hI : ∀ p ∈ news, p.1 ≠ I) (ho : RanItOk (parts.length : Nat) (parts.length : Nat) (-1) 0 o)
    (hx : env.kindOf x = some .local) (hp : (env.scope.kind == .class || (env.scope.kind == .module && env.locals != env.globals)) = false) (hE : PassesOwn (model prog w) A env E)
    (step : ∀ (j : Nat) (q : Part) u c o₁ h₁ tk₁, j < parts.length → 1 ≤ q.txt.length → q.txt.length ≤ 1000 → (Txt.item q.txt (-1) == (⟨#[k]⟩ : Str)) = false → (refs (parts ++ [z]))[((j : Int) + 1 - 1).toNat]? = some (.ref q.at_) → (q.at_, tupObj q.fws q.txt q.t1 q.t2) ∈ led₀ →
      Fr h₀ env.locals h₁ (fun z => if z = x then some (.int ((j : Int) + 1) u) else over ks c m z) → News h₀ env.locals h₁ ((I, o₁) :: news) →
      wpAny (model prog w) A (execs body env) (SamePost h₀ env.locals I s ks m news o₁ Q) E { s with heap := h₁, toks := tk₁ })
    (done : ∀ c h₁ tk₁, Fr h₀ env.locals h₁ (over ks c m) → News h₀ env.locals h₁ news → wpAny (model prog w) A (execs orelse env) Q E { s with heap := h₁, toks := tk₁ }) :
    codeAny (model prog w) A (.forLoop (.Name x px) (.ref I) body orelse env) (fun r s' => match r with | .ok f => Q f s' | .error e => cameBackBy (model prog w) A env E e s') s := by
  refine forLoop_down (p := parts.length) hh ks F N hI ho hx hp hE (fun j u c o₁ h₁ tk₁ hj F₁ N₁ => ?_) done
  have g := hG _ (List.getElem_mem hj)
  refine step j parts[j] u c o₁ h₁ tk₁ hj g.1 g.2.1 (g.2.2 k hk) ?_ (hT _ (List.getElem_mem hj)) F₁ N₁
  rw [show ((j : Int) + 1 - 1).toNat = j by omega]
  simp [refs, List.getElem?_append_left, hj]
end
end
section
theorem takes_cons {x : Addr × Obj} {l r small : List (Addr × Obj)} (t : Take x l r) (h : ∀ p ∈ small, p ∈ r) : ∀ p ∈ x :: small, p ∈ l := fun p hp => (t.sub p).mp (by
  rcases List.mem_cons.mp hp with rfl | hp
  · exact List.mem_cons_self
  · exact List.mem_cons_of_mem _ (h p hp))

theorem newline_first_use {w : World} {p : Program} {loose : List Str} {mean : ExcName → Option Value} {mg mb : Str → Option Value}
    {dp un : Nat} {gd : Option (List Code)} {cn : Str} {cs : Scope} {a : Addr} {ccd : Value} {cl : List (Str × Addr)} {outer : List Env} {A₀ : Around} {base h₀ : Heap} {L : Addr} {m : Str → Option Value} {led : List (Addr × Obj)} {s : Shared} {Q E : Value → Shared → Prop}
    {f df ln ac da : Addr} {ft : FToks} {wi : Int} {sig : Str} {vs : Array Value} {nl n : Nat} {i : Int} {ti tk : Tok} {tb ub : Array Value} {r1 r2 r3 r4 r5 r6 r : List (Addr × Obj)}
    (B : Below A₀ base outer h₀) (F : Fr h₀ L s.heap m) (X : (Mine.hd.heap_39 w.params).In h₀) (N : News h₀ L s.heap led) (T : Top p loose mean mg mb h₀) (hk : cs.kind = .function)
    (t1 : Take (f, instObj 94 df) led r1)
    (t2 : Take (df, fmtDict w ft wi sig ln ac) r1 r2)
    (t3 : Take (ln, listOf (vs) (nl)) r2 r3)
    (t4 : Take (ac, accObj 178 da (refs []) n) r3 r4)
    (t5 : Take (da, initDict w i ti tk) r4 r5)
    (t6 : Take (140, tabObj tb) r5 r6)
    (t7 : Take (147, tabObj ub) r6 r)
    (hd : dp + 8 < recursionLimit) (hu : un + 200 < cLine) (hg : AllBare s.gens) (ht : TabOk lenPos tb) (hu2 : TabOk strPos ub) (hi0 : 0 ≤ i) (hi1 : i ≤ 1000000) (hvs : vs.size ≤ 1000) (hi : i ≠ 0) (e0 : f ≠ df) (e1 : f ≠ ln) (e2 : f ≠ ac) (e3 : f ≠ da) (e4 : f ≠ 140) (e5 : f ≠ 147) (e6 : df ≠ ln) (e7 : df ≠ ac) (e8 : df ≠ da) (e9 : df ≠ 140) (e10 : df ≠ 147) (e11 : ln ≠ ac) (e12 : ln ≠ da) (e13 : ln ≠ 140) (e14 : ln ≠ 147) (e15 : ac ≠ da) (e16 : ac ≠ 140) (e17 : ac ≠ 147) (e18 : da ≠ 140) (e19 : da ≠ 147) (q0 : ∀ p ∈ r, p.1 ≠ f) (q1 : ∀ p ∈ r, p.1 ≠ df) (q2 : ∀ p ∈ r, p.1 ≠ ln) (q3 : ∀ p ∈ r, p.1 ≠ ac) (q4 : ∀ p ∈ r, p.1 ≠ da) (q5 : ∀ p ∈ r, p.1 ≠ 140) (q6 : ∀ p ∈ r, p.1 ≠ 147)
    (hret : ∀ (x : Str) (t u : Tok) (n' : Nat) (tb' ub' : Array Value) h' tk' gs', x = "" → AllBare gs' → TabOk lenPos tb' → TabOk strPos ub' → Fr h₀ L h' m → News h₀ L h' ((f, instObj 94 df) :: (df, fmtDict w ft wi sig ln ac) :: (ln, listOf (vs.push (Value.str x t)) (nl + 1)) :: (ac, accObj 178 da (refs []) n') :: (da, initDict w 0 u tk) :: (140, tabObj tb') :: (147, tabObj ub') :: r) → Q .none { s with heap := h', gens := gs', toks := tk' }) :
    wpAny (model PySem.Challenge.rw_pm0058_01.row.prog w) (ktrTop dp un gd cn cs L a ccd cl outer) (call (.ref 56) [.ref f]) Q E s := by
  exact newline_first_told dp un gd cn cs a ccd cl outer A₀ base h₀ L m r s Q E f df ln ac da ft wi sig vs nl n i ti tk tb ub B F X (Mine.news_sub N (takes_cons t1 (takes_cons t2 (takes_cons t3 (takes_cons t4 (takes_cons t5 (takes_cons t6 (takes_cons t7 (fun _ h => h))))))))) T hk hd hu hg ht hu2 hi0 hi1 hvs hi e0 e1 e2 e3 e4 e5 e6 e7 e8 e9 e10 e11 e12 e13 e14 e15 e16 e17 e18 e19 q0 q1 q2 q3 q4 q5 q6 hret
end
theorem lines8 : True := by
  k_with "L51" => (k_here; k_dflt (refine wpAny_For ?_))
  k_with "L52" => (k_here; k_dflt (refine' Mine.pyIter_str ?k1q52 ?k2q52 ?k3q52 ?_; (case k1q52 => k_asm); (case k2q52 => k_asm); (case k3q52 => first | assumption | decide +kernel)); intro I'q9 o'q9 h'q9 l1q9 hokq9 F'q9 N'q9; k_lt l1q9)
  k_with "L53" => (k_here; k_dflt (refine' Mine.pyIter_down ?k1q53 ?k2q53 ?k3q53 ?k4q53 ?k5q53 ?_; (case k1q53 => k_asm); (case k2q53 => k_asm); (case k3q53 => assumption); (case k4q53 => exact Mine.len_snoc_sub); (case k5q53 => omega)); intro I'q9 o'q9 h'q9 l1q9 hokq9 F'q9 N'q9; k_lt l1q9)
  k_with "L56" => (k_here; (with_reducible show wpAny _ _ (subscriptTail _ _ (Value.ref _) (Value.int _ _)) _ _ _); k_dflt (refine' Mine.acc_sub_int ?k1q56 ?k2q56 ?k3q56 ?k4q56 ?k5q56 ?k6q56 ?k7q56 ?k8q56 ?_ ?k9q56; (case k1q56 => k_asm); (case k2q56 => k_asm); (case k3q56 => k_asm); (case k4q56 => k_mem); (case k5q56 => k_mem); (case k6q56 => omega); (case k7q56 => exact Mine.refs_last); (case k8q56 => omega); (case k9q56 => with_unfolding_all rfl)))
  k_with "L57" => (k_here; k_dflt (refine' Mine.FirstPost.brk ?_); k_whole)
  trivial
local macro_rules | `(tactic| walk_at "exec For Name Attribute cons cons") => `(tactic| k_extra "L51")
local macro_rules | `(tactic| walk_at "exec For Name Call cons cons") => `(tactic| k_extra "L51")
local macro_rules | `(tactic| walk_at "pyIter str") => `(tactic| k_extra "L52")
local macro_rules | `(tactic| walk_at "pyIter ref") => `(tactic| k_extra "L53")
local macro_rules | `(tactic| walk_at "subscriptTail Name Name ref int") => `(tactic| k_extra "L56")
local macro_rules | `(tactic| walk_at "FirstPost") => `(tactic| k_extra "L57")
section
theorem lines9 : True := by
  k_with "L54" => (k_here; k_dflt (refine' Mine.forLoop_space_first ?hhq54 ?k1q54 ?k2q54 ?k3q54 ?k4q54 ?k5q54 ?k6q54 ?k7q54 ?k8q54 ?_); (case hhq54 => exact rfl); (case k1q54 => k_asm); (case k2q54 => k_asm); (case k3q54 => k_all); (case k4q54 => assumption); (case k5q54 => first | decide +kernel | assumption); (case k6q54 => exact rfl); (case k7q54 => exact rfl); (case k8q54 => passes_own); intro u'q9 o'q9 h'q9 tk'q9 F'q9 N'q9)
  k_with "L55" => (k_here; k_dflt (refine' Mine.forLoop_down_first ?hhq55 ?k1q55 ?k2q55 ?k3q55 ?k4q55 ?k5q55 ?k6q55 ?k7q55 ?k8q55 ?_); (case hhq55 => exact rfl); (case k1q55 => k_asm); (case k2q55 => k_asm); (case k3q55 => k_all); (case k4q55 => assumption); (case k5q55 => first | decide +kernel | assumption); (case k6q55 => exact rfl); (case k7q55 => exact rfl); (case k8q55 => passes_own); intro u'q9 o'q9 h'q9 tk'q9 F'q9 N'q9)
  trivial
local macro_rules | `(tactic| walk_at "codeAny") => `(tactic| k_extra "L54")
local macro_rules | `(tactic| walk_at "codeAny") => `(tactic| k_extra "L55")

theorem append_fit_told : ∀ {w : World} {p : Program} {loose : List Str} {mean : ExcName → Option Value} {mg mb : Str → Option Value}
    (dp un : Nat) (gd : Option (List Code)) (cn : Str) (cs : Scope) (a : Addr) (ccd : Value) (cl : List (Str × Addr)) (outer : List Env) (A₀ : Around) (base h₀ : Heap) (L : Addr) (m : Str → Option Value) (news : List (Addr × Obj)) (s : Shared) (Q E : Value → Shared → Prop)
    (f df ln ac da : Addr) (ft : FToks) (wi : Int) (sig : Str) (vs : Array Value) (nl n : Nat) (i : Int) (ti tk : Tok) (tb ub : Array Value) (parts : List Part) (y : Str) (tx ty : Tok)
    (B : Below A₀ base outer h₀) (F : Fr h₀ L s.heap m) (X : (Mine.hd.heap_39 w.params).In h₀) (N : News h₀ L s.heap ((f, instObj 94 df) :: (df, fmtDict w ft wi sig ln ac) :: (ln, listOf (vs) (nl)) :: (ac, accObj 178 da (refs parts) n) :: (da, initDict w i ti tk) :: (140, tabObj tb) :: (147, tabObj ub) :: news)) (T : Top p loose mean mg mb h₀) (hk : cs.kind = .function)
    (hd : dp + 12 < recursionLimit) (hu : un + 300 < cLine) (hg : AllBare s.gens) (ht : TabOk lenPos tb) (hu2 : TabOk strPos ub) (hi0 : 0 ≤ i) (hi1 : i ≤ 1000000) (hvs : vs.size ≤ 1000) (hT : ∀ q ∈ parts, q.obj ∈ news) (hp0 : 0 ≤ psum parts) (hp1 : psum parts ≤ 1000000) (hn : parts.length ≤ 400) (hq : ∀ q ∈ parts, q.fws.length ≤ 1000 ∧ q.txt.length ≤ 1000) (hy : y.length ≤ 1000) (hfit : i + (psum parts + (1 + (y.length : Int))) ≤ wi) (e0 : f ≠ df) (e1 : f ≠ ln) (e2 : f ≠ ac) (e3 : f ≠ da) (e4 : f ≠ 140) (e5 : f ≠ 147) (e6 : df ≠ ln) (e7 : df ≠ ac) (e8 : df ≠ da) (e9 : df ≠ 140) (e10 : df ≠ 147) (e11 : ln ≠ ac) (e12 : ln ≠ da) (e13 : ln ≠ 140) (e14 : ln ≠ 147) (e15 : ac ≠ da) (e16 : ac ≠ 140) (e17 : ac ≠ 147) (e18 : da ≠ 140) (e19 : da ≠ 147) (r0 : ∀ p ∈ news, p.1 ≠ f) (r1 : ∀ p ∈ news, p.1 ≠ df) (r2 : ∀ p ∈ news, p.1 ≠ ln) (r3 : ∀ p ∈ news, p.1 ≠ ac) (r4 : ∀ p ∈ news, p.1 ≠ da) (r5 : ∀ p ∈ news, p.1 ≠ 140) (r6 : ∀ p ∈ news, p.1 ≠ 147)
    (hret : ∀ (tp : Addr) (n' : Nat) (tb' ub' : Array Value) h' tk' gs', AllBare gs' → TabOk lenPos tb' → TabOk strPos ub' → Fr h₀ L h' m → News h₀ L h' ((tp, tupObj " " y tx ty) :: (f, instObj 94 df) :: (df, fmtDict w ft wi sig ln ac) :: (ln, listOf (vs) (nl)) :: (ac, accObj 178 da (refs (parts ++ [⟨tp, " ", y, tx, ty⟩])) n') :: (da, initDict w i ti tk) :: (140, tabObj tb') :: (147, tabObj ub') :: news) → (∀ p ∈ news, p.1 < tp) → Q .none { s with heap := h', gens := gs', toks := tk' }),
    wpAny (model PySem.Challenge.rw_pm0058_01.row.prog w) (ktrTop dp un gd cn cs L a ccd cl outer) (call (.ref 91) [.ref f, .str " " tx, .str y ty]) Q E s := by
  k_fill
  intro w p loose mean mg mb dp un gd cn cs a ccd cl outer A₀ base h₀ L m news s Q E f df ln ac da ft wi sig vs nl n i ti tk tb ub parts y tx ty B F X N T hk hd hu hg ht hu2 hi0 hi1 hvs hT hp0 hp1 hn hq hy hfit e0 e1 e2 e3 e4 e5 e6 e7 e8 e9 e10 e11 e12 e13 e14 e15 e16 e17 e18 e19 r0 r1 r2 r3 r4 r5 r6 hret
  refine wpAny_call ?_
  k_dflt ktr_enter
  k_steps
  all_goals first
    | (exfalso; exact psum_big (by with_reducible assumption) (by with_reducible assumption))
    | exact hret _ _ _ _ _ _ _ (by assumption) (by assumption) (by assumption) (by k_asm) (by ktr_rel) (by assumption)
end
local macro_rules | `(tactic| walk_at "no key 1") => `(tactic| skip)
section
local macro_rules | `(tactic| walk_at "codeAny") => `(tactic| k_extra "L54")
local macro_rules | `(tactic| walk_at "codeAny") => `(tactic| k_extra "L55")

theorem append_full_told : ∀ {w : World} {p : Program} {loose : List Str} {mean : ExcName → Option Value} {mg mb : Str → Option Value}
    (dp un : Nat) (gd : Option (List Code)) (cn : Str) (cs : Scope) (a : Addr) (ccd : Value) (cl : List (Str × Addr)) (outer : List Env) (A₀ : Around) (base h₀ : Heap) (L : Addr) (m : Str → Option Value) (news : List (Addr × Obj)) (s : Shared) (Q E : Value → Shared → Prop)
    (f df ln ac da : Addr) (ft : FToks) (wi : Int) (vs : Array Value) (nl n : Nat) (i : Int) (ti tk : Tok) (tb ub : Array Value) (parts : List Part) (y : Str) (tx ty : Tok)
    (B : Below A₀ base outer h₀) (F : Fr h₀ L s.heap m) (X : (Mine.hd.heap_39 w.params).In h₀) (N : News h₀ L s.heap ((f, instObj 94 df) :: (df, fmtDict w ft wi " " ln ac) :: (ln, listOf (vs) (nl)) :: (ac, accObj 178 da (refs parts) n) :: (da, initDict w i ti tk) :: (140, tabObj tb) :: (147, tabObj ub) :: news)) (T : Top p loose mean mg mb h₀) (hk : cs.kind = .function)
    (hd : dp + 12 < recursionLimit) (hu : un + 300 < cLine) (hg : AllBare s.gens) (ht : TabOk lenPos tb) (hu2 : TabOk strPos ub) (hi0 : 0 ≤ i) (hi1 : i ≤ 1000000) (hvs : vs.size ≤ 1000) (hT : ∀ q ∈ parts, q.obj ∈ news) (hp0 : 0 ≤ psum parts) (hp1 : psum parts ≤ 1000000) (hn : parts.length ≤ 400) (hq : ∀ q ∈ parts, q.fws.length ≤ 1000 ∧ q.txt.length ≤ 1000) (hy : y.length ≤ 1000) (hne : parts ≠ []) (hfit : ¬ i + (psum parts + (1 + (y.length : Int))) ≤ wi) (e0 : f ≠ df) (e1 : f ≠ ln) (e2 : f ≠ ac) (e3 : f ≠ da) (e4 : f ≠ 140) (e5 : f ≠ 147) (e6 : df ≠ ln) (e7 : df ≠ ac) (e8 : df ≠ da) (e9 : df ≠ 140) (e10 : df ≠ 147) (e11 : ln ≠ ac) (e12 : ln ≠ da) (e13 : ln ≠ 140) (e14 : ln ≠ 147) (e15 : ac ≠ da) (e16 : ac ≠ 140) (e17 : ac ≠ 147) (e18 : da ≠ 140) (e19 : da ≠ 147) (r0 : ∀ p ∈ news, p.1 ≠ f) (r1 : ∀ p ∈ news, p.1 ≠ df) (r2 : ∀ p ∈ news, p.1 ≠ ln) (r3 : ∀ p ∈ news, p.1 ≠ ac) (r4 : ∀ p ∈ news, p.1 ≠ da) (r5 : ∀ p ∈ news, p.1 ≠ 140) (r6 : ∀ p ∈ news, p.1 ≠ 147)
    (hret : ∀ (tp : Addr) (x : Str) (t u : Tok) (n' : Nat) (tb' ub' : Array Value) h' tk' gs', x = Txt.join "" ((parts).map fun q => Txt.join "" [q.fws, q.txt]) → AllBare gs' → TabOk lenPos tb' → TabOk strPos ub' → Fr h₀ L h' m → News h₀ L h' ((tp, tupObj " " y tx ty) :: (f, instObj 94 df) :: (df, fmtDict w ft wi " " ln ac) :: (ln, listOf (vs.push (Value.str x t)) (nl + 1)) :: (ac, accObj 178 da (refs [⟨tp, " ", y, tx, ty⟩]) n') :: (da, initDict w 0 u tk) :: (140, tabObj tb') :: (147, tabObj ub') :: news) → (∀ p ∈ news, p.1 < tp) → Q .none { s with heap := h', gens := gs', toks := tk' }),
    wpAny (model PySem.Challenge.rw_pm0058_01.row.prog w) (ktrTop dp un gd cn cs L a ccd cl outer) (call (.ref 91) [.ref f, .str " " tx, .str y ty]) Q E s := by
  k_fill
  intro w p loose mean mg mb dp un gd cn cs a ccd cl outer A₀ base h₀ L m news s Q E f df ln ac da ft wi vs nl n i ti tk tb ub parts y tx ty B F X N T hk hd hu hg ht hu2 hi0 hi1 hvs hT hp0 hp1 hn hq hy hne hfit e0 e1 e2 e3 e4 e5 e6 e7 e8 e9 e10 e11 e12 e13 e14 e15 e16 e17 e18 e19 r0 r1 r2 r3 r4 r5 r6 hret
  have hpl : 0 < parts.length := List.length_pos_iff.mpr hne
  refine wpAny_call ?_
  k_dflt ktr_enter
  k_steps
  all_goals first
    | (exfalso; exact psum_small (by with_reducible assumption) (by with_reducible assumption))
    | exact hret _ _ _ _ _ _ _ _ _ _ rfl (by assumption) (by assumption) (by assumption) (by k_asm) (by ktr_rel) (by assumption)
end
section
theorem lines10 : True := by
  k_with "L58" => (k_here; k_dflt ((show wpAny _ _ (call (Value.ref 56) [Value.ref _]) _ _ _); refine' Mine.newline_first_use ?k1q58 ?k2q58 ?k3q58 ?k4q58 ?k5q58 ?kKq58 ?t1q58 ?t2q58 ?t3q58 ?t4q58 ?t5q58 ?t6q58 ?t7q58 ?kdq58 ?kuq58 ?h1q58 ?h2q58 ?h3q58 ?h4q58 ?h5q58 ?h6q58 ?h7q58 ?h8q58 ?h9q58 ?h10q58 ?h11q58 ?h12q58 ?h13q58 ?h14q58 ?h15q58 ?h16q58 ?h17q58 ?h18q58 ?h19q58 ?h20q58 ?h21q58 ?h22q58 ?h23q58 ?h24q58 ?h25q58 ?h26q58 ?h27q58 ?h28q58 ?h29q58 ?h30q58 ?h31q58 ?h32q58 ?h33q58 ?h34q58 ?_; (case k1q58 => k_asm); (case k2q58 => k_asm); (case k3q58 => k_asm); (case k4q58 => k_asm); (case k5q58 => k_asm); (case kKq58 => first | exact rfl | assumption); (case t1q58 => (repeat (first | exact Mine.Take.head | apply Mine.Take.tail))); (case t2q58 => (repeat (first | exact Mine.Take.head | apply Mine.Take.tail))); (case t3q58 => (repeat (first | exact Mine.Take.head | apply Mine.Take.tail))); (case t4q58 => (repeat (first | exact Mine.Take.head | apply Mine.Take.tail))); (case t5q58 => (repeat (first | exact Mine.Take.head | apply Mine.Take.tail))); (case t6q58 => (repeat (first | exact Mine.Take.head | apply Mine.Take.tail))); (case t7q58 => (repeat (first | exact Mine.Take.head | apply Mine.Take.tail))); (case kdq58 => ktr_room); (case kuq58 => ktr_units); (case h1q58 => assumption); (case h2q58 => assumption); (case h3q58 => assumption); (case h4q58 => first | assumption | omega); (case h5q58 => first | assumption | omega); (case h6q58 => first | assumption | omega | (simp <;> omega)); (case h7q58 => first | assumption | omega); (case h8q58 => (first | with_reducible assumption | exact Ne.symm (by with_reducible assumption) | k_ne)); (case h9q58 => (first | with_reducible assumption | exact Ne.symm (by with_reducible assumption) | k_ne)); (case h10q58 => (first | with_reducible assumption | exact Ne.symm (by with_reducible assumption) | k_ne)); (case h11q58 => (first | with_reducible assumption | exact Ne.symm (by with_reducible assumption) | k_ne)); (case h12q58 => (first | with_reducible assumption | exact Ne.symm (by with_reducible assumption) | k_ne)); (case h13q58 => (first | with_reducible assumption | exact Ne.symm (by with_reducible assumption) | k_ne)); (case h14q58 => (first | with_reducible assumption | exact Ne.symm (by with_reducible assumption) | k_ne)); (case h15q58 => (first | with_reducible assumption | exact Ne.symm (by with_reducible assumption) | k_ne)); (case h16q58 => (first | with_reducible assumption | exact Ne.symm (by with_reducible assumption) | k_ne)); (case h17q58 => (first | with_reducible assumption | exact Ne.symm (by with_reducible assumption) | k_ne)); (case h18q58 => (first | with_reducible assumption | exact Ne.symm (by with_reducible assumption) | k_ne)); (case h19q58 => (first | with_reducible assumption | exact Ne.symm (by with_reducible assumption) | k_ne)); (case h20q58 => (first | with_reducible assumption | exact Ne.symm (by with_reducible assumption) | k_ne)); (case h21q58 => (first | with_reducible assumption | exact Ne.symm (by with_reducible assumption) | k_ne)); (case h22q58 => (first | with_reducible assumption | exact Ne.symm (by with_reducible assumption) | k_ne)); (case h23q58 => (first | with_reducible assumption | exact Ne.symm (by with_reducible assumption) | k_ne)); (case h24q58 => (first | with_reducible assumption | exact Ne.symm (by with_reducible assumption) | k_ne)); (case h25q58 => (first | with_reducible assumption | exact Ne.symm (by with_reducible assumption) | k_ne)); (case h26q58 => (first | with_reducible assumption | exact Ne.symm (by with_reducible assumption) | k_ne)); (case h27q58 => (first | with_reducible assumption | exact Ne.symm (by with_reducible assumption) | k_ne)); (case h28q58 => k_all); (case h29q58 => k_all); (case h30q58 => k_all); (case h31q58 => k_all); (case h32q58 => k_all); (case h33q58 => k_all); (case h34q58 => k_all)); intro x'q9 t'q9 u'q9 n'q9 tb'q9 ub'q9 h'q9 tk'q9 gs'q9 hx'q9 G'q9 b1q9 b2q9 F'q9 N'q9)
  k_with "L59" => (k_here; k_dflt (refine' Mine.pyIter_down ?k1q59 ?k2q59 ?k3q59 ?k4q59 ?k5q59 ?_; (case k1q59 => k_asm); (case k2q59 => k_asm); (case k3q59 => assumption); (case k4q59 => first | exact Mine.len_one_sub | exact Mine.len_snoc_sub); (case k5q59 => omega)); intro I'q9 o'q9 h'q9 l1q9 hokq9 F'q9 N'q9; k_lt l1q9)
  k_with "L60" => (k_here; k_dflt (refine' Mine.forLoop_signs ?hhq60 ["ch"] ?k1q60 ?k2q60 ?k3q60 ?k4q60 ?k6q60 ?k7q60 ?k8q60 (fun i'q9 y'q9 u'q9 c'q9 o'q9 h'q9 tk'q9 hi'q9 hy'q9 F'q9 N'q9 => ?_) (fun c'q9 h'q9 tk'q9 F'q9 N'q9 => ?_); (case hhq60 => exact rfl); (case k1q60 => k_asm); (case k2q60 => k_asm); (case k3q60 => k_all); (case k4q60 => assumption); (case k6q60 => exact rfl); (case k7q60 => exact rfl); (case k8q60 => passes_own)))
  k_with "L61" => (k_here; k_dflt (refine' Mine.forLoop_none ?hhq61 ?k1q61 ?k2q61 ?k3q61 ?k4q61 ?k6q61 ?k7q61 ?k8q61 ?_; (case hhq61 => exact rfl); (case k1q61 => k_asm); (case k2q61 => k_asm); (case k3q61 => k_all); (case k4q61 => assumption); (case k6q61 => exact rfl); (case k7q61 => exact rfl); (case k8q61 => passes_own); intro h'q9 tk'q9 F'q9 N'q9))
  k_with "L62" => (k_here; k_dflt (first | refine' Mine.SamePost.cont ?aq62 ?bq62 ?cq62 | refine' Mine.SamePost.next ?aq62 ?bq62 ?cq62); (case aq62 => k_asm); (case bq62 => ktr_rel); (case cq62 => (repeat (first | exact Mine.But.refl | exact Mine.But.over | refine' Mine.But.set (by decide) ?_ | refine' Mine.But.sub (by decide) ?_))))
  trivial
local macro_rules | `(tactic| walk_at "call ref") => `(tactic| k_extra "L58")

local macro_rules | `(tactic| walk_at "pyIter ref") => `(tactic| k_extra "L59")
local macro_rules | `(tactic| walk_at "codeAny") => `(tactic| k_extra "L60")
local macro_rules | `(tactic| walk_at "codeAny") => `(tactic| k_extra "L61")
local macro_rules | `(tactic| walk_at "SamePost") => `(tactic| k_extra "L62")

theorem append_head_told : ∀ {w : World} {p : Program} {loose : List Str} {mean : ExcName → Option Value} {mg mb : Str → Option Value}
    (dp un : Nat) (gd : Option (List Code)) (cn : Str) (cs : Scope) (a : Addr) (ccd : Value) (cl : List (Str × Addr)) (outer : List Env) (A₀ : Around) (base h₀ : Heap) (L : Addr) (m : Str → Option Value) (news : List (Addr × Obj)) (s : Shared) (Q E : Value → Shared → Prop)
    (f df ln ac da : Addr) (ft : FToks) (wi : Int) (sig : Str) (vs : Array Value) (nl n : Nat) (i : Int) (ti tk : Tok) (tb ub : Array Value) (y : Str) (tx ty : Tok)
    (B : Below A₀ base outer h₀) (F : Fr h₀ L s.heap m) (X : (Mine.hd.heap_39 w.params).In h₀) (N : News h₀ L s.heap ((f, instObj 94 df) :: (df, fmtDict w ft wi sig ln ac) :: (ln, listOf (vs) (nl)) :: (ac, accObj 178 da (refs []) n) :: (da, initDict w i ti tk) :: (140, tabObj tb) :: (147, tabObj ub) :: news)) (T : Top p loose mean mg mb h₀) (hk : cs.kind = .function)
    (hd : dp + 12 < recursionLimit) (hu : un + 300 < cLine) (hg : AllBare s.gens) (ht : TabOk lenPos tb) (hu2 : TabOk strPos ub) (hi0 : 0 ≤ i) (hi1 : i ≤ 1000000) (hvs : vs.size ≤ 1000) (hy : y.length ≤ 1000) (hi : i ≠ 0) (hsg : sig.cps.all (· < 128) = true) (hfit : ¬ i + (1 + (y.length : Int)) ≤ wi) (e0 : f ≠ df) (e1 : f ≠ ln) (e2 : f ≠ ac) (e3 : f ≠ da) (e4 : f ≠ 140) (e5 : f ≠ 147) (e6 : df ≠ ln) (e7 : df ≠ ac) (e8 : df ≠ da) (e9 : df ≠ 140) (e10 : df ≠ 147) (e11 : ln ≠ ac) (e12 : ln ≠ da) (e13 : ln ≠ 140) (e14 : ln ≠ 147) (e15 : ac ≠ da) (e16 : ac ≠ 140) (e17 : ac ≠ 147) (e18 : da ≠ 140) (e19 : da ≠ 147) (r0 : ∀ p ∈ news, p.1 ≠ f) (r1 : ∀ p ∈ news, p.1 ≠ df) (r2 : ∀ p ∈ news, p.1 ≠ ln) (r3 : ∀ p ∈ news, p.1 ≠ ac) (r4 : ∀ p ∈ news, p.1 ≠ da) (r5 : ∀ p ∈ news, p.1 ≠ 140) (r6 : ∀ p ∈ news, p.1 ≠ 147)
    (hret : ∀ (tp : Addr) (x : Str) (t u : Tok) (n' : Nat) (tb' ub' : Array Value) h' tk' gs', x = "" → AllBare gs' → TabOk lenPos tb' → TabOk strPos ub' → Fr h₀ L h' m → News h₀ L h' ((tp, tupObj " " y tx ty) :: (f, instObj 94 df) :: (df, fmtDict w ft wi sig ln ac) :: (ln, listOf (vs.push (Value.str x t)) (nl + 1)) :: (ac, accObj 178 da (refs [⟨tp, " ", y, tx, ty⟩]) n') :: (da, initDict w 0 u tk) :: (140, tabObj tb') :: (147, tabObj ub') :: news) → (∀ p ∈ news, p.1 < tp) → Q .none { s with heap := h', gens := gs', toks := tk' }),
    wpAny (model PySem.Challenge.rw_pm0058_01.row.prog w) (ktrTop dp un gd cn cs L a ccd cl outer) (call (.ref 91) [.ref f, .str " " tx, .str y ty]) Q E s := by
  k_fill
  intro w p loose mean mg mb dp un gd cn cs a ccd cl outer A₀ base h₀ L m news s Q E f df ln ac da ft wi sig vs nl n i ti tk tb ub y tx ty B F X N T hk hd hu hg ht hu2 hi0 hi1 hvs hy hi hsg hfit e0 e1 e2 e3 e4 e5 e6 e7 e8 e9 e10 e11 e12 e13 e14 e15 e16 e17 e18 e19 r0 r1 r2 r3 r4 r5 r6 hret
  have hfit9 : ¬ i + (psum [] + (1 + (y.length : Int))) ≤ wi := by (rw [psum_nil]; omega)
  refine wpAny_call ?_
  k_dflt ktr_enter
  k_steps
  all_goals first
    | (exfalso; exact psum_small hfit9 (by with_reducible assumption))
    | exact hret _ _ _ _ _ _ _ _ _ _ (by assumption) (by assumption) (by assumption) (by assumption) (by k_asm) (by ktr_rel) (by assumption)
end
section
theorem lines11 : True := by
  k_with "L63" => (k_here; k_dflt (refine' Mine.forLoop_signs3 ?hhq63 ["ch", "i", "prevpart"] ?k1q63 ?k2q63 ?k3q63 ?k4q63 ?k6q63 ?k7q63 ?k8q63 (fun k'q9 u'q9 c'q9 o'q9 h'q9 tk'q9 hk'q9 hk2'q9 F'q9 N'q9 => ?_) (fun u'q9 c'q9 o'q9 h'q9 tk'q9 F'q9 N'q9 => ?_); (case hhq63 => exact rfl); (case k1q63 => k_asm); (case k2q63 => k_asm); (case k3q63 => k_all); (case k4q63 => assumption); (case k6q63 => exact rfl); (case k7q63 => exact rfl); (case k8q63 => passes_own)))
  k_with "L64" => (k_here; goal_has Mine.SamePost; k_dflt (refine' Mine.forLoop_parts ?hk9q64 ?hhq64 ["i", "prevpart"] ?kAq64 ?kTq64 ?kGq64 ?k1q64 ?k2q64 ?k3q64 ?k4q64 ?k6q64 ?k7q64 ?k8q64 (fun j'q9 q'q9 u'q9 c'q9 o'q9 h'q9 tk'q9 hj'q9 g1'q9 g2'q9 g3'q9 hr'q9 hq'q9 F'q9 N'q9 => ?_) (fun c'q9 h'q9 tk'q9 F'q9 N'q9 => ?_); (case hhq64 => exact rfl); (case hk9q64 => assumption); (case k1q64 => k_asm); (case k2q64 => k_asm); (case kAq64 => k_mem); (case kTq64 => assumption); (case kGq64 => assumption); (case k3q64 => k_all); (case k4q64 => assumption); (case k6q64 => exact rfl); (case k7q64 => exact rfl); (case k8q64 => passes_own)))
  k_with "L65" => (k_here; goal_has Mine.FirstPost; k_dflt (refine' Mine.forLoop_down_first ?hhq65 ?k1q65 ?k2q65 ?k3q65 ?k4q65 ?k5q65 ?k6q65 ?k7q65 ?k8q65 ?_; (case hhq65 => exact rfl); (case k1q65 => k_asm); (case k2q65 => k_asm); (case k3q65 => k_all); (case k4q65 => assumption); (case k5q65 => first | decide +kernel | assumption); (case k6q65 => exact rfl); (case k7q65 => exact rfl); (case k8q65 => passes_own); intro u'q9 o'q9 h'q9 tk'q9 F'q9 N'q9))
  k_with "L66" => (k_here; (with_reducible show wpAny _ _ (subscriptTail _ _ (Value.ref _) (Value.int _ _)) _ _ _); k_dflt (refine' Mine.acc_sub_int ?k1q66 ?k2q66 ?k3q66 ?k4q66 ?k5q66 ?k6q66 ?k7q66 ?k8q66 ?_ ?k9q66; (case k1q66 => k_asm); (case k2q66 => k_asm); (case k3q66 => k_asm); (case k4q66 => k_mem); (case k5q66 => k_mem); (case k6q66 => omega); (case k7q66 => assumption); (case k8q66 => omega); (case k9q66 => with_unfolding_all rfl)))
  k_with "L67" => (k_here; (with_reducible show wpAny _ _ (PySem.truthy (Value.str _ _)) _ _ _); k_dflt (refine' PySem.W.KXt.truthy_pos (K := 1000) ?k1q67 ?k2q67 ?k3q67 ?_; (case k1q67 => assumption); (case k2q67 => assumption); (case k3q67 => exact Nat.le_of_ble_eq_true rfl)); intro _)
  k_with "L68" => (k_here; k_dflt (refine' Mine.ite_neg (Bool.eq_false_iff.mp ?hq68) ?_; (case hq68 => with_reducible assumption)))
  k_with "L69" => (k_here; (with_reducible show wpAny _ _ (subscriptTail _ _ (Value.ref _) (Value.int _ _)) _ _ _); k_dflt (refine' Mine.pair_item ?k1q69 ?k2q69 ?k3q69 ?k4q69 ?k5q69 ?k6q69 ?_ ?k7q69; (case k1q69 => k_asm); (case k2q69 => (repeat (first | assumption | apply List.mem_cons_of_mem))); (case k3q69 => decide); (case k4q69 => decide); (case k5q69 => rfl); (case k6q69 => rfl); (case k7q69 => with_unfolding_all rfl)))
  trivial
local macro_rules | `(tactic| walk_at "call ref") => `(tactic| k_extra "L58")

local macro_rules | `(tactic| walk_at "codeAny") => `(tactic| k_extra "L63")
local macro_rules | `(tactic| walk_at "codeAny") => `(tactic| k_extra "L64")
local macro_rules | `(tactic| walk_at "codeAny") => `(tactic| k_extra "L65")
local macro_rules | `(tactic| walk_at "SamePost") => `(tactic| k_extra "L62")
local macro_rules | `(tactic| walk_at "subscriptTail") => `(tactic| k_extra "L66")
local macro_rules | `(tactic| walk_at "truthy str") => `(tactic| k_extra "L67")
local macro_rules | `(tactic| walk_at "ite") => `(tactic| k_extra "L68")
local macro_rules | `(tactic| walk_at "subscriptTail Name Constant ref int") => `(tactic| k_extra "L69")

theorem append_full2_told : ∀ {w : World} {p : Program} {loose : List Str} {mean : ExcName → Option Value} {mg mb : Str → Option Value}
    (dp un : Nat) (gd : Option (List Code)) (cn : Str) (cs : Scope) (a : Addr) (ccd : Value) (cl : List (Str × Addr)) (outer : List Env) (A₀ : Around) (base h₀ : Heap) (L : Addr) (m : Str → Option Value) (news : List (Addr × Obj)) (s : Shared) (Q E : Value → Shared → Prop)
    (f df ln ac da : Addr) (ft : FToks) (wi : Int) (vs : Array Value) (nl n : Nat) (i : Int) (ti tk : Tok) (tb ub : Array Value) (parts : List Part) (y : Str) (tx ty : Tok)
    (B : Below A₀ base outer h₀) (F : Fr h₀ L s.heap m) (X : (Mine.hd.heap_39 w.params).In h₀) (N : News h₀ L s.heap ((f, instObj 94 df) :: (df, fmtDict w ft wi ";, \t" ln ac) :: (ln, listOf (vs) (nl)) :: (ac, accObj 178 da (refs parts) n) :: (da, initDict w i ti tk) :: (140, tabObj tb) :: (147, tabObj ub) :: news)) (T : Top p loose mean mg mb h₀) (hk : cs.kind = .function)
    (hd : dp + 12 < recursionLimit) (hu : un + 300 < cLine) (hg : AllBare s.gens) (ht : TabOk lenPos tb) (hu2 : TabOk strPos ub) (hi0 : 0 ≤ i) (hi1 : i ≤ 1000000) (hvs : vs.size ≤ 1000) (hT : ∀ q ∈ parts, q.obj ∈ news) (hp0 : 0 ≤ psum parts) (hp1 : psum parts ≤ 1000000) (hn : parts.length ≤ 400) (hq : ∀ q ∈ parts, q.fws.length ≤ 1000 ∧ q.txt.length ≤ 1000) (hy : y.length ≤ 1000) (hL : ∀ q ∈ parts, WordTxt q.txt) (hne : parts ≠ []) (hfit : ¬ i + (psum parts + (1 + (y.length : Int))) ≤ wi) (e0 : f ≠ df) (e1 : f ≠ ln) (e2 : f ≠ ac) (e3 : f ≠ da) (e4 : f ≠ 140) (e5 : f ≠ 147) (e6 : df ≠ ln) (e7 : df ≠ ac) (e8 : df ≠ da) (e9 : df ≠ 140) (e10 : df ≠ 147) (e11 : ln ≠ ac) (e12 : ln ≠ da) (e13 : ln ≠ 140) (e14 : ln ≠ 147) (e15 : ac ≠ da) (e16 : ac ≠ 140) (e17 : ac ≠ 147) (e18 : da ≠ 140) (e19 : da ≠ 147) (r0 : ∀ p ∈ news, p.1 ≠ f) (r1 : ∀ p ∈ news, p.1 ≠ df) (r2 : ∀ p ∈ news, p.1 ≠ ln) (r3 : ∀ p ∈ news, p.1 ≠ ac) (r4 : ∀ p ∈ news, p.1 ≠ da) (r5 : ∀ p ∈ news, p.1 ≠ 140) (r6 : ∀ p ∈ news, p.1 ≠ 147)
    (hret : ∀ (tp : Addr) (x : Str) (t u : Tok) (n' : Nat) (tb' ub' : Array Value) h' tk' gs', x = Txt.join "" ((parts).map fun q => Txt.join "" [q.fws, q.txt]) → AllBare gs' → TabOk lenPos tb' → TabOk strPos ub' → Fr h₀ L h' m → News h₀ L h' ((tp, tupObj " " y tx ty) :: (f, instObj 94 df) :: (df, fmtDict w ft wi ";, \t" ln ac) :: (ln, listOf (vs.push (Value.str x t)) (nl + 1)) :: (ac, accObj 178 da (refs [⟨tp, " ", y, tx, ty⟩]) n') :: (da, initDict w 0 u tk) :: (140, tabObj tb') :: (147, tabObj ub') :: news) → (∀ p ∈ news, p.1 < tp) → Q .none { s with heap := h', gens := gs', toks := tk' }),
    wpAny (model PySem.Challenge.rw_pm0058_01.row.prog w) (ktrTop dp un gd cn cs L a ccd cl outer) (call (.ref 91) [.ref f, .str " " tx, .str y ty]) Q E s := by
  k_fill
  intro w p loose mean mg mb dp un gd cn cs a ccd cl outer A₀ base h₀ L m news s Q E f df ln ac da ft wi vs nl n i ti tk tb ub parts y tx ty B F X N T hk hd hu hg ht hu2 hi0 hi1 hvs hT hp0 hp1 hn hq hy hL hne hfit e0 e1 e2 e3 e4 e5 e6 e7 e8 e9 e10 e11 e12 e13 e14 e15 e16 e17 e18 e19 r0 r1 r2 r3 r4 r5 r6 hret
  have hpl : 0 < parts.length := List.length_pos_iff.mpr hne
  refine wpAny_call ?_
  k_dflt ktr_enter
  k_steps
  all_goals first
    | (exfalso; exact psum_small (by with_reducible assumption) (by with_reducible assumption))
    | exact True
    | exact hret _ _ _ _ _ _ _ _ _ _ rfl (by assumption) (by assumption) (by assumption) (by k_asm) (by ktr_rel) (by assumption)
end
section
noncomputable def Txts (vs : Array Value) (xs : List Str) : Prop := ∃ l : List (Str × Tok), vs = (strValues l).toArray ∧ l.map (·.1) = xs
theorem Txts.nil : Txts #[] [] := ⟨[], rfl, rfl⟩
theorem Txts.push {vs : Array Value} {xs : List Str} {x y : Str} {t : Tok} (h : Txts vs xs) (e : x = y) : Txts (vs.push (.str x t)) (xs ++ [y]) := by
  obtain ⟨l, rfl, rfl⟩ := h
  subst e
  exact ⟨l ++ [(x, t)], by simp [strValues], by simp⟩
theorem join_txts {prog : Program} {w : World} {A : Around} {E : Value → Shared → Prop} {s : Shared} {h₀ : Heap} {L D : Addr} {news : List (Addr × Obj)} {vs : Array Value} {xs : List Str} {nl : Nat} {sep : Str} {u : Tok} {Q : Value → Shared → Prop} (N : News h₀ L s.heap news) (hm : (D, listOf vs nl) ∈ news) (ht : Txts vs xs) (hok : JoinOk sep xs = true)
    (h : ∀ t k, Q (.str (Txt.join sep xs) t) { s with toks := k }) : wpAny (model prog w) A (call (.builtin "str.join") [.str sep u, .ref D]) Q E s := by
  obtain ⟨l, rfl, hl⟩ := ht
  exact SC.join (News.isList N hm) hl hok h

theorem newline_last_use {w : World} {p : Program} {loose : List Str} {mean : ExcName → Option Value} {mg mb : Str → Option Value}
    {dp un : Nat} {gd : Option (List Code)} {cn : Str} {cs : Scope} {a : Addr} {ccd : Value} {cl : List (Str × Addr)} {outer : List Env} {A₀ : Around} {base h₀ : Heap} {L : Addr} {m : Str → Option Value} {led : List (Addr × Obj)} {s : Shared} {Q E : Value → Shared → Prop}
    {f df ln ac da : Addr} {ft : FToks} {wi : Int} {sig : Str} {vs : Array Value} {nl n : Nat} {i : Int} {ti tk : Tok} {tb ub : Array Value} {pre : List Part} {q : Part} {r1 r2 r3 r4 r5 r6 r : List (Addr × Obj)}
    (B : Below A₀ base outer h₀) (F : Fr h₀ L s.heap m) (X : (Mine.hd.heap_39 w.params).In h₀) (N : News h₀ L s.heap led) (T : Top p loose mean mg mb h₀) (hk : cs.kind = .function)
    (t1 : Take (f, instObj 94 df) led r1)
    (t2 : Take (df, fmtDict w ft wi sig ln ac) r1 r2)
    (t3 : Take (ln, listOf (vs) (nl)) r2 r3)
    (t4 : Take (ac, accObj 178 da (refs (pre ++ [q])) n) r3 r4)
    (t5 : Take (da, initDict w i ti tk) r4 r5)
    (t6 : Take (140, tabObj tb) r5 r6)
    (t7 : Take (147, tabObj ub) r6 r)
    (hd : dp + 8 < recursionLimit) (hu : un + 200 < cLine) (hg : AllBare s.gens) (ht : TabOk lenPos tb) (hu2 : TabOk strPos ub) (hi0 : 0 ≤ i) (hi1 : i ≤ 1000000) (hvs : vs.size ≤ 1000) (ho1 : PyData.strOk q.fws = true) (ho2 : PyData.strOk q.txt = true) (hT : ∀ z ∈ pre ++ [q], z.obj ∈ r) (hp0 : 0 ≤ psum (pre ++ [q])) (hp1 : psum (pre ++ [q]) ≤ 1000000) (hn : pre.length ≤ 400) (hq : ∀ z ∈ pre ++ [q], z.fws.length ≤ 1000 ∧ z.txt.length ≤ 1000) (hqt : q.txt ≠ "") (hpos : 0 < i + psum (pre ++ [q])) (hsp : Txt.isspace (Txt.join "" ((pre ++ [q]).map fun q => Txt.join "" [q.fws, q.txt])) = false) (e0 : f ≠ df) (e1 : f ≠ ln) (e2 : f ≠ ac) (e3 : f ≠ da) (e4 : f ≠ 140) (e5 : f ≠ 147) (e6 : df ≠ ln) (e7 : df ≠ ac) (e8 : df ≠ da) (e9 : df ≠ 140) (e10 : df ≠ 147) (e11 : ln ≠ ac) (e12 : ln ≠ da) (e13 : ln ≠ 140) (e14 : ln ≠ 147) (e15 : ac ≠ da) (e16 : ac ≠ 140) (e17 : ac ≠ 147) (e18 : da ≠ 140) (e19 : da ≠ 147) (q0 : ∀ p ∈ r, p.1 ≠ f) (q1 : ∀ p ∈ r, p.1 ≠ df) (q2 : ∀ p ∈ r, p.1 ≠ ln) (q3 : ∀ p ∈ r, p.1 ≠ ac) (q4 : ∀ p ∈ r, p.1 ≠ da) (q5 : ∀ p ∈ r, p.1 ≠ 140) (q6 : ∀ p ∈ r, p.1 ≠ 147)
    (hret : ∀ (x : Str) (t u : Tok) (n' : Nat) (tb' ub' : Array Value) h' tk' gs', x = Txt.join "" ((pre ++ [q]).map fun q => Txt.join "" [q.fws, q.txt]) → AllBare gs' → TabOk lenPos tb' → TabOk strPos ub' → Fr h₀ L h' m → News h₀ L h' ((f, instObj 94 df) :: (df, fmtDict w ft wi sig ln ac) :: (ln, listOf (vs.push (Value.str x t)) (nl + 1)) :: (ac, accObj 178 da (refs []) n') :: (da, initDict w 0 u tk) :: (140, tabObj tb') :: (147, tabObj ub') :: r) → Q .none { s with heap := h', gens := gs', toks := tk' }) :
    wpAny (model PySem.Challenge.rw_pm0058_01.row.prog w) (ktrTop dp un gd cn cs L a ccd cl outer) (call (.ref 56) [.ref f]) Q E s := by
  exact newline_last_told dp un gd cn cs a ccd cl outer A₀ base h₀ L m r s Q E f df ln ac da ft wi sig vs nl n i ti tk tb ub pre q B F X (Mine.news_sub N (takes_cons t1 (takes_cons t2 (takes_cons t3 (takes_cons t4 (takes_cons t5 (takes_cons t6 (takes_cons t7 (fun _ h => h))))))))) T hk hd hu hg ht hu2 hi0 hi1 hvs ho1 ho2 hT hp0 hp1 hn hq hqt hpos hsp e0 e1 e2 e3 e4 e5 e6 e7 e8 e9 e10 e11 e12 e13 e14 e15 e16 e17 e18 e19 q0 q1 q2 q3 q4 q5 q6 hret
end
section
theorem lines12 : True := by
  k_with "L70" => (k_here; k_dflt ((show wpAny _ _ (call (Value.ref 56) [Value.ref _]) _ _ _); refine' Mine.newline_last_use ?k1q70 ?k2q70 ?k3q70 ?k4q70 ?k5q70 ?kKq70 ?t1q70 ?t2q70 ?t3q70 ?t4q70 ?t5q70 ?t6q70 ?t7q70 ?kdq70 ?kuq70 ?h1q70 ?h2q70 ?h3q70 ?h4q70 ?h5q70 ?h6q70 ?h7q70 ?h8q70 ?h9q70 ?h10q70 ?h11q70 ?h12q70 ?h13q70 ?h14q70 ?h15q70 ?h16q70 ?h17q70 ?h18q70 ?h19q70 ?h20q70 ?h21q70 ?h22q70 ?h23q70 ?h24q70 ?h25q70 ?h26q70 ?h27q70 ?h28q70 ?h29q70 ?h30q70 ?h31q70 ?h32q70 ?h33q70 ?h34q70 ?h35q70 ?h36q70 ?h37q70 ?h38q70 ?h39q70 ?h40q70 ?h41q70 ?h42q70 ?h43q70 ?_; (case k1q70 => k_asm); (case k2q70 => k_asm); (case k3q70 => k_asm); (case k4q70 => k_asm); (case k5q70 => k_asm); (case kKq70 => first | exact rfl | assumption); (case t1q70 => (repeat (first | exact Mine.Take.head | apply Mine.Take.tail))); (case t2q70 => (repeat (first | exact Mine.Take.head | apply Mine.Take.tail))); (case t3q70 => (repeat (first | exact Mine.Take.head | apply Mine.Take.tail))); (case t4q70 => (repeat (first | exact Mine.Take.head | apply Mine.Take.tail))); (case t5q70 => (repeat (first | exact Mine.Take.head | apply Mine.Take.tail))); (case t6q70 => (repeat (first | exact Mine.Take.head | apply Mine.Take.tail))); (case t7q70 => (repeat (first | exact Mine.Take.head | apply Mine.Take.tail))); (case kdq70 => ktr_room); (case kuq70 => ktr_units); (case h1q70 => assumption); (case h2q70 => assumption); (case h3q70 => assumption); (case h4q70 => first | assumption | omega); (case h5q70 => first | assumption | omega); (case h6q70 => first | assumption | omega | (simp <;> omega)); (case h7q70 => assumption); (case h8q70 => assumption); (case h9q70 => assumption); (case h10q70 => first | assumption | omega); (case h11q70 => first | assumption | omega); (case h12q70 => first | assumption | omega); (case h13q70 => assumption); (case h14q70 => assumption); (case h15q70 => assumption); (case h16q70 => assumption); (case h17q70 => (first | with_reducible assumption | exact Ne.symm (by with_reducible assumption) | k_ne)); (case h18q70 => (first | with_reducible assumption | exact Ne.symm (by with_reducible assumption) | k_ne)); (case h19q70 => (first | with_reducible assumption | exact Ne.symm (by with_reducible assumption) | k_ne)); (case h20q70 => (first | with_reducible assumption | exact Ne.symm (by with_reducible assumption) | k_ne)); (case h21q70 => (first | with_reducible assumption | exact Ne.symm (by with_reducible assumption) | k_ne)); (case h22q70 => (first | with_reducible assumption | exact Ne.symm (by with_reducible assumption) | k_ne)); (case h23q70 => (first | with_reducible assumption | exact Ne.symm (by with_reducible assumption) | k_ne)); (case h24q70 => (first | with_reducible assumption | exact Ne.symm (by with_reducible assumption) | k_ne)); (case h25q70 => (first | with_reducible assumption | exact Ne.symm (by with_reducible assumption) | k_ne)); (case h26q70 => (first | with_reducible assumption | exact Ne.symm (by with_reducible assumption) | k_ne)); (case h27q70 => (first | with_reducible assumption | exact Ne.symm (by with_reducible assumption) | k_ne)); (case h28q70 => (first | with_reducible assumption | exact Ne.symm (by with_reducible assumption) | k_ne)); (case h29q70 => (first | with_reducible assumption | exact Ne.symm (by with_reducible assumption) | k_ne)); (case h30q70 => (first | with_reducible assumption | exact Ne.symm (by with_reducible assumption) | k_ne)); (case h31q70 => (first | with_reducible assumption | exact Ne.symm (by with_reducible assumption) | k_ne)); (case h32q70 => (first | with_reducible assumption | exact Ne.symm (by with_reducible assumption) | k_ne)); (case h33q70 => (first | with_reducible assumption | exact Ne.symm (by with_reducible assumption) | k_ne)); (case h34q70 => (first | with_reducible assumption | exact Ne.symm (by with_reducible assumption) | k_ne)); (case h35q70 => (first | with_reducible assumption | exact Ne.symm (by with_reducible assumption) | k_ne)); (case h36q70 => (first | with_reducible assumption | exact Ne.symm (by with_reducible assumption) | k_ne)); (case h37q70 => k_all); (case h38q70 => k_all); (case h39q70 => k_all); (case h40q70 => k_all); (case h41q70 => k_all); (case h42q70 => k_all); (case h43q70 => k_all)); intro x'q9 t'q9 u'q9 n'q9 tb'q9 ub'q9 h'q9 tk'q9 gs'q9 hx'q9 G'q9 b1q9 b2q9 F'q9 N'q9)
  k_with "L71" => (k_here; (with_reducible show wpAny _ _ (call (Value.builtin "str.join") [Value.str _ _, Value.ref _]) _ _ _); k_dflt (refine' Mine.join_txts ?k1q71 ?k2q71 ?k3q71 ?k4q71 ?_; (case k1q71 => k_asm); (case k2q71 => k_mem); (case k3q71 => exact Mine.Txts.push (by assumption) (by with_reducible assumption)); (case k4q71 => assumption)); intro t'q9 tk'q9)
  trivial
local macro_rules | `(tactic| walk_at "call ref") => `(tactic| k_extra "L70")
local macro_rules | `(tactic| walk_at "call builtin:str.join") => `(tactic| k_extra "L71")

theorem fmt_str2_told : ∀ {w : World} {p : Program} {loose : List Str} {mean : ExcName → Option Value} {mg mb : Str → Option Value}
    (dp un : Nat) (gd : Option (List Code)) (cn : Str) (cs : Scope) (a : Addr) (ccd : Value) (cl : List (Str × Addr)) (outer : List Env) (A₀ : Around) (base h₀ : Heap) (L : Addr) (m : Str → Option Value) (news : List (Addr × Obj)) (s : Shared) (Q E : Value → Shared → Prop)
    (f df ln ac da : Addr) (ft : FToks) (wi : Int) (sig : Str) (vs : Array Value) (nl n : Nat) (i : Int) (ti tk : Tok) (tb ub : Array Value) (pre : List Part) (q : Part) (sep : Str) (ts : Tok) (xs : List Str)
    (B : Below A₀ base outer h₀) (F : Fr h₀ L s.heap m) (X : (Mine.hd.heap_39 w.params).In h₀) (N : News h₀ L s.heap ((f, instObj 94 df) :: (df, fmtDict w ft wi sig ln ac) :: (ln, listOf (vs) (nl)) :: (ac, accObj 178 da (refs (pre ++ [q])) n) :: (da, initDict w i ti tk) :: (140, tabObj tb) :: (147, tabObj ub) :: news)) (T : Top p loose mean mg mb h₀) (hk : cs.kind = .function)
    (hd : dp + 12 < recursionLimit) (hu : un + 300 < cLine) (hg : AllBare s.gens) (ht : TabOk lenPos tb) (hu2 : TabOk strPos ub) (hi0 : 0 ≤ i) (hi1 : i ≤ 1000000) (hvs : vs.size ≤ 1000) (ho1 : PyData.strOk q.fws = true) (ho2 : PyData.strOk q.txt = true) (hT : ∀ z ∈ pre ++ [q], z.obj ∈ news) (hp0 : 0 ≤ psum (pre ++ [q])) (hp1 : psum (pre ++ [q]) ≤ 1000000) (hn : pre.length ≤ 400) (hq : ∀ z ∈ pre ++ [q], z.fws.length ≤ 1000 ∧ z.txt.length ≤ 1000) (hqt : q.txt ≠ "") (hpos : 0 < i + psum (pre ++ [q])) (hsp : Txt.isspace (Txt.join "" ((pre ++ [q]).map fun q => Txt.join "" [q.fws, q.txt])) = false) (hxs : Txts vs xs) (hok : JoinOk sep (xs ++ [Txt.join "" ((pre ++ [q]).map fun q => Txt.join "" [q.fws, q.txt])]) = true) (e0 : f ≠ df) (e1 : f ≠ ln) (e2 : f ≠ ac) (e3 : f ≠ da) (e4 : f ≠ 140) (e5 : f ≠ 147) (e6 : df ≠ ln) (e7 : df ≠ ac) (e8 : df ≠ da) (e9 : df ≠ 140) (e10 : df ≠ 147) (e11 : ln ≠ ac) (e12 : ln ≠ da) (e13 : ln ≠ 140) (e14 : ln ≠ 147) (e15 : ac ≠ da) (e16 : ac ≠ 140) (e17 : ac ≠ 147) (e18 : da ≠ 140) (e19 : da ≠ 147) (r0 : ∀ p ∈ news, p.1 ≠ f) (r1 : ∀ p ∈ news, p.1 ≠ df) (r2 : ∀ p ∈ news, p.1 ≠ ln) (r3 : ∀ p ∈ news, p.1 ≠ ac) (r4 : ∀ p ∈ news, p.1 ≠ da) (r5 : ∀ p ∈ news, p.1 ≠ 140) (r6 : ∀ p ∈ news, p.1 ≠ 147)
    (hret : ∀ (t : Tok) (tb' ub' : Array Value) h' tk' gs', AllBare gs' → TabOk lenPos tb' → TabOk strPos ub' → Fr h₀ L h' m → News h₀ L h' ((140, tabObj tb') :: (147, tabObj ub') :: news) → Q (.str (Txt.join sep (xs ++ [Txt.join "" ((pre ++ [q]).map fun q => Txt.join "" [q.fws, q.txt])])) t) { s with heap := h', gens := gs', toks := tk' }),
    wpAny (model PySem.Challenge.rw_pm0058_01.row.prog w) (ktrTop dp un gd cn cs L a ccd cl outer) (call (.ref 42) [.ref f, .str sep ts]) Q E s := by
  k_fill
  intro w p loose mean mg mb dp un gd cn cs a ccd cl outer A₀ base h₀ L m news s Q E f df ln ac da ft wi sig vs nl n i ti tk tb ub pre q sep ts xs B F X N T hk hd hu hg ht hu2 hi0 hi1 hvs ho1 ho2 hT hp0 hp1 hn hq hqt hpos hsp hxs hok e0 e1 e2 e3 e4 e5 e6 e7 e8 e9 e10 e11 e12 e13 e14 e15 e16 e17 e18 e19 r0 r1 r2 r3 r4 r5 r6 hret
  refine wpAny_call ?_
  k_dflt ktr_enter
  k_steps
  all_goals exact hret _ _ _ _ _ _ (by assumption) (by assumption) (by assumption) (by k_asm) (by ktr_rel)


theorem fmt_str_use {w : World} {p : Program} {loose : List Str} {mean : ExcName → Option Value} {mg mb : Str → Option Value}
    {dp un : Nat} {gd : Option (List Code)} {cn : Str} {cs : Scope} {a : Addr} {ccd : Value} {cl : List (Str × Addr)} {outer : List Env} {A₀ : Around} {base h₀ : Heap} {L : Addr} {m : Str → Option Value} {led : List (Addr × Obj)} {s : Shared} {Q E : Value → Shared → Prop}
    {f df ln ac da : Addr} {ft : FToks} {wi : Int} {sig : Str} {vs : Array Value} {nl n : Nat} {i : Int} {ti tk : Tok} {tb ub : Array Value} {pre : List Part} {q : Part} {sep : Str} {ts : Tok} {xs : List Str} {r1 r2 r3 r4 r5 r6 r : List (Addr × Obj)}
    (B : Below A₀ base outer h₀) (F : Fr h₀ L s.heap m) (X : (Mine.hd.heap_39 w.params).In h₀) (N : News h₀ L s.heap led) (T : Top p loose mean mg mb h₀) (hk : cs.kind = .function)
    (t1 : Take (f, instObj 94 df) led r1)
    (t2 : Take (df, fmtDict w ft wi sig ln ac) r1 r2)
    (t3 : Take (ln, listOf (vs) (nl)) r2 r3)
    (t4 : Take (ac, accObj 178 da (refs (pre ++ [q])) n) r3 r4)
    (t5 : Take (da, initDict w i ti tk) r4 r5)
    (t6 : Take (140, tabObj tb) r5 r6)
    (t7 : Take (147, tabObj ub) r6 r)
    (hd : dp + 12 < recursionLimit) (hu : un + 300 < cLine) (hg : AllBare s.gens) (ht : TabOk lenPos tb) (hu2 : TabOk strPos ub) (hi0 : 0 ≤ i) (hi1 : i ≤ 1000000) (hvs : vs.size ≤ 1000) (ho1 : PyData.strOk q.fws = true) (ho2 : PyData.strOk q.txt = true) (hT : ∀ z ∈ pre ++ [q], z.obj ∈ r) (hp0 : 0 ≤ psum (pre ++ [q])) (hp1 : psum (pre ++ [q]) ≤ 1000000) (hn : pre.length ≤ 400) (hq : ∀ z ∈ pre ++ [q], z.fws.length ≤ 1000 ∧ z.txt.length ≤ 1000) (hqt : q.txt ≠ "") (hpos : 0 < i + psum (pre ++ [q])) (hsp : Txt.isspace (Txt.join "" ((pre ++ [q]).map fun q => Txt.join "" [q.fws, q.txt])) = false) (hxs : Txts vs xs) (hok : JoinOk sep (xs ++ [Txt.join "" ((pre ++ [q]).map fun q => Txt.join "" [q.fws, q.txt])]) = true) (e0 : f ≠ df) (e1 : f ≠ ln) (e2 : f ≠ ac) (e3 : f ≠ da) (e4 : f ≠ 140) (e5 : f ≠ 147) (e6 : df ≠ ln) (e7 : df ≠ ac) (e8 : df ≠ da) (e9 : df ≠ 140) (e10 : df ≠ 147) (e11 : ln ≠ ac) (e12 : ln ≠ da) (e13 : ln ≠ 140) (e14 : ln ≠ 147) (e15 : ac ≠ da) (e16 : ac ≠ 140) (e17 : ac ≠ 147) (e18 : da ≠ 140) (e19 : da ≠ 147) (q0 : ∀ p ∈ r, p.1 ≠ f) (q1 : ∀ p ∈ r, p.1 ≠ df) (q2 : ∀ p ∈ r, p.1 ≠ ln) (q3 : ∀ p ∈ r, p.1 ≠ ac) (q4 : ∀ p ∈ r, p.1 ≠ da) (q5 : ∀ p ∈ r, p.1 ≠ 140) (q6 : ∀ p ∈ r, p.1 ≠ 147)
    (hret : ∀ (t : Tok) (tb' ub' : Array Value) h' tk' gs', AllBare gs' → TabOk lenPos tb' → TabOk strPos ub' → Fr h₀ L h' m → News h₀ L h' ((140, tabObj tb') :: (147, tabObj ub') :: r) → Q (.str (Txt.join sep (xs ++ [Txt.join "" ((pre ++ [q]).map fun q => Txt.join "" [q.fws, q.txt])])) t) { s with heap := h', gens := gs', toks := tk' }) :
    wpAny (model PySem.Challenge.rw_pm0058_01.row.prog w) (ktrTop dp un gd cn cs L a ccd cl outer) (call (.ref 42) [.ref f, .str sep ts]) Q E s := by
  exact fmt_str2_told dp un gd cn cs a ccd cl outer A₀ base h₀ L m r s Q E f df ln ac da ft wi sig vs nl n i ti tk tb ub pre q sep ts xs B F X (Mine.news_sub N (takes_cons t1 (takes_cons t2 (takes_cons t3 (takes_cons t4 (takes_cons t5 (takes_cons t6 (takes_cons t7 (fun _ h => h))))))))) T hk hd hu hg ht hu2 hi0 hi1 hvs ho1 ho2 hT hp0 hp1 hn hq hqt hpos hsp hxs hok e0 e1 e2 e3 e4 e5 e6 e7 e8 e9 e10 e11 e12 e13 e14 e15 e16 e17 e18 e19 q0 q1 q2 q3 q4 q5 q6 hret
end
section
/-- what a turn of a while leaves -/
noncomputable def WhilePost (h₀ : Heap) (L : Addr) (s : Shared) (k : Nat) (J : Nat → (Str → Option Value) → List (Addr × Obj) → Array GenState → Prop) (Q : Flow → Shared → Prop) (f : Flow) (s₂ : Shared) : Prop := match f with
  | .next | .cont => ∃ k' m₂ news₂ h gs tk, k' < k ∧ J k' m₂ news₂ gs ∧ Fr h₀ L h m₂ ∧ News h₀ L h news₂ ∧ s₂ = { s with heap := h, gens := gs, toks := tk }
  | .brk => Q .next s₂
  | .ret v => Q (.ret v) s₂
section
variable {prog : Program} {w : World} {A : Around} {E : Value → Shared → Prop} {s : Shared} {h₀ : Heap} {L : Addr} {m : Str → Option Value} {news : List (Addr × Obj)} {Q : Flow → Shared → Prop}
theorem WhilePost.next {J : Nat → (Str → Option Value) → List (Addr × Obj) → Array GenState → Prop} {k k' m₂ news₂ h gs tk} (F : Fr h₀ L h m₂) (N : News h₀ L h news₂) (hk : k' < k) (hJ : J k' m₂ news₂ gs) :
    WhilePost h₀ L s k J Q .next { s with heap := h, gens := gs, toks := tk } := ⟨k', m₂, news₂, h, gs, tk, hk, hJ, F, N, rfl⟩
theorem WhilePost.ret {J : Nat → (Str → Option Value) → List (Addr × Obj) → Array GenState → Prop} {k} {s₂ : Shared} {v : Value} (h : Q (.ret v) s₂) : WhilePost h₀ L s k J Q (.ret v) s₂ := h
theorem While_led {env : Env} {test : Expr} {body orelse : List Stmt} {pos : Pos} (F : Fr h₀ env.locals s.heap m) (N : News h₀ env.locals s.heap news) (hE : PassesOwn (model prog w) A env E)
    (J : Nat → (Str → Option Value) → List (Addr × Obj) → Array GenState → Prop) (k : Nat) (h0 : J k m news s.gens)
    (turn : ∀ k m₁ news₁ h₁ gs₁ tk₁, J k m₁ news₁ gs₁ → Fr h₀ env.locals h₁ m₁ → News h₀ env.locals h₁ news₁ →
      wpAny (model prog w) A (isTrue test env (eval test env)) (fun b s₂ => if b = true then wpAny (model prog w) A (execs body env) (WhilePost h₀ env.locals s k J Q) E s₂ else wpAny (model prog w) A (execs orelse env) Q E s₂) E { s with heap := h₁, gens := gs₁, toks := tk₁ }) :
    wpAny (model prog w) A (exec (.While test body orelse pos) env) Q E s := by
  refine wpAny_While (codeAny_whileLoop
    (fun k s' => ∃ h gs tk m' news', s' = { s with heap := h, gens := gs, toks := tk } ∧ Fr h₀ env.locals h m' ∧ News h₀ env.locals h news' ∧ J k m' news' gs) ?_ k ⟨s.heap, s.gens, s.toks, m, news, rfl, F, N, h0⟩)
  rintro n s' ⟨h, gs, tk, m', news', rfl, F', N', hJ⟩
  refine wpAny_mono (wpAny_passesOwn hE (turn n m' news' h gs tk hJ F' N')) (fun b s₂ h₂ => ?_) fun _ _ e => e
  cases b with
  | false =>
    simp only [Bool.false_eq_true, if_false] at h₂ ⊢
    exact wpAny_passesOwn hE h₂
  | true =>
    simp only [if_true] at h₂ ⊢
    refine wpAny_mono (wpAny_passesOwn hE h₂) (fun f s₃ h₃ => ?_) fun _ _ e => e
    cases f with
    | next =>
      obtain ⟨k', m₂, news₂, h, gs, tk, hk, hJ', F₂, N₂, rfl⟩ := h₃
      exact ⟨k', hk, h, gs, tk, m₂, news₂, rfl, F₂, N₂, hJ'⟩
    | cont =>
      obtain ⟨k', m₂, news₂, h, gs, tk, hk, hJ', F₂, N₂, rfl⟩ := h₃
      exact ⟨k', hk, h, gs, tk, m₂, news₂, rfl, F₂, N₂, hJ'⟩
    | brk => exact h₃
    | ret v => exact h₃
end
end
section
structure Bis (P : Nat → Prop) (r n : Nat) : Prop where
  le : r ≤ n
  lo : ∀ j, j < r → P j
  hi : ∀ j, r ≤ j → j < n → ¬ P j
  sz : n ≤ 1000
theorem Bis.lt_of {P : Nat → Prop} {r n j : Nat} (b : Bis P r n) (hp : P j) (hj : j < n) : j < r := Nat.lt_of_not_le fun h => b.hi j h hj hp
theorem Bis.le_of {P : Nat → Prop} {r n j : Nat} (b : Bis P r n) (hp : ¬ P j) : r ≤ j := Nat.le_of_not_lt fun h => hp (b.lo j h)
noncomputable abbrev bisM (m : Str → Option Value) (lo hi : Nat) (tl th : Tok) (c : Option Value) : Str → Option Value := fun y => if y = "lo" then some (.int lo tl) else if y = "hi" then some (.int hi th) else if y = "mid" then c else m y
noncomputable def BisJ (m : Str → Option Value) (news : List (Addr × Obj)) (gs : Array GenState) (r n : Nat) (k : Nat) (m' : Str → Option Value) (n' : List (Addr × Obj)) (g' : Array GenState) : Prop :=
  ∃ (lo hi : Nat) (tl th : Tok) (c : Option Value), m' = bisM m lo hi tl th c ∧ lo ≤ r ∧ r ≤ hi ∧ hi ≤ n ∧ k = hi - lo ∧ n' = news ∧ g' = gs
theorem fdiv_two (lo hi : Nat) : Int.fdiv ((lo : Int) + (hi : Int)) 2 = (((lo + hi) / 2 : Nat) : Int) := by
  rw [Int.fdiv_eq_ediv_of_nonneg _ (by omega)]
  omega
theorem set_lo (m : Str → Option Value) (lo hi lo' : Nat) (tl th : Tok) (c : Option Value) (v : Value) (t : Tok) : (fun y => if y = Str.ofString "lo" then some (.int (lo' : Int) t) else (fun y => if y = Str.ofString "mid" then some v else bisM m lo hi tl th c y) y) = bisM m lo' hi t th (some v) := by
  funext y
  show (if y = Str.ofString "lo" then _ else if y = Str.ofString "mid" then _ else if y = Str.ofString "lo" then _ else if y = Str.ofString "hi" then _ else if y = Str.ofString "mid" then _ else _) = (if y = Str.ofString "lo" then _ else if y = Str.ofString "hi" then _ else if y = Str.ofString "mid" then _ else _)
  by_cases e1 : y = Str.ofString "lo"
  · simp only [if_pos e1]
  · simp only [if_neg e1]
    by_cases e2 : y = Str.ofString "mid"
    · simp only [if_pos e2]
      rw [if_neg (by rw [e2]; decide +kernel)]
    · simp only [if_neg e2]
theorem set_hi (m : Str → Option Value) (lo hi hi' : Nat) (tl th : Tok) (c : Option Value) (v : Value) (t : Tok) : (fun y => if y = Str.ofString "hi" then some (.int (hi' : Int) t) else (fun y => if y = Str.ofString "mid" then some v else bisM m lo hi tl th c y) y) = bisM m lo hi' tl t (some v) := by
  funext y
  show (if y = Str.ofString "hi" then _ else if y = Str.ofString "mid" then _ else if y = Str.ofString "lo" then _ else if y = Str.ofString "hi" then _ else if y = Str.ofString "mid" then _ else _) = (if y = Str.ofString "lo" then _ else if y = Str.ofString "hi" then _ else if y = Str.ofString "mid" then _ else _)
  by_cases e1 : y = Str.ofString "hi"
  · simp only [if_pos e1]
    rw [if_neg (by rw [e1]; decide +kernel)]
  · simp only [if_neg e1]
    by_cases e2 : y = Str.ofString "mid"
    · simp only [if_pos e2]
      rw [if_neg (by rw [e2]; decide +kernel)]
    · simp only [if_neg e2]
theorem bis_start {m : Str → Option Value} {lo hi : Nat} {tl th : Tok} (h1 : m (Str.ofString "lo") = some (.int lo tl)) (h2 : m (Str.ofString "hi") = some (.int hi th)) : m = bisM m lo hi tl th (m (Str.ofString "mid")) := by
  funext y
  show m y = (if y = Str.ofString "lo" then _ else if y = Str.ofString "hi" then _ else if y = Str.ofString "mid" then _ else _)
  by_cases e1 : y = Str.ofString "lo"
  · rw [if_pos e1, e1, h1]
  · rw [if_neg e1]
    by_cases e2 : y = Str.ofString "hi"
    · rw [if_pos e2, e2, h2]
    · rw [if_neg e2]
      by_cases e3 : y = Str.ofString "mid"
      · rw [if_pos e3, e3]
      · rw [if_neg e3]
section
variable {prog : Program} {w : World} {A : Around} {E : Value → Shared → Prop} {s : Shared} {h₀ : Heap} {L : Addr} {m : Str → Option Value} {news : List (Addr × Obj)} {Q : Flow → Shared → Prop} {P : Nat → Prop} {r n : Nat}
theorem While_bis {env : Env} {test : Expr} {body orelse : List Stmt} {pos : Pos} {tl th : Tok} (F : Fr h₀ env.locals s.heap m) (N : News h₀ env.locals s.heap news) (hE : PassesOwn (model prog w) A env E) (b : Bis P r n)
    (h1 : m (Str.ofString "lo") = some (.int 0 tl)) (h2 : m (Str.ofString "hi") = some (.int (n : Int) th))
    (turn : ∀ (lo hi : Nat) tl th c h₁ tk₁, lo ≤ r → r ≤ hi → hi ≤ n → Fr h₀ env.locals h₁ (bisM m lo hi tl th c) → News h₀ env.locals h₁ news →
      wpAny (model prog w) A (isTrue test env (eval test env)) (fun b s₂ => if b = true then wpAny (model prog w) A (execs body env) (WhilePost h₀ env.locals s (hi - lo) (BisJ m news s.gens r n) Q) E s₂ else wpAny (model prog w) A (execs orelse env) Q E s₂) E { s with heap := h₁, toks := tk₁ }) :
    wpAny (model prog w) A (exec (.While test body orelse pos) env) Q E s := by
  refine While_led F N hE (BisJ m news s.gens r n) n ⟨0, n, tl, th, _, bis_start h1 h2, Nat.zero_le _, b.le, Nat.le_refl _, by omega, rfl, rfl⟩ ?_
  rintro k m₁ news₁ h₁ gs₁ tk₁ ⟨lo, hi, tl, th, c, rfl, hl, hh, hn, rfl, rfl, rfl⟩ F₁ N₁
  exact turn lo hi tl th c h₁ tk₁ hl hh hn F₁ N₁
theorem bis_lo {lo hi : Nat} {tl th t : Tok} {c : Option Value} {v : Value} {h gs tk} (b : Bis P r n) (hlt : (lo : Int) < (hi : Int)) (hn : hi ≤ n) (hh : r ≤ hi) (hp : P ((lo + hi) / 2))
    (F : Fr h₀ L h (fun y => if y = Str.ofString "lo" then some (.int (Int.fdiv ((lo : Int) + (hi : Int)) 2 + 1) t) else (fun y => if y = Str.ofString "mid" then some v else bisM m lo hi tl th c y) y)) (N : News h₀ L h news) :
    WhilePost h₀ L s (hi - lo) (BisJ m news gs r n) Q .next { s with heap := h, gens := gs, toks := tk } := by
  have h1 := b.lt_of hp (by omega)
  rw [show Int.fdiv ((lo : Int) + (hi : Int)) 2 + 1 = (((lo + hi) / 2 + 1 : Nat) : Int) by rw [fdiv_two]; omega, set_lo] at F
  exact .next F N (k' := hi - ((lo + hi) / 2 + 1)) (by omega) ⟨_, hi, t, th, _, rfl, by omega, hh, hn, rfl, rfl, rfl⟩
theorem bis_hi {lo hi : Nat} {tl th t : Tok} {c : Option Value} {v : Value} {h gs tk} (b : Bis P r n) (hlt : (lo : Int) < (hi : Int)) (hn : hi ≤ n) (hl : lo ≤ r) (hp : ¬ P ((lo + hi) / 2))
    (F : Fr h₀ L h (fun y => if y = Str.ofString "hi" then some (.int (Int.fdiv ((lo : Int) + (hi : Int)) 2) t) else (fun y => if y = Str.ofString "mid" then some v else bisM m lo hi tl th c y) y)) (N : News h₀ L h news) :
    WhilePost h₀ L s (hi - lo) (BisJ m news gs r n) Q .next { s with heap := h, gens := gs, toks := tk } := by
  have h1 := b.le_of hp
  rw [fdiv_two, set_hi] at F
  exact .next F N (k' := (lo + hi) / 2 - lo) (by omega) ⟨lo, _, tl, t, _, rfl, hl, h1, by omega, rfl, rfl, rfl⟩
end
section
variable {prog : Program} {w : World} {A : Around} {E : Value → Shared → Prop} {s : Shared} {h₀ : Heap} {L : Addr} {news : List (Addr × Obj)}
theorem bis_item {value slice : Expr} {bl : Addr} {vs : Array Value} {nl : Nat} {val : Nat → Tok → Value} {lo hi : Nat} {u : Tok} {Q : Value → Shared → Prop} (N : News h₀ L s.heap news) (hm : (bl, listOf vs nl) ∈ news) (hv : ∀ j, j < vs.size → ∃ t, vs[j]? = some (val j t))
    (hlt : (lo : Int) < (hi : Int)) (hhi : hi ≤ vs.size) (hs : vs.size ≤ 1000) (h : ∀ t, Q (val ((lo + hi) / 2) t) s)
    (hs' : subscripted slice false (.ref bl) (.int (Int.fdiv ((lo : Int) + (hi : Int)) 2) u) = operate [.ref bl, .int (Int.fdiv ((lo : Int) + (hi : Int)) 2) u] (getItem (.ref bl) (.int (Int.fdiv ((lo : Int) + (hi : Int)) 2) u))) :
    wpAny (model prog w) A (subscriptTail value slice (.ref bl) (.int (Int.fdiv ((lo : Int) + (hi : Int)) 2) u)) Q E s := by
  rw [fdiv_two] at hs' ⊢
  obtain ⟨t, ht⟩ := hv ((lo + hi) / 2) (by omega)
  have hl := News.isList N hm
  exact tail_any hl.typeIs slot_list_getitem.lookup (wpAny_getItem_list hl (by omega) (by omega) (by rw [Int.toNat_natCast]; simpa using ht) (h t)) hs'
end
end
local macro_rules | `(tactic| walk_at "no key 2") => `(tactic| skip)
section
theorem lines13 : True := by
  k_with "L72" => (k_here; k_dflt (refine' Mine.While_bis ?k1q72 ?k2q72 ?k3q72 ?kbq72 ?h1q72 ?h2q72 (fun lo'q9 hi'q9 tl'q9 th'q9 c'q9 h'q9 tk'q9 hl'q9 hh'q9 hn'q9 F'q9 N'q9 => ?_); (case k1q72 => k_asm); (case k2q72 => k_asm); (case k3q72 => passes_own); (case kbq72 => assumption); (case h1q72 => exact rfl); (case h2q72 => exact rfl)))
  k_with "L73" => (k_here; (with_reducible show wpAny _ _ (subscriptTail _ _ (Value.ref _) (Value.int _ _)) _ _ _); k_dflt (refine' Mine.bis_item ?k1q73 ?k2q73 ?k3q73 ?k4q73 ?k5q73 ?k6q73 (fun t'q9 => ?_) ?k7q73; (case k1q73 => k_asm); (case k2q73 => k_mem); (case k3q73 => assumption); (case k4q73 => assumption); (case k5q73 => assumption); (case k6q73 => assumption); (case k7q73 => with_unfolding_all rfl)))
  trivial
local macro_rules | `(tactic| walk_at "exec While Compare cons nil") => `(tactic| k_extra "L72")
local macro_rules | `(tactic| walk_at "subscriptTail Name Name ref int") => `(tactic| k_extra "L73")

theorem bisl_told : ∀ {w : World} {p : Program} {loose : List Str} {mean : ExcName → Option Value} {mg mb : Str → Option Value}
    (dp un : Nat) (gd : Option (List Code)) (cn : Str) (cs : Scope) (a : Addr) (ccd : Value) (cl : List (Str × Addr)) (outer : List Env) (A₀ : Around) (base h₀ : Heap) (L : Addr) (m : Str → Option Value) (news : List (Addr × Obj)) (s : Shared) (Q E : Value → Shared → Prop)
    (bl : Addr) (vs : Array Value) (nl : Nat) (x : Int) (tx : Tok) (f : Nat → Int) (r : Nat)
    (B : Below A₀ base outer h₀) (F : Fr h₀ L s.heap m) (X : (Mine.hd.heap_39 w.params).In h₀) (N : News h₀ L s.heap ((bl, listOf vs nl) :: news)) (T : Top p loose mean mg mb h₀) (hk : cs.kind = .function)
    (hd : dp + 2 < recursionLimit) (hu : un + 20 < cLine) (hv : ∀ j, j < vs.size → ∃ t, vs[j]? = some (.int (f j) t)) (hs : vs.size ≤ 1000) (hb : Bis (fun j => f j < x) r vs.size)
    (hret : ∀ (t : Tok) h' tk', Fr h₀ L h' m → News h₀ L h' ((bl, listOf vs nl) :: news) → Q (.int (r : Int) t) { s with heap := h', toks := tk' }),
    wpAny (model PySem.Challenge.rw_pm0058_01.row.prog w) (ktrTop dp un gd cn cs L a ccd cl outer) (call (.ref 218) [.ref bl, .int x tx]) Q E s := by
  k_fill
  intro w p loose mean mg mb dp un gd cn cs a ccd cl outer A₀ base h₀ L m news s Q E bl vs nl x tx f r B F X N T hk hd hu hv hs hb hret
  have hret2 : ∀ (v : Int) (t : Tok) h' tk', v = (r : Int) → Fr h₀ L h' m → News h₀ L h' ((bl, listOf vs nl) :: news) → Q (.int v t) { s with heap := h', toks := tk' } := by
    rintro _ t h' tk' rfl
    exact hret t h' tk'
  refine wpAny_call ?_
  k_dflt ktr_enter
  k_steps
  all_goals first
    | exact hret2 _ _ _ _ (by omega) (by k_asm) (by k_asm)
    | exact bis_lo (by assumption) (by assumption) (by assumption) (by assumption) (by assumption) (by k_asm) (by k_asm)
    | exact bis_hi (by assumption) (by assumption) (by assumption) (by assumption) (by assumption) (by k_asm) (by k_asm)


theorem bisr_told : ∀ {w : World} {p : Program} {loose : List Str} {mean : ExcName → Option Value} {mg mb : Str → Option Value}
    (dp un : Nat) (gd : Option (List Code)) (cn : Str) (cs : Scope) (a : Addr) (ccd : Value) (cl : List (Str × Addr)) (outer : List Env) (A₀ : Around) (base h₀ : Heap) (L : Addr) (m : Str → Option Value) (news : List (Addr × Obj)) (s : Shared) (Q E : Value → Shared → Prop)
    (bl : Addr) (vs : Array Value) (nl : Nat) (x : Int) (tx : Tok) (f : Nat → Int) (r : Nat)
    (B : Below A₀ base outer h₀) (F : Fr h₀ L s.heap m) (X : (Mine.hd.heap_39 w.params).In h₀) (N : News h₀ L s.heap ((bl, listOf vs nl) :: news)) (T : Top p loose mean mg mb h₀) (hk : cs.kind = .function)
    (hd : dp + 2 < recursionLimit) (hu : un + 20 < cLine) (hv : ∀ j, j < vs.size → ∃ t, vs[j]? = some (.int (f j) t)) (hs : vs.size ≤ 1000) (hb : Bis (fun j => f j ≤ x) r vs.size)
    (hret : ∀ (t : Tok) h' tk', Fr h₀ L h' m → News h₀ L h' ((bl, listOf vs nl) :: news) → Q (.int (r : Int) t) { s with heap := h', toks := tk' }),
    wpAny (model PySem.Challenge.rw_pm0058_01.row.prog w) (ktrTop dp un gd cn cs L a ccd cl outer) (call (.ref 200) [.ref bl, .int x tx]) Q E s := by
  k_fill
  intro w p loose mean mg mb dp un gd cn cs a ccd cl outer A₀ base h₀ L m news s Q E bl vs nl x tx f r B F X N T hk hd hu hv hs hb hret
  have hret2 : ∀ (v : Int) (t : Tok) h' tk', v = (r : Int) → Fr h₀ L h' m → News h₀ L h' ((bl, listOf vs nl) :: news) → Q (.int v t) { s with heap := h', toks := tk' } := by
    rintro _ t h' tk' rfl
    exact hret t h' tk'
  refine wpAny_call ?_
  k_dflt ktr_enter
  k_steps
  all_goals first
    | exact hret2 _ _ _ _ (by omega) (by k_asm) (by k_asm)
    | exact bis_lo (by assumption) (by assumption) (by assumption) (by assumption) (by (show f _ ≤ x); omega) (by k_asm) (by k_asm)
    | exact bis_hi (by assumption) (by assumption) (by assumption) (by assumption) (by (show ¬ f _ ≤ x); omega) (by k_asm) (by k_asm)
end
section
theorem fall_told : ∀ {w : World} {p : Program} {loose : List Str} {mean : ExcName → Option Value} {mg mb : Str → Option Value}
    (dp un : Nat) (gd : Option (List Code)) (cn : Str) (cs : Scope) (a : Addr) (ccd : Value) (cl : List (Str × Addr)) (outer : List Env) (A₀ : Around) (base h₀ : Heap) (L : Addr) (m : Str → Option Value) (news : List (Addr × Obj)) (s : Shared) (Q E : Value → Shared → Prop)
    (x : Str) (t : Tok)
    (B : Below A₀ base outer h₀) (F : Fr h₀ L s.heap m) (X : (Mine.hd.heap_39 w.params).In h₀) (N : News h₀ L s.heap (news)) (T : Top p loose mean mg mb h₀) (hk : cs.kind = .function)
    (hd : dp + 1 < recursionLimit) (hu : un + 8 < cLine) (hlen : x.length ≤ 40)
    (hret : ∀ (t : Tok) h' tk', Fr h₀ L h' m → News h₀ L h' (news) → Q (.int (-(x.length : Int)) t) { s with heap := h', toks := tk' }),
    wpAny (model PySem.Challenge.rw_pm0058_01.row.prog w) (ktrTop dp un gd cn cs L a ccd cl outer) (call (.ref 225) [.str x t]) Q E s := by
  k_fill
  intro w p loose mean mg mb dp un gd cn cs a ccd cl outer A₀ base h₀ L m news s Q E x t B F X N T hk hd hu hlen hret
  refine wpAny_call ?_
  k_dflt ktr_enter
  k_steps
  all_goals exact hret _ _ _ (by k_asm) (by k_asm)


theorem fall_use {w : World} {p : Program} {loose : List Str} {mean : ExcName → Option Value} {mg mb : Str → Option Value}
    {dp un : Nat} {gd : Option (List Code)} {cn : Str} {cs : Scope} {a : Addr} {ccd : Value} {cl : List (Str × Addr)} {outer : List Env} {A₀ : Around} {base h₀ : Heap} {L : Addr} {m : Str → Option Value} {led : List (Addr × Obj)} {s : Shared} {Q E : Value → Shared → Prop}
    {x : Str} {t : Tok} 
    (B : Below A₀ base outer h₀) (F : Fr h₀ L s.heap m) (X : (Mine.hd.heap_39 w.params).In h₀) (N : News h₀ L s.heap led) (T : Top p loose mean mg mb h₀) (hk : cs.kind = .function)
    
    (hd : dp + 1 < recursionLimit) (hu : un + 8 < cLine) (hlen : x.length ≤ 40)
    (hret : ∀ (t : Tok) h' tk', Fr h₀ L h' m → News h₀ L h' led → Q (.int (-(x.length : Int)) t) { s with heap := h', toks := tk' }) :
    wpAny (model PySem.Challenge.rw_pm0058_01.row.prog w) (ktrTop dp un gd cn cs L a ccd cl outer) (call (.ref 225) [.str x t]) Q E s := by
  exact fall_told dp un gd cn cs a ccd cl outer A₀ base h₀ L m led s Q E x t B F X N T hk hd hu hlen hret
end
section
theorem lines14 : True := by
  k_with "L74" => (k_here; k_dflt ((show wpAny _ _ (call (Value.ref 225) [Value.str _ _]) _ _ _); refine' Mine.fall_use ?k1q74 ?k2q74 ?k3q74 ?k4q74 ?k5q74 ?kKq74  ?kdq74 ?kuq74 ?h1q74 ?_; (case k1q74 => k_asm); (case k2q74 => k_asm); (case k3q74 => k_asm); (case k4q74 => k_asm); (case k5q74 => k_asm); (case kKq74 => first | exact rfl | assumption); (case kdq74 => ktr_room); (case kuq74 => ktr_units); (case h1q74 => first | assumption | solve_by_elim)); intro t'q9 h'q9 tk'q9 F'q9 N'q9)
  trivial
local macro_rules | `(tactic| walk_at "exec While Compare cons nil") => `(tactic| k_extra "L72")
local macro_rules | `(tactic| walk_at "subscriptTail Name Name ref int") => `(tactic| k_extra "L73")
local macro_rules | `(tactic| walk_at "call ref") => `(tactic| k_extra "L74")

theorem bislk_told : ∀ {w : World} {p : Program} {loose : List Str} {mean : ExcName → Option Value} {mg mb : Str → Option Value}
    (dp un : Nat) (gd : Option (List Code)) (cn : Str) (cs : Scope) (a : Addr) (ccd : Value) (cl : List (Str × Addr)) (outer : List Env) (A₀ : Around) (base h₀ : Heap) (L : Addr) (m : Str → Option Value) (news : List (Addr × Obj)) (s : Shared) (Q E : Value → Shared → Prop)
    (bl : Addr) (vs : Array Value) (nl : Nat) (x : Int) (tx t0 : Tok) (g : Nat → Str) (r : Nat)
    (B : Below A₀ base outer h₀) (F : Fr h₀ L s.heap m) (X : (Mine.hd.heap_39 w.params).In h₀) (N : News h₀ L s.heap ((bl, listOf vs nl) :: news)) (T : Top p loose mean mg mb h₀) (hk : cs.kind = .function)
    (hd : dp + 3 < recursionLimit) (hu : un + 40 < cLine) (hv : ∀ j, j < vs.size → ∃ t, vs[j]? = some (.str (g j) t)) (hs : vs.size ≤ 1000) (hg : ∀ j, (g j).length ≤ 40) (hb : Bis (fun j => -((g j).length : Int) < x) r vs.size)
    (hret : ∀ (t : Tok) h' tk', Fr h₀ L h' m → News h₀ L h' ((bl, listOf vs nl) :: news) → Q (.int (r : Int) t) { s with heap := h', toks := tk' }),
    wpAny (model PySem.Challenge.rw_pm0058_01.row.prog w) (ktrTop dp un gd cn cs L a ccd cl outer) (call (.ref 218) [.ref bl, .int x tx, .int 0 t0, .none] [("key", .ref 225)]) Q E s := by
  k_fill
  intro w p loose mean mg mb dp un gd cn cs a ccd cl outer A₀ base h₀ L m news s Q E bl vs nl x tx t0 g r B F X N T hk hd hu hv hs hg hb hret
  have hret2 : ∀ (v : Int) (t : Tok) h' tk', v = (r : Int) → Fr h₀ L h' m → News h₀ L h' ((bl, listOf vs nl) :: news) → Q (.int v t) { s with heap := h', toks := tk' } := by
    rintro _ t h' tk' rfl
    exact hret t h' tk'
  refine wpAny_call ?_
  k_dflt ktr_enter
  k_steps
  all_goals first
    | exact hret2 _ _ _ _ (by omega) (by k_asm) (by k_asm)
    | exact bis_lo (by assumption) (by assumption) (by assumption) (by assumption) (by assumption) (by k_asm) (by k_asm)
    | exact bis_hi (by assumption) (by assumption) (by assumption) (by assumption) (by assumption) (by k_asm) (by k_asm)


theorem bisrk_told : ∀ {w : World} {p : Program} {loose : List Str} {mean : ExcName → Option Value} {mg mb : Str → Option Value}
    (dp un : Nat) (gd : Option (List Code)) (cn : Str) (cs : Scope) (a : Addr) (ccd : Value) (cl : List (Str × Addr)) (outer : List Env) (A₀ : Around) (base h₀ : Heap) (L : Addr) (m : Str → Option Value) (news : List (Addr × Obj)) (s : Shared) (Q E : Value → Shared → Prop)
    (bl : Addr) (vs : Array Value) (nl : Nat) (x : Int) (tx t0 : Tok) (g : Nat → Str) (r : Nat)
    (B : Below A₀ base outer h₀) (F : Fr h₀ L s.heap m) (X : (Mine.hd.heap_39 w.params).In h₀) (N : News h₀ L s.heap ((bl, listOf vs nl) :: news)) (T : Top p loose mean mg mb h₀) (hk : cs.kind = .function)
    (hd : dp + 3 < recursionLimit) (hu : un + 40 < cLine) (hv : ∀ j, j < vs.size → ∃ t, vs[j]? = some (.str (g j) t)) (hs : vs.size ≤ 1000) (hg : ∀ j, (g j).length ≤ 40) (hb : Bis (fun j => -((g j).length : Int) ≤ x) r vs.size)
    (hret : ∀ (t : Tok) h' tk', Fr h₀ L h' m → News h₀ L h' ((bl, listOf vs nl) :: news) → Q (.int (r : Int) t) { s with heap := h', toks := tk' }),
    wpAny (model PySem.Challenge.rw_pm0058_01.row.prog w) (ktrTop dp un gd cn cs L a ccd cl outer) (call (.ref 200) [.ref bl, .int x tx, .int 0 t0, .none] [("key", .ref 225)]) Q E s := by
  k_fill
  intro w p loose mean mg mb dp un gd cn cs a ccd cl outer A₀ base h₀ L m news s Q E bl vs nl x tx t0 g r B F X N T hk hd hu hv hs hg hb hret
  have hret2 : ∀ (v : Int) (t : Tok) h' tk', v = (r : Int) → Fr h₀ L h' m → News h₀ L h' ((bl, listOf vs nl) :: news) → Q (.int v t) { s with heap := h', toks := tk' } := by
    rintro _ t h' tk' rfl
    exact hret t h' tk'
  refine wpAny_call ?_
  k_dflt ktr_enter
  k_steps
  all_goals first
    | exact hret2 _ _ _ _ (by omega) (by k_asm) (by k_asm)
    | exact bis_lo (by assumption) (by assumption) (by assumption) (by assumption) (by (show -((g _).length : Int) ≤ x); omega) (by k_asm) (by k_asm)
    | exact bis_hi (by assumption) (by assumption) (by assumption) (by assumption) (by (show ¬ -((g _).length : Int) ≤ x); omega) (by k_asm) (by k_asm)
end
section
theorem bisl_use {w : World} {p : Program} {loose : List Str} {mean : ExcName → Option Value} {mg mb : Str → Option Value}
    {dp un : Nat} {gd : Option (List Code)} {cn : Str} {cs : Scope} {a : Addr} {ccd : Value} {cl : List (Str × Addr)} {outer : List Env} {A₀ : Around} {base h₀ : Heap} {L : Addr} {m : Str → Option Value} {led : List (Addr × Obj)} {s : Shared} {Q E : Value → Shared → Prop}
    {bl : Addr} {vs : Array Value} {nl : Nat} {x : Int} {tx : Tok} {f : Nat → Int} {r0 : Nat} {r : List (Addr × Obj)}
    (B : Below A₀ base outer h₀) (F : Fr h₀ L s.heap m) (X : (Mine.hd.heap_39 w.params).In h₀) (N : News h₀ L s.heap led) (T : Top p loose mean mg mb h₀) (hk : cs.kind = .function)
    (t1 : Take (bl, listOf vs nl) led r)
    (hd : dp + 2 < recursionLimit) (hu : un + 20 < cLine) (hv : ∀ j, j < vs.size → ∃ t, vs[j]? = some (.int (f j) t)) (hs : vs.size ≤ 1000) (hb : Bis (fun j => f j < x) r0 vs.size)
    (hret : ∀ (t : Tok) h' tk', Fr h₀ L h' m → News h₀ L h' led → Q (.int (r0 : Int) t) { s with heap := h', toks := tk' }) :
    wpAny (model PySem.Challenge.rw_pm0058_01.row.prog w) (ktrTop dp un gd cn cs L a ccd cl outer) (call (.ref 218) [.ref bl, .int x tx]) Q E s := by
  exact bisl_told dp un gd cn cs a ccd cl outer A₀ base h₀ L m r s Q E bl vs nl x tx f r0 B F X (news_take N t1) T hk hd hu hv hs hb fun t h' tk' F' N' => hret t h' tk' F' (Mine.news_sub N' (fun p hp => (t1.sub p).mpr hp))

theorem bisr_use {w : World} {p : Program} {loose : List Str} {mean : ExcName → Option Value} {mg mb : Str → Option Value}
    {dp un : Nat} {gd : Option (List Code)} {cn : Str} {cs : Scope} {a : Addr} {ccd : Value} {cl : List (Str × Addr)} {outer : List Env} {A₀ : Around} {base h₀ : Heap} {L : Addr} {m : Str → Option Value} {led : List (Addr × Obj)} {s : Shared} {Q E : Value → Shared → Prop}
    {bl : Addr} {vs : Array Value} {nl : Nat} {x : Int} {tx : Tok} {f : Nat → Int} {r0 : Nat} {r : List (Addr × Obj)}
    (B : Below A₀ base outer h₀) (F : Fr h₀ L s.heap m) (X : (Mine.hd.heap_39 w.params).In h₀) (N : News h₀ L s.heap led) (T : Top p loose mean mg mb h₀) (hk : cs.kind = .function)
    (t1 : Take (bl, listOf vs nl) led r)
    (hd : dp + 2 < recursionLimit) (hu : un + 20 < cLine) (hv : ∀ j, j < vs.size → ∃ t, vs[j]? = some (.int (f j) t)) (hs : vs.size ≤ 1000) (hb : Bis (fun j => f j ≤ x) r0 vs.size)
    (hret : ∀ (t : Tok) h' tk', Fr h₀ L h' m → News h₀ L h' led → Q (.int (r0 : Int) t) { s with heap := h', toks := tk' }) :
    wpAny (model PySem.Challenge.rw_pm0058_01.row.prog w) (ktrTop dp un gd cn cs L a ccd cl outer) (call (.ref 200) [.ref bl, .int x tx]) Q E s := by
  exact bisr_told dp un gd cn cs a ccd cl outer A₀ base h₀ L m r s Q E bl vs nl x tx f r0 B F X (news_take N t1) T hk hd hu hv hs hb fun t h' tk' F' N' => hret t h' tk' F' (Mine.news_sub N' (fun p hp => (t1.sub p).mpr hp))

theorem bislk_use {w : World} {p : Program} {loose : List Str} {mean : ExcName → Option Value} {mg mb : Str → Option Value}
    {dp un : Nat} {gd : Option (List Code)} {cn : Str} {cs : Scope} {a : Addr} {ccd : Value} {cl : List (Str × Addr)} {outer : List Env} {A₀ : Around} {base h₀ : Heap} {L : Addr} {m : Str → Option Value} {led : List (Addr × Obj)} {s : Shared} {Q E : Value → Shared → Prop}
    {bl : Addr} {vs : Array Value} {nl : Nat} {x : Int} {tx t0 : Tok} {g : Nat → Str} {r0 : Nat} {r : List (Addr × Obj)}
    (B : Below A₀ base outer h₀) (F : Fr h₀ L s.heap m) (X : (Mine.hd.heap_39 w.params).In h₀) (N : News h₀ L s.heap led) (T : Top p loose mean mg mb h₀) (hk : cs.kind = .function)
    (t1 : Take (bl, listOf vs nl) led r)
    (hd : dp + 3 < recursionLimit) (hu : un + 40 < cLine) (hv : ∀ j, j < vs.size → ∃ t, vs[j]? = some (.str (g j) t)) (hs : vs.size ≤ 1000) (hg : ∀ j, (g j).length ≤ 40) (hb : Bis (fun j => -((g j).length : Int) < x) r0 vs.size)
    (hret : ∀ (t : Tok) h' tk', Fr h₀ L h' m → News h₀ L h' led → Q (.int (r0 : Int) t) { s with heap := h', toks := tk' }) :
    wpAny (model PySem.Challenge.rw_pm0058_01.row.prog w) (ktrTop dp un gd cn cs L a ccd cl outer) (call (.ref 218) [.ref bl, .int x tx, .int 0 t0, .none] [("key", .ref 225)]) Q E s := by
  exact bislk_told dp un gd cn cs a ccd cl outer A₀ base h₀ L m r s Q E bl vs nl x tx t0 g r0 B F X (news_take N t1) T hk hd hu hv hs hg hb fun t h' tk' F' N' => hret t h' tk' F' (Mine.news_sub N' (fun p hp => (t1.sub p).mpr hp))

theorem bisrk_use {w : World} {p : Program} {loose : List Str} {mean : ExcName → Option Value} {mg mb : Str → Option Value}
    {dp un : Nat} {gd : Option (List Code)} {cn : Str} {cs : Scope} {a : Addr} {ccd : Value} {cl : List (Str × Addr)} {outer : List Env} {A₀ : Around} {base h₀ : Heap} {L : Addr} {m : Str → Option Value} {led : List (Addr × Obj)} {s : Shared} {Q E : Value → Shared → Prop}
    {bl : Addr} {vs : Array Value} {nl : Nat} {x : Int} {tx t0 : Tok} {g : Nat → Str} {r0 : Nat} {r : List (Addr × Obj)}
    (B : Below A₀ base outer h₀) (F : Fr h₀ L s.heap m) (X : (Mine.hd.heap_39 w.params).In h₀) (N : News h₀ L s.heap led) (T : Top p loose mean mg mb h₀) (hk : cs.kind = .function)
    (t1 : Take (bl, listOf vs nl) led r)
    (hd : dp + 3 < recursionLimit) (hu : un + 40 < cLine) (hv : ∀ j, j < vs.size → ∃ t, vs[j]? = some (.str (g j) t)) (hs : vs.size ≤ 1000) (hg : ∀ j, (g j).length ≤ 40) (hb : Bis (fun j => -((g j).length : Int) ≤ x) r0 vs.size)
    (hret : ∀ (t : Tok) h' tk', Fr h₀ L h' m → News h₀ L h' led → Q (.int (r0 : Int) t) { s with heap := h', toks := tk' }) :
    wpAny (model PySem.Challenge.rw_pm0058_01.row.prog w) (ktrTop dp un gd cn cs L a ccd cl outer) (call (.ref 200) [.ref bl, .int x tx, .int 0 t0, .none] [("key", .ref 225)]) Q E s := by
  exact bisrk_told dp un gd cn cs a ccd cl outer A₀ base h₀ L m r s Q E bl vs nl x tx t0 g r0 B F X (news_take N t1) T hk hd hu hv hs hg hb fun t h' tk' F' N' => hret t h' tk' F' (Mine.news_sub N' (fun p hp => (t1.sub p).mpr hp))
end
section
noncomputable def insAt (vs : Array Value) (r : Nat) (y : Value) : Array Value := (vs.toList.take r ++ y :: vs.toList.drop r).toArray
theorem ins_K {prog : Program} {w : World} {A : Around} {E : Value → Shared → Prop} {s : Shared} {h₀ : Heap} {L D : Addr} {m : Str → Option Value} {news news' : List (Addr × Obj)} {vs : Array Value} {n r : Nat} {u : Tok} {y : Value} {P : Nat → Prop} {Q : Value → Shared → Prop} (F : Fr h₀ L s.heap m) (N : News h₀ L s.heap news) (b : Bis P r vs.size)
    (U : Upd D (listOf vs n) (listOf (insAt vs r y) (n + 1)) news news') (h : ∀ h', Fr h₀ L h' m → News h₀ L h' news' → Q .none { s with heap := h' }) :
    wpAny (model prog w) A (call (.builtin "list.insert") [.ref D, .int (r : Int) u, y]) Q E s := by
  have h1 := b.le
  have h2 := b.sz
  refine kl_insert (l := vs.toList.take r ++ y :: vs.toList.drop r) F N ?_ ?_ U ?_ h
  · unfold Builtin.List.listFitsIndex
    simp
    omega
  · unfold kl_ins
    have e1 : ¬ ((r : Int) < 0) := by omega
    have e2 : min ((r : Int).toNat) vs.toList.length = r := by
      rw [Int.toNat_natCast, Array.length_toList]
      omega
    simp only [if_neg e1, e2]
  · rw [Array.length_toList, sizeLine_eq]
    omega
end
section
theorem lines15 : True := by
  k_with "L75" => (k_here; k_dflt ((show wpAny _ _ (call (Value.ref 218) [Value.ref _, Value.int _ _, Value.int _ _, Value.none] [(_, Value.ref 225)]) _ _ _); refine' Mine.bislk_use ?k1q75 ?k2q75 ?k3q75 ?k4q75 ?k5q75 ?kKq75 ?t1q75 ?kdq75 ?kuq75 ?h1q75 ?h2q75 ?h3q75 ?h4q75 ?_; (case k1q75 => k_asm); (case k2q75 => k_asm); (case k3q75 => k_asm); (case k4q75 => k_asm); (case k5q75 => k_asm); (case kKq75 => first | exact rfl | assumption); (case t1q75 => (repeat (first | exact Mine.Take.head | apply Mine.Take.tail))); (case kdq75 => ktr_room); (case kuq75 => ktr_units); (case h1q75 => assumption); (case h2q75 => assumption); (case h3q75 => assumption); (case h4q75 => assumption)); intro t'q9 h'q9 tk'q9 F'q9 N'q9)
  k_with "L76" => (k_here; k_dflt ((show wpAny _ _ (call (Value.ref 200) [Value.ref _, Value.int _ _, Value.int _ _, Value.none] [(_, Value.ref 225)]) _ _ _); refine' Mine.bisrk_use ?k1q76 ?k2q76 ?k3q76 ?k4q76 ?k5q76 ?kKq76 ?t1q76 ?kdq76 ?kuq76 ?h1q76 ?h2q76 ?h3q76 ?h4q76 ?_; (case k1q76 => k_asm); (case k2q76 => k_asm); (case k3q76 => k_asm); (case k4q76 => k_asm); (case k5q76 => k_asm); (case kKq76 => first | exact rfl | assumption); (case t1q76 => (repeat (first | exact Mine.Take.head | apply Mine.Take.tail))); (case kdq76 => ktr_room); (case kuq76 => ktr_units); (case h1q76 => assumption); (case h2q76 => assumption); (case h3q76 => assumption); (case h4q76 => assumption)); intro t'q9 h'q9 tk'q9 F'q9 N'q9)
  k_with "L77" => (k_here; (with_reducible show wpAny _ _ (call (Value.builtin _) [Value.ref _, Value.int _ _, _]) _ _ _); k_dflt (refine' Mine.ins_K ?Fq77 ?Nq77 ?bq77 ?Uq77 ?_; (case Fq77 => k_asm); (case Nq77 => k_asm); (case bq77 => assumption); (case Uq77 => k_upd)); intro h'q9 F'q9 N'q9)
  trivial
local macro_rules | `(tactic| walk_at "call ref") => `(tactic| k_extra "L74")
local macro_rules | `(tactic| walk_at "call ref") => `(tactic| k_extra "L75")
local macro_rules | `(tactic| walk_at "call ref") => `(tactic| k_extra "L76")

local macro_rules | `(tactic| walk_at "call builtin:list.insert") => `(tactic| k_extra "L77")

theorem insl_told : ∀ {w : World} {p : Program} {loose : List Str} {mean : ExcName → Option Value} {mg mb : Str → Option Value}
    (dp un : Nat) (gd : Option (List Code)) (cn : Str) (cs : Scope) (a : Addr) (ccd : Value) (cl : List (Str × Addr)) (outer : List Env) (A₀ : Around) (base h₀ : Heap) (L : Addr) (m : Str → Option Value) (news : List (Addr × Obj)) (s : Shared) (Q E : Value → Shared → Prop)
    (bl : Addr) (vs : Array Value) (nl : Nat) (x : Str) (tx : Tok) (g : Nat → Str) (r : Nat)
    (B : Below A₀ base outer h₀) (F : Fr h₀ L s.heap m) (X : (Mine.hd.heap_39 w.params).In h₀) (N : News h₀ L s.heap ((bl, listOf vs nl) :: news)) (T : Top p loose mean mg mb h₀) (hk : cs.kind = .function)
    (hd : dp + 4 < recursionLimit) (hu : un + 80 < cLine) (hv : ∀ j, j < vs.size → ∃ t, vs[j]? = some (.str (g j) t)) (hs : vs.size ≤ 1000) (hg : ∀ j, (g j).length ≤ 40) (hap : ∀ p ∈ news, p.1 ≠ bl) (hx : x.length ≤ 40) (hb : Bis (fun j => -((g j).length : Int) < -(x.length : Int)) r vs.size)
    (hret : ∀ h' tk', Fr h₀ L h' m → News h₀ L h' ((bl, listOf (insAt vs r (.str x tx)) (nl + 1)) :: news) → Q .none { s with heap := h', toks := tk' }),
    wpAny (model PySem.Challenge.rw_pm0058_01.row.prog w) (ktrTop dp un gd cn cs L a ccd cl outer) (call (.ref 209) [.ref bl, .str x tx] [("key", .ref 225)]) Q E s := by
  k_fill
  intro w p loose mean mg mb dp un gd cn cs a ccd cl outer A₀ base h₀ L m news s Q E bl vs nl x tx g r B F X N T hk hd hu hv hs hg hap hx hb hret
  refine wpAny_call ?_
  k_dflt ktr_enter
  k_steps
  all_goals exact hret _ _ (by k_asm) (by k_asm)


theorem insr_told : ∀ {w : World} {p : Program} {loose : List Str} {mean : ExcName → Option Value} {mg mb : Str → Option Value}
    (dp un : Nat) (gd : Option (List Code)) (cn : Str) (cs : Scope) (a : Addr) (ccd : Value) (cl : List (Str × Addr)) (outer : List Env) (A₀ : Around) (base h₀ : Heap) (L : Addr) (m : Str → Option Value) (news : List (Addr × Obj)) (s : Shared) (Q E : Value → Shared → Prop)
    (bl : Addr) (vs : Array Value) (nl : Nat) (x : Str) (tx : Tok) (g : Nat → Str) (r : Nat)
    (B : Below A₀ base outer h₀) (F : Fr h₀ L s.heap m) (X : (Mine.hd.heap_39 w.params).In h₀) (N : News h₀ L s.heap ((bl, listOf vs nl) :: news)) (T : Top p loose mean mg mb h₀) (hk : cs.kind = .function)
    (hd : dp + 4 < recursionLimit) (hu : un + 80 < cLine) (hv : ∀ j, j < vs.size → ∃ t, vs[j]? = some (.str (g j) t)) (hs : vs.size ≤ 1000) (hg : ∀ j, (g j).length ≤ 40) (hap : ∀ p ∈ news, p.1 ≠ bl) (hx : x.length ≤ 40) (hb : Bis (fun j => -((g j).length : Int) ≤ -(x.length : Int)) r vs.size)
    (hret : ∀ h' tk', Fr h₀ L h' m → News h₀ L h' ((bl, listOf (insAt vs r (.str x tx)) (nl + 1)) :: news) → Q .none { s with heap := h', toks := tk' }),
    wpAny (model PySem.Challenge.rw_pm0058_01.row.prog w) (ktrTop dp un gd cn cs L a ccd cl outer) (call (.ref 191) [.ref bl, .str x tx] [("key", .ref 225)]) Q E s := by
  k_fill
  intro w p loose mean mg mb dp un gd cn cs a ccd cl outer A₀ base h₀ L m news s Q E bl vs nl x tx g r B F X N T hk hd hu hv hs hg hap hx hb hret
  refine wpAny_call ?_
  k_dflt ktr_enter
  k_steps
  all_goals exact hret _ _ (by k_asm) (by k_asm)
end
section
/-- a word: some small letters -/
structure Wd (x : Str) : Prop where
  pos : 1 ≤ x.length
  short : x.length ≤ 17
  letters : ∀ c ∈ x.cps.toList, 97 ≤ c ∧ c ≤ 122
theorem mul_word {prog : Program} {w : World} {A : Around} {E : Value → Shared → Prop} {s : Shared} {t u : Tok} {i : Nat} {z : Int} {Q : Value → Shared → Prop} (hi : i < 13) (h2 : 2 ≤ z) (h18 : z ≤ 18)
    (h : ∀ x t k, Wd x → (x.length : Int) + 1 = z → Q (.str x t) { s with toks := k }) : wpAny (model prog w) A (binaryOp .Mult (.str ⟨#[(97 + (i : Int)).toNat]⟩ t) (.int (z - 1) u)) Q E s := by
  have hl : (Txt.mul (⟨#[(97 + (i : Int)).toNat]⟩ : Str) (z - 1)).cps.toList = List.replicate (z - 1).toNat (97 + (i : Int)).toNat := mul_one_list _ _
  have hn : (Txt.mul (⟨#[(97 + (i : Int)).toNat]⟩ : Str) (z - 1)).length = (z - 1).toNat := by
    show (Txt.mul (⟨#[(97 + (i : Int)).toNat]⟩ : Str) (z - 1)).cps.size = _
    rw [← Array.length_toList, hl, List.length_replicate]
  refine SB.mul (mulOk_of 1 18 (Nat.le_refl 1) (by omega) (by omega) (by omega) (by omega)) fun t' k => h _ t' k ⟨by omega, by omega, fun c hc => ?_⟩ (by omega)
  rw [hl] at hc
  have := List.eq_of_mem_replicate hc
  omega
theorem menu3 {prog : Program} {w : World} {A : Around} {E : Value → Shared → Prop} {s : Shared} {h₀ : Heap} {L l : Addr} {news : List (Addr × Obj)} {value slice : Expr} {a b c x : Int} {t1 t2 t3 u : Tok} {n : Nat} {Q : Value → Shared → Prop} (N : News h₀ L s.heap news) (hm : (l, listOf #[.int a t1, .int b t2, .int c t3] n) ∈ news)
    (h : ∀ z t, (z = a ∨ z = b ∨ z = c) → Q (.int z t) s)
    (hs : subscripted slice false (.ref l) (.int (x.fmod 3) u) = operate [.ref l, .int (x.fmod 3) u] (getItem (.ref l) (.int (x.fmod 3) u))) :
    wpAny (model prog w) A (subscriptTail value slice (.ref l) (.int (x.fmod 3) u)) Q E s := by
  have h1 := Int.fmod_nonneg_of_pos x (b := 3) (by omega)
  have h2 := Int.fmod_lt_of_pos x (b := 3) (by omega)
  have hl := News.isList N hm
  have go : ∀ v, (#[Value.int a t1, .int b t2, .int c t3] : Array Value)[(x.fmod 3).toNat]? = some v → Q v s → wpAny (model prog w) A (subscriptTail value slice (.ref l) (.int (x.fmod 3) u)) Q E s := fun v hv hq =>
    tail_any hl.typeIs slot_list_getitem.lookup (wpAny_getItem_list hl h1 (by omega) hv hq) hs
  have h3 : x.fmod 3 = 0 ∨ x.fmod 3 = 1 ∨ x.fmod 3 = 2 := by omega
  rcases h3 with e | e | e
  · exact go (.int a t1) (by rw [e]; rfl) (h _ _ (.inl rfl))
  · exact go (.int b t2) (by rw [e]; rfl) (h _ _ (.inr (.inl rfl)))
  · exact go (.int c t3) (by rw [e]; rfl) (h _ _ (.inr (.inr rfl)))
/-- the row's order: great words ahead; of like sizes first those of the first list -/
structure RowInv (R A B : List Str) : Prop where
  sorted : R.Pairwise fun a b => b.length ≤ a.length
  same : ∀ n : Nat, R.filter (fun x => x.length == n) = (A ++ B).filter (fun x => x.length == n)
theorem RowInv.nil : RowInv [] [] [] := ⟨.nil, fun _ => rfl⟩
theorem nth_mem_take {R : List Str} {r j : Nat} (hj : j < r) (h : j < R.length) : R.getD j "" ∈ R.take r := by
  rw [List.getD_eq_getElem?_getD, List.getElem?_eq_getElem h, Option.getD_some]
  exact List.mem_take_iff_getElem.mpr ⟨j, by omega, rfl⟩
theorem mem_take_nth {R : List Str} {r : Nat} {a : Str} (h : a ∈ R.take r) : ∃ j, j < r ∧ j < R.length ∧ R.getD j "" = a := by
  obtain ⟨j, hj, e⟩ := List.mem_take_iff_getElem.mp h
  exact ⟨j, by omega, by omega, by rw [List.getD_eq_getElem?_getD, List.getElem?_eq_getElem (by omega), Option.getD_some, e]⟩
theorem mem_drop_nth {R : List Str} {r : Nat} {a : Str} (h : a ∈ R.drop r) : ∃ j, r ≤ j ∧ j < R.length ∧ R.getD j "" = a := by
  obtain ⟨j, hj, e⟩ := List.mem_drop_iff_getElem.mp h
  exact ⟨r + j, by omega, by omega, by rw [List.getD_eq_getElem?_getD, List.getElem?_eq_getElem (by omega), Option.getD_some, ← e]⟩
theorem filter_none {l : List Str} {n : Nat} (h : ∀ a ∈ l, a.length ≠ n) : l.filter (fun x => x.length == n) = [] := by
  rw [List.filter_eq_nil_iff]
  intro a ha
  simpa using h a ha
theorem insert_sorted {R : List Str} {x : Str} {r : Nat} (hs : R.Pairwise fun a b => b.length ≤ a.length) (h1 : ∀ a ∈ R.take r, x.length ≤ a.length) (h2 : ∀ a ∈ R.drop r, a.length ≤ x.length) : (R.take r ++ x :: R.drop r).Pairwise fun a b => b.length ≤ a.length := by
  have hs' : (R.take r ++ R.drop r).Pairwise fun a b => b.length ≤ a.length := by rw [List.take_append_drop]; exact hs
  rw [List.pairwise_append] at hs' ⊢
  refine ⟨hs'.1, List.pairwise_cons.mpr ⟨h2, hs'.2.1⟩, fun a ha b hb => ?_⟩
  rcases List.mem_cons.mp hb with rfl | hb
  · exact h1 a ha
  · exact hs'.2.2 a ha b hb
theorem RowInv.left {R A B : List Str} {x : Str} {r : Nat} (h : RowInv R A B) (h1 : ∀ a ∈ R.take r, x.length < a.length) (h2 : ∀ a ∈ R.drop r, a.length ≤ x.length) : RowInv (R.take r ++ x :: R.drop r) (x :: A) B := by
  refine ⟨insert_sorted h.sorted (fun a ha => Nat.le_of_lt (h1 a ha)) h2, fun n => ?_⟩
  have hsp := h.same n
  rw [← List.take_append_drop r R] at hsp
  rw [List.filter_append] at hsp
  rw [List.filter_append, List.cons_append, List.filter_cons, List.filter_cons]
  by_cases e : x.length = n
  · subst e
    have := filter_none (l := R.take r) (n := x.length) fun a ha => Nat.ne_of_gt (h1 a ha)
    rw [this, List.nil_append] at hsp ⊢
    simp only [beq_self_eq_true, if_true]
    rw [hsp]
  · have : (x.length == n) = false := by simpa using e
    rw [this]
    simp only [Bool.false_eq_true, if_false]
    exact hsp
theorem RowInv.right {R A B : List Str} {x : Str} {r : Nat} (h : RowInv R A B) (h1 : ∀ a ∈ R.take r, x.length ≤ a.length) (h2 : ∀ a ∈ R.drop r, a.length < x.length) : RowInv (R.take r ++ x :: R.drop r) A (B ++ [x]) := by
  refine ⟨insert_sorted h.sorted h1 (fun a ha => Nat.le_of_lt (h2 a ha)), fun n => ?_⟩
  have hsp := h.same n
  rw [← List.take_append_drop r R] at hsp
  rw [List.filter_append] at hsp
  rw [List.filter_append, List.filter_cons, ← List.append_assoc, List.filter_append (A ++ B), ← hsp]
  by_cases e : x.length = n
  · subst e
    have := filter_none (l := R.drop r) (n := x.length) fun a ha => Nat.ne_of_lt (h2 a ha)
    rw [this]
    simp
  · have : (x.length == n) = false := by simpa using e
    simp [this]
/-- the place: how many stand ahead -/
theorem place_exists {R : List Str} (hs : R.Pairwise fun a b => b.length ≤ a.length) (hl : R.length ≤ 1000) (P : Nat → Prop) [DecidablePred P] (mono : ∀ a b : Nat, a ≤ b → P a → P b) :
    ∃ r, Bis (fun j => P (R.getD j "").length) r R.length := by
  induction R with
  | nil => exact ⟨0, Nat.le_refl _, fun j h => absurd h (Nat.not_lt_zero _), fun j _ h => absurd h (Nat.not_lt_zero _), hl⟩
  | cons a R ih =>
    obtain ⟨r, hb⟩ := ih (List.pairwise_cons.mp hs).2 (by simp at hl; omega)
    by_cases hp : P a.length
    · refine ⟨r + 1, by simpa using hb.le, fun j hj => ?_, fun j h1 h2 => ?_, hl⟩
      · cases j with
        | zero => exact hp
        | succ j => exact hb.lo j (by omega)
      · cases j with
        | zero => omega
        | succ j => exact hb.hi j (by omega) (by simpa using h2)
    · refine ⟨0, Nat.zero_le _, fun j h => absurd h (Nat.not_lt_zero _), fun j _ h2 => ?_, hl⟩
      intro hq
      refine hp (mono _ _ ?_ hq)
      cases j with
      | zero => exact Nat.le_refl _
      | succ j =>
        have hj : j < R.length := by simpa using h2
        have := (List.pairwise_cons.mp hs).1 (R.getD j "") (by rw [List.getD_eq_getElem?_getD, List.getElem?_eq_getElem hj, Option.getD_some]; exact List.getElem_mem hj)
        exact this
end
section
theorem Txts.size {vs : Array Value} {xs : List Str} (h : Txts vs xs) : vs.size = xs.length := by
  obtain ⟨l, rfl, rfl⟩ := h
  simp [strValues]
theorem Txts.at {vs : Array Value} {xs : List Str} (h : Txts vs xs) : ∀ j, j < vs.size → ∃ t, vs[j]? = some (.str (xs.getD j "") t) := by
  obtain ⟨l, rfl, rfl⟩ := h
  intro j hj
  have hj' : j < l.length := by simpa [strValues] using hj
  refine ⟨(l[j]).2, ?_⟩
  simp [strValues, hj', List.getD_eq_getElem?_getD]
theorem Txts.ins {vs : Array Value} {xs : List Str} {r : Nat} {x : Str} {t : Tok} (h : Txts vs xs) : Txts (insAt vs r (.str x t)) (xs.take r ++ x :: xs.drop r) := by
  obtain ⟨l, rfl, rfl⟩ := h
  exact ⟨l.take r ++ (x, t) :: l.drop r, by simp [strValues, insAt, List.map_take, List.map_drop], by simp [List.map_take, List.map_drop]⟩
theorem short_at {R : List Str} (h : ∀ a ∈ R, Wd a) (j : Nat) : (R.getD j "").length ≤ 40 := by
  rw [List.getD_eq_getElem?_getD]
  cases q : R[j]? with
  | none => exact Nat.zero_le _
  | some a => exact Nat.le_trans (h a (List.mem_of_getElem? q)).short (by omega)
theorem mem_ins {R : List Str} {r : Nat} {x a : Str} (h : a ∈ R.take r ++ x :: R.drop r) : a = x ∨ a ∈ R := by
  rcases List.mem_append.mp h with h | h
  · exact .inr (List.mem_of_mem_take h)
  · rcases List.mem_cons.mp h with h | h
    · exact .inl h
    · exact .inr (List.mem_of_mem_drop h)
theorem len_ins {R : List Str} {r : Nat} {x : Str} : (R.take r ++ x :: R.drop r).length = R.length + 1 := by
  rw [List.length_append, List.length_cons, List.length_take, List.length_drop]
  omega
theorem place_left {R A B : List Str} {x : Str} (h : RowInv R A B) (hl : R.length ≤ 1000) : ∃ r, Bis (fun j => -(((R.getD j "").length : Nat) : Int) < -(x.length : Int)) r R.length ∧ RowInv (R.take r ++ x :: R.drop r) (x :: A) B := by
  obtain ⟨r, hb⟩ := place_exists h.sorted hl (fun n => -(n : Int) < -(x.length : Int)) (fun a b hab hp => by omega)
  refine ⟨r, hb, h.left (fun a ha => ?_) (fun a ha => ?_)⟩
  · obtain ⟨j, h1, h2, rfl⟩ := mem_take_nth ha
    have := hb.lo j h1
    omega
  · obtain ⟨j, h1, h2, rfl⟩ := mem_drop_nth ha
    have := hb.hi j h1 h2
    omega
theorem place_right {R A B : List Str} {x : Str} (h : RowInv R A B) (hl : R.length ≤ 1000) : ∃ r, Bis (fun j => -(((R.getD j "").length : Nat) : Int) ≤ -(x.length : Int)) r R.length ∧ RowInv (R.take r ++ x :: R.drop r) A (B ++ [x]) := by
  obtain ⟨r, hb⟩ := place_exists h.sorted hl (fun n => -(n : Int) ≤ -(x.length : Int)) (fun a b hab hp => by omega)
  refine ⟨r, hb, h.right (fun a ha => ?_) (fun a ha => ?_)⟩
  · obtain ⟨j, h1, h2, rfl⟩ := mem_take_nth ha
    have := hb.lo j h1
    omega
  · obtain ⟨j, h1, h2, rfl⟩ := mem_drop_nth ha
    have := hb.hi j h1 h2
    omega
theorem Txts.one {x : Str} {t : Tok} : Txts #[.str x t] [x] := ⟨[(x, t)], rfl, rfl⟩
theorem Txts.append {va vb : Array Value} {A B : List Str} (h1 : Txts va A) (h2 : Txts vb B) : Txts (va.toList ++ vb.toList).toArray (A ++ B) := by
  obtain ⟨l1, rfl, rfl⟩ := h1
  obtain ⟨l2, rfl, rfl⟩ := h2
  exact ⟨l1 ++ l2, by simp [strValues], by simp⟩
theorem add_txts {prog : Program} {w : World} {A₀ : Around} {E : Value → Shared → Prop} {s : Shared} {h₀ : Heap} {L a b : Addr} {m : Str → Option Value} {news : List (Addr × Obj)} {va vb : Array Value} {na nb : Nat} {A B : List Str} {Q : Value → Shared → Prop} (F : Fr h₀ L s.heap m) (N : News h₀ L s.heap news) (ha : (a, listOf va na) ∈ news) (hb : (b, listOf vb nb) ∈ news) (h1 : Txts va A) (h2 : Txts vb B) (hz : A.length + B.length ≤ 1000)
    (h : ∀ (D : Addr) vs' h', (∀ p ∈ news, p.1 < D) → Txts vs' (A ++ B) → Fr h₀ L h' m → News h₀ L h' ((D, listOf vs' 0) :: news) → Q (.ref D) { s with heap := h' }) : wpAny (model prog w) A₀ (binaryOp .Add (.ref a) (.ref b)) Q E s :=
  add_arrays F N (News.isList N ha) (News.isList N hb) (fun h' F' N' => h _ _ h' (fun p hp => Heap.lt_size (N p hp).1) (h1.append h2) F' N') (by rw [h1.size, h2.size, sizeLine_eq]; omega)
end
section
theorem rowl_use {w : World} {p : Program} {loose : List Str} {mean : ExcName → Option Value} {mg mb : Str → Option Value}
    {dp un : Nat} {gd : Option (List Code)} {cn : Str} {cs : Scope} {a : Addr} {ccd : Value} {cl : List (Str × Addr)} {outer : List Env} {A₀ : Around} {base h₀ : Heap} {L : Addr} {m : Str → Option Value} {led : List (Addr × Obj)} {s : Shared} {Q E : Value → Shared → Prop}
    {rw : Addr} {vs : Array Value} {nr : Nat} {x : Str} {tx : Tok} {R A Bh : List Str} {r : List (Addr × Obj)}
    (B : Below A₀ base outer h₀) (F : Fr h₀ L s.heap m) (X : (Mine.hd.heap_39 w.params).In h₀) (N : News h₀ L s.heap led) (T : Top p loose mean mg mb h₀) (hk : cs.kind = .function)
    (t1 : Take (rw, listOf vs nr) led r)
    (hd : dp + 4 < recursionLimit) (hu : un + 80 < cLine) (htx : Txts vs R) (hri : RowInv R A Bh) (hl : R.length ≤ 20) (hw : ∀ a ∈ R, Wd a) (hx : Wd x) (hap : ∀ p ∈ r, p.1 ≠ rw)
    (hret : ∀ vs' R' h' tk', Txts vs' R' → RowInv R' (x :: A) Bh → (∀ a ∈ R', a = x ∨ a ∈ R) → R'.length = R.length + 1 → Fr h₀ L h' m → News h₀ L h' ((rw, listOf vs' (nr + 1)) :: r) → Q .none { s with heap := h', toks := tk' }) :
    wpAny (model PySem.Challenge.rw_pm0058_01.row.prog w) (ktrTop dp un gd cn cs L a ccd cl outer) (call (.ref 209) [.ref rw, .str x tx] [("key", .ref 225)]) Q E s := by
  obtain ⟨k, hb, hri'⟩ := place_left (x := x) hri (by omega)
  rw [← htx.size] at hb
  have hs := htx.size
  refine insl_told dp un gd cn cs a ccd cl outer A₀ base h₀ L m r s Q E rw vs nr x tx (fun j => R.getD j "") k B F X (news_take N t1) T hk hd hu htx.at (by omega) (short_at hw) hap (by have := hx.short; omega) hb fun h' tk' F' N' => ?_
  exact hret _ _ h' tk' htx.ins hri' (fun a ha => mem_ins ha) len_ins F' N'

theorem rowr_use {w : World} {p : Program} {loose : List Str} {mean : ExcName → Option Value} {mg mb : Str → Option Value}
    {dp un : Nat} {gd : Option (List Code)} {cn : Str} {cs : Scope} {a : Addr} {ccd : Value} {cl : List (Str × Addr)} {outer : List Env} {A₀ : Around} {base h₀ : Heap} {L : Addr} {m : Str → Option Value} {led : List (Addr × Obj)} {s : Shared} {Q E : Value → Shared → Prop}
    {rw : Addr} {vs : Array Value} {nr : Nat} {x : Str} {tx : Tok} {R A Bh : List Str} {r : List (Addr × Obj)}
    (B : Below A₀ base outer h₀) (F : Fr h₀ L s.heap m) (X : (Mine.hd.heap_39 w.params).In h₀) (N : News h₀ L s.heap led) (T : Top p loose mean mg mb h₀) (hk : cs.kind = .function)
    (t1 : Take (rw, listOf vs nr) led r)
    (hd : dp + 4 < recursionLimit) (hu : un + 80 < cLine) (htx : Txts vs R) (hri : RowInv R A Bh) (hl : R.length ≤ 20) (hw : ∀ a ∈ R, Wd a) (hx : Wd x) (hap : ∀ p ∈ r, p.1 ≠ rw)
    (hret : ∀ vs' R' h' tk', Txts vs' R' → RowInv R' A (Bh ++ [x]) → (∀ a ∈ R', a = x ∨ a ∈ R) → R'.length = R.length + 1 → Fr h₀ L h' m → News h₀ L h' ((rw, listOf vs' (nr + 1)) :: r) → Q .none { s with heap := h', toks := tk' }) :
    wpAny (model PySem.Challenge.rw_pm0058_01.row.prog w) (ktrTop dp un gd cn cs L a ccd cl outer) (call (.ref 191) [.ref rw, .str x tx] [("key", .ref 225)]) Q E s := by
  obtain ⟨k, hb, hri'⟩ := place_right (x := x) hri (by omega)
  rw [← htx.size] at hb
  have hs := htx.size
  refine insr_told dp un gd cn cs a ccd cl outer A₀ base h₀ L m r s Q E rw vs nr x tx (fun j => R.getD j "") k B F X (news_take N t1) T hk hd hu htx.at (by omega) (short_at hw) hap (by have := hx.short; omega) hb fun h' tk' F' N' => ?_
  exact hret _ _ h' tk' htx.ins hri' (fun a ha => mem_ins ha) len_ins F' N'
end
section
noncomputable def lawParts : List Stmt × Scope := match PySem.Challenge.rw_pm0058_01.row.prog.main.body.getLast? with
  | some (Stmt.FunctionDef (body := b) (scope := sc) ..) => (b, sc)
  | _ => ([], { kind := .function, names := [], isGenerator := false, isCoroutine := false })
noncomputable def lawLit : (l : List Stmt × Scope) ×' (l = (lawParts.1, lawParts.2)) := by
  refine ⟨(?l, ?s), ?e⟩
  case e =>
    refine Prod.ext ?_ ?_
    · show _ = lawParts.1
      conv => rhs; whnf
    · show _ = lawParts.2
      conv => rhs; whnf
noncomputable abbrev lawBody : List Stmt := lawLit.1.1
noncomputable abbrev lawScope : Scope := lawLit.1.2
noncomputable abbrev lawEnv (L fa : Addr) (cd : Value) : Env := envOfC (Str.ofString "law") lawScope L fa cd
noncomputable abbrev stmtAt (k : Nat) : Stmt := (lawBody[k]?).getD (.Pass ⟨0, 0, 0, 0⟩)
noncomputable abbrev bodyAt (k : Nat) : List Stmt := match stmtAt k with | .For _ _ b _ _ => b | .While _ b _ _ => b | _ => []
theorem law_len : lawBody.length = 24 := by kernel_rfl
theorem boot_chr : bootBuiltins "chr" = some (.builtin "chr") := by decide +kernel
theorem boot_max : bootBuiltins "max" = some (.builtin "max") := by decide +kernel
theorem fmod_two (g : Int) : g.fmod 2 = 0 ∨ g.fmod 2 = 1 := by
  have h1 := Int.fmod_nonneg_of_pos g (b := 2) (by omega)
  have h2 := Int.fmod_lt_of_pos g (b := 2) (by omega)
  omega
theorem fmod_three (g : Int) : g.fmod 3 = 0 ∨ g.fmod 3 = 1 ∨ g.fmod 3 = 2 := by
  have h1 := Int.fmod_nonneg_of_pos g (b := 3) (by omega)
  have h2 := Int.fmod_lt_of_pos g (b := 3) (by omega)
  omega
theorem fmod_four (g : Int) : g.fmod 4 = 0 ∨ g.fmod 4 = 1 ∨ g.fmod 4 = 2 ∨ g.fmod 4 = 3 := by
  have h1 := Int.fmod_nonneg_of_pos g (b := 4) (by omega)
  have h2 := Int.fmod_lt_of_pos g (b := 4) (by omega)
  omega
theorem num_sm (g : Int) : 2 + g.fmod 2 = 2 ∨ 2 + g.fmod 2 = 3 := by rcases fmod_two g with h | h <;> omega
theorem num_md (a g : Int) : a * (1 + g.fmod 3) = a ∨ a * (1 + g.fmod 3) = a * 2 ∨ a * (1 + g.fmod 3) = a * 3 := by
  rcases fmod_three g with h | h | h <;> rw [h] <;> simp
theorem num_gr (a g : Int) : a * (1 + g.fmod 2) = a ∨ a * (1 + g.fmod 2) = a * 2 := by
  rcases fmod_two g with h | h <;> rw [h] <;> simp
theorem num_hd (a g : Int) : a * g.fmod 4 = 0 ∨ a * g.fmod 4 = a ∨ a * g.fmod 4 = a * 2 ∨ a * g.fmod 4 = a * 3 := by
  rcases fmod_four g with h | h | h | h <;> rw [h] <;> simp
theorem script0 {prog : Program} {w : World} {A : Around} {E : Value → Shared → Prop} {s : Shared} {h₀ : Heap} {L : Addr} {m : Str → Option Value} {value slice : Expr} {ax : Addr} {vals : List Value} {ns : List Int} {u : Tok} {Q : Value → Shared → Prop} (F : Fr h₀ L s.heap m) (hl : h₀.IsList ax vals.toArray) (hi : IntsAre vals ns)
    (hne : decide (ns = []) = false) (h : ∀ n t, Q (.int n t) s)
    (hs : subscripted slice false (.ref ax) (.int 0 u) = operate [.ref ax, .int 0 u] (getItem (.ref ax) (.int 0 u))) :
    wpAny (model prog w) A (subscriptTail value slice (.ref ax) (.int 0 u)) Q E s := by
  have hl' := F.lst hl
  cases hi with
  | nil => cases hne
  | cons n t hr => exact tail_any hl'.typeIs slot_list_getitem.lookup (wpAny_getItem_list hl' (by omega) (by omega) rfl (h n t)) hs
end
section
noncomputable abbrev enumObj (it : Addr) (i : Int) (old : Value) : Obj := { cls := .type "enumerate", dict := none, data := .fields #[.none, .bool false, .ref it, rawInt i, .none, old], slots := #[] }
noncomputable abbrev LItOk (l : Addr) (i : Nat) (o : Obj) : Prop := o.cls = .type "list_iterator" ∧ o.data = .fields #[.ref l, .int i 0]
section
variable {prog : Program} {w : World} {A : Around} {E : Value → Shared → Prop} {s : Shared} {h₀ : Heap} {L : Addr} {m : Str → Option Value} {news : List (Addr × Obj)}
theorem call_enum {l : Addr} {items : Array Value} {n : Nat} {Q : Value → Shared → Prop} (F : Fr h₀ L s.heap m) (N : News h₀ L s.heap news) (hm : (l, listOf items n) ∈ news)
    (h : ∀ (e it : Addr) oi h', (∀ p ∈ news, p.1 < it) → @LT.lt Nat instLTNat it e → LItOk l 0 oi → Fr h₀ L h' m → News h₀ L h' ((e, enumObj it 0 .none) :: (it, oi) :: news) → Q (.ref e) { s with heap := h' }) :
    wpAny (model prog w) A (call (.type "enumerate") [.ref l]) Q E s := by
  have hL : L < s.heap.objs.size := F.ns.lt
  have hfree : ∀ a, s.heap.objs.size ≤ a → h₀.get? a = none := fun a ha => by
    cases q : h₀.get? a with
    | none => rfl
    | some o => exact absurd (Heap.lt_size (F.keep _ _ q)) (Nat.not_lt.mpr ha)
  refine call_enumerate_1 (N.get hm) fun h' he hit _ hk => ?_
  obtain ⟨oi, ho, hc, hd⟩ := hit
  refine h _ _ oi h' (fun p hp => Heap.lt_size (N p hp).1) (Nat.lt_succ_self _) ⟨hc, hd⟩ (F.keeps hk) fun p hp => ?_
  rcases List.mem_cons.mp hp with rfl | hp
  · exact ⟨he, Nat.ne_of_gt (Nat.lt_succ_of_lt hL), hfree _ (Nat.le_succ _)⟩
  · rcases List.mem_cons.mp hp with rfl | hp
    · exact ⟨ho, Nat.ne_of_gt hL, hfree _ (Nat.le_refl _)⟩
    · exact ⟨hk _ _ (N p hp).1, (N p hp).2⟩
/-- what a turn of a loop over enumerate leaves -/
noncomputable def EnumPost (h₀ : Heap) (L e it l : Addr) (ol : Obj) (s : Shared) (J : (Str → Option Value) → List (Addr × Obj) → Array GenState → Prop) (oe oi : Obj) (Q : Flow → Shared → Prop) (f : Flow) (s₂ : Shared) : Prop := match f with
  | .next | .cont => ∃ m₂ news₂, Fr h₀ L s₂.heap m₂ ∧ News h₀ L s₂.heap ((e, oe) :: (it, oi) :: (l, ol) :: news₂) ∧ (∀ p ∈ news₂, p.1 ≠ e) ∧ (∀ p ∈ news₂, p.1 ≠ it) ∧ J m₂ news₂ s₂.gens ∧ ∃ h gs tk, s₂ = { s with heap := h, gens := gs, toks := tk }
  | .brk => Q .next s₂
  | .ret v => Q (.ret v) s₂
theorem EnumPost.next {e it l : Addr} {ol oe oi : Obj} {J : (Str → Option Value) → List (Addr × Obj) → Array GenState → Prop} {Q : Flow → Shared → Prop} {h gs tk m₂ news₂} (F : Fr h₀ L h m₂) (N : News h₀ L h ((e, oe) :: (it, oi) :: (l, ol) :: news₂)) (h1 : ∀ p ∈ news₂, p.1 ≠ e) (h2 : ∀ p ∈ news₂, p.1 ≠ it) (hJ : J m₂ news₂ gs) :
    EnumPost h₀ L e it l ol s J oe oi Q .next { s with heap := h, gens := gs, toks := tk } := ⟨m₂, news₂, F, N, h1, h2, hJ, h, gs, tk, rfl⟩
theorem forEnum_led {env : Env} {xi xv : Str} {pi pv pt : Pos} {x1} {body orelse : List Stmt} {Q : Flow → Shared → Prop} {e it l : Addr} {items : Array Value} {nl : Nat} {oi : Obj} (hh : A.handled = none)
    (F : Fr h₀ env.locals s.heap m) (N : News h₀ env.locals s.heap ((e, enumObj it 0 .none) :: (it, oi) :: (l, listOf items nl) :: news)) (hok : LItOk l 0 oi)
    (a1 : e ≠ it) (a2 : l ≠ e) (a3 : l ≠ it) (n1 : ∀ p ∈ news, p.1 ≠ e) (n2 : ∀ p ∈ news, p.1 ≠ it)
    (hxi : env.kindOf xi = some .local) (hxv : env.kindOf xv = some .local) (hp : (env.scope.kind == .class || (env.scope.kind == .module && env.locals != env.globals)) = false) (hE : PassesOwn (model prog w) A env E)
    (J : Nat → (Str → Option Value) → List (Addr × Obj) → Array GenState → Prop) (h0 : J 0 m news s.gens)
    (step : ∀ (i : Nat) v t m₁ news₁ oe₁ oi₁ h₁ gs₁ tk₁, i < items.size → items[i]? = some v → J i m₁ news₁ gs₁ → (∀ p ∈ news₁, p.1 ≠ e) → (∀ p ∈ news₁, p.1 ≠ it) →
      Fr h₀ env.locals h₁ (fun y => if y = xv then some v else if y = xi then some (.int i t) else m₁ y) → News h₀ env.locals h₁ ((e, oe₁) :: (it, oi₁) :: (l, listOf items nl) :: news₁) →
      wpAny (model prog w) A (execs body env) (EnumPost h₀ env.locals e it l (listOf items nl) s (J (i + 1)) oe₁ oi₁ Q) E { s with heap := h₁, gens := gs₁, toks := tk₁ })
    (done : ∀ m₁ news₁ h₁ gs₁ tk₁, J items.size m₁ news₁ gs₁ → Fr h₀ env.locals h₁ m₁ → News h₀ env.locals h₁ ((l, listOf items nl) :: news₁) → wpAny (model prog w) A (execs orelse env) Q E { s with heap := h₁, gens := gs₁, toks := tk₁ }) :
    codeAny (model prog w) A (.forLoop (.Tuple [.Name xi pi, .Name xv pv] x1 pt) (.ref e) body orelse env) (fun r s' => match r with | .ok f => Q f s' | .error e => cameBackBy (model prog w) A env E e s') s := by
  have hfe : h₀.get? e = none := N.fresh List.mem_cons_self
  have hfi : h₀.get? it = none := N.fresh (List.mem_cons_of_mem _ List.mem_cons_self)
  have heL : e ≠ env.locals := N.ne List.mem_cons_self
  have hiL : it ≠ env.locals := N.ne (List.mem_cons_of_mem _ List.mem_cons_self)
  have hlL : l ≠ env.locals := N.ne (List.mem_cons_of_mem _ (List.mem_cons_of_mem _ List.mem_cons_self))
  refine codeAny_forLoop_any
    (fun k s' => ∃ h gs tk m' news' i old oi', s' = { s with heap := h, gens := gs, toks := tk } ∧ Fr h₀ env.locals h m' ∧ News h₀ env.locals h ((e, enumObj it ((i : Nat) : Int) old) :: (it, oi') :: (l, listOf items nl) :: news') ∧ LItOk l i oi' ∧ (∀ p ∈ news', p.1 ≠ e) ∧ (∀ p ∈ news', p.1 ≠ it) ∧ J i m' news' gs ∧ i ≤ items.size ∧ k = items.size + 1 - i) ?_ (items.size + 1)
    ⟨s.heap, s.gens, s.toks, m, news, 0, .none, oi, rfl, F, N, hok, n1, n2, h0, Nat.zero_le _, rfl⟩
  rintro k s' ⟨H, gs, tk, m', news', i, old, oi', rfl, F', N', hok', n1', n2', hJ, hi, rfl⟩
  have he' : IsEnum H e it ((i : Nat) : Int) old := N'.get List.mem_cons_self
  have hit' : H.IsListIter it l i := ⟨oi', N'.get (List.mem_cons_of_mem _ List.mem_cons_self), hok'.1, hok'.2⟩
  have hl' : H.IsList l items := News.isList N' (List.mem_cons_of_mem _ (List.mem_cons_of_mem _ List.mem_cons_self))
  cases hv : items[i]? with
  | none =>
    have hsz : i = items.size := Nat.le_antisymm hi (by simpa using hv)
    refine wpAny_pyNext_enum_end hh he' hit' hl' hv fun h₁ he₁ => ?_
    subst hsz
    refine wpAny_passesOwn hE (done m' news' h₁ gs tk hJ ⟨F'.ns.extBut he₁ (Ne.symm hiL), fun b o q => he₁ b o (fun c => by rw [c, hfi] at q; cases q) (F'.keep b o q), F'.above⟩ fun p hp => ?_)
    have hpi : p.1 ≠ it := by
      rcases List.mem_cons.mp hp with rfl | hp
      · exact a3
      · exact n2' p hp
    have := N' p (List.mem_cons_of_mem _ (List.mem_cons_of_mem _ hp))
    exact ⟨he₁ _ _ hpi this.1, this.2⟩
  | some v =>
    have hlt : i < items.size := (Array.getElem?_eq_some_iff.mp hv).1
    have heH : e < H.objs.size := Heap.lt_size he'
    have hLH : env.locals < H.objs.size := F'.ns.lt
    obtain ⟨oi2, hoi, _⟩ := id hit'
    have hiH : it < H.objs.size := Heap.lt_size hoi
    refine wpAny_pyNext_enum_item he' hit' hl' hv a1 fun h₁ heo hit₁ ht₁ hz₁ hk₁ => ?_
    refine wpAny_letOwnedTupleGo_enum heo fun h₂ he₂ hs₂ => ?_
    replace hs₂ : Heap.SameBut e h₁ h₂ := hs₂
    have ht₂ : h₂.IsTuple H.objs.size #[.int i tk, v] := ⟨_, (hs₂.2 _ (Nat.ne_of_gt heH)).trans ht₁, rfl, _, rfl⟩
    have hz₂ : h₂.objs.size = H.objs.size + 1 := hs₂.1.trans hz₁
    refine wpAny_assign_Tuple hh ht₂ rfl rfl fun h₃ hx₃ => ?_
    replace hx₃ : Heap.ExtBut h₂.objs.size h₂ h₃ := hx₃
    have old₃ : ∀ b o, b < H.objs.size → h₂.get? b = some o → h₃.get? b = some o := fun b o hb x => hx₃ b o (by rw [hz₂]; exact Nat.ne_of_lt (Nat.lt_succ_of_lt hb)) x
    have hn₃ : h₃.Ns env.locals m' := (F'.ns.at fun o x => hk₁ _ o (Ne.symm heL) (Ne.symm hiL) x).sameBut hs₂ (Ne.symm heL) |>.at fun o x => old₃ _ o hLH x
    show wpAny _ A (do holding [v] (assign (.Name xi pi) env (.int i tk)); do holding [] (assign (.Name xv pv) env v); pure ()) _ _ _
    refine wpAny_bind (wpAny_holding (wpAny_assign_Name (wpAny_storeName_local hxi hn₃ (fun h₄ hn₄ hs₄ => ?_) hp)))
    replace hs₄ : Heap.SameBut env.locals h₃ h₄ := hs₄
    refine wpAny_bind (wpAny_holding (wpAny_assign_Name (wpAny_storeName_local hxv hn₄ (fun h₅ hn₅ hs₅ => wpAny_pure ?_) hp)))
    replace hs₅ : Heap.SameBut env.locals h₄ h₅ := hs₅
    have up : ∀ b o, b ≠ env.locals → b < H.objs.size → h₂.get? b = some o → h₅.get? b = some o := fun b o hbL hb x => hs₅.extBut b o hbL (hs₄.extBut b o hbL (old₃ b o hb x))
    have up0 : ∀ b o, b ≠ env.locals → b ≠ e → b ≠ it → H.get? b = some o → h₅.get? b = some o := fun b o hbL hbe hbi x => up b o hbL (Heap.lt_size x) (hs₂.extBut b o hbe (hk₁ b o hbe hbi x))
    obtain ⟨oi₁, hoi₁, hoc, hod⟩ := hit₁
    have F₅ : Fr h₀ env.locals h₅ (fun y => if y = xv then some v else if y = xi then some (.int i tk) else m' y) :=
      ⟨hn₅, fun b o q => up0 b o (fun c => by
        have := F'.above
        have := Heap.lt_size q
        exact Nat.lt_irrefl _ (Nat.lt_of_lt_of_le (c ▸ this) ‹_›)) (fun c => by rw [c, hfe] at q; cases q) (fun c => by rw [c, hfi] at q; cases q) (F'.keep b o q), F'.above⟩
    have N₅ : News h₀ env.locals h₅ ((e, enumObj it ((i : Int) + 1) v) :: (it, oi₁) :: (l, listOf items nl) :: news') := fun p hp => by
      rcases List.mem_cons.mp hp with rfl | hp
      · exact ⟨up e _ heL heH he₂, heL, hfe⟩
      · rcases List.mem_cons.mp hp with rfl | hp
        · exact ⟨up it _ hiL hiH (hs₂.extBut it _ (Ne.symm a1) hoi₁), hiL, hfi⟩
        · have q := N' p (List.mem_cons_of_mem _ (List.mem_cons_of_mem _ hp))
          refine ⟨up0 _ _ q.2.1 ?_ ?_ q.1, q.2⟩
          · rcases List.mem_cons.mp hp with rfl | hp
            · exact a2
            · exact n1' p hp
          · rcases List.mem_cons.mp hp with rfl | hp
            · exact a3
            · exact n2' p hp
    refine wpAny_mono (wpAny_passesOwn hE (step i v tk m' news' _ oi₁ h₅ gs _ hlt hv hJ n1' n2' F₅ N₅)) (fun f s₃ h₃ => ?_) fun _ _ x => x
    have hcast : ((i : Int) + 1) = ((i + 1 : Nat) : Int) := by push_cast; rfl
    cases f with
    | next =>
      obtain ⟨m₂, news₂, F₃, N₃, b1, b2, hJ₃, h₃, gs₃, tk₃, rfl⟩ := h₃
      rw [hcast] at N₃
      exact ⟨items.size + 1 - (i + 1), by omega, h₃, gs₃, tk₃, m₂, news₂, i + 1, v, oi₁, rfl, F₃, N₃, ⟨hoc, hod⟩, b1, b2, hJ₃, hlt, rfl⟩
    | cont =>
      obtain ⟨m₂, news₂, F₃, N₃, b1, b2, hJ₃, h₃, gs₃, tk₃, rfl⟩ := h₃
      rw [hcast] at N₃
      exact ⟨items.size + 1 - (i + 1), by omega, h₃, gs₃, tk₃, m₂, news₂, i + 1, v, oi₁, rfl, F₃, N₃, ⟨hoc, hod⟩, b1, b2, hJ₃, hlt, rfl⟩
    | brk => exact h₃
    | ret v => exact h₃
end
end
section
theorem lines16 : True := by
  k_with "L78" => (k_here; (with_reducible show wpAny _ _ (subscriptTail _ _ (Value.ref _) (Value.int _ _)) _ _ _); k_dflt (refine' Mine.script0 ?k1q78 ?k2q78 ?k3q78 ?k4q78 (fun n'q9 t'q9 => ?_) ?k5q78; (case k1q78 => k_asm); (case k2q78 => assumption); (case k3q78 => assumption); (case k4q78 => assumption); (case k5q78 => with_unfolding_all rfl)))
  trivial
local macro_rules | `(tactic| walk_at "subscriptTail Name Constant ref int") => `(tactic| k_extra "L78")

theorem law_p1 {w : World} {p : Program} {loose : List Str} {mean : ExcName → Option Value} {mg mb : Str → Option Value}
  (base h₀ : Heap) (L fa : Addr) (cd : Value) (m : Str → Option Value) (s : Shared) (Q : Flow → Shared → Prop) (E : Value → Shared → Prop) (rest : List Stmt)
  (B : Below callerA base [] h₀) (X : (Mine.hd.heap_39 w.params).In h₀) (T : Top p loose mean mg mb h₀) (hE : PassesOwn (model PySem.Challenge.rw_pm0058_01.row.prog w) (callerA.deeper (lawEnv L fa cd)) (lawEnv L fa cd) E)
  (ax : Addr) (vals : List Value) (ns : List Int) (oc : Obj)
  (F : Fr h₀ L s.heap (fun y => if y = Str.ofString "script" then some (.ref ax) else m y)) (N : News h₀ L s.heap ((L + 1, oc) :: (140, tabObj #[]) :: (147, tabObj #[]) :: [])) (hl : h₀.IsList ax vals.toArray) (hi : IntsAre vals ns) (hn : ns.length ≤ 63)
  (hret : ∀ (f : Int) (t : Tok) h' tk', Fr h₀ L h' (fun y => if y = Str.ofString "first" then some (.int f t) else if y = Str.ofString "script" then some (.ref ax) else m y) → News h₀ L h' ((L + 1, oc) :: (140, tabObj #[]) :: (147, tabObj #[]) :: []) → wpAny (model PySem.Challenge.rw_pm0058_01.row.prog w) (callerA.deeper (lawEnv L fa cd)) (execs rest (lawEnv L fa cd)) Q E { s with heap := h', toks := tk' }) :
  wpAny (model PySem.Challenge.rw_pm0058_01.row.prog w) (callerA.deeper (lawEnv L fa cd)) (execs (stmtAt 0 :: rest) (lawEnv L fa cd)) Q E s := by
  revert X
  k_fill
  intro X
  unfold lawEnv lawScope at hret hE ⊢
  unfold stmtAt lawBody
  unfold lawLit at hret hE ⊢
  dsimp only [List.getElem?_cons_zero, List.getElem?_cons_succ, Option.getD_some] at hret hE ⊢

  k_steps
  all_goals exact hret _ _ _ _ (by k_asm) (by ktr_rel)
end
section
theorem law_p2 {w : World} {p : Program} {loose : List Str} {mean : ExcName → Option Value} {mg mb : Str → Option Value}
  (base h₀ : Heap) (L fa : Addr) (cd : Value) (m : Str → Option Value) (s : Shared) (Q : Flow → Shared → Prop) (E : Value → Shared → Prop) (rest : List Stmt)
  (B : Below callerA base [] h₀) (X : (Mine.hd.heap_39 w.params).In h₀) (T : Top p loose mean mg mb h₀) (hE : PassesOwn (model PySem.Challenge.rw_pm0058_01.row.prog w) (callerA.deeper (lawEnv L fa cd)) (lawEnv L fa cd) E)
  (ax : Addr) (vals : List Value) (ns : List Int) (oc : Obj) (f : Int) (t : Tok)
  (F : Fr h₀ L s.heap (fun y => if y = Str.ofString "first" then some (.int f t) else if y = Str.ofString "script" then some (.ref ax) else m y)) (N : News h₀ L s.heap ((L + 1, oc) :: (140, tabObj #[]) :: (147, tabObj #[]) :: [])) 
  (hret : ∀ (sm md gr wd hd : Int) (en sig : Str) (t2 t3 t4 t5 t6 t7 t8 : Tok) h' tk', (sm = 2 ∨ sm = 3) → (md = sm ∨ md = sm * 2 ∨ md = sm * 3) → (gr = md ∨ gr = md * 2) → (wd = gr ∨ wd = gr * 2) → (hd = 0 ∨ hd = gr ∨ hd = gr * 2 ∨ hd = gr * 3) → (en = "\n" ∨ en = "\r\n") → (sig = " " ∨ sig = ";, \t") → Fr h₀ L h' (fun y => if y = Str.ofString "signs" then some (.str sig t8) else if y = Str.ofString "ending" then some (.str en t7) else if y = Str.ofString "head" then some (.int hd t6) else if y = Str.ofString "width" then some (.int wd t5) else if y = Str.ofString "great" then some (.int gr t4) else if y = Str.ofString "middle" then some (.int md t3) else if y = Str.ofString "small" then some (.int sm t2) else if y = Str.ofString "first" then some (.int f t) else if y = Str.ofString "script" then some (.ref ax) else m y) → News h₀ L h' ((L + 1, oc) :: (140, tabObj #[]) :: (147, tabObj #[]) :: []) → wpAny (model PySem.Challenge.rw_pm0058_01.row.prog w) (callerA.deeper (lawEnv L fa cd)) (execs rest (lawEnv L fa cd)) Q E { s with heap := h', toks := tk' }) :
  wpAny (model PySem.Challenge.rw_pm0058_01.row.prog w) (callerA.deeper (lawEnv L fa cd)) (execs (stmtAt 1 :: stmtAt 2 :: stmtAt 3 :: stmtAt 4 :: stmtAt 5 :: stmtAt 6 :: stmtAt 7 :: rest) (lawEnv L fa cd)) Q E s := by
  revert X
  k_fill
  intro X
  unfold lawEnv lawScope at hret hE ⊢
  unfold stmtAt lawBody
  unfold lawLit at hret hE ⊢
  dsimp only [List.getElem?_cons_zero, List.getElem?_cons_succ, Option.getD_some] at hret hE ⊢

  k_steps
  all_goals (refine' hret _ _ _ _ _ _ _ _ _ _ _ _ _ _ _ _ (num_sm _) (num_md _ _) (num_gr _ _) (num_gr _ _) (num_hd _ _) ?e1 ?e2 ?eF ?eN; (case eF => k_asm); (case eN => ktr_rel); (case e1 => first | exact .inl rfl | exact .inr rfl); (case e2 => first | exact .inl rfl | exact .inr rfl))
end
section
theorem lines17 : True := by
  k_with "L79" => (k_here; k_dflt ((show wpAny _ _ (call (Value.ref 209) [Value.ref _, Value.str _ _] [(_, Value.ref 225)]) _ _ _); refine' Mine.rowl_use ?k1q79 ?k2q79 ?k3q79 ?k4q79 ?k5q79 ?kKq79 ?t1q79 ?kdq79 ?kuq79 ?h1q79 ?h2q79 ?h3q79 ?h4q79 ?h5q79 ?h6q79 ?_; (case k1q79 => k_asm); (case k2q79 => k_asm); (case k3q79 => k_asm); (case k4q79 => k_asm); (case k5q79 => k_asm); (case kKq79 => first | exact rfl | assumption); (case t1q79 => (repeat (first | exact Mine.Take.head | apply Mine.Take.tail))); (case kdq79 => ktr_room); (case kuq79 => ktr_units); (case h1q79 => assumption); (case h2q79 => assumption); (case h3q79 => omega); (case h4q79 => assumption); (case h5q79 => assumption); (case h6q79 => k_all)); intro vs'q9 R'q9 h'q9 tk'q9 htx'q9 hri'q9 hm'q9 hl'q9 F'q9 N'q9)
  k_with "L80" => (k_here; k_dflt ((show wpAny _ _ (call (Value.ref 191) [Value.ref _, Value.str _ _] [(_, Value.ref 225)]) _ _ _); refine' Mine.rowr_use ?k1q80 ?k2q80 ?k3q80 ?k4q80 ?k5q80 ?kKq80 ?t1q80 ?kdq80 ?kuq80 ?h1q80 ?h2q80 ?h3q80 ?h4q80 ?h5q80 ?h6q80 ?_; (case k1q80 => k_asm); (case k2q80 => k_asm); (case k3q80 => k_asm); (case k4q80 => k_asm); (case k5q80 => k_asm); (case kKq80 => first | exact rfl | assumption); (case t1q80 => (repeat (first | exact Mine.Take.head | apply Mine.Take.tail))); (case kdq80 => ktr_room); (case kuq80 => ktr_units); (case h1q80 => assumption); (case h2q80 => assumption); (case h3q80 => omega); (case h4q80 => assumption); (case h5q80 => assumption); (case h6q80 => k_all)); intro vs'q9 R'q9 h'q9 tk'q9 htx'q9 hri'q9 hm'q9 hl'q9 F'q9 N'q9)
  k_with "L81" => (k_here; (with_reducible show wpAny _ _ (eval (Expr.Name (Str.ofString "enumerate") _) _) _ _ _); k_dflt (refine' nameX_B (v := Value.type "enumerate") ?k1q81 ?k2q81 ?k3q81 ?k4q81 PyProof.Rows.boot_enumerate ?k5q81 ?_; (case k1q81 => k_asm); (case k2q81 => k_asm); (case k3q81 => k_asm); (case k4q81 => first | k_is | exact rfl); (case k5q81 => decide)))
  k_with "L82" => (k_here; (with_reducible show wpAny _ _ (eval (Expr.Name (Str.ofString "chr") _) _) _ _ _); k_dflt (refine' nameX_B (v := Value.builtin "chr") ?k1q82 ?k2q82 ?k3q82 ?k4q82 Mine.boot_chr ?k5q82 ?_; (case k1q82 => k_asm); (case k2q82 => k_asm); (case k3q82 => k_asm); (case k4q82 => first | k_is | exact rfl); (case k5q82 => decide)))
  k_with "L83" => (k_here; k_dflt (refine' PySem.wpAny_pyIter_enum (News.get ?k1q83 ?k2q83) ?_; (case k1q83 => k_asm); (case k2q83 => k_mem)))
  k_with "L84" => (k_here; (with_reducible show wpAny _ _ (call (Value.type "enumerate") [Value.ref _]) _ _ _); k_dflt (refine' Mine.call_enum ?k1q84 ?k2q84 ?k3q84 (fun e'q9 it'q9 oi'q9 h'q9 l1q9 l2q9 hokq9 F'q9 N'q9 => ?_); (case k1q84 => k_asm); (case k2q84 => k_asm); (case k3q84 => k_mem)); k_lt l1q9)
  k_with "L85" => (k_here; (with_reducible show wpAny _ _ (subscriptTail _ _ (Value.ref _) (Value.int (Int.fmod _ 3) _)) _ _ _); k_dflt (refine' Mine.menu3 ?k1q85 ?k2q85 (fun z'q9 t'q9 hz'q9 => ?_) ?k3q85; (case k1q85 => k_asm); (case k2q85 => k_mem); (case k3q85 => with_unfolding_all rfl)))
  k_with "L86" => (k_here; (with_reducible show wpAny _ _ (binaryOp Operator.Add (Value.ref _) (Value.ref _)) _ _ _); k_dflt (refine' Mine.add_txts ?k1q86 ?k2q86 ?k3q86 ?k4q86 ?k5q86 ?k6q86 ?k7q86 (fun D'q9 vs'q9 h'q9 l1q9 htx'q9 F'q9 N'q9 => ?_); (case k1q86 => k_asm); (case k2q86 => k_asm); (case k3q86 => k_mem); (case k4q86 => k_mem); (case k5q86 => first | assumption | exact Mine.Txts.one); (case k6q86 => first | assumption | exact Mine.Txts.one); (case k7q86 => first | omega | (simp only [List.length_cons, List.length_nil, List.length_append]; omega))); k_lt l1q9)
  k_with "L87" => (k_here; (with_reducible show wpAny _ _ (binaryOp Operator.Mult (Value.str _ _) (Value.int _ _)) _ _ _); k_dflt (refine' Mine.mul_word ?k1q87 ?k2q87 ?k3q87 (fun x'q9 t'q9 k'q9 hx'q9 hl'q9 => ?_); (case k1q87 => assumption); (case k2q87 => omega); (case k3q87 => omega)))
  trivial
local macro_rules | `(tactic| walk_at "call ref") => `(tactic| k_extra "L79")
local macro_rules | `(tactic| walk_at "call ref") => `(tactic| k_extra "L80")

local macro_rules | `(tactic| walk_at "eval Name") => `(tactic| k_extra "L81")
local macro_rules | `(tactic| walk_at "eval Name") => `(tactic| k_extra "L82")
local macro_rules | `(tactic| walk_at "exec For Tuple Call cons nil") => `(tactic| k_extra "L51")
local macro_rules | `(tactic| walk_at "pyIter ref") => `(tactic| k_extra "L83")
local macro_rules | `(tactic| walk_at "call type:enumerate") => `(tactic| k_extra "L84")

local macro_rules | `(tactic| walk_at "subscriptTail") => `(tactic| k_extra "L85")
local macro_rules | `(tactic| walk_at "binaryOp Add ref ref") => `(tactic| k_extra "L86")
local macro_rules | `(tactic| walk_at "binaryOp Mult str int") => `(tactic| k_extra "L87")

theorem law_t1 {w : World} {p : Program} {loose : List Str} {mean : ExcName → Option Value} {mg mb : Str → Option Value}
  (base h₀ : Heap) (L fa : Addr) (cd : Value) (m : Str → Option Value) (s : Shared) (Q : Flow → Shared → Prop) (E : Value → Shared → Prop)
  (B : Below callerA base [] h₀) (X : (Mine.hd.heap_39 w.params).In h₀) (T : Top p loose mean mg mb h₀) (hE : PassesOwn (model PySem.Challenge.rw_pm0058_01.row.prog w) (callerA.deeper (lawEnv L fa cd)) (lawEnv L fa cd) E)
  (ax : Addr) (vals : List Value) (ns : List Int) (oc : Obj) (f : Int) (t : Tok) (sm md gr wd hd : Int) (en sig : Str) (t2 t3 t4 t5 t6 t7 t8 : Tok) (c : Str → Option Value) (e it l rw ah bh : Addr) (oe oi ol : Obj) (vs va vb : Array Value) (nr na nb i : Nat) (xn : Int) (tx tk : Tok) (R A Bh : List Str)
  (F : Fr h₀ L s.heap (fun y => if y = Str.ofString "x" then some (.int xn tx) else if y = Str.ofString "k" then some (.int (i : Int) tk) else if y = Str.ofString "ahead" then some (.ref ah) else if y = Str.ofString "behind" then some (.ref bh) else over [Str.ofString "k", Str.ofString "x", Str.ofString "word"] c (fun y => if y = Str.ofString "row" then some (.ref rw) else if y = Str.ofString "signs" then some (.str sig t8) else if y = Str.ofString "ending" then some (.str en t7) else if y = Str.ofString "head" then some (.int hd t6) else if y = Str.ofString "width" then some (.int wd t5) else if y = Str.ofString "great" then some (.int gr t4) else if y = Str.ofString "middle" then some (.int md t3) else if y = Str.ofString "small" then some (.int sm t2) else if y = Str.ofString "first" then some (.int f t) else if y = Str.ofString "script" then some (.ref ax) else m y) y)) (N : News h₀ L s.heap ((e, oe) :: (it, oi) :: (l, ol) :: (rw, listOf vs nr) :: (ah, listOf va na) :: (bh, listOf vb nb) :: (L + 1, oc) :: (140, tabObj #[]) :: (147, tabObj #[]) :: [])) (hi : i < 13) (hsm : 2 ≤ sm ∧ sm ≤ 18) (hmd : 2 ≤ md ∧ md ≤ 18) (hgr : 2 ≤ gr ∧ gr ≤ 18) (htx : Txts vs R) (hri : RowInv R A Bh) (hl : R.length ≤ 20) (hw : ∀ a ∈ R, Wd a) (hta : Txts va A) (htb : Txts vb Bh) (hla : A.length ≤ 20) (hlb : Bh.length ≤ 20) (q1 : e ≠ rw) (q2 : it ≠ rw) (q3 : l ≠ rw) (q4 : ah ≠ rw) (q5 : bh ≠ rw) (q6 : L + 1 ≠ rw) (q7 : 140 ≠ rw) (q8 : 147 ≠ rw)
  (hretL : ∀ (x : Str) vs' R' vs2 (D : Addr) (z : Int) m₂ h' tk', Wd x → (x.length : Int) + 1 = z → (z = sm ∨ z = md ∨ z = gr) → Fr h₀ L h' m₂ → m₂ (Str.ofString "ahead") = some (.ref D) → m₂ (Str.ofString "behind") = some (.ref bh) → RowInv R' (x :: A) (Bh) → Txts vs' R' → (∀ a ∈ R', a = x ∨ a ∈ R) → R'.length = R.length + 1 → Txts vs2 (x :: A) → D ≠ rw → D ≠ e → D ≠ it →
    But [Str.ofString "k", Str.ofString "x", Str.ofString "word", Str.ofString "ahead", Str.ofString "behind"] (fun y => if y = Str.ofString "row" then some (.ref rw) else if y = Str.ofString "signs" then some (.str sig t8) else if y = Str.ofString "ending" then some (.str en t7) else if y = Str.ofString "head" then some (.int hd t6) else if y = Str.ofString "width" then some (.int wd t5) else if y = Str.ofString "great" then some (.int gr t4) else if y = Str.ofString "middle" then some (.int md t3) else if y = Str.ofString "small" then some (.int sm t2) else if y = Str.ofString "first" then some (.int f t) else if y = Str.ofString "script" then some (.ref ax) else m y) m₂ →
    News h₀ L h' ((e, oe) :: (it, oi) :: (l, ol) :: (rw, listOf vs' (nr + 1)) :: (D, listOf vs2 0) :: (bh, listOf vb nb) :: (L + 1, oc) :: (140, tabObj #[]) :: (147, tabObj #[]) :: []) → Q .next { s with heap := h', toks := tk' })
  (hretR : ∀ (x : Str) vs' R' vs2 (D : Addr) (z : Int) m₂ h' tk', Wd x → (x.length : Int) + 1 = z → (z = sm ∨ z = md ∨ z = gr) → Fr h₀ L h' m₂ → m₂ (Str.ofString "ahead") = some (.ref ah) → m₂ (Str.ofString "behind") = some (.ref D) → RowInv R' (A) (Bh ++ [x]) → Txts vs' R' → (∀ a ∈ R', a = x ∨ a ∈ R) → R'.length = R.length + 1 → Txts vs2 (Bh ++ [x]) → D ≠ rw → D ≠ e → D ≠ it →
    But [Str.ofString "k", Str.ofString "x", Str.ofString "word", Str.ofString "ahead", Str.ofString "behind"] (fun y => if y = Str.ofString "row" then some (.ref rw) else if y = Str.ofString "signs" then some (.str sig t8) else if y = Str.ofString "ending" then some (.str en t7) else if y = Str.ofString "head" then some (.int hd t6) else if y = Str.ofString "width" then some (.int wd t5) else if y = Str.ofString "great" then some (.int gr t4) else if y = Str.ofString "middle" then some (.int md t3) else if y = Str.ofString "small" then some (.int sm t2) else if y = Str.ofString "first" then some (.int f t) else if y = Str.ofString "script" then some (.ref ax) else m y) m₂ →
    News h₀ L h' ((e, oe) :: (it, oi) :: (l, ol) :: (rw, listOf vs' (nr + 1)) :: (D, listOf vs2 0) :: (ah, listOf va na) :: (L + 1, oc) :: (140, tabObj #[]) :: (147, tabObj #[]) :: []) → Q .next { s with heap := h', toks := tk' }) :
  wpAny (model PySem.Challenge.rw_pm0058_01.row.prog w) (callerA.deeper (lawEnv L fa cd)) (execs (bodyAt 11) (lawEnv L fa cd)) Q E s := by
  revert X
  k_fill
  intro X
  unfold lawEnv lawScope at hE ⊢
  unfold bodyAt stmtAt lawBody
  unfold lawLit at hE ⊢
  dsimp only [List.getElem?_cons_zero, List.getElem?_cons_succ, Option.getD_some] at hE ⊢
  k_steps
  · exact hretL _ _ _ _ _ _ _ _ _ (by assumption) (by assumption) (by assumption) (by k_asm) rfl rfl (by assumption) (by assumption) (by assumption) (by assumption) (by assumption) (by first | with_reducible assumption | exact Ne.symm (by with_reducible assumption) | k_ne) (by first | with_reducible assumption | exact Ne.symm (by with_reducible assumption) | k_ne) (by first | with_reducible assumption | exact Ne.symm (by with_reducible assumption) | k_ne) (by (repeat (first | exact Mine.But.refl | exact Mine.But.over | refine' Mine.But.set (by decide) ?_ | refine' Mine.But.sub (by decide) ?_))) (by ktr_rel)
  · exact hretR _ _ _ _ _ _ _ _ _ (by assumption) (by assumption) (by assumption) (by k_asm) rfl rfl (by assumption) (by assumption) (by assumption) (by assumption) (by assumption) (by first | with_reducible assumption | exact Ne.symm (by with_reducible assumption) | k_ne) (by first | with_reducible assumption | exact Ne.symm (by with_reducible assumption) | k_ne) (by first | with_reducible assumption | exact Ne.symm (by with_reducible assumption) | k_ne) (by (repeat (first | exact Mine.But.refl | exact Mine.But.over | refine' Mine.But.set (by decide) ?_ | refine' Mine.But.sub (by decide) ?_))) (by ktr_rel)
end
section
noncomputable def Siz (sm md gr : Int) (a : Str) : Prop := (a.length : Int) + 1 = sm ∨ (a.length : Int) + 1 = md ∨ (a.length : Int) + 1 = gr
structure J1 (M : Str → Option Value) (rw L : Addr) (oc : Obj) (sm md gr : Int) (i : Nat) (m' : Str → Option Value) (n' : List (Addr × Obj)) (vs va vb : Array Value) (nr na nb : Nat) (ah bh : Addr) (R A Bh : List Str) : Prop where
  off : ∀ y, y ∉ [Str.ofString "k", Str.ofString "x", Str.ofString "word", Str.ofString "ahead", Str.ofString "behind"] → m' y = M y
  ma : m' (Str.ofString "ahead") = some (.ref ah)
  mb : m' (Str.ofString "behind") = some (.ref bh)
  hn : n' = (rw, listOf vs nr) :: (ah, listOf va na) :: (bh, listOf vb nb) :: (L + 1, oc) :: (140, tabObj #[]) :: (147, tabObj #[]) :: []
  htx : Txts vs R
  hta : Txts va A
  htb : Txts vb Bh
  hri : RowInv R A Bh
  hw : ∀ a ∈ R, Wd a ∧ Siz sm md gr a
  hl : R.length = i
  hla : A.length ≤ i
  hlb : Bh.length ≤ i
  q4 : ah ≠ rw
  q5 : bh ≠ rw
theorem J1.map {M : Str → Option Value} {rw L : Addr} {oc : Obj} {sm md gr : Int} {i : Nat} {m' : Str → Option Value} {n' : List (Addr × Obj)} {vs va vb : Array Value} {nr na nb : Nat} {ah bh : Addr} {R A Bh : List Str} (j : J1 M rw L oc sm md gr i m' n' vs va vb nr na nb ah bh R A Bh) :
    m' = fun y => if y = Str.ofString "ahead" then some (.ref ah) else if y = Str.ofString "behind" then some (.ref bh) else over [Str.ofString "k", Str.ofString "x", Str.ofString "word"] m' M y := by
  funext y
  by_cases e1 : y = Str.ofString "ahead"
  · rw [if_pos e1, e1, j.ma]
  · rw [if_neg e1]
    by_cases e2 : y = Str.ofString "behind"
    · rw [if_pos e2, e2, j.mb]
    · rw [if_neg e2]
      by_cases e3 : y ∈ [Str.ofString "k", Str.ofString "x", Str.ofString "word"]
      · rw [over_on e3]
      · rw [over_off e3]
        refine j.off y fun h => ?_
        simp only [List.mem_cons, List.not_mem_nil, or_false, not_or] at e3 h
        rcases h with h | h | h | h | h
        · exact e3.1 h
        · exact e3.2.1 h
        · exact e3.2.2 h
        · exact e1 h
        · exact e2 h

theorem law_loop1 {w : World} {p : Program} {loose : List Str} {mean : ExcName → Option Value} {mg mb : Str → Option Value}
  (base h₀ : Heap) (L fa : Addr) (cd : Value) (m : Str → Option Value) (s : Shared) (Q : Flow → Shared → Prop) (E : Value → Shared → Prop)
  (B : Below callerA base [] h₀) (X : (Mine.hd.heap_39 w.params).In h₀) (T : Top p loose mean mg mb h₀) (hE : PassesOwn (model PySem.Challenge.rw_pm0058_01.row.prog w) (callerA.deeper (lawEnv L fa cd)) (lawEnv L fa cd) E)
  (ax : Addr) (vals : List Value) (ns : List Int) (oc : Obj) (f : Int) (t : Tok) (sm md gr wd hd : Int) (en sig : Str) (t2 t3 t4 t5 t6 t7 t8 : Tok) (e it l rw ah bh : Addr) (oi : Obj) (ws : List Value) (xs : List Int) (orelse : List Stmt) (pi pv pt : Pos) (x1 : Nat)
  (F : Fr h₀ L s.heap (fun y => if y = Str.ofString "behind" then some (.ref bh) else if y = Str.ofString "ahead" then some (.ref ah) else (fun y => if y = Str.ofString "row" then some (.ref rw) else if y = Str.ofString "signs" then some (.str sig t8) else if y = Str.ofString "ending" then some (.str en t7) else if y = Str.ofString "head" then some (.int hd t6) else if y = Str.ofString "width" then some (.int wd t5) else if y = Str.ofString "great" then some (.int gr t4) else if y = Str.ofString "middle" then some (.int md t3) else if y = Str.ofString "small" then some (.int sm t2) else if y = Str.ofString "first" then some (.int f t) else if y = Str.ofString "script" then some (.ref ax) else m y) y))
  (N : News h₀ L s.heap ((e, enumObj it 0 .none) :: (it, oi) :: (l, listOf ws.toArray 0) :: (rw, listOf #[] 0) :: (ah, listOf #[] 0) :: (bh, listOf #[] 0) :: (L + 1, oc) :: (140, tabObj #[]) :: (147, tabObj #[]) :: [])) (hok : LItOk l 0 oi) (hws : IntsAre ws xs) (hxs : xs.length ≤ 13)
  (hsm : 2 ≤ sm ∧ sm ≤ 18) (hmd : 2 ≤ md ∧ md ≤ 18) (hgr : 2 ≤ gr ∧ gr ≤ 18) (a1 : e ≠ it) (a2 : l ≠ e) (a3 : l ≠ it) (b1 : rw ≠ e) (b2 : rw ≠ it) (b3 : ah ≠ e) (b4 : ah ≠ it) (b5 : bh ≠ e) (b6 : bh ≠ it) (b7 : L + 1 ≠ e) (b8 : L + 1 ≠ it) (b9 : 140 ≠ e) (b10 : 140 ≠ it) (b11 : 147 ≠ e) (b12 : 147 ≠ it)
  (q3 : l ≠ rw) (q4 : ah ≠ rw) (q5 : bh ≠ rw) (q6 : L + 1 ≠ rw) (q7 : 140 ≠ rw) (q8 : 147 ≠ rw)
  (hret : ∀ m' n' vs va vb nr na nb ah' bh' R A Bh h' tk', J1 (fun y => if y = Str.ofString "row" then some (.ref rw) else if y = Str.ofString "signs" then some (.str sig t8) else if y = Str.ofString "ending" then some (.str en t7) else if y = Str.ofString "head" then some (.int hd t6) else if y = Str.ofString "width" then some (.int wd t5) else if y = Str.ofString "great" then some (.int gr t4) else if y = Str.ofString "middle" then some (.int md t3) else if y = Str.ofString "small" then some (.int sm t2) else if y = Str.ofString "first" then some (.int f t) else if y = Str.ofString "script" then some (.ref ax) else m y) rw L oc sm md gr ws.length m' n' vs va vb nr na nb ah' bh' R A Bh → Fr h₀ L h' m' → News h₀ L h' n' → wpAny (model PySem.Challenge.rw_pm0058_01.row.prog w) (callerA.deeper (lawEnv L fa cd)) (execs orelse (lawEnv L fa cd)) Q E { s with heap := h', toks := tk' }) :
  codeAny (model PySem.Challenge.rw_pm0058_01.row.prog w) (callerA.deeper (lawEnv L fa cd)) (.forLoop (.Tuple [.Name (Str.ofString "k") pi, .Name (Str.ofString "x") pv] x1 pt) (.ref e) (bodyAt 11) orelse (lawEnv L fa cd)) (fun r s' => match r with | .ok f => Q f s' | .error e => cameBackBy (model PySem.Challenge.rw_pm0058_01.row.prog w) (callerA.deeper (lawEnv L fa cd)) (lawEnv L fa cd) E e s') s := by
  have hwl := hws.length
  have q1 := Ne.symm b1
  have q2 := Ne.symm b2
  refine forEnum_led (env := lawEnv L fa cd) rfl F N hok a1 a2 a3 (by k_all) (by k_all) rfl rfl rfl hE (fun i m' n' g' => g' = s.gens ∧ (∀ p ∈ n', p.1 ≠ e) ∧ (∀ p ∈ n', p.1 ≠ it) ∧ ∃ vs va vb nr na nb ah bh R A Bh, J1 (fun y => if y = Str.ofString "row" then some (.ref rw) else if y = Str.ofString "signs" then some (.str sig t8) else if y = Str.ofString "ending" then some (.str en t7) else if y = Str.ofString "head" then some (.int hd t6) else if y = Str.ofString "width" then some (.int wd t5) else if y = Str.ofString "great" then some (.int gr t4) else if y = Str.ofString "middle" then some (.int md t3) else if y = Str.ofString "small" then some (.int sm t2) else if y = Str.ofString "first" then some (.int f t) else if y = Str.ofString "script" then some (.ref ax) else m y) rw L oc sm md gr i m' n' vs va vb nr na nb ah bh R A Bh)
    ⟨rfl, by k_all, by k_all, #[], #[], #[], 0, 0, 0, ah, bh, [], [], [], ⟨?_, rfl, rfl, rfl, .nil, .nil, .nil, .nil, List.forall_mem_nil _, rfl, Nat.le_refl _, Nat.le_refl _, q4, q5⟩⟩ (fun i v tq m₁ news₁ oe₁ oi₁ h₁ gs₁ tk₁ hi hv hJ c1 c2 F₁ N₁ => ?_) (fun m₁ news₁ h₁ gs₁ tk₁ hJ F₁ N₁ => ?_)
  · intro y hy
    simp only [List.mem_cons, List.not_mem_nil, or_false, not_or] at hy
    show (if _ then _ else if _ then _ else _) = _
    rw [if_neg hy.2.2.2.2, if_neg hy.2.2.2.1]
  · obtain ⟨rfl, g1, g2, vs, va, vb, nr, na, nb, ah', bh', R, A, Bh, j⟩ := hJ
    obtain ⟨xn, tx, rfl, _⟩ := hws.at i v (by simpa using hv)
    have hi' : i < 13 := by
      have : i < ws.length := by simpa using hi
      omega
    rw [j.map] at F₁
    have hn := j.hn
    subst hn
    have hsz := j.hl
    have r4 := j.q4
    have r5 := j.q5
    have k1 : ah' ≠ e := g1 _ (List.mem_cons_of_mem _ List.mem_cons_self)
    have k2 : ah' ≠ it := g2 _ (List.mem_cons_of_mem _ List.mem_cons_self)
    have k3 : bh' ≠ e := g1 _ (List.mem_cons_of_mem _ (List.mem_cons_of_mem _ List.mem_cons_self))
    have k4 : bh' ≠ it := g2 _ (List.mem_cons_of_mem _ (List.mem_cons_of_mem _ List.mem_cons_self))
    have siz : ∀ (x : Str) (z : Int), (x.length : Int) + 1 = z → (z = sm ∨ z = md ∨ z = gr) → Siz sm md gr x := fun x z h1 h2 => by
      rcases h2 with rfl | rfl | rfl
      · exact .inl h1
      · exact .inr (.inl h1)
      · exact .inr (.inr h1)
    refine law_t1 base h₀ L fa cd m _ _ E B X T hE ax vals ns oc f t sm md gr wd hd en sig t2 t3 t4 t5 t6 t7 t8 m₁ e it l rw ah' bh' oe₁ oi₁ (listOf ws.toArray 0) vs va vb nr na nb i xn tx tq R A Bh F₁ N₁ hi' hsm hmd hgr j.htx j.hri (by omega) (fun a ha => (j.hw a ha).1) j.hta j.htb (by have := j.hla; omega) (by have := j.hlb; omega) q1 q2 q3 j.q4 j.q5 q6 q7 q8 ?_ ?_
    · intro x vs' R' vs2 D z m₂ h' tk' hx hz hz' F' ma mb hri htx hm hl hta d1 d2 d3 hb N'
      refine EnumPost.next F' N' (by k_all) (by k_all) ⟨rfl, by k_all, by k_all, vs', vs2, vb, nr + 1, 0, nb, D, bh', R', x :: A, Bh, ⟨hb.same, ma, mb, rfl, htx, hta, j.htb, hri, fun a ha => ?_, by omega, by have := j.hla; simp; omega, by have := j.hlb; omega, d1, j.q5⟩⟩
      rcases hm a ha with rfl | ha
      · exact ⟨hx, siz _ _ hz hz'⟩
      · exact j.hw a ha
    · intro x vs' R' vs2 D z m₂ h' tk' hx hz hz' F' ma mb hri htx hm hl hta d1 d2 d3 hb N'
      refine EnumPost.next (news₂ := (rw, listOf vs' (nr + 1)) :: (ah', listOf va na) :: (D, listOf vs2 0) :: (L + 1, oc) :: (140, tabObj #[]) :: (147, tabObj #[]) :: []) F' (by ktr_rel) (by k_all) (by k_all) ⟨rfl, by k_all, by k_all, vs', va, vs2, nr + 1, na, 0, ah', D, R', A, Bh ++ [x], ⟨hb.same, ma, mb, rfl, htx, j.hta, hta, hri, fun a ha => ?_, by omega, by have := j.hla; omega, by have := j.hlb; simp; omega, j.q4, d1⟩⟩
      rcases hm a ha with rfl | ha
      · exact ⟨hx, siz _ _ hz hz'⟩
      · exact j.hw a ha
  · obtain ⟨rfl, _, _, vs, va, vb, nr, na, nb, ah', bh', R, A, Bh, j⟩ := hJ
    exact hret m₁ news₁ vs va vb nr na nb ah' bh' R A Bh h₁ tk₁ (by simpa using j) F₁ (News.tail' N₁)
end
section
local macro_rules | `(tactic| walk_at "eval Name") => `(tactic| k_extra "L81")
local macro_rules | `(tactic| walk_at "eval Name") => `(tactic| k_extra "L82")
local macro_rules | `(tactic| walk_at "exec For Tuple Call cons nil") => `(tactic| k_extra "L51")
local macro_rules | `(tactic| walk_at "pyIter ref") => `(tactic| k_extra "L83")
local macro_rules | `(tactic| walk_at "call type:enumerate") => `(tactic| k_extra "L84")

theorem law_l1 {w : World} {p : Program} {loose : List Str} {mean : ExcName → Option Value} {mg mb : Str → Option Value}
  (base h₀ : Heap) (L fa : Addr) (cd : Value) (m : Str → Option Value) (s : Shared) (Q : Flow → Shared → Prop) (E : Value → Shared → Prop) (rest : List Stmt)
  (B : Below callerA base [] h₀) (X : (Mine.hd.heap_39 w.params).In h₀) (T : Top p loose mean mg mb h₀) (hE : PassesOwn (model PySem.Challenge.rw_pm0058_01.row.prog w) (callerA.deeper (lawEnv L fa cd)) (lawEnv L fa cd) E)
  (ax : Addr) (vals : List Value) (ns : List Int) (oc : Obj) (f : Int) (t : Tok) (sm md gr wd hd : Int) (en sig : Str) (t2 t3 t4 t5 t6 t7 t8 : Tok)
  (F : Fr h₀ L s.heap (fun y => if y = Str.ofString "signs" then some (.str sig t8) else if y = Str.ofString "ending" then some (.str en t7) else if y = Str.ofString "head" then some (.int hd t6) else if y = Str.ofString "width" then some (.int wd t5) else if y = Str.ofString "great" then some (.int gr t4) else if y = Str.ofString "middle" then some (.int md t3) else if y = Str.ofString "small" then some (.int sm t2) else if y = Str.ofString "first" then some (.int f t) else if y = Str.ofString "script" then some (.ref ax) else m y)) (N : News h₀ L s.heap ((L + 1, oc) :: (140, tabObj #[]) :: (147, tabObj #[]) :: [])) (hl : h₀.IsList ax vals.toArray) (hi : IntsAre vals ns) (hn : ns.length ≤ 63) (hsm : 2 ≤ sm ∧ sm ≤ 18) (hmd : 2 ≤ md ∧ md ≤ 18) (hgr : 2 ≤ gr ∧ gr ≤ 18)
  (hret : ∀ (rw : Addr) (N9 : Nat) m' n' vs va vb nr na nb ah bh R A Bh h' tk', J1 (fun y => if y = Str.ofString "row" then some (.ref rw) else if y = Str.ofString "signs" then some (.str sig t8) else if y = Str.ofString "ending" then some (.str en t7) else if y = Str.ofString "head" then some (.int hd t6) else if y = Str.ofString "width" then some (.int wd t5) else if y = Str.ofString "great" then some (.int gr t4) else if y = Str.ofString "middle" then some (.int md t3) else if y = Str.ofString "small" then some (.int sm t2) else if y = Str.ofString "first" then some (.int f t) else if y = Str.ofString "script" then some (.ref ax) else m y) rw L oc sm md gr N9 m' n' vs va vb nr na nb ah bh R A Bh → 4 ≤ N9 → N9 ≤ 13 → L + 1 ≠ rw → 140 ≠ rw → 147 ≠ rw → Fr h₀ L h' m' → News h₀ L h' n' → wpAny (model PySem.Challenge.rw_pm0058_01.row.prog w) (callerA.deeper (lawEnv L fa cd)) (execs rest (lawEnv L fa cd)) Q E { s with heap := h', toks := tk' }) :
  wpAny (model PySem.Challenge.rw_pm0058_01.row.prog w) (callerA.deeper (lawEnv L fa cd)) (execs (stmtAt 8 :: stmtAt 9 :: stmtAt 10 :: stmtAt 11 :: rest) (lawEnv L fa cd)) Q E s := by
  revert X
  k_fill
  intro X
  unfold lawEnv lawScope at hret hE ⊢
  unfold stmtAt lawBody
  unfold lawLit at hret hE ⊢
  dsimp only [List.getElem?_cons_zero, List.getElem?_cons_succ, Option.getD_some] at hret hE ⊢

  k_steps
  refine' law_loop1 base h₀ L fa cd m _ _ _ B X T hE ax vals ns oc f t sm md gr wd hd en sig t2 t3 t4 t5 t6 t7 t8 _ _ _ _ _ _ _ _ _ _ _ _ _ _ ?cF ?cN ?ck ?cw ?cx hsm hmd hgr ?d1 ?d2 ?d3 ?d4 ?d5 ?d6 ?d7 ?d8 ?d9 ?d10 ?d11 ?d12 ?d13 ?d14 ?d15 ?d16 ?d17 ?d18 ?d19 ?d20 ?d21 (fun m' n' vs va vb nr na nb ah' bh' R A Bh h' tk' hj F' N' => ?_)
  (case cF => k_asm)
  (case ck => assumption)
  (case cN => ktr_rel)
  (case cw => assumption)
  (case cx => (simp only [List.length_append, List.length_take, List.length_cons, List.length_nil]; omega))
  (case d1 => (first | with_reducible assumption | exact Ne.symm (by with_reducible assumption) | k_ne))
  (case d2 => (first | with_reducible assumption | exact Ne.symm (by with_reducible assumption) | k_ne))
  (case d3 => (first | with_reducible assumption | exact Ne.symm (by with_reducible assumption) | k_ne))
  (case d4 => (first | with_reducible assumption | exact Ne.symm (by with_reducible assumption) | k_ne))
  (case d5 => (first | with_reducible assumption | exact Ne.symm (by with_reducible assumption) | k_ne))
  (case d6 => (first | with_reducible assumption | exact Ne.symm (by with_reducible assumption) | k_ne))
  (case d7 => (first | with_reducible assumption | exact Ne.symm (by with_reducible assumption) | k_ne))
  (case d8 => (first | with_reducible assumption | exact Ne.symm (by with_reducible assumption) | k_ne))
  (case d9 => (first | with_reducible assumption | exact Ne.symm (by with_reducible assumption) | k_ne))
  (case d10 => (first | with_reducible assumption | exact Ne.symm (by with_reducible assumption) | k_ne))
  (case d11 => (first | with_reducible assumption | exact Ne.symm (by with_reducible assumption) | k_ne))
  (case d12 => (first | with_reducible assumption | exact Ne.symm (by with_reducible assumption) | k_ne))
  (case d13 => (first | with_reducible assumption | exact Ne.symm (by with_reducible assumption) | k_ne))
  (case d14 => (first | with_reducible assumption | exact Ne.symm (by with_reducible assumption) | k_ne))
  (case d15 => (first | with_reducible assumption | exact Ne.symm (by with_reducible assumption) | k_ne))
  (case d16 => (first | with_reducible assumption | exact Ne.symm (by with_reducible assumption) | k_ne))
  (case d17 => (first | with_reducible assumption | exact Ne.symm (by with_reducible assumption) | k_ne))
  (case d18 => (first | with_reducible assumption | exact Ne.symm (by with_reducible assumption) | k_ne))
  (case d19 => (first | with_reducible assumption | exact Ne.symm (by with_reducible assumption) | k_ne))
  (case d20 => (first | with_reducible assumption | exact Ne.symm (by with_reducible assumption) | k_ne))
  (case d21 => (first | with_reducible assumption | exact Ne.symm (by with_reducible assumption) | k_ne))
  k_steps
  have hw9 := IntsAre.length (by assumption)
  simp only [List.length_append, List.length_take, List.length_cons, List.length_nil] at hw9
  exact hret _ _ _ _ _ _ _ _ _ _ _ _ _ _ _ _ _ hj (by omega) (by omega) (by (first | with_reducible assumption | exact Ne.symm (by with_reducible assumption) | k_ne)) (by (first | with_reducible assumption | exact Ne.symm (by with_reducible assumption) | k_ne)) (by (first | with_reducible assumption | exact Ne.symm (by with_reducible assumption) | k_ne)) F' N'
end
section
section
variable {prog : Program} {w : World} {A : Around} {E : Value → Shared → Prop} {s : Shared} {h₀ : Heap} {L I : Addr} {m : Str → Option Value} {news : List (Addr × Obj)}
/-- a loop whose target's assignment is part of the turn -/
theorem forLoop_led0 {env : Env} {target : Expr} {body orelse : List Stmt} {n : Nat} {P : Nat → Value → Prop} {Ok : Nat → Obj → Prop} {Q : Flow → Shared → Prop} {o : Obj} (S : Steps prog w A I n P Ok)
    (F : Fr h₀ env.locals s.heap m) (N : News h₀ env.locals s.heap ((I, o) :: news)) (hI : ∀ p ∈ news, p.1 ≠ I) (ho : Ok 0 o) (hE : PassesOwn (model prog w) A env E)
    (J : Nat → (Str → Option Value) → List (Addr × Obj) → Array GenState → Prop) (h0 : J 0 m news s.gens)
    (step : ∀ i v m₁ news₁ o₁ h₁ gs₁ tk₁, i < n → P i v → J i m₁ news₁ gs₁ → (∀ p ∈ news₁, p.1 ≠ I) → Ok (i + 1) o₁ → Fr h₀ env.locals h₁ m₁ → News h₀ env.locals h₁ ((I, o₁) :: news₁) →
      wpAny (model prog w) A (assign target env v) (fun _ s₂ => wpAny (model prog w) A (execs body env) (TurnPost h₀ env.locals I s (J (i + 1)) o₁ Q) E s₂) E { s with heap := h₁, gens := gs₁, toks := tk₁ })
    (done : ∀ m₁ news₁ h₁ gs₁ tk₁, J n m₁ news₁ gs₁ → Fr h₀ env.locals h₁ m₁ → News h₀ env.locals h₁ news₁ → wpAny (model prog w) A (execs orelse env) Q E { s with heap := h₁, gens := gs₁, toks := tk₁ })
    (ht : ∀ v, letOwnedTupleGo target (.ref I) v = pure () := by intro _; rfl) :
    codeAny (model prog w) A (.forLoop target (.ref I) body orelse env) (fun r s' => match r with | .ok f => Q f s' | .error e => cameBackBy (model prog w) A env E e s') s := by
  refine codeAny_forLoop
    (fun k s' => ∃ h gs tk m' news' i o', s' = { s with heap := h, gens := gs, toks := tk } ∧ Fr h₀ env.locals h m' ∧ News h₀ env.locals h ((I, o') :: news') ∧ (∀ p ∈ news', p.1 ≠ I) ∧ Ok i o' ∧ J i m' news' gs ∧ i ≤ n ∧ k = n + 1 - i) ?_ (n + 1)
    ⟨s.heap, s.gens, s.toks, m, news, 0, o, rfl, F, N, hI, ho, h0, Nat.zero_le _, rfl⟩ ht
  rintro k s' ⟨h, gs, tk, m', news', i, o', rfl, F', N', hI', ho', hJ, hi, rfl⟩
  by_cases hlt : i < n
  · refine S.item i _ _ _ o' hlt (N'.get List.mem_cons_self) ho' fun v h₁ tk₁ o₁ hP hs₁ hg₁ hok₁ => ?_
    obtain ⟨F₁, N₁⟩ := ledger_same (s := { s with heap := h }) F' N' hI' hs₁ hg₁
    refine wpAny_mono (wpAny_passesOwn hE (step i v m' news' o₁ h₁ gs tk₁ hlt hP hJ hI' hok₁ F₁ N₁)) (fun _ s₂ h₂ => wpAny_mono (wpAny_passesOwn hE h₂) (fun f s₃ h₃ => ?_) fun _ _ e => e) fun _ _ e => e
    cases f with
    | next =>
      obtain ⟨m₂, news₂, F₃, N₃, hI₃, hJ₃, h₃, gs₃, tk₃, rfl⟩ := h₃
      exact ⟨n + 1 - (i + 1), by omega, h₃, gs₃, tk₃, m₂, news₂, i + 1, o₁, rfl, F₃, N₃, hI₃, hok₁, hJ₃, hlt, rfl⟩
    | cont =>
      obtain ⟨m₂, news₂, F₃, N₃, hI₃, hJ₃, h₃, gs₃, tk₃, rfl⟩ := h₃
      exact ⟨n + 1 - (i + 1), by omega, h₃, gs₃, tk₃, m₂, news₂, i + 1, o₁, rfl, F₃, N₃, hI₃, hok₁, hJ₃, hlt, rfl⟩
    | brk => exact h₃
    | ret v => exact h₃
  · have hin : i = n := by omega
    subst hin
    refine S.done _ _ _ o' (N'.get List.mem_cons_self) ho' fun h₁ hs₁ => ?_
    obtain ⟨F₁, N₁⟩ := ledger_gone (s := { s with heap := h }) F' N' hI' hs₁
    exact wpAny_passesOwn hE (done m' news' h₁ gs tk hJ F₁ N₁)
theorem take_succ_getD {xs : List Str} {i : Nat} (h : i < xs.length) : xs.take (i + 1) = xs.take i ++ [xs.getD i ""] := by
  rw [List.take_add_one, List.getD_eq_getElem?_getD, List.getElem?_eq_getElem h]
  rfl
theorem Txts.snoc {ys : List Value} {xs : List Str} {y : Str} {t : Tok} (h : Txts ys.toArray xs) : Txts (ys ++ [Value.str y t]).toArray (xs ++ [y]) := by
  have := h.push (t := t) (rfl : y = y)
  simpa using this
open LCg LCt
/-- a comprehension that takes some texts of a list -/
theorem comp_filter {env : Env} {ct elt : Expr} {x : Str} {scope : Scope} {cl : List (Str × Addr)} {ax : Addr} {its : Array Value} {xs : List Str} {Fin : List Value → List (Addr × Obj) → Prop} (ht : Txts its xs) (p : Str → Bool) (hS : SrcAt h₀ ax its news)
    (turn : ∀ (y : Str) t I oI C oC D oD m₂ h tk (E' : Value → Shared → Prop) (Qy : Value → Shared → Prop) (Qn : Shared → Prop), y ∈ xs → NsObj oC m₂ → m₂ x = some (.str y t) → Fr h₀ L h m → News h₀ L h ((I, oI) :: (C, oC) :: (D, oD) :: news) →
      (∀ tk', p y = true → Qy (.str y t) { s with heap := h, toks := tk' }) → (∀ tk', p y = false → Qn { s with heap := h, toks := tk' }) →
      wpAny (model prog w) A (isTrue ct (compEnvC scope cl C env) (eval ct (compEnvC scope cl C env))) (fun ok s' => if ok = true then wpAny (model prog w) A (eval elt (compEnvC scope cl C env)) Qy E' s' else Qn s') E' { s with heap := h, toks := tk })
    (fin : ∀ ys, Txts ys.toArray (xs.filter p) → Fin ys news) : ∀ k i ys, i + k = its.size → Txts ys.toArray ((xs.take i).filter p) →
      CompRestT prog w A h₀ L m env ct elt x scope cl s (SrcAt h₀ ax its) (fun i v => its[i]? = some v) Fin k i ys news
  | 0, i, ys, hk, hys => by
    refine CompRestT.zero (fin ys ?_)
    rw [List.take_of_length_le (by rw [← ht.size]; omega)] at hys
    exact hys
  | k + 1, i, ys, hk, hys => by
    refine CompRestT.succ fun v I oI C oC D m₂ h tk E' hP hoC hm F N off d => ?_
    have hlt : i < xs.length := by rw [← ht.size]; omega
    obtain ⟨t, hy⟩ := ht.at i (by omega)
    rw [hP] at hy
    cases hy
    have hmem : xs.getD i "" ∈ xs := by
      rw [List.getD_eq_getElem?_getD, List.getElem?_eq_getElem hlt]
      exact List.getElem_mem hlt
    refine turn (xs.getD i "") t I oI C oC D _ m₂ h tk E' _ _ hmem hoC hm F N (fun tk' hp => ?_) (fun tk' hp => ?_)
    · refine CompEnd.intro F N news (fun _ h => h) off hS (comp_filter ht p hS turn fin k (i + 1) _ (by omega) ?_)
      rw [take_succ_getD hlt, List.filter_append, List.filter_cons, if_pos hp, List.filter_nil]
      exact hys.snoc
    · refine CompEnd.intro F N news (fun _ h => h) off hS (comp_filter ht p hS turn fin k (i + 1) _ (by omega) ?_)
      rw [take_succ_getD hlt, List.filter_append, List.filter_cons, if_neg (by rw [hp]; exact Bool.false_ne_true), List.filter_nil, List.append_nil]
      exact hys
/-- a comprehension that makes a text of each text of a list -/
theorem comp_map {env : Env} {elt : Expr} {x : Str} {scope : Scope} {cl : List (Str × Addr)} {ax : Addr} {its : Array Value} {xs : List Str} {Fin : List Value → List (Addr × Obj) → Prop} (ht : Txts its xs) (f : Str → Str) (hS : SrcAt h₀ ax its news)
    (turn : ∀ (y : Str) t I oI C oC D oD m₂ h tk (E' : Value → Shared → Prop) (Qy : Value → Shared → Prop), y ∈ xs → NsObj oC m₂ → m₂ x = some (.str y t) → Fr h₀ L h m → News h₀ L h ((I, oI) :: (C, oC) :: (D, oD) :: news) →
      (∀ t' tk', Qy (.str (f y) t') { s with heap := h, toks := tk' }) → wpAny (model prog w) A (eval elt (compEnvC scope cl C env)) Qy E' { s with heap := h, toks := tk })
    (fin : ∀ ys, Txts ys.toArray (xs.map f) → Fin ys news) : ∀ k i ys, i + k = its.size → Txts ys.toArray ((xs.take i).map f) →
      CompRest prog w A h₀ L m env elt x scope cl s (SrcAt h₀ ax its) (fun i v => its[i]? = some v) Fin k i ys news
  | 0, i, ys, hk, hys => by
    refine CompRest.zero (fin ys ?_)
    rw [List.take_of_length_le (by rw [← ht.size]; omega)] at hys
    exact hys
  | k + 1, i, ys, hk, hys => by
    refine CompRest.succ fun v I oI C oC D m₂ h tk E' hP hoC hm F N off d => ?_
    have hlt : i < xs.length := by rw [← ht.size]; omega
    obtain ⟨t, hy⟩ := ht.at i (by omega)
    rw [hP] at hy
    cases hy
    have hmem : xs.getD i "" ∈ xs := by
      rw [List.getD_eq_getElem?_getD, List.getElem?_eq_getElem hlt]
      exact List.getElem_mem hlt
    refine turn (xs.getD i "") t I oI C oC D _ m₂ h tk E' _ hmem hoC hm F N (fun t' tk' => ?_)
    refine CompEnd.intro F N news (fun _ h => h) off hS (comp_map ht f hS turn fin k (i + 1) _ (by omega) ?_)
    rw [take_succ_getD hlt, List.map_append]
    exact hys.snoc
end
end
section
theorem lines18 : True := by
  k_with "L88" => (k_here; k_dflt (refine LCt.ListComp_T (F₀ := by k_asm) (by with_unfolding_all rfl) (by decide) (by rfl) (by decide) (by rfl) ?_))
  trivial
local macro_rules | `(tactic| walk_at "subscriptTail") => `(tactic| k_extra "L85")
local macro_rules | `(tactic| walk_at "binaryOp Add ref ref") => `(tactic| k_extra "L86")
local macro_rules | `(tactic| walk_at "binaryOp Mult str int") => `(tactic| k_extra "L87")

local macro_rules | `(tactic| walk_at "eval ListComp") => `(tactic| k_extra "L88")

theorem law_t2 {w : World} {p : Program} {loose : List Str} {mean : ExcName → Option Value} {mg mb : Str → Option Value}
  (base h₀ : Heap) (L fa : Addr) (cd : Value) (m : Str → Option Value) (s : Shared) (Q : Flow → Shared → Prop) (E : Value → Shared → Prop)
  (B : Below callerA base [] h₀) (X : (Mine.hd.heap_39 w.params).In h₀) (T : Top p loose mean mg mb h₀) (hE : PassesOwn (model PySem.Challenge.rw_pm0058_01.row.prog w) (callerA.deeper (lawEnv L fa cd)) (lawEnv L fa cd) E)
  (oc : Obj) (I du rw ah bh : Addr) (oI : Obj) (vd vs va vb : Array Value) (nd nr na nb : Nat) (D0 A Bh : List Str) (nn : Int) (tn : Tok)
  (F : Fr h₀ L s.heap (fun y => if y = Str.ofString "due" then some (.ref du) else if y = Str.ofString "ahead" then some (.ref ah) else if y = Str.ofString "behind" then some (.ref bh) else m y)) (N : News h₀ L s.heap ((I, oI) :: (du, listOf vd nd) :: (rw, listOf vs nr) :: (ah, listOf va na) :: (bh, listOf vb nb) :: (L + 1, oc) :: (140, tabObj #[]) :: (147, tabObj #[]) :: [])) (hoc : oc.data = .cell (some (.int nn tn))) (htd : Txts vd D0) (hta : Txts va A) (htb : Txts vb Bh) (hlen : D0.length ≤ 900 ∧ A.length ≤ 20 ∧ Bh.length ≤ 20) (hsh : ∀ a ∈ A ++ Bh, a.length ≤ 17)
  (hret : ∀ vd' (D : Addr) m₂ h' tk', Fr h₀ L h' m₂ → But [Str.ofString "due"] (fun y => if y = Str.ofString "due" then some (.ref du) else if y = Str.ofString "ahead" then some (.ref ah) else if y = Str.ofString "behind" then some (.ref bh) else m y) m₂ → m₂ (Str.ofString "due") = some (.ref D) → Txts vd' (D0 ++ (A ++ Bh).filter (fun y => decide ((y.length : Int) = nn))) → D ≠ I → D ≠ L + 1 → News h₀ L h' ((I, oI) :: (D, listOf vd' 0) :: (rw, listOf vs nr) :: (ah, listOf va na) :: (bh, listOf vb nb) :: (L + 1, oc) :: (140, tabObj #[]) :: (147, tabObj #[]) :: []) → Q .next { s with heap := h', toks := tk' }) :
  wpAny (model PySem.Challenge.rw_pm0058_01.row.prog w) (callerA.deeper (lawEnv L fa cd)) (execs (bodyAt 13) (lawEnv L fa cd)) Q E s := by
  revert X
  k_fill
  intro X
  unfold lawEnv lawScope at hE ⊢
  unfold bodyAt stmtAt lawBody
  unfold lawLit at hE ⊢
  dsimp only [List.getElem?_cons_zero, List.getElem?_cons_succ, Option.getD_some] at hE ⊢
  k_steps
  refine' LCt.CompSrcT.ledger rfl ?cF ?cN ?cm ?cz (fun g9 => Mine.comp_filter ?ct (fun y => decide ((y.length : Int) = nn)) ?cS (fun y t9 I9 oI9 C9 oC9 D9 oD9 m9 h9 tk9 E9 Qy Qn hy hoC9 hm9 F9 N9 qy qn => ?_) (fun ys hys => ?_) _ _ _ ?ce Mine.Txts.nil)
  (case cF => k_asm)
  (case cN => k_asm)
  (case cm => k_mem)
  (case ct => assumption)
  (case ce => exact Nat.zero_add _)
  (case cz => (rw [Mine.Txts.size (by assumption), sizeLine_eq]; simp; omega))
  (case cS => exact .inr ⟨_, by k_mem, rfl, _, rfl⟩)
  · k_steps
    all_goals first
      | exact qy _ (decide_eq_true (by assumption))
      | exact qn _ (decide_eq_false (by assumption))
  · intro D9 h9 tk9 F9 N9 off9
    have hfl9 := List.length_filter_le (fun y : Str => decide ((y.length : Int) = nn)) (A ++ Bh)
    rw [List.length_append] at hfl9
    k_steps
    all_goals exact hret _ _ _ _ _ (by k_asm) (by (repeat (first | exact Mine.But.refl | exact Mine.But.over | refine' Mine.But.set (by decide) ?_ | refine' Mine.But.sub (by decide) ?_))) rfl (by assumption) (by (first | with_reducible assumption | exact Ne.symm (by with_reducible assumption) | k_ne)) (by (first | with_reducible assumption | exact Ne.symm (by with_reducible assumption) | k_ne)) (by ktr_rel)
end
section
noncomputable def dueOf (W : List Str) (g : Int) : Nat → List Str
  | 0 => []
  | i + 1 => dueOf W g i ++ W.filter (fun y => decide ((y.length : Int) = g - 1 + (i : Int) * (-1)))
theorem dueOf_len (W : List Str) (g : Int) : ∀ i, (dueOf W g i).length ≤ i * W.length
  | 0 => Nat.zero_le _
  | i + 1 => by
    show (dueOf W g i ++ _).length ≤ _
    rw [List.length_append, Nat.succ_mul]
    exact Nat.add_le_add (dueOf_len W g i) (List.length_filter_le _ _)
theorem store_letters {prog : Program} {w : World} {E : Value → Shared → Prop} {s : Shared} {h₀ : Heap} {L fa : Addr} {cd : Value} {m : Str → Option Value} {own rest : List (Addr × Obj)} {oc : Obj} {v0 : Option Value} {v : Value} {A : Around} {Q : Unit → Shared → Prop} {px : Pos}
    (F : Fr h₀ L s.heap m) (N : News h₀ L s.heap (own ++ (L + 1, oc) :: rest)) (h1 : ∀ p ∈ own, p.1 ≠ L + 1) (h2 : ∀ p ∈ rest, p.1 ≠ L + 1) (hd : oc.data = .cell v0)
    (h : ∀ oc' h', Fr h₀ L h' m → News h₀ L h' (own ++ (L + 1, oc') :: rest) → oc'.data = .cell (some v) → Q () { s with heap := h' }) :
    wpAny (model prog w) A (assign (.Name (Str.ofString "letters") px) (lawEnv L fa cd) v) Q E s := by
  refine wpAny_assign_Name ?_
  have hmem := N (L + 1, oc) (List.mem_append_right _ (.head _))
  refine wpAny_storeName_cell (env := lawEnv L fa cd) (c := L + 1) (by kernel_rfl) (by kernel_rfl) (by kernel_rfl) ⟨oc, hmem.1, hd⟩ fun h' hv hs => ?_
  obtain ⟨o', ho', hd'⟩ := hv
  refine h o' h' ⟨F.ns.sameBut hs (Ne.symm hmem.2.1), fun b ob e => (hs.2 b (fun q => ?_)).trans (F.keep b ob e), F.above⟩ (N.setAt h1 h2 hs ho') hd'
  rw [q, hmem.2.2] at e; cases e

theorem law_loop2 {w : World} {p : Program} {loose : List Str} {mean : ExcName → Option Value} {mg mb : Str → Option Value}
  (base h₀ : Heap) (L fa : Addr) (cd : Value) (m : Str → Option Value) (s : Shared) (Q : Flow → Shared → Prop) (E : Value → Shared → Prop)
  (B : Below callerA base [] h₀) (X : (Mine.hd.heap_39 w.params).In h₀) (T : Top p loose mean mg mb h₀) (hE : PassesOwn (model PySem.Challenge.rw_pm0058_01.row.prog w) (callerA.deeper (lawEnv L fa cd)) (lawEnv L fa cd) E)
  (oc : Obj) (I du rw ah bh : Addr) (oI : Obj) (vs va vb : Array Value) (nr na nb : Nat) (A Bh : List Str) (gr : Int) (orelse : List Stmt) (px : Pos)
  (F : Fr h₀ L s.heap (fun y => if y = Str.ofString "due" then some (.ref du) else if y = Str.ofString "ahead" then some (.ref ah) else if y = Str.ofString "behind" then some (.ref bh) else m y))
  (N : News h₀ L s.heap ((I, oI) :: (du, listOf #[] 0) :: (rw, listOf vs nr) :: (ah, listOf va na) :: (bh, listOf vb nb) :: (L + 1, oc) :: (140, tabObj #[]) :: (147, tabObj #[]) :: [])) (hok : RanItOk (gr - 1) (gr - 1).toNat (-1) 0 oI) (hoc : oc.data = .cell none) (hta : Txts va A) (htb : Txts vb Bh) (hlen : A.length ≤ 13 ∧ Bh.length ≤ 13) (hgr : 2 ≤ gr ∧ gr ≤ 18) (hsh : ∀ a ∈ A ++ Bh, a.length ≤ 17)
  (b0 : du ≠ I) (b1 : rw ≠ I) (b2 : ah ≠ I) (b3 : bh ≠ I) (b4 : L + 1 ≠ I) (b5 : 140 ≠ I) (b6 : 147 ≠ I) (c0 : du ≠ L + 1) (c1 : rw ≠ L + 1) (c2 : ah ≠ L + 1) (c3 : bh ≠ L + 1) (c5 : 140 ≠ L + 1) (c6 : 147 ≠ L + 1)
  (hret : ∀ vd du' nd oc' m' h' tk', Txts vd (dueOf (A ++ Bh) gr (gr - 1).toNat) → (∀ y, y ≠ Str.ofString "due" → m' y = (fun y => if y = Str.ofString "ahead" then some (.ref ah) else if y = Str.ofString "behind" then some (.ref bh) else m y) y) → m' (Str.ofString "due") = some (.ref du') → Fr h₀ L h' m' → News h₀ L h' ((du', listOf vd nd) :: (rw, listOf vs nr) :: (ah, listOf va na) :: (bh, listOf vb nb) :: (L + 1, oc') :: (140, tabObj #[]) :: (147, tabObj #[]) :: []) → wpAny (model PySem.Challenge.rw_pm0058_01.row.prog w) (callerA.deeper (lawEnv L fa cd)) (execs orelse (lawEnv L fa cd)) Q E { s with heap := h', toks := tk' }) :
  codeAny (model PySem.Challenge.rw_pm0058_01.row.prog w) (callerA.deeper (lawEnv L fa cd)) (.forLoop (.Name (Str.ofString "letters") px) (.ref I) (bodyAt 13) orelse (lawEnv L fa cd)) (fun r s' => match r with | .ok f => Q f s' | .error e => cameBackBy (model PySem.Challenge.rw_pm0058_01.row.prog w) (callerA.deeper (lawEnv L fa cd)) (lawEnv L fa cd) E e s') s := by
  have hwl : (A ++ Bh).length ≤ 26 := by
    rw [List.length_append]
    omega
  refine forLoop_led0 (env := lawEnv L fa cd) (n := (gr - 1).toNat) (steps_range (a := gr - 1) (d := -1) rfl) F N (by k_all) hok hE (fun i m' n' g' => g' = s.gens ∧ (∀ p ∈ n', p.1 ≠ I) ∧ ∃ vd du' nd oc' v0, (∀ y, y ≠ Str.ofString "due" → m' y = (fun y => if y = Str.ofString "ahead" then some (.ref ah) else if y = Str.ofString "behind" then some (.ref bh) else m y) y) ∧ m' (Str.ofString "due") = some (.ref du') ∧ du' ≠ L + 1 ∧ oc'.data = .cell v0 ∧ Txts vd (dueOf (A ++ Bh) gr i) ∧
      n' = (du', listOf vd nd) :: (rw, listOf vs nr) :: (ah, listOf va na) :: (bh, listOf vb nb) :: (L + 1, oc') :: (140, tabObj #[]) :: (147, tabObj #[]) :: [])
    ⟨rfl, by k_all, #[], du, 0, oc, none, fun y hy => if_neg hy, rfl, c0, hoc, .nil, rfl⟩ (fun i v m₁ news₁ o₁ h₁ gs₁ tk₁ hi hP hJ hI₁ hok₁ F₁ N₁ => ?_) (fun m₁ news₁ h₁ gs₁ tk₁ hJ F₁ N₁ => ?_)
  · obtain ⟨rfl, g1, vd, du', nd, oc', v0, hm, hdu, hd1, hoc', htd, rfl⟩ := hJ
    obtain ⟨tn, rfl⟩ := hP
    have k0 : du' ≠ I := g1 _ List.mem_cons_self
    refine store_letters (own := (I, o₁) :: (du', listOf vd nd) :: (rw, listOf vs nr) :: (ah, listOf va na) :: (bh, listOf vb nb) :: []) F₁ N₁ (by k_all) (by k_all) hoc' fun oc2 h₂ F₂ N₂ hoc2 => ?_
    have e : m₁ = (fun y => if y = Str.ofString "due" then some (.ref du') else if y = Str.ofString "ahead" then some (.ref ah) else if y = Str.ofString "behind" then some (.ref bh) else m y) := by
      funext y
      by_cases q : y = Str.ofString "due"
      · rw [if_pos q, q, hdu]
      · rw [if_neg q, hm y q]
    rw [e] at F₂
    refine law_t2 base h₀ L fa cd m _ _ E B X T hE oc2 I du' rw ah bh o₁ vd vs va vb nd nr na nb (dueOf (A ++ Bh) gr i) A Bh (gr - 1 + (i : Int) * (-1)) tn F₂ N₂ hoc2 htd hta htb ⟨?_, by omega, by omega⟩ hsh ?_
    · have h9 := dueOf_len (A ++ Bh) gr i
      have : i * (A ++ Bh).length ≤ 17 * 26 := Nat.mul_le_mul (by omega) hwl
      omega
    · intro vd' D m₂ h' tk' F' hb hmd htd' hdI hdL N'
      refine TurnPost.next F' N' (by k_all) ⟨rfl, by k_all, vd', D, 0, oc2, _, fun y hy => ?_, hmd, hdL, hoc2, htd', rfl⟩
      · rw [hb.same y (by simpa using hy)]
        exact if_neg hy
  · obtain ⟨rfl, _, vd, du', nd, oc', v0, hm, hdu, _, _, htd, rfl⟩ := hJ
    exact hret vd du' nd oc' m₁ h₁ tk₁ htd hm hdu F₁ N₁
end
section
theorem split_at {c : Int} : ∀ {R : List Str}, (R.Pairwise fun a b => b.length ≤ a.length) → R.filter (fun a => decide (c ≤ (a.length : Int))) = R.filter (fun a => decide (c < (a.length : Int))) ++ R.filter (fun a => decide ((a.length : Int) = c))
  | [], _ => rfl
  | a :: R, h => by
    have ih := split_at (c := c) (List.pairwise_cons.mp h).2
    have hd := (List.pairwise_cons.mp h).1
    rw [List.filter_cons, List.filter_cons, List.filter_cons]
    by_cases h1 : c < (a.length : Int)
    · rw [if_pos (by simpa using Int.le_of_lt h1), if_pos (by simpa using h1), if_neg (by simp; omega), ih, List.cons_append]
    · by_cases h2 : (a.length : Int) = c
      · rw [if_pos (by simp; omega), if_neg (by simpa using h1), if_pos (by simpa using h2), ih]
        have : R.filter (fun a => decide (c < (a.length : Int))) = [] := by
          rw [List.filter_eq_nil_iff]
          intro b hb
          have := hd b hb
          simp
          omega
        rw [this]
        rfl
      · rw [if_neg (by simp; omega), if_neg (by simpa using h1), if_neg (by simpa using h2), ih]
theorem due_part {R A B : List Str} {g : Int} (h : RowInv R A B) (hs : ∀ a ∈ R, (a.length : Int) + 1 ≤ g) : ∀ i : Nat, (i : Int) ≤ g - 1 → dueOf (A ++ B) g i = R.filter (fun a => decide (g - 1 - (i : Int) < (a.length : Int)))
  | 0, _ => by
    show [] = _
    symm
    rw [List.filter_eq_nil_iff]
    intro a ha
    have := hs a ha
    simp
    omega
  | i + 1, hi => by
    show dueOf (A ++ B) g i ++ (A ++ B).filter (fun y => decide ((y.length : Int) = g - 1 + (i : Int) * (-1))) = _
    rw [due_part h hs i (by omega)]
    have e1 : (A ++ B).filter (fun y => decide ((y.length : Int) = g - 1 + (i : Int) * (-1))) = R.filter (fun y => decide ((y.length : Int) = g - 1 - (i : Int))) := by
      have := h.same (g - 1 - (i : Int)).toNat
      have c : ∀ l : List Str, l.filter (fun x => x.length == (g - 1 - (i : Int)).toNat) = l.filter (fun y => decide ((y.length : Int) = g - 1 - (i : Int))) := fun l => by
        apply List.filter_congr
        intro x _
        rw [Bool.eq_iff_iff]
        simp
        omega
      rw [c, c] at this
      rw [this]
      apply List.filter_congr
      intro x _
      rw [Bool.eq_iff_iff]
      simp
      omega
    rw [e1, ← split_at h.sorted]
    apply List.filter_congr
    intro x _
    rw [Bool.eq_iff_iff]
    simp
    omega
theorem row_due {R A B : List Str} {g : Int} (h : RowInv R A B) (hs : ∀ a ∈ R, (a.length : Int) + 1 ≤ g) (hp : ∀ a ∈ R, 1 ≤ a.length) (hg : 1 ≤ g) : dueOf (A ++ B) g (g - 1).toNat = R := by
  rw [due_part h hs _ (by omega)]
  apply List.filter_eq_self.mpr
  intro a ha
  have := hp a ha
  simp
  omega
theorem word_ok {x : Str} (h : Wd x) : PyData.strOk x = true := by
  unfold PyData.strOk
  rw [Array.all_eq_true']
  intro c hc
  have := h.letters c (by simpa using hc)
  simp
  omega
theorem reads_txts {h : Heap} : ∀ l : List (Str × Tok), ReadsAll h (strValues l) (l.map fun p => PyData.str p.1) []
  | [] => .nil
  | (x, t) :: l => .cons (.str x t) (reads_txts l)
theorem eqv_txts : ∀ xs : List Str, PyData.eqvAll (xs.map PyData.str) (xs.map PyData.str) = true
  | [] => rfl
  | x :: xs => by
    simp only [List.map_cons, PyData.eqvAll, eqv_txts xs, Bool.and_true]
    simp [PyData.eqv]
theorem lay_txts : ∀ xs : List Str, (∀ x ∈ xs, PyData.strOk x = true) → PyData.canLayAll0 (xs.map PyData.str) = true
  | [], _ => rfl
  | x :: xs, h => by
    simp only [List.map_cons, PyData.canLayAll0, lay_txts xs fun y hy => h y (List.mem_cons_of_mem _ hy), Bool.and_true]
    simpa [PyData.canLay0] using h x List.mem_cons_self
theorem depth_txts : ∀ xs : List Str, PyData.depthAll (xs.map PyData.str) ≤ 1
  | [] => by simp [PyData.depthAll]
  | x :: xs => by
    have := depth_txts xs
    simp only [List.map_cons, PyData.depthAll, PyData.depth]
    omega
theorem ne_txts {prog : Program} {w : World} {A : Around} {E : Value → Shared → Prop} {s : Shared} {h₀ : Heap} {L a b : Addr} {news : List (Addr × Obj)} {va vb : Array Value} {na nb : Nat} {xs : List Str} {Q : Value → Shared → Prop} (N : News h₀ L s.heap news) (ha : (a, listOf va na) ∈ news) (hb : (b, listOf vb nb) ∈ news) (h1 : Txts va xs) (h2 : Txts vb xs)
    (hok : ∀ x ∈ xs, PyData.strOk x = true) (hu : A.units + 64 < cLine) (h : Q (.bool false) s) : wpAny (model prog w) A (compareOp .NotEq (.ref a) (.ref b)) Q E s := by
  obtain ⟨l1, rfl, e1⟩ := h1
  obtain ⟨l2, rfl, e2⟩ := h2
  have r1 : ReadsAll s.heap (strValues l1).toArray.toList (xs.map PyData.str) [] := by
    have := reads_txts (h := s.heap) l1
    rw [← e1, List.map_map]
    exact this
  have r2 : ReadsAll s.heap (strValues l2).toArray.toList (xs.map PyData.str) [] := by
    have := reads_txts (h := s.heap) l2
    rw [← e2, List.map_map]
    exact this
  have hsh : SeqAt.shaped (.list (xs.map PyData.str)) = true := by
    unfold SeqAt.shaped
    have d := depth_txts xs
    rw [show (PyData.list (xs.map PyData.str)).canLay0 = true from by simpa [PyData.canLay0] using lay_txts xs hok]
    simp [PyData.depth]
    omega
  refine ne_dataH (da := .list (xs.map PyData.str)) (db := .list (xs.map PyData.str)) (reads_list_at (News.get N ha) rfl rfl r1) (reads_list_at (News.get N hb) rfl rfl r2) hsh hsh hu ?_
  have e : PyData.eqv (.list (xs.map PyData.str)) (.list (xs.map PyData.str)) = true := by
    simpa [PyData.eqv] using eqv_txts xs
  rw [e]
  exact h
theorem pyIter_downI {prog : Program} {w : World} {A : Around} {E : Value → Shared → Prop} {s : Shared} {h₀ : Heap} {L r : Addr} {m : Str → Option Value} {news : List (Addr × Obj)} {a : Int} {t u v : Tok} {Q : Value → Shared → Prop} (F : Fr h₀ L s.heap m) (N : News h₀ L s.heap news) (hr : IsRange s.heap r a 0 (-1) t u v) (h0 : 0 ≤ a) (h1 : a ≤ 1000)
    (h : ∀ (I : Addr) o h', (∀ p ∈ news, p.1 < I) → RanItOk a a.toNat (-1) 0 o → Fr h₀ L h' m → News h₀ L h' ((I, o) :: news) → Q (.ref I) { s with heap := h' }) : wpAny (model prog w) A (pyIter (.ref r)) Q E s := by
  obtain ⟨p, rfl⟩ := Int.eq_ofNat_of_zero_le h0
  exact pyIter_down F N hr rfl (by omega) h
theorem pin {m : Str → Option Value} {k : Str} {v : Value} (h : m k = some v) : m = fun y => if y = k then some v else m y := by
  funext y
  by_cases e : y = k
  · rw [if_pos e, e, h]
  · rw [if_neg e]
theorem cell_ne {h₀ h : Heap} {L a c : Addr} {news : List (Addr × Obj)} {vs : Array Value} {n : Nat} {oc : Obj} {v : Option Value} (N : News h₀ L h news) (ha : (a, listOf vs n) ∈ news) (hc : (c, oc) ∈ news) (hd : oc.data = .cell v) : a ≠ c :=
  N.twoPlaces ha hc fun e => by
    have : oc = listOf vs n := e.symm
    rw [this] at hd
    cases hd
theorem tab_ne {h₀ h : Heap} {L a c : Addr} {news : List (Addr × Obj)} {vs : Array Value} {oc : Obj} {v : Option Value} (N : News h₀ L h news) (ha : (a, tabObj vs) ∈ news) (hc : (c, oc) ∈ news) (hd : oc.data = .cell v) : a ≠ c :=
  N.twoPlaces ha hc fun e => by
    have : oc = tabObj vs := e.symm
    rw [this] at hd
    cases hd
theorem list_ne_tab {h₀ h : Heap} {L a b : Addr} {news : List (Addr × Obj)} {vs us : Array Value} {n : Nat} (N : News h₀ L h news) (ha : (a, listOf vs n) ∈ news) (hb : (b, tabObj us) ∈ news) : a ≠ b :=
  N.twoPlaces ha hb fun e => by
    have e2 : listOf vs n = tabObj us := e
    have := congrArg Obj.cls e2
    cases this
end
section
theorem lines19 : True := by
  k_with "L89" => (k_here; k_dflt (refine' Mine.pyIter_downI ?k1q89 ?k2q89 ?k3q89 ?k4q89 ?k5q89 (fun I'q9 o'q9 h'q9 l1q9 hokq9 F'q9 N'q9 => ?_); (case k1q89 => k_asm); (case k2q89 => k_asm); (case k3q89 => assumption); (case k4q89 => omega); (case k5q89 => omega)); k_lt l1q9)
  k_with "L90" => (k_here; (with_reducible show wpAny _ _ (compareOp CmpOp.NotEq (Value.ref _) (Value.ref _)) _ _ _); k_dflt (refine' Mine.ne_txts ?k1q90 ?k2q90 ?k3q90 ?k4q90 ?k5q90 ?k6q90 ?k7q90 ?_; (case k1q90 => k_asm); (case k2q90 => k_mem); (case k3q90 => k_mem); (case k4q90 => assumption); (case k5q90 => assumption); (case k6q90 => assumption); (case k7q90 => first | exact Nat.le_of_ble_eq_true rfl | ktr_units)))
  trivial
local macro_rules | `(tactic| walk_at "exec For Name Call cons nil") => `(tactic| k_extra "L51")
local macro_rules | `(tactic| walk_at "pyIter ref") => `(tactic| k_extra "L89")
local macro_rules | `(tactic| walk_at "compareOp NotEq ref ref") => `(tactic| k_extra "L90")

theorem law_l2 {w : World} {p : Program} {loose : List Str} {mean : ExcName → Option Value} {mg mb : Str → Option Value}
  (base h₀ : Heap) (L fa : Addr) (cd : Value) (m : Str → Option Value) (s : Shared) (Q : Flow → Shared → Prop) (E : Value → Shared → Prop) (rest : List Stmt)
  (B : Below callerA base [] h₀) (X : (Mine.hd.heap_39 w.params).In h₀) (T : Top p loose mean mg mb h₀) (hE : PassesOwn (model PySem.Challenge.rw_pm0058_01.row.prog w) (callerA.deeper (lawEnv L fa cd)) (lawEnv L fa cd) E)
  (oc : Obj) (rw ah bh : Addr) (vs va vb : Array Value) (nr na nb : Nat) (R A Bh : List Str) (gr : Int) (t4 : Tok)
  (F : Fr h₀ L s.heap (fun y => if y = Str.ofString "ahead" then some (.ref ah) else if y = Str.ofString "behind" then some (.ref bh) else if y = Str.ofString "row" then some (.ref rw) else if y = Str.ofString "great" then some (.int gr t4) else m y)) (N : News h₀ L s.heap ((rw, listOf vs nr) :: (ah, listOf va na) :: (bh, listOf vb nb) :: (L + 1, oc) :: (140, tabObj #[]) :: (147, tabObj #[]) :: [])) (hoc : oc.data = .cell none) (htx : Txts vs R) (hta : Txts va A) (htb : Txts vb Bh) (hlen : A.length ≤ 13 ∧ Bh.length ≤ 13) (hgr : 2 ≤ gr ∧ gr ≤ 18) (hri : RowInv R A Bh) (hw : ∀ a ∈ R, Wd a) (hsz : ∀ a ∈ R, (a.length : Int) + 1 ≤ gr)
  (hret : ∀ oc' m' h' tk', (∀ y, y ≠ Str.ofString "due" → m' y = (fun y => if y = Str.ofString "ahead" then some (.ref ah) else if y = Str.ofString "behind" then some (.ref bh) else if y = Str.ofString "row" then some (.ref rw) else if y = Str.ofString "great" then some (.int gr t4) else m y) y) → Fr h₀ L h' m' → News h₀ L h' ((rw, listOf vs nr) :: (L + 1, oc') :: (140, tabObj #[]) :: (147, tabObj #[]) :: []) → wpAny (model PySem.Challenge.rw_pm0058_01.row.prog w) (callerA.deeper (lawEnv L fa cd)) (execs rest (lawEnv L fa cd)) Q E { s with heap := h', toks := tk' }) :
  wpAny (model PySem.Challenge.rw_pm0058_01.row.prog w) (callerA.deeper (lawEnv L fa cd)) (execs (stmtAt 12 :: stmtAt 13 :: stmtAt 14 :: rest) (lawEnv L fa cd)) Q E s := by
  have c1 : rw ≠ L + 1 := cell_ne N (by k_mem) (by k_mem) hoc
  have c2 : ah ≠ L + 1 := cell_ne N (by k_mem) (by k_mem) hoc
  have c3 : bh ≠ L + 1 := cell_ne N (by k_mem) (by k_mem) hoc
  have c5 : 140 ≠ L + 1 := tab_ne N (by k_mem) (by k_mem) hoc
  have c6 : 147 ≠ L + 1 := tab_ne N (by k_mem) (by k_mem) hoc
  have hok9 : ∀ x ∈ R, PyData.strOk x = true := fun x hx => word_ok (hw x hx)
  have hsh9 : ∀ a ∈ A ++ Bh, a.length ≤ 17 := fun a ha => by
    have h1 := hri.same a.length
    have h2 : a ∈ (A ++ Bh).filter (fun x => x.length == a.length) := List.mem_filter.mpr ⟨ha, by simp⟩
    rw [← h1] at h2
    exact (hw a (List.mem_filter.mp h2).1).short
  have hdue9 : dueOf (A ++ Bh) gr (gr - 1).toNat = R := row_due hri hsz (fun a ha => (hw a ha).pos) (by omega)
  revert X
  k_fill
  intro X
  unfold lawEnv lawScope at hret hE ⊢
  unfold stmtAt lawBody
  unfold lawLit at hret hE ⊢
  dsimp only [List.getElem?_cons_zero, List.getElem?_cons_succ, Option.getD_some] at hret hE ⊢

  k_steps
  refine' law_loop2 base h₀ L fa cd _ _ _ _ B X T hE oc _ _ rw ah bh _ vs va vb nr na nb A Bh gr _ _ ?cF ?cN ?ck hoc hta htb hlen hgr hsh9 ?d1 ?d2 ?d3 ?d4 ?d5 ?d6 ?d7 ?d8 c1 c2 c3 c5 c6 (fun vd du' nd oc' m' h' tk' htd hm9 hdu9 F' N' => ?_)
  (case cF => k_asm)
  (case cN => ktr_rel)
  (case ck => assumption)
  (case d1 => (first | with_reducible assumption | exact Ne.symm (by with_reducible assumption) | k_ne))
  (case d2 => (first | with_reducible assumption | exact Ne.symm (by with_reducible assumption) | k_ne))
  (case d3 => (first | with_reducible assumption | exact Ne.symm (by with_reducible assumption) | k_ne))
  (case d4 => (first | with_reducible assumption | exact Ne.symm (by with_reducible assumption) | k_ne))
  (case d5 => (first | with_reducible assumption | exact Ne.symm (by with_reducible assumption) | k_ne))
  (case d6 => (first | with_reducible assumption | exact Ne.symm (by with_reducible assumption) | k_ne))
  (case d7 => (first | with_reducible assumption | exact Ne.symm (by with_reducible assumption) | k_ne))
  (case d8 => (first | with_reducible assumption | exact Ne.symm (by with_reducible assumption) | k_ne))
  rw [hdue9] at htd
  have e9 : m' = fun y => if y = Str.ofString "due" then some (.ref du') else (fun y => if y = Str.ofString "ahead" then some (.ref ah) else if y = Str.ofString "behind" then some (.ref bh) else if y = Str.ofString "row" then some (.ref rw) else if y = Str.ofString "great" then some (.int gr t4) else m y) y := by
    funext y
    by_cases q : y = Str.ofString "due"
    · rw [if_pos q, q, hdu9]
    · rw [if_neg q, hm9 y q]
  rw [e9] at F'
  k_steps
  exact hret _ _ _ _ (fun y hy => if_neg hy) (by k_asm) (by ktr_rel)
end
section
open PySem PySem.W PyProof.Rows PySem.Spec PySem.Calls PySem.Builtin PySem.Builtin.Str
theorem str_ext {a b : Str} (h : a.cps.toList = b.cps.toList) : a = b := by
  cases a; cases b
  simp only at h
  congr
  exact Array.toList_inj.mp h
/-- the signs of a row of words, a blank ahead of each -/
noncomputable def txl (W : List Str) : List Nat := W.flatMap fun x => 32 :: x.cps.toList
noncomputable def tx (W : List Str) : Str := ⟨(txl W).toArray⟩
noncomputable def clen (W : List Str) : Nat := (W.map fun x => x.length + 1).sum
theorem txl_append (V W : List Str) : txl (V ++ W) = txl V ++ txl W := by simp [txl]
theorem clen_append (V W : List Str) : clen (V ++ W) = clen V + clen W := by simp [clen]
theorem clen_cons (x : Str) (W : List Str) : clen (x :: W) = x.length + 1 + clen W := by simp [clen]
theorem clen_nil : clen [] = 0 := rfl
theorem txl_length : ∀ W : List Str, (txl W).length = clen W
  | [] => rfl
  | x :: W => by
    show ((32 :: x.cps.toList) ++ txl W).length = _
    rw [List.length_append, txl_length W, clen_cons]
    simp [Str.length]
theorem tx_length (W : List Str) : (tx W).length = clen W := by
  show (txl W).toArray.size = _
  rw [List.size_toArray, txl_length]
theorem tx_nil : tx [] = "" := by decide +kernel
theorem join_fold : ∀ (xs : List Str) (a : Array Nat), (xs.foldl (fun acc (p : Str) => acc ++ (Str.ofString "").cps ++ p.cps) a).toList = a.toList ++ xs.flatMap fun x => x.cps.toList
  | [], a => by simp
  | x :: xs, a => by
    rw [List.foldl_cons, join_fold xs]
    have e : (Str.ofString "").cps = #[] := by decide +kernel
    simp [e]
theorem join_list' (xs : List Str) : (Txt.join (Str.ofString "") xs).cps.toList = xs.flatMap fun x => x.cps.toList := by
  cases xs with
  | nil => rfl
  | cons x xs =>
    show (((x :: xs).drop 1).foldl (fun acc (p : Str) => acc ++ (Str.ofString "").cps ++ p.cps) ((x :: xs).headD Str.empty).cps).toList = _
    rw [join_fold]
    rfl
theorem space_list : (Str.ofString " ").cps.toList = [32] := by decide +kernel
theorem join_word (x : Str) : (Txt.join (Str.ofString "") [Str.ofString " ", x]).cps.toList = 32 :: x.cps.toList := by
  rw [join_list']
  simp [space_list]
theorem join_tx (W : List Str) : Txt.join (Str.ofString "") (W.map fun x => Txt.join (Str.ofString "") [Str.ofString " ", x]) = tx W := by
  apply str_ext
  rw [join_list']
  show _ = (txl W).toArray.toList
  rw [List.flatMap_map]
  simp only [join_word]
  rfl
theorem join_tx2 (W : List Str) : Txt.join (Str.ofString "") (W.map fun x => Str.ofString " " ++ x) = tx W := by
  apply str_ext
  rw [join_list']
  show _ = (txl W).toArray.toList
  rw [List.flatMap_map]
  have : ∀ x : Str, (Str.ofString " " ++ x).cps.toList = 32 :: x.cps.toList := fun x => by
    show ((Str.ofString " ").cps ++ x.cps).toList = _
    rw [Array.toList_append, space_list]
    rfl
  simp only [this]
  rfl
theorem tx_snoc (W : List Str) (x : Str) : tx W ++ (Str.ofString " " ++ x) = tx (W ++ [x]) := by
  apply str_ext
  show ((txl W).toArray ++ ((Str.ofString " ").cps ++ x.cps)).toList = (txl (W ++ [x])).toArray.toList
  rw [Array.toList_append, Array.toList_append, space_list, txl_append]
  simp [txl]
theorem idx_clamp {l : Option Int} {j : Int} {len : Nat} (h : (len : Int) ≤ j) : strSliceIndices l (some j) 1 len = strSliceIndices l (some (len : Int)) 1 len := by
  have a : ¬ (j < 0) := by omega
  have b : ¬ ((len : Int) < 0) := by omega
  have c : min j (len : Int) = len := by omega
  simp [strSliceIndices, a, b, c]
theorem slice_mid {U V W : List Str} {i j : Int} (hi : i = clen U) (hj : j = clen U + clen V ∨ (W = [] ∧ (clen U : Int) + clen V ≤ j)) : Txt.slice (tx (U ++ (V ++ W))) (some i) (some j) = tx V := by
  have hl : (tx (U ++ (V ++ W))).cps.toList = txl U ++ (txl V ++ txl W) := by
    show (txl (U ++ (V ++ W))).toArray.toList = _
    rw [txl_append, txl_append]
  have hn : (tx (U ++ (V ++ W))).length = clen U + (clen V + clen W) := by rw [tx_length, clen_append, clen_append]
  have base : Txt.slice (tx (U ++ (V ++ W))) (some i) (some ((clen U : Int) + clen V)) = tx V := by
    show StrLaws.sliceText _ _ _ = _
    rw [StrLaws.sliceText_plain ⟨by omega, by omega, by rw [hl]; simp [txl_length]; omega⟩, hl]
    apply str_ext
    show ((((txl U ++ (txl V ++ txl W)).drop i.toNat).take ((clen U : Int) + clen V - i).toNat).toArray).toList = (txl V).toArray.toList
    rw [hi, Int.toNat_natCast, ← txl_length U, List.drop_left, show ((txl U).length : Int) + (clen V : Int) - ((txl U).length : Int) = (clen V : Int) by omega, Int.toNat_natCast, ← txl_length V, List.take_left]
  rcases hj with rfl | ⟨rfl, hj⟩
  · exact base
  · rw [← base]
    unfold Txt.slice
    rw [hn, clen_nil, Nat.add_zero]
    rw [idx_clamp (j := j) (by omega), idx_clamp (j := (clen U : Int) + clen V) (by omega)]
theorem slice_head {V W : List Str} {j : Int} (hj : j = clen V ∨ (W = [] ∧ (clen V : Int) ≤ j)) : Txt.slice (tx (V ++ W)) none (some j) = tx V := by
  have h := slice_mid (U := []) (V := V) (W := W) (i := 0) (j := j) (by simp [clen_nil]) (by simpa [clen_nil] using hj)
  rw [← h]
  unfold Txt.slice
  rw [StrLaws.sliceIdx_none_lo]
  rfl
end
section
/-- where the formatter stands: the lines that are out (Gs), the one under way (C), its start (i) -/
structure FInv (wd hd : Nat) (done : List Str) (Gs : List (List Str)) (C : List Str) (i : Int) : Prop where
  all : done = Gs.flatten ++ C
  first : Gs = [] → i = hd ∧ (C ≠ [] → hd + clen C ≤ wd)
  later : ∀ G0 Rs, Gs = G0 :: Rs → i = 0 ∧ C ≠ [] ∧ clen C ≤ wd ∧ clen G0 = wd - hd ∧ ∀ V ∈ Rs, clen V = wd
theorem FInv.start (wd hd : Nat) : FInv wd hd [] [] [] (hd : Int) := ⟨rfl, fun _ => ⟨rfl, fun h => absurd rfl h⟩, fun _ _ h => nomatch h⟩
theorem clen_pos {W : List Str} (h : W ≠ []) : 1 ≤ clen W := by
  cases W with
  | nil => exact absurd rfl h
  | cons x W => rw [clen_cons]; omega
theorem clen_snoc (W : List Str) (x : Str) : clen (W ++ [x]) = clen W + (x.length + 1) := by rw [clen_append, clen_cons, clen_nil]
theorem dvd_clen {d : Nat} : ∀ {W : List Str}, (∀ y ∈ W, d ∣ y.length + 1) → d ∣ clen W
  | [], _ => ⟨0, rfl⟩
  | x :: W, h => by
    rw [clen_cons]
    exact Nat.dvd_add (h x List.mem_cons_self) (dvd_clen fun y hy => h y (List.mem_cons_of_mem _ hy))
theorem full_of {a d m : Nat} (h1 : d ∣ a) (h2 : d ∣ m) (h3 : a ≤ m) (h4 : m < a + d) : a = m := by
  obtain ⟨p, rfl⟩ := h1
  obtain ⟨q, rfl⟩ := h2
  have hd : 0 < d := by
    rcases Nat.eq_zero_or_pos d with rfl | h
    · omega
    · exact h
  have h5 : p ≤ q := Nat.le_of_mul_le_mul_left h3 hd
  have h6 : d * q < d * (p + 1) := by rw [Nat.mul_add, Nat.mul_one]; exact h4
  have h7 : q < p + 1 := Nat.lt_of_mul_lt_mul_left h6
  have : p = q := by omega
  rw [this]
theorem over_of_dvd {a d m : Nat} (h1 : d ∣ a) (h2 : d ∣ m) (h4 : m < a + d) : m ≤ a := by
  rcases Nat.lt_or_ge a m with h | h
  · have := full_of h1 h2 (Nat.le_of_lt h) h4
    omega
  · exact h
section
variable {wd hd : Nat} {done C : List Str} {Gs : List (List Str)} {i : Int} {x : Str}
theorem FInv.i0 (h : FInv wd hd done Gs C i) : 0 ≤ i ∧ i ≤ hd := by
  cases Gs with
  | nil => have := (h.first rfl).1; omega
  | cons G0 Rs => have := (h.later G0 Rs rfl).1; omega
theorem FInv.clenC (h : FInv wd hd done Gs C i) : clen C ≤ wd := by
  cases Gs with
  | nil =>
    by_cases e : C = []
    · rw [e]; exact Nat.zero_le _
    · have := (h.first rfl).2 e; omega
  | cons G0 Rs => exact (h.later G0 Rs rfl).2.2.1
theorem FInv.fit (h : FInv wd hd done Gs C i) (hf : i + ((clen C : Int) + (1 + (x.length : Int))) ≤ wd) : FInv wd hd (done ++ [x]) Gs (C ++ [x]) i := by
  refine ⟨by rw [h.all, List.append_assoc], fun e => ⟨(h.first e).1, fun _ => ?_⟩, fun G0 Rs e => ?_⟩
  · have := (h.first e).1
    rw [clen_snoc]
    omega
  · have q := h.later G0 Rs e
    refine ⟨q.1, by simp, ?_, q.2.2.2⟩
    rw [clen_snoc]
    have := q.1
    omega
theorem FInv.full (h : FInv wd hd done Gs C i) (hc : C ≠ []) (hf : ¬ i + ((clen C : Int) + (1 + (x.length : Int))) ≤ wd) (d1 : x.length + 1 ∣ hd) (d2 : x.length + 1 ∣ wd) (d3 : ∀ y ∈ done, x.length + 1 ∣ y.length + 1) (hw : x.length + 1 ≤ wd) : FInv wd hd (done ++ [x]) (Gs ++ [C]) [x] 0 := by
  have dC : x.length + 1 ∣ clen C := dvd_clen fun y hy => d3 y (by rw [h.all]; exact List.mem_append_right _ hy)
  refine ⟨by rw [h.all]; simp, fun e => absurd e (by simp), fun G0 Rs e => ⟨rfl, by simp, by rw [clen_cons, clen_nil]; omega, ?_⟩⟩
  cases Gs with
  | nil =>
    simp only [List.nil_append, List.cons.injEq] at e
    obtain ⟨rfl, rfl⟩ := e
    have h1 := (h.first rfl).1
    have h2 := (h.first rfl).2 hc
    have := full_of (Nat.dvd_add d1 dC) d2 h2 (by omega)
    exact ⟨by omega, List.forall_mem_nil _⟩
  | cons A B =>
    simp only [List.cons_append, List.cons.injEq] at e
    obtain ⟨rfl, rfl⟩ := e
    have q := h.later A B rfl
    refine ⟨q.2.2.2.1, fun V hV => ?_⟩
    rcases List.mem_append.mp hV with hV | hV
    · exact q.2.2.2.2 V hV
    · rw [List.mem_singleton.mp hV]
      have := q.1
      exact full_of dC d2 q.2.2.1 (by omega)
theorem FInv.head (h : FInv wd hd done Gs [] i) (hf : ¬ i + (1 + (x.length : Int)) ≤ wd) (d1 : x.length + 1 ∣ hd) (d2 : x.length + 1 ∣ wd) (hw : x.length + 1 ≤ wd) : i ≠ 0 ∧ FInv wd hd (done ++ [x]) (Gs ++ [[]]) [x] 0 := by
  cases Gs with
  | cons A B => exact absurd rfl (h.later A B rfl).2.1
  | nil =>
    have h1 := (h.first rfl).1
    have h2 := over_of_dvd d1 d2 (by omega)
    refine ⟨by omega, ⟨by rw [h.all]; simp, fun e => absurd e (by simp), fun G0 Rs e => ⟨rfl, by simp, by rw [clen_cons, clen_nil]; omega, ?_⟩⟩⟩
    simp only [List.nil_append, List.cons.injEq] at e
    obtain ⟨rfl, rfl⟩ := e
    exact ⟨by rw [clen_nil]; omega, List.forall_mem_nil _⟩
end
theorem siz_dvd {sm md gr : Int} (h1 : md = sm ∨ md = sm * 2 ∨ md = sm * 3) (h2 : gr = md ∨ gr = md * 2) (hs : 2 ≤ sm) {x y : Str} (hx : Siz sm md gr x) (hy : Siz sm md gr y) (hl : x.length ≤ y.length) : x.length + 1 ∣ y.length + 1 := by
  have key : ((x.length : Int) + 1) ∣ ((y.length : Int) + 1) := by
    have sd : sm ∣ md := by
      rcases h1 with h | h | h
      · rw [h]; exact Int.dvd_refl _
      · rw [h]; exact Int.dvd_mul_right _ _
      · rw [h]; exact Int.dvd_mul_right _ _
    have dg : md ∣ gr := by
      rcases h2 with h | h
      · rw [h]; exact Int.dvd_refl _
      · rw [h]; exact Int.dvd_mul_right _ _
    have sg : sm ∣ gr := Int.dvd_trans sd dg
    rcases hx with hx | hx | hx <;> rcases hy with hy | hy | hy <;> rw [hx, hy] <;> first
      | exact Int.dvd_refl _
      | assumption
      | (rw [show md = sm by omega]; exact Int.dvd_refl _)
      | (rw [show gr = md by omega]; exact Int.dvd_refl _)
      | (rw [show gr = sm by omega]; exact Int.dvd_refl _)
  have k2 : ((x.length + 1 : Nat) : Int) ∣ ((y.length + 1 : Nat) : Int) := by
    push_cast
    exact key
  exact Int.natCast_dvd_natCast.mp k2
end
section
theorem psum_clen : ∀ {parts : List Part} {C : List Str}, parts.map (·.txt) = C → (∀ q ∈ parts, q.fws = Str.ofString " ") → psum parts = (clen C : Int)
  | [], _, h, _ => by subst h; rfl
  | q :: ps, _, h, hf => by
    subst h
    have ih := psum_clen (parts := ps) rfl fun z hz => hf z (List.mem_cons_of_mem _ hz)
    have e : psum (q :: ps) = plen q + psum ps := by simp [psum]
    rw [e, ih, List.map_cons, clen_cons]
    have : q.fws.length = 1 := by rw [hf q List.mem_cons_self]; exact len_space
    simp only [plen, this]
    push_cast
    omega
theorem text_tx {parts : List Part} {C : List Str} (h : parts.map (·.txt) = C) (hf : ∀ q ∈ parts, q.fws = Str.ofString " ") : Txt.join (Str.ofString "") (parts.map fun q => Txt.join (Str.ofString "") [q.fws, q.txt]) = tx C := by
  subst h
  rw [← join_tx, List.map_map]
  congr 1
  apply List.map_congr_left
  intro q hq
  simp only [Function.comp, hf q hq]
theorem last_letter {x : Str} (h : Wd x) (k : Nat) (hk : k < 97) : (Txt.item x (-1) == (⟨#[k]⟩ : Str)) = false := by
  have hp := h.pos
  have e := item_closes_neg (x := x) (i := -1) (j := -1 + x.length) (by omega) (by omega) rfl
  rw [beq_iff_eq] at e
  rw [e]
  have hlt : (-1 + (x.length : Int)).toNat < x.cps.size := by
    have : x.length = x.cps.size := rfl
    omega
  have hm : x.cps.getD (-1 + (x.length : Int)).toNat 0 ∈ x.cps.toList := by
    rw [Array.getD_eq_getD_getElem?, Array.getElem?_eq_getElem hlt, Option.getD_some]
    exact Array.mem_toList_iff.mpr (Array.getElem_mem hlt)
  have := (h.letters _ hm).1
  rw [beq_eq_false_iff_ne]
  intro c
  have c2 : x.cps.getD (-1 + (x.length : Int)).toNat 0 = k := by
    have := congrArg (fun z : Str => z.cps.getD 0 0) c
    simpa using this
  omega
theorem word_txt {x : Str} (h : Wd x) : WordTxt x := ⟨h.pos, by have := h.short; omega, fun k hk => last_letter h k hk⟩
theorem tup_ne {h₀ h : Heap} {L a b : Addr} {news : List (Addr × Obj)} {x y : Str} {t1 t2 : Tok} {o : Obj} (N : News h₀ L h news) (ha : (a, tupObj x y t1 t2) ∈ news) (hb : (b, o) ∈ news) (hc : o.cls ≠ .type "tuple") : a ≠ b :=
  N.twoPlaces ha hb fun e => hc (by have e2 : tupObj x y t1 t2 = o := e; rw [← e2])
theorem letters_no_space : ∀ k, k < 26 → Unicode.isSpace (97 + k) = false := by
  have h : (List.range 26).all (fun k => !Unicode.isSpace (97 + k)) = true := by decide +kernel
  intro k hk
  have := List.all_eq_true.mp h k (List.mem_range.mpr hk)
  simpa using this
theorem not_space {W : List Str} (hne : W ≠ []) (hw : ∀ x ∈ W, Wd x) : Txt.isspace (tx W) = false := by
  cases W with
  | nil => exact absurd rfl hne
  | cons x W =>
    have hx := hw x List.mem_cons_self
    have hp := hx.pos
    have hlt : 0 < x.cps.size := hp
    have hm : x.cps[0] ∈ x.cps.toList := Array.mem_toList_iff.mpr (Array.getElem_mem hlt)
    have hl := hx.letters _ hm
    have hns : Unicode.isSpace x.cps[0] = false := by
      have := letters_no_space (x.cps[0] - 97) (by omega)
      rwa [show 97 + (x.cps[0] - 97) = x.cps[0] by omega] at this
    unfold Txt.isspace
    rw [Bool.and_eq_false_iff]
    refine .inr ?_
    rw [Array.all_eq_false]
    have hmem : x.cps[0] ∈ (tx (x :: W)).cps := by
      show x.cps[0] ∈ (txl (x :: W)).toArray
      rw [List.mem_toArray]
      exact List.mem_append_left _ (List.mem_cons_of_mem _ hm)
    obtain ⟨k, hk, e⟩ := Array.mem_iff_getElem.mp hmem
    exact ⟨k, hk, by rw [e, hns]; exact Bool.false_ne_true⟩
end
section
theorem append_step {w : World} {p : Program} {loose : List Str} {mean : ExcName → Option Value} {mg mb : Str → Option Value}
    {dp un : Nat} {gd : Option (List Code)} {cn : Str} {cs : Scope} {a : Addr} {ccd : Value} {cl : List (Str × Addr)} {outer : List Env} {A₀ : Around} {base h₀ : Heap} {L : Addr} {m : Str → Option Value} {led : List (Addr × Obj)} {s : Shared} {Q E : Value → Shared → Prop}
    {f df ln ac da : Addr} {ft : FToks} {wi : Int} {sig : Str} {vs : Array Value} {nl n : Nat} {i : Int} {ti tk : Tok} {tb ub : Array Value} {parts : List Part} {x : Str} {tx9 ty : Tok} {wdn hdn : Nat} {done C : List Str} {Gs : List (List Str)} {tl : List (Addr × Obj)} {r1 r2 r3 r4 r5 r6 r : List (Addr × Obj)}
    (B : Below A₀ base outer h₀) (F : Fr h₀ L s.heap m) (X : (Mine.hd.heap_39 w.params).In h₀) (N : News h₀ L s.heap led) (T : Top p loose mean mg mb h₀) (hk : cs.kind = .function)
    (t1 : Take (f, instObj 94 df) led r1)
    (t2 : Take (df, fmtDict w ft wi sig ln ac) r1 r2)
    (t3 : Take (ln, listOf (vs) (nl)) r2 r3)
    (t4 : Take (ac, accObj 178 da (refs parts) n) r3 r4)
    (t5 : Take (da, initDict w i ti tk) r4 r5)
    (t6 : Take (140, tabObj tb) r5 r6)
    (t7 : Take (147, tabObj ub) r6 r)
    (hd : dp + 12 < recursionLimit) (hu : un + 300 < cLine) (hg : AllBare s.gens) (ht : TabOk lenPos tb) (hu2 : TabOk strPos ub) (hTl : ∀ q ∈ parts, q.obj ∈ tl) (hTr : ∀ p ∈ tl, p ∈ r)
    (hv : FInv wdn hdn done Gs C i) (htx : Txts vs (Gs.map tx)) (hpt : parts.map (·.txt) = C) (hpf : ∀ q ∈ parts, q.fws = Str.ofString " ") (hwi : wi = (wdn : Int)) (hwn : wdn ≤ 100) (hhn : hdn ≤ 100) (hdw : ∀ y ∈ done, Wd y) (hdl : done.length ≤ 20) (hGl : Gs.length ≤ done.length) (hx : Wd x)
    (d1 : x.length + 1 ∣ hdn) (d2 : x.length + 1 ∣ wdn) (d3 : ∀ y ∈ done, x.length + 1 ∣ y.length + 1) (hw : x.length + 1 ≤ wdn) (hsg : sig = Str.ofString " " ∨ sig = Str.ofString ";, \t")
    (e0 : f ≠ df) (e1 : f ≠ ln) (e2 : f ≠ ac) (e3 : f ≠ da) (e4 : f ≠ 140) (e5 : f ≠ 147) (e6 : df ≠ ln) (e7 : df ≠ ac) (e8 : df ≠ da) (e9 : df ≠ 140) (e10 : df ≠ 147) (e11 : ln ≠ ac) (e12 : ln ≠ da) (e13 : ln ≠ 140) (e14 : ln ≠ 147) (e15 : ac ≠ da) (e16 : ac ≠ 140) (e17 : ac ≠ 147) (e18 : da ≠ 140) (e19 : da ≠ 147) (q0 : ∀ p ∈ r, p.1 ≠ f) (q1 : ∀ p ∈ r, p.1 ≠ df) (q2 : ∀ p ∈ r, p.1 ≠ ln) (q3 : ∀ p ∈ r, p.1 ≠ ac) (q4 : ∀ p ∈ r, p.1 ≠ da) (q5 : ∀ p ∈ r, p.1 ≠ 140) (q6 : ∀ p ∈ r, p.1 ≠ 147)
    (hret : ∀ (tp : Addr) parts' vs' nl' n' i' ti' Gs' C' (tb' ub' : Array Value) h' tk' gs', FInv wdn hdn (done ++ [x]) Gs' C' i' → Txts vs' (Gs'.map tx) → parts'.map (·.txt) = C' → (∀ q ∈ parts', q.fws = Str.ofString " ") → (∀ q ∈ parts', q.obj ∈ (tp, tupObj " " x tx9 ty) :: tl) → C' ≠ [] → AllBare gs' → TabOk lenPos tb' → TabOk strPos ub' → Fr h₀ L h' m → News h₀ L h' ((tp, tupObj " " x tx9 ty) :: (f, instObj 94 df) :: (df, fmtDict w ft wi sig ln ac) :: (ln, listOf (vs') (nl')) :: (ac, accObj 178 da (refs parts') n') :: (da, initDict w i' ti' tk) :: (140, tabObj tb') :: (147, tabObj ub') :: r) → (∀ p ∈ r, p.1 < tp) → Q .none { s with heap := h', gens := gs', toks := tk' }) :
    wpAny (model PySem.Challenge.rw_pm0058_01.row.prog w) (ktrTop dp un gd cn cs L a ccd cl outer) (call (.ref 91) [.ref f, .str " " tx9, .str x ty]) Q E s := by
  have N9 : News h₀ L s.heap ((f, instObj 94 df) :: (df, fmtDict w ft wi sig ln ac) :: (ln, listOf (vs) (nl)) :: (ac, accObj 178 da (refs parts) n) :: (da, initDict w i ti tk) :: (140, tabObj tb) :: (147, tabObj ub) :: r) := (Mine.news_sub N (takes_cons t1 (takes_cons t2 (takes_cons t3 (takes_cons t4 (takes_cons t5 (takes_cons t6 (takes_cons t7 (fun _ h => h)))))))))
  have hps := psum_clen hpt hpf
  have hiv := hv.i0
  have hcv := hv.clenC
  have hi0 : 0 ≤ i := hiv.1
  have hi1 : i ≤ 1000000 := by omega
  have hvs : vs.size ≤ 1000 := by rw [htx.size, List.length_map]; omega
  have hp0 : 0 ≤ psum parts := by omega
  have hp1 : psum parts ≤ 1000000 := by omega
  have hCl : C.length ≤ done.length := by rw [hv.all, List.length_append]; omega
  have hn9 : parts.length ≤ 400 := by
    have : parts.length = C.length := by rw [← hpt, List.length_map]
    omega
  have hCw : ∀ y ∈ C, Wd y := fun y hy => hdw y (by rw [hv.all]; exact List.mem_append_right _ hy)
  have hpw : ∀ q ∈ parts, Wd q.txt := fun q hq => hCw _ (by rw [← hpt]; exact List.mem_map.mpr ⟨q, hq, rfl⟩)
  have hq9 : ∀ q ∈ parts, q.fws.length ≤ 1000 ∧ q.txt.length ≤ 1000 := fun q hq => ⟨by rw [hpf q hq, len_space]; omega, by have := (hpw q hq).short; omega⟩
  have hy9 : x.length ≤ 1000 := by have := hx.short; omega
  have hnp : ∀ (tp : Addr) (ps : List Part), (∀ q ∈ ps, q.fws = Str.ofString " ") → ∀ q ∈ ps ++ [(⟨tp, Str.ofString " ", x, tx9, ty⟩ : Part)], q.fws = Str.ofString " " := fun tp ps h q hq => by
    rcases List.mem_append.mp hq with hq | hq
    · exact h q hq
    · rw [List.mem_singleton.mp hq]
  have hT : ∀ q ∈ parts, q.obj ∈ r := fun q hq => hTr _ (hTl q hq)
  have hno : ∀ (tp : Addr) (ps : List Part), (∀ q ∈ ps, q.obj ∈ tl) → ∀ q ∈ ps ++ [(⟨tp, Str.ofString " ", x, tx9, ty⟩ : Part)], q.obj ∈ (tp, tupObj " " x tx9 ty) :: tl := fun tp ps h q hq => by
    rcases List.mem_append.mp hq with hq | hq
    · exact List.mem_cons_of_mem _ (h q hq)
    · rw [List.mem_singleton.mp hq]
      exact List.mem_cons_self
  by_cases hf : i + (psum parts + (1 + (x.length : Int))) ≤ wi
  · refine append_fit_told dp un gd cn cs a ccd cl outer A₀ base h₀ L m r s Q E f df ln ac da ft wi sig vs nl n i ti tk tb ub parts x tx9 ty B F X N9 T hk hd hu hg ht hu2 hi0 hi1 hvs hT hp0 hp1 hn9 hq9 hy9 hf e0 e1 e2 e3 e4 e5 e6 e7 e8 e9 e10 e11 e12 e13 e14 e15 e16 e17 e18 e19 q0 q1 q2 q3 q4 q5 q6 fun tp n' tb' ub' h' tk' gs' G b1 b2 F' N' l1 => ?_
    refine hret tp _ _ _ _ _ _ Gs (C ++ [x]) tb' ub' h' tk' gs' (hv.fit (by rw [hps, hwi] at hf; exact hf)) htx (by rw [List.map_append, hpt]; rfl) (hnp tp parts hpf) (hno tp parts hTl) (by simp) G b1 b2 F' N' l1
  · have hf2 : ¬ i + ((clen C : Int) + (1 + (x.length : Int))) ≤ wdn := by rw [hps, hwi] at hf; exact hf
    by_cases hc : C = []
    · have hpn : parts = [] := by
        have := congrArg List.length hpt
        rw [hc, List.length_map] at this
        exact List.length_eq_zero_iff.mp this
      subst hpn
      subst hc
      have hh := hv.head (x := x) (by rw [clen_nil] at hf2; simpa using hf2) d1 d2 hw
      refine append_head_told dp un gd cn cs a ccd cl outer A₀ base h₀ L m r s Q E f df ln ac da ft wi sig vs nl n i ti tk tb ub x tx9 ty B F X N9 T hk hd hu hg ht hu2 hi0 hi1 hvs hy9 hh.1 (by rcases hsg with h | h <;> rw [h] <;> decide +kernel) (by rw [hps, clen_nil] at hf; simpa using hf) e0 e1 e2 e3 e4 e5 e6 e7 e8 e9 e10 e11 e12 e13 e14 e15 e16 e17 e18 e19 q0 q1 q2 q3 q4 q5 q6 fun tp z t u n' tb' ub' h' tk' gs' hz G b1 b2 F' N' l1 => ?_
      refine hret tp _ _ _ _ _ _ (Gs ++ [[]]) [x] tb' ub' h' tk' gs' hh.2 (by rw [List.map_append]; exact htx.push (by rw [hz]; exact tx_nil.symm)) rfl (hnp tp [] (List.forall_mem_nil _)) (hno tp [] (List.forall_mem_nil _)) (by simp) G b1 b2 F' N' l1
    · have hpn : parts ≠ [] := fun e => hc (by rw [← hpt, e]; rfl)
      have hv2 := hv.full (x := x) hc hf2 d1 d2 d3 hw
      have htxt := text_tx hpt hpf
      rcases hsg with h | h
      · subst h
        refine append_full_told dp un gd cn cs a ccd cl outer A₀ base h₀ L m r s Q E f df ln ac da ft wi vs nl n i ti tk tb ub parts x tx9 ty B F X N9 T hk hd hu hg ht hu2 hi0 hi1 hvs hT hp0 hp1 hn9 hq9 hy9 hpn hf e0 e1 e2 e3 e4 e5 e6 e7 e8 e9 e10 e11 e12 e13 e14 e15 e16 e17 e18 e19 q0 q1 q2 q3 q4 q5 q6 fun tp z t u n' tb' ub' h' tk' gs' hz G b1 b2 F' N' l1 => ?_
        refine hret tp _ _ _ _ _ _ (Gs ++ [C]) [x] tb' ub' h' tk' gs' hv2 (by rw [List.map_append]; exact htx.push (by rw [hz]; exact htxt)) rfl (hnp tp [] (List.forall_mem_nil _)) (hno tp [] (List.forall_mem_nil _)) (by simp) G b1 b2 F' N' l1
      · subst h
        refine append_full2_told dp un gd cn cs a ccd cl outer A₀ base h₀ L m r s Q E f df ln ac da ft wi vs nl n i ti tk tb ub parts x tx9 ty B F X N9 T hk hd hu hg ht hu2 hi0 hi1 hvs hT hp0 hp1 hn9 hq9 hy9 (fun q hq => word_txt (hpw q hq)) hpn hf e0 e1 e2 e3 e4 e5 e6 e7 e8 e9 e10 e11 e12 e13 e14 e15 e16 e17 e18 e19 q0 q1 q2 q3 q4 q5 q6 fun tp z t u n' tb' ub' h' tk' gs' hz G b1 b2 F' N' l1 => ?_
        refine hret tp _ _ _ _ _ _ (Gs ++ [C]) [x] tb' ub' h' tk' gs' hv2 (by rw [List.map_append]; exact htx.push (by rw [hz]; exact htxt)) rfl (hnp tp [] (List.forall_mem_nil _)) (hno tp [] (List.forall_mem_nil _)) (by simp) G b1 b2 F' N' l1
end
section
theorem lines20 : True := by
  k_with "L91" => (k_here; (with_reducible show wpAny _ _ (call (Value.ref 91) _) _ _ _); k_dflt (refine' Mine.append_step ?k1q91 ?k2q91 ?k3q91 ?k4q91 ?k5q91 ?kKq91 ?t1q91 ?t2q91 ?t3q91 ?t4q91 ?t5q91 ?t6q91 ?t7q91 ?kdq91 ?kuq91 ?g1q91 ?g2q91 ?g3q91 ?gTq91 ?gRq91 ?hvq91 ?htxq91 ?hptq91 ?hpfq91 ?hwiq91 ?hwnq91 ?hhnq91 ?hdwq91 ?hdlq91 ?hGlq91 ?hxq91 ?d1q91 ?d2q91 ?d3q91 ?hwq91 ?hsgq91 ?e0q91 ?e1q91 ?e2q91 ?e3q91 ?e4q91 ?e5q91 ?e6q91 ?e7q91 ?e8q91 ?e9q91 ?e10q91 ?e11q91 ?e12q91 ?e13q91 ?e14q91 ?e15q91 ?e16q91 ?e17q91 ?e18q91 ?e19q91 ?q0q91 ?q1q91 ?q2q91 ?q3q91 ?q4q91 ?q5q91 ?q6q91 (fun tp'q9 parts'q9 vs'q9 nl'q9 n'q9 i'q9 ti'q9 Gs'q9 C'q9 tb'q9 ub'q9 h'q9 tk'q9 gs'q9 hv'q9 htx'q9 hpt'q9 hpf'q9 hT'q9 hC'q9 G'q9 b1q9 b2q9 F'q9 N'q9 l1q9 => ?_); (case k1q91 => k_asm); (case k2q91 => k_asm); (case k3q91 => k_asm); (case k4q91 => k_asm); (case k5q91 => k_asm); (case kKq91 => first | exact rfl | assumption); (case t1q91 => (repeat (first | exact Mine.Take.head | apply Mine.Take.tail))); (case t2q91 => (repeat (first | exact Mine.Take.head | apply Mine.Take.tail))); (case t3q91 => (repeat (first | exact Mine.Take.head | apply Mine.Take.tail))); (case t4q91 => (repeat (first | exact Mine.Take.head | apply Mine.Take.tail))); (case t5q91 => (repeat (first | exact Mine.Take.head | apply Mine.Take.tail))); (case t6q91 => (repeat (first | exact Mine.Take.head | apply Mine.Take.tail))); (case t7q91 => (repeat (first | exact Mine.Take.head | apply Mine.Take.tail))); (case kdq91 => ktr_room); (case kuq91 => ktr_units); (case g1q91 => assumption); (case g2q91 => assumption); (case g3q91 => assumption); (case gTq91 => assumption); (case gRq91 => (repeat (first | exact fun _ hq9 => hq9 | refine Mine.sub_cons ?_))); (case hvq91 => assumption); (case htxq91 => assumption); (case hptq91 => assumption); (case hpfq91 => assumption); (case hwiq91 => first | exact rfl | assumption); (case hwnq91 => omega); (case hhnq91 => omega); (case hdwq91 => assumption); (case hdlq91 => omega); (case hGlq91 => omega); (case hxq91 => assumption); (case d1q91 => assumption); (case d2q91 => assumption); (case d3q91 => assumption); (case hwq91 => first | assumption | omega); (case hsgq91 => assumption); (case e0q91 => (first | with_reducible assumption | exact Ne.symm (by with_reducible assumption) | k_ne)); (case e1q91 => (first | with_reducible assumption | exact Ne.symm (by with_reducible assumption) | k_ne)); (case e2q91 => (first | with_reducible assumption | exact Ne.symm (by with_reducible assumption) | k_ne)); (case e3q91 => (first | with_reducible assumption | exact Ne.symm (by with_reducible assumption) | k_ne)); (case e4q91 => (first | with_reducible assumption | exact Ne.symm (by with_reducible assumption) | k_ne)); (case e5q91 => (first | with_reducible assumption | exact Ne.symm (by with_reducible assumption) | k_ne)); (case e6q91 => (first | with_reducible assumption | exact Ne.symm (by with_reducible assumption) | k_ne)); (case e7q91 => (first | with_reducible assumption | exact Ne.symm (by with_reducible assumption) | k_ne)); (case e8q91 => (first | with_reducible assumption | exact Ne.symm (by with_reducible assumption) | k_ne)); (case e9q91 => (first | with_reducible assumption | exact Ne.symm (by with_reducible assumption) | k_ne)); (case e10q91 => (first | with_reducible assumption | exact Ne.symm (by with_reducible assumption) | k_ne)); (case e11q91 => (first | with_reducible assumption | exact Ne.symm (by with_reducible assumption) | k_ne)); (case e12q91 => (first | with_reducible assumption | exact Ne.symm (by with_reducible assumption) | k_ne)); (case e13q91 => (first | with_reducible assumption | exact Ne.symm (by with_reducible assumption) | k_ne)); (case e14q91 => (first | with_reducible assumption | exact Ne.symm (by with_reducible assumption) | k_ne)); (case e15q91 => (first | with_reducible assumption | exact Ne.symm (by with_reducible assumption) | k_ne)); (case e16q91 => (first | with_reducible assumption | exact Ne.symm (by with_reducible assumption) | k_ne)); (case e17q91 => (first | with_reducible assumption | exact Ne.symm (by with_reducible assumption) | k_ne)); (case e18q91 => (first | with_reducible assumption | exact Ne.symm (by with_reducible assumption) | k_ne)); (case e19q91 => (first | with_reducible assumption | exact Ne.symm (by with_reducible assumption) | k_ne)); (case q0q91 => k_all); (case q1q91 => k_all); (case q2q91 => k_all); (case q3q91 => k_all); (case q4q91 => k_all); (case q5q91 => k_all); (case q6q91 => k_all)); k_lt l1q9)
  k_with "L92" => (k_here; (with_reducible show wpAny _ _ (call (Value.builtin _) [Value.ref _, _]) _ _ _); k_dflt (refine' append_K ?k1q92 ?k2q92 ?k3q92 ?_ ?zq92; (case k1q92 => k_asm); (case k2q92 => k_asm); (case k3q92 => k_upd); (case zq92 => (rw [sizeLine_eq]; omega))); intro h'q9 F'q9 N'q9)
  trivial
local macro_rules | `(tactic| walk_at "call ref") => `(tactic| k_extra "L91")

local macro_rules | `(tactic| walk_at "call builtin:list.append") => `(tactic| k_extra "L92")

theorem law_t3 {w : World} {p : Program} {loose : List Str} {mean : ExcName → Option Value} {mg mb : Str → Option Value}
  (base h₀ : Heap) (L fa : Addr) (cd : Value) (m : Str → Option Value) (s : Shared) (Q : Flow → Shared → Prop) (E : Value → Shared → Prop)
  (B : Below callerA base [] h₀) (X : (Mine.hd.heap_39 w.params).In h₀) (T : Top p loose mean mg mb h₀) (hE : PassesOwn (model PySem.Challenge.rw_pm0058_01.row.prog w) (callerA.deeper (lawEnv L fa cd)) (lawEnv L fa cd) E)
  (x : Str) (tw tt : Tok) (I f df ln ac da bg rw : Addr) (oI oc : Obj) (ft : FToks) (sig : Str) (vl vb vr : Array Value) (nl nb nr n : Nat) (i : Int) (ti tk : Tok) (tb ub : Array Value) (parts : List Part) (tl : List (Addr × Obj)) (wdn hdn : Nat) (done C : List Str) (Gs : List (List Str))
  (F : Fr h₀ L s.heap (fun y => if y = Str.ofString "word" then some (.str x tw) else if y = Str.ofString "text" then some (.str (tx done) tt) else if y = Str.ofString "begins" then some (.ref bg) else if y = Str.ofString "maker" then some (.ref f) else m y)) (N : News h₀ L s.heap ((I, oI) :: (f, instObj 94 df) :: (df, fmtDict w ft (wdn : Int) sig ln ac) :: (ln, listOf (vl) (nl)) :: (ac, accObj 178 da (refs parts) n) :: (da, initDict w i ti tk) :: (140, tabObj tb) :: (147, tabObj ub) :: (bg, listOf (vb) (nb)) :: (rw, listOf vr nr) :: (L + 1, oc) :: tl)) (hg : AllBare s.gens) (ht : TabOk lenPos tb) (hu2 : TabOk strPos ub) (hT : ∀ q ∈ parts, q.obj ∈ tl) (hv : FInv wdn hdn done Gs C i) (htx : Txts vl (Gs.map tx)) (hpt : parts.map (·.txt) = C) (hpf : ∀ q ∈ parts, q.fws = Str.ofString " ") (hwn : wdn ≤ 100) (hhn : hdn ≤ 100) (hdw : ∀ y ∈ done, Wd y) (hdl : done.length ≤ 13) (hGl : Gs.length ≤ done.length) (hx : Wd x) (d1 : x.length + 1 ∣ hdn) (d2 : x.length + 1 ∣ wdn) (d3 : ∀ y ∈ done, x.length + 1 ∣ y.length + 1) (hw : x.length + 1 ≤ wdn) (hsg : sig = Str.ofString " " ∨ sig = Str.ofString ";, \t") (hvb : vb.size = done.length) (htl9 : (tx done).length ≤ 300) (hxl : x.length ≤ 17) (e0x1 : f ≠ df) (e0x2 : f ≠ ln) (e0x3 : f ≠ ac) (e0x4 : f ≠ da) (e0x5 : f ≠ 140) (e0x6 : f ≠ 147) (e0x7 : f ≠ bg) (e0x8 : f ≠ rw) (e0x9 : f ≠ L + 1) (e1x2 : df ≠ ln) (e1x3 : df ≠ ac) (e1x4 : df ≠ da) (e1x5 : df ≠ 140) (e1x6 : df ≠ 147) (e1x7 : df ≠ bg) (e1x8 : df ≠ rw) (e1x9 : df ≠ L + 1) (e2x3 : ln ≠ ac) (e2x4 : ln ≠ da) (e2x5 : ln ≠ 140) (e2x6 : ln ≠ 147) (e2x7 : ln ≠ bg) (e2x8 : ln ≠ rw) (e2x9 : ln ≠ L + 1) (e3x4 : ac ≠ da) (e3x5 : ac ≠ 140) (e3x6 : ac ≠ 147) (e3x7 : ac ≠ bg) (e3x8 : ac ≠ rw) (e3x9 : ac ≠ L + 1) (e4x5 : da ≠ 140) (e4x6 : da ≠ 147) (e4x7 : da ≠ bg) (e4x8 : da ≠ rw) (e4x9 : da ≠ L + 1) (e5x7 : 140 ≠ bg) (e5x8 : 140 ≠ rw) (e5x9 : 140 ≠ L + 1) (e6x7 : 147 ≠ bg) (e6x8 : 147 ≠ rw) (e6x9 : 147 ≠ L + 1) (e7x8 : bg ≠ rw) (e7x9 : bg ≠ L + 1) (e8x9 : rw ≠ L + 1) (i0 : I ≠ f) (i1 : I ≠ df) (i2 : I ≠ ln) (i3 : I ≠ ac) (i4 : I ≠ da) (i5 : I ≠ 140) (i6 : I ≠ 147) (i7 : I ≠ bg) (i8 : I ≠ rw) (i9 : I ≠ L + 1) (r0 : ∀ p ∈ tl, p.1 ≠ f) (r1 : ∀ p ∈ tl, p.1 ≠ df) (r2 : ∀ p ∈ tl, p.1 ≠ ln) (r3 : ∀ p ∈ tl, p.1 ≠ ac) (r4 : ∀ p ∈ tl, p.1 ≠ da) (r5 : ∀ p ∈ tl, p.1 ≠ 140) (r6 : ∀ p ∈ tl, p.1 ≠ 147) (r7 : ∀ p ∈ tl, p.1 ≠ bg) (r8 : ∀ p ∈ tl, p.1 ≠ rw) (r9 : ∀ p ∈ tl, p.1 ≠ L + 1) (rI : ∀ p ∈ tl, p.1 ≠ I)
  (hret : ∀ (tp : Addr) (ty9 : Tok) parts' vl' nl' n' i' ti' Gs' C' (tb' ub' : Array Value) (z : Str) (tz tq : Tok) m₂ h' tk' gs', FInv wdn hdn (done ++ [x]) Gs' C' i' → Txts vl' (Gs'.map tx) → parts'.map (·.txt) = C' → (∀ q ∈ parts', q.fws = Str.ofString " ") → (∀ q ∈ parts', q.obj ∈ (tp, tupObj " " x ty9 tw) :: tl) → C' ≠ [] → AllBare gs' → TabOk lenPos tb' → TabOk strPos ub' → z = tx (done ++ [x]) → Fr h₀ L h' m₂ → But [Str.ofString "word", Str.ofString "text"] (fun y => if y = Str.ofString "begins" then some (.ref bg) else if y = Str.ofString "maker" then some (.ref f) else m y) m₂ → m₂ (Str.ofString "text") = some (.str z tz) → News h₀ L h' ((I, oI) :: (f, instObj 94 df) :: (df, fmtDict w ft (wdn : Int) sig ln ac) :: (ln, listOf (vl') (nl')) :: (ac, accObj 178 da (refs parts') n') :: (da, initDict w i' ti' tk) :: (140, tabObj tb') :: (147, tabObj ub') :: (bg, listOf (vb.push (.int (((tx done).length : Nat) : Int) tq)) (nb + 1)) :: (rw, listOf vr nr) :: (L + 1, oc) :: (tp, tupObj " " x ty9 tw) :: tl) → (∀ p ∈ (I, oI) :: (bg, listOf vb nb) :: (rw, listOf vr nr) :: (L + 1, oc) :: tl, p.1 < tp) → Q .next { s with heap := h', gens := gs', toks := tk' }) :
  wpAny (model PySem.Challenge.rw_pm0058_01.row.prog w) (callerA.deeper (lawEnv L fa cd)) (execs (bodyAt 18) (lawEnv L fa cd)) Q E s := by
  revert X
  k_fill
  intro X
  unfold lawEnv lawScope at hE ⊢
  unfold bodyAt stmtAt lawBody
  unfold lawLit at hE ⊢
  dsimp only [List.getElem?_cons_zero, List.getElem?_cons_succ, Option.getD_some] at hE ⊢
  k_steps
  all_goals exact hret _ _ _ _ _ _ _ _ _ _ _ _ _ _ _ _ _ _ _ (by assumption) (by assumption) (by assumption) (by assumption) (by assumption) (by assumption) (by assumption) (by assumption) (by assumption) (tx_snoc _ _) (by k_asm) (by (repeat (first | exact Mine.But.refl | exact Mine.But.over | refine' Mine.But.set (by decide) ?_ | refine' Mine.But.sub (by decide) ?_))) rfl (by ktr_rel) (by k_all)
end
section
section
variable {prog : Program} {w : World} {A : Around} {E : Value → Shared → Prop} {s : Shared} {h₀ : Heap} {L I : Addr} {m : Str → Option Value} {news : List (Addr × Obj)}
theorem pyIter_listL {l : Addr} {items : Array Value} {n : Nat} {Q : Value → Shared → Prop} (F : Fr h₀ L s.heap m) (N : News h₀ L s.heap news) (hm : (l, listOf items n) ∈ news)
    (h : ∀ (I : Addr) o h', (∀ p ∈ news, p.1 < I) → LItOk l 0 o → Fr h₀ L h' m → News h₀ L h' ((I, o) :: news) → Q (.ref I) { s with heap := h' }) : wpAny (model prog w) A (pyIter (.ref l)) Q E s :=
  wpAny_pyIter_list (News.isList N hm) (h _ _ _ (fun p hp => Heap.lt_size (N p hp).1) ⟨rfl, rfl⟩ (F.push _) (N.push F _))
/-- a loop over a list of the ledger -/
theorem forLoop_list {env : Env} {x : Str} {px : Pos} {body orelse : List Stmt} {l : Addr} {items : Array Value} {nl : Nat} {Q : Flow → Shared → Prop} {o : Obj} (hh : A.handled = none)
    (F : Fr h₀ env.locals s.heap m) (N : News h₀ env.locals s.heap ((I, o) :: news)) (hI : ∀ p ∈ news, p.1 ≠ I) (ho : LItOk l 0 o)
    (hx : env.kindOf x = some .local) (hp : (env.scope.kind == .class || (env.scope.kind == .module && env.locals != env.globals)) = false) (hE : PassesOwn (model prog w) A env E)
    (J : Nat → (Str → Option Value) → List (Addr × Obj) → Array GenState → Prop) (h0 : J 0 m news s.gens) (hJl : ∀ i m' n' g', J i m' n' g' → (l, listOf items nl) ∈ n')
    (step : ∀ i v m₁ news₁ o₁ h₁ gs₁ tk₁, i < items.size → items[i]? = some v → J i m₁ news₁ gs₁ → (∀ p ∈ news₁, p.1 ≠ I) → LItOk l (i + 1) o₁ → Fr h₀ env.locals h₁ (fun y => if y = x then some v else m₁ y) → News h₀ env.locals h₁ ((I, o₁) :: news₁) →
      wpAny (model prog w) A (execs body env) (TurnPost h₀ env.locals I s (J (i + 1)) o₁ Q) E { s with heap := h₁, gens := gs₁, toks := tk₁ })
    (done : ∀ m₁ news₁ h₁ gs₁ tk₁, J items.size m₁ news₁ gs₁ → Fr h₀ env.locals h₁ m₁ → News h₀ env.locals h₁ news₁ → wpAny (model prog w) A (execs orelse env) Q E { s with heap := h₁, gens := gs₁, toks := tk₁ }) :
    codeAny (model prog w) A (.forLoop (.Name x px) (.ref I) body orelse env) (fun r s' => match r with | .ok f => Q f s' | .error e => cameBackBy (model prog w) A env E e s') s := by
  refine codeAny_forLoop
    (fun k s' => ∃ h gs tk m' news' i o', s' = { s with heap := h, gens := gs, toks := tk } ∧ Fr h₀ env.locals h m' ∧ News h₀ env.locals h ((I, o') :: news') ∧ (∀ p ∈ news', p.1 ≠ I) ∧ LItOk l i o' ∧ J i m' news' gs ∧ i ≤ items.size ∧ k = items.size + 1 - i) ?_ (items.size + 1)
    ⟨s.heap, s.gens, s.toks, m, news, 0, o, rfl, F, N, hI, ho, h0, Nat.zero_le _, rfl⟩
  rintro k s' ⟨h, gs, tk, m', news', i, o', rfl, F', N', hI', ho', hJ, hi, rfl⟩
  have hl : h.IsList l items := News.isList N' (List.mem_cons_of_mem _ (hJl _ _ _ _ hJ))
  have hit : h.IsListIter I l i := ⟨o', N'.get List.mem_cons_self, ho'.1, ho'.2⟩
  by_cases hlt : i < items.size
  · have hv : items[i]? = some items[i] := Array.getElem?_eq_getElem hlt
    refine wpAny_pyNext_list_item hit hl hv fun h₁ hit₁ hs₁ => ?_
    obtain ⟨o₁, hg₁, hc₁, hd₁⟩ := hit₁
    obtain ⟨F₁, N₁⟩ := ledger_same (s := { s with heap := h }) F' N' hI' hs₁ hg₁
    refine wpAny_assign_Name (wpAny_storeName_local hx F₁.ns (fun h₂ hn₂ hs₂ => ?_) hp)
    refine wpAny_mono (wpAny_passesOwn hE (step i _ m' news' o₁ h₂ gs _ hlt hv hJ hI' ⟨hc₁, hd₁⟩ (F₁.set hn₂ hs₂) (N₁.set hs₂))) (fun f s₃ h₃ => ?_) fun _ _ e => e
    cases f with
    | next =>
      obtain ⟨m₂, news₂, F₃, N₃, hI₃, hJ₃, h₃, gs₃, tk₃, rfl⟩ := h₃
      exact ⟨items.size + 1 - (i + 1), by omega, h₃, gs₃, tk₃, m₂, news₂, i + 1, o₁, rfl, F₃, N₃, hI₃, ⟨hc₁, hd₁⟩, hJ₃, hlt, rfl⟩
    | cont =>
      obtain ⟨m₂, news₂, F₃, N₃, hI₃, hJ₃, h₃, gs₃, tk₃, rfl⟩ := h₃
      exact ⟨items.size + 1 - (i + 1), by omega, h₃, gs₃, tk₃, m₂, news₂, i + 1, o₁, rfl, F₃, N₃, hI₃, ⟨hc₁, hd₁⟩, hJ₃, hlt, rfl⟩
    | brk => exact h₃
    | ret v => exact h₃
  · have hin : i = items.size := by omega
    subst hin
    refine wpAny_pyNext_list_end hh hit hl (Array.getElem?_size ..) fun h₁ hs₁ => ?_
    obtain ⟨F₁, N₁⟩ := ledger_gone (s := { s with heap := h }) F' N' hI' hs₁
    exact wpAny_passesOwn hE (done m' news' h₁ gs tk hJ F₁ N₁)
end
theorem flat_len {wd : Nat} (hw : 1 ≤ wd) : ∀ {Rs : List (List Str)}, (∀ V ∈ Rs, clen V = wd) → Rs.length ≤ Rs.flatten.length
  | [], _ => Nat.le_refl _
  | V :: Rs, h => by
    have ih := flat_len hw (Rs := Rs) fun U hU => h U (List.mem_cons_of_mem _ hU)
    have h1 := h V List.mem_cons_self
    have : 1 ≤ V.length := by
      cases V with
      | nil => rw [clen_nil] at h1; omega
      | cons _ _ => simp
    rw [List.flatten_cons, List.length_append, List.length_cons]
    omega
theorem FInv.glen {wd hd : Nat} {done C : List Str} {Gs : List (List Str)} {i : Int} (h : FInv wd hd done Gs C i) (hw : 1 ≤ wd) (hC : C ≠ []) : Gs.length ≤ done.length := by
  cases Gs with
  | nil => exact Nat.zero_le _
  | cons G0 Rs =>
    have h1 := flat_len hw (h.later G0 Rs rfl).2.2.2.2
    have h2 : 1 ≤ C.length := List.length_pos_iff.mpr hC
    have h3 := congrArg List.length h.all
    rw [List.flatten_cons, List.length_append, List.length_append] at h3
    rw [List.length_cons]
    omega
end
section
structure J3 {w : World} (f df ln ac da bg rw L : Addr) (oc : Obj) (ft : FToks) (sig : Str) (wdn hdn : Nat) (vr : Array Value) (nr : Nat) (R : List Str) (tk : Tok) (m : Str → Option Value) (k : Nat) (m' : Str → Option Value) (n' : List (Addr × Obj)) (g' : Array GenState) (vl vb : Array Value) (nl nb n : Nat) (i : Int) (ti : Tok) (tb ub : Array Value) (parts : List Part) (tl : List (Addr × Obj)) (C : List Str) (Gs : List (List Str)) : Prop where
  off : ∀ y, y ∉ [Str.ofString "word", Str.ofString "text"] → m' y = (fun y => if y = Str.ofString "begins" then some (.ref bg) else if y = Str.ofString "maker" then some (.ref f) else m y) y
  text : ∃ tt, m' (Str.ofString "text") = some (.str (tx (R.take k)) tt)
  hn : n' = (f, instObj 94 df) :: (df, fmtDict w ft (wdn : Int) sig ln ac) :: (ln, listOf (vl) (nl)) :: (ac, accObj 178 da (refs parts) n) :: (da, initDict w i ti tk) :: (140, tabObj tb) :: (147, tabObj ub) :: (bg, listOf (vb) (nb)) :: (rw, listOf vr nr) :: (L + 1, oc) :: tl
  hg : AllBare g'
  ht : TabOk lenPos tb
  hu : TabOk strPos ub
  hT : ∀ q ∈ parts, q.obj ∈ tl
  hv : FInv wdn hdn (R.take k) Gs C i
  htx : Txts vl (Gs.map tx)
  hpt : parts.map (·.txt) = C
  hpf : ∀ q ∈ parts, q.fws = Str.ofString " "
  hGl : Gs.length ≤ k
  hb : vb.size = k
  hbs : ∀ j, j < k → ∃ t, vb[j]? = some (.int ((clen (R.take j) : Nat) : Int) t)
  hC : k = 0 ∨ C ≠ []
  r0 : ∀ p ∈ tl, p.1 ≠ f
  r1 : ∀ p ∈ tl, p.1 ≠ df
  r2 : ∀ p ∈ tl, p.1 ≠ ln
  r3 : ∀ p ∈ tl, p.1 ≠ ac
  r4 : ∀ p ∈ tl, p.1 ≠ da
  r5 : ∀ p ∈ tl, p.1 ≠ 140
  r6 : ∀ p ∈ tl, p.1 ≠ 147
  r7 : ∀ p ∈ tl, p.1 ≠ bg
  r8 : ∀ p ∈ tl, p.1 ≠ rw
  r9 : ∀ p ∈ tl, p.1 ≠ L + 1

theorem law_loop3 {w : World} {p : Program} {loose : List Str} {mean : ExcName → Option Value} {mg mb : Str → Option Value}
  (base h₀ : Heap) (L fa : Addr) (cd : Value) (m : Str → Option Value) (s : Shared) (Q : Flow → Shared → Prop) (E : Value → Shared → Prop)
  (B : Below callerA base [] h₀) (X : (Mine.hd.heap_39 w.params).In h₀) (T : Top p loose mean mg mb h₀) (hE : PassesOwn (model PySem.Challenge.rw_pm0058_01.row.prog w) (callerA.deeper (lawEnv L fa cd)) (lawEnv L fa cd) E)
  (I f df ln ac da bg rw : Addr) (oI oc : Obj) (ft : FToks) (sig : Str) (vr : Array Value) (nr n : Nat) (ti tk tt : Tok) (tb ub : Array Value) (wdn hdn : Nat) (R : List Str) (orelse : List Stmt) (px : Pos)
  (F : Fr h₀ L s.heap (fun y => if y = Str.ofString "text" then some (.str (Str.ofString "") tt) else (fun y => if y = Str.ofString "begins" then some (.ref bg) else if y = Str.ofString "maker" then some (.ref f) else m y) y))
  (N : News h₀ L s.heap ((I, oI) :: (f, instObj 94 df) :: (df, fmtDict w ft (wdn : Int) sig ln ac) :: (ln, listOf (#[]) (0)) :: (ac, accObj 178 da (refs []) n) :: (da, initDict w (hdn : Int) ti tk) :: (140, tabObj tb) :: (147, tabObj ub) :: (bg, listOf (#[]) (0)) :: (rw, listOf vr nr) :: (L + 1, oc) :: [])) (hok : LItOk rw 0 oI) (hg : AllBare s.gens) (ht : TabOk lenPos tb) (hu2 : TabOk strPos ub) (hR : Txts vr R) (hRl : R.length ≤ 13) (hw : ∀ x ∈ R, Wd x) (hwn : wdn ≤ 100) (hhn : hdn ≤ 100)
  (hdv : ∀ x ∈ R, x.length + 1 ∣ hdn ∧ x.length + 1 ∣ wdn ∧ x.length + 1 ≤ wdn) (hds : R.Pairwise fun a b => b.length + 1 ∣ a.length + 1) (hsg : sig = Str.ofString " " ∨ sig = Str.ofString ";, \t") (e0x1 : f ≠ df) (e0x2 : f ≠ ln) (e0x3 : f ≠ ac) (e0x4 : f ≠ da) (e0x5 : f ≠ 140) (e0x6 : f ≠ 147) (e0x7 : f ≠ bg) (e0x8 : f ≠ rw) (e0x9 : f ≠ L + 1) (e1x2 : df ≠ ln) (e1x3 : df ≠ ac) (e1x4 : df ≠ da) (e1x5 : df ≠ 140) (e1x6 : df ≠ 147) (e1x7 : df ≠ bg) (e1x8 : df ≠ rw) (e1x9 : df ≠ L + 1) (e2x3 : ln ≠ ac) (e2x4 : ln ≠ da) (e2x5 : ln ≠ 140) (e2x6 : ln ≠ 147) (e2x7 : ln ≠ bg) (e2x8 : ln ≠ rw) (e2x9 : ln ≠ L + 1) (e3x4 : ac ≠ da) (e3x5 : ac ≠ 140) (e3x6 : ac ≠ 147) (e3x7 : ac ≠ bg) (e3x8 : ac ≠ rw) (e3x9 : ac ≠ L + 1) (e4x5 : da ≠ 140) (e4x6 : da ≠ 147) (e4x7 : da ≠ bg) (e4x8 : da ≠ rw) (e4x9 : da ≠ L + 1) (e5x7 : 140 ≠ bg) (e5x8 : 140 ≠ rw) (e5x9 : 140 ≠ L + 1) (e6x7 : 147 ≠ bg) (e6x8 : 147 ≠ rw) (e6x9 : 147 ≠ L + 1) (e7x8 : bg ≠ rw) (e7x9 : bg ≠ L + 1) (e8x9 : rw ≠ L + 1) (i0 : I ≠ f) (i1 : I ≠ df) (i2 : I ≠ ln) (i3 : I ≠ ac) (i4 : I ≠ da) (i5 : I ≠ 140) (i6 : I ≠ 147) (i7 : I ≠ bg) (i8 : I ≠ rw) (i9 : I ≠ L + 1)
  (hret : ∀ m' n' g' h' tk' vl vb nl nb n i ti tb ub parts tl C Gs, @J3 w f df ln ac da bg rw L oc ft sig wdn hdn vr nr R tk m  R.length m' n' g' vl vb nl nb n i ti tb ub parts tl C Gs → Fr h₀ L h' m' → News h₀ L h' n' → wpAny (model PySem.Challenge.rw_pm0058_01.row.prog w) (callerA.deeper (lawEnv L fa cd)) (execs orelse (lawEnv L fa cd)) Q E { s with heap := h', gens := g', toks := tk' }) :
  codeAny (model PySem.Challenge.rw_pm0058_01.row.prog w) (callerA.deeper (lawEnv L fa cd)) (.forLoop (.Name (Str.ofString "word") px) (.ref I) (bodyAt 18) orelse (lawEnv L fa cd)) (fun r s' => match r with | .ok f => Q f s' | .error e => cameBackBy (model PySem.Challenge.rw_pm0058_01.row.prog w) (callerA.deeper (lawEnv L fa cd)) (lawEnv L fa cd) E e s') s := by
  refine forLoop_list (env := lawEnv L fa cd) (l := rw) (items := vr) (nl := nr) rfl F N (by k_all) hok rfl rfl hE (fun k m' n' g' => (∀ p ∈ n', p.1 ≠ I) ∧ ∃ vl vb nl nb n i ti tb ub parts tl C Gs, @J3 w f df ln ac da bg rw L oc ft sig wdn hdn vr nr R tk m  k m' n' g' vl vb nl nb n i ti tb ub parts tl C Gs)
    ⟨by k_all, #[], #[], 0, 0, n, (hdn : Int), ti, tb, ub, [], [], [], [], ⟨fun y hy => if_neg (fun q => hy (by rw [q]; simp)), ⟨tt, by rw [List.take_zero, tx_nil]; rfl⟩, rfl, hg, ht, hu2, List.forall_mem_nil _, FInv.start wdn hdn, .nil, rfl, List.forall_mem_nil _, Nat.le_refl _, rfl, fun j hj => absurd hj (Nat.not_lt_zero _), .inl rfl, List.forall_mem_nil _, List.forall_mem_nil _, List.forall_mem_nil _, List.forall_mem_nil _, List.forall_mem_nil _, List.forall_mem_nil _, List.forall_mem_nil _, List.forall_mem_nil _, List.forall_mem_nil _, List.forall_mem_nil _⟩⟩
    (fun k m' n' g' hJ => by obtain ⟨_, vl, vb, nl, nb, n, i, ti, tb, ub, parts, tl, C, Gs, j⟩ := hJ; rw [j.hn]; k_mem) (fun k v m₁ news₁ o₁ h₁ gs₁ tk₁ hk hvk hJ hI₁ hok₁ F₁ N₁ => ?_) (fun m₁ news₁ h₁ gs₁ tk₁ hJ F₁ N₁ => ?_)
  · obtain ⟨g1, vl, vb, nl, nb, n, i, ti, tb, ub, parts, tl, C, Gs, j⟩ := hJ
    have hkR : k < R.length := by rw [← hR.size]; exact hk
    obtain ⟨tw, hy⟩ := hR.at k hk
    rw [hvk] at hy
    cases hy
    have hmem : R.getD k "" ∈ R := by
      rw [List.getD_eq_getElem?_getD, List.getElem?_eq_getElem hkR]
      exact List.getElem_mem hkR
    have htake := take_succ_getD hkR
    have hpw : (R.take (k + 1)).Pairwise fun a b => b.length + 1 ∣ a.length + 1 := hds.sublist (List.take_sublist _ _)
    rw [htake, List.pairwise_append] at hpw
    have d3 : ∀ y ∈ R.take k, (R.getD k "").length + 1 ∣ y.length + 1 := fun y hy => hpw.2.2 y hy _ (List.mem_singleton.mpr rfl)
    have hdl : (R.take k).length = k := by rw [List.length_take]; omega
    obtain ⟨tt9, htt⟩ := j.text
    have hmap : m₁ = fun y => if y = Str.ofString "text" then some (.str (tx (R.take k)) tt9) else over [Str.ofString "word"] m₁ (fun y => if y = Str.ofString "begins" then some (.ref bg) else if y = Str.ofString "maker" then some (.ref f) else m y) y := by
      funext y
      by_cases e1 : y = Str.ofString "text"
      · rw [if_pos e1, e1, htt]
      · rw [if_neg e1]
        by_cases e2 : y ∈ [Str.ofString "word"]
        · rw [over_on e2]
        · rw [over_off e2]
          refine j.off y fun q => ?_
          simp only [List.mem_cons, List.not_mem_nil, or_false] at e2 q
          rcases q with q | q
          · exact e2 q
          · exact e1 q
    have hmap2 : (fun y => if y = Str.ofString "word" then some (.str (R.getD k "") tw) else m₁ y) = fun y => if y = Str.ofString "word" then some (.str (R.getD k "") tw) else if y = Str.ofString "text" then some (.str (tx (R.take k)) tt9) else (fun y => if y = Str.ofString "begins" then some (.ref bg) else if y = Str.ofString "maker" then some (.ref f) else m y) y := by
      funext y
      by_cases e1 : y = Str.ofString "word"
      · rw [if_pos e1, if_pos e1]
      · rw [if_neg e1, if_neg e1]
        by_cases e2 : y = Str.ofString "text"
        · rw [if_pos e2, e2, htt]
        · rw [if_neg e2]
          refine j.off y fun q => ?_
          simp only [List.mem_cons, List.not_mem_nil, or_false] at q
          rcases q with q | q
          · exact e1 q
          · exact e2 q
    rw [hmap2] at F₁
    have hn9 := j.hn
    subst hn9
    have rI : ∀ p ∈ tl, p.1 ≠ I := fun p hp => g1 p (by repeat (first | exact hp | refine List.mem_cons_of_mem _ ?_))
    have hlen9 : (tx (R.take k)).length ≤ 300 := by
      rw [tx_length]
      have : ∀ W : List Str, (∀ x ∈ W, Wd x) → clen W ≤ 18 * W.length := fun W => by
        induction W with
        | nil => exact fun _ => Nat.zero_le _
        | cons x W ih =>
          intro h
          rw [clen_cons, List.length_cons]
          have := ih fun y hy => h y (List.mem_cons_of_mem _ hy)
          have := (h x List.mem_cons_self).short
          omega
      have := this (R.take k) fun x hx => hw x (List.mem_of_mem_take hx)
      omega
    have hdiv := hdv _ hmem
    refine law_t3 base h₀ L fa cd m _ _ E B X T hE (R.getD k "") tw tt9 I f df ln ac da bg rw o₁ oc ft sig vl vb vr nl nb nr n i ti tk tb ub parts tl wdn hdn (R.take k) C Gs F₁ N₁ j.hg j.ht j.hu j.hT j.hv j.htx j.hpt j.hpf hwn hhn (fun y hy => hw y (List.mem_of_mem_take hy)) (by omega) (by have := j.hGl; omega) (hw _ hmem) hdiv.1 hdiv.2.1 d3 hdiv.2.2 hsg (by rw [j.hb, hdl]) hlen9 (hw _ hmem).short e0x1 e0x2 e0x3 e0x4 e0x5 e0x6 e0x7 e0x8 e0x9 e1x2 e1x3 e1x4 e1x5 e1x6 e1x7 e1x8 e1x9 e2x3 e2x4 e2x5 e2x6 e2x7 e2x8 e2x9 e3x4 e3x5 e3x6 e3x7 e3x8 e3x9 e4x5 e4x6 e4x7 e4x8 e4x9 e5x7 e5x8 e5x9 e6x7 e6x8 e6x9 e7x8 e7x9 e8x9 i0 i1 i2 i3 i4 i5 i6 i7 i8 i9 j.r0 j.r1 j.r2 j.r3 j.r4 j.r5 j.r6 j.r7 j.r8 j.r9 rI ?_
    intro tp ty9 parts' vl' nl' n' i' ti' Gs' C' tb' ub' z tz tq m₂ h' tk' gs' hv' htx' hpt' hpf' hT' hC' G' b1 b2 hz F' hbut htz N' l1
    have hGl' : Gs'.length ≤ k + 1 := by
      have := hv'.glen (by have := hdiv.2.2; omega) hC'
      rw [List.length_append, hdl] at this
      exact this
    k_lt l1
    have z0 : tp ≠ f := tup_ne N' (by k_mem) (by k_mem) (by first | (intro h9; exact absurd (Value.type.inj h9) (by decide)) | (intro h9; cases h9))
    have z1 : tp ≠ df := tup_ne N' (by k_mem) (by k_mem) (by first | (intro h9; exact absurd (Value.type.inj h9) (by decide)) | (intro h9; cases h9))
    have z2 : tp ≠ ln := tup_ne N' (by k_mem) (by k_mem) (by first | (intro h9; exact absurd (Value.type.inj h9) (by decide)) | (intro h9; cases h9))
    have z3 : tp ≠ ac := tup_ne N' (by k_mem) (by k_mem) (by first | (intro h9; exact absurd (Value.type.inj h9) (by decide)) | (intro h9; cases h9))
    have z4 : tp ≠ da := tup_ne N' (by k_mem) (by k_mem) (by first | (intro h9; exact absurd (Value.type.inj h9) (by decide)) | (intro h9; cases h9))
    have z5 : tp ≠ 140 := tup_ne N' (by k_mem) (by k_mem) (by first | (intro h9; exact absurd (Value.type.inj h9) (by decide)) | (intro h9; cases h9))
    have z6 : tp ≠ 147 := tup_ne N' (by k_mem) (by k_mem) (by first | (intro h9; exact absurd (Value.type.inj h9) (by decide)) | (intro h9; cases h9))
    have rj0 := j.r0
    have rj1 := j.r1
    have rj2 := j.r2
    have rj3 := j.r3
    have rj4 := j.r4
    have rj5 := j.r5
    have rj6 := j.r6
    have rj7 := j.r7
    have rj8 := j.r8
    have rj9 := j.r9
    refine TurnPost.next F' N' (by k_all) ⟨by k_all, _, _, _, _, _, _, _, _, _, _, _, _, _, ⟨hbut.same, ⟨tz, by rw [htz, hz, htake]⟩, rfl, G', b1, b2, hT', by rw [htake]; exact hv', htx', hpt', hpf', hGl', by rw [Array.size_push, j.hb], fun q hq => ?_, .inr hC', by k_all, by k_all, by k_all, by k_all, by k_all, by k_all, by k_all, by k_all, by k_all, by k_all⟩⟩
    by_cases e : q < k
    · obtain ⟨t8, h8⟩ := j.hbs q e
      exact ⟨t8, by rw [Array.getElem?_push_lt (by rw [j.hb]; exact e)]; simpa [Array.getElem?_eq_getElem (show q < vb.size by rw [j.hb]; exact e)] using h8⟩
    · have e2 : q = k := by omega
      subst e2
      refine ⟨tq, ?_⟩
      rw [show q = vb.size from j.hb.symm, Array.getElem?_push_size, tx_length, j.hb]
  · obtain ⟨_, vl, vb, nl, nb, n, i, ti, tb, ub, parts, tl, C, Gs, j⟩ := hJ
    rw [hR.size] at j
    exact hret m₁ news₁ gs₁ h₁ tk₁ vl vb nl nb n i ti tb ub parts tl C Gs j F₁ N₁
end
section
theorem lines21 : True := by
  k_with "L93" => (k_here; k_dflt (refine' Mine.pyIter_listL ?k1q93 ?k2q93 ?k3q93 (fun I'q9 o'q9 h'q9 l1q9 hokq9 F'q9 N'q9 => ?_); (case k1q93 => k_asm); (case k2q93 => k_asm); (case k3q93 => k_mem)); k_lt l1q9)
  k_with "L94" => (k_here; (with_reducible show wpAny _ _ (call (Value.ref 94) _) _ _ _); k_dflt (refine' Mine.fmt_new_told _ _ _ _ _ _ _ _ _ _ _ _ _ _ _ _ _ _ _ _ _ _ _ _ _ ?k1q94 ?k2q94 ?k3q94 ?k4q94 ?k5q94 ?kKq94 ?kdq94 ?kuq94 (fun f'q9 df'q9 ln'q9 ac'q9 da'q9 n'q9 tk'q9 ft'q9 h'q9 tq'q9 l1q9 l2q9 l3q9 l4q9 l5q9 F'q9 N'q9 => ?_); (case k1q94 => k_asm); (case k2q94 => k_asm); (case k3q94 => k_asm); (case k4q94 => k_asm); (case k5q94 => k_asm); (case kKq94 => first | exact rfl | assumption); (case kdq94 => ktr_room); (case kuq94 => ktr_units)); k_lt l1q9)
  trivial
local macro_rules | `(tactic| walk_at "exec For Name Name cons nil") => `(tactic| k_extra "L51")
local macro_rules | `(tactic| walk_at "pyIter ref") => `(tactic| k_extra "L93")
local macro_rules | `(tactic| walk_at "call ref") => `(tactic| k_extra "L94")

theorem law_l3 {w : World} {p : Program} {loose : List Str} {mean : ExcName → Option Value} {mg mb : Str → Option Value}
  (base h₀ : Heap) (L fa : Addr) (cd : Value) (m : Str → Option Value) (s : Shared) (Q : Flow → Shared → Prop) (E : Value → Shared → Prop) (rest : List Stmt)
  (B : Below callerA base [] h₀) (X : (Mine.hd.heap_39 w.params).In h₀) (T : Top p loose mean mg mb h₀) (hE : PassesOwn (model PySem.Challenge.rw_pm0058_01.row.prog w) (callerA.deeper (lawEnv L fa cd)) (lawEnv L fa cd) E)
  (oc : Obj) (rw : Addr) (vr : Array Value) (nr : Nat) (R : List Str) (hdn wdn : Nat) (sig : Str) (t5 t6 t8 : Tok)
  (F : Fr h₀ L s.heap (fun y => if y = Str.ofString "row" then some (.ref rw) else if y = Str.ofString "head" then some (.int (hdn : Int) t6) else if y = Str.ofString "width" then some (.int (wdn : Int) t5) else if y = Str.ofString "signs" then some (.str sig t8) else m y)) (N : News h₀ L s.heap ((rw, listOf vr nr) :: (L + 1, oc) :: (140, tabObj #[]) :: (147, tabObj #[]) :: [])) (hgs : AllBare s.gens) (c1 : rw ≠ L + 1) (c5 : 140 ≠ L + 1) (c6 : 147 ≠ L + 1) (hR : Txts vr R) (hRl : R.length ≤ 13) (hw : ∀ x ∈ R, Wd x) (hwn : wdn ≤ 100) (hhn : hdn ≤ 100) (hdv : ∀ x ∈ R, x.length + 1 ∣ hdn ∧ x.length + 1 ∣ wdn ∧ x.length + 1 ≤ wdn) (hds : R.Pairwise fun a b => b.length + 1 ∣ a.length + 1) (hsg : sig = Str.ofString " " ∨ sig = Str.ofString ";, \t")
  (hret : ∀ f df ln ac da bg ft tk (M : Str → Option Value) m' n' g' h' tq vl vb nl nb n i ti tb ub parts tl C Gs, (∀ y, y ∉ [Str.ofString "maker", Str.ofString "begins", Str.ofString "text", Str.ofString "word"] → M y = (fun y => if y = Str.ofString "row" then some (.ref rw) else if y = Str.ofString "head" then some (.int (hdn : Int) t6) else if y = Str.ofString "width" then some (.int (wdn : Int) t5) else if y = Str.ofString "signs" then some (.str sig t8) else m y) y) → @J3 w f df ln ac da bg rw L oc ft sig wdn hdn vr nr R tk M R.length m' n' g' vl vb nl nb n i ti tb ub parts tl C Gs → Fr h₀ L h' m' → News h₀ L h' n' → f ≠ df → f ≠ ln → f ≠ ac → f ≠ da → f ≠ 140 → f ≠ 147 → df ≠ ln → df ≠ ac → df ≠ da → df ≠ 140 → df ≠ 147 → ln ≠ ac → ln ≠ da → ln ≠ 140 → ln ≠ 147 → ac ≠ da → ac ≠ 140 → ac ≠ 147 → da ≠ 140 → da ≠ 147 → wpAny (model PySem.Challenge.rw_pm0058_01.row.prog w) (callerA.deeper (lawEnv L fa cd)) (execs rest (lawEnv L fa cd)) Q E { s with heap := h', gens := g', toks := tq }) :
  wpAny (model PySem.Challenge.rw_pm0058_01.row.prog w) (callerA.deeper (lawEnv L fa cd)) (execs (stmtAt 15 :: stmtAt 16 :: stmtAt 17 :: stmtAt 18 :: rest) (lawEnv L fa cd)) Q E s := by
  have c7 : 140 ≠ rw := Ne.symm (list_ne_tab N (by k_mem) (by k_mem))
  have c8 : 147 ≠ rw := Ne.symm (list_ne_tab N (by k_mem) (by k_mem))
  revert X
  k_fill
  intro X
  unfold lawEnv lawScope at hret hE ⊢
  unfold stmtAt lawBody
  unfold lawLit at hret hE ⊢
  dsimp only [List.getElem?_cons_zero, List.getElem?_cons_succ, Option.getD_some] at hret hE ⊢

  k_steps
  refine' law_loop3 base h₀ L fa cd (fun y => if y = Str.ofString "row" then some (.ref rw) else if y = Str.ofString "head" then some (.int (hdn : Int) t6) else if y = Str.ofString "width" then some (.int (wdn : Int) t5) else if y = Str.ofString "signs" then some (.str sig t8) else m y) _ _ _ B X T hE _ _ _ _ _ _ _ rw _ oc _ sig vr nr _ _ _ _ _ _ wdn hdn R _ _ ?cF ?cN ?ck ?cg ?ct ?cu hR hRl hw hwn hhn hdv hds hsg ?e0x1 ?e0x2 ?e0x3 ?e0x4 ?e0x5 ?e0x6 ?e0x7 ?e0x8 ?e0x9 ?e1x2 ?e1x3 ?e1x4 ?e1x5 ?e1x6 ?e1x7 ?e1x8 ?e1x9 ?e2x3 ?e2x4 ?e2x5 ?e2x6 ?e2x7 ?e2x8 ?e2x9 ?e3x4 ?e3x5 ?e3x6 ?e3x7 ?e3x8 ?e3x9 ?e4x5 ?e4x6 ?e4x7 ?e4x8 ?e4x9 ?e5x7 ?e5x8 ?e5x9 ?e6x7 ?e6x8 ?e6x9 ?e7x8 ?e7x9 ?e8x9 ?i0 ?i1 ?i2 ?i3 ?i4 ?i5 ?i6 ?i7 ?i8 ?i9 (fun m' n' g' h' tk' vl vb nl nb n i ti tb ub parts tl C Gs hj F' N' => ?_)
  (case cF => k_asm)
  (case cN => ktr_rel)
  (case ck => assumption)
  (case cg => assumption)
  (case ct => exact Or.inl rfl)
  (case cu => exact Or.inl rfl)
  (case e0x1 => (first | with_reducible assumption | exact Ne.symm (by with_reducible assumption) | k_ne))
  (case e0x2 => (first | with_reducible assumption | exact Ne.symm (by with_reducible assumption) | k_ne))
  (case e0x3 => (first | with_reducible assumption | exact Ne.symm (by with_reducible assumption) | k_ne))
  (case e0x4 => (first | with_reducible assumption | exact Ne.symm (by with_reducible assumption) | k_ne))
  (case e0x5 => (first | with_reducible assumption | exact Ne.symm (by with_reducible assumption) | k_ne))
  (case e0x6 => (first | with_reducible assumption | exact Ne.symm (by with_reducible assumption) | k_ne))
  (case e0x7 => (first | with_reducible assumption | exact Ne.symm (by with_reducible assumption) | k_ne))
  (case e0x8 => (first | with_reducible assumption | exact Ne.symm (by with_reducible assumption) | k_ne))
  (case e0x9 => (first | with_reducible assumption | exact Ne.symm (by with_reducible assumption) | k_ne))
  (case e1x2 => (first | with_reducible assumption | exact Ne.symm (by with_reducible assumption) | k_ne))
  (case e1x3 => (first | with_reducible assumption | exact Ne.symm (by with_reducible assumption) | k_ne))
  (case e1x4 => (first | with_reducible assumption | exact Ne.symm (by with_reducible assumption) | k_ne))
  (case e1x5 => (first | with_reducible assumption | exact Ne.symm (by with_reducible assumption) | k_ne))
  (case e1x6 => (first | with_reducible assumption | exact Ne.symm (by with_reducible assumption) | k_ne))
  (case e1x7 => (first | with_reducible assumption | exact Ne.symm (by with_reducible assumption) | k_ne))
  (case e1x8 => (first | with_reducible assumption | exact Ne.symm (by with_reducible assumption) | k_ne))
  (case e1x9 => (first | with_reducible assumption | exact Ne.symm (by with_reducible assumption) | k_ne))
  (case e2x3 => (first | with_reducible assumption | exact Ne.symm (by with_reducible assumption) | k_ne))
  (case e2x4 => (first | with_reducible assumption | exact Ne.symm (by with_reducible assumption) | k_ne))
  (case e2x5 => (first | with_reducible assumption | exact Ne.symm (by with_reducible assumption) | k_ne))
  (case e2x6 => (first | with_reducible assumption | exact Ne.symm (by with_reducible assumption) | k_ne))
  (case e2x7 => (first | with_reducible assumption | exact Ne.symm (by with_reducible assumption) | k_ne))
  (case e2x8 => (first | with_reducible assumption | exact Ne.symm (by with_reducible assumption) | k_ne))
  (case e2x9 => (first | with_reducible assumption | exact Ne.symm (by with_reducible assumption) | k_ne))
  (case e3x4 => (first | with_reducible assumption | exact Ne.symm (by with_reducible assumption) | k_ne))
  (case e3x5 => (first | with_reducible assumption | exact Ne.symm (by with_reducible assumption) | k_ne))
  (case e3x6 => (first | with_reducible assumption | exact Ne.symm (by with_reducible assumption) | k_ne))
  (case e3x7 => (first | with_reducible assumption | exact Ne.symm (by with_reducible assumption) | k_ne))
  (case e3x8 => (first | with_reducible assumption | exact Ne.symm (by with_reducible assumption) | k_ne))
  (case e3x9 => (first | with_reducible assumption | exact Ne.symm (by with_reducible assumption) | k_ne))
  (case e4x5 => (first | with_reducible assumption | exact Ne.symm (by with_reducible assumption) | k_ne))
  (case e4x6 => (first | with_reducible assumption | exact Ne.symm (by with_reducible assumption) | k_ne))
  (case e4x7 => (first | with_reducible assumption | exact Ne.symm (by with_reducible assumption) | k_ne))
  (case e4x8 => (first | with_reducible assumption | exact Ne.symm (by with_reducible assumption) | k_ne))
  (case e4x9 => (first | with_reducible assumption | exact Ne.symm (by with_reducible assumption) | k_ne))
  (case e5x7 => (first | with_reducible assumption | exact Ne.symm (by with_reducible assumption) | k_ne))
  (case e5x8 => (first | with_reducible assumption | exact Ne.symm (by with_reducible assumption) | k_ne))
  (case e5x9 => (first | with_reducible assumption | exact Ne.symm (by with_reducible assumption) | k_ne))
  (case e6x7 => (first | with_reducible assumption | exact Ne.symm (by with_reducible assumption) | k_ne))
  (case e6x8 => (first | with_reducible assumption | exact Ne.symm (by with_reducible assumption) | k_ne))
  (case e6x9 => (first | with_reducible assumption | exact Ne.symm (by with_reducible assumption) | k_ne))
  (case e7x8 => (first | with_reducible assumption | exact Ne.symm (by with_reducible assumption) | k_ne))
  (case e7x9 => (first | with_reducible assumption | exact Ne.symm (by with_reducible assumption) | k_ne))
  (case e8x9 => (first | with_reducible assumption | exact Ne.symm (by with_reducible assumption) | k_ne))
  (case i0 => (first | with_reducible assumption | exact Ne.symm (by with_reducible assumption) | k_ne))
  (case i1 => (first | with_reducible assumption | exact Ne.symm (by with_reducible assumption) | k_ne))
  (case i2 => (first | with_reducible assumption | exact Ne.symm (by with_reducible assumption) | k_ne))
  (case i3 => (first | with_reducible assumption | exact Ne.symm (by with_reducible assumption) | k_ne))
  (case i4 => (first | with_reducible assumption | exact Ne.symm (by with_reducible assumption) | k_ne))
  (case i5 => (first | with_reducible assumption | exact Ne.symm (by with_reducible assumption) | k_ne))
  (case i6 => (first | with_reducible assumption | exact Ne.symm (by with_reducible assumption) | k_ne))
  (case i7 => (first | with_reducible assumption | exact Ne.symm (by with_reducible assumption) | k_ne))
  (case i8 => (first | with_reducible assumption | exact Ne.symm (by with_reducible assumption) | k_ne))
  (case i9 => (first | with_reducible assumption | exact Ne.symm (by with_reducible assumption) | k_ne))
  k_steps
  exact hret _ _ _ _ _ _ _ _ _ _ _ _ _ _ _ _ _ _ _ _ _ _ _ _ _ _ _ (fun y hy => rfl) hj F' N' (by (first | with_reducible assumption | exact Ne.symm (by with_reducible assumption) | k_ne)) (by (first | with_reducible assumption | exact Ne.symm (by with_reducible assumption) | k_ne)) (by (first | with_reducible assumption | exact Ne.symm (by with_reducible assumption) | k_ne)) (by (first | with_reducible assumption | exact Ne.symm (by with_reducible assumption) | k_ne)) (by (first | with_reducible assumption | exact Ne.symm (by with_reducible assumption) | k_ne)) (by (first | with_reducible assumption | exact Ne.symm (by with_reducible assumption) | k_ne)) (by (first | with_reducible assumption | exact Ne.symm (by with_reducible assumption) | k_ne)) (by (first | with_reducible assumption | exact Ne.symm (by with_reducible assumption) | k_ne)) (by (first | with_reducible assumption | exact Ne.symm (by with_reducible assumption) | k_ne)) (by (first | with_reducible assumption | exact Ne.symm (by with_reducible assumption) | k_ne)) (by (first | with_reducible assumption | exact Ne.symm (by with_reducible assumption) | k_ne)) (by (first | with_reducible assumption | exact Ne.symm (by with_reducible assumption) | k_ne)) (by (first | with_reducible assumption | exact Ne.symm (by with_reducible assumption) | k_ne)) (by (first | with_reducible assumption | exact Ne.symm (by with_reducible assumption) | k_ne)) (by (first | with_reducible assumption | exact Ne.symm (by with_reducible assumption) | k_ne)) (by (first | with_reducible assumption | exact Ne.symm (by with_reducible assumption) | k_ne)) (by (first | with_reducible assumption | exact Ne.symm (by with_reducible assumption) | k_ne)) (by (first | with_reducible assumption | exact Ne.symm (by with_reducible assumption) | k_ne)) (by (first | with_reducible assumption | exact Ne.symm (by with_reducible assumption) | k_ne)) (by (first | with_reducible assumption | exact Ne.symm (by with_reducible assumption) | k_ne))
end
section
/-- the rows of the whole: the first (at most b0), the others of wd but for the last -/
structure FEnd (wd b0 : Nat) (R P0 : List Str) (Rs : List (List Str)) : Prop where
  all : R = P0 ++ Rs.flatten
  only : Rs = [] → clen P0 ≤ b0
  first : Rs ≠ [] → clen P0 = b0
  full : ∀ k, k + 1 < Rs.length → clen (Rs.getD k []) = wd
  last : ∀ k, k < Rs.length → Rs.getD k [] ≠ [] ∧ clen (Rs.getD k []) ≤ wd
theorem FInv.fend {wd hd : Nat} {R C : List Str} {Gs : List (List Str)} {i : Int} (h : FInv wd hd R Gs C i) (hC : C ≠ []) (hw : 1 ≤ wd) : ∃ P0 Rs, Gs ++ [C] = P0 :: Rs ∧ FEnd wd (wd - hd) R P0 Rs := by
  cases Gs with
  | nil =>
    refine ⟨C, [], rfl, ⟨by rw [h.all]; simp, fun _ => ?_, fun q => absurd rfl q, fun k hk => absurd hk (by simp), fun k hk => absurd hk (by simp)⟩⟩
    have := (h.first rfl).2 hC
    omega
  | cons G0 Rs =>
    have q := h.later G0 Rs rfl
    refine ⟨G0, Rs ++ [C], rfl, ⟨by rw [h.all]; simp, fun e => absurd e (by simp), fun _ => q.2.2.2.1, fun k hk => ?_, fun k hk => ?_⟩⟩
    · have hk' : k < Rs.length := by simpa using hk
      rw [List.getD_eq_getElem?_getD, List.getElem?_append_left hk', List.getElem?_eq_getElem hk', Option.getD_some]
      exact q.2.2.2.2 _ (List.getElem_mem hk')
    · by_cases hk' : k < Rs.length
      · rw [List.getD_eq_getElem?_getD, List.getElem?_append_left hk', List.getElem?_eq_getElem hk', Option.getD_some]
        have e := q.2.2.2.2 _ (List.getElem_mem hk')
        refine ⟨fun c => ?_, Nat.le_of_eq e⟩
        rw [c, clen_nil] at e
        omega
      · have e : k = Rs.length := by simp at hk; omega
        subst e
        rw [List.getD_eq_getElem?_getD, List.getElem?_append_right (Nat.le_refl _), Nat.sub_self]
        exact ⟨hC, q.2.2.1⟩
/-- the first k rows behind the first -/
noncomputable def pre (P0 : List Str) (Rs : List (List Str)) (k : Nat) : List Str := P0 ++ (Rs.take k).flatten
theorem take_flat {Rs : List (List Str)} {k : Nat} (h : k < Rs.length) : (Rs.take (k + 1)).flatten = (Rs.take k).flatten ++ Rs.getD k [] := by
  rw [List.take_add_one, List.getElem?_eq_getElem h, List.getD_eq_getElem?_getD, List.getElem?_eq_getElem h, Option.getD_some]
  show (Rs.take k ++ [Rs[k]]).flatten = _
  rw [List.flatten_append, List.flatten_cons, List.flatten_nil, List.append_nil]
theorem pre_succ {P0 : List Str} {Rs : List (List Str)} {k : Nat} (h : k < Rs.length) : pre P0 Rs (k + 1) = pre P0 Rs k ++ Rs.getD k [] := by
  unfold pre
  rw [take_flat h, List.append_assoc]
section
variable {wd b0 : Nat} {R P0 : List Str} {Rs : List (List Str)}
theorem FEnd.split (h : FEnd wd b0 R P0 Rs) (k : Nat) : R = pre P0 Rs k ++ (Rs.drop k).flatten := by
  rw [h.all]
  unfold pre
  rw [List.append_assoc, ← List.flatten_append, List.take_append_drop]
theorem FEnd.split1 (h : FEnd wd b0 R P0 Rs) {k : Nat} (hk : k < Rs.length) : R = pre P0 Rs k ++ (Rs.getD k [] ++ (Rs.drop (k + 1)).flatten) := by
  rw [h.split (k + 1), pre_succ hk, List.append_assoc]
theorem FEnd.at (h : FEnd wd b0 R P0 Rs) : ∀ k, k < Rs.length → clen (pre P0 Rs k) = b0 + k * wd
  | 0, hk => by
    have : Rs ≠ [] := fun e => by rw [e] at hk; exact absurd hk (Nat.not_lt_zero _)
    show clen (P0 ++ []) = _
    rw [List.append_nil, h.first this]
    omega
  | k + 1, hk => by
    rw [pre_succ (by omega), clen_append, h.at k (by omega), h.full k hk, Nat.succ_mul]
    omega
theorem FEnd.ends (h : FEnd wd b0 R P0 Rs) {k : Nat} (hk : k = Rs.length) : clen R ≤ b0 + k * wd := by
  cases k with
  | zero =>
    have e : Rs = [] := List.length_eq_zero_iff.mp hk.symm
    have h1 := h.all
    have h2 := h.only e
    rw [e] at h1
    simp at h1
    rw [h1]
    omega
  | succ j =>
    have hj : j < Rs.length := by omega
    have h1 := h.split (j + 1)
    rw [hk, List.drop_length] at h1
    simp only [List.flatten_nil, List.append_nil] at h1
    rw [← hk] at h1
    rw [h1, pre_succ hj, clen_append, h.at j hj, Nat.succ_mul]
    have := (h.last j hj).2
    omega
theorem clen_take_lt {W : List Str} : ∀ {i j : Nat}, i < j → i < W.length → clen (W.take i) < clen (W.take j) := by
  induction W with
  | nil => intro i j _ h; exact absurd h (Nat.not_lt_zero _)
  | cons x W ih =>
    intro i j hij hi
    cases j with
    | zero => omega
    | succ j =>
      cases i with
      | zero => rw [List.take_zero, List.take_succ_cons, clen_cons, clen_nil]; omega
      | succ i =>
        rw [List.take_succ_cons, List.take_succ_cons, clen_cons, clen_cons]
        have := ih (i := i) (j := j) (by omega) (by simpa using hi)
        omega
theorem clen_take_le {W : List Str} {i j : Nat} (h : i ≤ j) : clen (W.take i) ≤ clen (W.take j) := by
  by_cases e : i < j
  · by_cases q : i < W.length
    · exact Nat.le_of_lt (clen_take_lt e q)
    · rw [List.take_of_length_le (by omega), List.take_of_length_le (by omega)]
      exact Nat.le_refl _
  · have : i = j := by omega
    rw [this]
    exact Nat.le_refl _
end
end
section
section
variable {wd b0 : Nat} {R P0 : List Str} {Rs : List (List Str)}
theorem FEnd.take_pre (h : FEnd wd b0 R P0 Rs) (k : Nat) : R.take (pre P0 Rs k).length = pre P0 Rs k := by
  conv => lhs; rw [h.split k]
  exact List.take_left
theorem FEnd.len_pre (h : FEnd wd b0 R P0 Rs) (k : Nat) : (pre P0 Rs k).length ≤ R.length := by
  have := congrArg List.length (h.split k)
  rw [List.length_append] at this
  omega
theorem FEnd.pre_all (h : FEnd wd b0 R P0 Rs) {k : Nat} (hk : k = Rs.length) : pre P0 Rs k = R := by
  have := h.split k
  rw [hk, List.drop_length] at this
  rw [hk]
  simpa using this.symm
theorem FEnd.cut (h : FEnd wd b0 R P0 Rs) (hl : R.length ≤ 1000) {k : Nat} (hk : k ≤ Rs.length) : Bis (fun j => ((clen (R.take j) : Nat) : Int) < ((b0 + k * wd : Nat) : Int)) (pre P0 Rs k).length R.length := by
  refine ⟨h.len_pre k, fun j hj => ?_, fun j h1 h2 => ?_, hl⟩
  · have hjR : j < R.length := Nat.lt_of_lt_of_le hj (h.len_pre k)
    have h3 := clen_take_lt (W := R) hj hjR
    rw [h.take_pre k] at h3
    rcases Nat.lt_or_ge k Rs.length with q | q
    · rw [← h.at k q]
      exact Int.ofNat_lt.mpr h3
    · have e : k = Rs.length := by omega
      have := h.ends e
      rw [h.pre_all e] at h3
      exact Int.ofNat_lt.mpr (by omega)
  · have q : k < Rs.length := by
      rcases Nat.lt_or_ge k Rs.length with q | q
      · exact q
      · have e : k = Rs.length := by omega
        rw [h.pre_all e] at h1
        omega
    rw [← h.at k q]
    have h3 := clen_take_le (W := R) h1
    rw [h.take_pre k] at h3
    intro c
    have := Int.ofNat_lt.mp c
    omega
theorem FEnd.cutr (h : FEnd wd b0 R P0 Rs) (hl : R.length ≤ 1000) {k : Nat} (hk : k < Rs.length) : Bis (fun j => ((clen (R.take j) : Nat) : Int) ≤ ((b0 + k * wd : Nat) : Int)) ((pre P0 Rs k).length + 1) R.length := by
  have hlt : (pre P0 Rs k).length < R.length := by
    have h1 := congrArg List.length (h.split1 hk)
    rw [List.length_append, List.length_append] at h1
    have := List.length_pos_iff.mpr (h.last k hk).1
    omega
  refine ⟨hlt, fun j hj => ?_, fun j h1 h2 => ?_, hl⟩
  · rw [← h.at k hk]
    have h3 := clen_take_le (W := R) (show j ≤ (pre P0 Rs k).length by omega)
    rw [h.take_pre k] at h3
    exact Int.ofNat_le.mpr h3
  · rw [← h.at k hk]
    have h3 := clen_take_lt (W := R) (show (pre P0 Rs k).length < j by omega) hlt
    rw [h.take_pre k] at h3
    intro c
    have := Int.ofNat_le.mp c
    omega
theorem FEnd.row0 (h : FEnd wd b0 R P0 Rs) : R.take P0.length = P0 := by
  have := h.take_pre 0
  simpa [pre] using this
theorem FEnd.rowk (h : FEnd wd b0 R P0 Rs) {k : Nat} (hk : k < Rs.length) : (R.drop (pre P0 Rs k).length).take ((pre P0 Rs (k + 1)).length - (pre P0 Rs k).length) = Rs.getD k [] := by
  conv => lhs; rw [h.split1 hk]
  rw [List.drop_left, pre_succ hk, List.length_append, Nat.add_sub_cancel_left, List.take_left]
theorem FEnd.text0 (h : FEnd wd b0 R P0 Rs) : Txt.slice (tx R) none (some ((b0 : Nat) : Int)) = tx P0 := by
  rw [h.all]
  refine slice_head ?_
  by_cases e : Rs = []
  · exact .inr ⟨by rw [e]; rfl, Int.ofNat_le.mpr (h.only e)⟩
  · exact .inl (by rw [h.first e])
theorem FEnd.textk (h : FEnd wd b0 R P0 Rs) {k : Nat} (hk : k < Rs.length) : Txt.slice (tx R) (some ((b0 + k * wd : Nat) : Int)) (some (((b0 + k * wd : Nat) : Int) + (wd : Int))) = tx (Rs.getD k []) := by
  conv => lhs; rw [h.split1 hk]
  have h1 := h.at k hk
  refine slice_mid (by rw [h1]) ?_
  rcases Nat.lt_or_ge (k + 1) Rs.length with q | q
  · exact .inl (by rw [h1, h.full k q])
  · refine .inr ⟨?_, ?_⟩
    · rw [List.drop_of_length_le q]
      rfl
    · have := (h.last k hk).2
      rw [h1]
      omega
theorem FEnd.more (h : FEnd wd b0 R P0 Rs) {k : Nat} (hk : k < Rs.length) : b0 + k * wd < clen R := by
  have h1 := h.at k hk
  have h2 := congrArg clen (h.split1 hk)
  rw [clen_append, clen_append, h1] at h2
  have := clen_pos (h.last k hk).1
  omega
end
end
section
theorem Txts.run {vs : Array Value} {R : List Str} (h : Txts vs R) {a b : Nat} (hab : a ≤ b) (hb : b ≤ R.length) : Txts (slicePick vs (some (a : Int)) (some (b : Int)) none) ((R.drop a).take (b - a)) := by
  rw [slicePick_run vs a b (by rw [h.size]; exact hb) hab]
  obtain ⟨l, rfl, rfl⟩ := h
  exact ⟨(l.drop a).take (b - a), by simp [strValues, List.map_take, List.map_drop], by simp [List.map_take, List.map_drop]⟩
theorem Txts.upto {vs : Array Value} {R : List Str} (h : Txts vs R) {b : Nat} (hb : b ≤ R.length) : Txts (slicePick vs none (some (b : Int)) none) (R.take b) := by
  rw [slicePick_upto vs b (by rw [h.size]; exact hb)]
  obtain ⟨l, rfl, rfl⟩ := h
  exact ⟨l.take b, by simp [strValues, List.map_take], by simp [List.map_take]⟩
section
variable {prog : Program} {w : World} {A : Around} {E : Value → Shared → Prop} {s : Shared} {h₀ : Heap} {L rw : Addr} {m : Str → Option Value} {news : List (Addr × Obj)} {vs : Array Value} {R : List Str} {n a b : Nat} {t1 t2 : Tok} {Q : Value → Shared → Prop} {value slice : Expr}
theorem row_mid (F : Fr h₀ L s.heap m) (N : News h₀ L s.heap news) (hm : (rw, listOf vs n) ∈ news) (ht : Txts vs R) (hab : a ≤ b) (hb : b ≤ R.length) (hR : R.length ≤ 1000)
    (h : ∀ (D : Addr) vs' h', (∀ p ∈ news, p.1 < D) → Txts vs' ((R.drop a).take (b - a)) → Fr h₀ L h' m → News h₀ L h' ((D, listOf vs' 0) :: news) → Q (.ref D) { s with heap := h' })
    (hsub : subscripted slice false (.ref rw) (.ref s.heap.objs.size) = operate [.ref s.heap.objs.size, .ref rw] (getItem (.ref rw) (.ref s.heap.objs.size))) (htmp : ∀ r, letTemporaryGo value (.ref rw) r = pure ()) :
    wpAny (model prog w) A (subscriptTail value slice (.ref rw) (.ref s.heap.objs.size)) Q E { s with heap := s.heap.push { cls := .type "slice", data := .fields #[.int (a : Int) t1, .int (b : Int) t2, .none] } } :=
  slice_list F N (News.isList N hm) (.int _ _) (.int _ _) (fun h' F' N' => h _ _ h' (fun p hp => Nat.lt_succ_of_lt (Heap.lt_size (N p hp).1)) (ht.run hab hb) F' N') hsub htmp (by rw [ht.size, sizeLine_eq]; omega)
theorem row_upto (F : Fr h₀ L s.heap m) (N : News h₀ L s.heap news) (hm : (rw, listOf vs n) ∈ news) (ht : Txts vs R) (hb : b ≤ R.length) (hR : R.length ≤ 1000)
    (h : ∀ (D : Addr) vs' h', (∀ p ∈ news, p.1 < D) → Txts vs' (R.take b) → Fr h₀ L h' m → News h₀ L h' ((D, listOf vs' 0) :: news) → Q (.ref D) { s with heap := h' })
    (hsub : subscripted slice false (.ref rw) (.ref s.heap.objs.size) = operate [.ref s.heap.objs.size, .ref rw] (getItem (.ref rw) (.ref s.heap.objs.size))) (htmp : ∀ r, letTemporaryGo value (.ref rw) r = pure ()) :
    wpAny (model prog w) A (subscriptTail value slice (.ref rw) (.ref s.heap.objs.size)) Q E { s with heap := s.heap.push { cls := .type "slice", data := .fields #[.none, .int (b : Int) t2, .none] } } :=
  slice_list F N (News.isList N hm) .none (.int _ _) (fun h' F' N' => h _ _ h' (fun p hp => Nat.lt_succ_of_lt (Heap.lt_size (N p hp).1)) (ht.upto hb) F' N') hsub htmp (by rw [ht.size, sizeLine_eq]; omega)
end
theorem max_room {prog : Program} {w : World} {A : Around} {E : Value → Shared → Prop} {s : Shared} {h₀ : Heap} {L : Addr} {m : Str → Option Value} {news : List (Addr × Obj)} {a b : Nat} {t u : Tok} {Q : Value → Shared → Prop} (hh : A.handled = none) (F : Fr h₀ L s.heap m) (N : News h₀ L s.heap news)
    (h : ∀ t' h' tk, Fr h₀ L h' m → News h₀ L h' news → Q (.int ((a - b : Nat) : Int) t') { s with heap := h', toks := tk }) : wpAny (model prog w) A (call (.builtin "max") [.int ((a : Int) - (b : Int)) t, .int 0 u]) Q E s :=
  max_two_N hh F N fun h' tk F' N' => by
    have e : (if (0 : Int) > (a : Int) - (b : Int) then (0 : Int) else (a : Int) - (b : Int)) = ((a - b : Nat) : Int) := by split <;> omega
    rw [e]
    exact h _ h' tk F' N'
open LCg LCt in
theorem comp_map17 {prog : Program} {w : World} {A : Around} {s : Shared} {h₀ : Heap} {L : Addr} {m : Str → Option Value} {news : List (Addr × Obj)} {env : Env} {elt : Expr} {x : Str} {scope : Scope} {cl : List (Str × Addr)} {ax : Addr} {its : Array Value} {xs : List Str} {Fin : List Value → List (Addr × Obj) → Prop} (ht : Txts its xs) (f : Str → Str) (hS : SrcAt h₀ ax its news) (h17 : ∀ y ∈ xs, y.length ≤ 17)
    (turn : ∀ (y : Str) t I oI C oC D oD m₂ h tk (E' : Value → Shared → Prop) (Qy : Value → Shared → Prop), y.length ≤ 17 → NsObj oC m₂ → m₂ x = some (.str y t) → Fr h₀ L h m → News h₀ L h ((I, oI) :: (C, oC) :: (D, oD) :: news) →
      (∀ t' tk', Qy (.str (f y) t') { s with heap := h, toks := tk' }) → wpAny (model prog w) A (eval elt (compEnvC scope cl C env)) Qy E' { s with heap := h, toks := tk })
    (fin : ∀ ys, Txts ys.toArray (xs.map f) → Fin ys news) : ∀ k i ys, i + k = its.size → Txts ys.toArray ((xs.take i).map f) →
      CompRest prog w A h₀ L m env elt x scope cl s (SrcAt h₀ ax its) (fun i v => its[i]? = some v) Fin k i ys news :=
  comp_map ht f hS (fun y t I oI C oC D oD m₂ h tk E' Qy hy => turn y t I oI C oC D oD m₂ h tk E' Qy (h17 y hy)) fin
theorem ne_same {prog : Program} {w : World} {A : Around} {E : Value → Shared → Prop} {s : Shared} {x y : Str} {t u : Tok} {Q : Value → Shared → Prop} (e : x = y) (h : Q (.bool false) s) : wpAny (model prog w) A (compareOp .NotEq (.str x t) (.str y u)) Q E s := by
  refine ne_str ?_
  rw [e]
  simpa using h
end
theorem lines22 : True := by
  k_with "L104" => (k_here; (with_reducible show wpAny _ _ (call (Value.builtin "str.join") [Value.str _ _, Value.ref _]) _ _ _); k_dflt (refine' Mine.join_txts ?k1q104 ?k2q104 ?k3q104 ?k4q104 ?_; (case k1q104 => k_asm); (case k2q104 => k_mem); (case k3q104 => assumption); (case k4q104 => assumption)); intro t'q9 tk'q9)
  trivial
local macro_rules | `(tactic| walk_at "call builtin:str.join") => `(tactic| k_extra "L104")
section
theorem lines23 : True := by
  k_with "L95" => (k_here; k_dflt ((show wpAny _ _ (call (Value.ref 218) [Value.ref _, Value.int _ _]) _ _ _); refine' Mine.bisl_use ?k1q95 ?k2q95 ?k3q95 ?k4q95 ?k5q95 ?kKq95 ?t1q95 ?kdq95 ?kuq95 ?h1q95 ?h2q95 ?h3q95 ?_; (case k1q95 => k_asm); (case k2q95 => k_asm); (case k3q95 => k_asm); (case k4q95 => k_asm); (case k5q95 => k_asm); (case kKq95 => first | exact rfl | assumption); (case t1q95 => (repeat (first | exact Mine.Take.head | apply Mine.Take.tail))); (case kdq95 => ktr_room); (case kuq95 => ktr_units); (case h1q95 => assumption); (case h2q95 => assumption); (case h3q95 => assumption)); intro t'q9 h'q9 tk'q9 F'q9 N'q9)
  k_with "L96" => (k_here; k_dflt ((show wpAny _ _ (call (Value.ref 200) [Value.ref _, Value.int _ _]) _ _ _); refine' Mine.bisr_use ?k1q96 ?k2q96 ?k3q96 ?k4q96 ?k5q96 ?kKq96 ?t1q96 ?kdq96 ?kuq96 ?h1q96 ?h2q96 ?h3q96 ?_; (case k1q96 => k_asm); (case k2q96 => k_asm); (case k3q96 => k_asm); (case k4q96 => k_asm); (case k5q96 => k_asm); (case kKq96 => first | exact rfl | assumption); (case t1q96 => (repeat (first | exact Mine.Take.head | apply Mine.Take.tail))); (case kdq96 => ktr_room); (case kuq96 => ktr_units); (case h1q96 => assumption); (case h2q96 => assumption); (case h3q96 => assumption)); intro t'q9 h'q9 tk'q9 F'q9 N'q9)
  k_with "L97" => (k_here; (with_reducible show wpAny _ _ (eval (Expr.Name (Str.ofString "max") _) _) _ _ _); k_dflt (refine' nameX_B (v := Value.builtin "max") ?k1q97 ?k2q97 ?k3q97 ?k4q97 Mine.boot_max ?k5q97 ?_; (case k1q97 => k_asm); (case k2q97 => k_asm); (case k3q97 => k_asm); (case k4q97 => first | k_is | exact rfl); (case k5q97 => decide)))
  k_with "L98" => (k_here; k_dflt (refine' Mine.max_room rfl ?k1q98 ?k2q98 (fun t'q9 h'q9 tk'q9 F'q9 N'q9 => ?_); (case k1q98 => k_asm); (case k2q98 => k_asm)))
  k_with "L99" => (k_here; (with_reducible show wpAny _ _ (subscriptTail _ (PySem.Expr.Slice _ _ none _) (Value.ref _) (Value.ref _)) _ _ _); k_dflt (first | refine' Mine.row_mid ?k1q99 ?k2q99 ?k3q99 ?k4q99 ?k5q99 ?k6q99 ?k7q99 (fun D'q9 vs'q9 h'q9 l1q9 htx'q9 F'q9 N'q9 => ?_) ?k8q99 ?k9q99 | refine' Mine.row_upto ?k1q99 ?k2q99 ?k3q99 ?k4q99 ?k6q99 ?k7q99 (fun D'q9 vs'q9 h'q9 l1q9 htx'q9 F'q9 N'q9 => ?_) ?k8q99 ?k9q99); (case k1q99 => k_asm); (case k2q99 => k_asm); (case k3q99 => k_mem); (case k4q99 => assumption); (try (case k5q99 => assumption)); (case k6q99 => assumption); (case k7q99 => omega); (case k8q99 => with_unfolding_all rfl); (case k9q99 => (intro _; with_unfolding_all rfl)); k_lt l1q9)
  k_with "L100" => (k_here; k_dflt (refine LCg.ListComp_U (F₀ := by k_asm) (by with_unfolding_all rfl) (by decide) (by rfl) (by decide) (by rfl) ?_))
  k_with "L101" => (k_here; k_dflt (refine' LCg.CompSrc.ledger rfl ?cFq101 ?cNq101 ?cmq101 ?czq101 (fun g9q9 => Mine.comp_map17 ?ctq101 (fun yq9 => Str.ofString " " ++ yq9) ?cSq101 ?c17q101 ?kturnq101 (fun ysq9 hysq9 => ?_) _ _ _ ?ceq101 Mine.Txts.nil); (case cFq101 => k_asm); (case cNq101 => k_asm); (case cmq101 => k_mem); (case ctq101 => assumption); (case ceq101 => exact Nat.zero_add _); (case czq101 => (rw [Mine.Txts.size (by assumption), sizeLine_eq]; (try simp only [List.length_take, List.length_drop]); omega)); (case cSq101 => exact .inr ⟨_, by k_mem, rfl, _, rfl⟩); (case c17q101 => assumption); (case kturnq101 => (intro yq9 t9q9 I9q9 oI9q9 C9q9 oC9q9 D9q9 oD9q9 m9q9 h9q9 tk9q9 E9q9 Qyq9 hyq9 hoC9q9 hm9q9 F9q9 N9q9 qyq9; k_steps; (exact qyq9 _ _)))))
  k_with "L102" => (k_here; k_dflt (refine' Mine.ne_same ?k1q102 ?_; (case k1q102 => with_reducible assumption)))
  k_with "L103" => (k_here; intro D9q9 h9q9 tk9q9 F9q9 N9q9 off9q9)
  trivial
local macro_rules | `(tactic| walk_at "call ref") => `(tactic| k_extra "L95")
local macro_rules | `(tactic| walk_at "call ref") => `(tactic| k_extra "L96")

local macro_rules | `(tactic| walk_at "eval Name") => `(tactic| k_extra "L97")
local macro_rules | `(tactic| walk_at "call builtin:max") => `(tactic| k_extra "L98")
local macro_rules | `(tactic| walk_at "subscriptTail") => `(tactic| k_extra "L99")
local macro_rules | `(tactic| walk_at "eval ListComp") => `(tactic| k_extra "L100")

local macro_rules | `(tactic| walk_at "CompSrc") => `(tactic| k_extra "L101")
local macro_rules | `(tactic| walk_at "compareOp NotEq str str") => `(tactic| k_extra "L102")
local macro_rules | `(tactic| walk_at "FinE") => `(tactic| k_extra "L103")

theorem law_l4 {w : World} {p : Program} {loose : List Str} {mean : ExcName → Option Value} {mg mb : Str → Option Value}
  (base h₀ : Heap) (L fa : Addr) (cd : Value) (m : Str → Option Value) (s : Shared) (Q : Flow → Shared → Prop) (E : Value → Shared → Prop) (rest : List Stmt)
  (B : Below callerA base [] h₀) (X : (Mine.hd.heap_39 w.params).In h₀) (T : Top p loose mean mg mb h₀) (hE : PassesOwn (model PySem.Challenge.rw_pm0058_01.row.prog w) (callerA.deeper (lawEnv L fa cd)) (lawEnv L fa cd) E)
  (rw bg f : Addr) (vr vb : Array Value) (nr nb : Nat) (R P0 : List Str) (Rs : List (List Str)) (hdn wdn : Nat) (en : Str) (t5 t6 t7 tt : Tok) (tl : List (Addr × Obj))
  (F : Fr h₀ L s.heap (fun y => if y = Str.ofString "text" then some (.str (tx R) tt) else if y = Str.ofString "row" then some (.ref rw) else if y = Str.ofString "head" then some (.int (hdn : Int) t6) else if y = Str.ofString "width" then some (.int (wdn : Int) t5) else if y = Str.ofString "begins" then some (.ref bg) else if y = Str.ofString "maker" then some (.ref f) else if y = Str.ofString "ending" then some (.str en t7) else m y)) (N : News h₀ L s.heap ((bg, listOf vb nb) :: (rw, listOf vr nr) :: tl)) (hR : Txts vr R) (hRl : R.length ≤ 13) (hw : ∀ x ∈ R, Wd x) (hwn : wdn ≤ 100) (hhn : hdn ≤ 100) (hf : FEnd wdn (wdn - hdn) R P0 Rs) (hvb : vb.size = R.length) (hbs : ∀ j, j < vb.size → ∃ t, vb[j]? = some (.int ((clen (R.take j) : Nat) : Int) t)) (hP0 : P0.length ≤ R.length) (htl : (tx R).length ≤ 300) (hcut : Bis (fun j => ((clen (R.take j) : Nat) : Int) < ((wdn - hdn : Nat) : Int)) P0.length vb.size) (hvs : vb.size ≤ 1000) (hsh0 : ∀ a ∈ R.take P0.length, a.length ≤ 17) (hjo : JoinOk (Str.ofString "") ((R.take P0.length).map fun y => Str.ofString " " ++ y) = true)
  (hret : ∀ (D : Addr) (z : Str) (tz tb9 : Tok) m₂ h' tk', z = tx P0 → Fr h₀ L h' m₂ → But [Str.ofString "begin", Str.ofString "rows"] (fun y => if y = Str.ofString "text" then some (.str (tx R) tt) else if y = Str.ofString "row" then some (.ref rw) else if y = Str.ofString "head" then some (.int (hdn : Int) t6) else if y = Str.ofString "width" then some (.int (wdn : Int) t5) else if y = Str.ofString "begins" then some (.ref bg) else if y = Str.ofString "maker" then some (.ref f) else if y = Str.ofString "ending" then some (.str en t7) else m y) m₂ → m₂ (Str.ofString "begin") = some (.int ((wdn - hdn : Nat) : Int) tb9) → m₂ (Str.ofString "rows") = some (.ref D) → (∀ p ∈ (bg, listOf vb nb) :: (rw, listOf vr nr) :: tl, p.1 < D) → News h₀ L h' ((D, listOf #[.str z tz] 0) :: (bg, listOf vb nb) :: (rw, listOf vr nr) :: tl) → wpAny (model PySem.Challenge.rw_pm0058_01.row.prog w) (callerA.deeper (lawEnv L fa cd)) (execs rest (lawEnv L fa cd)) Q E { s with heap := h', toks := tk' }) :
  wpAny (model PySem.Challenge.rw_pm0058_01.row.prog w) (callerA.deeper (lawEnv L fa cd)) (execs (stmtAt 19 :: stmtAt 20 :: stmtAt 21 :: rest) (lawEnv L fa cd)) Q E s := by
  have htz9 : Txt.slice (tx R) none (some ((wdn - hdn : Nat) : Int)) = tx P0 := hf.text0
  have heq9 : Txt.join (Str.ofString "") ((R.take P0.length).map fun y => Str.ofString " " ++ y) = Txt.slice (tx R) none (some ((wdn - hdn : Nat) : Int)) := by
    rw [htz9, join_tx2, hf.row0]
  revert X
  k_fill
  intro X
  unfold lawEnv lawScope at hret hE ⊢
  unfold stmtAt lawBody
  unfold lawLit at hret hE ⊢
  dsimp only [List.getElem?_cons_zero, List.getElem?_cons_succ, Option.getD_some] at hret hE ⊢

  k_steps
  exact hret _ _ _ _ _ _ _ htz9 (by k_asm) (by (repeat (first | exact Mine.But.refl | exact Mine.But.over | refine' Mine.But.set (by decide) ?_ | refine' Mine.But.sub (by decide) ?_))) rfl rfl (by k_all) (by ktr_rel)
end
section
local macro_rules | `(tactic| walk_at "call ref") => `(tactic| k_extra "L95")
local macro_rules | `(tactic| walk_at "call ref") => `(tactic| k_extra "L96")

local macro_rules | `(tactic| walk_at "call builtin:list.append") => `(tactic| k_extra "L92")

local macro_rules | `(tactic| walk_at "eval Name") => `(tactic| k_extra "L97")
local macro_rules | `(tactic| walk_at "call builtin:max") => `(tactic| k_extra "L98")
local macro_rules | `(tactic| walk_at "subscriptTail") => `(tactic| k_extra "L99")
local macro_rules | `(tactic| walk_at "eval ListComp") => `(tactic| k_extra "L100")

local macro_rules | `(tactic| walk_at "CompSrc") => `(tactic| k_extra "L101")
local macro_rules | `(tactic| walk_at "compareOp NotEq str str") => `(tactic| k_extra "L102")
local macro_rules | `(tactic| walk_at "FinE") => `(tactic| k_extra "L103")

theorem law_t4 {w : World} {p : Program} {loose : List Str} {mean : ExcName → Option Value} {mg mb : Str → Option Value}
  (base h₀ : Heap) (L fa : Addr) (cd : Value) (m : Str → Option Value) (s : Shared) (Q : Flow → Shared → Prop) (E : Value → Shared → Prop)
  (B : Below callerA base [] h₀) (X : (Mine.hd.heap_39 w.params).In h₀) (T : Top p loose mean mg mb h₀) (hE : PassesOwn (model PySem.Challenge.rw_pm0058_01.row.prog w) (callerA.deeper (lawEnv L fa cd)) (lawEnv L fa cd) E)
  (rs rw bg : Addr) (vr vb vz : Array Value) (nr nb nz : Nat) (R : List Str) (wdn bk a9 b9 : Nat) (t5 tt tb9 : Tok) (tl : List (Addr × Obj))
  (F : Fr h₀ L s.heap (fun y => if y = Str.ofString "begin" then some (.int (bk : Int) tb9) else if y = Str.ofString "rows" then some (.ref rs) else if y = Str.ofString "text" then some (.str (tx R) tt) else if y = Str.ofString "row" then some (.ref rw) else if y = Str.ofString "width" then some (.int (wdn : Int) t5) else if y = Str.ofString "begins" then some (.ref bg) else m y)) (N : News h₀ L s.heap ((rs, listOf vz nz) :: (bg, listOf vb nb) :: (rw, listOf vr nr) :: tl)) (hR : Txts vr R) (hRl : R.length ≤ 13) (hwn : wdn ≤ 100) (hvb : vb.size = R.length) (hbs : ∀ j, j < vb.size → ∃ t, vb[j]? = some (.int ((clen (R.take j) : Nat) : Int) t)) (hvs : vb.size ≤ 1000) (htl : (tx R).length ≤ 300) (hbk : bk ≤ 1000) (hab : a9 ≤ b9) (hb : b9 ≤ R.length) (hcut : Bis (fun j => ((clen (R.take j) : Nat) : Int) < (bk : Int)) a9 vb.size) (hcut2 : Bis (fun j => ((clen (R.take j) : Nat) : Int) < (bk : Int) + (wdn : Int)) b9 vb.size) (hcutr : Bis (fun j => ((clen (R.take j) : Nat) : Int) ≤ (bk : Int)) (a9 + 1) vb.size) (hsh : ∀ a ∈ (R.drop a9).take (b9 - a9), a.length ≤ 17) (hjo : JoinOk (Str.ofString "") (((R.drop a9).take (b9 - a9)).map fun y => Str.ofString " " ++ y) = true) (heq : Txt.join (Str.ofString "") (((R.drop a9).take (b9 - a9)).map fun y => Str.ofString " " ++ y) = Txt.slice (tx R) (some (bk : Int)) (some ((bk : Int) + (wdn : Int)))) (hvz : vz.size ≤ 100) (e1 : rs ≠ bg) (e2 : rs ≠ rw) (e3 : ∀ p ∈ tl, p.1 ≠ rs)
  (hret : ∀ (z : Str) (tz tq : Tok) m₂ h' tk', z = Txt.slice (tx R) (some (bk : Int)) (some ((bk : Int) + (wdn : Int))) → Fr h₀ L h' m₂ → But [Str.ofString "begin", Str.ofString "at", Str.ofString "to"] (fun y => if y = Str.ofString "begin" then some (.int (bk : Int) tb9) else if y = Str.ofString "rows" then some (.ref rs) else if y = Str.ofString "text" then some (.str (tx R) tt) else if y = Str.ofString "row" then some (.ref rw) else if y = Str.ofString "width" then some (.int (wdn : Int) t5) else if y = Str.ofString "begins" then some (.ref bg) else m y) m₂ → m₂ (Str.ofString "begin") = some (.int ((bk : Int) + (wdn : Int)) tq) → News h₀ L h' ((rs, listOf (vz.push (.str z tz)) (nz + 1)) :: (bg, listOf vb nb) :: (rw, listOf vr nr) :: tl) → Q .next { s with heap := h', toks := tk' }) :
  wpAny (model PySem.Challenge.rw_pm0058_01.row.prog w) (callerA.deeper (lawEnv L fa cd)) (execs (bodyAt 22) (lawEnv L fa cd)) Q E s := by
  revert X
  k_fill
  intro X
  unfold lawEnv lawScope at hE ⊢
  unfold bodyAt stmtAt lawBody
  unfold lawLit at hE ⊢
  dsimp only [List.getElem?_cons_zero, List.getElem?_cons_succ, Option.getD_some] at hE ⊢
  k_steps
  all_goals try (exfalso; omega)
  all_goals exact hret _ _ _ _ _ _ rfl (by k_asm) (by (repeat (first | exact Mine.But.refl | exact Mine.But.over | refine' Mine.But.set (by decide) ?_ | refine' Mine.But.sub (by decide) ?_))) rfl (by ktr_rel)
end
section
noncomputable abbrev testAt (k : Nat) : Expr := match stmtAt k with | .While t _ _ _ => t | _ => .Constant .none 0 ⟨0, 0, 0, 0⟩

theorem law_test {w : World} {p : Program} {loose : List Str} {mean : ExcName → Option Value} {mg mb : Str → Option Value}
  (base h₀ : Heap) (L fa : Addr) (cd : Value) (m : Str → Option Value) (s : Shared) (Q : Bool → Shared → Prop) (E : Value → Shared → Prop)
  (B : Below callerA base [] h₀) (X : (Mine.hd.heap_39 w.params).In h₀) (T : Top p loose mean mg mb h₀) (hE : PassesOwn (model PySem.Challenge.rw_pm0058_01.row.prog w) (callerA.deeper (lawEnv L fa cd)) (lawEnv L fa cd) E)
  (R : List Str) (bk : Nat) (tt tb9 : Tok)
  (F : Fr h₀ L s.heap (fun y => if y = Str.ofString "begin" then some (.int (bk : Int) tb9) else if y = Str.ofString "text" then some (.str (tx R) tt) else m y)) (N : News h₀ L s.heap []) (htl : (tx R).length ≤ 300)
  (hret : ∀ tk', Q (decide ((bk : Int) < (((tx R).length : Nat) : Int))) { s with toks := tk' }) :
  wpAny (model PySem.Challenge.rw_pm0058_01.row.prog w) (callerA.deeper (lawEnv L fa cd)) (isTrue (testAt 22) (lawEnv L fa cd) (eval (testAt 22) (lawEnv L fa cd))) Q E s := by
  revert X
  k_fill
  intro X
  unfold lawEnv lawScope at hE ⊢
  unfold testAt stmtAt lawBody
  unfold lawLit at hE ⊢
  dsimp only [List.getElem?_cons_zero, List.getElem?_cons_succ, Option.getD_some] at hE ⊢
  k_steps
  exact hret _
end
section
theorem sum_len : ∀ {W : List Str} {k : Nat}, (∀ y ∈ W, y.length ≤ k) → (W.map (·.length)).sum ≤ W.length * k
  | [], _, _ => by simp
  | y :: W, k, h => by
    have := sum_len (W := W) fun z hz => h z (List.mem_cons_of_mem _ hz)
    have := h y List.mem_cons_self
    rw [List.map_cons, List.sum_cons, List.length_cons, Nat.succ_mul]
    omega
theorem join_ok {W : List Str} (h : ∀ y ∈ W, y.length ≤ 17) (hl : W.length ≤ 13) : JoinOk (Str.ofString "") (W.map fun y => Str.ofString " " ++ y) = true := by
  apply joinOk_of
  have h1 : ∀ z ∈ W.map (fun y => Str.ofString " " ++ y), z.length ≤ 18 := fun z hz => by
    obtain ⟨y, hy, rfl⟩ := List.mem_map.mp hz
    rw [PySem.Str.length_append, len_space]
    have := h y hy
    omega
  have h2 := sum_len h1
  rw [len_empty]
  rw [List.length_map] at *
  have : W.length * 18 ≤ 13 * 18 := Nat.mul_le_mul_right _ hl
  omega
theorem clen_small {W : List Str} (h : ∀ y ∈ W, y.length ≤ 17) : clen W ≤ W.length * 18 := by
  induction W with
  | nil => exact Nat.zero_le _
  | cons x W ih =>
    rw [clen_cons, List.length_cons, Nat.succ_mul]
    have := ih fun y hy => h y (List.mem_cons_of_mem _ hy)
    have := h x List.mem_cons_self
    omega
open PyProof.Rows PySem.Spec in
theorem eq_same {prog : Program} {w : World} {A : Around} {E : Value → Shared → Prop} {s : Shared} {x : Str} {t u : Tok} {Q : Value → Shared → Prop} (h : Q (.bool true) s) : wpAny (model prog w) A (compareOp .Eq (.str x t) (.str x u)) Q E s := by
  refine eq_str ?_
  simpa using h
end
section
theorem law_l5 {w : World} {p : Program} {loose : List Str} {mean : ExcName → Option Value} {mg mb : Str → Option Value}
  (base h₀ : Heap) (L fa : Addr) (cd : Value) (m : Str → Option Value) (s : Shared) (Q : Flow → Shared → Prop) (E : Value → Shared → Prop) (rest : List Stmt)
  (B : Below callerA base [] h₀) (X : (Mine.hd.heap_39 w.params).In h₀) (T : Top p loose mean mg mb h₀) (hE : PassesOwn (model PySem.Challenge.rw_pm0058_01.row.prog w) (callerA.deeper (lawEnv L fa cd)) (lawEnv L fa cd) E)
  (rs rw bg : Addr) (vr vb vz : Array Value) (nr nb nz : Nat) (R P0 : List Str) (Rs : List (List Str)) (wdn b0 : Nat) (t5 tt tb9 : Tok) (tl : List (Addr × Obj))
  (F : Fr h₀ L s.heap (fun y => if y = Str.ofString "begin" then some (.int (b0 : Int) tb9) else (fun y => if y = Str.ofString "rows" then some (.ref rs) else if y = Str.ofString "text" then some (.str (tx R) tt) else if y = Str.ofString "row" then some (.ref rw) else if y = Str.ofString "width" then some (.int (wdn : Int) t5) else if y = Str.ofString "begins" then some (.ref bg) else m y) y)) (N : News h₀ L s.heap ((rs, listOf vz nz) :: (bg, listOf vb nb) :: (rw, listOf vr nr) :: tl)) (hR : Txts vr R) (hRl : R.length ≤ 13) (h17 : ∀ y ∈ R, y.length ≤ 17) (hwn : wdn ≤ 100) (hw1 : 1 ≤ wdn) (hb0 : b0 ≤ 100) (hvb : vb.size = R.length) (hbs : ∀ j, j < vb.size → ∃ t, vb[j]? = some (.int ((clen (R.take j) : Nat) : Int) t)) (hf : FEnd wdn b0 R P0 Rs) (hz : Txts vz [tx P0]) (e1 : rs ≠ bg) (e2 : rs ≠ rw) (e3 : ∀ p ∈ tl, p.1 ≠ rs)
  (hret : ∀ m' vz' nz' h' tk', (∀ y, y ∉ [Str.ofString "begin", Str.ofString "at", Str.ofString "to"] → m' y = (fun y => if y = Str.ofString "rows" then some (.ref rs) else if y = Str.ofString "text" then some (.str (tx R) tt) else if y = Str.ofString "row" then some (.ref rw) else if y = Str.ofString "width" then some (.int (wdn : Int) t5) else if y = Str.ofString "begins" then some (.ref bg) else m y) y) → Txts vz' ((P0 :: Rs).map tx) → Fr h₀ L h' m' → News h₀ L h' ((rs, listOf vz' nz') :: (bg, listOf vb nb) :: (rw, listOf vr nr) :: tl) → wpAny (model PySem.Challenge.rw_pm0058_01.row.prog w) (callerA.deeper (lawEnv L fa cd)) (execs rest (lawEnv L fa cd)) Q E { s with heap := h', toks := tk' }) :
  wpAny (model PySem.Challenge.rw_pm0058_01.row.prog w) (callerA.deeper (lawEnv L fa cd)) (execs (stmtAt 22 :: rest) (lawEnv L fa cd)) Q E s := by
  have hcl : clen R ≤ 234 := by
    have := clen_small h17
    have : R.length * 18 ≤ 13 * 18 := Nat.mul_le_mul_right _ hRl
    omega
  have htl : (tx R).length ≤ 300 := by rw [tx_length]; omega
  have hRs : Rs.length ≤ 13 := by
    have h1 : Rs.length ≤ Rs.flatten.length := by
      have : ∀ l : List (List Str), (∀ V ∈ l, V ≠ []) → l.length ≤ l.flatten.length := fun l => by
        induction l with
        | nil => exact fun _ => Nat.le_refl _
        | cons V l ih =>
          intro h
          have a := ih fun U hU => h U (List.mem_cons_of_mem _ hU)
          have b := List.length_pos_iff.mpr (h V List.mem_cons_self)
          rw [List.flatten_cons, List.length_append, List.length_cons]
          omega
      refine this Rs fun V hV => ?_
      obtain ⟨k, hk, e⟩ := List.mem_iff_getElem.mp hV
      have := (hf.last k hk).1
      rwa [List.getD_eq_getElem?_getD, List.getElem?_eq_getElem hk, Option.getD_some, e] at this
    have h2 := congrArg List.length hf.all
    rw [List.length_append] at h2
    omega
  refine wpAny_execs_cons ?_
  show wpAny _ _ (exec (.While (testAt 22) (bodyAt 22) [] _) _) _ _ _
  refine While_led (env := lawEnv L fa cd) F N hE (fun n m' n' g' => g' = s.gens ∧ ∃ k vz' nz' tb, k ≤ Rs.length ∧ n = Rs.length - k ∧ (∀ y, y ∉ [Str.ofString "begin", Str.ofString "at", Str.ofString "to"] → m' y = (fun y => if y = Str.ofString "rows" then some (.ref rs) else if y = Str.ofString "text" then some (.str (tx R) tt) else if y = Str.ofString "row" then some (.ref rw) else if y = Str.ofString "width" then some (.int (wdn : Int) t5) else if y = Str.ofString "begins" then some (.ref bg) else m y) y) ∧ m' (Str.ofString "begin") = some (.int ((b0 + k * wdn : Nat) : Int) tb) ∧ Txts vz' ((P0 :: Rs.take k).map tx) ∧ n' = (rs, listOf vz' nz') :: (bg, listOf vb nb) :: (rw, listOf vr nr) :: tl)
    Rs.length ⟨rfl, 0, vz, nz, tb9, Nat.zero_le _, rfl, fun y hy => if_neg (fun q => hy (by rw [q]; simp)), by rw [Nat.zero_mul, Nat.add_zero]; rfl, hz, rfl⟩ (fun n m₁ news₁ h₁ gs₁ tk₁ hJ F₁ N₁ => ?_)
  obtain ⟨rfl, k, vz', nz', tb, hk, rfl, hoff, hbeg, hz', rfl⟩ := hJ
  have hk100 : k * wdn ≤ 13 * 100 := Nat.mul_le_mul (by omega) hwn
  have hmap : m₁ = fun y => if y = Str.ofString "begin" then some (.int ((b0 + k * wdn : Nat) : Int) tb) else over [Str.ofString "begin", Str.ofString "at", Str.ofString "to"] m₁ (fun y => if y = Str.ofString "rows" then some (.ref rs) else if y = Str.ofString "text" then some (.str (tx R) tt) else if y = Str.ofString "row" then some (.ref rw) else if y = Str.ofString "width" then some (.int (wdn : Int) t5) else if y = Str.ofString "begins" then some (.ref bg) else m y) y := by
    funext y
    by_cases q1 : y = Str.ofString "begin"
    · rw [if_pos q1, q1, hbeg]
    · rw [if_neg q1]
      by_cases q2 : y ∈ [Str.ofString "begin", Str.ofString "at", Str.ofString "to"]
      · rw [over_on q2]
      · rw [over_off q2, hoff y q2]
  have hm2 : (fun y => if y = Str.ofString "begin" then some (.int ((b0 + k * wdn : Nat) : Int) tb) else if y = Str.ofString "text" then some (.str (tx R) tt) else m₁ y) = m₁ := by
    funext y
    by_cases q1 : y = Str.ofString "begin"
    · rw [if_pos q1, q1, hbeg]
    · rw [if_neg q1]
      by_cases q2 : y = Str.ofString "text"
      · rw [if_pos q2, q2, hoff _ (by decide)]
        rfl
      · rw [if_neg q2]
  refine law_test base h₀ L fa cd m₁ _ _ E B X T hE R (b0 + k * wdn) tt tb (by rw [hm2]; exact F₁) News.nil htl fun tk' => ?_
  rw [tx_length]
  by_cases hkk : k < Rs.length
  · have hmore := hf.more hkk
    rw [if_pos (by simpa using Int.ofNat_lt.mpr hmore)]
    have hm5 : (fun y => if y = Str.ofString "begin" then some (.int ((b0 + k * wdn : Nat) : Int) tb) else if y = Str.ofString "rows" then some (.ref rs) else if y = Str.ofString "text" then some (.str (tx R) tt) else if y = Str.ofString "row" then some (.ref rw) else if y = Str.ofString "width" then some (.int (wdn : Int) t5) else if y = Str.ofString "begins" then some (.ref bg) else m₁ y) = m₁ := by
      funext y
      by_cases q0 : y = Str.ofString "begin"
      · rw [if_pos q0, q0, hbeg]
      · rw [if_neg q0]
        by_cases q1 : y = Str.ofString "rows"
        · rw [if_pos q1, q1, hoff _ (by decide)]
          rfl
        · rw [if_neg q1]
          by_cases q2 : y = Str.ofString "text"
          · rw [if_pos q2, q2, hoff _ (by decide)]
            rfl
          · rw [if_neg q2]
            by_cases q3 : y = Str.ofString "row"
            · rw [if_pos q3, q3, hoff _ (by decide)]
              rfl
            · rw [if_neg q3]
              by_cases q4 : y = Str.ofString "width"
              · rw [if_pos q4, q4, hoff _ (by decide)]
                rfl
              · rw [if_neg q4]
                by_cases q5 : y = Str.ofString "begins"
                · rw [if_pos q5, q5, hoff _ (by decide)]
                  rfl
                · rw [if_neg q5]
    have ecast : ((b0 + (k + 1) * wdn : Nat) : Int) = ((b0 + k * wdn : Nat) : Int) + (wdn : Int) := by
      rw [Nat.succ_mul]
      omega
    have hR1 : R.length ≤ 1000 := by omega
    have hc2 := hf.cut hR1 (k := k + 1) (by omega)
    rw [ecast] at hc2
    have hsh : ∀ a ∈ (R.drop (pre P0 Rs k).length).take ((pre P0 Rs (k + 1)).length - (pre P0 Rs k).length), a.length ≤ 17 := fun a ha => h17 a (List.mem_of_mem_drop (List.mem_of_mem_take ha))
    have htk : Rs.take (k + 1) = Rs.take k ++ [Rs.getD k []] := by
      rw [List.take_add_one, List.getElem?_eq_getElem hkk, List.getD_eq_getElem?_getD, List.getElem?_eq_getElem hkk]
      rfl
    refine law_t4 base h₀ L fa cd m₁ _ _ E B X T hE rs rw bg vr vb vz' nr nb nz' R wdn (b0 + k * wdn) (pre P0 Rs k).length (pre P0 Rs (k + 1)).length t5 tt tb tl (by rw [hm5]; exact F₁) N₁ hR hRl hwn hvb hbs (by omega) htl (by omega) (by rw [pre_succ hkk, List.length_append]; omega) (hf.len_pre _) (by rw [hvb]; exact hf.cut hR1 hk) (by rw [hvb]; exact hc2) (by rw [hvb]; exact hf.cutr hR1 hkk) hsh (join_ok hsh (by rw [hf.rowk hkk]; have := congrArg List.length (hf.split1 hkk); rw [List.length_append, List.length_append] at this; omega)) (by rw [hf.rowk hkk, join_tx2, hf.textk hkk]) (by rw [hz'.size]; simp; omega) e1 e2 e3 ?_
    intro z tz tq m₂ h' tk2 hz2 F' hbut hbeg2 N'
    refine WhilePost.next F' N' (k' := Rs.length - (k + 1)) (by omega) ⟨rfl, k + 1, _, _, tq, by omega, rfl, fun y hy => ?_, by rw [hbeg2, ecast], ?_, rfl⟩
    · rw [hbut.same y hy]
      exact (congrFun hm5 y).trans (hoff y hy)
    · rw [htk, ← List.cons_append, List.map_append]
      exact hz'.push (by rw [hz2, hf.textk hkk])
  · have hke : k = Rs.length := by omega
    have hend := hf.ends hke
    rw [if_neg (by simp; omega)]
    refine wpAny_execs_nil ?_
    refine hret m₁ vz' nz' h₁ tk' hoff (by rw [hke, List.take_length] at hz'; exact hz') F₁ N₁
end
section
theorem lines24 : True := by
  k_with "L105" => (k_here; k_dflt ((show wpAny _ _ (call (Value.ref 42) [Value.ref _, Value.str _ _]) _ _ _); refine' Mine.fmt_str_use ?k1q105 ?k2q105 ?k3q105 ?k4q105 ?k5q105 ?kKq105 ?t1q105 ?t2q105 ?t3q105 ?t4q105 ?t5q105 ?t6q105 ?t7q105 ?kdq105 ?kuq105 ?h1q105 ?h2q105 ?h3q105 ?h4q105 ?h5q105 ?h6q105 ?h7q105 ?h8q105 ?h9q105 ?h10q105 ?h11q105 ?h12q105 ?h13q105 ?h14q105 ?h15q105 ?h16q105 ?h17q105 ?h18q105 ?h19q105 ?h20q105 ?h21q105 ?h22q105 ?h23q105 ?h24q105 ?h25q105 ?h26q105 ?h27q105 ?h28q105 ?h29q105 ?h30q105 ?h31q105 ?h32q105 ?h33q105 ?h34q105 ?h35q105 ?h36q105 ?h37q105 ?h38q105 ?h39q105 ?h40q105 ?h41q105 ?h42q105 ?h43q105 ?h44q105 ?h45q105 ?_; (case k1q105 => k_asm); (case k2q105 => k_asm); (case k3q105 => k_asm); (case k4q105 => k_asm); (case k5q105 => k_asm); (case kKq105 => first | exact rfl | assumption); (case t1q105 => (repeat (first | exact Mine.Take.head | apply Mine.Take.tail))); (case t2q105 => (repeat (first | exact Mine.Take.head | apply Mine.Take.tail))); (case t3q105 => (repeat (first | exact Mine.Take.head | apply Mine.Take.tail))); (case t4q105 => (repeat (first | exact Mine.Take.head | apply Mine.Take.tail))); (case t5q105 => (repeat (first | exact Mine.Take.head | apply Mine.Take.tail))); (case t6q105 => (repeat (first | exact Mine.Take.head | apply Mine.Take.tail))); (case t7q105 => (repeat (first | exact Mine.Take.head | apply Mine.Take.tail))); (case kdq105 => ktr_room); (case kuq105 => ktr_units); (case h1q105 => assumption); (case h2q105 => assumption); (case h3q105 => assumption); (case h4q105 => first | assumption | omega); (case h5q105 => first | assumption | omega); (case h6q105 => first | assumption | omega | (simp <;> omega)); (case h7q105 => assumption); (case h8q105 => assumption); (case h9q105 => assumption); (case h10q105 => first | assumption | omega); (case h11q105 => first | assumption | omega); (case h12q105 => first | assumption | omega); (case h13q105 => assumption); (case h14q105 => assumption); (case h15q105 => assumption); (case h16q105 => assumption); (case h17q105 => assumption); (case h18q105 => assumption); (case h19q105 => (first | with_reducible assumption | exact Ne.symm (by with_reducible assumption) | k_ne)); (case h20q105 => (first | with_reducible assumption | exact Ne.symm (by with_reducible assumption) | k_ne)); (case h21q105 => (first | with_reducible assumption | exact Ne.symm (by with_reducible assumption) | k_ne)); (case h22q105 => (first | with_reducible assumption | exact Ne.symm (by with_reducible assumption) | k_ne)); (case h23q105 => (first | with_reducible assumption | exact Ne.symm (by with_reducible assumption) | k_ne)); (case h24q105 => (first | with_reducible assumption | exact Ne.symm (by with_reducible assumption) | k_ne)); (case h25q105 => (first | with_reducible assumption | exact Ne.symm (by with_reducible assumption) | k_ne)); (case h26q105 => (first | with_reducible assumption | exact Ne.symm (by with_reducible assumption) | k_ne)); (case h27q105 => (first | with_reducible assumption | exact Ne.symm (by with_reducible assumption) | k_ne)); (case h28q105 => (first | with_reducible assumption | exact Ne.symm (by with_reducible assumption) | k_ne)); (case h29q105 => (first | with_reducible assumption | exact Ne.symm (by with_reducible assumption) | k_ne)); (case h30q105 => (first | with_reducible assumption | exact Ne.symm (by with_reducible assumption) | k_ne)); (case h31q105 => (first | with_reducible assumption | exact Ne.symm (by with_reducible assumption) | k_ne)); (case h32q105 => (first | with_reducible assumption | exact Ne.symm (by with_reducible assumption) | k_ne)); (case h33q105 => (first | with_reducible assumption | exact Ne.symm (by with_reducible assumption) | k_ne)); (case h34q105 => (first | with_reducible assumption | exact Ne.symm (by with_reducible assumption) | k_ne)); (case h35q105 => (first | with_reducible assumption | exact Ne.symm (by with_reducible assumption) | k_ne)); (case h36q105 => (first | with_reducible assumption | exact Ne.symm (by with_reducible assumption) | k_ne)); (case h37q105 => (first | with_reducible assumption | exact Ne.symm (by with_reducible assumption) | k_ne)); (case h38q105 => (first | with_reducible assumption | exact Ne.symm (by with_reducible assumption) | k_ne)); (case h39q105 => k_all); (case h40q105 => k_all); (case h41q105 => k_all); (case h42q105 => k_all); (case h43q105 => k_all); (case h44q105 => k_all); (case h45q105 => k_all)); intro t'q9 tb'q9 ub'q9 h'q9 tk'q9 gs'q9 G'q9 b1q9 b2q9 F'q9 N'q9)
  k_with "L106" => (k_here; k_dflt (refine' Mine.eq_same ?_))
  trivial
local macro_rules | `(tactic| walk_at "call ref") => `(tactic| k_extra "L105")

local macro_rules | `(tactic| walk_at "compareOp Eq str str") => `(tactic| k_extra "L106")

theorem law_l6 {w : World} {p : Program} {loose : List Str} {mean : ExcName → Option Value} {mg mb : Str → Option Value}
  (base h₀ : Heap) (L fa : Addr) (cd : Value) (m : Str → Option Value) (s : Shared) (Q : Flow → Shared → Prop) (E : Value → Shared → Prop) (rest : List Stmt)
  (B : Below callerA base [] h₀) (X : (Mine.hd.heap_39 w.params).In h₀) (T : Top p loose mean mg mb h₀) (hE : PassesOwn (model PySem.Challenge.rw_pm0058_01.row.prog w) (callerA.deeper (lawEnv L fa cd)) (lawEnv L fa cd) E)
  (rs f df ln ac da : Addr) (ft : FToks) (sig en : Str) (vl vz : Array Value) (nl nz n wdn : Nat) (i : Int) (ti tk t7 : Tok) (tb ub : Array Value) (pre : List Part) (q : Part) (xs : List Str) (tl : List (Addr × Obj))
  (F : Fr h₀ L s.heap (fun y => if y = Str.ofString "maker" then some (.ref f) else if y = Str.ofString "ending" then some (.str en t7) else if y = Str.ofString "rows" then some (.ref rs) else m y)) (N : News h₀ L s.heap ((rs, listOf vz nz) :: (f, instObj 94 df) :: (df, fmtDict w ft (wdn : Int) sig ln ac) :: (ln, listOf (vl) (nl)) :: (ac, accObj 178 da (refs (pre ++ [q])) n) :: (da, initDict w i ti tk) :: (140, tabObj tb) :: (147, tabObj ub) :: tl)) (hg : AllBare s.gens) (ht : TabOk lenPos tb) (hu2 : TabOk strPos ub) (hi0 : 0 ≤ i) (hi1 : i ≤ 1000000) (hvl : vl.size ≤ 1000) (ho1 : PyData.strOk q.fws = true) (ho2 : PyData.strOk q.txt = true) (hT0 : ∀ z ∈ pre ++ [q], z.obj ∈ tl) (hT : ∀ z ∈ pre ++ [q], z.obj ∈ (rs, listOf vz nz) :: tl) (hp0 : 0 ≤ psum (pre ++ [q])) (hp1 : psum (pre ++ [q]) ≤ 1000000) (hn : pre.length ≤ 400) (hq : ∀ z ∈ pre ++ [q], z.fws.length ≤ 1000 ∧ z.txt.length ≤ 1000) (hqt : q.txt ≠ "") (hpos : 0 < i + psum (pre ++ [q])) (hsp : Txt.isspace (Txt.join "" ((pre ++ [q]).map fun q => Txt.join "" [q.fws, q.txt])) = false) (hxs : Txts vl xs) (hok : JoinOk en (xs ++ [Txt.join "" ((pre ++ [q]).map fun q => Txt.join "" [q.fws, q.txt])]) = true) (hz : Txts vz (xs ++ [Txt.join "" ((pre ++ [q]).map fun q => Txt.join "" [q.fws, q.txt])])) (e0x1 : f ≠ df) (e0x2 : f ≠ ln) (e0x3 : f ≠ ac) (e0x4 : f ≠ da) (e0x5 : f ≠ 140) (e0x6 : f ≠ 147) (e1x2 : df ≠ ln) (e1x3 : df ≠ ac) (e1x4 : df ≠ da) (e1x5 : df ≠ 140) (e1x6 : df ≠ 147) (e2x3 : ln ≠ ac) (e2x4 : ln ≠ da) (e2x5 : ln ≠ 140) (e2x6 : ln ≠ 147) (e3x4 : ac ≠ da) (e3x5 : ac ≠ 140) (e3x6 : ac ≠ 147) (e4x5 : da ≠ 140) (e4x6 : da ≠ 147) (s0 : rs ≠ f) (s1 : rs ≠ df) (s2 : rs ≠ ln) (s3 : rs ≠ ac) (s4 : rs ≠ da) (s5 : rs ≠ 140) (s6 : rs ≠ 147) (r0 : ∀ p ∈ tl, p.1 ≠ f) (r1 : ∀ p ∈ tl, p.1 ≠ df) (r2 : ∀ p ∈ tl, p.1 ≠ ln) (r3 : ∀ p ∈ tl, p.1 ≠ ac) (r4 : ∀ p ∈ tl, p.1 ≠ da) (r5 : ∀ p ∈ tl, p.1 ≠ 140) (r6 : ∀ p ∈ tl, p.1 ≠ 147) (rs9 : ∀ p ∈ tl, p.1 ≠ rs)
  (hret : ∀ (tb' ub' : Array Value) h' tk' gs', AllBare gs' → TabOk lenPos tb' → TabOk strPos ub' → Fr h₀ L h' (fun y => if y = Str.ofString "maker" then some (.ref f) else if y = Str.ofString "ending" then some (.str en t7) else if y = Str.ofString "rows" then some (.ref rs) else m y) → News h₀ L h' ((140, tabObj tb') :: (147, tabObj ub') :: []) → Q (.ret (.bool true)) { s with heap := h', gens := gs', toks := tk' }) :
  wpAny (model PySem.Challenge.rw_pm0058_01.row.prog w) (callerA.deeper (lawEnv L fa cd)) (execs (stmtAt 23 :: rest) (lawEnv L fa cd)) Q E s := by
  revert X
  k_fill
  intro X
  unfold lawEnv lawScope at hE ⊢
  unfold stmtAt lawBody
  unfold lawLit at hE ⊢
  dsimp only [List.getElem?_cons_zero, List.getElem?_cons_succ, Option.getD_some] at hE ⊢
  k_steps
  all_goals exact hret _ _ _ _ _ (by assumption) (by assumption) (by assumption) (by k_asm) (by ktr_rel)
end
section
theorem siz_gr {sm md gr : Int} (h1 : md = sm ∨ md = sm * 2 ∨ md = sm * 3) (h2 : gr = md ∨ gr = md * 2) {x : Str} (hx : Siz sm md gr x) : ((x.length + 1 : Nat) : Int) ∣ gr := by
  have sd : sm ∣ md := by
    rcases h1 with h | h | h
    · rw [h]; exact Int.dvd_refl _
    · rw [h]; exact Int.dvd_mul_right _ _
    · rw [h]; exact Int.dvd_mul_right _ _
  have dg : md ∣ gr := by
    rcases h2 with h | h
    · rw [h]; exact Int.dvd_refl _
    · rw [h]; exact Int.dvd_mul_right _ _
  push_cast
  rcases hx with hx | hx | hx <;> rw [hx]
  · exact Int.dvd_trans sd dg
  · exact dg
  · exact Int.dvd_refl _
theorem siz_hd {gr hd : Int} {n hdn : Nat} (h : (n : Int) ∣ gr) (hh : hd = 0 ∨ hd = gr ∨ hd = gr * 2 ∨ hd = gr * 3) (e : hd = hdn) : n ∣ hdn := by
  refine Int.natCast_dvd_natCast.mp ?_
  rw [← e]
  rcases hh with h1 | h1 | h1 | h1 <;> rw [h1]
  · exact Int.dvd_zero _
  · exact h
  · exact Int.dvd_trans h (Int.dvd_mul_right _ _)
  · exact Int.dvd_trans h (Int.dvd_mul_right _ _)
theorem siz_wd {gr wd : Int} {n wdn : Nat} (h : (n : Int) ∣ gr) (hh : wd = gr ∨ wd = gr * 2) (e : wd = wdn) : n ∣ wdn :=
  siz_hd h (by rcases hh with h | h; exact .inr (.inl h); exact .inr (.inr (.inl h))) e
theorem sorted_dvd {sm md gr : Int} (h1 : md = sm ∨ md = sm * 2 ∨ md = sm * 3) (h2 : gr = md ∨ gr = md * 2) (hs : 2 ≤ sm) {R : List Str} (hR : R.Pairwise fun a b => b.length ≤ a.length) (hz : ∀ a ∈ R, Siz sm md gr a) : R.Pairwise fun a b => b.length + 1 ∣ a.length + 1 :=
  hR.imp_of_mem fun ha hb h => siz_dvd h1 h2 hs (hz _ hb) (hz _ ha) h
theorem siz_le {sm md gr : Int} (h1 : md = sm ∨ md = sm * 2 ∨ md = sm * 3) (h2 : gr = md ∨ gr = md * 2) (hs : 2 ≤ sm) {x : Str} (hx : Siz sm md gr x) : (x.length : Int) + 1 ≤ gr := by
  rcases hx with hx | hx | hx <;> omega
theorem sum_tx : ∀ Gs : List (List Str), ((Gs.map tx).map (·.length)).sum = clen Gs.flatten
  | [] => rfl
  | G :: Gs => by
    rw [List.map_cons, List.map_cons, List.sum_cons, sum_tx Gs, List.flatten_cons, clen_append, tx_length]
theorem join_rows {en : Str} {Gs : List (List Str)} (h : clen Gs.flatten ≤ 1000) (hl : Gs.length ≤ 1000) (he : en.length ≤ 16) : JoinOk en (Gs.map tx) = true := by
  refine joinOk_of_weight ?_ he
  rw [sum_tx, List.length_map]
  omega
theorem pin_self {m : Str → Option Value} {k : Str} {v : Value} {g : Str → Option Value} (h : m k = some v) (hg : g = m) : (fun y => if y = k then some v else g y) = m := by
  rw [hg]
  exact (pin h).symm
theorem snoc_of {α : Type} {l : List α} (h : l ≠ []) : ∃ pre q, l = pre ++ [q] := ⟨l.dropLast, l.getLast h, (List.dropLast_concat_getLast h).symm⟩
end
section
theorem fr_by {h₀ h : Heap} {L : Addr} {M m : Str → Option Value} (e : M = m) (F : Fr h₀ L h m) : Fr h₀ L h M := by rw [e]; exact F
theorem law_body {w : World} {p : Program} {loose : List Str} {mean : ExcName → Option Value} {mg mb : Str → Option Value}
  (base h₀ : Heap) (L fa : Addr) (cd : Value) (m : Str → Option Value) (s : Shared) (Q : Flow → Shared → Prop) (E : Value → Shared → Prop)
  (B : Below callerA base [] h₀) (X : (Mine.hd.heap_39 w.params).In h₀) (T : Top p loose mean mg mb h₀) (hE : PassesOwn (model PySem.Challenge.rw_pm0058_01.row.prog w) (callerA.deeper (lawEnv L fa cd)) (lawEnv L fa cd) E)
  (ax : Addr) (vals : List Value) (ns : List Int) (oc : Obj)
  (F : Fr h₀ L s.heap (fun y => if y = Str.ofString "script" then some (.ref ax) else m y)) (N : News h₀ L s.heap ((L + 1, oc) :: (140, tabObj #[]) :: (147, tabObj #[]) :: [])) (hl : h₀.IsList ax vals.toArray) (hi : IntsAre vals ns) (hn : ns.length ≤ 63) (hoc : oc.data = .cell none) (hgs : AllBare s.gens)
  (hret : ∀ (tb' ub' : Array Value) h' tk' gs' m', AllBare gs' → Fr h₀ L h' m' → News h₀ L h' ((140, tabObj tb') :: (147, tabObj ub') :: []) → Q (.ret (.bool true)) { s with heap := h', gens := gs', toks := tk' }) :
  wpAny (model PySem.Challenge.rw_pm0058_01.row.prog w) (callerA.deeper (lawEnv L fa cd)) (execs lawBody (lawEnv L fa cd)) Q E s := by
  have hb9 : lawBody = stmtAt 0 :: stmtAt 1 :: stmtAt 2 :: stmtAt 3 :: stmtAt 4 :: stmtAt 5 :: stmtAt 6 :: stmtAt 7 :: stmtAt 8 :: stmtAt 9 :: stmtAt 10 :: stmtAt 11 :: stmtAt 12 :: stmtAt 13 :: stmtAt 14 :: stmtAt 15 :: stmtAt 16 :: stmtAt 17 :: stmtAt 18 :: stmtAt 19 :: stmtAt 20 :: stmtAt 21 :: stmtAt 22 :: stmtAt 23 :: [] := by with_unfolding_all rfl
  rw [hb9]
  have c5 : 140 ≠ L + 1 := tab_ne N (by k_mem) (by k_mem) hoc
  have c6 : 147 ≠ L + 1 := tab_ne N (by k_mem) (by k_mem) hoc
  refine law_p1 base h₀ L fa cd m _ _ E _ B X T hE ax vals ns oc F N hl hi hn ?_
  intro f t h1 tk1 F1 N1
  refine law_p2 base h₀ L fa cd m _ _ E _ B X T hE ax vals ns oc f t F1 N1 ?_
  intro sm md gr wd hd en sig t2 t3 t4 t5 t6 t7 t8 h2 tk2 hsm hmd hgr hwd hhd hen hsg F2 N2
  obtain ⟨wdn, rfl⟩ : ∃ n : Nat, wd = (n : Int) := ⟨wd.toNat, by omega⟩
  obtain ⟨hdn, rfl⟩ : ∃ n : Nat, hd = (n : Int) := ⟨hd.toNat, by omega⟩
  have hs2 : 2 ≤ sm := by omega
  have hgr18 : gr ≤ 18 := by omega
  have hgr2 : 2 ≤ gr := by omega
  have hwn : wdn ≤ 100 := by omega
  have hhn : hdn ≤ 100 := by omega
  have hw1 : 1 ≤ wdn := by omega
  refine law_l1 base h₀ L fa cd m _ _ E _ B X T hE ax vals ns oc f t sm md gr wdn hdn en sig t2 t3 t4 t5 t6 t7 t8 F2 N2 hl hi hn ⟨by omega, by omega⟩ ⟨by omega, by omega⟩ ⟨by omega, by omega⟩ ?_
  intro rw N9 m1 n1 vs va vb0 nr na nb0 ah bh R A Bh h3 tk3 j h4 h13 g1 g2 g3 F3 N3
  have hn1 := j.hn
  subst hn1
  have hl9 := j.hl
  have hla9 := j.hla
  have hlb9 := j.hlb
  have hRl : R.length ≤ 13 := by omega
  have hwd9 : ∀ a ∈ R, Wd a := fun a ha => (j.hw a ha).1
  have hsz9 : ∀ a ∈ R, Siz sm md gr a := fun a ha => (j.hw a ha).2
  have hle9 : ∀ a ∈ R, (a.length : Int) + 1 ≤ gr := fun a ha => siz_le hmd hgr hs2 (hsz9 a ha)
  have k1row : m1 (Str.ofString "row") = some (.ref rw) := (j.off _ (by decide)).trans rfl
  have k1great : m1 (Str.ofString "great") = some (.int gr t4) := (j.off _ (by decide)).trans rfl
  have k1head : m1 (Str.ofString "head") = some (.int (hdn : Int) t6) := (j.off _ (by decide)).trans rfl
  have k1width : m1 (Str.ofString "width") = some (.int (wdn : Int) t5) := (j.off _ (by decide)).trans rfl
  have k1signs : m1 (Str.ofString "signs") = some (.str sig t8) := (j.off _ (by decide)).trans rfl
  have k1ending : m1 (Str.ofString "ending") = some (.str en t7) := (j.off _ (by decide)).trans rfl
  have p1 := pin_self j.ma (pin_self j.mb (pin_self k1row (pin_self k1great rfl)))
  refine law_l2 base h₀ L fa cd m1 _ _ E _ B X T hE oc rw ah bh vs va vb0 nr na nb0 R A Bh gr t4 (fr_by p1 F3) N3 hoc j.htx j.hta j.htb ⟨by omega, by omega⟩ ⟨hgr2, hgr18⟩ j.hri hwd9 hle9 ?_
  intro oc' m2 h5 tk5 hm2 F4 N4
  have off2 : ∀ y, y ≠ (Str.ofString "due") → m2 y = m1 y := fun y hy => (hm2 y hy).trans (congrFun p1 y)
  have k2row := (off2 (Str.ofString "row") (by decide)).trans k1row
  have k2head := (off2 (Str.ofString "head") (by decide)).trans k1head
  have k2width := (off2 (Str.ofString "width") (by decide)).trans k1width
  have k2signs := (off2 (Str.ofString "signs") (by decide)).trans k1signs
  have k2ending := (off2 (Str.ofString "ending") (by decide)).trans k1ending
  have p2 := pin_self k2row (pin_self k2head (pin_self k2width (pin_self k2signs rfl)))
  have hdv9 : ∀ x ∈ R, x.length + 1 ∣ hdn ∧ x.length + 1 ∣ wdn ∧ x.length + 1 ≤ wdn := fun x hx =>
    have hg := siz_gr hmd hgr (hsz9 x hx)
    ⟨siz_hd hg hhd rfl, siz_wd hg hwd rfl, by have := hle9 x hx; omega⟩
  refine law_l3 base h₀ L fa cd m2 _ _ E _ B X T hE oc' rw vs nr R hdn wdn sig t5 t6 t8 (fr_by p2 F4) N4 hgs (Ne.symm g1) c5 c6 j.htx hRl hwd9 hwn hhn hdv9 (sorted_dvd hmd hgr hs2 j.hri.sorted hsz9) hsg ?_
  intro f9 df ln ac da bg ft tk M m3 n3 gs3 h6 tk6 vl vb nl nb n i ti tb ub parts tl C Gs hM j3 F5 N5 e0x1 e0x2 e0x3 e0x4 e0x5 e0x6 e1x2 e1x3 e1x4 e1x5 e1x6 e2x3 e2x4 e2x5 e2x6 e3x4 e3x5 e3x6 e4x5 e4x6
  have hn3 := j3.hn
  subst hn3
  have hR9 : R ≠ [] := fun e => by rw [e] at hl9; simp at hl9; omega
  have hC : C ≠ [] := j3.hC.resolve_left (fun e => hR9 (List.length_eq_zero_iff.mp e))
  have hv := j3.hv
  rw [List.take_length] at hv
  obtain ⟨tt, k3text⟩ := j3.text
  rw [List.take_length] at k3text
  obtain ⟨P0, Rs, hGC, hf⟩ := hv.fend hC hw1
  have offM : ∀ y, y ∉ [(Str.ofString "maker"), (Str.ofString "begins"), (Str.ofString "text"), (Str.ofString "word")] → M y = m2 y := fun y hy => (hM y hy).trans (congrFun p2 y)
  have k3begins : m3 (Str.ofString "begins") = some (.ref bg) := (j3.off _ (by decide)).trans rfl
  have k3maker : m3 (Str.ofString "maker") = some (.ref f9) := (j3.off _ (by decide)).trans rfl
  have off3 : ∀ y, y ∉ [(Str.ofString "maker"), (Str.ofString "begins"), (Str.ofString "text"), (Str.ofString "word")] → m3 y = m2 y := fun y hy => (j3.off y (fun q => hy (by simp only [List.mem_cons, List.not_mem_nil, or_false] at q ⊢; rcases q with q | q; exact .inr (.inr (.inr q)); exact .inr (.inr (.inl q))))).trans ((if_neg (fun q => hy (by rw [q]; simp))).trans ((if_neg (fun q => hy (by rw [q]; simp))).trans (offM y hy)))
  have k3row := (off3 (Str.ofString "row") (by decide)).trans k2row
  have k3head := (off3 (Str.ofString "head") (by decide)).trans k2head
  have k3width := (off3 (Str.ofString "width") (by decide)).trans k2width
  have k3ending := (off3 (Str.ofString "ending") (by decide)).trans k2ending
  have p3 := pin_self k3text (pin_self k3row (pin_self k3head (pin_self k3width (pin_self k3begins (pin_self k3maker (pin_self k3ending rfl))))))
  have h17 : ∀ y ∈ R, y.length ≤ 17 := fun y hy => (hwd9 y hy).short
  have hcl : clen R ≤ 234 := by
    have := clen_small h17
    have : R.length * 18 ≤ 13 * 18 := Nat.mul_le_mul_right _ hRl
    omega
  have htl : (tx R).length ≤ 300 := by rw [tx_length]; omega
  have hvb := j3.hb
  have hbs : ∀ j, j < vb.size → ∃ t, vb[j]? = some (.int ((clen (R.take j) : Nat) : Int) t) := fun q hq => j3.hbs q (by omega)
  have hP0 : P0.length ≤ R.length := by
    have := congrArg List.length hf.all
    rw [List.length_append] at this
    omega
  have hcut : Bis (fun j => ((clen (R.take j) : Nat) : Int) < ((wdn - hdn : Nat) : Int)) P0.length vb.size := by
    have h9 := hf.cut (by omega) (Nat.zero_le _)
    rw [Nat.zero_mul, Nat.add_zero] at h9
    rw [hvb]
    have e9 : (pre P0 Rs 0).length = P0.length := by unfold pre; simp
    rw [e9] at h9
    exact h9
  have hsh0 : ∀ a ∈ R.take P0.length, a.length ≤ 17 := fun a ha => h17 a (List.mem_of_mem_take ha)
  have N6 : News h₀ L h6 ((bg, listOf vb nb) :: (rw, listOf vs nr) :: (f9, instObj 94 df) :: (df, fmtDict w ft (wdn : Int) sig ln ac) :: (ln, listOf (vl) (nl)) :: (ac, accObj 178 da (refs parts) n) :: (da, initDict w i ti tk) :: (140, tabObj tb) :: (147, tabObj ub) :: (L + 1, oc') :: tl) := Mine.news_sub N5 (fun p hp => by
    simp only [List.mem_cons] at hp ⊢
    rcases hp with h | h | h | h | h | h | h | h | h | h | h <;> simp only [h, true_or, or_true])
  refine law_l4 base h₀ L fa cd m3 _ _ E _ B X T hE rw bg f9 vs vb nr nb R P0 Rs hdn wdn en t5 t6 t7 tt _ (fr_by p3 F5) N6 j.htx hRl hwd9 hwn hhn hf hvb hbs hP0 htl hcut (by omega) hsh0 (join_ok hsh0 (by rw [List.length_take]; omega)) ?_
  intro D z tz tb9 m4 h7 tk7 hz F6 hbut k4begin k4rows hlt N7
  subst hz
  have off4 : ∀ y, y ∉ [(Str.ofString "begin"), (Str.ofString "rows")] → m4 y = m3 y := fun y hy => (hbut.same y hy).trans (congrFun p3 y)
  have k4text := (off4 (Str.ofString "text") (by decide)).trans k3text
  have k4row := (off4 (Str.ofString "row") (by decide)).trans k3row
  have k4width := (off4 (Str.ofString "width") (by decide)).trans k3width
  have k4begins := (off4 (Str.ofString "begins") (by decide)).trans k3begins
  have k4maker := (off4 (Str.ofString "maker") (by decide)).trans k3maker
  have k4ending := (off4 (Str.ofString "ending") (by decide)).trans k3ending
  have p4 := pin_self k4rows (pin_self k4text (pin_self k4row (pin_self k4width (pin_self k4begins rfl))))
  refine law_l5 base h₀ L fa cd m4 _ _ E _ B X T hE D rw bg vs vb _ nr nb 0 R P0 Rs wdn (wdn - hdn) t5 tt tb9 _ (fr_by (pin_self k4begin p4) F6) N7 j.htx hRl h17 hwn hw1 (by omega) hvb hbs hf Txts.one (Nat.ne_of_gt (hlt _ (.head _))) (Nat.ne_of_gt (hlt _ (.tail _ (.head _)))) (fun p hp => Nat.ne_of_lt (hlt p (.tail _ (.tail _ hp)))) ?_
  intro m5 vz nz h8 tk8 hm5 hzz F7 N8
  have off5 : ∀ y, y ∉ [Str.ofString "begin", Str.ofString "at", Str.ofString "to"] → m5 y = m4 y := fun y hy => (hm5 y hy).trans (congrFun p4 y)
  have k5maker := (off5 (Str.ofString "maker") (by decide)).trans k4maker
  have k5ending := (off5 (Str.ofString "ending") (by decide)).trans k4ending
  have k5rows := (off5 (Str.ofString "rows") (by decide)).trans k4rows
  obtain ⟨pre9, q9, hpq⟩ : ∃ p q, parts = p ++ [q] := snoc_of (fun e => hC (by rw [← j3.hpt, e]; rfl))
  subst hpq
  have htx9 : Txt.join (Str.ofString "") ((pre9 ++ [q9]).map fun q => Txt.join (Str.ofString "") [q.fws, q.txt]) = tx C := text_tx j3.hpt j3.hpf
  have hps := psum_clen j3.hpt j3.hpf
  have hCR : ∀ x ∈ C, x ∈ R := fun x hx => by rw [hv.all]; exact List.mem_append_right _ hx
  have hCw : ∀ q ∈ pre9 ++ [q9], Wd q.txt := fun q hq => hwd9 _ (hCR _ (by rw [← j3.hpt]; exact List.mem_map_of_mem hq))
  have hq9 : q9 ∈ pre9 ++ [q9] := List.mem_append_right _ (.head _)
  have hCl := clen_pos hC
  have hCw2 := hv.clenC
  have hi9 := hv.i0
  have hsp1 : (Str.ofString " ").length = 1 := by decide +kernel
  have hGl : Gs.length ≤ 13 := Nat.le_trans (hv.glen hw1 hC) hRl
  have hCll : (pre9 ++ [q9]).length ≤ 13 := by
    have h9 := congrArg List.length j3.hpt
    have h8 := congrArg List.length hv.all
    rw [List.length_map] at h9
    rw [List.length_append (bs := C)] at h8
    omega
  have hrows : Gs.map tx ++ [tx C] = (P0 :: Rs).map tx := by rw [← hGC, List.map_append]; rfl
  have hflat : (P0 :: Rs).flatten = R := by rw [hf.all]; rfl
  have hRs : (P0 :: Rs).length ≤ 14 := by rw [← hGC, List.length_append]; simp; omega
  have N9' : News h₀ L h8 ((D, listOf vz nz) :: (f9, instObj 94 df) :: (df, fmtDict w ft (wdn : Int) sig ln ac) :: (ln, listOf (vl) (nl)) :: (ac, accObj 178 da (refs (pre9 ++ [q9])) n) :: (da, initDict w i ti tk) :: (140, tabObj tb) :: (147, tabObj ub) :: tl) := Mine.news_sub N8 (fun p hp => by
    simp only [List.mem_cons] at hp ⊢
    rcases hp with h | h | h | h | h | h | h | h | h <;> simp only [h, true_or, or_true])
  refine law_l6 base h₀ L fa cd m5 _ _ E [] B X T hE D f9 df ln ac da ft sig en vl vz nl nz n wdn i ti tk t7 tb ub pre9 q9 (Gs.map tx) tl (fr_by (pin_self k5maker (pin_self k5ending (pin_self k5rows rfl))) F7) N9' j3.hg j3.ht j3.hu hi9.1 (by omega) (by rw [j3.htx.size, List.length_map]; omega) (by rw [j3.hpf q9 hq9]; decide +kernel) (word_ok (hCw q9 hq9)) j3.hT (fun q hq => List.mem_cons_of_mem _ (j3.hT q hq)) (by rw [hps]; omega) (by rw [hps]; omega) (by rw [List.length_append] at hCll; omega) (fun q hq => ⟨by rw [j3.hpf q hq, hsp1]; omega, by have := (hCw q hq).short; omega⟩) (fun e => by have h9 := (hCw q9 hq9).pos; rw [e] at h9; exact absurd h9 (by decide +kernel)) (by rw [hps]; omega) ((congrArg Txt.isspace htx9).trans (not_space hC (fun x hx => hwd9 x (hCR x hx)))) j3.htx ?hok ?hz e0x1 e0x2 e0x3 e0x4 e0x5 e0x6 e1x2 e1x3 e1x4 e1x5 e1x6 e2x3 e2x4 e2x5 e2x6 e3x4 e3x5 e3x6 e4x5 e4x6 (Nat.ne_of_gt (hlt _ (.tail _ (.tail _ (.head _))))) (Nat.ne_of_gt (hlt _ (.tail _ (.tail _ (.tail _ (.head _)))))) (Nat.ne_of_gt (hlt _ (.tail _ (.tail _ (.tail _ (.tail _ (.head _))))))) (Nat.ne_of_gt (hlt _ (.tail _ (.tail _ (.tail _ (.tail _ (.tail _ (.head _)))))))) (Nat.ne_of_gt (hlt _ (.tail _ (.tail _ (.tail _ (.tail _ (.tail _ (.tail _ (.head _))))))))) (Nat.ne_of_gt (hlt _ (.tail _ (.tail _ (.tail _ (.tail _ (.tail _ (.tail _ (.tail _ (.head _)))))))))) (Nat.ne_of_gt (hlt _ (.tail _ (.tail _ (.tail _ (.tail _ (.tail _ (.tail _ (.tail _ (.tail _ (.head _))))))))))) j3.r0 j3.r1 j3.r2 j3.r3 j3.r4 j3.r5 j3.r6 (fun p hp => Nat.ne_of_lt (hlt p (.tail _ (.tail _ (.tail _ (.tail _ (.tail _ (.tail _ (.tail _ (.tail _ (.tail _ (.tail _ (hp))))))))))))) ?_
  case hok =>
    show JoinOk en (Gs.map tx ++ [Txt.join (Str.ofString "") ((pre9 ++ [q9]).map fun q => Txt.join (Str.ofString "") [q.fws, q.txt])]) = true
    rw [htx9, hrows]
    exact join_rows (by rw [hflat]; omega) (by omega) (by rcases hen with e | e <;> rw [e] <;> decide +kernel)
  case hz =>
    show Txts vz (Gs.map tx ++ [Txt.join (Str.ofString "") ((pre9 ++ [q9]).map fun q => Txt.join (Str.ofString "") [q.fws, q.txt])])
    rw [htx9, hrows]
    exact hzz
  intro tb9 ub9 h9 tk9 gs9 hg9 _ _ F9 N9
  exact hret tb9 ub9 h9 tk9 gs9 _ hg9 F9 N9
end
section
/-- the end: True is given back, what stood stands, but for the two tables, which grew -/
theorem end_true {c : ClaimW} {cl : Str → Option Addr} {mean : ExcName → Option Value} {args : List WData} {s₁ s' : Shared} {tabs : List (Addr × Addr)} (hT : TabsAt tabs s₁.heap)
    (keep : ∀ b o, (ghostOf s₁.heap tabs).get? b = some o → s'.heap.get? b = some o) (grown : ∀ q ∈ tabs, ∃ ps, s'.heap.get? q.2 = some (tabObj ps)) (hg : AllBare s'.gens) (hos : s'.os = s₁.os)
    (hr : ∀ x, c.raises args x = false) (hp : c.post args (.bool true) args = true) : GoodWG c cl mean args s₁ (.ok (.ret (.bool true))) s' := by
  have two : ∀ b o, s₁.heap.get? b = some o → s'.heap.get? b = some o ∨ ∃ q ∈ tabs, q.2 = b := fun b o e => by
    by_cases h : b ∈ tabs.map (·.2)
    · obtain ⟨q, hq, hb⟩ := List.mem_map.mp h
      exact .inr ⟨q, hq, hb⟩
    · exact .inl (keep b o (ghost_ne e h))
  constructor
  · left
    exact ⟨_, .bool true, [], rfl, hr, .bool true, hp, fun _ => ⟨List.nodup_nil, List.forall_mem_nil _⟩⟩
  · refine ⟨⟨fun b o e => ?_, fun b o e => ?_⟩, hos, hg⟩
    · rcases two b o e with h | ⟨q, hq, rfl⟩
      · exact .inl h
      · have t := hT q hq
        rw [t.2] at e
        cases e
        obtain ⟨ps, h⟩ := grown q hq
        refine .inr (.inl ⟨(t.1.tab t.2).isCodeTable, rfl, #[], ps, rfl, ?_⟩)
        rw [h, Array.empty_append]
    · rcases two b o e with h | ⟨q, hq, rfl⟩
      · exact ⟨o, h⟩
      · obtain ⟨ps, h⟩ := grown q hq
        exact ⟨_, h⟩
end
end Mine
theorem PySem.Challenge.cw_pm0058_01_holds : PySem.Challenge.rw_pm0058_01.Holds := by
  refine Mine.hd ?_
  k_fill
  intro w s₀ s₁ mg mb G Y fa o pm cd doc dV kV ho hd hcd hD hmg hg args vals as hpre hlay hrd hwl hlo
  have KX := km_in_of Y
  have hT8 := km_tabs_of Y
  have X := (Ground.X G).1
  have V := (Ground.X G).2
  refine Ground.open G ?_
  intro T B D TE TW
  try (refine guard_noD D (by decide +kernel) ?_; clear D)
  have hT9 : TabsAt [(144, 140), (151, 147)] _ := List.forall_mem_cons.mpr ⟨⟨codeHd_of_K (c := 144) (P := 140) KX (by kernel_rfl), hT8 140 (by k_mem)⟩, List.forall_mem_cons.mpr ⟨⟨codeHd_of_K (c := 151) (P := 147) KX (by kernel_rfl), hT8 147 (by k_mem)⟩, fun _ h => nomatch h⟩⟩
  clear hmg
  wrow_args hpre hlay hrd hwl hlo
  all_goals (
    first | refine callC_kw (enter_call ?_) | refine enter_call ?_
    w_top on
    w_call any ho hd hcd hD T F
    clear hd
    kn_ghosts F T
    k_drop
    skip)
  all_goals (
    have H := @Mine.law_body
    unfold Mine.lawEnv Mine.lawScope Mine.lawBody Mine.lawLit at H
    dsimp only at H
    refine' H _ _ _ _ _ _ _ _ _ ?kB ?kX ?kT ?kE _ _ _ _ ?kF ?kN ?kl ?ki ?kn ?ko ?kg ?kr
    clear H
    (case kF => (refine' Mine.fr_by (Mine.pin_self ?h1 rfl) ?h2; (case h2 => assumption); (case h1 => with_unfolding_all rfl)))
    (case kB => assumption)
    (case kX => assumption)
    (case kT => assumption)
    (case kE => with_unfolding_all passes_own)
    (case kN => assumption)
    (case ki => assumption)
    (case kl => assumption)
    (case ko => (with_unfolding_all assumption))
    (case kg => exact AllBare.of_eq hg)
    (case kn => omega)
    (case kr => (intro tb9 ub9 h9 tk9 gs9 m9 G9 F9 N9; refine' Mine.end_true hT9 F9.keep ?g1 G9 rfl ?g3 ?g4; (case g1 => exact List.forall_mem_cons.mpr ⟨⟨_, (N9 _ (.head _)).1⟩, List.forall_mem_cons.mpr ⟨⟨_, (N9 _ (.tail _ (.head _))).1⟩, List.forall_mem_nil _⟩⟩); (case g3 => (intro _; rfl)); (case g4 => wrow_post))))
