import PyProof.Rows.All
import Wide.All
import OpenK.AllK
import Wide.FinOn
import PySem.Challenge.RW_yh0010_01
open PySem PySem.Spec PySem.Calls PySem.W PyProof.Rows Builtin
set_option Elab.async false
set_option rowWalk.seconds 0
set_option maxRecDepth 100000
set_option maxHeartbeats 4000000
namespace Mine
def kept : List Stmt → List Stmt
  | [a0, _, a2, a3, a4, _, a6, a7, _, a9, a10, a11, a12, a13, a14, _, _, a17, a18, a19, a20, a21, a22, a23, a24, a25] => [a0, a2, a3, a4, a6, a7, a9, a10, a11, a12, a13, a14, a17, a18, a19, a20, a21, a22, a23, a24, a25]
  | _ => []
noncomputable def view : Program := { PySem.Challenge.pw_yh0010_01 with main := { PySem.Challenge.pw_yh0010_01.main with body := kept PySem.Challenge.pw_yh0010_01.main.body } }
abbrev looseN : List Str := [Str.ofString "UNKNOWN", Str.ofString "_Accumulator", Str.ofString "length_hint"]
set_option hygiene false in
local macro_rules | `(tactic| o_head (kmHook $_ $_ $_ $_)) => `(tactic| exact given)
/-- lays the written part of the heap (pre.heap_1) and nothing else -/
theorem pre (given : PySem.Challenge.rw_yh0010_01.row.Holds) : PySem.Challenge.rw_yh0010_01.row.Holds := by k_head
abbrev asL : List Addr := [2,3,15,17,18,20,21,29,31,32,34,35,36,37,38,39,40,43,44,45,47,48,50,51,52,55,60,61,62,64,65,67,68,69,71,72,74,75,76,77,79,80,82,83,84,85,87,88,90,91,92,94,95,97,98,99,101,102,104,105,106,107,109,110,112,113,114,116,117,119,120,121,122,124,125,127,128,129,130,131,132,133,136,138,139,141,142,143,145,146,148,149,150,152,153,155,156,157,159,160,162,163,164,166,167,169,170,171,173,174,176,177,178,179,181,182,184,185,186,188,189,191,192,193,195,196,198,199,200,202,203,205,206,207,210,211,212,214,215,217,218,219,221,222,224,225,226,228,229,231,232,233,235,236,238,239,240,243,244]
theorem asL_eq : ∀ P : Params, asL = (pre.heap_1 P).map (·.1) := fun P => by kernel_rfl
theorem wellSaid : PySem.Challenge.rw_yh0010_01.wellSaid = true := by
  first
    | (rw [PySem.W.Fast.te9446332074065402090]; kernel_rfl)
    | kernel_rfl
theorem left : LeftO PySem.Challenge.rw_yh0010_01.row.prog view [Str.ofString "UNKNOWN", Str.ofString "_Accumulator", Str.ofString "length_hint"] (fun s => xlAt view [] s && recOk (RowW.records PySem.Challenge.rw_yh0010_01.row.toRowW) s) (Hook.obs (kmHook pre.heap_1 asL asL_eq [213, 100, 93])) (Hook.val (kmHook pre.heap_1 asL asL_eq [213, 100, 93])) 2884 := fun w => by
  first
    | (unfold openEnds fencedOpening topFrom
       rw [PySem.W.Fast.te14082659384304107361, PySem.W.Fast.te14364793385576792824, PySem.W.Fast.te4187177175401517315, PySem.W.Fast.te10274390034422433532, PySem.W.Fast.te14289696077712309145, PySem.W.Fast.te1435165496053646825]
       kernel_rfl)
    | kernel_rfl
local macro_rules | `(tactic| k_head) => `(tactic| (refine holds_open (q := view) (loose := [Str.ofString "UNKNOWN", Str.ofString "_Accumulator", Str.ofString "length_hint"]) (Xt := (fun s => xlAt view [] s && recOk (RowW.records PySem.Challenge.rw_yh0010_01.row.toRowW) s)) (XP := XL view []) (Yf := Hook.obs (kmHook pre.heap_1 asL asL_eq [213, 100, 93])) (Ya := Hook.val (kmHook pre.heap_1 asL asL_eq [213, 100, 93])) (YP := Hook.says (kmHook pre.heap_1 asL asL_eq [213, 100, 93])) (N := 2884) left (Hook.of (kmHook pre.heap_1 asL asL_eq [213, 100, 93])) (Hook.keeps (kmHook pre.heap_1 asL asL_eq [213, 100, 93])) (fun s e => xl_of s (Bool.and_eq_true_iff.mp e).1) XL.keeps (by rfl) (by rfl) (by rfl) (fun s e => recFacts_of (Bool.and_eq_true_iff.mp e).2) (by rfl) (by first | assumption | decide +kernel) (by decide +kernel) ⟨rfl, rfl, rfl, rfl, rfl, by decide +kernel⟩ ?hw ?hc))
local macro_rules | `(tactic| o_law) => `(tactic| refine holds_law wellSaid fun said => ?_)
set_option maxHeartbeats 8000000 in
open_top hd for PySem.Challenge.rw_yh0010_01
theorem fillIt (w : World) : PySem.Challenge.rw_yh0010_01 = PySem.Challenge.rw_yh0010_01 ∧ pre.heap_1 w.params = pre.heap_1 w.params := by
  k_fill
  w_top off
  exact ⟨rfl, rfl⟩
local macro_rules
  | `(tactic| walk_at $s:str) => do
    let x := s.getString
    if x.startsWith "R " then
      match (x.splitOn " ").drop 1 with
      | f :: as =>
        let as ← as.toArray.mapM fun a => do
          if a == "_" then `(term| ?_) else
            let n ← Lean.Macro.addMacroScope (Lean.Name.mkSimple a)
            `(term| ?$(Lean.mkIdent n):ident)
        `(tactic| refine' $(Lean.mkIdent f.toName) $as*)
      | [] => Lean.Macro.throwUnsupported
    else `(tactic| k_extra $(Lean.Syntax.mkStrLit ("own " ++ x)))
-- Acc
abbrev accObj (dx : Addr) (items : Array Value) (ep : Nat) : Obj := { cls := .ref 131, dict := some dx, data := .seq items ep, slots := #[] }
abbrev sizeDict (hsh : Int) (t : Tok) (v : Value) (n : Nat) : Obj := dictOf [⟨hsh, .str (Str.ofString "_initial_size") t, v⟩] n
theorem instAcc {h₀ h : Heap} {L x dx : Addr} {items : Array Value} {ep : Nat} {news : List (Addr × Obj)} {od : Obj} (N : News h₀ L h news) (h1 : (x, accObj dx items ep) ∈ news) (h2 : (dx, od) ∈ news) :
    InstAt h x (accObj dx items ep) 131 (some od) := ⟨(N _ h1).1, rfl, rfl, (N _ h2).1⟩
section
variable {prog : Program} {w : World} {A : Around} {E : Value → Shared → Prop} {s : Shared} {K : Frag} {C x dx L : Addr} {h₀ : Heap} {m : Str → Option Value} {ox : Obj} {od : Option Obj} {name : Str} {pl : Sem Bool}
  {news news' : List (Addr × Obj)} {items : Array Value} {ep : Nat}
/-- a built-in method of list, found from an object of a list's own subclass -/
theorem canon_list_ga : Manifest.canonical "list.__getattribute__" = "object.__getattribute__" := by decide +kernel
theorem method_bi {id : String} {Q : Value × List Value → Shared → Prop} (X : K.In s.heap) (I : InstAt s.heap x ox C od) (hga : findIn K (.ref C) "__getattribute__" = some (some (.builtin "list.__getattribute__"))) (hk : findIn K (.ref C) "__getattr__" = some none)
    (hf : findIn K (.ref C) name = some (some (.builtin id))) (ht : typeIn K (.builtin id) = some (.type "method_descriptor")) (hs : shadowIn od name = some false) (h : Q (.builtin id, [.ref x]) s) :
    wpAny (model prog w) A (getMethod (.ref x) name pl) Q E s := by
  have hcan := canon_list_ga
  unfold getMethod specialOf
  refine wpAny_bind (wpAny_bind (I.type.here ((looks_findIn X hga).here ?_)))
  dsimp only
  rw [hcan, if_neg (by decide)]
  refine wpAny_bind (wpAny_bind (I.type.here ((looks_findIn X hk).here ?_)))
  refine wpAny_bind (wpAny_bind (I.type.here ((looks_findIn X hf).here (wpAny_bind ((looks_typeIn X ht).here ?_)))))
  rw [if_neg (by decide +kernel)]
  refine wpAny_bind (wpAny_loadPart I.at_ ?_)
  have hd := I.dict
  cases e : ox.dict with
  | none => exact wpAny_bind (wpAny_rule (wpAny_pure h))
  | some dx =>
    cases od with
    | none => rw [e] at hd; exact hd.elim
    | some o =>
      rw [e] at hd
      obtain ⟨r, a, b⟩ := Option.map_eq_some_iff.mp hs
      refine wpAny_bind (wpAny_bind (wpAny_loadPart hd ?_))
      rw [nsLook_of a]
      refine wpAny_pure ?_
      rw [b]
      exact wpAny_bind (wpAny_rule (wpAny_pure h))
theorem method_fnA {f : Addr} {Q : Value × List Value → Shared → Prop} (X : K.In s.heap) (I : InstAt s.heap x ox C od) (hga : findIn K (.ref C) "__getattribute__" = some (some (.builtin "list.__getattribute__"))) (hk : findIn K (.ref C) "__getattr__" = some none)
    (hf : findIn K (.ref C) name = some (some (.ref f))) (ht : typeIn K (.ref f) = some (.type "function")) (hs : shadowIn od name = some false) (h : Q (.ref f, [.ref x]) s) :
    wpAny (model prog w) A (getMethod (.ref x) name pl) Q E s := by
  have hcan := canon_list_ga
  unfold getMethod specialOf
  refine wpAny_bind (wpAny_bind (I.type.here ((looks_findIn X hga).here ?_)))
  dsimp only
  rw [hcan, if_neg (by decide)]
  refine wpAny_bind (wpAny_bind (I.type.here ((looks_findIn X hk).here ?_)))
  refine wpAny_bind (wpAny_bind (I.type.here ((looks_findIn X hf).here (wpAny_bind ((looks_typeIn X ht).here ?_)))))
  rw [if_neg (by decide +kernel)]
  refine wpAny_bind (wpAny_loadPart I.at_ ?_)
  have hd := I.dict
  cases e : ox.dict with
  | none => exact wpAny_bind (wpAny_rule (wpAny_pure h))
  | some dx =>
    cases od with
    | none => rw [e] at hd; exact hd.elim
    | some o =>
      rw [e] at hd
      obtain ⟨r, a, b⟩ := Option.map_eq_some_iff.mp hs
      refine wpAny_bind (wpAny_bind (wpAny_loadPart hd ?_))
      rw [nsLook_of a]
      refine wpAny_pure ?_
      rw [b]
      exact wpAny_bind (wpAny_rule (wpAny_pure h))
theorem check_inst {M : Model} {i owner n : String} {self : Value} {rest : List Value} {Q : Unit → Shared → Prop}
    (hk : builtinKind i = some .slot ∨ builtinKind i = some .method) (hs : splitId i = some (owner, n)) (hi : Looks M s.heap (isInstance self (.type owner)) true) (ha : argsOk i ⟨self :: rest, []⟩) (q : Q () s) :
    wpAny M A (checkBuiltinCall i ⟨self :: rest, []⟩) Q E s := by
  rcases hk with hk | hk
  · exact check_slot hk hs hi ha q
  · simp only [checkBuiltinCall, hk, hs]
    refine wpAny_bind (hi.here ?_)
    simp only [Bool.not_true, Bool.false_eq_true, if_false]
    cases hsig : Manifest.signature? i with
    | none => exact wpAny_pure q
    | some sig =>
      simp only [argsOk, hsig] at ha
      have h2 : Bind.checkArgs i sig ⟨self :: rest, []⟩ = pure () := ha
      show wpAny M A (Bind.checkArgs i sig ⟨self :: rest, []⟩) Q E s
      rw [h2]; exact wpAny_pure q
/-- a built-in of list called upon an object of a subclass -/
theorem call_inst {id owner n : String} {B : Builtin} {self : Value} {rest : List Value} {Q : Value → Shared → Prop}
    (hk : builtinKind id = some .slot ∨ builtinKind id = some .method) (hs : splitId id = some (owner, n)) (hi : Looks (model prog w) s.heap (isInstance self (.type owner)) true)
    (ha : argsOk id ⟨self :: rest, []⟩) (plain : plainId id = true) (entry : entryFor table id = some B)
    (h : wpAny (model prog w) A.in1 (B ⟨self :: rest, []⟩) (fun fin s' => ∃ v, fin = .done (.ret v) ∧ Q v s') E s) :
    wpAny (model prog w) A (call (.builtin id) (self :: rest)) Q E s := by
  refine wpAny_call (codeAny_call_builtin plain entry (check_inst hk hs hi ha ?_))
  refine wpAny_mono h (fun fin s' hq => ?_) fun _ _ z => z
  obtain ⟨v, rfl, hq⟩ := hq
  exact hq
theorem kind_append : builtinKind "list.append" = some .slot ∨ builtinKind "list.append" = some .method := by first | exact .inl (by decide +kernel) | exact .inr (by decide +kernel)
theorem split_append : splitId "list.append" = some ("list", "append") := by decide +kernel
theorem inst_list (X : K.In s.heap) (I : InstAt s.heap x ox C od) (hm : mroIn K C (.type "list") = some true) : Looks (model prog w) s.heap (isInstance (.ref x) (.type "list")) true :=
  I.type.andThen (looks_mroIn X hm)
theorem append_acc {v : Value} {Q : Value → Shared → Prop} (hi : Looks (model prog w) s.heap (isInstance (.ref x) (.type "list")) true) (hx : s.heap.get? x = some (accObj dx items ep)) (hz : items.size ≤ 1000)
    (h : ∀ h', Heap.SameBut x s.heap h' → h'.get? x = some (accObj dx (items.push v) (ep + 1)) → Q .none { s with heap := h' }) :
    wpAny (model prog w) A (call (.builtin "list.append") [.ref x, v]) Q E s := by
  refine call_inst kind_append split_append hi (PySem.F.args_list_append_2 _ _) PySem.F.slot_list_append.plain PySem.F.entry_list_append ?_
  show wpAny _ _ (updateSeq x (·.push v) >>= fun _ => ret .none) _ _ s
  refine wpAny_bind ?_
  refine wpAny_updateSeq hx rfl (wpAny_pure ⟨.none, rfl, h _ (Heap.SameBut.update ..) ?_⟩) (by rw [sizeLine_eq]; omega) (by rw [Array.size_push, sizeLine_eq]; omega)
  rw [Heap.get?_update_self _ hx (by rfl)]
  show some (Obj.mapSeq (·.push v) _) = _
  unfold Obj.mapSeq
  simp
theorem method_biN {id : String} {dd : Obj} {Q : Value × List Value → Shared → Prop} (F : Fr h₀ L s.heap m) (X₀ : K.In h₀) (N : News h₀ L s.heap news) (h1 : (x, accObj dx items ep) ∈ news) (h2 : (dx, dd) ∈ news)
    (hga : findIn K (.ref 131) "__getattribute__" = some (some (.builtin "list.__getattribute__"))) (hk : findIn K (.ref 131) "__getattr__" = some none)
    (hf : findIn K (.ref 131) name = some (some (.builtin id))) (ht : typeIn K (.builtin id) = some (.type "method_descriptor")) (hs : shadowIn (some dd) name = some false) (h : Q (.builtin id, [.ref x]) s) :
    wpAny (model prog w) A (getMethod (.ref x) name pl) Q E s := method_bi (X₀.keeps F.keep) (instAcc N h1 h2) hga hk hf ht hs h
theorem method_fnN {f : Addr} {dd : Obj} {Q : Value × List Value → Shared → Prop} (F : Fr h₀ L s.heap m) (X₀ : K.In h₀) (N : News h₀ L s.heap news) (h1 : (x, accObj dx items ep) ∈ news) (h2 : (dx, dd) ∈ news)
    (hga : findIn K (.ref 131) "__getattribute__" = some (some (.builtin "list.__getattribute__"))) (hk : findIn K (.ref 131) "__getattr__" = some none)
    (hf : findIn K (.ref 131) name = some (some (.ref f))) (ht : typeIn K (.ref f) = some (.type "function")) (hs : shadowIn (some dd) name = some false) (h : Q (.ref f, [.ref x]) s) :
    wpAny (model prog w) A (getMethod (.ref x) name pl) Q E s := method_fnA (X₀.keeps F.keep) (instAcc N h1 h2) hga hk hf ht hs h
theorem append_accN {v : Value} {Q : Value → Shared → Prop} {dd : Obj} (F : Fr h₀ L s.heap m) (X₀ : K.In h₀) (N : News h₀ L s.heap news) (h2 : (dx, dd) ∈ news) (hm : mroIn K 131 (.type "list") = some true)
    (U : Upd x (accObj dx items ep) (accObj dx (items.push v) (ep + 1)) news news') (hz : items.size ≤ 1000)
    (h : ∀ h', Fr h₀ L h' m → News h₀ L h' news' → Q .none { s with heap := h' }) :
    wpAny (model prog w) A (call (.builtin "list.append") [.ref x, v]) Q E s := by
  obtain ⟨pre, post, rfl, rfl, a, b⟩ := U.split
  have z := N (x, accObj dx items ep) (List.mem_append.mpr (.inr (.head _)))
  exact append_acc (inst_list (X₀.keeps F.keep) (instAcc N (List.mem_append.mpr (.inr (.head _))) h2) hm) z.1 hz fun h' hs ho' => h h' (F.change hs z.2.1 z.2.2) (news_set N a b hs ho')
end
abbrev boundObj (bt : String) (id : String) (x : Addr) : Obj := { cls := .type bt, dict := none, data := .fields #[.builtin id, .ref x], slots := #[] }
theorem slot_wd_get : Slot "wrapper_descriptor" "__get__" "wrapper_descriptor.__get__" := .of (owner := "wrapper_descriptor") (n := "__get__") (by rw [typeLookup_type, builtinLookup_eq_fast]; kernel_rfl) (by decide +kernel) (by decide +kernel) (by decide +kernel)
  (by first | exact .inl (by decide +kernel) | exact .inr (by decide +kernel)) (by rw [isSubtype_type]; kernel_rfl)
theorem entry_wd_get : entryFor table "wrapper_descriptor.__get__" = some Builtin.«wrapper_descriptor.__get__» := entryFor_of_tree (by kernel_rfl)
theorem args_wd_get (a b c : Value) : argsOk "wrapper_descriptor.__get__" ⟨[a, b, c], []⟩ := by unfold argsOk; kernel_rfl
theorem slot_md_get : Slot "method_descriptor" "__get__" "method_descriptor.__get__" := .of (owner := "method_descriptor") (n := "__get__") (by rw [typeLookup_type, builtinLookup_eq_fast]; kernel_rfl) (by decide +kernel) (by decide +kernel) (by decide +kernel)
  (by first | exact .inl (by decide +kernel) | exact .inr (by decide +kernel)) (by rw [isSubtype_type]; kernel_rfl)
theorem entry_md_get : entryFor table "method_descriptor.__get__" = some Builtin.«method_descriptor.__get__» := entryFor_of_tree (by kernel_rfl)
theorem args_md_get (a b c : Value) : argsOk "method_descriptor.__get__" ⟨[a, b, c], []⟩ := by unfold argsOk; kernel_rfl
section
variable {prog : Program} {w : World} {A : Around} {E : Value → Shared → Prop} {s : Shared} {K : Frag} {C x dx L : Addr} {h₀ : Heap} {m : Str → Option Value} {name : Str} {pl : Sem Bool}
  {news news' : List (Addr × Obj)} {items : Array Value} {ep : Nat} {h : Heap} {g : Array GenState} {d : Drawn} {t : Nat} {os : OsState}
theorem wd_tree (id : String) (hid : id = "list.__len__" ∨ id = "list.__init__") : ∃ bad : Sem Unit, Builtin.«wrapper_descriptor.__get__» ⟨[.builtin id, .ref x, .ref C], []⟩ = ((isInstance (.ref x) (.type "list") >>= fun b => if !b then bad else pure ()) >>= fun _ => newFields "method-wrapper" [.builtin id, .ref x] >>= fun v => ret v) := by
  rcases hid with rfl | rfl <;> exact ⟨_, by with_unfolding_all rfl⟩
theorem md_tree : ∃ bad : Sem Unit, Builtin.«method_descriptor.__get__» ⟨[.builtin "list.pop", .ref x, .ref C], []⟩ = ((isInstance (.ref x) (.type "list") >>= fun b => if !b then bad else pure ()) >>= fun _ => newFields "builtin_function_or_method" [.builtin "list.pop", .ref x] >>= fun v => ret v) :=
  ⟨_, by with_unfolding_all rfl⟩
theorem wd_get_run {Q : Fin → Shared → Prop} (id : String) (hid : id = "list.__len__" ∨ id = "list.__init__") (hi : Looks (model prog w) h (isInstance (.ref x) (.type "list")) true)
    (hq : Q (.done (.ret (.ref h.objs.size))) ⟨h.push (boundObj "method-wrapper" id x), g, d, t, os⟩) :
    wpAny (model prog w) A (Builtin.«wrapper_descriptor.__get__» ⟨[.builtin id, .ref x, .ref C], []⟩) Q E ⟨h, g, d, t, os⟩ := by
  obtain ⟨bad, e⟩ := wd_tree (x := x) (C := C) id hid
  rw [e]
  refine wpAny_bind (wpAny_bind (Looks.at hi ?_))
  simp only [Bool.not_true, Bool.false_eq_true, if_false]
  refine wpAny_pure ?_
  unfold newFields
  refine wpAny_bind (wpAny_newObj_type ?_ (by size_fits))
  exact wpAny_pure hq
theorem md_get_run {Q : Fin → Shared → Prop} (hi : Looks (model prog w) h (isInstance (.ref x) (.type "list")) true)
    (hq : Q (.done (.ret (.ref h.objs.size))) ⟨h.push (boundObj "builtin_function_or_method" "list.pop" x), g, d, t, os⟩) :
    wpAny (model prog w) A (Builtin.«method_descriptor.__get__» ⟨[.builtin "list.pop", .ref x, .ref C], []⟩) Q E ⟨h, g, d, t, os⟩ := by
  obtain ⟨bad, e⟩ := md_tree (x := x) (C := C)
  rw [e]
  refine wpAny_bind (wpAny_bind (Looks.at hi ?_))
  simp only [Bool.not_true, Bool.false_eq_true, if_false]
  refine wpAny_pure ?_
  unfold newFields
  refine wpAny_bind (wpAny_newObj_type ?_ (by size_fits))
  exact wpAny_pure hq
/-- what a lookup through super() answers for a built-in of list: the bound thing -/
theorem super_ga_bi {so D : Addr} {id T gid bt : String} {G : Builtin} {l₀ l : List Value} {tk : Tok} {Q : Fin → Shared → Prop}
    (hso : h.get? so = some { cls := .type "super", dict := none, data := .fields #[.ref D, .ref x, .ref C], slots := #[] }) (hno : Looks (model prog w) h (opaqueClassAbove (.ref C)) none)
    (hC : Looks (model prog w) h (mroOf (.ref C)) l₀) (hl : (l₀.dropWhile (· != .ref D)).drop 1 = l) (X : K.In h)
    (hf : alongIn K name l = some (some (.builtin id))) (hT : typeOf (.builtin id) = pure (.type T)) (S : Slot T "__get__" gid) (en : entryFor table gid = some G) (ar : ∀ a b c, argsOk gid ⟨[a, b, c], []⟩)
    (hxC : x ≠ C) (hn : (name == ("__class__" : Str)) = false)
    (hg : ∀ {A' : Around} {E' : Value → Shared → Prop} {Q' : Fin → Shared → Prop}, Q' (.done (.ret (.ref h.objs.size))) ⟨h.push (boundObj bt id x), g, d, t, os⟩ → wpAny (model prog w) A' (G ⟨[.builtin id, .ref x, .ref C], []⟩) Q' E' ⟨h, g, d, t, os⟩)
    (hq : Q (.done (.ret (.ref h.objs.size))) ⟨h.push (boundObj bt id x), g, d, t, os⟩) :
    wpAny (model prog w) A (Builtin.«super.__getattribute__» ⟨[.ref so, .str name tk], []⟩) Q E ⟨h, g, d, t, os⟩ := by
  have hlk := S.lookup
  have hne : (Value.ref x == Value.ref C) = false := by simp [hxC]
  have hTf : (⟨h, g, d, t, os⟩ : Shared).TypeIs (.builtin id) T := hT
  have hdt : ({ cls := .type "super", dict := none, data := .fields #[.ref D, .ref x, .ref C], slots := #[] } : Obj).data = .fields #[.ref D, .ref x, .ref C] := rfl
  have f0 : (#[.ref D, .ref x, .ref C] : Array Value)[0]? = some (.ref D) := rfl
  have f1 : (#[.ref D, .ref x, .ref C] : Array Value)[1]? = some (.ref x) := rfl
  have f2 : (#[.ref D, .ref x, .ref C] : Array Value)[2]? = some (.ref C) := rfl
  unfold Builtin.«super.__getattribute__»
  repeat (first
    | (with_reducible refine wpAny_field hso hdt f0 ?_) | (with_reducible refine wpAny_field hso hdt f1 ?_) | (with_reducible refine wpAny_field hso hdt f2 ?_)
    | (with_reducible refine ks_wpAny_notOpaque hno ?_)
    | (with_reducible refine Looks.at hC ?_; rw [hl])
    | (refine ks_forIn_along X (fun _ _ => rfl) rfl ?_ hf)
    | (with_reducible refine wpAny_typeOf hTf ?_)
    | (with_reducible refine wpAny_call_entry S hTf en ?_ (ar _ _ _))
    | (refine hg ?_)
    | (with_reducible refine ⟨_, rfl, ?_⟩)
    | (simp only [hn, hne, Bool.or_false, Bool.false_eq_true, if_false])
    | wp_step
    | dsimp only)
  all_goals exact hq
end
theorem type_len : typeOf (.builtin "list.__len__") = pure (.type "wrapper_descriptor") := by show builtinType _ = _; rw [builtinType_eq_fast]; kernel_rfl
theorem type_init : typeOf (.builtin "list.__init__") = pure (.type "wrapper_descriptor") := by show builtinType _ = _; rw [builtinType_eq_fast]; kernel_rfl
theorem type_pop : typeOf (.builtin "list.pop") = pure (.type "method_descriptor") := PySem.F.type_list_pop
section
variable {prog : Program} {w : World} {A : Around} {E : Value → Shared → Prop} {s : Shared} {K : Frag} {C D x dx L so q : Addr} {h₀ : Heap} {m : Str → Option Value} {name : Str} {pl : Sem Bool}
  {news news' : List (Addr × Obj)} {items : Array Value} {ep : Nat} {h : Heap} {g : Array GenState} {d : Drawn} {t : Nat} {os : OsState} {ox : Obj} {od : Option Obj}
theorem getMethod_super_bi {id T gid bt : String} {G : Builtin} {l₀ l : List Value} {Q : Value × List Value → Shared → Prop}
    (hso : h.get? so = some { cls := .type "super", dict := none, data := .fields #[.ref D, .ref x, .ref C], slots := #[] }) (hno : Looks (model prog w) h (opaqueClassAbove (.ref C)) none)
    (hC : Looks (model prog w) h (mroOf (.ref C)) l₀) (hl : (l₀.dropWhile (· != .ref D)).drop 1 = l) (X : K.In h)
    (hf : alongIn K name l = some (some (.builtin id))) (hT : typeOf (.builtin id) = pure (.type T)) (S : Slot T "__get__" gid) (en : entryFor table gid = some G) (ar : ∀ a b c, argsOk gid ⟨[a, b, c], []⟩)
    (hxC : x ≠ C) (hn : (name == ("__class__" : Str)) = false)
    (hg : ∀ {t' : Nat} {A' : Around} {E' : Value → Shared → Prop} {Q' : Fin → Shared → Prop}, Q' (.done (.ret (.ref h.objs.size))) ⟨h.push (boundObj bt id x), g, d, t', os⟩ → wpAny (model prog w) A' (G ⟨[.builtin id, .ref x, .ref C], []⟩) Q' E' ⟨h, g, d, t', os⟩)
    (hq : Q (.ref h.objs.size, []) ⟨h.push (boundObj bt id x), g, d, t + 1, os⟩) :
    wpAny (model prog w) A (getMethod (.ref so) name pl) Q E ⟨h, g, d, t, os⟩ := by
  have hlk := F.ks_slot_super_ga.lookup
  have hcan := F.ks_canon_super_ga
  have hT' : ∀ t', (⟨h, g, d, t', os⟩ : Shared).TypeIs (.ref so) "super" := fun _ => ⟨_, hso, rfl⟩
  unfold getMethod
  refine wpAny_bind (wpAny_specialOf (hT' _) hlk ?_)
  show wpAny _ _ (if (Manifest.canonical "super.__getattribute__" != "object.__getattribute__") = true then _ else _) _ _ _
  rw [if_pos hcan]
  unfold getAttr getAttrBy
  refine wpAny_bind (wpAny_bind (wpAny_mkText (wpAny_holding (wpAny_bind (wpAny_typeOf (hT' _) (wpAny_bind (wpAny_of_eq hlk ?_)))))))
  show wpAny _ _ (getAttrByItsOwn (.ref so) (.str name t) (.type "super") (.builtin "super.__getattribute__") true false) _ _ _
  unfold getAttrByItsOwn hookBefore callGetattribute boundAndCalled
  refine wpAny_bind (wpAny_of_eq (show (if onTheHeap (.type "super") then typeLookup (.type "super") "__getattr__" else pure none) = pure none from rfl) ?_)
  refine wpAny_bind (wpAny_attempt (wpAny_holding ?_))
  show wpAny _ _ (bindSpecial (.builtin "super.__getattribute__") (.ref so) >>= _) _ _ _
  refine wpAny_bind (wpAny_of_eq (F.ks_slot_super_ga.bind _) ?_)
  refine wpAny_mono (Q := fun v s' => v = .ref h.objs.size ∧ s' = ⟨h.push (boundObj bt id x), g, d, t + 1, os⟩) (E := fun _ _ => False)
    (wpAny_call_entry F.ks_slot_super_ga (hT' _) F.ks_entry_super_ga (super_ga_bi hso hno hC hl X hf hT S en ar hxC hn hg ⟨_, rfl, rfl, rfl⟩) (F.ks_gaArgs_super _ _)) (fun v s' hv => ?_) fun _ _ z => z.elim
  obtain ⟨rfl, rfl⟩ := hv
  exact wpAny_pure (wpAny_pure hq)
theorem super_biN {id T gid bt : String} {G : Builtin} {Q : Value × List Value → Shared → Prop} (F : Fr h₀ L s.heap m) (X₀ : K.In h₀) (N : News h₀ L s.heap news) (hso : (so, ks_superObj D x C) ∈ news) (I : InstAt s.heap x ox C od) (ho : nsIn K cStatics "thirdparty.any" = some none)
    (hm : ks_superIn K C D name = some (some (.builtin id))) (hT : typeOf (.builtin id) = pure (.type T)) (S : Slot T "__get__" gid) (en : entryFor table gid = some G) (ar : ∀ a b c, argsOk gid ⟨[a, b, c], []⟩) (hn : (name == ("__class__" : Str)) = false)
    (hg : ∀ {s' : Shared} {A' : Around} {E' : Value → Shared → Prop} {Q' : Fin → Shared → Prop}, Looks (model prog w) s'.heap (isInstance (.ref x) (.type "list")) true → Q' (.done (.ret (.ref s'.heap.objs.size))) { s' with heap := s'.heap.push (boundObj bt id x) } → wpAny (model prog w) A' (G ⟨[.builtin id, .ref x, .ref C], []⟩) Q' E' s')
    (hl : mroIn K C (.type "list") = some true)
    (k : ∀ q h', Fr h₀ L h' m → News h₀ L h' ((q, boundObj bt id x) :: news) → (∀ p ∈ news, p.1 < q) → Q (.ref q, []) { s with heap := h', toks := s.toks + 1 }) : wpAny (model prog w) A (getMethod (.ref so) name pl) Q E s := by
  have X : K.In s.heap := X₀.keeps F.keep
  obtain ⟨hh, g, d, t, os⟩ := s
  have hi : Looks (model prog w) hh (isInstance (.ref x) (.type "list")) true := inst_list X I hl
  cases hc : clsIn K C with
  | none => unfold ks_superIn at hm; rw [hc] at hm; cases hm
  | some cd =>
    unfold ks_superIn at hm
    rw [hc] at hm
    refine getMethod_super_bi (l₀ := cd.mro) (N _ hso).1 (looks_opaque X ho) ?_ rfl X hm hT S en ar (ks_ne X I hc) hn (fun {t'} {A'} {E'} {Q'} q => hg (s' := ⟨hh, g, d, t', os⟩) hi q) ?_
    · exact fun A Q E s k q => wpAny_bind ((looks_clsIn X hc) A _ E s k (wpAny_pure q))
    · obtain ⟨F', N', l'⟩ := ks_newsPush (s := ⟨hh, g, d, t, os⟩) (o := boundObj bt id x) F N rfl (Heap.get?_push_at rfl rfl) (fun b o e => Heap.get?_push_of_some _ e)
      exact k _ _ F' N' l'
theorem callWith_bound0 {bt id : String} {pos : Pos} {env : Env} {M : Model} {Q : Value → Shared → Prop} (N : News h₀ L s.heap news) (hq : (q, boundObj bt id x) ∈ news) (hb : bt = "method-wrapper" ∨ bt = "builtin_function_or_method")
    (k : wpAny M A (call (.ref q) []) Q E s) : wpAny M A (callWith pos (.ref q) [] (backTo pos (starEach [] env)) []) Q E s := by
  refine callWith_of (P := fun h => h.get? q = some (boundObj bt id x)) rfl (fun h e => ⟨.machine, .inr (.inl rfl), ?_⟩) (evalArgs_nil3 ⟨(N _ hq).1, k⟩)
  refine (Looks.ld (part := none) e).andThen ?_
  rcases hb with rfl | rfl <;> exact Looks.of_pure (by kernel_rfl)
theorem call_bound {bt id : String} {B : Builtin} {Q : Value → Shared → Prop} (hq : s.heap.get? q = some (boundObj bt id x)) (hb : bt = "method-wrapper" ∨ bt = "builtin_function_or_method")
    (hc : ∀ {A' : Around} {E' : Value → Shared → Prop} {Q' : Unit → Shared → Prop}, Q' () s → wpAny (model prog w) A' (checkBoundCall id ⟨[.ref x], []⟩) Q' E' s) (plain : plainId id = true) (en : entryFor table id = some B)
    (k : wpAny (model prog w) A.in1 (B ⟨[.ref x], []⟩) (fun fin s' => ∃ v, fin = .done (.ret v) ∧ Q v s') E s) : wpAny (model prog w) A (call (.ref q) []) Q E s := by
  refine wpAny_call (codeAny_of_tree ?_)
  show wpAny _ A.in1 (callAny (.ref q) ⟨[], []⟩) _ _ _
  unfold callAny
  refine wpAny_bind (wpAny_load hq ?_)
  have fin : wpAny (model prog w) A.in1 (checkBoundCall id ⟨[.ref x], []⟩ >>= fun _ => again (.builtin id ⟨[.ref x], []⟩)) (fun fin s' => match fin with | .done f => (match Except.ok f with | .ok (.ret v) => Q v s' | .ok _ => False | .error e => E e s' : Prop) | .again c' => c'.quiet = true ∧ codeAny (model prog w) A c' (fun r s' => match r with | .ok (.ret v) => Q v s' | .ok _ => False | .error e => E e s') s') (fun e s' => E e s') s := by
    refine wpAny_bind (hc (wpAny_pure ⟨plainId_quiet plain _, codeAny_builtin en ?_⟩))
    rw [Around.under_plainId plain _]
    refine wpAny_mono k (fun fin s' hq => ?_) fun _ _ z => z
    obtain ⟨v, rfl, hq⟩ := hq
    exact hq
  rcases hb with rfl | rfl <;> exact fin
end
section
variable {prog : Program} {w : World} {A : Around} {E : Value → Shared → Prop} {s : Shared} {K : Frag} {C D x dx L so q : Addr} {h₀ : Heap} {m : Str → Option Value} {name : Str} {pl : Sem Bool}
  {news news' : List (Addr × Obj)} {items : Array Value} {ep : Nat} {od : Obj}
theorem super_slot {id : String} (hid : id = "list.__len__" ∨ id = "list.__init__") {Q : Value × List Value → Shared → Prop} (F : Fr h₀ L s.heap m) (X₀ : K.In h₀) (N : News h₀ L s.heap news) (hso : (so, ks_superObj 131 x 131) ∈ news)
    (h1 : (x, accObj dx items ep) ∈ news) (h2 : (dx, od) ∈ news) (ho : nsIn K cStatics "thirdparty.any" = some none)
    (hm : ks_superIn K 131 131 name = some (some (.builtin id))) (hl : mroIn K 131 (.type "list") = some true) (hn : (name == ("__class__" : Str)) = false)
    (k : ∀ q h', Fr h₀ L h' m → News h₀ L h' ((q, boundObj "method-wrapper" id x) :: news) → (∀ p ∈ news, p.1 < q) → Q (.ref q, []) { s with heap := h', toks := s.toks + 1 }) : wpAny (model prog w) A (getMethod (.ref so) name pl) Q E s :=
  super_biN F X₀ N hso (instAcc N h1 h2) ho hm (by rcases hid with rfl | rfl; exact type_len; exact type_init) slot_wd_get entry_wd_get args_wd_get hn
    (fun {s'} {A'} {E'} {Q'} hi q => by obtain ⟨h, g, d, t, os⟩ := s'; exact wd_get_run id hid hi q) hl k
theorem super_pop {Q : Value × List Value → Shared → Prop} (F : Fr h₀ L s.heap m) (X₀ : K.In h₀) (N : News h₀ L s.heap news) (hso : (so, ks_superObj 131 x 131) ∈ news)
    (h1 : (x, accObj dx items ep) ∈ news) (h2 : (dx, od) ∈ news) (ho : nsIn K cStatics "thirdparty.any" = some none)
    (hm : ks_superIn K 131 131 name = some (some (.builtin "list.pop"))) (hl : mroIn K 131 (.type "list") = some true) (hn : (name == ("__class__" : Str)) = false)
    (k : ∀ q h', Fr h₀ L h' m → News h₀ L h' ((q, boundObj "builtin_function_or_method" "list.pop" x) :: news) → (∀ p ∈ news, p.1 < q) → Q (.ref q, []) { s with heap := h', toks := s.toks + 1 }) : wpAny (model prog w) A (getMethod (.ref so) name pl) Q E s :=
  super_biN F X₀ N hso (instAcc N h1 h2) ho hm type_pop slot_md_get entry_md_get args_md_get hn
    (fun {s'} {A'} {E'} {Q'} hi q => by obtain ⟨h, g, d, t, os⟩ := s'; exact md_get_run hi q) hl k
theorem sigLen (a : Value) : ∀ {A' : Around} {E' : Value → Shared → Prop} {Q' : Unit → Shared → Prop}, Q' () s → wpAny (model prog w) A' (checkBoundCall "list.__len__" ⟨[a], []⟩) Q' E' s := fun q => by
  rw [show checkBoundCall "list.__len__" ⟨[a], []⟩ = pure () from by kernel_rfl]; exact wpAny_pure q
theorem sigInit (a : Value) : ∀ {A' : Around} {E' : Value → Shared → Prop} {Q' : Unit → Shared → Prop}, Q' () s → wpAny (model prog w) A' (checkBoundCall "list.__init__" ⟨[a], []⟩) Q' E' s := fun q => by
  rw [show checkBoundCall "list.__init__" ⟨[a], []⟩ = pure () from by kernel_rfl]; exact wpAny_pure q
theorem call_len {Q : Value → Shared → Prop} (N : News h₀ L s.heap news) (hq : (q, boundObj "method-wrapper" "list.__len__" x) ∈ news) (h1 : (x, accObj dx items ep) ∈ news)
    (k : Q (.int items.size s.toks) { s with toks := s.toks + 1 }) : wpAny (model prog w) A (call (.ref q) []) Q E s := by
  refine call_bound (N _ hq).1 (.inl rfl) (sigLen _) (by decide +kernel) PySem.F.entry_list_len ?_
  have e : Builtin.«list.__len__» ⟨[.ref x], []⟩ = (seqSize x >>= fun n => retInt n) := by kernel_rfl
  rw [e]
  unfold seqSize
  refine wpAny_bind (wpAny_bind (wpAny_loadPart (N _ h1).1 (wpAny_pure ?_)))
  exact wpAny_bind (wpAny_mkInt (wpAny_pure ⟨_, rfl, k⟩))
theorem entry_list_init : entryFor table "list.__init__" = some Builtin.«list.__init__» := entryFor_of_tree (by kernel_rfl)
end
-- Acc5
section
variable {prog : Program} {w : World} {A : Around} {E : Value → Shared → Prop} {s : Shared} {K : Frag} {C D x dx L so q : Addr} {h₀ : Heap} {m : Str → Option Value} {name : Str} {pl : Sem Bool}
  {news news' : List (Addr × Obj)} {items : Array Value} {ep : Nat} {od : Obj}
theorem sigPop' (x : Value) : (match Manifest.signature? "list.pop" with | some sig => Bind.checkArgs "list.pop" { sig with full := toString (Str.ofString "_Accumulator").toString ++ toString "." ++ toString (Bind.lastOf "list.pop") } ⟨[x], []⟩ | none => pure ()) = pure () := by kernel_rfl
theorem sigPop {M : Model} {Q : Unit → Shared → Prop} (x : Value) (q : Q () s) {sig : Manifest.Signature} (e : Manifest.signature? "list.pop" = some sig) : wpAny M A (Bind.checkArgs "list.pop" { sig with full := toString (Str.ofString "_Accumulator").toString ++ toString "." ++ toString (Bind.lastOf "list.pop") } ⟨[x], []⟩) Q E s := by
  have h := sigPop' x
  rw [e] at h
  have h' : Bind.checkArgs "list.pop" { sig with full := toString (Str.ofString "_Accumulator").toString ++ toString "." ++ toString (Bind.lastOf "list.pop") } ⟨[x], []⟩ = pure () := h
  rw [h']
  exact wpAny_pure q
theorem check_pop {Q : Unit → Shared → Prop} (X : K.In s.heap) (I : InstAt s.heap x (accObj dx items ep) 131 (some od)) (hm : mroIn K 131 (.type "module") = some false) (hc : (clsIn K 131).any (fun cd => cd.qualname == Str.ofString "_Accumulator") = true) (ht : typeIn K (.ref 131) = some (.type "type")) (q : Q () s) :
    wpAny (model prog w) A (checkBoundCall "list.pop" ⟨[.ref x], []⟩) Q E s := by
  obtain ⟨cd, hcd, hq⟩ := any_some hc
  have hk : builtinKind "list.pop" = some .method := by decide +kernel
  obtain ⟨sig, hs⟩ := Option.isSome_iff_exists.mp (show (Manifest.signature? "list.pop").isSome = true from by decide +kernel)
  unfold checkBoundCall
  rw [hs]
  dsimp only
  rw [hk]
  dsimp only
  rw [if_neg (by decide)]
  refine wpAny_bind ((show Looks (model prog w) s.heap (isInstance (.ref x) (.type "module")) false from I.type.andThen (looks_mroIn X hm)).here ?_)
  rw [if_neg (by decide +kernel)]
  refine wpAny_bind (ks_wpAny_isType_inst (h := s.heap) I.at_ (fun c e => by cases e) ?_)
  rw [if_neg (by decide)]
  refine wpAny_bind (I.type.here ?_)
  dsimp only
  refine wpAny_bind ((looks_clsIn X hcd).here ?_)
  refine wpAny_bind ((looks_typeIn X ht).here ?_)
  rw [if_pos (by rfl), beq_iff_eq.mp hq]
  exact sigPop _ q hs
theorem eraseLast (pre : Array Value) (v : Value) : (pre.push v).eraseIdxIfInBounds ((pre.push v).size - 1) = pre := by
  rw [Array.size_push, Nat.add_sub_cancel]
  unfold Array.eraseIdxIfInBounds
  rw [dif_pos (by rw [Array.size_push]; omega)]
  apply Array.toList_inj.mp
  rw [Array.toList_eraseIdx, Array.toList_push]
  have h : pre.size = pre.toList.length := by simp
  rw [h, List.eraseIdx_append_of_length_le (Nat.le_refl _)]
  simp
theorem pop_run {Q : Fin → Shared → Prop} {pre : Array Value} {v : Value} (hx : s.heap.get? x = some (accObj dx (pre.push v) ep)) (hz : pre.size ≤ 1000)
    (h : ∀ h', Heap.SameBut x s.heap h' → h'.get? x = some (accObj dx pre (ep + 1)) → Q (.done (.ret v)) { s with heap := h' }) :
    wpAny (model prog w) A (Builtin.«list.pop» ⟨[.ref x], []⟩) Q E s := by
  have hne : (pre.push v).isEmpty = false := by simp
  have hk : seqIndex? (-1) (pre.push v).size = some ((pre.push v).size - 1) := by
    rw [seqIndex_neg (by omega) (by rw [Array.size_push]; omega)]; congr 1; omega
  have hy : (pre.push v)[(pre.push v).size - 1]? = some v := by simp
  have hz1 : (pre.push v).size ≤ sizeLine := by rw [Array.size_push, sizeLine_eq]; omega
  have hz2 : ((pre.push v).eraseIdxIfInBounds ((pre.push v).size - 1)).size ≤ sizeLine + 1 := by rw [eraseLast, sizeLine_eq]; omega
  have hne' : ¬ (pre.push v).isEmpty = true := by rw [hne]; decide
  obtain ⟨hp, g, d, tk, os⟩ := s
  dsimp only at hx h
  wp_walk using wpAny_loadPart' hx
  simp only [hk, hy, Option.bind_some, Option.map_some]
  wp_walk using (wpAny_updateSeq hx rfl (hz := hz1) (_hz' := hz2)), wpAny_loadPart' hx
  refine h _ (Heap.SameBut.update ..) ?_
  rw [Heap.get?_update_self _ hx (by rfl)]
  show some (Obj.mapSeq _ _) = _
  unfold Obj.mapSeq
  dsimp only
  rw [eraseLast]
  simp
theorem call_pop {Q : Value → Shared → Prop} {pre : Array Value} {v : Value} (F : Fr h₀ L s.heap m) (X₀ : K.In h₀) (N : News h₀ L s.heap news) (hq : (q, boundObj "builtin_function_or_method" "list.pop" x) ∈ news) (h2 : (dx, od) ∈ news)
    (hm : mroIn K 131 (.type "module") = some false) (hc : (clsIn K 131).any (fun cd => cd.qualname == Str.ofString "_Accumulator") = true) (ht : typeIn K (.ref 131) = some (.type "type"))
    (U : Upd x (accObj dx (pre.push v) ep) (accObj dx pre (ep + 1)) news news') (hz : pre.size ≤ 1000)
    (k : ∀ h', Fr h₀ L h' m → News h₀ L h' news' → Q v { s with heap := h' }) : wpAny (model prog w) A (call (.ref q) []) Q E s := by
  have X := X₀.keeps F.keep
  obtain ⟨a', b', rfl, rfl, a, b⟩ := U.split
  have hx : (x, accObj dx (pre.push v) ep) ∈ a' ++ (x, accObj dx (pre.push v) ep) :: b' := List.mem_append.mpr (.inr List.mem_cons_self)
  have z := N _ hx
  refine call_bound (N _ hq).1 (.inr rfl) (fun q => check_pop X (instAcc N hx h2) hm hc ht q) PySem.F.slot_list_pop.plain PySem.F.entry_list_pop ?_
  exact pop_run z.1 hz fun h' hs ho' => ⟨_, rfl, k h' (F.change hs z.2.1 z.2.2) (news_set N a b hs ho')⟩
end
-- Acc6
open Builtin.ObjectAttr
abbrev sliceObj : Obj := { cls := .type "slice", data := .fields #[.none, .none, .none] }
theorem kind_setitem : builtinKind "list.__setitem__" = some .slot ∨ builtinKind "list.__setitem__" = some .method := by first | exact .inl (by decide +kernel) | exact .inr (by decide +kernel)
theorem split_setitem : splitId "list.__setitem__" = some ("list", "__setitem__") := by decide +kernel
theorem wholeSlice (old new : Array Value) : old.extract 0 (0 : Int).toNat ++ new ++ old.extract (max (0 : Int) (old.size : Int)).toNat old.size = new := by
  have h : (max (0 : Int) (old.size : Int)).toNat = old.size := by omega
  rw [h]
  simp
section
variable {prog : Program} {w : World} {A : Around} {E : Value → Shared → Prop} {s : Shared} {K : Frag} {C D x dx y dy l L so q sl : Addr} {h₀ : Heap} {m : Str → Option Value} {name : Str} {pl : Sem Bool}
  {news news' : List (Addr × Obj)} {items its : Array Value} {ep k : Nat} {od : Obj} {G : Obj → List (Addr × Obj)}
theorem setitem_run {Q : Fin → Shared → Prop} (hy : s.heap.get? y = some (accObj dy items ep)) (hsl : s.heap.get? sl = some sliceObj) (hl : s.heap.get? l = some (listOf its k)) (hyl : y ≠ l) (hz : its.size ≤ 1000) (hz' : items.size ≤ 1000)
    (h : ∀ h' ep', Heap.SameBut y s.heap h' → h'.get? y = some (accObj dy its ep') → Q (.done (.ret .none)) { s with heap := h' }) :
    wpAny (model prog w) A (Builtin.«list.__setitem__» ⟨[.ref y, .ref sl, .ref l], []⟩) Q E s := by
  have hTs : s.TypeIs (.ref sl) "slice" := ⟨_, hsl, rfl⟩
  have hTl : s.TypeIs (.ref l) "list" := ⟨_, hl, rfl⟩
  have hni := slice_no_index
  have hf0 : sliceObj.data = .fields #[.none, .none, .none] := rfl
  have hid : sliceIndices .none .none .none items.size = pure (0, (items.size : Int), 1) := by
    have := sliceIndices_raw none none none items.size (by simp)
    simpa [sliceBounds, rawPart] using this
  have hsz1 : items.size ≤ sizeLine := by rw [sizeLine_eq]; omega
  have hsz2 : (items.extract 0 (0 : Int).toNat ++ its ++ items.extract (max (0 : Int) (items.size : Int)).toNat items.size).size ≤ sizeLine + 1 := by rw [wholeSlice, sizeLine_eq]; omega
  have hsr : PySem.Builtin.List.listSameRef (.ref y) (.ref l) = false := by
    show (y == l) = false
    simpa using hyl
  have htl : PySem.Builtin.List.listTooLong (items.size + its.size) = false := by
    unfold PySem.Builtin.List.listTooLong
    rw [sizeLine_eq]
    simp; omega
  unfold Builtin.«list.__setitem__» PySem.Builtin.List.listSubscript? PySem.Builtin.List.listSliceParts PySem.Builtin.List.listAllItems PySem.Builtin.List.listItems PySem.Builtin.List.listUpdate
  repeat (first
    | (with_reducible refine wpAny_specialOf hTs hni ?_)
    | (with_reducible refine wpAny_typeOf hTs ?_)
    | (with_reducible refine wpAny_typeOf hTl ?_)
    | (with_reducible refine wpAny_field hsl hf0 (x := .none) rfl ?_)
    | (with_reducible refine wpAny_seqItems hy rfl ?_)
    | (with_reducible refine wpAny_seqItems hl rfl ?_)
    | (with_reducible refine wpAny_of_eq hid ?_)
    | (with_reducible refine wpAny_updateSeq hy rfl ?_ hsz1 hsz2)
    | (simp only [htl, hsr, Bool.false_eq_true, if_false])
    | wp_step
    | dsimp only)
  refine h _ (ep + (if its.size = items.size then 0 else 1)) (Heap.SameBut.update ..) ?_
  rw [Heap.get?_update_self _ hy (by rfl)]
  show some (Obj.mapSeq _ _) = _
  unfold Obj.mapSeq
  dsimp only
  rw [wholeSlice]
  by_cases e : its.size = items.size <;> simp [e]
theorem setitemN {Q : Unit → Shared → Prop} {h : Heap} {g : Array GenState} {d : Drawn} {t : Nat} {os : OsState} (F : Fr h₀ L h m) (X₀ : K.In h₀) (N : News h₀ L h news) (h2 : (dy, od) ∈ news) (hl : (l, listOf its k) ∈ news) (hyl : y ≠ l)
    (hm : mroIn K 131 (.type "list") = some true) (hq : noSeq K 131 = true) (hs : findIn K (.ref 131) "__setitem__" = some (some (.builtin "list.__setitem__")))
    (U : UpdF y (accObj dy items ep) news G) (hz : its.size ≤ 1000) (hz' : items.size ≤ 1000)
    (kk : ∀ h' ep', Fr h₀ L h' m → News h₀ L h' (G (accObj dy its ep')) → Q () ⟨h', g, d, t, os⟩) :
    wpAny (model prog w) A (setItem (.ref y) (.ref h.objs.size) (.ref l)) Q E ⟨h.push sliceObj, g, d, t, os⟩ := by
  have X : K.In (h.push sliceObj) := (X₀.keeps F.keep).keeps fun b o e => Heap.get?_push_of_some _ e
  obtain ⟨a', b', rfl, eG, a, b⟩ := U.split
  have hy : (y, accObj dy items ep) ∈ a' ++ (y, accObj dy items ep) :: b' := List.mem_append.mpr (.inr List.mem_cons_self)
  have N1 : News h₀ L (h.push sliceObj) (a' ++ (y, accObj dy items ep) :: b') := N.pushKeep sliceObj
  have F1 := F.push sliceObj
  have I := instAcc N1 hy h2
  unfold setItem sequenceKey callSpecial? specialOf
  refine wpAny_holding (wpAny_bind (wpAny_bind (I.type.here ?_)))
  refine wpAny_bind ((anyM_none X hq).here ?_)
  rw [if_pos (show (!false) = true from rfl)]
  refine wpAny_pure (wpAny_bind (wpAny_bind (wpAny_bind (I.type.here ((looks_findIn X hs).here ?_)))))
  refine wpAny_holding ?_
  rw [PySem.F.slot_list_setitem.bind]
  refine wpAny_bind (wpAny_pure (wpAny_bind ?_))
  refine call_inst kind_setitem split_setitem (inst_list X I hm) (PySem.F.args_list_setitem_3 _ _ _) PySem.F.slot_list_setitem.plain PySem.F.entry_list_setitem ?_
  refine setitem_run (N1 _ hy).1 (Heap.get?_push_size _ rfl) (N1 _ hl).1 hyl hz hz' fun h' ep' hs' ho' => ⟨_, rfl, wpAny_pure (wpAny_pure (kk h' ep' (F1.change hs' (N1 _ hy).2.1 (N1 _ hy).2.2) ?_))⟩
  rw [eG]
  exact news_set N1 a b hs' ho'
def accCls (K : Frag) : Bool := (clsIn K 131).any fun cd => cd.mro == [.ref 131, .type "list", .type "object"] && cd.hasDict
theorem refuse_acc (self : Value) : refuseLoop self "__setattr__" [.ref 131, .type "list", .type "object"] = pure () := by rw [refuseLoop_ref]; kernel_rfl
theorem set_acc {Q : Unit → Shared → Prop} {v v0 : Value} {hsh : Int} {t0 : Tok} {n : Nat} {G : Obj → List (Addr × Obj)} (F : Fr h₀ L s.heap m) (X₀ : K.In h₀) (N : News h₀ L s.heap news) (h1 : (x, accObj dx items ep) ∈ news)
    (hs : findIn K (.ref 131) "__setattr__" = some (some (.builtin "object.__setattr__"))) (hC : accCls K = true) (ht : takerIn K 131 "_initial_size" = some none)
    (U : UpdF dx (sizeDict hsh t0 v0 n) news G)
    (kk : ∀ h', Fr h₀ L h' m → News h₀ L h' (G (sizeDict hsh t0 v n)) → Q () { s with heap := h', toks := s.toks + 2 }) :
    wpAny (model prog w) A (setAttr (.ref x) "_initial_size" v) Q E s := by
  obtain ⟨a', b', rfl, eG, a, b⟩ := U.split
  have hd : (dx, sizeDict hsh t0 v0 n) ∈ a' ++ (dx, sizeDict hsh t0 v0 n) :: b' := List.mem_append.mpr (.inr List.mem_cons_self)
  have X := X₀.keeps F.keep
  have I := instAcc N h1 hd
  refine set_plain X I hs ?_
  have SF := PySem.F.store_object
  obtain ⟨cd, hc, ho⟩ := any_some hC
  obtain ⟨ho, hdict⟩ := Bool.and_eq_true_iff.mp ho
  have ho : cd.mro = [.ref 131, .type "list", .type "object"] := beq_iff_eq.mp ho
  have X' : K.In ({ s with toks := s.toks + 1 } : Shared).heap := X
  have I' : InstAt ({ s with toks := s.toks + 1 } : Shared).heap x (accObj dx items ep) 131 (some (sizeDict hsh t0 v0 n)) := I
  have sub : Looks (model prog w) ({ s with toks := s.toks + 1 } : Shared).heap (isInstance (.ref x) (.type "object")) true := I'.type.andThen (looks_mroIn X' (by unfold mroIn; rw [hc, Option.bind_some, ho]; rfl))
  refine codeAny_call_builtin SF.slot.plain SF.entry (@check_slot (model prog w) _ _ _ "object.__setattr__" "object" "__setattr__" (.ref x) [.str "_initial_size" s.toks, v] [] _ SF.kind SF.split sub (SF.args (.ref x) (.str "_initial_size" s.toks) v) ?_)
  obtain ⟨attr, ha, hr⟩ := Option.bind_eq_some_iff.mp ht
  have hm : Looks (model prog w) ({ s with toks := s.toks + 1 } : Shared).heap (mroOf (.ref 131)) cd.mro := (looks_clsIn X' hc).andThen .now
  have L3 : Looks (model prog w) ({ s with toks := s.toks + 1 } : Shared).heap (storeTaker? attr) none := by
    cases attr with
    | none => exact .now
    | some a =>
      obtain ⟨b, hb, hb'⟩ := Option.map_eq_some_iff.mp hr
      refine (looks_takesIn X' hb).andThen ?_
      cases b with
      | true => cases hb'
      | false => exact .now
  rw [osa_eq, refuse_eq]
  refine wpAny_bind (wpAny_bind (I'.type.here (wpAny_bind (hm.here ?_))))
  rw [ho, refuse_acc]
  refine wpAny_pure (wpAny_bind (I'.type.here (wpAny_bind ((looks_findIn X' ha).here (wpAny_bind (L3.here ?_))))))
  obtain ⟨U1, U2⟩ := news_upd (o' := sizeDict hsh t0 v n) (f := Obj.putName "_initial_size" (PyData.keyHash w.params "_initial_size") (.str "_initial_size" (s.toks + 1)) v) F N a b (by rw [putName_dict]; rfl) rfl
  have D := (N (dx, sizeDict hsh t0 v0 n) hd).1
  have D' := (U2 (dx, sizeDict hsh t0 v n) (List.mem_append.mpr (.inr List.mem_cons_self))).1
  refine wpAny_bind (wpAny_pure (wpAny_bind (wpAny_bind (wpAny_loadPart I'.at_ (wpAny_bind ((looks_clsIn X' hc).here ?_))))))
  rw [hdict]
  refine wpAny_pure (a := some dx) (wpAny_bind (wpAny_pure (wpAny_bind ?_)))
  unfold nsSet
  refine wpAny_bind (wpAny_bind (wpAny_askSetting (wpAny_pure (wpAny_bind (wpAny_mkText (wpAny_bind (wpAny_loadPart D ?_)))))))
  dsimp only
  have c : ((!(#[(⟨hsh, .str (Str.ofString "_initial_size") t0, v0⟩ : DictEntry)]).any (·.key.isStr "_initial_size")) && (#[(⟨hsh, .str (Str.ofString "_initial_size") t0, v0⟩ : DictEntry)]).any (·.refKey)) = false := by
    simp [DictEntry.refKey]
  rw [aRefKeyMayBeTheName_at]
  rw [show (!(#[(⟨hsh, .str (Str.ofString "_initial_size") t0, v0⟩ : DictEntry)]).any (·.key.isStr "_initial_size") && (#[(⟨hsh, .str (Str.ofString "_initial_size") t0, v0⟩ : DictEntry)]).any (·.refKey)) = false from c]
  refine wpAny_updatePart D ?_
  refine wpAny_bind (wpAny_lookBehind D' (pastItsLine_dict (by rw [sizeLine_eq]; show 1 ≤ _; omega)) ?_)
  exact wpAny_pure (kk _ U1 (by rw [eG]; exact U2))
end
-- Acc7
open Builtin.ObjectAttr
theorem kind_lnew : builtinKind "list.__new__" = some .builtinFn := by decide +kernel
theorem split_lnew : splitId "list.__new__" = some ("list", "__new__") := by decide +kernel
def makesL (K : Frag) : Bool := match K.lookup 131 with
  | some ⟨_, _, .cls cd, sl⟩ => !cd.abstract && !cd.hasDel && (sl.toList[4]?).join == some (.builtin "list.__new__") && !cd.mro.isEmpty && cd.mro.contains (.ref 131) && cd.mro.contains (.type "list") &&
      specialIn K (.ref 131) "__call__" == some (some (.builtin "type.__call__")) && instIn K (.ref 131) (.type "type") == some true
  | _ => false
structure MakesL (M : Model) (h : Heap) : Prop where
  obj : ∃ oc od cd sl, h.get? 131 = some ⟨oc, od, .cls cd, sl⟩ ∧ cd.abstract = false ∧ cd.hasDel = false ∧ cd.mro.isEmpty = false
  made : Looks M h (Bind.madeBy (.ref 131)) (some "list.__new__")
  base : Looks M h (Bind.staticBase (.ref 131)) (.ref 131)
  self : Looks M h (isSubtype (.ref 131) (.ref 131)) true
  top : Looks M h (isSubtype (.ref 131) (.type "list")) true
  call : Looks M h (specialOf (.ref 131) "__call__") (some (.builtin "type.__call__"))
  typ : Looks M h (isInstance (.ref 131) (.type "type")) true
theorem makesL_of {K : Frag} {M : Model} {h : Heap} (X : K.In h) (e : makesL K = true) : MakesL M h := by
  unfold makesL at e
  split at e
  · rename_i oc od cd sl ho
    simp only [Bool.and_eq_true, Bool.not_eq_true', beq_iff_eq] at e
    obtain ⟨⟨⟨⟨⟨⟨⟨e1, e2⟩, e3⟩, e4⟩, e5⟩, e6⟩, e7⟩, e8⟩ := e
    have hc : clsIn K 131 = some cd := by unfold clsIn; rw [ho]
    have hm : Looks M h (mroOf (.ref 131)) cd.mro := (looks_clsIn X hc).andThen .now
    obtain ⟨c, l, hl⟩ : ∃ c l, cd.mro = c :: l := by cases q : cd.mro with | nil => rw [q] at e4; cases e4 | cons c l => exact ⟨c, l, rfl⟩
    have made : Looks M h (Bind.madeBy (.ref 131)) (some "list.__new__") := by
      intro A Q E s k q
      unfold Bind.madeBy
      refine wpAny_bind (hm A _ E s k ?_)
      rw [hl, List.forIn_cons]
      refine wpAny_bind (wpAny_bind (wpAny_bind (wpAny_bind (wpAny_loadPart (k _ _ (X _ _ ho)) (wpAny_pure ?_)))))
      dsimp only
      rw [← Array.getElem?_toList, e3]
      exact wpAny_pure (wpAny_pure (wpAny_pure q))
    refine ⟨⟨oc, od, cd, sl, X _ _ ho, e1, e2, e4⟩, made, ?_, looks_mroIn X ?_, looks_mroIn X ?_, looks_specialIn X e7, looks_instIn X e8⟩
    · intro A Q E s k q
      unfold Bind.staticBase
      refine wpAny_bind (hm A _ E s k ?_)
      rw [hl, List.forIn_cons]
      exact wpAny_bind (wpAny_bind (wpAny_bind (made A _ E s k (wpAny_pure (wpAny_pure (wpAny_pure q))))))
    · unfold mroIn; rw [hc, Option.bind_some, if_neg (by rw [e4]; decide), e5]
    · unfold mroIn; rw [hc, Option.bind_some, if_neg (by rw [e4]; decide), e6]
  · cases e
section
variable {prog : Program} {w : World} {A : Around} {K : Frag} {R : Result → Shared → Prop} {h : Heap} {g : Array GenState} {d : Drawn} {t : Nat} {os : OsState}
abbrev sigLNew : Manifest.Signature := ⟨.any, "list", "list", .cls, [⟨"args", .varPos, false⟩, ⟨"kwargs", .varKw, false⟩]⟩
theorem row_lnew : Manifest.signature? "list.__new__" = some sigLNew := by kernel_rfl
def LArgs (rest : List Value) : Prop := rest = [] ∨ ∃ v, rest = [v]
theorem lnew_args {rest : List Value} (e : LArgs rest) (C : Value) : Bind.checkArgs "list.__new__" sigLNew ⟨C :: rest, []⟩ = pure () := by
  rcases e with rfl | ⟨v, rfl⟩ <;> kernel_rfl
theorem new_list {rest : List Value} (Y : MakesL (model prog w) h) (hr : LArgs rest)
    (hq : R (.ok (.ret (.ref (h.objs.size + 1)))) ⟨(h.push emptyDict).push (accObj h.objs.size #[] 0), g, d, t, os⟩) :
    codeAny (model prog w) A (.call (.builtin "list.__new__") ⟨.ref 131 :: rest, []⟩) R ⟨h, g, d, t, os⟩ := by
  obtain ⟨⟨oc, od, cd, sl, hC, e1, e2, e4⟩, made, base, self, top, call, typ⟩ := Y
  refine codeAny_call_builtin_code (plainId_quiet F.plain_list_new _) ?_
  simp only [checkBuiltinCall, kind_lnew, split_lnew, row_lnew]
  repeat (first | simp only [bne_self_eq_false, Bool.false_eq_true, if_false, Bool.not_true, beq_self_eq_true, if_true] | lk)
  refine codeAny_builtin_stack F.entry_list_new rfl fun p st => ?_
  have hown := owner_list_new
  simp only [hown]
  repeat (first | simp only [bne_self_eq_false, Bool.false_eq_true, if_false, Bool.not_true] | lk)
  refine wpAny_load (Heap.get?_push_of_some _ (Heap.get?_push_of_some _ hC)) ?_
  dsimp only
  rw [e2]
  refine wpAny_pure ?_
  rw [if_neg (by decide)]
  refine wpAny_pure (wpAny_pure ?_)
  rw [Heap.size_push]
  exact hq
theorem make_coreL {rest : List Value} {fI : Addr} (Y : MakesL (model prog w) h) (hr : LArgs rest) (hi : Looks (model prog w) h (typeLookup (.ref 131) "__init__") (some (.ref fI)))
    (hb : ∀ self, Looks (model prog w) h (bindSpecial (.ref fI) self) (.ref fI, [self]))
    (hq : codeAny (model prog w) (A.under (.builtin "type.__call__" ⟨.ref 131 :: rest, []⟩)) (.call (.ref fI) ⟨.ref (h.objs.size + 1) :: rest, []⟩) (InitBack (h.objs.size + 1) R) ⟨(h.push emptyDict).push (accObj h.objs.size #[] 0), g, d, t, os⟩) :
    codeAny (model prog w) A (.call (.ref 131) ⟨rest, []⟩) R ⟨h, g, d, t, os⟩ := by
  have Y' := Y
  obtain ⟨⟨oc, od, cd, sl, hC, e1, e2, e4⟩, made, base, self, top, call, typ⟩ := Y
  refine codeAny_of_tree ?_
  show wpAny _ _ (callAny (.ref 131) _) _ _ _
  refine nd_load hC ?_
  show wpAny _ _ (callAny.viaDunder (.ref 131) _) _ _ _
  unfold callAny.viaDunder
  refine wpAny_bind (call.at ?_)
  dsimp only
  rw [tc_bind]
  refine wpAny_bind (wpAny_pure (wpAny_bind (wpAny_pure ?_)))
  refine wpAny_pure (a := Fin.again (.call (.builtin "type.__call__") ⟨.ref 131 :: rest, []⟩)) (And.intro rfl ?_)
  refine codeAny_call_builtin_at (Code.quiet_builtin _ (by decide +kernel)) entry_typeCall (check_slot tc_kind tc_split typ (tc_args _ _ _) ?_)
  unfold Builtin.«type.__call__»
  have hm : Looks (model prog w) h (mroOf (.ref 131)) cd.mro := ((Looks.ld (part := none) hC).andThen .now).andThen .now
  repeat (first | simp only [e4, Bool.false_eq_true, if_false] | with_reducible refine wpAny_call ?_ | lk)
  refine new_list Y' hr ?_
  have k : ∀ b o, h.get? b = some o → ((h.push emptyDict).push (accObj h.objs.size #[] 0)).get? b = some o := fun b o e => Heap.get?_push_of_some _ (Heap.get?_push_of_some _ e)
  have hx : ((h.push emptyDict).push (accObj h.objs.size #[] 0)).get? (h.objs.size + 1) = some (accObj h.objs.size #[] 0) := by heap_get
  have t1 : Looks (model prog w) ((h.push emptyDict).push (accObj h.objs.size #[] 0)) (typeOf (.ref (h.objs.size + 1))) (.ref 131) := (Looks.ld hx).andThen .now
  have s1 := self.keeps k
  have i1 := hi.keeps k
  have b1 := (hb (.ref (h.objs.size + 1))).keeps k
  unfold isInstance callSpecial? specialOf
  repeat (first | with_reducible refine wpAny_call ?_ | lk)
  refine codeAny_mono hq fun r s' z => ?_
  rcases r with e | (v | _ | _ | _) <;> first | exact z | exact z.elim | skip
  obtain ⟨rfl, z⟩ := z
  exact wpAny_pure (wpAny_pure z)
end
section
variable {prog : Program} {w : World} {A : Around} {K : Frag} {s : Shared} {h₀ : Heap} {L : Addr} {m : Str → Option Value} {news : List (Addr × Obj)} {R : Result → Shared → Prop}
theorem make_L {rest : List Value} {fI : Addr} (F : Fr h₀ L s.heap m) (N : News h₀ L s.heap news) (X : K.In s.heap) (hm : makesL K = true) (hr : LArgs rest)
    (hi : findIn K (.ref 131) "__init__" = some (some (.ref fI))) (hf : typeIn K (.ref fI) = some (.type "function"))
    (h : ∀ x dx h', Fr h₀ L h' m → News h₀ L h' ((x, accObj dx #[] 0) :: (dx, emptyDict) :: news) → (∀ p ∈ news, p.1 < dx) → dx < x →
      codeAny (model prog w) (A.under (.builtin "type.__call__" ⟨.ref 131 :: rest, []⟩)) (.call (.ref fI) ⟨.ref x :: rest, []⟩) (InitBack x R) { s with heap := h' }) :
    codeAny (model prog w) A (.call (.ref 131) ⟨rest, []⟩) R s := by
  obtain ⟨hh, g, d, t, os⟩ := s
  refine make_coreL (makesL_of X hm) hr (looks_findIn X hi) (fun self => bind_fn X self hf) (h _ hh.objs.size _ ((F.push _).push _) ?_ (fun p hp => Heap.lt_size (N p hp).1) (Nat.lt_succ_self _))
  have := (N.push F emptyDict).push (F.push _) (accObj hh.objs.size #[] 0)
  rwa [Heap.size_push] at this
end
-- Acc8
open Builtin.ObjectAttr
section
variable {prog : Program} {w : World} {A : Around} {E : Value → Shared → Prop} {s : Shared} {K : Frag} {C D x dx y dy l L so q sl : Addr} {h₀ : Heap} {m : Str → Option Value} {name : Str} {pl : Sem Bool}
  {news news' : List (Addr × Obj)} {items its : Array Value} {ep k : Nat} {od : Obj} {G : Obj → List (Addr × Obj)}
theorem set_acc0 {Q : Unit → Shared → Prop} {v : Value} {G : Obj → List (Addr × Obj)} (F : Fr h₀ L s.heap m) (X₀ : K.In h₀) (N : News h₀ L s.heap news) (h1 : (x, accObj dx items ep) ∈ news)
    (hs : findIn K (.ref 131) "__setattr__" = some (some (.builtin "object.__setattr__"))) (hC : accCls K = true) (ht : takerIn K 131 "_initial_size" = some none)
    (U : UpdF dx (dictOf [] 0) news G)
    (kk : ∀ h', Fr h₀ L h' m → News h₀ L h' (G (sizeDict (PyData.keyHash w.params "_initial_size") (s.toks + 1) v 1)) → Q () { s with heap := h', toks := s.toks + 2 }) :
    wpAny (model prog w) A (setAttr (.ref x) "_initial_size" v) Q E s := by
  obtain ⟨a', b', rfl, eG, a, b⟩ := U.split
  have hd : (dx, dictOf [] 0) ∈ a' ++ (dx, dictOf [] 0) :: b' := List.mem_append.mpr (.inr List.mem_cons_self)
  have X := X₀.keeps F.keep
  have I := instAcc N h1 hd
  refine set_plain X I hs ?_
  have SF := PySem.F.store_object
  obtain ⟨cd, hc, ho⟩ := any_some hC
  obtain ⟨ho, hdict⟩ := Bool.and_eq_true_iff.mp ho
  have ho : cd.mro = [.ref 131, .type "list", .type "object"] := beq_iff_eq.mp ho
  have X' : K.In ({ s with toks := s.toks + 1 } : Shared).heap := X
  have I' : InstAt ({ s with toks := s.toks + 1 } : Shared).heap x (accObj dx items ep) 131 (some (dictOf [] 0)) := I
  have sub : Looks (model prog w) ({ s with toks := s.toks + 1 } : Shared).heap (isInstance (.ref x) (.type "object")) true := I'.type.andThen (looks_mroIn X' (by unfold mroIn; rw [hc, Option.bind_some, ho]; rfl))
  refine codeAny_call_builtin SF.slot.plain SF.entry (@check_slot (model prog w) _ _ _ "object.__setattr__" "object" "__setattr__" (.ref x) [.str "_initial_size" s.toks, v] [] _ SF.kind SF.split sub (SF.args (.ref x) (.str "_initial_size" s.toks) v) ?_)
  obtain ⟨attr, ha, hr⟩ := Option.bind_eq_some_iff.mp ht
  have hm : Looks (model prog w) ({ s with toks := s.toks + 1 } : Shared).heap (mroOf (.ref 131)) cd.mro := (looks_clsIn X' hc).andThen .now
  have L3 : Looks (model prog w) ({ s with toks := s.toks + 1 } : Shared).heap (storeTaker? attr) none := by
    cases attr with
    | none => exact .now
    | some a =>
      obtain ⟨b, hb, hb'⟩ := Option.map_eq_some_iff.mp hr
      refine (looks_takesIn X' hb).andThen ?_
      cases b with
      | true => cases hb'
      | false => exact .now
  rw [osa_eq, refuse_eq]
  refine wpAny_bind (wpAny_bind (I'.type.here (wpAny_bind (hm.here ?_))))
  rw [ho, refuse_acc]
  refine wpAny_pure (wpAny_bind (I'.type.here (wpAny_bind ((looks_findIn X' ha).here (wpAny_bind (L3.here ?_))))))
  obtain ⟨U1, U2⟩ := news_upd (o' := sizeDict (PyData.keyHash w.params "_initial_size") (s.toks + 1) v 1) (f := Obj.putName "_initial_size" (PyData.keyHash w.params "_initial_size") (.str "_initial_size" (s.toks + 1)) v) F N a b (by rw [putName_dict]; rfl) rfl
  have D := (N (dx, dictOf [] 0) hd).1
  have D' := (U2 (dx, sizeDict (PyData.keyHash w.params "_initial_size") (s.toks + 1) v 1) (List.mem_append.mpr (.inr List.mem_cons_self))).1
  refine wpAny_bind (wpAny_pure (wpAny_bind (wpAny_bind (wpAny_loadPart I'.at_ (wpAny_bind ((looks_clsIn X' hc).here ?_))))))
  rw [hdict]
  refine wpAny_pure (a := some dx) (wpAny_bind (wpAny_pure (wpAny_bind ?_)))
  unfold nsSet
  refine wpAny_bind (wpAny_bind (wpAny_askSetting (wpAny_pure (wpAny_bind (wpAny_mkText (wpAny_bind (wpAny_loadPart D ?_)))))))
  dsimp only
  rw [aRefKeyMayBeTheName_at]
  simp only [List.any_toArray, List.any_nil, Bool.and_false, Bool.false_eq_true, if_false]
  refine wpAny_updatePart D ?_
  refine wpAny_bind (wpAny_lookBehind D' (pastItsLine_dict (by rw [sizeLine_eq]; show 1 ≤ _; omega)) ?_)
  exact wpAny_pure (kk _ U1 (by rw [eG]; exact U2))
theorem call_init {Q : Value → Shared → Prop} {G : Obj → List (Addr × Obj)} {q : Addr} (F : Fr h₀ L s.heap m) (N : News h₀ L s.heap news) (hq : (q, boundObj "method-wrapper" "list.__init__" x) ∈ news) (U : UpdF x (accObj dx #[] ep) news G)
    (k : ∀ h' ep', Fr h₀ L h' m → News h₀ L h' (G (accObj dx #[] ep')) → Q .none { s with heap := h' }) : wpAny (model prog w) A (call (.ref q) []) Q E s := by
  obtain ⟨a', b', rfl, eG, a, b⟩ := U.split
  have hy : (x, accObj dx #[] ep) ∈ a' ++ (x, accObj dx #[] ep) :: b' := List.mem_append.mpr (.inr List.mem_cons_self)
  refine call_bound (N _ hq).1 (.inl rfl) (sigInit _) (by decide +kernel) entry_list_init ?_
  have hx := (N _ hy).1
  unfold Builtin.«list.__init__» PySem.Builtin.List.listItems PySem.Builtin.List.listUpdate
  repeat (first
    | (with_reducible refine wpAny_seqItems hx rfl ?_)
    | (with_reducible refine wpAny_updateSeq hx rfl ?_ (by rw [sizeLine_eq]; show 0 ≤ _; omega) (by rw [sizeLine_eq]; show 0 ≤ _; omega))
    | wp_step
    | dsimp only)
  have hs' : Heap.SameBut x s.heap (s.heap.update x (Obj.mapSeq fun x => #[])) := Heap.SameBut.update ..
  have ho' : (s.heap.update x (Obj.mapSeq fun x => #[])).get? x = some (accObj dx #[] ep) := by
    rw [Heap.get?_update_self _ hx (by rfl)]
    rfl
  refine ⟨_, rfl, k _ ep (F.change hs' (N _ hy).2.1 (N _ hy).2.2) ?_⟩
  rw [eG]
  exact news_set N a b hs' ho'
end
-- Acc9
open Builtin.SmallTypes
def Stop (P : Prop) : Prop := P
theorem stop_here {P : Prop} (h : Stop P) : P := h
def Kept (wr : List Addr) (h h' : Heap) : Prop := ∀ b o, b ∉ wr → h.get? b = some o → h'.get? b = some o
theorem kept_fr {wr : List Addr} {h₀ h h' : Heap} {L : Addr} {m : Str → Option Value} (F : Fr h₀ L h m) (k : Kept wr h h') (hL : L ∉ wr) (hwr : ∀ b ∈ wr, h₀.get? b = none) : Fr h₀ L h' m :=
  ⟨F.ns.at' fun o e => k _ o hL e, fun b o e => k b o (fun hb => by rw [hwr b hb] at e; cases e) (F.keep b o e), F.above⟩
theorem kept_news {wr : List Addr} {h₀ h h' : Heap} {L : Addr} {news : List (Addr × Obj)} (N : News h₀ L h news) (k : Kept wr h h') (hn : ∀ p ∈ news, p.1 ∉ wr) : News h₀ L h' news := fun p hp => ⟨k _ _ (hn p hp) (N p hp).1, (N p hp).2⟩
/-- a way to walk a for loop: its turns, the place it stands at, what each turn hands out (told with the tokens drawn so far) -/
structure Turns (prog : Program) (w : World) (A : Around) (target : Expr) (I : Addr) (fp wr : List Addr) (n : Nat) (P : Nat → Nat → Value → Heap → Prop) (St : Nat → Heap → Prop) : Prop where
  frame : ∀ i h h', St i h → (∀ b ∈ fp, ∀ o, h.get? b = some o → h'.get? b = some o) → St i h'
  turn : ∀ i (s : Shared) (Q : Value → Shared → Prop) (E : Value → Shared → Prop), i < n → St i s.heap →
    (∀ v h' tk, s.toks ≤ tk → P s.toks i v h' → St (i + 1) h' → Kept wr s.heap h' → Q v { s with heap := h', toks := tk }) →
    wpAny (model prog w) A (pyNext (.ref I)) (fun r s₁ => ∃ v, r = some v ∧ wpAny (model prog w) A (letOwnedTupleGo target (.ref I) v) (fun _ s₂ => Q v s₂) E s₁) E s
  done : ∀ (s : Shared) (Q : Option Value → Shared → Prop) (E : Value → Shared → Prop), St n s.heap →
    (∀ h' tk, s.toks ≤ tk → Kept wr s.heap h' → Q none { s with heap := h', toks := tk }) → wpAny (model prog w) A (pyNext (.ref I)) Q E s
theorem Turns.ofK {prog : Program} {w : World} {A : Around} {target : Expr} {I : Addr} {fp wr : List Addr} {n : Nat} {P Md : Nat → Value → Heap → Prop} {St : Nat → Heap → Prop} (W : KTurns prog w A target I fp wr n P Md St) :
    Turns prog w A target I fp wr n (fun _ => P) St where
  frame := W.frame
  turn := fun i s Q E hi st hQ => by
    refine wpAny_with_toks (Nat.le_refl _) (wpAny_mono (Q := fun r s₁ => s.toks ≤ s₁.toks → ∃ v, r = some v ∧ wpAny (model prog w) A (letOwnedTupleGo target (.ref I) v) (fun _ s₂ => Q v s₂) E s₁) (E := fun e s' => E e s') (W.item i s _ _ hi st fun v h₁ tk₁ hMd hk₁ => ?_) (fun _ _ x => x) fun _ _ x _ => x)
    intro ht
    exact ⟨v, rfl, W.go i v _ _ _ hMd fun h₂ hP hst₂ hk₂ => hQ v h₂ tk₁ ht hP hst₂ fun b o hb x => hk₂ b o hb (hk₁ b o hb x)⟩
  done := fun s Q E st hQ => by
    refine wpAny_with_toks (Nat.le_refl _) (wpAny_mono (Q := fun r s₁ => s.toks ≤ s₁.toks → Q r s₁) (E := fun e s' => E e s') (W.done s _ _ st fun h' tk hk ht => hQ h' tk ht hk) (fun _ _ x => x) fun _ _ x _ => x)
section
variable {prog : Program} {w : World} {A : Around} {E : Value → Shared → Prop} {s : Shared} {env : Env} {h₀ : Heap} {target : Expr} {body orelse : List Stmt} {Q : Flow → Shared → Prop}
def ForRest (prog : Program) (w : World) (A : Around) (E : Value → Shared → Prop) (env : Env) (target : Expr) (body orelse : List Stmt) (Q : Flow → Shared → Prop) (it : Value) (s : Shared) : Prop :=
  codeAny (model prog w) A (.forLoop target it body orelse env) (fun r s' => match r with | .ok f => Q f s' | .error e => cameBackBy (model prog w) A env E e s') s
theorem for_start {iter : Expr} {pos : Pos} (h : wpAny (model prog w) A (eval iter env) (fun x s₁ => wpAny (model prog w) A (pyIter x) (fun it s₂ => ForRest prog w A E env target body orelse Q it s₂) E s₁) E s)
    (hs : ∀ x, foldedSetIterable iter env x = pure x := by intro _; rfl) : wpAny (model prog w) A (exec (.For target iter body orelse pos) env) Q E s := wpAny_For h hs
theorem for_rule {I : Addr} {fp wr : List Addr} {n : Nat} {P : Nat → Nat → Value → Heap → Prop} {St : Nat → Heap → Prop} (W : Turns prog w A target I fp wr n P St) (hE : PassesOwn (model prog w) A env E)
    (J : Nat → Shared → Prop)
    (hst : St 0 s.heap) (h0 : J 0 s)
    (step : ∀ i v s₀ h₁ tk₁, i < n → J i s₀ → s₀.toks ≤ tk₁ → P s₀.toks i v h₁ → St (i + 1) h₁ → Kept wr s₀.heap h₁ → wpAny (model prog w) A (assign target env v) (fun _ s₂ => wpAny (model prog w) A (execs body env) (fun f s₃ => match f with
        | .ret v => Q (.ret v) s₃
        | .brk => Q .next s₃
        | _ => (∀ b ∈ fp, ∀ o, h₁.get? b = some o → s₃.heap.get? b = some o) ∧ J (i + 1) s₃) E s₂) E { s₀ with heap := h₁, toks := tk₁ })
    (done : ∀ s₀ h₁ tk₁, J n s₀ → s₀.toks ≤ tk₁ → Kept wr s₀.heap h₁ → wpAny (model prog w) A (execs orelse env) Q E { s₀ with heap := h₁, toks := tk₁ }) : ForRest prog w A E env target body orelse Q (.ref I) s := by
  refine codeAny_forLoop_any (fun k s' => ∃ i, St i s'.heap ∧ J i s' ∧ i ≤ n ∧ k = n + 1 - i) ?_ (n + 1) ⟨0, hst, h0, Nat.zero_le _, rfl⟩
  rintro k s' ⟨i, hst', hJ, hi, rfl⟩
  by_cases hlt : i < n
  · refine' wpAny_mono (W.turn i s' ?G (notedBy (model prog w) A env (cameBackBy (model prog w) A env E)) hlt hst' ?c1) ?c2 fun _ _ e => e
    case c2 =>
      intro r s₁ h₁
      obtain ⟨v, rfl, h₁⟩ := h₁
      exact h₁
    intro v h₂ tk₂ ht hP hst₂ hk
    refine wpAny_mono (step i v s' h₂ tk₂ hlt hJ ht hP hst₂ hk) (fun _ s₂ h₂' => wpAny_passesOwn hE (wpAny_mono h₂' (fun f s₃ h₃ => ?_) fun _ _ e => e)) hE
    cases f with
    | ret v => exact h₃
    | brk => exact h₃
    | cont => exact ⟨n + 1 - (i + 1), by omega, i + 1, W.frame _ _ _ hst₂ h₃.1, h₃.2, hlt, rfl⟩
    | next => exact ⟨n + 1 - (i + 1), by omega, i + 1, W.frame _ _ _ hst₂ h₃.1, h₃.2, hlt, rfl⟩
  · have hin : i = n := by omega
    subst hin
    refine W.done _ _ _ hst' fun h₁ tk₁ ht hk₁ => ?_
    exact wpAny_passesOwn hE (done _ _ _ hJ ht hk₁)
end
section
variable {prog : Program} {w : World} {A : Around} {E : Value → Shared → Prop} {s : Shared}
abbrev strIt (x : Str) (t : Tok) (i : Nat) : Obj := { cls := .type "str_ascii_iterator", data := .fields #[.str x t, .int i 0] }
abbrev enumOut (it : Addr) (i : Int) (item : Value) (a : Addr) : Obj := { cls := .type "enumerate", dict := none, data := .fields #[rawInt a, .bool false, .ref it, rawInt i, .none, item], slots := #[] }
theorem enum_step {x : Str} {t : Tok} {e it : Addr} {i c : Nat} {old : Value} {Q : Option Value → Shared → Prop} (hc : x.cps[i]? = some c) (hne : e ≠ it)
    (he : IsEnum s.heap e it i old) (hit : s.heap.IsStrIter it "str_ascii_iterator" x t i)
    (hQ : ∀ h', IsEnumOut h' e it ((i : Int) + 1) (.str ⟨#[c]⟩ s.toks) s.heap.objs.size → h'.IsStrIter it "str_ascii_iterator" x t (i + 1) →
      h'.IsTuple s.heap.objs.size #[.int i (s.toks + 1), .str ⟨#[c]⟩ s.toks] →
      (∀ b o, b ≠ e → b ≠ it → s.heap.get? b = some o → h'.get? b = some o) → Q (some (.ref s.heap.objs.size)) { s with heap := h', toks := s.toks + 2 }) :
    wpAny (model prog w) A (pyNext (.ref e)) Q E s := by
  have hT : s.TypeIs (.ref e) "enumerate" := ⟨_, he, rfl⟩
  obtain ⟨hp, g, d, tk, os⟩ := s
  dsimp only at he hit hQ hT
  unfold pyNext
  refine wpAny_bind (wpAny_attempt (wpAny_callSpecial?_slot (name := Str.ofString "__next__") hT F.slot_enumerate_next (wpAny_call_entry F.slot_enumerate_next hT F.entry_enumerate_next ?_ (F.args_enumerate_next_1 _))))
  have nx : ∀ {A' : Around} {Q' : Value → Shared → Prop} {E' : Value → Shared → Prop}, (∀ h', h'.IsStrIter it "str_ascii_iterator" x t (i + 1) → Heap.SameBut it hp h' → Q' (.str ⟨#[c]⟩ tk) ⟨h', g, d, tk + 1, os⟩) → wpAny (model prog w) A' (nextOf (.ref it)) Q' E' ⟨hp, g, d, tk, os⟩ := fun k => wpAny_nextOf_ascii_item (s := ⟨hp, g, d, tk, os⟩) hit hc k
  unfold Builtin.«enumerate.__next__»
  refine wpAny_bind (wpAny_of_eq (a := (Value.ref e, [])) (by kernel_rfl) ?_)
  refine wpAny_bind (wpAny_field he rfl (x := .ref it) rfl (wpAny_bind (nx fun h1 hi1 hs1 => ?_)))
  have he1 : IsEnum h1 e it i old := (hs1.2 e hne).trans he
  refine wpAny_bind (wpAny_field he1 rfl (x := rawInt i) rfl ?_)
  unfold rawInt
  dsimp only
  refine wpAny_bind (wpAny_field he1 rfl (x := .none) rfl ?_)
  refine wpAny_bind (wpAny_mkInt (wpAny_bind (wpAny_setField_rec he1 (by simp) fun h2 he2 hs2 => ?_)))
  replace hs2 : Heap.SameBut e h1 h2 := hs2
  replace he2 : IsEnum h2 e it ((i : Int) + 1) old := he2
  refine wpAny_bind (wpAny_setField_rec he2 (by simp) fun h3 he3 hs3 => ?_)
  replace hs3 : Heap.SameBut e h2 h3 := hs3
  replace he3 : IsEnum h3 e it ((i : Int) + 1) old := he3
  have z3 : h3.objs.size = hp.objs.size := by rw [hs3.1, hs2.1, hs1.1]
  refine wpAny_bind (wpAny_newTuple ?_)
  dsimp only
  rw [z3]
  have he4 : IsEnum (h3.push { cls := .type "tuple", data := .seq #[.int i (tk + 1), .str ⟨#[c]⟩ tk] }) e it ((i : Int) + 1) old := Heap.get?_push_of_some _ he3
  have ht4 : (h3.push { cls := .type "tuple", data := .seq #[.int i (tk + 1), .str ⟨#[c]⟩ tk] }).get? hp.objs.size = some { cls := .type "tuple", data := .seq #[.int i (tk + 1), .str ⟨#[c]⟩ tk] } := by rw [← z3]; exact Heap.get?_push_size _ rfl
  have hk4 : ∀ b o, b ≠ e → b ≠ it → hp.get? b = some o → (h3.push { cls := .type "tuple", data := .seq #[.int i (tk + 1), .str ⟨#[c]⟩ tk] }).get? b = some o := fun b o n1 n2 hb => Heap.get?_push_of_some _ (hs3.extBut b o n1 (hs2.extBut b o n1 (hs1.extBut b o n2 hb)))
  have hi4 : (h3.push { cls := .type "tuple", data := .seq #[.int i (tk + 1), .str ⟨#[c]⟩ tk] }).IsStrIter it "str_ascii_iterator" x t (i + 1) := ((hi1.extBut hs2.extBut hne.symm).extBut hs3.extBut hne.symm).imp fun o ho => ⟨Heap.get?_push_of_some _ ho.1, ho.2⟩
  have hlt : e < hp.objs.size := Heap.lt_size he
  refine wpAny_bind ?_
  unfold ownedTupleIsFree
  refine wpAny_bind (wpAny_field he4 rfl (x := .none) rfl (wpAny_pure ?_))
  rw [if_pos rfl]
  refine wpAny_bind (wpAny_rule (wpAny_bind (wpAny_field he4 rfl (x := old) rfl (wpAny_bind (wpAny_setField_rec he4 (by simp) fun h5 he5 hs5 => ?_)))))
  replace hs5 : Heap.SameBut e _ h5 := hs5
  replace he5 : IsEnum h5 e it ((i : Int) + 1) (.str ⟨#[c]⟩ tk) := he5
  refine wpAny_bind ?_
  unfold ownedTupleHandOut
  refine wpAny_bind (wpAny_setField_rec he5 (by simp) fun h6 he6 hs6 => ?_)
  replace hs6 : Heap.SameBut e h5 h6 := hs6
  replace he6 : IsEnumOut h6 e it ((i : Int) + 1) (.str ⟨#[c]⟩ tk) hp.objs.size := he6
  refine wpAny_setField_rec he6 (by simp) fun h7 he7 hs7 => ?_
  replace hs7 : Heap.SameBut e h6 h7 := hs7
  refine wpAny_bind (wpAny_letGo (wpAny_pure ⟨_, rfl, wpAny_pure ?_⟩))
  have hf := hs7.extBut _ _ (Nat.ne_of_gt hlt) (hs6.extBut _ _ (Nat.ne_of_gt hlt) (hs5.extBut _ _ (Nat.ne_of_gt hlt) ht4))
  exact hQ h7 he7 (((hi4.extBut hs5.extBut hne.symm).extBut hs6.extBut hne.symm).extBut hs7.extBut hne.symm) ⟨_, hf, rfl, _, rfl⟩ fun b o n1 n2 hb => hs7.extBut b o n1 (hs6.extBut b o n1 (hs5.extBut b o n1 (hk4 b o n1 n2 hb)))
end
section
variable {prog : Program} {w : World} {A : Around} {E : Value → Shared → Prop} {s : Shared} {env : Env} {h₀ : Heap} {body orelse : List Stmt} {Q : Flow → Shared → Prop}
theorem turns_enum (hh : A.handled = none) (elts : List Expr) (k : Nat) (pos : Pos) {x : Str} (_ha : x.cps.all (· < 128) = true) (t : Tok) (e it : Addr) (hne : e ≠ it) :
    Turns prog w A (.Tuple elts k pos) e [e, it] [e, it] x.cps.size
      (fun n i v h => ∃ T c, ∃ u : Nat, ∃ v', v = .ref T ∧ n ≤ u ∧ x.cps[i]? = some c ∧ h.IsTuple T #[.int (i : Nat) v', .str ⟨#[c]⟩ u])
      (fun i h => (∃ old, IsEnum h e it i old) ∧ h.IsStrIter it "str_ascii_iterator" x t i) where
  frame := fun i h h' st hk => ⟨st.1.imp fun old he => hk e (by simp) _ he, st.2.imp fun o ho => ⟨hk it (by simp) o ho.1, ho.2⟩⟩
  turn := fun i s Q E hi st hQ => by
    obtain ⟨⟨old, he⟩, hit⟩ := st
    refine enum_step (c := x.cps[i]) (by simp [hi]) hne he hit fun h' he' hi' hT' hk => ⟨_, rfl, ?_⟩
    have h1 : e < s.heap.objs.size := Heap.lt_size he
    have h2 : it < s.heap.objs.size := let ⟨_, ho, _⟩ := hit; Heap.lt_size ho
    refine wpAny_letOwnedTupleGo_enum he' fun h₂ he₂ hs₂ => ?_
    refine hQ _ h₂ (s.toks + 2) (Nat.le_add_right _ _) ⟨_, _, _, _, rfl, Nat.le_refl _, by simp [hi], hT'.imp fun o ho => ⟨(hs₂.2 _ (Nat.ne_of_gt h1)).trans ho.1, ho.2⟩⟩ ⟨⟨_, he₂⟩, hi'.imp fun o ho => ⟨(hs₂.2 _ hne.symm).trans ho.1, ho.2⟩⟩ fun b o hb x => ?_
    simp only [List.mem_cons, List.not_mem_nil, or_false, not_or] at hb
    exact (hs₂.2 _ hb.1).trans (hk b o hb.1 hb.2 x)
  done := fun s Q E st hQ => by
    obtain ⟨⟨old, he⟩, hit⟩ := st
    have D := Draws.strAscii (prog := prog) (w := w) (A := A.in1) hh it x t
    refine wpAny_pyNext_enum_endD D he hit fun h' hk => ?_
    refine hQ h' s.toks (Nat.le_refl _) fun b o hb x => ?_
    simp only [List.mem_cons, List.not_mem_nil, or_false, not_or] at hb
    exact hk b o hb.2 x
/-- what holds at each turn, told in the frame's and the ledger's words -/
def LoopSt (s : Shared) (h₀ : Heap) (L : Addr) (wr : List Addr) (J : Nat → (Str → Option Value) → List (Addr × Obj) → Nat → Prop) (i : Nat) (s₁ : Shared) : Prop :=
  ∃ m₁ news₁ h₁ tk₁, s₁ = { s with heap := h₁, toks := tk₁ } ∧ Fr h₀ L h₁ m₁ ∧ News h₀ L h₁ news₁ ∧ (∀ p ∈ news₁, p.1 ∉ wr) ∧ s.toks ≤ tk₁ ∧ J i m₁ news₁ tk₁
def Back (s : Shared) (h₀ : Heap) (L : Addr) (ow : List (Addr × Obj)) (ok : Addr → Prop) (J : (Str → Option Value) → List (Addr × Obj) → Nat → Prop) (s₃ : Shared) : Prop :=
  ∃ m₂ news₂ h' tk', s₃ = { s with heap := h', toks := tk' } ∧ Fr h₀ L h' m₂ ∧ News h₀ L h' (news₂ ++ ow) ∧ (∀ p ∈ news₂, ok p.1) ∧ s.toks ≤ tk' ∧ J m₂ news₂ tk'
theorem Back.intro {s : Shared} {h₀ h' : Heap} {L : Addr} {ow news₂ : List (Addr × Obj)} {ok : Addr → Prop} {J : (Str → Option Value) → List (Addr × Obj) → Nat → Prop} {m₂ : Str → Option Value} {tk' : Nat} (F : Fr h₀ L h' m₂) (N : News h₀ L h' (news₂ ++ ow))
    (a : ∀ p ∈ news₂, ok p.1) (t : s.toks ≤ tk') (j : J m₂ news₂ tk') : Back s h₀ L ow ok J { s with heap := h', toks := tk' } := ⟨m₂, news₂, h', tk', rfl, F, N, a, t, j⟩
/-- the rule of a loop in those words: own is what the loop itself holds -/
theorem for_led {target : Expr} {I : Addr} {fp wr : List Addr} {n : Nat} {P : Nat → Nat → Value → Heap → Prop} {St : Nat → Heap → Prop} {m : Str → Option Value} {news : List (Addr × Obj)} (W : Turns prog w A target I fp wr n P St) (hE : PassesOwn (model prog w) A env E)
    (F : Fr h₀ env.locals s.heap m) (N : News h₀ env.locals s.heap news) (nL : env.locals ∉ wr) (nW : ∀ b ∈ wr, h₀.get? b = none) (hnw : ∀ p ∈ news, p.1 ∉ wr) (hst : St 0 s.heap)
    (J : Nat → (Str → Option Value) → List (Addr × Obj) → Nat → Prop) (Jm : ∀ i m₁ n₁ t t', J i m₁ n₁ t → t ≤ t' → J i m₁ n₁ t') (h0 : J 0 m news s.toks)
    (OP : List (Addr × Obj) → Prop) (own : ∀ i (h₁ : Heap) news₁, St i h₁ → News h₀ env.locals h₁ news₁ → ∃ ow : List (Addr × Obj), News h₀ env.locals h₁ ow ∧ OP ow ∧ ∀ h₂ : Heap, (∀ p ∈ ow, h₂.get? p.1 = some p.2) → (∀ (b : Addr) o, h₀.get? b = some o → h₁.get? b = some o ∧ h₂.get? b = some o) → ∀ b ∈ fp, ∀ o, h₁.get? b = some o → h₂.get? b = some o)
    (step : ∀ (i : Nat) v ow m₁ news₁ h₁ tk₀ tk₁, i < n → J i m₁ news₁ tk₀ → s.toks ≤ tk₀ → tk₀ ≤ tk₁ → P tk₀ i v h₁ → Fr h₀ env.locals h₁ m₁ → News h₀ env.locals h₁ (news₁ ++ ow) → (∀ p ∈ news₁, p.1 ∉ wr) → OP ow →
      wpAny (model prog w) A (assign target env v) (fun _ s₂ => wpAny (model prog w) A (execs body env) (fun f s₃ => match f with
        | .ret v => Q (.ret v) s₃
        | .brk => Q .next s₃
        | _ => Back s h₀ env.locals ow (· ∉ wr) (J (i + 1)) s₃) E s₂) E { s with heap := h₁, toks := tk₁ })
    (done : ∀ m₁ news₁ h₁ tk₁, J n m₁ news₁ tk₁ → s.toks ≤ tk₁ → Fr h₀ env.locals h₁ m₁ → News h₀ env.locals h₁ news₁ → wpAny (model prog w) A (execs orelse env) Q E { s with heap := h₁, toks := tk₁ }) :
    ForRest prog w A E env target body orelse Q (.ref I) s := by
  refine for_rule W hE (LoopSt s h₀ env.locals wr J) hst ⟨m, news, _, _, rfl, F, N, hnw, Nat.le_refl _, h0⟩ ?_ ?_
  · rintro i v s₀ h₂ tk₂ hi ⟨m₁, news₁, h₁, tk₁, rfl, F₁, N₁, a, b, j⟩ ht hP st kp
    have F₂ := kept_fr F₁ kp nL nW
    have N₂ := kept_news N₁ kp a
    obtain ⟨ow, No, hf, ho⟩ := own _ _ _ st N₂
    refine wpAny_mono (step i v ow m₁ news₁ h₂ tk₁ tk₂ hi j b ht hP F₂ (N₂.append No) a hf) (fun _ s₂ h₂' => wpAny_mono h₂' (fun f s₃ hn3 => ?_) fun _ _ e => e) fun _ _ e => e
    have fin : Back s h₀ env.locals ow (· ∉ wr) (J (i + 1)) s₃ →
        (∀ b ∈ fp, ∀ o, h₂.get? b = some o → s₃.heap.get? b = some o) ∧ LoopSt s h₀ env.locals wr J (i + 1) s₃ := by
      rintro ⟨m₂, news₂, h₃, tk₃, rfl, F₃, N₃, a₃, b₃, j₃⟩
      exact ⟨ho h₃ (fun p hp => (N₃ p (List.mem_append_right _ hp)).1) fun b o e => ⟨F₂.keep b o e, F₃.keep b o e⟩, m₂, news₂, h₃, tk₃, rfl, F₃, fun p hp => N₃ p (List.mem_append_left _ hp), a₃, b₃, j₃⟩
    cases f with
    | ret v => exact hn3
    | brk => exact hn3
    | next => exact fin hn3
    | cont => exact fin hn3
  · rintro s₀ h₂ tk₂ ⟨m₁, news₁, h₁, tk₁, rfl, F₁, N₁, a, b, j⟩ ht kp
    exact done m₁ news₁ h₂ tk₂ (Jm _ _ _ _ _ j ht) (Nat.le_trans b ht) (kept_fr F₁ kp nL nW) (kept_news N₁ kp a)
theorem enum_led {elts : List Expr} {k : Nat} {pos : Pos} {x : Str} {t : Tok} {m : Str → Option Value} {news : List (Addr × Obj)} (ha : x.cps.all (· < 128) = true) (hh : A.handled = none) (hE : PassesOwn (model prog w) A env E)
    (F : Fr h₀ env.locals s.heap m) (N : News h₀ env.locals s.heap news)
    (J : Nat → (Str → Option Value) → List (Addr × Obj) → Nat → Prop) (Jm : ∀ i m₁ n₁ t t', J i m₁ n₁ t → t ≤ t' → J i m₁ n₁ t') (h0 : J 0 m news s.toks)
    (step : ∀ (i : Nat) T c (u : Nat) v' ow m₁ news₁ h₁ (tk₀ tk₁ : Nat) (wr : List Addr), x.cps[i]? = some c → tk₀ ≤ u → IsTup h₁ T #[.int (i : Nat) v', .str ⟨#[c]⟩ u] → J i m₁ news₁ tk₀ → s.toks ≤ tk₀ → tk₀ ≤ tk₁ → Fr h₀ env.locals h₁ m₁ → News h₀ env.locals h₁ (news₁ ++ ow) → (∀ p ∈ news₁, p.1 ∉ wr) → (∀ p ∈ ow, p.1 ∈ wr) →
      wpAny (model prog w) A (assign (.Tuple elts k pos) env (.ref T)) (fun _ s₂ => wpAny (model prog w) A (execs body env) (fun f s₃ => match f with
        | .ret v => Q (.ret v) s₃
        | .brk => Q .next s₃
        | _ => Back s h₀ env.locals ow (· ∉ wr) (J (i + 1)) s₃) E s₂) E { s with heap := h₁, toks := tk₁ })
    (done : ∀ m₁ news₁ h₁ tk₁, J x.cps.size m₁ news₁ tk₁ → s.toks ≤ tk₁ → Fr h₀ env.locals h₁ m₁ → News h₀ env.locals h₁ news₁ → wpAny (model prog w) A (execs orelse env) Q E { s with heap := h₁, toks := tk₁ }) :
    wpAny (model prog w) A (call (.type "enumerate") [.str x t]) (fun xv s₁ => wpAny (model prog w) A (pyIter xv) (fun it s₂ => ForRest prog w A E env (.Tuple elts k pos) body orelse Q it s₂) E s₁) E s := by
  have hLs : env.locals < s.heap.objs.size := F.ns.lt
  refine call_enumerate_str fun h' hen hI hsz hk => ?_
  refine wpAny_pyIter_enum hen ?_
  rw [show strIterType x = "str_ascii_iterator" from by unfold strIterType; rw [ha]; rfl] at hI
  have nL : env.locals ∉ [s.heap.objs.size + 1, s.heap.objs.size] := by
    simp only [List.mem_cons, List.not_mem_nil, or_false, not_or]
    exact ⟨Nat.ne_of_lt (Nat.lt_succ_of_lt hLs), Nat.ne_of_lt hLs⟩
  have nW : ∀ b ∈ [s.heap.objs.size + 1, s.heap.objs.size], h₀.get? b = none := by
    intro b hb
    simp only [List.mem_cons, List.not_mem_nil, or_false] at hb
    rcases hb with rfl | rfl
    · exact ktu_new F (Nat.le_add_right _ _)
    · exact ktu_new F (Nat.le_refl _)
  refine for_led (s := { s with heap := h' }) (turns_enum hh elts k pos ha t _ _ (Nat.succ_ne_self _)) hE (F.keeps hk) (N.grown hk) nL nW ?_ ⟨⟨_, hen⟩, hI⟩ J Jm h0 (fun ow => ∀ p ∈ ow, p.1 ∈ [s.heap.objs.size + 1, s.heap.objs.size]) ?_ ?_ done
  · intro p hp
    have := Heap.lt_size (N p hp).1
    simp only [List.mem_cons, List.not_mem_nil, or_false, not_or]
    exact ⟨Nat.ne_of_lt (Nat.lt_succ_of_lt this), Nat.ne_of_lt this⟩
  · rintro i h₁ news₁ ⟨⟨old, he⟩, oi, hoi, -⟩ -
    obtain ⟨oe, he⟩ : ∃ oe, h₁.get? (s.heap.objs.size + 1) = some oe := ⟨_, he⟩
    refine ⟨[(s.heap.objs.size + 1, oe), (s.heap.objs.size, oi)], ?_, by simp, fun h₂ k2 _ b hb o ho => ?_⟩
    · intro p hp
      simp only [List.mem_cons, List.not_mem_nil, or_false] at hp
      rcases hp with rfl | rfl
      · exact ⟨he, fun e => nL (by rw [← e]; simp), nW _ (by simp)⟩
      · exact ⟨hoi, fun e => nL (by rw [← e]; simp), nW _ (by simp)⟩
    · simp only [List.mem_cons, List.not_mem_nil, or_false] at hb
      rcases hb with rfl | rfl
      · exact (Option.some.inj (he.symm.trans ho)) ▸ k2 _ (.head _)
      · exact (Option.some.inj (hoi.symm.trans ho)) ▸ k2 _ (.tail _ (.head _))
  · rintro i v ow m₁ news₁ h₁ tk₀ tk₁ hi j b ht ⟨T, c, u, v', rfl, hu, hc, hT⟩ F₁ N₁ a o
    exact step i T c u v' ow m₁ news₁ h₁ tk₀ tk₁ _ hc hu hT j b ht F₁ N₁ a o
theorem list_led {target : Expr} {l : Addr} {lo : Obj} {items : List Value} {k : Nat} {m : Str → Option Value} {news : List (Addr × Obj)} (hh : A.handled = none) (hE : PassesOwn (model prog w) A env E)
    (F : Fr h₀ env.locals s.heap m) (N : News h₀ env.locals s.heap news) (hl : (l, lo) ∈ news) (hc : lo.cls = .type "list") (hd : lo.data = .seq items.toArray k)
    (J : Nat → (Str → Option Value) → List (Addr × Obj) → Nat → Prop) (Jm : ∀ i m₁ n₁ t t', J i m₁ n₁ t → t ≤ t' → J i m₁ n₁ t') (h0 : J 0 m news s.toks)
    (step : ∀ (i : Nat) v ow m₁ news₁ h₁ tk₀ tk₁ I, items[i]? = some v → J i m₁ news₁ tk₀ → s.toks ≤ tk₀ → tk₀ ≤ tk₁ → Fr h₀ env.locals h₁ m₁ → News h₀ env.locals h₁ (news₁ ++ ow) → (∀ p ∈ news₁, p.1 ≠ I) → (∀ p ∈ ow, p.1 = I ∨ p.1 = l) → (∃ o, (I, o) ∈ ow ∧ o.cls = .type "list_iterator") →
      wpAny (model prog w) A (assign target env v) (fun _ s₂ => wpAny (model prog w) A (execs body env) (fun f s₃ => match f with
        | .ret v => Q (.ret v) s₃
        | .brk => Q .next s₃
        | _ => Back s h₀ env.locals ow (· ≠ I) (J (i + 1)) s₃) E s₂) E { s with heap := h₁, toks := tk₁ })
    (done : ∀ m₁ news₁ h₁ tk₁, J items.length m₁ news₁ tk₁ → s.toks ≤ tk₁ → Fr h₀ env.locals h₁ m₁ → News h₀ env.locals h₁ news₁ → wpAny (model prog w) A (execs orelse env) Q E { s with heap := h₁, toks := tk₁ }) :
    wpAny (model prog w) A (pyIter (.ref l)) (fun it s₂ => ForRest prog w A E env target body orelse Q it s₂) E s := by
  have hLs : env.locals < s.heap.objs.size := F.ns.lt
  have hls : s.heap.IsList l items.toArray := ⟨lo, (N _ hl).1, hc, k, hd⟩
  have hlt : l < s.heap.objs.size := Heap.lt_size (N _ hl).1
  have hne : l ≠ s.heap.objs.size := Nat.ne_of_lt hlt
  have hlL := (N _ hl).2
  refine wpAny_pyIter_list hls ?_
  have W := Turns.ofK (KTurns.ofWalks (target := target) (Walks.list (prog := prog) (w := w) hh s.heap.objs.size l hne items.toArray) fun i v s Q E st q => letGo_listiter st.1 q)
  rw [List.size_toArray] at W
  have one : ∀ b : Addr, b ∈ [s.heap.objs.size] ↔ b = s.heap.objs.size := by simp
  refine for_led (s := { s with heap := s.heap.push _ }) W hE (F.push _) (fun p hp => ⟨Heap.get?_push_of_some _ (N p hp).1, (N p hp).2⟩) (fun e => absurd ((one _).mp e) (Nat.ne_of_lt hLs)) ?_ ?_ ⟨⟨_, Heap.get?_push_size _ rfl, rfl, rfl⟩, hls.at fun o e => Heap.get?_push_of_some _ e⟩ J Jm h0 (fun ow => (∀ p ∈ ow, p.1 = s.heap.objs.size ∨ p.1 = l) ∧ ∃ o, (s.heap.objs.size, o) ∈ ow ∧ o.cls = .type "list_iterator") ?_ ?_ done
  · intro b hb
    rw [(one _).mp hb]
    exact next_is_new F
  · intro p hp hb
    exact absurd ((one _).mp hb) (Nat.ne_of_lt (Heap.lt_size (N p hp).1))
  · rintro i h₁ news₁ ⟨⟨oi, hoi, hoc, -⟩, ol, hol, -⟩ -
    refine ⟨[(s.heap.objs.size, oi), (l, ol)], ?_, ⟨by simp, oi, List.mem_cons_self .., hoc⟩, fun h₂ k2 _ b hb o ho => ?_⟩
    · intro p hp
      simp only [List.mem_cons, List.not_mem_nil, or_false] at hp
      rcases hp with rfl | rfl
      · exact ⟨hoi, Nat.ne_of_gt hLs, next_is_new F⟩
      · exact ⟨hol, hlL⟩
    · simp only [List.mem_cons, List.not_mem_nil, or_false] at hb
      rcases hb with rfl | rfl
      · exact (Option.some.inj (hoi.symm.trans ho)) ▸ k2 _ (.head _)
      · exact (Option.some.inj (hol.symm.trans ho)) ▸ k2 _ (.tail _ (.head _))
  · intro i v ow m₁ news₁ h₁ tk₀ tk₁ hi j b ht hv F₁ N₁ a o
    have hv : items[i]? = some v := by simpa using hv
    refine wpAny_mono (step i v ow m₁ news₁ h₁ tk₀ tk₁ s.heap.objs.size hv j b ht F₁ N₁ (fun p hp e => a p hp ((one _).mpr e)) o.1 o.2) (fun _ s₂ h₂ => wpAny_mono h₂ (fun f s₃ h₃ => ?_) fun _ _ e => e) fun _ _ e => e
    have fin : Back s h₀ env.locals ow (· ≠ s.heap.objs.size) (J (i + 1)) s₃ → Back s h₀ env.locals ow (· ∉ [s.heap.objs.size]) (J (i + 1)) s₃ := by
      rintro ⟨m₂, news₂, h', tk', e, F₃, N₃, a₃, r⟩
      exact ⟨m₂, news₂, h', tk', e, F₃, N₃, fun p hp h => a₃ p hp ((one _).mp h), r⟩
    cases f with
    | ret v => exact h₃
    | brk => exact h₃
    | next => exact fin h₃
    | cont => exact fin h₃
end
-- Acc10
section
variable {prog : Program} {w : World} {A : Around} {E : Value → Shared → Prop} {s : Shared} {K : Frag} {p q : Str} {t u : Nat} {Q : Value → Shared → Prop}
theorem is_diff (hpq : p ≠ q) (ht : 0 < t) (hu : 0 < u) (htu : t ≠ u) (k : Q (.bool false) s) : wpAny (model prog w) A (compareOp .Is (.str p t) (.str q u)) Q E s := by
  have e1 : (t == 0 || u == 0) = false := by
    have a : (t == 0) = false := beq_false_of_ne (Nat.ne_of_gt ht)
    have b : (u == 0) = false := beq_false_of_ne (Nat.ne_of_gt hu)
    rw [a, b]; rfl
  have e2 : (t == u) = false := beq_false_of_ne htu
  have e3 : (p == q) = false := beq_false_of_ne hpq
  show wpAny _ _ (isSame.created (p == q) t u >>= fun b => pure (Value.bool b)) _ _ _
  unfold isSame.created
  rw [e1, e2, e3]
  exact wpAny_bind (wpAny_pure (wpAny_pure k))
theorem told (X : K.In s.heap) (hn : nsIn K cStatics sharingNotToldKey = some none) {Q' : Bool → Shared → Prop} {E' : Value → Shared → Prop} (k : Q' false s) : wpAny (model prog w) A (sharingNotTold t) Q' E' s := by
  unfold sharingNotTold
  refine wpAny_bind ((looks_nsIn X hn).here (wpAny_pure k))
theorem is_same0 (X : K.In s.heap) (hn : nsIn K cStatics sharingNotToldKey = some none) (ht : 0 < t) (hu : 0 < u) (k : ∀ b, Q (.bool b) s) : wpAny (model prog w) A (compareOp .Is (.str p t) (.str q u)) Q E s := by
  have e1 : (t == 0 || u == 0) = false := by
    have a : (t == 0) = false := beq_false_of_ne (Nat.ne_of_gt ht)
    have b : (u == 0) = false := beq_false_of_ne (Nat.ne_of_gt hu)
    rw [a, b]; rfl
  show wpAny _ _ (isSame.created (p == q) t u >>= fun b => pure (Value.bool b)) _ _ _
  refine wpAny_bind ?_
  have fin : ∀ b : Bool, wpAny (model prog w) A (pure b) (fun b s' => wpAny (model prog w) A (pure (Value.bool b)) Q E s') E s := fun b => wpAny_pure (wpAny_pure (k b))
  unfold isSame.created
  rw [e1, if_neg (by decide)]
  split
  · exact fin _
  split
  · exact fin _
  refine wpAny_bind (told X hn ?_)
  rw [if_neg (by decide)]
  refine wpAny_bind (told X hn ?_)
  rw [if_neg (by decide)]
  exact wpAny_bind (wpAny_rule (wpAny_bind (wpAny_askSetting (fin _))))
theorem is_same {h₀ : Heap} {L : Addr} {m : Str → Option Value} (F : Fr h₀ L s.heap m) (X₀ : K.In h₀) (hn : nsIn K cStatics sharingNotToldKey = some none) (ht : 0 < t) (hu : 0 < u) (k : ∀ b, Q (.bool b) s) : wpAny (model prog w) A (compareOp .Is (.str p t) (.str q u)) Q E s := is_same0 (X₀.keeps F.keep) hn ht hu k
end
theorem gen_toks {α : Type} {M : Model} {A : Around} {t : Sem α} {Q : α → Shared → Prop} {E : Value → Shared → Prop} {h : Heap} {g : Array GenState} {d : Drawn} {tk : Nat} {os : OsState} (n : Nat) (hn : n ≤ tk)
    (k : ∀ tk', n ≤ tk' → wpAny M A t Q E ⟨h, g, d, tk', os⟩) : wpAny M A t Q E ⟨h, g, d, tk, os⟩ := k tk hn
abbrev tupObj (a : Str) (t1 : Tok) (b : Str) (t2 : Tok) : Obj := { cls := .type "tuple", data := .seq #[.str a t1, .str b t2] }
-- Pure1
def flip1 (p : Nat × Nat) : Nat × Nat := (if p.1 = 43 then 45 else 43, p.2)
def Signs (ps : List (Nat × Nat)) : Prop := ∀ p ∈ ps, p.1 = 43 ∨ p.1 = 45
def foldStep (P : List (Nat × Nat)) (c : Nat × Nat) : List (Nat × Nat) := P ++ c :: P.reverse.map flip1
def worth (nums : List Int) (p : Nat × Nat) : Int := if p.1 = 45 then -(nums.getD (p.2 - 97) 0) else nums.getD (p.2 - 97) 0
def conv (nums : List Int) : List (Nat × Nat) → Int × Int
  | [] => (1, 0)
  | p :: ps => (worth nums p * (conv nums ps).1 + (conv nums ps).2, (conv nums ps).1)
def cv (nums : List Int) : List (Nat × Nat) → Int → Int → Int × Int
  | [], x, y => (x, y)
  | p :: ps, x, y => (worth nums p * (cv nums ps x y).1 + (cv nums ps x y).2, (cv nums ps x y).1)
theorem cv_cons (nums : List Int) (p : Nat × Nat) (ps : List (Nat × Nat)) (x y : Int) : cv nums (p :: ps) x y = (worth nums p * (cv nums ps x y).1 + (cv nums ps x y).2, (cv nums ps x y).1) := rfl
theorem conv_cv (nums : List Int) : ∀ P, conv nums P = cv nums P 1 0
  | [] => rfl
  | p :: ps => by unfold conv cv; rw [conv_cv nums ps]
theorem cv_append (nums : List Int) (x y : Int) (Q : List (Nat × Nat)) : ∀ P, cv nums (P ++ Q) x y = cv nums P (cv nums Q x y).1 (cv nums Q x y).2
  | [] => rfl
  | p :: ps => by rw [List.cons_append]; unfold cv; rw [cv_append nums x y Q ps]
theorem cv_lin (nums : List Int) (x y : Int) : ∀ P, (cv nums P x y).1 = x * (cv nums P 1 0).1 + y * (cv nums P 0 1).1 ∧ (cv nums P x y).2 = x * (cv nums P 1 0).2 + y * (cv nums P 0 1).2
  | [] => by simp [cv]
  | p :: ps => by
    obtain ⟨a, b⟩ := cv_lin nums x y ps
    unfold cv
    dsimp only
    rw [a, b]
    constructor <;> grind
def sg : Nat → Int
  | 0 => 1
  | n + 1 => - sg n
theorem sg_sq : ∀ n, sg n * sg n = 1
  | 0 => rfl
  | n + 1 => by unfold sg; have := sg_sq n; grind
theorem worth_flip (nums : List Int) {p : Nat × Nat} (h : p.1 = 43 ∨ p.1 = 45) : worth nums (flip1 p) = - worth nums p := by
  unfold worth flip1
  rcases h with h | h <;> simp [h]
theorem cv_rev (nums : List Int) : ∀ (P : List (Nat × Nat)) (x y : Int), Signs P →
    (cv nums (P.reverse.map flip1) x y).1 = sg P.length * ((cv nums P 1 0).1 * x - (cv nums P 1 0).2 * y) ∧
    (cv nums (P.reverse.map flip1) x y).2 = sg P.length * (-((cv nums P 0 1).1 * x) + (cv nums P 0 1).2 * y)
  | [], x, y, _ => by simp [cv, sg]
  | p :: P, x, y, h => by
    have hw := worth_flip nums (h p (List.mem_cons_self ..))
    rw [List.reverse_cons, List.map_append, cv_append]
    obtain ⟨a, b⟩ := cv_rev nums P (cv nums (List.map flip1 [p]) x y).1 (cv nums (List.map flip1 [p]) x y).2 (fun q hq => h q (List.mem_cons_of_mem _ hq))
    rw [a, b]
    have e1 : cv nums (List.map flip1 [p]) x y = (- worth nums p * x + y, x) := by
      show (worth nums (flip1 p) * x + y, x) = _
      rw [hw]
    rw [e1]
    simp only [List.length_cons, sg, cv_cons]
    generalize (cv nums P 1 0).1 = t
    generalize (cv nums P 1 0).2 = bb
    generalize (cv nums P 0 1).1 = u
    generalize (cv nums P 0 1).2 = v
    generalize sg P.length = q
    generalize worth nums p = ww
    clear a b e1 hw h
    constructor <;> grind
theorem cv_det (nums : List Int) : ∀ (P : List (Nat × Nat)), (cv nums P 1 0).1 * (cv nums P 0 1).2 - (cv nums P 1 0).2 * (cv nums P 0 1).1 = sg P.length
  | [] => by simp [cv, sg]
  | p :: P => by
    have := cv_det nums P
    unfold cv
    simp only [List.length_cons, sg]
    grind
/-- top and bottom, e over all -/
def readV (nums : List Int) (P : List (Nat × Nat)) : Int × Int := (nums.getD 4 0 * (conv nums P).1 + (conv nums P).2, (conv nums P).1)
theorem read_fold (nums : List Int) (P : List (Nat × Nat)) (c : Nat × Nat) (h : Signs P) :
    readV nums (foldStep P c) = (sg P.length * worth nums c * (readV nums P).2 * (readV nums P).1 + 1, sg P.length * worth nums c * (readV nums P).2 * (readV nums P).2) := by
  have e : foldStep P c = P ++ ([c] ++ P.reverse.map flip1) := rfl
  obtain ⟨a, b⟩ := cv_rev nums P 1 0 h
  have d := cv_det nums P
  have s := sg_sq P.length
  unfold readV
  simp only [conv_cv]
  rw [e, cv_append, cv_append]
  have e1 : ∀ x y, cv nums [c] x y = (worth nums c * x + y, x) := fun _ _ => rfl
  rw [e1]
  dsimp only
  obtain ⟨l1, l2⟩ := cv_lin nums (worth nums c * (cv nums (List.map flip1 P.reverse) 1 0).1 + (cv nums (List.map flip1 P.reverse) 1 0).2) (cv nums (List.map flip1 P.reverse) 1 0).1 P
  rw [l1, l2, a, b]
  generalize (cv nums P 1 0).1 = t at *
  generalize (cv nums P 1 0).2 = bb at *
  generalize (cv nums P 0 1).1 = u at *
  generalize (cv nums P 0 1).2 = v at *
  generalize sg P.length = q at *
  generalize worth nums c = ww at *
  generalize nums.getD 4 0 = ee at *
  refine Prod.ext ?_ ?_
  · dsimp only; grind
  · dsimp only; grind
def fracGo (nums : List Int) : List (Nat × Nat) → Int → Int × Int → Int × Int
  | [], _, v => v
  | c :: C, t, v => fracGo nums C (-1) (t * worth nums c * v.2 * v.1 + 1, t * worth nums c * v.2 * v.2)
def frac (nums : List Int) (P C : List (Nat × Nat)) : Int × Int := fracGo nums C (if P.length % 2 = 0 then 1 else -1) (readV nums P)
theorem sg_par : ∀ n, sg n = if n % 2 = 0 then 1 else -1
  | 0 => rfl
  | n + 1 => by
    unfold sg
    rw [sg_par n]
    split <;> split <;> omega
theorem flip_signs {ps : List (Nat × Nat)} : Signs (ps.map flip1) := by
  intro p hp
  obtain ⟨q, _, rfl⟩ := List.mem_map.mp hp
  unfold flip1
  by_cases h : q.1 = 43 <;> simp [h]
theorem foldStep_signs {P : List (Nat × Nat)} {c : Nat × Nat} (h : Signs P) (hc : c.1 = 43 ∨ c.1 = 45) : Signs (foldStep P c) := by
  intro p hp
  unfold foldStep at hp
  rcases List.mem_append.mp hp with hp | hp
  · exact h p hp
  rcases List.mem_cons.mp hp with hp | hp
  · subst hp; exact hc
  · exact flip_signs p hp
theorem frac_read (nums : List Int) : ∀ (C P : List (Nat × Nat)), Signs P → Signs C → fracGo nums C (sg P.length) (readV nums P) = readV nums (C.foldl foldStep P)
  | [], P, _, _ => rfl
  | c :: C, P, h, hc => by
    have e := read_fold nums P c h
    have hc0 := hc c (List.mem_cons_self ..)
    have hs := foldStep_signs h hc0
    have l : sg (foldStep P c).length = -1 := by
      rw [sg_par, if_neg]
      unfold foldStep
      simp
      omega
    have ih := frac_read nums C (foldStep P c) hs (fun q hq => hc q (List.mem_cons_of_mem _ hq))
    rw [l, e] at ih
    unfold fracGo
    rw [ih]
    rfl
theorem frac_eq (nums : List Int) (C P : List (Nat × Nat)) (h : Signs P) (hc : Signs C) : frac nums P C = readV nums (C.foldl foldStep P) := by
  unfold frac
  rw [← sg_par]
  exact frac_read nums C P h hc
def foldOf : Nat → Nat
  | 2 => 1
  | 4 => 2
  | 6 => 1
  | _ => 0
def oddOf : Nat → Nat
  | 2 => 1
  | 4 => 1
  | 6 => 3
  | n => n
/-- what lies at a place -/
def placeAt (P C : List (Nat × Nat)) (place : Nat) : Nat × Nat :=
  let span := P.length + 1
  if place % span = 0 then (if oddOf (place / span) % 4 = 1 then C.getD (foldOf (place / span)) (0, 0) else flip1 (C.getD (foldOf (place / span)) (0, 0)))
  else if (place / span) % 2 = 0 then P.getD (place % span - 1) (0, 0) else flip1 (P.getD (span - 1 - place % span) (0, 0))
def places (P C : List (Nat × Nat)) : List (Nat × Nat) := (List.range (8 * (P.length + 1) - 1)).map fun i => placeAt P C (i + 1)
theorem flip_flip {p : Nat × Nat} (h : p.1 = 43 ∨ p.1 = 45) : flip1 (flip1 p) = p := by
  obtain ⟨a, b⟩ := p
  unfold flip1
  rcases h with h | h <;> (dsimp only at h; subst h; rfl)
theorem places_eq {P : List (Nat × Nat)} {c1 c2 c3 : Nat × Nat} (hl : P.length ≤ 3) (h : Signs P) (hc : Signs [c1, c2, c3]) : places P [c1, c2, c3] = [c1, c2, c3].foldl foldStep P := by
  have f1 := flip_flip (hc c1 (by simp))
  have f2 := flip_flip (hc c2 (by simp))
  have f3 := flip_flip (hc c3 (by simp))
  match P, hl, h with
  | [], _, _ => simp [places, placeAt, foldStep, List.range, List.range.loop, foldOf, oddOf, f1, f2, f3]
  | [p1], _, h =>
    have g1 := flip_flip (h p1 (by simp))
    simp [places, placeAt, foldStep, List.range, List.range.loop, foldOf, oddOf, f1, f2, f3, g1]
  | [p1, p2], _, h =>
    have g1 := flip_flip (h p1 (by simp))
    have g2 := flip_flip (h p2 (by simp))
    simp [places, placeAt, foldStep, List.range, List.range.loop, foldOf, oddOf, f1, f2, f3, g1, g2]
  | [p1, p2, p3], _, h =>
    have g1 := flip_flip (h p1 (by simp))
    have g2 := flip_flip (h p2 (by simp))
    have g3 := flip_flip (h p3 (by simp))
    simp [places, placeAt, foldStep, List.range, List.range.loop, foldOf, oddOf, f1, f2, f3, g1, g2, g3]
  | _ :: _ :: _ :: _ :: _, hl, _ => simp at hl
-- Acc11
def Pc (B : Nat) (tl : List (Addr × Obj)) (v : Value) (p : Nat × Nat) : Prop :=
  ∃ q, ∃ t1 t2 : Nat, v = .ref q ∧ (q, tupObj ⟨#[p.1]⟩ t1 ⟨#[p.2]⟩ t2) ∈ tl ∧ 0 < t1 ∧ t1 < B ∧ 0 < t2 ∧ t2 < B
def Pcs (B : Nat) (tl : List (Addr × Obj)) : List Value → List (Nat × Nat) → Prop
  | [], [] => True
  | v :: vs, p :: ps => Pc B tl v p ∧ Pcs B tl vs ps
  | _, _ => False
theorem Pc.mono {B B' : Nat} {tl tl' : List (Addr × Obj)} {v : Value} {p : Nat × Nat} (h : Pc B tl v p) (hb : B ≤ B') (hs : ∀ p ∈ tl, p ∈ tl') : Pc B' tl' v p := by
  obtain ⟨q, t1, t2, e, m, a, b, c, d⟩ := h
  exact ⟨q, t1, t2, e, hs _ m, a, Nat.lt_of_lt_of_le b hb, c, Nat.lt_of_lt_of_le d hb⟩
theorem Pcs.mono {B B' : Nat} {tl tl' : List (Addr × Obj)} (hb : B ≤ B') (hs : ∀ p ∈ tl, p ∈ tl') : ∀ {vs : List Value} {ps : List (Nat × Nat)}, Pcs B tl vs ps → Pcs B' tl' vs ps
  | [], [], _ => trivial
  | _ :: _, _ :: _, h => ⟨h.1.mono hb hs, Pcs.mono hb hs h.2⟩
  | [], _ :: _, h => h.elim
  | _ :: _, [], h => h.elim
theorem Pcs.append {B : Nat} {tl : List (Addr × Obj)} : ∀ {vs : List Value} {ps : List (Nat × Nat)} {us : List Value} {qs : List (Nat × Nat)}, Pcs B tl vs ps → Pcs B tl us qs → Pcs B tl (vs ++ us) (ps ++ qs)
  | [], [], _, _, _, h => h
  | _ :: _, _ :: _, _, _, h, h' => ⟨h.1, h.2.append h'⟩
  | [], _ :: _, _, _, h, _ => h.elim
  | _ :: _, [], _, _, h, _ => h.elim
theorem Pcs.one {B : Nat} {tl : List (Addr × Obj)} {v : Value} {p : Nat × Nat} (h : Pc B tl v p) : Pcs B tl [v] [p] := ⟨h, trivial⟩
theorem Pcs.len {B : Nat} {tl : List (Addr × Obj)} : ∀ {vs : List Value} {ps : List (Nat × Nat)}, Pcs B tl vs ps → vs.length = ps.length
  | [], [], _ => rfl
  | _ :: _, _ :: _, h => by rw [List.length_cons, List.length_cons, h.2.len]
  | [], _ :: _, h => h.elim
  | _ :: _, [], h => h.elim
theorem Pcs.rev {B : Nat} {tl : List (Addr × Obj)} : ∀ {vs : List Value} {ps : List (Nat × Nat)}, Pcs B tl vs ps → Pcs B tl vs.reverse ps.reverse
  | [], [], _ => trivial
  | _ :: _, _ :: _, h => by rw [List.reverse_cons, List.reverse_cons]; exact h.2.rev.append (.one h.1)
  | [], _ :: _, h => h.elim
  | _ :: _, [], h => h.elim
theorem Pcs.at {B : Nat} {tl : List (Addr × Obj)} : ∀ {vs : List Value} {ps : List (Nat × Nat)} {i : Nat} {v : Value}, Pcs B tl vs ps → vs[i]? = some v → ∃ p, ps[i]? = some p ∧ Pc B tl v p ∧ ps.take (i + 1) = ps.take i ++ [p]
  | [], [], _, _, _, e => by simp at e
  | u :: _, p :: _, 0, v, h, e => ⟨p, rfl, by simp at e; exact e ▸ h.1, rfl⟩
  | u :: vs, p :: ps, i + 1, v, h, e => by
    obtain ⟨q, a, b, c⟩ := h.2.at (i := i) (v := v) (by simpa using e)
    exact ⟨q, by simpa using a, b, by rw [List.take_succ_cons, List.take_succ_cons, c]; rfl⟩
  | [], _ :: _, _, _, h, _ => h.elim
  | _ :: _, [], _, _, h, _ => h.elim
theorem led_ne {h₀ h : Heap} {L a b : Addr} {o o' : Obj} {news : List (Addr × Obj)} (N : News h₀ L h news) (m1 : (a, o) ∈ news) (m2 : (b, o') ∈ news) (ne : o.cls ≠ o'.cls) : a ≠ b := by
  intro e
  subst e
  exact ne (congrArg Obj.cls (Option.some.inj ((N _ m1).1.symm.trans (N _ m2).1)))
theorem Pcs.off {B : Nat} {tl : List (Addr × Obj)} {I : Addr} (h : ∀ q a t1 b t2, (q, tupObj a t1 b t2) ∈ tl → q ≠ I) : ∀ {vs : List Value} {ps : List (Nat × Nat)}, Pcs B tl vs ps → Pcs B (tl.filter fun p => p.1 != I) vs ps
  | [], [], _ => trivial
  | _ :: _, _ :: _, ⟨⟨q, t1, t2, e, m, r⟩, hr⟩ => ⟨⟨q, t1, t2, e, List.mem_filter.mpr ⟨m, by simpa using h _ _ _ _ _ m⟩, r⟩, Pcs.off h hr⟩
  | [], _ :: _, h => h.elim
  | _ :: _, [], h => h.elim
-- Acc12
section
variable {prog : Program} {w : World} {A : Around} {E : Value → Shared → Prop} {s : Shared} {K : Frag} {x dx L : Addr} {h₀ : Heap} {m : Str → Option Value} {news : List (Addr × Obj)} {items : Array Value} {ep : Nat} {od : Obj}
theorem kind_iter : builtinKind "list.__iter__" = some .slot ∨ builtinKind "list.__iter__" = some .method := by first | exact .inl (by decide +kernel) | exact .inr (by decide +kernel)
theorem split_iter : splitId "list.__iter__" = some ("list", "__iter__") := by decide +kernel
abbrev listIt (l : Addr) (i : Nat) : Obj := { cls := .type "list_iterator", data := .fields #[.ref l, .int i 0] }
theorem iter_acc {Q : Value → Shared → Prop} (X : K.In s.heap) (I : InstAt s.heap x (accObj dx items ep) 131 (some od)) (hm : mroIn K 131 (.type "list") = some true) (hs : findIn K (.ref 131) "__iter__" = some (some (.builtin "list.__iter__")))
    (k : Q (.ref s.heap.objs.size) { s with heap := s.heap.push (listIt x 0) }) : wpAny (model prog w) A (pyIter (.ref x)) Q E s := by
  unfold pyIter specialOf
  refine wpAny_bind (wpAny_bind (I.type.here ((looks_findIn X hs).here ?_)))
  dsimp only
  have go : ∀ bad : Value → Sem Value, wpAny (model prog w) A (call (.builtin "list.__iter__") [.ref x]) (fun it s' => wpAny (model prog w) A (do
        match ← specialOf it "__next__" with
        | none => bad it
        | some _ => pure it) Q E s') E s := by
    intro bad
    refine call_inst kind_iter split_iter (inst_list X I hm) (args_list_iter _) (by decide +kernel) entry_list_iter ?_
    show wpAny _ _ (do ret (← newFields "list_iterator" [.ref x, rawInt 0])) _ _ s
    have hT : (⟨s.heap.push (listIt x 0), s.gens, s.drawn, s.toks, s.os⟩ : Shared).TypeIs (.ref s.heap.objs.size) "list_iterator" := ⟨_, Heap.get?_push_size _ rfl, rfl⟩
    exact wpAny_bind (wpAny_newObj_type (wpAny_pure ⟨_, rfl, wpAny_bind (wpAny_specialOf hT slot_listiter_next.lookup (wpAny_pure k))⟩))
  unfold callSpecialIfBoundUnlessNone? bindSpecialIfBound? specialOf
  refine wpAny_bind (wpAny_holding (wpAny_bind (wpAny_bind (wpAny_bind (I.type.here ((looks_findIn X hs).here ?_))))))
  dsimp only
  rw [slot_list_iter.bind]
  refine wpAny_bind (wpAny_askSetting (wpAny_ite ?_))
  have hb : (Value.builtin "list.__iter__" == Value.none) = false := by simp [builtin_beq_none]
  split
  · refine wpAny_bind (wpAny_pure (wpAny_pure ?_))
    dsimp only
    rw [hb, if_neg Bool.false_ne_true]
    exact wpAny_bind (wpAny_mono (go _) (fun v s' z => wpAny_pure z) fun _ _ z => z)
  · refine wpAny_tryCatch (wpAny_bind (wpAny_pure (wpAny_pure ?_)))
    dsimp only
    rw [hb, if_neg Bool.false_ne_true]
    exact wpAny_bind (wpAny_mono (go _) (fun v s' z => wpAny_pure z) fun _ _ z => z)
theorem next_seq {it l : Addr} {i n : Nat} {v : Value} {ol : Obj} {Q : Option Value → Shared → Prop} (hit : s.heap.IsListIter it l i) (hol : s.heap.get? l = some ol) (hdl : ol.data = .seq items n) (hx : items[i]? = some v)
    (hQ : ∀ h', h'.IsListIter it l (i + 1) → Heap.SameBut it s.heap h' → Q (some v) { s with heap := h' }) : wpAny (model prog w) A (pyNext (.ref it)) Q E s := by
  have hT := hit.typeIs
  obtain ⟨o, ho, hc, hd⟩ := hit
  unfold pyNext
  refine wpAny_bind (wpAny_attempt (wpAny_callSpecial?_slot (name := Str.ofString "__next__") hT slot_listiter_next (wpAny_call_entry slot_listiter_next hT entry_listiter_next ?_ (args_listiter_next _))))
  show wpAny _ _ (field (.ref it) 0 >>= _) _ _ s
  refine wpAny_bind (wpAny_field ho hd (x := .ref l) rfl ?_)
  show wpAny _ _ (if (Value.ref l == Value.none) = true then _ else _) _ _ s
  rw [if_neg (show ¬ ((Value.ref l == Value.none) = true) from Bool.false_ne_true)]
  show wpAny _ _ (field (.ref it) 1 >>= _) _ _ s
  refine wpAny_bind (wpAny_field ho hd (x := .int i 0) rfl ?_)
  show wpAny _ _ (seqItems? (.ref l) >>= _) _ _ s
  refine wpAny_bind (wpAny_seqItems hol hdl ?_)
  simp only [Int.toNat_natCast, hx]
  refine wpAny_bind (wpAny_setField ho hd (by simp) (wpAny_pure ⟨v, rfl, wpAny_pure (hQ _ ⟨_, Heap.get?_update_self _ ho (Obj.isFreed_of_fields (Obj.data_mapFields hd _)), (Obj.cls_mapFields ..).trans hc, ?_⟩ (Heap.SameBut.update ..))⟩))
  rw [Obj.data_mapFields hd]; simp [rawInt]
theorem next_seq_end {it l : Addr} {i n : Nat} {ol : Obj} {Q : Option Value → Shared → Prop} (hh : A.handled = none) (hit : s.heap.IsListIter it l i) (hol : s.heap.get? l = some ol) (hdl : ol.data = .seq items n) (hx : items[i]? = none)
    (hQ : ∀ h', Heap.ExtBut it s.heap h' → Q none { s with heap := h' }) : wpAny (model prog w) A (pyNext (.ref it)) Q E s := by
  have hT := hit.typeIs
  obtain ⟨o, ho, hc, hd⟩ := hit
  unfold pyNext
  refine wpAny_bind (wpAny_attempt (wpAny_callSpecial?_slot (name := Str.ofString "__next__") hT slot_listiter_next (wpAny_call_entry slot_listiter_next hT entry_listiter_next ?_ (args_listiter_next _))))
  show wpAny _ _ (field (.ref it) 0 >>= _) _ _ s
  refine wpAny_bind (wpAny_field ho hd (x := .ref l) rfl ?_)
  show wpAny _ _ (if (Value.ref l == Value.none) = true then _ else _) _ _ s
  rw [if_neg (show ¬ ((Value.ref l == Value.none) = true) from Bool.false_ne_true)]
  show wpAny _ _ (field (.ref it) 1 >>= _) _ _ s
  refine wpAny_bind (wpAny_field ho hd (x := .int i 0) rfl ?_)
  show wpAny _ _ (seqItems? (.ref l) >>= _) _ _ s
  refine wpAny_bind (wpAny_seqItems hol hdl ?_)
  simp only [Int.toNat_natCast, hx]
  refine wpAny_bind (wpAny_rule (wpAny_bind (wpAny_setField ho hd (by simp) ?_)))
  show wpAny _ _ (newExc (.type "StopIteration") [] >>= _) _ _ _
  refine wpAny_bind ?_
  simp only [newExc, newTuple]
  refine wpAny_bind (wpAny_newObj_type ?_ (by size_fits))
  refine wpAny_bind (m := firstArgMember _ _) (wpAny_of_eq (a := Value.none) (by first | rfl | (simp only [firstArgMember]; rfl)) ?_)
  refine wpAny_newObj_type ?_ (by size_fits)
  simp only [raiseNew]
  refine wpAny_bind (wpAny_handled ?_)
  rw [show A.in1.handled = none from hh]
  refine wpAny_bind (wpAny_pure (wpAny_throw ?_))
  refine wpAny_bind (wpAny_isInstance (T := "StopIteration") (b := true) ⟨_, Heap.get?_push_size _ rfl, rfl⟩ isSubtype_stop ?_)
  exact wpAny_pure (hQ _ (((Heap.SameBut.update ..).extBut.push _).push _))
theorem walks_acc (hh : A.handled = none) (I x dx : Addr) (hne : x ≠ I) (items : Array Value) (ep : Nat) :
    Walks prog w A I [I, x] [I] items.size (fun i v => items[i]? = some v) (fun i h => h.IsListIter I x i ∧ h.get? x = some (accObj dx items ep)) where
  sub := fun b hb => by simp at hb; simp [hb]
  frame := fun _ _ _ st hk => ⟨st.1.at fun o e => hk I (by simp) o e, hk x (by simp) _ st.2⟩
  item := fun i s Q E hi st hQ => by
    refine next_seq st.1 st.2 rfl (v := items[i]) (by simp [hi]) fun h' hit' hs' => ?_
    exact hQ _ h' s.toks (by simp [hi]) ⟨hit', (hs'.2 _ hne).trans st.2⟩ fun b o hb e => hs'.extBut b o (fun h => hb (by simp [h])) e
  done := fun s Q E st hQ => next_seq_end hh st.1 st.2 rfl (by simp) fun h' he' => hQ h' s.toks fun b o hb e => he' b o (fun h => hb (by simp [h])) e
  self := fun _ _ _ _ st hQ => wpAny_pyIter_listiter st.1 hQ
def CompRest (prog : Program) (w : World) (A : Around) (env : Env) (scope : Scope) (cl : List (Str × Addr)) (x : Str) (ifs : List Expr) (elt : Expr) (p : Value → Bool) (F : Value → Value → Prop) (Q : Value → Shared → Prop) (it : Value) (s₂ : Shared) : Prop :=
  ∃ I fp wr n P St, it = .ref I ∧ Walks prog w A I fp wr n P St ∧ n ≤ sizeLine ∧ St 0 s₂.heap ∧ (∀ b ∈ fp, b < s₂.heap.objs.size) ∧
      QuietOnC prog w A env scope cl x ifs elt wr P p F s₂ ∧
      (∀ D h' tk ys (vs : List Value), s₂.heap.get? D = none → h'.IsList D ys → h'.PlainList D ys → vs.length = n → (∀ j v, vs[j]? = some v → P j v) → Paired F (vs.filter p) ys.toList →
        (∀ b o, b ∉ wr → s₂.heap.get? b = some o → h'.get? b = some o) → Q (.ref D) { s₂ with heap := h', toks := tk })
theorem comp_start {env : Env} {elt iter : Expr} {y : Str} {px : Pos} {scope : Scope} {cl : List (Str × Addr)} {pos : Pos} {Q : Value → Shared → Prop} (p : Value → Bool) (F : Value → Value → Prop)
    (h : wpAny (model prog w) A (eval iter env) (fun xv s₁ => wpAny (model prog w) A (pyIter xv) (fun it s₂ => CompRest prog w A env scope cl y [] elt p F (fun v s' => s.toks ≤ s'.toks → Q v s') it s₂) (fun e s' => s.toks ≤ s'.toks → E e s') s₁) (fun e s' => s.toks ≤ s'.toks → E e s') s)
    (hclos : closureFor scope env = pure cl) (hcell : ∀ y ∈ scope.names, y.2 ≠ .cell) (hkind : scope.kind = .function)
    (hnames : ∀ y ∈ scope.names, y.2 = .local → scope.names.lookup y.1 = some .local) (hx : scope.names.lookup y = some .local) (hs : ∀ x, foldedSetIterable iter env x = pure x := by intro _; rfl) :
    wpAny (model prog w) A (eval (.ListComp elt [⟨.Name y px, iter, [], 0⟩] scope pos) env) Q E s :=
  wpAny_with_toks (Nat.le_refl _) (wpAny_ListComp_free p F hclos hcell hkind hnames hx h hs)
theorem paired_eq : ∀ {l₁ l₂ : List Value}, Paired (fun v y : Value => y = v) l₁ l₂ → l₁ = l₂
  | _, _, .nil => rfl
  | _, _, .cons h t => by rw [h, paired_eq t]
theorem list_of_get {vs : List Value} {items : Array Value} (h : vs.length = items.size) (hp : ∀ (j : Nat) (v : Value), vs[j]? = some v → items[j]? = some v) : vs = items.toList := by
  apply List.ext_getElem?
  intro j
  rcases Nat.lt_or_ge j vs.length with hj | hj
  · rw [List.getElem?_eq_getElem hj, Array.getElem?_toList, hp j _ (List.getElem?_eq_getElem hj)]
  · rw [List.getElem?_eq_none hj, Array.getElem?_toList, Array.getElem?_eq_none (by omega)]
theorem comp_acc {env : Env} {y : Str} {py : Pos} {scope : Scope} {cl : List (Str × Addr)} {Q : Value → Shared → Prop} (hh : A.handled = none) (F : Fr h₀ L s.heap m) (X₀ : K.In h₀) (N : News h₀ L s.heap news) (h1 : (x, accObj dx items ep) ∈ news) (h2 : (dx, od) ∈ news)
    (hm : mroIn K 131 (.type "list") = some true) (hs : findIn K (.ref 131) "__iter__" = some (some (.builtin "list.__iter__"))) (hz : items.size ≤ 1000)
    (hkind : scope.kind = .function) (hx : scope.names.lookup y = some .local) (hd : (y == ("__debug__" : Str)) = false)
    (hret : ∀ D k h' tk', Fr h₀ L h' m → News h₀ L h' ((D, listOf items k) :: news) → (∀ p ∈ news, p.1 ≠ D) → Q (.ref D) { s with heap := h', toks := tk' }) :
    wpAny (model prog w) A (pyIter (.ref x)) (fun it s₂ => CompRest prog w A env scope cl y [] (.Name y py) (fun _ => true) (fun v u => u = v) Q it s₂) E s := by
  have hLs : L < s.heap.objs.size := F.ns.lt
  have hxl : x < s.heap.objs.size := Heap.lt_size (N _ h1).1
  refine iter_acc (X₀.keeps F.keep) (instAcc N h1 h2) hm hs ?_
  have one : ∀ b : Addr, b ∈ [s.heap.objs.size] ↔ b = s.heap.objs.size := by simp
  refine ⟨s.heap.objs.size, _, _, _, _, _, rfl, walks_acc hh s.heap.objs.size x dx (Nat.ne_of_lt hxl) items ep, by rw [sizeLine_eq]; omega, ⟨⟨_, Heap.get?_push_size _ rfl, rfl, rfl⟩, Heap.get?_push_of_some _ (N _ h1).1⟩, ?_, ?_, ?_⟩
  · intro b hb
    simp only [List.mem_cons, List.not_mem_nil, or_false] at hb
    dsimp only
    rw [Heap.size_push]
    rcases hb with rfl | rfl
    · exact Nat.lt_succ_self _
    · exact Nat.lt_succ_of_lt hxl
  · refine ⟨fun C i v s₃ m₃ E' _ _ _ _ _ _ => ?_, fun C i v s₃ m₃ E' _ _ _ hn hv _ _ => ?_⟩
    · exact wpAny_pure ⟨rfl, s₃.heap, s₃.toks, rfl, fun _ _ e => e⟩
    · exact wpAny_Name (wpAny_loadName_local (by simp [compEnvC, relabel, hkind]) (lookup_relabel_local hx) hn hv ⟨rfl, s₃.heap, s₃.toks, rfl, fun _ _ e => e⟩) hd
  · intro D h' tk ys vs hD hl hp hlen hP hF hk
    have e1 : vs = items.toList := list_of_get hlen hP
    have e2 : vs.filter (fun _ => true) = vs := by simp
    have e3 : ys = items := by
      have := paired_eq hF
      rw [e2, e1] at this
      exact (Array.toList_inj.mp this).symm
    subst e3
    obtain ⟨k, hp⟩ := hp
    have kp : Kept [s.heap.objs.size] (s.heap.push (listIt x 0)) h' := hk
    have nW : ∀ b ∈ [s.heap.objs.size], h₀.get? b = none := fun b hb => by rw [(one b).mp hb]; exact next_is_new F
    have nD : ∀ b o, s.heap.get? b = some o → b ≠ D := fun b o e ed => by
      subst ed
      have := Heap.get?_push_of_some (listIt x 0) e
      dsimp only at hD
      rw [hD] at this; cases this
    have hF' := kept_fr (F.push (listIt x 0)) kp (fun e => absurd ((one _).mp e) (Nat.ne_of_lt hLs)) nW
    refine hret D k h' tk hF' (fun p hp' => ?_) fun p hp' => nD _ _ (N p hp').1
    rcases List.mem_cons.mp hp' with h | h
    · subst h
      refine ⟨hp, fun e => ?_, ?_⟩
      · obtain ⟨o, _, _, ho, _⟩ := F.ns
        exact nD _ _ ho e.symm
      · cases e : h₀.get? D with
        | none => rfl
        | some o => exact absurd rfl (nD _ _ (F.keep _ _ e))
    · exact ⟨kp _ _ (fun e => absurd ((one _).mp e) (Nat.ne_of_lt (Heap.lt_size (N p h).1))) (Heap.get?_push_of_some _ (N p h).1), (N p h).2⟩
end
-- Acc13
section
variable {prog : Program} {w : World} {A : Around} {E : Value → Shared → Prop} {s : Shared} {env : Env} {h₀ : Heap} {test : PySem.Expr} {body orelse : List Stmt} {Q : Flow → Shared → Prop}
def WBack (s : Shared) (h₀ : Heap) (L : Addr) (n : Nat) (J : Nat → (Str → Option Value) → List (Addr × Obj) → Nat → Prop) (s₃ : Shared) : Prop :=
  ∃ m₂ news₂ h' tk' k, s₃ = { s with heap := h', toks := tk' } ∧ Fr h₀ L h' m₂ ∧ News h₀ L h' news₂ ∧ s.toks ≤ tk' ∧ k < n ∧ J k m₂ news₂ tk'
theorem WBack.intro {s : Shared} {h₀ h' : Heap} {L : Addr} {news₂ : List (Addr × Obj)} {n k : Nat} {J : Nat → (Str → Option Value) → List (Addr × Obj) → Nat → Prop} {m₂ : Str → Option Value} {tk' : Nat} (F : Fr h₀ L h' m₂) (N : News h₀ L h' news₂)
    (t : s.toks ≤ tk') (hk : k < n) (j : J k m₂ news₂ tk') : WBack s h₀ L n J { s with heap := h', toks := tk' } := ⟨m₂, news₂, h', tk', k, rfl, F, N, t, hk, j⟩
theorem whl_led {m : Str → Option Value} {news : List (Addr × Obj)} (hE : PassesOwn (model prog w) A env E) (F : Fr h₀ env.locals s.heap m) (N : News h₀ env.locals s.heap news)
    (J : Nat → (Str → Option Value) → List (Addr × Obj) → Nat → Prop) (n : Nat) (h0 : J n m news s.toks)
    (turn : ∀ (n : Nat) m₁ news₁ h₁ tk₁, J n m₁ news₁ tk₁ → Fr h₀ env.locals h₁ m₁ → News h₀ env.locals h₁ news₁ → s.toks ≤ tk₁ →
      wpAny (model prog w) A (isTrue test env (eval test env)) (fun b s₂ => WhlIf b (wpAny (model prog w) A (execs body env) (fun f s₃ => match f with
        | .ret v => Q (.ret v) s₃
        | .brk => Q .next s₃
        | _ => WBack s h₀ env.locals n J s₃) E s₂) (wpAny (model prog w) A (execs orelse env) Q E s₂)) E { s with heap := h₁, toks := tk₁ }) : WhlRest prog w A E env test body orelse Q 0 s := by
  have all : ∀ (n : Nat) m₁ news₁ h₁ tk₁, J n m₁ news₁ tk₁ → Fr h₀ env.locals h₁ m₁ → News h₀ env.locals h₁ news₁ → s.toks ≤ tk₁ → WhlRest prog w A E env test body orelse Q 0 { s with heap := h₁, toks := tk₁ } := by
    intro n
    induction n using Nat.strongRecOn with
    | _ n ih =>
      intro m₁ news₁ h₁ tk₁ j F₁ N₁ ht
      have h := turn n m₁ news₁ h₁ tk₁ j F₁ N₁ ht
      refine whl_turn (k := 0) hE (wpAny_mono h (fun b s₂ h₂ => ?_) fun _ _ e => e)
      cases b with
      | false => exact h₂
      | true =>
        refine WhlIf.yes rfl ?_
        have h₂' : wpAny (model prog w) A (execs body env) (fun f s₃ => match f with
          | .ret v => Q (.ret v) s₃
          | .brk => Q .next s₃
          | _ => WBack s h₀ env.locals n J s₃) E s₂ := by
          unfold WhlIf at h₂
          rw [if_pos rfl] at h₂
          exact h₂
        refine wpAny_mono h₂' (fun f s₃ h₃ => ?_) fun _ _ e => e
        have fin : WBack s h₀ env.locals n J s₃ → WhlRest prog w A E env test body orelse Q 0 s₃ := by
          rintro ⟨m₂, news₂, h', tk', k, rfl, F₂, N₂, t₂, hk, j₂⟩
          exact ih k hk m₂ news₂ h' tk' j₂ F₂ N₂ t₂
        cases f with
        | next => exact fin h₃
        | cont => exact fin h₃
        | brk => exact h₃
        | ret v => exact h₃
  exact all n m news s.heap s.toks h0 F N (Nat.le_refl _)
end
-- Acc14
section
variable {prog : Program} {w : World} {A A₀ : Around} {s : Shared} {K : Frag} {L : Addr} {h₀ base : Heap} {m mg mb : Str → Option Value} {news : List (Addr × Obj)} {p : Program} {loose : List Str} {mean : ExcName → Option Value}
/-- a call of a def with cells; the tokens drawn are told -/
theorem code_defCT {env : Env} {outer : List Env} {R : Result → Shared → Prop} {name qual : Str} {params : Arguments} {body : List Stmt} {scope : Scope} {dV kV doc pm cdv ct oc : Value} {an od : Option Addr} {osl : Array (Option Value)} {f : Addr} {args : Args} {binds : List (Str × Value)}
    (B : Below A₀ base outer h₀) (F : Fr h₀ L s.heap m) (X₀ : K.In h₀) (N : News h₀ L s.heap news) (T : Top p loose mean mg mb h₀) (hA : A.frames = some (env :: outer)) (hf : env.frame = some L) (hke : env.scope.kind = .function)
    (ho : K.lookup f = some ⟨oc, od, .func (fnOf name qual params body scope dV kV doc pm an cdv ct), osl⟩) (hcd : codeIn K cdv qual = true) (hroom : A.depth < recursionLimit)
    (hbind : BindsTo s (fnOf name qual params body scope dV kV doc pm an cdv ct) args binds) (hkind : (binds.all fun y => scope.names.lookup y.1 == some .local || scope.names.lookup y.1 == some .cell) = true)
    (hnd : ((cellsFrom 0 scope.names []).map (·.1)).Nodup)
    (h : ∀ g L' h₁ (tk : Nat) cells, s.toks ≤ tk → Fr h₀ L g m → Fr g L' h₁ (bindL (envOfC qual scope L' f cdv).kindOf binds fun _ => none) → News g L' h₁ (cells ++ news) →
      CellsAre (bindC (envOfC qual scope L' f cdv).kindOf binds fun _ => none) (cellsFrom (L' + 1) scope.names []) cells → Below A base (env :: outer) g → h₀.StaysIn g → K.In g → Top p loose mean mg mb g → (∀ p ∈ news, p.1 < L') →
      wpAny (model prog w) (A.deeper (envOfC qual scope L' f cdv)) (execs body (envOfC qual scope L' f cdv))
        (fun fl s' => LeaveK h₀ L m g R (match fl with | .ret v => v | _ => .none) s')
        (fun e s' => wpAny (model prog w) (A.deeper (envOfC qual scope L' f cdv)) (leaving (envOfC qual scope L' f cdv) e) (fun _ s'' => R (.error e) s'') (fun e' s'' => R (.error e') s'') s')
        { s with heap := h₁, toks := tk })
    (hco : scope.isCoroutine = false) (hgen : scope.isGenerator = false) (hk : scope.kind = .function) : codeAny (model prog w) A (.call (.ref f) args) R s := by
  obtain ⟨FG, BG, st, lv⟩ := groundX (R := R) B F N hA hf hke
  refine codeAny_call_function hroom ((X₀.keeps F.keep) _ _ ho) rfl hco hgen rfl (codeRec_of (X₀.keeps F.keep) hcd) (hbind _ _ _ _ ?_)
  refine wpAny_with_toks (Nat.le_refl _) (wpAny_newFunctionEnv_cells hk (kindsX hkind _) fun env' he s' x hts => ?_)
  subst he
  refine ⟨(T.nolimit.keeps F.keep).keeps x.toInCall.keep, codeAny_func ?_⟩
  obtain ⟨h₁, tk, rfl, _⟩ := x.done
  have up := x.toInCall.keep
  obtain ⟨cells, NC, Y⟩ := Cl.news (h₀ := s.heap) (Nat.le_refl _) fun n c hm => ⟨x.cell n c (lookup_of_mem_nodup (cellsFrom_names scope.names 0 (s.heap.objs.size + 1) [] [] rfl ▸ hnd) hm), x.above n c hm⟩
  have low : ∀ b o, (hideAll s.heap (news.map (·.1))).get? b = some o → h₁.get? b = some o := fun b o e => up b o (of_hideAll _ e)
  have NN : News (hideAll s.heap (news.map (·.1))) s.heap.objs.size h₁ (cells ++ news) := by
    intro p hp
    rcases List.mem_append.mp hp with hp | hp
    · refine ⟨(NC p hp).1, (NC p hp).2.1, ?_⟩
      cases q : (hideAll s.heap (news.map (·.1))).get? p.1 with
      | none => rfl
      | some o => exact absurd ((of_hideAll _ q).symm.trans (NC p hp).2.2) (by simp)
    · exact ⟨up _ _ (N p hp).1, Nat.ne_of_lt (Heap.lt_size (N p hp).1), hideAll_none _ (List.mem_map_of_mem hp)⟩
  exact wpAny_mono (h _ s.heap.objs.size h₁ tk cells hts FG ⟨x.toInCall.ns, low, Nat.le_of_eq (hideAll_size _ _)⟩ NN Y BG st (X₀.keeps st) (T.keeps st) fun p hp => Heap.lt_size (N p hp).1) (fun fl s' hl => lv _ _ hl) fun _ _ y => y
end
-- Acc15
section
variable {prog : Program} {w : World} {A : Around} {E : Value → Shared → Prop} {s : Shared} {d a : Addr} {k : Str} {t : Tok} {v : Value} {ep : Nat} {dd : Option Addr} {sl : Array (Option Value)}
theorem wpAny_forIn1 {α β : Type} {M : Model} {x : α} {init : β} {f : α → β → Sem (ForInStep β)} {Q : β → Shared → Prop} (h : wpAny M A (f x init) (fun st s' => match st with | .done b => Q b s' | .yield b => Q b s') E s) : wpAny M A (forIn [x] init f) Q E s := by
  rw [List.forIn_cons]
  refine wpAny_bind (wpAny_mono h (fun st s' q => ?_) fun _ _ e => e)
  cases st with
  | done b => exact wpAny_pure q
  | yield b => dsimp only; rw [List.forIn_nil]; exact wpAny_pure q
theorem merge_one {Q : Unit → Shared → Prop} (hd : s.heap.get? d = some (dictOf [] 0)) (ha : s.heap.get? a = some ⟨.type "dict", dd, .dict #[⟨(strKind prog w).hash k, .str k t, v⟩] ep, sl⟩) (hne : a ≠ d) (hsys : (a == sysModules) = false)
    (hq : ∀ h', h'.get? d = some (dictOf [⟨(strKind prog w).hash k, .str k t, v⟩] 1) → Heap.SameBut d s.heap h' → Q () { s with heap := h' }) : wpAny (model prog w) A (mergeMapping d (.ref a) true) Q E s := by
  have hT : s.TypeIs (.ref a) "dict" := ⟨_, ha, rfl⟩
  unfold mergeMapping
  refine wpAny_bind (wpAny_isInstance hT isSubtype_dict_dict ?_)
  dsimp only
  rw [if_pos rfl]
  refine wpAny_bind (wpAny_specialOf hT F.slot_dict_iter.lookup (wpAny_bind (wpAny_pure ?_)))
  simp only [beq_self_eq_true]
  rw [hsys, if_neg Bool.false_ne_true]
  refine wpAny_bind (wpAny_dictEntries hd rfl ?_)
  rw [if_pos (by rfl)]
  refine wpAny_bind (wpAny_dictEntries ha rfl ?_)
  simp only [List.forIn_toArray, List.forIn_cons, List.forIn_nil]
  refine wpAny_bind (wpAny_bind (wpAny_pure (wpAny_pure ?_)))
  refine wpAny_bind (wpAny_dictEntries ha rfl ?_)
  have epo : ∀ {s' : Shared} {Q' : Nat → Shared → Prop} {E' : Value → Shared → Prop}, s'.heap.get? a = some ⟨.type "dict", dd, .dict #[⟨(strKind prog w).hash k, .str k t, v⟩] ep, sl⟩ → Q' ep s' → wpAny (model prog w) A (dictEpoch a) Q' E' s' := fun h q => wpAny_bind (wpAny_loadPart h (wpAny_pure q))
  refine wpAny_bind (epo ha ?_)
  show wpAny _ _ (forIn [0] _ _ >>= _) _ _ _
  simp only [List.forIn_cons, List.forIn_nil]
  have fnd : ∀ {Q' : Option Nat → Shared → Prop} {E' : Value → Shared → Prop}, Q' none s → wpAny (model prog w) A (dictFind d (.str k t) ((strKind prog w).hash k)) Q' E' s := fun q =>
    wpAny_dictFind_of (knd := strKind prog w) (strKind_is _ _ _ _) hd rfl (fun e he => by simp at he) (by simpa using q)
  refine wpAny_bind (wpAny_bind (wpAny_bind (wpAny_dictEntries ha rfl ?_)))
  simp only [List.getElem?_toArray, List.getElem?_cons_zero]
  refine wpAny_bind (wpAny_holding ?_)
  rw [if_pos trivial]
  refine wpAny_bind (fnd ?_)
  rw [if_neg (by decide)]
  refine wpAny_bind (fnd ?_)
  dsimp only
  have sb : Heap.SameBut d s.heap (s.heap.update d (Obj.mapDictKeys fun x => x.push ⟨(strKind prog w).hash k, .str k t, v⟩)) := Heap.SameBut.update ..
  have hd' : (s.heap.update d (Obj.mapDictKeys fun x => x.push ⟨(strKind prog w).hash k, .str k t, v⟩)).get? d = some (dictOf [⟨(strKind prog w).hash k, .str k t, v⟩] 1) := by
    rw [Heap.get?_update_self _ hd (by rfl)]; rfl
  refine wpAny_updateDictKeys hd rfl ?_ (by rw [sizeLine_eq]; decide) (by simp)
  refine wpAny_bind (epo ((sb.2 _ hne).trans ha) ?_)
  rw [if_neg (by simp)]
  exact wpAny_pure (wpAny_pure (wpAny_pure (hq _ hd' sb)))
theorem merge_none {Q : Unit → Shared → Prop} (hd : s.heap.get? d = some (dictOf [] 0)) (ha : s.heap.get? a = some ⟨.type "dict", dd, .dict #[] ep, sl⟩) (hsys : (a == sysModules) = false) (hq : Q () s) : wpAny (model prog w) A (mergeMapping d (.ref a) true) Q E s := by
  have hT : s.TypeIs (.ref a) "dict" := ⟨_, ha, rfl⟩
  unfold mergeMapping
  refine wpAny_bind (wpAny_isInstance hT isSubtype_dict_dict ?_)
  dsimp only
  rw [if_pos rfl]
  refine wpAny_bind (wpAny_specialOf hT F.slot_dict_iter.lookup (wpAny_bind (wpAny_pure ?_)))
  simp only [beq_self_eq_true]
  rw [hsys, if_neg Bool.false_ne_true]
  refine wpAny_bind (wpAny_dictEntries hd rfl ?_)
  rw [if_pos (by rfl)]
  refine wpAny_bind (wpAny_dictEntries ha rfl ?_)
  simp only [List.forIn_toArray, List.forIn_nil]
  refine wpAny_bind (wpAny_pure (wpAny_bind (wpAny_dictEntries ha rfl ?_)))
  refine wpAny_bind (wpAny_bind (wpAny_loadPart ha (wpAny_pure ?_)))
  show wpAny _ _ (forIn [] _ _ >>= _) _ _ _
  simp only [List.forIn_nil]
  exact wpAny_bind (wpAny_pure (wpAny_pure hq))
theorem kws_in {f : Value} {es : List DictEntry} {n : Nat} {kw : List (Str × Value)} {Q : List (Str × Value) → Shared → Prop} (hd : s.heap.get? d = some (dictOf es n)) (he : (es = [] ∧ kw = []) ∨ ∃ h k t v, es = [⟨h, .str k t, v⟩] ∧ kw = [(k, v)]) (hq : Q kw s) :
    wpAny (model prog w) A (keywordsIn f d) Q E s := by
  unfold keywordsIn
  rcases he with ⟨rfl, rfl⟩ | ⟨h, k, t, v, rfl, rfl⟩
  · refine wpAny_bind (wpAny_dictEntries hd rfl ?_)
    rw [List.forIn_toArray, List.forIn_nil]
    exact wpAny_bind (wpAny_pure (wpAny_pure hq))
  · refine wpAny_bind (wpAny_dictEntries hd rfl ?_)
    rw [List.forIn_toArray, List.forIn_cons]
    exact wpAny_bind (wpAny_bind (wpAny_pure (wpAny_pure (wpAny_pure hq))))
def SmallKw (prog : Program) (w : World) (es : List DictEntry) (kw : List (Str × Value)) : Prop := (es = [] ∧ kw = []) ∨ ∃ k t v, es = [⟨(strKind prog w).hash k, .str k t, v⟩] ∧ kw = [(k, v)]
theorem merge_small {es : List DictEntry} {kw : List (Str × Value)} {Q : Unit → Shared → Prop} (hes : SmallKw prog w es kw) (hd : s.heap.get? d = some (dictOf [] 0)) (ha : s.heap.get? a = some ⟨.type "dict", dd, .dict es.toArray ep, sl⟩) (hne : a ≠ d) (hsys : (a == sysModules) = false)
    (hq : ∀ h' n, h'.get? d = some (dictOf es n) → Heap.ExtBut d s.heap h' → Q () { s with heap := h' }) : wpAny (model prog w) A (mergeMapping d (.ref a) true) Q E s := by
  rcases hes with ⟨rfl, rfl⟩ | ⟨k, t, v, rfl, rfl⟩
  · exact merge_none hd ha hsys (hq s.heap 0 hd fun _ _ _ e => e)
  · exact merge_one hd ha hne hsys fun h' e sb => hq h' 1 e sb.extBut
theorem star_call {name : Str} {scope : Scope} {L fa f a : Addr} {cd : Value} {pos px py kp : Pos} {x y : Str} {v1 : Value} {h₀ : Heap} {m : Str → Option Value} {news : List (Addr × Obj)} {es : List DictEntry} {kw : List (Str × Value)} {fo : Obj} {fd : FuncData} {Q : Value → Shared → Prop}
    (F : Fr h₀ L s.heap m) (N : News h₀ L s.heap news) (hk : scope.kind = .function) (hx : m x = some v1) (hxl : (envOf name scope L fa cd).kindOf x = some .local) (hxd : (x == ("__debug__" : Str)) = false)
    (hy : m y = some (.ref a)) (hyl : (envOf name scope L fa cd).kindOf y = some .local) (hyd : (y == ("__debug__" : Str)) = false)
    (ha : (a, (⟨.type "dict", dd, .dict es.toArray ep, sl⟩ : Obj)) ∈ news) (hes : SmallKw prog w es kw) (hsys : (a == sysModules) = false) (hf : (f, fo) ∈ news) (hfo : fo.data = .func fd)
    (hc : ∀ h' d n, Fr h₀ L h' m → News h₀ L h' ((d, dictOf es n) :: news) → wpAny (model prog w) A (call (.ref f) [v1] kw) Q E { s with heap := h' }) :
    wpAny (model prog w) A (callWith pos (.ref f) [] (backTo pos (starEach [.Name x px] (envOf name scope L fa cd))) (backToKw pos (keywordEach [⟨none, .Name y py, kp⟩] (envOf name scope L fa cd)))) Q E s := by
  refine callWith_function_kw (o := fo) (fd := fd) ?_
  have e1 : backTo pos (starEach [.Name x px] (envOf name scope L fa cd)) = [(false, eval (.Name x px) (envOf name scope L fa cd))] := rfl
  have e2 : backToKw pos (keywordEach [⟨none, .Name y py, kp⟩] (envOf name scope L fa cd)) = [(none, do let v ← eval (.Name y py) (envOf name scope L fa cd); standAt pos; pure v)] := rfl
  rw [e1, e2]
  have gx : ∀ {Q' : Value → Shared → Prop} {E' : Value → Shared → Prop}, Q' v1 s → wpAny (model prog w) A (eval (.Name x px) (envOf name scope L fa cd)) Q' E' s := fun q => ld F hx q hk hxl hxd
  have gy : ∀ {s' : Shared} {Q' : Value → Shared → Prop} {E' : Value → Shared → Prop}, Fr h₀ L s'.heap m → Q' (.ref a) s' → wpAny (model prog w) A (eval (.Name y py) (envOf name scope L fa cd)) Q' E' s' := fun F' q => ld F' hy q hk hyl hyd
  clear e1 e2
  generalize eval (.Name x px) (envOf name scope L fa cd) = tX at gx ⊢
  generalize eval (.Name y py) (envOf name scope L fa cd) = tY at gy ⊢
  unfold evalArgs
  refine wpAny_bind (wpAny_bind ?_)
  unfold spliced
  refine gx ?_
  simp only [Bool.false_eq_true, if_false]
  refine wpAny_bind (wpAny_pure ?_)
  refine wpAny_bind (wpAny_holding (wpAny_pure (wpAny_pure (wpAny_bind (wpAny_pure ?_)))))
  refine wpAny_holding ?_
  simp only [List.all_cons, Option.isSome_none, Bool.false_and, Bool.false_eq_true, if_false]
  refine wpAny_bind ?_
  unfold mergedKeywords
  refine wpAny_bind (wpAny_alloc (wpAny_bind (wpAny_holding ?_)))
  have hd0 : (s.heap.push (dictOf [] 0)).get? s.heap.objs.size = some (dictOf [] 0) := Heap.get?_push_size _ rfl
  have hal : a < s.heap.objs.size := Heap.lt_size (N _ ha).1
  have ha0 : (s.heap.push (dictOf [] 0)).get? a = some ⟨.type "dict", dd, .dict es.toArray ep, sl⟩ := Heap.get?_push_of_some _ (N _ ha).1
  have F0 : Fr h₀ L (s.heap.push (dictOf [] 0)) m := F.push _
  refine wpAny_bind (wpAny_forIn1 ?_)
  refine wpAny_bind (wpAny_pure ?_)
  refine wpAny_bind (wpAny_bind (gy F0 (wpAny_bind (wpAny_standAt (wpAny_pure ?_)))))
  refine wpAny_bind (wpAny_onRaise (wpAny_holding (wpAny_tryCatch (wpAny_onRaise ?_))))
  refine merge_small (s := ⟨s.heap.push (dictOf [] 0), s.gens, s.drawn, s.toks, s.os⟩) hes hd0 ha0 (Nat.ne_of_lt hal) hsys fun h' n hd' sb => ?_
  have sb' : ∀ b o, s.heap.get? b = some o → h'.get? b = some o := fun b o e => sb b o (Nat.ne_of_lt (Heap.lt_size e)) (Heap.get?_push_of_some _ e)
  have NN : News h₀ L h' ((s.heap.objs.size, dictOf es n) :: news) := by
    intro p hp
    rcases List.mem_cons.mp hp with h | h
    · subst h; exact ⟨hd', Nat.ne_of_gt F.ns.lt, next_is_new F⟩
    · exact ⟨sb' _ _ (N p h).1, (N p h).2⟩
  have kk : SmallKw prog w es kw → (es = [] ∧ kw = []) ∨ ∃ h k t v, es = [⟨h, .str k t, v⟩] ∧ kw = [(k, v)] := fun h => h.imp id fun ⟨k, t, v, e⟩ => ⟨_, k, t, v, e⟩
  refine wpAny_bind (wpAny_pure (wpAny_pure ?_))
  refine wpAny_pure (wpAny_pure (wpAny_bind (wpAny_pure ?_)))
  refine wpAny_bind (wpAny_holding (kws_in hd' (kk hes) (wpAny_pure ⟨⟨(NN _ (List.mem_cons_of_mem _ hf)).1, hfo⟩, ?_⟩)))
  exact hc h' _ n (F.keeps sb') NN
end
-- Acc16
section
variable {prog : Program} {w : World} {A : Around} {E : Value → Shared → Prop} {s : Shared}
theorem small_dict {o : Obj} {kw : List (Str × Value)} (h : o.IsDictOf (strKind prog w) kw) (hl : kw.length ≤ 1) : ∃ dd es ep sl, o = ⟨.type "dict", dd, .dict es.toArray ep, sl⟩ ∧ SmallKw prog w es kw := by
  obtain ⟨es, ep, hx, hd, hk, hp, hn⟩ := h
  obtain ⟨c, dd, dt, sl⟩ := o
  have hc : c = .type "dict" := hx.1
  dsimp only at hd
  subst hc hd
  refine ⟨dd, es.toList, ep, sl, by simp, ?_⟩
  match kw, hl, hp with
  | [], _, hp =>
    left
    cases h : es.toList with
    | nil => exact ⟨rfl, rfl⟩
    | cons e r => rw [h] at hp; cases hp
  | [(k, v)], _, hp =>
    right
    cases h : es.toList with
    | nil => rw [h] at hp; cases hp
    | cons e r =>
      rw [h] at hp
      cases hp with
      | cons h1 h2 h3 =>
        cases h3
        obtain ⟨k', h4, h5⟩ := hk e (by rw [← Array.mem_toList_iff, h]; exact List.mem_cons_self ..)
        have h6 := (strKind prog w).inj _ _ _ h1 h4
        obtain ⟨t, h7⟩ := Value.isStrOf_shape h1
        obtain ⟨eh, ek, ev⟩ := e
        dsimp only at h2 h5 h6 h7
        subst h2 h6 h7 h5
        exact ⟨_, t, _, rfl, rfl⟩
  | _ :: _ :: _, hl, _ => simp at hl
theorem star_callD {name : Str} {scope : Scope} {L fa f a : Addr} {cd : Value} {pos px py kp : Pos} {x y : Str} {v1 : Value} {h₀ : Heap} {m : Str → Option Value} {news : List (Addr × Obj)} {od : Obj} {kw : List (Str × Value)} {fo : Obj} {fd : FuncData} {Q : Value → Shared → Prop}
    (F : Fr h₀ L s.heap m) (N : News h₀ L s.heap news) (hk : scope.kind = .function) (hx : m x = some v1) (hxl : (envOf name scope L fa cd).kindOf x = some .local) (hxd : (x == ("__debug__" : Str)) = false)
    (hy : m y = some (.ref a)) (hyl : (envOf name scope L fa cd).kindOf y = some .local) (hyd : (y == ("__debug__" : Str)) = false)
    (ha : (a, od) ∈ news) (hod : od.IsDictOf (strKind prog w) kw) (hkl : kw.length ≤ 1) (hsys : (a == sysModules) = false) (hf : (f, fo) ∈ news) (hfo : fo.data = .func fd)
    (hc : ∀ h' d od', Fr h₀ L h' m → News h₀ L h' ((d, od') :: news) → wpAny (model prog w) A (call (.ref f) [v1] kw) Q E { s with heap := h' }) :
    wpAny (model prog w) A (callWith pos (.ref f) [] (backTo pos (starEach [.Name x px] (envOf name scope L fa cd))) (backToKw pos (keywordEach [⟨none, .Name y py, kp⟩] (envOf name scope L fa cd)))) Q E s := by
  obtain ⟨dd, es, ep, sl, rfl, hes⟩ := small_dict hod hkl
  exact star_call F N hk hx hxl hxd hy hyl hyd ha hes hsys hf hfo fun h' d n F' N' => hc h' d _ F' N'
end
-- AccR
section
variable {prog : Program} {w : World} {A : Around} {E : Value → Shared → Prop} {s : Shared} {env : Env} {h₀ : Heap} {body orelse : List Stmt} {Q : Flow → Shared → Prop}
theorem range_led {x : Str} {px : Pos} {r : Addr} {a₀ b₀ : Int} {t₀ u₀ v₀ : Tok} {n : Nat} {m : Str → Option Value} {news : List (Addr × Obj)} (hh : A.handled = none) (hE : PassesOwn (model prog w) A env E)
    (F : Fr h₀ env.locals s.heap m) (N : News h₀ env.locals s.heap news) (hr : IsRange s.heap r a₀ b₀ 1 t₀ u₀ v₀) (hsmall : Builtin.Range.small a₀ b₀ 1 = true) (hn : Builtin.Range.rangeSize a₀ b₀ 1 = (n : Int))
    (J : Nat → (Str → Option Value) → List (Addr × Obj) → Nat → Prop) (Jm : ∀ i m₁ n₁ t t', J i m₁ n₁ t → t ≤ t' → J i m₁ n₁ t') (h0 : J 0 m news s.toks)
    (step : ∀ (i : Nat) t ow m₁ news₁ h₁ tk₀ tk₁ I, i < n → J i m₁ news₁ tk₀ → s.toks ≤ tk₀ → tk₀ ≤ tk₁ → Fr h₀ env.locals h₁ m₁ → News h₀ env.locals h₁ (news₁ ++ ow) → (∀ p ∈ news₁, p.1 ≠ I) → (∀ p ∈ ow, p.1 = I) → (∃ o, (I, o) ∈ ow ∧ o.cls = .type "range_iterator") →
      wpAny (model prog w) A (assign (.Name x px) env (.int (a₀ + (i : Nat)) t)) (fun _ s₂ => wpAny (model prog w) A (execs body env) (fun f s₃ => match f with
        | .ret v => Q (.ret v) s₃
        | .brk => Q .next s₃
        | _ => Back s h₀ env.locals ow (· ≠ I) (J (i + 1)) s₃) E s₂) E { s with heap := h₁, toks := tk₁ })
    (done : ∀ m₁ news₁ h₁ tk₁, J n m₁ news₁ tk₁ → s.toks ≤ tk₁ → Fr h₀ env.locals h₁ m₁ → News h₀ env.locals h₁ news₁ → wpAny (model prog w) A (execs orelse env) Q E { s with heap := h₁, toks := tk₁ }) :
    wpAny (model prog w) A (pyIter (.ref r)) (fun it s₂ => ForRest prog w A E env (.Name x px) body orelse Q it s₂) E s := by
  have hLs : env.locals < s.heap.objs.size := F.ns.lt
  refine wpAny_pyIter_range hr hsmall ?_
  have W := Turns.ofK (KTurns.ofWalks (target := .Name x px) (Walks.range (prog := prog) (w := w) hh s.heap.objs.size a₀ 1 n) fun i v s Q E st q => wpAny_of_eq (rfl : letOwnedTupleGo (.Name x px) (.ref _) v = pure ()) q)
  have one : ∀ b : Addr, b ∈ [s.heap.objs.size] ↔ b = s.heap.objs.size := by simp
  refine for_led (s := { s with heap := s.heap.push _ }) W hE (F.push _) (fun p hp => ⟨Heap.get?_push_of_some _ (N p hp).1, (N p hp).2⟩) (fun e => absurd ((one _).mp e) (Nat.ne_of_lt hLs)) ?_ ?_ (by show IsRangeIter _ _ _ _ _; rw [hn]; simpa using Heap.get?_push_size _ rfl) J Jm h0 (fun ow => (∀ p ∈ ow, p.1 = s.heap.objs.size) ∧ ∃ o, (s.heap.objs.size, o) ∈ ow ∧ o.cls = .type "range_iterator") ?_ ?_ done
  · intro b hb
    rw [(one _).mp hb]
    exact next_is_new F
  · intro p hp hb
    exact absurd ((one _).mp hb) (Nat.ne_of_lt (Heap.lt_size (N p hp).1))
  · intro i h₁ news₁ hst _
    have hst : IsRangeIter h₁ s.heap.objs.size (a₀ + (i : Nat) * 1) ((n : Int) - (i : Nat)) 1 := hst
    obtain ⟨oi, hoi, hoc⟩ : ∃ oi, h₁.get? s.heap.objs.size = some oi ∧ oi.cls = .type "range_iterator" := ⟨_, hst, rfl⟩
    refine ⟨[(s.heap.objs.size, oi)], ?_, ⟨by simp, oi, List.mem_cons_self .., hoc⟩, fun h₂ k2 _ b hb o ho => ?_⟩
    · intro p hp
      simp only [List.mem_cons, List.not_mem_nil, or_false] at hp
      subst hp
      exact ⟨hoi, Nat.ne_of_gt hLs, next_is_new F⟩
    · simp only [List.mem_cons, List.not_mem_nil, or_false] at hb
      subst hb
      exact (Option.some.inj (hoi.symm.trans ho)) ▸ k2 _ (.head _)
  · rintro i v ow m₁ news₁ h₁ tk₀ tk₁ hi j b ht ⟨t, rfl⟩ F₁ N₁ a o
    rw [Int.mul_one]
    refine wpAny_mono (step i t ow m₁ news₁ h₁ tk₀ tk₁ s.heap.objs.size hi j b ht F₁ N₁ (fun p hp e => a p hp ((one _).mpr e)) o.1 o.2) (fun _ s₂ h₂ => wpAny_mono h₂ (fun f s₃ h₃ => ?_) fun _ _ e => e) fun _ _ e => e
    have fin : Back s h₀ env.locals ow (· ≠ s.heap.objs.size) (J (i + 1)) s₃ → Back s h₀ env.locals ow (· ∉ [s.heap.objs.size]) (J (i + 1)) s₃ := by
      rintro ⟨m₂, news₂, h', tk', e, F₃, N₃, a₃, r⟩
      exact ⟨m₂, news₂, h', tk', e, F₃, N₃, fun p hp h => a₃ p hp ((one _).mp h), r⟩
    cases f with
    | ret v => exact h₃
    | brk => exact h₃
    | next => exact fin h₃
    | cont => exact fin h₃
end
-- Gen
section
variable {prog : Program} {w : World} {A : Around} {E : Value → Shared → Prop} {s : Shared} {K : Frag} {h₀ : Heap} {L x dx c P : Addr} {m mg mb : Str → Option Value} {news : List (Addr × Obj)} {items : Array Value} {ep : Nat} {od : Obj} {p : Program} {loose : List Str} {mean : ExcName → Option Value}
theorem walksU_acc (hh : A.handled = none) (I x dx : Addr) (hne : x ≠ I) (items : Array Value) (ep : Nat) (Ts : Nat → Addr) (vals : Nat → Array Value)
    (hit : ∀ j, j < items.size → items[j]? = some (.ref (Ts j))) (hTI : ∀ j, j < items.size → Ts j ≠ I) :
    WalksU prog w A I (I :: x :: (List.range items.size).map Ts) [I] items.size (fun j v => j < items.size ∧ v = vals j)
      (fun j h => h.IsListIter I x j ∧ h.get? x = some (accObj dx items ep) ∧ ∀ k, k < items.size → h.IsTuple (Ts k) (vals k))
      (fun j T h => (j < items.size ∧ T = Ts j) ∧ h.IsListIter I x (j + 1) ∧ h.get? x = some (accObj dx items ep) ∧ ∀ k, k < items.size → h.IsTuple (Ts k) (vals k)) where
  sub := fun b hb => by simp at hb; simp [hb]
  frame := fun _ _ _ st hk => ⟨st.1.at fun o e => hk I (by simp) o e, hk x (by simp) _ st.2.1,
    fun k hk' => (st.2.2 k hk').at fun o e => hk (Ts k) (List.mem_cons_of_mem _ (List.mem_cons_of_mem _ (List.mem_map.mpr ⟨k, List.mem_range.mpr hk', rfl⟩))) o e⟩
  item := fun i s Q E hi st hQ => by
    refine next_seq st.1 st.2.1 rfl (v := .ref (Ts i)) (hit i hi) fun h' hit' hs' => ?_
    have tup : ∀ k, k < items.size → h'.IsTuple (Ts k) (vals k) := fun k hk' => (st.2.2 k hk').extBut hs'.extBut (hTI k hk')
    exact hQ (Ts i) (vals i) h' s.toks ⟨hi, rfl⟩ (tup i hi) ⟨⟨hi, rfl⟩, hit', (hs'.2 _ hne).trans st.2.1, tup⟩ fun b o hb e => hs'.extBut b o (fun h => hb (by simp [h])) e
  go := fun _ _ _ _ _ s Q _ hm hQ => wpAny_letOwnedTupleGo_listiter hm.2.1 (hQ s.heap hm.2 fun _ _ _ e => e)
  apart := fun j T _ hm hmem => by
    rcases List.mem_cons.mp hmem with e | e
    · exact hTI j hm.1.1 (hm.1.2 ▸ e)
    · cases e
  done := fun s Q E st hQ => next_seq_end hh st.1 st.2.1 rfl (by simp) fun h' he' => hQ h' s.toks fun b o hb e => he' b o (fun h => hb (by simp [h])) e
  self := fun _ _ _ _ st hQ => wpAny_pyIter_listiter st.1 hQ
theorem passing_all (n : Nat) : passing (fun _ => true) n 0 = List.range n := by
  unfold passing
  simp
theorem gen_acc {env : Env} {elt iter : Expr} {xa xb : Str} {pa pb pt : Pos} {kt : Nat} {scope : Scope} {pos : Pos} {Ts : Nat → Addr} {vals : Nat → Array Value} {R : Nat → Value → Prop} {Q : Value → Shared → Prop}
    (hcode : env.code = .ref c) (hglob : env.globals = mainGlobals) (hh : A.handled = none) (hco : scope.isCoroutine = false) (hclos : closureFor scope env = pure []) (hcell : ∀ y ∈ scope.names, y.2 ≠ .cell) (h0 : scope.names.lookup (".0" : Str) = some NameKind.local)
    (hxa : scope.names.lookup xa = some .local) (hxb : scope.names.lookup xb = some .local) (hab : xa ≠ xb) (hkind : scope.kind = .function) (hroom : A.depth < recursionLimit) (hs : ∀ x, genFold iter env x = pure x)
    (F : Fr h₀ L s.heap m) (X₀ : K.In h₀) (T : Top p loose mean mg mb h₀) (C : CodeHd h₀ c P) (N : News h₀ L s.heap ((P, tabObj #[]) :: news)) (hP : ∀ q ∈ news, q.1 ≠ P) (G : AllBare s.gens)
    (h1 : (x, accObj dx items ep) ∈ news) (h2 : (dx, od) ∈ news) (hm : mroIn K 131 (.type "list") = some true) (hsI : findIn K (.ref 131) "__iter__" = some (some (.builtin "list.__iter__")))
    (ht : ∀ j, j < items.size → items[j]? = some (.ref (Ts j)) ∧ (Ts j, ({ cls := .type "tuple", data := .seq (vals j) } : Obj)) ∈ news) (hv2 : ∀ j, j < items.size → ∃ va vb, vals j = #[va, vb])
    (hit : ∀ {Q' : Value → Shared → Prop} {E' : Value → Shared → Prop}, Q' (.ref x) s → wpAny (model prog w) A (eval iter env) Q' E' s)
    (helt : ∀ (C c' : Addr) (A' : Around) E' i va vb (s₂ : Shared) m₂, i < items.size → vals i = #[va, vb] → A'.handled = none → Fr h₀ C s₂.heap m₂ → News h₀ C s₂.heap news → m₂ xa = some va → m₂ xb = some vb →
      wpAny (model prog w) A' (eval elt (genEnv scope [] C (.ref c') builtinsNs env)) (fun y s₃ => R i y ∧ Keeps s₂ s₃) E' s₂)
    (hQ : ∀ (a K' : Addr) ps h' tk gs, Fr h₀ L h' m → News h₀ L h' ((P, tabObj ps) :: news) → AllBare gs → L ≤ K' → P ≤ K' → (∀ q ∈ news, q.1 ≤ K') →
      Gen prog w A K' a (List.range items.size).length (fun j y => ∃ i, (List.range items.size)[j]? = some i ∧ R i y) { s with heap := h', toks := tk, gens := gs } → Q (.ref a) { s with heap := h', toks := tk, gens := gs }) :
    wpAny (model prog w) A (eval (.GeneratorExp elt [⟨.Tuple [.Name xa pa, .Name xb pb] kt pt, iter, [], 0⟩] scope pos) env) Q E s := by
  have hLs : L < s.heap.objs.size := F.ns.lt
  have hPg := N (P, tabObj #[]) (List.mem_cons_self ..)
  have hPn : h₀.get? P = none := hPg.2.2
  have N' : News h₀ L s.heap news := fun q hq => N q (List.mem_cons_of_mem _ hq)
  have hPlt : P < s.heap.objs.size := Heap.lt_size hPg.1
  have hxlt : x < s.heap.objs.size := Heap.lt_size (N' _ h1).1
  refine wpAny_GeneratorExp_walksQT hh hco hclos hcell h0 hxa hxb hab hkind hroom (hit (iter_acc (X₀.keeps F.keep) (instAcc N' h1 h2) hm hsI ?_)) hs
  have up2 : ∀ b o, s.heap.get? b = some o → (s.heap.push (listIt x 0)).get? b = some o := fun b o e => Heap.get?_push_of_some _ e
  have F2 := F.push (listIt x 0)
  have hlim2 : (s.heap.push (listIt x 0)).NoLimit := T.nolimit.keeps F2.keep
  refine ⟨hlim2, ?_⟩
  have C2 := C.keeps F2.keep
  refine wpAny_genexprCodeX hcode (C2.code (up2 _ _ hPg.1) (by trivial)) (C2.tab (up2 _ _ hPg.1)) (by rfl) fun c' h₃ tk₃ hx₃ hge hlt hcode₃ _ htab₃ _ => ?_
  have hsz : (s.heap.push (listIt x 0)).objs.size ≤ h₃.objs.size := Nat.le_trans hge (Nat.le_of_lt hlt)
  have hsz' : s.heap.objs.size + 1 ≤ h₃.objs.size := by rw [Heap.size_push] at hsz; exact hsz
  have keep₃ : ∀ b o, h₀.get? b = some o → h₃.get? b = some o := fun b o e => hx₃ b o (fun eb => by rw [eb, hPn] at e; cases e) (F2.keep b o e)
  have T₃ := T.keeps keep₃
  obtain ⟨bm, ob, b1, b2, b3, b4, b5, b6⟩ := T₃.bmain
  refine wpAny_builtinsFor (by rw [hglob]; exact T₃.g) b1 b2 b3 b4 b5 b6 ?_
  have hIlt : s.heap.objs.size < h₃.objs.size := hsz'
  have old₃ : ∀ b o, b ≠ P → s.heap.get? b = some o → h₃.get? b = some o := fun b o hb e => hx₃ b o hb (up2 b o e)
  have nI : ∀ b o, s.heap.get? b = some o → b ≠ s.heap.objs.size := fun b o e => Nat.ne_of_lt (Heap.lt_size e)
  have hTI : ∀ j, j < items.size → Ts j ≠ s.heap.objs.size := fun j hj => nI _ _ (N' _ (ht j hj).2).1
  have I₃ : h₃.IsListIter s.heap.objs.size x 0 := by
    refine ⟨listIt x 0, hx₃ _ _ (fun e => Nat.lt_irrefl _ (e ▸ hPlt)) (Heap.get?_push_size _ rfl), rfl, rfl⟩
  have h1P := hP _ h1
  refine ⟨s.heap.objs.size, _, _, _, _, _, _, (fun _ => true), R, rfl, fun A' hA => walksU_acc hA s.heap.objs.size x dx (Nat.ne_of_lt hxlt) items ep Ts vals (fun j hj => (ht j hj).1) hTI, ?_, ?_, ?_, hlim2.extBut hx₃ ?_, ?_, ?_, ?_⟩
  · rintro i v ⟨hi, rfl⟩
    obtain ⟨va, vb, e⟩ := hv2 i hi
    exact ⟨va, vb, e⟩
  · exact ⟨I₃, old₃ _ _ h1P (N' _ h1).1, fun k hk => ⟨_, old₃ _ _ (hP _ (ht k hk).2) (N' _ (ht k hk).2).1, rfl, _, rfl⟩⟩
  · intro b hb
    rcases List.mem_cons.mp hb with rfl | hb
    · exact hIlt
    rcases List.mem_cons.mp hb with rfl | hb
    · exact Nat.lt_trans hxlt hIlt
    · obtain ⟨k, hk, rfl⟩ := List.mem_map.mp hb
      exact Nat.lt_trans (Heap.lt_size (N' _ (ht k (List.mem_range.mp hk)).2).1) hIlt
  · intro e
    obtain ⟨_, ⟨o, es, ep', ho, hd, _⟩, _⟩ := T.nolimit
    rw [e, hPn] at ho; cases ho
  · intro hm'
    have e := List.mem_singleton.mp hm'
    obtain ⟨_, ⟨o, es, ep', ho, hd, _⟩, _⟩ := T.nolimit
    exact nI _ _ (F.keep _ _ ho) e
  · intro href hhref
    refine ⟨fun A' E' i va vb s₂ m₂ _ _ _ _ _ _ => ?_, fun A' E' i va vb s₂ m₂ hA hPt _ hn hma hmb hk => ?_⟩
    · exact wpAny_pure ⟨rfl, s₂.heap, s₂.toks, rfl, fun _ _ e => e⟩
    · have up : ∀ b o, b ≠ s.heap.objs.size → h₃.get? b = some o → s₂.heap.get? b = some o := fun b o hb e => hk b (List.mem_range.mpr (Heap.lt_size e)) (fun h => hb (List.mem_singleton.mp h)) o (hhref b o e)
      refine helt _ c' A' E' i va vb s₂ m₂ hPt.1 hPt.2.symm hA ⟨hn, fun b o e => up b o (nI _ _ (F.keep b o e)) (keep₃ b o e), ?_⟩ (fun q hq => ⟨up _ _ (nI _ _ (N' q hq).1) (old₃ _ _ (hP q hq) (N' q hq).1), ?_, (N' q hq).2.2⟩) hma hmb
      · exact Nat.le_trans F.above (Nat.le_trans (Nat.le_of_lt hLs) (Nat.le_of_lt hIlt))
      · exact Nat.ne_of_lt (Nat.lt_trans (Heap.lt_size (N' q hq).1) hIlt)
  · intro a h₅ tk gs hgb hag hsz₅ hk₅ W hat
    rw [passing_all] at W
    have kk : ∀ b o, b ≠ P → s.heap.get? b = some o → h₅.get? b = some o := fun b o hb e => hk₅ b o (old₃ b o hb e)
    have hK1 : s.heap.objs.size - 1 < s.heap.objs.size := Nat.sub_lt (Nat.lt_of_le_of_lt (Nat.zero_le _) hLs) Nat.one_pos
    have hlp : L ≠ P := fun e => hPg.2.1 e.symm
    refine hQ a (s.heap.objs.size - 1) (#[] ++ #[rawInt pos.line, rawInt pos.col, .ref c']) h₅ tk _ ⟨F.ns.at' fun o e => kk _ o hlp e, fun b o e => hk₅ b o (keep₃ b o e), F.above⟩ (fun q hq => ?_) (G.push hgb) (Nat.le_sub_one_of_lt hLs) (Nat.le_sub_one_of_lt hPlt) (fun q hq => Nat.le_sub_one_of_lt (Heap.lt_size (N' q hq).1)) ⟨_, _, _, _, W, hat, (fun i s' st => st.1.typeIs), List.mem_cons_self, ?_, ?_⟩
    · rcases List.mem_cons.mp hq with h | hq
      · subst h
        exact ⟨hk₅ _ _ htab₃.2, hPg.2⟩
      · exact ⟨kk _ _ (hP q hq) (N' q hq).1, (N' q hq).2⟩
    · intro b hb
      show b < h₅.objs.size
      rw [hsz₅]
      rcases List.mem_cons.mp hb with rfl | hb
      · exact Nat.lt_succ_self _
      · rcases List.mem_cons.mp hb with rfl | hb
        · exact Nat.lt_succ_of_lt hag
        · exact Nat.lt_succ_of_lt (Nat.lt_trans (List.mem_range.mp hb) hag)
    · intro b hb
      rcases List.mem_cons.mp hb with rfl | hb
      · show s.heap.objs.size - 1 < h₃.objs.size
        omega
      · rw [List.mem_singleton.mp hb]; omega
end
-- DefT
section
variable {prog : Program} {w : World} {A A₀ : Around} {s : Shared} {K : Frag} {L : Addr} {h₀ base : Heap} {m mg mb : Str → Option Value} {news : List (Addr × Obj)} {p : Program} {loose : List Str} {mean : ExcName → Option Value}
/-- a call of a def without cells; what stays, and the tokens drawn, are told -/
theorem code_defT {env : Env} {outer : List Env} {R : Result → Shared → Prop} {name qual : Str} {params : Arguments} {body : List Stmt} {scope : Scope} {dV kV doc pm cdv ct oc : Value} {an od : Option Addr} {osl : Array (Option Value)} {f : Addr} {args : Args} {binds : List (Str × Value)}
    (B : Below A₀ base outer h₀) (F : Fr h₀ L s.heap m) (X₀ : K.In h₀) (N : News h₀ L s.heap news) (T : Top p loose mean mg mb h₀) (hA : A.frames = some (env :: outer)) (hf : env.frame = some L) (hke : env.scope.kind = .function)
    (ho : K.lookup f = some ⟨oc, od, .func (fnOf name qual params body scope dV kV doc pm an cdv ct), osl⟩) (hcd : codeIn K cdv qual = true) (hroom : A.depth < recursionLimit)
    (hbind : BindsTo s (fnOf name qual params body scope dV kV doc pm an cdv ct) args binds) (hkind : (binds.all fun y => scope.names.lookup y.1 == some .local || scope.names.lookup y.1 == some .cell) = true)
    (hnc : ∀ k, cellsFrom k scope.names [] = [])
    (h : ∀ g L' h₁ (tk : Nat), s.toks ≤ tk → Fr h₀ L g m → Fr g L' h₁ (bindL (envOfC qual scope L' f cdv).kindOf binds fun _ => none) → News g L' h₁ news →
      Below A base (env :: outer) g → h₀.StaysIn g → K.In g → Top p loose mean mg mb g → (∀ p ∈ news, p.1 < L') →
      wpAny (model prog w) (A.deeper (envOfC qual scope L' f cdv)) (execs body (envOfC qual scope L' f cdv))
        (fun fl s' => LeaveK h₀ L m g R (match fl with | .ret v => v | _ => .none) s')
        (fun e s' => wpAny (model prog w) (A.deeper (envOfC qual scope L' f cdv)) (leaving (envOfC qual scope L' f cdv) e) (fun _ s'' => R (.error e) s'') (fun e' s'' => R (.error e') s'') s')
        { s with heap := h₁, toks := tk })
    (hco : scope.isCoroutine = false) (hgen : scope.isGenerator = false) (hk : scope.kind = .function) : codeAny (model prog w) A (.call (.ref f) args) R s := by
  refine code_defCT B F X₀ N T hA hf hke ho hcd hroom hbind hkind (by rw [hnc]; exact List.nodup_nil) (fun g L' h₁ tk cells ht FG F' N' Y B' S X T' l1 => ?_) hco hgen hk
  rw [hnc] at Y
  cases cells with
  | nil => exact h g L' h₁ tk ht FG F' N' B' S X T' l1
  | cons _ _ => cases Y
end
section
variable {M : Model} {A : Around} {E : Value → Shared → Prop} {s : Shared} {K : Frag} {h₀ : Heap} {L : Addr} {m mg mb : Str → Option Value} {p : Program} {loose : List Str} {mean : ExcName → Option Value} {env : Env} {x : Str} {pos : Pos} {v : Value} {Q : Value → Shared → Prop} {scope : Scope} {cl : List (Str × Addr)} {C bi : Addr} {code : Value}
theorem nameGen_g (F : Fr h₀ L s.heap m) (X : K.In h₀) (T : Top p loose mean mg mb h₀) (e : nsIn K mainGlobals x = some (some v)) (h : Q v s) (hg : (genEnv scope cl C code bi env).globals = mainGlobals) (hk : (genEnv scope cl C code bi env).scope.kind = .function) (hx : (genEnv scope cl C code bi env).kindOf x = some .globalImplicit) (hd : (x == ("__debug__" : Str)) = false) :
    wpAny M A (eval (.Name x pos) (genEnv scope cl C code bi env)) Q E s :=
  Name_function_global hk hx (loadGlobal_global (env := genEnv scope cl C code bi env) (by rw [hg]; exact T.g.keeps F.keep) (mg_of X T.g e) h) hd
theorem nameGen_b (F : Fr h₀ L s.heap m) (X : K.In h₀) (T : Top p loose mean mg mb h₀) (e : nsIn K mainGlobals x = some none) (hv : bootBuiltins x = some v) (hn : x ≠ "__name__") (h : Q v s) (hg : (genEnv scope cl C code builtinsNs env).globals = mainGlobals) (hk : (genEnv scope cl C code builtinsNs env).scope.kind = .function) (hx : (genEnv scope cl C code builtinsNs env).kindOf x = some .globalImplicit) (hd : (x == ("__debug__" : Str)) = false) :
    wpAny M A (eval (.Name x pos) (genEnv scope cl C code builtinsNs env)) Q E s :=
  Name_function_global hk hx (loadGlobal_builtin (env := genEnv scope cl C code builtinsNs env) (show s.heap.Ns (genEnv scope cl C code builtinsNs env).globals mg from hg ▸ T.g.keeps F.keep) (mg_none_of X T.g e) (T.b.keeps F.keep) ((T.builtins x hn).trans hv) h) hd
theorem nameGen_l (F : Fr h₀ C s.heap m) (hv : m x = some v) (h : Q v s) (hk : (genEnv scope cl C code bi env).scope.kind = .function) (hx : (genEnv scope cl C code bi env).kindOf x = some .local) (hd : (x == ("__debug__" : Str)) = false) :
    wpAny M A (eval (.Name x pos) (genEnv scope cl C code bi env)) Q E s := wpAny_Name (wpAny_loadName_local hk hx F.ns hv h) hd
end
structure GenElt : Prop where
  mk ::
theorem join2 (a b : Nat) : Txt.join (Str.ofString "") [⟨#[a]⟩, ⟨#[b]⟩] = ⟨#[a, b]⟩ := by
  have e : Str.ofString "" = ⟨#[]⟩ := by decide +kernel
  rw [e]
  rfl
theorem join2_ok (a b : Nat) : (([⟨#[a]⟩, ⟨#[b]⟩] : List Str).map (·.length)).sum + ([⟨#[a]⟩, ⟨#[b]⟩] : List Str).length * (Str.ofString "").length ≤ 16777216 := by
  show 1 + (1 + 0) + 2 * (Str.ofString "").length ≤ _
  decide +kernel
/-- the text of the pieces -/
def txtOf (P : List (Nat × Nat)) : Str := Txt.join (Str.ofString "") (P.map fun p => ⟨#[p.1, p.2]⟩)
theorem txt_ok {P : List (Nat × Nat)} (h : P.length ≤ 100) : JoinOk (Str.ofString "") (P.map fun p => (⟨#[p.1, p.2]⟩ : Str)) = true := by
  refine joinOk_of_weight ?_ (by decide +kernel)
  have e : ∀ l : List (Nat × Nat), ((l.map fun p => (⟨#[p.1, p.2]⟩ : Str)).map (·.length)).sum = 2 * l.length := by
    intro l
    induction l with
    | nil => rfl
    | cons p r ih =>
      rw [List.map_cons, List.map_cons, List.sum_cons, ih, List.length_cons]
      show 2 + 2 * r.length = _
      omega
  rw [e, List.length_map]
  omega
theorem range_map_getD {α β : Type} (l : List α) (d : α) (f : α → β) {n : Nat} (h : n = l.length) : (List.range n).map (fun j => f (l.getD j d)) = l.map f := by
  subst h
  apply List.ext_getElem?
  intro j
  by_cases hj : j < l.length
  · simp [hj, List.getD_eq_getElem?_getD]
  · simp [hj]
-- Attr
section
variable {prog : Program} {w : World} {A : Around} {E : Value → Shared → Prop} {s : Shared} {K : Frag} {C x dx L : Addr} {h₀ : Heap} {m : Str → Option Value} {ox : Obj} {od : Option Obj} {name : Str} {expr : Bool} {news : List (Addr × Obj)} {items : Array Value} {ep : Nat}
theorem kind_lga : builtinKind "list.__getattribute__" = some .slot ∨ builtinKind "list.__getattribute__" = some .method := by first | exact .inl (by decide +kernel) | exact .inr (by decide +kernel)
theorem split_lga : splitId "list.__getattribute__" = some ("list", "__getattribute__") := by decide +kernel
theorem get_valueA {v : Value} {Q : Value → Shared → Prop} (X : K.In s.heap) (I : InstAt s.heap x ox C od) (hga : findIn K (.ref C) "__getattribute__" = some (some (.builtin "list.__getattribute__"))) (hk : findIn K (.ref C) "__getattr__" = some none)
    (hm : mroIn K C (.type "list") = some true) (hf : findObj K C od name = some (.value v)) (hh : handedIn v = true) (h : Q v { s with toks := s.toks + 1 }) : wpAny (model prog w) A (getAttr (.ref x) name expr) Q E s := by
  have I' : InstAt ({ s with toks := s.toks + 1 } : Shared).heap x ox C od := I
  have X' : K.In ({ s with toks := s.toks + 1 } : Shared).heap := X
  have L0 := I'.type (M := model prog w)
  have L1 := looks_findIn (M := model prog w) X' hga
  have L2 := looks_find (M := model prog w) X' I' hf
  have L3 := looks_findIn (M := model prog w) X' hk
  unfold getAttr getAttrBy
  refine wpAny_bind (wpAny_mkText (wpAny_holding (wpAny_bind (L0.here (wpAny_bind (L1.here ?_))))))
  dsimp only
  rw [if_neg (show ¬ ((onTheHeap (.ref C) && (Value.builtin "list.__getattribute__" == Value.builtin "object.__getattribute__")) = true) from by show ¬ ((Value.builtin "list.__getattribute__" == Value.builtin "object.__getattribute__") = true); decide)]
  unfold getAttrByItsOwn hookBefore
  refine wpAny_bind ?_
  rw [if_pos (show onTheHeap (.ref C) = true from rfl)]
  refine L3.here (wpAny_bind (wpAny_attempt (wpAny_holding ?_)))
  unfold callGetattribute
  rw [if_neg (show ¬ ((expr && onTheHeap (.builtin "list.__getattribute__")) = true) from by rw [show onTheHeap (.builtin "list.__getattribute__") = false from rfl, Bool.and_false]; decide)]
  unfold boundAndCalled
  rw [PySem.F.slot_list_getattribute.bind]
  refine wpAny_bind (wpAny_pure ?_)
  refine call_inst kind_lga split_lga (inst_list X' I' hm) (PySem.F.args_list_getattribute_2 _ _) PySem.F.slot_list_getattribute.plain am_entry_list_getattribute ?_
  unfold Builtin.«object.__getattribute__»
  refine wpAny_bind (wpAny_pure ?_)
  refine wpAny_bind (wpAny_pure ?_)
  refine wpAny_bind (L0.here (wpAny_bind (L2.here ?_)))
  refine wpAny_pure ⟨v, rfl, ?_⟩
  show wpAny _ _ (handedOut v) _ _ _
  rw [handedOut_of hh]
  exact wpAny_pure h
theorem get_accN {v : Value} {hsh : Int} {t0 : Tok} {n : Nat} {Q : Value → Shared → Prop} (F : Fr h₀ L s.heap m) (X₀ : K.In h₀) (N : News h₀ L s.heap news) (h1 : (x, accObj dx items ep) ∈ news) (h2 : (dx, sizeDict hsh t0 v n) ∈ news)
    (hga : findIn K (.ref 131) "__getattribute__" = some (some (.builtin "list.__getattribute__"))) (hk : findIn K (.ref 131) "__getattr__" = some none)
    (hm : mroIn K 131 (.type "list") = some true) (hf : findObj K 131 (some (sizeDict hsh t0 v n)) "_initial_size" = some (.value v)) (hh : handedIn v = true) (h : Q v { s with toks := s.toks + 1 }) : wpAny (model prog w) A (getAttr (.ref x) "_initial_size" expr) Q E s :=
  get_valueA (X₀.keeps F.keep) (instAcc N h1 h2) hga hk hm hf hh h
end
-- Sum2
section
variable {prog : Program} {w : World} {A : Around} {E : Value → Shared → Prop} {s : Shared} {I : Addr} {fp wr : List Addr} {G : Array GenState → Array GenState → Prop} {n : Nat} {P : Nat → Value → Prop} {St : Nat → Shared → Prop}
/-- the same walk, told one place later -/
theorem WalksS.later (W : WalksS prog w A I fp wr G n P St) (v0 : Value → Prop) :
    WalksS prog w A I fp wr G (n + 1) (fun i v => match i with | 0 => v0 v | j + 1 => P j v) (fun i s => match i with | 0 => False | j + 1 => St j s) where
  sub := W.sub
  grefl := W.grefl
  gtrans := W.gtrans
  frame := fun i s h' tk st ht hk => by
    cases i with
    | zero => exact st
    | succ j => exact W.frame j s h' tk st ht hk
  item := fun i s Q E hi st hQ => by
    cases i with
    | zero => exact st.elim
    | succ j => exact W.item j s Q E (Nat.lt_of_succ_lt_succ hi) st fun v s' hp st' hm => hQ v s' hp st' hm
  done := fun s Q E st hQ => W.done s Q E st hQ
  self := fun i s Q E st hQ => by
    cases i with
    | zero => exact st.elim
    | succ j => exact W.self j s Q E st hQ
def shiftVal (lead : Int) (val : Nat → Int) : Nat → Int
  | 0 => lead
  | j + 1 => val j
theorem shift_sum (lead : Int) (val : Nat → Int) : ∀ j, preSum (shiftVal lead val) (j + 1) = lead + preSum val j
  | 0 => by show 0 + lead = lead + 0; omega
  | j + 1 => by
    rw [preSum, shift_sum lead val j, preSum]
    show lead + preSum val j + val j = _
    omega
theorem args_sum2 (a b : Value) : argsOk "sum" ⟨[a, b], []⟩ := by unfold argsOk; kernel_rfl
theorem call_sum2 {a : Addr} {lead : Int} {t : Tok} {val : Nat → Int} {Q : Value → Shared → Prop} (hl : lead = 0 ∨ lead = 1 ∨ lead = 2)
    (W : WalksS prog w A.in1 a fp wr G n P St) (hst : St 0 s) (hfp : ∀ b ∈ fp, b < s.heap.objs.size) (hval : ∀ i v, P i v → ∃ t, v = .int (val i) t) (hfit : ∀ j, j < n → InLong (val j) ∧ InLong (lead + preSum val (j + 1)))
    (hQ : ∀ s' t', Moved wr G s s' → Q (.int (lead + preSum val n) t') s') :
    wpAny (model prog w) A (call (.builtin "sum") [.ref a, .int lead t]) Q E s := by
  refine call_function_tree PySem.F.kind_sum PySem.F.plain_sum PySem.F.entry_sum (args_sum2 _ _) ?_
  unfold Builtin.«sum»
  simp only [List.length_cons, List.length_nil]
  rw [if_neg (by decide)]
  refine wpAny_bind (wpAny_of_eq (show Builtin.Builtins.bindParams "sum" ["start"] 0 ⟨[.int lead t], []⟩ = pure [some (.int lead t)] from rfl) ?_)
  refine wpAny_bind (W.self 0 _ _ _ hst ?_)
  have hL : InLong lead := by rcases hl with rfl | rfl | rfl <;> exact ⟨by decide, by decide⟩
  dsimp only
  split
  case isFalse h => exact (h (by rcases hl with rfl | rfl | rfl <;> rfl)).elim
  refine wpAny_bind (wpAny_rule (wpAny_bind (wpAny_mkInt (wpAny_bind (wpAny_pure ?_)))))
  dsimp only
  simp only [List.forIn_cons, List.forIn_nil]
  refine wpAny_bind (wpAny_bind (wpAny_bind (wpAny_isInstance (T := "int") (b := false) (typeIs_int _ _ _) PySem.sub_int_str ?_)))
  simp only [Bool.false_eq_true, if_false]
  refine wpAny_pure (wpAny_bind (wpAny_bind (wpAny_isInstance (T := "int") (b := false) (typeIs_int _ _ _) PySem.sub_int_bytes ?_)))
  simp only [Bool.false_eq_true, if_false]
  refine wpAny_pure (wpAny_bind (wpAny_bind (wpAny_isInstance (T := "int") (b := false) (typeIs_int _ _ _) PySem.sub_int_bytearray ?_)))
  simp only [Bool.false_eq_true, if_false]
  refine wpAny_pure (wpAny_pure ?_)
  refine wpAny_bind (wpAny_newObj_type ?_)
  have hSf : s.heap.objs.size ∉ fp := fun hm => Nat.lt_irrefl _ (hfp _ hm)
  refine wpAny_pure ⟨plainId_quiet PySem.F.plain_sum_loop _, codeAny_sum_loopS (WalksS.later W fun _ => False) (shiftVal lead val) (fun i v hp => ?_) (fun j hj => ?_) s.heap.objs.size hSf n 1 _ s.toks 0 (by omega) (by omega)
    (W.frame 0 s _ _ hst (Nat.le_succ _) fun b _ o e => Heap.get?_push_of_some _ e) ?_ fun s' t' hm => ?_⟩
  · cases i with
    | zero => exact hp.elim
    | succ j => exact hval j v hp
  · cases j with
    | zero => exact ⟨hL, by rw [shift_sum]; show InLong (lead + 0); rw [Int.add_zero]; exact hL⟩
    | succ j =>
      have := hfit j (by omega)
      exact ⟨this.1, by rw [shift_sum]; exact this.2⟩
  · rw [shift_sum, show lead + preSum val 0 = lead from Int.add_zero lead]
    exact Heap.get?_push_size _ rfl
  · rw [shift_sum]
    exact hQ s' t' (hm.drop_new (Nat.le_succ _))
end
-- StarK
section
variable {prog : Program} {w : World} {A : Around} {E : Value → Shared → Prop} {s : Shared} {d a : Addr} {k : Str} {t : Tok} {v : Value} {ep : Nat} {dd : Option Addr} {sl : Array (Option Value)}
theorem star_callG {name : Str} {scope : Scope} {L fa f a : Addr} {cd : Value} {pos px py kp : Pos} {x y : Str} {v1 : Value} {h₀ : Heap} {m : Str → Option Value} {news : List (Addr × Obj)} {es : List DictEntry} {kw : List (Str × Value)} {fo : Obj} {fd : FuncData} {Q : Value → Shared → Prop}
    (F : Fr h₀ L s.heap m) (N : News h₀ L s.heap news) (hk : scope.kind = .function) (hx : m x = some v1) (hxl : (envOf name scope L fa cd).kindOf x = some .local) (hxd : (x == ("__debug__" : Str)) = false)
    (hy : m y = some (.ref a)) (hyl : (envOf name scope L fa cd).kindOf y = some .local) (hyd : (y == ("__debug__" : Str)) = false)
    (ha : (a, (⟨.type "dict", dd, .dict es.toArray ep, sl⟩ : Obj)) ∈ news) (hes : SmallKw prog w es kw) (hsys : (a == sysModules) = false) (hf : s.heap.get? f = some fo) (hfo : fo.data = .func fd)
    (hc : ∀ h' d n, Fr h₀ L h' m → News h₀ L h' ((d, dictOf es n) :: news) → (∀ p ∈ news, p.1 < d) → wpAny (model prog w) A (call (.ref f) [v1] kw) Q E { s with heap := h' }) :
    wpAny (model prog w) A (callWith pos (.ref f) [] (backTo pos (starEach [.Name x px] (envOf name scope L fa cd))) (backToKw pos (keywordEach [⟨none, .Name y py, kp⟩] (envOf name scope L fa cd)))) Q E s := by
  refine callWith_function_kw (o := fo) (fd := fd) ?_
  have e1 : backTo pos (starEach [.Name x px] (envOf name scope L fa cd)) = [(false, eval (.Name x px) (envOf name scope L fa cd))] := rfl
  have e2 : backToKw pos (keywordEach [⟨none, .Name y py, kp⟩] (envOf name scope L fa cd)) = [(none, do let v ← eval (.Name y py) (envOf name scope L fa cd); standAt pos; pure v)] := rfl
  rw [e1, e2]
  have gx : ∀ {Q' : Value → Shared → Prop} {E' : Value → Shared → Prop}, Q' v1 s → wpAny (model prog w) A (eval (.Name x px) (envOf name scope L fa cd)) Q' E' s := fun q => ld F hx q hk hxl hxd
  have gy : ∀ {s' : Shared} {Q' : Value → Shared → Prop} {E' : Value → Shared → Prop}, Fr h₀ L s'.heap m → Q' (.ref a) s' → wpAny (model prog w) A (eval (.Name y py) (envOf name scope L fa cd)) Q' E' s' := fun F' q => ld F' hy q hk hyl hyd
  clear e1 e2
  generalize eval (.Name x px) (envOf name scope L fa cd) = tX at gx ⊢
  generalize eval (.Name y py) (envOf name scope L fa cd) = tY at gy ⊢
  unfold evalArgs
  refine wpAny_bind (wpAny_bind ?_)
  unfold spliced
  refine gx ?_
  simp only [Bool.false_eq_true, if_false]
  refine wpAny_bind (wpAny_pure ?_)
  refine wpAny_bind (wpAny_holding (wpAny_pure (wpAny_pure (wpAny_bind (wpAny_pure ?_)))))
  refine wpAny_holding ?_
  simp only [List.all_cons, Option.isSome_none, Bool.false_and, Bool.false_eq_true, if_false]
  refine wpAny_bind ?_
  unfold mergedKeywords
  refine wpAny_bind (wpAny_alloc (wpAny_bind (wpAny_holding ?_)))
  have hd0 : (s.heap.push (dictOf [] 0)).get? s.heap.objs.size = some (dictOf [] 0) := Heap.get?_push_size _ rfl
  have hal : a < s.heap.objs.size := Heap.lt_size (N _ ha).1
  have ha0 : (s.heap.push (dictOf [] 0)).get? a = some ⟨.type "dict", dd, .dict es.toArray ep, sl⟩ := Heap.get?_push_of_some _ (N _ ha).1
  have F0 : Fr h₀ L (s.heap.push (dictOf [] 0)) m := F.push _
  refine wpAny_bind (wpAny_forIn1 ?_)
  refine wpAny_bind (wpAny_pure ?_)
  refine wpAny_bind (wpAny_bind (gy F0 (wpAny_bind (wpAny_standAt (wpAny_pure ?_)))))
  refine wpAny_bind (wpAny_onRaise (wpAny_holding (wpAny_tryCatch (wpAny_onRaise ?_))))
  refine merge_small (s := ⟨s.heap.push (dictOf [] 0), s.gens, s.drawn, s.toks, s.os⟩) hes hd0 ha0 (Nat.ne_of_lt hal) hsys fun h' n hd' sb => ?_
  have sb' : ∀ b o, s.heap.get? b = some o → h'.get? b = some o := fun b o e => sb b o (Nat.ne_of_lt (Heap.lt_size e)) (Heap.get?_push_of_some _ e)
  have NN : News h₀ L h' ((s.heap.objs.size, dictOf es n) :: news) := by
    intro p hp
    rcases List.mem_cons.mp hp with h | h
    · subst h; exact ⟨hd', Nat.ne_of_gt F.ns.lt, next_is_new F⟩
    · exact ⟨sb' _ _ (N p h).1, (N p h).2⟩
  have kk : SmallKw prog w es kw → (es = [] ∧ kw = []) ∨ ∃ h k t v, es = [⟨h, .str k t, v⟩] ∧ kw = [(k, v)] := fun h => h.imp id fun ⟨k, t, v, e⟩ => ⟨_, k, t, v, e⟩
  refine wpAny_bind (wpAny_pure (wpAny_pure ?_))
  refine wpAny_pure (wpAny_pure (wpAny_bind (wpAny_pure ?_)))
  refine wpAny_bind (wpAny_holding (kws_in hd' (kk hes) (wpAny_pure ⟨⟨sb' _ _ hf, hfo⟩, ?_⟩)))
  exact hc h' _ n (F.keeps sb') NN fun p hp => Heap.lt_size (N p hp).1
theorem star_callDK {name : Str} {scope : Scope} {L fa f a : Addr} {cd : Value} {pos px py kp : Pos} {x y : Str} {v1 : Value} {h₀ : Heap} {m : Str → Option Value} {news : List (Addr × Obj)} {od : Obj} {kw : List (Str × Value)} {fo : Obj} {fd : FuncData} {Q : Value → Shared → Prop}
    (F : Fr h₀ L s.heap m) (N : News h₀ L s.heap news) (hk : scope.kind = .function) (hx : m x = some v1) (hxl : (envOf name scope L fa cd).kindOf x = some .local) (hxd : (x == ("__debug__" : Str)) = false)
    (hy : m y = some (.ref a)) (hyl : (envOf name scope L fa cd).kindOf y = some .local) (hyd : (y == ("__debug__" : Str)) = false)
    (ha : (a, od) ∈ news) (hod : od.IsDictOf (strKind prog w) kw) (hkl : kw.length ≤ 1) (hsys : (a == sysModules) = false) (hf : s.heap.get? f = some fo) (hfo : fo.data = .func fd)
    (hc : ∀ h' d od', Fr h₀ L h' m → News h₀ L h' ((d, od') :: news) → (∀ p ∈ news, p.1 < d) → wpAny (model prog w) A (call (.ref f) [v1] kw) Q E { s with heap := h' }) :
    wpAny (model prog w) A (callWith pos (.ref f) [] (backTo pos (starEach [.Name x px] (envOf name scope L fa cd))) (backToKw pos (keywordEach [⟨none, .Name y py, kp⟩] (envOf name scope L fa cd)))) Q E s := by
  obtain ⟨dd, es, ep, sl, rfl, hes⟩ := small_dict hod hkl
  exact star_callG F N hk hx hxl hxd hy hyl hyd ha hes hsys hf hfo fun h' d n F' N' l1 => hc h' d _ F' N' l1
end
-- Post
def GoodB (c : ClaimW) (cl : Str → Option Addr) (args : List WData) (s₁ : Shared) (res : Result) (s' : Shared) : Prop :=
  (∃ v d as, res = .ok (.ret v) ∧ (∀ cls, c.raises args cls = false) ∧ ReadsW c.records cl s'.heap v d as ∧ c.post args d args = true ∧
      (c.unshared = true → as.Nodup ∧ ∀ a ∈ as, s₁.heap.get? a = none)) ∧
  (∀ b o, s₁.heap.get? b = some o → s'.heap.get? b = some o) ∧ s'.os = s₁.os ∧ AllBare s'.gens
theorem my_post {M : Model} {A : Around} {cd : Code} {s s₁ : Shared} {cw : ClaimW} {cl : Str → Option Addr} {mean : ExcName → Option Value} {args : List WData} {tabs : List (Addr × Addr)} (hT : TabsAt tabs s₁.heap)
    (h : codeAny M A cd (fun r s' => GoodB cw cl args { s₁ with heap := ghostOf s₁.heap tabs } r s' ∧ GrownAll tabs s'.heap) s) : codeAny M A cd (GoodWG cw cl mean args s₁) s :=
  codeAny_mono h fun r s' ⟨⟨hc, hk, hos, hg⟩, hgr⟩ => by
    have keep : ∀ b o, b ∉ tabs.map (·.2) → s₁.heap.get? b = some o → s'.heap.get? b = some o := fun b o hb e => hk b o (ghost_ne e hb)
    have grown : ∀ b o, b ∈ tabs.map (·.2) → s₁.heap.get? b = some o → isCodeTable s₁.heap b ∧ o = tabObj #[] ∧ ∃ ps, s'.heap.get? b = some (tabObj ps) := fun b o hb e => by
      obtain ⟨q, hq, rfl⟩ := List.mem_map.mp hb
      have e2 := (hT q hq).2
      rw [e] at e2
      exact ⟨((hT q hq).1.tab (hT q hq).2).isCodeTable, Option.some.inj e2, hgr.get q hq⟩
    refine ⟨?_, ⟨fun b o e => ?_, fun b o e => ?_⟩, hos, hg⟩
    · obtain ⟨v, d, as, r1, r2, r3, r4, r5⟩ := hc
      refine .inl ⟨v, d, as, r1, r2, r3, r4, fun q => ⟨(r5 q).1, fun a ha => ?_⟩⟩
      cases q1 : s₁.heap.get? a with
      | none => rfl
      | some o =>
        by_cases hb : a ∈ tabs.map (·.2)
        · obtain ⟨_, _, ps, hP⟩ := grown a o hb q1
          exact absurd ha (readsW_apart hP rfl r3)
        · have e3 := (r5 q).2 a ha
          rw [show (ghostOf s₁.heap tabs).get? a = some o from ghost_ne q1 hb] at e3
          cases e3
    · by_cases hb : b ∈ tabs.map (·.2)
      · obtain ⟨ht, rfl, ps, hP⟩ := grown b o hb e
        exact .inr (.inl ⟨ht, rfl, #[], ps, rfl, by rw [Array.empty_append]; exact hP⟩)
      · exact .inl (keep b o hb e)
    · by_cases hb : b ∈ tabs.map (·.2)
      · obtain ⟨_, _, ps, hP⟩ := grown b o hb e
        exact ⟨_, hP⟩
      · exact ⟨o, keep b o hb e⟩
-- Comp
section
variable {prog : Program} {w : World} {A : Around} {E : Value → Shared → Prop} {s : Shared} {h₀ : Heap} {L : Addr} {m : Str → Option Value} {news : List (Addr × Obj)} {env : Env} {elt iter : Expr} {x : Str} {px : Pos} {scope : Scope} {cl : List (Str × Addr)} {pos : Pos} {Q : Value → Shared → Prop}
def CompAny (prog : Program) (w : World) (A : Around) (E : Value → Shared → Prop) (env : Env) (elt iter : Expr) (x : Str) (px : Pos) (scope : Scope) (cl : List (Str × Addr)) (pos : Pos) (use : Option (Value → Sem Unit)) (Q : Value → Shared → Prop) (it : Value) (s₂ : Shared) : Prop :=
  wpAny (model prog w) A (newList []) (fun acc s₃ => wpAny (model prog w) A (newFunctionEnv scope env.globals cl [] env.qual none .none (some env)) (fun cenv s₄ =>
    codeAny (model prog w) A (.compStart (.ListComp elt [⟨.Name x px, iter, [], 0⟩] scope pos) 0 it acc { cenv with scope := relabel scope env }) (compPost (model prog w) A E use Q acc cenv.locals) s₄) E s₃) E s₂
theorem comp_any (hclos : closureFor scope env = pure cl) (hkind : scope.kind = .function) (hnames : ∀ y ∈ scope.names, y.2 = .local → scope.names.lookup y.1 = some .local)
    (h : wpAny (model prog w) A (eval iter env) (fun xv s₁ => wpAny (model prog w) A (pyIter xv) (fun it s₂ => CompAny prog w A E env elt iter x px scope cl pos none Q it s₂) E s₁) E s) (hs : ∀ x, foldedSetIterable iter env x = pure x) :
    wpAny (model prog w) A (eval (.ListComp elt [⟨.Name x px, iter, [], 0⟩] scope pos) env) Q E s := by
  rw [eval_ListComp]
  exact wpAny_comprehension_free (use := none) rfl hs hclos hkind hnames h
theorem comp_assign {y : Str} {py spos : Pos} {Qf : Flow → Shared → Prop} (hsw : swapsWith (.ListComp elt [⟨.Name x px, iter, [], 0⟩] scope pos) (some (.Name y py)) spos.line env = pure true)
    (hclos : closureFor scope env = pure cl) (hkind : scope.kind = .function) (hnames : ∀ y ∈ scope.names, y.2 = .local → scope.names.lookup y.1 = some .local)
    (h : wpAny (model prog w) A (eval iter env) (fun xv s₁ => wpAny (model prog w) A (pyIter xv) (fun it s₂ => CompAny prog w A E env elt iter x px scope cl pos (some (assign (.Name y py) env)) (fun _ s' => Qf .next s') it s₂) E s₁) E s) (hs : ∀ x, foldedSetIterable iter env x = pure x) :
    wpAny (model prog w) A (exec (.Assign [.Name y py] (.ListComp elt [⟨.Name x px, iter, [], 0⟩] scope pos) spos) env) Qf E s := by
  rw [exec_Assign_Name_used _ _ _ _ hsw]
  refine wpAny_bind (wpAny_standAt (wpAny_bind ?_))
  show wpAny _ A (do let _ ← comprehension (.ListComp elt [⟨.Name x px, iter, [], 0⟩] scope pos) scope env _ (newList []) false (eval iter env) (some (assign (.Name y py) env))) _ _ s
  exact wpAny_bind (wpAny_mono (wpAny_comprehension_free (use := some (assign (.Name y py) env)) (Q := fun _ s' => Qf .next s') rfl hs hclos hkind hnames h) (fun _ s' hq => wpAny_pure (wpAny_pure hq)) fun _ _ e => e)
def CBack (s : Shared) (h₀ : Heap) (L : Addr) (m : Str → Option Value) (I : Addr) (oI : Obj) (C : Addr) (oC : Obj) (D : Addr) (oD : Obj) (news₁ : List (Addr × Obj)) (tk₁ : Nat) (J : List (Addr × Obj) → Nat → Prop) (s₄ : Shared) : Prop :=
  ∃ news₂ h₂ tk₂, s₄ = { s with heap := h₂, toks := tk₂ } ∧ Fr h₀ L h₂ m ∧ News h₀ L h₂ ((I, oI) :: (C, oC) :: (D, oD) :: news₂) ∧ (∀ p ∈ news₂, p ∈ news₁ ∨ ∃ xs k, p.2 = { cls := .type "tuple", data := .seq xs k }) ∧ tk₁ ≤ tk₂ ∧ J news₂ tk₂
theorem CBack.intro {I C D : Addr} {oI oC oD : Obj} {news₁ news₂ : List (Addr × Obj)} {tk₁ tk₂ : Nat} {h₂ : Heap} {J : List (Addr × Obj) → Nat → Prop} (F : Fr h₀ L h₂ m) (N : News h₀ L h₂ ((I, oI) :: (C, oC) :: (D, oD) :: news₂)) (hnew : ∀ p ∈ news₂, p ∈ news₁ ∨ ∃ xs k, p.2 = { cls := .type "tuple", data := .seq xs k }) (ht : tk₁ ≤ tk₂) (hj : J news₂ tk₂) :
    CBack s h₀ L m I oI C oC D oD news₁ tk₁ J { s with heap := h₂, toks := tk₂ } := ⟨_, _, _, rfl, F, N, hnew, ht, hj⟩
theorem comp_rangeU {use : Option (Value → Sem Unit)} {r : Addr} {a₀ b₀ : Int} {t₀ u₀ v₀ : Tok} {n : Nat} (hh : A.handled = none) (hcell : ∀ y ∈ scope.names, y.2 ≠ .cell) (hkind : scope.kind = .function) (hx : scope.names.lookup x = some .local)
    (F : Fr h₀ L s.heap m) (N : News h₀ L s.heap news) (hr : IsRange s.heap r a₀ b₀ 1 t₀ u₀ v₀) (hsmall : Builtin.Range.small a₀ b₀ 1 = true) (hn : Builtin.Range.rangeSize a₀ b₀ 1 = (n : Int)) (hnz : n ≤ 1000)
    (J : Nat → List Value → List (Addr × Obj) → Nat → Prop) (Jm : ∀ i ys n₁ t t', J i ys n₁ t → t ≤ t' → J i ys n₁ t') (h0 : J 0 [] news s.toks)
    (step : ∀ (i : Nat) t ys I oI C oC D oD news₁ h₁ tk₁ m₂ E', i < n → J i ys news₁ tk₁ → s.toks ≤ tk₁ → LCg.NsObj oC m₂ → m₂ x = some (.int (a₀ + (i : Nat)) t) → Fr h₀ L h₁ m → News h₀ L h₁ ((I, oI) :: (C, oC) :: (D, oD) :: news₁) → (∀ p ∈ news₁, p.1 ≠ I ∧ p.1 ≠ C ∧ p.1 ≠ D) →
      wpAny (model prog w) A (eval elt (compEnvC scope cl C env)) (fun y s₄ => CBack s h₀ L m I oI C oC D oD news₁ tk₁ (fun n t => J (i + 1) (ys ++ [y]) n t) s₄) E' { s with heap := h₁, toks := tk₁ })
    (done : ∀ D C k ys news₁ h₂ tk₂ mC, J n ys news₁ tk₂ → s.toks ≤ tk₂ → Fr h₀ L h₂ m → h₂.Ns C mC → h₀.get? C = none → L ≠ C → D ≠ C → News h₀ L h₂ ((D, listOf ys.toArray k) :: news₁) → (∀ p ∈ news₁, p.1 ≠ C ∧ p.1 ≠ D) → compPost (model prog w) A E use Q (.ref D) C (.ok .next) { s with heap := h₂, toks := tk₂ }) :
    wpAny (model prog w) A (pyIter (.ref r)) (fun it s₂ => CompAny prog w A E env elt iter x px scope cl pos use Q it s₂) E s := by
  have hLs : L < s.heap.objs.size := F.ns.lt
  refine wpAny_pyIter_range hr hsmall ?_
  unfold CompAny
  refine wpAny_newObj_type (wpAny_newFunctionEnv hcell (by intro y hy; simp at hy) (fun h₁ hns₁ hsb₁ => ?_) hkind)
  dsimp only at hns₁ hsb₁ ⊢
  obtain ⟨I, hI⟩ : ∃ I, s.heap.objs.size = I := ⟨_, rfl⟩
  generalize hH1 : s.heap.push { cls := .type "range_iterator", data := .fields #[rawInt a₀, rawInt (Builtin.Range.rangeSize a₀ b₀ 1), rawInt 1] } = H1 at hns₁ hsb₁ ⊢
  have s1 : H1.objs.size = I + 1 := by rw [← hH1, Heap.size_push, hI]
  obtain ⟨D, hD⟩ : ∃ D, H1.objs.size = D := ⟨_, rfl⟩
  generalize hH2 : H1.push { cls := .type "list", dict := none, data := .seq ([] : List Value).toArray } = H2 at hns₁ hsb₁ ⊢
  have s2 : H2.objs.size = D + 1 := by rw [← hH2, Heap.size_push, hD]
  obtain ⟨C, hC⟩ : ∃ C, H2.objs.size = C := ⟨_, rfl⟩
  rw [hC] at hns₁ hsb₁ ⊢
  rw [hD] at ⊢ s1
  rw [hC] at s2
  rw [hI] at ⊢ hLs
  have eD : I ≠ D := by rw [s1]; exact Nat.ne_of_lt (Nat.lt_succ_self _)
  have eC1 : D ≠ C := by rw [s2]; exact Nat.ne_of_lt (Nat.lt_succ_self _)
  have ltIC : I < C := by rw [s2, s1]; exact Nat.lt_succ_of_lt (Nat.lt_succ_self _)
  have ltID : I < D := by rw [s1]; exact Nat.lt_succ_self _
  have ltI : ∀ b o, s.heap.get? b = some o → b < I := fun b o e => hI ▸ Heap.lt_size e
  have old : ∀ b o, s.heap.get? b = some o → h₁.get? b = some o := fun b o e => hsb₁.extBut b o (Nat.ne_of_lt (Nat.lt_trans (ltI b o e) ltIC)) (Heap.get?_push_of_some _ (hH2 ▸ Heap.get?_push_of_some _ (hH1 ▸ Heap.get?_push_of_some _ e)))
  have hIit : IsRangeIter h₁ I (a₀ + ((0 : Nat) : Int) * 1) ((n : Int) - ((0 : Nat) : Int)) 1 := by
    have e1 : H1.get? I = some { cls := .type "range_iterator", data := .fields #[rawInt a₀, rawInt (Builtin.Range.rangeSize a₀ b₀ 1), rawInt 1] } := by
      rw [← hH1, ← hI]; exact Heap.get?_push_size _ rfl
    have e2 := hsb₁.extBut I _ (Nat.ne_of_lt ltIC) (Heap.get?_push_of_some _ (hH2 ▸ Heap.get?_push_of_some _ e1))
    rw [hn] at e2
    show _ = _
    simpa using e2
  have hDl : h₁.PlainList D #[] := by
    have e1 : H2.get? D = some { cls := .type "list", dict := none, data := .seq ([] : List Value).toArray } := by
      rw [← hH2, ← hD]; exact Heap.get?_push_size _ rfl
    exact ⟨_, hsb₁.extBut D _ eC1 (Heap.get?_push_of_some _ e1)⟩
  have none0 : ∀ b, I ≤ b → h₀.get? b = none := fun b hb => ktu_new F (hI ▸ hb)
  have hIn := none0 I (Nat.le_refl _)
  have hDn := none0 D (Nat.le_of_lt ltID)
  have hCn := none0 C (Nat.le_of_lt ltIC)
  have nLI : L ≠ I := Nat.ne_of_lt hLs
  have nLD : L ≠ D := Nat.ne_of_lt (Nat.lt_trans hLs ltID)
  have nLC : L ≠ C := Nat.ne_of_lt (Nat.lt_trans hLs ltIC)
  have F₁ : Fr h₀ L h₁ m := ⟨F.ns.at' fun o e => old _ _ e, fun b o e => old b o (F.keep b o e), F.above⟩
  have N₁ : News h₀ L h₁ news := fun p hp => ⟨old _ _ (N p hp).1, (N p hp).2⟩
  let Inv : Nat → Shared → Prop := fun k s' => ∃ i h tk m' ys news₁, s' = { s with heap := h, toks := tk } ∧ IsRangeIter h I (a₀ + ((i : Nat) : Int) * 1) ((n : Int) - ((i : Nat) : Int)) 1 ∧ h.PlainList D ys.toArray ∧ h.Ns C m' ∧ Fr h₀ L h m ∧ News h₀ L h news₁ ∧
    (∀ p ∈ news₁, p.1 ≠ I ∧ p.1 ≠ C ∧ p.1 ≠ D) ∧ ys.length = i ∧ J i ys news₁ tk ∧ k = n + 1 - i ∧ i ≤ n ∧ s.toks ≤ tk
  have loop : ∀ s₃ : Shared, s₃ = { s with heap := h₁, toks := s.toks + ([] : List (Str × Value)).length } →
      codeAny (model prog w) A (.compLoop (.ListComp elt [⟨.Name x px, iter, [], 0⟩] scope pos) 0 (.ref I) (.ref D) (compEnvC scope cl C env)) (compPost (model prog w) A E use Q (.ref D) C) s₃ := by
    rintro s₃ rfl
    refine codeAny_compLoop_tests Inv ?_ (n + 1) ⟨0, h₁, _, _, [], news, rfl, hIit, hDl, hns₁, F₁, N₁, fun p hp => ⟨Nat.ne_of_lt (ltI _ _ (N p hp).1), Nat.ne_of_lt (Nat.lt_trans (ltI _ _ (N p hp).1) ltIC), Nat.ne_of_lt (Nat.lt_trans (ltI _ _ (N p hp).1) ltID)⟩, rfl, h0, rfl, Nat.zero_le _, Nat.le_refl _⟩
    rintro k s' ⟨i, h, tk, m', ys, news₁, rfl, hit, hpl, hnC, Fi, Ni, hne, hlen, hj, rfl, hin, htk⟩
    by_cases hlt : i < n
    · have W := Walks.range (prog := prog) (w := w) (A := A) hh I a₀ 1 n
      refine wpAny_with_toks (n := tk) (Nat.le_refl _) (W.item i _ _ _ hlt hit fun v h₂ tk₂ ⟨t, hv⟩ hit₂ hk₂ ht₂ => ?_)
      subst hv
      rw [Int.mul_one]
      have kk : ∀ b o, b ≠ I → h.get? b = some o → h₂.get? b = some o := fun b o hb e => hk₂ b o (fun hm => hb (List.mem_singleton.mp hm)) e
      refine wpAny_assign_Name (wpAny_storeName_local (lookup_relabel_local hx) (hnC.at' fun o e => kk C o (Nat.ne_of_gt ltIC) e) (fun h₃ hn₃ hs₃ => ?_) (by simp [compEnvC, relabel, hkind]))
      dsimp only at ht₂ hs₃
      replace hs₃ : Heap.SameBut C h₂ h₃ := hs₃
      have k3 : ∀ b o, b ≠ I → b ≠ C → h.get? b = some o → h₃.get? b = some o := fun b o hb hc e => hs₃.extBut b o hc (kk b o hb e)
      refine wpAny_pure ?_
      simp only [if_true]
      have Fe : Fr h₀ L h₃ m := ⟨Fi.ns.at' fun o e => k3 L o nLI nLC e, fun b o e => k3 b o (fun eb => by rw [eb, hIn] at e; cases e) (fun eb => by rw [eb, hCn] at e; cases e) (Fi.keep b o e), Fi.above⟩
      obtain ⟨kD, hkD⟩ := hpl
      have hit₃ : IsRangeIter h₃ I (a₀ + ((i + 1 : Nat) : Int) * 1) ((n : Int) - ((i + 1 : Nat) : Int)) 1 := hs₃.extBut I _ (Nat.ne_of_lt ltIC) hit₂
      obtain ⟨oI, hoI, hoIc⟩ : ∃ oI, h₃.get? I = some oI ∧ oI.cls = .type "range_iterator" := ⟨_, hit₃, rfl⟩
      obtain ⟨oC, hoC, hoCn⟩ := LCg.ns_obj hn₃
      have hoCn2 := hoCn
      obtain ⟨esC, epC, hoCd, -, -⟩ := hoCn2
      have hD₃ := k3 D _ eD.symm eC1 hkD
      have Ne : News h₀ L h₃ ((I, oI) :: (C, oC) :: (D, _) :: news₁) := fun p hp => by
        rcases List.mem_cons.mp hp with h | hp
        · subst h; exact ⟨hoI, nLI.symm, hIn⟩
        rcases List.mem_cons.mp hp with h | hp
        · subst h; exact ⟨hoC, nLC.symm, hCn⟩
        rcases List.mem_cons.mp hp with h | hp
        · subst h; exact ⟨hD₃, nLD.symm, hDn⟩
        exact ⟨k3 _ _ (hne p hp).1 (hne p hp).2.1 (Ni p hp).1, (Ni p hp).2⟩
      refine wpAny_mono (step i t ys I oI C oC D _ news₁ h₃ _ _ _ hlt (Jm _ _ _ _ _ hj (Nat.le_trans ht₂ (Nat.le_succ _))) (Nat.le_trans htk (Nat.le_trans ht₂ (Nat.le_succ _))) hoCn (by simp) Fe Ne hne) (fun y s₄ h₄ => ?_) fun _ _ e => e
      obtain ⟨news₂, h₅, tk₅, rfl, F₅, N₅, hnew, ht₅, hj₅⟩ := h₄
      have gI : h₅.get? I = some oI := (N₅ (I, oI) (.head _)).1
      have gC : h₅.get? C = some oC := (N₅ (C, oC) (.tail _ (.head _))).1
      have gD : h₅.get? D = some ({ cls := .type "list", data := .seq ys.toArray kD } : Obj) := (N₅ (D, _) (.tail _ (.tail _ (.head _)))).1
      refine wpAny_list_append_plain (items := ys.toArray) (l := D) ⟨kD, gD⟩ (fun h₆ hl₆ hs₆ => ?_) (by rw [sizeLine_eq, List.size_toArray]; omega)
      dsimp only at hs₆
      replace hs₆ : Heap.SameBut D h₅ h₆ := hs₆
      have nn : ∀ p ∈ news₂, p.1 ≠ I ∧ p.1 ≠ C ∧ p.1 ≠ D := fun p hp => by
        rcases hnew p hp with h | ⟨xs, kx, e⟩
        · exact hne p h
        · have hp1 := (N₅ p (.tail _ (.tail _ (.tail _ hp)))).1
          rw [e] at hp1
          refine ⟨fun eq => ?_, fun eq => ?_, fun eq => ?_⟩
          · rw [eq, gI] at hp1
            have := congrArg Obj.cls (Option.some.inj hp1)
            rw [hoIc] at this
            injection this with this
            exact absurd this (by decide)
          · rw [eq, gC] at hp1
            have := congrArg Obj.data (Option.some.inj hp1)
            rw [hoCd] at this
            cases this
          · rw [eq, gD] at hp1
            have := congrArg Obj.cls (Option.some.inj hp1)
            injection this with this
            exact absurd this (by decide)
      have k6 : ∀ b o, b ≠ D → h₅.get? b = some o → h₆.get? b = some o := fun b o hb e => hs₆.extBut b o hb e
      refine ⟨n + 1 - (i + 1), by omega, i + 1, h₆, tk₅, _, ys ++ [y], news₂, rfl, k6 I _ eD (gI.trans (hoI.symm.trans hit₃)), ?_, hoCn.ns (k6 C _ eC1.symm gC), ⟨F₅.ns.at' fun o e => k6 L o nLD e, fun b o e => k6 b o (fun eb => by rw [eb, hDn] at e; cases e) (F₅.keep b o e), F₅.above⟩, fun p hp => ⟨k6 _ _ (nn p hp).2.2 (N₅ p (.tail _ (.tail _ (.tail _ hp)))).1, (N₅ p (.tail _ (.tail _ (.tail _ hp)))).2⟩, nn, by simp [hlen], hj₅, rfl, hlt, by omega⟩
      rw [← List.push_toArray]
      exact hl₆
    · have e : i = n := by omega
      subst e
      have W := Walks.range (prog := prog) (w := w) (A := A) hh I a₀ 1 i
      refine wpAny_with_toks (n := tk) (Nat.le_refl _) (W.done _ _ _ hit fun h₂ tk₂ hk₂ ht₂ => ?_)
      have kk : ∀ b o, b ≠ I → h.get? b = some o → h₂.get? b = some o := fun b o hb e => hk₂ b o (fun hm => hb (List.mem_singleton.mp hm)) e
      obtain ⟨kD, hkD⟩ := hpl
      refine done D C kD ys news₁ h₂ tk₂ m' (Jm _ _ _ _ _ hj ht₂) (Nat.le_trans htk ht₂) ⟨Fi.ns.at' fun o e => kk L o nLI e, fun b o e => kk b o (fun eb => by rw [eb, hIn] at e; cases e) (Fi.keep b o e), F.above⟩ (hnC.at' fun o e => kk C o (Nat.ne_of_gt ltIC) e) hCn nLC eC1 (fun p hp => ?_) fun p hp => (hne p hp).2
      rcases List.mem_cons.mp hp with h | hp
      · subst h
        exact ⟨kk D _ eD.symm hkD, nLD.symm, hDn⟩
      · exact ⟨kk _ _ (hne p hp).1 (Ni p hp).1, (Ni p hp).2⟩
  exact codeAny_compStart_list (loop _ rfl) (wpAny_pyIter_rangeiter hIit (loop _ rfl))
theorem comp_range {r : Addr} {a₀ b₀ : Int} {t₀ u₀ v₀ : Tok} {n : Nat} (hh : A.handled = none) (hcell : ∀ y ∈ scope.names, y.2 ≠ .cell) (hkind : scope.kind = .function) (hx : scope.names.lookup x = some .local)
    (F : Fr h₀ L s.heap m) (N : News h₀ L s.heap news) (hr : IsRange s.heap r a₀ b₀ 1 t₀ u₀ v₀) (hsmall : Builtin.Range.small a₀ b₀ 1 = true) (hn : Builtin.Range.rangeSize a₀ b₀ 1 = (n : Int)) (hnz : n ≤ 1000)
    (J : Nat → List Value → List (Addr × Obj) → Nat → Prop) (Jm : ∀ i ys n₁ t t', J i ys n₁ t → t ≤ t' → J i ys n₁ t') (h0 : J 0 [] news s.toks)
    (step : ∀ (i : Nat) t ys I oI C oC D oD news₁ h₁ tk₁ m₂ E', i < n → J i ys news₁ tk₁ → s.toks ≤ tk₁ → LCg.NsObj oC m₂ → m₂ x = some (.int (a₀ + (i : Nat)) t) → Fr h₀ L h₁ m → News h₀ L h₁ ((I, oI) :: (C, oC) :: (D, oD) :: news₁) → (∀ p ∈ news₁, p.1 ≠ I ∧ p.1 ≠ C ∧ p.1 ≠ D) →
      wpAny (model prog w) A (eval elt (compEnvC scope cl C env)) (fun y s₄ => CBack s h₀ L m I oI C oC D oD news₁ tk₁ (fun n t => J (i + 1) (ys ++ [y]) n t) s₄) E' { s with heap := h₁, toks := tk₁ })
    (done : ∀ D k ys news₁ h₁ tk₁, J n ys news₁ tk₁ → s.toks ≤ tk₁ → Fr h₀ L h₁ m → News h₀ L h₁ ((D, listOf ys.toArray k) :: news₁) → (∀ p ∈ news₁, p.1 ≠ D) → Q (.ref D) { s with heap := h₁, toks := tk₁ }) :
    wpAny (model prog w) A (pyIter (.ref r)) (fun it s₂ => CompAny prog w A E env elt iter x px scope cl pos none Q it s₂) E s := by
  refine comp_rangeU hh hcell hkind hx F N hr hsmall hn hnz J Jm h0 step fun D C k ys news₁ h₂ tk₂ mC hj ht F₂ hC hC₀ nLC nDC N₂ hne => ?_
  refine ⟨mC, hC, fun h₃ hs₃ => ?_⟩
  replace hs₃ : Heap.SameBut C h₂ h₃ := hs₃
  refine done D k ys news₁ h₃ tk₂ hj ht (F₂.change hs₃ nLC.symm hC₀) (fun p hp => ?_) fun p hp => (hne p hp).2
  refine ⟨hs₃.extBut _ _ ?_ (N₂ p hp).1, (N₂ p hp).2⟩
  rcases List.mem_cons.mp hp with h | hp
  · subst h; exact nDC
  · exact (hne p hp).1
theorem comp_rangeA {y : Str} {py : Pos} (hLe : env.locals = L) (hy : env.kindOf y = some .local) (hp : (env.scope.kind == .class || (env.scope.kind == .module && env.locals != env.globals)) = false) {r : Addr} {a₀ b₀ : Int} {t₀ u₀ v₀ : Tok} {n : Nat} (hh : A.handled = none) (hcell : ∀ y ∈ scope.names, y.2 ≠ .cell) (hkind : scope.kind = .function) (hx : scope.names.lookup x = some .local)
    (F : Fr h₀ L s.heap m) (N : News h₀ L s.heap news) (hr : IsRange s.heap r a₀ b₀ 1 t₀ u₀ v₀) (hsmall : Builtin.Range.small a₀ b₀ 1 = true) (hn : Builtin.Range.rangeSize a₀ b₀ 1 = (n : Int)) (hnz : n ≤ 1000)
    (J : Nat → List Value → List (Addr × Obj) → Nat → Prop) (Jm : ∀ i ys n₁ t t', J i ys n₁ t → t ≤ t' → J i ys n₁ t') (h0 : J 0 [] news s.toks)
    (step : ∀ (i : Nat) t ys I oI C oC D oD news₁ h₁ tk₁ m₂ E', i < n → J i ys news₁ tk₁ → s.toks ≤ tk₁ → LCg.NsObj oC m₂ → m₂ x = some (.int (a₀ + (i : Nat)) t) → Fr h₀ L h₁ m → News h₀ L h₁ ((I, oI) :: (C, oC) :: (D, oD) :: news₁) → (∀ p ∈ news₁, p.1 ≠ I ∧ p.1 ≠ C ∧ p.1 ≠ D) →
      wpAny (model prog w) A (eval elt (compEnvC scope cl C env)) (fun y s₄ => CBack s h₀ L m I oI C oC D oD news₁ tk₁ (fun n t => J (i + 1) (ys ++ [y]) n t) s₄) E' { s with heap := h₁, toks := tk₁ })
    (done : ∀ D k ys news₁ h₁ (tk₁ : Nat), J n ys news₁ tk₁ → s.toks ≤ tk₁ → Fr h₀ L h₁ (fun z => if z = y then some (.ref D) else m z) → News h₀ L h₁ ((D, listOf ys.toArray k) :: news₁) → (∀ p ∈ news₁, p.1 ≠ D) → Q .none { s with heap := h₁, toks := tk₁ + 1 }) :
    wpAny (model prog w) A (pyIter (.ref r)) (fun it s₂ => CompAny prog w A E env elt iter x px scope cl pos (some (assign (.Name y py) env)) Q it s₂) E s := by
  subst hLe
  refine comp_rangeU hh hcell hkind hx F N hr hsmall hn hnz J Jm h0 step fun D C k ys news₁ h₂ tk₂ mC hj ht F₂ hC hC₀ nLC nDC N₂ hne => ?_
  show wpAny _ A (assign (.Name y py) env (.ref D)) _ _ _
  refine wpAny_assign_Name (wpAny_storeName_local hy F₂.ns (fun h₃ hn₃ hs₃ => ?_) hp)
  dsimp only at hs₃
  replace hs₃ : Heap.SameBut env.locals h₂ h₃ := hs₃
  have hL₀ : h₀.get? env.locals = none := Heap.get?_none_of_le F₂.above
  have F₃ : Fr h₀ env.locals h₃ (fun z => if z = y then some (.ref D) else m z) := ⟨hn₃, fun b o e => hs₃.extBut b o (fun q => by rw [q, hL₀] at e; cases e) (F₂.keep b o e), F₂.above⟩
  refine ⟨mC, hC.sameBut hs₃ nLC.symm, fun h₄ hs₄ => ?_⟩
  replace hs₄ : Heap.SameBut C h₃ h₄ := hs₄
  refine done D k ys news₁ h₄ tk₂ hj ht (F₃.change hs₄ nLC.symm hC₀) (fun p hp => ?_) fun p hp => (hne p hp).2
  have z : h₃.get? p.1 = some p.2 := hs₃.extBut _ _ (N₂ p hp).2.1 (N₂ p hp).1
  refine ⟨hs₄.extBut _ _ ?_ z, (N₂ p hp).2⟩
  rcases List.mem_cons.mp hp with h | hp
  · subst h; exact nDC
  · exact (hne p hp).1
end
-- Pairs
section
variable {prog : Program} {w : World} {A : Around} {E : Value → Shared → Prop} {s : Shared} {h₀ : Heap} {L l : Addr} {m : Str → Option Value} {news : List (Addr × Obj)} {env : Env} {elt iter : Expr} {xa xb : Str} {pa pb pt : Pos} {kt : Nat} {scope : Scope} {cl : List (Str × Addr)} {pos : Pos} {Q : Value → Shared → Prop}
def CompPair (prog : Program) (w : World) (A : Around) (E : Value → Shared → Prop) (env : Env) (elt iter : Expr) (xa xb : Str) (pa pb pt : Pos) (kt : Nat) (scope : Scope) (cl : List (Str × Addr)) (pos : Pos) (Q : Value → Shared → Prop) (it : Value) (s₂ : Shared) : Prop :=
  wpAny (model prog w) A (newList []) (fun acc s₃ => wpAny (model prog w) A (newFunctionEnv scope env.globals cl [] env.qual none .none (some env)) (fun cenv s₄ =>
    codeAny (model prog w) A (.compStart (.ListComp elt [⟨.Tuple [.Name xa pa, .Name xb pb] kt pt, iter, [], 0⟩] scope pos) 0 it acc { cenv with scope := relabel scope env }) (compPost (model prog w) A E none Q acc cenv.locals) s₄) E s₃) E s₂
theorem comp_pair (hclos : closureFor scope env = pure cl) (hkind : scope.kind = .function) (hnames : ∀ y ∈ scope.names, y.2 = .local → scope.names.lookup y.1 = some .local)
    (h : wpAny (model prog w) A (eval iter env) (fun xv s₁ => wpAny (model prog w) A (pyIter xv) (fun it s₂ => CompPair prog w A E env elt iter xa xb pa pb pt kt scope cl pos Q it s₂) E s₁) E s) (hs : ∀ x, foldedSetIterable iter env x = pure x) :
    wpAny (model prog w) A (eval (.ListComp elt [⟨.Tuple [.Name xa pa, .Name xb pb] kt pt, iter, [], 0⟩] scope pos) env) Q E s := by
  rw [eval_ListComp]
  exact wpAny_comprehension_free (use := none) rfl hs hclos hkind hnames h
theorem comp_list {items : List Value} {kl : Nat} {Ts : Nat → Addr} {vals : Nat → Array Value} {R : Nat → Value → Prop} (hh : A.handled = none) (hcell : ∀ y ∈ scope.names, y.2 ≠ .cell) (hkind : scope.kind = .function) (hxa : scope.names.lookup xa = some .local) (hxb : scope.names.lookup xb = some .local) (hab : xa ≠ xb)
    (F : Fr h₀ L s.heap m) (N : News h₀ L s.heap news) (hl : (l, listOf items.toArray kl) ∈ news) (hz : items.length ≤ 1000)
    (ht : ∀ j, j < items.length → items.toArray[j]? = some (.ref (Ts j)) ∧ (Ts j, ({ cls := .type "tuple", data := .seq (vals j) } : Obj)) ∈ news)
    (helt : ∀ (i : Nat) va vb C (s₃ : Shared) m₃ E', i < items.length → vals i = #[va, vb] → s₃.heap.Ns C m₃ → m₃ xa = some va → m₃ xb = some vb → wpAny (model prog w) A (eval elt (compEnvC scope cl C env)) (fun y s₄ => R i y ∧ Keeps s₃ s₄) E' s₃)
    (hv2 : ∀ j, j < items.length → ∃ va vb, vals j = #[va, vb])
    (done : ∀ D k (ys : List Value) h₁ tk₁, ys.length = items.length → (∀ (i : Nat) y, ys[i]? = some y → R i y) → Fr h₀ L h₁ m → News h₀ L h₁ ((D, listOf ys.toArray k) :: news) → (∀ p ∈ news, p.1 ≠ D) → Q (.ref D) { s with heap := h₁, toks := tk₁ }) :
    wpAny (model prog w) A (pyIter (.ref l)) (fun it s₂ => CompPair prog w A E env elt iter xa xb pa pb pt kt scope cl pos Q it s₂) E s := by
  have hLs : L < s.heap.objs.size := F.ns.lt
  have hls : s.heap.IsList l items.toArray := ⟨_, (N _ hl).1, rfl, kl, rfl⟩
  refine wpAny_pyIter_list hls ?_
  unfold CompPair
  refine wpAny_newObj_type (wpAny_newFunctionEnv hcell (by intro y hy; simp at hy) (fun h₁ hns₁ hsb₁ => ?_) hkind)
  dsimp only at hns₁ hsb₁ ⊢
  obtain ⟨I, hI⟩ : ∃ I, s.heap.objs.size = I := ⟨_, rfl⟩
  generalize hH1 : s.heap.push { cls := .type "list_iterator", data := .fields #[.ref l, .int 0 0] } = H1 at hns₁ hsb₁ ⊢
  have s1 : H1.objs.size = I + 1 := by rw [← hH1, Heap.size_push, hI]
  obtain ⟨D, hD⟩ : ∃ D, H1.objs.size = D := ⟨_, rfl⟩
  generalize hH2 : H1.push { cls := .type "list", dict := none, data := .seq ([] : List Value).toArray } = H2 at hns₁ hsb₁ ⊢
  have s2 : H2.objs.size = D + 1 := by rw [← hH2, Heap.size_push, hD]
  obtain ⟨C, hC⟩ : ∃ C, H2.objs.size = C := ⟨_, rfl⟩
  rw [hC] at hns₁ hsb₁ ⊢
  rw [hD] at ⊢ s1
  rw [hC] at s2
  rw [hI] at ⊢ hLs
  have eD : I ≠ D := by rw [s1]; exact Nat.ne_of_lt (Nat.lt_succ_self _)
  have eC1 : D ≠ C := by rw [s2]; exact Nat.ne_of_lt (Nat.lt_succ_self _)
  have ltIC : I < C := by rw [s2, s1]; exact Nat.lt_succ_of_lt (Nat.lt_succ_self _)
  have ltID : I < D := by rw [s1]; exact Nat.lt_succ_self _
  have ltI : ∀ b o, s.heap.get? b = some o → b < I := fun b o e => hI ▸ Heap.lt_size e
  have old : ∀ b o, s.heap.get? b = some o → h₁.get? b = some o := fun b o e => hsb₁.extBut b o (Nat.ne_of_lt (Nat.lt_trans (ltI b o e) ltIC)) (Heap.get?_push_of_some _ (hH2 ▸ Heap.get?_push_of_some _ (hH1 ▸ Heap.get?_push_of_some _ e)))
  have hIit : h₁.IsListIter I l 0 := by
    have e1 : H1.get? I = some { cls := .type "list_iterator", data := .fields #[.ref l, .int 0 0] } := by
      rw [← hH1, ← hI]; exact Heap.get?_push_size _ rfl
    exact ⟨_, hsb₁.extBut I _ (Nat.ne_of_lt ltIC) (Heap.get?_push_of_some _ (hH2 ▸ Heap.get?_push_of_some _ e1)), rfl, rfl⟩
  have hDl : h₁.PlainList D #[] := by
    have e1 : H2.get? D = some { cls := .type "list", dict := none, data := .seq ([] : List Value).toArray } := by
      rw [← hH2, ← hD]; exact Heap.get?_push_size _ rfl
    exact ⟨_, hsb₁.extBut D _ eC1 (Heap.get?_push_of_some _ e1)⟩
  have nb : ∀ b o, s.heap.get? b = some o → b ≠ I ∧ b ≠ C ∧ b ≠ D := fun b o e => ⟨Nat.ne_of_lt (ltI b o e), Nat.ne_of_lt (Nat.lt_trans (ltI b o e) ltIC), Nat.ne_of_lt (Nat.lt_trans (ltI b o e) ltID)⟩
  let Inv : Nat → Shared → Prop := fun k s' => ∃ i h tk m' ys, s' = { s with heap := h, toks := tk } ∧ h.IsListIter I l i ∧ h.PlainList D (List.toArray ys) ∧ h.Ns C m' ∧ (∀ b o, s.heap.get? b = some o → h.get? b = some o) ∧ ys.length = i ∧ (∀ (j : Nat) y, ys[j]? = some y → R j y) ∧ k = items.length + 1 - i ∧ i ≤ items.length
  have loop : ∀ s₃ : Shared, s₃ = { s with heap := h₁, toks := s.toks + ([] : List (Str × Value)).length } →
      codeAny (model prog w) A (.compLoop (.ListComp elt [⟨.Tuple [.Name xa pa, .Name xb pb] kt pt, iter, [], 0⟩] scope pos) 0 (.ref I) (.ref D) (compEnvC scope cl C env)) (compPost (model prog w) A E none Q (.ref D) C) s₃ := by
    rintro s₃ rfl
    refine kcp_loop Inv ?_ (items.length + 1) ⟨0, h₁, _, _, [], rfl, hIit, hDl, hns₁, old, rfl, by simp, rfl, Nat.zero_le _⟩
    rintro k s' ⟨i, h, tk, m', ys, rfl, hit, hpl, hns, hk, hlen, hR, rfl, hin⟩
    have hlh : h.IsList l items.toArray := hls.at fun o e => hk _ o e
    by_cases hlt : i < items.length
    · obtain ⟨hit1, hmem⟩ := ht i hlt
      obtain ⟨va, vb, hvv⟩ := hv2 i hlt
      refine wpAny_pyNext_list_item hit hlh (x := .ref (Ts i)) hit1 fun h₂ hit₂ hs₂ => ?_
      replace hs₂ : Heap.SameBut I h h₂ := hs₂
      have k2 : ∀ b o, b ≠ I → h.get? b = some o → h₂.get? b = some o := fun b o hb e => hs₂.extBut b o hb e
      refine wpAny_letOwnedTupleGo_listiter hit₂ ?_
      have hTi := (N _ hmem).1
      have hT₂ : h₂.IsTuple (Ts i) #[va, vb] := ⟨_, k2 _ _ (nb _ _ hTi).1 (hk _ _ hTi), rfl, _, by rw [hvv]⟩
      refine kcp_assign hh hT₂ (lookup_relabel_local hxa) (lookup_relabel_local hxb) (by simp [compEnvC, relabel, hkind]) (hns.at' fun o e => k2 C o (Nat.ne_of_gt ltIC) e) fun h₃ tk₃ hn₃ hk₃ => ?_
      refine wpAny_mono (helt i va vb C _ _ _ hlt hvv hn₃ (by simp [hab]) (by simp)) (fun y s₄ h₄ => ?_) fun _ _ e => e
      obtain ⟨hy, h₄, tk₄, rfl, hk₄⟩ := h₄
      have k4 : ∀ b o, b ≠ I → b ≠ C → h.get? b = some o → h₄.get? b = some o := fun b o hb hc e => hk₄ b o (hk₃ b o hc (k2 b o hb e))
      obtain ⟨kD, hkD⟩ := hpl
      refine wpAny_list_append_plain (items := ys.toArray) (l := D) ⟨kD, k4 D _ eD.symm eC1 hkD⟩ (fun h₅ hl₅ hs₅ => ?_) (by rw [sizeLine_eq, List.size_toArray]; omega)
      dsimp only at hs₅
      replace hs₅ : Heap.SameBut D h₄ h₅ := hs₅
      have k5 : ∀ b o, b ≠ D → h₄.get? b = some o → h₅.get? b = some o := fun b o hb e => hs₅.extBut b o hb e
      refine ⟨items.length + 1 - (i + 1), by omega, i + 1, h₅, _, _, ys ++ [y], rfl, ?_, ?_, hn₃.at' fun o e => k5 C o eC1.symm (hk₄ _ _ e), fun b o e => k5 b o (nb b o e).2.2 (k4 b o (nb b o e).1 (nb b o e).2.1 (hk b o e)), by simp [hlen], ?_, rfl, hlt⟩
      · obtain ⟨oI, hoI, hc, hd⟩ := hit₂
        exact ⟨oI, k5 I _ eD (hk₄ _ _ (hk₃ I _ (Nat.ne_of_lt ltIC) hoI)), hc, hd⟩
      · rw [← List.push_toArray]
        exact hl₅
      · intro j z hz
        rcases Nat.lt_or_ge j ys.length with hj | hj
        · rw [List.getElem?_append_left hj] at hz
          exact hR j z hz
        · rw [List.getElem?_append_right hj] at hz
          have hj0 : j - ys.length = 0 := by
            cases q : j - ys.length with
            | zero => rfl
            | succ n => rw [q] at hz; simp at hz
          rw [hj0] at hz
          cases hz
          have : j = i := by omega
          exact this ▸ hy
    · have e : i = items.length := by omega
      subst e
      refine wpAny_pyNext_list_end hh hit hlh (by simp) fun h₂ hk₂ => ?_
      refine ⟨m', hns.at' fun o e => hk₂ C o (Nat.ne_of_gt ltIC) e, fun h₃ hs₃ => ?_⟩
      dsimp only at hs₃
      replace hs₃ : Heap.SameBut C h₂ h₃ := hs₃
      have k3 : ∀ b o, b ≠ I → b ≠ C → h.get? b = some o → h₃.get? b = some o := fun b o hb hc e => hs₃.extBut b o hc (hk₂ b o hb e)
      have k4 : ∀ b o, s.heap.get? b = some o → h₃.get? b = some o := fun b o e => k3 b o (nb b o e).1 (nb b o e).2.1 (hk b o e)
      have hDn : h₀.get? D = none := ktu_new F (hI ▸ Nat.le_of_lt ltID)
      obtain ⟨kD, hkD⟩ := hpl
      refine done D kD ys h₃ tk hlen hR ⟨F.ns.at' fun o e => k4 _ _ e, fun b o e => k4 b o (F.keep b o e), F.above⟩ (fun p hp => ?_) fun p hp => (nb _ _ (N p hp).1).2.2
      rcases List.mem_cons.mp hp with h | hp
      · subst h
        exact ⟨k3 D _ eD.symm eC1 hkD, Nat.ne_of_gt (Nat.lt_trans hLs ltID), hDn⟩
      · exact ⟨k4 _ _ (N p hp).1, (N p hp).2⟩
  exact codeAny_compStart_list (loop _ rfl) (wpAny_pyIter_listiter hIit (loop _ rfl))
end
-- LawLib
section
variable {M : Model} {A : Around} {E : Value → Shared → Prop} {s : Shared} {h₀ : Heap} {L a : Addr} {m : Str → Option Value} {cn : Str} {cs : Scope} {ccd : Value} {cl : List (Str × Addr)}
  {x : Str} {v : Value} {Q : Unit → Shared → Prop} {news rest : List (Addr × Obj)} {c : Addr} {o : Obj} {v₀ : Option Value}
theorem store_cell {E : Value → Shared → Prop} (F : Fr h₀ L s.heap m) (N : News h₀ L s.heap news) (hm : (c, o) ∈ news) (hd : o.data = .cell v₀) (hc : cl.lookup x = some c) (hr : ∀ p ∈ rest, p ∈ news ∧ p.1 ≠ c)
    (h : ∀ h' o', Fr h₀ L h' m → News h₀ L h' ((c, o') :: rest) → o'.data = .cell (some v) → Q () { s with heap := h' })
    (hk : cs.kind = .function := by rfl) (hx : (envX cn cs L a ccd cl).kindOf x = some .cell := by rfl) : wpAny M A (storeName (envX cn cs L a ccd cl) x v) Q E s :=
  storeX_C F (fun p hp => by
    rcases List.mem_cons.mp hp with h | hp
    · subst h; exact N _ hm
    · exact N _ (hr _ hp).1) hc (UpdF.head fun p hp => (hr p hp).2) hd h hk hx
end
theorem ints_cons {ys : List Value} {ns : List Int} {n : Nat} (h : IntsAre ys ns) (hl : ys.length = n + 1) : ∃ a t ys' ns', ys = .int a t :: ys' ∧ ns = a :: ns' ∧ IntsAre ys' ns' ∧ ys'.length = n := by
  cases h with
  | nil => simp at hl
  | cons a t h => exact ⟨_, _, _, _, rfl, rfl, h, by simpa using hl⟩
theorem ints_nil {ys : List Value} {ns : List Int} (h : IntsAre ys ns) (hl : ys.length = 0) : ys = [] := List.eq_nil_of_length_eq_zero hl
theorem ints9 {ys : List Value} {ns : List Int} (h : IntsAre ys ns) (hl : ys.length = 9) : ∃ a0 t0 a1 t1 a2 t2 a3 t3 a4 t4 a5 t5 a6 t6 a7 t7 a8 t8,
    ys = [.int a0 t0, .int a1 t1, .int a2 t2, .int a3 t3, .int a4 t4, .int a5 t5, .int a6 t6, .int a7 t7, .int a8 t8] := by
  obtain ⟨a0, t0, y0, n0, rfl, -, h, hl⟩ := ints_cons h hl
  obtain ⟨a1, t1, y1, n1, rfl, -, h, hl⟩ := ints_cons h hl
  obtain ⟨a2, t2, y2, n2, rfl, -, h, hl⟩ := ints_cons h hl
  obtain ⟨a3, t3, y3, n3, rfl, -, h, hl⟩ := ints_cons h hl
  obtain ⟨a4, t4, y4, n4, rfl, -, h, hl⟩ := ints_cons h hl
  obtain ⟨a5, t5, y5, n5, rfl, -, h, hl⟩ := ints_cons h hl
  obtain ⟨a6, t6, y6, n6, rfl, -, h, hl⟩ := ints_cons h hl
  obtain ⟨a7, t7, y7, n7, rfl, -, h, hl⟩ := ints_cons h hl
  obtain ⟨a8, t8, y8, n8, rfl, -, h, hl⟩ := ints_cons h hl
  rw [ints_nil h hl]
  exact ⟨_, _, _, _, _, _, _, _, _, _, _, _, _, _, _, _, _, _, rfl⟩
theorem ints5 {ys : List Value} {ns : List Int} (h : IntsAre ys ns) (hl : ys.length = 5) (hb : ∀ v ∈ ns, -(2 ^ 60) ≤ v ∧ v ≤ 2 ^ 60) : ∃ a0 t0 a1 t1 a2 t2 a3 t3 a4 t4,
    ys = [.int a0 t0, .int a1 t1, .int a2 t2, .int a3 t3, .int a4 t4] ∧ ∀ v ∈ [a0, a1, a2, a3, a4], -(2 ^ 60) ≤ v ∧ v ≤ 2 ^ 60 := by
  obtain ⟨a0, t0, y0, n0, rfl, rfl, h, hl⟩ := ints_cons h hl
  obtain ⟨a1, t1, y1, n1, rfl, rfl, h, hl⟩ := ints_cons h hl
  obtain ⟨a2, t2, y2, n2, rfl, rfl, h, hl⟩ := ints_cons h hl
  obtain ⟨a3, t3, y3, n3, rfl, rfl, h, hl⟩ := ints_cons h hl
  obtain ⟨a4, t4, y4, n4, rfl, rfl, h, hl⟩ := ints_cons h hl
  rw [ints_nil h hl]
  exact ⟨_, _, _, _, _, _, _, _, _, _, rfl, fun v hv => hb v (by simp only [List.mem_cons] at hv ⊢; rcases hv with h | h | h | h | h | h <;> simp_all)⟩
theorem ints_snoc {ys : List Value} {ns : List Int} (h : IntsAre ys ns) (a : Int) (t : Tok) : IntsAre (ys ++ [.int a t]) (ns ++ [a]) := h.append (.cons a t .nil)
-- Spec1
local macro_rules | `(tactic| k_inst) => `(tactic| (refine' instAcc ?N ?h1 ?h2; (case N => k_asm); (case h1 => k_mem); (case h2 => k_mem)))
local macro_rules | `(tactic| k_mem) => `(tactic| first | assumption | exact List.mem_cons_self | (refine' List.mem_cons_of_mem _ ?_; k_mem))
local macro_rules | `(tactic| k_all) => `(tactic| assumption)
local macro_rules | `(tactic| walk_at "S1") => `(tactic| refine' super_slot (.inl rfl) ?F ?X ?N ?i0 ?i1 ?i2 ?a ?b ?c ?d ?_)
theorem words_Spec1_1 : True := by
  k_with_none
  (k_with "own shade" => (have Bₚₗ := True.intro; have Dₚₗ := True.intro; have F9ₗ := True.intro; have FGₚₗ := True.intro; have Fₚₗ := True.intro; have Gₚₗ := True.intro; have Lₚₗ := True.intro; have N9ₗ := True.intro; have Nₚₗ := True.intro; have Sₚₗ := True.intro; have Tₚₗ := True.intro; have Xₚₗ := True.intro; have Yₚₗ := True.intro; have aₗ := True.intro; have bhₚₗ := True.intro; have blₚₗ := True.intro; have bₗ := True.intro; have cellsₚₗ := True.intro; have ctₚₗ := True.intro; have cₚₗ := True.intro; have d1ₚₗ := True.intro; have d2ₚₗ := True.intro; have dcₚₗ := True.intro; have dxₚₗ := True.intro; have dₚₗ := True.intro; have epₚₗ := True.intro; have fsₚₗ := True.intro; have fₚₗ := True.intro; have gE9ₗ := True.intro; have gₚₗ := True.intro; have h9ₗ := True.intro; have hcₚₗ := True.intro; have hkₚₗ := True.intro; have hmₗ := True.intro; have hoₚₗ := True.intro; have hpₗ := True.intro; have hrₚₗ := True.intro; have hshₚₗ := True.intro; have hsₚₗ := True.intro; have ht1ₚₗ := True.intro; have ht2ₚₗ := True.intro; have ht3ₚₗ := True.intro; have ht4ₚₗ := True.intro; have htₚₗ := True.intro; have hvₗ := True.intro; have hₗ := True.intro; have hₚₗ := True.intro; have kₚₗ := True.intro; have l1ₗ := True.intro; have l1ₚₗ := True.intro; have l2ₗ := True.intro; have loₚₗ := True.intro; have nNₗ := True.intro; have nₚₗ := True.intro; have ocₚₗ := True.intro; have oₚₗ := True.intro; have psₚₗ := True.intro; have pₗ := True.intro; have qₗ := True.intro; have qₚₗ := True.intro; have sₚₗ := True.intro; have t1ₗ := True.intro; have t1ₚₗ := True.intro; have t2ₗ := True.intro; have t9ₗ := True.intro; have tcₚₗ := True.intro; have tk9ₗ := True.intro; have tkₚₗ := True.intro; have tvₚₗ := True.intro; have tₚₗ := True.intro; have u1ₚₗ := True.intro; have u2ₚₗ := True.intro; have v1ₚₗ := True.intro; have vsₚₗ := True.intro; have vₗ := True.intro; have vₚₗ := True.intro; have xₚₗ := True.intro))
  (k_with "own bare" => (clear Bₚₗ Dₚₗ F9ₗ FGₚₗ Fₚₗ Gₚₗ Lₚₗ N9ₗ Nₚₗ Sₚₗ Tₚₗ Xₚₗ Yₚₗ aₗ bhₚₗ blₚₗ bₗ cellsₚₗ ctₚₗ cₚₗ d1ₚₗ d2ₚₗ dcₚₗ dxₚₗ dₚₗ epₚₗ fsₚₗ fₚₗ gE9ₗ gₚₗ h9ₗ hcₚₗ hkₚₗ hmₗ hoₚₗ hpₗ hrₚₗ hshₚₗ hsₚₗ ht1ₚₗ ht2ₚₗ ht3ₚₗ ht4ₚₗ htₚₗ hvₗ hₗ hₚₗ kₚₗ l1ₗ l1ₚₗ l2ₗ loₚₗ nNₗ nₚₗ ocₚₗ oₚₗ psₚₗ pₗ qₗ qₚₗ sₚₗ t1ₗ t1ₚₗ t2ₗ t9ₗ tcₚₗ tk9ₗ tkₚₗ tvₚₗ tₚₗ u1ₚₗ u2ₚₗ v1ₚₗ vsₚₗ vₗ vₚₗ xₚₗ))
  (k_with "own getMethod ref" => ((k_here; (with_reducible show wpAny _ _ (getMethod (Value.ref _) (PySem.Str.ofString "append") _) _ _ _); k_dflt (walk_at "R method_biN F X N i1 i2 a b c d e _"; (case F => k_asm); (case X => k_asm); (case N => k_asm); (case i1 => k_mem); (case i2 => k_mem); (case a => k_is); (case b => k_is); (case c => k_is); (case d => k_is); (case e => kernel_rfl); k_whole))))
  (k_with "own call builtin:list.append" => ((k_here; (with_reducible show wpAny _ _ (call (Value.builtin _) [Value.ref _, _]) _ _ _); k_dflt (walk_at "R append_accN F X N i2 a U z _"; (case F => k_asm); (case X => k_asm); (case N => k_asm); (case U => k_upd); (case i2 => k_mem); (case a => k_is); (case z => k_asm); k_whole); intro hₚₗ Fₚₗ Nₚₗ; (try k_sweep))))
  (k_with "own getMethod ref" => ((k_here; (with_reducible show wpAny _ _ (getMethod (Value.ref _) (PySem.Str.ofString "part_count") _) _ _ _); k_dflt (walk_at "R method_fnN F X N i1 i2 a b c d e _"; (case F => k_asm); (case X => k_asm); (case N => k_asm); (case i1 => k_mem); (case i2 => k_mem); (case a => k_is); (case b => k_is); (case c => k_is); (case d => k_is); (case e => kernel_rfl); k_whole))))
  (k_with "own getMethod ref" => ((k_here; (with_reducible show wpAny _ _ (getMethod (Value.ref _) (PySem.Str.ofString "push") _) _ _ _); k_dflt (walk_at "R method_fnN F X N i1 i2 a b c d e _"; (case F => k_asm); (case X => k_asm); (case N => k_asm); (case i1 => k_mem); (case i2 => k_mem); (case a => k_is); (case b => k_is); (case c => k_is); (case d => k_is); (case e => kernel_rfl); k_whole))))
  (k_with "own getMethod ref" => ((k_here; (with_reducible show wpAny _ _ (getMethod (Value.ref _) (PySem.Str.ofString "pop") _) _ _ _); k_dflt (walk_at "R method_fnN F X N i1 i2 a b c d e _"; (case F => k_asm); (case X => k_asm); (case N => k_asm); (case i1 => k_mem); (case i2 => k_mem); (case a => k_is); (case b => k_is); (case c => k_is); (case d => k_is); (case e => kernel_rfl); k_whole))))
  (k_with "own getMethod ref" => ((k_here; (with_reducible show wpAny _ _ (getMethod (Value.ref _) (PySem.Str.ofString "reset") _) _ _ _); k_dflt (walk_at "R method_fnN F X N i1 i2 a b c d e _"; (case F => k_asm); (case X => k_asm); (case N => k_asm); (case i1 => k_mem); (case i2 => k_mem); (case a => k_is); (case b => k_is); (case c => k_is); (case d => k_is); (case e => kernel_rfl); k_whole))))
  (k_with "own getMethod ref" => ((k_here; (with_reducible show wpAny _ _ (getMethod (Value.ref _) (PySem.Str.ofString "__len__") _) _ _ _); k_dflt (walk_at "S1"; (case F => k_asm); (case X => k_asm); (case N => k_asm); (case i0 => k_mem); (case i1 => k_mem); (case i2 => k_mem); (case a => k_is); (case b => ks_is); (case c => k_is); (case d => decide); intro qₚₗ hₚₗ Fₚₗ Nₚₗ l1ₗ; (try k_lt l1ₗ)))))
  (k_with "own getMethod ref" => ((k_here; (with_reducible show wpAny _ _ (getMethod (Value.ref _) (PySem.Str.ofString "pop") _) _ _ _); k_dflt (walk_at "R super_pop F X N i0 i1 i2 a b c d _"; (case F => k_asm); (case X => k_asm); (case N => k_asm); (case i0 => k_mem); (case i1 => k_mem); (case i2 => k_mem); (case a => k_is); (case b => ks_is); (case c => k_is); (case d => decide); intro qₚₗ hₚₗ Fₚₗ Nₚₗ l1ₗ; (try k_lt l1ₗ)))))
  (k_with "own callWith ref" => ((k_here; k_dflt (walk_at "R callWith_bound0 N q b _"; (case N => k_asm); (case q => k_mem); (case b => first | exact .inl rfl | exact .inr rfl); k_whole))))
  (k_with "own call ref" => ((k_here; k_dflt (walk_at "R call_len N q i _"; (case N => k_asm); (case q => k_mem); (case i => k_mem); k_whole))))
  (k_with "own ent_super" => ((walk_at "R ks_code_super k1 k2 k3 k4 k5 kA kF kK k6 k7 k8 k9 kB _ c1 c2 c3 c4"; (case kA => exact rfl); (case kF => exact rfl); (case kK => first | exact rfl | assumption); (case k1 => k_asm); (case k2 => k_asm); (case k3 => k_asm); (case k4 => k_asm); (case k5 => k_asm); (case k6 => k_is); (case k7 => k_is); (case k8 => ktr_room); (case k9 => first | exact BindsTo.of_eq rfl | exact binds_K (by k_in) rfl (by k_is) rfl rfl rfl); (case kB => exact locs rfl); (case c1 => decide); (case c2 => exact rfl); (case c3 => exact rfl); (case c4 => exact rfl); intro gₚₗ Lₚₗ hₚₗ FGₚₗ Fₚₗ Nₚₗ Bₚₗ Xₚₗ Tₚₗ l1ₗ; (try dsimp only); (try k_fold))))
  (k_with "own drop" => (((with_reducible rename News _ _ _ _ => nNₗ); intro pₗ hpₗ; first | exact nNₗ pₗ hpₗ | exact nNₗ pₗ (.tail _ hpₗ) | exact nNₗ pₗ (.tail _ (.tail _ hpₗ)) | exact nNₗ pₗ (.tail _ (.tail _ (.tail _ hpₗ))) | exact nNₗ pₗ (.tail _ (.tail _ (.tail _ (.tail _ hpₗ)))) | exact nNₗ pₗ (.tail _ (.tail _ (.tail _ (.tail _ (.tail _ hpₗ))))))))
  (k_with "own wpAt" => ((k_here; (fail_if_success ks_step "eval Call"); (fail_if_success ks_step "exec Return"); (fail_if_success ks_step "execs cons"); (fail_if_success ks_step "exec If"); (fail_if_success ks_step "attributeBase Call"); dsimp only)))
  (k_with "own wpAt" => ((k_here; ks_step "eval Call"; with_unfolding_all refine ks_wpAt_MethodCall ?_)))
  (k_with "own call ref" => ((k_here; k_dflt (walk_at "R call_pop F X N q i a b c U z _"; (case F => k_asm); (case X => k_asm); (case N => k_asm); (case q => k_mem); (case U => k_upd); (case i => k_mem); (case a => k_is); (case b => kernel_rfl); (case c => k_is); (case z => k_asm); k_whole; intro hₚₗ Fₚₗ Nₚₗ; (try k_sweep)))))
  (k_with "own ent" => ((walk_at "R code_def k1 k2 k3 k4 k5 kA kF kK k6 k7 k8 k9 kB _ c2 c3 c4 c5"; (case kA => exact rfl); (case kF => exact rfl); (case kK => first | exact rfl | assumption); (case k1 => k_asm); (case k2 => k_asm); (case k3 => k_asm); (case k4 => k_asm); (case k5 => k_asm); (case k6 => k_is); (case k7 => k_is); (case k8 => ktr_room); (case k9 => first | exact BindsTo.of_eq rfl | exact binds_K (by k_in) rfl (by k_is) rfl rfl rfl); (case c5 => decide); (case kB => exact locs rfl); (case c2 => exact rfl); (case c3 => exact rfl); (case c4 => exact rfl); k_whole; intro gₚₗ Lₚₗ hₚₗ FGₚₗ Fₚₗ Nₚₗ Bₚₗ Xₚₗ Tₚₗ; (try dsimp only); (try k_fold))))
  trivial
abbrev PR : Program := PySem.Challenge.pw_yh0010_01
theorem words_Spec1_2 : True := by
  (k_with "own setItem ref" => ((k_here; (with_reducible show wpAny _ _ (setItem (Value.ref _) (Value.ref _) (Value.ref _)) _ _ _); k_dflt (dsimp only; walk_at "R setitemN F X N h2 hl yl a b c U z z' _"; (case F => k_asm); (case X => k_asm); (case N => k_asm); (case U => k_updF); (case h2 => k_mem); (case hl => k_mem); (case yl => k_asm); (case a => k_is); (case b => kernel_rfl); (case c => k_is); (case z => k_asm); (case z' => k_asm); intro hₚₗ epₚₗ Fₚₗ Nₚₗ; (try dsimp only [List.nil_append, List.cons_append] at Nₚₗ); (try k_sweep)))))
  (k_with "own setAttr ref" => ((k_here; (with_reducible show wpAny _ _ (setAttr (Value.ref _) (PySem.Str.ofString "_initial_size") _) _ _ _); k_dflt (dsimp only; walk_at "R set_acc F X N h1 a b c U _"; (case F => k_asm); (case X => k_asm); (case N => k_asm); (case h1 => k_mem); (case U => k_updF); (case a => k_is); (case b => kernel_rfl); (case c => kernel_rfl); intro hₚₗ Fₚₗ Nₚₗ; (try dsimp only [List.nil_append, List.cons_append] at Nₚₗ); (try k_sweep)))))
  trivial
theorem count_spec {w : World} {pT : Program} {loose : List Str} {mean : ExcName → Option Value} {mg mb : Str → Option Value}
    {dp un : Nat} {gd : Option (List Code)} {cn : Str} {cs : Scope} {a : Addr} {ccd : Value} {cl : List (Str × Addr)} {outer : List Env} {A₀ : Around} {base h₀ : Heap} {L : Addr} {m : Str → Option Value} {s : Shared}
    {Q E : Value → Shared → Prop} {news : List (Addr × Obj)}
    (B : Below A₀ base outer h₀) (F : Fr h₀ L s.heap m) (X : (pre.heap_1 w.params).In h₀) (T : Top pT loose mean mg mb h₀) (hk : cs.kind = .function)
    {x dx : Addr} {items : Array Value} {ep n : Nat} {hsh : Int} {t0 : Tok} {v0 : Value} (N : News h₀ L s.heap news) (h1 : (x, accObj dx items ep) ∈ news) (h2 : (dx, sizeDict hsh t0 v0 n) ∈ news) (hd1 : dp + 1 < recursionLimit)
    (hret : ∀ h' tk' t, Fr h₀ L h' m → News h₀ L h' news → Q (.int items.size t) { s with heap := h', toks := tk' }) :
    wpAny (model PR w) (ktrTop dp un gd cn cs L a ccd cl outer) (call (.ref 128) [.ref x]) Q E s := by
  refine wpAny_call ?_
  k_dflt (walk_at "ent_super")
  k_steps
  exact hret _ _ _ (by k_asm) (by walk_at "drop")
theorem words_Spec1_3 : True := by
  (k_with "own call ref" => ((k_here; k_dflt (show wpAny _ _ (call (Value.ref 128) [Value.ref _]) _ _ _); k_dflt (walk_at "R count_spec B F X T hk N h1 h2 hd _"; (case B => k_asm); (case F => k_asm); (case X => k_asm); (case T => k_asm); (case hk => first | exact rfl | assumption); (case N => k_asm); (case h1 => k_mem); (case h2 => k_mem); (case hd => ktr_room); intro h9ₗ tk9ₗ t9ₗ F9ₗ N9ₗ; (try dsimp only); (try k_fold)))))
  trivial
theorem pop_spec {w : World} {pT : Program} {loose : List Str} {mean : ExcName → Option Value} {mg mb : Str → Option Value}
    {dp un : Nat} {gd : Option (List Code)} {cn : Str} {cs : Scope} {a : Addr} {ccd : Value} {cl : List (Str × Addr)} {outer : List Env} {A₀ : Around} {base h₀ : Heap} {L : Addr} {m : Str → Option Value} {s : Shared}
    {Q E : Value → Shared → Prop} {news : List (Addr × Obj)}
    (B : Below A₀ base outer h₀) (F : Fr h₀ L s.heap m) (X : (pre.heap_1 w.params).In h₀) (T : Top pT loose mean mg mb h₀) (hk : cs.kind = .function)
    {x dx : Addr} {pre : Array Value} {v : Value} {ep n : Nat} {hsh : Int} {t0 : Tok} {v0 : Value} (N : News h₀ L s.heap ((x, accObj dx (pre.push v) ep) :: (dx, sizeDict hsh t0 v0 n) :: news)) (hd1 : dp + 2 < recursionLimit)
    (hdx : dx ≠ x) (hx : ∀ p ∈ news, p.1 ≠ x) (hz : pre.size ≤ 1000) (hne : ((pre.push v).size : Int) ≠ 0)
    (hret : ∀ h' tk', Fr h₀ L h' m → News h₀ L h' ((x, accObj dx pre (ep + 1)) :: (dx, sizeDict hsh t0 v0 n) :: news) → Q v { s with heap := h', toks := tk' }) :
    wpAny (model PR w) (ktrTop dp un gd cn cs L a ccd cl outer) (call (.ref 91) [.ref x]) Q E s := by
  refine wpAny_call ?_
  k_dflt (walk_at "ent_super")
  k_steps
  · exact absurd (by assumption) hne
  · exact hret _ _ (by k_asm) (by walk_at "drop")
theorem push_spec {w : World} {pT : Program} {loose : List Str} {mean : ExcName → Option Value} {mg mb : Str → Option Value}
    {dp un : Nat} {gd : Option (List Code)} {cn : Str} {cs : Scope} {a : Addr} {ccd : Value} {cl : List (Str × Addr)} {outer : List Env} {A₀ : Around} {base h₀ : Heap} {L : Addr} {m : Str → Option Value} {s : Shared}
    {Q E : Value → Shared → Prop} {x dx : Addr} {items : Array Value} {ep n : Nat} {hsh : Int} {t0 : Tok} {v0 : Value} {f1 f2 : Str} {t1 t2 : Tok} {news : List (Addr × Obj)}
    (B : Below A₀ base outer h₀) (F : Fr h₀ L s.heap m) (X : (pre.heap_1 w.params).In h₀) (N : News h₀ L s.heap ((x, accObj dx items ep) :: (dx, sizeDict hsh t0 v0 n) :: news))
    (T : Top pT loose mean mg mb h₀) (hk : cs.kind = .function) (hd1 : dp + 1 < recursionLimit) (hu : un + 8 < cLine) (hdx : dx ≠ x) (hx : ∀ p ∈ news, p.1 ≠ x) (hz : items.size ≤ 1000)
    (hret : ∀ q h' tk', Fr h₀ L h' m → News h₀ L h' ((q, ({ cls := .type "tuple", data := .seq #[.str f1 t1, .str f2 t2] } : Obj)) :: (x, accObj dx (items.push (.ref q)) (ep+1)) :: (dx, sizeDict hsh t0 v0 n) :: news) → Q .none { s with heap := h', toks := tk' }) :
    wpAny (model PR w) (ktrTop dp un gd cn cs L a ccd cl outer) (call (.ref 75) [.ref x, .str f1 t1, .str f2 t2]) Q E s := by
  refine wpAny_call ?_
  k_dflt ktr_enter
  k_steps
  exact hret _ _ _ (by k_asm) (by walk_at "drop")
theorem reset_spec {w : World} {pT : Program} {loose : List Str} {mean : ExcName → Option Value} {mg mb : Str → Option Value}
    {dp un : Nat} {gd : Option (List Code)} {cn : Str} {cs : Scope} {a : Addr} {ccd : Value} {cl : List (Str × Addr)} {outer : List Env} {A₀ : Around} {base h₀ : Heap} {L : Addr} {m : Str → Option Value} {s : Shared}
    {Q E : Value → Shared → Prop} {news : List (Addr × Obj)}
    (B : Below A₀ base outer h₀) (F : Fr h₀ L s.heap m) (X : (pre.heap_1 w.params).In h₀) (T : Top pT loose mean mg mb h₀) (hk : cs.kind = .function)
    {y dy l : Addr} {items its : Array Value} {ep n k : Nat} {hsh : Int} {t0 : Tok} {v0 : Value} (N : News h₀ L s.heap ((y, accObj dy items ep) :: (dy, sizeDict hsh t0 v0 n) :: news)) (hl : (l, listOf its k) ∈ news) (hd1 : dp + 2 < recursionLimit)
    (hdx : dy ≠ y) (hx : ∀ p ∈ news, p.1 ≠ y) (hx2 : ∀ p ∈ news, p.1 ≠ dy) (hz : its.size ≤ 1000) (hz' : items.size ≤ 1000)
    (hret : ∀ h' tk' t v n' ep', Fr h₀ L h' m → News h₀ L h' ((y, accObj dy its ep') :: (dy, sizeDict hsh t v n') :: news) → Q .none { s with heap := h', toks := tk' }) :
    wpAny (model PR w) (ktrTop dp un gd cn cs L a ccd cl outer) (call (.ref 113) [.ref y, .ref l]) Q E s := by
  have hyl : y ≠ l := fun e => hx _ hl e.symm
  have hdN := neN hdx.symm
  refine wpAny_call ?_
  k_dflt (walk_at "ent")
  k_steps
  exact hret _ _ _ _ _ _ (by k_asm) (by k_asm)
local macro_rules | `(tactic| walk_at "S2") => `(tactic| refine' super_slot (.inr rfl) ?F ?X ?N ?i0 ?i1 ?i2 ?a ?b ?c ?d ?_)
theorem words_Spec1_4 : True := by
  (k_with "own wpAt" => ((k_here; ks_step "exec Expr"; with_unfolding_all refine ks_wpAt_Expr_any ?_)))
  (k_with "own getMethod ref" => ((k_here; (with_reducible show wpAny _ _ (getMethod (Value.ref _) (PySem.Str.ofString "__init__") _) _ _ _); k_dflt (walk_at "S2"; (case F => k_asm); (case X => k_asm); (case N => k_asm); (case i0 => k_mem); (case i1 => k_mem); (case i2 => k_mem); (case a => k_is); (case b => ks_is); (case c => k_is); (case d => decide); intro qₚₗ hₚₗ Fₚₗ Nₚₗ l1ₗ; (try k_lt l1ₗ)))))
  (k_with "own setAttr ref" => ((k_here; (with_reducible show wpAny _ _ (setAttr (Value.ref _) (PySem.Str.ofString "_initial_size") _) _ _ _); k_dflt (dsimp only; walk_at "R set_acc0 F X N h1 a b c U _"; (case F => k_asm); (case X => k_asm); (case N => k_asm); (case h1 => k_mem); (case U => k_updF); (case a => k_is); (case b => kernel_rfl); (case c => kernel_rfl); intro hₚₗ Fₚₗ Nₚₗ; (try dsimp only [List.nil_append, List.cons_append] at Nₚₗ); (try k_sweep)))))
  (k_with "own call ref" => ((k_here; k_dflt (walk_at "R call_init F N q U _"; (case F => k_asm); (case N => k_asm); (case q => k_mem); (case U => k_updF); k_whole; intro hₚₗ epₚₗ Fₚₗ Nₚₗ; (try k_sweep)))))
  trivial
theorem make_spec0 {w : World} {pT : Program} {loose : List Str} {mean : ExcName → Option Value} {mg mb : Str → Option Value}
    {dp un : Nat} {gd : Option (List Code)} {cn : Str} {cs : Scope} {a : Addr} {ccd : Value} {cl : List (Str × Addr)} {outer : List Env} {A₀ : Around} {base h₀ : Heap} {L : Addr} {m : Str → Option Value} {s : Shared}
    {Q E : Value → Shared → Prop} {news : List (Addr × Obj)}
    (B : Below A₀ base outer h₀) (F : Fr h₀ L s.heap m) (X : (pre.heap_1 w.params).In h₀) (N : News h₀ L s.heap news) (T : Top pT loose mean mg mb h₀) (hk : cs.kind = .function) (hd1 : dp + 2 < recursionLimit)
    (hret : ∀ x dx ep hsh t v n h' tk', Fr h₀ L h' m → News h₀ L h' ((x, accObj dx #[] ep) :: (dx, sizeDict hsh t v n) :: news) → (∀ p ∈ news, p.1 < dx) → dx < x → Q (.ref x) { s with heap := h', toks := tk' }) :
    wpAny (model PR w) (ktrTop dp un gd cn cs L a ccd cl outer) (call (.ref 131) []) Q E s := by
  refine wpAny_call (make_L (fI := 68) F N (X.keeps F.keep) (by kernel_rfl) (.inl rfl) (by kernel_rfl) (by kernel_rfl) fun x dx h' F' N' l1 l2 => ?_)
  replace N' : News h₀ L h' ((x, accObj dx #[] 0) :: (dx, dictOf [] 0) :: news) := N'
  have n1 : ∀ p ∈ news, p.1 ≠ dx := fun p hp => Nat.ne_of_lt (l1 p hp)
  have n2 : ∀ p ∈ news, p.1 ≠ x := fun p hp => Nat.ne_of_lt (Nat.lt_trans (l1 p hp) l2)
  have n3 := neN (Nat.ne_of_lt l2)
  clear F N
  k_dflt (walk_at "ent_super")
  k_steps
  exact hret _ _ _ _ _ _ _ _ _ (by k_asm) (by walk_at "drop") l1 l2
theorem make_spec1 {w : World} {pT : Program} {loose : List Str} {mean : ExcName → Option Value} {mg mb : Str → Option Value}
    {dp un : Nat} {gd : Option (List Code)} {cn : Str} {cs : Scope} {a : Addr} {ccd : Value} {cl : List (Str × Addr)} {outer : List Env} {A₀ : Around} {base h₀ : Heap} {L : Addr} {m : Str → Option Value} {s : Shared}
    {Q E : Value → Shared → Prop} {news : List (Addr × Obj)}
    (B : Below A₀ base outer h₀) (F : Fr h₀ L s.heap m) (X : (pre.heap_1 w.params).In h₀) (N : News h₀ L s.heap news) (T : Top pT loose mean mg mb h₀) (hk : cs.kind = .function) (hd1 : dp + 2 < recursionLimit)
    {lead : Int} {tl : Tok} (hret : ∀ x dx ep hsh t n h' tk', Fr h₀ L h' m → News h₀ L h' ((x, accObj dx #[] ep) :: (dx, sizeDict hsh t (.int lead tl) n) :: news) → (∀ p ∈ news, p.1 < dx) → dx < x → Q (.ref x) { s with heap := h', toks := tk' }) :
    wpAny (model PR w) (ktrTop dp un gd cn cs L a ccd cl outer) (call (.ref 131) [.int lead tl]) Q E s := by
  refine wpAny_call (make_L (fI := 68) F N (X.keeps F.keep) (by kernel_rfl) (.inr ⟨_, rfl⟩) (by kernel_rfl) (by kernel_rfl) fun x dx h' F' N' l1 l2 => ?_)
  replace N' : News h₀ L h' ((x, accObj dx #[] 0) :: (dx, dictOf [] 0) :: news) := N'
  have n1 : ∀ p ∈ news, p.1 ≠ dx := fun p hp => Nat.ne_of_lt (l1 p hp)
  have n2 : ∀ p ∈ news, p.1 ≠ x := fun p hp => Nat.ne_of_lt (Nat.lt_trans (l1 p hp) l2)
  have n3 := neN (Nat.ne_of_lt l2)
  clear F N
  k_dflt (walk_at "ent_super")
  k_steps
  exact hret _ _ _ _ _ _ _ _ (by k_asm) (by walk_at "drop") l1 l2
theorem words_Spec1_5 : True := by
  (k_with "own exec For" => ((k_here; refine for_start ?_ (by intro _; rfl))))
  (k_with "own call type:enumerate" => ((k_here; refine stop_here ?_)))
  (k_with "own compareOp Is str str" => ((k_here; walk_at "R is_same F X bₗ c d _"; (case F => k_asm); (case X => k_asm); (case bₗ => kernel_rfl); (case c => assumption); (case d => assumption); (intro bₗ; cases bₗ))))
  (k_with "own compareOp Is str str" => ((k_here; walk_at "R is_diff a b c d _"; (case a => assumption); (case b => assumption); (case c => assumption); (case d => assumption))))
  (k_with "own eval Name" => ((k_here; (with_reducible show wpAny _ _ (eval (PySem.Expr.Name _ _) (envOf _ _ _ _ _)) _ _ _); k_dflt (walk_at "R ld k1 k2 _"; (case k1 => k_asm); (case k2 => first | exact rfl | with_reducible assumption | assumption); k_whole))))
  (k_with "own execs cons" => ((k_here; (with_reducible refine wpAny_execs_cons ?_); try dsimp only)))
  (k_with "own execs nil" => ((k_here; refine wpAny_execs_nil ?_; try dsimp only)))
  trivial
theorem idx_spec {w : World} {pT : Program} {loose : List Str} {mean : ExcName → Option Value} {mg mb : Str → Option Value}
    {dp un : Nat} {gd : Option (List Code)} {cn : Str} {cs : Scope} {a : Addr} {ccd : Value} {cl : List (Str × Addr)} {outer : List Env} {A₀ : Around} {base h₀ : Heap} {L : Addr} {m : Str → Option Value} {s : Shared}
    {Q E : Value → Shared → Prop} {news : List (Addr × Obj)}
    (B : Below A₀ base outer h₀) (F : Fr h₀ L s.heap m) (X : (pre.heap_1 w.params).In h₀) (N : News h₀ L s.heap news) (T : Top pT loose mean mg mb h₀) (hk : cs.kind = .function) (hd1 : dp + 1 < recursionLimit)
    {x : Str} {t1 : Tok} {t2 : Nat} {c k : Nat} (ha : x.cps.all (· < 128) = true) (ht0 : 0 < t2) (ht1 : t2 < s.toks) (hkk : x.cps[k]? = some c) (hlt : ∀ j, j < k → x.cps[j]? ≠ some c)
    (hret : ∀ tv h' tk', Fr h₀ L h' m → News h₀ L h' news → s.toks ≤ tk' → Q (.int k tv) { s with heap := h', toks := tk' }) :
    wpAny (model PR w) (ktrTop dp un gd cn cs L a ccd cl outer) (call (.ref 177) [.str x t1, .str ⟨#[c]⟩ t2]) Q E s := by
  refine wpAny_with_toks (Nat.le_refl _) ?_
  refine wpAny_call ?_
  k_dflt (walk_at "ent")
  refine gen_toks s.toks (Nat.le_add_right _ _) ?_
  intro tk htk
  k_steps
  rename News _ _ _ _ => nN
  rename Fr _ _ _ _ => nF
  unfold Stop
  refine' (enum_led ha ?hh ?hE ?hF ?hN (fun i m₁ n₁ tk => i ≤ k ∧ m₁ "b" = some (.str ⟨#[c]⟩ t2) ∧ n₁ = news ∧ t2 < tk) ?Jm ?h0 ?st ?dn)
  case hh => exact rfl
  case hF => exact nF
  case hN => exact nN
  case hE => first | passes_own | with_unfolding_all passes_own
  case h0 => exact ⟨Nat.zero_le _, rfl, rfl, by dsimp only; omega⟩
  case Jm => exact fun i m₁ n₁ t t' j ht => ⟨j.1, j.2.1, j.2.2.1, Nat.lt_of_lt_of_le j.2.2.2 ht⟩
  case st =>
    clear nN nF
    intro i T' ci u v' ow m₁ news₁ h₁ tk₀ tk₁ wr hci hu hT hj hst htk F₁ N₁ ha hw
    obtain ⟨hik, hb, rfl, htt⟩ := hj
    dsimp only at hst hci hu htk
    have z1 : 0 < t2 := ht0
    have z2 : 0 < u := by omega
    have z3 : u ≠ t2 := by intro h; omega
    by_cases hcc : ci = c
    · subst hcc
      have hii : i = k := by
        rcases Nat.lt_or_ge i k with h | h
        · exact absurd hci (hlt i h)
        · omega
      subst hii
      k_steps
      all_goals first
        | exact absurd (by assumption : ((⟨#[ci]⟩ : Str) == ⟨#[ci]⟩) = false) (by simp)
        | (rename News _ _ _ _ => nZ; exact hret _ _ _ (by k_asm) (fun p hp => nZ p (List.mem_append_left _ hp)) (by assumption))
    · have hne : (⟨#[ci]⟩ : Str) ≠ ⟨#[c]⟩ := by intro e; injection e with e; simp at e; exact hcc e
      k_steps
      · exact absurd (eq_of_beq (by assumption)) hne
      · have hik' : i ≠ k := fun e => hcc (by subst e; exact Option.some.inj (hci.symm.trans hkk))
        rename Fr _ _ _ _ => fZ
        exact Back.intro fZ (by assumption) ha (by dsimp only; omega) ⟨by omega, hb, rfl, by omega⟩
  case dn =>
    rintro m₁ news₁ h₁ tk₁ ⟨hj, -⟩
    have : k < x.cps.size := by
      rcases Nat.lt_or_ge k x.cps.size with h | h
      · exact h
      · rw [Array.getElem?_eq_none h] at hkk; cases hkk
    omega
theorem words_Spec1_6 : True := by
  (k_with "own subscriptTail" => ((k_here; (with_reducible show wpAny _ _ (subscriptTail _ _ (Value.ref _) (Value.int _ _)) _ _ _); k_dflt (walk_at "R item_tupleL l a b c d _"; (case l => exact News.isTup (by k_asm) (by k_mem)); (case a => first | decide | omega); (case b => first | decide | omega); (case c => first | rfl | assumption | decide); (case d => first | rfl | assumption | simp); k_whole))))
  (k_with "own subscriptTail" => ((k_here; (with_reducible show wpAny _ _ (subscriptTail _ _ (Value.ref _) (Value.int _ _)) _ _ _); k_dflt (walk_at "R item_listL l a b d _"; (case l => exact News.isList (by k_asm) (by k_mem)); (case a => first | decide | omega | assumption); (case b => first | decide | omega | assumption); (case d => first | rfl | assumption | simp); k_whole))))
  trivial
theorem item_str {w : World} {pT : Program} {loose : List Str} {mean : ExcName → Option Value} {mg mb : Str → Option Value}
    {dp un : Nat} {gd : Option (List Code)} {cn : Str} {cs : Scope} {a : Addr} {ccd : Value} {cl : List (Str × Addr)} {outer : List Env} {A₀ : Around} {base h₀ : Heap} {L : Addr} {m : Str → Option Value} {s : Shared}
    {Q E : Value → Shared → Prop} {news : List (Addr × Obj)}
    (B : Below A₀ base outer h₀) (F : Fr h₀ L s.heap m) (X : (pre.heap_1 w.params).In h₀) (N : News h₀ L s.heap news) (T : Top pT loose mean mg mb h₀) (hk : cs.kind = .function) (hd1 : dp + 1 < recursionLimit)
    {x : Str} {i : Int} {t1 t2 : Tok} (hi0 : 0 ≤ i) (hi1 : i < x.length) (hx : x.length ≤ 1000)
    (hret : ∀ (tv : Nat) h' tk', Fr h₀ L h' m → News h₀ L h' news → s.toks ≤ tv → tv < tk' → Q (.str (Txt.item x i) tv) { s with heap := h', toks := tk' }) :
    wpAny (model PR w) (ktrTop dp un gd cn cs L a ccd cl outer) (call (.ref 170) [.str x t1, .int i t2]) Q E s := by
  refine wpAny_call ?_
  k_dflt (walk_at "ent")
  refine gen_toks s.toks (Nat.le_add_right _ _) ?_
  intro tk htk
  k_steps
  exact hret _ _ _ (by k_asm) (by k_asm) (by omega) (by omega)
theorem get_list {w : World} {pT : Program} {loose : List Str} {mean : ExcName → Option Value} {mg mb : Str → Option Value}
    {dp un : Nat} {gd : Option (List Code)} {cn : Str} {cs : Scope} {a : Addr} {ccd : Value} {cl : List (Str × Addr)} {outer : List Env} {A₀ : Around} {base h₀ : Heap} {L : Addr} {m : Str → Option Value} {s : Shared}
    {Q E : Value → Shared → Prop} {news : List (Addr × Obj)}
    (B : Below A₀ base outer h₀) (F : Fr h₀ L s.heap m) (X : (pre.heap_1 w.params).In h₀) (N : News h₀ L s.heap news) (T : Top pT loose mean mg mb h₀) (hk : cs.kind = .function) (hd1 : dp + 1 < recursionLimit)
    {l : Addr} {its : List Value} {k : Nat} {i : Int} {v : Value} {t2 : Tok} (hl : (l, listOf its.toArray k) ∈ news) (hi0 : 0 ≤ i) (hi1 : i < 2 ^ 63) (hv : its[i.toNat]? = some v)
    (hret : ∀ h' tk', Fr h₀ L h' m → News h₀ L h' news → s.toks ≤ tk' → Q v { s with heap := h', toks := tk' }) :
    wpAny (model PR w) (ktrTop dp un gd cn cs L a ccd cl outer) (call (.ref 170) [.ref l, .int i t2]) Q E s := by
  refine wpAny_with_toks (Nat.le_refl _) ?_
  refine wpAny_call ?_
  k_dflt (walk_at "ent")
  refine gen_toks s.toks (Nat.le_add_right _ _) ?_
  intro tk htk
  k_steps
  exact hret _ _ (by k_asm) (by k_asm) (by assumption)
theorem get_tup {w : World} {pT : Program} {loose : List Str} {mean : ExcName → Option Value} {mg mb : Str → Option Value}
    {dp un : Nat} {gd : Option (List Code)} {cn : Str} {cs : Scope} {a : Addr} {ccd : Value} {cl : List (Str × Addr)} {outer : List Env} {A₀ : Around} {base h₀ : Heap} {L : Addr} {m : Str → Option Value} {s : Shared}
    {Q E : Value → Shared → Prop} {news : List (Addr × Obj)}
    (B : Below A₀ base outer h₀) (F : Fr h₀ L s.heap m) (X : (pre.heap_1 w.params).In h₀) (N : News h₀ L s.heap news) (T : Top pT loose mean mg mb h₀) (hk : cs.kind = .function) (hd1 : dp + 1 < recursionLimit)
    {l : Addr} {its : List Value} {v : Value} {i : Int} {j : Nat} {t2 : Tok} (hl : (l, ({ cls := .type "tuple", data := .seq its.toArray } : Obj)) ∈ news) (hi0 : -(2 ^ 63) ≤ i) (hi1 : i < 2 ^ 63) (hj : seqIndex? i its.length = some j) (hv : its[j]? = some v)
    (hret : ∀ h' tk', Fr h₀ L h' m → News h₀ L h' news → s.toks ≤ tk' → Q v { s with heap := h', toks := tk' }) :
    wpAny (model PR w) (ktrTop dp un gd cn cs L a ccd cl outer) (call (.ref 170) [.ref l, .int i t2]) Q E s := by
  refine wpAny_with_toks (Nat.le_refl _) ?_
  refine wpAny_call ?_
  k_dflt (walk_at "ent")
  refine gen_toks s.toks (Nat.le_add_right _ _) ?_
  intro tk htk
  k_steps
  exact hret _ _ (by k_asm) (by k_asm) (by assumption)
theorem led_split {h₀ h : Heap} {L x : Addr} {o : Obj} {news : List (Addr × Obj)} {G : Obj → List (Addr × Obj)} (N : News h₀ L h news) (U : UpdF x o news G) : ∃ r : List (Addr × Obj), (∀ p ∈ r, p.1 ≠ x) ∧ (∀ p ∈ news, p = (x, o) ∨ p ∈ r) ∧ News h₀ L h ((x, o) :: r) ∧ (∀ p ∈ r, p ∈ news) ∧ ∀ o' p, p ∈ G o' → p = (x, o') ∨ p ∈ r := by
  obtain ⟨a', b', rfl, eG, a, b⟩ := U.split
  refine ⟨a' ++ b', fun p hp => (List.mem_append.mp hp).elim (a p) (b p), fun p hp => ?_, fun p hp => N p ?_, fun p hp => ?_, fun o' p hp => ?_⟩
  · rcases List.mem_append.mp hp with h | h
    · exact .inr (List.mem_append_left _ h)
    · rcases List.mem_cons.mp h with h | h
      · exact .inl h
      · exact .inr (List.mem_append_right _ h)
  · rcases List.mem_cons.mp hp with h | h
    · subst h; exact List.mem_append_right _ (List.mem_cons_self ..)
    · rcases List.mem_append.mp h with h | h
      · exact List.mem_append_left _ h
      · exact List.mem_append_right _ (List.mem_cons_of_mem _ h)
  · rcases List.mem_append.mp hp with h | h
    · exact List.mem_append_left _ h
    · exact List.mem_append_right _ (List.mem_cons_of_mem _ h)
  · rw [eG] at hp
    rcases List.mem_append.mp hp with h | h
    · exact .inr (List.mem_append_left _ h)
    · rcases List.mem_cons.mp h with h | h
      · exact .inl h
      · exact .inr (List.mem_append_right _ h)
theorem push_U {w : World} {pT : Program} {loose : List Str} {mean : ExcName → Option Value} {mg mb : Str → Option Value}
    {dp un : Nat} {gd : Option (List Code)} {cn : Str} {cs : Scope} {a : Addr} {ccd : Value} {cl : List (Str × Addr)} {outer : List Env} {A₀ : Around} {base h₀ : Heap} {L : Addr} {m : Str → Option Value} {s : Shared}
    {Q E : Value → Shared → Prop} {news : List (Addr × Obj)}
    (B : Below A₀ base outer h₀) (F : Fr h₀ L s.heap m) (X : (pre.heap_1 w.params).In h₀) (T : Top pT loose mean mg mb h₀) (hk : cs.kind = .function) {x dx : Addr} {items : Array Value} {ep n : Nat} {hsh : Int} {t0 : Tok} {v0 : Value} {f1 f2 : Str} {t1 t2 : Tok} {G : Obj → List (Addr × Obj)}
    (N : News h₀ L s.heap news) (h2 : (dx, sizeDict hsh t0 v0 n) ∈ news) (hd1 : dp + 1 < recursionLimit) (hu : un + 8 < cLine) (hdx : dx ≠ x) (U : UpdF x (accObj dx items ep) news G) (hz : items.size ≤ 1000)
    (hret : ∀ q h' tk', Fr h₀ L h' m → News h₀ L h' ((q, tupObj f1 t1 f2 t2) :: G (accObj dx (items.push (.ref q)) (ep+1))) → s.toks ≤ tk' → Q .none { s with heap := h', toks := tk' }) :
    wpAny (model PR w) (ktrTop dp un gd cn cs L a ccd cl outer) (call (.ref 75) [.ref x, .str f1 t1, .str f2 t2]) Q E s := by
  obtain ⟨r, r1, r2, N1, r3, r4⟩ := led_split N U
  have h2' : (dx, sizeDict hsh t0 v0 n) ∈ r := (r2 _ h2).resolve_left fun e => hdx (congrArg Prod.fst e)
  refine wpAny_with_toks (Nat.le_refl _) (push_spec (ep := ep) (n := n) (hsh := hsh) (t0 := t0) (v0 := v0) B F X (news := r) (fun p hp => ?_) T hk hd1 hu hdx r1 hz fun q h' tk' F' N' ht => hret q h' tk' F' (fun p hp => ?_) ht)
  · rcases List.mem_cons.mp hp with h | h
    · subst h; exact N1 _ (List.mem_cons_self ..)
    · rcases List.mem_cons.mp h with h | h
      · subst h; exact N1 _ (List.mem_cons_of_mem _ h2')
      · exact N1 _ (List.mem_cons_of_mem _ h)
  · rcases List.mem_cons.mp hp with h | h
    · subst h; exact N' _ (List.mem_cons_self ..)
    · rcases r4 _ _ h with h | h
      · subst h; exact N' _ (List.mem_cons_of_mem _ (List.mem_cons_self ..))
      · exact N' _ (List.mem_cons_of_mem _ (List.mem_cons_of_mem _ (List.mem_cons_of_mem _ h)))
theorem pop_U {w : World} {pT : Program} {loose : List Str} {mean : ExcName → Option Value} {mg mb : Str → Option Value}
    {dp un : Nat} {gd : Option (List Code)} {cn : Str} {cs : Scope} {a : Addr} {ccd : Value} {cl : List (Str × Addr)} {outer : List Env} {A₀ : Around} {base h₀ : Heap} {L : Addr} {m : Str → Option Value} {s : Shared}
    {Q E : Value → Shared → Prop} {news : List (Addr × Obj)}
    (B : Below A₀ base outer h₀) (F : Fr h₀ L s.heap m) (X : (pre.heap_1 w.params).In h₀) (T : Top pT loose mean mg mb h₀) (hk : cs.kind = .function) {x dx : Addr} {pre : Array Value} {v : Value} {ep n : Nat} {hsh : Int} {t0 : Tok} {v0 : Value} {G : Obj → List (Addr × Obj)}
    (N : News h₀ L s.heap news) (h2 : (dx, sizeDict hsh t0 v0 n) ∈ news) (hd1 : dp + 2 < recursionLimit) (hdx : dx ≠ x) (U : UpdF x (accObj dx (pre.push v) ep) news G) (hz : pre.size ≤ 1000)
    (hret : ∀ h' tk', Fr h₀ L h' m → News h₀ L h' (G (accObj dx pre (ep + 1))) → s.toks ≤ tk' → Q v { s with heap := h', toks := tk' }) :
    wpAny (model PR w) (ktrTop dp un gd cn cs L a ccd cl outer) (call (.ref 91) [.ref x]) Q E s := by
  obtain ⟨r, r1, r2, N1, r3, r4⟩ := led_split N U
  have h2' : (dx, sizeDict hsh t0 v0 n) ∈ r := (r2 _ h2).resolve_left fun e => hdx (congrArg Prod.fst e)
  refine wpAny_with_toks (Nat.le_refl _) (pop_spec (v := v) (pre := pre) (ep := ep) (n := n) (hsh := hsh) (t0 := t0) (v0 := v0) B F X T hk (news := r) (fun p hp => ?_) hd1 hdx r1 hz (by rw [Array.size_push]; omega) fun h' tk' F' N' ht => hret h' tk' F' (fun p hp => ?_) ht)
  · rcases List.mem_cons.mp hp with h | h
    · subst h; exact N1 _ (List.mem_cons_self ..)
    · rcases List.mem_cons.mp h with h | h
      · subst h; exact N1 _ (List.mem_cons_of_mem _ h2')
      · exact N1 _ (List.mem_cons_of_mem _ h)
  · rcases r4 _ _ hp with h | h
    · subst h; exact N' _ (List.mem_cons_self ..)
    · exact N' _ (List.mem_cons_of_mem _ (List.mem_cons_of_mem _ h))
theorem count_U {w : World} {pT : Program} {loose : List Str} {mean : ExcName → Option Value} {mg mb : Str → Option Value}
    {dp un : Nat} {gd : Option (List Code)} {cn : Str} {cs : Scope} {a : Addr} {ccd : Value} {cl : List (Str × Addr)} {outer : List Env} {A₀ : Around} {base h₀ : Heap} {L : Addr} {m : Str → Option Value} {s : Shared}
    {Q E : Value → Shared → Prop} {news : List (Addr × Obj)}
    (B : Below A₀ base outer h₀) (F : Fr h₀ L s.heap m) (X : (pre.heap_1 w.params).In h₀) (T : Top pT loose mean mg mb h₀) (hk : cs.kind = .function) {x dx : Addr} {items : Array Value} {ep n : Nat} {hsh : Int} {t0 : Tok} {v0 : Value} (N : News h₀ L s.heap news) (h1 : (x, accObj dx items ep) ∈ news) (h2 : (dx, sizeDict hsh t0 v0 n) ∈ news) (hd1 : dp + 1 < recursionLimit)
    (hret : ∀ h' tk' t, Fr h₀ L h' m → News h₀ L h' news → s.toks ≤ tk' → Q (.int items.size t) { s with heap := h', toks := tk' }) :
    wpAny (model PR w) (ktrTop dp un gd cn cs L a ccd cl outer) (call (.ref 128) [.ref x]) Q E s :=
  wpAny_with_toks (Nat.le_refl _) (count_spec B F X T hk N h1 h2 hd1 fun h' tk' t F' N' ht => hret h' tk' t F' N' ht)
theorem make_U0 {w : World} {pT : Program} {loose : List Str} {mean : ExcName → Option Value} {mg mb : Str → Option Value}
    {dp un : Nat} {gd : Option (List Code)} {cn : Str} {cs : Scope} {a : Addr} {ccd : Value} {cl : List (Str × Addr)} {outer : List Env} {A₀ : Around} {base h₀ : Heap} {L : Addr} {m : Str → Option Value} {s : Shared}
    {Q E : Value → Shared → Prop} {news : List (Addr × Obj)}
    (B : Below A₀ base outer h₀) (F : Fr h₀ L s.heap m) (X : (pre.heap_1 w.params).In h₀) (T : Top pT loose mean mg mb h₀) (hk : cs.kind = .function) (N : News h₀ L s.heap news) (hd1 : dp + 2 < recursionLimit)
    (hret : ∀ x dx ep hsh t v n h' tk', Fr h₀ L h' m → News h₀ L h' ((x, accObj dx #[] ep) :: (dx, sizeDict hsh t v n) :: news) → (∀ p ∈ news, p.1 < dx) → dx < x → s.toks ≤ tk' → Q (.ref x) { s with heap := h', toks := tk' }) :
    wpAny (model PR w) (ktrTop dp un gd cn cs L a ccd cl outer) (call (.ref 131) []) Q E s :=
  wpAny_with_toks (Nat.le_refl _) (make_spec0 B F X N T hk hd1 fun x dx ep hsh t v n h' tk' F' N' a b ht => hret x dx ep hsh t v n h' tk' F' N' a b ht)
theorem make_U1 {w : World} {pT : Program} {loose : List Str} {mean : ExcName → Option Value} {mg mb : Str → Option Value}
    {dp un : Nat} {gd : Option (List Code)} {cn : Str} {cs : Scope} {a : Addr} {ccd : Value} {cl : List (Str × Addr)} {outer : List Env} {A₀ : Around} {base h₀ : Heap} {L : Addr} {m : Str → Option Value} {s : Shared}
    {Q E : Value → Shared → Prop} {news : List (Addr × Obj)}
    (B : Below A₀ base outer h₀) (F : Fr h₀ L s.heap m) (X : (pre.heap_1 w.params).In h₀) (T : Top pT loose mean mg mb h₀) (hk : cs.kind = .function) (N : News h₀ L s.heap news) (hd1 : dp + 2 < recursionLimit) {lead : Int} {tl : Tok}
    (hret : ∀ x dx ep hsh t n h' tk', Fr h₀ L h' m → News h₀ L h' ((x, accObj dx #[] ep) :: (dx, sizeDict hsh t (.int lead tl) n) :: news) → (∀ p ∈ news, p.1 < dx) → dx < x → s.toks ≤ tk' → Q (.ref x) { s with heap := h', toks := tk' }) :
    wpAny (model PR w) (ktrTop dp un gd cn cs L a ccd cl outer) (call (.ref 131) [.int lead tl]) Q E s :=
  wpAny_with_toks (Nat.le_refl _) (make_spec1 B F X N T hk hd1 fun x dx ep hsh t n h' tk' F' N' a b ht => hret x dx ep hsh t n h' tk' F' N' a b ht)
theorem reset_U {w : World} {pT : Program} {loose : List Str} {mean : ExcName → Option Value} {mg mb : Str → Option Value}
    {dp un : Nat} {gd : Option (List Code)} {cn : Str} {cs : Scope} {a : Addr} {ccd : Value} {cl : List (Str × Addr)} {outer : List Env} {A₀ : Around} {base h₀ : Heap} {L : Addr} {m : Str → Option Value} {s : Shared}
    {Q E : Value → Shared → Prop} {news : List (Addr × Obj)}
    (B : Below A₀ base outer h₀) (F : Fr h₀ L s.heap m) (X : (pre.heap_1 w.params).In h₀) (T : Top pT loose mean mg mb h₀) (hk : cs.kind = .function) {y dy l : Addr} {items its : Array Value} {ep n k : Nat} {hsh : Int} {t0 : Tok} {v0 : Value} (N : News h₀ L s.heap ((y, accObj dy items ep) :: (dy, sizeDict hsh t0 v0 n) :: news)) (hl : (l, listOf its k) ∈ news) (hd1 : dp + 2 < recursionLimit)
    (hdx : dy ≠ y) (hx : ∀ p ∈ news, p.1 ≠ y) (hx2 : ∀ p ∈ news, p.1 ≠ dy) (hz : its.size ≤ 1000) (hz' : items.size ≤ 1000)
    (hret : ∀ h' tk' t v n' ep', Fr h₀ L h' m → News h₀ L h' ((y, accObj dy its ep') :: (dy, sizeDict hsh t v n') :: news) → s.toks ≤ tk' → Q .none { s with heap := h', toks := tk' }) :
    wpAny (model PR w) (ktrTop dp un gd cn cs L a ccd cl outer) (call (.ref 113) [.ref y, .ref l]) Q E s :=
  wpAny_with_toks (Nat.le_refl _) (reset_spec B F X T hk N hl hd1 hdx hx hx2 hz hz' fun h' tk' t v n' ep' F' N' ht => hret h' tk' t v n' ep' F' N' ht)
theorem fmod2 (n : Nat) : ((n : Int).fmod 2) = 0 ∨ ((n : Int).fmod 2) = 1 := by
  rw [Int.fmod_eq_emod_of_nonneg _ (by decide)]; omega
theorem get_pair {w : World} {pT : Program} {loose : List Str} {mean : ExcName → Option Value} {mg mb : Str → Option Value}
    {dp un : Nat} {gd : Option (List Code)} {cn : Str} {cs : Scope} {a : Addr} {ccd : Value} {cl : List (Str × Addr)} {outer : List Env} {A₀ : Around} {base h₀ : Heap} {L : Addr} {m : Str → Option Value} {s : Shared}
    {Q E : Value → Shared → Prop} {news : List (Addr × Obj)}
    (B : Below A₀ base outer h₀) (F : Fr h₀ L s.heap m) (X : (pre.heap_1 w.params).In h₀) (T : Top pT loose mean mg mb h₀) (hk : cs.kind = .function) {l : Addr} {v : Value} {i : Int} {t2 : Tok} (N : News h₀ L s.heap news) (hd1 : dp + 1 < recursionLimit) (hl : (l, ({ cls := .type "tuple", data := .seq #[v, v] } : Obj)) ∈ news) (hi : i = 0 ∨ i = 1)
    (hret : ∀ h' tk', Fr h₀ L h' m → News h₀ L h' news → s.toks ≤ tk' → Q v { s with heap := h', toks := tk' }) :
    wpAny (model PR w) (ktrTop dp un gd cn cs L a ccd cl outer) (call (.ref 170) [.ref l, .int i t2]) Q E s := by
  rcases hi with rfl | rfl
  · exact get_tup (its := [v, v]) (j := 0) B F X N T hk hd1 hl (by decide) (by decide) rfl rfl hret
  · exact get_tup (its := [v, v]) (j := 1) B F X N T hk hd1 hl (by decide) (by decide) rfl rfl hret
-- Small
local macro_rules | `(tactic| walk_at "S3") => `(tactic| refine' super_slot (.inl rfl) ?F ?X ?N ?i0 ?i1 ?i2 ?a ?b ?c ?d ?_)
theorem words_Small_1 : True := by
  k_with_none
  (k_with "own shade" => (have Bₚₗ := True.intro; have Dₚₗ := True.intro; have F9ₗ := True.intro; have FGₚₗ := True.intro; have Fₚₗ := True.intro; have Gₚₗ := True.intro; have Lₚₗ := True.intro; have N9ₗ := True.intro; have Nₚₗ := True.intro; have Sₚₗ := True.intro; have Tₚₗ := True.intro; have Xₚₗ := True.intro; have Yₚₗ := True.intro; have aₗ := True.intro; have bhₚₗ := True.intro; have blₚₗ := True.intro; have bₗ := True.intro; have cellsₚₗ := True.intro; have ctₚₗ := True.intro; have cₚₗ := True.intro; have d1ₚₗ := True.intro; have d2ₚₗ := True.intro; have dcₚₗ := True.intro; have dxₚₗ := True.intro; have dₚₗ := True.intro; have epₚₗ := True.intro; have fsₚₗ := True.intro; have fₚₗ := True.intro; have gE9ₗ := True.intro; have gₚₗ := True.intro; have h9ₗ := True.intro; have hcₚₗ := True.intro; have hkₚₗ := True.intro; have hmₗ := True.intro; have hoₚₗ := True.intro; have hpₗ := True.intro; have hrₚₗ := True.intro; have hshₚₗ := True.intro; have hsₚₗ := True.intro; have ht1ₚₗ := True.intro; have ht2ₚₗ := True.intro; have ht3ₚₗ := True.intro; have ht4ₚₗ := True.intro; have htₚₗ := True.intro; have hvₗ := True.intro; have hₗ := True.intro; have hₚₗ := True.intro; have kₚₗ := True.intro; have l1ₗ := True.intro; have l1ₚₗ := True.intro; have l2ₗ := True.intro; have loₚₗ := True.intro; have nNₗ := True.intro; have nₚₗ := True.intro; have ocₚₗ := True.intro; have oₚₗ := True.intro; have psₚₗ := True.intro; have pₗ := True.intro; have qₗ := True.intro; have qₚₗ := True.intro; have sₚₗ := True.intro; have t1ₗ := True.intro; have t1ₚₗ := True.intro; have t2ₗ := True.intro; have t9ₗ := True.intro; have tcₚₗ := True.intro; have tk9ₗ := True.intro; have tkₚₗ := True.intro; have tvₚₗ := True.intro; have tₚₗ := True.intro; have u1ₚₗ := True.intro; have u2ₚₗ := True.intro; have v1ₚₗ := True.intro; have vsₚₗ := True.intro; have vₗ := True.intro; have vₚₗ := True.intro; have xₚₗ := True.intro))
  (k_with "own bare" => (clear Bₚₗ Dₚₗ F9ₗ FGₚₗ Fₚₗ Gₚₗ Lₚₗ N9ₗ Nₚₗ Sₚₗ Tₚₗ Xₚₗ Yₚₗ aₗ bhₚₗ blₚₗ bₗ cellsₚₗ ctₚₗ cₚₗ d1ₚₗ d2ₚₗ dcₚₗ dxₚₗ dₚₗ epₚₗ fsₚₗ fₚₗ gE9ₗ gₚₗ h9ₗ hcₚₗ hkₚₗ hmₗ hoₚₗ hpₗ hrₚₗ hshₚₗ hsₚₗ ht1ₚₗ ht2ₚₗ ht3ₚₗ ht4ₚₗ htₚₗ hvₗ hₗ hₚₗ kₚₗ l1ₗ l1ₚₗ l2ₗ loₚₗ nNₗ nₚₗ ocₚₗ oₚₗ psₚₗ pₗ qₗ qₚₗ sₚₗ t1ₗ t1ₚₗ t2ₗ t9ₗ tcₚₗ tk9ₗ tkₚₗ tvₚₗ tₚₗ u1ₚₗ u2ₚₗ v1ₚₗ vsₚₗ vₗ vₚₗ xₚₗ))
  (k_with "own getMethod ref" => ((k_here; (with_reducible show wpAny _ _ (getMethod (Value.ref _) (PySem.Str.ofString "append") _) _ _ _); k_dflt (walk_at "R method_biN F X N i1 i2 a b c d e _"; (case F => k_asm); (case X => k_asm); (case N => k_asm); (case i1 => k_mem); (case i2 => k_mem); (case a => k_is); (case b => k_is); (case c => k_is); (case d => k_is); (case e => kernel_rfl); k_whole))))
  (k_with "own call builtin:list.append" => ((k_here; (with_reducible show wpAny _ _ (call (Value.builtin _) [Value.ref _, _]) _ _ _); k_dflt (walk_at "R append_accN F X N i2 a U z _"; (case F => k_asm); (case X => k_asm); (case N => k_asm); (case U => k_upd); (case i2 => k_mem); (case a => k_is); (case z => k_asm); k_whole); intro hₚₗ Fₚₗ Nₚₗ; (try k_sweep))))
  (k_with "own getMethod ref" => ((k_here; (with_reducible show wpAny _ _ (getMethod (Value.ref _) (PySem.Str.ofString "part_count") _) _ _ _); k_dflt (walk_at "R method_fnN F X N i1 i2 a b c d e _"; (case F => k_asm); (case X => k_asm); (case N => k_asm); (case i1 => k_mem); (case i2 => k_mem); (case a => k_is); (case b => k_is); (case c => k_is); (case d => k_is); (case e => kernel_rfl); k_whole))))
  (k_with "own getMethod ref" => ((k_here; (with_reducible show wpAny _ _ (getMethod (Value.ref _) (PySem.Str.ofString "push") _) _ _ _); k_dflt (walk_at "R method_fnN F X N i1 i2 a b c d e _"; (case F => k_asm); (case X => k_asm); (case N => k_asm); (case i1 => k_mem); (case i2 => k_mem); (case a => k_is); (case b => k_is); (case c => k_is); (case d => k_is); (case e => kernel_rfl); k_whole))))
  (k_with "own getMethod ref" => ((k_here; (with_reducible show wpAny _ _ (getMethod (Value.ref _) (PySem.Str.ofString "pop") _) _ _ _); k_dflt (walk_at "R method_fnN F X N i1 i2 a b c d e _"; (case F => k_asm); (case X => k_asm); (case N => k_asm); (case i1 => k_mem); (case i2 => k_mem); (case a => k_is); (case b => k_is); (case c => k_is); (case d => k_is); (case e => kernel_rfl); k_whole))))
  (k_with "own getMethod ref" => ((k_here; (with_reducible show wpAny _ _ (getMethod (Value.ref _) (PySem.Str.ofString "reset") _) _ _ _); k_dflt (walk_at "R method_fnN F X N i1 i2 a b c d e _"; (case F => k_asm); (case X => k_asm); (case N => k_asm); (case i1 => k_mem); (case i2 => k_mem); (case a => k_is); (case b => k_is); (case c => k_is); (case d => k_is); (case e => kernel_rfl); k_whole))))
  (k_with "own getMethod ref" => ((k_here; (with_reducible show wpAny _ _ (getMethod (Value.ref _) (PySem.Str.ofString "__len__") _) _ _ _); k_dflt (walk_at "S3"; (case F => k_asm); (case X => k_asm); (case N => k_asm); (case i0 => k_mem); (case i1 => k_mem); (case i2 => k_mem); (case a => k_is); (case b => ks_is); (case c => k_is); (case d => decide); intro qₚₗ hₚₗ Fₚₗ Nₚₗ l1ₗ; (try k_lt l1ₗ)))))
  (k_with "own getMethod ref" => ((k_here; (with_reducible show wpAny _ _ (getMethod (Value.ref _) (PySem.Str.ofString "pop") _) _ _ _); k_dflt (walk_at "R super_pop F X N i0 i1 i2 a b c d _"; (case F => k_asm); (case X => k_asm); (case N => k_asm); (case i0 => k_mem); (case i1 => k_mem); (case i2 => k_mem); (case a => k_is); (case b => ks_is); (case c => k_is); (case d => decide); intro qₚₗ hₚₗ Fₚₗ Nₚₗ l1ₗ; (try k_lt l1ₗ)))))
  (k_with "own callWith ref" => ((k_here; k_dflt (walk_at "R callWith_bound0 N q b _"; (case N => k_asm); (case q => k_mem); (case b => first | exact .inl rfl | exact .inr rfl); k_whole))))
  (k_with "own call ref" => ((k_here; k_dflt (walk_at "R call_len N q i _"; (case N => k_asm); (case q => k_mem); (case i => k_mem); k_whole))))
  (k_with "own ent_super" => ((walk_at "R ks_code_super k1 k2 k3 k4 k5 kA kF kK k6 k7 k8 k9 kB _ c1 c2 c3 c4"; (case kA => exact rfl); (case kF => exact rfl); (case kK => first | exact rfl | assumption); (case k1 => k_asm); (case k2 => k_asm); (case k3 => k_asm); (case k4 => k_asm); (case k5 => k_asm); (case k6 => k_is); (case k7 => k_is); (case k8 => ktr_room); (case k9 => first | exact BindsTo.of_eq rfl | exact binds_K (by k_in) rfl (by k_is) rfl rfl rfl); (case kB => exact locs rfl); (case c1 => decide); (case c2 => exact rfl); (case c3 => exact rfl); (case c4 => exact rfl); intro gₚₗ Lₚₗ hₚₗ FGₚₗ Fₚₗ Nₚₗ Bₚₗ Xₚₗ Tₚₗ l1ₗ; (try dsimp only); (try k_fold))))
  (k_with "own drop" => (((with_reducible rename News _ _ _ _ => nNₗ); intro pₗ hpₗ; first | exact nNₗ pₗ hpₗ | exact nNₗ pₗ (.tail _ hpₗ) | exact nNₗ pₗ (.tail _ (.tail _ hpₗ)) | exact nNₗ pₗ (.tail _ (.tail _ (.tail _ hpₗ))) | exact nNₗ pₗ (.tail _ (.tail _ (.tail _ (.tail _ hpₗ)))) | exact nNₗ pₗ (.tail _ (.tail _ (.tail _ (.tail _ (.tail _ hpₗ))))))))
  (k_with "own wpAt" => ((k_here; (fail_if_success ks_step "eval Call"); (fail_if_success ks_step "exec Return"); (fail_if_success ks_step "execs cons"); (fail_if_success ks_step "exec If"); (fail_if_success ks_step "attributeBase Call"); dsimp only)))
  (k_with "own wpAt" => ((k_here; ks_step "eval Call"; with_unfolding_all refine ks_wpAt_MethodCall ?_)))
  (k_with "own call ref" => ((k_here; k_dflt (walk_at "R call_pop F X N q i a b c U z _"; (case F => k_asm); (case X => k_asm); (case N => k_asm); (case q => k_mem); (case U => k_upd); (case i => k_mem); (case a => k_is); (case b => kernel_rfl); (case c => k_is); (case z => k_asm); k_whole; intro hₚₗ Fₚₗ Nₚₗ; (try k_sweep)))))
  (k_with "own ent" => ((walk_at "R code_def k1 k2 k3 k4 k5 kA kF kK k6 k7 k8 k9 kB _ c2 c3 c4 c5"; (case kA => exact rfl); (case kF => exact rfl); (case kK => first | exact rfl | assumption); (case k1 => k_asm); (case k2 => k_asm); (case k3 => k_asm); (case k4 => k_asm); (case k5 => k_asm); (case k6 => k_is); (case k7 => k_is); (case k8 => ktr_room); (case k9 => first | exact BindsTo.of_eq rfl | exact binds_K (by k_in) rfl (by k_is) rfl rfl rfl); (case c5 => decide); (case kB => exact locs rfl); (case c2 => exact rfl); (case c3 => exact rfl); (case c4 => exact rfl); k_whole; intro gₚₗ Lₚₗ hₚₗ FGₚₗ Fₚₗ Nₚₗ Bₚₗ Xₚₗ Tₚₗ; (try dsimp only); (try k_fold))))
  (k_with "own setItem ref" => ((k_here; (with_reducible show wpAny _ _ (setItem (Value.ref _) (Value.ref _) (Value.ref _)) _ _ _); k_dflt (dsimp only; walk_at "R setitemN F X N h2 hl yl a b c U z z' _"; (case F => k_asm); (case X => k_asm); (case N => k_asm); (case U => k_updF); (case h2 => k_mem); (case hl => k_mem); (case yl => k_asm); (case a => k_is); (case b => kernel_rfl); (case c => k_is); (case z => k_asm); (case z' => k_asm); intro hₚₗ epₚₗ Fₚₗ Nₚₗ; (try dsimp only [List.nil_append, List.cons_append] at Nₚₗ); (try k_sweep)))))
  (k_with "own setAttr ref" => ((k_here; (with_reducible show wpAny _ _ (setAttr (Value.ref _) (PySem.Str.ofString "_initial_size") _) _ _ _); k_dflt (dsimp only; walk_at "R set_acc F X N h1 a b c U _"; (case F => k_asm); (case X => k_asm); (case N => k_asm); (case h1 => k_mem); (case U => k_updF); (case a => k_is); (case b => kernel_rfl); (case c => kernel_rfl); intro hₚₗ Fₚₗ Nₚₗ; (try dsimp only [List.nil_append, List.cons_append] at Nₚₗ); (try k_sweep)))))
  (k_with "own exec For" => ((k_here; refine for_start ?_ (by intro _; rfl))))
  (k_with "own call type:enumerate" => ((k_here; refine stop_here ?_)))
  (k_with "own compareOp Is str str" => ((k_here; walk_at "R is_same F X bₗ c d _"; (case F => k_asm); (case X => k_asm); (case bₗ => kernel_rfl); (case c => assumption); (case d => assumption); (intro bₗ; cases bₗ))))
  (k_with "own compareOp Is str str" => ((k_here; walk_at "R is_diff a b c d _"; (case a => assumption); (case b => assumption); (case c => assumption); (case d => assumption))))
  (k_with "own eval Name" => ((k_here; (with_reducible show wpAny _ _ (eval (PySem.Expr.Name _ _) (envOf _ _ _ _ _)) _ _ _); k_dflt (walk_at "R ld k1 k2 _"; (case k1 => k_asm); (case k2 => first | exact rfl | with_reducible assumption | assumption); k_whole))))
  (k_with "own execs cons" => ((k_here; (with_reducible refine wpAny_execs_cons ?_); try dsimp only)))
  (k_with "own execs nil" => ((k_here; refine wpAny_execs_nil ?_; try dsimp only)))
  (k_with "own subscriptTail" => ((k_here; (with_reducible show wpAny _ _ (subscriptTail _ _ (Value.ref _) (Value.int _ _)) _ _ _); k_dflt (walk_at "R item_tupleL l a b c d _"; (case l => exact News.isTup (by k_asm) (by k_mem)); (case a => first | decide | omega); (case b => first | decide | omega); (case c => first | rfl | assumption | decide); (case d => first | rfl | assumption | simp); k_whole))))
  (k_with "own subscriptTail" => ((k_here; (with_reducible show wpAny _ _ (subscriptTail _ _ (Value.ref _) (Value.int _ _)) _ _ _); k_dflt (walk_at "R item_listL l a b d _"; (case l => exact News.isList (by k_asm) (by k_mem)); (case a => first | decide | omega | assumption); (case b => first | decide | omega | assumption); (case d => first | rfl | assumption | simp); k_whole))))
  (k_with "own sz" => ((k_here; first | assumption | (simp only [Array.size_push, List.size_toArray, List.length_append, List.length_reverse, List.length_cons, List.length_nil, Array.size_empty] at *; omega))))
  (k_with "own om" => ((k_here; first | assumption | decide | omega | (dsimp only; omega))))
  trivial
local macro_rules | `(tactic| k_ne) => `(tactic| first | assumption | (refine neN ?_; (try dsimp only); omega))
local macro_rules | `(tactic| walk_at "S4") => `(tactic| refine' comp_start (cl := []) (fun _ => true) (fun v u => u = v) ?h ?c1 ?c2 ?c3 ?c4 ?c5 ?c6)
theorem words_Small_2 : True := by
  (k_with "own call ref" => ((k_here; k_dflt (show wpAny _ _ (call (Value.ref 128) [Value.ref _]) _ _ _); k_dflt (walk_at "R count_U B F X T hk N h1 h2 hd _"; (case B => k_asm); (case F => k_asm); (case X => k_asm); (case T => k_asm); (case hk => first | exact rfl | assumption); (case N => k_asm); (case h1 => k_mem); (case h2 => k_mem); (case hd => ktr_room); intro hₚₗ tkₚₗ tₚₗ Fₚₗ Nₚₗ htₚₗ; (try dsimp only at htₚₗ); (try k_sweep)))))
  (k_with "own call ref" => ((k_here; k_dflt (show wpAny _ _ (call (Value.ref 91) [Value.ref _]) _ _ _); k_dflt (walk_at "R pop_U B F X T hk N h2 hd dx U z _"; (case B => k_asm); (case F => k_asm); (case X => k_asm); (case T => k_asm); (case hk => first | exact rfl | assumption); (case N => k_asm); (case U => k_updF); (case h2 => k_mem); (case hd => ktr_room); (case dx => k_ne); (case z => walk_at "sz"); intro hₚₗ tkₚₗ Fₚₗ Nₚₗ htₚₗ; (try dsimp only at htₚₗ); (try dsimp only [List.nil_append, List.cons_append] at Nₚₗ); (try k_sweep)))))
  (k_with "own call ref" => ((k_here; k_dflt (show wpAny _ _ (call (Value.ref 75) [Value.ref _, Value.str _ _, Value.str _ _]) _ _ _); k_dflt (walk_at "R push_U B F X T hk N h2 hd hu dx U z _"; (case B => k_asm); (case F => k_asm); (case X => k_asm); (case T => k_asm); (case hk => first | exact rfl | assumption); (case N => k_asm); (case U => k_updF); (case h2 => k_mem); (case hd => ktr_room); (case hu => ktr_room); (case dx => k_ne); (case z => walk_at "sz"); intro qₚₗ hₚₗ tkₚₗ Fₚₗ Nₚₗ htₚₗ; (try dsimp only at htₚₗ); (try dsimp only [List.nil_append, List.cons_append] at Nₚₗ); (try k_sweep)))))
  (k_with "own call ref" => ((k_here; k_dflt (show wpAny _ _ (call (Value.ref 131) []) _ _ _); k_dflt (walk_at "R make_U0 B F X T hk N hd _"; (case B => k_asm); (case F => k_asm); (case X => k_asm); (case T => k_asm); (case hk => first | exact rfl | assumption); (case N => k_asm); (case hd => ktr_room); intro xₚₗ dxₚₗ epₚₗ hshₚₗ tₚₗ vₚₗ nₚₗ hₚₗ tkₚₗ Fₚₗ Nₚₗ l1ₗ l2ₗ htₚₗ; (try dsimp only at htₚₗ); (try k_sweep)))))
  (k_with "own call ref" => ((k_here; k_dflt (show wpAny _ _ (call (Value.ref 131) [Value.int _ _]) _ _ _); k_dflt (walk_at "R make_U1 B F X T hk N hd _"; (case B => k_asm); (case F => k_asm); (case X => k_asm); (case T => k_asm); (case hk => first | exact rfl | assumption); (case N => k_asm); (case hd => ktr_room); intro xₚₗ dxₚₗ epₚₗ hshₚₗ tₚₗ nₚₗ hₚₗ tkₚₗ Fₚₗ Nₚₗ l1ₗ l2ₗ htₚₗ; (try dsimp only at htₚₗ); (try k_sweep)))))
  (k_with "own call ref" => ((k_here; k_dflt (show wpAny _ _ (call (Value.ref 177) [Value.str _ _, Value.str _ _]) _ _ _); k_dflt (walk_at "R idx_spec B F X N T hk hd ha t0 t1 kk lt _"; (case B => k_asm); (case F => k_asm); (case X => k_asm); (case T => k_asm); (case hk => first | exact rfl | assumption); (case N => k_asm); (case hd => ktr_room); (case ha => decide +kernel); (case t0 => walk_at "om"); (case t1 => walk_at "om"); (case kk => assumption); (case lt => assumption); intro tvₚₗ hₚₗ tkₚₗ Fₚₗ Nₚₗ htₚₗ; (try dsimp only at htₚₗ); (try k_sweep)))))
  (k_with "own call ref" => ((k_here; k_dflt (show wpAny _ _ (call (Value.ref 170) [Value.str _ _, Value.int _ _]) _ _ _); k_dflt (walk_at "R item_str B F X N T hk hd i0 i1 ix _"; (case B => k_asm); (case F => k_asm); (case X => k_asm); (case T => k_asm); (case hk => first | exact rfl | assumption); (case N => k_asm); (case hd => ktr_room); (case i0 => walk_at "om"); (case i1 => first | assumption | decide +kernel); (case ix => decide +kernel); intro tvₚₗ hₚₗ tkₚₗ Fₚₗ Nₚₗ ht1ₚₗ ht2ₚₗ; (try dsimp only at ht1ₚₗ); (try k_sweep)))))
  (k_with "own eval ListComp" => ((k_here; k_dflt (walk_at "S4"; (case c1 => with_unfolding_all rfl); (case c2 => decide); (case c3 => exact rfl); (case c4 => decide); (case c5 => exact rfl); (case c6 => (intro _; rfl))))))
  (k_with "own pyIter ref" => ((k_here; (with_reducible show wpAny _ _ (pyIter (Value.ref _)) (fun it s₂ => CompRest _ _ _ _ _ _ _ _ _ _ _ _ it s₂) _ _); k_dflt (walk_at "R comp_acc hh F X N h1 h2 a b z c d e _"; (case hh => exact rfl); (case F => k_asm); (case X => k_asm); (case N => k_asm); (case h1 => k_mem); (case h2 => k_mem); (case a => k_is); (case b => k_is); (case z => walk_at "sz"); (case c => exact rfl); (case d => exact rfl); (case e => decide); intro Dₚₗ kₚₗ hₚₗ tkₚₗ Fₚₗ Nₚₗ l1ₚₗ htₚₗ; (try dsimp only at htₚₗ); (try k_sweep)))))
  (k_with "own call ref" => ((k_here; k_dflt (show wpAny _ _ (call (Value.ref 113) [Value.ref _, Value.ref _]) _ _ _); k_dflt (walk_at "R reset_U B F X T hk N hl hd dx hx hx2 z z2 _"; (case B => k_asm); (case F => k_asm); (case X => k_asm); (case T => k_asm); (case hk => first | exact rfl | assumption); (case N => k_asm); (case hl => k_mem); (case hd => ktr_room); (case dx => k_ne); (case hx => k_all); (case hx2 => k_all); (case z => walk_at "sz"); (case z2 => walk_at "sz"); intro hₚₗ tkₚₗ tₚₗ vₚₗ nₚₗ epₚₗ Fₚₗ Nₚₗ htₚₗ; (try dsimp only at htₚₗ); (try k_sweep)))))
  (k_with "own exec While" => ((k_here; refine stop_here ?_)))
  (k_with "own exec While Compare" => ((k_here; refine stop_here ?_)))
  (k_with "own ent_cell" => ((walk_at "R code_defCT k1 k2 k3 k4 k5 kA kF kK k6 k7 k8 k9 kB kD _ c2 c3 c4"; (case kA => exact rfl); (case kF => exact rfl); (case kK => first | exact rfl | assumption); (case k1 => k_asm); (case k2 => k_asm); (case k3 => k_asm); (case k4 => k_asm); (case k5 => k_asm); (case k6 => k_is); (case k7 => k_is); (case k8 => ktr_room); (case k9 => first | exact BindsTo.of_eq rfl | exact binds_K (by k_in) rfl (by k_is) rfl rfl rfl); (case kB => exact rfl); (case kD => decide +kernel); (case c2 => exact rfl); (case c3 => exact rfl); (case c4 => exact rfl); k_whole; intro gₚₗ Lₚₗ hₚₗ tkₚₗ cellsₚₗ htₚₗ FGₚₗ Fₚₗ Nₚₗ Yₚₗ Bₚₗ Sₚₗ Xₚₗ Tₚₗ l1ₗ; (try k_lt l1ₗ); k_cells Yₚₗ; (try simp only [List.cons_append, List.nil_append] at Nₚₗ); (try dsimp only); (try k_fold))))
  (k_with "own ent_more" => ((walk_at "R kp_more k1 k2 k3 k4 k5 kA kF kK k6 k7 k8 kX kM kN kD kR kP kT kB _ c2 c3 c4 c5"; (case kA => exact rfl); (case kF => exact rfl); (case kK => first | exact rfl | assumption); (case k1 => k_asm); (case k2 => k_asm); (case k3 => k_asm); (case k4 => k_asm); (case k5 => k_asm); (case k6 => k_is); (case k7 => k_is); (case k8 => ktr_room); (case kX => kp_lit); (case kM => exact rfl); (case kN => exact rfl); (case kD => kp_flats); (case kR => exact rfl); (case kP => exact rfl); (case kT => exact fun _ => rfl); (case kB => exact fun _ => locs rfl); (case c5 => decide); (case c2 => exact rfl); (case c3 => exact rfl); (case c4 => exact rfl); k_whole; intro Dₚₗ oₚₗ gₚₗ Lₚₗ hₚₗ tkₚₗ l1ₗ loₚₗ hsₚₗ fsₚₗ FGₚₗ Fₚₗ Nₚₗ Bₚₗ Xₚₗ Tₚₗ; (try k_lt l1ₗ); (try dsimp only); (try k_fold))))
  (k_with "own callWith ref" => ((k_here; (with_reducible show wpAny _ _ (callWith _ _ [] _ (backToKw _ (keywordEach [PySem.Keyword.mk none _ _] _))) _ _ _); k_dflt (walk_at "R star_callD F N hk hx hxl hxd hy hyl hyd ha hod hkl hsys hf hfo _"; (case F => k_asm); (case N => k_asm); (case hk => exact rfl); (case hx => first | exact rfl | assumption); (case hxl => exact rfl); (case hxd => decide); (case hy => first | exact rfl | assumption); (case hyl => exact rfl); (case hyd => decide); (case ha => k_mem); (case hod => assumption); (case hkl => simp); (case hsys => assumption); (case hf => k_mem); (case hfo => exact rfl); intro hₚₗ dₚₗ oₚₗ Fₚₗ Nₚₗ; (try k_sweep)))))
  (k_with "own call ref" => ((k_here; k_dflt (show wpAny _ _ (call (Value.ref 51) _ _) _ _ _); refine wpAny_with_toks (Nat.le_refl _) ?_; refine wpAny_call ?_; k_dflt (walk_at "ent_more"))))
  (k_with "own call ref" => ((k_here; k_dflt (refine wpAny_call ?_; walk_at "R kdv_code k1 k2 k3 k4 k5 kA kF kK k6 k7 k8 k9 kB _ c2 c3 c4 c5"; (case kA => exact rfl); (case kF => exact rfl); (case kK => first | exact rfl | assumption); (case k1 => k_asm); (case k2 => k_asm); (case k3 => k_asm); (case k4 => k_asm); (case k5 => k_asm); (case k6 => k_mem); (case k7 => exact codeRec_news (by k_asm) (by k_mem) (by assumption) (by assumption)); (case k8 => ktr_room); (case k9 => kdv_bind); (case c5 => decide); (case kB => exact locs rfl); (case c2 => exact rfl); (case c3 => exact rfl); (case c4 => exact rfl); k_whole; intro gₚₗ Lₚₗ hₚₗ FGₚₗ Fₚₗ Nₚₗ Bₚₗ Xₚₗ Tₚₗ; (try dsimp only); (try k_fold)))))
  (k_with "own call ref" => ((k_here; k_dflt (show wpAny _ _ (call (Value.ref 170) [Value.ref _, Value.int _ _]) _ _ _); k_dflt (walk_at "R get_list B F X N T hk hd l i0 i1 v _"; (case B => k_asm); (case F => k_asm); (case X => k_asm); (case T => k_asm); (case hk => first | exact rfl | assumption); (case N => k_asm); (case hd => ktr_room); (case l => k_mem); (case i0 => walk_at "om"); (case i1 => walk_at "om"); (case v => assumption); intro hₚₗ tkₚₗ Fₚₗ Nₚₗ htₚₗ; (try dsimp only at htₚₗ); (try k_sweep)))))
  (k_with "own call ref" => ((k_here; k_dflt (show wpAny _ _ (call (Value.ref 170) [Value.ref _, Value.int _ _]) _ _ _); k_dflt (walk_at "R get_pair B F X T hk N hd l i _"; (case B => k_asm); (case F => k_asm); (case X => k_asm); (case T => k_asm); (case hk => first | exact rfl | assumption); (case N => k_asm); (case hd => ktr_room); (case l => k_mem); (case i => first | assumption | exact fmod2 _ | decide | omega); intro hₚₗ tkₚₗ Fₚₗ Nₚₗ htₚₗ; (try dsimp only at htₚₗ); (try k_sweep)))))
  (k_with "own makeTail" => ((k_here; refine wpAny_with_toks (Nat.le_refl _) ?_; k_dflt (walk_at "R kdv_nest F N T C cd U t n cl _"; (case F => k_asm); (case N => k_asm); (case T => k_asm); (case cd => exact rfl); (case C => kn_code); (case U => k_updF); (case t => kn_triples); (case n => kn_among); (case cl => exact rfl); k_whole); intro fₚₗ cₚₗ ocₚₗ vsₚₗ tₚₗ ctₚₗ dcₚₗ hₚₗ tkₚₗ Fₚₗ Nₚₗ d1ₚₗ d2ₚₗ l1ₗ l2ₗ htₚₗ; (try dsimp only at Nₚₗ); (try k_lt l1ₗ); (try k_lt2 l2ₗ); (try dsimp only at htₚₗ))))
  (k_with "own eval Name" => ((k_here; k_dflt (walk_at "R nameX_L k1 k2 _ c1 c2 c3"; (case k1 => k_asm); (case k2 => first | exact rfl | assumption); (case c1 => exact rfl); (case c2 => exact rfl); (case c3 => decide); k_whole))))
  (k_with "own call ref" => ((k_here; k_dflt (first | (show wpAny _ _ (call (Value.ref 142) _) _ _ _) | (show wpAny _ _ (call (Value.ref 149) _) _ _ _) | (show wpAny _ _ (call (Value.ref 156) _) _ _ _) | (show wpAny _ _ (call (Value.ref 163) _) _ _ _)); refine wpAny_call ?_; k_dflt (walk_at "ent"))))
  (k_with "own eval Name" => ((k_here; k_dflt (first | (walk_at "R nameX_L F v _ a b"; (case F => k_asm); (case a => rfl); (case b => rfl); (case v => first | rfl | with_reducible assumption); k_whole) | (walk_at "R nameX_K F X T e _ a b"; (case F => k_asm); (case X => k_asm); (case T => k_asm); (case a => rfl); (case b => rfl); (case e => k_is); k_whole)))))
  (k_with "own subscriptTail Name Constant ref int" => ((k_here; k_dflt (first | (walk_at "R item_listL l a b d _"; (case l => exact News.isList (by with_reducible assumption) (by k_mem)); (case a => decide); (case b => first | decide | omega); (case d => exact rfl); k_whole) | (walk_at "R item_tupleL l a b c d _"; (case l => exact News.isTup (by with_reducible assumption) (by k_mem)); (case a => decide); (case b => decide); (case c => first | rfl | assumption | decide); (case d => first | rfl | assumption | simp); k_whole)))))
  (k_with "own subscriptTail Name Name ref int" => ((k_here; k_dflt (walk_at "R item_listL l a b d _"; (case l => exact News.isList (by with_reducible assumption) (by k_mem)); (case a => decide); (case b => first | decide | omega); (case d => exact rfl); k_whole))))
  (k_with "own callWith ref" => ((k_here; (with_reducible show wpAny _ _ (callWith _ (Value.ref (OfNat.ofNat _)) _ _ _) _ _ _); k_dflt (first | (walk_at "R callWith_K k1 k2 _"; (case k1 => with_reducible assumption); (case k2 => k_is); k_whole) | (walk_at "R callWith_K0 k1 k2 _"; (case k1 => exact Frag.In.keeps (by with_reducible assumption) (Fr.keep (by with_reducible assumption))); (case k2 => k_is); k_whole)))))
  (k_with "own subscriptTail List" => ((k_here; k_dflt (walk_at "R item_listL l a b d _"; (case l => exact News.isList (by with_reducible assumption) (by k_mem)); (case a => decide); (case b => first | decide | omega); (case d => exact rfl); k_whole))))
  trivial
theorem cut_bound (i : Int) : 0 ≤ i.fmod (10 ^ Int.toNat 6) ∧ i.fmod (10 ^ Int.toNat 6) < 10 ^ 6 := by
  have e : ((10 : Int) ^ Int.toNat 6) = 1000000 := by decide
  have e2 : ((10 : Int) ^ 6) = 1000000 := by decide
  rw [e, e2, Int.fmod_eq_emod_of_nonneg _ (by decide)]
  omega
theorem cut_spec {w : World} {pT : Program} {loose : List Str} {mean : ExcName → Option Value} {mg mb : Str → Option Value}
    {dp un : Nat} {gd : Option (List Code)} {cn : Str} {cs : Scope} {a : Addr} {ccd : Value} {cl : List (Str × Addr)} {outer : List Env} {A₀ : Around} {base h₀ : Heap} {L : Addr} {m : Str → Option Value} {s : Shared}
    {Q E : Value → Shared → Prop} {news : List (Addr × Obj)}
    (B : Below A₀ base outer h₀) (F : Fr h₀ L s.heap m) (X : (pre.heap_1 w.params).In h₀) (T : Top pT loose mean mg mb h₀) (hk : cs.kind = .function) {i : Int} {ti : Tok}
    (N : News h₀ L s.heap news) (hd1 : dp + 3 < recursionLimit) 
    (hret : ∀ v t h' tk', -(10 ^ 6) < v → v < 10 ^ 6 → Fr h₀ L h' m → News h₀ L h' news → s.toks ≤ tk' → Q (.int v t) { s with heap := h', toks := tk' }) :
    wpAny (model PR w) (ktrTop dp un gd cn cs L a ccd cl outer) (call (.ref 192) [.int i ti]) Q E s := by
  refine wpAny_with_toks (Nat.le_refl _) ?_
  refine wpAny_call ?_
  k_dflt (walk_at "ent")
  k_steps
  all_goals (rename News _ _ _ _ => nZ; rename Fr _ _ _ _ => fZ)
  · obtain ⟨b1, b2⟩ := cut_bound i
    exact hret _ _ _ _ (by omega) b2 fZ nZ (by assumption)
  · obtain ⟨b1, b2⟩ := cut_bound (-i)
    exact hret _ _ _ _ (by omega) (by omega) fZ nZ (by assumption)
def pcS (i : Int) : Nat := if i.fmod 2 = 0 then 43 else 45
def pcN (i : Int) : Nat := 97 + ((i.fdiv 2).fmod 4).toNat
theorem pc_sign (i : Int) : Txt.item (Str.ofString "+-") (i.fmod 2) = ⟨#[pcS i]⟩ := by
  have h : i.fmod 2 = 0 ∨ i.fmod 2 = 1 := by rw [Int.fmod_eq_emod_of_nonneg _ (by decide)]; omega
  unfold pcS
  rcases h with h | h <;> rw [h] <;> decide +kernel
theorem pc_name (i : Int) : Txt.item (Str.ofString "abcd") ((i.fdiv 2).fmod 4) = ⟨#[pcN i]⟩ := by
  unfold pcN
  have h : (i.fdiv 2).fmod 4 = 0 ∨ (i.fdiv 2).fmod 4 = 1 ∨ (i.fdiv 2).fmod 4 = 2 ∨ (i.fdiv 2).fmod 4 = 3 := by rw [Int.fmod_eq_emod_of_nonneg _ (by decide)]; omega
  rcases h with h | h | h | h <;> rw [h] <;> decide +kernel
theorem piece_spec {w : World} {pT : Program} {loose : List Str} {mean : ExcName → Option Value} {mg mb : Str → Option Value}
    {dp un : Nat} {gd : Option (List Code)} {cn : Str} {cs : Scope} {a : Addr} {ccd : Value} {cl : List (Str × Addr)} {outer : List Env} {A₀ : Around} {base h₀ : Heap} {L : Addr} {m : Str → Option Value} {s : Shared}
    {Q E : Value → Shared → Prop} {news : List (Addr × Obj)}
    (B : Below A₀ base outer h₀) (F : Fr h₀ L s.heap m) (X : (pre.heap_1 w.params).In h₀) (T : Top pT loose mean mg mb h₀) (hk : cs.kind = .function) {i : Int} {ti : Tok}
    (N : News h₀ L s.heap news) (hd1 : dp + 3 < recursionLimit) 
    (hret : ∀ q' (u1 u2 : Nat) h' (tk' : Nat), Fr h₀ L h' m → News h₀ L h' ((q', tupObj ⟨#[pcS i]⟩ u1 ⟨#[pcN i]⟩ u2) :: news) → s.toks ≤ u1 → u1 < tk' → s.toks ≤ u2 → u2 < tk' → Q (.ref q') { s with heap := h', toks := tk' }) :
    wpAny (model PR w) (ktrTop dp un gd cn cs L a ccd cl outer) (call (.ref 199) [.int i ti]) Q E s := by
  refine wpAny_call ?_
  k_dflt (walk_at "ent")
  k_steps
  rename News _ _ _ _ => nZ
  rename Fr _ _ _ _ => fZ
  rw [pc_sign, pc_name] at nZ
  refine hret _ _ _ _ _ fZ nZ ?_ ?_ ?_ ?_
  all_goals (try dsimp only)
  all_goals omega
theorem turned_spec {w : World} {pT : Program} {loose : List Str} {mean : ExcName → Option Value} {mg mb : Str → Option Value}
    {dp un : Nat} {gd : Option (List Code)} {cn : Str} {cs : Scope} {a : Addr} {ccd : Value} {cl : List (Str × Addr)} {outer : List Env} {A₀ : Around} {base h₀ : Heap} {L : Addr} {m : Str → Option Value} {s : Shared}
    {Q E : Value → Shared → Prop} {news : List (Addr × Obj)}
    (B : Below A₀ base outer h₀) (F : Fr h₀ L s.heap m) (X : (pre.heap_1 w.params).In h₀) (T : Top pT loose mean mg mb h₀) (hk : cs.kind = .function) {q : Addr} {c d : Nat} {t1 t2 : Tok}
    (N : News h₀ L s.heap news) (hd1 : dp + 3 < recursionLimit) (hq : (q, tupObj ⟨#[c]⟩ t1 ⟨#[d]⟩ t2) ∈ news) (hc : c = 43 ∨ c = 45)
    (hret : ∀ q' u1 u2 h' tk', Fr h₀ L h' m → News h₀ L h' ((q', tupObj ⟨#[(flip1 (c, d)).1]⟩ u1 ⟨#[(flip1 (c, d)).2]⟩ u2) :: news) → (∀ p ∈ news, p.1 < q') → s.toks ≤ tk' → Q (.ref q') { s with heap := h', toks := tk' }) :
    wpAny (model PR w) (ktrTop dp un gd cn cs L a ccd cl outer) (call (.ref 206) [.ref q]) Q E s := by
  refine wpAny_with_toks (Nat.le_refl _) ?_
  rcases hc with rfl | rfl
  all_goals
    refine wpAny_call ?_
    k_dflt (walk_at "ent")
    k_steps
  all_goals (rename News _ _ _ _ => nZ; rename Fr _ _ _ _ => fZ)
  · exact hret _ _ _ _ _ fZ nZ (by assumption) (by assumption)
  · exact hret _ _ _ _ _ fZ nZ (by assumption) (by assumption)
theorem words_Small_3 : True := by
  (k_with "own call builtin:str.index" => ((k_here; first | (refine SC.index (i := 0) (rest := []) (by decide +kernel) ?_) | (refine SC.index (i := 1) (rest := []) (by decide +kernel) ?_) | (refine SC.index (i := 2) (rest := []) (by decide +kernel) ?_) | (refine SC.index (i := 3) (rest := []) (by decide +kernel) ?_))))
  trivial
theorem worth_spec {w : World} {pT : Program} {loose : List Str} {mean : ExcName → Option Value} {mg mb : Str → Option Value}
    {dp un : Nat} {gd : Option (List Code)} {cn : Str} {cs : Scope} {a : Addr} {ccd : Value} {cl : List (Str × Addr)} {outer : List Env} {A₀ : Around} {base h₀ : Heap} {L : Addr} {m : Str → Option Value} {s : Shared}
    {Q E : Value → Shared → Prop} {news : List (Addr × Obj)}
    (B : Below A₀ base outer h₀) (F : Fr h₀ L s.heap m) (X : (pre.heap_1 w.params).In h₀) (T : Top pT loose mean mg mb h₀) (hk : cs.kind = .function) {q ln : Addr} {c j : Nat} {t1 t2 : Tok} {n0 n1 n2 n3 n4 : Int} {u0 u1 u2 u3 u4 : Tok} {k : Nat}
    (N : News h₀ L s.heap news) (hd1 : dp + 3 < recursionLimit) (hq : (q, tupObj ⟨#[c]⟩ t1 ⟨#[97 + j]⟩ t2) ∈ news) (hl : (ln, listOf [.int n0 u0, .int n1 u1, .int n2 u2, .int n3 u3, .int n4 u4].toArray k) ∈ news) (hc : c = 43 ∨ c = 45) (hj : j < 4)
    (hret : ∀ t h' tk', Fr h₀ L h' m → News h₀ L h' news → s.toks ≤ tk' → Q (.int (worth [n0, n1, n2, n3, n4] (c, 97 + j)) t) { s with heap := h', toks := tk' }) :
    wpAny (model PR w) (ktrTop dp un gd cn cs L a ccd cl outer) (call (.ref 232) [.ref q, .ref ln]) Q E s := by
  refine wpAny_with_toks (Nat.le_refl _) ?_
  have hj4 : j = 0 ∨ j = 1 ∨ j = 2 ∨ j = 3 := by omega
  rcases hc with rfl | rfl <;> rcases hj4 with rfl | rfl | rfl | rfl
  all_goals
    refine wpAny_call ?_
    k_dflt (walk_at "ent")
    k_steps
  all_goals (rename News _ _ _ _ => nZ; rename Fr _ _ _ _ => fZ; exact hret _ _ _ fZ nZ (by assumption))
-- Places
local macro_rules | `(tactic| walk_at "S5") => `(tactic| refine' super_slot (.inl rfl) ?F ?X ?N ?i0 ?i1 ?i2 ?a ?b ?c ?d ?_)
local macro_rules | `(tactic| walk_at "S6") => `(tactic| refine' kun_lenL ?k1 rfl ?k3 ?_)
theorem words_Places_1 : True := by
  k_with_none
  (k_with "own shade" => (have Bₚₗ := True.intro; have Dₚₗ := True.intro; have F9ₗ := True.intro; have FGₚₗ := True.intro; have Fₚₗ := True.intro; have Gₚₗ := True.intro; have Lₚₗ := True.intro; have N9ₗ := True.intro; have Nₚₗ := True.intro; have Sₚₗ := True.intro; have Tₚₗ := True.intro; have Xₚₗ := True.intro; have Yₚₗ := True.intro; have aₗ := True.intro; have bhₚₗ := True.intro; have blₚₗ := True.intro; have bₗ := True.intro; have cellsₚₗ := True.intro; have ctₚₗ := True.intro; have cₚₗ := True.intro; have d1ₚₗ := True.intro; have d2ₚₗ := True.intro; have dcₚₗ := True.intro; have dxₚₗ := True.intro; have dₚₗ := True.intro; have epₚₗ := True.intro; have fsₚₗ := True.intro; have fₚₗ := True.intro; have gE9ₗ := True.intro; have gₚₗ := True.intro; have h9ₗ := True.intro; have hcₚₗ := True.intro; have hkₚₗ := True.intro; have hmₗ := True.intro; have hoₚₗ := True.intro; have hpₗ := True.intro; have hrₚₗ := True.intro; have hshₚₗ := True.intro; have hsₚₗ := True.intro; have ht1ₚₗ := True.intro; have ht2ₚₗ := True.intro; have ht3ₚₗ := True.intro; have ht4ₚₗ := True.intro; have htₚₗ := True.intro; have hvₗ := True.intro; have hₗ := True.intro; have hₚₗ := True.intro; have kₚₗ := True.intro; have l1ₗ := True.intro; have l1ₚₗ := True.intro; have l2ₗ := True.intro; have loₚₗ := True.intro; have nNₗ := True.intro; have nₚₗ := True.intro; have ocₚₗ := True.intro; have oₚₗ := True.intro; have psₚₗ := True.intro; have pₗ := True.intro; have qₗ := True.intro; have qₚₗ := True.intro; have sₚₗ := True.intro; have t1ₗ := True.intro; have t1ₚₗ := True.intro; have t2ₗ := True.intro; have t9ₗ := True.intro; have tcₚₗ := True.intro; have tk9ₗ := True.intro; have tkₚₗ := True.intro; have tvₚₗ := True.intro; have tₚₗ := True.intro; have u1ₚₗ := True.intro; have u2ₚₗ := True.intro; have v1ₚₗ := True.intro; have vsₚₗ := True.intro; have vₗ := True.intro; have vₚₗ := True.intro; have xₚₗ := True.intro))
  (k_with "own bare" => (clear Bₚₗ Dₚₗ F9ₗ FGₚₗ Fₚₗ Gₚₗ Lₚₗ N9ₗ Nₚₗ Sₚₗ Tₚₗ Xₚₗ Yₚₗ aₗ bhₚₗ blₚₗ bₗ cellsₚₗ ctₚₗ cₚₗ d1ₚₗ d2ₚₗ dcₚₗ dxₚₗ dₚₗ epₚₗ fsₚₗ fₚₗ gE9ₗ gₚₗ h9ₗ hcₚₗ hkₚₗ hmₗ hoₚₗ hpₗ hrₚₗ hshₚₗ hsₚₗ ht1ₚₗ ht2ₚₗ ht3ₚₗ ht4ₚₗ htₚₗ hvₗ hₗ hₚₗ kₚₗ l1ₗ l1ₚₗ l2ₗ loₚₗ nNₗ nₚₗ ocₚₗ oₚₗ psₚₗ pₗ qₗ qₚₗ sₚₗ t1ₗ t1ₚₗ t2ₗ t9ₗ tcₚₗ tk9ₗ tkₚₗ tvₚₗ tₚₗ u1ₚₗ u2ₚₗ v1ₚₗ vsₚₗ vₗ vₚₗ xₚₗ))
  (k_with "own getMethod ref" => ((k_here; (with_reducible show wpAny _ _ (getMethod (Value.ref _) (PySem.Str.ofString "append") _) _ _ _); k_dflt (walk_at "R method_biN F X N i1 i2 a b c d e _"; (case F => k_asm); (case X => k_asm); (case N => k_asm); (case i1 => k_mem); (case i2 => k_mem); (case a => k_is); (case b => k_is); (case c => k_is); (case d => k_is); (case e => kernel_rfl); k_whole))))
  (k_with "own call builtin:list.append" => ((k_here; (with_reducible show wpAny _ _ (call (Value.builtin _) [Value.ref _, _]) _ _ _); k_dflt (walk_at "R append_accN F X N i2 a U z _"; (case F => k_asm); (case X => k_asm); (case N => k_asm); (case U => k_upd); (case i2 => k_mem); (case a => k_is); (case z => k_asm); k_whole); intro hₚₗ Fₚₗ Nₚₗ; (try k_sweep))))
  (k_with "own getMethod ref" => ((k_here; (with_reducible show wpAny _ _ (getMethod (Value.ref _) (PySem.Str.ofString "part_count") _) _ _ _); k_dflt (walk_at "R method_fnN F X N i1 i2 a b c d e _"; (case F => k_asm); (case X => k_asm); (case N => k_asm); (case i1 => k_mem); (case i2 => k_mem); (case a => k_is); (case b => k_is); (case c => k_is); (case d => k_is); (case e => kernel_rfl); k_whole))))
  (k_with "own getMethod ref" => ((k_here; (with_reducible show wpAny _ _ (getMethod (Value.ref _) (PySem.Str.ofString "push") _) _ _ _); k_dflt (walk_at "R method_fnN F X N i1 i2 a b c d e _"; (case F => k_asm); (case X => k_asm); (case N => k_asm); (case i1 => k_mem); (case i2 => k_mem); (case a => k_is); (case b => k_is); (case c => k_is); (case d => k_is); (case e => kernel_rfl); k_whole))))
  (k_with "own getMethod ref" => ((k_here; (with_reducible show wpAny _ _ (getMethod (Value.ref _) (PySem.Str.ofString "pop") _) _ _ _); k_dflt (walk_at "R method_fnN F X N i1 i2 a b c d e _"; (case F => k_asm); (case X => k_asm); (case N => k_asm); (case i1 => k_mem); (case i2 => k_mem); (case a => k_is); (case b => k_is); (case c => k_is); (case d => k_is); (case e => kernel_rfl); k_whole))))
  (k_with "own getMethod ref" => ((k_here; (with_reducible show wpAny _ _ (getMethod (Value.ref _) (PySem.Str.ofString "reset") _) _ _ _); k_dflt (walk_at "R method_fnN F X N i1 i2 a b c d e _"; (case F => k_asm); (case X => k_asm); (case N => k_asm); (case i1 => k_mem); (case i2 => k_mem); (case a => k_is); (case b => k_is); (case c => k_is); (case d => k_is); (case e => kernel_rfl); k_whole))))
  (k_with "own getMethod ref" => ((k_here; (with_reducible show wpAny _ _ (getMethod (Value.ref _) (PySem.Str.ofString "__len__") _) _ _ _); k_dflt (walk_at "S5"; (case F => k_asm); (case X => k_asm); (case N => k_asm); (case i0 => k_mem); (case i1 => k_mem); (case i2 => k_mem); (case a => k_is); (case b => ks_is); (case c => k_is); (case d => decide); intro qₚₗ hₚₗ Fₚₗ Nₚₗ l1ₗ; (try k_lt l1ₗ)))))
  (k_with "own getMethod ref" => ((k_here; (with_reducible show wpAny _ _ (getMethod (Value.ref _) (PySem.Str.ofString "pop") _) _ _ _); k_dflt (walk_at "R super_pop F X N i0 i1 i2 a b c d _"; (case F => k_asm); (case X => k_asm); (case N => k_asm); (case i0 => k_mem); (case i1 => k_mem); (case i2 => k_mem); (case a => k_is); (case b => ks_is); (case c => k_is); (case d => decide); intro qₚₗ hₚₗ Fₚₗ Nₚₗ l1ₗ; (try k_lt l1ₗ)))))
  (k_with "own callWith ref" => ((k_here; k_dflt (walk_at "R callWith_bound0 N q b _"; (case N => k_asm); (case q => k_mem); (case b => first | exact .inl rfl | exact .inr rfl); k_whole))))
  (k_with "own call ref" => ((k_here; k_dflt (walk_at "R call_len N q i _"; (case N => k_asm); (case q => k_mem); (case i => k_mem); k_whole))))
  (k_with "own ent_super" => ((walk_at "R ks_code_super k1 k2 k3 k4 k5 kA kF kK k6 k7 k8 k9 kB _ c1 c2 c3 c4"; (case kA => exact rfl); (case kF => exact rfl); (case kK => first | exact rfl | assumption); (case k1 => k_asm); (case k2 => k_asm); (case k3 => k_asm); (case k4 => k_asm); (case k5 => k_asm); (case k6 => k_is); (case k7 => k_is); (case k8 => ktr_room); (case k9 => first | exact BindsTo.of_eq rfl | exact binds_K (by k_in) rfl (by k_is) rfl rfl rfl); (case kB => exact locs rfl); (case c1 => decide); (case c2 => exact rfl); (case c3 => exact rfl); (case c4 => exact rfl); intro gₚₗ Lₚₗ hₚₗ FGₚₗ Fₚₗ Nₚₗ Bₚₗ Xₚₗ Tₚₗ l1ₗ; (try dsimp only); (try k_fold))))
  (k_with "own drop" => (((with_reducible rename News _ _ _ _ => nNₗ); intro pₗ hpₗ; first | exact nNₗ pₗ hpₗ | exact nNₗ pₗ (.tail _ hpₗ) | exact nNₗ pₗ (.tail _ (.tail _ hpₗ)) | exact nNₗ pₗ (.tail _ (.tail _ (.tail _ hpₗ))) | exact nNₗ pₗ (.tail _ (.tail _ (.tail _ (.tail _ hpₗ)))) | exact nNₗ pₗ (.tail _ (.tail _ (.tail _ (.tail _ (.tail _ hpₗ))))))))
  (k_with "own wpAt" => ((k_here; (fail_if_success ks_step "eval Call"); (fail_if_success ks_step "exec Return"); (fail_if_success ks_step "execs cons"); (fail_if_success ks_step "exec If"); (fail_if_success ks_step "attributeBase Call"); dsimp only)))
  (k_with "own wpAt" => ((k_here; ks_step "eval Call"; with_unfolding_all refine ks_wpAt_MethodCall ?_)))
  (k_with "own call ref" => ((k_here; k_dflt (walk_at "R call_pop F X N q i a b c U z _"; (case F => k_asm); (case X => k_asm); (case N => k_asm); (case q => k_mem); (case U => k_upd); (case i => k_mem); (case a => k_is); (case b => kernel_rfl); (case c => k_is); (case z => k_asm); k_whole; intro hₚₗ Fₚₗ Nₚₗ; (try k_sweep)))))
  (k_with "own ent" => ((walk_at "R code_def k1 k2 k3 k4 k5 kA kF kK k6 k7 k8 k9 kB _ c2 c3 c4 c5"; (case kA => exact rfl); (case kF => exact rfl); (case kK => first | exact rfl | assumption); (case k1 => k_asm); (case k2 => k_asm); (case k3 => k_asm); (case k4 => k_asm); (case k5 => k_asm); (case k6 => k_is); (case k7 => k_is); (case k8 => ktr_room); (case k9 => first | exact BindsTo.of_eq rfl | exact binds_K (by k_in) rfl (by k_is) rfl rfl rfl); (case c5 => decide); (case kB => exact locs rfl); (case c2 => exact rfl); (case c3 => exact rfl); (case c4 => exact rfl); k_whole; intro gₚₗ Lₚₗ hₚₗ FGₚₗ Fₚₗ Nₚₗ Bₚₗ Xₚₗ Tₚₗ; (try dsimp only); (try k_fold))))
  (k_with "own setItem ref" => ((k_here; (with_reducible show wpAny _ _ (setItem (Value.ref _) (Value.ref _) (Value.ref _)) _ _ _); k_dflt (dsimp only; walk_at "R setitemN F X N h2 hl yl a b c U z z' _"; (case F => k_asm); (case X => k_asm); (case N => k_asm); (case U => k_updF); (case h2 => k_mem); (case hl => k_mem); (case yl => k_asm); (case a => k_is); (case b => kernel_rfl); (case c => k_is); (case z => k_asm); (case z' => k_asm); intro hₚₗ epₚₗ Fₚₗ Nₚₗ; (try dsimp only [List.nil_append, List.cons_append] at Nₚₗ); (try k_sweep)))))
  (k_with "own setAttr ref" => ((k_here; (with_reducible show wpAny _ _ (setAttr (Value.ref _) (PySem.Str.ofString "_initial_size") _) _ _ _); k_dflt (dsimp only; walk_at "R set_acc F X N h1 a b c U _"; (case F => k_asm); (case X => k_asm); (case N => k_asm); (case h1 => k_mem); (case U => k_updF); (case a => k_is); (case b => kernel_rfl); (case c => kernel_rfl); intro hₚₗ Fₚₗ Nₚₗ; (try dsimp only [List.nil_append, List.cons_append] at Nₚₗ); (try k_sweep)))))
  (k_with "own exec For" => ((k_here; refine for_start ?_ (by intro _; rfl))))
  (k_with "own call type:enumerate" => ((k_here; refine stop_here ?_)))
  (k_with "own compareOp Is str str" => ((k_here; walk_at "R is_same F X bₗ c d _"; (case F => k_asm); (case X => k_asm); (case bₗ => kernel_rfl); (case c => assumption); (case d => assumption); (intro bₗ; cases bₗ))))
  (k_with "own compareOp Is str str" => ((k_here; walk_at "R is_diff a b c d _"; (case a => assumption); (case b => assumption); (case c => assumption); (case d => assumption))))
  (k_with "own eval Name" => ((k_here; (with_reducible show wpAny _ _ (eval (PySem.Expr.Name _ _) (envOf _ _ _ _ _)) _ _ _); k_dflt (walk_at "R ld k1 k2 _"; (case k1 => k_asm); (case k2 => first | exact rfl | with_reducible assumption | assumption); k_whole))))
  (k_with "own execs cons" => ((k_here; (with_reducible refine wpAny_execs_cons ?_); try dsimp only)))
  (k_with "own execs nil" => ((k_here; refine wpAny_execs_nil ?_; try dsimp only)))
  (k_with "own subscriptTail" => ((k_here; (with_reducible show wpAny _ _ (subscriptTail _ _ (Value.ref _) (Value.int _ _)) _ _ _); k_dflt (walk_at "R item_tupleL l a b c d _"; (case l => exact News.isTup (by k_asm) (by k_mem)); (case a => first | decide | omega); (case b => first | decide | omega); (case c => first | rfl | assumption | decide); (case d => first | rfl | assumption | simp); k_whole))))
  (k_with "own subscriptTail" => ((k_here; (with_reducible show wpAny _ _ (subscriptTail _ _ (Value.ref _) (Value.int _ _)) _ _ _); k_dflt (walk_at "R item_listL l a b d _"; (case l => exact News.isList (by k_asm) (by k_mem)); (case a => first | decide | omega | assumption); (case b => first | decide | omega | assumption); (case d => first | rfl | assumption | simp); k_whole))))
  (k_with "own sz" => ((k_here; first | assumption | (simp only [Array.size_push, List.size_toArray, List.length_append, List.length_reverse, List.length_cons, List.length_nil, Array.size_empty] at *; omega))))
  (k_with "own om" => ((k_here; first | assumption | decide | omega | (dsimp only; omega))))
  (k_with "own call ref" => ((k_here; k_dflt (show wpAny _ _ (call (Value.ref 128) [Value.ref _]) _ _ _); k_dflt (walk_at "R count_U B F X T hk N h1 h2 hd _"; (case B => k_asm); (case F => k_asm); (case X => k_asm); (case T => k_asm); (case hk => first | exact rfl | assumption); (case N => k_asm); (case h1 => k_mem); (case h2 => k_mem); (case hd => ktr_room); intro hₚₗ tkₚₗ tₚₗ Fₚₗ Nₚₗ htₚₗ; (try dsimp only at htₚₗ); (try k_sweep)))))
  (k_with "own call ref" => ((k_here; k_dflt (show wpAny _ _ (call (Value.ref 91) [Value.ref _]) _ _ _); k_dflt (walk_at "R pop_U B F X T hk N h2 hd dx U z _"; (case B => k_asm); (case F => k_asm); (case X => k_asm); (case T => k_asm); (case hk => first | exact rfl | assumption); (case N => k_asm); (case U => k_updF); (case h2 => k_mem); (case hd => ktr_room); (case dx => k_ne); (case z => walk_at "sz"); intro hₚₗ tkₚₗ Fₚₗ Nₚₗ htₚₗ; (try dsimp only at htₚₗ); (try dsimp only [List.nil_append, List.cons_append] at Nₚₗ); (try k_sweep)))))
  (k_with "own call ref" => ((k_here; k_dflt (show wpAny _ _ (call (Value.ref 75) [Value.ref _, Value.str _ _, Value.str _ _]) _ _ _); k_dflt (walk_at "R push_U B F X T hk N h2 hd hu dx U z _"; (case B => k_asm); (case F => k_asm); (case X => k_asm); (case T => k_asm); (case hk => first | exact rfl | assumption); (case N => k_asm); (case U => k_updF); (case h2 => k_mem); (case hd => ktr_room); (case hu => ktr_room); (case dx => k_ne); (case z => walk_at "sz"); intro qₚₗ hₚₗ tkₚₗ Fₚₗ Nₚₗ htₚₗ; (try dsimp only at htₚₗ); (try dsimp only [List.nil_append, List.cons_append] at Nₚₗ); (try k_sweep)))))
  (k_with "own call ref" => ((k_here; k_dflt (show wpAny _ _ (call (Value.ref 131) []) _ _ _); k_dflt (walk_at "R make_U0 B F X T hk N hd _"; (case B => k_asm); (case F => k_asm); (case X => k_asm); (case T => k_asm); (case hk => first | exact rfl | assumption); (case N => k_asm); (case hd => ktr_room); intro xₚₗ dxₚₗ epₚₗ hshₚₗ tₚₗ vₚₗ nₚₗ hₚₗ tkₚₗ Fₚₗ Nₚₗ l1ₗ l2ₗ htₚₗ; (try dsimp only at htₚₗ); (try k_sweep)))))
  (k_with "own call ref" => ((k_here; k_dflt (show wpAny _ _ (call (Value.ref 131) [Value.int _ _]) _ _ _); k_dflt (walk_at "R make_U1 B F X T hk N hd _"; (case B => k_asm); (case F => k_asm); (case X => k_asm); (case T => k_asm); (case hk => first | exact rfl | assumption); (case N => k_asm); (case hd => ktr_room); intro xₚₗ dxₚₗ epₚₗ hshₚₗ tₚₗ nₚₗ hₚₗ tkₚₗ Fₚₗ Nₚₗ l1ₗ l2ₗ htₚₗ; (try dsimp only at htₚₗ); (try k_sweep)))))
  (k_with "own call ref" => ((k_here; k_dflt (show wpAny _ _ (call (Value.ref 177) [Value.str _ _, Value.str _ _]) _ _ _); k_dflt (walk_at "R idx_spec B F X N T hk hd ha t0 t1 kk lt _"; (case B => k_asm); (case F => k_asm); (case X => k_asm); (case T => k_asm); (case hk => first | exact rfl | assumption); (case N => k_asm); (case hd => ktr_room); (case ha => decide +kernel); (case t0 => walk_at "om"); (case t1 => walk_at "om"); (case kk => assumption); (case lt => assumption); intro tvₚₗ hₚₗ tkₚₗ Fₚₗ Nₚₗ htₚₗ; (try dsimp only at htₚₗ); (try k_sweep)))))
  (k_with "own call ref" => ((k_here; k_dflt (show wpAny _ _ (call (Value.ref 170) [Value.str _ _, Value.int _ _]) _ _ _); k_dflt (walk_at "R item_str B F X N T hk hd i0 i1 ix _"; (case B => k_asm); (case F => k_asm); (case X => k_asm); (case T => k_asm); (case hk => first | exact rfl | assumption); (case N => k_asm); (case hd => ktr_room); (case i0 => walk_at "om"); (case i1 => first | assumption | decide +kernel); (case ix => decide +kernel); intro tvₚₗ hₚₗ tkₚₗ Fₚₗ Nₚₗ ht1ₚₗ ht2ₚₗ; (try dsimp only at ht1ₚₗ); (try k_sweep)))))
  (k_with "own ent_cell" => ((walk_at "R code_defCT k1 k2 k3 k4 k5 kA kF kK k6 k7 k8 k9 kB kD _ c2 c3 c4"; (case kA => exact rfl); (case kF => exact rfl); (case kK => first | exact rfl | assumption); (case k1 => k_asm); (case k2 => k_asm); (case k3 => k_asm); (case k4 => k_asm); (case k5 => k_asm); (case k6 => k_is); (case k7 => k_is); (case k8 => ktr_room); (case k9 => first | exact BindsTo.of_eq rfl | exact binds_K (by k_in) rfl (by k_is) rfl rfl rfl); (case kB => exact rfl); (case kD => decide +kernel); (case c2 => exact rfl); (case c3 => exact rfl); (case c4 => exact rfl); k_whole; intro gₚₗ Lₚₗ hₚₗ tkₚₗ cellsₚₗ htₚₗ FGₚₗ Fₚₗ Nₚₗ Yₚₗ Bₚₗ Sₚₗ Xₚₗ Tₚₗ l1ₗ; (try k_lt l1ₗ); k_cells Yₚₗ; (try simp only [List.cons_append, List.nil_append] at Nₚₗ); (try dsimp only); (try k_fold))))
  (k_with "own ent_more" => ((walk_at "R kp_more k1 k2 k3 k4 k5 kA kF kK k6 k7 k8 kX kM kN kD kR kP kT kB _ c2 c3 c4 c5"; (case kA => exact rfl); (case kF => exact rfl); (case kK => first | exact rfl | assumption); (case k1 => k_asm); (case k2 => k_asm); (case k3 => k_asm); (case k4 => k_asm); (case k5 => k_asm); (case k6 => k_is); (case k7 => k_is); (case k8 => ktr_room); (case kX => kp_lit); (case kM => exact rfl); (case kN => exact rfl); (case kD => kp_flats); (case kR => exact rfl); (case kP => exact rfl); (case kT => exact fun _ => rfl); (case kB => exact fun _ => locs rfl); (case c5 => decide); (case c2 => exact rfl); (case c3 => exact rfl); (case c4 => exact rfl); k_whole; intro Dₚₗ oₚₗ gₚₗ Lₚₗ hₚₗ tkₚₗ l1ₗ loₚₗ hsₚₗ fsₚₗ FGₚₗ Fₚₗ Nₚₗ Bₚₗ Xₚₗ Tₚₗ; (try k_lt l1ₗ); (try dsimp only); (try k_fold))))
  (k_with "own callWith ref" => ((k_here; (with_reducible show wpAny _ _ (callWith _ _ [] _ (backToKw _ (keywordEach [PySem.Keyword.mk none _ _] _))) _ _ _); k_dflt (walk_at "R star_callD F N hk hx hxl hxd hy hyl hyd ha hod hkl hsys hf hfo _"; (case F => k_asm); (case N => k_asm); (case hk => exact rfl); (case hx => first | exact rfl | assumption); (case hxl => exact rfl); (case hxd => decide); (case hy => first | exact rfl | assumption); (case hyl => exact rfl); (case hyd => decide); (case ha => k_mem); (case hod => assumption); (case hkl => simp); (case hsys => assumption); (case hf => k_mem); (case hfo => exact rfl); intro hₚₗ dₚₗ oₚₗ Fₚₗ Nₚₗ; (try k_sweep)))))
  (k_with "own call ref" => ((k_here; k_dflt (show wpAny _ _ (call (Value.ref 51) _ _) _ _ _); refine wpAny_with_toks (Nat.le_refl _) ?_; refine wpAny_call ?_; k_dflt (walk_at "ent_more"))))
  (k_with "own call ref" => ((k_here; k_dflt (refine wpAny_call ?_; walk_at "R kdv_code k1 k2 k3 k4 k5 kA kF kK k6 k7 k8 k9 kB _ c2 c3 c4 c5"; (case kA => exact rfl); (case kF => exact rfl); (case kK => first | exact rfl | assumption); (case k1 => k_asm); (case k2 => k_asm); (case k3 => k_asm); (case k4 => k_asm); (case k5 => k_asm); (case k6 => k_mem); (case k7 => exact codeRec_news (by k_asm) (by k_mem) (by assumption) (by assumption)); (case k8 => ktr_room); (case k9 => kdv_bind); (case c5 => decide); (case kB => exact locs rfl); (case c2 => exact rfl); (case c3 => exact rfl); (case c4 => exact rfl); k_whole; intro gₚₗ Lₚₗ hₚₗ FGₚₗ Fₚₗ Nₚₗ Bₚₗ Xₚₗ Tₚₗ; (try dsimp only); (try k_fold)))))
  (k_with "own call ref" => ((k_here; k_dflt (show wpAny _ _ (call (Value.ref 170) [Value.ref _, Value.int _ _]) _ _ _); k_dflt (walk_at "R get_list B F X N T hk hd l i0 i1 v _"; (case B => k_asm); (case F => k_asm); (case X => k_asm); (case T => k_asm); (case hk => first | exact rfl | assumption); (case N => k_asm); (case hd => ktr_room); (case l => k_mem); (case i0 => walk_at "om"); (case i1 => walk_at "om"); (case v => assumption); intro hₚₗ tkₚₗ Fₚₗ Nₚₗ htₚₗ; (try dsimp only at htₚₗ); (try k_sweep)))))
  (k_with "own call ref" => ((k_here; k_dflt (show wpAny _ _ (call (Value.ref 170) [Value.ref _, Value.int _ _]) _ _ _); k_dflt (walk_at "R get_pair B F X T hk N hd l i _"; (case B => k_asm); (case F => k_asm); (case X => k_asm); (case T => k_asm); (case hk => first | exact rfl | assumption); (case N => k_asm); (case hd => ktr_room); (case l => k_mem); (case i => first | assumption | exact fmod2 _ | decide | omega); intro hₚₗ tkₚₗ Fₚₗ Nₚₗ htₚₗ; (try dsimp only at htₚₗ); (try k_sweep)))))
  (k_with "own makeTail" => ((k_here; refine wpAny_with_toks (Nat.le_refl _) ?_; k_dflt (walk_at "R kdv_nest F N T C cd U t n cl _"; (case F => k_asm); (case N => k_asm); (case T => k_asm); (case cd => exact rfl); (case C => kn_code); (case U => k_updF); (case t => kn_triples); (case n => kn_among); (case cl => exact rfl); k_whole); intro fₚₗ cₚₗ ocₚₗ vsₚₗ tₚₗ ctₚₗ dcₚₗ hₚₗ tkₚₗ Fₚₗ Nₚₗ d1ₚₗ d2ₚₗ l1ₗ l2ₗ htₚₗ; (try dsimp only at Nₚₗ); (try k_lt l1ₗ); (try k_lt2 l2ₗ); (try dsimp only at htₚₗ))))
  (k_with "own eval Name" => ((k_here; k_dflt (walk_at "R nameX_L k1 k2 _ c1 c2 c3"; (case k1 => k_asm); (case k2 => first | exact rfl | assumption); (case c1 => exact rfl); (case c2 => exact rfl); (case c3 => decide); k_whole))))
  (k_with "own call ref" => ((k_here; k_dflt (first | (show wpAny _ _ (call (Value.ref 142) _) _ _ _) | (show wpAny _ _ (call (Value.ref 149) _) _ _ _) | (show wpAny _ _ (call (Value.ref 156) _) _ _ _) | (show wpAny _ _ (call (Value.ref 163) _) _ _ _)); refine wpAny_call ?_; k_dflt (walk_at "ent"))))
  (k_with "own eval Name" => ((k_here; k_dflt (first | (walk_at "R nameX_L F v _ a b"; (case F => k_asm); (case a => rfl); (case b => rfl); (case v => first | rfl | with_reducible assumption); k_whole) | (walk_at "R nameX_K F X T e _ a b"; (case F => k_asm); (case X => k_asm); (case T => k_asm); (case a => rfl); (case b => rfl); (case e => k_is); k_whole)))))
  (k_with "own subscriptTail Name Constant ref int" => ((k_here; k_dflt (first | (walk_at "R item_listL l a b d _"; (case l => exact News.isList (by with_reducible assumption) (by k_mem)); (case a => decide); (case b => first | decide | omega); (case d => exact rfl); k_whole) | (walk_at "R item_tupleL l a b c d _"; (case l => exact News.isTup (by with_reducible assumption) (by k_mem)); (case a => decide); (case b => decide); (case c => first | rfl | assumption | decide); (case d => first | rfl | assumption | simp); k_whole)))))
  (k_with "own subscriptTail Name Name ref int" => ((k_here; k_dflt (walk_at "R item_listL l a b d _"; (case l => exact News.isList (by with_reducible assumption) (by k_mem)); (case a => decide); (case b => first | decide | omega); (case d => exact rfl); k_whole))))
  (k_with "own callWith ref" => ((k_here; (with_reducible show wpAny _ _ (callWith _ (Value.ref (OfNat.ofNat _)) _ _ _) _ _ _); k_dflt (first | (walk_at "R callWith_K k1 k2 _"; (case k1 => with_reducible assumption); (case k2 => k_is); k_whole) | (walk_at "R callWith_K0 k1 k2 _"; (case k1 => exact Frag.In.keeps (by with_reducible assumption) (Fr.keep (by with_reducible assumption))); (case k2 => k_is); k_whole)))))
  (k_with "own subscriptTail List" => ((k_here; k_dflt (walk_at "R item_listL l a b d _"; (case l => exact News.isList (by with_reducible assumption) (by k_mem)); (case a => decide); (case b => first | decide | omega); (case d => exact rfl); k_whole))))
  (k_with "own exec For Name Call cons nil" => ((k_here; with_unfolding_all (refine for_start ?_ (by intro _; with_unfolding_all rfl)))))
  (k_with "own call type:range" => ((k_here; (with_reducible show wpAny _ _ (call _ [Value.int _ _, Value.int _ _]) _ _ _); refine wpAny_with_toks (Nat.le_refl _) ?_; refine range2_rows (by k_asm) (by k_asm) ?_; intro hₚₗ tkₚₗ t1ₚₗ u1ₚₗ v1ₚₗ hrₚₗ Fₚₗ Nₚₗ hkₚₗ htₚₗ; (try dsimp only at htₚₗ); refine stop_here ?_)))
  (k_with "own call builtin:len" => ((k_here; (with_reducible show wpAny _ _ (call (Value.builtin "len") [Value.ref _]) _ _ _); k_dflt (walk_at "S6"; (case k1 => exact News.isList (by k_asm) (by k_mem)); (case k3 => assumption); k_whole))))
  (k_with "own call ref" => ((k_here; k_dflt (show wpAny _ _ (call (Value.ref 206) [Value.ref _]) _ _ _); k_dflt (walk_at "R turned_spec B F X T hk N hd hq hc _"; (case B => k_asm); (case F => k_asm); (case X => k_asm); (case T => k_asm); (case hk => first | exact rfl | assumption); (case N => k_asm); (case hd => ktr_room); (case hq => k_mem); (case hc => assumption); intro qₚₗ u1ₚₗ u2ₚₗ hₚₗ tkₚₗ Fₚₗ Nₚₗ l1ₚₗ htₚₗ; (try k_lt l1ₚₗ); (try dsimp only at htₚₗ); (try k_sweep)))))
  trivial
theorem divmod_at {prog : Program} {w : World} {A : Around} {E : Value → Shared → Prop} {s : Shared} {h₀ : Heap} {L : Addr} {m : Str → Option Value} {news : List (Addr × Obj)} {Q : Value → Shared → Prop} {a b x y : Int} {t u : Tok} (F : Fr h₀ L s.heap m) (N : News h₀ L s.heap news) (hb : b ≠ 0)
    (e1 : a.fdiv b = x) (e2 : a.fmod b = y) (hs : Builtin.divisionGoesByPylong a b = false)
    (h : ∀ q h', Fr h₀ L h' m → News h₀ L h' ((q, { cls := .type "tuple", data := .seq #[.int x s.toks, .int y (s.toks + 1)] }) :: news) → (∀ p ∈ news, p.1 < q) → Q (.ref q) { s with toks := s.toks + 1 + 1, heap := h' }) :
    wpAny (model prog w) A (call (.builtin "divmod") [.int a t, .int b u]) Q E s := by
  subst e1 e2
  exact divmod_N F N hb (fun h' F' N' => h _ h' F' N' fun p hp => Heap.lt_size (N p hp).1) (.inl hs)
theorem dm_nat (i n : Nat) : (1 + (i : Int)).fdiv ((n : Int) + 1) = (((i + 1) / (n + 1) : Nat) : Int) ∧ (1 + (i : Int)).fmod ((n : Int) + 1) = (((i + 1) % (n + 1) : Nat) : Int) := by
  have e1 : 1 + (i : Int) = ((i + 1 : Nat) : Int) := by omega
  have e2 : (n : Int) + 1 = ((n + 1 : Nat) : Int) := by omega
  rw [e1, e2, Int.fdiv_eq_ediv_of_nonneg _ (Int.natCast_nonneg _), Int.fmod_eq_emod_of_nonneg _ (Int.natCast_nonneg _)]
  exact ⟨rfl, rfl⟩
theorem fmod2_nat (b : Nat) : ((b : Int)).fmod 2 = ((b % 2 : Nat) : Int) := by
  rw [Int.fmod_eq_emod_of_nonneg _ (by decide)]; rfl
def Pw (tl : List (Addr × Obj)) (v : Value) (p : Nat × Nat) : Prop := ∃ q t1 t2, v = .ref q ∧ (q, tupObj ⟨#[p.1]⟩ t1 ⟨#[p.2]⟩ t2) ∈ tl
def Pws (tl : List (Addr × Obj)) : List Value → List (Nat × Nat) → Prop
  | [], [] => True
  | v :: vs, p :: ps => Pw tl v p ∧ Pws tl vs ps
  | _, _ => False
theorem Pws.mono {tl tl' : List (Addr × Obj)} (hs : ∀ p ∈ tl, p ∈ tl') : ∀ {vs : List Value} {ps : List (Nat × Nat)}, Pws tl vs ps → Pws tl' vs ps
  | [], [], _ => trivial
  | _ :: _, _ :: _, ⟨⟨q, t1, t2, e, m⟩, r⟩ => ⟨⟨q, t1, t2, e, hs _ m⟩, Pws.mono hs r⟩
  | [], _ :: _, h => h.elim
  | _ :: _, [], h => h.elim
theorem Pws.snoc {tl : List (Addr × Obj)} {v : Value} {p : Nat × Nat} (hv : Pw tl v p) : ∀ {vs : List Value} {ps : List (Nat × Nat)}, Pws tl vs ps → Pws tl (vs ++ [v]) (ps ++ [p])
  | [], [], _ => ⟨hv, trivial⟩
  | _ :: _, _ :: _, h => ⟨h.1, Pws.snoc hv h.2⟩
  | [], _ :: _, h => h.elim
  | _ :: _, [], h => h.elim
theorem Pws.len {tl : List (Addr × Obj)} : ∀ {vs : List Value} {ps : List (Nat × Nat)}, Pws tl vs ps → vs.length = ps.length
  | [], [], _ => rfl
  | _ :: _, _ :: _, h => by rw [List.length_cons, List.length_cons, h.2.len]
  | [], _ :: _, h => h.elim
  | _ :: _, [], h => h.elim
theorem Pws.off {tl : List (Addr × Obj)} {I : Addr} (h : ∀ q a t1 b t2, (q, tupObj a t1 b t2) ∈ tl → q ≠ I) : ∀ {vs : List Value} {ps : List (Nat × Nat)}, Pws tl vs ps → Pws (tl.filter fun p => p.1 != I) vs ps
  | [], [], _ => trivial
  | _ :: _, _ :: _, ⟨⟨q, t1, t2, e, m⟩, hr⟩ => ⟨⟨q, t1, t2, e, List.mem_filter.mpr ⟨m, by simpa using h _ _ _ _ _ m⟩⟩, Pws.off h hr⟩
  | [], _ :: _, h => h.elim
  | _ :: _, [], h => h.elim
theorem places_take {P C : List (Nat × Nat)} {i : Nat} (h : i < 8 * (P.length + 1) - 1) : (places P C).take (i + 1) = (places P C).take i ++ [placeAt P C (i + 1)] := by
  unfold places
  rw [← List.map_take, ← List.map_take, List.take_range, List.take_range, Nat.min_eq_left (by omega), Nat.min_eq_left (by omega), List.range_succ, List.map_append]
  rfl
def PlJ (l1 l2 lp : Addr) (n : Nat) (news : List (Addr × Obj)) (P C : List (Nat × Nat)) (i : Nat) (m₁ : Str → Option Value) (n₁ : List (Addr × Obj)) (_ : Nat) : Prop :=
  m₁ "first" = some (.ref l1) ∧ m₁ "creases" = some (.ref l2) ∧ (∃ ts, m₁ "span" = some (.int ((n : Int) + 1) ts)) ∧ m₁ "pieces" = some (.ref lp) ∧
    ∃ its' k' tl', n₁ = (lp, listOf its'.toArray k') :: tl' ∧ (∀ p ∈ news, p ∈ tl') ∧ (∀ p ∈ tl', p.1 ≠ lp) ∧ its'.length = i ∧ Pws tl' its' ((places P C).take i)
theorem pl_back {s : Shared} {h₀ h' : Heap} {L : Addr} {m₂ : Str → Option Value} {tk' : Nat} {big ow tl' news : List (Addr × Obj)} {l1 l2 lp I q : Addr} {oI : Obj} {n i k'' : Nat} {P C : List (Nat × Nat)} {its' : List Value} {p : Nat × Nat} {u1 u2 : Tok}
    (fZ : Fr h₀ L h' m₂) (nZ : News h₀ L h' big) (hq : m₂ "first" = some (.ref l1) ∧ m₂ "creases" = some (.ref l2) ∧ (∃ ts, m₂ "span" = some (.int ((n : Int) + 1) ts)) ∧ m₂ "pieces" = some (.ref lp))
    (b1 : (lp, listOf (its'.toArray.push (.ref q)) k'') ∈ big) (b2 : (q, tupObj ⟨#[p.1]⟩ u1 ⟨#[p.2]⟩ u2) ∈ big) (b3 : ∀ x ∈ tl' ++ ow, x ∈ big) (hoI : (I, oI) ∈ ow) (hoc : oI.cls = .type "range_iterator") (hIl : lp ≠ I) (hIt : ∀ x ∈ tl', x.1 ≠ I) (nl : ∀ x ∈ tl', x.1 ≠ lp)
    (ht : s.toks ≤ tk') (sub : ∀ p ∈ news, p ∈ tl') (hlen : its'.length = i) (hpw : Pws tl' its' ((places P C).take i)) (htake : (places P C).take (i + 1) = (places P C).take i ++ [p]) :
    Back s h₀ L ow (· ≠ I) (PlJ l1 l2 lp n news P C (i + 1)) { s with heap := h', toks := tk' } := by
  have hqI : q ≠ I := led_ne nZ b2 (b3 _ (List.mem_append_right _ hoI)) (by rw [hoc]; intro e; injection e with e; exact absurd e (by decide))
  have hqL : q ≠ lp := led_ne nZ b2 b1 (by intro e; injection e with e; exact absurd e (by decide))
  obtain ⟨mf, mc, msp, mp⟩ := hq
  refine Back.intro (news₂ := (lp, listOf (its'.toArray.push (.ref q)) k'') :: (q, tupObj ⟨#[p.1]⟩ u1 ⟨#[p.2]⟩ u2) :: tl') fZ ?_ ?_ ht ⟨mf, mc, msp, mp, its' ++ [.ref q], k'', _, by rw [List.push_toArray], ?_, ?_, ?_, ?_⟩
  · intro x hx
    apply nZ
    rcases List.mem_append.mp hx with hx | hx
    · rcases List.mem_cons.mp hx with h | hx
      · subst h; exact b1
      rcases List.mem_cons.mp hx with h | hx
      · subst h; exact b2
      · exact b3 _ (List.mem_append_left _ hx)
    · exact b3 _ (List.mem_append_right _ hx)
  · intro x hx
    rcases List.mem_cons.mp hx with h | hx
    · subst h; exact hIl
    rcases List.mem_cons.mp hx with h | hx
    · subst h; exact hqI
    · exact hIt x hx
  · exact fun x hx => List.mem_cons_of_mem _ (sub x hx)
  · intro x hx
    rcases List.mem_cons.mp hx with h | hx
    · subst h; exact hqL
    · exact nl x hx
  · simp [hlen]
  · rw [htake]
    exact Pws.snoc ⟨q, u1, u2, rfl, List.mem_cons_self ..⟩ (hpw.mono fun _ h => List.mem_cons_of_mem _ h)
theorem three {α : Type} : ∀ {l : List α}, l.length = 3 → ∃ a b c, l = [a, b, c]
  | [a, b, c], _ => ⟨a, b, c, rfl⟩
  | [], h => by cases h
  | [_], h => by cases h
  | [_, _], h => by cases h
  | _ :: _ :: _ :: _ :: _, h => by simp at h
theorem words_Places_2 : True := by
  (k_with "own call builtin:divmod" => ((k_here; (with_reducible show wpAny _ _ (call (Value.builtin _) [Value.int _ _, Value.int _ _]) _ _ _); k_dflt (walk_at "R divmod_at F N n0 e1 e2 sm _"; (case F => k_asm); (case N => k_asm); (case n0 => assumption); (case e1 => assumption); (case e2 => assumption); (case sm => assumption); k_whole); intro qₚₗ hₚₗ Fₚₗ Nₚₗ l1ₚₗ; (try k_lt l1ₚₗ); (try k_sweep))))
  trivial
theorem places_spec {w : World} {pT : Program} {loose : List Str} {mean : ExcName → Option Value} {mg mb : Str → Option Value}
    {dp un : Nat} {gd : Option (List Code)} {cn : Str} {cs : Scope} {a : Addr} {ccd : Value} {cl : List (Str × Addr)} {outer : List Env} {A₀ : Around} {base h₀ : Heap} {L : Addr} {m : Str → Option Value} {s : Shared}
    {Q E : Value → Shared → Prop} {news : List (Addr × Obj)}
    (B : Below A₀ base outer h₀) (F : Fr h₀ L s.heap m) (X : (pre.heap_1 w.params).In h₀) (T : Top pT loose mean mg mb h₀) (hk : cs.kind = .function) {l1 l2 : Addr} {its its2 : List Value} {k1 k2 : Nat} {P C : List (Nat × Nat)}
    (N : News h₀ L s.heap news) (hl1 : (l1, listOf its.toArray k1) ∈ news) (hl2 : (l2, listOf its2.toArray k2) ∈ news) (hd1 : dp + 10 < recursionLimit) (hu1 : un + 20 < cLine) (hP : Pcs s.toks news its P) (hsz : its.length ≤ 3) (hC : Pcs s.toks news its2 C) (hsz2 : its2.length = 3) (hsp : Signs P) (hsc : Signs C)
    (hret : ∀ lp k its' tl h' tk', Fr h₀ L h' m → News h₀ L h' ((lp, listOf its'.toArray k) :: tl) → (∀ p ∈ news, p ∈ tl) → Pws tl its' (places P C) → s.toks ≤ tk' → Q (.ref lp) { s with heap := h', toks := tk' }) :
    wpAny (model PR w) (ktrTop dp un gd cn cs L a ccd cl outer) (call (.ref 225) [.ref l1, .ref l2]) Q E s := by
  have hPl : its.length = P.length := hP.len
  obtain ⟨v0, v1, v2, rfl⟩ := three hsz2
  obtain ⟨c0, c1, c2, rfl⟩ := three (hC.len.symm.trans hsz2)
  obtain ⟨⟨q0, a0, b0, rfl, m0, -⟩, ⟨q1, a1, b1, rfl, m1, -⟩, ⟨q2, a2, b2, rfl, m2, -⟩, -⟩ := hC
  have g0 := hsc c0 (by simp)
  have g1 := hsc c1 (by simp)
  have g2 := hsc c2 (by simp)
  have hlenA : ((its.toArray.size : Nat) : Int) ≤ 16384 := by simp only [List.size_toArray]; omega
  refine wpAny_call ?_
  k_dflt (walk_at "ent")
  refine gen_toks s.toks (Nat.le_add_right _ _) ?_
  intro tk htk
  k_steps
  walk_at "shade"
  rename_i lp h1 l1' hh1 F1 N1 h2 tk2 t1 u1 v1 hr F2 N2 hk2 ht2
  walk_at "bare"
  have npl : ∀ p ∈ news, p.1 ≠ lp := fun p hp => Nat.ne_of_lt (l1' p hp)
  clear F1 N1 hk2
  unfold Stop
  have hn8 : Builtin.Range.rangeSize 1 (8 * (((its.toArray.size : Nat) : Int) + 1)) 1 = ((8 * (P.length + 1) - 1 : Nat) : Int) := by
    rw [rangeSize_nat, List.size_toArray, hPl]; omega
  have hsm8 : Builtin.Range.small 1 (8 * (((its.toArray.size : Nat) : Int) + 1)) 1 = true := by
    simp only [List.size_toArray]
    exact small_one (by decide) (by decide) (by omega) (by omega)
  refine' range_led (s := { s with heap := h2, toks := tk2 }) ?hh ?hE ?hF ?hN ?hr hsm8 hn8 (PlJ l1 l2 lp its.toArray.size news P [c0, c1, c2]) ?Jm ?h0 ?st ?dn
  case hh => exact rfl
  case hF => exact F2
  case hN => exact N2
  case hr => exact hr
  case hE => first | passes_own | with_unfolding_all passes_own
  case Jm => exact fun i m₁ n₁ t t' j _ => j
  case h0 => exact ⟨rfl, rfl, ⟨_, rfl⟩, rfl, [], _, news, rfl, fun _ h => h, npl, rfl, by simp [Pws]⟩
  case st =>
    clear F2 N2
    rintro i tv ow m₁ news₁ h₁ tk₀ tk₁ I hi ⟨mf, mc, ⟨ts, ms⟩, mp, its', k', tl', rfl, sub, nl, hlen, hpw⟩ hst htk F₁ N₁ hI how ⟨oI, hoI, hoc⟩
    (try dsimp only at hst); (try dsimp only at ht2)
    have hlen2 : its'.toArray.size ≤ sizeLine := by rw [sizeLine_eq]; simp only [List.size_toArray]; omega
    obtain ⟨dm1, dm2⟩ := dm_nat i its.toArray.size
    have hnz : (((its.toArray.size : Nat) : Int) + 1) ≠ 0 := by omega
    have hpy : Builtin.divisionGoesByPylong (1 + ((i : Nat) : Int)) (((its.toArray.size : Nat) : Int) + 1) = false := by
      refine PyProof.noPylong_small ?_
      simp only [List.size_toArray]; omega
    have hPi : (i + 1) / (its.toArray.size + 1) = (i + 1) / (P.length + 1) := by rw [List.size_toArray, hPl]
    have hPm : (i + 1) % (its.toArray.size + 1) = (i + 1) % (P.length + 1) := by rw [List.size_toArray, hPl]
    have htake := places_take (C := [c0, c1, c2]) hi
    obtain ⟨b, hb⟩ : ∃ b, (i + 1) / (P.length + 1) = b := ⟨_, rfl⟩
    obtain ⟨o, ho⟩ : ∃ o, (i + 1) % (P.length + 1) = o := ⟨_, rfl⟩
    rw [hPi, hb] at dm1
    rw [hPm, ho] at dm2
    obtain ⟨T2, hT2⟩ : ∃ T2, T2 = tl' ++ ow := ⟨_, rfl⟩
    replace N₁ : News _ _ _ ((lp, listOf its'.toArray k') :: (tl' ++ ow)) := N₁
    have M0 := List.mem_append_left ow (sub _ m0)
    have M1 := List.mem_append_left ow (sub _ m1)
    have M2 := List.mem_append_left ow (sub _ m2)
    have ML1 := List.mem_append_left ow (sub _ hl1)
    have ML2 := List.mem_append_left ow (sub _ hl2)
    have hT3 : ∀ x ∈ tl' ++ ow, x ∈ T2 := fun x hx => by rw [hT2]; exact hx
    have hIl : lp ≠ I := hI (lp, listOf its'.toArray k') (List.mem_cons_self ..)
    have hIt : ∀ x ∈ tl', x.1 ≠ I := fun x hx => hI x (List.mem_cons_of_mem _ hx)
    have hx : ∀ x ∈ tl' ++ ow, x.1 ≠ lp := by
      intro x hx e
      rcases List.mem_append.mp hx with h | h
      · exact nl x h e
      · exact hIl (e.symm.trans (how x h))
    rw [← hT2] at N₁ M0 M1 M2 ML1 ML2 hx
    by_cases ho0 : o = 0
    · subst ho0
      have hb7 : b = 1 ∨ b = 2 ∨ b = 3 ∨ b = 4 ∨ b = 5 ∨ b = 6 ∨ b = 7 := by
        have h1 := Nat.div_add_mod (i + 1) (P.length + 1)
        rw [hb, ho] at h1
        have hP3 : P.length ≤ 3 := by omega
        have : P.length = 0 ∨ P.length = 1 ∨ P.length = 2 ∨ P.length = 3 := by omega
        rcases this with h | h | h | h <;> rw [h] at h1 hi <;> omega
      have dm2' : (1 + (i : Int)).fmod (((its.toArray.size : Nat) : Int) + 1) = 0 := dm2
      rcases hb7 with rfl | rfl | rfl | rfl | rfl | rfl | rfl
      · have dm1' : (1 + (i : Int)).fdiv (((its.toArray.size : Nat) : Int) + 1) = 1 := dm1
        clear dm1 dm2
        have hpa : placeAt P [c0, c1, c2] (i + 1) = c0 := by simp [placeAt, ho, hb, oddOf, foldOf]
        k_steps
        rename News _ _ _ _ => nZ
        rename Fr _ _ _ _ => fZ
        rw [hpa] at htake
        refine' pl_back (p := c0) fZ nZ ⟨mf, mc, ⟨ts, ms⟩, mp⟩ ?ba1 ?bb1 (fun x hx => by have := hT3 x hx; k_mem) hoI hoc hIl hIt nl (by (try dsimp only at *); omega) sub hlen hpw htake
        case ba1 => k_mem
        case bb1 => k_mem
      · have dm1' : (1 + (i : Int)).fdiv (((its.toArray.size : Nat) : Int) + 1) = 2 := dm1
        clear dm1 dm2
        have hpa : placeAt P [c0, c1, c2] (i + 1) = c1 := by simp [placeAt, ho, hb, oddOf, foldOf]
        k_steps
        rename News _ _ _ _ => nZ
        rename Fr _ _ _ _ => fZ
        rw [hpa] at htake
        refine' pl_back (p := c1) fZ nZ ⟨mf, mc, ⟨ts, ms⟩, mp⟩ ?ba2 ?bb2 (fun x hx => by have := hT3 x hx; k_mem) hoI hoc hIl hIt nl (by (try dsimp only at *); omega) sub hlen hpw htake
        case ba2 => k_mem
        case bb2 => k_mem
      · have dm1' : (1 + (i : Int)).fdiv (((its.toArray.size : Nat) : Int) + 1) = 3 := dm1
        clear dm1 dm2
        have hpa : placeAt P [c0, c1, c2] (i + 1) = flip1 c0 := by simp [placeAt, ho, hb, oddOf, foldOf]
        k_steps
        rename News _ _ _ _ => nZ
        rename Fr _ _ _ _ => fZ
        rw [hpa] at htake
        refine' pl_back (p := flip1 c0) fZ nZ ⟨mf, mc, ⟨ts, ms⟩, mp⟩ ?ba3 ?bb3 (fun x hx => by have := hT3 x hx; k_mem) hoI hoc hIl hIt nl (by (try dsimp only at *); omega) sub hlen hpw htake
        case ba3 => k_mem
        case bb3 => k_mem
      · have dm1' : (1 + (i : Int)).fdiv (((its.toArray.size : Nat) : Int) + 1) = 4 := dm1
        clear dm1 dm2
        have hpa : placeAt P [c0, c1, c2] (i + 1) = c2 := by simp [placeAt, ho, hb, oddOf, foldOf]
        k_steps
        rename News _ _ _ _ => nZ
        rename Fr _ _ _ _ => fZ
        rw [hpa] at htake
        refine' pl_back (p := c2) fZ nZ ⟨mf, mc, ⟨ts, ms⟩, mp⟩ ?ba4 ?bb4 (fun x hx => by have := hT3 x hx; k_mem) hoI hoc hIl hIt nl (by (try dsimp only at *); omega) sub hlen hpw htake
        case ba4 => k_mem
        case bb4 => k_mem
      · have dm1' : (1 + (i : Int)).fdiv (((its.toArray.size : Nat) : Int) + 1) = 5 := dm1
        clear dm1 dm2
        have hpa : placeAt P [c0, c1, c2] (i + 1) = c0 := by simp [placeAt, ho, hb, oddOf, foldOf]
        k_steps
        rename News _ _ _ _ => nZ
        rename Fr _ _ _ _ => fZ
        rw [hpa] at htake
        refine' pl_back (p := c0) fZ nZ ⟨mf, mc, ⟨ts, ms⟩, mp⟩ ?ba5 ?bb5 (fun x hx => by have := hT3 x hx; k_mem) hoI hoc hIl hIt nl (by (try dsimp only at *); omega) sub hlen hpw htake
        case ba5 => k_mem
        case bb5 => k_mem
      · have dm1' : (1 + (i : Int)).fdiv (((its.toArray.size : Nat) : Int) + 1) = 6 := dm1
        clear dm1 dm2
        have hpa : placeAt P [c0, c1, c2] (i + 1) = flip1 c1 := by simp [placeAt, ho, hb, oddOf, foldOf]
        k_steps
        rename News _ _ _ _ => nZ
        rename Fr _ _ _ _ => fZ
        rw [hpa] at htake
        refine' pl_back (p := flip1 c1) fZ nZ ⟨mf, mc, ⟨ts, ms⟩, mp⟩ ?ba6 ?bb6 (fun x hx => by have := hT3 x hx; k_mem) hoI hoc hIl hIt nl (by (try dsimp only at *); omega) sub hlen hpw htake
        case ba6 => k_mem
        case bb6 => k_mem
      · have dm1' : (1 + (i : Int)).fdiv (((its.toArray.size : Nat) : Int) + 1) = 7 := dm1
        clear dm1 dm2
        have hpa : placeAt P [c0, c1, c2] (i + 1) = flip1 c0 := by simp [placeAt, ho, hb, oddOf, foldOf]
        k_steps
        rename News _ _ _ _ => nZ
        rename Fr _ _ _ _ => fZ
        rw [hpa] at htake
        refine' pl_back (p := flip1 c0) fZ nZ ⟨mf, mc, ⟨ts, ms⟩, mp⟩ ?ba7 ?bb7 (fun x hx => by have := hT3 x hx; k_mem) hoI hoc hIl hIt nl (by (try dsimp only at *); omega) sub hlen hpw htake
        case ba7 => k_mem
        case bb7 => k_mem
    · have hol : o < P.length + 1 := by rw [← ho]; exact Nat.mod_lt _ (Nat.succ_pos _)
      have ho3 : ((o : Nat) : Int) ≤ ((its.toArray.size : Nat) : Int) := by rw [List.size_toArray, hPl]; omega
      have ho1 : 1 ≤ ((o : Nat) : Int) := by omega
      have ho0' : ((o : Nat) : Int) ≠ 0 := by omega
      have hod1 : ¬ (decide (((o : Nat) : Int) = 0) = true) := by simpa using ho0
      have hod2 : decide (((o : Nat) : Int) = 0) = false := by simpa using ho0
      have hod3 : ¬ ((((o : Nat) : Int) == 0) = true) := by simpa using ho0
      have hod4 : (((o : Nat) : Int) == 0) = false := by simpa using ho0
      obtain ⟨va, hva⟩ : ∃ v, its[o - 1]? = some v := ⟨its[o - 1]'(by omega), List.getElem?_eq_getElem _⟩
      obtain ⟨vb, hvb⟩ : ∃ v, its[P.length - o]? = some v := ⟨its[P.length - o]'(by omega), List.getElem?_eq_getElem _⟩
      obtain ⟨pa, hpai, ⟨qa, xa1, xa2, rfl, hqa, -⟩, -⟩ := hP.at hva
      obtain ⟨pb, hpbi, ⟨qb, xb1, xb2, rfl, hqb, -⟩, -⟩ := hP.at hvb
      have hva' : its[(((o : Nat) : Int) - 1).toNat]? = some (.ref qa) := by rw [show (((o : Nat) : Int) - 1).toNat = o - 1 from by omega]; exact hva
      have hvb' : its[(((its.toArray.size : Nat) : Int) + 1 - 1 - ((o : Nat) : Int)).toNat]? = some (.ref qb) := by
        rw [show (((its.toArray.size : Nat) : Int) + 1 - 1 - ((o : Nat) : Int)).toNat = P.length - o from by rw [List.size_toArray, hPl]; omega]; exact hvb
      have gb : pb.1 = 43 ∨ pb.1 = 45 := hsp pb (List.mem_of_getElem? hpbi)
      have MA := hT3 _ (List.mem_append_left ow (sub _ hqa))
      have MB := hT3 _ (List.mem_append_left ow (sub _ hqb))
      k_steps
      · have he : ((b : Nat) : Int).fmod 2 = 0 := by with_reducible assumption
        rw [fmod2_nat] at he
        have hpa : placeAt P [c0, c1, c2] (i + 1) = pa := by
          have hb2 : b % 2 = 0 := by omega
          simp [placeAt, ho, hb, ho0, hb2, List.getD_eq_getElem?_getD, hpai]
        rename News _ _ _ _ => nZ
        rename Fr _ _ _ _ => fZ
        rw [hpa] at htake
        refine' pl_back (p := pa) fZ nZ ⟨mf, mc, ⟨ts, ms⟩, mp⟩ ?ba8 ?bb8 (fun x hx => by have := hT3 x hx; k_mem) hoI hoc hIl hIt nl (by (try dsimp only at *); omega) sub hlen hpw htake
        case ba8 => k_mem
        case bb8 => k_mem
      · have he : ((b : Nat) : Int).fmod 2 ≠ 0 := by with_reducible assumption
        rw [fmod2_nat] at he
        have hpa : placeAt P [c0, c1, c2] (i + 1) = flip1 pb := by
          have hb2 : ¬ (b % 2 = 0) := by omega
          simp [placeAt, ho, hb, ho0, hb2, List.getD_eq_getElem?_getD, hpbi]
        rename News _ _ _ _ => nZ
        rename Fr _ _ _ _ => fZ
        rw [hpa] at htake
        refine' pl_back (p := flip1 pb) fZ nZ ⟨mf, mc, ⟨ts, ms⟩, mp⟩ ?ba9 ?bb9 (fun x hx => by have := hT3 x hx; k_mem) hoI hoc hIl hIt nl (by (try dsimp only at *); omega) sub hlen hpw htake
        case ba9 => k_mem
        case bb9 => k_mem
  case dn =>
    clear F2 N2
    rintro m₁ news₁ h₁ tk₁ ⟨mf, mc, ⟨ts, ms⟩, mp, its', k', tl', rfl, sub, nl, hlen, hpw⟩ hst F₁ N₁
    k_steps
    rename News _ _ _ _ => nZ
    rename Fr _ _ _ _ => fZ
    rw [List.take_of_length_le (by unfold places; simp)] at hpw
    exact hret _ _ _ _ _ _ fZ nZ sub hpw (by (try dsimp only at *); omega)
-- Read
local macro_rules | `(tactic| walk_at "S7") => `(tactic| refine' super_slot (.inl rfl) ?F ?X ?N ?i0 ?i1 ?i2 ?a ?b ?c ?d ?_)
local macro_rules | `(tactic| walk_at "S8") => `(tactic| refine' comp_start (cl := []) (fun _ => true) (fun v u => u = v) ?h ?c1 ?c2 ?c3 ?c4 ?c5 ?c6)
theorem words_Read_1 : True := by
  k_with_none
  (k_with "own shade" => (have Bₚₗ := True.intro; have Dₚₗ := True.intro; have F9ₗ := True.intro; have FGₚₗ := True.intro; have Fₚₗ := True.intro; have Gₚₗ := True.intro; have Lₚₗ := True.intro; have N9ₗ := True.intro; have Nₚₗ := True.intro; have Sₚₗ := True.intro; have Tₚₗ := True.intro; have Xₚₗ := True.intro; have Yₚₗ := True.intro; have aₗ := True.intro; have bhₚₗ := True.intro; have blₚₗ := True.intro; have bₗ := True.intro; have cellsₚₗ := True.intro; have ctₚₗ := True.intro; have cₚₗ := True.intro; have d1ₚₗ := True.intro; have d2ₚₗ := True.intro; have dcₚₗ := True.intro; have dxₚₗ := True.intro; have dₚₗ := True.intro; have epₚₗ := True.intro; have fsₚₗ := True.intro; have fₚₗ := True.intro; have gE9ₗ := True.intro; have gₚₗ := True.intro; have h9ₗ := True.intro; have hcₚₗ := True.intro; have hkₚₗ := True.intro; have hmₗ := True.intro; have hoₚₗ := True.intro; have hpₗ := True.intro; have hrₚₗ := True.intro; have hshₚₗ := True.intro; have hsₚₗ := True.intro; have ht1ₚₗ := True.intro; have ht2ₚₗ := True.intro; have ht3ₚₗ := True.intro; have ht4ₚₗ := True.intro; have htₚₗ := True.intro; have hvₗ := True.intro; have hₗ := True.intro; have hₚₗ := True.intro; have kₚₗ := True.intro; have l1ₗ := True.intro; have l1ₚₗ := True.intro; have l2ₗ := True.intro; have loₚₗ := True.intro; have nNₗ := True.intro; have nₚₗ := True.intro; have ocₚₗ := True.intro; have oₚₗ := True.intro; have psₚₗ := True.intro; have pₗ := True.intro; have qₗ := True.intro; have qₚₗ := True.intro; have sₚₗ := True.intro; have t1ₗ := True.intro; have t1ₚₗ := True.intro; have t2ₗ := True.intro; have t9ₗ := True.intro; have tcₚₗ := True.intro; have tk9ₗ := True.intro; have tkₚₗ := True.intro; have tvₚₗ := True.intro; have tₚₗ := True.intro; have u1ₚₗ := True.intro; have u2ₚₗ := True.intro; have v1ₚₗ := True.intro; have vsₚₗ := True.intro; have vₗ := True.intro; have vₚₗ := True.intro; have xₚₗ := True.intro))
  (k_with "own bare" => (clear Bₚₗ Dₚₗ F9ₗ FGₚₗ Fₚₗ Gₚₗ Lₚₗ N9ₗ Nₚₗ Sₚₗ Tₚₗ Xₚₗ Yₚₗ aₗ bhₚₗ blₚₗ bₗ cellsₚₗ ctₚₗ cₚₗ d1ₚₗ d2ₚₗ dcₚₗ dxₚₗ dₚₗ epₚₗ fsₚₗ fₚₗ gE9ₗ gₚₗ h9ₗ hcₚₗ hkₚₗ hmₗ hoₚₗ hpₗ hrₚₗ hshₚₗ hsₚₗ ht1ₚₗ ht2ₚₗ ht3ₚₗ ht4ₚₗ htₚₗ hvₗ hₗ hₚₗ kₚₗ l1ₗ l1ₚₗ l2ₗ loₚₗ nNₗ nₚₗ ocₚₗ oₚₗ psₚₗ pₗ qₗ qₚₗ sₚₗ t1ₗ t1ₚₗ t2ₗ t9ₗ tcₚₗ tk9ₗ tkₚₗ tvₚₗ tₚₗ u1ₚₗ u2ₚₗ v1ₚₗ vsₚₗ vₗ vₚₗ xₚₗ))
  (k_with "own getMethod ref" => ((k_here; (with_reducible show wpAny _ _ (getMethod (Value.ref _) (PySem.Str.ofString "append") _) _ _ _); k_dflt (walk_at "R method_biN F X N i1 i2 a b c d e _"; (case F => k_asm); (case X => k_asm); (case N => k_asm); (case i1 => k_mem); (case i2 => k_mem); (case a => k_is); (case b => k_is); (case c => k_is); (case d => k_is); (case e => kernel_rfl); k_whole))))
  (k_with "own call builtin:list.append" => ((k_here; (with_reducible show wpAny _ _ (call (Value.builtin _) [Value.ref _, _]) _ _ _); k_dflt (walk_at "R append_accN F X N i2 a U z _"; (case F => k_asm); (case X => k_asm); (case N => k_asm); (case U => k_upd); (case i2 => k_mem); (case a => k_is); (case z => k_asm); k_whole); intro hₚₗ Fₚₗ Nₚₗ; (try k_sweep))))
  (k_with "own getMethod ref" => ((k_here; (with_reducible show wpAny _ _ (getMethod (Value.ref _) (PySem.Str.ofString "part_count") _) _ _ _); k_dflt (walk_at "R method_fnN F X N i1 i2 a b c d e _"; (case F => k_asm); (case X => k_asm); (case N => k_asm); (case i1 => k_mem); (case i2 => k_mem); (case a => k_is); (case b => k_is); (case c => k_is); (case d => k_is); (case e => kernel_rfl); k_whole))))
  (k_with "own getMethod ref" => ((k_here; (with_reducible show wpAny _ _ (getMethod (Value.ref _) (PySem.Str.ofString "push") _) _ _ _); k_dflt (walk_at "R method_fnN F X N i1 i2 a b c d e _"; (case F => k_asm); (case X => k_asm); (case N => k_asm); (case i1 => k_mem); (case i2 => k_mem); (case a => k_is); (case b => k_is); (case c => k_is); (case d => k_is); (case e => kernel_rfl); k_whole))))
  (k_with "own getMethod ref" => ((k_here; (with_reducible show wpAny _ _ (getMethod (Value.ref _) (PySem.Str.ofString "pop") _) _ _ _); k_dflt (walk_at "R method_fnN F X N i1 i2 a b c d e _"; (case F => k_asm); (case X => k_asm); (case N => k_asm); (case i1 => k_mem); (case i2 => k_mem); (case a => k_is); (case b => k_is); (case c => k_is); (case d => k_is); (case e => kernel_rfl); k_whole))))
  (k_with "own getMethod ref" => ((k_here; (with_reducible show wpAny _ _ (getMethod (Value.ref _) (PySem.Str.ofString "reset") _) _ _ _); k_dflt (walk_at "R method_fnN F X N i1 i2 a b c d e _"; (case F => k_asm); (case X => k_asm); (case N => k_asm); (case i1 => k_mem); (case i2 => k_mem); (case a => k_is); (case b => k_is); (case c => k_is); (case d => k_is); (case e => kernel_rfl); k_whole))))
  (k_with "own getMethod ref" => ((k_here; (with_reducible show wpAny _ _ (getMethod (Value.ref _) (PySem.Str.ofString "__len__") _) _ _ _); k_dflt (walk_at "S7"; (case F => k_asm); (case X => k_asm); (case N => k_asm); (case i0 => k_mem); (case i1 => k_mem); (case i2 => k_mem); (case a => k_is); (case b => ks_is); (case c => k_is); (case d => decide); intro qₚₗ hₚₗ Fₚₗ Nₚₗ l1ₗ; (try k_lt l1ₗ)))))
  (k_with "own getMethod ref" => ((k_here; (with_reducible show wpAny _ _ (getMethod (Value.ref _) (PySem.Str.ofString "pop") _) _ _ _); k_dflt (walk_at "R super_pop F X N i0 i1 i2 a b c d _"; (case F => k_asm); (case X => k_asm); (case N => k_asm); (case i0 => k_mem); (case i1 => k_mem); (case i2 => k_mem); (case a => k_is); (case b => ks_is); (case c => k_is); (case d => decide); intro qₚₗ hₚₗ Fₚₗ Nₚₗ l1ₗ; (try k_lt l1ₗ)))))
  (k_with "own callWith ref" => ((k_here; k_dflt (walk_at "R callWith_bound0 N q b _"; (case N => k_asm); (case q => k_mem); (case b => first | exact .inl rfl | exact .inr rfl); k_whole))))
  (k_with "own call ref" => ((k_here; k_dflt (walk_at "R call_len N q i _"; (case N => k_asm); (case q => k_mem); (case i => k_mem); k_whole))))
  (k_with "own ent_super" => ((walk_at "R ks_code_super k1 k2 k3 k4 k5 kA kF kK k6 k7 k8 k9 kB _ c1 c2 c3 c4"; (case kA => exact rfl); (case kF => exact rfl); (case kK => first | exact rfl | assumption); (case k1 => k_asm); (case k2 => k_asm); (case k3 => k_asm); (case k4 => k_asm); (case k5 => k_asm); (case k6 => k_is); (case k7 => k_is); (case k8 => ktr_room); (case k9 => first | exact BindsTo.of_eq rfl | exact binds_K (by k_in) rfl (by k_is) rfl rfl rfl); (case kB => exact locs rfl); (case c1 => decide); (case c2 => exact rfl); (case c3 => exact rfl); (case c4 => exact rfl); intro gₚₗ Lₚₗ hₚₗ FGₚₗ Fₚₗ Nₚₗ Bₚₗ Xₚₗ Tₚₗ l1ₗ; (try dsimp only); (try k_fold))))
  (k_with "own drop" => (((with_reducible rename News _ _ _ _ => nNₗ); intro pₗ hpₗ; first | exact nNₗ pₗ hpₗ | exact nNₗ pₗ (.tail _ hpₗ) | exact nNₗ pₗ (.tail _ (.tail _ hpₗ)) | exact nNₗ pₗ (.tail _ (.tail _ (.tail _ hpₗ))) | exact nNₗ pₗ (.tail _ (.tail _ (.tail _ (.tail _ hpₗ)))) | exact nNₗ pₗ (.tail _ (.tail _ (.tail _ (.tail _ (.tail _ hpₗ))))))))
  (k_with "own wpAt" => ((k_here; (fail_if_success ks_step "eval Call"); (fail_if_success ks_step "exec Return"); (fail_if_success ks_step "execs cons"); (fail_if_success ks_step "exec If"); (fail_if_success ks_step "attributeBase Call"); dsimp only)))
  (k_with "own wpAt" => ((k_here; ks_step "eval Call"; with_unfolding_all refine ks_wpAt_MethodCall ?_)))
  (k_with "own call ref" => ((k_here; k_dflt (walk_at "R call_pop F X N q i a b c U z _"; (case F => k_asm); (case X => k_asm); (case N => k_asm); (case q => k_mem); (case U => k_upd); (case i => k_mem); (case a => k_is); (case b => kernel_rfl); (case c => k_is); (case z => k_asm); k_whole; intro hₚₗ Fₚₗ Nₚₗ; (try k_sweep)))))
  (k_with "own ent" => ((walk_at "R code_def k1 k2 k3 k4 k5 kA kF kK k6 k7 k8 k9 kB _ c2 c3 c4 c5"; (case kA => exact rfl); (case kF => exact rfl); (case kK => first | exact rfl | assumption); (case k1 => k_asm); (case k2 => k_asm); (case k3 => k_asm); (case k4 => k_asm); (case k5 => k_asm); (case k6 => k_is); (case k7 => k_is); (case k8 => ktr_room); (case k9 => first | exact BindsTo.of_eq rfl | exact binds_K (by k_in) rfl (by k_is) rfl rfl rfl); (case c5 => decide); (case kB => exact locs rfl); (case c2 => exact rfl); (case c3 => exact rfl); (case c4 => exact rfl); k_whole; intro gₚₗ Lₚₗ hₚₗ FGₚₗ Fₚₗ Nₚₗ Bₚₗ Xₚₗ Tₚₗ; (try dsimp only); (try k_fold))))
  (k_with "own setItem ref" => ((k_here; (with_reducible show wpAny _ _ (setItem (Value.ref _) (Value.ref _) (Value.ref _)) _ _ _); k_dflt (dsimp only; walk_at "R setitemN F X N h2 hl yl a b c U z z' _"; (case F => k_asm); (case X => k_asm); (case N => k_asm); (case U => k_updF); (case h2 => k_mem); (case hl => k_mem); (case yl => k_asm); (case a => k_is); (case b => kernel_rfl); (case c => k_is); (case z => k_asm); (case z' => k_asm); intro hₚₗ epₚₗ Fₚₗ Nₚₗ; (try dsimp only [List.nil_append, List.cons_append] at Nₚₗ); (try k_sweep)))))
  (k_with "own setAttr ref" => ((k_here; (with_reducible show wpAny _ _ (setAttr (Value.ref _) (PySem.Str.ofString "_initial_size") _) _ _ _); k_dflt (dsimp only; walk_at "R set_acc F X N h1 a b c U _"; (case F => k_asm); (case X => k_asm); (case N => k_asm); (case h1 => k_mem); (case U => k_updF); (case a => k_is); (case b => kernel_rfl); (case c => kernel_rfl); intro hₚₗ Fₚₗ Nₚₗ; (try dsimp only [List.nil_append, List.cons_append] at Nₚₗ); (try k_sweep)))))
  (k_with "own exec For" => ((k_here; refine for_start ?_ (by intro _; rfl))))
  (k_with "own call type:enumerate" => ((k_here; refine stop_here ?_)))
  (k_with "own compareOp Is str str" => ((k_here; walk_at "R is_same F X bₗ c d _"; (case F => k_asm); (case X => k_asm); (case bₗ => kernel_rfl); (case c => assumption); (case d => assumption); (intro bₗ; cases bₗ))))
  (k_with "own compareOp Is str str" => ((k_here; walk_at "R is_diff a b c d _"; (case a => assumption); (case b => assumption); (case c => assumption); (case d => assumption))))
  (k_with "own eval Name" => ((k_here; (with_reducible show wpAny _ _ (eval (PySem.Expr.Name _ _) (envOf _ _ _ _ _)) _ _ _); k_dflt (walk_at "R ld k1 k2 _"; (case k1 => k_asm); (case k2 => first | exact rfl | with_reducible assumption | assumption); k_whole))))
  (k_with "own execs cons" => ((k_here; (with_reducible refine wpAny_execs_cons ?_); try dsimp only)))
  (k_with "own execs nil" => ((k_here; refine wpAny_execs_nil ?_; try dsimp only)))
  (k_with "own subscriptTail" => ((k_here; (with_reducible show wpAny _ _ (subscriptTail _ _ (Value.ref _) (Value.int _ _)) _ _ _); k_dflt (walk_at "R item_tupleL l a b c d _"; (case l => exact News.isTup (by k_asm) (by k_mem)); (case a => first | decide | omega); (case b => first | decide | omega); (case c => first | rfl | assumption | decide); (case d => first | rfl | assumption | simp); k_whole))))
  (k_with "own subscriptTail" => ((k_here; (with_reducible show wpAny _ _ (subscriptTail _ _ (Value.ref _) (Value.int _ _)) _ _ _); k_dflt (walk_at "R item_listL l a b d _"; (case l => exact News.isList (by k_asm) (by k_mem)); (case a => first | decide | omega | assumption); (case b => first | decide | omega | assumption); (case d => first | rfl | assumption | simp); k_whole))))
  (k_with "own sz" => ((k_here; first | assumption | (simp only [Array.size_push, List.size_toArray, List.length_append, List.length_reverse, List.length_cons, List.length_nil, Array.size_empty] at *; omega))))
  (k_with "own om" => ((k_here; first | assumption | decide | omega | (dsimp only; omega))))
  (k_with "own call ref" => ((k_here; k_dflt (show wpAny _ _ (call (Value.ref 128) [Value.ref _]) _ _ _); k_dflt (walk_at "R count_U B F X T hk N h1 h2 hd _"; (case B => k_asm); (case F => k_asm); (case X => k_asm); (case T => k_asm); (case hk => first | exact rfl | assumption); (case N => k_asm); (case h1 => k_mem); (case h2 => k_mem); (case hd => ktr_room); intro hₚₗ tkₚₗ tₚₗ Fₚₗ Nₚₗ htₚₗ; (try dsimp only at htₚₗ); (try k_sweep)))))
  (k_with "own call ref" => ((k_here; k_dflt (show wpAny _ _ (call (Value.ref 91) [Value.ref _]) _ _ _); k_dflt (walk_at "R pop_U B F X T hk N h2 hd dx U z _"; (case B => k_asm); (case F => k_asm); (case X => k_asm); (case T => k_asm); (case hk => first | exact rfl | assumption); (case N => k_asm); (case U => k_updF); (case h2 => k_mem); (case hd => ktr_room); (case dx => k_ne); (case z => walk_at "sz"); intro hₚₗ tkₚₗ Fₚₗ Nₚₗ htₚₗ; (try dsimp only at htₚₗ); (try dsimp only [List.nil_append, List.cons_append] at Nₚₗ); (try k_sweep)))))
  (k_with "own call ref" => ((k_here; k_dflt (show wpAny _ _ (call (Value.ref 75) [Value.ref _, Value.str _ _, Value.str _ _]) _ _ _); k_dflt (walk_at "R push_U B F X T hk N h2 hd hu dx U z _"; (case B => k_asm); (case F => k_asm); (case X => k_asm); (case T => k_asm); (case hk => first | exact rfl | assumption); (case N => k_asm); (case U => k_updF); (case h2 => k_mem); (case hd => ktr_room); (case hu => ktr_room); (case dx => k_ne); (case z => walk_at "sz"); intro qₚₗ hₚₗ tkₚₗ Fₚₗ Nₚₗ htₚₗ; (try dsimp only at htₚₗ); (try dsimp only [List.nil_append, List.cons_append] at Nₚₗ); (try k_sweep)))))
  (k_with "own call ref" => ((k_here; k_dflt (show wpAny _ _ (call (Value.ref 131) []) _ _ _); k_dflt (walk_at "R make_U0 B F X T hk N hd _"; (case B => k_asm); (case F => k_asm); (case X => k_asm); (case T => k_asm); (case hk => first | exact rfl | assumption); (case N => k_asm); (case hd => ktr_room); intro xₚₗ dxₚₗ epₚₗ hshₚₗ tₚₗ vₚₗ nₚₗ hₚₗ tkₚₗ Fₚₗ Nₚₗ l1ₗ l2ₗ htₚₗ; (try dsimp only at htₚₗ); (try k_sweep)))))
  (k_with "own call ref" => ((k_here; k_dflt (show wpAny _ _ (call (Value.ref 131) [Value.int _ _]) _ _ _); k_dflt (walk_at "R make_U1 B F X T hk N hd _"; (case B => k_asm); (case F => k_asm); (case X => k_asm); (case T => k_asm); (case hk => first | exact rfl | assumption); (case N => k_asm); (case hd => ktr_room); intro xₚₗ dxₚₗ epₚₗ hshₚₗ tₚₗ nₚₗ hₚₗ tkₚₗ Fₚₗ Nₚₗ l1ₗ l2ₗ htₚₗ; (try dsimp only at htₚₗ); (try k_sweep)))))
  (k_with "own call ref" => ((k_here; k_dflt (show wpAny _ _ (call (Value.ref 177) [Value.str _ _, Value.str _ _]) _ _ _); k_dflt (walk_at "R idx_spec B F X N T hk hd ha t0 t1 kk lt _"; (case B => k_asm); (case F => k_asm); (case X => k_asm); (case T => k_asm); (case hk => first | exact rfl | assumption); (case N => k_asm); (case hd => ktr_room); (case ha => decide +kernel); (case t0 => walk_at "om"); (case t1 => walk_at "om"); (case kk => assumption); (case lt => assumption); intro tvₚₗ hₚₗ tkₚₗ Fₚₗ Nₚₗ htₚₗ; (try dsimp only at htₚₗ); (try k_sweep)))))
  (k_with "own call ref" => ((k_here; k_dflt (show wpAny _ _ (call (Value.ref 170) [Value.str _ _, Value.int _ _]) _ _ _); k_dflt (walk_at "R item_str B F X N T hk hd i0 i1 ix _"; (case B => k_asm); (case F => k_asm); (case X => k_asm); (case T => k_asm); (case hk => first | exact rfl | assumption); (case N => k_asm); (case hd => ktr_room); (case i0 => walk_at "om"); (case i1 => first | assumption | decide +kernel); (case ix => decide +kernel); intro tvₚₗ hₚₗ tkₚₗ Fₚₗ Nₚₗ ht1ₚₗ ht2ₚₗ; (try dsimp only at ht1ₚₗ); (try k_sweep)))))
  (k_with "own eval ListComp" => ((k_here; k_dflt (walk_at "S8"; (case c1 => with_unfolding_all rfl); (case c2 => decide); (case c3 => exact rfl); (case c4 => decide); (case c5 => exact rfl); (case c6 => (intro _; rfl))))))
  (k_with "own pyIter ref" => ((k_here; (with_reducible show wpAny _ _ (pyIter (Value.ref _)) (fun it s₂ => CompRest _ _ _ _ _ _ _ _ _ _ _ _ it s₂) _ _); k_dflt (walk_at "R comp_acc hh F X N h1 h2 a b z c d e _"; (case hh => exact rfl); (case F => k_asm); (case X => k_asm); (case N => k_asm); (case h1 => k_mem); (case h2 => k_mem); (case a => k_is); (case b => k_is); (case z => walk_at "sz"); (case c => exact rfl); (case d => exact rfl); (case e => decide); intro Dₚₗ kₚₗ hₚₗ tkₚₗ Fₚₗ Nₚₗ l1ₚₗ htₚₗ; (try dsimp only at htₚₗ); (try k_sweep)))))
  (k_with "own call ref" => ((k_here; k_dflt (show wpAny _ _ (call (Value.ref 113) [Value.ref _, Value.ref _]) _ _ _); k_dflt (walk_at "R reset_U B F X T hk N hl hd dx hx hx2 z z2 _"; (case B => k_asm); (case F => k_asm); (case X => k_asm); (case T => k_asm); (case hk => first | exact rfl | assumption); (case N => k_asm); (case hl => k_mem); (case hd => ktr_room); (case dx => k_ne); (case hx => k_all); (case hx2 => k_all); (case z => walk_at "sz"); (case z2 => walk_at "sz"); intro hₚₗ tkₚₗ tₚₗ vₚₗ nₚₗ epₚₗ Fₚₗ Nₚₗ htₚₗ; (try dsimp only at htₚₗ); (try k_sweep)))))
  (k_with "own exec While" => ((k_here; refine stop_here ?_)))
  (k_with "own exec While Compare" => ((k_here; refine stop_here ?_)))
  (k_with "own ent_cell" => ((walk_at "R code_defCT k1 k2 k3 k4 k5 kA kF kK k6 k7 k8 k9 kB kD _ c2 c3 c4"; (case kA => exact rfl); (case kF => exact rfl); (case kK => first | exact rfl | assumption); (case k1 => k_asm); (case k2 => k_asm); (case k3 => k_asm); (case k4 => k_asm); (case k5 => k_asm); (case k6 => k_is); (case k7 => k_is); (case k8 => ktr_room); (case k9 => first | exact BindsTo.of_eq rfl | exact binds_K (by k_in) rfl (by k_is) rfl rfl rfl); (case kB => exact rfl); (case kD => decide +kernel); (case c2 => exact rfl); (case c3 => exact rfl); (case c4 => exact rfl); k_whole; intro gₚₗ Lₚₗ hₚₗ tkₚₗ cellsₚₗ htₚₗ FGₚₗ Fₚₗ Nₚₗ Yₚₗ Bₚₗ Sₚₗ Xₚₗ Tₚₗ l1ₗ; (try k_lt l1ₗ); k_cells Yₚₗ; (try simp only [List.cons_append, List.nil_append] at Nₚₗ); (try dsimp only); (try k_fold))))
  (k_with "own ent_more" => ((walk_at "R kp_more k1 k2 k3 k4 k5 kA kF kK k6 k7 k8 kX kM kN kD kR kP kT kB _ c2 c3 c4 c5"; (case kA => exact rfl); (case kF => exact rfl); (case kK => first | exact rfl | assumption); (case k1 => k_asm); (case k2 => k_asm); (case k3 => k_asm); (case k4 => k_asm); (case k5 => k_asm); (case k6 => k_is); (case k7 => k_is); (case k8 => ktr_room); (case kX => kp_lit); (case kM => exact rfl); (case kN => exact rfl); (case kD => kp_flats); (case kR => exact rfl); (case kP => exact rfl); (case kT => exact fun _ => rfl); (case kB => exact fun _ => locs rfl); (case c5 => decide); (case c2 => exact rfl); (case c3 => exact rfl); (case c4 => exact rfl); k_whole; intro Dₚₗ oₚₗ gₚₗ Lₚₗ hₚₗ tkₚₗ l1ₗ loₚₗ hsₚₗ fsₚₗ FGₚₗ Fₚₗ Nₚₗ Bₚₗ Xₚₗ Tₚₗ; (try k_lt l1ₗ); (try dsimp only); (try k_fold))))
  (k_with "own callWith ref" => ((k_here; (with_reducible show wpAny _ _ (callWith _ _ [] _ (backToKw _ (keywordEach [PySem.Keyword.mk none _ _] _))) _ _ _); k_dflt (walk_at "R star_callD F N hk hx hxl hxd hy hyl hyd ha hod hkl hsys hf hfo _"; (case F => k_asm); (case N => k_asm); (case hk => exact rfl); (case hx => first | exact rfl | assumption); (case hxl => exact rfl); (case hxd => decide); (case hy => first | exact rfl | assumption); (case hyl => exact rfl); (case hyd => decide); (case ha => k_mem); (case hod => assumption); (case hkl => simp); (case hsys => assumption); (case hf => k_mem); (case hfo => exact rfl); intro hₚₗ dₚₗ oₚₗ Fₚₗ Nₚₗ; (try k_sweep)))))
  (k_with "own call ref" => ((k_here; k_dflt (show wpAny _ _ (call (Value.ref 51) _ _) _ _ _); refine wpAny_with_toks (Nat.le_refl _) ?_; refine wpAny_call ?_; k_dflt (walk_at "ent_more"))))
  (k_with "own call ref" => ((k_here; k_dflt (refine wpAny_call ?_; walk_at "R kdv_code k1 k2 k3 k4 k5 kA kF kK k6 k7 k8 k9 kB _ c2 c3 c4 c5"; (case kA => exact rfl); (case kF => exact rfl); (case kK => first | exact rfl | assumption); (case k1 => k_asm); (case k2 => k_asm); (case k3 => k_asm); (case k4 => k_asm); (case k5 => k_asm); (case k6 => k_mem); (case k7 => exact codeRec_news (by k_asm) (by k_mem) (by assumption) (by assumption)); (case k8 => ktr_room); (case k9 => kdv_bind); (case c5 => decide); (case kB => exact locs rfl); (case c2 => exact rfl); (case c3 => exact rfl); (case c4 => exact rfl); k_whole; intro gₚₗ Lₚₗ hₚₗ FGₚₗ Fₚₗ Nₚₗ Bₚₗ Xₚₗ Tₚₗ; (try dsimp only); (try k_fold)))))
  (k_with "own call ref" => ((k_here; k_dflt (show wpAny _ _ (call (Value.ref 170) [Value.ref _, Value.int _ _]) _ _ _); k_dflt (walk_at "R get_list B F X N T hk hd l i0 i1 v _"; (case B => k_asm); (case F => k_asm); (case X => k_asm); (case T => k_asm); (case hk => first | exact rfl | assumption); (case N => k_asm); (case hd => ktr_room); (case l => k_mem); (case i0 => walk_at "om"); (case i1 => walk_at "om"); (case v => assumption); intro hₚₗ tkₚₗ Fₚₗ Nₚₗ htₚₗ; (try dsimp only at htₚₗ); (try k_sweep)))))
  (k_with "own call ref" => ((k_here; k_dflt (show wpAny _ _ (call (Value.ref 170) [Value.ref _, Value.int _ _]) _ _ _); k_dflt (walk_at "R get_pair B F X T hk N hd l i _"; (case B => k_asm); (case F => k_asm); (case X => k_asm); (case T => k_asm); (case hk => first | exact rfl | assumption); (case N => k_asm); (case hd => ktr_room); (case l => k_mem); (case i => first | assumption | exact fmod2 _ | decide | omega); intro hₚₗ tkₚₗ Fₚₗ Nₚₗ htₚₗ; (try dsimp only at htₚₗ); (try k_sweep)))))
  (k_with "own makeTail" => ((k_here; refine wpAny_with_toks (Nat.le_refl _) ?_; k_dflt (walk_at "R kdv_nest F N T C cd U t n cl _"; (case F => k_asm); (case N => k_asm); (case T => k_asm); (case cd => exact rfl); (case C => kn_code); (case U => k_updF); (case t => kn_triples); (case n => kn_among); (case cl => exact rfl); k_whole); intro fₚₗ cₚₗ ocₚₗ vsₚₗ tₚₗ ctₚₗ dcₚₗ hₚₗ tkₚₗ Fₚₗ Nₚₗ d1ₚₗ d2ₚₗ l1ₗ l2ₗ htₚₗ; (try dsimp only at Nₚₗ); (try k_lt l1ₗ); (try k_lt2 l2ₗ); (try dsimp only at htₚₗ))))
  (k_with "own eval Name" => ((k_here; k_dflt (walk_at "R nameX_L k1 k2 _ c1 c2 c3"; (case k1 => k_asm); (case k2 => first | exact rfl | assumption); (case c1 => exact rfl); (case c2 => exact rfl); (case c3 => decide); k_whole))))
  (k_with "own call ref" => ((k_here; k_dflt (first | (show wpAny _ _ (call (Value.ref 142) _) _ _ _) | (show wpAny _ _ (call (Value.ref 149) _) _ _ _) | (show wpAny _ _ (call (Value.ref 156) _) _ _ _) | (show wpAny _ _ (call (Value.ref 163) _) _ _ _)); refine wpAny_call ?_; k_dflt (walk_at "ent"))))
  (k_with "own eval Name" => ((k_here; k_dflt (first | (walk_at "R nameX_L F v _ a b"; (case F => k_asm); (case a => rfl); (case b => rfl); (case v => first | rfl | with_reducible assumption); k_whole) | (walk_at "R nameX_K F X T e _ a b"; (case F => k_asm); (case X => k_asm); (case T => k_asm); (case a => rfl); (case b => rfl); (case e => k_is); k_whole)))))
  (k_with "own subscriptTail Name Constant ref int" => ((k_here; k_dflt (first | (walk_at "R item_listL l a b d _"; (case l => exact News.isList (by with_reducible assumption) (by k_mem)); (case a => decide); (case b => first | decide | omega); (case d => exact rfl); k_whole) | (walk_at "R item_tupleL l a b c d _"; (case l => exact News.isTup (by with_reducible assumption) (by k_mem)); (case a => decide); (case b => decide); (case c => first | rfl | assumption | decide); (case d => first | rfl | assumption | simp); k_whole)))))
  (k_with "own subscriptTail Name Name ref int" => ((k_here; k_dflt (walk_at "R item_listL l a b d _"; (case l => exact News.isList (by with_reducible assumption) (by k_mem)); (case a => decide); (case b => first | decide | omega); (case d => exact rfl); k_whole))))
  (k_with "own callWith ref" => ((k_here; (with_reducible show wpAny _ _ (callWith _ (Value.ref (OfNat.ofNat _)) _ _ _) _ _ _); k_dflt (first | (walk_at "R callWith_K k1 k2 _"; (case k1 => with_reducible assumption); (case k2 => k_is); k_whole) | (walk_at "R callWith_K0 k1 k2 _"; (case k1 => exact Frag.In.keeps (by with_reducible assumption) (Fr.keep (by with_reducible assumption))); (case k2 => k_is); k_whole)))))
  (k_with "own subscriptTail List" => ((k_here; k_dflt (walk_at "R item_listL l a b d _"; (case l => exact News.isList (by with_reducible assumption) (by k_mem)); (case a => decide); (case b => first | decide | omega); (case d => exact rfl); k_whole))))
  trivial
theorem Pcs.snoc {B : Nat} {tl : List (Addr × Obj)} : ∀ {vs : List Value} {v : Value} {ps : List (Nat × Nat)}, Pcs B tl (vs ++ [v]) ps → ∃ qs p, ps = qs ++ [p] ∧ Pcs B tl vs qs ∧ Pc B tl v p
  | [], v, [p], h => ⟨[], p, rfl, trivial, h.1⟩
  | [], v, [], h => h.elim
  | [], v, _ :: _ :: _, h => h.2.elim
  | u :: vs, v, [], h => h.elim
  | u :: vs, v, p :: ps, h => by
    obtain ⟨qs, q, e, a, b⟩ := Pcs.snoc h.2
    exact ⟨p :: qs, q, by rw [e]; rfl, ⟨h.1, a⟩, b⟩
theorem abcd_at {j : Nat} (h : j < 4) : (Str.ofString "abcd").cps[j]? = some (97 + j) ∧ ∀ i, i < j → (Str.ofString "abcd").cps[i]? ≠ some (97 + j) := by
  have a : (Str.ofString "abcd").cps = #[97, 98, 99, 100] := by decide +kernel
  rw [a]
  have : j = 0 ∨ j = 1 ∨ j = 2 ∨ j = 3 := by omega
  rcases this with rfl | rfl | rfl | rfl
  · exact ⟨rfl, fun i hi => absurd hi (Nat.not_lt_zero _)⟩
  · exact ⟨rfl, fun i hi => by have : i = 0 := by omega
                               subst this; decide⟩
  · exact ⟨rfl, fun i hi => by have : i = 0 ∨ i = 1 := by omega
                               rcases this with rfl | rfl <;> decide⟩
  · exact ⟨rfl, fun i hi => by have : i = 0 ∨ i = 1 ∨ i = 2 := by omega
                               rcases this with rfl | rfl | rfl <;> decide⟩
theorem num_at {n0 n1 n2 n3 n4 : Int} {u0 u1 u2 u3 u4 : Tok} {j : Nat} (h : j < 5) : ∃ n u, [Value.int n0 u0, .int n1 u1, .int n2 u2, .int n3 u3, .int n4 u4][((j : Nat) : Int).toNat]? = some (.int n u) ∧ n = [n0, n1, n2, n3, n4].getD j 0 := by
  have : j = 0 ∨ j = 1 ∨ j = 2 ∨ j = 3 ∨ j = 4 := by omega
  rcases this with rfl | rfl | rfl | rfl | rfl <;> exact ⟨_, _, rfl, rfl⟩
theorem num_bound {n0 n1 n2 n3 n4 : Int} {j : Nat} (h : j < 5) (hb : ∀ v ∈ [n0, n1, n2, n3, n4], -(2 ^ 60) ≤ v ∧ v ≤ 2 ^ 60) : -(2 ^ 60) ≤ [n0, n1, n2, n3, n4].getD j 0 ∧ [n0, n1, n2, n3, n4].getD j 0 ≤ 2 ^ 60 := by
  apply hb
  have : j = 0 ∨ j = 1 ∨ j = 2 ∨ j = 3 ∨ j = 4 := by omega
  rcases this with rfl | rfl | rfl | rfl | rfl <;> simp
theorem news_pick {h₀ h : Heap} {L : Addr} {a b : Addr × Obj} {news big : List (Addr × Obj)} (N : News h₀ L h big) (ha : a ∈ big) (hb : b ∈ big) (hs : ∀ p ∈ news, p ∈ big) : News h₀ L h (a :: b :: news) := by
  intro p hp
  rcases List.mem_cons.mp hp with h | hp
  · subst h; exact N _ ha
  rcases List.mem_cons.mp hp with h | hp
  · subst h; exact N _ hb
  · exact N _ (hs _ hp)
theorem worth_neg (nums : List Int) (j : Nat) : worth nums (45, 97 + j) = - nums.getD j 0 := by
  unfold worth
  rw [if_pos rfl, show (45, 97 + j).2 - 97 = j from by show 97 + j - 97 = j; omega]
theorem worth_pos (nums : List Int) (j : Nat) : worth nums (43, 97 + j) = nums.getD j 0 := by
  unfold worth
  rw [if_neg (show ¬ ((43 : Nat) = 45) from by decide), show (43, 97 + j).2 - 97 = j from by show 97 + j - 97 = j; omega]
theorem mul_ok_b {a b : Int} (h : -(2 ^ 60) ≤ a ∧ a ≤ 2 ^ 60) : IntMulOk a b := .of_left (intBits_le_64 (by omega) (by omega))
theorem read_regroup {h₀ h : Heap} {L : Addr} {d f c t x b r dr : Addr × Obj} {news : List (Addr × Obj)} (N : News h₀ L h (d :: f :: c :: t :: x :: b :: r :: dr :: news)) :
    ∃ TT, TT = d :: f :: c :: t :: x :: b :: news ∧ News h₀ L h (r :: dr :: TT) ∧ d ∈ TT ∧ f ∈ TT ∧ c ∈ TT ∧ t ∈ TT ∧ x ∈ TT ∧ b ∈ TT ∧ ∀ p ∈ news, p ∈ TT := by
  refine ⟨_, rfl, fun p hp => N p ?_, by simp, by simp, by simp, by simp, by simp, by simp, fun p hp => by simp [hp]⟩
  simp only [List.mem_cons] at hp ⊢
  rcases hp with h | h | h | h | h | h | h | h | h <;> simp [h]
theorem read_spec {w : World} {pT : Program} {loose : List Str} {mean : ExcName → Option Value} {mg mb : Str → Option Value}
    {dp un : Nat} {gd : Option (List Code)} {cn : Str} {cs : Scope} {a : Addr} {ccd : Value} {cl : List (Str × Addr)} {outer : List Env} {A₀ : Around} {base h₀ : Heap} {L : Addr} {m : Str → Option Value} {s : Shared}
    {Q E : Value → Shared → Prop} {news : List (Addr × Obj)}
    (B : Below A₀ base outer h₀) (F : Fr h₀ L s.heap m) (X : (pre.heap_1 w.params).In h₀) (T : Top pT loose mean mg mb h₀) (hk : cs.kind = .function) {row drow ln : Addr} {its : List Value} {ep k n : Nat} {hsh : Int} {tz : Tok} {v0 : Value} {n0 n1 n2 n3 n4 : Int} {u0 u1 u2 u3 u4 : Tok} {P : List (Nat × Nat)}
    (N : News h₀ L s.heap ((213, tabObj #[]) :: (row, accObj drow its.toArray ep) :: (drow, sizeDict hsh tz v0 n) :: news)) (hl : (ln, listOf [.int n0 u0, .int n1 u1, .int n2 u2, .int n3 u3, .int n4 u4].toArray k) ∈ news) (hd1 : dp + 10 < recursionLimit) (hu1 : un + 20 < cLine)
    (hx : ∀ p ∈ news, p.1 ≠ row) (hne : drow ≠ row) (hP : Pcs s.toks news its P) (hsz : its.length ≤ 31) (hsp : Signs P) (hnm : ∀ p ∈ P, ∃ j, j < 4 ∧ p.2 = 97 + j) (hC : CodeHd h₀ 217 213) (h1 : row ≠ 213) (h2 : drow ≠ 213) (hx2 : ∀ p ∈ news, p.1 ≠ 213) (hnb : ∀ v ∈ [n0, n1, n2, n3, n4], -(2 ^ 60) ≤ v ∧ v ≤ 2 ^ 60)
    (hret : ∀ q t1 t2 ps h' tk', Fr h₀ L h' m → News h₀ L h' ((q, ({ cls := .type "tuple", data := .seq #[.int (readV [n0, n1, n2, n3, n4] P).1 t1, .int (readV [n0, n1, n2, n3, n4] P).2 t2] } : Obj)) :: (213, tabObj ps) :: news) → s.toks ≤ tk' → Q (.ref q) { s with heap := h', toks := tk' }) :
    wpAny (model PR w) (ktrTop dp un gd cn cs L a ccd cl outer) (call (.ref 218) [.ref row, .ref ln]) Q E s := by
  have h1 := neN h1.symm
  have h2 := neN h2.symm
  refine wpAny_call ?_
  k_dflt (walk_at "ent_cell")
  rename Heap.StaysIn h₀ _ => hS
  have hC2 := hC.keeps hS
  k_steps
  walk_at "shade"
  rename_i tT hT lT f' c' oc' vs' tq ctv dcv hM tkM dM1 dM2 lM1 lM2 htM hS1 D' hN lD hS2 hS3 hE FE NE
  walk_at "bare"
  obtain ⟨TT, eT, NT, mD, mf, mc, mt, mx, mb, mn⟩ := read_regroup NE
  have apT : ∀ p ∈ TT, p.1 ≠ row := by
    rw [eT]
    intro p hp
    simp only [List.mem_cons] at hp
    rcases hp with rfl | rfl | rfl | rfl | rfl | rfl | hp
    all_goals first | exact hx p hp | (refine neN ?_; dsimp only; omega)
  have hPT : Pcs s.toks TT its P := hP.mono (Nat.le_refl _) mn
  have hlT := mn _ hl
  clear NE
  unfold Stop
  refine whl_start 0 ?_
  refine' whl_led ?hE ?hF ?hN (fun k m₁ n₁ tk => m₁ "row" = some (.ref row) ∧ m₁ "lookup" = some (.ref f') ∧ ∃ its' ep' top bot tt tb, m₁ "top" = some (.int top tt) ∧ m₁ "bottom" = some (.int bot tb) ∧ n₁ = (row, accObj drow its'.toArray ep') :: (drow, sizeDict hsh tz v0 n) :: TT ∧ its'.length = k ∧ Pcs tk TT its' (P.take k) ∧ (top, bot) = conv [n0, n1, n2, n3, n4] (P.drop k)) its.length ?h0 ?turn
  case hE => first | passes_own | with_unfolding_all passes_own
  case hF => exact FE
  case hN => exact NT
  case h0 =>
    have hl' := hPT.len
    refine ⟨rfl, rfl, its, ep, _, _, _, _, rfl, rfl, rfl, rfl, ?_, ?_⟩
    · rw [List.take_of_length_le (by omega)]
      exact hPT.mono (by (try dsimp only at *); omega) fun _ h => h
    · rw [List.drop_of_length_le (by omega)]; rfl
  case turn =>
    (try clear FE); (try clear NT)
    rintro k m₃ news₃ h₃ tk₃ ⟨r1, r2, its', ep', top, bot, tt, tb, r3, r4, rfl, hk', hpr, hcv⟩ F₃ N₃ ht₃
    (try dsimp only at ht₃)
    have hor : its' = [] ∨ ∃ pre v, its' = pre ++ [v] := by
      rcases List.eq_nil_or_concat its' with h | ⟨pre, v, h⟩
      · exact .inl h
      · exact .inr ⟨pre, v, by simpa using h⟩
    rcases hor with rfl | ⟨pre, v, rfl⟩
    · subst hk'
      have hmC : IntMulOk n4 top := mul_ok_b (hnb n4 (by simp))
      replace hcv : (top, bot) = conv [n0, n1, n2, n3, n4] P := hcv
      have hv4 : [Value.int n0 u0, .int n1 u1, .int n2 u2, .int n3 u3, .int n4 u4][(4 : Int).toNat]? = some (.int n4 u4) := rfl
      k_steps
      rename News _ _ _ _ => nZ
      rename Fr _ _ _ _ => fZ
      have e1 : readV [n0, n1, n2, n3, n4] P = (n4 * top + bot, top) := by unfold readV; rw [← hcv]; rfl
      rw [e1] at hret
      dsimp only at hret
      refine hret _ _ _ _ _ _ fZ (news_pick nZ (List.mem_cons_self ..) (List.mem_cons_of_mem _ (List.mem_cons_of_mem _ (List.mem_cons_of_mem _ (List.mem_cons_of_mem _ (List.mem_cons_of_mem _ (List.mem_cons_of_mem _ mb)))))) fun p hp => ?_) (by (try dsimp only at *); omega)
      simp only [List.mem_cons]
      exact .inr (.inr (.inr (.inr (.inr (.inr (mn p hp))))))
    · obtain ⟨qs, p, eps, hpre, ⟨q, v1, v2, rfl, hq, d1, d2, d3, d4⟩⟩ := hpr.snoc
      have hpm : p ∈ P := List.mem_of_mem_take (eps ▸ List.mem_append_right _ (List.mem_cons_self ..))
      obtain ⟨j, hj, hpj⟩ := hnm p hpm
      have hsg := hsp p hpm
      obtain ⟨c, d⟩ := p
      have hd : d = 97 + j := hpj
      subst hd
      obtain ⟨ka, kb⟩ := abcd_at hj
      obtain ⟨nj, uj, hv, hnj⟩ := num_at (n0 := n0) (n1 := n1) (n2 := n2) (n3 := n3) (n4 := n4) (u0 := u0) (u1 := u1) (u2 := u2) (u3 := u3) (u4 := u4) (j := j) (by omega)
      have hnb1 := num_bound (j := j) (by omega) hnb
      rw [← hnj] at hnb1
      have hmA : IntMulOk nj top := mul_ok_b hnb1
      have hmB : IntMulOk (-nj) top := mul_ok_b (by omega)
      rw [← List.push_toArray] at N₃
      have hlen := hk'
      rw [List.length_append] at hlen
      have hszA : pre.toArray.size ≤ 1000 := by
        have := hP.len
        have h2 := congrArg List.length eps
        have h3 := hpre.len
        simp only [List.length_take, List.length_append, List.length_cons, List.length_nil, List.size_toArray] at *
        omega
      have htk : P.take pre.length = qs := by
        have h1 : (P.take k).take pre.length = qs := by
          rw [eps, List.take_append_of_le_length (by rw [hpre.len]; exact Nat.le_refl _), List.take_of_length_le (by rw [hpre.len]; exact Nat.le_refl _)]
        rw [← h1, List.take_take]
        congr 1
        simp only [List.length_cons, List.length_nil] at hlen
        omega
      have hdk : P.drop pre.length = (c, 97 + j) :: P.drop k := by
        have e1 : (P.take k ++ P.drop k).drop pre.length = (c, 97 + j) :: P.drop k := by
          rw [eps, hpre.len]
          simp
        rwa [List.take_append_drop] at e1
      have hkp : pre.length + 1 = k := by simpa using hlen
      k_steps
      refine WhlIf.yes (decide_eq_true (by first | (simp only [Array.size_push]; omega) | (simp; omega) | simp)) ?_
      k_steps
      all_goals (rename News _ _ _ _ => nZ; rename Fr _ _ _ _ => fZ)
      · have hc : c = 45 := by
          have e := eq_of_beq (by assumption : ((⟨#[c]⟩ : Str) == Str.ofString "-") = true)
          rcases hsg with hc | hc
          · exfalso; have hc : c = 43 := hc
            subst hc; revert e; decide +kernel
          · exact hc
        refine WBack.intro (k := pre.length) (news₂ := (row, accObj drow pre.toArray (ep' + 1)) :: (drow, sizeDict hsh tz v0 n) :: TT) fZ (fun p hp => nZ p (by simp only [List.mem_cons] at hp ⊢; rcases hp with h | h | h <;> simp [h])) (by (try dsimp only at *); omega) (by omega) ⟨r1, r2, pre, ep' + 1, _, _, _, _, rfl, rfl, rfl, rfl, ?_, ?_⟩
        · rw [htk]; exact hpre.mono (by (try dsimp only at *); omega) fun _ h => h
        · rw [hdk]
          show _ = (worth _ (c, 97 + j) * (conv _ (P.drop k)).1 + (conv _ (P.drop k)).2, (conv _ (P.drop k)).1)
          rw [← hcv, hnj, hc, worth_neg]
      · have hc : c = 43 := by
          rcases hsg with hc | hc
          · exact hc
          · exfalso; have hc : c = 45 := hc
            subst hc
            exact absurd (by assumption : ((⟨#[45]⟩ : Str) == Str.ofString "-") = false) (by decide +kernel)
        refine WBack.intro (k := pre.length) (news₂ := (row, accObj drow pre.toArray (ep' + 1)) :: (drow, sizeDict hsh tz v0 n) :: TT) fZ (fun p hp => nZ p (by simp only [List.mem_cons] at hp ⊢; rcases hp with h | h | h <;> simp [h])) (by (try dsimp only at *); omega) (by omega) ⟨r1, r2, pre, ep' + 1, _, _, _, _, rfl, rfl, rfl, rfl, ?_, ?_⟩
        · rw [htk]; exact hpre.mono (by (try dsimp only at *); omega) fun _ h => h
        · rw [hdk]
          show _ = (worth _ (c, 97 + j) * (conv _ (P.drop k)).1 + (conv _ (P.drop k)).2, (conv _ (P.drop k)).1)
          rw [← hcv, hnj, hc, worth_pos]
-- Frac
local macro_rules | `(tactic| walk_at "S9") => `(tactic| refine' super_slot (.inl rfl) ?F ?X ?N ?i0 ?i1 ?i2 ?a ?b ?c ?d ?_)
local macro_rules | `(tactic| walk_at "S10") => `(tactic| refine' krv_lit ?F ?N ?zl ?zk rfl ?_ ?zs ?zt ?zz)
local macro_rules | `(tactic| walk_at "S11") => `(tactic| refine' kun_lenL ?k1 rfl ?k3 ?_)
theorem words_Frac_1 : True := by
  k_with_none
  (k_with "own shade" => (have Bₚₗ := True.intro; have Dₚₗ := True.intro; have F9ₗ := True.intro; have FGₚₗ := True.intro; have Fₚₗ := True.intro; have Gₚₗ := True.intro; have Lₚₗ := True.intro; have N9ₗ := True.intro; have Nₚₗ := True.intro; have Sₚₗ := True.intro; have Tₚₗ := True.intro; have Xₚₗ := True.intro; have Yₚₗ := True.intro; have aₗ := True.intro; have bhₚₗ := True.intro; have blₚₗ := True.intro; have bₗ := True.intro; have cellsₚₗ := True.intro; have ctₚₗ := True.intro; have cₚₗ := True.intro; have d1ₚₗ := True.intro; have d2ₚₗ := True.intro; have dcₚₗ := True.intro; have dxₚₗ := True.intro; have dₚₗ := True.intro; have epₚₗ := True.intro; have fsₚₗ := True.intro; have fₚₗ := True.intro; have gE9ₗ := True.intro; have gₚₗ := True.intro; have h9ₗ := True.intro; have hcₚₗ := True.intro; have hkₚₗ := True.intro; have hmₗ := True.intro; have hoₚₗ := True.intro; have hpₗ := True.intro; have hrₚₗ := True.intro; have hshₚₗ := True.intro; have hsₚₗ := True.intro; have ht1ₚₗ := True.intro; have ht2ₚₗ := True.intro; have ht3ₚₗ := True.intro; have ht4ₚₗ := True.intro; have htₚₗ := True.intro; have hvₗ := True.intro; have hₗ := True.intro; have hₚₗ := True.intro; have kₚₗ := True.intro; have l1ₗ := True.intro; have l1ₚₗ := True.intro; have l2ₗ := True.intro; have loₚₗ := True.intro; have nNₗ := True.intro; have nₚₗ := True.intro; have ocₚₗ := True.intro; have oₚₗ := True.intro; have psₚₗ := True.intro; have pₗ := True.intro; have qₗ := True.intro; have qₚₗ := True.intro; have sₚₗ := True.intro; have t1ₗ := True.intro; have t1ₚₗ := True.intro; have t2ₗ := True.intro; have t9ₗ := True.intro; have tcₚₗ := True.intro; have tk9ₗ := True.intro; have tkₚₗ := True.intro; have tvₚₗ := True.intro; have tₚₗ := True.intro; have u1ₚₗ := True.intro; have u2ₚₗ := True.intro; have v1ₚₗ := True.intro; have vsₚₗ := True.intro; have vₗ := True.intro; have vₚₗ := True.intro; have xₚₗ := True.intro))
  (k_with "own bare" => (clear Bₚₗ Dₚₗ F9ₗ FGₚₗ Fₚₗ Gₚₗ Lₚₗ N9ₗ Nₚₗ Sₚₗ Tₚₗ Xₚₗ Yₚₗ aₗ bhₚₗ blₚₗ bₗ cellsₚₗ ctₚₗ cₚₗ d1ₚₗ d2ₚₗ dcₚₗ dxₚₗ dₚₗ epₚₗ fsₚₗ fₚₗ gE9ₗ gₚₗ h9ₗ hcₚₗ hkₚₗ hmₗ hoₚₗ hpₗ hrₚₗ hshₚₗ hsₚₗ ht1ₚₗ ht2ₚₗ ht3ₚₗ ht4ₚₗ htₚₗ hvₗ hₗ hₚₗ kₚₗ l1ₗ l1ₚₗ l2ₗ loₚₗ nNₗ nₚₗ ocₚₗ oₚₗ psₚₗ pₗ qₗ qₚₗ sₚₗ t1ₗ t1ₚₗ t2ₗ t9ₗ tcₚₗ tk9ₗ tkₚₗ tvₚₗ tₚₗ u1ₚₗ u2ₚₗ v1ₚₗ vsₚₗ vₗ vₚₗ xₚₗ))
  (k_with "own getMethod ref" => ((k_here; (with_reducible show wpAny _ _ (getMethod (Value.ref _) (PySem.Str.ofString "append") _) _ _ _); k_dflt (walk_at "R method_biN F X N i1 i2 a b c d e _"; (case F => k_asm); (case X => k_asm); (case N => k_asm); (case i1 => k_mem); (case i2 => k_mem); (case a => k_is); (case b => k_is); (case c => k_is); (case d => k_is); (case e => kernel_rfl); k_whole))))
  (k_with "own call builtin:list.append" => ((k_here; (with_reducible show wpAny _ _ (call (Value.builtin _) [Value.ref _, _]) _ _ _); k_dflt (walk_at "R append_accN F X N i2 a U z _"; (case F => k_asm); (case X => k_asm); (case N => k_asm); (case U => k_upd); (case i2 => k_mem); (case a => k_is); (case z => k_asm); k_whole); intro hₚₗ Fₚₗ Nₚₗ; (try k_sweep))))
  (k_with "own getMethod ref" => ((k_here; (with_reducible show wpAny _ _ (getMethod (Value.ref _) (PySem.Str.ofString "part_count") _) _ _ _); k_dflt (walk_at "R method_fnN F X N i1 i2 a b c d e _"; (case F => k_asm); (case X => k_asm); (case N => k_asm); (case i1 => k_mem); (case i2 => k_mem); (case a => k_is); (case b => k_is); (case c => k_is); (case d => k_is); (case e => kernel_rfl); k_whole))))
  (k_with "own getMethod ref" => ((k_here; (with_reducible show wpAny _ _ (getMethod (Value.ref _) (PySem.Str.ofString "push") _) _ _ _); k_dflt (walk_at "R method_fnN F X N i1 i2 a b c d e _"; (case F => k_asm); (case X => k_asm); (case N => k_asm); (case i1 => k_mem); (case i2 => k_mem); (case a => k_is); (case b => k_is); (case c => k_is); (case d => k_is); (case e => kernel_rfl); k_whole))))
  (k_with "own getMethod ref" => ((k_here; (with_reducible show wpAny _ _ (getMethod (Value.ref _) (PySem.Str.ofString "pop") _) _ _ _); k_dflt (walk_at "R method_fnN F X N i1 i2 a b c d e _"; (case F => k_asm); (case X => k_asm); (case N => k_asm); (case i1 => k_mem); (case i2 => k_mem); (case a => k_is); (case b => k_is); (case c => k_is); (case d => k_is); (case e => kernel_rfl); k_whole))))
  (k_with "own getMethod ref" => ((k_here; (with_reducible show wpAny _ _ (getMethod (Value.ref _) (PySem.Str.ofString "reset") _) _ _ _); k_dflt (walk_at "R method_fnN F X N i1 i2 a b c d e _"; (case F => k_asm); (case X => k_asm); (case N => k_asm); (case i1 => k_mem); (case i2 => k_mem); (case a => k_is); (case b => k_is); (case c => k_is); (case d => k_is); (case e => kernel_rfl); k_whole))))
  (k_with "own getMethod ref" => ((k_here; (with_reducible show wpAny _ _ (getMethod (Value.ref _) (PySem.Str.ofString "__len__") _) _ _ _); k_dflt (walk_at "S9"; (case F => k_asm); (case X => k_asm); (case N => k_asm); (case i0 => k_mem); (case i1 => k_mem); (case i2 => k_mem); (case a => k_is); (case b => ks_is); (case c => k_is); (case d => decide); intro qₚₗ hₚₗ Fₚₗ Nₚₗ l1ₗ; (try k_lt l1ₗ)))))
  (k_with "own getMethod ref" => ((k_here; (with_reducible show wpAny _ _ (getMethod (Value.ref _) (PySem.Str.ofString "pop") _) _ _ _); k_dflt (walk_at "R super_pop F X N i0 i1 i2 a b c d _"; (case F => k_asm); (case X => k_asm); (case N => k_asm); (case i0 => k_mem); (case i1 => k_mem); (case i2 => k_mem); (case a => k_is); (case b => ks_is); (case c => k_is); (case d => decide); intro qₚₗ hₚₗ Fₚₗ Nₚₗ l1ₗ; (try k_lt l1ₗ)))))
  (k_with "own callWith ref" => ((k_here; k_dflt (walk_at "R callWith_bound0 N q b _"; (case N => k_asm); (case q => k_mem); (case b => first | exact .inl rfl | exact .inr rfl); k_whole))))
  (k_with "own call ref" => ((k_here; k_dflt (walk_at "R call_len N q i _"; (case N => k_asm); (case q => k_mem); (case i => k_mem); k_whole))))
  (k_with "own ent_super" => ((walk_at "R ks_code_super k1 k2 k3 k4 k5 kA kF kK k6 k7 k8 k9 kB _ c1 c2 c3 c4"; (case kA => exact rfl); (case kF => exact rfl); (case kK => first | exact rfl | assumption); (case k1 => k_asm); (case k2 => k_asm); (case k3 => k_asm); (case k4 => k_asm); (case k5 => k_asm); (case k6 => k_is); (case k7 => k_is); (case k8 => ktr_room); (case k9 => first | exact BindsTo.of_eq rfl | exact binds_K (by k_in) rfl (by k_is) rfl rfl rfl); (case kB => exact locs rfl); (case c1 => decide); (case c2 => exact rfl); (case c3 => exact rfl); (case c4 => exact rfl); intro gₚₗ Lₚₗ hₚₗ FGₚₗ Fₚₗ Nₚₗ Bₚₗ Xₚₗ Tₚₗ l1ₗ; (try dsimp only); (try k_fold))))
  (k_with "own drop" => (((with_reducible rename News _ _ _ _ => nNₗ); intro pₗ hpₗ; first | exact nNₗ pₗ hpₗ | exact nNₗ pₗ (.tail _ hpₗ) | exact nNₗ pₗ (.tail _ (.tail _ hpₗ)) | exact nNₗ pₗ (.tail _ (.tail _ (.tail _ hpₗ))) | exact nNₗ pₗ (.tail _ (.tail _ (.tail _ (.tail _ hpₗ)))) | exact nNₗ pₗ (.tail _ (.tail _ (.tail _ (.tail _ (.tail _ hpₗ))))))))
  (k_with "own wpAt" => ((k_here; (fail_if_success ks_step "eval Call"); (fail_if_success ks_step "exec Return"); (fail_if_success ks_step "execs cons"); (fail_if_success ks_step "exec If"); (fail_if_success ks_step "attributeBase Call"); dsimp only)))
  (k_with "own wpAt" => ((k_here; ks_step "eval Call"; with_unfolding_all refine ks_wpAt_MethodCall ?_)))
  (k_with "own call ref" => ((k_here; k_dflt (walk_at "R call_pop F X N q i a b c U z _"; (case F => k_asm); (case X => k_asm); (case N => k_asm); (case q => k_mem); (case U => k_upd); (case i => k_mem); (case a => k_is); (case b => kernel_rfl); (case c => k_is); (case z => k_asm); k_whole; intro hₚₗ Fₚₗ Nₚₗ; (try k_sweep)))))
  (k_with "own ent" => ((walk_at "R code_def k1 k2 k3 k4 k5 kA kF kK k6 k7 k8 k9 kB _ c2 c3 c4 c5"; (case kA => exact rfl); (case kF => exact rfl); (case kK => first | exact rfl | assumption); (case k1 => k_asm); (case k2 => k_asm); (case k3 => k_asm); (case k4 => k_asm); (case k5 => k_asm); (case k6 => k_is); (case k7 => k_is); (case k8 => ktr_room); (case k9 => first | exact BindsTo.of_eq rfl | exact binds_K (by k_in) rfl (by k_is) rfl rfl rfl); (case c5 => decide); (case kB => exact locs rfl); (case c2 => exact rfl); (case c3 => exact rfl); (case c4 => exact rfl); k_whole; intro gₚₗ Lₚₗ hₚₗ FGₚₗ Fₚₗ Nₚₗ Bₚₗ Xₚₗ Tₚₗ; (try dsimp only); (try k_fold))))
  (k_with "own setItem ref" => ((k_here; (with_reducible show wpAny _ _ (setItem (Value.ref _) (Value.ref _) (Value.ref _)) _ _ _); k_dflt (dsimp only; walk_at "R setitemN F X N h2 hl yl a b c U z z' _"; (case F => k_asm); (case X => k_asm); (case N => k_asm); (case U => k_updF); (case h2 => k_mem); (case hl => k_mem); (case yl => k_asm); (case a => k_is); (case b => kernel_rfl); (case c => k_is); (case z => k_asm); (case z' => k_asm); intro hₚₗ epₚₗ Fₚₗ Nₚₗ; (try dsimp only [List.nil_append, List.cons_append] at Nₚₗ); (try k_sweep)))))
  (k_with "own setAttr ref" => ((k_here; (with_reducible show wpAny _ _ (setAttr (Value.ref _) (PySem.Str.ofString "_initial_size") _) _ _ _); k_dflt (dsimp only; walk_at "R set_acc F X N h1 a b c U _"; (case F => k_asm); (case X => k_asm); (case N => k_asm); (case h1 => k_mem); (case U => k_updF); (case a => k_is); (case b => kernel_rfl); (case c => kernel_rfl); intro hₚₗ Fₚₗ Nₚₗ; (try dsimp only [List.nil_append, List.cons_append] at Nₚₗ); (try k_sweep)))))
  (k_with "own exec For" => ((k_here; refine for_start ?_ (by intro _; rfl))))
  (k_with "own call type:enumerate" => ((k_here; refine stop_here ?_)))
  (k_with "own compareOp Is str str" => ((k_here; walk_at "R is_same F X bₗ c d _"; (case F => k_asm); (case X => k_asm); (case bₗ => kernel_rfl); (case c => assumption); (case d => assumption); (intro bₗ; cases bₗ))))
  (k_with "own compareOp Is str str" => ((k_here; walk_at "R is_diff a b c d _"; (case a => assumption); (case b => assumption); (case c => assumption); (case d => assumption))))
  (k_with "own eval Name" => ((k_here; (with_reducible show wpAny _ _ (eval (PySem.Expr.Name _ _) (envOf _ _ _ _ _)) _ _ _); k_dflt (walk_at "R ld k1 k2 _"; (case k1 => k_asm); (case k2 => first | exact rfl | with_reducible assumption | assumption); k_whole))))
  (k_with "own execs cons" => ((k_here; (with_reducible refine wpAny_execs_cons ?_); try dsimp only)))
  (k_with "own execs nil" => ((k_here; refine wpAny_execs_nil ?_; try dsimp only)))
  (k_with "own subscriptTail" => ((k_here; (with_reducible show wpAny _ _ (subscriptTail _ _ (Value.ref _) (Value.int _ _)) _ _ _); k_dflt (walk_at "R item_tupleL l a b c d _"; (case l => exact News.isTup (by k_asm) (by k_mem)); (case a => first | decide | omega); (case b => first | decide | omega); (case c => first | rfl | assumption | decide); (case d => first | rfl | assumption | simp); k_whole))))
  (k_with "own subscriptTail" => ((k_here; (with_reducible show wpAny _ _ (subscriptTail _ _ (Value.ref _) (Value.int _ _)) _ _ _); k_dflt (walk_at "R item_listL l a b d _"; (case l => exact News.isList (by k_asm) (by k_mem)); (case a => first | decide | omega | assumption); (case b => first | decide | omega | assumption); (case d => first | rfl | assumption | simp); k_whole))))
  (k_with "own sz" => ((k_here; first | assumption | (simp only [Array.size_push, List.size_toArray, List.length_append, List.length_reverse, List.length_cons, List.length_nil, Array.size_empty] at *; omega))))
  (k_with "own om" => ((k_here; first | assumption | decide | omega | (dsimp only; omega))))
  (k_with "own call ref" => ((k_here; k_dflt (show wpAny _ _ (call (Value.ref 128) [Value.ref _]) _ _ _); k_dflt (walk_at "R count_U B F X T hk N h1 h2 hd _"; (case B => k_asm); (case F => k_asm); (case X => k_asm); (case T => k_asm); (case hk => first | exact rfl | assumption); (case N => k_asm); (case h1 => k_mem); (case h2 => k_mem); (case hd => ktr_room); intro hₚₗ tkₚₗ tₚₗ Fₚₗ Nₚₗ htₚₗ; (try dsimp only at htₚₗ); (try k_sweep)))))
  (k_with "own call ref" => ((k_here; k_dflt (show wpAny _ _ (call (Value.ref 91) [Value.ref _]) _ _ _); k_dflt (walk_at "R pop_U B F X T hk N h2 hd dx U z _"; (case B => k_asm); (case F => k_asm); (case X => k_asm); (case T => k_asm); (case hk => first | exact rfl | assumption); (case N => k_asm); (case U => k_updF); (case h2 => k_mem); (case hd => ktr_room); (case dx => k_ne); (case z => walk_at "sz"); intro hₚₗ tkₚₗ Fₚₗ Nₚₗ htₚₗ; (try dsimp only at htₚₗ); (try dsimp only [List.nil_append, List.cons_append] at Nₚₗ); (try k_sweep)))))
  (k_with "own call ref" => ((k_here; k_dflt (show wpAny _ _ (call (Value.ref 75) [Value.ref _, Value.str _ _, Value.str _ _]) _ _ _); k_dflt (walk_at "R push_U B F X T hk N h2 hd hu dx U z _"; (case B => k_asm); (case F => k_asm); (case X => k_asm); (case T => k_asm); (case hk => first | exact rfl | assumption); (case N => k_asm); (case U => k_updF); (case h2 => k_mem); (case hd => ktr_room); (case hu => ktr_room); (case dx => k_ne); (case z => walk_at "sz"); intro qₚₗ hₚₗ tkₚₗ Fₚₗ Nₚₗ htₚₗ; (try dsimp only at htₚₗ); (try dsimp only [List.nil_append, List.cons_append] at Nₚₗ); (try k_sweep)))))
  (k_with "own call ref" => ((k_here; k_dflt (show wpAny _ _ (call (Value.ref 131) []) _ _ _); k_dflt (walk_at "R make_U0 B F X T hk N hd _"; (case B => k_asm); (case F => k_asm); (case X => k_asm); (case T => k_asm); (case hk => first | exact rfl | assumption); (case N => k_asm); (case hd => ktr_room); intro xₚₗ dxₚₗ epₚₗ hshₚₗ tₚₗ vₚₗ nₚₗ hₚₗ tkₚₗ Fₚₗ Nₚₗ l1ₗ l2ₗ htₚₗ; (try dsimp only at htₚₗ); (try k_sweep)))))
  (k_with "own call ref" => ((k_here; k_dflt (show wpAny _ _ (call (Value.ref 131) [Value.int _ _]) _ _ _); k_dflt (walk_at "R make_U1 B F X T hk N hd _"; (case B => k_asm); (case F => k_asm); (case X => k_asm); (case T => k_asm); (case hk => first | exact rfl | assumption); (case N => k_asm); (case hd => ktr_room); intro xₚₗ dxₚₗ epₚₗ hshₚₗ tₚₗ nₚₗ hₚₗ tkₚₗ Fₚₗ Nₚₗ l1ₗ l2ₗ htₚₗ; (try dsimp only at htₚₗ); (try k_sweep)))))
  (k_with "own call ref" => ((k_here; k_dflt (show wpAny _ _ (call (Value.ref 177) [Value.str _ _, Value.str _ _]) _ _ _); k_dflt (walk_at "R idx_spec B F X N T hk hd ha t0 t1 kk lt _"; (case B => k_asm); (case F => k_asm); (case X => k_asm); (case T => k_asm); (case hk => first | exact rfl | assumption); (case N => k_asm); (case hd => ktr_room); (case ha => decide +kernel); (case t0 => walk_at "om"); (case t1 => walk_at "om"); (case kk => assumption); (case lt => assumption); intro tvₚₗ hₚₗ tkₚₗ Fₚₗ Nₚₗ htₚₗ; (try dsimp only at htₚₗ); (try k_sweep)))))
  (k_with "own call ref" => ((k_here; k_dflt (show wpAny _ _ (call (Value.ref 170) [Value.str _ _, Value.int _ _]) _ _ _); k_dflt (walk_at "R item_str B F X N T hk hd i0 i1 ix _"; (case B => k_asm); (case F => k_asm); (case X => k_asm); (case T => k_asm); (case hk => first | exact rfl | assumption); (case N => k_asm); (case hd => ktr_room); (case i0 => walk_at "om"); (case i1 => first | assumption | decide +kernel); (case ix => decide +kernel); intro tvₚₗ hₚₗ tkₚₗ Fₚₗ Nₚₗ ht1ₚₗ ht2ₚₗ; (try dsimp only at ht1ₚₗ); (try k_sweep)))))
  (k_with "own ent_cell" => ((walk_at "R code_defCT k1 k2 k3 k4 k5 kA kF kK k6 k7 k8 k9 kB kD _ c2 c3 c4"; (case kA => exact rfl); (case kF => exact rfl); (case kK => first | exact rfl | assumption); (case k1 => k_asm); (case k2 => k_asm); (case k3 => k_asm); (case k4 => k_asm); (case k5 => k_asm); (case k6 => k_is); (case k7 => k_is); (case k8 => ktr_room); (case k9 => first | exact BindsTo.of_eq rfl | exact binds_K (by k_in) rfl (by k_is) rfl rfl rfl); (case kB => exact rfl); (case kD => decide +kernel); (case c2 => exact rfl); (case c3 => exact rfl); (case c4 => exact rfl); k_whole; intro gₚₗ Lₚₗ hₚₗ tkₚₗ cellsₚₗ htₚₗ FGₚₗ Fₚₗ Nₚₗ Yₚₗ Bₚₗ Sₚₗ Xₚₗ Tₚₗ l1ₗ; (try k_lt l1ₗ); k_cells Yₚₗ; (try simp only [List.cons_append, List.nil_append] at Nₚₗ); (try dsimp only); (try k_fold))))
  (k_with "own ent_more" => ((walk_at "R kp_more k1 k2 k3 k4 k5 kA kF kK k6 k7 k8 kX kM kN kD kR kP kT kB _ c2 c3 c4 c5"; (case kA => exact rfl); (case kF => exact rfl); (case kK => first | exact rfl | assumption); (case k1 => k_asm); (case k2 => k_asm); (case k3 => k_asm); (case k4 => k_asm); (case k5 => k_asm); (case k6 => k_is); (case k7 => k_is); (case k8 => ktr_room); (case kX => kp_lit); (case kM => exact rfl); (case kN => exact rfl); (case kD => kp_flats); (case kR => exact rfl); (case kP => exact rfl); (case kT => exact fun _ => rfl); (case kB => exact fun _ => locs rfl); (case c5 => decide); (case c2 => exact rfl); (case c3 => exact rfl); (case c4 => exact rfl); k_whole; intro Dₚₗ oₚₗ gₚₗ Lₚₗ hₚₗ tkₚₗ l1ₗ loₚₗ hsₚₗ fsₚₗ FGₚₗ Fₚₗ Nₚₗ Bₚₗ Xₚₗ Tₚₗ; (try k_lt l1ₗ); (try dsimp only); (try k_fold))))
  (k_with "own callWith ref" => ((k_here; (with_reducible show wpAny _ _ (callWith _ _ [] _ (backToKw _ (keywordEach [PySem.Keyword.mk none _ _] _))) _ _ _); k_dflt (walk_at "R star_callD F N hk hx hxl hxd hy hyl hyd ha hod hkl hsys hf hfo _"; (case F => k_asm); (case N => k_asm); (case hk => exact rfl); (case hx => first | exact rfl | assumption); (case hxl => exact rfl); (case hxd => decide); (case hy => first | exact rfl | assumption); (case hyl => exact rfl); (case hyd => decide); (case ha => k_mem); (case hod => assumption); (case hkl => simp); (case hsys => assumption); (case hf => k_mem); (case hfo => exact rfl); intro hₚₗ dₚₗ oₚₗ Fₚₗ Nₚₗ; (try k_sweep)))))
  (k_with "own call ref" => ((k_here; k_dflt (show wpAny _ _ (call (Value.ref 51) _ _) _ _ _); refine wpAny_with_toks (Nat.le_refl _) ?_; refine wpAny_call ?_; k_dflt (walk_at "ent_more"))))
  (k_with "own call ref" => ((k_here; k_dflt (refine wpAny_call ?_; walk_at "R kdv_code k1 k2 k3 k4 k5 kA kF kK k6 k7 k8 k9 kB _ c2 c3 c4 c5"; (case kA => exact rfl); (case kF => exact rfl); (case kK => first | exact rfl | assumption); (case k1 => k_asm); (case k2 => k_asm); (case k3 => k_asm); (case k4 => k_asm); (case k5 => k_asm); (case k6 => k_mem); (case k7 => exact codeRec_news (by k_asm) (by k_mem) (by assumption) (by assumption)); (case k8 => ktr_room); (case k9 => kdv_bind); (case c5 => decide); (case kB => exact locs rfl); (case c2 => exact rfl); (case c3 => exact rfl); (case c4 => exact rfl); k_whole; intro gₚₗ Lₚₗ hₚₗ FGₚₗ Fₚₗ Nₚₗ Bₚₗ Xₚₗ Tₚₗ; (try dsimp only); (try k_fold)))))
  (k_with "own call ref" => ((k_here; k_dflt (show wpAny _ _ (call (Value.ref 170) [Value.ref _, Value.int _ _]) _ _ _); k_dflt (walk_at "R get_list B F X N T hk hd l i0 i1 v _"; (case B => k_asm); (case F => k_asm); (case X => k_asm); (case T => k_asm); (case hk => first | exact rfl | assumption); (case N => k_asm); (case hd => ktr_room); (case l => k_mem); (case i0 => walk_at "om"); (case i1 => walk_at "om"); (case v => assumption); intro hₚₗ tkₚₗ Fₚₗ Nₚₗ htₚₗ; (try dsimp only at htₚₗ); (try k_sweep)))))
  (k_with "own call ref" => ((k_here; k_dflt (show wpAny _ _ (call (Value.ref 170) [Value.ref _, Value.int _ _]) _ _ _); k_dflt (walk_at "R get_pair B F X T hk N hd l i _"; (case B => k_asm); (case F => k_asm); (case X => k_asm); (case T => k_asm); (case hk => first | exact rfl | assumption); (case N => k_asm); (case hd => ktr_room); (case l => k_mem); (case i => first | assumption | exact fmod2 _ | decide | omega); intro hₚₗ tkₚₗ Fₚₗ Nₚₗ htₚₗ; (try dsimp only at htₚₗ); (try k_sweep)))))
  (k_with "own makeTail" => ((k_here; refine wpAny_with_toks (Nat.le_refl _) ?_; k_dflt (walk_at "R kdv_nest F N T C cd U t n cl _"; (case F => k_asm); (case N => k_asm); (case T => k_asm); (case cd => exact rfl); (case C => kn_code); (case U => k_updF); (case t => kn_triples); (case n => kn_among); (case cl => exact rfl); k_whole); intro fₚₗ cₚₗ ocₚₗ vsₚₗ tₚₗ ctₚₗ dcₚₗ hₚₗ tkₚₗ Fₚₗ Nₚₗ d1ₚₗ d2ₚₗ l1ₗ l2ₗ htₚₗ; (try dsimp only at Nₚₗ); (try k_lt l1ₗ); (try k_lt2 l2ₗ); (try dsimp only at htₚₗ))))
  (k_with "own eval Name" => ((k_here; k_dflt (walk_at "R nameX_L k1 k2 _ c1 c2 c3"; (case k1 => k_asm); (case k2 => first | exact rfl | assumption); (case c1 => exact rfl); (case c2 => exact rfl); (case c3 => decide); k_whole))))
  (k_with "own call ref" => ((k_here; k_dflt (first | (show wpAny _ _ (call (Value.ref 142) _) _ _ _) | (show wpAny _ _ (call (Value.ref 149) _) _ _ _) | (show wpAny _ _ (call (Value.ref 156) _) _ _ _) | (show wpAny _ _ (call (Value.ref 163) _) _ _ _)); refine wpAny_call ?_; k_dflt (walk_at "ent"))))
  (k_with "own eval Name" => ((k_here; k_dflt (first | (walk_at "R nameX_L F v _ a b"; (case F => k_asm); (case a => rfl); (case b => rfl); (case v => first | rfl | with_reducible assumption); k_whole) | (walk_at "R nameX_K F X T e _ a b"; (case F => k_asm); (case X => k_asm); (case T => k_asm); (case a => rfl); (case b => rfl); (case e => k_is); k_whole)))))
  (k_with "own subscriptTail Name Constant ref int" => ((k_here; k_dflt (first | (walk_at "R item_listL l a b d _"; (case l => exact News.isList (by with_reducible assumption) (by k_mem)); (case a => decide); (case b => first | decide | omega); (case d => exact rfl); k_whole) | (walk_at "R item_tupleL l a b c d _"; (case l => exact News.isTup (by with_reducible assumption) (by k_mem)); (case a => decide); (case b => decide); (case c => first | rfl | assumption | decide); (case d => first | rfl | assumption | simp); k_whole)))))
  (k_with "own subscriptTail Name Name ref int" => ((k_here; k_dflt (walk_at "R item_listL l a b d _"; (case l => exact News.isList (by with_reducible assumption) (by k_mem)); (case a => decide); (case b => first | decide | omega); (case d => exact rfl); k_whole))))
  (k_with "own callWith ref" => ((k_here; (with_reducible show wpAny _ _ (callWith _ (Value.ref (OfNat.ofNat _)) _ _ _) _ _ _); k_dflt (first | (walk_at "R callWith_K k1 k2 _"; (case k1 => with_reducible assumption); (case k2 => k_is); k_whole) | (walk_at "R callWith_K0 k1 k2 _"; (case k1 => exact Frag.In.keeps (by with_reducible assumption) (Fr.keep (by with_reducible assumption))); (case k2 => k_is); k_whole)))))
  (k_with "own subscriptTail List" => ((k_here; k_dflt (walk_at "R item_listL l a b d _"; (case l => exact News.isList (by with_reducible assumption) (by k_mem)); (case a => decide); (case b => first | decide | omega); (case d => exact rfl); k_whole))))
  (k_with "own exec For Name Subscript cons nil" => ((k_here; with_unfolding_all (refine for_start ?_ (by intro _; with_unfolding_all rfl)))))
  (k_with "own subscriptTail Name Slice ref ref" => ((k_here; (with_reducible show wpAny _ _ (subscriptTail _ (PySem.Expr.Slice none none (some _) _) (Value.ref _) (Value.ref _)) _ _ _); k_dflt (walk_at "S10"; (case F => k_asm); (case N => k_asm); (case zl => exact News.isList (by k_asm) (by k_mem)); (case zk => exact IsPart.int _ _); (case zs => with_unfolding_all rfl); (case zt => (intro _; with_unfolding_all rfl)); (case zz => assumption)); intro Dₚₗ hₚₗ Fₚₗ Nₚₗ l1ₗ; (try k_lt l1ₗ); (try simp only [List.toList_toArray] at Nₚₗ); (try k_sweep))))
  (k_with "own call ref" => ((k_here; k_dflt (show wpAny _ _ (call (Value.ref 232) [Value.ref _, Value.ref _]) _ _ _); k_dflt (walk_at "R worth_spec B F X T hk N hd hq hl hc hj _"; (case B => k_asm); (case F => k_asm); (case X => k_asm); (case T => k_asm); (case hk => first | exact rfl | assumption); (case N => k_asm); (case hd => ktr_room); (case hq => k_mem); (case hl => k_mem); (case hc => assumption); (case hj => assumption); intro tₚₗ hₚₗ tkₚₗ Fₚₗ Nₚₗ htₚₗ; (try dsimp only at htₚₗ); (try k_sweep)))))
  (k_with "own call builtin:len" => ((k_here; (with_reducible show wpAny _ _ (call (Value.builtin "len") [Value.ref _]) _ _ _); k_dflt (walk_at "S11"; (case k1 => exact News.isList (by k_asm) (by k_mem)); (case k3 => assumption); k_whole))))
  trivial
theorem news_pick1 {h₀ h : Heap} {L : Addr} {a : Addr × Obj} {news big : List (Addr × Obj)} (N : News h₀ L h big) (ha : a ∈ big) (hs : ∀ p ∈ news, p ∈ big) : News h₀ L h (a :: news) := by
  intro p hp
  rcases List.mem_cons.mp hp with h | hp
  · subst h; exact N _ ha
  · exact N _ (hs _ hp)
def cStep (nums : List Int) (v : Int × Int) (p : Nat × Nat) : Int × Int := (worth nums p * v.1 + v.2, v.1)
theorem conv_rev (nums : List Int) : ∀ P, conv nums P = P.reverse.foldl (cStep nums) (1, 0)
  | [] => rfl
  | p :: ps => by
    rw [List.reverse_cons, List.foldl_append, ← conv_rev nums ps]
    rfl
theorem worth_b {n0 n1 n2 n3 n4 : Int} {c j : Nat} (h : j < 4) (hb : ∀ v ∈ [n0, n1, n2, n3, n4], -(2 ^ 60) ≤ v ∧ v ≤ 2 ^ 60) : -(2 ^ 60) ≤ worth [n0, n1, n2, n3, n4] (c, 97 + j) ∧ worth [n0, n1, n2, n3, n4] (c, 97 + j) ≤ 2 ^ 60 := by
  have h1 := num_bound (j := j) (by omega) hb
  unfold worth
  rw [show (c, 97 + j).2 - 97 = j from by show 97 + j - 97 = j; omega]
  split <;> omega
abbrev bitsOf (a : Int) : Nat := Builtin.Int.intBits a
theorem bits_b {a : Int} (h : -(2 ^ 60) ≤ a ∧ a ≤ 2 ^ 60) : bitsOf a ≤ 61 := by
  refine intBits_le_iff.mpr ?_
  omega
theorem bits_step {w t b : Int} {k : Nat} (hw : bitsOf w ≤ 61) (ht : bitsOf t ≤ k) (hb : bitsOf b ≤ k) : bitsOf (w * t + b) ≤ k + 62 := by
  refine Nat.le_trans (intBits_add_le (intBits_mul_le hw ht) hb) ?_
  omega
theorem bits_up {x : Int} {m n : Nat} (h : bitsOf x ≤ m) (hm : m ≤ n) : bitsOf x ≤ n := Nat.le_trans h hm
theorem bits_one {t : Int} (h : t = 1 ∨ t = -1) : bitsOf t ≤ 1 := by
  rcases h with rfl | rfl <;> decide
theorem frac_spec {w : World} {pT : Program} {loose : List Str} {mean : ExcName → Option Value} {mg mb : Str → Option Value}
    {dp un : Nat} {gd : Option (List Code)} {cn : Str} {cs : Scope} {a : Addr} {ccd : Value} {cl : List (Str × Addr)} {outer : List Env} {A₀ : Around} {base h₀ : Heap} {L : Addr} {m : Str → Option Value} {s : Shared}
    {Q E : Value → Shared → Prop} {news : List (Addr × Obj)}
    (B : Below A₀ base outer h₀) (F : Fr h₀ L s.heap m) (X : (pre.heap_1 w.params).In h₀) (T : Top pT loose mean mg mb h₀) (hk : cs.kind = .function) {l1 l2 ln : Addr} {its its2 : List Value} {k1 k2 k : Nat} {P C : List (Nat × Nat)} {n0 n1 n2 n3 n4 : Int} {u0 u1 u2 u3 u4 : Tok}
    (N : News h₀ L s.heap news) (hl1 : (l1, listOf its.toArray k1) ∈ news) (hl2 : (l2, listOf its2.toArray k2) ∈ news) (hl : (ln, listOf [.int n0 u0, .int n1 u1, .int n2 u2, .int n3 u3, .int n4 u4].toArray k) ∈ news) (hd1 : dp + 10 < recursionLimit) (hu1 : un + 20 < cLine) (hP : Pcs s.toks news its P) (hsz : its.length ≤ 3) (hC : Pcs s.toks news its2 C) (hsz2 : its2.length = 3) (hsp : Signs P) (hsc : Signs C)
    (hnp : ∀ p ∈ P, ∃ j, j < 4 ∧ p.2 = 97 + j) (hnc : ∀ p ∈ C, ∃ j, j < 4 ∧ p.2 = 97 + j) (hnb : ∀ v ∈ [n0, n1, n2, n3, n4], -(2 ^ 60) ≤ v ∧ v ≤ 2 ^ 60)
    (hret : ∀ q t1 t2 h' tk', Fr h₀ L h' m → News h₀ L h' ((q, ({ cls := .type "tuple", data := .seq #[.int (frac [n0, n1, n2, n3, n4] P C).1 t1, .int (frac [n0, n1, n2, n3, n4] P C).2 t2] } : Obj)) :: news) → s.toks ≤ tk' → Q (.ref q) { s with heap := h', toks := tk' }) :
    wpAny (model PR w) (ktrTop dp un gd cn cs L a ccd cl outer) (call (.ref 239) [.ref l1, .ref l2, .ref ln]) Q E s := by
  have hPl : its.length = P.length := hP.len
  have hlenA : ((its.toArray.size : Nat) : Int) ≤ 16384 := by simp only [List.size_toArray]; omega
  have hzl : its.toArray.size ≤ sizeLine := by rw [sizeLine_eq]; simp only [List.size_toArray]; omega
  refine wpAny_call ?_
  k_dflt (walk_at "ent")
  refine gen_toks s.toks (Nat.le_add_right _ _) ?_
  intro tk htk
  k_steps
  walk_at "shade"
  rename_i D1 hA lA hB hC1 hD1 D2 hE1 F1 N1 l21
  walk_at "bare"
  obtain ⟨base, eBase⟩ : ∃ base, base = (D2, listOf its.reverse.toArray 0) :: (D1, ({ cls := .type "tuple", data := .seq #[.int 1 tk, .int 0 (tk + 1)] } : Obj)) :: news := ⟨_, rfl⟩
  rw [← eBase] at N1
  have hbs : ∀ p ∈ news, p ∈ base := fun p hp => by rw [eBase]; simp [hp]
  have hD2 : (D2, listOf its.reverse.toArray 0) ∈ base := by rw [eBase]; simp
  refine' list_led (items := its.reverse) ?hh ?hE ?hF ?hN ?hl ?hc ?hd (fun i m₁ n₁ tk => n₁ = base ∧ m₁ "first" = some (.ref l1) ∧ m₁ "creases" = some (.ref l2) ∧ m₁ "numbers" = some (.ref ln) ∧ ∃ top bot tt tb, m₁ "top" = some (.int top tt) ∧ m₁ "bottom" = some (.int bot tb) ∧ (top, bot) = (P.reverse.take i).foldl (cStep [n0, n1, n2, n3, n4]) (1, 0) ∧ bitsOf top ≤ 62 * i + 1 ∧ bitsOf bot ≤ 62 * i + 1) ?Jm ?h0 ?st ?dn
  case hh => exact rfl
  case hE => first | passes_own | with_unfolding_all passes_own
  case hF => exact F1
  case hN => exact N1
  case hl => exact hD2
  case hc => exact rfl
  case hd => exact rfl
  case Jm => exact fun i m₁ n₁ t t' j _ => j
  case h0 => exact ⟨rfl, rfl, rfl, rfl, _, _, _, _, rfl, rfl, rfl, by decide, by decide⟩
  case st =>
    clear F1 N1
    rintro i v ow m₁ news₁ h₁ tk₀ tk₁ I hv ⟨rfl, mf, mc, mn, top, bot, tt, tb, mt, mb, hcv, ht2, hb2⟩ hst htk F₁ N₁ hI how -
    (try dsimp only at hst)
    obtain ⟨p, hpi, ⟨q, v1, v2, rfl, hq, -⟩, htake⟩ := hP.rev.at hv
    have hpm : p ∈ P := List.mem_reverse.mp (List.mem_of_getElem? hpi)
    obtain ⟨j, hj, hpj⟩ := hnp p hpm
    have hsg := hsp p hpm
    obtain ⟨c, d⟩ := p
    have hd : d = 97 + j := hpj
    subst hd
    have hsg : c = 43 ∨ c = 45 := hsg
    have hwb := worth_b (c := c) hj hnb
    have bw := bits_b hwb
    have hm1 : IntMulOk (worth [n0, n1, n2, n3, n4] (c, 97 + j)) top := mul_ok_b hwb
    obtain ⟨T2, hT2⟩ : ∃ T2, T2 = news₁ ++ ow := ⟨_, rfl⟩
    have MQ := List.mem_append_left ow (hbs _ hq)
    have ML := List.mem_append_left ow (hbs _ hl)
    rw [← hT2] at N₁ MQ ML
    k_steps
    rename Fr _ _ _ _ => fZ
    rename News _ _ _ _ => nZ
    refine Back.intro (news₂ := news₁) fZ (fun p hp => nZ p (List.mem_cons_of_mem _ (by rw [hT2]; exact hp))) hI (by (try dsimp only at *); omega) ⟨rfl, mf, mc, mn, _, _, _, _, rfl, rfl, ?_, ?_, ?_⟩
    · rw [htake, List.foldl_append, ← hcv]; rfl
    · exact bits_up (bits_step bw ht2 hb2) (by omega)
    · exact bits_up ht2 (by omega)
  case dn =>
    clear F1 N1
    rintro m₁ news₁ h₁ tk₁ ⟨rfl, mf, mc, mn1, top1, bot1, tt1, tb1, mt, mb, hcv, ht2, hb2⟩ hst F₁ N₁
    (try dsimp only at hst)
    rw [List.take_of_length_le (by rw [List.length_reverse, List.length_reverse]; omega)] at hcv
    rw [List.length_reverse] at ht2 hb2
    have hbt : bitsOf top1 ≤ 187 := bits_up ht2 (by omega)
    have hbb : bitsOf bot1 ≤ 187 := bits_up hb2 (by omega)
    have hm4 : IntMulOk n4 top1 := mul_ok_b (hnb n4 (by simp))
    have MN := hbs _ hl
    have MF := hbs _ hl1
    have hfz : ((its.toArray.size : Nat) : Int).fmod 2 = ((P.length % 2 : Nat) : Int) := by rw [fmod2_nat, List.size_toArray, hPl]
    by_cases hpar : P.length % 2 = 0
    · have hifp : ((((its.toArray.size : Nat) : Int).fmod 2 == 0) = true) := by rw [hfz, hpar]; rfl
      k_steps
      rename Fr _ _ _ _ => F5
      rename News _ _ _ _ => N5
      obtain ⟨B5, eB5, hl5, hln5, hC5⟩ : ∃ B5, B5 = news₁ ∧ (l2, listOf its2.toArray k2) ∈ B5 ∧ (ln, listOf [.int n0 u0, .int n1 u1, .int n2 u2, .int n3 u3, .int n4 u4].toArray k) ∈ B5 ∧ Pcs s.toks B5 its2 C := ⟨_, rfl, hbs _ hl2, hbs _ hl, hC.mono (Nat.le_refl _) hbs⟩
      refine' list_led (items := its2) ?hha ?hEa ?hFa ?hNa ?hla ?hca ?hda (fun i m₁ n₁ tk => n₁ = news₁ ∧ m₁ "numbers" = some (.ref ln) ∧ ∃ top bot t tt tb tu, m₁ "top" = some (.int top tt) ∧ m₁ "bottom" = some (.int bot tb) ∧ m₁ "turn" = some (.int t tu) ∧ (t = 1 ∨ t = -1) ∧ fracGo [n0, n1, n2, n3, n4] C (1) (n4 * top1 + bot1, top1) = fracGo [n0, n1, n2, n3, n4] (C.drop i) t (top, bot) ∧ bitsOf top ≤ 400 * 3 ^ i ∧ bitsOf bot ≤ 400 * 3 ^ i) ?Jma ?h0a ?sta ?dna
      case hha => exact rfl
      case hEa => first | passes_own | with_unfolding_all passes_own
      case hFa => exact F5
      case hNa => exact fun p hp => N5 p (List.mem_cons_of_mem _ hp)
      case hla => exact hbs _ hl2
      case hca => exact rfl
      case hda => exact rfl
      case Jma => exact fun i m₁ n₁ t t' j _ => j
      case h0a => exact ⟨rfl, mn1, _, _, _, _, _, _, rfl, rfl, rfl, by decide, rfl, bits_up (bits_step (bits_b (hnb n4 (by simp))) hbt hbb) (by omega), bits_up hbt (by omega)⟩
      case sta =>
        clear F5 N5
        rintro i v ow m₁ news₅ h₁ tk₀ tk₁ I hv ⟨eN5, mn, top, bot, t, tt, tb, tu, mt, mb, mu, ht1, hfr, ht2, hb2⟩ hst htk F₁ N₁ hI how -
        (try dsimp only at hst)
        rw [eB5, ← eN5] at hC5 hln5
        obtain ⟨p, hpi, ⟨q, v1, v2, rfl, hq, -⟩, -⟩ := hC5.at hv
        have hpm : p ∈ C := List.mem_of_getElem? hpi
        obtain ⟨j, hj, hpj⟩ := hnc p hpm
        have hsg := hsc p hpm
        have hdr : C.drop i = p :: C.drop (i + 1) := by
          obtain ⟨hlt, e⟩ := List.getElem?_eq_some_iff.mp hpi
          rw [List.drop_eq_getElem_cons hlt, e]
        obtain ⟨c, d⟩ := p
        have hd : d = 97 + j := hpj
        subst hd
        have hsg : c = 43 ∨ c = 45 := hsg
        have hwb := worth_b (c := c) hj hnb
        have bw := bits_b hwb
        have bu := bits_one ht1
        have b1 := intBits_mul_le bu bw
        have b2 := intBits_mul_le b1 hb2
        have hi3 : i < 3 := by
          obtain ⟨h, -⟩ := List.getElem?_eq_some_iff.mp hv
          omega
        have h3 : 3 ^ i ≤ 9 := by
          have : i = 0 ∨ i = 1 ∨ i = 2 := by omega
          rcases this with rfl | rfl | rfl <;> decide
        have h31 : 1 ≤ 3 ^ i := Nat.one_le_pow _ _ (by decide)
        have hm1 : IntMulOk t (worth [n0, n1, n2, n3, n4] (c, 97 + j)) := .of_le bu bw (by omega)
        have hm2 : IntMulOk (t * worth [n0, n1, n2, n3, n4] (c, 97 + j)) bot := .of_le b1 hb2 (by omega)
        have hm3 : IntMulOk (t * worth [n0, n1, n2, n3, n4] (c, 97 + j) * bot) top := .of_le b2 ht2 (by omega)
        have hm4 : IntMulOk (t * worth [n0, n1, n2, n3, n4] (c, 97 + j) * bot) bot := .of_le b2 hb2 (by omega)
        obtain ⟨T2, hT2⟩ : ∃ T2, T2 = news₅ ++ ow := ⟨_, rfl⟩
        have MQ := List.mem_append_left ow hq
        have ML := List.mem_append_left ow hln5
        rw [← hT2] at N₁ MQ ML
        k_steps
        rename Fr _ _ _ _ => fZ
        rename News _ _ _ _ => nZ
        refine Back.intro (news₂ := news₅) fZ (fun p hp => nZ p (List.mem_cons_of_mem _ (by rw [hT2]; exact hp))) hI (by (try dsimp only at *); omega) ⟨eN5, mn, _, _, _, _, _, _, rfl, rfl, rfl, by decide, ?_, ?_, ?_⟩
        · rw [hfr, hdr]; rfl
        · rw [Nat.pow_succ]
          exact bits_up (intBits_add_le (intBits_mul_le b2 ht2) (show bitsOf 1 ≤ 1 by decide)) (by omega)
        · rw [Nat.pow_succ]
          exact bits_up (intBits_mul_le b2 hb2) (by omega)
      case dna =>
        clear F5 N5
        rintro m₂ news₂ h₂ tk₂ ⟨eN5, mn, top, bot, t, tt, tb, tu, mt, mb, mu, ht1, hfr, ht2, hb2⟩ hst2 F₂ N₂
        k_steps
        rename News _ _ _ _ => nZ
        rename Fr _ _ _ _ => fZ
        rw [List.drop_of_length_le (by have := hC.len; omega)] at hfr
        have e1 : frac [n0, n1, n2, n3, n4] P C = (top, bot) := by
          unfold frac readV
          rw [if_pos hpar, conv_rev, ← hcv]
          exact hfr
        rw [e1] at hret
        exact hret _ _ _ _ _ fZ (news_pick1 nZ (List.mem_cons_self ..) fun p hp => List.mem_cons_of_mem _ (eN5 ▸ hbs p hp)) (by (try dsimp only at *); omega)
    · have hifp : ((((its.toArray.size : Nat) : Int).fmod 2 == 0) = false) := by rw [hfz, show P.length % 2 = 1 by omega]; rfl
      k_steps
      rename Fr _ _ _ _ => F5
      rename News _ _ _ _ => N5
      obtain ⟨B5, eB5, hl5, hln5, hC5⟩ : ∃ B5, B5 = news₁ ∧ (l2, listOf its2.toArray k2) ∈ B5 ∧ (ln, listOf [.int n0 u0, .int n1 u1, .int n2 u2, .int n3 u3, .int n4 u4].toArray k) ∈ B5 ∧ Pcs s.toks B5 its2 C := ⟨_, rfl, hbs _ hl2, hbs _ hl, hC.mono (Nat.le_refl _) hbs⟩
      refine' list_led (items := its2) ?hhb ?hEb ?hFb ?hNb ?hlb ?hcb ?hdb (fun i m₁ n₁ tk => n₁ = news₁ ∧ m₁ "numbers" = some (.ref ln) ∧ ∃ top bot t tt tb tu, m₁ "top" = some (.int top tt) ∧ m₁ "bottom" = some (.int bot tb) ∧ m₁ "turn" = some (.int t tu) ∧ (t = 1 ∨ t = -1) ∧ fracGo [n0, n1, n2, n3, n4] C (-1) (n4 * top1 + bot1, top1) = fracGo [n0, n1, n2, n3, n4] (C.drop i) t (top, bot) ∧ bitsOf top ≤ 400 * 3 ^ i ∧ bitsOf bot ≤ 400 * 3 ^ i) ?Jmb ?h0b ?stb ?dnb
      case hhb => exact rfl
      case hEb => first | passes_own | with_unfolding_all passes_own
      case hFb => exact F5
      case hNb => exact fun p hp => N5 p (List.mem_cons_of_mem _ hp)
      case hlb => exact hbs _ hl2
      case hcb => exact rfl
      case hdb => exact rfl
      case Jmb => exact fun i m₁ n₁ t t' j _ => j
      case h0b => exact ⟨rfl, mn1, _, _, _, _, _, _, rfl, rfl, rfl, by decide, rfl, bits_up (bits_step (bits_b (hnb n4 (by simp))) hbt hbb) (by omega), bits_up hbt (by omega)⟩
      case stb =>
        clear F5 N5
        rintro i v ow m₁ news₅ h₁ tk₀ tk₁ I hv ⟨eN5, mn, top, bot, t, tt, tb, tu, mt, mb, mu, ht1, hfr, ht2, hb2⟩ hst htk F₁ N₁ hI how -
        (try dsimp only at hst)
        rw [eB5, ← eN5] at hC5 hln5
        obtain ⟨p, hpi, ⟨q, v1, v2, rfl, hq, -⟩, -⟩ := hC5.at hv
        have hpm : p ∈ C := List.mem_of_getElem? hpi
        obtain ⟨j, hj, hpj⟩ := hnc p hpm
        have hsg := hsc p hpm
        have hdr : C.drop i = p :: C.drop (i + 1) := by
          obtain ⟨hlt, e⟩ := List.getElem?_eq_some_iff.mp hpi
          rw [List.drop_eq_getElem_cons hlt, e]
        obtain ⟨c, d⟩ := p
        have hd : d = 97 + j := hpj
        subst hd
        have hsg : c = 43 ∨ c = 45 := hsg
        have hwb := worth_b (c := c) hj hnb
        have bw := bits_b hwb
        have bu := bits_one ht1
        have b1 := intBits_mul_le bu bw
        have b2 := intBits_mul_le b1 hb2
        have hi3 : i < 3 := by
          obtain ⟨h, -⟩ := List.getElem?_eq_some_iff.mp hv
          omega
        have h3 : 3 ^ i ≤ 9 := by
          have : i = 0 ∨ i = 1 ∨ i = 2 := by omega
          rcases this with rfl | rfl | rfl <;> decide
        have h31 : 1 ≤ 3 ^ i := Nat.one_le_pow _ _ (by decide)
        have hm1 : IntMulOk t (worth [n0, n1, n2, n3, n4] (c, 97 + j)) := .of_le bu bw (by omega)
        have hm2 : IntMulOk (t * worth [n0, n1, n2, n3, n4] (c, 97 + j)) bot := .of_le b1 hb2 (by omega)
        have hm3 : IntMulOk (t * worth [n0, n1, n2, n3, n4] (c, 97 + j) * bot) top := .of_le b2 ht2 (by omega)
        have hm4 : IntMulOk (t * worth [n0, n1, n2, n3, n4] (c, 97 + j) * bot) bot := .of_le b2 hb2 (by omega)
        obtain ⟨T2, hT2⟩ : ∃ T2, T2 = news₅ ++ ow := ⟨_, rfl⟩
        have MQ := List.mem_append_left ow hq
        have ML := List.mem_append_left ow hln5
        rw [← hT2] at N₁ MQ ML
        k_steps
        rename Fr _ _ _ _ => fZ
        rename News _ _ _ _ => nZ
        refine Back.intro (news₂ := news₅) fZ (fun p hp => nZ p (List.mem_cons_of_mem _ (by rw [hT2]; exact hp))) hI (by (try dsimp only at *); omega) ⟨eN5, mn, _, _, _, _, _, _, rfl, rfl, rfl, by decide, ?_, ?_, ?_⟩
        · rw [hfr, hdr]; rfl
        · rw [Nat.pow_succ]
          exact bits_up (intBits_add_le (intBits_mul_le b2 ht2) (show bitsOf 1 ≤ 1 by decide)) (by omega)
        · rw [Nat.pow_succ]
          exact bits_up (intBits_mul_le b2 hb2) (by omega)
      case dnb =>
        clear F5 N5
        rintro m₂ news₂ h₂ tk₂ ⟨eN5, mn, top, bot, t, tt, tb, tu, mt, mb, mu, ht1, hfr, ht2, hb2⟩ hst2 F₂ N₂
        k_steps
        rename News _ _ _ _ => nZ
        rename Fr _ _ _ _ => fZ
        rw [List.drop_of_length_le (by have := hC.len; omega)] at hfr
        have e1 : frac [n0, n1, n2, n3, n4] P C = (top, bot) := by
          unfold frac readV
          rw [if_neg hpar, conv_rev, ← hcv]
          exact hfr
        rw [e1] at hret
        exact hret _ _ _ _ _ fZ (news_pick1 nZ (List.mem_cons_self ..) fun p hp => List.mem_cons_of_mem _ (eN5 ▸ hbs p hp)) (by (try dsimp only at *); omega)
-- Folded
local macro_rules | `(tactic| walk_at "S12") => `(tactic| refine' super_slot (.inl rfl) ?F ?X ?N ?i0 ?i1 ?i2 ?a ?b ?c ?d ?_)
local macro_rules | `(tactic| walk_at "S13") => `(tactic| refine' comp_start (cl := []) (fun _ => true) (fun v u => u = v) ?h ?c1 ?c2 ?c3 ?c4 ?c5 ?c6)
theorem words_Folded_1 : True := by
  k_with_none
  (k_with "own shade" => (have Bₚₗ := True.intro; have Dₚₗ := True.intro; have F9ₗ := True.intro; have FGₚₗ := True.intro; have Fₚₗ := True.intro; have Gₚₗ := True.intro; have Lₚₗ := True.intro; have N9ₗ := True.intro; have Nₚₗ := True.intro; have Sₚₗ := True.intro; have Tₚₗ := True.intro; have Xₚₗ := True.intro; have Yₚₗ := True.intro; have aₗ := True.intro; have bhₚₗ := True.intro; have blₚₗ := True.intro; have bₗ := True.intro; have cellsₚₗ := True.intro; have ctₚₗ := True.intro; have cₚₗ := True.intro; have d1ₚₗ := True.intro; have d2ₚₗ := True.intro; have dcₚₗ := True.intro; have dxₚₗ := True.intro; have dₚₗ := True.intro; have epₚₗ := True.intro; have fsₚₗ := True.intro; have fₚₗ := True.intro; have gE9ₗ := True.intro; have gₚₗ := True.intro; have h9ₗ := True.intro; have hcₚₗ := True.intro; have hkₚₗ := True.intro; have hmₗ := True.intro; have hoₚₗ := True.intro; have hpₗ := True.intro; have hrₚₗ := True.intro; have hshₚₗ := True.intro; have hsₚₗ := True.intro; have ht1ₚₗ := True.intro; have ht2ₚₗ := True.intro; have ht3ₚₗ := True.intro; have ht4ₚₗ := True.intro; have htₚₗ := True.intro; have hvₗ := True.intro; have hₗ := True.intro; have hₚₗ := True.intro; have kₚₗ := True.intro; have l1ₗ := True.intro; have l1ₚₗ := True.intro; have l2ₗ := True.intro; have loₚₗ := True.intro; have nNₗ := True.intro; have nₚₗ := True.intro; have ocₚₗ := True.intro; have oₚₗ := True.intro; have psₚₗ := True.intro; have pₗ := True.intro; have qₗ := True.intro; have qₚₗ := True.intro; have sₚₗ := True.intro; have t1ₗ := True.intro; have t1ₚₗ := True.intro; have t2ₗ := True.intro; have t9ₗ := True.intro; have tcₚₗ := True.intro; have tk9ₗ := True.intro; have tkₚₗ := True.intro; have tvₚₗ := True.intro; have tₚₗ := True.intro; have u1ₚₗ := True.intro; have u2ₚₗ := True.intro; have v1ₚₗ := True.intro; have vsₚₗ := True.intro; have vₗ := True.intro; have vₚₗ := True.intro; have xₚₗ := True.intro))
  (k_with "own bare" => (clear Bₚₗ Dₚₗ F9ₗ FGₚₗ Fₚₗ Gₚₗ Lₚₗ N9ₗ Nₚₗ Sₚₗ Tₚₗ Xₚₗ Yₚₗ aₗ bhₚₗ blₚₗ bₗ cellsₚₗ ctₚₗ cₚₗ d1ₚₗ d2ₚₗ dcₚₗ dxₚₗ dₚₗ epₚₗ fsₚₗ fₚₗ gE9ₗ gₚₗ h9ₗ hcₚₗ hkₚₗ hmₗ hoₚₗ hpₗ hrₚₗ hshₚₗ hsₚₗ ht1ₚₗ ht2ₚₗ ht3ₚₗ ht4ₚₗ htₚₗ hvₗ hₗ hₚₗ kₚₗ l1ₗ l1ₚₗ l2ₗ loₚₗ nNₗ nₚₗ ocₚₗ oₚₗ psₚₗ pₗ qₗ qₚₗ sₚₗ t1ₗ t1ₚₗ t2ₗ t9ₗ tcₚₗ tk9ₗ tkₚₗ tvₚₗ tₚₗ u1ₚₗ u2ₚₗ v1ₚₗ vsₚₗ vₗ vₚₗ xₚₗ))
  (k_with "own getMethod ref" => ((k_here; (with_reducible show wpAny _ _ (getMethod (Value.ref _) (PySem.Str.ofString "append") _) _ _ _); k_dflt (walk_at "R method_biN F X N i1 i2 a b c d e _"; (case F => k_asm); (case X => k_asm); (case N => k_asm); (case i1 => k_mem); (case i2 => k_mem); (case a => k_is); (case b => k_is); (case c => k_is); (case d => k_is); (case e => kernel_rfl); k_whole))))
  (k_with "own call builtin:list.append" => ((k_here; (with_reducible show wpAny _ _ (call (Value.builtin _) [Value.ref _, _]) _ _ _); k_dflt (walk_at "R append_accN F X N i2 a U z _"; (case F => k_asm); (case X => k_asm); (case N => k_asm); (case U => k_upd); (case i2 => k_mem); (case a => k_is); (case z => k_asm); k_whole); intro hₚₗ Fₚₗ Nₚₗ; (try k_sweep))))
  (k_with "own getMethod ref" => ((k_here; (with_reducible show wpAny _ _ (getMethod (Value.ref _) (PySem.Str.ofString "part_count") _) _ _ _); k_dflt (walk_at "R method_fnN F X N i1 i2 a b c d e _"; (case F => k_asm); (case X => k_asm); (case N => k_asm); (case i1 => k_mem); (case i2 => k_mem); (case a => k_is); (case b => k_is); (case c => k_is); (case d => k_is); (case e => kernel_rfl); k_whole))))
  (k_with "own getMethod ref" => ((k_here; (with_reducible show wpAny _ _ (getMethod (Value.ref _) (PySem.Str.ofString "push") _) _ _ _); k_dflt (walk_at "R method_fnN F X N i1 i2 a b c d e _"; (case F => k_asm); (case X => k_asm); (case N => k_asm); (case i1 => k_mem); (case i2 => k_mem); (case a => k_is); (case b => k_is); (case c => k_is); (case d => k_is); (case e => kernel_rfl); k_whole))))
  (k_with "own getMethod ref" => ((k_here; (with_reducible show wpAny _ _ (getMethod (Value.ref _) (PySem.Str.ofString "pop") _) _ _ _); k_dflt (walk_at "R method_fnN F X N i1 i2 a b c d e _"; (case F => k_asm); (case X => k_asm); (case N => k_asm); (case i1 => k_mem); (case i2 => k_mem); (case a => k_is); (case b => k_is); (case c => k_is); (case d => k_is); (case e => kernel_rfl); k_whole))))
  (k_with "own getMethod ref" => ((k_here; (with_reducible show wpAny _ _ (getMethod (Value.ref _) (PySem.Str.ofString "reset") _) _ _ _); k_dflt (walk_at "R method_fnN F X N i1 i2 a b c d e _"; (case F => k_asm); (case X => k_asm); (case N => k_asm); (case i1 => k_mem); (case i2 => k_mem); (case a => k_is); (case b => k_is); (case c => k_is); (case d => k_is); (case e => kernel_rfl); k_whole))))
  (k_with "own getMethod ref" => ((k_here; (with_reducible show wpAny _ _ (getMethod (Value.ref _) (PySem.Str.ofString "__len__") _) _ _ _); k_dflt (walk_at "S12"; (case F => k_asm); (case X => k_asm); (case N => k_asm); (case i0 => k_mem); (case i1 => k_mem); (case i2 => k_mem); (case a => k_is); (case b => ks_is); (case c => k_is); (case d => decide); intro qₚₗ hₚₗ Fₚₗ Nₚₗ l1ₗ; (try k_lt l1ₗ)))))
  (k_with "own getMethod ref" => ((k_here; (with_reducible show wpAny _ _ (getMethod (Value.ref _) (PySem.Str.ofString "pop") _) _ _ _); k_dflt (walk_at "R super_pop F X N i0 i1 i2 a b c d _"; (case F => k_asm); (case X => k_asm); (case N => k_asm); (case i0 => k_mem); (case i1 => k_mem); (case i2 => k_mem); (case a => k_is); (case b => ks_is); (case c => k_is); (case d => decide); intro qₚₗ hₚₗ Fₚₗ Nₚₗ l1ₗ; (try k_lt l1ₗ)))))
  (k_with "own callWith ref" => ((k_here; k_dflt (walk_at "R callWith_bound0 N q b _"; (case N => k_asm); (case q => k_mem); (case b => first | exact .inl rfl | exact .inr rfl); k_whole))))
  (k_with "own call ref" => ((k_here; k_dflt (walk_at "R call_len N q i _"; (case N => k_asm); (case q => k_mem); (case i => k_mem); k_whole))))
  (k_with "own ent_super" => ((walk_at "R ks_code_super k1 k2 k3 k4 k5 kA kF kK k6 k7 k8 k9 kB _ c1 c2 c3 c4"; (case kA => exact rfl); (case kF => exact rfl); (case kK => first | exact rfl | assumption); (case k1 => k_asm); (case k2 => k_asm); (case k3 => k_asm); (case k4 => k_asm); (case k5 => k_asm); (case k6 => k_is); (case k7 => k_is); (case k8 => ktr_room); (case k9 => first | exact BindsTo.of_eq rfl | exact binds_K (by k_in) rfl (by k_is) rfl rfl rfl); (case kB => exact locs rfl); (case c1 => decide); (case c2 => exact rfl); (case c3 => exact rfl); (case c4 => exact rfl); intro gₚₗ Lₚₗ hₚₗ FGₚₗ Fₚₗ Nₚₗ Bₚₗ Xₚₗ Tₚₗ l1ₗ; (try dsimp only); (try k_fold))))
  (k_with "own drop" => (((with_reducible rename News _ _ _ _ => nNₗ); intro pₗ hpₗ; first | exact nNₗ pₗ hpₗ | exact nNₗ pₗ (.tail _ hpₗ) | exact nNₗ pₗ (.tail _ (.tail _ hpₗ)) | exact nNₗ pₗ (.tail _ (.tail _ (.tail _ hpₗ))) | exact nNₗ pₗ (.tail _ (.tail _ (.tail _ (.tail _ hpₗ)))) | exact nNₗ pₗ (.tail _ (.tail _ (.tail _ (.tail _ (.tail _ hpₗ))))))))
  (k_with "own wpAt" => ((k_here; (fail_if_success ks_step "eval Call"); (fail_if_success ks_step "exec Return"); (fail_if_success ks_step "execs cons"); (fail_if_success ks_step "exec If"); (fail_if_success ks_step "attributeBase Call"); dsimp only)))
  (k_with "own wpAt" => ((k_here; ks_step "eval Call"; with_unfolding_all refine ks_wpAt_MethodCall ?_)))
  (k_with "own call ref" => ((k_here; k_dflt (walk_at "R call_pop F X N q i a b c U z _"; (case F => k_asm); (case X => k_asm); (case N => k_asm); (case q => k_mem); (case U => k_upd); (case i => k_mem); (case a => k_is); (case b => kernel_rfl); (case c => k_is); (case z => k_asm); k_whole; intro hₚₗ Fₚₗ Nₚₗ; (try k_sweep)))))
  (k_with "own ent" => ((walk_at "R code_def k1 k2 k3 k4 k5 kA kF kK k6 k7 k8 k9 kB _ c2 c3 c4 c5"; (case kA => exact rfl); (case kF => exact rfl); (case kK => first | exact rfl | assumption); (case k1 => k_asm); (case k2 => k_asm); (case k3 => k_asm); (case k4 => k_asm); (case k5 => k_asm); (case k6 => k_is); (case k7 => k_is); (case k8 => ktr_room); (case k9 => first | exact BindsTo.of_eq rfl | exact binds_K (by k_in) rfl (by k_is) rfl rfl rfl); (case c5 => decide); (case kB => exact locs rfl); (case c2 => exact rfl); (case c3 => exact rfl); (case c4 => exact rfl); k_whole; intro gₚₗ Lₚₗ hₚₗ FGₚₗ Fₚₗ Nₚₗ Bₚₗ Xₚₗ Tₚₗ; (try dsimp only); (try k_fold))))
  (k_with "own setItem ref" => ((k_here; (with_reducible show wpAny _ _ (setItem (Value.ref _) (Value.ref _) (Value.ref _)) _ _ _); k_dflt (dsimp only; walk_at "R setitemN F X N h2 hl yl a b c U z z' _"; (case F => k_asm); (case X => k_asm); (case N => k_asm); (case U => k_updF); (case h2 => k_mem); (case hl => k_mem); (case yl => k_asm); (case a => k_is); (case b => kernel_rfl); (case c => k_is); (case z => k_asm); (case z' => k_asm); intro hₚₗ epₚₗ Fₚₗ Nₚₗ; (try dsimp only [List.nil_append, List.cons_append] at Nₚₗ); (try k_sweep)))))
  (k_with "own setAttr ref" => ((k_here; (with_reducible show wpAny _ _ (setAttr (Value.ref _) (PySem.Str.ofString "_initial_size") _) _ _ _); k_dflt (dsimp only; walk_at "R set_acc F X N h1 a b c U _"; (case F => k_asm); (case X => k_asm); (case N => k_asm); (case h1 => k_mem); (case U => k_updF); (case a => k_is); (case b => kernel_rfl); (case c => kernel_rfl); intro hₚₗ Fₚₗ Nₚₗ; (try dsimp only [List.nil_append, List.cons_append] at Nₚₗ); (try k_sweep)))))
  (k_with "own exec For" => ((k_here; refine for_start ?_ (by intro _; rfl))))
  (k_with "own call type:enumerate" => ((k_here; refine stop_here ?_)))
  (k_with "own compareOp Is str str" => ((k_here; walk_at "R is_same F X bₗ c d _"; (case F => k_asm); (case X => k_asm); (case bₗ => kernel_rfl); (case c => assumption); (case d => assumption); (intro bₗ; cases bₗ))))
  (k_with "own compareOp Is str str" => ((k_here; walk_at "R is_diff a b c d _"; (case a => assumption); (case b => assumption); (case c => assumption); (case d => assumption))))
  (k_with "own eval Name" => ((k_here; (with_reducible show wpAny _ _ (eval (PySem.Expr.Name _ _) (envOf _ _ _ _ _)) _ _ _); k_dflt (walk_at "R ld k1 k2 _"; (case k1 => k_asm); (case k2 => first | exact rfl | with_reducible assumption | assumption); k_whole))))
  (k_with "own execs cons" => ((k_here; (with_reducible refine wpAny_execs_cons ?_); try dsimp only)))
  (k_with "own execs nil" => ((k_here; refine wpAny_execs_nil ?_; try dsimp only)))
  (k_with "own subscriptTail" => ((k_here; (with_reducible show wpAny _ _ (subscriptTail _ _ (Value.ref _) (Value.int _ _)) _ _ _); k_dflt (walk_at "R item_tupleL l a b c d _"; (case l => exact News.isTup (by k_asm) (by k_mem)); (case a => first | decide | omega); (case b => first | decide | omega); (case c => first | rfl | assumption | decide); (case d => first | rfl | assumption | simp); k_whole))))
  (k_with "own subscriptTail" => ((k_here; (with_reducible show wpAny _ _ (subscriptTail _ _ (Value.ref _) (Value.int _ _)) _ _ _); k_dflt (walk_at "R item_listL l a b d _"; (case l => exact News.isList (by k_asm) (by k_mem)); (case a => first | decide | omega | assumption); (case b => first | decide | omega | assumption); (case d => first | rfl | assumption | simp); k_whole))))
  (k_with "own sz" => ((k_here; first | assumption | (simp only [Array.size_push, List.size_toArray, List.length_append, List.length_reverse, List.length_cons, List.length_nil, Array.size_empty] at *; omega))))
  (k_with "own om" => ((k_here; first | assumption | decide | omega | (dsimp only; omega))))
  (k_with "own call ref" => ((k_here; k_dflt (show wpAny _ _ (call (Value.ref 128) [Value.ref _]) _ _ _); k_dflt (walk_at "R count_U B F X T hk N h1 h2 hd _"; (case B => k_asm); (case F => k_asm); (case X => k_asm); (case T => k_asm); (case hk => first | exact rfl | assumption); (case N => k_asm); (case h1 => k_mem); (case h2 => k_mem); (case hd => ktr_room); intro hₚₗ tkₚₗ tₚₗ Fₚₗ Nₚₗ htₚₗ; (try dsimp only at htₚₗ); (try k_sweep)))))
  (k_with "own call ref" => ((k_here; k_dflt (show wpAny _ _ (call (Value.ref 91) [Value.ref _]) _ _ _); k_dflt (walk_at "R pop_U B F X T hk N h2 hd dx U z _"; (case B => k_asm); (case F => k_asm); (case X => k_asm); (case T => k_asm); (case hk => first | exact rfl | assumption); (case N => k_asm); (case U => k_updF); (case h2 => k_mem); (case hd => ktr_room); (case dx => k_ne); (case z => walk_at "sz"); intro hₚₗ tkₚₗ Fₚₗ Nₚₗ htₚₗ; (try dsimp only at htₚₗ); (try dsimp only [List.nil_append, List.cons_append] at Nₚₗ); (try k_sweep)))))
  (k_with "own call ref" => ((k_here; k_dflt (show wpAny _ _ (call (Value.ref 75) [Value.ref _, Value.str _ _, Value.str _ _]) _ _ _); k_dflt (walk_at "R push_U B F X T hk N h2 hd hu dx U z _"; (case B => k_asm); (case F => k_asm); (case X => k_asm); (case T => k_asm); (case hk => first | exact rfl | assumption); (case N => k_asm); (case U => k_updF); (case h2 => k_mem); (case hd => ktr_room); (case hu => ktr_room); (case dx => k_ne); (case z => walk_at "sz"); intro qₚₗ hₚₗ tkₚₗ Fₚₗ Nₚₗ htₚₗ; (try dsimp only at htₚₗ); (try dsimp only [List.nil_append, List.cons_append] at Nₚₗ); (try k_sweep)))))
  (k_with "own call ref" => ((k_here; k_dflt (show wpAny _ _ (call (Value.ref 131) []) _ _ _); k_dflt (walk_at "R make_U0 B F X T hk N hd _"; (case B => k_asm); (case F => k_asm); (case X => k_asm); (case T => k_asm); (case hk => first | exact rfl | assumption); (case N => k_asm); (case hd => ktr_room); intro xₚₗ dxₚₗ epₚₗ hshₚₗ tₚₗ vₚₗ nₚₗ hₚₗ tkₚₗ Fₚₗ Nₚₗ l1ₗ l2ₗ htₚₗ; (try dsimp only at htₚₗ); (try k_sweep)))))
  (k_with "own call ref" => ((k_here; k_dflt (show wpAny _ _ (call (Value.ref 131) [Value.int _ _]) _ _ _); k_dflt (walk_at "R make_U1 B F X T hk N hd _"; (case B => k_asm); (case F => k_asm); (case X => k_asm); (case T => k_asm); (case hk => first | exact rfl | assumption); (case N => k_asm); (case hd => ktr_room); intro xₚₗ dxₚₗ epₚₗ hshₚₗ tₚₗ nₚₗ hₚₗ tkₚₗ Fₚₗ Nₚₗ l1ₗ l2ₗ htₚₗ; (try dsimp only at htₚₗ); (try k_sweep)))))
  (k_with "own call ref" => ((k_here; k_dflt (show wpAny _ _ (call (Value.ref 177) [Value.str _ _, Value.str _ _]) _ _ _); k_dflt (walk_at "R idx_spec B F X N T hk hd ha t0 t1 kk lt _"; (case B => k_asm); (case F => k_asm); (case X => k_asm); (case T => k_asm); (case hk => first | exact rfl | assumption); (case N => k_asm); (case hd => ktr_room); (case ha => decide +kernel); (case t0 => walk_at "om"); (case t1 => walk_at "om"); (case kk => assumption); (case lt => assumption); intro tvₚₗ hₚₗ tkₚₗ Fₚₗ Nₚₗ htₚₗ; (try dsimp only at htₚₗ); (try k_sweep)))))
  (k_with "own call ref" => ((k_here; k_dflt (show wpAny _ _ (call (Value.ref 170) [Value.str _ _, Value.int _ _]) _ _ _); k_dflt (walk_at "R item_str B F X N T hk hd i0 i1 ix _"; (case B => k_asm); (case F => k_asm); (case X => k_asm); (case T => k_asm); (case hk => first | exact rfl | assumption); (case N => k_asm); (case hd => ktr_room); (case i0 => walk_at "om"); (case i1 => first | assumption | decide +kernel); (case ix => decide +kernel); intro tvₚₗ hₚₗ tkₚₗ Fₚₗ Nₚₗ ht1ₚₗ ht2ₚₗ; (try dsimp only at ht1ₚₗ); (try k_sweep)))))
  (k_with "own eval ListComp" => ((k_here; k_dflt (walk_at "S13"; (case c1 => with_unfolding_all rfl); (case c2 => decide); (case c3 => exact rfl); (case c4 => decide); (case c5 => exact rfl); (case c6 => (intro _; rfl))))))
  (k_with "own pyIter ref" => ((k_here; (with_reducible show wpAny _ _ (pyIter (Value.ref _)) (fun it s₂ => CompRest _ _ _ _ _ _ _ _ _ _ _ _ it s₂) _ _); k_dflt (walk_at "R comp_acc hh F X N h1 h2 a b z c d e _"; (case hh => exact rfl); (case F => k_asm); (case X => k_asm); (case N => k_asm); (case h1 => k_mem); (case h2 => k_mem); (case a => k_is); (case b => k_is); (case z => walk_at "sz"); (case c => exact rfl); (case d => exact rfl); (case e => decide); intro Dₚₗ kₚₗ hₚₗ tkₚₗ Fₚₗ Nₚₗ l1ₚₗ htₚₗ; (try dsimp only at htₚₗ); (try k_sweep)))))
  (k_with "own call ref" => ((k_here; k_dflt (show wpAny _ _ (call (Value.ref 113) [Value.ref _, Value.ref _]) _ _ _); k_dflt (walk_at "R reset_U B F X T hk N hl hd dx hx hx2 z z2 _"; (case B => k_asm); (case F => k_asm); (case X => k_asm); (case T => k_asm); (case hk => first | exact rfl | assumption); (case N => k_asm); (case hl => k_mem); (case hd => ktr_room); (case dx => k_ne); (case hx => k_all); (case hx2 => k_all); (case z => walk_at "sz"); (case z2 => walk_at "sz"); intro hₚₗ tkₚₗ tₚₗ vₚₗ nₚₗ epₚₗ Fₚₗ Nₚₗ htₚₗ; (try dsimp only at htₚₗ); (try k_sweep)))))
  (k_with "own exec While" => ((k_here; refine stop_here ?_)))
  (k_with "own exec While Compare" => ((k_here; refine stop_here ?_)))
  (k_with "own eval Name" => ((k_here; k_dflt (first | (walk_at "R nameX_L F v _ a b"; (case F => k_asm); (case a => rfl); (case b => rfl); (case v => first | rfl | with_reducible assumption); k_whole) | (walk_at "R nameX_K F X T e _ a b"; (case F => k_asm); (case X => k_asm); (case T => k_asm); (case a => rfl); (case b => rfl); (case e => k_is); k_whole)))))
  (k_with "own subscriptTail Name Constant ref int" => ((k_here; k_dflt (first | (walk_at "R item_listL l a b d _"; (case l => exact News.isList (by with_reducible assumption) (by k_mem)); (case a => decide); (case b => first | decide | omega); (case d => exact rfl); k_whole) | (walk_at "R item_tupleL l a b c d _"; (case l => exact News.isTup (by with_reducible assumption) (by k_mem)); (case a => decide); (case b => decide); (case c => first | rfl | assumption | decide); (case d => first | rfl | assumption | simp); k_whole)))))
  (k_with "own subscriptTail Name Name ref int" => ((k_here; k_dflt (walk_at "R item_listL l a b d _"; (case l => exact News.isList (by with_reducible assumption) (by k_mem)); (case a => decide); (case b => first | decide | omega); (case d => exact rfl); k_whole))))
  (k_with "own callWith ref" => ((k_here; (with_reducible show wpAny _ _ (callWith _ (Value.ref (OfNat.ofNat _)) _ _ _) _ _ _); k_dflt (first | (walk_at "R callWith_K k1 k2 _"; (case k1 => with_reducible assumption); (case k2 => k_is); k_whole) | (walk_at "R callWith_K0 k1 k2 _"; (case k1 => exact Frag.In.keeps (by with_reducible assumption) (Fr.keep (by with_reducible assumption))); (case k2 => k_is); k_whole)))))
  (k_with "own subscriptTail List" => ((k_here; k_dflt (walk_at "R item_listL l a b d _"; (case l => exact News.isList (by with_reducible assumption) (by k_mem)); (case a => decide); (case b => first | decide | omega); (case d => exact rfl); k_whole))))
  trivial
theorem fold_signs : ∀ {C P : List (Nat × Nat)}, Signs P → Signs C → Signs (C.foldl foldStep P)
  | [], _, h, _ => h
  | c :: C, P, h, h' => fold_signs (C := C) (P := foldStep P c) (fun p hp => by
      unfold foldStep at hp
      rcases List.mem_append.mp hp with hp | hp
      · exact h p hp
      rcases List.mem_cons.mp hp with hp | hp
      · subst hp; exact h' _ (List.mem_cons_self ..)
      · exact flip_signs p hp) fun p hp => h' p (List.mem_cons_of_mem _ hp)
theorem folded_spec {w : World} {pT : Program} {loose : List Str} {mean : ExcName → Option Value} {mg mb : Str → Option Value}
    {dp un : Nat} {gd : Option (List Code)} {cn : Str} {cs : Scope} {a : Addr} {ccd : Value} {cl : List (Str × Addr)} {outer : List Env} {A₀ : Around} {base h₀ : Heap} {L : Addr} {m : Str → Option Value} {s : Shared}
    {Q E : Value → Shared → Prop} {news : List (Addr × Obj)}
    (B : Below A₀ base outer h₀) (F : Fr h₀ L s.heap m) (X : (pre.heap_1 w.params).In h₀) (T : Top pT loose mean mg mb h₀) (hk : cs.kind = .function) {l1 l2 : Addr} {its : List Value} {k1 k2 : Nat} {lead : Int} {tl : Tok} {P C : List (Nat × Nat)} {its2 : List Value}
    (N : News h₀ L s.heap news) (hl1 : (l1, listOf its.toArray k1) ∈ news) (hl2 : (l2, listOf its2.toArray k2) ∈ news) (hd1 : dp + 10 < recursionLimit) (hu1 : un + 20 < cLine) (hP : Pcs s.toks news its P) (hsz : its.length ≤ 3) (hC : Pcs s.toks news its2 C) (hsz2 : its2.length ≤ 3) (hsp : Signs P) (hsc : Signs C)
    (hret : ∀ row drow its' ep hsh t n tl' h' (tk' : Nat), Fr h₀ L h' m → News h₀ L h' ((row, accObj drow its'.toArray ep) :: (drow, sizeDict hsh t (.int lead tl) n) :: tl') → (∀ p ∈ news, p ∈ tl') → (∀ p ∈ tl', p.1 ≠ row) → drow ≠ row →
      Pcs tk' tl' its' (C.foldl foldStep P) → its'.length + 1 ≤ 4 * 2 ^ its2.length → s.toks ≤ tk' → Q (.ref row) { s with heap := h', toks := tk' }) :
    wpAny (model PR w) (ktrTop dp un gd cn cs L a ccd cl outer) (call (.ref 211) [.ref l1, .ref l2, .int lead tl]) Q E s := by
  refine wpAny_call ?_
  k_dflt (walk_at "ent")
  refine gen_toks s.toks (Nat.le_add_right _ _) ?_
  intro tk htk
  k_steps
  walk_at "shade"
  rename_i row drow ep hsh t n h' tk' l1' l2' ht' h'' F1 N1
  walk_at "bare"
  have n1 : ∀ p ∈ news, p.1 ≠ drow := fun p hp => Nat.ne_of_lt (l1' p hp)
  have n2 : ∀ p ∈ news, p.1 ≠ row := fun p hp => Nat.ne_of_lt (Nat.lt_trans (l1' p hp) l2')
  have n3 := neN (Nat.ne_of_lt l2')
  refine' list_led ?hh ?hE ?hF ?hN ?hl ?hc ?hd (fun i m₁ n₁ tk => m₁ "creases" = some (.ref l2) ∧ m₁ "row" = some (.ref row) ∧ ∃ its' ep' tl', n₁ = (row, accObj drow its'.toArray ep') :: (drow, sizeDict hsh t (.int lead tl) n) :: tl' ∧ (∀ p ∈ news, p ∈ tl') ∧ (∀ p ∈ tl', p.1 ≠ row) ∧ its'.length = i ∧ Pcs tk tl' its' (P.take i)) ?Jm ?h0 ?st ?dn
  case hh => exact rfl
  case hF => exact F1
  case hN => exact N1
  case hE => first | passes_own | with_unfolding_all passes_own
  case hl => exact List.mem_cons_of_mem _ (List.mem_cons_of_mem _ hl1)
  case hc => exact rfl
  case hd => exact rfl
  case Jm => exact fun i m₁ n₁ t t' ⟨a, b, its', ep', tl', c, d, e, f, g⟩ ht => ⟨a, b, its', ep', tl', c, d, e, f, g.mono ht fun _ h => h⟩
  case h0 => exact ⟨rfl, rfl, [], _, news, rfl, fun _ h => h, n2, rfl, by simp [Pcs]⟩
  case st =>
    clear F1 N1
    rintro i v ow m₁ news₁ h₁ tk₀ tk₁ I hv ⟨mc, mr, its', ep', tl', rfl, sub, nr, hlen, hp⟩ hst htk F₁ N₁ hI how ⟨oI, hoI, hoc⟩
    (try dsimp only at hst); (try dsimp only at ht')
    have hb : s.toks ≤ tk₀ := by omega
    obtain ⟨p, hpi, ⟨q, u1, u2, rfl, hq, c1, c2, c3, c4⟩, htake⟩ := (hP.mono hb sub).at hv
    have hx : ∀ p ∈ tl' ++ ow, p.1 ≠ row := by
      intro p hp e
      rcases List.mem_append.mp hp with h | h
      · exact nr p h e
      · rcases how p h with h | h
        · exact hI _ (List.mem_cons_self ..) (e.symm.trans h)
        · exact n2 _ hl1 (h.symm.trans e)
    have hq' := List.mem_append_left ow hq
    have hsz' : its'.toArray.size ≤ 1000 := by
      have := List.getElem?_eq_some_iff.mp hv
      obtain ⟨h, -⟩ := this
      simp only [List.size_toArray]; omega
    obtain ⟨T2, hT2⟩ : ∃ T2, T2 = tl' ++ ow := ⟨_, rfl⟩
    replace N₁ : News _ _ _ ((row, accObj drow its'.toArray ep') :: (drow, sizeDict hsh t (.int lead tl) n) :: (tl' ++ ow)) := N₁
    rw [← hT2] at N₁ hx hq'
    k_steps
    walk_at "shade"
    rename_i q' hz tkz fZ nZ htz
    walk_at "bare"
    have hqr : q' ≠ row := led_ne nZ (List.mem_cons_self ..) (List.mem_cons_of_mem _ (List.mem_cons_self ..)) (by intro e; cases e)
    have hqI : q' ≠ I := led_ne nZ (List.mem_cons_self ..) (List.mem_cons_of_mem _ (List.mem_cons_of_mem _ (List.mem_cons_of_mem _ (hT2 ▸ List.mem_append_right _ hoI)))) (by rw [hoc]; intro e; injection e with e; exact absurd e (by decide))
    rw [List.push_toArray] at nZ
    (try dsimp only at htz)
    refine Back.intro (news₂ := (row, accObj drow (its' ++ [Value.ref q']).toArray (ep' + 1)) :: (drow, sizeDict hsh t (.int lead tl) n) :: (q', tupObj ⟨#[p.1]⟩ u1 ⟨#[p.2]⟩ u2) :: tl') fZ ?_ ?_ (by dsimp only; omega) ⟨mc, mr, its' ++ [Value.ref q'], _, _, rfl, ?_, ?_, ?_, ?_⟩
    · intro p hp
      apply nZ
      rw [hT2]
      simp only [List.cons_append, List.mem_cons, List.mem_append] at hp ⊢
      rcases hp with h | h | h | h | h <;> simp [h]
    · intro p hp
      rcases List.mem_cons.mp hp with h | hp
      · subst h; exact hI (row, accObj drow its'.toArray ep') (List.mem_cons_self ..)
      rcases List.mem_cons.mp hp with h | hp
      · subst h; exact hI (drow, sizeDict hsh t (.int lead tl) n) (List.mem_cons_of_mem _ (List.mem_cons_self ..))
      rcases List.mem_cons.mp hp with h | hp
      · subst h; exact hqI
      · exact hI _ (List.mem_cons_of_mem _ (List.mem_cons_of_mem _ hp))
    · exact fun p hp => List.mem_cons_of_mem _ (sub p hp)
    · intro p hp
      rcases List.mem_cons.mp hp with h | hp
      · subst h; exact hqr
      · exact nr p hp
    · simp [hlen]
    · rw [htake]
      exact (hp.mono (by omega) fun _ h => List.mem_cons_of_mem _ h).append (.one ⟨q', u1, u2, rfl, List.mem_cons_self .., c1, by omega, c3, by omega⟩)
  case dn =>
    clear F1 N1
    rintro m₁ news₁ h₁ tk₁ ⟨mc, mr, its', ep', tl', rfl, sub, nr, hlen, hp⟩ hst F₁ N₁
    k_steps
    rename Fr _ _ _ _ => F2
    rename News _ _ _ _ => N2
    refine' list_led ?hh ?hE ?hF ?hN ?hl ?hc ?hd (fun i m₁ n₁ tk => m₁ "row" = some (.ref row) ∧ ∃ its' ep' tl', n₁ = (row, accObj drow its'.toArray ep') :: (drow, sizeDict hsh t (.int lead tl) n) :: tl' ∧ (∀ p ∈ news, p ∈ tl') ∧ (∀ p ∈ tl', p.1 ≠ row) ∧ Pcs tk tl' its' ((C.take i).foldl foldStep P) ∧ its'.length + 1 ≤ 4 * 2 ^ i) ?Jm ?h0 ?st ?dn
    case hh => exact rfl
    case hF => exact F2
    case hN => exact N2
    case hE => first | passes_own | with_unfolding_all passes_own
    case hl => exact List.mem_cons_of_mem _ (List.mem_cons_of_mem _ (sub _ hl2))
    case hc => exact rfl
    case hd => exact rfl
    case Jm => exact fun i m₁ n₁ t t' ⟨b, its', ep', tl', c, d, e, f, g⟩ ht => ⟨b, its', ep', tl', c, d, e, f.mono ht fun _ h => h, g⟩
    case h0 =>
      refine ⟨mr, its', ep', tl', rfl, sub, nr, ?_, by omega⟩
      have := hP.len
      rw [List.take_of_length_le (by omega)] at hp
      exact hp
    case st =>
      clear F2 N2
      rintro i v ow m₂ news₂ h₂ tk₀ tk₂ I hv ⟨mr', its1, ep1, tl1, rfl, sub1, nr1, hp1, hlen1⟩ hst2 htk2 F₂ N₂ hI how ⟨oI, hoI, hoc⟩
      (try dsimp only at hst); (try dsimp only at hst2); (try dsimp only at ht')
      have hb : s.toks ≤ tk₀ := by omega
      obtain ⟨p, hpi, ⟨q, u1, u2, rfl, hq, c1, c2, c3, c4⟩, htake⟩ := (hC.mono hb sub1).at hv
      have hx : ∀ p ∈ tl1 ++ ow, p.1 ≠ row := by
        intro p hp e
        rcases List.mem_append.mp hp with h | h
        · exact nr1 p h e
        · rcases how p h with h | h
          · exact hI (row, accObj drow its1.toArray ep1) (List.mem_cons_self ..) (e.symm.trans h)
          · exact n2 _ hl2 (h.symm.trans e)
      have hq' := List.mem_append_left ow hq
      have hi3 : i < 3 := by
        obtain ⟨h, -⟩ := List.getElem?_eq_some_iff.mp hv
        omega
      have hsz1 : its1.length ≤ 15 := by
        have : i = 0 ∨ i = 1 ∨ i = 2 := by omega
        rcases this with rfl | rfl | rfl <;> omega
      have hszA : its1.toArray.size ≤ 1000 := by simp only [List.size_toArray]; omega
      obtain ⟨T2, hT2⟩ : ∃ T2, T2 = tl1 ++ ow := ⟨_, rfl⟩
      replace N₂ : News _ _ _ ((row, accObj drow its1.toArray ep1) :: (drow, sizeDict hsh t (.int lead tl) n) :: (tl1 ++ ow)) := N₂
      rw [← hT2] at N₂ hx hq'
      k_steps
      walk_at "shade"
      rename_i hA mir dmir epm hshm tm vm nm hB tkB lm1 lm2 htm hC D kD hD tkD FD ND lD htD
      walk_at "bare"
      have N3 : News _ _ _ ((mir, accObj dmir #[] epm) :: (dmir, sizeDict hshm tm vm nm) :: (D, listOf its1.toArray kD) :: (row, accObj drow its1.toArray ep1) :: (drow, sizeDict hsh t (.int lead tl) n) :: T2) := fun p hp => ND p (by
        simp only [List.mem_cons] at hp ⊢
        rcases hp with h | h | h | h | h | h <;> simp [h])
      have m1 : dmir ≠ mir := neN (Nat.ne_of_lt lm2)
      have m2 : row < dmir := lm1 (row, accObj drow its1.toArray ep1) (List.mem_cons_self ..)
      have m3 : drow < dmir := lm1 (drow, sizeDict hsh t (.int lead tl) n) (List.mem_cons_of_mem _ (List.mem_cons_self ..))
      have m4 : ∀ p ∈ T2, p.1 ≠ dmir := fun p hp => Nat.ne_of_lt (lm1 p (List.mem_cons_of_mem _ (List.mem_cons_of_mem _ hp)))
      have m5 : ∀ p ∈ T2, p.1 ≠ mir := fun p hp => Nat.ne_of_lt (Nat.lt_trans (lm1 p (List.mem_cons_of_mem _ (List.mem_cons_of_mem _ hp))) lm2)
      have m6 : row ≠ mir := Nat.ne_of_lt (Nat.lt_trans m2 lm2)
      have m7 : drow ≠ mir := Nat.ne_of_lt (Nat.lt_trans m3 lm2)
      have m8 : row ≠ dmir := Nat.ne_of_lt m2
      have m9 : drow ≠ dmir := Nat.ne_of_lt m3
      have m10 : D ≠ mir := fun e => lD (mir, accObj dmir #[] epm) (List.mem_cons_self ..) e.symm
      have m11 : D ≠ dmir := fun e => lD (dmir, sizeDict hshm tm vm nm) (List.mem_cons_of_mem _ (List.mem_cons_self ..)) e.symm
      have m12 : mir ≠ row := m6.symm
      have m13 : dmir ≠ row := m8.symm
      have m14 : D ≠ row := fun e => lD (row, accObj drow its1.toArray ep1) (by simp) e.symm
      clear ND
      k_steps
      walk_at "shade"
      rename_i hR tkR tR vR nR epR htR q' hW tkW FW NW htW
      walk_at "bare"
      unfold Stop
      refine whl_start 0 ?_
      have w1 : q' ≠ row := led_ne NW (List.mem_cons_self ..) (by simp; exact .inr (.inr (.inr (.inr (.inl rfl))))) (by intro e; cases e)
      have w2 : q' ≠ mir := led_ne NW (List.mem_cons_self ..) (List.mem_cons_of_mem _ (List.mem_cons_self ..)) (by intro e; cases e)
      have NW2 : News _ _ _ ((row, accObj drow (its1 ++ [Value.ref q']).toArray (ep1 + 1)) :: (drow, sizeDict hsh t (.int lead tl) n) :: (mir, accObj dmir its1.reverse.reverse.toArray epR) :: (dmir, sizeDict hshm tR vR nR) :: (q', tupObj ⟨#[p.1]⟩ u1 ⟨#[p.2]⟩ u2) :: (D, listOf its1.toArray kD) :: T2) := fun p hp => NW p (by
        rw [List.reverse_reverse, ← List.push_toArray] at hp
        simp only [List.mem_cons] at hp ⊢
        rcases hp with h | h | h | h | h | h | h <;> simp [h])
      clear NW
      have hsg1 : Signs ((C.take i).foldl foldStep P) := fold_signs hsp fun p hp => hsc p (List.mem_of_mem_take hp)
      have hsz2' : its1.length ≤ 15 := hsz1
      refine' whl_led ?hE ?hF ?hN (fun k m₁ n₁ tk => m₁ "row" = some (.ref row) ∧ m₁ "mirror" = some (.ref mir) ∧ ∃ its' ep' ms em tl' P' pm, n₁ = (row, accObj drow its'.toArray ep') :: (drow, sizeDict hsh t (.int lead tl) n) :: (mir, accObj dmir ms.reverse.toArray em) :: (dmir, sizeDict hshm tR vR nR) :: tl' ∧ (∀ p ∈ T2, p ∈ tl') ∧ (∀ p ∈ tl', p.1 ≠ row) ∧ (∀ p ∈ tl', p.1 ≠ mir) ∧ ms.length = k ∧ Pcs tk tl' its' P' ∧ Pcs tk tl' ms pm ∧ Signs pm ∧ P' ++ pm.map flip1 = foldStep ((C.take i).foldl foldStep P) p ∧ its'.length + k = 2 * its1.length + 1) its1.length ?h0 ?turn
      case hE => first | passes_own | with_unfolding_all passes_own
      case hF => exact FW
      case hN => exact NW2
      case h0 =>
        (try dsimp only at htW); (try dsimp only at htR); (try dsimp only at htD); (try dsimp only at htm)
        have hT2s : ∀ p ∈ tl1, p ∈ T2 := fun p hp => hT2 ▸ List.mem_append_left _ hp
        refine ⟨mr', rfl, _, _, _, _, _, ((C.take i).foldl foldStep P) ++ [p], ((C.take i).foldl foldStep P).reverse, rfl, fun p hp => List.mem_cons_of_mem _ (List.mem_cons_of_mem _ hp), ?_, ?_, List.length_reverse, ?_, ?_, ?_, ?_, ?_⟩
        · intro p hp
          rcases List.mem_cons.mp hp with h | hp
          · subst h; exact w1
          rcases List.mem_cons.mp hp with h | hp
          · subst h; exact m14
          · exact hx p hp
        · intro p hp
          rcases List.mem_cons.mp hp with h | hp
          · subst h; exact w2
          rcases List.mem_cons.mp hp with h | hp
          · subst h; exact m10
          · exact m5 p hp
        · exact (hp1.mono (by dsimp only; omega) fun p hp => List.mem_cons_of_mem _ (List.mem_cons_of_mem _ (hT2s p hp))).append (.one ⟨q', u1, u2, rfl, List.mem_cons_self .., c1, by dsimp only; omega, c3, by dsimp only; omega⟩)
        · exact (hp1.mono (by dsimp only; omega) fun p hp => List.mem_cons_of_mem _ (List.mem_cons_of_mem _ (hT2s p hp))).rev
        · exact fun p hp => hsg1 p (List.mem_reverse.mp hp)
        · simp [foldStep]
        · simp; omega
      case turn =>
        (try clear FW); (try clear NW2); (try clear F₂); (try clear N₂); (try clear N3)
        rintro k m₃ news₃ h₃ tk₃ ⟨r1, r2, its', ep', ms, em, tl', P', pm, rfl, sub', nr', nm', hk', hpr, hpm, hsg, heq, hle⟩ F₃ N₃ ht₃
        cases ms with
        | nil =>
          cases pm with
          | cons _ _ => exact hpm.elim
          | nil =>
            subst hk'
            k_steps
            rename Fr _ _ _ _ => fZ
            rename News _ _ _ _ => nZ
            have hT3 : ∀ p ∈ ow, p ∈ tl' := fun p hp => sub' p (hT2 ▸ List.mem_append_right _ hp)
            have hoff : ∀ q a t1 b t2, (q, tupObj a t1 b t2) ∈ tl' → q ≠ I := fun q a t1 b t2 hm => led_ne nZ (by simp [hm]) (a := q) (o := tupObj a t1 b t2) (b := I) (o' := oI) (by simp [hT3 _ hoI]) (by rw [hoc]; intro e; injection e with e; exact absurd e (by decide))
            refine Back.intro (news₂ := (row, accObj drow its'.toArray ep') :: (drow, sizeDict hsh t (.int lead tl) n) :: tl'.filter fun p => p.1 != I) fZ ?_ ?_ (by dsimp only at *; omega) ⟨r1, its', ep', _, rfl, ?_, ?_, ?_, ?_⟩
            · intro p hp
              apply nZ
              simp only [List.cons_append, List.mem_cons, List.mem_append, List.mem_filter] at hp ⊢
              rcases hp with h | h | h | h
              · simp [h]
              · simp [h]
              · simp [h.1]
              · simp [hT3 p h]
            · intro p hp
              rcases List.mem_cons.mp hp with h | hp
              · subst h; exact hI (row, accObj drow its1.toArray ep1) (List.mem_cons_self ..)
              rcases List.mem_cons.mp hp with h | hp
              · subst h; exact hI (drow, sizeDict hsh t (.int lead tl) n) (List.mem_cons_of_mem _ (List.mem_cons_self ..))
              · simpa using (List.mem_filter.mp hp).2
            · intro p hp
              refine List.mem_filter.mpr ⟨sub' p (hT2 ▸ List.mem_append_left _ (sub1 p hp)), ?_⟩
              simpa using hI p (List.mem_cons_of_mem _ (List.mem_cons_of_mem _ (sub1 p hp)))
            · exact fun p hp => nr' p (List.mem_filter.mp hp).1
            · have e1 : P' = (C.take (i + 1)).foldl foldStep P := by
                rw [htake, List.foldl_append]
                simpa using heq
              rw [← e1]
              exact (hpr.off hoff).mono (by dsimp only at *; omega) fun _ h => h
            · have : ([] : List Value).length = 0 := rfl
              rw [Nat.pow_succ]
              omega
        | cons v ms' =>
          cases pm with
          | nil => exact hpm.elim
          | cons p2 pm' =>
            obtain ⟨c, d⟩ := p2
            obtain ⟨⟨q2, v1, v2, rfl, hq2, d1, d2, d3, d4⟩, hpm'⟩ := hpm
            rw [List.reverse_cons, ← List.push_toArray] at N₃
            have hszA' : its'.toArray.size ≤ 1000 := by simp only [List.size_toArray]; omega
            have hszB' : ms'.reverse.toArray.size ≤ 1000 := by
              have : ms'.length + 1 = k := hk'
              simp only [List.size_toArray, List.length_reverse]; omega
            have kk0 : (Str.ofString "+-").cps[0]? = some 43 := by decide +kernel
            have kk1 : (Str.ofString "+-").cps[1]? = some 45 := by decide +kernel
            have kl0 : ∀ j, j < 0 → (Str.ofString "+-").cps[j]? ≠ some 43 := fun j hj => absurd hj (Nat.not_lt_zero _)
            have kl1 : ∀ j, j < 1 → (Str.ofString "+-").cps[j]? ≠ some 45 := fun j hj => by
              have : j = 0 := by omega
              subst this
              rw [kk0]; decide
            rcases hsg (c, d) (List.mem_cons_self ..) with hc | hc
            · have hc : c = 43 := hc
              subst hc
              k_steps
              refine WhlIf.yes (decide_eq_true (by simp only [Array.size_push]; omega)) ?_
              k_steps
              walk_at "shade"
              rename_i tvI hIt tkI ht1 ht2 q9 h9 tk9 F9 N9 ht9
              walk_at "bare"
              have ei : Txt.item (Str.ofString "-+") ((0 : Nat) : Int) = ⟨#[45]⟩ := by decide +kernel
              rw [ei] at N9
              (try dsimp only at ht1); (try dsimp only at ht2); (try dsimp only at ht9); (try dsimp only at ht₃)
              have z1 : q9 ≠ row := led_ne N9 (List.mem_cons_self ..) (List.mem_cons_of_mem _ (List.mem_cons_self ..)) (by intro e; cases e)
              have z2 : q9 ≠ mir := led_ne N9 (a := q9) (b := mir) (List.mem_cons_self ..) (by simp; exact .inr (.inr (.inr (.inl rfl)))) (by intro e; cases e)
              rw [List.push_toArray] at N9
              refine WBack.intro (k := ms'.length) (news₂ := (row, accObj drow (its' ++ [Value.ref q9]).toArray (ep' + 1)) :: (drow, sizeDict hsh t (.int lead tl) n) :: (mir, accObj dmir ms'.reverse.toArray (em + 1)) :: (dmir, sizeDict hshm tR vR nR) :: (q9, tupObj ⟨#[45]⟩ tvI ⟨#[d]⟩ v2) :: tl') F9 ?_ (by dsimp only; omega) (by have : ms'.length + 1 = k := hk'; omega) ⟨r1, r2, _, _, ms', _, _, P' ++ [(45, d)], pm', rfl, fun p hp => List.mem_cons_of_mem _ (sub' p hp), ?_, ?_, rfl, ?_, ?_, fun p hp => hsg p (List.mem_cons_of_mem _ hp), ?_, ?_⟩
              · intro p hp
                apply N9
                simp only [List.mem_cons] at hp ⊢
                rcases hp with h | h | h | h | h | h <;> simp [h]
              · intro p hp
                rcases List.mem_cons.mp hp with h | hp
                · subst h; exact z1
                · exact nr' p hp
              · intro p hp
                rcases List.mem_cons.mp hp with h | hp
                · subst h; exact z2
                · exact nm' p hp
              · exact (hpr.mono (by omega) fun _ h => List.mem_cons_of_mem _ h).append (.one ⟨q9, tvI, v2, rfl, List.mem_cons_self .., by omega, by omega, by omega, by omega⟩)
              · exact hpm'.mono (by omega) fun _ h => List.mem_cons_of_mem _ h
              · rw [← heq]; simp [flip1]
              · have : ms'.length + 1 = k := hk'
                simp only [List.length_append, List.length_cons, List.length_nil]; omega
            · have hc : c = 45 := hc
              subst hc
              k_steps
              refine WhlIf.yes (decide_eq_true (by simp only [Array.size_push]; omega)) ?_
              k_steps
              walk_at "shade"
              rename_i tvI hIt tkI ht1 ht2 q9 h9 tk9 F9 N9 ht9
              walk_at "bare"
              have ei : Txt.item (Str.ofString "-+") ((1 : Nat) : Int) = ⟨#[43]⟩ := by decide +kernel
              rw [ei] at N9
              (try dsimp only at ht1); (try dsimp only at ht2); (try dsimp only at ht9); (try dsimp only at ht₃)
              have z1 : q9 ≠ row := led_ne N9 (List.mem_cons_self ..) (List.mem_cons_of_mem _ (List.mem_cons_self ..)) (by intro e; cases e)
              have z2 : q9 ≠ mir := led_ne N9 (a := q9) (b := mir) (List.mem_cons_self ..) (by simp; exact .inr (.inr (.inr (.inl rfl)))) (by intro e; cases e)
              rw [List.push_toArray] at N9
              refine WBack.intro (k := ms'.length) (news₂ := (row, accObj drow (its' ++ [Value.ref q9]).toArray (ep' + 1)) :: (drow, sizeDict hsh t (.int lead tl) n) :: (mir, accObj dmir ms'.reverse.toArray (em + 1)) :: (dmir, sizeDict hshm tR vR nR) :: (q9, tupObj ⟨#[43]⟩ tvI ⟨#[d]⟩ v2) :: tl') F9 ?_ (by dsimp only; omega) (by have : ms'.length + 1 = k := hk'; omega) ⟨r1, r2, _, _, ms', _, _, P' ++ [(43, d)], pm', rfl, fun p hp => List.mem_cons_of_mem _ (sub' p hp), ?_, ?_, rfl, ?_, ?_, fun p hp => hsg p (List.mem_cons_of_mem _ hp), ?_, ?_⟩
              · intro p hp
                apply N9
                simp only [List.mem_cons] at hp ⊢
                rcases hp with h | h | h | h | h | h <;> simp [h]
              · intro p hp
                rcases List.mem_cons.mp hp with h | hp
                · subst h; exact z1
                · exact nr' p hp
              · intro p hp
                rcases List.mem_cons.mp hp with h | hp
                · subst h; exact z2
                · exact nm' p hp
              · exact (hpr.mono (by omega) fun _ h => List.mem_cons_of_mem _ h).append (.one ⟨q9, tvI, v2, rfl, List.mem_cons_self .., by omega, by omega, by omega, by omega⟩)
              · exact hpm'.mono (by omega) fun _ h => List.mem_cons_of_mem _ h
              · rw [← heq]; simp [flip1]
              · have : ms'.length + 1 = k := hk'
                simp only [List.length_append, List.length_cons, List.length_nil]; omega
    case dn =>
      (try clear F2); (try clear N2)
      rintro m₂ news₂ h₂ tk₂ ⟨mr', its1, ep1, tl1, rfl, sub1, nr1, hp1, hlen1⟩ hst2 F₂ N₂
      k_steps
      rename News _ _ _ _ => nZ
      (try dsimp only at hst); (try dsimp only at hst2); (try dsimp only at ht')
      have hC' := hC.len
      rw [List.take_of_length_le (by omega)] at hp1
      exact hret row drow its1 ep1 hsh t n tl1 _ _ (by k_asm) (by k_asm) sub1 nr1 n3 hp1 hlen1 (by omega)
-- LawAux
theorem led1 {h₀ h : Heap} {L : Addr} {a : Addr × Obj} {tl : List (Addr × Obj)} (N : News h₀ L h (a :: tl)) : ∃ N6, News h₀ L h N6 ∧ (∀ p ∈ tl, p ∈ N6) ∧ a ∈ N6 := ⟨_, N, fun p hp => by simp [hp], by simp⟩
theorem Pws.pick0 {tl : List (Addr × Obj)} : ∀ {vs : List Value} {ps : List (Nat × Nat)}, Pws tl vs ps → ∀ j : Nat, ∃ f : Addr × Tok × Tok, j < vs.length → vs.toArray[j]? = some (.ref f.1) ∧ (f.1, tupObj ⟨#[(ps.getD j (0, 0)).1]⟩ f.2.1 ⟨#[(ps.getD j (0, 0)).2]⟩ f.2.2) ∈ tl
  | [], [], _, _ => ⟨(0, 0, 0), fun h => absurd h (Nat.not_lt_zero _)⟩
  | v :: vs, p :: ps, ⟨⟨q, t1, t2, e, m⟩, _⟩, 0 => ⟨(q, t1, t2), fun _ => ⟨by simp [e], by simpa using m⟩⟩
  | v :: vs, p :: ps, ⟨_, h⟩, j + 1 => by
    obtain ⟨f, hf⟩ := Pws.pick0 h j
    refine ⟨f, fun hj => ?_⟩
    obtain ⟨a, b⟩ := hf (by simpa using hj)
    exact ⟨by simpa using a, by simpa using b⟩
  | [], _ :: _, h, _ => h.elim
  | _ :: _, [], h, _ => h.elim
theorem Pws.pick {tl : List (Addr × Obj)} {vs : List Value} {ps : List (Nat × Nat)} (h : Pws tl vs ps) : ∃ (Ts : Nat → Addr) (u1 u2 : Nat → Tok), ∀ j, j < vs.length →
    vs.toArray[j]? = some (.ref (Ts j)) ∧ (Ts j, tupObj ⟨#[(ps.getD j (0, 0)).1]⟩ (u1 j) ⟨#[(ps.getD j (0, 0)).2]⟩ (u2 j)) ∈ tl := by
  obtain ⟨f, hf⟩ := Classical.axiomOfChoice h.pick0
  exact ⟨fun j => (f j).1, fun j => (f j).2.1, fun j => (f j).2.2, hf⟩
theorem led2 {h₀ h : Heap} {L : Addr} {a b : Addr × Obj} {tl : List (Addr × Obj)} (N : News h₀ L h (a :: b :: tl)) : ∃ N6, News h₀ L h N6 ∧ (∀ p ∈ tl, p ∈ N6) ∧ a ∈ N6 ∧ b ∈ N6 := ⟨_, N, fun p hp => by simp [hp], by simp, by simp⟩
theorem pcS_sign (i : Int) : pcS i = 43 ∨ pcS i = 45 := by
  unfold pcS
  split
  · exact .inl rfl
  · exact .inr rfl
theorem pcN_name (i : Int) : ∃ j, j < 4 ∧ pcN i = 97 + j := by
  refine ⟨((i.fdiv 2).fmod 4).toNat, ?_, rfl⟩
  rw [Int.fmod_eq_emod_of_nonneg _ (by decide)]
  omega
theorem fmod4 (i : Int) : 0 ≤ i.fmod 4 ∧ i.fmod 4 < 4 := by
  rw [Int.fmod_eq_emod_of_nonneg _ (by decide)]
  omega
theorem fmod3 (i : Int) : i.fmod 3 = 0 ∨ i.fmod 3 = 1 ∨ i.fmod 3 = 2 := by
  rw [Int.fmod_eq_emod_of_nonneg _ (by decide)]
  omega
theorem news_swap3 {h₀ h : Heap} {L : Addr} {q a b c : Addr × Obj} {n : List (Addr × Obj)} (N : News h₀ L h (q :: a :: b :: c :: n)) : News h₀ L h (a :: b :: c :: q :: n) := fun p hp => N p (by
  simp only [List.mem_cons] at hp ⊢
  rcases hp with h | h | h | h | h <;> simp [h])
theorem signs_snoc {P : List (Nat × Nat)} (h : Signs P) (i : Int) : Signs (P ++ [(pcS i, pcN i)]) := fun p hp => by
  rcases List.mem_append.mp hp with hp | hp
  · exact h p hp
  · rw [List.mem_singleton.mp hp]; exact pcS_sign i
theorem names_snoc {P : List (Nat × Nat)} (h : ∀ p ∈ P, ∃ j, j < 4 ∧ p.2 = 97 + j) (i : Int) : ∀ p ∈ P ++ [(pcS i, pcN i)], ∃ j, j < 4 ∧ p.2 = 97 + j := fun p hp => by
  rcases List.mem_append.mp hp with hp | hp
  · exact h p hp
  · rw [List.mem_singleton.mp hp]; exact pcN_name i
theorem pcs_snoc {B B' : Nat} {n : List (Addr × Obj)} {ys : List Value} {P : List (Nat × Nat)} {q : Addr} {i : Int} {u1 u2 : Nat} (h : Pcs B n ys P) (hb : B ≤ B') (h1 : 0 < u1) (h2 : u1 < B') (h3 : 0 < u2) (h4 : u2 < B') :
    Pcs B' ((q, tupObj ⟨#[pcS i]⟩ u1 ⟨#[pcN i]⟩ u2) :: n) (ys ++ [.ref q]) (P ++ [(pcS i, pcN i)]) :=
  (h.mono hb fun _ h => List.mem_cons_of_mem _ h).append (.one ⟨q, u1, u2, rfl, List.mem_cons_self .., h1, h2, h3, h4⟩)
theorem strsAre_of {tx : Nat → Str} : ∀ {ys : List Value} {n : Nat}, ys.length = n → (∀ (i : Nat) y, ys[i]? = some y → ∃ u, y = .str (tx i) u) → StrsAre ys ((List.range n).map tx)
  | [], _, rfl, _ => .nil
  | v :: vs, _, rfl, h => by
    obtain ⟨u, e⟩ := h 0 v rfl
    subst e
    rw [List.length_cons, List.range_succ_eq_map, List.map_cons, List.map_map]
    exact .cons _ _ (strsAre_of (tx := tx ∘ Nat.succ) rfl fun i y hy => h (i + 1) y hy)
theorem txt_sum (P : List (Nat × Nat)) : ((P.map fun p => (⟨#[p.1, p.2]⟩ : Str)).map (·.length)).sum = 2 * P.length := by
  induction P with
  | nil => rfl
  | cons p r ih =>
    rw [List.map_cons, List.map_cons, List.sum_cons, ih, List.length_cons]
    show 2 + 2 * r.length = _
    omega
theorem pair_elt {prog : Program} {w : World} {A : Around} {E : Value → Shared → Prop} {s : Shared} {xa xb : Str} {p1 p2 p3 : Pos} {env : Env} {scope : Scope} {cl : List (Str × Addr)} {C : Addr} {m : Str → Option Value} {a b : Nat} {ta tb : Tok} {Q : Value → Shared → Prop}
    (hk : scope.kind = .function) (hxa : scope.names.lookup xa = some .local) (hxb : scope.names.lookup xb = some .local) (hns : s.heap.Ns C m) (ma : m xa = some (.str ⟨#[a]⟩ ta)) (mb : m xb = some (.str ⟨#[b]⟩ tb)) (da : (xa == ("__debug__" : Str)) = false) (db : (xb == ("__debug__" : Str)) = false)
    (h : ∀ u k, Q (.str ⟨#[a, b]⟩ u) { s with toks := k }) : wpAny (model prog w) A (eval (.BinOp (.Name xa p1) .Add (.Name xb p2) p3) (compEnvC scope cl C env)) Q E s := by
  refine wpAny_BinOp (wpAny_Name (wpAny_loadName_local ?_ (lookup_relabel_local hxa) hns ma ?_) da)
  · simp [compEnvC, relabel, hk]
  refine wpAny_Name (wpAny_loadName_local ?_ (lookup_relabel_local hxb) hns mb ?_) db
  · simp [compEnvC, relabel, hk]
  exact add_str (fun t' k => h t' k) (by show 1 + 1 ≤ _; rw [sizeLine_eq]; omega)
theorem ne_same {prog : Program} {w : World} {A : Around} {E : Value → Shared → Prop} {s : Shared} {x : Str} {t u : Tok} {Q : Value → Shared → Prop} (h : Q (.bool false) s) : wpAny (model prog w) A (compareOp .NotEq (.str x t) (.str x u)) Q E s :=
  ne_str (by rw [bne_self_eq_false]; exact h)
theorem signs_foldl : ∀ {C P : List (Nat × Nat)}, Signs P → Signs C → Signs (C.foldl foldStep P)
  | [], _, h, _ => h
  | c :: C, _, h, hc => signs_foldl (C := C) (foldStep_signs h (hc c (List.mem_cons_self ..))) fun p hp => hc p (List.mem_cons_of_mem _ hp)
theorem names_foldl : ∀ {C P : List (Nat × Nat)}, (∀ p ∈ P, ∃ j, j < 4 ∧ p.2 = 97 + j) → (∀ p ∈ C, ∃ j, j < 4 ∧ p.2 = 97 + j) → ∀ p ∈ C.foldl foldStep P, ∃ j, j < 4 ∧ p.2 = 97 + j
  | [], _, h, _ => h
  | c :: C, P, h, hc => names_foldl (C := C) (P := foldStep P c) (fun p hp => by
      unfold foldStep at hp
      rcases List.mem_append.mp hp with hp | hp
      · exact h p hp
      rcases List.mem_cons.mp hp with e | hp
      · subst e; exact hc _ (List.mem_cons_self ..)
      obtain ⟨q, hq, e⟩ := List.mem_map.mp hp
      subst e
      exact h q (List.mem_reverse.mp hq)) fun p hp => hc p (List.mem_cons_of_mem _ hp)
theorem pickN {prog : Program} {w : World} {A : Around} {E : Value → Shared → Prop} {s : Shared} {value slice : PySem.Expr} {l : Addr} {vs : List Value} {i : Nat} {u : Tok} {Q : Value → Shared → Prop} (Pn : Int → Prop) (hl : s.heap.IsList l vs.toArray) (hv : ∀ v ∈ vs, ∃ c t, v = .int c t ∧ Pn c) (hi : i < vs.length) (hz : vs.length ≤ 1000)
    (h : ∀ c t, Pn c → Q (.int c t) s) (hs : subscripted slice false (.ref l) (.int (0 + (i : Nat)) u) = operate [.ref l, .int (0 + (i : Nat)) u] (getItem (.ref l) (.int (0 + (i : Nat)) u)) := by with_unfolding_all rfl) :
    wpAny (model prog w) A (subscriptTail value slice (.ref l) (.int (0 + (i : Nat)) u)) Q E s := by
  obtain ⟨c, t, e, hc⟩ := hv _ (List.getElem_mem hi)
  have e2 : vs[((0 : Int) + (i : Nat)).toNat]? = some (.int c t) := by
    rw [Int.zero_add, Int.toNat_natCast, List.getElem?_eq_getElem hi, e]
  exact item_litK hl (by omega) (by omega) e2 (h c t hc) hs
-- Str
local macro_rules | `(tactic| walk_at "S14") => `(tactic| refine' super_slot (.inl rfl) ?F ?X ?N ?i0 ?i1 ?i2 ?a ?b ?c ?d ?_)
theorem words_Str_1 : True := by
  k_with_none
  (k_with "own shade" => (have Bₚₗ := True.intro; have Dₚₗ := True.intro; have F9ₗ := True.intro; have FGₚₗ := True.intro; have Fₚₗ := True.intro; have Gₚₗ := True.intro; have Lₚₗ := True.intro; have N9ₗ := True.intro; have Nₚₗ := True.intro; have Sₚₗ := True.intro; have Tₚₗ := True.intro; have Xₚₗ := True.intro; have Yₚₗ := True.intro; have aₗ := True.intro; have bhₚₗ := True.intro; have blₚₗ := True.intro; have bₗ := True.intro; have cellsₚₗ := True.intro; have ctₚₗ := True.intro; have cₚₗ := True.intro; have d1ₚₗ := True.intro; have d2ₚₗ := True.intro; have dcₚₗ := True.intro; have dxₚₗ := True.intro; have dₚₗ := True.intro; have epₚₗ := True.intro; have fsₚₗ := True.intro; have fₚₗ := True.intro; have gE9ₗ := True.intro; have gₚₗ := True.intro; have h9ₗ := True.intro; have hcₚₗ := True.intro; have hkₚₗ := True.intro; have hmₗ := True.intro; have hoₚₗ := True.intro; have hpₗ := True.intro; have hrₚₗ := True.intro; have hshₚₗ := True.intro; have hsₚₗ := True.intro; have ht1ₚₗ := True.intro; have ht2ₚₗ := True.intro; have ht3ₚₗ := True.intro; have ht4ₚₗ := True.intro; have htₚₗ := True.intro; have hvₗ := True.intro; have hₗ := True.intro; have hₚₗ := True.intro; have kₚₗ := True.intro; have l1ₗ := True.intro; have l1ₚₗ := True.intro; have l2ₗ := True.intro; have loₚₗ := True.intro; have nNₗ := True.intro; have nₚₗ := True.intro; have ocₚₗ := True.intro; have oₚₗ := True.intro; have psₚₗ := True.intro; have pₗ := True.intro; have qₗ := True.intro; have qₚₗ := True.intro; have sₚₗ := True.intro; have t1ₗ := True.intro; have t1ₚₗ := True.intro; have t2ₗ := True.intro; have t9ₗ := True.intro; have tcₚₗ := True.intro; have tk9ₗ := True.intro; have tkₚₗ := True.intro; have tvₚₗ := True.intro; have tₚₗ := True.intro; have u1ₚₗ := True.intro; have u2ₚₗ := True.intro; have v1ₚₗ := True.intro; have vsₚₗ := True.intro; have vₗ := True.intro; have vₚₗ := True.intro; have xₚₗ := True.intro))
  (k_with "own bare" => (clear Bₚₗ Dₚₗ F9ₗ FGₚₗ Fₚₗ Gₚₗ Lₚₗ N9ₗ Nₚₗ Sₚₗ Tₚₗ Xₚₗ Yₚₗ aₗ bhₚₗ blₚₗ bₗ cellsₚₗ ctₚₗ cₚₗ d1ₚₗ d2ₚₗ dcₚₗ dxₚₗ dₚₗ epₚₗ fsₚₗ fₚₗ gE9ₗ gₚₗ h9ₗ hcₚₗ hkₚₗ hmₗ hoₚₗ hpₗ hrₚₗ hshₚₗ hsₚₗ ht1ₚₗ ht2ₚₗ ht3ₚₗ ht4ₚₗ htₚₗ hvₗ hₗ hₚₗ kₚₗ l1ₗ l1ₚₗ l2ₗ loₚₗ nNₗ nₚₗ ocₚₗ oₚₗ psₚₗ pₗ qₗ qₚₗ sₚₗ t1ₗ t1ₚₗ t2ₗ t9ₗ tcₚₗ tk9ₗ tkₚₗ tvₚₗ tₚₗ u1ₚₗ u2ₚₗ v1ₚₗ vsₚₗ vₗ vₚₗ xₚₗ))
  (k_with "own getMethod ref" => ((k_here; (with_reducible show wpAny _ _ (getMethod (Value.ref _) (PySem.Str.ofString "append") _) _ _ _); k_dflt (walk_at "R method_biN F X N i1 i2 a b c d e _"; (case F => k_asm); (case X => k_asm); (case N => k_asm); (case i1 => k_mem); (case i2 => k_mem); (case a => k_is); (case b => k_is); (case c => k_is); (case d => k_is); (case e => kernel_rfl); k_whole))))
  (k_with "own call builtin:list.append" => ((k_here; (with_reducible show wpAny _ _ (call (Value.builtin _) [Value.ref _, _]) _ _ _); k_dflt (walk_at "R append_accN F X N i2 a U z _"; (case F => k_asm); (case X => k_asm); (case N => k_asm); (case U => k_upd); (case i2 => k_mem); (case a => k_is); (case z => k_asm); k_whole); intro hₚₗ Fₚₗ Nₚₗ; (try k_sweep))))
  (k_with "own getMethod ref" => ((k_here; (with_reducible show wpAny _ _ (getMethod (Value.ref _) (PySem.Str.ofString "part_count") _) _ _ _); k_dflt (walk_at "R method_fnN F X N i1 i2 a b c d e _"; (case F => k_asm); (case X => k_asm); (case N => k_asm); (case i1 => k_mem); (case i2 => k_mem); (case a => k_is); (case b => k_is); (case c => k_is); (case d => k_is); (case e => kernel_rfl); k_whole))))
  (k_with "own getMethod ref" => ((k_here; (with_reducible show wpAny _ _ (getMethod (Value.ref _) (PySem.Str.ofString "push") _) _ _ _); k_dflt (walk_at "R method_fnN F X N i1 i2 a b c d e _"; (case F => k_asm); (case X => k_asm); (case N => k_asm); (case i1 => k_mem); (case i2 => k_mem); (case a => k_is); (case b => k_is); (case c => k_is); (case d => k_is); (case e => kernel_rfl); k_whole))))
  (k_with "own getMethod ref" => ((k_here; (with_reducible show wpAny _ _ (getMethod (Value.ref _) (PySem.Str.ofString "pop") _) _ _ _); k_dflt (walk_at "R method_fnN F X N i1 i2 a b c d e _"; (case F => k_asm); (case X => k_asm); (case N => k_asm); (case i1 => k_mem); (case i2 => k_mem); (case a => k_is); (case b => k_is); (case c => k_is); (case d => k_is); (case e => kernel_rfl); k_whole))))
  (k_with "own getMethod ref" => ((k_here; (with_reducible show wpAny _ _ (getMethod (Value.ref _) (PySem.Str.ofString "reset") _) _ _ _); k_dflt (walk_at "R method_fnN F X N i1 i2 a b c d e _"; (case F => k_asm); (case X => k_asm); (case N => k_asm); (case i1 => k_mem); (case i2 => k_mem); (case a => k_is); (case b => k_is); (case c => k_is); (case d => k_is); (case e => kernel_rfl); k_whole))))
  (k_with "own getMethod ref" => ((k_here; (with_reducible show wpAny _ _ (getMethod (Value.ref _) (PySem.Str.ofString "__len__") _) _ _ _); k_dflt (walk_at "S14"; (case F => k_asm); (case X => k_asm); (case N => k_asm); (case i0 => k_mem); (case i1 => k_mem); (case i2 => k_mem); (case a => k_is); (case b => ks_is); (case c => k_is); (case d => decide); intro qₚₗ hₚₗ Fₚₗ Nₚₗ l1ₗ; (try k_lt l1ₗ)))))
  (k_with "own getMethod ref" => ((k_here; (with_reducible show wpAny _ _ (getMethod (Value.ref _) (PySem.Str.ofString "pop") _) _ _ _); k_dflt (walk_at "R super_pop F X N i0 i1 i2 a b c d _"; (case F => k_asm); (case X => k_asm); (case N => k_asm); (case i0 => k_mem); (case i1 => k_mem); (case i2 => k_mem); (case a => k_is); (case b => ks_is); (case c => k_is); (case d => decide); intro qₚₗ hₚₗ Fₚₗ Nₚₗ l1ₗ; (try k_lt l1ₗ)))))
  (k_with "own callWith ref" => ((k_here; k_dflt (walk_at "R callWith_bound0 N q b _"; (case N => k_asm); (case q => k_mem); (case b => first | exact .inl rfl | exact .inr rfl); k_whole))))
  (k_with "own call ref" => ((k_here; k_dflt (walk_at "R call_len N q i _"; (case N => k_asm); (case q => k_mem); (case i => k_mem); k_whole))))
  (k_with "own ent_super" => ((walk_at "R ks_code_super k1 k2 k3 k4 k5 kA kF kK k6 k7 k8 k9 kB _ c1 c2 c3 c4"; (case kA => exact rfl); (case kF => exact rfl); (case kK => first | exact rfl | assumption); (case k1 => k_asm); (case k2 => k_asm); (case k3 => k_asm); (case k4 => k_asm); (case k5 => k_asm); (case k6 => k_is); (case k7 => k_is); (case k8 => ktr_room); (case k9 => first | exact BindsTo.of_eq rfl | exact binds_K (by k_in) rfl (by k_is) rfl rfl rfl); (case kB => exact locs rfl); (case c1 => decide); (case c2 => exact rfl); (case c3 => exact rfl); (case c4 => exact rfl); intro gₚₗ Lₚₗ hₚₗ FGₚₗ Fₚₗ Nₚₗ Bₚₗ Xₚₗ Tₚₗ l1ₗ; (try dsimp only); (try k_fold))))
  (k_with "own drop" => (((with_reducible rename News _ _ _ _ => nNₗ); intro pₗ hpₗ; first | exact nNₗ pₗ hpₗ | exact nNₗ pₗ (.tail _ hpₗ) | exact nNₗ pₗ (.tail _ (.tail _ hpₗ)) | exact nNₗ pₗ (.tail _ (.tail _ (.tail _ hpₗ))) | exact nNₗ pₗ (.tail _ (.tail _ (.tail _ (.tail _ hpₗ)))) | exact nNₗ pₗ (.tail _ (.tail _ (.tail _ (.tail _ (.tail _ hpₗ))))))))
  (k_with "own wpAt" => ((k_here; (fail_if_success ks_step "eval Call"); (fail_if_success ks_step "exec Return"); (fail_if_success ks_step "execs cons"); (fail_if_success ks_step "exec If"); (fail_if_success ks_step "attributeBase Call"); dsimp only)))
  (k_with "own wpAt" => ((k_here; ks_step "eval Call"; with_unfolding_all refine ks_wpAt_MethodCall ?_)))
  (k_with "own call ref" => ((k_here; k_dflt (walk_at "R call_pop F X N q i a b c U z _"; (case F => k_asm); (case X => k_asm); (case N => k_asm); (case q => k_mem); (case U => k_upd); (case i => k_mem); (case a => k_is); (case b => kernel_rfl); (case c => k_is); (case z => k_asm); k_whole; intro hₚₗ Fₚₗ Nₚₗ; (try k_sweep)))))
  (k_with "own ent" => ((walk_at "R code_def k1 k2 k3 k4 k5 kA kF kK k6 k7 k8 k9 kB _ c2 c3 c4 c5"; (case kA => exact rfl); (case kF => exact rfl); (case kK => first | exact rfl | assumption); (case k1 => k_asm); (case k2 => k_asm); (case k3 => k_asm); (case k4 => k_asm); (case k5 => k_asm); (case k6 => k_is); (case k7 => k_is); (case k8 => ktr_room); (case k9 => first | exact BindsTo.of_eq rfl | exact binds_K (by k_in) rfl (by k_is) rfl rfl rfl); (case c5 => decide); (case kB => exact locs rfl); (case c2 => exact rfl); (case c3 => exact rfl); (case c4 => exact rfl); k_whole; intro gₚₗ Lₚₗ hₚₗ FGₚₗ Fₚₗ Nₚₗ Bₚₗ Xₚₗ Tₚₗ; (try dsimp only); (try k_fold))))
  (k_with "own setItem ref" => ((k_here; (with_reducible show wpAny _ _ (setItem (Value.ref _) (Value.ref _) (Value.ref _)) _ _ _); k_dflt (dsimp only; walk_at "R setitemN F X N h2 hl yl a b c U z z' _"; (case F => k_asm); (case X => k_asm); (case N => k_asm); (case U => k_updF); (case h2 => k_mem); (case hl => k_mem); (case yl => k_asm); (case a => k_is); (case b => kernel_rfl); (case c => k_is); (case z => k_asm); (case z' => k_asm); intro hₚₗ epₚₗ Fₚₗ Nₚₗ; (try dsimp only [List.nil_append, List.cons_append] at Nₚₗ); (try k_sweep)))))
  (k_with "own setAttr ref" => ((k_here; (with_reducible show wpAny _ _ (setAttr (Value.ref _) (PySem.Str.ofString "_initial_size") _) _ _ _); k_dflt (dsimp only; walk_at "R set_acc F X N h1 a b c U _"; (case F => k_asm); (case X => k_asm); (case N => k_asm); (case h1 => k_mem); (case U => k_updF); (case a => k_is); (case b => kernel_rfl); (case c => kernel_rfl); intro hₚₗ Fₚₗ Nₚₗ; (try dsimp only [List.nil_append, List.cons_append] at Nₚₗ); (try k_sweep)))))
  (k_with "own exec For" => ((k_here; refine for_start ?_ (by intro _; rfl))))
  (k_with "own call type:enumerate" => ((k_here; refine stop_here ?_)))
  (k_with "own compareOp Is str str" => ((k_here; walk_at "R is_same F X bₗ c d _"; (case F => k_asm); (case X => k_asm); (case bₗ => kernel_rfl); (case c => assumption); (case d => assumption); (intro bₗ; cases bₗ))))
  (k_with "own compareOp Is str str" => ((k_here; walk_at "R is_diff a b c d _"; (case a => assumption); (case b => assumption); (case c => assumption); (case d => assumption))))
  (k_with "own eval Name" => ((k_here; (with_reducible show wpAny _ _ (eval (PySem.Expr.Name _ _) (envOf _ _ _ _ _)) _ _ _); k_dflt (walk_at "R ld k1 k2 _"; (case k1 => k_asm); (case k2 => first | exact rfl | with_reducible assumption | assumption); k_whole))))
  (k_with "own execs cons" => ((k_here; (with_reducible refine wpAny_execs_cons ?_); try dsimp only)))
  (k_with "own execs nil" => ((k_here; refine wpAny_execs_nil ?_; try dsimp only)))
  (k_with "own subscriptTail" => ((k_here; (with_reducible show wpAny _ _ (subscriptTail _ _ (Value.ref _) (Value.int _ _)) _ _ _); k_dflt (walk_at "R item_tupleL l a b c d _"; (case l => exact News.isTup (by k_asm) (by k_mem)); (case a => first | decide | omega); (case b => first | decide | omega); (case c => first | rfl | assumption | decide); (case d => first | rfl | assumption | simp); k_whole))))
  (k_with "own subscriptTail" => ((k_here; (with_reducible show wpAny _ _ (subscriptTail _ _ (Value.ref _) (Value.int _ _)) _ _ _); k_dflt (walk_at "R item_listL l a b d _"; (case l => exact News.isList (by k_asm) (by k_mem)); (case a => first | decide | omega | assumption); (case b => first | decide | omega | assumption); (case d => first | rfl | assumption | simp); k_whole))))
  (k_with "own sz" => ((k_here; first | assumption | (simp only [Array.size_push, List.size_toArray, List.length_append, List.length_reverse, List.length_cons, List.length_nil, Array.size_empty] at *; omega))))
  (k_with "own om" => ((k_here; first | assumption | decide | omega | (dsimp only; omega))))
  (k_with "own call ref" => ((k_here; k_dflt (show wpAny _ _ (call (Value.ref 128) [Value.ref _]) _ _ _); k_dflt (walk_at "R count_U B F X T hk N h1 h2 hd _"; (case B => k_asm); (case F => k_asm); (case X => k_asm); (case T => k_asm); (case hk => first | exact rfl | assumption); (case N => k_asm); (case h1 => k_mem); (case h2 => k_mem); (case hd => ktr_room); intro hₚₗ tkₚₗ tₚₗ Fₚₗ Nₚₗ htₚₗ; (try dsimp only at htₚₗ); (try k_sweep)))))
  (k_with "own call ref" => ((k_here; k_dflt (show wpAny _ _ (call (Value.ref 91) [Value.ref _]) _ _ _); k_dflt (walk_at "R pop_U B F X T hk N h2 hd dx U z _"; (case B => k_asm); (case F => k_asm); (case X => k_asm); (case T => k_asm); (case hk => first | exact rfl | assumption); (case N => k_asm); (case U => k_updF); (case h2 => k_mem); (case hd => ktr_room); (case dx => k_ne); (case z => walk_at "sz"); intro hₚₗ tkₚₗ Fₚₗ Nₚₗ htₚₗ; (try dsimp only at htₚₗ); (try dsimp only [List.nil_append, List.cons_append] at Nₚₗ); (try k_sweep)))))
  (k_with "own call ref" => ((k_here; k_dflt (show wpAny _ _ (call (Value.ref 75) [Value.ref _, Value.str _ _, Value.str _ _]) _ _ _); k_dflt (walk_at "R push_U B F X T hk N h2 hd hu dx U z _"; (case B => k_asm); (case F => k_asm); (case X => k_asm); (case T => k_asm); (case hk => first | exact rfl | assumption); (case N => k_asm); (case U => k_updF); (case h2 => k_mem); (case hd => ktr_room); (case hu => ktr_room); (case dx => k_ne); (case z => walk_at "sz"); intro qₚₗ hₚₗ tkₚₗ Fₚₗ Nₚₗ htₚₗ; (try dsimp only at htₚₗ); (try dsimp only [List.nil_append, List.cons_append] at Nₚₗ); (try k_sweep)))))
  (k_with "own call ref" => ((k_here; k_dflt (show wpAny _ _ (call (Value.ref 131) []) _ _ _); k_dflt (walk_at "R make_U0 B F X T hk N hd _"; (case B => k_asm); (case F => k_asm); (case X => k_asm); (case T => k_asm); (case hk => first | exact rfl | assumption); (case N => k_asm); (case hd => ktr_room); intro xₚₗ dxₚₗ epₚₗ hshₚₗ tₚₗ vₚₗ nₚₗ hₚₗ tkₚₗ Fₚₗ Nₚₗ l1ₗ l2ₗ htₚₗ; (try dsimp only at htₚₗ); (try k_sweep)))))
  (k_with "own call ref" => ((k_here; k_dflt (show wpAny _ _ (call (Value.ref 131) [Value.int _ _]) _ _ _); k_dflt (walk_at "R make_U1 B F X T hk N hd _"; (case B => k_asm); (case F => k_asm); (case X => k_asm); (case T => k_asm); (case hk => first | exact rfl | assumption); (case N => k_asm); (case hd => ktr_room); intro xₚₗ dxₚₗ epₚₗ hshₚₗ tₚₗ nₚₗ hₚₗ tkₚₗ Fₚₗ Nₚₗ l1ₗ l2ₗ htₚₗ; (try dsimp only at htₚₗ); (try k_sweep)))))
  (k_with "own call ref" => ((k_here; k_dflt (show wpAny _ _ (call (Value.ref 177) [Value.str _ _, Value.str _ _]) _ _ _); k_dflt (walk_at "R idx_spec B F X N T hk hd ha t0 t1 kk lt _"; (case B => k_asm); (case F => k_asm); (case X => k_asm); (case T => k_asm); (case hk => first | exact rfl | assumption); (case N => k_asm); (case hd => ktr_room); (case ha => decide +kernel); (case t0 => walk_at "om"); (case t1 => walk_at "om"); (case kk => assumption); (case lt => assumption); intro tvₚₗ hₚₗ tkₚₗ Fₚₗ Nₚₗ htₚₗ; (try dsimp only at htₚₗ); (try k_sweep)))))
  (k_with "own call ref" => ((k_here; k_dflt (show wpAny _ _ (call (Value.ref 170) [Value.str _ _, Value.int _ _]) _ _ _); k_dflt (walk_at "R item_str B F X N T hk hd i0 i1 ix _"; (case B => k_asm); (case F => k_asm); (case X => k_asm); (case T => k_asm); (case hk => first | exact rfl | assumption); (case N => k_asm); (case hd => ktr_room); (case i0 => walk_at "om"); (case i1 => first | assumption | decide +kernel); (case ix => decide +kernel); intro tvₚₗ hₚₗ tkₚₗ Fₚₗ Nₚₗ ht1ₚₗ ht2ₚₗ; (try dsimp only at ht1ₚₗ); (try k_sweep)))))
  (k_with "own ent_cell" => ((walk_at "R code_defCT k1 k2 k3 k4 k5 kA kF kK k6 k7 k8 k9 kB kD _ c2 c3 c4"; (case kA => exact rfl); (case kF => exact rfl); (case kK => first | exact rfl | assumption); (case k1 => k_asm); (case k2 => k_asm); (case k3 => k_asm); (case k4 => k_asm); (case k5 => k_asm); (case k6 => k_is); (case k7 => k_is); (case k8 => ktr_room); (case k9 => first | exact BindsTo.of_eq rfl | exact binds_K (by k_in) rfl (by k_is) rfl rfl rfl); (case kB => exact rfl); (case kD => decide +kernel); (case c2 => exact rfl); (case c3 => exact rfl); (case c4 => exact rfl); k_whole; intro gₚₗ Lₚₗ hₚₗ tkₚₗ cellsₚₗ htₚₗ FGₚₗ Fₚₗ Nₚₗ Yₚₗ Bₚₗ Sₚₗ Xₚₗ Tₚₗ l1ₗ; (try k_lt l1ₗ); k_cells Yₚₗ; (try simp only [List.cons_append, List.nil_append] at Nₚₗ); (try dsimp only); (try k_fold))))
  (k_with "own ent_more" => ((walk_at "R kp_more k1 k2 k3 k4 k5 kA kF kK k6 k7 k8 kX kM kN kD kR kP kT kB _ c2 c3 c4 c5"; (case kA => exact rfl); (case kF => exact rfl); (case kK => first | exact rfl | assumption); (case k1 => k_asm); (case k2 => k_asm); (case k3 => k_asm); (case k4 => k_asm); (case k5 => k_asm); (case k6 => k_is); (case k7 => k_is); (case k8 => ktr_room); (case kX => kp_lit); (case kM => exact rfl); (case kN => exact rfl); (case kD => kp_flats); (case kR => exact rfl); (case kP => exact rfl); (case kT => exact fun _ => rfl); (case kB => exact fun _ => locs rfl); (case c5 => decide); (case c2 => exact rfl); (case c3 => exact rfl); (case c4 => exact rfl); k_whole; intro Dₚₗ oₚₗ gₚₗ Lₚₗ hₚₗ tkₚₗ l1ₗ loₚₗ hsₚₗ fsₚₗ FGₚₗ Fₚₗ Nₚₗ Bₚₗ Xₚₗ Tₚₗ; (try k_lt l1ₗ); (try dsimp only); (try k_fold))))
  (k_with "own callWith ref" => ((k_here; (with_reducible show wpAny _ _ (callWith _ _ [] _ (backToKw _ (keywordEach [PySem.Keyword.mk none _ _] _))) _ _ _); k_dflt (walk_at "R star_callD F N hk hx hxl hxd hy hyl hyd ha hod hkl hsys hf hfo _"; (case F => k_asm); (case N => k_asm); (case hk => exact rfl); (case hx => first | exact rfl | assumption); (case hxl => exact rfl); (case hxd => decide); (case hy => first | exact rfl | assumption); (case hyl => exact rfl); (case hyd => decide); (case ha => k_mem); (case hod => assumption); (case hkl => simp); (case hsys => assumption); (case hf => k_mem); (case hfo => exact rfl); intro hₚₗ dₚₗ oₚₗ Fₚₗ Nₚₗ; (try k_sweep)))))
  (k_with "own call ref" => ((k_here; k_dflt (show wpAny _ _ (call (Value.ref 51) _ _) _ _ _); refine wpAny_with_toks (Nat.le_refl _) ?_; refine wpAny_call ?_; k_dflt (walk_at "ent_more"))))
  (k_with "own call ref" => ((k_here; k_dflt (refine wpAny_call ?_; walk_at "R kdv_code k1 k2 k3 k4 k5 kA kF kK k6 k7 k8 k9 kB _ c2 c3 c4 c5"; (case kA => exact rfl); (case kF => exact rfl); (case kK => first | exact rfl | assumption); (case k1 => k_asm); (case k2 => k_asm); (case k3 => k_asm); (case k4 => k_asm); (case k5 => k_asm); (case k6 => k_mem); (case k7 => exact codeRec_news (by k_asm) (by k_mem) (by assumption) (by assumption)); (case k8 => ktr_room); (case k9 => kdv_bind); (case c5 => decide); (case kB => exact locs rfl); (case c2 => exact rfl); (case c3 => exact rfl); (case c4 => exact rfl); k_whole; intro gₚₗ Lₚₗ hₚₗ FGₚₗ Fₚₗ Nₚₗ Bₚₗ Xₚₗ Tₚₗ; (try dsimp only); (try k_fold)))))
  (k_with "own call ref" => ((k_here; k_dflt (show wpAny _ _ (call (Value.ref 170) [Value.ref _, Value.int _ _]) _ _ _); k_dflt (walk_at "R get_list B F X N T hk hd l i0 i1 v _"; (case B => k_asm); (case F => k_asm); (case X => k_asm); (case T => k_asm); (case hk => first | exact rfl | assumption); (case N => k_asm); (case hd => ktr_room); (case l => k_mem); (case i0 => walk_at "om"); (case i1 => walk_at "om"); (case v => assumption); intro hₚₗ tkₚₗ Fₚₗ Nₚₗ htₚₗ; (try dsimp only at htₚₗ); (try k_sweep)))))
  (k_with "own call ref" => ((k_here; k_dflt (show wpAny _ _ (call (Value.ref 170) [Value.ref _, Value.int _ _]) _ _ _); k_dflt (walk_at "R get_pair B F X T hk N hd l i _"; (case B => k_asm); (case F => k_asm); (case X => k_asm); (case T => k_asm); (case hk => first | exact rfl | assumption); (case N => k_asm); (case hd => ktr_room); (case l => k_mem); (case i => first | assumption | exact fmod2 _ | decide | omega); intro hₚₗ tkₚₗ Fₚₗ Nₚₗ htₚₗ; (try dsimp only at htₚₗ); (try k_sweep)))))
  (k_with "own makeTail" => ((k_here; refine wpAny_with_toks (Nat.le_refl _) ?_; k_dflt (walk_at "R kdv_nest F N T C cd U t n cl _"; (case F => k_asm); (case N => k_asm); (case T => k_asm); (case cd => exact rfl); (case C => kn_code); (case U => k_updF); (case t => kn_triples); (case n => kn_among); (case cl => exact rfl); k_whole); intro fₚₗ cₚₗ ocₚₗ vsₚₗ tₚₗ ctₚₗ dcₚₗ hₚₗ tkₚₗ Fₚₗ Nₚₗ d1ₚₗ d2ₚₗ l1ₗ l2ₗ htₚₗ; (try dsimp only at Nₚₗ); (try k_lt l1ₗ); (try k_lt2 l2ₗ); (try dsimp only at htₚₗ))))
  (k_with "own eval Name" => ((k_here; k_dflt (walk_at "R nameX_L k1 k2 _ c1 c2 c3"; (case k1 => k_asm); (case k2 => first | exact rfl | assumption); (case c1 => exact rfl); (case c2 => exact rfl); (case c3 => decide); k_whole))))
  (k_with "own call ref" => ((k_here; k_dflt (first | (show wpAny _ _ (call (Value.ref 142) _) _ _ _) | (show wpAny _ _ (call (Value.ref 149) _) _ _ _) | (show wpAny _ _ (call (Value.ref 156) _) _ _ _) | (show wpAny _ _ (call (Value.ref 163) _) _ _ _)); refine wpAny_call ?_; k_dflt (walk_at "ent"))))
  (k_with "own eval Name" => ((k_here; k_dflt (first | (walk_at "R nameX_L F v _ a b"; (case F => k_asm); (case a => rfl); (case b => rfl); (case v => first | rfl | with_reducible assumption); k_whole) | (walk_at "R nameX_K F X T e _ a b"; (case F => k_asm); (case X => k_asm); (case T => k_asm); (case a => rfl); (case b => rfl); (case e => k_is); k_whole)))))
  (k_with "own subscriptTail Name Constant ref int" => ((k_here; k_dflt (first | (walk_at "R item_listL l a b d _"; (case l => exact News.isList (by with_reducible assumption) (by k_mem)); (case a => decide); (case b => first | decide | omega); (case d => exact rfl); k_whole) | (walk_at "R item_tupleL l a b c d _"; (case l => exact News.isTup (by with_reducible assumption) (by k_mem)); (case a => decide); (case b => decide); (case c => first | rfl | assumption | decide); (case d => first | rfl | assumption | simp); k_whole)))))
  (k_with "own subscriptTail Name Name ref int" => ((k_here; k_dflt (walk_at "R item_listL l a b d _"; (case l => exact News.isList (by with_reducible assumption) (by k_mem)); (case a => decide); (case b => first | decide | omega); (case d => exact rfl); k_whole))))
  (k_with "own callWith ref" => ((k_here; (with_reducible show wpAny _ _ (callWith _ (Value.ref (OfNat.ofNat _)) _ _ _) _ _ _); k_dflt (first | (walk_at "R callWith_K k1 k2 _"; (case k1 => with_reducible assumption); (case k2 => k_is); k_whole) | (walk_at "R callWith_K0 k1 k2 _"; (case k1 => exact Frag.In.keeps (by with_reducible assumption) (Fr.keep (by with_reducible assumption))); (case k2 => k_is); k_whole)))))
  (k_with "own subscriptTail List" => ((k_here; k_dflt (walk_at "R item_listL l a b d _"; (case l => exact News.isList (by with_reducible assumption) (by k_mem)); (case a => decide); (case b => first | decide | omega); (case d => exact rfl); k_whole))))
  (k_with "own ent_t" => ((walk_at "R code_defT k1 k2 k3 k4 k5 kA kF kK k6 k7 k8 k9 kB kD _ c2 c3 c4"; (case kA => exact rfl); (case kF => exact rfl); (case kK => first | exact rfl | assumption); (case k1 => k_asm); (case k2 => k_asm); (case k3 => k_asm); (case k4 => k_asm); (case k5 => k_asm); (case k6 => k_is); (case k7 => k_is); (case k8 => ktr_room); (case k9 => first | exact BindsTo.of_eq rfl | exact binds_K (by k_in) rfl (by k_is) rfl rfl rfl); (case kB => exact rfl); (case kD => exact fun _ => rfl); (case c2 => exact rfl); (case c3 => exact rfl); (case c4 => exact rfl); k_whole; intro gₚₗ Lₚₗ hₚₗ tkₚₗ htₚₗ FGₚₗ Fₚₗ Nₚₗ Bₚₗ Sₚₗ Xₚₗ Tₚₗ l1ₗ; (try k_lt l1ₗ); (try dsimp only); (try k_fold))))
  (k_with "own eval Name" => ((k_here; (with_reducible show wpAny _ _ (PySem.eval (PySem.Expr.Name _ _) (genEnv _ _ _ _ _ _)) _ _ _); first | (k_dflt (walk_at "R nameGen_l yF yv _ yk yx yd"; (case yF => k_asm); (case yv => assumption); (case yk => with_unfolding_all rfl); (case yx => with_unfolding_all rfl); (case yd => decide); k_whole)) | (k_dflt (walk_at "R nameGen_g yF yX yT ye _ yg yk yx yd"; (case yF => k_asm); (case yX => k_asm); (case yT => k_asm); (case ye => k_is); (case yg => with_unfolding_all rfl); (case yk => with_unfolding_all rfl); (case yx => with_unfolding_all rfl); (case yd => decide); k_whole)) | (k_dflt (walk_at "R nameGen_b yF yX yT ye yv yn _ yg yk yx yd"; (case yF => k_asm); (case yX => k_asm); (case yT => k_asm); (case ye => k_is); (case yv => boot_fast); (case yn => decide); (case yg => with_unfolding_all rfl); (case yk => with_unfolding_all rfl); (case yx => with_unfolding_all rfl); (case yd => decide); k_whole)))))
  (k_with "own newTuple" => (((with_reducible rename GenElt => gE9ₗ); refine wpAny_newTuple ?_)))
  trivial
theorem Pcs.pick {B : Nat} {tl : List (Addr × Obj)} {vs : List Value} {ps : List (Nat × Nat)} (h : Pcs B tl vs ps) : ∃ (Ts : Nat → Addr) (u1 u2 : Nat → Nat), ∀ j, j < vs.length →
    vs.toArray[j]? = some (.ref (Ts j)) ∧ (Ts j, tupObj ⟨#[(ps.getD j (0, 0)).1]⟩ (u1 j) ⟨#[(ps.getD j (0, 0)).2]⟩ (u2 j)) ∈ tl := by
  have a : ∀ j : Nat, ∃ f : Addr × Nat × Nat, j < vs.length → vs.toArray[j]? = some (.ref f.1) ∧ (f.1, tupObj ⟨#[(ps.getD j (0, 0)).1]⟩ f.2.1 ⟨#[(ps.getD j (0, 0)).2]⟩ f.2.2) ∈ tl := by
    intro j
    by_cases hj : j < vs.length
    · obtain ⟨p, hp, ⟨q, t1, t2, e, hm, -⟩, -⟩ := h.at (List.getElem?_eq_getElem hj)
      refine ⟨(q, t1, t2), fun _ => ⟨by simp [hj, e], ?_⟩⟩
      have e2 : ps.getD j (0, 0) = p := by rw [List.getD_eq_getElem?_getD, hp]; rfl
      rw [e2]; exact hm
    · exact ⟨(0, 0, 0), fun h => absurd h hj⟩
  obtain ⟨f, hf⟩ := Classical.axiomOfChoice a
  exact ⟨fun j => (f j).1, fun j => (f j).2.1, fun j => (f j).2.2, hf⟩
set_option maxHeartbeats 400000 in
theorem str_spec {w : World} {pT : Program} {loose : List Str} {mean : ExcName → Option Value} {mg mb : Str → Option Value}
    {dp un : Nat} {gd : Option (List Code)} {cn : Str} {cs : Scope} {a : Addr} {ccd : Value} {cl : List (Str × Addr)} {outer : List Env} {A₀ : Around} {base h₀ : Heap} {L : Addr} {m : Str → Option Value} {s : Shared}
    {Q E : Value → Shared → Prop} {news : List (Addr × Obj)}
    (B : Below A₀ base outer h₀) (F : Fr h₀ L s.heap m) (X : (pre.heap_1 w.params).In h₀) (T : Top pT loose mean mg mb h₀) (hk : cs.kind = .function) {row drow : Addr} {its : List Value} {ep n : Nat} {hsh : Int} {tz : Tok} {v0 : Value} {P : List (Nat × Nat)}
    (N : News h₀ L s.heap ((100, tabObj #[]) :: news)) (hr1 : (row, accObj drow its.toArray ep) ∈ news) (hr2 : (drow, sizeDict hsh tz v0 n) ∈ news) (hd1 : dp + 10 < recursionLimit) (hu1 : un + 20 < cLine) {Bt : Nat} (hP : Pcs Bt news its P) (hsz : its.length ≤ 31) (hC : CodeHd h₀ 104 100) (hx : ∀ p ∈ news, p.1 ≠ 100) (hG : AllBare s.gens)
    (hret : ∀ t ps s', Fr h₀ L s'.heap m → News h₀ L s'.heap ((100, tabObj ps) :: news) → AllBare s'.gens → s'.os = s.os → s.toks ≤ s'.toks → Q (.str (txtOf P) t) s') :
    wpAny (model PR w) (ktrTop dp un gd cn cs L a ccd cl outer) (call (.ref 105) [.ref row]) Q E s := by
  refine wpAny_with_toks (Nat.le_refl _) ?_
  refine wpAny_call ?_
  k_dflt (walk_at "ent_t")
  rename Heap.StaysIn h₀ _ => hS
  have hC2 := hC.keeps hS
  obtain ⟨Ts, u1, u2, hTs⟩ := hP.pick
  k_steps
  rename News _ _ _ _ => nN
  rename Fr _ _ _ _ => nF
  rename Top _ _ _ _ _ _ => nT
  rename Frag.In _ _ => nX
  refine' gen_acc (Ts := Ts) (vals := fun j => #[.str ⟨#[(P.getD j (0, 0)).1]⟩ (u1 j), .str ⟨#[(P.getD j (0, 0)).2]⟩ (u2 j)]) (R := fun j v => ∃ u, v = .str ⟨#[(P.getD j (0, 0)).1, (P.getD j (0, 0)).2]⟩ u) rfl rfl rfl rfl ?gclos ?gcell rfl rfl rfl ?gab rfl ?groom ?gs nF nX nT hC2 nN hx hG hr1 hr2 ?gm ?gi ?gt ?gv ?git ?gelt ?gQ
  case gclos => with_unfolding_all rfl
  case gcell => decide
  case gab => decide
  case groom => ktr_room
  case gs => (intro _; with_unfolding_all rfl)
  case gm => k_is
  case gi => k_is
  case gt =>
    intro j hj
    exact hTs j (by simpa using hj)
  case gv => exact fun j _ => ⟨_, _, rfl⟩
  case git =>
    intro Q' E' hq
    k_steps
    exact hq
  case gelt =>
    intro C c' A' E' i va vb s₂ m₂ hi hv hA F₂ N₂ ma mb
    clear nN nF
    have hv2 : va = .str ⟨#[(P.getD i (0, 0)).1]⟩ (u1 i) ∧ vb = .str ⟨#[(P.getD i (0, 0)).2]⟩ (u2 i) := by
      injection hv with hv
      injection hv with h1 h2
      injection h2 with h2
      exact ⟨h1.symm, h2.symm⟩
    obtain ⟨rfl, rfl⟩ := hv2
    have hmark : GenElt := ⟨⟩
    k_steps
    refine join_tuple (ys := [⟨#[(P.getD i (0, 0)).1]⟩, ⟨#[(P.getD i (0, 0)).2]⟩]) ⟨_, Heap.get?_push_size _ rfl, rfl, _, rfl⟩ (.cons _ _ (.cons _ _ .nil)) (join2_ok _ _) fun t' k => ?_
    rw [join2]
    exact ⟨⟨_, rfl⟩, _, _, rfl, fun b o e => Heap.get?_push_of_some _ e⟩
  case gQ =>
    intro a' K' ps h' tk' gs F₂ N₂ G₂ hLK hPK hNK X₂
    clear nN nF
    have hPn : its.toArray.size = P.length := by rw [List.size_toArray]; exact hP.len
    k_steps
    refine join_rowsK (tx := fun j => ⟨#[(P.getD j (0, 0)).1, (P.getD j (0, 0)).2]⟩) F₂ G₂ X₂ hLK (fun j v ⟨i, hi, u, e⟩ => ?_) ?_ (fun s' t' F₃ G₃ ho hk => ?_) ?_
    · have : i = j := by
        rw [List.getElem?_range] at hi
        · exact (Option.some.inj hi).symm
        · rcases Nat.lt_or_ge j its.toArray.size with h | h
          · exact h
          · rw [List.getElem?_eq_none (by simpa using h)] at hi; cases hi
      subst this
      exact ⟨u, e⟩
    · rw [List.length_range, range_map_getD P (0, 0) (fun p => (⟨#[p.1, p.2]⟩ : Str)) hPn]
      exact txt_ok (by have := hP.len; omega)
    · have N₃ : News _ _ s'.heap ((100, tabObj ps) :: news) := fun q hq => ⟨hk _ _ (by rcases List.mem_cons.mp hq with h | hq; (subst h; exact hPK); exact hNK q hq) (N₂ q hq).1, (N₂ q hq).2⟩
      rw [List.length_range, range_map_getD P (0, 0) (fun p => (⟨#[p.1, p.2]⟩ : Str)) hPn]
      clear F₂ N₂ X₂
      k_steps
      rename News _ _ _ _ => nZ
      rename Fr _ _ _ _ => fZ
      exact hret t' ps s' fZ nZ G₃ ho (by assumption)
    · rw [List.length_range, sizeLine_eq, List.size_toArray]; omega
-- Len
local macro_rules | `(tactic| walk_at "S15") => `(tactic| refine' super_slot (.inl rfl) ?F ?X ?N ?i0 ?i1 ?i2 ?a ?b ?c ?d ?_)
theorem words_Len_1 : True := by
  k_with_none
  (k_with "own shade" => (have Bₚₗ := True.intro; have Dₚₗ := True.intro; have F9ₗ := True.intro; have FGₚₗ := True.intro; have Fₚₗ := True.intro; have Gₚₗ := True.intro; have Lₚₗ := True.intro; have N9ₗ := True.intro; have Nₚₗ := True.intro; have Sₚₗ := True.intro; have Tₚₗ := True.intro; have Xₚₗ := True.intro; have Yₚₗ := True.intro; have aₗ := True.intro; have bhₚₗ := True.intro; have blₚₗ := True.intro; have bₗ := True.intro; have cellsₚₗ := True.intro; have ctₚₗ := True.intro; have cₚₗ := True.intro; have d1ₚₗ := True.intro; have d2ₚₗ := True.intro; have dcₚₗ := True.intro; have dxₚₗ := True.intro; have dₚₗ := True.intro; have epₚₗ := True.intro; have fsₚₗ := True.intro; have fₚₗ := True.intro; have gE9ₗ := True.intro; have gₚₗ := True.intro; have h9ₗ := True.intro; have hcₚₗ := True.intro; have hkₚₗ := True.intro; have hmₗ := True.intro; have hoₚₗ := True.intro; have hpₗ := True.intro; have hrₚₗ := True.intro; have hshₚₗ := True.intro; have hsₚₗ := True.intro; have ht1ₚₗ := True.intro; have ht2ₚₗ := True.intro; have ht3ₚₗ := True.intro; have ht4ₚₗ := True.intro; have htₚₗ := True.intro; have hvₗ := True.intro; have hₗ := True.intro; have hₚₗ := True.intro; have kₚₗ := True.intro; have l1ₗ := True.intro; have l1ₚₗ := True.intro; have l2ₗ := True.intro; have loₚₗ := True.intro; have nNₗ := True.intro; have nₚₗ := True.intro; have ocₚₗ := True.intro; have oₚₗ := True.intro; have psₚₗ := True.intro; have pₗ := True.intro; have qₗ := True.intro; have qₚₗ := True.intro; have sₚₗ := True.intro; have t1ₗ := True.intro; have t1ₚₗ := True.intro; have t2ₗ := True.intro; have t9ₗ := True.intro; have tcₚₗ := True.intro; have tk9ₗ := True.intro; have tkₚₗ := True.intro; have tvₚₗ := True.intro; have tₚₗ := True.intro; have u1ₚₗ := True.intro; have u2ₚₗ := True.intro; have v1ₚₗ := True.intro; have vsₚₗ := True.intro; have vₗ := True.intro; have vₚₗ := True.intro; have xₚₗ := True.intro))
  (k_with "own bare" => (clear Bₚₗ Dₚₗ F9ₗ FGₚₗ Fₚₗ Gₚₗ Lₚₗ N9ₗ Nₚₗ Sₚₗ Tₚₗ Xₚₗ Yₚₗ aₗ bhₚₗ blₚₗ bₗ cellsₚₗ ctₚₗ cₚₗ d1ₚₗ d2ₚₗ dcₚₗ dxₚₗ dₚₗ epₚₗ fsₚₗ fₚₗ gE9ₗ gₚₗ h9ₗ hcₚₗ hkₚₗ hmₗ hoₚₗ hpₗ hrₚₗ hshₚₗ hsₚₗ ht1ₚₗ ht2ₚₗ ht3ₚₗ ht4ₚₗ htₚₗ hvₗ hₗ hₚₗ kₚₗ l1ₗ l1ₚₗ l2ₗ loₚₗ nNₗ nₚₗ ocₚₗ oₚₗ psₚₗ pₗ qₗ qₚₗ sₚₗ t1ₗ t1ₚₗ t2ₗ t9ₗ tcₚₗ tk9ₗ tkₚₗ tvₚₗ tₚₗ u1ₚₗ u2ₚₗ v1ₚₗ vsₚₗ vₗ vₚₗ xₚₗ))
  (k_with "own getMethod ref" => ((k_here; (with_reducible show wpAny _ _ (getMethod (Value.ref _) (PySem.Str.ofString "append") _) _ _ _); k_dflt (walk_at "R method_biN F X N i1 i2 a b c d e _"; (case F => k_asm); (case X => k_asm); (case N => k_asm); (case i1 => k_mem); (case i2 => k_mem); (case a => k_is); (case b => k_is); (case c => k_is); (case d => k_is); (case e => kernel_rfl); k_whole))))
  (k_with "own call builtin:list.append" => ((k_here; (with_reducible show wpAny _ _ (call (Value.builtin _) [Value.ref _, _]) _ _ _); k_dflt (walk_at "R append_accN F X N i2 a U z _"; (case F => k_asm); (case X => k_asm); (case N => k_asm); (case U => k_upd); (case i2 => k_mem); (case a => k_is); (case z => k_asm); k_whole); intro hₚₗ Fₚₗ Nₚₗ; (try k_sweep))))
  (k_with "own getMethod ref" => ((k_here; (with_reducible show wpAny _ _ (getMethod (Value.ref _) (PySem.Str.ofString "part_count") _) _ _ _); k_dflt (walk_at "R method_fnN F X N i1 i2 a b c d e _"; (case F => k_asm); (case X => k_asm); (case N => k_asm); (case i1 => k_mem); (case i2 => k_mem); (case a => k_is); (case b => k_is); (case c => k_is); (case d => k_is); (case e => kernel_rfl); k_whole))))
  (k_with "own getMethod ref" => ((k_here; (with_reducible show wpAny _ _ (getMethod (Value.ref _) (PySem.Str.ofString "push") _) _ _ _); k_dflt (walk_at "R method_fnN F X N i1 i2 a b c d e _"; (case F => k_asm); (case X => k_asm); (case N => k_asm); (case i1 => k_mem); (case i2 => k_mem); (case a => k_is); (case b => k_is); (case c => k_is); (case d => k_is); (case e => kernel_rfl); k_whole))))
  (k_with "own getMethod ref" => ((k_here; (with_reducible show wpAny _ _ (getMethod (Value.ref _) (PySem.Str.ofString "pop") _) _ _ _); k_dflt (walk_at "R method_fnN F X N i1 i2 a b c d e _"; (case F => k_asm); (case X => k_asm); (case N => k_asm); (case i1 => k_mem); (case i2 => k_mem); (case a => k_is); (case b => k_is); (case c => k_is); (case d => k_is); (case e => kernel_rfl); k_whole))))
  (k_with "own getMethod ref" => ((k_here; (with_reducible show wpAny _ _ (getMethod (Value.ref _) (PySem.Str.ofString "reset") _) _ _ _); k_dflt (walk_at "R method_fnN F X N i1 i2 a b c d e _"; (case F => k_asm); (case X => k_asm); (case N => k_asm); (case i1 => k_mem); (case i2 => k_mem); (case a => k_is); (case b => k_is); (case c => k_is); (case d => k_is); (case e => kernel_rfl); k_whole))))
  (k_with "own getMethod ref" => ((k_here; (with_reducible show wpAny _ _ (getMethod (Value.ref _) (PySem.Str.ofString "__len__") _) _ _ _); k_dflt (walk_at "S15"; (case F => k_asm); (case X => k_asm); (case N => k_asm); (case i0 => k_mem); (case i1 => k_mem); (case i2 => k_mem); (case a => k_is); (case b => ks_is); (case c => k_is); (case d => decide); intro qₚₗ hₚₗ Fₚₗ Nₚₗ l1ₗ; (try k_lt l1ₗ)))))
  (k_with "own getMethod ref" => ((k_here; (with_reducible show wpAny _ _ (getMethod (Value.ref _) (PySem.Str.ofString "pop") _) _ _ _); k_dflt (walk_at "R super_pop F X N i0 i1 i2 a b c d _"; (case F => k_asm); (case X => k_asm); (case N => k_asm); (case i0 => k_mem); (case i1 => k_mem); (case i2 => k_mem); (case a => k_is); (case b => ks_is); (case c => k_is); (case d => decide); intro qₚₗ hₚₗ Fₚₗ Nₚₗ l1ₗ; (try k_lt l1ₗ)))))
  (k_with "own callWith ref" => ((k_here; k_dflt (walk_at "R callWith_bound0 N q b _"; (case N => k_asm); (case q => k_mem); (case b => first | exact .inl rfl | exact .inr rfl); k_whole))))
  (k_with "own call ref" => ((k_here; k_dflt (walk_at "R call_len N q i _"; (case N => k_asm); (case q => k_mem); (case i => k_mem); k_whole))))
  (k_with "own ent_super" => ((walk_at "R ks_code_super k1 k2 k3 k4 k5 kA kF kK k6 k7 k8 k9 kB _ c1 c2 c3 c4"; (case kA => exact rfl); (case kF => exact rfl); (case kK => first | exact rfl | assumption); (case k1 => k_asm); (case k2 => k_asm); (case k3 => k_asm); (case k4 => k_asm); (case k5 => k_asm); (case k6 => k_is); (case k7 => k_is); (case k8 => ktr_room); (case k9 => first | exact BindsTo.of_eq rfl | exact binds_K (by k_in) rfl (by k_is) rfl rfl rfl); (case kB => exact locs rfl); (case c1 => decide); (case c2 => exact rfl); (case c3 => exact rfl); (case c4 => exact rfl); intro gₚₗ Lₚₗ hₚₗ FGₚₗ Fₚₗ Nₚₗ Bₚₗ Xₚₗ Tₚₗ l1ₗ; (try dsimp only); (try k_fold))))
  (k_with "own drop" => (((with_reducible rename News _ _ _ _ => nNₗ); intro pₗ hpₗ; first | exact nNₗ pₗ hpₗ | exact nNₗ pₗ (.tail _ hpₗ) | exact nNₗ pₗ (.tail _ (.tail _ hpₗ)) | exact nNₗ pₗ (.tail _ (.tail _ (.tail _ hpₗ))) | exact nNₗ pₗ (.tail _ (.tail _ (.tail _ (.tail _ hpₗ)))) | exact nNₗ pₗ (.tail _ (.tail _ (.tail _ (.tail _ (.tail _ hpₗ))))))))
  (k_with "own wpAt" => ((k_here; (fail_if_success ks_step "eval Call"); (fail_if_success ks_step "exec Return"); (fail_if_success ks_step "execs cons"); (fail_if_success ks_step "exec If"); (fail_if_success ks_step "attributeBase Call"); dsimp only)))
  (k_with "own wpAt" => ((k_here; ks_step "eval Call"; with_unfolding_all refine ks_wpAt_MethodCall ?_)))
  (k_with "own call ref" => ((k_here; k_dflt (walk_at "R call_pop F X N q i a b c U z _"; (case F => k_asm); (case X => k_asm); (case N => k_asm); (case q => k_mem); (case U => k_upd); (case i => k_mem); (case a => k_is); (case b => kernel_rfl); (case c => k_is); (case z => k_asm); k_whole; intro hₚₗ Fₚₗ Nₚₗ; (try k_sweep)))))
  (k_with "own ent" => ((walk_at "R code_def k1 k2 k3 k4 k5 kA kF kK k6 k7 k8 k9 kB _ c2 c3 c4 c5"; (case kA => exact rfl); (case kF => exact rfl); (case kK => first | exact rfl | assumption); (case k1 => k_asm); (case k2 => k_asm); (case k3 => k_asm); (case k4 => k_asm); (case k5 => k_asm); (case k6 => k_is); (case k7 => k_is); (case k8 => ktr_room); (case k9 => first | exact BindsTo.of_eq rfl | exact binds_K (by k_in) rfl (by k_is) rfl rfl rfl); (case c5 => decide); (case kB => exact locs rfl); (case c2 => exact rfl); (case c3 => exact rfl); (case c4 => exact rfl); k_whole; intro gₚₗ Lₚₗ hₚₗ FGₚₗ Fₚₗ Nₚₗ Bₚₗ Xₚₗ Tₚₗ; (try dsimp only); (try k_fold))))
  (k_with "own setItem ref" => ((k_here; (with_reducible show wpAny _ _ (setItem (Value.ref _) (Value.ref _) (Value.ref _)) _ _ _); k_dflt (dsimp only; walk_at "R setitemN F X N h2 hl yl a b c U z z' _"; (case F => k_asm); (case X => k_asm); (case N => k_asm); (case U => k_updF); (case h2 => k_mem); (case hl => k_mem); (case yl => k_asm); (case a => k_is); (case b => kernel_rfl); (case c => k_is); (case z => k_asm); (case z' => k_asm); intro hₚₗ epₚₗ Fₚₗ Nₚₗ; (try dsimp only [List.nil_append, List.cons_append] at Nₚₗ); (try k_sweep)))))
  (k_with "own setAttr ref" => ((k_here; (with_reducible show wpAny _ _ (setAttr (Value.ref _) (PySem.Str.ofString "_initial_size") _) _ _ _); k_dflt (dsimp only; walk_at "R set_acc F X N h1 a b c U _"; (case F => k_asm); (case X => k_asm); (case N => k_asm); (case h1 => k_mem); (case U => k_updF); (case a => k_is); (case b => kernel_rfl); (case c => kernel_rfl); intro hₚₗ Fₚₗ Nₚₗ; (try dsimp only [List.nil_append, List.cons_append] at Nₚₗ); (try k_sweep)))))
  (k_with "own exec For" => ((k_here; refine for_start ?_ (by intro _; rfl))))
  (k_with "own call type:enumerate" => ((k_here; refine stop_here ?_)))
  (k_with "own compareOp Is str str" => ((k_here; walk_at "R is_same F X bₗ c d _"; (case F => k_asm); (case X => k_asm); (case bₗ => kernel_rfl); (case c => assumption); (case d => assumption); (intro bₗ; cases bₗ))))
  (k_with "own compareOp Is str str" => ((k_here; walk_at "R is_diff a b c d _"; (case a => assumption); (case b => assumption); (case c => assumption); (case d => assumption))))
  (k_with "own eval Name" => ((k_here; (with_reducible show wpAny _ _ (eval (PySem.Expr.Name _ _) (envOf _ _ _ _ _)) _ _ _); k_dflt (walk_at "R ld k1 k2 _"; (case k1 => k_asm); (case k2 => first | exact rfl | with_reducible assumption | assumption); k_whole))))
  (k_with "own execs cons" => ((k_here; (with_reducible refine wpAny_execs_cons ?_); try dsimp only)))
  (k_with "own execs nil" => ((k_here; refine wpAny_execs_nil ?_; try dsimp only)))
  (k_with "own subscriptTail" => ((k_here; (with_reducible show wpAny _ _ (subscriptTail _ _ (Value.ref _) (Value.int _ _)) _ _ _); k_dflt (walk_at "R item_tupleL l a b c d _"; (case l => exact News.isTup (by k_asm) (by k_mem)); (case a => first | decide | omega); (case b => first | decide | omega); (case c => first | rfl | assumption | decide); (case d => first | rfl | assumption | simp); k_whole))))
  (k_with "own subscriptTail" => ((k_here; (with_reducible show wpAny _ _ (subscriptTail _ _ (Value.ref _) (Value.int _ _)) _ _ _); k_dflt (walk_at "R item_listL l a b d _"; (case l => exact News.isList (by k_asm) (by k_mem)); (case a => first | decide | omega | assumption); (case b => first | decide | omega | assumption); (case d => first | rfl | assumption | simp); k_whole))))
  (k_with "own sz" => ((k_here; first | assumption | (simp only [Array.size_push, List.size_toArray, List.length_append, List.length_reverse, List.length_cons, List.length_nil, Array.size_empty] at *; omega))))
  (k_with "own om" => ((k_here; first | assumption | decide | omega | (dsimp only; omega))))
  (k_with "own call ref" => ((k_here; k_dflt (show wpAny _ _ (call (Value.ref 128) [Value.ref _]) _ _ _); k_dflt (walk_at "R count_U B F X T hk N h1 h2 hd _"; (case B => k_asm); (case F => k_asm); (case X => k_asm); (case T => k_asm); (case hk => first | exact rfl | assumption); (case N => k_asm); (case h1 => k_mem); (case h2 => k_mem); (case hd => ktr_room); intro hₚₗ tkₚₗ tₚₗ Fₚₗ Nₚₗ htₚₗ; (try dsimp only at htₚₗ); (try k_sweep)))))
  (k_with "own call ref" => ((k_here; k_dflt (show wpAny _ _ (call (Value.ref 91) [Value.ref _]) _ _ _); k_dflt (walk_at "R pop_U B F X T hk N h2 hd dx U z _"; (case B => k_asm); (case F => k_asm); (case X => k_asm); (case T => k_asm); (case hk => first | exact rfl | assumption); (case N => k_asm); (case U => k_updF); (case h2 => k_mem); (case hd => ktr_room); (case dx => k_ne); (case z => walk_at "sz"); intro hₚₗ tkₚₗ Fₚₗ Nₚₗ htₚₗ; (try dsimp only at htₚₗ); (try dsimp only [List.nil_append, List.cons_append] at Nₚₗ); (try k_sweep)))))
  (k_with "own call ref" => ((k_here; k_dflt (show wpAny _ _ (call (Value.ref 75) [Value.ref _, Value.str _ _, Value.str _ _]) _ _ _); k_dflt (walk_at "R push_U B F X T hk N h2 hd hu dx U z _"; (case B => k_asm); (case F => k_asm); (case X => k_asm); (case T => k_asm); (case hk => first | exact rfl | assumption); (case N => k_asm); (case U => k_updF); (case h2 => k_mem); (case hd => ktr_room); (case hu => ktr_room); (case dx => k_ne); (case z => walk_at "sz"); intro qₚₗ hₚₗ tkₚₗ Fₚₗ Nₚₗ htₚₗ; (try dsimp only at htₚₗ); (try dsimp only [List.nil_append, List.cons_append] at Nₚₗ); (try k_sweep)))))
  (k_with "own call ref" => ((k_here; k_dflt (show wpAny _ _ (call (Value.ref 131) []) _ _ _); k_dflt (walk_at "R make_U0 B F X T hk N hd _"; (case B => k_asm); (case F => k_asm); (case X => k_asm); (case T => k_asm); (case hk => first | exact rfl | assumption); (case N => k_asm); (case hd => ktr_room); intro xₚₗ dxₚₗ epₚₗ hshₚₗ tₚₗ vₚₗ nₚₗ hₚₗ tkₚₗ Fₚₗ Nₚₗ l1ₗ l2ₗ htₚₗ; (try dsimp only at htₚₗ); (try k_sweep)))))
  (k_with "own call ref" => ((k_here; k_dflt (show wpAny _ _ (call (Value.ref 131) [Value.int _ _]) _ _ _); k_dflt (walk_at "R make_U1 B F X T hk N hd _"; (case B => k_asm); (case F => k_asm); (case X => k_asm); (case T => k_asm); (case hk => first | exact rfl | assumption); (case N => k_asm); (case hd => ktr_room); intro xₚₗ dxₚₗ epₚₗ hshₚₗ tₚₗ nₚₗ hₚₗ tkₚₗ Fₚₗ Nₚₗ l1ₗ l2ₗ htₚₗ; (try dsimp only at htₚₗ); (try k_sweep)))))
  (k_with "own call ref" => ((k_here; k_dflt (show wpAny _ _ (call (Value.ref 177) [Value.str _ _, Value.str _ _]) _ _ _); k_dflt (walk_at "R idx_spec B F X N T hk hd ha t0 t1 kk lt _"; (case B => k_asm); (case F => k_asm); (case X => k_asm); (case T => k_asm); (case hk => first | exact rfl | assumption); (case N => k_asm); (case hd => ktr_room); (case ha => decide +kernel); (case t0 => walk_at "om"); (case t1 => walk_at "om"); (case kk => assumption); (case lt => assumption); intro tvₚₗ hₚₗ tkₚₗ Fₚₗ Nₚₗ htₚₗ; (try dsimp only at htₚₗ); (try k_sweep)))))
  (k_with "own call ref" => ((k_here; k_dflt (show wpAny _ _ (call (Value.ref 170) [Value.str _ _, Value.int _ _]) _ _ _); k_dflt (walk_at "R item_str B F X N T hk hd i0 i1 ix _"; (case B => k_asm); (case F => k_asm); (case X => k_asm); (case T => k_asm); (case hk => first | exact rfl | assumption); (case N => k_asm); (case hd => ktr_room); (case i0 => walk_at "om"); (case i1 => first | assumption | decide +kernel); (case ix => decide +kernel); intro tvₚₗ hₚₗ tkₚₗ Fₚₗ Nₚₗ ht1ₚₗ ht2ₚₗ; (try dsimp only at ht1ₚₗ); (try k_sweep)))))
  (k_with "own ent_cell" => ((walk_at "R code_defCT k1 k2 k3 k4 k5 kA kF kK k6 k7 k8 k9 kB kD _ c2 c3 c4"; (case kA => exact rfl); (case kF => exact rfl); (case kK => first | exact rfl | assumption); (case k1 => k_asm); (case k2 => k_asm); (case k3 => k_asm); (case k4 => k_asm); (case k5 => k_asm); (case k6 => k_is); (case k7 => k_is); (case k8 => ktr_room); (case k9 => first | exact BindsTo.of_eq rfl | exact binds_K (by k_in) rfl (by k_is) rfl rfl rfl); (case kB => exact rfl); (case kD => decide +kernel); (case c2 => exact rfl); (case c3 => exact rfl); (case c4 => exact rfl); k_whole; intro gₚₗ Lₚₗ hₚₗ tkₚₗ cellsₚₗ htₚₗ FGₚₗ Fₚₗ Nₚₗ Yₚₗ Bₚₗ Sₚₗ Xₚₗ Tₚₗ l1ₗ; (try k_lt l1ₗ); k_cells Yₚₗ; (try simp only [List.cons_append, List.nil_append] at Nₚₗ); (try dsimp only); (try k_fold))))
  (k_with "own ent_more" => ((walk_at "R kp_more k1 k2 k3 k4 k5 kA kF kK k6 k7 k8 kX kM kN kD kR kP kT kB _ c2 c3 c4 c5"; (case kA => exact rfl); (case kF => exact rfl); (case kK => first | exact rfl | assumption); (case k1 => k_asm); (case k2 => k_asm); (case k3 => k_asm); (case k4 => k_asm); (case k5 => k_asm); (case k6 => k_is); (case k7 => k_is); (case k8 => ktr_room); (case kX => kp_lit); (case kM => exact rfl); (case kN => exact rfl); (case kD => kp_flats); (case kR => exact rfl); (case kP => exact rfl); (case kT => exact fun _ => rfl); (case kB => exact fun _ => locs rfl); (case c5 => decide); (case c2 => exact rfl); (case c3 => exact rfl); (case c4 => exact rfl); k_whole; intro Dₚₗ oₚₗ gₚₗ Lₚₗ hₚₗ tkₚₗ l1ₗ loₚₗ hsₚₗ fsₚₗ FGₚₗ Fₚₗ Nₚₗ Bₚₗ Xₚₗ Tₚₗ; (try k_lt l1ₗ); (try dsimp only); (try k_fold))))
  (k_with "own callWith ref" => ((k_here; (with_reducible show wpAny _ _ (callWith _ _ [] _ (backToKw _ (keywordEach [PySem.Keyword.mk none _ _] _))) _ _ _); k_dflt (walk_at "R star_callD F N hk hx hxl hxd hy hyl hyd ha hod hkl hsys hf hfo _"; (case F => k_asm); (case N => k_asm); (case hk => exact rfl); (case hx => first | exact rfl | assumption); (case hxl => exact rfl); (case hxd => decide); (case hy => first | exact rfl | assumption); (case hyl => exact rfl); (case hyd => decide); (case ha => k_mem); (case hod => assumption); (case hkl => simp); (case hsys => assumption); (case hf => k_mem); (case hfo => exact rfl); intro hₚₗ dₚₗ oₚₗ Fₚₗ Nₚₗ; (try k_sweep)))))
  (k_with "own call ref" => ((k_here; k_dflt (show wpAny _ _ (call (Value.ref 51) _ _) _ _ _); refine wpAny_with_toks (Nat.le_refl _) ?_; refine wpAny_call ?_; k_dflt (walk_at "ent_more"))))
  (k_with "own call ref" => ((k_here; k_dflt (refine wpAny_call ?_; walk_at "R kdv_code k1 k2 k3 k4 k5 kA kF kK k6 k7 k8 k9 kB _ c2 c3 c4 c5"; (case kA => exact rfl); (case kF => exact rfl); (case kK => first | exact rfl | assumption); (case k1 => k_asm); (case k2 => k_asm); (case k3 => k_asm); (case k4 => k_asm); (case k5 => k_asm); (case k6 => k_mem); (case k7 => exact codeRec_news (by k_asm) (by k_mem) (by assumption) (by assumption)); (case k8 => ktr_room); (case k9 => kdv_bind); (case c5 => decide); (case kB => exact locs rfl); (case c2 => exact rfl); (case c3 => exact rfl); (case c4 => exact rfl); k_whole; intro gₚₗ Lₚₗ hₚₗ FGₚₗ Fₚₗ Nₚₗ Bₚₗ Xₚₗ Tₚₗ; (try dsimp only); (try k_fold)))))
  (k_with "own call ref" => ((k_here; k_dflt (show wpAny _ _ (call (Value.ref 170) [Value.ref _, Value.int _ _]) _ _ _); k_dflt (walk_at "R get_list B F X N T hk hd l i0 i1 v _"; (case B => k_asm); (case F => k_asm); (case X => k_asm); (case T => k_asm); (case hk => first | exact rfl | assumption); (case N => k_asm); (case hd => ktr_room); (case l => k_mem); (case i0 => walk_at "om"); (case i1 => walk_at "om"); (case v => assumption); intro hₚₗ tkₚₗ Fₚₗ Nₚₗ htₚₗ; (try dsimp only at htₚₗ); (try k_sweep)))))
  (k_with "own call ref" => ((k_here; k_dflt (show wpAny _ _ (call (Value.ref 170) [Value.ref _, Value.int _ _]) _ _ _); k_dflt (walk_at "R get_pair B F X T hk N hd l i _"; (case B => k_asm); (case F => k_asm); (case X => k_asm); (case T => k_asm); (case hk => first | exact rfl | assumption); (case N => k_asm); (case hd => ktr_room); (case l => k_mem); (case i => first | assumption | exact fmod2 _ | decide | omega); intro hₚₗ tkₚₗ Fₚₗ Nₚₗ htₚₗ; (try dsimp only at htₚₗ); (try k_sweep)))))
  (k_with "own makeTail" => ((k_here; refine wpAny_with_toks (Nat.le_refl _) ?_; k_dflt (walk_at "R kdv_nest F N T C cd U t n cl _"; (case F => k_asm); (case N => k_asm); (case T => k_asm); (case cd => exact rfl); (case C => kn_code); (case U => k_updF); (case t => kn_triples); (case n => kn_among); (case cl => exact rfl); k_whole); intro fₚₗ cₚₗ ocₚₗ vsₚₗ tₚₗ ctₚₗ dcₚₗ hₚₗ tkₚₗ Fₚₗ Nₚₗ d1ₚₗ d2ₚₗ l1ₗ l2ₗ htₚₗ; (try dsimp only at Nₚₗ); (try k_lt l1ₗ); (try k_lt2 l2ₗ); (try dsimp only at htₚₗ))))
  (k_with "own eval Name" => ((k_here; k_dflt (walk_at "R nameX_L k1 k2 _ c1 c2 c3"; (case k1 => k_asm); (case k2 => first | exact rfl | assumption); (case c1 => exact rfl); (case c2 => exact rfl); (case c3 => decide); k_whole))))
  (k_with "own call ref" => ((k_here; k_dflt (first | (show wpAny _ _ (call (Value.ref 142) _) _ _ _) | (show wpAny _ _ (call (Value.ref 149) _) _ _ _) | (show wpAny _ _ (call (Value.ref 156) _) _ _ _) | (show wpAny _ _ (call (Value.ref 163) _) _ _ _)); refine wpAny_call ?_; k_dflt (walk_at "ent"))))
  (k_with "own eval Name" => ((k_here; k_dflt (first | (walk_at "R nameX_L F v _ a b"; (case F => k_asm); (case a => rfl); (case b => rfl); (case v => first | rfl | with_reducible assumption); k_whole) | (walk_at "R nameX_K F X T e _ a b"; (case F => k_asm); (case X => k_asm); (case T => k_asm); (case a => rfl); (case b => rfl); (case e => k_is); k_whole)))))
  (k_with "own subscriptTail Name Constant ref int" => ((k_here; k_dflt (first | (walk_at "R item_listL l a b d _"; (case l => exact News.isList (by with_reducible assumption) (by k_mem)); (case a => decide); (case b => first | decide | omega); (case d => exact rfl); k_whole) | (walk_at "R item_tupleL l a b c d _"; (case l => exact News.isTup (by with_reducible assumption) (by k_mem)); (case a => decide); (case b => decide); (case c => first | rfl | assumption | decide); (case d => first | rfl | assumption | simp); k_whole)))))
  (k_with "own subscriptTail Name Name ref int" => ((k_here; k_dflt (walk_at "R item_listL l a b d _"; (case l => exact News.isList (by with_reducible assumption) (by k_mem)); (case a => decide); (case b => first | decide | omega); (case d => exact rfl); k_whole))))
  (k_with "own callWith ref" => ((k_here; (with_reducible show wpAny _ _ (callWith _ (Value.ref (OfNat.ofNat _)) _ _ _) _ _ _); k_dflt (first | (walk_at "R callWith_K k1 k2 _"; (case k1 => with_reducible assumption); (case k2 => k_is); k_whole) | (walk_at "R callWith_K0 k1 k2 _"; (case k1 => exact Frag.In.keeps (by with_reducible assumption) (Fr.keep (by with_reducible assumption))); (case k2 => k_is); k_whole)))))
  (k_with "own subscriptTail List" => ((k_here; k_dflt (walk_at "R item_listL l a b d _"; (case l => exact News.isList (by with_reducible assumption) (by k_mem)); (case a => decide); (case b => first | decide | omega); (case d => exact rfl); k_whole))))
  (k_with "own ent_t" => ((walk_at "R code_defT k1 k2 k3 k4 k5 kA kF kK k6 k7 k8 k9 kB kD _ c2 c3 c4"; (case kA => exact rfl); (case kF => exact rfl); (case kK => first | exact rfl | assumption); (case k1 => k_asm); (case k2 => k_asm); (case k3 => k_asm); (case k4 => k_asm); (case k5 => k_asm); (case k6 => k_is); (case k7 => k_is); (case k8 => ktr_room); (case k9 => first | exact BindsTo.of_eq rfl | exact binds_K (by k_in) rfl (by k_is) rfl rfl rfl); (case kB => exact rfl); (case kD => exact fun _ => rfl); (case c2 => exact rfl); (case c3 => exact rfl); (case c4 => exact rfl); k_whole; intro gₚₗ Lₚₗ hₚₗ tkₚₗ htₚₗ FGₚₗ Fₚₗ Nₚₗ Bₚₗ Sₚₗ Xₚₗ Tₚₗ l1ₗ; (try k_lt l1ₗ); (try dsimp only); (try k_fold))))
  (k_with "own eval Name" => ((k_here; (with_reducible show wpAny _ _ (PySem.eval (PySem.Expr.Name _ _) (genEnv _ _ _ _ _ _)) _ _ _); first | (k_dflt (walk_at "R nameGen_l yF yv _ yk yx yd"; (case yF => k_asm); (case yv => assumption); (case yk => with_unfolding_all rfl); (case yx => with_unfolding_all rfl); (case yd => decide); k_whole)) | (k_dflt (walk_at "R nameGen_g yF yX yT ye _ yg yk yx yd"; (case yF => k_asm); (case yX => k_asm); (case yT => k_asm); (case ye => k_is); (case yg => with_unfolding_all rfl); (case yk => with_unfolding_all rfl); (case yx => with_unfolding_all rfl); (case yd => decide); k_whole)) | (k_dflt (walk_at "R nameGen_b yF yX yT ye yv yn _ yg yk yx yd"; (case yF => k_asm); (case yX => k_asm); (case yT => k_asm); (case ye => k_is); (case yv => boot_fast); (case yn => decide); (case yg => with_unfolding_all rfl); (case yk => with_unfolding_all rfl); (case yx => with_unfolding_all rfl); (case yd => decide); k_whole)))))
  (k_with "own newTuple" => (((with_reducible rename GenElt => gE9ₗ); refine wpAny_newTuple ?_)))
  (k_with "own getAttr ref" => ((k_here; (with_reducible show wpAny _ _ (getAttr (Value.ref _) (PySem.Str.ofString "_initial_size") _) _ _ _); k_dflt (walk_at "R get_accN F X N h1 h2 zga zk zm zf zh _"; (case F => k_asm); (case X => k_asm); (case N => k_asm); (case h1 => k_mem); (case h2 => k_mem); (case zga => k_is); (case zk => k_is); (case zm => k_is); (case zf => kernel_rfl); (case zh => rfl); k_whole))))
  trivial
theorem pre_two : ∀ j : Nat, preSum (fun _ => (2 : Int)) j = 2 * (j : Int)
  | 0 => rfl
  | j + 1 => by rw [preSum, pre_two j]; omega
set_option maxHeartbeats 400000 in
theorem len_spec {w : World} {pT : Program} {loose : List Str} {mean : ExcName → Option Value} {mg mb : Str → Option Value}
    {dp un : Nat} {gd : Option (List Code)} {cn : Str} {cs : Scope} {a : Addr} {ccd : Value} {cl : List (Str × Addr)} {outer : List Env} {A₀ : Around} {base h₀ : Heap} {L : Addr} {m : Str → Option Value} {s : Shared}
    {Q E : Value → Shared → Prop} {news : List (Addr × Obj)}
    (B : Below A₀ base outer h₀) (F : Fr h₀ L s.heap m) (X : (pre.heap_1 w.params).In h₀) (T : Top pT loose mean mg mb h₀) (hk : cs.kind = .function) {row drow : Addr} {its : List Value} {ep n : Nat} {hsh : Int} {tz : Tok} {lead : Int} {tl : Tok} {P : List (Nat × Nat)}
    (N : News h₀ L s.heap ((93, tabObj #[]) :: news)) (hr1 : (row, accObj drow its.toArray ep) ∈ news) (hr2 : (drow, sizeDict hsh tz (.int lead tl) n) ∈ news) (hd1 : dp + 10 < recursionLimit) (hu1 : un + 20 < cLine) {Bt : Nat} (hP : Pcs Bt news its P) (hsz : its.length ≤ 31) (hC : CodeHd h₀ 97 93) (hx : ∀ p ∈ news, p.1 ≠ 93) (hG : AllBare s.gens) (hlead : lead = 0 ∨ lead = 1 ∨ lead = 2)
    (hret : ∀ t ps s', Fr h₀ L s'.heap m → News h₀ L s'.heap ((93, tabObj ps) :: news) → AllBare s'.gens → s'.os = s.os → s.toks ≤ s'.toks → Q (.int (lead + 2 * (its.length : Nat)) t) s') :
    wpAny (model PR w) (ktrTop dp un gd cn cs L a ccd cl outer) (call (.ref 98) [.ref row]) Q E s := by
  refine wpAny_with_toks (Nat.le_refl _) ?_
  refine wpAny_call ?_
  k_dflt (walk_at "ent_t")
  rename Heap.StaysIn h₀ _ => hS
  have hC2 := hC.keeps hS
  obtain ⟨Ts, u1, u2, hTs⟩ := hP.pick
  k_steps
  rename News _ _ _ _ => nN
  rename Fr _ _ _ _ => nF
  rename Top _ _ _ _ _ _ => nT
  rename Frag.In _ _ => nX
  refine' gen_acc (Ts := Ts) (vals := fun j => #[.str ⟨#[(P.getD j (0, 0)).1]⟩ (u1 j), .str ⟨#[(P.getD j (0, 0)).2]⟩ (u2 j)]) (R := fun j v => ∃ u, v = .int 2 u) rfl rfl rfl rfl ?gclos ?gcell rfl rfl rfl ?gab rfl ?groom ?gs nF nX nT hC2 nN hx hG hr1 hr2 ?gm ?gi ?gt ?gv ?git ?gelt ?gQ
  case gclos => with_unfolding_all rfl
  case gcell => decide
  case gab => decide
  case groom => ktr_room
  case gs => (intro _; with_unfolding_all rfl)
  case gm => k_is
  case gi => k_is
  case gt =>
    intro j hj
    exact hTs j (by simpa using hj)
  case gv => exact fun j _ => ⟨_, _, rfl⟩
  case git =>
    intro Q' E' hq
    k_steps
    exact hq
  case gelt =>
    intro C c' A' E' i va vb s₂ m₂ hi hv hA F₂ N₂ ma mb
    clear nN nF
    have hv2 : va = .str ⟨#[(P.getD i (0, 0)).1]⟩ (u1 i) ∧ vb = .str ⟨#[(P.getD i (0, 0)).2]⟩ (u2 i) := by
      injection hv with hv
      injection hv with h1 h2
      injection h2 with h2
      exact ⟨h1.symm, h2.symm⟩
    obtain ⟨rfl, rfl⟩ := hv2
    have hmark : GenElt := ⟨⟩
    k_steps
    all_goals first | exact ⟨_, _, rfl, fun _ _ e => e⟩ | exact ⟨⟨_, rfl⟩, _, _, rfl, fun _ _ e => e⟩ | exact ⟨_, rfl⟩
  case gQ =>
    intro a' K' ps h' tk' gs F₂ N₂ G₂ hLK hPK hNK X₂
    clear nN nF
    k_steps
    obtain ⟨fp, wr, g₅, St, W, hst, hT, ha, hfp, hwr⟩ := X₂
    have W1 := W.in4_1
    refine call_sum2 (val := fun _ => 2) hlead W1 (W1.frame 0 _ _ _ hst (by dsimp only; omega) fun b _ o e => e) hfp (fun j v ⟨i, hi, u, e⟩ => ⟨u, e⟩) (fun j hj => ?_) (fun s' t' hm => ?_)
    · rw [pre_two]
      rw [List.length_range, List.size_toArray] at hj
      exact ⟨⟨by decide, by decide⟩, by rcases hlead with rfl | rfl | rfl <;> exact ⟨by omega, by omega⟩⟩
    · rw [pre_two, List.length_range, List.size_toArray]
      have F₃ : Fr _ _ s'.heap _ := F₂.moved hm fun b hb => Nat.lt_of_le_of_lt hLK (hwr b hb)
      have k1 : ∀ b o, b ≤ K' → h'.get? b = some o → s'.heap.get? b = some o := fun b o hb e => hm.heap b o (fun hmem => Nat.lt_irrefl _ (Nat.lt_of_lt_of_le (hwr b hmem) hb)) e
      have N₃ : News _ _ s'.heap ((93, tabObj ps) :: news) := fun q hq => ⟨k1 _ _ (by rcases List.mem_cons.mp hq with h | hq; (subst h; exact hPK); exact hNK q hq) (N₂ q hq).1, (N₂ q hq).2⟩
      have G₃ : AllBare s'.gens := AllBare.movedS (s := ⟨h', gs, s.drawn, tk', s.os⟩) G₂ ⟨hm.heap, hm.gens, hm.drawn, hm.os, Nat.le_trans (Nat.le_succ _) hm.toks⟩
      have ho : s'.os = s.os := hm.os
      clear F₂ N₂ hm
      k_steps
      rename News _ _ _ _ => nZ
      rename Fr _ _ _ _ => fZ
      exact hret t' ps s' fZ nZ G₃ ho (by assumption)
theorem Pcs.sub {B : Nat} {tl tl' : List (Addr × Obj)} (h : ∀ q a t1 b t2, (q, tupObj a t1 b t2) ∈ tl → (q, tupObj a t1 b t2) ∈ tl') : ∀ {vs : List Value} {ps : List (Nat × Nat)}, Pcs B tl vs ps → Pcs B tl' vs ps
  | [], [], _ => trivial
  | _ :: _, _ :: _, ⟨⟨q, t1, t2, e, m, r⟩, hr⟩ => ⟨⟨q, t1, t2, e, h _ _ _ _ _ m, r⟩, Pcs.sub h hr⟩
  | [], _ :: _, h => h.elim
  | _ :: _, [], h => h.elim
theorem str_U {w : World} {pT : Program} {loose : List Str} {mean : ExcName → Option Value} {mg mb : Str → Option Value}
    {dp un : Nat} {gd : Option (List Code)} {cn : Str} {cs : Scope} {a : Addr} {ccd : Value} {cl : List (Str × Addr)} {outer : List Env} {A₀ : Around} {base h₀ : Heap} {L : Addr} {m : Str → Option Value} {s : Shared}
    {Q E : Value → Shared → Prop} {news : List (Addr × Obj)}
    (B : Below A₀ base outer h₀) (F : Fr h₀ L s.heap m) (X : (pre.heap_1 w.params).In h₀) (T : Top pT loose mean mg mb h₀) (hk : cs.kind = .function) {row drow : Addr} {its : List Value} {ep n : Nat} {hsh : Int} {tz : Tok} {v0 : Value} {P : List (Nat × Nat)} {G : Obj → List (Addr × Obj)}
    (N : News h₀ L s.heap news) (U : UpdF 100 (tabObj #[]) news G) (hr1 : (row, accObj drow its.toArray ep) ∈ news) (hr2 : (drow, sizeDict hsh tz v0 n) ∈ news) (hd1 : dp + 10 < recursionLimit) (hu1 : un + 20 < cLine) {Bt : Nat} (hP : Pcs Bt news its P) (hsz : its.length ≤ 31) (hG : AllBare s.gens)
    (hret : ∀ t ps s', Fr h₀ L s'.heap m → News h₀ L s'.heap (G (tabObj ps)) → AllBare s'.gens → s'.os = s.os → s.toks ≤ s'.toks → Q (.str (txtOf P) t) s') :
    wpAny (model PR w) (ktrTop dp un gd cn cs L a ccd cl outer) (call (.ref 105) [.ref row]) Q E s := by
  obtain ⟨r, r1, r2, N1, r3, r4⟩ := led_split N U
  have hnt : ∀ (q : Addr) (o : Obj), o.cls ≠ .none → (q, o) ∈ news → (q, o) ∈ r := fun q o hc hm => (r2 _ hm).resolve_left fun e => hc (by rw [(Prod.mk.inj e).2])
  exact str_spec (Bt := Bt) B F X T hk N1 (hnt _ _ (by intro e; cases e) hr1) (hnt _ _ (by intro e; cases e) hr2) hd1 hu1 (hP.sub fun q a t1 b t2 hm => hnt _ _ (by intro e; cases e) hm) hsz (codeHd_of_K X (by kernel_rfl)) r1 hG fun t ps s' F' N' G' ho ht => hret t ps s' F' (fun p hp => by
    rcases r4 _ _ hp with h | h
    · subst h; exact N' _ (List.mem_cons_self ..)
    · exact N' _ (List.mem_cons_of_mem _ h)) G' ho ht
theorem len_U {w : World} {pT : Program} {loose : List Str} {mean : ExcName → Option Value} {mg mb : Str → Option Value}
    {dp un : Nat} {gd : Option (List Code)} {cn : Str} {cs : Scope} {a : Addr} {ccd : Value} {cl : List (Str × Addr)} {outer : List Env} {A₀ : Around} {base h₀ : Heap} {L : Addr} {m : Str → Option Value} {s : Shared}
    {Q E : Value → Shared → Prop} {news : List (Addr × Obj)}
    (B : Below A₀ base outer h₀) (F : Fr h₀ L s.heap m) (X : (pre.heap_1 w.params).In h₀) (T : Top pT loose mean mg mb h₀) (hk : cs.kind = .function) {row drow : Addr} {its : List Value} {ep n : Nat} {hsh : Int} {tz : Tok} {lead : Int} {tl : Tok} {P : List (Nat × Nat)} {G : Obj → List (Addr × Obj)}
    (N : News h₀ L s.heap news) (U : UpdF 93 (tabObj #[]) news G) (hr1 : (row, accObj drow its.toArray ep) ∈ news) (hr2 : (drow, sizeDict hsh tz (.int lead tl) n) ∈ news) (hd1 : dp + 10 < recursionLimit) (hu1 : un + 20 < cLine) {Bt : Nat} (hP : Pcs Bt news its P) (hsz : its.length ≤ 31) (hG : AllBare s.gens) (hlead : lead = 0 ∨ lead = 1 ∨ lead = 2)
    (hret : ∀ t ps s', Fr h₀ L s'.heap m → News h₀ L s'.heap (G (tabObj ps)) → AllBare s'.gens → s'.os = s.os → s.toks ≤ s'.toks → Q (.int (lead + 2 * (its.length : Nat)) t) s') :
    wpAny (model PR w) (ktrTop dp un gd cn cs L a ccd cl outer) (call (.ref 98) [.ref row]) Q E s := by
  obtain ⟨r, r1, r2, N1, r3, r4⟩ := led_split N U
  have hnt : ∀ (q : Addr) (o : Obj), o.cls ≠ .none → (q, o) ∈ news → (q, o) ∈ r := fun q o hc hm => (r2 _ hm).resolve_left fun e => hc (by rw [(Prod.mk.inj e).2])
  exact len_spec (Bt := Bt) B F X T hk N1 (hnt _ _ (by intro e; cases e) hr1) (hnt _ _ (by intro e; cases e) hr2) hd1 hu1 (hP.sub fun q a t1 b t2 hm => hnt _ _ (by intro e; cases e) hm) hsz (codeHd_of_K X (by kernel_rfl)) r1 hG hlead fun t ps s' F' N' G' ho ht => hret t ps s' F' (fun p hp => by
    rcases r4 _ _ hp with h | h
    · subst h; exact N' _ (List.mem_cons_self ..)
    · exact N' _ (List.mem_cons_of_mem _ h)) G' ho ht
-- Hint
local macro_rules | `(tactic| walk_at "S16") => `(tactic| refine' super_slot (.inl rfl) ?F ?X ?N ?i0 ?i1 ?i2 ?a ?b ?c ?d ?_)
theorem words_Hint_1 : True := by
  k_with_none
  (k_with "own shade" => (have Bₚₗ := True.intro; have Dₚₗ := True.intro; have F9ₗ := True.intro; have FGₚₗ := True.intro; have Fₚₗ := True.intro; have Gₚₗ := True.intro; have Lₚₗ := True.intro; have N9ₗ := True.intro; have Nₚₗ := True.intro; have Sₚₗ := True.intro; have Tₚₗ := True.intro; have Xₚₗ := True.intro; have Yₚₗ := True.intro; have aₗ := True.intro; have bhₚₗ := True.intro; have blₚₗ := True.intro; have bₗ := True.intro; have cellsₚₗ := True.intro; have ctₚₗ := True.intro; have cₚₗ := True.intro; have d1ₚₗ := True.intro; have d2ₚₗ := True.intro; have dcₚₗ := True.intro; have dxₚₗ := True.intro; have dₚₗ := True.intro; have epₚₗ := True.intro; have fsₚₗ := True.intro; have fₚₗ := True.intro; have gE9ₗ := True.intro; have gₚₗ := True.intro; have h9ₗ := True.intro; have hcₚₗ := True.intro; have hkₚₗ := True.intro; have hmₗ := True.intro; have hoₚₗ := True.intro; have hpₗ := True.intro; have hrₚₗ := True.intro; have hshₚₗ := True.intro; have hsₚₗ := True.intro; have ht1ₚₗ := True.intro; have ht2ₚₗ := True.intro; have ht3ₚₗ := True.intro; have ht4ₚₗ := True.intro; have htₚₗ := True.intro; have hvₗ := True.intro; have hₗ := True.intro; have hₚₗ := True.intro; have kₚₗ := True.intro; have l1ₗ := True.intro; have l1ₚₗ := True.intro; have l2ₗ := True.intro; have loₚₗ := True.intro; have nNₗ := True.intro; have nₚₗ := True.intro; have ocₚₗ := True.intro; have oₚₗ := True.intro; have psₚₗ := True.intro; have pₗ := True.intro; have qₗ := True.intro; have qₚₗ := True.intro; have sₚₗ := True.intro; have t1ₗ := True.intro; have t1ₚₗ := True.intro; have t2ₗ := True.intro; have t9ₗ := True.intro; have tcₚₗ := True.intro; have tk9ₗ := True.intro; have tkₚₗ := True.intro; have tvₚₗ := True.intro; have tₚₗ := True.intro; have u1ₚₗ := True.intro; have u2ₚₗ := True.intro; have v1ₚₗ := True.intro; have vsₚₗ := True.intro; have vₗ := True.intro; have vₚₗ := True.intro; have xₚₗ := True.intro))
  (k_with "own bare" => (clear Bₚₗ Dₚₗ F9ₗ FGₚₗ Fₚₗ Gₚₗ Lₚₗ N9ₗ Nₚₗ Sₚₗ Tₚₗ Xₚₗ Yₚₗ aₗ bhₚₗ blₚₗ bₗ cellsₚₗ ctₚₗ cₚₗ d1ₚₗ d2ₚₗ dcₚₗ dxₚₗ dₚₗ epₚₗ fsₚₗ fₚₗ gE9ₗ gₚₗ h9ₗ hcₚₗ hkₚₗ hmₗ hoₚₗ hpₗ hrₚₗ hshₚₗ hsₚₗ ht1ₚₗ ht2ₚₗ ht3ₚₗ ht4ₚₗ htₚₗ hvₗ hₗ hₚₗ kₚₗ l1ₗ l1ₚₗ l2ₗ loₚₗ nNₗ nₚₗ ocₚₗ oₚₗ psₚₗ pₗ qₗ qₚₗ sₚₗ t1ₗ t1ₚₗ t2ₗ t9ₗ tcₚₗ tk9ₗ tkₚₗ tvₚₗ tₚₗ u1ₚₗ u2ₚₗ v1ₚₗ vsₚₗ vₗ vₚₗ xₚₗ))
  (k_with "own getMethod ref" => ((k_here; (with_reducible show wpAny _ _ (getMethod (Value.ref _) (PySem.Str.ofString "append") _) _ _ _); k_dflt (walk_at "R method_biN F X N i1 i2 a b c d e _"; (case F => k_asm); (case X => k_asm); (case N => k_asm); (case i1 => k_mem); (case i2 => k_mem); (case a => k_is); (case b => k_is); (case c => k_is); (case d => k_is); (case e => kernel_rfl); k_whole))))
  (k_with "own call builtin:list.append" => ((k_here; (with_reducible show wpAny _ _ (call (Value.builtin _) [Value.ref _, _]) _ _ _); k_dflt (walk_at "R append_accN F X N i2 a U z _"; (case F => k_asm); (case X => k_asm); (case N => k_asm); (case U => k_upd); (case i2 => k_mem); (case a => k_is); (case z => k_asm); k_whole); intro hₚₗ Fₚₗ Nₚₗ; (try k_sweep))))
  (k_with "own getMethod ref" => ((k_here; (with_reducible show wpAny _ _ (getMethod (Value.ref _) (PySem.Str.ofString "part_count") _) _ _ _); k_dflt (walk_at "R method_fnN F X N i1 i2 a b c d e _"; (case F => k_asm); (case X => k_asm); (case N => k_asm); (case i1 => k_mem); (case i2 => k_mem); (case a => k_is); (case b => k_is); (case c => k_is); (case d => k_is); (case e => kernel_rfl); k_whole))))
  (k_with "own getMethod ref" => ((k_here; (with_reducible show wpAny _ _ (getMethod (Value.ref _) (PySem.Str.ofString "push") _) _ _ _); k_dflt (walk_at "R method_fnN F X N i1 i2 a b c d e _"; (case F => k_asm); (case X => k_asm); (case N => k_asm); (case i1 => k_mem); (case i2 => k_mem); (case a => k_is); (case b => k_is); (case c => k_is); (case d => k_is); (case e => kernel_rfl); k_whole))))
  (k_with "own getMethod ref" => ((k_here; (with_reducible show wpAny _ _ (getMethod (Value.ref _) (PySem.Str.ofString "pop") _) _ _ _); k_dflt (walk_at "R method_fnN F X N i1 i2 a b c d e _"; (case F => k_asm); (case X => k_asm); (case N => k_asm); (case i1 => k_mem); (case i2 => k_mem); (case a => k_is); (case b => k_is); (case c => k_is); (case d => k_is); (case e => kernel_rfl); k_whole))))
  (k_with "own getMethod ref" => ((k_here; (with_reducible show wpAny _ _ (getMethod (Value.ref _) (PySem.Str.ofString "reset") _) _ _ _); k_dflt (walk_at "R method_fnN F X N i1 i2 a b c d e _"; (case F => k_asm); (case X => k_asm); (case N => k_asm); (case i1 => k_mem); (case i2 => k_mem); (case a => k_is); (case b => k_is); (case c => k_is); (case d => k_is); (case e => kernel_rfl); k_whole))))
  (k_with "own getMethod ref" => ((k_here; (with_reducible show wpAny _ _ (getMethod (Value.ref _) (PySem.Str.ofString "__len__") _) _ _ _); k_dflt (walk_at "S16"; (case F => k_asm); (case X => k_asm); (case N => k_asm); (case i0 => k_mem); (case i1 => k_mem); (case i2 => k_mem); (case a => k_is); (case b => ks_is); (case c => k_is); (case d => decide); intro qₚₗ hₚₗ Fₚₗ Nₚₗ l1ₗ; (try k_lt l1ₗ)))))
  (k_with "own getMethod ref" => ((k_here; (with_reducible show wpAny _ _ (getMethod (Value.ref _) (PySem.Str.ofString "pop") _) _ _ _); k_dflt (walk_at "R super_pop F X N i0 i1 i2 a b c d _"; (case F => k_asm); (case X => k_asm); (case N => k_asm); (case i0 => k_mem); (case i1 => k_mem); (case i2 => k_mem); (case a => k_is); (case b => ks_is); (case c => k_is); (case d => decide); intro qₚₗ hₚₗ Fₚₗ Nₚₗ l1ₗ; (try k_lt l1ₗ)))))
  (k_with "own callWith ref" => ((k_here; k_dflt (walk_at "R callWith_bound0 N q b _"; (case N => k_asm); (case q => k_mem); (case b => first | exact .inl rfl | exact .inr rfl); k_whole))))
  (k_with "own call ref" => ((k_here; k_dflt (walk_at "R call_len N q i _"; (case N => k_asm); (case q => k_mem); (case i => k_mem); k_whole))))
  (k_with "own ent_super" => ((walk_at "R ks_code_super k1 k2 k3 k4 k5 kA kF kK k6 k7 k8 k9 kB _ c1 c2 c3 c4"; (case kA => exact rfl); (case kF => exact rfl); (case kK => first | exact rfl | assumption); (case k1 => k_asm); (case k2 => k_asm); (case k3 => k_asm); (case k4 => k_asm); (case k5 => k_asm); (case k6 => k_is); (case k7 => k_is); (case k8 => ktr_room); (case k9 => first | exact BindsTo.of_eq rfl | exact binds_K (by k_in) rfl (by k_is) rfl rfl rfl); (case kB => exact locs rfl); (case c1 => decide); (case c2 => exact rfl); (case c3 => exact rfl); (case c4 => exact rfl); intro gₚₗ Lₚₗ hₚₗ FGₚₗ Fₚₗ Nₚₗ Bₚₗ Xₚₗ Tₚₗ l1ₗ; (try dsimp only); (try k_fold))))
  (k_with "own drop" => (((with_reducible rename News _ _ _ _ => nNₗ); intro pₗ hpₗ; first | exact nNₗ pₗ hpₗ | exact nNₗ pₗ (.tail _ hpₗ) | exact nNₗ pₗ (.tail _ (.tail _ hpₗ)) | exact nNₗ pₗ (.tail _ (.tail _ (.tail _ hpₗ))) | exact nNₗ pₗ (.tail _ (.tail _ (.tail _ (.tail _ hpₗ)))) | exact nNₗ pₗ (.tail _ (.tail _ (.tail _ (.tail _ (.tail _ hpₗ))))))))
  (k_with "own wpAt" => ((k_here; (fail_if_success ks_step "eval Call"); (fail_if_success ks_step "exec Return"); (fail_if_success ks_step "execs cons"); (fail_if_success ks_step "exec If"); (fail_if_success ks_step "attributeBase Call"); dsimp only)))
  (k_with "own wpAt" => ((k_here; ks_step "eval Call"; with_unfolding_all refine ks_wpAt_MethodCall ?_)))
  (k_with "own call ref" => ((k_here; k_dflt (walk_at "R call_pop F X N q i a b c U z _"; (case F => k_asm); (case X => k_asm); (case N => k_asm); (case q => k_mem); (case U => k_upd); (case i => k_mem); (case a => k_is); (case b => kernel_rfl); (case c => k_is); (case z => k_asm); k_whole; intro hₚₗ Fₚₗ Nₚₗ; (try k_sweep)))))
  (k_with "own ent" => ((walk_at "R code_def k1 k2 k3 k4 k5 kA kF kK k6 k7 k8 k9 kB _ c2 c3 c4 c5"; (case kA => exact rfl); (case kF => exact rfl); (case kK => first | exact rfl | assumption); (case k1 => k_asm); (case k2 => k_asm); (case k3 => k_asm); (case k4 => k_asm); (case k5 => k_asm); (case k6 => k_is); (case k7 => k_is); (case k8 => ktr_room); (case k9 => first | exact BindsTo.of_eq rfl | exact binds_K (by k_in) rfl (by k_is) rfl rfl rfl); (case c5 => decide); (case kB => exact locs rfl); (case c2 => exact rfl); (case c3 => exact rfl); (case c4 => exact rfl); k_whole; intro gₚₗ Lₚₗ hₚₗ FGₚₗ Fₚₗ Nₚₗ Bₚₗ Xₚₗ Tₚₗ; (try dsimp only); (try k_fold))))
  (k_with "own setItem ref" => ((k_here; (with_reducible show wpAny _ _ (setItem (Value.ref _) (Value.ref _) (Value.ref _)) _ _ _); k_dflt (dsimp only; walk_at "R setitemN F X N h2 hl yl a b c U z z' _"; (case F => k_asm); (case X => k_asm); (case N => k_asm); (case U => k_updF); (case h2 => k_mem); (case hl => k_mem); (case yl => k_asm); (case a => k_is); (case b => kernel_rfl); (case c => k_is); (case z => k_asm); (case z' => k_asm); intro hₚₗ epₚₗ Fₚₗ Nₚₗ; (try dsimp only [List.nil_append, List.cons_append] at Nₚₗ); (try k_sweep)))))
  (k_with "own setAttr ref" => ((k_here; (with_reducible show wpAny _ _ (setAttr (Value.ref _) (PySem.Str.ofString "_initial_size") _) _ _ _); k_dflt (dsimp only; walk_at "R set_acc F X N h1 a b c U _"; (case F => k_asm); (case X => k_asm); (case N => k_asm); (case h1 => k_mem); (case U => k_updF); (case a => k_is); (case b => kernel_rfl); (case c => kernel_rfl); intro hₚₗ Fₚₗ Nₚₗ; (try dsimp only [List.nil_append, List.cons_append] at Nₚₗ); (try k_sweep)))))
  (k_with "own exec For" => ((k_here; refine for_start ?_ (by intro _; rfl))))
  (k_with "own call type:enumerate" => ((k_here; refine stop_here ?_)))
  (k_with "own compareOp Is str str" => ((k_here; walk_at "R is_same F X bₗ c d _"; (case F => k_asm); (case X => k_asm); (case bₗ => kernel_rfl); (case c => assumption); (case d => assumption); (intro bₗ; cases bₗ))))
  (k_with "own compareOp Is str str" => ((k_here; walk_at "R is_diff a b c d _"; (case a => assumption); (case b => assumption); (case c => assumption); (case d => assumption))))
  (k_with "own eval Name" => ((k_here; (with_reducible show wpAny _ _ (eval (PySem.Expr.Name _ _) (envOf _ _ _ _ _)) _ _ _); k_dflt (walk_at "R ld k1 k2 _"; (case k1 => k_asm); (case k2 => first | exact rfl | with_reducible assumption | assumption); k_whole))))
  (k_with "own execs cons" => ((k_here; (with_reducible refine wpAny_execs_cons ?_); try dsimp only)))
  (k_with "own execs nil" => ((k_here; refine wpAny_execs_nil ?_; try dsimp only)))
  (k_with "own subscriptTail" => ((k_here; (with_reducible show wpAny _ _ (subscriptTail _ _ (Value.ref _) (Value.int _ _)) _ _ _); k_dflt (walk_at "R item_tupleL l a b c d _"; (case l => exact News.isTup (by k_asm) (by k_mem)); (case a => first | decide | omega); (case b => first | decide | omega); (case c => first | rfl | assumption | decide); (case d => first | rfl | assumption | simp); k_whole))))
  (k_with "own subscriptTail" => ((k_here; (with_reducible show wpAny _ _ (subscriptTail _ _ (Value.ref _) (Value.int _ _)) _ _ _); k_dflt (walk_at "R item_listL l a b d _"; (case l => exact News.isList (by k_asm) (by k_mem)); (case a => first | decide | omega | assumption); (case b => first | decide | omega | assumption); (case d => first | rfl | assumption | simp); k_whole))))
  (k_with "own sz" => ((k_here; first | assumption | (simp only [Array.size_push, List.size_toArray, List.length_append, List.length_reverse, List.length_cons, List.length_nil, Array.size_empty] at *; omega))))
  (k_with "own om" => ((k_here; first | assumption | decide | omega | (dsimp only; omega))))
  (k_with "own call ref" => ((k_here; k_dflt (show wpAny _ _ (call (Value.ref 128) [Value.ref _]) _ _ _); k_dflt (walk_at "R count_U B F X T hk N h1 h2 hd _"; (case B => k_asm); (case F => k_asm); (case X => k_asm); (case T => k_asm); (case hk => first | exact rfl | assumption); (case N => k_asm); (case h1 => k_mem); (case h2 => k_mem); (case hd => ktr_room); intro hₚₗ tkₚₗ tₚₗ Fₚₗ Nₚₗ htₚₗ; (try dsimp only at htₚₗ); (try k_sweep)))))
  (k_with "own call ref" => ((k_here; k_dflt (show wpAny _ _ (call (Value.ref 91) [Value.ref _]) _ _ _); k_dflt (walk_at "R pop_U B F X T hk N h2 hd dx U z _"; (case B => k_asm); (case F => k_asm); (case X => k_asm); (case T => k_asm); (case hk => first | exact rfl | assumption); (case N => k_asm); (case U => k_updF); (case h2 => k_mem); (case hd => ktr_room); (case dx => k_ne); (case z => walk_at "sz"); intro hₚₗ tkₚₗ Fₚₗ Nₚₗ htₚₗ; (try dsimp only at htₚₗ); (try dsimp only [List.nil_append, List.cons_append] at Nₚₗ); (try k_sweep)))))
  (k_with "own call ref" => ((k_here; k_dflt (show wpAny _ _ (call (Value.ref 75) [Value.ref _, Value.str _ _, Value.str _ _]) _ _ _); k_dflt (walk_at "R push_U B F X T hk N h2 hd hu dx U z _"; (case B => k_asm); (case F => k_asm); (case X => k_asm); (case T => k_asm); (case hk => first | exact rfl | assumption); (case N => k_asm); (case U => k_updF); (case h2 => k_mem); (case hd => ktr_room); (case hu => ktr_room); (case dx => k_ne); (case z => walk_at "sz"); intro qₚₗ hₚₗ tkₚₗ Fₚₗ Nₚₗ htₚₗ; (try dsimp only at htₚₗ); (try dsimp only [List.nil_append, List.cons_append] at Nₚₗ); (try k_sweep)))))
  (k_with "own call ref" => ((k_here; k_dflt (show wpAny _ _ (call (Value.ref 131) []) _ _ _); k_dflt (walk_at "R make_U0 B F X T hk N hd _"; (case B => k_asm); (case F => k_asm); (case X => k_asm); (case T => k_asm); (case hk => first | exact rfl | assumption); (case N => k_asm); (case hd => ktr_room); intro xₚₗ dxₚₗ epₚₗ hshₚₗ tₚₗ vₚₗ nₚₗ hₚₗ tkₚₗ Fₚₗ Nₚₗ l1ₗ l2ₗ htₚₗ; (try dsimp only at htₚₗ); (try k_sweep)))))
  (k_with "own call ref" => ((k_here; k_dflt (show wpAny _ _ (call (Value.ref 131) [Value.int _ _]) _ _ _); k_dflt (walk_at "R make_U1 B F X T hk N hd _"; (case B => k_asm); (case F => k_asm); (case X => k_asm); (case T => k_asm); (case hk => first | exact rfl | assumption); (case N => k_asm); (case hd => ktr_room); intro xₚₗ dxₚₗ epₚₗ hshₚₗ tₚₗ nₚₗ hₚₗ tkₚₗ Fₚₗ Nₚₗ l1ₗ l2ₗ htₚₗ; (try dsimp only at htₚₗ); (try k_sweep)))))
  (k_with "own call ref" => ((k_here; k_dflt (show wpAny _ _ (call (Value.ref 177) [Value.str _ _, Value.str _ _]) _ _ _); k_dflt (walk_at "R idx_spec B F X N T hk hd ha t0 t1 kk lt _"; (case B => k_asm); (case F => k_asm); (case X => k_asm); (case T => k_asm); (case hk => first | exact rfl | assumption); (case N => k_asm); (case hd => ktr_room); (case ha => decide +kernel); (case t0 => walk_at "om"); (case t1 => walk_at "om"); (case kk => assumption); (case lt => assumption); intro tvₚₗ hₚₗ tkₚₗ Fₚₗ Nₚₗ htₚₗ; (try dsimp only at htₚₗ); (try k_sweep)))))
  (k_with "own call ref" => ((k_here; k_dflt (show wpAny _ _ (call (Value.ref 170) [Value.str _ _, Value.int _ _]) _ _ _); k_dflt (walk_at "R item_str B F X N T hk hd i0 i1 ix _"; (case B => k_asm); (case F => k_asm); (case X => k_asm); (case T => k_asm); (case hk => first | exact rfl | assumption); (case N => k_asm); (case hd => ktr_room); (case i0 => walk_at "om"); (case i1 => first | assumption | decide +kernel); (case ix => decide +kernel); intro tvₚₗ hₚₗ tkₚₗ Fₚₗ Nₚₗ ht1ₚₗ ht2ₚₗ; (try dsimp only at ht1ₚₗ); (try k_sweep)))))
  (k_with "own ent_cell" => ((walk_at "R code_defCT k1 k2 k3 k4 k5 kA kF kK k6 k7 k8 k9 kB kD _ c2 c3 c4"; (case kA => exact rfl); (case kF => exact rfl); (case kK => first | exact rfl | assumption); (case k1 => k_asm); (case k2 => k_asm); (case k3 => k_asm); (case k4 => k_asm); (case k5 => k_asm); (case k6 => k_is); (case k7 => k_is); (case k8 => ktr_room); (case k9 => first | exact BindsTo.of_eq rfl | exact binds_K (by k_in) rfl (by k_is) rfl rfl rfl); (case kB => exact rfl); (case kD => decide +kernel); (case c2 => exact rfl); (case c3 => exact rfl); (case c4 => exact rfl); k_whole; intro gₚₗ Lₚₗ hₚₗ tkₚₗ cellsₚₗ htₚₗ FGₚₗ Fₚₗ Nₚₗ Yₚₗ Bₚₗ Sₚₗ Xₚₗ Tₚₗ l1ₗ; (try k_lt l1ₗ); k_cells Yₚₗ; (try simp only [List.cons_append, List.nil_append] at Nₚₗ); (try dsimp only); (try k_fold))))
  (k_with "own ent_more" => ((walk_at "R kp_more k1 k2 k3 k4 k5 kA kF kK k6 k7 k8 kX kM kN kD kR kP kT kB _ c2 c3 c4 c5"; (case kA => exact rfl); (case kF => exact rfl); (case kK => first | exact rfl | assumption); (case k1 => k_asm); (case k2 => k_asm); (case k3 => k_asm); (case k4 => k_asm); (case k5 => k_asm); (case k6 => k_is); (case k7 => k_is); (case k8 => ktr_room); (case kX => kp_lit); (case kM => exact rfl); (case kN => exact rfl); (case kD => kp_flats); (case kR => exact rfl); (case kP => exact rfl); (case kT => exact fun _ => rfl); (case kB => exact fun _ => locs rfl); (case c5 => decide); (case c2 => exact rfl); (case c3 => exact rfl); (case c4 => exact rfl); k_whole; intro Dₚₗ oₚₗ gₚₗ Lₚₗ hₚₗ tkₚₗ l1ₗ loₚₗ hsₚₗ fsₚₗ FGₚₗ Fₚₗ Nₚₗ Bₚₗ Xₚₗ Tₚₗ; (try k_lt l1ₗ); (try dsimp only); (try k_fold))))
  (k_with "own callWith ref" => ((k_here; (with_reducible show wpAny _ _ (callWith _ _ [] _ (backToKw _ (keywordEach [PySem.Keyword.mk none _ _] _))) _ _ _); k_dflt (walk_at "R star_callD F N hk hx hxl hxd hy hyl hyd ha hod hkl hsys hf hfo _"; (case F => k_asm); (case N => k_asm); (case hk => exact rfl); (case hx => first | exact rfl | assumption); (case hxl => exact rfl); (case hxd => decide); (case hy => first | exact rfl | assumption); (case hyl => exact rfl); (case hyd => decide); (case ha => k_mem); (case hod => assumption); (case hkl => simp); (case hsys => assumption); (case hf => k_mem); (case hfo => exact rfl); intro hₚₗ dₚₗ oₚₗ Fₚₗ Nₚₗ; (try k_sweep)))))
  (k_with "own call ref" => ((k_here; k_dflt (show wpAny _ _ (call (Value.ref 51) _ _) _ _ _); refine wpAny_with_toks (Nat.le_refl _) ?_; refine wpAny_call ?_; k_dflt (walk_at "ent_more"))))
  (k_with "own call ref" => ((k_here; k_dflt (refine wpAny_call ?_; walk_at "R kdv_code k1 k2 k3 k4 k5 kA kF kK k6 k7 k8 k9 kB _ c2 c3 c4 c5"; (case kA => exact rfl); (case kF => exact rfl); (case kK => first | exact rfl | assumption); (case k1 => k_asm); (case k2 => k_asm); (case k3 => k_asm); (case k4 => k_asm); (case k5 => k_asm); (case k6 => k_mem); (case k7 => exact codeRec_news (by k_asm) (by k_mem) (by assumption) (by assumption)); (case k8 => ktr_room); (case k9 => kdv_bind); (case c5 => decide); (case kB => exact locs rfl); (case c2 => exact rfl); (case c3 => exact rfl); (case c4 => exact rfl); k_whole; intro gₚₗ Lₚₗ hₚₗ FGₚₗ Fₚₗ Nₚₗ Bₚₗ Xₚₗ Tₚₗ; (try dsimp only); (try k_fold)))))
  (k_with "own call ref" => ((k_here; k_dflt (show wpAny _ _ (call (Value.ref 170) [Value.ref _, Value.int _ _]) _ _ _); k_dflt (walk_at "R get_list B F X N T hk hd l i0 i1 v _"; (case B => k_asm); (case F => k_asm); (case X => k_asm); (case T => k_asm); (case hk => first | exact rfl | assumption); (case N => k_asm); (case hd => ktr_room); (case l => k_mem); (case i0 => walk_at "om"); (case i1 => walk_at "om"); (case v => assumption); intro hₚₗ tkₚₗ Fₚₗ Nₚₗ htₚₗ; (try dsimp only at htₚₗ); (try k_sweep)))))
  (k_with "own call ref" => ((k_here; k_dflt (show wpAny _ _ (call (Value.ref 170) [Value.ref _, Value.int _ _]) _ _ _); k_dflt (walk_at "R get_pair B F X T hk N hd l i _"; (case B => k_asm); (case F => k_asm); (case X => k_asm); (case T => k_asm); (case hk => first | exact rfl | assumption); (case N => k_asm); (case hd => ktr_room); (case l => k_mem); (case i => first | assumption | exact fmod2 _ | decide | omega); intro hₚₗ tkₚₗ Fₚₗ Nₚₗ htₚₗ; (try dsimp only at htₚₗ); (try k_sweep)))))
  (k_with "own makeTail" => ((k_here; refine wpAny_with_toks (Nat.le_refl _) ?_; k_dflt (walk_at "R kdv_nest F N T C cd U t n cl _"; (case F => k_asm); (case N => k_asm); (case T => k_asm); (case cd => exact rfl); (case C => kn_code); (case U => k_updF); (case t => kn_triples); (case n => kn_among); (case cl => exact rfl); k_whole); intro fₚₗ cₚₗ ocₚₗ vsₚₗ tₚₗ ctₚₗ dcₚₗ hₚₗ tkₚₗ Fₚₗ Nₚₗ d1ₚₗ d2ₚₗ l1ₗ l2ₗ htₚₗ; (try dsimp only at Nₚₗ); (try k_lt l1ₗ); (try k_lt2 l2ₗ); (try dsimp only at htₚₗ))))
  (k_with "own eval Name" => ((k_here; k_dflt (walk_at "R nameX_L k1 k2 _ c1 c2 c3"; (case k1 => k_asm); (case k2 => first | exact rfl | assumption); (case c1 => exact rfl); (case c2 => exact rfl); (case c3 => decide); k_whole))))
  (k_with "own call ref" => ((k_here; k_dflt (first | (show wpAny _ _ (call (Value.ref 142) _) _ _ _) | (show wpAny _ _ (call (Value.ref 149) _) _ _ _) | (show wpAny _ _ (call (Value.ref 156) _) _ _ _) | (show wpAny _ _ (call (Value.ref 163) _) _ _ _)); refine wpAny_call ?_; k_dflt (walk_at "ent"))))
  (k_with "own eval Name" => ((k_here; k_dflt (first | (walk_at "R nameX_L F v _ a b"; (case F => k_asm); (case a => rfl); (case b => rfl); (case v => first | rfl | with_reducible assumption); k_whole) | (walk_at "R nameX_K F X T e _ a b"; (case F => k_asm); (case X => k_asm); (case T => k_asm); (case a => rfl); (case b => rfl); (case e => k_is); k_whole)))))
  (k_with "own subscriptTail Name Constant ref int" => ((k_here; k_dflt (first | (walk_at "R item_listL l a b d _"; (case l => exact News.isList (by with_reducible assumption) (by k_mem)); (case a => decide); (case b => first | decide | omega); (case d => exact rfl); k_whole) | (walk_at "R item_tupleL l a b c d _"; (case l => exact News.isTup (by with_reducible assumption) (by k_mem)); (case a => decide); (case b => decide); (case c => first | rfl | assumption | decide); (case d => first | rfl | assumption | simp); k_whole)))))
  (k_with "own subscriptTail Name Name ref int" => ((k_here; k_dflt (walk_at "R item_listL l a b d _"; (case l => exact News.isList (by with_reducible assumption) (by k_mem)); (case a => decide); (case b => first | decide | omega); (case d => exact rfl); k_whole))))
  (k_with "own callWith ref" => ((k_here; (with_reducible show wpAny _ _ (callWith _ (Value.ref (OfNat.ofNat _)) _ _ _) _ _ _); k_dflt (first | (walk_at "R callWith_K k1 k2 _"; (case k1 => with_reducible assumption); (case k2 => k_is); k_whole) | (walk_at "R callWith_K0 k1 k2 _"; (case k1 => exact Frag.In.keeps (by with_reducible assumption) (Fr.keep (by with_reducible assumption))); (case k2 => k_is); k_whole)))))
  (k_with "own subscriptTail List" => ((k_here; k_dflt (walk_at "R item_listL l a b d _"; (case l => exact News.isList (by with_reducible assumption) (by k_mem)); (case a => decide); (case b => first | decide | omega); (case d => exact rfl); k_whole))))
  (k_with "own ent_t" => ((walk_at "R code_defT k1 k2 k3 k4 k5 kA kF kK k6 k7 k8 k9 kB kD _ c2 c3 c4"; (case kA => exact rfl); (case kF => exact rfl); (case kK => first | exact rfl | assumption); (case k1 => k_asm); (case k2 => k_asm); (case k3 => k_asm); (case k4 => k_asm); (case k5 => k_asm); (case k6 => k_is); (case k7 => k_is); (case k8 => ktr_room); (case k9 => first | exact BindsTo.of_eq rfl | exact binds_K (by k_in) rfl (by k_is) rfl rfl rfl); (case kB => exact rfl); (case kD => exact fun _ => rfl); (case c2 => exact rfl); (case c3 => exact rfl); (case c4 => exact rfl); k_whole; intro gₚₗ Lₚₗ hₚₗ tkₚₗ htₚₗ FGₚₗ Fₚₗ Nₚₗ Bₚₗ Sₚₗ Xₚₗ Tₚₗ l1ₗ; (try k_lt l1ₗ); (try dsimp only); (try k_fold))))
  (k_with "own eval Name" => ((k_here; (with_reducible show wpAny _ _ (PySem.eval (PySem.Expr.Name _ _) (genEnv _ _ _ _ _ _)) _ _ _); first | (k_dflt (walk_at "R nameGen_l yF yv _ yk yx yd"; (case yF => k_asm); (case yv => assumption); (case yk => with_unfolding_all rfl); (case yx => with_unfolding_all rfl); (case yd => decide); k_whole)) | (k_dflt (walk_at "R nameGen_g yF yX yT ye _ yg yk yx yd"; (case yF => k_asm); (case yX => k_asm); (case yT => k_asm); (case ye => k_is); (case yg => with_unfolding_all rfl); (case yk => with_unfolding_all rfl); (case yx => with_unfolding_all rfl); (case yd => decide); k_whole)) | (k_dflt (walk_at "R nameGen_b yF yX yT ye yv yn _ yg yk yx yd"; (case yF => k_asm); (case yX => k_asm); (case yT => k_asm); (case ye => k_is); (case yv => boot_fast); (case yn => decide); (case yg => with_unfolding_all rfl); (case yk => with_unfolding_all rfl); (case yx => with_unfolding_all rfl); (case yd => decide); k_whole)))))
  (k_with "own newTuple" => (((with_reducible rename GenElt => gE9ₗ); refine wpAny_newTuple ?_)))
  (k_with "own call ref" => ((k_here; k_dflt (show wpAny _ _ (call (Value.ref 185) _ _) _ _ _); refine wpAny_call ?_; k_dflt (walk_at "ent"))))
  trivial
theorem news_pick' {h₀ h : Heap} {L : Addr} {a b : Addr × Obj} {news big : List (Addr × Obj)} (N : News h₀ L h big) (ha : a ∈ big) (hb : b ∈ big) (hs : ∀ p ∈ news, p ∈ big) : News h₀ L h (a :: b :: news) := by
  intro p hp
  rcases List.mem_cons.mp hp with h | hp
  · subst h; exact N _ ha
  rcases List.mem_cons.mp hp with h | hp
  · subst h; exact N _ hb
  · exact N _ (hs _ hp)
theorem getK {K : Frag} {h₀ h : Heap} {L a : Addr} {m : Str → Option Value} {o : Obj} (F : Fr h₀ L h m) (X : K.In h₀) (e : K.lookup a = some o) : h.get? a = some o := (X.keeps F.keep) _ _ e
theorem words_Hint_2 : True := by
  (k_with "own callWith ref" => ((k_here; (with_reducible show wpAny _ _ (callWith _ (Value.ref 185) [] _ (backToKw _ (keywordEach [PySem.Keyword.mk none _ _] _))) _ _ _); k_dflt (walk_at "R star_callDK F N hk hx hxl hxd hy hyl hyd ha hod hkl hsys hf hfo _"; (case F => k_asm); (case N => k_asm); (case hk => exact rfl); (case hx => first | exact rfl | assumption); (case hxl => exact rfl); (case hxd => decide); (case hy => first | exact rfl | assumption); (case hyl => exact rfl); (case hyd => decide); (case ha => k_mem); (case hod => assumption); (case hkl => simp); (case hsys => assumption); (case hf => exact getK (by k_asm) (by k_asm) (by k_is)); (case hfo => exact rfl); intro hₚₗ dₚₗ oₚₗ Fₚₗ Nₚₗ l1ₚₗ; (try k_lt l1ₚₗ); (try k_sweep)))))
  (k_with "own call builtin:len" => ((k_here; (with_reducible show wpAny _ _ (call (Value.builtin "len") [Value.ref _]) _ _ _); k_dflt (walk_at "R len_K F X I zs zf _"; (case F => k_asm); (case X => k_asm); (case I => exact instAcc (by k_asm) (by k_mem) (by k_mem)); (case zs => k_is); (case zf => k_is); k_whole))))
  (k_with "own call ref" => ((k_here; k_dflt (show wpAny _ _ (call (Value.ref 98) [Value.ref _]) _ _ _); k_dflt (walk_at "R len_U B F X T hk N U hr1 hr2 hd hu hP hsz hG hl _"; (case B => k_asm); (case F => k_asm); (case X => k_asm); (case T => k_asm); (case hk => first | exact rfl | assumption); (case N => k_asm); (case U => k_updF); (case hr1 => k_mem); (case hr2 => k_mem); (case hd => assumption); (case hu => assumption); (case hP => (refine' Pcs.sub ?_ (by assumption); intro qₗ aₗ t1ₗ bₗ t2ₗ hmₗ; k_mem)); (case hsz => assumption); (case hG => assumption); (case hl => assumption); intro tₚₗ psₚₗ sₚₗ Fₚₗ Nₚₗ Gₚₗ hoₚₗ htₚₗ; (try dsimp only [List.nil_append, List.cons_append] at Nₚₗ)))))
  trivial
set_option maxHeartbeats 400000 in
theorem hint_spec {w : World} {pT : Program} {loose : List Str} {mean : ExcName → Option Value} {mg mb : Str → Option Value}
    {dp un : Nat} {gd : Option (List Code)} {cn : Str} {cs : Scope} {a : Addr} {ccd : Value} {cl : List (Str × Addr)} {outer : List Env} {A₀ : Around} {base h₀ : Heap} {L : Addr} {m : Str → Option Value} {s : Shared}
    {Q E : Value → Shared → Prop} {news : List (Addr × Obj)}
    (B : Below A₀ base outer h₀) (F : Fr h₀ L s.heap m) (X : (pre.heap_1 w.params).In h₀) (T : Top pT loose mean mg mb h₀) (hk : cs.kind = .function) {row drow : Addr} {its : List Value} {ep n : Nat} {hsh : Int} {tz : Tok} {lead d : Int} {tl td : Tok} {P : List (Nat × Nat)}
    (N : News h₀ L s.heap ((93, tabObj #[]) :: news)) (hx : ∀ p ∈ news, p.1 ≠ 93) (hr1 : (row, accObj drow its.toArray ep) ∈ news) (hr2 : (drow, sizeDict hsh tz (.int lead tl) n) ∈ news) (hd1 : dp + 20 < recursionLimit) (hu1 : un + 30 < cLine) {Bt : Nat} (hP : Pcs Bt news its P) (hsz : its.length ≤ 31) (hC : CodeHd h₀ 97 93) (hG : AllBare s.gens) (hlead : lead = 0 ∨ lead = 1 ∨ lead = 2)
    (hret : ∀ q t1 t2 ps s', Fr h₀ L s'.heap m → News h₀ L s'.heap ((q, ({ cls := .type "tuple", data := .seq #[.int (lead + 2 * (its.length : Nat)) t1, .int (lead + 2 * (its.length : Nat)) t2] } : Obj)) :: (93, tabObj ps) :: news) → AllBare s'.gens → s'.os = s.os → s.toks ≤ s'.toks → Q (.ref q) s') :
    wpAny (model PR w) (ktrTop dp un gd cn cs L a ccd cl outer) (call (.ref 51) [.ref row, .ref 185] [(Str.ofString "default", .int d td)]) Q E s := by
  have hxN := fun p hp => (hx p hp).symm
  have hroom1 : dp + 1 + 1 + 10 < recursionLimit := by omega
  have hroom2 : un + 3 + 3 + 1 + 20 < cLine := by omega
  refine wpAny_with_toks (Nat.le_refl _) ?_
  refine wpAny_call ?_
  k_dflt (walk_at "ent_more")
  k_steps
  refine ⟨⟨by rcases hlead with rfl | rfl | rfl <;> omega, by rcases hlead with rfl | rfl | rfl <;> omega⟩, ?_⟩
  k_steps
  rename News _ _ _ _ => nZ
  rename Fr _ _ _ _ => fZ
  refine hret _ _ _ _ _ fZ (news_pick' nZ (List.mem_cons_self ..) (b := (93, tabObj _)) (by k_mem) fun p hp => by k_mem) (by assumption) (by assumption) (by assumption)
theorem hint_U {w : World} {pT : Program} {loose : List Str} {mean : ExcName → Option Value} {mg mb : Str → Option Value}
    {dp un : Nat} {gd : Option (List Code)} {cn : Str} {cs : Scope} {a : Addr} {ccd : Value} {cl : List (Str × Addr)} {outer : List Env} {A₀ : Around} {base h₀ : Heap} {L : Addr} {m : Str → Option Value} {s : Shared}
    {Q E : Value → Shared → Prop} {news : List (Addr × Obj)}
    (B : Below A₀ base outer h₀) (F : Fr h₀ L s.heap m) (X : (pre.heap_1 w.params).In h₀) (T : Top pT loose mean mg mb h₀) (hk : cs.kind = .function) {row drow : Addr} {its : List Value} {ep n : Nat} {hsh : Int} {tz : Tok} {lead d : Int} {tl td : Tok} {P : List (Nat × Nat)} {G : Obj → List (Addr × Obj)}
    (N : News h₀ L s.heap news) (U : UpdF 93 (tabObj #[]) news G) (hr1 : (row, accObj drow its.toArray ep) ∈ news) (hr2 : (drow, sizeDict hsh tz (.int lead tl) n) ∈ news) (hd1 : dp + 20 < recursionLimit) (hu1 : un + 30 < cLine) {Bt : Nat} (hP : Pcs Bt news its P) (hsz : its.length ≤ 31) (hG : AllBare s.gens) (hlead : lead = 0 ∨ lead = 1 ∨ lead = 2)
    (hret : ∀ q t1 t2 ps s', Fr h₀ L s'.heap m → News h₀ L s'.heap ((q, ({ cls := .type "tuple", data := .seq #[.int (lead + 2 * (its.length : Nat)) t1, .int (lead + 2 * (its.length : Nat)) t2] } : Obj)) :: G (tabObj ps)) → AllBare s'.gens → s'.os = s.os → s.toks ≤ s'.toks → Q (.ref q) s') :
    wpAny (model PR w) (ktrTop dp un gd cn cs L a ccd cl outer) (call (.ref 51) [.ref row, .ref 185] [(Str.ofString "default", .int d td)]) Q E s := by
  obtain ⟨r, r1, r2, N1, r3, r4⟩ := led_split N U
  have hnt : ∀ (q : Addr) (o : Obj), o.cls ≠ .none → (q, o) ∈ news → (q, o) ∈ r := fun q o hc hm => (r2 _ hm).resolve_left fun e => hc (by rw [(Prod.mk.inj e).2])
  exact hint_spec (Bt := Bt) B F X T hk N1 r1 (hnt _ _ (by intro e; cases e) hr1) (hnt _ _ (by intro e; cases e) hr2) hd1 hu1 (hP.sub fun q a t1 b t2 hm => hnt _ _ (by intro e; cases e) hm) hsz (codeHd_of_K X (by kernel_rfl)) hG hlead fun q t1 t2 ps s' F' N' G' ho ht => hret q t1 t2 ps s' F' (fun p hp => by
    rcases List.mem_cons.mp hp with h | hp
    · subst h; exact N' _ (List.mem_cons_self ..)
    rcases r4 _ _ hp with h | h
    · subst h; exact N' _ (List.mem_cons_of_mem _ (List.mem_cons_self ..))
    · exact N' _ (List.mem_cons_of_mem _ (List.mem_cons_of_mem _ h))) G' ho ht
-- LawSpec
theorem obj_split {h₀ h : Heap} {L x : Addr} {o : Obj} {news : List (Addr × Obj)} (N : News h₀ L h news) (hm : (x, o) ∈ news) :
    ∃ r, News h₀ L h ((x, o) :: r) ∧ (∀ p ∈ r, p.1 ≠ x) ∧ (∀ p ∈ news, p.1 ≠ x → p ∈ r) ∧ (∀ (q : Addr) (o' : Obj), o'.cls ≠ o.cls → (q, o') ∈ news → (q, o') ∈ r) ∧ ∀ p ∈ r, p ∈ news := by
  have keep : ∀ p ∈ news, p.1 ≠ x → p ∈ news.filter fun p => p.1 != x := fun p hp hne => List.mem_filter.mpr ⟨hp, by simpa using hne⟩
  refine ⟨news.filter fun p => p.1 != x, fun p hp => ?_, fun p hp => ?_, keep, fun q o' hc hq => keep _ hq (led_ne N hq hm hc), fun p hp => (List.mem_filter.mp hp).1⟩
  · rcases List.mem_cons.mp hp with h | hp
    · subst h; exact N _ hm
    · exact N _ (List.mem_filter.mp hp).1
  · have := (List.mem_filter.mp hp).2
    simpa using this
theorem str_M {w : World} {pT : Program} {loose : List Str} {mean : ExcName → Option Value} {mg mb : Str → Option Value}
    {dp un : Nat} {gd : Option (List Code)} {cn : Str} {cs : Scope} {a : Addr} {ccd : Value} {cl : List (Str × Addr)} {outer : List Env} {A₀ : Around} {base h₀ : Heap} {L : Addr} {m : Str → Option Value} {s : Shared}
    {Q E : Value → Shared → Prop} {news : List (Addr × Obj)}
    (B : Below A₀ base outer h₀) (F : Fr h₀ L s.heap m) (X : (pre.heap_1 w.params).In h₀) (T : Top pT loose mean mg mb h₀) (hk : cs.kind = .function) {row drow : Addr} {its : List Value} {ep n : Nat} {hsh : Int} {tz : Tok} {v0 : Value} {P : List (Nat × Nat)}
    (N : News h₀ L s.heap news) (ht : (100, tabObj #[]) ∈ news) (hr1 : (row, accObj drow its.toArray ep) ∈ news) (hr2 : (drow, sizeDict hsh tz v0 n) ∈ news) (hd1 : dp + 10 < recursionLimit) (hu1 : un + 20 < cLine) {Bt : Nat} (hP : Pcs Bt news its P) (hsz : its.length ≤ 31) (hG : AllBare s.gens)
    (hret : ∀ t ps s' r, Fr h₀ L s'.heap m → News h₀ L s'.heap r → (100, tabObj ps) ∈ r → (∀ p ∈ news, p.1 ≠ 100 → p ∈ r) → (∀ (q : Addr) (o : Obj), o.cls ≠ .none → (q, o) ∈ news → (q, o) ∈ r) → AllBare s'.gens → s'.os = s.os → s.toks ≤ s'.toks → Q (.str (txtOf P) t) s') :
    wpAny (model PR w) (ktrTop dp un gd cn cs L a ccd cl outer) (call (.ref 105) [.ref row]) Q E s := by
  obtain ⟨r, N1, r1, r2, r3, -⟩ := obj_split N ht
  exact str_spec (Bt := Bt) B F X T hk N1 (r3 _ _ (by intro e; cases e) hr1) (r3 _ _ (by intro e; cases e) hr2) hd1 hu1 (hP.sub fun q a t1 b t2 hm => r3 _ _ (by intro e; cases e) hm) hsz (codeHd_of_K X (by kernel_rfl)) r1 hG fun t ps s' F' N' G' ho ht => hret t ps s' _ F' N' (List.mem_cons_self ..) (fun p hp hne => List.mem_cons_of_mem _ (r2 p hp hne)) (fun q o hc hq => List.mem_cons_of_mem _ (r3 q o hc hq)) G' ho ht
theorem hint_M {w : World} {pT : Program} {loose : List Str} {mean : ExcName → Option Value} {mg mb : Str → Option Value}
    {dp un : Nat} {gd : Option (List Code)} {cn : Str} {cs : Scope} {a : Addr} {ccd : Value} {cl : List (Str × Addr)} {outer : List Env} {A₀ : Around} {base h₀ : Heap} {L : Addr} {m : Str → Option Value} {s : Shared}
    {Q E : Value → Shared → Prop} {news : List (Addr × Obj)}
    (B : Below A₀ base outer h₀) (F : Fr h₀ L s.heap m) (X : (pre.heap_1 w.params).In h₀) (T : Top pT loose mean mg mb h₀) (hk : cs.kind = .function) {row drow : Addr} {its : List Value} {ep n : Nat} {hsh : Int} {tz : Tok} {lead d : Int} {tl td : Tok} {P : List (Nat × Nat)}
    (N : News h₀ L s.heap news) (ht : (93, tabObj #[]) ∈ news) (hr1 : (row, accObj drow its.toArray ep) ∈ news) (hr2 : (drow, sizeDict hsh tz (.int lead tl) n) ∈ news) (hd1 : dp + 20 < recursionLimit) (hu1 : un + 30 < cLine) {Bt : Nat} (hP : Pcs Bt news its P) (hsz : its.length ≤ 31) (hG : AllBare s.gens) (hlead : lead = 0 ∨ lead = 1 ∨ lead = 2)
    (hret : ∀ q t1 t2 ps s' r, Fr h₀ L s'.heap m → News h₀ L s'.heap ((q, ({ cls := .type "tuple", data := .seq #[.int (lead + 2 * (its.length : Nat)) t1, .int (lead + 2 * (its.length : Nat)) t2] } : Obj)) :: r) → (93, tabObj ps) ∈ r → (∀ p ∈ news, p.1 ≠ 93 → p ∈ r) → (∀ (q : Addr) (o : Obj), o.cls ≠ .none → (q, o) ∈ news → (q, o) ∈ r) → AllBare s'.gens → s'.os = s.os → s.toks ≤ s'.toks → Q (.ref q) s') :
    wpAny (model PR w) (ktrTop dp un gd cn cs L a ccd cl outer) (call (.ref 51) [.ref row, .ref 185] [(Str.ofString "default", .int d td)]) Q E s := by
  obtain ⟨r, N1, r1, r2, r3, -⟩ := obj_split N ht
  exact hint_spec (Bt := Bt) B F X T hk N1 r1 (r3 _ _ (by intro e; cases e) hr1) (r3 _ _ (by intro e; cases e) hr2) hd1 hu1 (hP.sub fun q a t1 b t2 hm => r3 _ _ (by intro e; cases e) hm) hsz (codeHd_of_K X (by kernel_rfl)) hG hlead fun q t1 t2 ps s' F' N' G' ho ht => hret q t1 t2 ps s' _ F' N' (List.mem_cons_self ..) (fun p hp hne => List.mem_cons_of_mem _ (r2 p hp hne)) (fun q o hc hq => List.mem_cons_of_mem _ (r3 q o hc hq)) G' ho ht
theorem read_M {w : World} {pT : Program} {loose : List Str} {mean : ExcName → Option Value} {mg mb : Str → Option Value}
    {dp un : Nat} {gd : Option (List Code)} {cn : Str} {cs : Scope} {a : Addr} {ccd : Value} {cl : List (Str × Addr)} {outer : List Env} {A₀ : Around} {base h₀ : Heap} {L : Addr} {m : Str → Option Value} {s : Shared}
    {Q E : Value → Shared → Prop} {news : List (Addr × Obj)}
    (B : Below A₀ base outer h₀) (F : Fr h₀ L s.heap m) (X : (pre.heap_1 w.params).In h₀) (T : Top pT loose mean mg mb h₀) (hk : cs.kind = .function) {row drow ln : Addr} {its : List Value} {ep k n : Nat} {hsh : Int} {tz : Tok} {v0 : Value} {n0 n1 n2 n3 n4 : Int} {u0 u1 u2 u3 u4 : Tok} {P : List (Nat × Nat)}
    (N : News h₀ L s.heap news) (ht : (213, tabObj #[]) ∈ news) (hr1 : (row, accObj drow its.toArray ep) ∈ news) (hr2 : (drow, sizeDict hsh tz v0 n) ∈ news) (hl : (ln, listOf [.int n0 u0, .int n1 u1, .int n2 u2, .int n3 u3, .int n4 u4].toArray k) ∈ news) (hd1 : dp + 10 < recursionLimit) (hu1 : un + 20 < cLine)
    (hP : Pcs s.toks news its P) (hsz : its.length ≤ 31) (hsp : Signs P) (hnm : ∀ p ∈ P, ∃ j, j < 4 ∧ p.2 = 97 + j) (hnb : ∀ v ∈ [n0, n1, n2, n3, n4], -(2 ^ 60) ≤ v ∧ v ≤ 2 ^ 60)
    (hret : ∀ q t1 t2 ps h' tk' r, Fr h₀ L h' m → News h₀ L h' ((q, ({ cls := .type "tuple", data := .seq #[.int (readV [n0, n1, n2, n3, n4] P).1 t1, .int (readV [n0, n1, n2, n3, n4] P).2 t2] } : Obj)) :: r) → (213, tabObj ps) ∈ r → (∀ p ∈ news, p.1 ≠ 213 → p.1 ≠ row → p ∈ r) → s.toks ≤ tk' → Q (.ref q) { s with heap := h', toks := tk' }) :
    wpAny (model PR w) (ktrTop dp un gd cn cs L a ccd cl outer) (call (.ref 218) [.ref row, .ref ln]) Q E s := by
  obtain ⟨r, N1, r1, r2, r3, -⟩ := obj_split N ht
  have nr : row ≠ 213 := led_ne N hr1 ht (by intro e; cases e)
  have nd : drow ≠ 213 := led_ne N hr2 ht (by intro e; cases e)
  have nn : drow ≠ row := led_ne N hr2 hr1 (by intro e; cases e)
  have hrow := r3 _ _ (by intro e; cases e) hr1
  have N1' : News h₀ L s.heap r := fun p hp => N1 p (List.mem_cons_of_mem _ hp)
  obtain ⟨r', N2, s1, s2, s3, s4⟩ := obj_split N1' hrow
  have up : ∀ (q : Addr) (o' : Obj), o'.cls ≠ .none → o'.cls ≠ .ref 131 → (q, o') ∈ news → (q, o') ∈ r' := fun q o' h1 h2 hm => s3 q o' h2 (r3 q o' h1 hm)
  have N3 : News h₀ L s.heap ((213, tabObj #[]) :: (row, accObj drow its.toArray ep) :: (drow, sizeDict hsh tz v0 n) :: r') := fun p hp => by
    rcases List.mem_cons.mp hp with h | hp
    · subst h; exact N _ ht
    rcases List.mem_cons.mp hp with h | hp
    · subst h; exact N _ hr1
    rcases List.mem_cons.mp hp with h | hp
    · subst h; exact N _ hr2
    · exact N2 _ (List.mem_cons_of_mem _ hp)
  have hP' : Pcs s.toks r' its P := hP.sub fun q a t1 b t2 hm => up _ _ (by intro e; cases e) (by intro e; cases e) hm
  have hx2 : ∀ p ∈ r', p.1 ≠ 213 := fun p hp => r1 p (s4 p hp)
  exact read_spec B F X T hk N3 (up _ _ (by intro e; cases e) (by intro e; cases e) hl) hd1 hu1 s1 nn hP' hsz hsp hnm (codeHd_of_K X (by kernel_rfl)) nr nd hx2 hnb fun q t1 t2 ps h' tk' F' N' ht' => hret q t1 t2 ps h' tk' _ F' N' (List.mem_cons_self ..) (fun p hp h1 h2 => List.mem_cons_of_mem _ (s2 p (r2 p hp h1) h2)) ht'
-- the law
local macro_rules | `(tactic| walk_at "S17") => `(tactic| refine' super_slot (.inl rfl) ?F ?X ?N ?i0 ?i1 ?i2 ?a ?b ?c ?d ?_)
local macro_rules | `(tactic| walk_at "S18") => `(tactic| refine' sumK ?zk0 ?zk1 ?zk2 (vs := Array.toList (slicePick _ _ _ _)) ?zk3 ?zk4 ?_)
local macro_rules | `(tactic| walk_at "S19") => `(tactic| refine' kun_lenL ?k1 rfl ?k3 ?_)
local macro_rules | `(tactic| walk_at "S20") => `(tactic| refine' pickN (fun c => -3 ≤ c ∧ c ≤ 5) ?l ?vₗ ?i ?z ?_)
local macro_rules | `(tactic| walk_at "S21") => `(tactic| refine' pickN (fun _ => True) ?l ?vₗ ?i ?z ?_)
theorem words_Law_1 : True := by
  k_with_none
  (k_with "own shade" => (have Bₚₗ := True.intro; have Dₚₗ := True.intro; have F9ₗ := True.intro; have FGₚₗ := True.intro; have Fₚₗ := True.intro; have Gₚₗ := True.intro; have Lₚₗ := True.intro; have N9ₗ := True.intro; have Nₚₗ := True.intro; have Sₚₗ := True.intro; have Tₚₗ := True.intro; have Xₚₗ := True.intro; have Yₚₗ := True.intro; have aₗ := True.intro; have bhₚₗ := True.intro; have blₚₗ := True.intro; have bₗ := True.intro; have cellsₚₗ := True.intro; have ctₚₗ := True.intro; have cₚₗ := True.intro; have d1ₚₗ := True.intro; have d2ₚₗ := True.intro; have dcₚₗ := True.intro; have dxₚₗ := True.intro; have dₚₗ := True.intro; have epₚₗ := True.intro; have fsₚₗ := True.intro; have fₚₗ := True.intro; have gE9ₗ := True.intro; have gₚₗ := True.intro; have h9ₗ := True.intro; have hcₚₗ := True.intro; have hkₚₗ := True.intro; have hmₗ := True.intro; have hoₚₗ := True.intro; have hpₗ := True.intro; have hrₚₗ := True.intro; have hshₚₗ := True.intro; have hsₚₗ := True.intro; have ht1ₚₗ := True.intro; have ht2ₚₗ := True.intro; have ht3ₚₗ := True.intro; have ht4ₚₗ := True.intro; have htₚₗ := True.intro; have hvₗ := True.intro; have hₗ := True.intro; have hₚₗ := True.intro; have kₚₗ := True.intro; have l1ₗ := True.intro; have l1ₚₗ := True.intro; have l2ₗ := True.intro; have loₚₗ := True.intro; have nNₗ := True.intro; have nₚₗ := True.intro; have ocₚₗ := True.intro; have oₚₗ := True.intro; have psₚₗ := True.intro; have pₗ := True.intro; have qₗ := True.intro; have qₚₗ := True.intro; have sₚₗ := True.intro; have t1ₗ := True.intro; have t1ₚₗ := True.intro; have t2ₗ := True.intro; have t9ₗ := True.intro; have tcₚₗ := True.intro; have tk9ₗ := True.intro; have tkₚₗ := True.intro; have tvₚₗ := True.intro; have tₚₗ := True.intro; have u1ₚₗ := True.intro; have u2ₚₗ := True.intro; have v1ₚₗ := True.intro; have vsₚₗ := True.intro; have vₗ := True.intro; have vₚₗ := True.intro; have xₚₗ := True.intro))
  (k_with "own bare" => (clear Bₚₗ Dₚₗ F9ₗ FGₚₗ Fₚₗ Gₚₗ Lₚₗ N9ₗ Nₚₗ Sₚₗ Tₚₗ Xₚₗ Yₚₗ aₗ bhₚₗ blₚₗ bₗ cellsₚₗ ctₚₗ cₚₗ d1ₚₗ d2ₚₗ dcₚₗ dxₚₗ dₚₗ epₚₗ fsₚₗ fₚₗ gE9ₗ gₚₗ h9ₗ hcₚₗ hkₚₗ hmₗ hoₚₗ hpₗ hrₚₗ hshₚₗ hsₚₗ ht1ₚₗ ht2ₚₗ ht3ₚₗ ht4ₚₗ htₚₗ hvₗ hₗ hₚₗ kₚₗ l1ₗ l1ₚₗ l2ₗ loₚₗ nNₗ nₚₗ ocₚₗ oₚₗ psₚₗ pₗ qₗ qₚₗ sₚₗ t1ₗ t1ₚₗ t2ₗ t9ₗ tcₚₗ tk9ₗ tkₚₗ tvₚₗ tₚₗ u1ₚₗ u2ₚₗ v1ₚₗ vsₚₗ vₗ vₚₗ xₚₗ))
  (k_with "own getMethod ref" => ((k_here; (with_reducible show wpAny _ _ (getMethod (Value.ref _) (PySem.Str.ofString "append") _) _ _ _); k_dflt (walk_at "R method_biN F X N i1 i2 a b c d e _"; (case F => k_asm); (case X => k_asm); (case N => k_asm); (case i1 => k_mem); (case i2 => k_mem); (case a => k_is); (case b => k_is); (case c => k_is); (case d => k_is); (case e => kernel_rfl); k_whole))))
  (k_with "own call builtin:list.append" => ((k_here; (with_reducible show wpAny _ _ (call (Value.builtin _) [Value.ref _, _]) _ _ _); k_dflt (walk_at "R append_accN F X N i2 a U z _"; (case F => k_asm); (case X => k_asm); (case N => k_asm); (case U => k_upd); (case i2 => k_mem); (case a => k_is); (case z => k_asm); k_whole); intro hₚₗ Fₚₗ Nₚₗ; (try k_sweep))))
  (k_with "own getMethod ref" => ((k_here; (with_reducible show wpAny _ _ (getMethod (Value.ref _) (PySem.Str.ofString "part_count") _) _ _ _); k_dflt (walk_at "R method_fnN F X N i1 i2 a b c d e _"; (case F => k_asm); (case X => k_asm); (case N => k_asm); (case i1 => k_mem); (case i2 => k_mem); (case a => k_is); (case b => k_is); (case c => k_is); (case d => k_is); (case e => kernel_rfl); k_whole))))
  (k_with "own getMethod ref" => ((k_here; (with_reducible show wpAny _ _ (getMethod (Value.ref _) (PySem.Str.ofString "push") _) _ _ _); k_dflt (walk_at "R method_fnN F X N i1 i2 a b c d e _"; (case F => k_asm); (case X => k_asm); (case N => k_asm); (case i1 => k_mem); (case i2 => k_mem); (case a => k_is); (case b => k_is); (case c => k_is); (case d => k_is); (case e => kernel_rfl); k_whole))))
  (k_with "own getMethod ref" => ((k_here; (with_reducible show wpAny _ _ (getMethod (Value.ref _) (PySem.Str.ofString "pop") _) _ _ _); k_dflt (walk_at "R method_fnN F X N i1 i2 a b c d e _"; (case F => k_asm); (case X => k_asm); (case N => k_asm); (case i1 => k_mem); (case i2 => k_mem); (case a => k_is); (case b => k_is); (case c => k_is); (case d => k_is); (case e => kernel_rfl); k_whole))))
  (k_with "own getMethod ref" => ((k_here; (with_reducible show wpAny _ _ (getMethod (Value.ref _) (PySem.Str.ofString "reset") _) _ _ _); k_dflt (walk_at "R method_fnN F X N i1 i2 a b c d e _"; (case F => k_asm); (case X => k_asm); (case N => k_asm); (case i1 => k_mem); (case i2 => k_mem); (case a => k_is); (case b => k_is); (case c => k_is); (case d => k_is); (case e => kernel_rfl); k_whole))))
  (k_with "own getMethod ref" => ((k_here; (with_reducible show wpAny _ _ (getMethod (Value.ref _) (PySem.Str.ofString "__len__") _) _ _ _); k_dflt (walk_at "S17"; (case F => k_asm); (case X => k_asm); (case N => k_asm); (case i0 => k_mem); (case i1 => k_mem); (case i2 => k_mem); (case a => k_is); (case b => ks_is); (case c => k_is); (case d => decide); intro qₚₗ hₚₗ Fₚₗ Nₚₗ l1ₗ; (try k_lt l1ₗ)))))
  (k_with "own getMethod ref" => ((k_here; (with_reducible show wpAny _ _ (getMethod (Value.ref _) (PySem.Str.ofString "pop") _) _ _ _); k_dflt (walk_at "R super_pop F X N i0 i1 i2 a b c d _"; (case F => k_asm); (case X => k_asm); (case N => k_asm); (case i0 => k_mem); (case i1 => k_mem); (case i2 => k_mem); (case a => k_is); (case b => ks_is); (case c => k_is); (case d => decide); intro qₚₗ hₚₗ Fₚₗ Nₚₗ l1ₗ; (try k_lt l1ₗ)))))
  (k_with "own callWith ref" => ((k_here; k_dflt (walk_at "R callWith_bound0 N q b _"; (case N => k_asm); (case q => k_mem); (case b => first | exact .inl rfl | exact .inr rfl); k_whole))))
  (k_with "own call ref" => ((k_here; k_dflt (walk_at "R call_len N q i _"; (case N => k_asm); (case q => k_mem); (case i => k_mem); k_whole))))
  (k_with "own ent_super" => ((walk_at "R ks_code_super k1 k2 k3 k4 k5 kA kF kK k6 k7 k8 k9 kB _ c1 c2 c3 c4"; (case kA => exact rfl); (case kF => exact rfl); (case kK => first | exact rfl | assumption); (case k1 => k_asm); (case k2 => k_asm); (case k3 => k_asm); (case k4 => k_asm); (case k5 => k_asm); (case k6 => k_is); (case k7 => k_is); (case k8 => ktr_room); (case k9 => first | exact BindsTo.of_eq rfl | exact binds_K (by k_in) rfl (by k_is) rfl rfl rfl); (case kB => exact locs rfl); (case c1 => decide); (case c2 => exact rfl); (case c3 => exact rfl); (case c4 => exact rfl); intro gₚₗ Lₚₗ hₚₗ FGₚₗ Fₚₗ Nₚₗ Bₚₗ Xₚₗ Tₚₗ l1ₗ; (try dsimp only); (try k_fold))))
  (k_with "own drop" => (((with_reducible rename News _ _ _ _ => nNₗ); intro pₗ hpₗ; first | exact nNₗ pₗ hpₗ | exact nNₗ pₗ (.tail _ hpₗ) | exact nNₗ pₗ (.tail _ (.tail _ hpₗ)) | exact nNₗ pₗ (.tail _ (.tail _ (.tail _ hpₗ))) | exact nNₗ pₗ (.tail _ (.tail _ (.tail _ (.tail _ hpₗ)))) | exact nNₗ pₗ (.tail _ (.tail _ (.tail _ (.tail _ (.tail _ hpₗ))))))))
  (k_with "own wpAt" => ((k_here; (fail_if_success ks_step "eval Call"); (fail_if_success ks_step "exec Return"); (fail_if_success ks_step "execs cons"); (fail_if_success ks_step "exec If"); (fail_if_success ks_step "attributeBase Call"); dsimp only)))
  (k_with "own wpAt" => ((k_here; ks_step "eval Call"; with_unfolding_all refine ks_wpAt_MethodCall ?_)))
  (k_with "own call ref" => ((k_here; k_dflt (walk_at "R call_pop F X N q i a b c U z _"; (case F => k_asm); (case X => k_asm); (case N => k_asm); (case q => k_mem); (case U => k_upd); (case i => k_mem); (case a => k_is); (case b => kernel_rfl); (case c => k_is); (case z => k_asm); k_whole; intro hₚₗ Fₚₗ Nₚₗ; (try k_sweep)))))
  (k_with "own ent" => ((walk_at "R code_def k1 k2 k3 k4 k5 kA kF kK k6 k7 k8 k9 kB _ c2 c3 c4 c5"; (case kA => exact rfl); (case kF => exact rfl); (case kK => first | exact rfl | assumption); (case k1 => k_asm); (case k2 => k_asm); (case k3 => k_asm); (case k4 => k_asm); (case k5 => k_asm); (case k6 => k_is); (case k7 => k_is); (case k8 => ktr_room); (case k9 => first | exact BindsTo.of_eq rfl | exact binds_K (by k_in) rfl (by k_is) rfl rfl rfl); (case c5 => decide); (case kB => exact locs rfl); (case c2 => exact rfl); (case c3 => exact rfl); (case c4 => exact rfl); k_whole; intro gₚₗ Lₚₗ hₚₗ FGₚₗ Fₚₗ Nₚₗ Bₚₗ Xₚₗ Tₚₗ; (try dsimp only); (try k_fold))))
  (k_with "own setItem ref" => ((k_here; (with_reducible show wpAny _ _ (setItem (Value.ref _) (Value.ref _) (Value.ref _)) _ _ _); k_dflt (dsimp only; walk_at "R setitemN F X N h2 hl yl a b c U z z' _"; (case F => k_asm); (case X => k_asm); (case N => k_asm); (case U => k_updF); (case h2 => k_mem); (case hl => k_mem); (case yl => k_asm); (case a => k_is); (case b => kernel_rfl); (case c => k_is); (case z => k_asm); (case z' => k_asm); intro hₚₗ epₚₗ Fₚₗ Nₚₗ; (try dsimp only [List.nil_append, List.cons_append] at Nₚₗ); (try k_sweep)))))
  (k_with "own setAttr ref" => ((k_here; (with_reducible show wpAny _ _ (setAttr (Value.ref _) (PySem.Str.ofString "_initial_size") _) _ _ _); k_dflt (dsimp only; walk_at "R set_acc F X N h1 a b c U _"; (case F => k_asm); (case X => k_asm); (case N => k_asm); (case h1 => k_mem); (case U => k_updF); (case a => k_is); (case b => kernel_rfl); (case c => kernel_rfl); intro hₚₗ Fₚₗ Nₚₗ; (try dsimp only [List.nil_append, List.cons_append] at Nₚₗ); (try k_sweep)))))
  (k_with "own exec For" => ((k_here; refine for_start ?_ (by intro _; rfl))))
  (k_with "own call type:enumerate" => ((k_here; refine stop_here ?_)))
  (k_with "own compareOp Is str str" => ((k_here; walk_at "R is_same F X bₗ c d _"; (case F => k_asm); (case X => k_asm); (case bₗ => kernel_rfl); (case c => assumption); (case d => assumption); (intro bₗ; cases bₗ))))
  (k_with "own compareOp Is str str" => ((k_here; walk_at "R is_diff a b c d _"; (case a => assumption); (case b => assumption); (case c => assumption); (case d => assumption))))
  (k_with "own execs cons" => ((k_here; (with_reducible refine wpAny_execs_cons ?_); try dsimp only)))
  (k_with "own execs nil" => ((k_here; refine wpAny_execs_nil ?_; try dsimp only)))
  (k_with "own subscriptTail" => ((k_here; (with_reducible show wpAny _ _ (subscriptTail _ _ (Value.ref _) (Value.int _ _)) _ _ _); k_dflt (walk_at "R item_tupleL l a b c d _"; (case l => exact News.isTup (by k_asm) (by k_mem)); (case a => first | decide | omega); (case b => first | decide | omega); (case c => first | rfl | assumption | decide); (case d => first | rfl | assumption | simp); k_whole))))
  (k_with "own subscriptTail" => ((k_here; (with_reducible show wpAny _ _ (subscriptTail _ _ (Value.ref _) (Value.int _ _)) _ _ _); k_dflt (walk_at "R item_listL l a b d _"; (case l => exact News.isList (by k_asm) (by k_mem)); (case a => first | decide | omega | assumption); (case b => first | decide | omega | assumption); (case d => first | rfl | assumption | simp); k_whole))))
  (k_with "own sz" => ((k_here; first | assumption | (simp only [Array.size_push, List.size_toArray, List.length_append, List.length_reverse, List.length_cons, List.length_nil, Array.size_empty] at *; omega))))
  (k_with "own om" => ((k_here; first | assumption | decide | omega | (dsimp only; omega))))
  (k_with "own call ref" => ((k_here; k_dflt (show wpAny _ _ (call (Value.ref 128) [Value.ref _]) _ _ _); k_dflt (walk_at "R count_U B F X T hk N h1 h2 hd _"; (case B => k_asm); (case F => k_asm); (case X => k_asm); (case T => k_asm); (case hk => first | exact rfl | assumption); (case N => k_asm); (case h1 => k_mem); (case h2 => k_mem); (case hd => ktr_room); intro hₚₗ tkₚₗ tₚₗ Fₚₗ Nₚₗ htₚₗ; (try dsimp only at htₚₗ); (try k_sweep)))))
  (k_with "own call ref" => ((k_here; k_dflt (show wpAny _ _ (call (Value.ref 91) [Value.ref _]) _ _ _); k_dflt (walk_at "R pop_U B F X T hk N h2 hd dx U z _"; (case B => k_asm); (case F => k_asm); (case X => k_asm); (case T => k_asm); (case hk => first | exact rfl | assumption); (case N => k_asm); (case U => k_updF); (case h2 => k_mem); (case hd => ktr_room); (case dx => k_ne); (case z => walk_at "sz"); intro hₚₗ tkₚₗ Fₚₗ Nₚₗ htₚₗ; (try dsimp only at htₚₗ); (try dsimp only [List.nil_append, List.cons_append] at Nₚₗ); (try k_sweep)))))
  (k_with "own call ref" => ((k_here; k_dflt (show wpAny _ _ (call (Value.ref 75) [Value.ref _, Value.str _ _, Value.str _ _]) _ _ _); k_dflt (walk_at "R push_U B F X T hk N h2 hd hu dx U z _"; (case B => k_asm); (case F => k_asm); (case X => k_asm); (case T => k_asm); (case hk => first | exact rfl | assumption); (case N => k_asm); (case U => k_updF); (case h2 => k_mem); (case hd => ktr_room); (case hu => ktr_room); (case dx => k_ne); (case z => walk_at "sz"); intro qₚₗ hₚₗ tkₚₗ Fₚₗ Nₚₗ htₚₗ; (try dsimp only at htₚₗ); (try dsimp only [List.nil_append, List.cons_append] at Nₚₗ); (try k_sweep)))))
  (k_with "own call ref" => ((k_here; k_dflt (show wpAny _ _ (call (Value.ref 131) []) _ _ _); k_dflt (walk_at "R make_U0 B F X T hk N hd _"; (case B => k_asm); (case F => k_asm); (case X => k_asm); (case T => k_asm); (case hk => first | exact rfl | assumption); (case N => k_asm); (case hd => ktr_room); intro xₚₗ dxₚₗ epₚₗ hshₚₗ tₚₗ vₚₗ nₚₗ hₚₗ tkₚₗ Fₚₗ Nₚₗ l1ₗ l2ₗ htₚₗ; (try dsimp only at htₚₗ); (try k_sweep)))))
  (k_with "own call ref" => ((k_here; k_dflt (show wpAny _ _ (call (Value.ref 131) [Value.int _ _]) _ _ _); k_dflt (walk_at "R make_U1 B F X T hk N hd _"; (case B => k_asm); (case F => k_asm); (case X => k_asm); (case T => k_asm); (case hk => first | exact rfl | assumption); (case N => k_asm); (case hd => ktr_room); intro xₚₗ dxₚₗ epₚₗ hshₚₗ tₚₗ nₚₗ hₚₗ tkₚₗ Fₚₗ Nₚₗ l1ₗ l2ₗ htₚₗ; (try dsimp only at htₚₗ); (try k_sweep)))))
  (k_with "own call ref" => ((k_here; k_dflt (show wpAny _ _ (call (Value.ref 177) [Value.str _ _, Value.str _ _]) _ _ _); k_dflt (walk_at "R idx_spec B F X N T hk hd ha t0 t1 kk lt _"; (case B => k_asm); (case F => k_asm); (case X => k_asm); (case T => k_asm); (case hk => first | exact rfl | assumption); (case N => k_asm); (case hd => ktr_room); (case ha => decide +kernel); (case t0 => walk_at "om"); (case t1 => walk_at "om"); (case kk => assumption); (case lt => assumption); intro tvₚₗ hₚₗ tkₚₗ Fₚₗ Nₚₗ htₚₗ; (try dsimp only at htₚₗ); (try k_sweep)))))
  (k_with "own call ref" => ((k_here; k_dflt (show wpAny _ _ (call (Value.ref 170) [Value.str _ _, Value.int _ _]) _ _ _); k_dflt (walk_at "R item_str B F X N T hk hd i0 i1 ix _"; (case B => k_asm); (case F => k_asm); (case X => k_asm); (case T => k_asm); (case hk => first | exact rfl | assumption); (case N => k_asm); (case hd => ktr_room); (case i0 => walk_at "om"); (case i1 => first | assumption | decide +kernel); (case ix => decide +kernel); intro tvₚₗ hₚₗ tkₚₗ Fₚₗ Nₚₗ ht1ₚₗ ht2ₚₗ; (try dsimp only at ht1ₚₗ); (try k_sweep)))))
  (k_with "own ent_cell" => ((walk_at "R code_defCT k1 k2 k3 k4 k5 kA kF kK k6 k7 k8 k9 kB kD _ c2 c3 c4"; (case kA => exact rfl); (case kF => exact rfl); (case kK => first | exact rfl | assumption); (case k1 => k_asm); (case k2 => k_asm); (case k3 => k_asm); (case k4 => k_asm); (case k5 => k_asm); (case k6 => k_is); (case k7 => k_is); (case k8 => ktr_room); (case k9 => first | exact BindsTo.of_eq rfl | exact binds_K (by k_in) rfl (by k_is) rfl rfl rfl); (case kB => exact rfl); (case kD => decide +kernel); (case c2 => exact rfl); (case c3 => exact rfl); (case c4 => exact rfl); k_whole; intro gₚₗ Lₚₗ hₚₗ tkₚₗ cellsₚₗ htₚₗ FGₚₗ Fₚₗ Nₚₗ Yₚₗ Bₚₗ Sₚₗ Xₚₗ Tₚₗ l1ₗ; (try k_lt l1ₗ); k_cells Yₚₗ; (try simp only [List.cons_append, List.nil_append] at Nₚₗ); (try dsimp only); (try k_fold))))
  (k_with "own ent_more" => ((walk_at "R kp_more k1 k2 k3 k4 k5 kA kF kK k6 k7 k8 kX kM kN kD kR kP kT kB _ c2 c3 c4 c5"; (case kA => exact rfl); (case kF => exact rfl); (case kK => first | exact rfl | assumption); (case k1 => k_asm); (case k2 => k_asm); (case k3 => k_asm); (case k4 => k_asm); (case k5 => k_asm); (case k6 => k_is); (case k7 => k_is); (case k8 => ktr_room); (case kX => kp_lit); (case kM => exact rfl); (case kN => exact rfl); (case kD => kp_flats); (case kR => exact rfl); (case kP => exact rfl); (case kT => exact fun _ => rfl); (case kB => exact fun _ => locs rfl); (case c5 => decide); (case c2 => exact rfl); (case c3 => exact rfl); (case c4 => exact rfl); k_whole; intro Dₚₗ oₚₗ gₚₗ Lₚₗ hₚₗ tkₚₗ l1ₗ loₚₗ hsₚₗ fsₚₗ FGₚₗ Fₚₗ Nₚₗ Bₚₗ Xₚₗ Tₚₗ; (try k_lt l1ₗ); (try dsimp only); (try k_fold))))
  (k_with "own callWith ref" => ((k_here; (with_reducible show wpAny _ _ (callWith _ _ [] _ (backToKw _ (keywordEach [PySem.Keyword.mk none _ _] _))) _ _ _); k_dflt (walk_at "R star_callD F N hk hx hxl hxd hy hyl hyd ha hod hkl hsys hf hfo _"; (case F => k_asm); (case N => k_asm); (case hk => exact rfl); (case hx => first | exact rfl | assumption); (case hxl => exact rfl); (case hxd => decide); (case hy => first | exact rfl | assumption); (case hyl => exact rfl); (case hyd => decide); (case ha => k_mem); (case hod => assumption); (case hkl => simp); (case hsys => assumption); (case hf => k_mem); (case hfo => exact rfl); intro hₚₗ dₚₗ oₚₗ Fₚₗ Nₚₗ; (try k_sweep)))))
  (k_with "own call ref" => ((k_here; k_dflt (show wpAny _ _ (call (Value.ref 51) _ _) _ _ _); refine wpAny_with_toks (Nat.le_refl _) ?_; refine wpAny_call ?_; k_dflt (walk_at "ent_more"))))
  (k_with "own call ref" => ((k_here; k_dflt (refine wpAny_call ?_; walk_at "R kdv_code k1 k2 k3 k4 k5 kA kF kK k6 k7 k8 k9 kB _ c2 c3 c4 c5"; (case kA => exact rfl); (case kF => exact rfl); (case kK => first | exact rfl | assumption); (case k1 => k_asm); (case k2 => k_asm); (case k3 => k_asm); (case k4 => k_asm); (case k5 => k_asm); (case k6 => k_mem); (case k7 => exact codeRec_news (by k_asm) (by k_mem) (by assumption) (by assumption)); (case k8 => ktr_room); (case k9 => kdv_bind); (case c5 => decide); (case kB => exact locs rfl); (case c2 => exact rfl); (case c3 => exact rfl); (case c4 => exact rfl); k_whole; intro gₚₗ Lₚₗ hₚₗ FGₚₗ Fₚₗ Nₚₗ Bₚₗ Xₚₗ Tₚₗ; (try dsimp only); (try k_fold)))))
  (k_with "own call ref" => ((k_here; k_dflt (show wpAny _ _ (call (Value.ref 170) [Value.ref _, Value.int _ _]) _ _ _); k_dflt (walk_at "R get_list B F X N T hk hd l i0 i1 v _"; (case B => k_asm); (case F => k_asm); (case X => k_asm); (case T => k_asm); (case hk => first | exact rfl | assumption); (case N => k_asm); (case hd => ktr_room); (case l => k_mem); (case i0 => walk_at "om"); (case i1 => walk_at "om"); (case v => assumption); intro hₚₗ tkₚₗ Fₚₗ Nₚₗ htₚₗ; (try dsimp only at htₚₗ); (try k_sweep)))))
  (k_with "own call ref" => ((k_here; k_dflt (show wpAny _ _ (call (Value.ref 170) [Value.ref _, Value.int _ _]) _ _ _); k_dflt (walk_at "R get_pair B F X T hk N hd l i _"; (case B => k_asm); (case F => k_asm); (case X => k_asm); (case T => k_asm); (case hk => first | exact rfl | assumption); (case N => k_asm); (case hd => ktr_room); (case l => k_mem); (case i => first | assumption | exact fmod2 _ | decide | omega); intro hₚₗ tkₚₗ Fₚₗ Nₚₗ htₚₗ; (try dsimp only at htₚₗ); (try k_sweep)))))
  (k_with "own makeTail" => ((k_here; refine wpAny_with_toks (Nat.le_refl _) ?_; k_dflt (walk_at "R kdv_nest F N T C cd U t n cl _"; (case F => k_asm); (case N => k_asm); (case T => k_asm); (case cd => exact rfl); (case C => kn_code); (case U => k_updF); (case t => kn_triples); (case n => kn_among); (case cl => exact rfl); k_whole); intro fₚₗ cₚₗ ocₚₗ vsₚₗ tₚₗ ctₚₗ dcₚₗ hₚₗ tkₚₗ Fₚₗ Nₚₗ d1ₚₗ d2ₚₗ l1ₗ l2ₗ htₚₗ; (try dsimp only at Nₚₗ); (try k_lt l1ₗ); (try k_lt2 l2ₗ); (try dsimp only at htₚₗ))))
  (k_with "own eval Name" => ((k_here; k_dflt (walk_at "R nameX_L k1 k2 _ c1 c2 c3"; (case k1 => k_asm); (case k2 => first | exact rfl | assumption); (case c1 => exact rfl); (case c2 => exact rfl); (case c3 => decide); k_whole))))
  (k_with "own call ref" => ((k_here; k_dflt (first | (show wpAny _ _ (call (Value.ref 142) _) _ _ _) | (show wpAny _ _ (call (Value.ref 149) _) _ _ _) | (show wpAny _ _ (call (Value.ref 156) _) _ _ _) | (show wpAny _ _ (call (Value.ref 163) _) _ _ _)); refine wpAny_call ?_; k_dflt (walk_at "ent"))))
  (k_with "own eval Name" => ((k_here; k_dflt (first | (walk_at "R nameX_L F v _ a b"; (case F => k_asm); (case a => rfl); (case b => rfl); (case v => first | rfl | with_reducible assumption); k_whole) | (walk_at "R nameX_K F X T e _ a b"; (case F => k_asm); (case X => k_asm); (case T => k_asm); (case a => rfl); (case b => rfl); (case e => k_is); k_whole)))))
  (k_with "own subscriptTail Name Constant ref int" => ((k_here; k_dflt (first | (walk_at "R item_listL l a b d _"; (case l => exact News.isList (by with_reducible assumption) (by k_mem)); (case a => decide); (case b => first | decide | omega); (case d => exact rfl); k_whole) | (walk_at "R item_tupleL l a b c d _"; (case l => exact News.isTup (by with_reducible assumption) (by k_mem)); (case a => decide); (case b => decide); (case c => first | rfl | assumption | decide); (case d => first | rfl | assumption | simp); k_whole)))))
  (k_with "own subscriptTail Name Name ref int" => ((k_here; k_dflt (walk_at "R item_listL l a b d _"; (case l => exact News.isList (by with_reducible assumption) (by k_mem)); (case a => decide); (case b => first | decide | omega); (case d => exact rfl); k_whole))))
  (k_with "own callWith ref" => ((k_here; (with_reducible show wpAny _ _ (callWith _ (Value.ref (OfNat.ofNat _)) _ _ _) _ _ _); k_dflt (first | (walk_at "R callWith_K k1 k2 _"; (case k1 => with_reducible assumption); (case k2 => k_is); k_whole) | (walk_at "R callWith_K0 k1 k2 _"; (case k1 => exact Frag.In.keeps (by with_reducible assumption) (Fr.keep (by with_reducible assumption))); (case k2 => k_is); k_whole)))))
  (k_with "own subscriptTail List" => ((k_here; k_dflt (walk_at "R item_listL l a b d _"; (case l => exact News.isList (by with_reducible assumption) (by k_mem)); (case a => decide); (case b => first | decide | omega); (case d => exact rfl); k_whole))))
  (k_with "own ent_t" => ((walk_at "R code_defT k1 k2 k3 k4 k5 kA kF kK k6 k7 k8 k9 kB kD _ c2 c3 c4"; (case kA => exact rfl); (case kF => exact rfl); (case kK => first | exact rfl | assumption); (case k1 => k_asm); (case k2 => k_asm); (case k3 => k_asm); (case k4 => k_asm); (case k5 => k_asm); (case k6 => k_is); (case k7 => k_is); (case k8 => ktr_room); (case k9 => first | exact BindsTo.of_eq rfl | exact binds_K (by k_in) rfl (by k_is) rfl rfl rfl); (case kB => exact rfl); (case kD => exact fun _ => rfl); (case c2 => exact rfl); (case c3 => exact rfl); (case c4 => exact rfl); k_whole; intro gₚₗ Lₚₗ hₚₗ tkₚₗ htₚₗ FGₚₗ Fₚₗ Nₚₗ Bₚₗ Sₚₗ Xₚₗ Tₚₗ l1ₗ; (try k_lt l1ₗ); (try dsimp only); (try k_fold))))
  (k_with "own eval Name" => ((k_here; (with_reducible show wpAny _ _ (PySem.eval (PySem.Expr.Name _ _) (genEnv _ _ _ _ _ _)) _ _ _); first | (k_dflt (walk_at "R nameGen_l yF yv _ yk yx yd"; (case yF => k_asm); (case yv => assumption); (case yk => with_unfolding_all rfl); (case yx => with_unfolding_all rfl); (case yd => decide); k_whole)) | (k_dflt (walk_at "R nameGen_g yF yX yT ye _ yg yk yx yd"; (case yF => k_asm); (case yX => k_asm); (case yT => k_asm); (case ye => k_is); (case yg => with_unfolding_all rfl); (case yk => with_unfolding_all rfl); (case yx => with_unfolding_all rfl); (case yd => decide); k_whole)) | (k_dflt (walk_at "R nameGen_b yF yX yT ye yv yn _ yg yk yx yd"; (case yF => k_asm); (case yX => k_asm); (case yT => k_asm); (case ye => k_is); (case yv => boot_fast); (case yn => decide); (case yg => with_unfolding_all rfl); (case yk => with_unfolding_all rfl); (case yx => with_unfolding_all rfl); (case yd => decide); k_whole)))))
  (k_with "own newTuple" => (((with_reducible rename GenElt => gE9ₗ); refine wpAny_newTuple ?_)))
  (k_with "own eval ListComp" => ((k_here; (with_reducible show wpAny _ _ (eval (PySem.Expr.ListComp _ [⟨PySem.Expr.Tuple _ _ _, _, _, _⟩] _ _) _) _ _ _); refine wpAny_with_toks (Nat.le_refl _) ?_; k_dflt (refine comp_pair (by with_unfolding_all rfl) (by rfl) (by decide) ?_ (by intro _; rfl)))))
  (k_with "own pyIter ref" => ((k_here; (with_reducible show wpAny _ _ (pyIter (Value.ref _)) (fun it s₂ => CompPair _ _ _ _ _ _ _ _ _ _ _ _ _ _ _ _ _ it s₂) _ _); refine stop_here ?_)))
  (k_with "own exec Assign cons ListComp" => ((k_here; first | k_dflt (refine wpAny_Assign_Name ?_ (by rfl)) | k_dflt (refine comp_assign (by rfl) (by with_unfolding_all rfl) (by rfl) (by decide) ?_ (by intro _; rfl)))))
  (k_with "own eval ListComp" => ((k_here; (with_reducible show wpAny _ _ (eval (PySem.Expr.ListComp _ [⟨PySem.Expr.Name _ _, _, _, _⟩] _ _) _) _ _ _); k_dflt (refine comp_any (by with_unfolding_all rfl) (by rfl) (by decide) ?_ (by intro _; rfl)))))
  (k_with "own call type:range" => ((k_here; (with_reducible show wpAny _ _ (call _ [Value.int _ _]) _ _ _); refine wpAny_with_toks (Nat.le_refl _) ?_; refine range1_rows (by k_asm) (by k_asm) ?_; intro hₚₗ tkₚₗ t1ₚₗ u1ₚₗ v1ₚₗ hrₚₗ Fₚₗ Nₚₗ hkₚₗ htₚₗ; (try dsimp only at htₚₗ); refine stop_here ?_)))
  (k_with "own call builtin:sum" => ((k_here; (with_reducible show wpAny _ _ (call (Value.builtin "sum") [Value.ref _]) _ _ _); refine wpAny_with_toks (Nat.le_refl _) ?_; (with_unfolding_all walk_at "S18"; (case zk0 => with_unfolding_all rfl); (case zk1 => k_asm); (case zk2 => k_asm); (case zk3 => exact News.isList (by k_asm) (List.mem_cons_self ..)); (case zk4 => exact IntsAre.pick (by assumption) _ _ _); k_whole); intro hₚₗ tkₚₗ tₚₗ Fₚₗ Nₚₗ htₚₗ; (try dsimp only at htₚₗ); (try k_sweep); (try dsimp only))))
  (k_with "own call ref" => ((k_here; k_dflt (show wpAny _ _ (call (Value.ref 192) [Value.int _ _]) _ _ _); k_dflt (walk_at "R cut_spec zB zF zX zT zk zN zd _"; (case zB => k_asm); (case zF => k_asm); (case zX => k_asm); (case zT => k_asm); (case zk => first | exact rfl | assumption); (case zN => k_asm); (case zd => ktr_room); intro vₚₗ tₚₗ hₚₗ tkₚₗ blₚₗ bhₚₗ Fₚₗ Nₚₗ htₚₗ; (try dsimp only at htₚₗ); (try k_sweep); (try dsimp only)))))
  (k_with "own call ref" => ((k_here; k_dflt (show wpAny _ _ (call (Value.ref 199) [Value.int _ _]) _ _ _); k_dflt (walk_at "R piece_spec zB zF zX zT zk zN zd _"; (case zB => k_asm); (case zF => k_asm); (case zX => k_asm); (case zT => k_asm); (case zk => first | exact rfl | assumption); (case zN => k_asm); (case zd => ktr_room); intro qₚₗ u1ₚₗ u2ₚₗ hₚₗ tkₚₗ Fₚₗ Nₚₗ ht1ₚₗ ht2ₚₗ ht3ₚₗ ht4ₚₗ; (try dsimp only at ht1ₚₗ ht3ₚₗ); (try k_sweep); (try dsimp only)))))
  (k_with "own rest_ne" => (first | assumption | exact Ne.symm (by assumption) | (refine neN ?_; (try dsimp only); omega)))
  (k_with "own rest_ok" => ((repeat refine List.forall_mem_cons.mpr ⟨⟨by simp, by walk_at "rest_ne"⟩, ?_⟩) <;> exact fun _ h => nomatch h))
  (k_with "own call ref" => ((k_here; k_dflt (first | (show wpAny _ _ (call (Value.ref 211) _) _ _ _) | (show wpAny _ _ (call (Value.ref 225) _) _ _ _) | (show wpAny _ _ (call (Value.ref 239) _) _ _ _) | (show wpAny _ _ (call (Value.ref 218) _) _ _ _) | (show wpAny _ _ (call (Value.ref 51) _ _) _ _ _) | (show wpAny _ _ (call (Value.ref 105) _) _ _ _)); refine stop_here ?_)))
  (k_with "own call builtin:len" => ((k_here; (with_reducible show wpAny _ _ (call (Value.builtin "len") [Value.ref _]) _ _ _); k_dflt (walk_at "S19"; (case k1 => exact News.isList (by k_asm) (by k_mem)); (case k3 => assumption); k_whole))))
  (k_with "own eval BinOp" => ((k_here; k_dflt (refine wpAny_BinOp ?_))))
  (k_with "own isTrue Compare" => ((k_here; k_dflt (refine wpAny_isTrue_Compare1 ?_))))
  (k_with "own exec If" => ((k_here; k_dflt (refine wpAny_If ?_))))
  (k_with "own call builtin:str.join" => ((k_here; refine stop_here ?_)))
  (k_with "own compareOp NotEq str str" => ((k_here; k_dflt (refine ne_same ?_); (try dsimp only))))
  (k_with "own subscriptTail List" => ((k_here; k_dflt (walk_at "S20"; (case l => exact News.isList (by with_reducible assumption) (by k_mem)); (case vₗ => (intro vₗ hvₗ; simp only [List.mem_cons, List.not_mem_nil, or_false] at hvₗ; rcases hvₗ with hₗ | hₗ | hₗ | hₗ | hₗ <;> exact ⟨_, _, hₗ, by decide⟩)); (case i => assumption); (case z => exact Nat.le_of_ble_eq_true rfl); k_whole); intro cₚₗ tcₚₗ hcₚₗ)))
  (k_with "own subscriptTail Name Name ref int" => ((k_here; k_dflt (walk_at "S21"; (case l => exact News.isList (by with_reducible assumption) (by k_mem)); (case vₗ => (intro vₗ hvₗ; simp only [List.mem_cons, List.not_mem_nil, or_false] at hvₗ; rcases hvₗ with hₗ | hₗ | hₗ | hₗ | hₗ | hₗ | hₗ | hₗ | hₗ <;> exact ⟨_, _, hₗ, trivial⟩)); (case i => exact Nat.lt_of_lt_of_le (by assumption) (Nat.le_of_ble_eq_true rfl)); (case z => exact Nat.le_of_ble_eq_true rfl); k_whole); intro cₚₗ tcₚₗ hcₚₗ; clear hcₚₗ)))
  (k_with "own call type:str" => ((k_here; (with_reducible show wpAny _ _ (call (Value.type "str") [Value.ref _]) _ _ _); k_dflt (walk_at "R kso_call k1 k2 k3 k4 k5 _"; (case k1 => k_units); (case k2 => exact Frag.In.keeps (by with_reducible assumption) (Fr.keep (by with_reducible assumption))); (case k3 => exact instAcc (by with_reducible assumption) (by with_reducible assumption) (by with_reducible assumption)); (case k4 => k_is); (case k5 => k_is); k_whole))))
  trivial
set_option maxHeartbeats 0 in
theorem law_holds : PySem.Challenge.rw_yh0010_01.Holds := hd (by
  k_fill
  intro w s₀ s₁ mg mb G Y fa o pm cd doc dV kV ho hd hcd hD hmg hg args vals as hpre hlay hrd hwl hlo
  have KX := km_in_of Y
  have hT8 := km_tabs_of Y
  have X := (Ground.X G).1
  have V := (Ground.X G).2
  refine Ground.open G ?_
  intro T B D TE TW
  try (refine guard_noD D (by decide +kernel) ?_; clear D)
  have hT9 : TabsAt ([(217, 213), (104, 100), (97, 93)] : List (Addr × Addr)) _ := List.forall_mem_cons.mpr ⟨⟨codeHd_of_K (c := 217) (P := 213) KX (by kernel_rfl), hT8 213 (by simp)⟩, List.forall_mem_cons.mpr ⟨⟨codeHd_of_K (c := 104) (P := 100) KX (by kernel_rfl), hT8 100 (by simp)⟩, List.forall_mem_cons.mpr ⟨⟨codeHd_of_K (c := 97) (P := 93) KX (by kernel_rfl), hT8 93 (by simp)⟩, fun _ h => nomatch h⟩⟩⟩
  clear hmg
  wrow_args hpre hlay hrd hwl hlo
  all_goals (
    first | refine callC_kw (enter_call ?_) | refine enter_call ?_
    w_top on
    refine Mine.my_post hT9 ?_
    w_call any ho hd hcd hD T F
    clear hd
    kn_ghosts F T
    k_drop
    skip)
  w_top off
  walk_at "shade"
  rename_i ns0 hs0 hly hLl hr1 hl2 a7 a6 sl its a3 hL ra wl r0 hI hr hc1 hc0 h1 tk1 o3 o2 o1 d3 d2 d1 X0 X' T' K' F' cH1 cH2 N' l0'
  walk_at "bare"
  replace d1 : o1.data = .cell (some (.ref sl)) := d1
  replace d2 : o2.data = .cell none := d2
  replace d3 : o3.data = .cell none := d3
  clear X0
  show wpAny _ _ _ _ _ _
  k_fold
  k_steps
  walk_at "shade"
  rename_i h2 tk2 t2 u2 v2 R2 F2 N2 hk2 ht2
  walk_at "bare"
  dsimp only at R2 hk2
  unfold Stop
  dsimp only
  clear N' F'
  obtain ⟨NN, eNN, mc3, mc2, mc1⟩ : ∃ NN, NN = [(s₁.heap.objs.size + 1 + 1 + 1, o3), (s₁.heap.objs.size + 1 + 1, o2), (s₁.heap.objs.size + 1, o1), (213, tabObj #[]), (100, tabObj #[]), (93, tabObj #[])] ∧ (s₁.heap.objs.size + 1 + 1 + 1, o3) ∈ NN ∧ (s₁.heap.objs.size + 1 + 1, o2) ∈ NN ∧ (s₁.heap.objs.size + 1, o1) ∈ NN := ⟨_, rfl, by simp, by simp, by simp⟩
  rw [← eNN] at N2
  refine' comp_range (n := 9) ?hh ?hcell ?hkind ?hx F2 N2 R2 ?hs ?hn ?hz (fun i ys n₁ _ => n₁ = NN ∧ ys.length = i ∧ ∃ ns, IntsAre ys ns) ?Jm ?h0 ?st ?dn
  case hh => exact rfl
  case hcell => decide
  case hkind => exact rfl
  case hx => exact rfl
  case hs => decide
  case hn => decide
  case hz => decide
  case Jm => exact fun i ys n₁ t t' j _ => j
  case h0 => exact ⟨rfl, rfl, [], .nil⟩
  case st =>
    rintro i t ys I oI C oC D oD news₁ h₃ tk₃ m₂ E' hi ⟨rfl, hys, nsi, hyi⟩ ht₃ hC hx F₃ N₃ hne
    k_steps
    rename News _ _ _ _ => nZ
    rename Fr _ _ _ _ => fZ
    exact CBack.intro fZ (fun p hp => nZ p (List.mem_cons_of_mem _ hp)) (fun p hp => .inl hp) (by (try dsimp only at *); omega) ⟨rfl, by simp [hys], _, ints_snoc hyi _ _⟩
  case dn =>
    rintro D2 kd2 ys news₁ h₃ tk₃ ⟨rfl, hys, nsi, hyi⟩ ht₃ F₃ N₃ hne
    obtain ⟨q0, w0, q1, w1, q2, w2, q3, w3, q4, w4, q5, w5, q6, w6, q7, w7, q8, w8, rfl⟩ := ints9 hyi hys
    have e2 := hne _ mc2
    have e3 := hne _ mc3
    dsimp only at e2 e3 ht₃
    clear hne mc1 mc2 mc3
    subst eNN
    k_steps
    refine store_cell (c := s₁.heap.objs.size + 1 + 1) (rest := [(D2, listOf [.int q0 w0, .int q1 w1, .int q2 w2, .int q3 w3, .int q4 w4, .int q5 w5, .int q6 w6, .int q7 w7, .int q8 w8].toArray kd2), (s₁.heap.objs.size + 1 + 1 + 1, o3), (s₁.heap.objs.size + 1, o1), (213, tabObj #[]), (100, tabObj #[]), (93, tabObj #[])]) F₃ N₃ (by simp) d2 rfl (by walk_at "rest_ok") (fun h₄ o2' F₄ N₄ d2' => ?_)
    clear N₃ F₃
    k_steps
    walk_at "shade"
    rename_i h5 tk5 t5 u5 v5 R5 F5 N5 hk5 ht5
    walk_at "bare"
    dsimp only at R5 hk5
    unfold Stop
    dsimp only
    clear N₄ F₄
    obtain ⟨NN, eNN, mc3, mc2, mc1, md2⟩ : ∃ NN, NN = [(s₁.heap.objs.size + 1 + 1, o2'), (D2, listOf [.int q0 w0, .int q1 w1, .int q2 w2, .int q3 w3, .int q4 w4, .int q5 w5, .int q6 w6, .int q7 w7, .int q8 w8].toArray kd2), (s₁.heap.objs.size + 1 + 1 + 1, o3), (s₁.heap.objs.size + 1, o1), (213, tabObj #[]), (100, tabObj #[]), (93, tabObj #[])] ∧ (s₁.heap.objs.size + 1 + 1 + 1, o3) ∈ NN ∧ (s₁.heap.objs.size + 1 + 1, o2') ∈ NN ∧ (s₁.heap.objs.size + 1, o1) ∈ NN ∧ (D2, listOf [.int q0 w0, .int q1 w1, .int q2 w2, .int q3 w3, .int q4 w4, .int q5 w5, .int q6 w6, .int q7 w7, .int q8 w8].toArray kd2) ∈ NN := ⟨_, rfl, by simp, by simp, by simp, by simp⟩
    replace N5 : News (ghostOf s₁.heap [(217, 213), (104, 100), (97, 93)]) s₁.heap.objs.size h5 NN := by rw [eNN]; exact N5
    refine' comp_rangeA (s := { s₁ with heap := h5, toks := tk5 }) (n := 5) ?hLe ?hy ?hp ?hha ?hcella ?hkinda ?hxa F5 N5 R5 ?hsa ?hna ?hza (fun i ys n₁ _ => n₁ = NN ∧ ys.length = i ∧ ∃ ns, IntsAre ys ns ∧ ∀ v ∈ ns, -(2 ^ 60) ≤ v ∧ v ≤ 2 ^ 60) ?Jma ?h0a ?sta ?dna
    case hLe => exact rfl
    case hy => exact rfl
    case hp => exact rfl
    case hha => exact rfl
    case hcella => decide
    case hkinda => exact rfl
    case hxa => exact rfl
    case hsa => decide
    case hna => decide
    case hza => decide
    case Jma => exact fun i ys n₁ t t' j _ => j
    case h0a => exact ⟨rfl, rfl, [], .nil, fun _ h => nomatch h⟩
    case sta =>
      clear F5 N5
      rintro i t ys I oI C oC D oD news₁ h₃ tk₃ m₂ E' hi ⟨rfl, hys, nsi, hyi, hbi⟩ ht₃ hC hx F₃ N₃ hne
      dsimp only at ht₃
      k_steps
      rename News _ _ _ _ => nZ
      rename Fr _ _ _ _ => fZ
      refine CBack.intro fZ (fun p hp => nZ p (List.mem_cons_of_mem _ hp)) (fun p hp => .inl hp) (by (try dsimp only at *); omega) ⟨rfl, by simp [hys], _, ints_snoc hyi _ _, ?_⟩
      intro v hv
      rcases List.mem_append.mp hv with h | h
      · exact hbi v h
      · rw [List.mem_singleton.mp h]
        clear hv h hbi fZ nZ
        omega
    case dna =>
      clear F5 N5
      rintro D3 kd3 ys news₁ h₃ tk₃ ⟨rfl, hys, nsi, hyi, hbi⟩ ht₃ F₃ N₃ hne
      dsimp only at ht₃
      obtain ⟨n0, u0, n1, u1, n2, u2, n3, u3, n4, u4, rfl, hnb⟩ := ints5 hyi hys hbi
      have e31 := hne _ mc3
      have e32 := hne _ md2
      dsimp only at e31 e32
      clear hne mc1 mc2 mc3 md2
      subst eNN
      dsimp only
      k_steps
      refine store_cell (c := s₁.heap.objs.size + 1 + 1 + 1) (rest := [(D3, listOf [.int n0 u0, .int n1 u1, .int n2 u2, .int n3 u3, .int n4 u4].toArray kd3), (s₁.heap.objs.size + 1 + 1, o2'), (D2, listOf [.int q0 w0, .int q1 w1, .int q2 w2, .int q3 w3, .int q4 w4, .int q5 w5, .int q6 w6, .int q7 w7, .int q8 w8].toArray kd2), (s₁.heap.objs.size + 1, o1), (213, tabObj #[]), (100, tabObj #[]), (93, tabObj #[])]) F₃ N₃ (by simp) d3 rfl (by walk_at "rest_ok") (fun h₆ o3' F₆ N₆ d3' => ?_)
      clear N₃ F₃
      dsimp only
      k_steps
      walk_at "shade"
      rename_i h7 tk7 t7 u7 v7 R7 F7 N7 hk7 ht7
      walk_at "bare"
      dsimp only at R7 hk7 ht7
      unfold Stop
      dsimp only
      clear N₆ F₆
      obtain ⟨NN, eNN, mc3, mc2, mc1, md2, md3, mt1, mt2, mt3⟩ : ∃ NN, NN = [(s₁.heap.objs.size + 1 + 1 + 1, o3'), (D3, listOf [.int n0 u0, .int n1 u1, .int n2 u2, .int n3 u3, .int n4 u4].toArray kd3), (s₁.heap.objs.size + 1 + 1, o2'), (D2, listOf [.int q0 w0, .int q1 w1, .int q2 w2, .int q3 w3, .int q4 w4, .int q5 w5, .int q6 w6, .int q7 w7, .int q8 w8].toArray kd2), (s₁.heap.objs.size + 1, o1), (213, tabObj #[]), (100, tabObj #[]), (93, tabObj #[])] ∧ (s₁.heap.objs.size + 1 + 1 + 1, o3') ∈ NN ∧ (s₁.heap.objs.size + 1 + 1, o2') ∈ NN ∧ (s₁.heap.objs.size + 1, o1) ∈ NN ∧ (D2, listOf [.int q0 w0, .int q1 w1, .int q2 w2, .int q3 w3, .int q4 w4, .int q5 w5, .int q6 w6, .int q7 w7, .int q8 w8].toArray kd2) ∈ NN ∧ (D3, listOf [.int n0 u0, .int n1 u1, .int n2 u2, .int n3 u3, .int n4 u4].toArray kd3) ∈ NN ∧ ((213 : Addr), tabObj #[]) ∈ NN ∧ ((100 : Addr), tabObj #[]) ∈ NN ∧ ((93 : Addr), tabObj #[]) ∈ NN := ⟨_, rfl, by simp, by simp, by simp, by simp, by simp, by simp, by simp, by simp⟩
      replace N7 : News (ghostOf s₁.heap [(217, 213), (104, 100), (97, 93)]) s₁.heap.objs.size h7 NN := by rw [eNN]; exact N7
      obtain ⟨r4a, r4b⟩ := fmod4 (q5 + 198)
      have hn4 : Builtin.Range.rangeSize 0 ((q5 + 198).fmod 4) 1 = ((((q5 + 198).fmod 4).toNat : Nat) : Int) := by
        rw [rangeSize_nat]; omega
      have hsm4 : Builtin.Range.small 0 ((q5 + 198).fmod 4) 1 = true := small_one (by decide) (by decide) (by omega) (by omega)
      refine' comp_rangeA (s := { s₁ with heap := h7, toks := tk7 }) (n := ((q5 + 198).fmod 4).toNat) ?hLec ?hyc ?hpc ?hhc ?hcellc ?hkindc ?hxc F7 N7 R7 hsm4 hn4 (by omega) (fun i ys n₁ tk => (∀ p ∈ NN, p ∈ n₁) ∧ ys.length = i ∧ ∃ P, Pcs tk n₁ ys P ∧ Signs P ∧ ∀ p ∈ P, ∃ j, j < 4 ∧ p.2 = 97 + j) ?Jmc ?h0c ?stc ?dnc
      case hLec => exact rfl
      case hyc => exact rfl
      case hpc => exact rfl
      case hhc => exact rfl
      case hcellc => decide
      case hkindc => exact rfl
      case hxc => exact rfl
      case Jmc => exact fun i ys n₁ t t' ⟨j1, j2, P, j3, j4⟩ h => ⟨j1, j2, P, j3.mono h fun _ h => h, j4⟩
      case h0c => exact ⟨fun _ h => h, rfl, [], trivial, (fun _ h => nomatch h), (fun _ h => nomatch h)⟩
      case stc =>
        clear F7 N7
        rintro i t ys I oI C oC D oD news₁ h₃ tk₃ m₂ E' hi ⟨hsub, hys, P, hP, hsg, hnm⟩ ht₃ hC hx F₃ N₃ hne
        dsimp only at ht₃
        have mc := hsub _ mc3
        have hi3 : i = 0 ∨ i = 1 ∨ i = 2 := by omega
        clear hi
        rcases hi3 with h | h | h
        all_goals (
          subst h
          first
            | replace hx : m₂ "k" = some (.int 0 t) := hx
            | replace hx : m₂ "k" = some (.int 1 t) := hx
            | replace hx : m₂ "k" = some (.int 2 t) := hx
          k_steps
          rename News _ _ _ _ => nZ
          rename Fr _ _ _ _ => fZ
          refine CBack.intro fZ (news_swap3 nZ) ?_ ?_ ⟨fun p hp => List.mem_cons_of_mem _ (hsub p hp), by simp [hys], _, pcs_snoc hP ?_ ?_ ?_ ?_ ?_, signs_snoc hsg _, names_snoc hnm _⟩
          · intro p hp
            rcases List.mem_cons.mp hp with h | h
            · exact .inr ⟨_, _, by rw [h]⟩
            · exact .inl h
          all_goals ((try dsimp only at *); omega))
      case dnc =>
        clear F7 N7
        rintro D4 kd4 ys news₁ h₃ tk₃ ⟨hsub, hys, P, hP, hsg, hnm⟩ ht₃ F₃ N₃ hne
        dsimp only at ht₃
        have hP0 : 0 < tk₃ := by omega
        replace N₃ : News (ghostOf s₁.heap [(217, 213), (104, 100), (97, 93)]) s₁.heap.objs.size h₃ ((D4, listOf ys.toArray kd4) :: news₁) := N₃
        obtain ⟨N4, eN4, hsub4, md4⟩ : ∃ N4, N4 = (D4, listOf ys.toArray kd4) :: news₁ ∧ (∀ p ∈ NN, p ∈ N4) ∧ (D4, listOf ys.toArray kd4) ∈ N4 := ⟨_, rfl, fun p hp => List.mem_cons_of_mem _ (hsub p hp), List.mem_cons_self ..⟩
        replace hP : Pcs tk₃ N4 ys P := hP.mono (Nat.le_refl _) fun p hp => eN4 ▸ List.mem_cons_of_mem _ hp
        rw [← eN4] at N₃
        replace mc3 := hsub4 _ mc3
        replace mc2 := hsub4 _ mc2
        replace mc1 := hsub4 _ mc1
        replace md2 := hsub4 _ md2
        replace md3 := hsub4 _ md3
        replace mt1 := hsub4 _ mt1
        replace mt2 := hsub4 _ mt2
        replace mt3 := hsub4 _ mt3
        clear hsub4 hsub eNN eN4 hne hn4 hsm4 R7 hk7
        dsimp only
        k_steps
        walk_at "shade"
        rename_i qa ua1 ua2 ha tka ha1 ha2 ha3 ha4 qb ub1 ub2 hb tkb hb1 hb2 hb3 hb4 qc uc1 uc2 hcx tkc hcx1 hcx2 hcx3 hcx4 D5 hd5 lt5 hd6 hd7 F8 N8
        walk_at "bare"
        unfold Stop
        have hys3 : ys.length ≤ 3 := by omega
        obtain ⟨N5, eN5, hs5, m5, ma, mb, mcx⟩ : ∃ N5, N5 = (D5, listOf [.ref qa, .ref qb, .ref qc].toArray 0) :: (qc, tupObj ⟨#[pcS q8]⟩ uc1 ⟨#[pcN q8]⟩ uc2) :: (qb, tupObj ⟨#[pcS (q7 + 3)]⟩ ub1 ⟨#[pcN (q7 + 3)]⟩ ub2) :: (qa, tupObj ⟨#[pcS (q6 + 4)]⟩ ua1 ⟨#[pcN (q6 + 4)]⟩ ua2) :: N4 ∧ (∀ p ∈ N4, p ∈ N5) ∧ (D5, listOf [.ref qa, .ref qb, .ref qc].toArray 0) ∈ N5 ∧ (qa, tupObj ⟨#[pcS (q6 + 4)]⟩ ua1 ⟨#[pcN (q6 + 4)]⟩ ua2) ∈ N5 ∧ (qb, tupObj ⟨#[pcS (q7 + 3)]⟩ ub1 ⟨#[pcN (q7 + 3)]⟩ ub2) ∈ N5 ∧ (qc, tupObj ⟨#[pcS q8]⟩ uc1 ⟨#[pcN q8]⟩ uc2) ∈ N5 := ⟨_, rfl, fun p hp => by simp [hp], by simp, by simp, by simp, by simp⟩
        replace N8 : News (ghostOf s₁.heap [(217, 213), (104, 100), (97, 93)]) s₁.heap.objs.size hd7 N5 := by rw [eN5]; exact N8
        obtain ⟨C3, hC5, hsc, hnc, c1, c2, c3, eC3⟩ : ∃ C3, Pcs tkc N5 [.ref qa, .ref qb, .ref qc] C3 ∧ Signs C3 ∧ (∀ p ∈ C3, ∃ j, j < 4 ∧ p.2 = 97 + j) ∧ ∃ c1 c2 c3, C3 = [c1, c2, c3] :=
          ⟨[(pcS (q6 + 4), pcN (q6 + 4)), (pcS (q7 + 3), pcN (q7 + 3)), (pcS q8, pcN q8)], ⟨⟨qa, ua1, ua2, rfl, ma, by omega, by omega, by omega, by omega⟩, ⟨qb, ub1, ub2, rfl, mb, by omega, by omega, by omega, by omega⟩, ⟨qc, uc1, uc2, rfl, mcx, by omega, by omega, by omega, by omega⟩, trivial⟩,
            signs_snoc (signs_snoc (signs_snoc (P := []) (fun _ h => nomatch h) _) _) _, names_snoc (names_snoc (names_snoc (P := []) (fun _ h => nomatch h) _) _) _, _, _, _, rfl⟩
        replace hP : Pcs tkc N5 ys P := hP.mono (by omega) hs5
        replace mt1 := hs5 _ mt1
        replace mt2 := hs5 _ mt2
        replace mt3 := hs5 _ mt3
        replace md3 := hs5 _ md3
        replace md4 := hs5 _ md4
        clear mc1 mc2 mc3 md2 ma mb mcx eN5 hs5 ha1 ha2 ha3 ha4 hb1 hb2 hb3 hb4 hcx1 hcx2 hcx3 hcx4 lt5
        refine folded_spec (its := ys) (its2 := [.ref qa, .ref qb, .ref qc]) (k1 := kd4) (k2 := 0) (P := P) (C := C3) (by k_asm) F8 (by k_asm) (by k_asm) rfl N8 md4 m5 (by ktr_room) (by ktr_room) (hP.mono (by (try dsimp only); omega) fun _ h => h) hys3 (hC5.mono (by (try dsimp only); omega) fun _ h => h) (by simp) hsg hsc ?_
        clear F8 N8
        intro row drow its' ep hsh t6 n6 tl' h9 tk9 F9 N9 hs9 hx9 hne9 hP9 hsz9 ht9
        dsimp only at ht9
        obtain ⟨N6, N9', hs6, mr, mdr⟩ := led2 N9
        clear N9
        have sub6 := fun p hp => hs6 p (hs9 p hp)
        replace mt1 := sub6 _ mt1
        replace mt2 := sub6 _ mt2
        replace mt3 := sub6 _ mt3
        replace md3 := sub6 _ md3
        replace md4 := sub6 _ md4
        replace m5 := sub6 _ m5
        replace hP : Pcs tkc N6 ys P := hP.mono (Nat.le_refl _) sub6
        replace hC5 := hC5.mono (Nat.le_refl _) sub6
        replace hP9 := hP9.mono (Nat.le_refl _) hs6
        clear hx9 hs6 hs9 sub6 hne9
        dsimp only
        k_steps
        rename News _ _ _ _ => nP
        rename Fr _ _ _ _ => fP
        unfold Stop
        refine places_spec (its := ys) (its2 := [.ref qa, .ref qb, .ref qc]) (k1 := kd4) (k2 := 0) (P := P) (C := C3) (by k_asm) fP (by k_asm) (by k_asm) rfl nP md4 m5 (by ktr_room) (by ktr_room) (hP.mono (by (try dsimp only); omega) fun _ h => h) hys3 (hC5.mono (by (try dsimp only); omega) fun _ h => h) (by simp) hsg hsc ?_
        clear nP fP
        intro lp klp itp tlp h10 tk10 F10 N10 hs10 hPw ht10
        dsimp only at ht10
        obtain ⟨N7, N10', hs7, mlp⟩ := led1 N10
        clear N10
        have sub7 := fun p hp => hs7 p (hs10 p hp)
        replace mt1 := sub7 _ mt1
        replace mt2 := sub7 _ mt2
        replace mt3 := sub7 _ mt3
        replace md3 := sub7 _ md3
        replace md4 := sub7 _ md4
        replace m5 := sub7 _ m5
        replace mr := sub7 _ mr
        replace mdr := sub7 _ mdr
        replace hP : Pcs tkc N7 ys P := hP.mono (Nat.le_refl _) sub7
        replace hC5 := hC5.mono (Nat.le_refl _) sub7
        replace hP9 := hP9.mono (Nat.le_refl _) sub7
        replace hPw := hPw.mono hs7
        clear hs10 hs7 sub7
        dsimp only
        k_steps
        rename News _ _ _ _ => nS
        rename Fr _ _ _ _ => fS
        unfold Stop
        have hsz31 : its'.length ≤ 31 := Nat.le_of_succ_le_succ (show its'.length + 1 ≤ 31 + 1 from hsz9)
        have hG1 : AllBare s₁.gens := .of_eq hg
        refine str_M (Bt := tk9) (by k_asm) fS (by k_asm) (by k_asm) rfl nS mt2 mr mdr (by ktr_room) (by first | decide | (simp only [depth_under_make, depth_under_kw, depth_in1, depth_deeper, depth_caller, units_in1, units_deeper, Around.mark_units, units_caller]; decide)) hP9 hsz31 hG1 ?_
        clear nS fS
        intro ts ps1 s11 N8 F11 N11 mt2' keep8 cls8 hG11 hos11 ht11
        dsimp only at hos11 ht11
        replace mt1 := keep8 _ mt1 (by decide)
        replace mt3 := keep8 _ mt3 (by decide)
        replace md3 := cls8 _ _ (by intro e; cases e) md3
        replace md4 := cls8 _ _ (by intro e; cases e) md4
        replace m5 := cls8 _ _ (by intro e; cases e) m5
        replace mr := cls8 _ _ (by intro e; cases e) mr
        replace mdr := cls8 _ _ (by intro e; cases e) mdr
        replace mlp := cls8 _ _ (by intro e; cases e) mlp
        replace hP : Pcs tkc N8 ys P := hP.sub fun q a t1 b t2 hm => cls8 _ _ (by intro e; cases e) hm
        replace hC5 := hC5.sub fun q a t1 b t2 hm => cls8 _ _ (by intro e; cases e) hm
        replace hP9 := hP9.sub fun q a t1 b t2 hm => cls8 _ _ (by intro e; cases e) hm
        have hlPw := hPw.len
        obtain ⟨Ts, uu1, uu2, hTs⟩ := hPw.pick
        replace hTs := fun j hj => And.intro (hTs j hj).1 (cls8 _ _ (by intro e; cases e) (hTs j hj).2)
        clear hPw
        clear mt2 keep8
        (try dsimp only [StrBack])
        k_steps
        unfold Stop
        have hPl3 : P.length ≤ 3 := by have := hP.len; omega
        have hpe : places P C3 = C3.foldl foldStep P := by rw [eC3]; exact places_eq hPl3 hsg (eC3 ▸ hsc)
        have hlen9 := hP9.len
        rw [hpe] at hlPw
        simp only [hpe] at hTs
        have hit : itp.length = its'.length := hlPw.trans hlen9.symm
        refine' comp_list (items := itp) (kl := klp) (Ts := Ts) (vals := fun j => #[.str ⟨#[((C3.foldl foldStep P).getD j (0, 0)).1]⟩ (uu1 j), .str ⟨#[((C3.foldl foldStep P).getD j (0, 0)).2]⟩ (uu2 j)]) (R := fun j y => ∃ u, y = .str ⟨#[((C3.foldl foldStep P).getD j (0, 0)).1, ((C3.foldl foldStep P).getD j (0, 0)).2]⟩ u) ?ph ?pcell ?pkind ?pxa ?pxb ?pab F11 N11 mlp ?pz hTs ?pelt ?pv ?pdone
        case ph => exact rfl
        case pcell => decide
        case pkind => exact rfl
        case pxa => exact rfl
        case pxb => exact rfl
        case pab => decide
        case pz => rw [hit]; exact Nat.le_trans hsz31 (by decide)
        case pelt =>
          intro i va vb Cc s₃ m₃ E' hi hv hns ma mb
          injection hv with hv
          injection hv with h1 h2
          injection h2 with h2
          rw [← h1] at ma
          rw [← h2] at mb
          exact pair_elt rfl rfl rfl hns ma mb (by decide) (by decide) fun u k => ⟨⟨u, rfl⟩, _, _, rfl, fun b o e => e⟩
        case pv => exact fun j _ => ⟨_, _, rfl⟩
        case pdone =>
          intro D6 kd6 ys6 h12 tk12 hl6 hR6 F12 N12 hne6 ht12
          dsimp only at ht12
          obtain ⟨N9, N13, sub13, mD6⟩ := led1 N12
          clear N12 hne6
          replace mt1 := sub13 _ mt1
          replace mt2' := sub13 _ mt2'
          replace mt3 := sub13 _ mt3
          replace md3 := sub13 _ md3
          replace md4 := sub13 _ md4
          replace m5 := sub13 _ m5
          replace mr := sub13 _ mr
          replace mdr := sub13 _ mdr
          replace mlp := sub13 _ mlp
          replace hP : Pcs tkc N9 ys P := hP.mono (Nat.le_refl _) sub13
          replace hC5 := hC5.mono (Nat.le_refl _) sub13
          replace hP9 := hP9.mono (Nat.le_refl _) sub13
          clear sub13 hTs N11 F11
          k_steps
          unfold Stop
          have hR6b : (List.range itp.length).map (fun j => (⟨#[((C3.foldl foldStep P).getD j (0, 0)).1, ((C3.foldl foldStep P).getD j (0, 0)).2]⟩ : Str)) = (C3.foldl foldStep P).map (fun p => ⟨#[p.1, p.2]⟩) := range_map_getD _ (0, 0) (fun p => (⟨#[p.1, p.2]⟩ : Str)) hlPw
          have hSA := strsAre_of (tx := fun j => (⟨#[((C3.foldl foldStep P).getD j (0, 0)).1, ((C3.foldl foldStep P).getD j (0, 0)).2]⟩ : Str)) hl6 hR6
          rw [hR6b] at hSA
          clear hR6b hR6
          have hjs : (((C3.foldl foldStep P).map fun p => (⟨#[p.1, p.2]⟩ : Str)).map (·.length)).sum + ((C3.foldl foldStep P).map fun p => (⟨#[p.1, p.2]⟩ : Str)).length * (Str.ofString "").length ≤ 16777216 := by
            have e0 : (Str.ofString "").length = 0 := by decide
            rw [txt_sum, List.length_map, ← hlen9, e0, Nat.mul_zero, Nat.add_zero]
            exact Nat.le_trans (Nat.mul_le_mul_left 2 hsz31) (by decide)
          refine wpAny_with_toks (Nat.le_refl _) ?_
          refine join_list (News.isList N13 mD6) hSA hjs fun t' k => ?_
          intro hk13
          dsimp only at hk13
          clear hSA hjs
          have etx : Txt.join (Str.ofString "") ((C3.foldl foldStep P).map fun p => (⟨#[p.1, p.2]⟩ : Str)) = txtOf (C3.foldl foldStep P) := rfl
          rw [etx]
          clear etx
          have hpz : ((itp.toArray.size : Nat) : Int) ≤ 16384 := by rw [List.size_toArray, hit]; exact Int.ofNat_le.mpr (Nat.le_trans hsz31 (by decide))
          k_steps
          unfold Stop
          rename News _ _ _ _ => nH
          rename Fr _ _ _ _ => fH
          refine hint_M (Bt := tk9) (by k_asm) fH (by k_asm) (by k_asm) rfl nH mt3 mr mdr (by ktr_room) (by first | decide | (simp only [depth_under_make, depth_under_kw, depth_in1, depth_deeper, depth_caller, units_in1, units_deeper, Around.mark_units, units_caller]; decide)) hP9 hsz31 hG11 (fmod3 _) ?_
          clear nH fH
          intro qh th1 th2 ps2 s14 N10 F14 N14 mt3' keep10 cls10 hG14 hos14 ht14
          dsimp only at hos14 ht14
          replace mt1 := keep10 _ mt1 (by decide)
          replace mt2' := keep10 _ mt2' (by show (100 : Addr) ≠ 93; decide)
          replace md3 := cls10 _ _ (by intro e; cases e) md3
          replace md4 := cls10 _ _ (by intro e; cases e) md4
          replace m5 := cls10 _ _ (by intro e; cases e) m5
          replace mr := cls10 _ _ (by intro e; cases e) mr
          replace mdr := cls10 _ _ (by intro e; cases e) mdr
          replace hP : Pcs tkc N10 ys P := hP.sub fun q a t1 b t2 hm => cls10 _ _ (by intro e; cases e) hm
          replace hC5 := hC5.sub fun q a t1 b t2 hm => cls10 _ _ (by intro e; cases e) hm
          replace hP9 := hP9.sub fun q a t1 b t2 hm => cls10 _ _ (by intro e; cases e) hm
          clear keep10 cls10 mlp mt3
          have hit3 : its'.length = itp.toArray.size := by rw [List.size_toArray, hit]
          rw [hit3] at N14
          k_steps
          unfold Stop
          rename News _ _ _ _ => nR
          rename Fr _ _ _ _ => fR
          obtain ⟨N11, N15, sub15, -, -⟩ := led2 nR
          clear nR
          replace mt1 := sub15 _ mt1
          replace mt2' := sub15 _ mt2'
          replace mt3' := sub15 _ mt3'
          replace md3 := sub15 _ md3
          replace md4 := sub15 _ md4
          replace m5 := sub15 _ m5
          replace mr := sub15 _ mr
          replace mdr := sub15 _ mdr
          replace hP : Pcs tkc N11 ys P := hP.mono (Nat.le_refl _) sub15
          replace hC5 := hC5.mono (Nat.le_refl _) sub15
          replace hP9 := hP9.mono (Nat.le_refl _) sub15
          clear sub15
          refine read_M (by k_asm) fR (by k_asm) (by k_asm) rfl N15 mt1 mr mdr md3 (by ktr_room) (by first | decide | (simp only [depth_under_make, depth_under_kw, depth_in1, depth_deeper, depth_caller, units_in1, units_deeper, Around.mark_units, units_caller]; decide)) (hP9.mono (by (try dsimp only); omega) fun _ h => h) hsz31 (signs_foldl hsg hsc) (names_foldl hnm hnc) hnb ?_
          intro qr tr1 tr2 ps3 h16 tk16 N12 F16 N16 mt1' keep16 ht16
          dsimp only at ht16
          have kp : ∀ (q : Addr) (o : Obj), o.cls ≠ .none → o.cls ≠ .ref 131 → (q, o) ∈ N11 → (q, o) ∈ N12 := fun q o h1 h2 hm => keep16 _ hm (led_ne N15 hm mt1 h1) (led_ne N15 hm mr h2)
          replace mt2' := keep16 _ mt2' (by show (100 : Addr) ≠ 213; decide) (led_ne N15 mt2' mr (by intro e; cases e))
          replace mt3' := keep16 _ mt3' (by show (93 : Addr) ≠ 213; decide) (led_ne N15 mt3' mr (by intro e; cases e))
          replace md3 := kp _ _ (by intro e; cases e) (by intro e; cases e) md3
          replace md4 := kp _ _ (by intro e; cases e) (by intro e; cases e) md4
          replace m5 := kp _ _ (by intro e; cases e) (by intro e; cases e) m5
          replace hP : Pcs tkc N12 ys P := hP.sub fun q a t1 b t2 hm => kp _ _ (by intro e; cases e) (by intro e; cases e) hm
          replace hC5 := hC5.sub fun q a t1 b t2 hm => kp _ _ (by intro e; cases e) (by intro e; cases e) hm
          clear kp keep16 N15 fR mt1 mr mdr hP9
          k_steps
          unfold Stop
          rename News _ _ _ _ => nV
          rename Fr _ _ _ _ => fV
          refine frac_spec (its := ys) (its2 := [.ref qa, .ref qb, .ref qc]) (k1 := kd4) (k2 := 0) (P := P) (C := C3) (by k_asm) fV (by k_asm) (by k_asm) rfl nV (List.mem_cons_of_mem _ md4) (List.mem_cons_of_mem _ m5) (List.mem_cons_of_mem _ md3) (by ktr_room) (by first | decide | (simp only [depth_under_make, depth_under_kw, depth_in1, depth_deeper, depth_caller, units_in1, units_deeper, Around.mark_units, units_caller]; decide)) (hP.mono (by (try dsimp only); omega) fun _ h => List.mem_cons_of_mem _ h) hys3 (hC5.mono (by (try dsimp only); omega) fun _ h => List.mem_cons_of_mem _ h) rfl hsg hsc hnm hnc hnb ?_
          clear nV fV
          intro qf tf1 tf2 h17 tk17 F17 N17 ht17
          dsimp only at ht17
          rw [frac_eq _ _ _ hsg hsc] at N17
          generalize (readV [n0, n1, n2, n3, n4] (C3.foldl foldStep P)).1 = top at N17
          generalize (readV [n0, n1, n2, n3, n4] (C3.foldl foldStep P)).2 = bottom at N17
          k_steps
          refine ⟨⟨.bool true, .bool true, [], rfl, raisesW_false ?_, .bool true, ?_, fun _ => ⟨List.nodup_nil, fun _ h => nomatch h⟩⟩, fun b o e => F17.keep b o e, hos14.trans hos11, hG14⟩
          · wrow_none_raised
          · kc_post)
end Mine
theorem PySem.Challenge.cw_yh0010_01_holds : PySem.Challenge.rw_yh0010_01.Holds :=
  Mine.law_holds
