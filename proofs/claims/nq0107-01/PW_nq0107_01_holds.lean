import PyProof.Rows.All
import Wide.All
import OpenK.AllK
import Wide.FinOn
import PySem.Challenge.RW_nq0107_01
set_option Elab.async false
section
open PySem PySem.W PySem.W.X PyProof.Rows
set_option Elab.async false
set_option maxRecDepth 100000
namespace Mine

noncomputable def fnS (i : Nat) : Stmt := (Challenge.pw_nq0107_01.main.body)[i]?.getD (.Pass ⟨0, 0, 0, 0⟩)
noncomputable def fnBody (i : Nat) : List Stmt := match fnS i with | .FunctionDef _ _ b .. => b | _ => []
noncomputable def fnParams (i : Nat) : Arguments := match fnS i with | .FunctionDef _ a .. => a | _ => ⟨[], [], none, [], [], none, []⟩
noncomputable def fnScope (i : Nat) : Scope := match fnS i with | .FunctionDef _ _ _ _ _ _ s .. => s | _ => default

/-- the class statement in cmp_to_key, and the defs in its body -/
noncomputable def kBody : List Stmt := match fnBody 7 with | .ClassDef _ _ _ b .. :: _ => b | _ => []
noncomputable def kS (i : Nat) : Stmt := kBody[i]?.getD (.Pass ⟨0, 0, 0, 0⟩)
noncomputable def kFnBody (i : Nat) : List Stmt := match kS i with | .FunctionDef _ _ b .. => b | _ => []
noncomputable def kParams (i : Nat) : Arguments := match kS i with | .FunctionDef _ a .. => a | _ => ⟨[], [], none, [], [], none, []⟩
noncomputable def kScope (i : Nat) : Scope := match kS i with | .FunctionDef _ _ _ _ _ _ s .. => s | _ => default

noncomputable def initFn : FuncData :=
  { name := "__init__", qualname := "cmp_to_key.<locals>.K.__init__", params := kParams 2, body := .stmts (kFnBody 2), scope := kScope 2, globals := 3, closure := [], defaults := .none, kwdefaults := .none,
    doc := .none, pyModule := .str "law_nq0107_01" 349, code := .ref 243, builtins := 0 }
noncomputable def ltFn : FuncData :=
  { name := "__lt__", qualname := "cmp_to_key.<locals>.K.__lt__", params := kParams 3, body := .stmts (kFnBody 3), scope := kScope 3, globals := 3, closure := [("mycmp", 229)], defaults := .none, kwdefaults := .none,
    doc := .none, pyModule := .str "law_nq0107_01" 349, code := .ref 251, closureTuple := .ref 245, builtins := 0 }
noncomputable def de (h : Int) (n : String) (k : Nat) (v : Value) : DictEntry := ⟨h, .str n k, v⟩

/-- what the class statement of cmp_to_key lays, as far as it is asked again: begun at 228 objects and t tokens -/
noncomputable def cellO : Obj := { cls := .type "cell", data := .cell (some (.ref 131)) }
noncomputable def codeI (t : Nat) : Obj := { cls := .type "code", data := .fields #[.str "__init__" (t + 17), .str "cmp_to_key.<locals>.K.__init__" (t + 18), .str "/claim/cut.py" (t + 19), rawInt 49, rawInt 2, rawInt 0, rawInt 0, rawInt 19, .ref 238, .bool true, rawInt 181, .ref 239, .none, .ref 240, .ref 241, .ref 242, rawInt ((t + 22 : Nat) : Int), rawInt 49, .str "/claim/cut.py" (t + 23)] }
noncomputable def codeL (t : Nat) : Obj := { cls := .type "code", data := .fields #[.str "__lt__" (t + 25), .str "cmp_to_key.<locals>.K.__lt__" (t + 26), .str "/claim/cut.py" (t + 27), rawInt 52, rawInt 2, rawInt 0, rawInt 0, rawInt 19, .ref 246, .bool true, rawInt 181, .ref 247, .none, .ref 248, .ref 249, .ref 250, rawInt ((t + 31 : Nat) : Int), rawInt 52, .str "/claim/cut.py" (t + 32)] }
noncomputable def initO : Obj := { cls := .type "function", data := .func initFn }
noncomputable def ltO : Obj := { cls := .type "function", data := .func ltFn }
noncomputable def nsO (hs : Nat → Int) (t : Nat) : Obj := { cls := .type "dict", data := .dict #[de (hs 0) "__module__" (t + 8) (.str "cpy313.functools" (t + 13)), de (hs 1) "__firstlineno__" (t + 12) (.int 45 (t + 11)), de (hs 2) "__slots__" (t + 16) (.ref 237), de (hs 3) "__init__" (t + 24) (.ref 244), de (hs 4) "__lt__" (t + 33) (.ref 252),
  de (hs 5) "__gt__" (t + 42) (.ref 260), de (hs 6) "__eq__" (t + 51) (.ref 268), de (hs 7) "__le__" (t + 60) (.ref 276), de (hs 8) "__ge__" (t + 69) (.ref 284), de (hs 9) "__hash__" (t + 70) .none, de (hs 10) "__static_attributes__" (t + 72) (.ref 285), de (hs 11) "obj" (t + 74) (.ref 289), de (hs 12) "__doc__" (t + 75) .none] 3 }
noncomputable def clsD : ClassData := { name := "K", bases := [.type "object"], mro := [.ref 288, .type "object"], ns := 287, qualname := "cmp_to_key.<locals>.K", hasDict := false, slotNames := ["obj"] }
noncomputable def clsO (t : Nat) : Obj := { cls := .type "type", data := .cls clsD, slots := #[some (.ref 230), none, some (.str "K" t), some (.str "cmp_to_key.<locals>.K" (t + 9)), some (.builtin "object.__new__"), some (.bool false)] }
noncomputable def desO (t : Nat) : Obj := { cls := .type "member_descriptor", data := .fields #[.str "obj" (t + 73), .ref 288, .builtin "proto.slot", .builtin "proto.slot#set", rawInt 0] }

noncomputable def KC (hs : Nat → Int) (t : Nat) : Frag := [(229, cellO), (243, codeI t), (244, initO), (251, codeL t), (252, ltO), (287, nsO hs t), (288, clsO t), (289, desO t)]
noncomputable def hashOf (o : Option Obj) (i : Nat) : Int := match o with
  | some ⟨_, _, .dict es _, _⟩ => (es.toList[i]?.elim 0 (·.hash))
  | _ => 0
end Mine

end
section
open PySem PySem.W PySem.W.X PySem.W.ZRun PyProof.Rows
set_option Elab.async false
set_option maxRecDepth 100000
set_option maxHeartbeats 0
namespace Mine
section
local macro_rules | `(tactic| k_head) => `(tactic| z_head)
open_top hz for PySem.Challenge.rw_nq0107_01
end
theorem old_tabs {h₀ h : Heap} (k : ∀ b o, h₀.get? b = some o → b ≠ 51 → b ≠ 138 → h.get? b = some o) (t1 : ∃ c, h₀.TableAt c 51 #[]) (t2 : ∃ c, h₀.TableAt c 138 #[]) (m1 : ∃ m, h.get? 51 = some (tableObj m)) (m2 : ∃ m, h.get? 138 = some (tableObj m)) : OldK h₀ h := by
  obtain ⟨c1, t1⟩ := t1
  obtain ⟨c2, t2⟩ := t2
  obtain ⟨m1, e1⟩ := m1
  obtain ⟨m2, e2⟩ := m2
  refine ⟨fun b o e => ?_, fun b o e => ?_⟩
  · by_cases q1 : b = 51
    · subst q1
      have : o = tableObj #[] := Option.some.inj (e.symm.trans t1.2)
      subst this
      exact .inr (.inl ⟨t1.isCodeTable, rfl, #[], m1, rfl, by rw [e1, Array.empty_append]; rfl⟩)
    · by_cases q2 : b = 138
      · subst q2
        have : o = tableObj #[] := Option.some.inj (e.symm.trans t2.2)
        subst this
        exact .inr (.inl ⟨t2.isCodeTable, rfl, #[], m2, rfl, by rw [e2, Array.empty_append]; rfl⟩)
      · exact .inl (k b o e q1 q2)
  · by_cases q1 : b = 51
    · exact ⟨_, q1 ▸ e1⟩
    · by_cases q2 : b = 138
      · exact ⟨_, q2 ▸ e2⟩
      · exact ⟨o, k b o e q1 q2⟩
noncomputable def objH (w : World) (a : Addr) : Obj := ((hz.heap_192 w.params).lookup a).getD { cls := .none, data := .plain }
noncomputable def fldH (o : Obj) : Array Value := match o.data with | .fields vs => vs | _ => #[]
theorem hz_tab {w : World} {h : Heap} (KX : (hz.heap_192 w.params).In h) : (∃ c, h.TableAt c 51 #[]) ∧ ∃ c, h.TableAt c 138 #[] :=
  ⟨⟨55, table_at (o := objH w 55) (vs := fldH (objH w 55)) (KX 55 _ (by kernel_rfl)) (by kernel_rfl) (by kernel_rfl) (KX 51 (tableObj #[]) (by kernel_rfl)) rfl⟩, ⟨142, table_at (o := objH w 142) (vs := fldH (objH w 142)) (KX 142 _ (by kernel_rfl)) (by kernel_rfl) (by kernel_rfl) (KX 138 (tableObj #[]) (by kernel_rfl)) rfl⟩⟩
theorem hz_open (H : ∀ (w : World) (s₁ : Shared) (xs : List Int) (vs : List Value) (Q : Value → Shared → Prop) (E : Value → Shared → Prop), (hz.heap_192 w.params).In s₁.heap → KT.Holds s₁.heap 1 0 (hz.ktop_345 w.params) → s₁.heap.objs.size = 155 → 407 ≤ s₁.toks → s₁.gens = #[] →
    s₁.heap.get? 154 = some { cls := .type "list", data := .seq vs.toArray } → IntsAre vs xs → xs.length ≤ 63 →
    (∀ h' tk, (∀ b o, s₁.heap.get? b = some o → b ≠ 51 → b ≠ 138 → h'.get? b = some o) → (∃ m, h'.get? 51 = some (tableObj m)) → (∃ m, h'.get? 138 = some (tableObj m)) → Q (.bool true) ⟨h', #[], s₁.drawn, tk, s₁.os⟩) →
    wpAny (model PySem.Challenge.rw_nq0107_01.row.prog w) callerA (call (.ref 153) [.ref 154]) Q E s₁) : PySem.Challenge.rw_nq0107_01.Holds := by
  refine hz ?_
  k_fill
  intro w s₀ s₁ mg mb G y fa o pm cd doc dV kV ho hd hcd hD hmg hg args vals as L hpre hlay hrd hwl hlo
  z_open y L KX ZH ZN ZT
  refine Ground.open G ?_
  intro T B D TE TW
  wrow_args hpre hlay hrd hwl hlo
  obtain ⟨hat, hsz⟩ := script_at L
  have htk := script_toks L ZT
  rw [ZN] at hat hsz
  subst hat
  x_fa T KX hmg
  clear hd G y D hcd hD hmg
  rename_i xs _ _ _ _ _ _ _ vs _ _ hI _ hlen _ hL _ _
  have hob := script_obj L hL
  refine H w s₁ xs vs _ _ KX ZH hsz htk hg hob hI (by omega) fun h' tk k m1 m2 => ?_
  obtain ⟨t1, t2⟩ := hz_tab KX
  exact ⟨.inl ⟨_, _, [], rfl, fun _ => rfl, ReadsW.bool true, (by first | rfl | kernel_rfl | wrow_post), fun _ => ⟨List.nodup_nil, fun _ hm => (nomatch hm)⟩⟩, old_tabs k t1 t2 m1 m2, rfl, AllBare.empty⟩
noncomputable def AA : Around := { handled := none, depth := 900, frames := none, guards := none, units := 7900 }
theorem in_of_all {K : Frag} {h : Heap} (H : ∀ p ∈ K, h.get? p.1 = some p.2) : K.In h := by
  intro a o e
  induction K with
  | nil => cases e
  | cons p r ih =>
    obtain ⟨b, ob⟩ := p
    rw [List.lookup_cons] at e
    cases q : a == b with
    | true => rw [q] at e; cases e; rw [beq_iff_eq.mp q]; exact H _ (.head _)
    | false => rw [q] at e; exact ih (fun p hp => H p (.tail _ hp)) e
theorem keepBut {V : XV} {h : Heap} {T : BT} {m : Nat} {vs : Array Value} (D : Rep V h T m [(51, vs)]) : ∀ b o, V.h₀.get? b = some o → b ≠ 51 → h.get? b = some o := fun b o e hb => D.keep b o e (by
  show (match Nat.beq 51 b with | true => some vs | false => none) = none
  rw [BT.beq_eq, decide_eq_false (Ne.symm hb)])
theorem nsFact {V : XV} {h : Heap} {T : BT} {m : Nat} {ch : Ch} (D : Rep V h T m ch) {t : Nat} (e : T.get 59 = some (nsO (hashOf (T.get 59)) t)) : h.get? (V.n₁ + 59) = some (nsO (hashOf (T.get 59)) t) := (D.own 59 _ e).2
theorem all_cons {K : Frag} {h : Heap} {a : Addr} {o : Obj} (x : h.get? a = some o) (y : ∀ p ∈ K, h.get? p.1 = some p.2) : ∀ p ∈ (a, o) :: K, h.get? p.1 = some p.2 := List.forall_mem_cons.mpr ⟨x, y⟩
section
set_option hygiene false in
local macro_rules | `(tactic| exfalso) => `(tactic| (rename_i D; exact hQ _ _ _ (in_of_all (all_cons (D.own 1 cellO (by kernel_rfl)).2 (all_cons (D.own 15 (codeI s.toks) (by kernel_rfl)).2 (all_cons (D.own 16 initO (by kernel_rfl)).2 (all_cons (D.own 23 (codeL s.toks) (by kernel_rfl)).2 (all_cons (D.own 24 ltO (by kernel_rfl)).2 (all_cons (nsFact D (t := s.toks) (by kernel_rfl)) (all_cons (D.own 60 (clsO s.toks) (by kernel_rfl)).2 (all_cons (D.own 61 (desO s.toks) (by kernel_rfl)).2 (fun _ hp => nomatch hp)))))))))) (keepBut D) (D.ch 51 _ rfl).1 D.size))
local macro_rules | `(tactic| omega) => `(tactic| first | done | omega (config := {}))
theorem cmp_to_key_AA (w : World) (s : Shared) (Q : Value → Shared → Prop) (E : Value → Shared → Prop) (ZH : KT.Holds s.heap 1 0 (hz.ktop_345 w.params)) (hsz : s.heap.objs.size = 228) (hg : s.gens = #[]) (htk : 407 ≤ s.toks)
    (hQ : ∀ h' tk hs, (KC hs s.toks).In h' → (∀ b o, s.heap.get? b = some o → b ≠ 51 → h'.get? b = some o) → h'.get? 51 = some (tableObj #[rawInt 45, rawInt 4, .ref 235]) → h'.objs.size = 292 → Q (.ref 288) ⟨h', #[], s.drawn, tk, s.os⟩) :
    wpAny (model Challenge.rw_nq0107_01.row.prog w) AA (call (.ref 56) [.ref 131]) Q E s := by
  z_run
end
end Mine

end
section
open PySem PySem.W PySem.W.X PyProof.Rows
set_option Elab.async false
set_option maxRecDepth 100000
namespace Mine

/-- the base part: all that the top laid, but the two code tables that the call may grow -/
noncomputable def KG (P : Params) : Frag := (hz.heap_192 P).filter fun p => p.1 != 51 && p.1 != 138
abbrev Base (w : World) (h : Heap) : Prop := (KG w.params).In h

noncomputable def fdOf (P : Params) (a : Addr) : FuncData := match (KG P).lookup a with
  | some ⟨_, _, .func fd, _⟩ => fd
  | _ => default

/-- a def of the text at an address -/
def IsFn (h : Heap) (a : Addr) (name : Str) (i : Nat) : Prop :=
  ∃ o pm cd doc, h.get? a = some o ∧ o.data = .func (Calls.docDef name (fnParams i) (fnBody i) (fnScope i) pm cd doc) ∧ h.CodeRec cd name

theorem isFn_of {w : World} {h : Heap} (hB : Base w h) {a : Addr} {name : Str} {i : Nat}
    (h1 : (KG w.params).lookup a = some ⟨.type "function", none, .func (fdOf w.params a), #[]⟩)
    (h2 : fdOf w.params a = Calls.docDef name (fnParams i) (fnBody i) (fnScope i) (fdOf w.params a).pyModule (fdOf w.params a).code (fdOf w.params a).doc)
    (h3 : codeIn (KG w.params) (fdOf w.params a).code name = true) : IsFn h a name i :=
  ⟨_, _, _, _, hB _ _ h1, congrArg Data.func h2, codeRec_of hB h3⟩

section
variable {w : World} {h : Heap} (hB : Base w h)
include hB
theorem fn_heappush : IsFn h 21 "heappush" 1 := isFn_of hB (by kernel_rfl) (by kernel_rfl) (by kernel_rfl)
theorem fn_heappop : IsFn h 28 "heappop" 2 := isFn_of hB (by kernel_rfl) (by kernel_rfl) (by kernel_rfl)
theorem fn_heapify : IsFn h 35 "heapify" 3 := isFn_of hB (by kernel_rfl) (by kernel_rfl) (by kernel_rfl)
theorem fn_siftdown : IsFn h 42 "_siftdown" 4 := isFn_of hB (by kernel_rfl) (by kernel_rfl) (by kernel_rfl)
theorem fn_siftup : IsFn h 49 "_siftup" 5 := isFn_of hB (by kernel_rfl) (by kernel_rfl) (by kernel_rfl)
theorem fn_sifmt : IsFn h 72 "S_IFMT" 11 := isFn_of hB (by kernel_rfl) (by kernel_rfl) (by kernel_rfl)
theorem fn_filemode : IsFn h 112 "filemode" 32 := isFn_of hB (by kernel_rfl) (by kernel_rfl) (by kernel_rfl)
theorem fn_thing : IsFn h 119 "_law_thing" 34 := isFn_of hB (by kernel_rfl) (by kernel_rfl) (by kernel_rfl)
theorem fn_seen : IsFn h 124 "_law_seen" 35 := isFn_of hB (by kernel_rfl) (by kernel_rfl) (by kernel_rfl)
theorem fn_dearer : IsFn h 131 "_law_dearer" 36 := isFn_of hB (by kernel_rfl) (by kernel_rfl) (by kernel_rfl)
theorem fn_row : IsFn h 136 "_law_row" 37 := isFn_of hB (by kernel_rfl) (by kernel_rfl) (by kernel_rfl)
theorem fn_kept : IsFn h 143 "_law_kept" 38 := isFn_of hB (by kernel_rfl) (by kernel_rfl) (by kernel_rfl)
theorem fn_best : IsFn h 148 "_law_best" 39 := isFn_of hB (by kernel_rfl) (by kernel_rfl) (by kernel_rfl)
theorem fn_law : IsFn h 153 "law" 40 := isFn_of hB (by kernel_rfl) (by kernel_rfl) (by kernel_rfl)
end
end Mine

end
section
open PySem PySem.W PySem.W.X PyProof.Rows
set_option Elab.async false
set_option maxRecDepth 100000
namespace Mine

noncomputable abbrev PR : Program := Challenge.rw_nq0107_01.row.prog
noncomputable abbrev MD (w : World) : Model := model PR w

/-- room: no exception is handled, frames and C units to spare -/
structure Good (A : Around) (d : Nat) : Prop where
  handled : A.handled = none
  depth : A.depth + d < 1000
  units : A.units + 20 * d < 9900

theorem Good.deeper {A : Around} {d : Nat} (g : Good A (d + 1)) (env : Env) : Good (A.deeper env) d :=
  ⟨g.handled, by have := g.depth; rw [depth_deeper]; (first | lia | omega), by have := g.units; rw [units_deeper]; (first | lia | omega)⟩
theorem Good.less {A : Around} {d e : Nat} (g : Good A d) (h : e ≤ d) : Good A e := ⟨g.handled, by have := g.depth; (first | lia | omega), by have := g.units; (first | lia | omega)⟩
theorem Good.room {A : Around} {d : Nat} (g : Good A d) : A.depth < recursionLimit := by have := g.depth; show _ < 1000; (first | lia | omega)

/-- all that stood stands -/
def Ext (h h' : Heap) : Prop := ∀ b o, h.get? b = some o → h'.get? b = some o
theorem Ext.refl (h : Heap) : Ext h h := fun _ _ e => e
theorem Ext.trans {a b c : Heap} (x : Ext a b) (y : Ext b c) : Ext a c := fun _ _ e => y _ _ (x _ _ e)
theorem Ext.push {h h' : Heap} (x : Ext h h') (o : Obj) : Ext h (h'.push o) := fun _ _ e => Heap.get?_push_of_some _ (x _ _ e)
theorem Ext.base {w : World} {h h' : Heap} (x : Ext h h') (hB : Base w h) : Base w h' := fun a o e => x a o (hB a o e)
theorem Ext.same {h h' h'' : Heap} {L : Addr} (x : Ext h h') (hs : Heap.SameBut L h' h'') (hL : h.objs.size ≤ L) : Ext h h'' :=
  fun b _ e => (hs.2 b (Nat.ne_of_lt (Nat.lt_of_lt_of_le (Heap.lt_size e) hL))).trans (x _ _ e)

noncomputable abbrev lk (l : List (Str × Value)) : Str → Option Value := fun x => l.lookup x

theorem lk_cons (l : List (Str × Value)) (x : Str) (v : Value) : (fun y => if y = x then some v else lk l y) = lk ((x, v) :: l) := by
  funext y
  show _ = List.lookup y ((x, v) :: l)
  rw [List.lookup_cons]
  by_cases h : y = x
  · subst h; simp
  · have : (y == x) = false := beq_eq_false_iff_ne.mpr h
    simp [h, this]

noncomputable def esOf (P : Params) (a : Addr) : Array DictEntry := match (KG P).lookup a with
  | some ⟨_, _, .dict es _, _⟩ => es
  | _ => #[]
noncomputable def keyStr (e : DictEntry) : Bool := match e.key with | .str _ _ => true | _ => false
theorem ns_of {w : World} {h : Heap} (hB : Base w h) {a : Addr} {c : Value} {n : Nat} (h1 : (KG w.params).lookup a = some ⟨c, none, .dict (esOf w.params a) n, #[]⟩)
    (h2 : (esOf w.params a).toList.all keyStr = true) : h.Ns a (nsFind (esOf w.params a)) := by
  refine ⟨_, _, _, hB _ _ h1, rfl, fun e he => ?_, fun _ => rfl⟩
  have := List.all_eq_true.mp h2 e (by simpa using he)
  unfold keyStr at this
  split at this
  · rename_i n t q; exact ⟨n, t, q⟩
  · cases this

section
variable {w : World} {h : Heap} (hB : Base w h)
include hB
theorem ns_globals : h.Ns mainGlobals (nsFind (esOf w.params 3)) := ns_of hB (a := 3) (c := .type "dict") (n := 46) (by kernel_rfl) (by kernel_rfl)
theorem ns_builtins : h.Ns builtinsNs (nsFind (esOf w.params 0)) := ns_of hB (a := 0) (c := .type "dict") (n := 159) (by kernel_rfl) (by kernel_rfl)
theorem no_limit : h.NoLimit := ⟨_, ns_of hB (a := 2) (c := .none) (n := 0) (by kernel_rfl) (by kernel_rfl), by kernel_rfl⟩
end

section
variable {w : World} {A : Around} {E : Value → Shared → Prop} {s : Shared}

/-- entering a def of the text that has no cells -/
theorem call_fn {name : Str} {i a : Nat} {args : List Value} {binds : List (Str × Value)} {Q : Value → Shared → Prop} {d : Nat} (hB : Base w s.heap) (g : Good A (d + 1)) (hF : IsFn s.heap a name i)
    (hbind : ∀ pm cd doc, bindArgs (Calls.docDef name (fnParams i) (fnBody i) (fnScope i) pm cd doc) ⟨args, []⟩ = pure binds)
    (hloc : ∀ x ∈ binds, (fnScope i).names.lookup x.1 = some .local)
    (h : ∀ h₁ cd, h₁.Ns s.heap.objs.size (lk binds.reverse) → Ext s.heap h₁ → h₁.objs.size = s.heap.objs.size + 1 → Good (A.deeper (envOf name (fnScope i) s.heap.objs.size a cd)) d →
      wpAny (MD w) (A.deeper (envOf name (fnScope i) s.heap.objs.size a cd)) (execs (fnBody i) (envOf name (fnScope i) s.heap.objs.size a cd))
        (fun f s' => Q (match f with | .ret v => v | _ => .none) s') (fun _ _ => False) { s with heap := h₁, toks := s.toks + binds.length })
    (hco : (fnScope i).isCoroutine = false) (hgen : (fnScope i).isGenerator = false) (hk : (fnScope i).kind = .function)
    (hcell : ∀ x ∈ (fnScope i).names, x.2 ≠ .cell) : wpAny (MD w) A (call (.ref a) args) Q E s := by
  obtain ⟨o, pm, cd, doc, ho, hd, hcd⟩ := hF
  refine wpAny_call (codeAny_call_function g.room ho hd hco hgen rfl hcd ?_)
  rw [hbind]
  refine wpAny_pure (wpAny_newFunctionEnv hcell hloc (fun h₁ hns hsb => ⟨(no_limit hB).fresh _ hsb, ?_⟩) hk)
  show codeAny _ _ (.func (fnBody i) (envOf name (fnScope i) s.heap.objs.size a cd)) _ _
  refine codeAny_func (wpAny_mono (h h₁ cd hns (fun b o e => ?_) ?_ (g.deeper _)) (fun f s' q => ?_) (fun _ _ x => x.elim))
  · exact hsb.extBut b o (Nat.ne_of_lt (Heap.lt_size e)) (Heap.get?_push_of_some _ e)
  · rw [hsb.1, Heap.size_push]
  · exact q

theorem ldL {name : Str} {scope : Scope} {L a : Addr} {cd : Value} {l : List (Str × Value)} {x : Str} {pos : Pos} {v : Value} {Q : Value → Shared → Prop} (hn : s.heap.Ns L (lk l)) (hv : lk l x = some v) (h : Q v s)
    (hk : scope.kind = .function := by rfl) (hl : scope.names.lookup x = some .local := by rfl) (hd : (x == ("__debug__" : Str)) = false := by rfl) :
    wpAny (MD w) A (eval (.Name x pos) (envOf name scope L a cd)) Q E s := wpAny_Name (wpAny_loadName_local hk hl hn hv h) hd
theorem stL {name : Str} {scope : Scope} {L a : Addr} {cd : Value} {l : List (Str × Value)} {x : Str} {v : Value} {Q : Unit → Shared → Prop} (hn : s.heap.Ns L (lk l))
    (h : ∀ h', h'.Ns L (lk ((x, v) :: l)) → Heap.SameBut L s.heap h' → Q () { s with heap := h', toks := s.toks + 1 })
    (hk : scope.kind = .function := by rfl) (hl : scope.names.lookup x = some .local := by rfl) :
    wpAny (MD w) A (storeName (envOf name scope L a cd) x v) Q E s :=
  wpAny_storeName_local hl hn (fun h' hn' hs => h h' (lk_cons l x v ▸ hn') hs) (by show (scope.kind == .class || (scope.kind == .module && L != mainGlobals)) = false; rw [hk]; rfl)
theorem ldG {name : Str} {scope : Scope} {L a : Addr} {cd : Value} {x : Str} {pos : Pos} {v : Value} {Q : Value → Shared → Prop} (hB : Base w s.heap) (hv : nsFind (esOf w.params 3) x = some v) (h : Q v s)
    (hk : scope.kind = .function := by rfl) (hl : scope.names.lookup x = some .globalImplicit := by rfl) (hd : (x == ("__debug__" : Str)) = false := by rfl) :
    wpAny (MD w) A (eval (.Name x pos) (envOf name scope L a cd)) Q E s :=
  Calls.Name_function_global hk hl (Calls.loadGlobal_global (env := envOf name scope L a cd) (ns_globals hB) hv h) hd
theorem ldB {name : Str} {scope : Scope} {L a : Addr} {cd : Value} {x : Str} {pos : Pos} {v : Value} {Q : Value → Shared → Prop} (hB : Base w s.heap) (hn : nsFind (esOf w.params 3) x = none) (hv : nsFind (esOf w.params 0) x = some v) (h : Q v s)
    (hk : scope.kind = .function := by rfl) (hl : scope.names.lookup x = some .globalImplicit := by rfl) (hd : (x == ("__debug__" : Str)) = false := by rfl) :
    wpAny (MD w) A (eval (.Name x pos) (envOf name scope L a cd)) Q E s :=
  Calls.Name_function_global hk hl (Calls.loadGlobal_builtin (env := envOf name scope L a cd) (ns_globals hB) hn (ns_builtins hB) hv h) hd
end
end Mine

end
section
open PySem PySem.W PySem.W.X PyProof.Rows
set_option Elab.async false
set_option maxRecDepth 100000
namespace Mine

/-- a plain list object with these items -/
def Lst (h : Heap) (a : Addr) (vs : List Value) : Prop := ∃ n, h.get? a = some (listOf vs.toArray n)
theorem Lst.isList {h : Heap} {a : Addr} {vs : List Value} (x : Lst h a vs) : h.IsList a vs.toArray := let ⟨n, e⟩ := x; ⟨_, e, rfl, n, rfl⟩
theorem Lst.ext {h h' : Heap} {a : Addr} {vs : List Value} (x : Lst h a vs) (y : Ext h h') : Lst h' a vs := let ⟨n, e⟩ := x; ⟨n, y _ _ e⟩
theorem Lst.same {h h' : Heap} {a L : Addr} {vs : List Value} (x : Lst h a vs) (hs : Heap.SameBut L h h') (hl : a ≠ L) : Lst h' a vs := let ⟨n, e⟩ := x; ⟨n, (hs.2 _ hl).trans e⟩
theorem Lst.but {h h' : Heap} {a L : Addr} {vs : List Value} (x : Lst h a vs) (hs : Heap.ExtBut L h h') (hl : a ≠ L) : Lst h' a vs := let ⟨n, e⟩ := x; ⟨n, hs _ _ hl e⟩
theorem Lst.lt {h : Heap} {a : Addr} {vs : List Value} (x : Lst h a vs) : a < h.objs.size := let ⟨_, ho⟩ := x; Heap.lt_size ho
theorem Lst.new (h : Heap) (vs : List Value) (n : Nat) : Lst (h.push (listOf vs.toArray n)) h.objs.size vs := ⟨n, Heap.get?_push_size _ rfl⟩
theorem Lst.upd {h : Heap} {a : Addr} {vs vs' : List Value} (x : Lst h a vs) (f : Array Value → Array Value) (e : f vs.toArray = vs'.toArray) : Lst (h.update a (Obj.mapSeq f)) a vs' := by
  obtain ⟨n, ho⟩ := x
  have q := PySem.IsL.update ho f
  rw [e] at q
  exact ⟨_, q⟩

theorem keep_same {h h' h'' : Heap} {H L : Addr} (x : Heap.ExtBut H h h') (hs : Heap.SameBut L h' h'') (hL : h.objs.size ≤ L) : Heap.ExtBut H h h'' :=
  fun b o hb e => (hs.2 b (Nat.ne_of_lt (Nat.lt_of_lt_of_le (Heap.lt_size e) hL))).trans (x b o hb e)
theorem keep_ext {h h' h'' : Heap} {H : Addr} (x : Heap.ExtBut H h h') (y : Ext h' h'') : Heap.ExtBut H h h'' := fun b o hb e => y b o (x b o hb e)
theorem keep_list {h h' h'' : Heap} {H : Addr} (x : Heap.ExtBut H h h') (hs : Heap.SameBut H h' h'') : Heap.ExtBut H h h'' := fun b o hb e => (hs.2 b hb).trans (x b o hb e)
theorem keep_trans {h h' h'' : Heap} {H : Addr} (x : Heap.ExtBut H h h') (y : Heap.ExtBut H h' h'') : Heap.ExtBut H h h'' := fun b o hb e => y b o hb (x b o hb e)
theorem ext_but {h h' : Heap} {H : Addr} (x : Ext h h') : Heap.ExtBut H h h' := fun b o _ e => x b o e
theorem ns_ext {h h' : Heap} {L : Addr} {m : Str → Option Value} (x : h.Ns L m) (y : Ext h h') : h'.Ns L m := x.keeps y
theorem base_lt {w : World} {a : Addr} {o : Obj} (e : (KG w.params).lookup a = some o) (hH : 154 ≤ a) : False := by
  have key : ∀ p ∈ KG w.params, p.1 < 154 := by
    have : ((KG w.params).map (·.1)).all (fun a => Nat.blt a 154) = true := by kernel_rfl
    intro p hp
    have := List.all_eq_true.mp this p.1 (List.mem_map_of_mem hp)
    exact Nat.le_of_ble_eq_true this
  have mem : ∀ (K : Frag) (a : Addr) (o : Obj), K.lookup a = some o → (a, o) ∈ K := by
    intro K
    induction K with
    | nil => intro a o e; cases e
    | cons p r ih =>
      intro a o e
      obtain ⟨b, ob⟩ := p
      rw [List.lookup_cons] at e
      cases q : a == b with
      | true => rw [q] at e; cases e; rw [beq_iff_eq.mp q]; exact .head _
      | false => rw [q] at e; exact .tail _ (ih a o e)
  exact absurd (key _ (mem _ _ _ e)) (Nat.not_lt.mpr hH)
theorem base_but {w : World} {h h' : Heap} {H : Addr} (hB : Base w h) (x : Heap.ExtBut H h h') (hH : 154 ≤ H) : Base w h' := by
  intro a o e
  refine x a o (fun q => ?_) (hB a o e)
  subst q
  exact base_lt e hH

/-- the def at a, as the text's top left it -/
def FnLook (w : World) (a : Addr) : Prop := (KG w.params).lookup a = some ⟨.type "function", none, .func (fdOf w.params a), #[]⟩

section
variable {w : World} {A : Around} {E : Value → Shared → Prop} {s : Shared}

theorem tailL {value slice : PySem.Expr} {l : Addr} {vs : List Value} {k : Int} {u : Tok} {v : Value} {Q : Value → Shared → Prop}
    (hl : Lst s.heap l vs) (h0 : 0 ≤ k) (hx : vs[k.toNat]? = some v) (hlen : vs.length ≤ 100000) (h : Q v s)
    (hs : subscripted slice false (.ref l) (.int k u) = operate [.ref l, .int k u] (getItem (.ref l) (.int k u)) := by rfl) :
    wpAny (MD w) A (subscriptTail value slice (.ref l) (.int k u)) Q E s :=
  tail_any hl.isList.typeIs slot_list_getitem.lookup (wpAny_getItem_list hl.isList h0 (by
    have : k.toNat < vs.length := (List.getElem?_eq_some_iff.mp hx).1
    (first | lia | omega)) (by simpa using hx) h) hs

theorem setL {l : Addr} {vs : List Value} {k : Int} {t : Tok} {v : Value} {Q : Unit → Shared → Prop} (hl : Lst s.heap l vs) (h0 : 0 ≤ k) (hn : k.toNat < vs.length) (hlen : vs.length ≤ 100000)
    (hQ : ∀ h', Lst h' l (vs.set k.toNat v) → Heap.SameBut l s.heap h' → Q () { s with heap := h' }) : wpAny (MD w) A (setItem (.ref l) (.int k t) v) Q E s := by
  obtain ⟨n, ho⟩ := id hl
  exact ki_setAt ho h0 (by (first | lia | omega)) (by simp; (first | lia | omega)) (hQ _ (hl.upd _ (by simp)) (Heap.SameBut.update ..))

theorem lenL {l : Addr} {vs : List Value} {Q : Value → Shared → Prop} (hl : Lst s.heap l vs) (hlen : vs.length ≤ 100000)
    (h : ∀ t tk, Q (.int vs.length t) { s with toks := tk }) : wpAny (MD w) A (call (.builtin "len") [.ref l]) Q E s :=
  len_list hl.isList (by simp; (first | lia | omega)) (by simpa using h _ _)

theorem appendL {l : Addr} {vs : List Value} {x : Value} {Q : Value → Shared → Prop} (hl : Lst s.heap l vs) (hlen : vs.length ≤ 100000)
    (hQ : ∀ h', Lst h' l (vs ++ [x]) → Heap.SameBut l s.heap h' → Q .none { s with heap := h' }) : wpAny (MD w) A (call (.builtin "list.append") [.ref l, x]) Q E s := by
  obtain ⟨n, ho⟩ := id hl
  refine wpAny_call_entry slot_list_append hl.isList.typeIs entry_list_append ?_ (args_list_append _ _)
  show wpAny _ _ (updateSeq l (·.push x) >>= fun _ => ret .none) _ _ s
  refine wpAny_bind ?_
  have hz : vs.toArray.size ≤ sizeLine := by simp [sizeLine]; (first | lia | omega)
  exact wpAny_updateSeq ho rfl (wpAny_pure ⟨.none, rfl, hQ _ (hl.upd _ (by simp)) (Heap.SameBut.update ..)⟩) hz

theorem popL {l : Addr} {vs : List Value} {y : Value} {Q : Value → Shared → Prop} (hl : Lst s.heap l (vs ++ [y])) (hlen : vs.length ≤ 100000)
    (hQ : ∀ h', Lst h' l vs → Heap.SameBut l s.heap h' → Q y { s with heap := h' }) : wpAny (MD w) A (call (.builtin "list.pop") [.ref l]) Q E s := by
  obtain ⟨n, ho⟩ := id hl
  have hz : (vs ++ [y]).toArray.size ≤ sizeLine := by simp [sizeLine]; (first | lia | omega)
  have hk : (vs ++ [y]).toArray.size - 1 = vs.length := by rw [List.size_toArray, List.length_append]; rfl
  have hy : (vs ++ [y]).toArray[(vs ++ [y]).toArray.size - 1]? = some y := by rw [hk]; simp
  refine PySem.call_meets PySem.F.slot_list_pop ⟨_, ho, rfl⟩ PySem.F.entry_list_pop (PySem.F.args_list_pop_1 _) (PySem.MeetsSeq.list_pop_last l _ n y hy hz) ⟨ho, hQ _ (hl.upd _ ?_) (Heap.SameBut.update ..)⟩
  show (vs ++ [y]).toArray.eraseIdxIfInBounds ((vs ++ [y]).toArray.size - 1) = vs.toArray
  rw [hk, kl_erase, List.append_nil]

inductive OnL (w : World) (A : Around) (E : Value → Shared → Prop) (pos : Pos) (id : String) (as : List (Bool × Sem Value)) (Q : Value → Shared → Prop) (ov : Value) (s₁ : Shared) : Prop
  | mk (l : Addr) (vs : List Value) (ho : ov = .ref l) (hl : Lst s₁.heap l vs) (h : wpAny (MD w) A (callWith pos (.builtin id) [.ref l] as []) Q E s₁) : OnL w A E pos id as Q ov s₁
/-- a method of a plain list, called -/
theorem methL {o : Expr} {name : Str} {apos pos : Pos} {args : List Expr} {env : Env} {id : String} {Q : Value → Shared → Prop} (slot : Slot "list" name id) (hty : typeOf (.builtin id) = pure (.type "method_descriptor"))
    (hbase : attributeBase o name env (eval o env) = eval o env)
    (hfew : ((backTo pos (starEach args env)).all (fun x => !x.1) && (backToKw pos (keywordEach [] env)).all (fun x => x.1.isSome)
      && decide (args.length + ([] : List Keyword).length + (if ([] : List Keyword).isEmpty then 0 else 1) < 30)) = true)
    (hline : (apos.endLine == pos.line) = true)
    (h : wpAny (MD w) A (eval o env) (fun ov s₁ => OnL w A E pos id (backTo pos (starEach args env)) Q ov s₁) E s) :
    wpAny (MD w) A (eval (.Call (.Attribute o name apos) args [] pos) env) Q E s := by
  refine wpAny_Call_method_lateS hbase hfew hline (wpAny_mono h (fun ov s₁ h₁ => ?_) fun _ _ e => e)
  obtain ⟨l, vs, rfl, ⟨n, ho⟩, hc⟩ := h₁
  exact ⟨"list", id, PySem.F.plainAttrs_list, slot, hty, ⟨_, ho, rfl⟩, (fun a e => by cases e; exact ⟨_, ho, rfl⟩), hc⟩

theorem with0 {pos : Pos} {id : String} {v : Value} {Q : Value → Shared → Prop} (h : wpAny (MD w) A (call (.builtin id) [v]) Q E s) : wpAny (MD w) A (callWith pos (.builtin id) [v] [] []) Q E s :=
  Calls.callWith_builtin rfl (evalArgs_nil3 h)
theorem with1 {pos : Pos} {id : String} {v : Value} {t : Sem Value} {Q : Value → Shared → Prop} (h : wpAny (MD w) A t (fun y s₁ => wpAny (MD w) A (call (.builtin id) [v, y]) Q E s₁) E s) :
    wpAny (MD w) A (callWith pos (.builtin id) [v] [(false, t)] []) Q E s :=
  Calls.callWith_builtin rfl (Calls.evalArgs_plain (Calls.spliced_cons (wpAny_mono h (fun _ _ h₁ => Calls.spliced_nil h₁) fun _ _ e => e)))

theorem Call_Name3 {env : Env} {x : Str} {p pos : Pos} {e₁ e₂ e₃ : Expr} {Q : Value → Shared → Prop}
    (h : wpAny (MD w) A (eval (.Name x p) env) (fun f s₁ => wpAny (MD w) A (callWith pos f [] [(false, eval e₁ env), (false, eval e₂ env), (false, eval e₃ env)] []) Q E s₁) E s)
    (hs : starEach [e₁, e₂, e₃] env = [(false, eval e₁ env), (false, eval e₂ env), (false, eval e₃ env)] := by rfl) :
    wpAny (MD w) A (eval (.Call (.Name x p) [e₁, e₂, e₃] [] pos) env) Q E s := Call_Name (by rw [hs]; rfl) h

/-- a def of the text called by its name -/
theorem callT {pos : Pos} {a : Addr} {t : Sem Value} {rest : List (Bool × Sem Value)} {Q : Value → Shared → Prop} (hl : FnLook w a)
    (h : wpAny (MD w) A (spliced ((false, t) :: rest)) (fun vs s₁ => Base w s₁.heap ∧ wpAny (MD w) A (call (.ref a) vs) Q E s₁) E s) :
    wpAny (MD w) A (callWith pos (.ref a) [] ((false, t) :: rest) []) Q E s :=
  callWith_function_kw (o := ⟨.type "function", none, .func (fdOf w.params a), #[]⟩) (fd := fdOf w.params a)
    (Calls.evalArgs_plain (wpAny_mono h (fun _ _ h₁ => ⟨⟨h₁.1 _ _ hl, rfl⟩, h₁.2⟩) fun _ _ e => e))
theorem call1 {pos : Pos} {a : Addr} {t : Sem Value} {Q : Value → Shared → Prop} (hl : FnLook w a)
    (h : wpAny (MD w) A t (fun v s₁ => Base w s₁.heap ∧ wpAny (MD w) A (call (.ref a) [v]) Q E s₁) E s) : wpAny (MD w) A (callWith pos (.ref a) [] [(false, t)] []) Q E s :=
  callT hl (Calls.spliced_cons (wpAny_mono h (fun _ _ h₁ => Calls.spliced_nil h₁) fun _ _ e => e))
theorem call2 {pos : Pos} {a : Addr} {t u : Sem Value} {Q : Value → Shared → Prop} (hl : FnLook w a)
    (h : wpAny (MD w) A t (fun v s₁ => wpAny (MD w) A u (fun v' s₂ => Base w s₂.heap ∧ wpAny (MD w) A (call (.ref a) [v, v']) Q E s₂) E s₁) E s) : wpAny (MD w) A (callWith pos (.ref a) [] [(false, t), (false, u)] []) Q E s :=
  callT hl (Calls.spliced_cons (wpAny_mono h (fun _ _ h₁ => Calls.spliced_cons (wpAny_mono h₁ (fun _ _ h₂ => Calls.spliced_nil h₂) fun _ _ e => e)) fun _ _ e => e))
theorem call3 {pos : Pos} {a : Addr} {t u v : Sem Value} {Q : Value → Shared → Prop} (hl : FnLook w a)
    (h : wpAny (MD w) A t (fun x s₁ => wpAny (MD w) A u (fun y s₂ => wpAny (MD w) A v (fun z s₃ => Base w s₃.heap ∧ wpAny (MD w) A (call (.ref a) [x, y, z]) Q E s₃) E s₂) E s₁) E s) :
    wpAny (MD w) A (callWith pos (.ref a) [] [(false, t), (false, u), (false, v)] []) Q E s :=
  callT hl (Calls.spliced_cons (wpAny_mono h (fun _ _ h₁ => Calls.spliced_cons (wpAny_mono h₁ (fun _ _ h₂ => Calls.spliced_cons (wpAny_mono h₂ (fun _ _ h₃ => Calls.spliced_nil h₃) fun _ _ e => e)) fun _ _ e => e)) fun _ _ e => e))
end
end Mine

end
section
open PySem PySem.W PySem.W.X PyProof.Rows
set_option Elab.async false
set_option maxRecDepth 100000
set_option maxHeartbeats 0
set_option linter.unusedVariables false
namespace Mine

theorem wider {α : Type} {M : Model} {A : Around} {t : Sem α} {Q : α → Shared → Prop} {E : Value → Shared → Prop} {s : Shared} (g : Good A 100) (h : wpAny M AA t Q E s) : wpAny M A t Q E s := by
  intro Γ p hΓ
  obtain ⟨h1, h2, _, _, h5⟩ := hΓ
  refine h Γ p ⟨h1.trans g.handled, ?_, fun l hl => (nomatch hl), fun l hl => (nomatch hl), ?_⟩
  · have := g.depth; show _ ≤ 900; (first | lia | omega)
  · have := g.units; show _ ≤ 7900; (first | lia | omega)

section
variable {w : World} {A : Around} {s : Shared} {E : Value → Shared → Prop} {Q : Value → Shared → Prop}
theorem range1_any {n : Int} {t : Tok} (hQ : ∀ a h' tk, Ext s.heap h' → (∃ t u v, IsRange h' a 0 n 1 t u v) → Q (.ref a) { s with heap := h', toks := tk }) : wpAny (MD w) A (call (.type "range") [.int n t]) Q E s :=
  call_range_1 (hQ _ _ _ (fun b o e => Heap.get?_push_of_some _ e) ⟨_, _, _, IsRange.new ..⟩)
noncomputable abbrev rit : Obj := { cls := .type "range_iterator", data := .fields #[rawInt 0, rawInt 1, rawInt (-1)] }
theorem call_range_reversed {r : Addr} {t u v : Tok} (hr : IsRange s.heap r 0 1 1 t u v) (h : Q (.ref s.heap.objs.size) { s with heap := s.heap.push rit }) :
    wpAny (MD w) A (call (.builtin "range.__reversed__") [.ref r]) Q E s := by
  refine wpAny_call_entry PySem.F.slot_range_reversed ⟨_, hr, rfl⟩ PySem.F.entry_range_reversed ?_ (PySem.F.args_range_reversed_1 _)
  unfold Builtin.«range.__reversed__»
  refine wpAny_bind (wpAny_of_eq (a := Value.ref r) rfl ?_)
  refine wpAny_bind (m := Builtin.Range.rangeFields (.ref r)) ?_
  unfold Builtin.Range.rangeFields
  refine wpAny_bind (wpAny_field hr rfl (x := .int 0 t) rfl ?_)
  refine wpAny_bind (wpAny_of_eq (a := some 0) rfl ?_)
  refine wpAny_bind (wpAny_field hr rfl (x := .int 1 u) rfl ?_)
  refine wpAny_bind (wpAny_of_eq (a := some 1) rfl ?_)
  refine wpAny_bind (wpAny_field hr rfl (x := .int 1 v) rfl ?_)
  refine wpAny_bind (wpAny_of_eq (a := some 1) rfl ?_)
  refine wpAny_pure ?_
  exact wpAny_bind (wpAny_newObj_type (wpAny_pure ⟨_, rfl, h⟩))

theorem code_reversed_range {r : Addr} {t u v : Tok} {Q₁ : Value → Shared → Prop} (hr : IsRange s.heap r 0 1 1 t u v) (h : Q₁ (.ref s.heap.objs.size) { s with heap := s.heap.push rit }) :
    codeAny (MD w) A (.call (.builtin "reversed.__new__") ⟨[.type "reversed", .ref r], []⟩) (wants Q₁ E) s := by
  refine codeAny_of_tree ?_
  show wpAny _ A.in1 (do checkBuiltinCall "reversed.__new__" ⟨[.type "reversed", .ref r], []⟩; again (.builtin "reversed.__new__" ⟨[.type "reversed", .ref r], []⟩)) _ _ s
  refine wpAny_bind (wpAny_of_eq (PySem.F.newCall_reversed_1 _) (wpAny_pure ⟨plainId_quiet PySem.F.plain_reversed_new _, codeAny_builtin PySem.F.entry_reversed_new ?_⟩))
  rw [Around.under_plainId PySem.F.plain_reversed_new _]
  unfold Builtin.«reversed.__new__»
  refine wpAny_bind (wpAny_of_eq (newClass_reversed _) ?_)
  refine wpAny_bind (wpAny_of_eq (a := ()) (by kernel_rfl) ?_)
  refine wpAny_bind (wpAny_of_eq (a := ()) (by kernel_rfl) ?_)
  refine wpAny_bind (wpAny_specialOf (T := "range") ⟨_, hr, rfl⟩ PySem.F.slot_range_reversed.lookup ?_)
  refine wpAny_bind (wpAny_of_eq (PySem.F.slot_range_reversed.bind _) ?_)
  show wpAny _ _ (if (Value.builtin "range.__reversed__" == Value.none) = true then _ else _) _ _ _
  rw [if_neg (show ¬ ((Value.builtin "range.__reversed__" == Value.none) = true) from Bool.false_ne_true)]
  refine wpAny_bind (wpAny_rule ?_)
  refine wpAny_bind (m := runValue (.call (.builtin "range.__reversed__") ⟨[.ref r], []⟩)) (show wpAny _ _ (call (.builtin "range.__reversed__") [.ref r]) _ _ _ from call_range_reversed hr ?_)
  first
  | exact wpAny_pure h
  | exact wpAny_bind (wpAny_pure (wpAny_pure h))

theorem reversed_range {r : Addr} {t u v : Tok} (hr : IsRange s.heap r 0 1 1 t u v) (h : Q (.ref s.heap.objs.size) { s with heap := s.heap.push rit }) :
    wpAny (MD w) A (call (.type "reversed") [.ref r]) Q E s := by
  refine callType_other (U := "range_iterator") (Q₁ := fun obj s₁ => obj = .ref s.heap.objs.size ∧ s₁ = { s with heap := s.heap.push rit }) (by decide +kernel) PySem.F.create_reversed ⟨_, _, PySem.F.mro_reversed⟩ PySem.F.made_reversed (by rw [isSubtype_type]; kernel_rfl) (PySem.F.typeCall_reversed_1 _) (code_reversed_range hr ⟨rfl, rfl⟩) ?_
  rintro obj s₁ ⟨rfl, rfl⟩
  exact ⟨⟨_, Heap.get?_push_size _ rfl, rfl⟩, h⟩
end
end Mine

end
section
open PySem PySem.W PySem.W.X PyProof.Rows
set_option Elab.async false
set_option maxRecDepth 100000
namespace Mine

/-- the comparison by < of the items, told ahead: it keeps all but the list at H -/
def CmpOk (w : World) (H : Addr) (h : Heap) (lt : Value → Value → Bool) (vals : List Value) : Prop :=
  ∀ x ∈ vals, ∀ y ∈ vals, ∀ (s : Shared) (A : Around) (Q : Value → Shared → Prop) (E : Value → Shared → Prop), Heap.ExtBut H h s.heap → Good A 100 →
    (∀ h' tk, Ext s.heap h' → Q (.bool (lt x y)) { s with heap := h', toks := tk }) → wpAny (MD w) A (compareOp .Lt x y) Q E s

noncomputable def sdG (lt : Value → Value → Bool) (start : Nat) (new : Value) (vs : List Value) (pos : Nat) : List Value :=
  if start < pos then
    if lt new (vs.getD ((pos - 1) / 2) .none) then sdG lt start new (vs.set pos (vs.getD ((pos - 1) / 2) .none)) ((pos - 1) / 2) else vs.set pos new
  else vs.set pos new
termination_by pos
decreasing_by (first | lia | omega)

section
variable {w : World} {A : Around} {E : Value → Shared → Prop} {s : Shared}
/-- a while that ends in J -/
theorem while_J {test : Expr} {body : List Stmt} {pos : Pos} {env : Env} {Q : Flow → Shared → Prop} (I : Nat → Shared → Prop) (J : Shared → Prop) (exit : ∀ s, J s → Q .next s)
    (turn : ∀ n s E', I n s → wpAny (MD w) A (isTrue test env (eval test env)) (fun b s₂ => if b = true then wpAny (MD w) A (execs body env) (fun f s₃ => match f with
      | .next | .cont => ∃ m, m < n ∧ I m s₃
      | .brk => J s₃
      | .ret _ => False) E' s₂ else J s₂) E' s) (n : Nat) (h : I n s) : wpAny (MD w) A (exec (.While test body [] pos) env) Q E s := by
  refine wpAny_While (codeAny_whileLoop I (fun n s hI => wpAny_mono (turn n s _ hI) (fun b s₂ hb => ?_) fun _ _ e => e) n h)
  cases b with
  | false => exact wpAny_execs_nil (exit _ hb)
  | true =>
    refine wpAny_mono hb (fun f s₃ hf => ?_) fun _ _ e => e
    cases f with
    | next => exact hf
    | cont => exact hf
    | brk => exact exit _ hf
    | ret v => exact hf.elim
inductive SdSt (s : Shared) (H : Addr) (lt : Value → Value → Bool) (start : Nat) (ts : Tok) (new : Value) (vs₀ : List Value) (pos₀ : Nat) (n : Nat) (s' : Shared) : Prop
  | mk (h' : Heap) (tk : Nat) (l : List (Str × Value)) (vs : List Value) (pos : Nat) (tp : Tok) (hs : s' = { s with heap := h', toks := tk }) (f0 : h'.Ns s.heap.objs.size (lk l)) (f1 : lk l "heap" = some (.ref H)) (f2 : lk l "startpos" = some (.int start ts)) (f3 : lk l "pos" = some (.int pos tp)) (f4 : lk l "newitem" = some new) (f5 : Lst h' H vs) (f6 : Heap.ExtBut H s.heap h') (f7 : (∀ x ∈ vs, x ∈ vs₀)) (f8 : vs.length = vs₀.length) (f9 : pos < vs.length) (f10 : sdG lt start new vs pos = sdG lt start new vs₀ pos₀) (f11 : pos = n) : SdSt s H lt start ts new vs₀ pos₀ n s'
inductive SdJ (s : Shared) (H : Addr) (new : Value) (n : Nat) (res : List Value) (s' : Shared) : Prop
  | mk (h' : Heap) (tk : Nat) (l : List (Str × Value)) (vs : List Value) (pos : Nat) (tp : Tok) (hs : s' = { s with heap := h', toks := tk }) (f0 : h'.Ns s.heap.objs.size (lk l)) (f1 : lk l "heap" = some (.ref H)) (f2 : lk l "pos" = some (.int pos tp)) (f3 : lk l "newitem" = some new) (f4 : Lst h' H vs) (f5 : Heap.ExtBut H s.heap h') (f6 : vs.length = n) (f7 : pos < vs.length) (f8 : vs.set pos new = res) : SdJ s H new n res s'
theorem siftdown_spec {H : Addr} {lt : Value → Value → Bool} {vs₀ : List Value} {start pos₀ : Nat} {ts tp : Tok} {Q : Value → Shared → Prop} (hB : Base w s.heap) (g : Good A 101)
    (hl : Lst s.heap H vs₀) (hC : CmpOk w H s.heap lt vs₀) (hlen : vs₀.length ≤ 1000) (hpos : pos₀ < vs₀.length)
    (hQ : ∀ h' tk, Lst h' H (sdG lt start (vs₀.getD pos₀ .none) vs₀ pos₀) → Heap.ExtBut H s.heap h' → Q .none { s with heap := h', toks := tk }) :
    wpAny (MD w) A (call (.ref 42) [.ref H, .int start ts, .int pos₀ tp]) Q E s := by
  have hH : H < s.heap.objs.size := hl.lt
  have hget : vs₀[pos₀]? = some (vs₀.getD pos₀ .none) := by rw [List.getD_eq_getElem?_getD, List.getElem?_eq_getElem hpos]; rfl
  have hmem : vs₀.getD pos₀ .none ∈ vs₀ := List.mem_of_getElem? hget
  generalize hnew : vs₀.getD pos₀ .none = new at hQ hget hmem
  refine call_fn (binds := [("heap", .ref H), ("startpos", .int start ts), ("pos", .int pos₀ tp)]) hB g (fn_siftdown hB) (fun _ _ _ => rfl) (locs rfl) (fun h₁ cd hn₁ hx₁ hz₁ g' => ?_) rfl rfl rfl (by decide)
  have hl₁ := hl.ext hx₁
  refine wpAny_execs_cons (wpAny_Assign_Name (Subscript_ (ldL hn₁ rfl (ldL hn₁ rfl (tailL hl₁ (Int.natCast_nonneg _) (by rw [Int.toNat_natCast]; exact hget) (by (first | lia | omega)) (stL hn₁ fun h₂ hn₂ hs₂ => ?_))))))
  dsimp only at hn₂ hs₂ ⊢
  have hk₂ : Heap.ExtBut H s.heap h₂ := keep_same (fun b o _ e => hx₁ b o e) hs₂ (Nat.le_refl _)
  have hl₂ := hl₁.same hs₂ (Nat.ne_of_lt hH)
  have hLb : s.heap.objs.size ≤ s.heap.objs.size := Nat.le_refl _
  refine wpAny_execs_cons (while_J (SdSt s H lt start ts new vs₀ pos₀) (SdJ s H new vs₀.length (sdG lt start new vs₀ pos₀)) ?_ ?_ pos₀ ⟨h₂, _, _, vs₀, pos₀, tp, rfl, hn₂, rfl, rfl, rfl, rfl, hl₂, hk₂, fun _ h => h, rfl, hpos, rfl, rfl⟩)
  · rintro s' ⟨h', tk, l, vs, pos, tp', rfl, hn, e1, e3, e4, hl, hk, hvl, hp, heq⟩
    refine wpAny_execs_cons (wpAny_Assign_Subscript (ldL hn e4 (ldL hn e1 (ldL hn e3 (setL hl (Int.natCast_nonneg _) (by rw [Int.toNat_natCast]; exact hp) (by (first | lia | omega)) fun h₆ hl₆ hs₆ => ?_)))))
    exact wpAny_execs_nil (hQ _ _ (heq ▸ hl₆) (keep_list hk hs₆))
  · clear hQ hl₁ hn₁ hx₁ hz₁ hk₂ hl₂ hn₂ hs₂ hl hget
    rintro n s' E' ⟨h', tk, l, vs, pos, tp', rfl, hn, e1, e2, e3, e4, hl, hk, hsub, hvl, hp, heq, rfl⟩
    refine wpAny_isTrue_Compare1 (ldL hn e3 (ldL hn e2 (gt_int (wpAny_truthy_bool ?_))))
    by_cases hgt : start < pos
    · rw [if_pos (by simpa using Int.ofNat_lt.mpr hgt)]
      have hq : (pos - 1) / 2 < vs.length := by (first | lia | omega)
      have hqx : vs[(pos - 1) / 2]? = some (vs.getD ((pos - 1) / 2) .none) := by rw [List.getD_eq_getElem?_getD, List.getElem?_eq_getElem hq]; rfl
      have hqm : vs.getD ((pos - 1) / 2) .none ∈ vs₀ := hsub _ (List.mem_of_getElem? hqx)
      have hsd : sdG lt start new vs pos = if lt new (vs.getD ((pos - 1) / 2) .none) then sdG lt start new (vs.set pos (vs.getD ((pos - 1) / 2) .none)) ((pos - 1) / 2) else vs.set pos new := by
        rw [sdG, if_pos hgt]
      generalize vs.getD ((pos - 1) / 2) .none = par at hqx hqm hsd
      have e5 : ((pos : Int) - 1) / 2 = (((pos - 1) / 2 : Nat) : Int) := by (first | lia | omega)
      refine wpAny_execs_cons (wpAny_Assign_Name (wpAny_BinOp (wpAny_BinOp (ldL hn e3 (wpAny_Constant_int (sub_int (wpAny_Constant_int (wpAny_rshift1_int (by (first | lia | omega)) (stL hn fun h₃ hn₃ hs₃ => ?_)))))))))
      dsimp only at hn₃ hs₃ ⊢
      rw [e5] at hn₃
      have hl₃ := hl.same hs₃ (Nat.ne_of_lt hH)
      have hk₃ := keep_same hk hs₃ hLb
      refine wpAny_execs_cons (wpAny_Assign_Name (Subscript_ (ldL hn₃ e1 (ldL hn₃ rfl (tailL hl₃ (Int.natCast_nonneg _) (by rw [Int.toNat_natCast]; exact hqx) (by (first | lia | omega)) (stL hn₃ fun h₄ hn₄ hs₄ => ?_))))))
      dsimp only at hn₄ hs₄ ⊢
      have hl₄ := hl₃.same hs₄ (Nat.ne_of_lt hH)
      have hk₄ := keep_same hk₃ hs₄ hLb
      refine wpAny_execs_cons (wpAny_If (wpAny_isTrue_Compare1 (ldL hn₄ e4 (ldL hn₄ rfl (hC _ hmem _ hqm _ _ _ _ hk₄ (g'.less (by (first | lia | omega))) fun h₅ tk₅ hx₅ => wpAny_truthy_bool ?_)))))
      have hl₅ := hl₄.ext hx₅
      have hk₅ := keep_ext hk₄ hx₅
      have hn₅ := ns_ext hn₄ hx₅
      dsimp only at hl₅ hk₅ hn₅ ⊢
      cases hlt : lt new par with
      | true =>
        rw [if_pos rfl]
        rw [hlt, if_pos rfl] at hsd
        refine wpAny_execs_cons (wpAny_Assign_Subscript (ldL hn₅ rfl (ldL hn₅ e1 (ldL hn₅ e3 (setL hl₅ (Int.natCast_nonneg _) (by rw [Int.toNat_natCast]; exact hp) (by (first | lia | omega)) fun h₆ hl₆ hs₆ => ?_)))))
        dsimp only at hl₆ hs₆ ⊢
        have hn₆ := hn₅.sameBut hs₆ (Nat.ne_of_gt hH)
        have hk₆ := keep_list hk₅ hs₆
        refine wpAny_execs_cons (wpAny_Assign_Name (ldL hn₆ rfl (stL hn₆ fun h₇ hn₇ hs₇ => ?_)))
        dsimp only at hn₇ hs₇ ⊢
        refine wpAny_execs_cons (wpAny_Continue ?_)
        refine ⟨(pos - 1) / 2, by (first | lia | omega), h₇, _, _, vs.set pos par, (pos - 1) / 2, _, rfl, hn₇, e1, e2, rfl, e4, ?_, keep_same hk₆ hs₇ hLb, ?_, by rw [List.length_set]; exact hvl, by rw [List.length_set]; exact hq, hsd.symm.trans heq, rfl⟩
        · exact hl₆.same hs₇ (Nat.ne_of_lt hH)
        · intro x hx
          rcases List.mem_or_eq_of_mem_set hx with h | h
          · exact hsub x h
          · exact h ▸ hqm
      | false =>
        rw [if_neg (by decide)]
        rw [hlt, if_neg (by decide)] at hsd
        exact wpAny_execs_nil (wpAny_execs_cons (wpAny_Break ⟨h₅, _, _, vs, pos, _, rfl, hn₅, e1, e3, e4, hl₅, hk₅, hvl, hp, hsd.symm.trans heq⟩))
    · rw [if_neg (by simpa using fun h => hgt h)]
      have hsd : sdG lt start new vs pos = vs.set pos new := by rw [sdG, if_neg hgt]
      exact ⟨h', _, _, vs, pos, _, rfl, hn, e1, e3, e4, hl, hk, hvl, hp, hsd.symm.trans heq⟩
end
end Mine

end
section
open PySem PySem.W PySem.W.X PyProof.Rows
set_option Elab.async false
set_option maxRecDepth 100000
namespace Mine

noncomputable def childOf (lt : Value → Value → Bool) (vs : List Value) (pos : Nat) : Nat :=
  if 2 * pos + 2 < vs.length ∧ lt (vs.getD (2 * pos + 1) .none) (vs.getD (2 * pos + 2) .none) = false then 2 * pos + 2 else 2 * pos + 1
theorem childOf_gt (lt : Value → Value → Bool) (vs : List Value) (pos : Nat) : pos < childOf lt vs pos := by unfold childOf; split <;> (first | lia | omega)
theorem childOf_lt {lt : Value → Value → Bool} {vs : List Value} {pos : Nat} (h : 2 * pos + 1 < vs.length) : childOf lt vs pos < vs.length := by unfold childOf; split <;> (first | lia | omega)

noncomputable def suG (lt : Value → Value → Bool) (vs : List Value) (pos : Nat) : List Value × Nat :=
  if _h : 2 * pos + 1 < vs.length then suG lt (vs.set pos (vs.getD (childOf lt vs pos) .none)) (childOf lt vs pos) else (vs, pos)
termination_by vs.length - pos
decreasing_by have := childOf_gt lt vs pos; rw [List.length_set]; (first | lia | omega)

noncomputable def siftupG (lt : Value → Value → Bool) (vs : List Value) (pos : Nat) : List Value :=
  let r := suG lt vs pos
  let vs' := r.1.set r.2 (vs.getD pos .none)
  sdG lt pos (vs'.getD r.2 .none) vs' r.2

theorem getD_some {vs : List Value} {i : Nat} (h : i < vs.length) : vs[i]? = some (vs.getD i .none) := by
  rw [List.getD_eq_getElem?_getD, List.getElem?_eq_getElem h]; rfl

section
variable {w : World} {A : Around} {E : Value → Shared → Prop} {s : Shared}
theorem look_siftdown : FnLook w 42 := by unfold FnLook; kernel_rfl
theorem CmpOk.mono {H : Addr} {h h' : Heap} {lt : Value → Value → Bool} {vs vs' : List Value} (c : CmpOk w H h lt vs) (x : Heap.ExtBut H h h') (hs : ∀ v ∈ vs', v ∈ vs) : CmpOk w H h' lt vs' :=
  fun a ha b hb s A Q E y g k => c a (hs a ha) b (hs b hb) s A Q E (keep_trans x y) g k

inductive SuSt (s : Shared) (H : Addr) (lt : Value → Value → Bool) (new : Value) (vs₀ : List Value) (pos₀ : Nat) (n : Nat) (s' : Shared) : Prop
  | mk (h' : Heap) (tk : Nat) (l : List (Str × Value)) (vs : List Value) (pos : Nat) (tp te tc tq : Tok) (hs : s' = { s with heap := h', toks := tk }) (f0 : h'.Ns s.heap.objs.size (lk l)) (f1 : lk l "heap" = some (.ref H)) (f2 : lk l "startpos" = some (.int pos₀ tq)) (f3 : lk l "pos" = some (.int pos tp)) (f4 : lk l "newitem" = some new) (f5 : lk l "endpos" = some (.int vs₀.length te)) (f6 : lk l "childpos" = some (.int (2 * pos + 1) tc)) (f7 : Lst h' H vs) (f8 : Heap.ExtBut H s.heap h') (f9 : (∀ x ∈ vs, x ∈ vs₀)) (f10 : vs.length = vs₀.length) (f11 : pos < vs.length) (f12 : suG lt vs pos = suG lt vs₀ pos₀) (f13 : n = vs₀.length - pos) : SuSt s H lt new vs₀ pos₀ n s'
inductive SuMid (s : Shared) (H : Addr) (lt : Value → Value → Bool) (vs₀ vs : List Value) (pos pos₀ : Nat) (tp' te tq : Tok) (new : Value) (s' : Shared) : Prop
  | mk (h₇ : Heap) (tk₇ : Nat) (l₇ : List (Str × Value)) (tc₇ : Tok) (hs : s' = { s with heap := h₇, toks := tk₇ }) (f0 : h₇.Ns s.heap.objs.size (lk l₇)) (f1 : lk l₇ "heap" = some (.ref H)) (f2 : lk l₇ "startpos" = some (.int pos₀ tq)) (f3 : lk l₇ "pos" = some (.int pos tp')) (f4 : lk l₇ "newitem" = some new) (f5 : lk l₇ "endpos" = some (.int vs₀.length te)) (f6 : lk l₇ "childpos" = some (.int (childOf lt vs pos) tc₇)) (f7 : Lst h₇ H vs) (f8 : Heap.ExtBut H s.heap h₇) : SuMid s H lt vs₀ vs pos pos₀ tp' te tq new s'
theorem siftup_spec {H : Addr} {lt : Value → Value → Bool} {vs₀ : List Value} {pos₀ : Nat} {tp : Tok} {Q : Value → Shared → Prop} (hB : Base w s.heap) (g : Good A 103) (hHb : 154 ≤ H)
    (hl : Lst s.heap H vs₀) (hC : CmpOk w H s.heap lt vs₀) (hlen : vs₀.length ≤ 1000) (hpos : pos₀ < vs₀.length)
    (hQ : ∀ h' tk, Lst h' H (siftupG lt vs₀ pos₀) → Heap.ExtBut H s.heap h' → Q .none { s with heap := h', toks := tk }) :
    wpAny (MD w) A (call (.ref 49) [.ref H, .int pos₀ tp]) Q E s := by
  have hH : H < s.heap.objs.size := hl.lt
  have hLb : s.heap.objs.size ≤ s.heap.objs.size := Nat.le_refl _
  have hget := getD_some hpos
  have hmem : vs₀.getD pos₀ .none ∈ vs₀ := List.mem_of_getElem? hget
  have hQ' : ∀ h' tk (vs : List Value) (p : Nat), suG lt vs₀ pos₀ = (vs, p) → Lst h' H (sdG lt pos₀ ((vs.set p (vs₀.getD pos₀ .none)).getD p .none) (vs.set p (vs₀.getD pos₀ .none)) p) → Heap.ExtBut H s.heap h' → Q .none { s with heap := h', toks := tk } := by
    intro h' tk vs p e hl hk
    refine hQ h' tk ?_ hk
    unfold siftupG
    rw [e]
    exact hl
  generalize hnew : vs₀.getD pos₀ .none = new at hQ' hget hmem
  refine call_fn (binds := [("heap", .ref H), ("pos", .int pos₀ tp)]) hB g (fn_siftup hB) (fun _ _ _ => rfl) (locs rfl) (fun h₁ cd hn₁ hx₁ hz₁ g' => ?_) rfl rfl rfl (by decide)
  have hl₁ := hl.ext hx₁
  have hk₁ : Heap.ExtBut H s.heap h₁ := ext_but hx₁
  have hB₁ := base_but hB hk₁ hHb
  refine wpAny_execs_cons (wpAny_Assign_Name (Call_Name1 (ldB hB₁ (by kernel_rfl) (by kernel_rfl) (callWith_builtin1 (ldL hn₁ rfl (lenL hl₁ (by (first | lia | omega)) fun t₁ tk₁ => stL hn₁ fun h₂ hn₂ hs₂ => ?_))))))
  dsimp only at hn₂ hs₂ ⊢
  have hl₂ := hl₁.same hs₂ (Nat.ne_of_lt hH)
  have hk₂ := keep_same hk₁ hs₂ hLb
  refine wpAny_execs_cons (wpAny_Assign_Name (ldL hn₂ rfl (stL hn₂ fun h₃ hn₃ hs₃ => ?_)))
  dsimp only at hn₃ hs₃ ⊢
  have hl₃ := hl₂.same hs₃ (Nat.ne_of_lt hH)
  have hk₃ := keep_same hk₂ hs₃ hLb
  refine wpAny_execs_cons (wpAny_Assign_Name (Subscript_ (ldL hn₃ rfl (ldL hn₃ rfl (tailL hl₃ (Int.natCast_nonneg _) (by rw [Int.toNat_natCast]; exact hget) (by (first | lia | omega)) (stL hn₃ fun h₄ hn₄ hs₄ => ?_))))))
  dsimp only at hn₄ hs₄ ⊢
  have hl₄ := hl₃.same hs₄ (Nat.ne_of_lt hH)
  have hk₄ := keep_same hk₃ hs₄ hLb
  refine wpAny_execs_cons (wpAny_Assign_Name (wpAny_BinOp (wpAny_BinOp (wpAny_Constant_int (ldL hn₄ rfl (mul_int (wpAny_Constant_int (add_int (stL hn₄ fun h₅ hn₅ hs₅ => ?_))) (IntMulOk.of_left (by decide))))))))
  dsimp only at hn₅ hs₅ ⊢
  have hl₅ := hl₄.same hs₅ (Nat.ne_of_lt hH)
  have hk₅ := keep_same hk₄ hs₅ hLb
  refine wpAny_execs_cons (wpAny_While (codeAny_whileLoop
    (SuSt s H lt new vs₀ pos₀) ?_ (vs₀.length - pos₀) ⟨h₅, _, _, vs₀, pos₀, _, _, _, _, rfl, hn₅, rfl, rfl, rfl, rfl, rfl, rfl, hl₅, hk₅, fun _ h => h, rfl, hpos, rfl, rfl⟩))
  rintro n s' ⟨h', tk, l, vs, pos, tp', te, tc, tq, rfl, hn, e1, e2, e3, e4, e5, e6, hl, hk, hsub, hvl, hp, heq, rfl⟩
  refine wpAny_isTrue_Compare1 (ldL hn e6 (ldL hn e5 (lt_int (wpAny_truthy_bool ?_))))
  by_cases hgt : 2 * pos + 1 < vs.length
  · rw [if_pos (by simp only [decide_eq_true_eq]; (first | lia | omega))]
    have hsu : suG lt vs pos = suG lt (vs.set pos (vs.getD (childOf lt vs pos) .none)) (childOf lt vs pos) := by rw [suG, dif_pos hgt]
    have hcl := childOf_lt (lt := lt) hgt
    have hcg := childOf_gt lt vs pos
    have hcx := getD_some hcl
    refine wpAny_execs_cons (wpAny_Assign_Name (wpAny_BinOp (ldL hn e6 (wpAny_Constant_int (add_int (stL hn fun h₆ hn₆ hs₆ => ?_))))))
    dsimp only at hn₆ hs₆ ⊢
    have hl₆ := hl.same hs₆ (Nat.ne_of_lt hH)
    have hk₆ := keep_same hk hs₆ hLb
    refine wpAny_execs_cons (wpAny_mono (Q := fun f s' => f = .next ∧ SuMid s H lt vs₀ vs pos pos₀ tp' te tq new s') ?a ?b fun _ _ x => x)
    case b =>
      rintro f s' ⟨rfl, h₇, tk₇, l₇, tc₇, rfl, hn₇, f1, f2, f3, f4, f5, f6, hl₇, hk₇⟩
      dsimp only
      refine wpAny_execs_cons (wpAny_Assign_Subscript (Subscript_ (ldL hn₇ f1 (ldL hn₇ f6 (tailL hl₇ (Int.natCast_nonneg _) (by rw [Int.toNat_natCast]; exact hcx) (by (first | lia | omega)) (ldL hn₇ f1 (ldL hn₇ f3 (setL hl₇ (Int.natCast_nonneg _) (by rw [Int.toNat_natCast]; exact hp) (by (first | lia | omega)) fun h₈ hl₈ hs₈ => ?_))))))))
      dsimp only at hl₈ hs₈ ⊢
      have hn₈ := hn₇.sameBut hs₈ (Nat.ne_of_gt hH)
      have hk₈ := keep_list hk₇ hs₈
      refine wpAny_execs_cons (wpAny_Assign_Name (ldL hn₈ f6 (stL hn₈ fun h₉ hn₉ hs₉ => ?_)))
      dsimp only at hn₉ hs₉ ⊢
      have hl₉ := hl₈.same hs₉ (Nat.ne_of_lt hH)
      have hk₉ := keep_same hk₈ hs₉ hLb
      refine wpAny_execs_cons (wpAny_Assign_Name (wpAny_BinOp (wpAny_BinOp (wpAny_Constant_int (ldL hn₉ rfl (mul_int (wpAny_Constant_int (add_int (stL hn₉ fun h₅ hn₅ hs₅ => ?_))) (IntMulOk.of_left (by decide))))))))
      dsimp only at hn₅ hs₅ ⊢
      refine wpAny_execs_nil ⟨vs₀.length - childOf lt vs pos, by (first | lia | omega), h₅, _, _, vs.set pos (vs.getD (childOf lt vs pos) .none), childOf lt vs pos, _, _, _, _, rfl, hn₅, f1, f2, rfl, f4, f5, rfl, hl₉.same hs₅ (Nat.ne_of_lt hH), keep_same hk₉ hs₅ hLb, ?_, by rw [List.length_set]; exact hvl, by rw [List.length_set]; exact hcl, hsu.symm.trans heq, rfl⟩
      intro x hx
      rcases List.mem_or_eq_of_mem_set hx with h | h
      · exact hsub x h
      · exact h ▸ hsub _ (List.mem_of_getElem? hcx)
    case a =>
      refine wpAny_If (isTrue_and (wpAny_isTrue_Compare1 (ldL hn₆ rfl (ldL hn₆ e5 (lt_int (wpAny_truthy_bool ?_))))))
      by_cases hr : 2 * pos + 2 < vs.length
      · rw [if_pos (by simp only [decide_eq_true_eq]; (first | lia | omega))]
        have hx1 := getD_some hgt
        have hx2 := getD_some hr
        have hc : childOf lt vs pos = if lt (vs.getD (2 * pos + 1) .none) (vs.getD (2 * pos + 2) .none) = false then 2 * pos + 2 else 2 * pos + 1 := by
          unfold childOf
          simp only [hr, true_and]
        refine isTrue_and (isTrue_not (wpAny_isTrue_Compare1 (Subscript_ (ldL hn₆ e1 (ldL hn₆ e6 (tailL hl₆ (by (first | lia | omega)) (v := vs.getD (2 * pos + 1) .none) (by rw [show (2 * (pos : Int) + 1).toNat = 2 * pos + 1 by (first | lia | omega)]; exact hx1) (by (first | lia | omega))
          (Subscript_ (ldL hn₆ e1 (ldL hn₆ rfl (tailL hl₆ (by (first | lia | omega)) (v := vs.getD (2 * pos + 2) .none) (by rw [show (2 * (pos : Int) + 1 + 1).toNat = 2 * pos + 2 by (first | lia | omega)]; exact hx2) (by (first | lia | omega))
          (hC _ (hsub _ (List.mem_of_getElem? hx1)) _ (hsub _ (List.mem_of_getElem? hx2)) _ _ _ _ hk₆ (g'.less (by (first | lia | omega))) fun h₇ tk₇ hx₇ => wpAny_truthy_bool ?_)))))))))))
        have hl₇ := hl₆.ext hx₇
        have hk₇ := keep_ext hk₆ hx₇
        have hn₇ := ns_ext hn₆ hx₇
        cases hlt : lt (vs.getD (2 * pos + 1) .none) (vs.getD (2 * pos + 2) .none) with
        | true =>
          rw [hlt, if_neg (by decide)] at hc
          rw [if_neg (by decide), if_neg (by decide)]
          refine wpAny_execs_nil ⟨rfl, h₇, _, _, tc, rfl, hn₇, e1, e2, e3, e4, e5, ?_, hl₇, hk₇⟩
          rw [hc]; exact e6
        | false =>
          rw [hlt, if_pos rfl] at hc
          rw [if_pos (by decide)]
          refine isTrue_and_nil ?_
          rw [if_pos rfl]
          refine wpAny_execs_cons (wpAny_Assign_Name (ldL hn₇ rfl (stL hn₇ fun h₈ hn₈ hs₈ => ?_)))
          dsimp only at hn₈ hs₈ ⊢
          rw [show (2 * (pos : Int) + 1 + 1) = ((childOf lt vs pos : Nat) : Int) by rw [hc]; (first | lia | omega)] at hn₈
          exact wpAny_execs_nil ⟨rfl, h₈, _, _, _, rfl, hn₈, e1, e2, e3, e4, e5, rfl, hl₇.same hs₈ (Nat.ne_of_lt hH), keep_same hk₇ hs₈ hLb⟩
      · rw [if_neg (by simp only [decide_eq_true_eq]; (first | lia | omega)), if_neg (by decide)]
        have hc : childOf lt vs pos = 2 * pos + 1 := by
          unfold childOf
          rw [if_neg (by simp [hr])]
        refine wpAny_execs_nil ⟨rfl, h₆, _, _, tc, rfl, hn₆, e1, e2, e3, e4, e5, ?_, hl₆, hk₆⟩
        rw [hc]; exact e6
  · rw [if_neg (by simp only [decide_eq_true_eq]; (first | lia | omega))]
    have hsu : suG lt vs pos = (vs, pos) := by rw [suG, dif_neg hgt]
    refine wpAny_execs_nil ?_
    refine wpAny_execs_cons (wpAny_Assign_Subscript (ldL hn e4 (ldL hn e1 (ldL hn e3 (setL hl (Int.natCast_nonneg _) (by rw [Int.toNat_natCast]; exact hp) (by (first | lia | omega)) fun h₆ hl₆ hs₆ => ?_)))))
    dsimp only at hl₆ hs₆ ⊢
    rw [Int.toNat_natCast] at hl₆
    have hn₆ := hn.sameBut hs₆ (Nat.ne_of_gt hH)
    have hk₆ := keep_list hk hs₆
    have hB₆ := base_but hB hk₆ hHb
    refine wpAny_execs_cons (wpAny_Expr (Call_Name rfl (ldG hB₆ (by kernel_rfl) (call3 look_siftdown (ldL hn₆ e1 (ldL hn₆ e2 (ldL hn₆ e3 ⟨hB₆, siftdown_spec hB₆ (g'.less (by (first | lia | omega))) hl₆ (hC.mono hk₆ ?_) (by rw [List.length_set]; (first | lia | omega)) (by rw [List.length_set]; exact hp) fun h₇ tk₇ hl₇ hk₇ => ?_⟩)))))))
    · intro v hv
      rcases List.mem_or_eq_of_mem_set hv with h | h
      · exact hsub v h
      · exact h ▸ hmem
    · refine wpAny_execs_nil (hQ' h₇ tk₇ vs pos (heq.symm.trans hsu) hl₇ (keep_trans hk₆ hk₇))
end
end Mine

end
section
open PySem PySem.W PySem.W.X PyProof.Rows
set_option Elab.async false
set_option maxRecDepth 100000
namespace Mine

noncomputable def pushG (lt : Value → Value → Bool) (vs : List Value) (x : Value) : List Value := sdG lt 0 ((vs ++ [x]).getD vs.length .none) (vs ++ [x]) vs.length
noncomputable def popG (lt : Value → Value → Bool) (vs : List Value) (y : Value) : List Value := if vs = [] then [] else siftupG lt (vs.set 0 y) 0

section
variable {w : World} {A : Around} {E : Value → Shared → Prop} {s : Shared}
theorem look_siftup : FnLook w 49 := by unfold FnLook; kernel_rfl

theorem heappush_spec {H : Addr} {lt : Value → Value → Bool} {vs : List Value} {x : Value} {Q : Value → Shared → Prop} (hB : Base w s.heap) (g : Good A 103) (hHb : 154 ≤ H)
    (hl : Lst s.heap H vs) (hC : CmpOk w H s.heap lt (vs ++ [x])) (hlen : vs.length ≤ 900)
    (hQ : ∀ h' tk, Lst h' H (pushG lt vs x) → Heap.ExtBut H s.heap h' → Q .none { s with heap := h', toks := tk }) :
    wpAny (MD w) A (call (.ref 21) [.ref H, x]) Q E s := by
  have hH : H < s.heap.objs.size := hl.lt
  refine call_fn (binds := [("heap", .ref H), ("item", x)]) hB g (fn_heappush hB) (fun _ _ _ => rfl) (locs rfl) (fun h₁ cd hn₁ hx₁ hz₁ g' => ?_) rfl rfl rfl (by decide)
  have hl₁ := hl.ext hx₁
  refine wpAny_execs_cons (wpAny_Expr (methL slot_list_append PySem.F.type_list_append rfl rfl rfl (ldL hn₁ rfl ⟨H, vs, rfl, hl₁, with1 (ldL hn₁ rfl (appendL hl₁ (by (first | lia | omega)) fun h₂ hl₂ hs₂ => ?_))⟩)))
  dsimp only at hl₂ hs₂ ⊢
  have hn₂ := hn₁.sameBut hs₂ (Nat.ne_of_gt hH)
  have hk₂ : Heap.ExtBut H s.heap h₂ := keep_list (ext_but hx₁) hs₂
  have hB₂ := base_but hB hk₂ hHb
  refine wpAny_execs_cons (wpAny_Expr (Call_Name3 (ldG hB₂ (by kernel_rfl) (call3 look_siftdown (ldL hn₂ rfl (wpAny_Constant_int (wpAny_BinOp (Call_Name1 (ldB hB₂ (by kernel_rfl) (by kernel_rfl) (callWith_builtin1 (ldL hn₂ rfl (lenL hl₂ (by simp; (first | lia | omega)) fun t₃ tk₃ =>
    wpAny_Constant_int (sub_int ⟨hB₂, ?_⟩)))))))))))))
  rw [show (((vs ++ [x]).length : Nat) : Int) - 1 = ((vs.length : Nat) : Int) by simp]
  exact siftdown_spec (start := 0) hB₂ (g'.less (by (first | lia | omega))) hl₂ (hC.mono hk₂ fun _ h => h) (by simp; (first | lia | omega)) (by simp) fun h₃ tk₃ hl₃ hk₃ => wpAny_execs_nil (hQ h₃ tk₃ hl₃ (keep_trans hk₂ hk₃))

theorem heappop_spec {H : Addr} {lt : Value → Value → Bool} {vs : List Value} {y : Value} {Q : Value → Shared → Prop} (hB : Base w s.heap) (g : Good A 105) (hHb : 154 ≤ H)
    (hl : Lst s.heap H (vs ++ [y])) (hC : CmpOk w H s.heap lt (vs ++ [y])) (hlen : vs.length ≤ 900)
    (hQ : ∀ h' tk, Lst h' H (popG lt vs y) → Heap.ExtBut H s.heap h' → Q ((vs ++ [y]).getD 0 .none) { s with heap := h', toks := tk }) :
    wpAny (MD w) A (call (.ref 28) [.ref H]) Q E s := by
  have hH : H < s.heap.objs.size := hl.lt
  have hLb : s.heap.objs.size ≤ s.heap.objs.size := Nat.le_refl _
  refine call_fn (binds := [("heap", .ref H)]) hB g (fn_heappop hB) (fun _ _ _ => rfl) (locs rfl) (fun h₁ cd hn₁ hx₁ hz₁ g' => ?_) rfl rfl rfl (by decide)
  have hl₁ := hl.ext hx₁
  refine wpAny_execs_cons (wpAny_Assign_Name (methL PySem.F.slot_list_pop PySem.F.type_list_pop rfl rfl rfl (ldL hn₁ rfl ⟨H, _, rfl, hl₁, with0 (popL hl₁ (by (first | lia | omega)) fun h₂ hl₂ hs₂ => ?_)⟩)))
  dsimp only at hl₂ hs₂ ⊢
  have hn₂ := hn₁.sameBut hs₂ (Nat.ne_of_gt hH)
  have hk₂ : Heap.ExtBut H s.heap h₂ := keep_list (ext_but hx₁) hs₂
  refine stL hn₂ fun h₃ hn₃ hs₃ => ?_
  dsimp only at hn₃ hs₃ ⊢
  have hl₃ := hl₂.same hs₃ (Nat.ne_of_lt hH)
  have hk₃ := keep_same hk₂ hs₃ hLb
  refine wpAny_execs_cons (wpAny_If (isTrue_plain (ldL hn₃ rfl (wpAny_truthy_list hl₃.isList (by simp; (first | lia | omega)) ?_))))
  cases vs with
  | nil =>
    rw [if_neg (by decide)]
    refine wpAny_execs_nil ?_
    refine wpAny_execs_cons (wpAny_Return_some (ldL hn₃ rfl ?_))
    exact hQ h₃ _ hl₃ hk₃
  | cons z r =>
    rw [if_pos (by simp)]
    refine wpAny_execs_cons (wpAny_Assign_Name (Subscript_ (ldL hn₃ rfl (wpAny_Constant_int (tailL (v := z) hl₃ (by decide) rfl (by (first | lia | omega)) (stL hn₃ fun h₄ hn₄ hs₄ => ?_))))))
    dsimp only at hn₄ hs₄ ⊢
    have hl₄ := hl₃.same hs₄ (Nat.ne_of_lt hH)
    have hk₄ := keep_same hk₃ hs₄ hLb
    refine wpAny_execs_cons (wpAny_Assign_Subscript (ldL hn₄ rfl (ldL hn₄ rfl (wpAny_Constant_int (setL hl₄ (by decide) (by simp) (by (first | lia | omega)) fun h₅ hl₅ hs₅ => ?_)))))
    dsimp only at hl₅ hs₅ ⊢
    have hn₅ := hn₄.sameBut hs₅ (Nat.ne_of_gt hH)
    have hk₅ := keep_list hk₄ hs₅
    have hB₅ := base_but hB hk₅ hHb
    refine wpAny_execs_cons (wpAny_Expr (Call_Name2 (ldG hB₅ (by kernel_rfl) (call2 look_siftup (ldL hn₅ rfl (wpAny_Constant_int ⟨hB₅, ?_⟩))))))
    refine siftup_spec (pos₀ := 0) hB₅ (g'.less (by (first | lia | omega))) hHb hl₅ (hC.mono hk₅ ?_) (by simp; simp at hlen; (first | lia | omega)) (by simp) fun h₆ tk₆ hl₆ hk₆ => ?_
    · intro v hv
      rcases List.mem_or_eq_of_mem_set hv with h | h
      · exact List.mem_append_left _ h
      · exact h ▸ List.mem_append_right _ (.head _)
    · have hn₆ : h₆.Ns s.heap.objs.size _ := hn₅.extBut hk₆ (Nat.ne_of_gt hH)
      refine wpAny_execs_cons (wpAny_Return_some (ldL hn₆ rfl ?_))
      refine hQ h₆ tk₆ ?_ (keep_trans hk₅ hk₆)
      unfold popG
      rw [if_neg (by simp)]
      exact hl₆
end
end Mine

end
section
open PySem PySem.W PySem.W.X PyProof.Rows
set_option Elab.async false
set_option maxRecDepth 100000
namespace Mine

section
variable {w : World} {A : Around} {E : Value → Shared → Prop} {s : Shared}

theorem heapify_spec {H : Addr} {lt : Value → Value → Bool} {a b c : Value} {Q : Value → Shared → Prop} (hB : Base w s.heap) (g : Good A 105) (hHb : 154 ≤ H)
    (hl : Lst s.heap H [a, b, c]) (hC : CmpOk w H s.heap lt [a, b, c])
    (hQ : ∀ h' tk, Lst h' H (siftupG lt [a, b, c] 0) → Heap.ExtBut H s.heap h' → Q .none { s with heap := h', toks := tk }) :
    wpAny (MD w) A (call (.ref 35) [.ref H]) Q E s := by
  have hH : H < s.heap.objs.size := hl.lt
  have hLb : s.heap.objs.size ≤ s.heap.objs.size := Nat.le_refl _
  refine call_fn (binds := [("x", .ref H)]) hB g (fn_heapify hB) (fun _ _ _ => rfl) (locs rfl) (fun h₁ cd hn₁ hx₁ hz₁ g' => ?_) rfl rfl rfl (by decide)
  have hl₁ := hl.ext hx₁
  have hB₁ := hx₁.base hB
  refine wpAny_execs_cons (wpAny_Assign_Name (Call_Name1 (ldB hB₁ (by kernel_rfl) (by kernel_rfl) (callWith_builtin1 (ldL hn₁ rfl (lenL hl₁ (by simp) fun t₁ tk₁ => stL hn₁ fun h₂ hn₂ hs₂ => ?_))))))
  dsimp only at hn₂ hs₂ ⊢
  replace hn₂ : h₂.Ns s.heap.objs.size (lk [("n", .int 3 t₁), ("x", .ref H)]) := hn₂
  have hl₂ := hl₁.same hs₂ (Nat.ne_of_lt hH)
  have hx₂ : Ext s.heap h₂ := hx₁.same hs₂ hLb
  have hB₂ := hx₂.base hB
  have hL₂ : s.heap.objs.size < h₂.objs.size := hn₂.lt
  refine wpAny_execs_cons (wpAny_For (Call_Name1 (ldB (v := .type "reversed") hB₂ (by kernel_rfl) (by kernel_rfl) (PySem.callWith_type1 (Call_Name1 (ldB (v := .type "range") hB₂ (by kernel_rfl) (by kernel_rfl) (PySem.callWith_type1 (wpAny_BinOp (ldL hn₂ rfl (wpAny_Constant_int (floordiv_int (by decide) ?_ (Or.inl (by decide +kernel)))))))))))))
  refine range1_any (n := 1) fun r h₃ tk₃ hx₃ ⟨t, u, v, hr⟩ => ?_
  refine reversed_range hr ?_
  dsimp only at hx₃ hr ⊢
  refine wpAny_pyIter_rangeiter (x := 0) (left := 1) (step := -1) (Heap.get?_push_size _ rfl) ?_
  have hx₄ : Ext s.heap (h₃.push rit) := (hx₂.trans hx₃).push _
  have hl₄ : Lst (h₃.push rit) H [a, b, c] := hl.ext hx₄
  have hn₄ : (h₃.push rit).Ns s.heap.objs.size _ := (ns_ext hn₂ hx₃).push _
  have hI : s.heap.objs.size < h₃.objs.size := (ns_ext hn₂ hx₃).lt
  have hIn : IsRangeIter (h₃.push rit) h₃.objs.size 0 1 (-1) := Heap.get?_push_size _ rfl
  generalize h₃.push rit = h₄ at hx₄ hl₄ hn₄ hIn
  generalize h₃.objs.size = I at hI hIn
  refine codeAny_forLoop (fun n s' => (n = 1 ∧ s' = { s with heap := h₄, toks := tk₃ }) ∨ (n = 0 ∧ ∃ (h' : Heap) (tk : Nat) (l : List (Str × Value)), s' = { s with heap := h', toks := tk } ∧ h'.Ns s.heap.objs.size (lk l) ∧ Lst h' H (siftupG lt [a, b, c] 0) ∧ Heap.ExtBut H s.heap h' ∧ IsRangeIter h' I (-1) 0 (-1))) ?_ 1 (.inl ⟨rfl, rfl⟩)
  rintro n s' (⟨rfl, rfl⟩ | ⟨rfl, h', tk, l, rfl, hn', hl', hk', hi'⟩)
  · refine wpAny_pyNext_range_item hIn (by decide) fun h₅ hi₅ hs₅ => ?_
    dsimp only at hi₅ hs₅ ⊢
    have hIH : H ≠ I := Nat.ne_of_lt (Nat.lt_trans hH hI)
    have hl₅ := hl₄.same hs₅ hIH
    have hn₅ := hn₄.sameBut hs₅ (Nat.ne_of_lt hI)
    have hx₅ : Ext s.heap h₅ := hx₄.same hs₅ (Nat.le_of_lt hI)
    refine wpAny_assign_Name (stL hn₅ fun h₆ hn₆ hs₆ => ?_)
    dsimp only at hn₆ hs₆ ⊢
    have hl₆ := hl₅.same hs₆ (Nat.ne_of_lt hH)
    have hx₆ : Ext s.heap h₆ := hx₅.same hs₆ hLb
    have hB₆ := hx₆.base hB
    have hi₆ : IsRangeIter h₆ I (-1) 0 (-1) := (hs₆.2 I (Nat.ne_of_gt hI)).trans hi₅
    refine wpAny_execs_cons (wpAny_Expr (Call_Name2 (ldG hB₆ (by kernel_rfl) (call2 look_siftup (ldL hn₆ rfl (ldL hn₆ rfl ⟨hB₆, siftup_spec (pos₀ := 0) hB₆ (g'.less (by (first | lia | omega))) hHb hl₆ (hC.mono (ext_but hx₆) fun _ h => h) (by simp) (by simp) fun h₇ tk₇ hl₇ hk₇ => ?_⟩))))))
    refine wpAny_execs_nil ⟨0, by decide, .inr ⟨rfl, h₇, tk₇, _, rfl, hn₆.extBut hk₇ (Nat.ne_of_gt hH), hl₇, keep_trans (ext_but hx₆) hk₇, hk₇ _ _ hIH.symm hi₆⟩⟩
  · refine wpAny_pyNext_range_end g'.handled hi' (by decide) fun h₅ hx₅ => wpAny_execs_nil ?_
    have hIH : H ≠ I := Nat.ne_of_lt (Nat.lt_trans hH hI)
    refine wpAny_execs_nil (hQ h₅ tk (hl'.but hx₅ hIH) ?_)
    exact fun b o hb e => hx₅ b o (Nat.ne_of_lt (Nat.lt_trans (Heap.lt_size e) hI)) (hk' b o hb e)
end
end Mine

end
section
open PySem PySem.W PySem.W.X PyProof.Rows
set_option Elab.async false
set_option maxRecDepth 100000
set_option maxHeartbeats 0
namespace Mine
noncomputable abbrev instO (th dx : Addr) : Obj := { cls := .ref 288, dict := some dx, data := .plain, slots := #[some (.ref th)] }
noncomputable abbrev tupO (vs : List Value) (n : Nat) : Obj := { cls := .type "tuple", dict := none, data := .seq vs.toArray n, slots := #[] }
/-- a plain tuple -/
def Tup (h : Heap) (a : Addr) (vs : List Value) : Prop := ∃ n, h.get? a = some (tupO vs n)
theorem Tup.ext {h h' : Heap} {a : Addr} {vs : List Value} (x : Tup h a vs) (y : Ext h h') : Tup h' a vs := let ⟨n, e⟩ := x; ⟨n, y _ _ e⟩
theorem Tup.isTup {h : Heap} {a : Addr} {vs : List Value} (x : Tup h a vs) : IsTup h a vs.toArray := let ⟨n, e⟩ := x; ⟨_, e, rfl, n, rfl⟩
/-- an object of the key class that bears this thing -/
def Inst (h : Heap) (x th : Addr) : Prop := ∃ dx od, h.get? x = some (instO th dx) ∧ h.get? dx = some od
theorem Inst.ext {h h' : Heap} {x th : Addr} (k : Inst h x th) (y : Ext h h') : Inst h' x th := let ⟨dx, od, a, b⟩ := k; ⟨dx, od, y _ _ a, y _ _ b⟩
/-- made between these heaps -/
def InstNew (h₀ h : Heap) (x th : Addr) : Prop := ∃ dx od, h.get? x = some (instO th dx) ∧ h.get? dx = some od ∧ h₀.get? x = none ∧ h₀.get? dx = none
theorem Inst.at {h : Heap} {x th : Addr} (k : Inst h x th) : ∃ ox od, PySem.W.InstAt h x ox 288 (some od) ∧ ox.slots = #[some (.ref th)] := by
  obtain ⟨dx, od, a, b⟩ := k
  exact ⟨_, od, ⟨a, rfl, rfl, b⟩, rfl⟩

section
variable {w : World} {A : Around} {E : Value → Shared → Prop} {s : Shared}
theorem tailT {value slice : PySem.Expr} {t : Addr} {vs : List Value} {k : Int} {u : Tok} {v : Value} {Q : Value → Shared → Prop}
    (ht : Tup s.heap t vs) (h0 : 0 ≤ k) (hx : vs[k.toNat]? = some v) (hlen : vs.length ≤ 100000) (h : Q v s)
    (hs : subscripted slice false (.ref t) (.int k u) = operate [.ref t, .int k u] (getItem (.ref t) (.int k u)) := by rfl) :
    wpAny (MD w) A (subscriptTail value slice (.ref t) (.int k u)) Q E s := by
  have hlt : k.toNat < vs.length := (List.getElem?_eq_some_iff.mp hx).1
  refine item_tupleT (j := k.toNat) ht.isTup (by (first | lia | omega)) (by (first | lia | omega)) ?_ hx h hs
  unfold seqIndex?
  simp
  (first | lia | omega)

theorem look_dearer : FnLook w 131 := by unfold FnLook; kernel_rfl
def small (k : Int) : Prop := -(2 ^ 64) < k ∧ k < 2 ^ 64
theorem small.mul {a b : Int} (h : small a) : IntMulOk a b := IntMulOk.of_left (intBits_le_64 h.1 h.2)

theorem dearer_spec {x y : Addr} {m1 p1 q1 m2 p2 q2 : Int} {u1 u2 u3 v1 v2 v3 : Tok} {Q : Value → Shared → Prop} (hB : Base w s.heap) (g : Good A 10)
    (e1 : Tup s.heap x [.int m1 u1, .int p1 u2, .int q1 u3]) (e2 : Tup s.heap y [.int m2 v1, .int p2 v2, .int q2 v3]) (b1 : small p1) (b2 : small p2)
    (hQ : ∀ h' t tk, Ext s.heap h' → Q (.int (p2 * q1 - p1 * q2) t) { s with heap := h', toks := tk }) : wpAny (MD w) A (call (.ref 131) [.ref x, .ref y]) Q E s := by
  refine call_fn (binds := [("one", .ref x), ("other", .ref y)]) hB g (fn_dearer hB) (fun _ _ _ => rfl) (locs rfl) (fun h₁ cd hn₁ hx₁ hz₁ g' => ?_) rfl rfl rfl (by decide)
  have e3 := e1.ext hx₁
  have e4 := e2.ext hx₁
  refine wpAny_execs_cons <| wpAny_Return_some <| wpAny_BinOp <| wpAny_BinOp <| Subscript_ <| ldL hn₁ rfl <| wpAny_Constant_int <| tailT (v := .int p2 v2) e4 (by decide) rfl (by simp) <| Subscript_ <| ldL hn₁ rfl <| wpAny_Constant_int <|
    tailT (v := .int q1 u3) e3 (by decide) rfl (by simp) <| mul_int (hm := b2.mul) <| ?_
  refine wpAny_BinOp <| Subscript_ <| ldL hn₁ rfl <| wpAny_Constant_int <| tailT (v := .int p1 u2) e3 (by decide) rfl (by simp) <| Subscript_ <| ldL hn₁ rfl <| wpAny_Constant_int <| tailT (v := .int q2 v3) e4 (by decide) rfl (by simp) <| mul_int (hm := b1.mul) <| ?_
  exact sub_int (hQ _ _ _ hx₁)

theorem look_slot {hs : Nat → Int} {t : Nat} {s : Shared} {x th : Addr} {Q : Value → Shared → Prop} {expr : Bool} (hC : (KC hs t).In s.heap) (hI : Inst s.heap x th) (h : ∀ tk, Q (.ref th) { s with toks := tk }) :
    wpAny (MD w) A (getAttr (.ref x) "obj" expr) Q E s := by
  obtain ⟨ox, od, I, hs⟩ := hI.at
  exact get_bind hC I (plainGet_of (name := "obj") (by kernel_rfl)).1 (findObj_data (by kernel_rfl) (by kernel_rfl) (by kernel_rfl) (by kernel_rfl)) (plainGet_of (name := "obj") (by kernel_rfl)).2
    (wpAny_call (slot_get (s := { s with toks := s.toks + 1 }) (p := 289) (i := 0) hC I (by kernel_rfl) (by rw [hs]; rfl) (handed_on rfl (h _))))

/-- an env with cells -/
noncomputable abbrev envC (name : Str) (scope : Scope) (L a : Addr) (cd : Value) (cells : List (Str × Addr)) : Env := { envOf name scope L a cd with cells := cells }
theorem ldE {env : Env} {l : List (Str × Value)} {x : Str} {pos : Pos} {v : Value} {Q : Value → Shared → Prop} (hn : s.heap.Ns env.locals (lk l)) (hv : lk l x = some v) (h : Q v s)
    (hk : env.scope.kind = .function := by rfl) (hl : env.kindOf x = some .local := by rfl) (hd : (x == ("__debug__" : Str)) = false := by rfl) :
    wpAny (MD w) A (eval (.Name x pos) env) Q E s := wpAny_Name (wpAny_loadName_local hk hl hn hv h) hd
theorem ldF {env : Env} {c : Addr} {x : Str} {pos : Pos} {v : Value} {Q : Value → Shared → Prop} (hv : s.heap.IsCell c (some v)) (h : Q v s)
    (hk : env.scope.kind = .function := by rfl) (hl : env.kindOf x = some .free := by rfl) (hc : env.cells.lookup x = some c := by rfl) (hd : (x == ("__debug__" : Str)) = false := by rfl) (hcd : (x == ("__classdict__" : Str)) = false := by rfl) :
    wpAny (MD w) A (eval (.Name x pos) env) Q E s := wpAny_Name (wpAny_loadName_free hk hl hc hv h hcd) hd
theorem ldC {env : Env} {c : Addr} {x : Str} {pos : Pos} {v : Value} {Q : Value → Shared → Prop} (hv : s.heap.IsCell c (some v)) (h : Q v s)
    (hk : env.scope.kind = .function := by rfl) (hl : env.kindOf x = some .cell := by rfl) (hc : env.cells.lookup x = some c := by rfl) (hd : (x == ("__debug__" : Str)) = false := by rfl) :
    wpAny (MD w) A (eval (.Name x pos) env) Q E s := wpAny_Name (wpAny_loadName_cell hk hl hc hv h) hd

/-- the comparison of two keys -/
theorem lt_spec {hs : Nat → Int} {t : Nat} {x y tx ty : Addr} {m1 p1 q1 m2 p2 q2 : Int} {u1 u2 u3 v1 v2 v3 : Tok} {Q : Value → Shared → Prop} (hB : Base w s.heap) (g : Good A 20) (hC : (KC hs t).In s.heap)
    (i1 : Inst s.heap x tx) (i2 : Inst s.heap y ty) (e1 : Tup s.heap tx [.int m1 u1, .int p1 u2, .int q1 u3]) (e2 : Tup s.heap ty [.int m2 v1, .int p2 v2, .int q2 v3]) (b1 : small p1) (b2 : small p2)
    (hQ : ∀ h' tk, Ext s.heap h' → Q (.bool (decide (p2 * q1 - p1 * q2 < 0))) { s with heap := h', toks := tk }) : wpAny (MD w) A (call (.ref 252) [.ref x, .ref y]) Q E s := by
  refine wpAny_call (codeAny_call_function (fd := ltFn) (body := kFnBody 3) g.room (hC 252 ltO rfl) rfl rfl rfl rfl (codeRec_of hC (by kernel_rfl)) ?_)
  rw [show bindArgs ltFn ⟨[.ref x, .ref y], []⟩ = (pure [("self", Value.ref x), ("other", Value.ref y)] : Sem (List (Str × Value))) from rfl]
  refine wpAny_pure (wpAny_newFunctionEnv (by decide) (locs rfl) (fun h₁ hns hsb => ⟨(no_limit hB).fresh _ hsb, ?_⟩) rfl)
  have hx₁ : Ext s.heap h₁ := fun b o e => hsb.extBut b o (Nat.ne_of_lt (Heap.lt_size e)) (Heap.get?_push_of_some _ e)
  refine codeAny_func (wpAny_mono (Q := fun f s' => Q (match f with | .ret v => v | _ => .none) s') (E := fun _ _ => False) ?_ (fun f s' q => q) (fun _ _ x => x.elim))
  have hB₁ := hx₁.base hB
  have hC₁ := Frag.In.keeps hC hx₁
  have g' := (Good.less g (e := 19 + 1) (by (first | lia | omega))).deeper (envC "cmp_to_key.<locals>.K.__lt__" (kScope 3) s.heap.objs.size 252 (.ref 251) [("mycmp", 229)])
  show wpAny (MD w) (A.deeper (envC "cmp_to_key.<locals>.K.__lt__" (kScope 3) s.heap.objs.size 252 (.ref 251) [("mycmp", 229)])) (execs (kFnBody 3) (envC "cmp_to_key.<locals>.K.__lt__" (kScope 3) s.heap.objs.size 252 (.ref 251) [("mycmp", 229)])) _ _ _
  have hn₁ : h₁.Ns s.heap.objs.size (lk [("other", .ref y), ("self", .ref x)]) := hns
  have c₁ : h₁.IsCell 229 (some (.ref 131)) := ⟨cellO, hC₁ 229 _ rfl, rfl⟩
  refine wpAny_execs_cons <| wpAny_Return_some <| wpAny_Compare1 <| Call_Name2 <| ldF c₁ <| call2 look_dearer <| Attribute_name <| ldE hn₁ rfl <| look_slot hC₁ (i1.ext hx₁) fun tk => Attribute_name <| ldE hn₁ rfl <| look_slot hC₁ (i2.ext hx₁) fun tk' => ⟨hB₁, ?_⟩
  refine dearer_spec hB₁ (g'.less (by (first | lia | omega))) (e1.ext hx₁) (e2.ext hx₁) b1 b2 fun h₂ t₂ tk₂ hx₂ => wpAny_Constant_int <| wpAny_lt_int ?_
  exact hQ h₂ _ (hx₁.trans hx₂)

theorem cmp_spec {hs : Nat → Int} {t : Nat} {x y tx ty : Addr} {m1 p1 q1 m2 p2 q2 : Int} {u1 u2 u3 v1 v2 v3 : Tok} {Q : Value → Shared → Prop} (hB : Base w s.heap) (g : Good A 20) (hC : (KC hs t).In s.heap)
    (i1 : Inst s.heap x tx) (i2 : Inst s.heap y ty) (e1 : Tup s.heap tx [.int m1 u1, .int p1 u2, .int q1 u3]) (e2 : Tup s.heap ty [.int m2 v1, .int p2 v2, .int q2 v3]) (b1 : small p1) (b2 : small p2)
    (hQ : ∀ h' tk, Ext s.heap h' → Q (.bool (decide (p2 * q1 - p1 * q2 < 0))) { s with heap := h', toks := tk }) : wpAny (MD w) A (compareOp .Lt (.ref x) (.ref y)) Q E s := by
  obtain ⟨ox, od, I, _⟩ := i1.at
  obtain ⟨oy, od', I', _⟩ := i2.at
  have one : wpAny (MD w) A (tryCompare (.ref x) (cmpInfo .Lt).2.1 (.ref y)) (fun r s' => ∃ v, r = some v ∧ Q v s') E s := by
    unfold tryCompare
    refine wpAny_bind (ifBound_K hC I (f := 252) (by kernel_rfl) (by kernel_rfl) (lt_spec hB g hC i1 i2 e1 e2 b1 b2 fun h' tk hx => wpAny_pure ⟨_, rfl, hQ h' tk hx⟩))
  show wpAny _ _ (richCompare .Lt (.ref x) (.ref y)) _ _ _
  unfold richCompare
  simp only [oneThing_ref]
  refine wpAny_holding (wpAny_bind (wpAny_cRoomFor (by have := g.units; unfold cLine; (first | lia | omega)) ?_))
  refine wpAny_bind (I.type.here (wpAny_bind (I'.type.here ?_)))
  split
  · rename_i q
    exact absurd q (by simp)
  · refine wpAny_bind (wpAny_pure ?_)
    simp only [Bool.false_eq_true, if_false]
    refine wpAny_bind (wpAny_mono one (fun r s' z => ?_) fun _ _ e => e)
    obtain ⟨v, rfl, hq⟩ := z
    exact wpAny_pure hq
end
theorem fresh_at {h : Heap} {a : Addr} (ha : h.objs.size ≤ a) : h.get? a = none := by
  cases e : h.get? a with
  | none => rfl
  | some o => exact absurd (Heap.lt_size e) (Nat.not_lt.mpr ha)
theorem nef {a b : Nat} (h : a < b ∨ b < a) : a ≠ b := by (first | lia | omega)
section
variable {w : World} {A : Around} {E : Value → Shared → Prop} {s : Shared}
theorem weigh_any {Q : Value → Shared → Prop} {th : Addr} {hs : Nat → Int} {t : Nat} (hC : (KC hs t).In s.heap) (hB : Base w s.heap) (g : Good A 20)
    (hQ : ∀ a h' tk, Ext s.heap h' → InstNew s.heap h' a th → Q (.ref a) { s with heap := h', toks := tk }) : wpAny (MD w) A (call (.ref 288) [.ref th]) Q E s := by
  obtain ⟨h, gs, d, tk, os⟩ := s
  dsimp only at hC hB hQ ⊢
  refine wpAny_call (make_core (C := 288) (makes_of hC (by kernel_rfl)) (looks_findIn hC (r := some (.ref 244)) (by kernel_rfl)) (fun self => bind_fn hC self (by kernel_rfl)) (.inl rfl) ?_)
  have k : Ext h ((h.push emptyDict).push (instObj 288 h.objs.size)) := fun b o e => Heap.get?_push_of_some _ (Heap.get?_push_of_some _ e)
  have hx : ((h.push emptyDict).push (instObj 288 h.objs.size)).get? (h.objs.size + 1) = some (instObj 288 h.objs.size) := by rw [← Heap.size_push h emptyDict]; exact Heap.get?_push_size _ rfl
  have hdx : ((h.push emptyDict).push (instObj 288 h.objs.size)).get? h.objs.size = some emptyDict := Heap.get?_push_of_some _ (Heap.get?_push_size _ rfl)
  have hz : ((h.push emptyDict).push (instObj 288 h.objs.size)).objs.size = h.objs.size + 2 := by rw [Heap.size_push, Heap.size_push]
  generalize (h.push emptyDict).push (instObj 288 h.objs.size) = h₀ at k hx hdx hz ⊢
  have hC₀ := Frag.In.keeps hC k
  have hB₀ := k.base hB
  have g₀ : Good (A.under (.builtin "type.__call__" ⟨[.ref 288, .ref th], []⟩)) 15 := ⟨g.handled, by rw [depth_under_make]; have := g.depth; (first | lia | omega), by rw [units_under_make]; have := g.units; (first | lia | omega)⟩
  refine codeAny_call_function (fd := initFn) (body := kFnBody 2) g₀.room (hC₀ 244 initO rfl) rfl rfl rfl rfl (codeRec_of hC₀ (by kernel_rfl)) ?_
  rw [show bindArgs initFn ⟨[.ref (h.objs.size + 1), .ref th], []⟩ = (pure [("self", Value.ref (h.objs.size + 1)), ("obj", Value.ref th)] : Sem (List (Str × Value))) from rfl]
  refine wpAny_pure (wpAny_newFunctionEnv (by decide) (locs rfl) (fun h₁ hns hsb => ⟨(no_limit hB₀).fresh _ hsb, ?_⟩) rfl)
  have hx₁ : Ext h₀ h₁ := fun b o e => hsb.extBut b o (Nat.ne_of_lt (Heap.lt_size e)) (Heap.get?_push_of_some _ e)
  have hL : (h₀.objs.size : Nat) = h.objs.size + 2 := hz
  generalize h₀.objs.size = L at hns hsb hL ⊢
  have F : Fr h L h₁ (lk [("obj", .ref th), ("self", .ref (h.objs.size + 1))]) := ⟨hns, k.trans hx₁, by show h.objs.size ≤ L; (first | lia | omega)⟩
  have N : News h L h₁ ([] ++ (h.objs.size + 1, instObj 288 h.objs.size) :: [(h.objs.size, emptyDict)]) := by
    intro p hp
    rcases List.mem_cons.mp hp with rfl | hp
    · exact ⟨hx₁ _ _ hx, nef (by (first | lia | omega)), fresh_at (Nat.le_succ _)⟩
    · rw [List.mem_singleton.mp hp]; exact ⟨hx₁ _ _ hdx, nef (by (first | lia | omega)), fresh_at (Nat.le_refl _)⟩
  have hC₁ := Frag.In.keeps hC₀ hx₁
  have I : InstAt h₁ (h.objs.size + 1) (instObj 288 h.objs.size) 288 (some emptyDict) := ⟨hx₁ _ _ hx, rfl, rfl, hx₁ _ _ hdx⟩
  refine codeAny_func (wpAny_mono (Q := fun f s' => f = .next ∧ ∃ h' tk', s' = ⟨h', gs, d, tk', os⟩ ∧ Ext h h' ∧ InstNew h h' (h.objs.size + 1) th) (E := fun _ _ => False) ?_ ?_ (fun _ _ x => x.elim))
  · show wpAny (MD w) _ (execs (kFnBody 2) (envOf "cmp_to_key.<locals>.K.__init__" (kScope 2) L 244 (.ref 243))) _ _ _
    refine wpAny_execs_cons <| plainObj_wpAny_Assign_Attribute <| ldL hns rfl <| ldL hns rfl <| set_plain hC₁ I (by kernel_rfl) <| osa_descr KF.slot_mset hC₁ I (by kernel_rfl) (by kernel_rfl) (by kernel_rfl) <|
      slot_set (p := 289) (i := 0) F N hC₁ I (by kernel_rfl) (by decide) (fun _ hp => nomatch hp) (fun p hp => by rw [List.mem_singleton.mp hp]; exact nef (by (first | lia | omega))) rfl rfl fun h₂ F₂ N₂ => ?_
    refine wpAny_execs_nil ⟨rfl, h₂, _, rfl, F₂.keep, ?_⟩
    obtain ⟨n1, _, n3⟩ := N₂ (h.objs.size + 1, _) (.head _)
    obtain ⟨m1, _, m3⟩ := N₂ (h.objs.size, emptyDict) (.tail _ (.head _))
    exact ⟨_, _, n1, m1, n3, m3⟩
  · rintro f s' ⟨rfl, h', tk', rfl, hx', hn⟩
    exact ⟨rfl, hQ _ _ _ hx' hn⟩
end
end Mine

end
section
open PySem PySem.W PySem.W.X PyProof.Rows
set_option Elab.async false
set_option maxRecDepth 100000
set_option maxHeartbeats 0
namespace Mine
/-- sizes told only where they are asked -/
def SZ (ex : Bool) (h' : Heap) (tk' n tk : Nat) : Prop := ex = true → h'.objs.size = n ∧ tk ≤ tk'
theorem SZ.no {h' : Heap} {tk' n tk : Nat} : SZ false h' tk' n tk := fun h => nomatch h
def KeepOut (wr : List Addr) (h h' : Heap) : Prop := ∀ b o, b ∉ wr → h.get? b = some o → h'.get? b = some o
theorem KeepOut.trans {wr : List Addr} {a b c : Heap} (x : KeepOut wr a b) (y : KeepOut wr b c) : KeepOut wr a c := fun i o hi e => y i o hi (x i o hi e)
theorem KeepOut.more {wr wr' : List Addr} {a b : Heap} (x : KeepOut wr a b) (h : ∀ i ∈ wr, i ∈ wr') : KeepOut wr' a b := fun i o hi e => x i o (fun m => hi (h i m)) e
theorem KeepOut.ext {a b : Heap} (x : Ext a b) (wr : List Addr) : KeepOut wr a b := fun i o _ e => x i o e
theorem KeepOut.same {a b : Heap} {L : Addr} {wr : List Addr} (x : Heap.SameBut L a b) (h : L ∈ wr) : KeepOut wr a b := fun i o hi e => x.extBut i o (fun q => hi (q ▸ h)) e
theorem KeepOut.but {a b : Heap} {L : Addr} {wr : List Addr} (x : Heap.ExtBut L a b) (h : L ∈ wr) : KeepOut wr a b := fun i o hi e => x i o (fun q => hi (q ▸ h)) e
theorem Lst.keep {h h' : Heap} {a : Addr} {vs : List Value} {wr : List Addr} (x : Lst h a vs) (y : KeepOut wr h h') (hn : a ∉ wr) : Lst h' a vs := let ⟨n, e⟩ := x; ⟨n, y _ _ hn e⟩
theorem ns_keep {h h' : Heap} {L : Addr} {m : Str → Option Value} {wr : List Addr} (x : h.Ns L m) (y : KeepOut wr h h') (hn : L ∉ wr) : h'.Ns L m := let ⟨o, es, ep, e, r⟩ := x; ⟨o, es, ep, y _ _ hn e, r⟩

/-- an iterator that gives n items and then ends; wr: what it writes; fp: what its state lies in -/
structure Wk (w : World) (A : Around) (ex : Bool) (I : Addr) (fp wr : List Addr) (n : Nat) (P : Heap → Nat → Value → Prop) (St : Nat → Heap → Prop) : Prop where
  sub : ∀ b ∈ wr, b ∈ fp
  frame : ∀ i h h', St i h → (∀ b ∈ fp, ∀ o, h.get? b = some o → h'.get? b = some o) → St i h'
  alive : ∀ i h, St i h → ∀ b ∈ wr, ∃ o, h.get? b = some o
  item : ∀ i (s : Shared) (Q : Option Value → Shared → Prop) (E : Value → Shared → Prop), i < n → St i s.heap →
    (∀ v h' tk, P h' i v → St (i + 1) h' → KeepOut wr s.heap h' → SZ ex h' tk s.heap.objs.size s.toks → Q (some v) { s with heap := h', toks := tk }) → wpAny (MD w) A (pyNext (.ref I)) Q E s
  done : ∀ (s : Shared) (Q : Option Value → Shared → Prop) (E : Value → Shared → Prop), St n s.heap →
    (∀ h' tk, KeepOut wr s.heap h' → SZ ex h' tk (s.heap.objs.size + 2) s.toks → Q none { s with heap := h', toks := tk }) → wpAny (MD w) A (pyNext (.ref I)) Q E s
  self : ∀ i (s : Shared) (Q : Value → Shared → Prop) (E : Value → Shared → Prop), St i s.heap → Q (.ref I) s → wpAny (MD w) A (pyIter (.ref I)) Q E s

theorem Paired.imp {α β : Type} {F G : α → β → Prop} {l₁ : List α} {l₂ : List β} (h : Paired F l₁ l₂) (f : ∀ a b, F a b → G a b) : Paired G l₁ l₂ := by
  induction h with
  | nil => exact .nil
  | cons a _ ih => exact .cons (f _ _ a) ih
theorem Paired.of_mem {α β : Type} {F : α → β → Prop} {l₁ : List α} {l₂ : List β} (h : Paired F l₁ l₂) : ∀ b ∈ l₂, ∃ a ∈ l₁, F a b := by
  induction h with
  | nil => intro b hb; cases hb
  | cons a _ ih =>
    intro b hb
    rcases List.mem_cons.mp hb with rfl | hb
    · exact ⟨_, .head _, a⟩
    · obtain ⟨x, hx, e⟩ := ih b hb; exact ⟨x, .tail _ hx, e⟩
section
variable {w : World} {A : Around} {E : Value → Shared → Prop} {R : Result → Shared → Prop} {s : Shared}
theorem compLoop_any {elt target iter : Expr} {ifs : List Expr} {scope : Scope} {pos : Pos} {it acc : Value} {env : Env} (I : Nat → Shared → Prop)
    (turn : ∀ n s, I n s → wpAny (MD w) A (pyNext it) (fun r s₁ => match r with
      | none => R (.ok .next) s₁
      | some v => wpAny (MD w) A (letOwnedTupleGo target it v >>= fun _ => assign target env v) (fun _ s₂ =>
          wpAny (MD w) A (forIn ifs true fun c r => if r = true then do let ok ← isTrue c env (eval c env); pure (ForInStep.yield ok) else pure (ForInStep.yield r)) (fun ok s₃ =>
            if ok = true then wpAny (MD w) A (eval elt env) (fun x s₄ =>
              wpAny (MD w) A (call (.builtin "list.append") [acc, x]) (fun _ s₅ => ∃ m, m < n ∧ I m s₅) (notedBy (MD w) A env fun e s' => R (.error e) s') s₄) (notedBy (MD w) A env fun e s' => R (.error e) s') s₃
            else ∃ m, m < n ∧ I m s₃) (notedBy (MD w) A env fun e s' => R (.error e) s') s₂) (notedBy (MD w) A env fun e s' => R (.error e) s') s₁) (notedBy (MD w) A env fun e s' => R (.error e) s') s)
    (n : Nat) (h : I n s) :
    codeAny (MD w) A (.compLoop (.ListComp elt [⟨target, iter, ifs, 0⟩] scope pos) 0 it acc env) R s := by
  refine codeAny_loop rfl I (fun n s hI => ?_) n h
  show wpAny _ A ((compTurn (.ListComp elt [⟨target, iter, ifs, 0⟩] scope pos) 0 it acc env).onRaise (fun x => do noteFrame x env; theTreesLotGoes x)) _ _ s
  refine wpAny_noted ?_
  rw [compTurn_list]
  refine wpAny_bind (wpAny_standAt (wpAny_bind (wpAny_mono (turn n s hI) (fun r s₁ h₁ => ?_) fun _ _ h' => h')))
  cases r with
  | none => exact wpAny_pure h₁
  | some v =>
    have key : ∀ {β : Type} (k : Sem β) (Q : β → Shared → Prop) (E : Value → Shared → Prop), wpAny (MD w) A (letOwnedTupleGo target it v >>= fun _ => assign target env v) (fun _ s₂ => wpAny (MD w) A k Q E s₂) E s₁ →
        wpAny (MD w) A (letOwnedTupleGo target it v >>= fun _ => assign target env v >>= fun _ => k) Q E s₁ := by
      intro β k Q E h
      have e : (letOwnedTupleGo target it v >>= fun _ => assign target env v >>= fun _ => k) = ((letOwnedTupleGo target it v >>= fun _ => assign target env v) >>= fun _ => k) := by rw [bind_assoc]
      rw [e]; exact wpAny_bind h
    refine key _ _ _ (wpAny_mono h₁ (fun _ s₂ h₂ => wpAny_bind (wpAny_mono h₂ (fun ok s₃ h₃ => ?_) fun _ _ h' => h')) fun _ _ h' => h')
    cases ok with
    | false => exact wpAny_pure ⟨rfl, h₃⟩
    | true =>
      exact wpAny_bind (wpAny_bind (wpAny_mono h₃ (fun x s₄ h₄ => wpAny_bind (wpAny_mono h₄ (fun _ s₅ h₅ => wpAny_pure (wpAny_pure ⟨rfl, h₅⟩)) fun _ _ h' => h')) fun _ _ h' => h'))

inductive LSt (s₂ : Shared) (D : Nat) (n : Nat) (δ : Nat) (ex : Bool) (wr : List Addr) (p : Nat → Bool) (F : List Addr → Heap → Nat → Value → Prop) (N : Value → Value → Prop) (St : Nat → Heap → Prop) (k : Nat) (s' : Shared) : Prop
  | mk (h' : Heap) (tk : Nat) (l : List (Str × Value)) (ys : List Value) (i : Nat) (hs : s' = { s₂ with heap := h', toks := tk }) (f0 : St i h') (f1 : Lst h' D ys) (f2 : h'.Ns (D + 1) (lk l)) (f3 : Paired (F (D :: (D + 1) :: wr) h') ((List.range i).filter p) ys) (f4 : ys.Pairwise N) (f5 : i ≤ n) (f6 : k = n - i) (f7 : KeepOut (D :: (D + 1) :: wr) s₂.heap h') (f8 : SZ ex h' tk (D + 2 + ys.length * δ) s₂.toks) : LSt s₂ D n δ ex wr p F N St k s'
theorem lcomp_core {elt target iter : Expr} {ifs : List Expr} {scope : Scope} {cl : List (Str × Addr)} {pos : Pos} {env : Env} {ex : Bool} {I : Addr} {fp wr : List Addr} {n : Nat} {P : Heap → Nat → Value → Prop} {St : Nat → Heap → Prop}
    {s₂ : Shared} {RR : Value → Addr → Result → Shared → Prop}
    (W : Wk w A ex I fp wr n P St) (hn : n ≤ 100000) (p : Nat → Bool) (F : List Addr → Heap → Nat → Value → Prop) (B : Nat → List (Str × Value) → Prop) (N : Value → Value → Prop) (δ : Nat)
    (hcell : ∀ y ∈ scope.names, y.2 ≠ .cell) (hkind : scope.kind = .function) (hst : St 0 s₂.heap) (hfp : ∀ b ∈ fp, b < s₂.heap.objs.size)
    (asg : ∀ i v (s : Shared) l (Q : Unit → Shared → Prop) E', i < n → P s.heap i v → KeepOut (s₂.heap.objs.size :: (s₂.heap.objs.size + 1) :: wr) s₂.heap s.heap → s.heap.Ns (s₂.heap.objs.size + 1) (lk l) → St (i + 1) s.heap →
      (∀ h' tk l', h'.Ns (s₂.heap.objs.size + 1) (lk l') → B i l' → KeepOut ((s₂.heap.objs.size + 1) :: wr) s.heap h' → St (i + 1) h' → SZ ex h' tk s.heap.objs.size s.toks → Q () { s with heap := h', toks := tk }) →
      wpAny (MD w) A (letOwnedTupleGo target (.ref I) v >>= fun _ => assign target (compEnvC scope cl (s₂.heap.objs.size + 1) env) v) Q E' s)
    (tests : ∀ i (s : Shared) l E', i < n → B i l → s.heap.Ns (s₂.heap.objs.size + 1) (lk l) → KeepOut (s₂.heap.objs.size :: (s₂.heap.objs.size + 1) :: wr) s₂.heap s.heap →
      wpAny (MD w) A (forIn ifs true fun c r => if r = true then do let ok ← isTrue c (compEnvC scope cl (s₂.heap.objs.size + 1) env) (eval c (compEnvC scope cl (s₂.heap.objs.size + 1) env)); pure (ForInStep.yield ok) else pure (ForInStep.yield r))
        (fun ok s' => ok = p i ∧ ∃ h' tk, s' = { s with heap := h', toks := tk } ∧ Ext s.heap h' ∧ SZ ex h' tk s.heap.objs.size s.toks) E' s)
    (helt : ∀ i (s : Shared) l E', i < n → p i = true → B i l → s.heap.Ns (s₂.heap.objs.size + 1) (lk l) → KeepOut (s₂.heap.objs.size :: (s₂.heap.objs.size + 1) :: wr) s₂.heap s.heap →
      (∀ b ∈ s₂.heap.objs.size :: (s₂.heap.objs.size + 1) :: wr, ∃ o, s.heap.get? b = some o) →
      wpAny (MD w) A (eval elt (compEnvC scope cl (s₂.heap.objs.size + 1) env)) (fun y s' => ∃ h' tk, s' = { s with heap := h', toks := tk } ∧ Ext s.heap h' ∧ F (s₂.heap.objs.size :: (s₂.heap.objs.size + 1) :: wr) h' i y ∧
        (∀ j y', j < i → F (s₂.heap.objs.size :: (s₂.heap.objs.size + 1) :: wr) s.heap j y' → N y' y) ∧ SZ ex h' tk (s.heap.objs.size + δ) s.toks) E' s)
    (stab : ∀ i y h h', F (s₂.heap.objs.size :: (s₂.heap.objs.size + 1) :: wr) h i y → KeepOut (s₂.heap.objs.size :: (s₂.heap.objs.size + 1) :: wr) h h' → F (s₂.heap.objs.size :: (s₂.heap.objs.size + 1) :: wr) h' i y)
    (hRR : ∀ h' tk ys m, h'.Ns (s₂.heap.objs.size + 1) m → Lst h' s₂.heap.objs.size ys → Paired (F (s₂.heap.objs.size :: (s₂.heap.objs.size + 1) :: wr) h') ((List.range n).filter p) ys → ys.Pairwise N → KeepOut (s₂.heap.objs.size :: (s₂.heap.objs.size + 1) :: wr) s₂.heap h' →
      SZ ex h' tk (s₂.heap.objs.size + 4 + ys.length * δ) s₂.toks → RR (.ref s₂.heap.objs.size) (s₂.heap.objs.size + 1) (.ok .next) { s₂ with heap := h', toks := tk }) :
    wpAny (MD w) A (newList []) (fun acc s₃ => wpAny (MD w) A (newFunctionEnv scope env.globals cl [] env.qual none .none (some env)) (fun cenv s₄ =>
      codeAny (MD w) A (.compStart (.ListComp elt [⟨target, iter, ifs, 0⟩] scope pos) 0 (.ref I) acc { cenv with scope := relabel scope env }) (RR acc cenv.locals) s₄) E s₃) E s₂ := by
  refine wpAny_newObj_type (wpAny_newFunctionEnv hcell (by intro y hy; simp at hy) (fun h₁ hns₁ hsb₁ => ?_) hkind)
  dsimp only at hns₁ hsb₁ ⊢
  generalize hH2 : s₂.heap.push { cls := .type "list", dict := none, data := .seq ([] : List Value).toArray } = H2 at hns₁ hsb₁ ⊢
  have hC : H2.objs.size = s₂.heap.objs.size + 1 := by rw [← hH2, Heap.size_push]
  have hz₁ : h₁.objs.size = s₂.heap.objs.size + 2 := by rw [hsb₁.1, Heap.size_push, hC]
  rw [hC] at hns₁ hsb₁ ⊢
  generalize hD : s₂.heap.objs.size = D at *
  have old : Ext s₂.heap h₁ := fun b o e => hsb₁.extBut b o (Nat.ne_of_lt (Nat.lt_succ_of_lt (hD ▸ Heap.lt_size e))) (Heap.get?_push_of_some _ (hH2 ▸ Heap.get?_push_of_some _ e))
  have hacc : Lst h₁ D [] := ⟨_, hsb₁.extBut _ _ (Nat.ne_of_lt (Nat.lt_succ_self _)) (Heap.get?_push_of_some _ (hH2 ▸ hD ▸ Heap.get?_push_size _ rfl))⟩
  have hst₁ : St 0 h₁ := W.frame _ _ _ hst fun b _ o e => old b o e
  have hDf : D ∉ fp := fun hm => Nat.lt_irrefl _ (hfp _ hm)
  have hCf : D + 1 ∉ fp := fun hm => Nat.lt_irrefl _ (Nat.lt_of_succ_lt (hfp _ hm))
  have hDw : D ∉ wr := fun hm => hDf (W.sub _ hm)
  have hCw : D + 1 ∉ wr := fun hm => hCf (W.sub _ hm)
  have loop : ∀ s₃ : Shared, s₃ = { s₂ with heap := h₁, toks := s₂.toks + ([] : List (Str × Value)).length } →
      codeAny (MD w) A (.compLoop (.ListComp elt [⟨target, iter, ifs, 0⟩] scope pos) 0 (.ref I) (.ref D) (compEnvC scope cl (D + 1) env)) (RR (.ref D) (D + 1)) s₃ := by
    rintro s₃ rfl
    refine compLoop_any (LSt s₂ D n δ ex wr p F N St) ?_ n
      ⟨h₁, _, [], [], 0, rfl, hst₁, hacc, hns₁, .nil, .nil, Nat.zero_le _, rfl, KeepOut.ext old _, fun _ => ⟨by rw [hz₁]; simp, by simp⟩⟩
    rintro k s' ⟨h', tk, l, ys, i, rfl, st, hl, hns, hF, hN, hi, rfl, hk, hz⟩
    rcases Nat.lt_or_ge i n with hlt | hge
    · refine W.item i _ _ _ hlt st fun v h₃ tk₃ hP st₃ hk₃ hz₃ => ?_
      dsimp only at hk₃ hz₃ ⊢
      have hk₃' : KeepOut (D :: (D + 1) :: wr) h' h₃ := hk₃.more (by simp +contextual)
      refine asg i v _ l _ _ hlt hP (hk.trans hk₃') (ns_keep hns hk₃ hCw) st₃ fun h₄ tk₄ l₄ hns₄ hB₄ hk₄ st₄ hz₄ => ?_
      dsimp only at hk₄ hz₄ ⊢
      have hk₄' : KeepOut (D :: (D + 1) :: wr) h' h₄ := hk₃'.trans (hk₄.more (by intro b hb; exact List.mem_cons_of_mem _ hb))
      have hl₄ : Lst h₄ D ys := (hl.keep hk₃ hDw).keep hk₄ (fun hm => (List.mem_cons.mp hm).elim (fun e => Nat.succ_ne_self _ e.symm) hDw)
      refine wpAny_mono (tests i _ l₄ _ hlt hB₄ hns₄ (hk.trans hk₄')) (fun ok s₅ h₅ => ?_) fun _ _ e => e
      obtain ⟨rfl, h₅, tk₅, rfl, hx₅, hz₅⟩ := h₅
      dsimp only at hx₅ hz₅ ⊢
      have hk₅' : KeepOut (D :: (D + 1) :: wr) h' h₅ := hk₄'.trans (KeepOut.ext hx₅ _)
      have st₅ : St (i + 1) h₅ := W.frame _ _ _ st₄ fun b _ o e => hx₅ b o e
      have hl₅ := hl₄.ext hx₅
      have hns₅ := ns_ext hns₄ hx₅
      have hr : (List.range (i + 1)).filter p = (List.range i).filter p ++ (if p i then [i] else []) := by rw [List.range_succ, List.filter_append]; cases hp : p i <;> simp [hp]
      have hlen : ys.length ≤ i := by rw [← hF.length]; exact Nat.le_trans (List.length_filter_le _ _) (by simp)
      cases hp : p i with
      | false =>
        rw [if_neg (by decide)]
        refine ⟨n - (i + 1), by (first | lia | omega), h₅, tk₅, l₄, ys, i + 1, rfl, st₅, hl₅, hns₅, ?_, hN, hlt, rfl, hk.trans hk₅', fun e => ?_⟩
        · rw [hr, hp]; simp only [Bool.false_eq_true, if_false, List.append_nil]
          exact Mine.Paired.imp hF fun a b x => stab _ _ _ _ x hk₅'
        · have := hz e; have := hz₃ e; have := hz₄ e; have := hz₅ e; (first | lia | omega)
      | true =>
        rw [if_pos rfl]
        refine wpAny_mono (helt i _ l₄ _ hlt hp hB₄ hns₅ (hk.trans hk₅') ?_) (fun y s₆ h₆ => ?_) fun _ _ e => e
        · intro b hb
          rcases List.mem_cons.mp hb with rfl | hb
          · obtain ⟨_, q⟩ := hl₅; exact ⟨_, q⟩
          · rcases List.mem_cons.mp hb with rfl | hb
            · obtain ⟨_, _, _, q, _⟩ := hns₅; exact ⟨_, q⟩
            · exact W.alive _ _ st₅ b hb
        obtain ⟨h₆, tk₆, rfl, hx₆, hy, hyN, hz₆⟩ := h₆
        dsimp only at hx₆ hz₆ ⊢
        have hk₆' := hk₅'.trans (KeepOut.ext hx₆ _)
        refine appendL (hl₅.ext hx₆) (by (first | lia | omega)) fun h₇ hl₇ hs₇ => ?_
        dsimp only at hs₇ ⊢
        have hk₇ : KeepOut (D :: (D + 1) :: wr) h₆ h₇ := KeepOut.same hs₇ (by simp)
        refine ⟨n - (i + 1), by (first | lia | omega), h₇, tk₆, l₄, ys ++ [y], i + 1, rfl, ?_, hl₇, ?_, ?_, ?_, hlt, rfl, (hk.trans hk₆').trans hk₇, fun e => ?_⟩
        · exact W.frame _ _ _ st₅ fun b hb o e => hs₇.extBut b o (fun q => hDf (q ▸ hb)) (hx₆ b o e)
        · exact (ns_ext hns₅ hx₆).sameBut hs₇ (Nat.succ_ne_self _)
        · rw [hr, hp]; simp only [if_true]
          exact Paired.snoc (Mine.Paired.imp hF fun a b x => stab _ _ _ _ x (hk₆'.trans hk₇)) (stab _ _ _ _ hy hk₇)
        · refine List.pairwise_append.mpr ⟨hN, List.pairwise_singleton _ _, fun a ha b hb => ?_⟩
          rw [List.mem_singleton.mp hb]
          obtain ⟨j, hj, hja⟩ := Mine.Paired.of_mem hF a ha
          exact hyN j a (List.mem_range.mp (List.mem_filter.mp hj).1) (stab _ _ _ _ hja hk₅')
        · have := hz e; have := hz₃ e; have := hz₄ e; have := hz₅ e; have := hz₆ e
          have := hs₇.1
          rw [List.length_append, Nat.add_mul]; simp only [List.length_singleton, Nat.one_mul]
          (first | lia | omega)
    · have : i = n := by (first | lia | omega)
      subst this
      refine W.done _ _ _ st fun h₃ tk₃ hk₃ hz₃ => ?_
      dsimp only at hk₃ hz₃ ⊢
      have hk₃' : KeepOut (D :: (D + 1) :: wr) h' h₃ := hk₃.more (by simp +contextual)
      refine hRR h₃ tk₃ ys _ (ns_keep hns hk₃ hCw) (hl.keep hk₃ hDw) (Mine.Paired.imp hF fun a b x => stab _ _ _ _ x hk₃') hN (hk.trans hk₃') fun e => ?_
      have := hz e; have := hz₃ e; (first | lia | omega)
  exact codeAny_compStart_list (loop _ rfl) (W.self 0 _ _ _ hst₁ (loop _ rfl))
end
end Mine

end
section
open PySem PySem.W PySem.W.X PyProof.Rows
set_option Elab.async false
set_option maxRecDepth 100000
set_option maxHeartbeats 0
namespace Mine
section
variable {w : World} {A : Around} {E : Value → Shared → Prop} {s : Shared}

/-- all that a list comprehension with one clause asks at the state s₂ at which its iterator stands -/
structure LC (w : World) (A : Around) (env : Env) (scope : Scope) (cl : List (Str × Addr)) (target : Expr) (ifs : List Expr) (elt : Expr) (ex : Bool) (I : Addr) (fp wr : List Addr) (n : Nat) (P : Heap → Nat → Value → Prop)
    (St : Nat → Heap → Prop) (p : Nat → Bool) (F : List Addr → Heap → Nat → Value → Prop) (B : Nat → List (Str × Value) → Prop) (N : Value → Value → Prop) (δ : Nat) (s₂ : Shared) : Prop where
  walk : Wk w A ex I fp wr n P St
  few : n ≤ 100000
  st : St 0 s₂.heap
  below : ∀ b ∈ fp, b < s₂.heap.objs.size
  asg : ∀ i v (s : Shared) l (Q : Unit → Shared → Prop) E', i < n → P s.heap i v → KeepOut (s₂.heap.objs.size :: (s₂.heap.objs.size + 1) :: wr) s₂.heap s.heap → s.heap.Ns (s₂.heap.objs.size + 1) (lk l) → St (i + 1) s.heap →
      (∀ h' tk l', h'.Ns (s₂.heap.objs.size + 1) (lk l') → B i l' → KeepOut ((s₂.heap.objs.size + 1) :: wr) s.heap h' → St (i + 1) h' → SZ ex h' tk s.heap.objs.size s.toks → Q () { s with heap := h', toks := tk }) →
      wpAny (MD w) A (letOwnedTupleGo target (.ref I) v >>= fun _ => assign target (compEnvC scope cl (s₂.heap.objs.size + 1) env) v) Q E' s
  tests : ∀ i (s : Shared) l E', i < n → B i l → s.heap.Ns (s₂.heap.objs.size + 1) (lk l) → KeepOut (s₂.heap.objs.size :: (s₂.heap.objs.size + 1) :: wr) s₂.heap s.heap →
      wpAny (MD w) A (forIn ifs true fun c r => if r = true then do let ok ← isTrue c (compEnvC scope cl (s₂.heap.objs.size + 1) env) (eval c (compEnvC scope cl (s₂.heap.objs.size + 1) env)); pure (ForInStep.yield ok) else pure (ForInStep.yield r))
        (fun ok s' => ok = p i ∧ ∃ h' tk, s' = { s with heap := h', toks := tk } ∧ Ext s.heap h' ∧ SZ ex h' tk s.heap.objs.size s.toks) E' s
  elt : ∀ i (s : Shared) l E', i < n → p i = true → B i l → s.heap.Ns (s₂.heap.objs.size + 1) (lk l) → KeepOut (s₂.heap.objs.size :: (s₂.heap.objs.size + 1) :: wr) s₂.heap s.heap →
      (∀ b ∈ s₂.heap.objs.size :: (s₂.heap.objs.size + 1) :: wr, ∃ o, s.heap.get? b = some o) →
      wpAny (MD w) A (eval elt (compEnvC scope cl (s₂.heap.objs.size + 1) env)) (fun y s' => ∃ h' tk, s' = { s with heap := h', toks := tk } ∧ Ext s.heap h' ∧ F (s₂.heap.objs.size :: (s₂.heap.objs.size + 1) :: wr) h' i y ∧
        (∀ j y', j < i → F (s₂.heap.objs.size :: (s₂.heap.objs.size + 1) :: wr) s.heap j y' → N y' y) ∧ SZ ex h' tk (s.heap.objs.size + δ) s.toks) E' s
  stab : ∀ i y h h', F (s₂.heap.objs.size :: (s₂.heap.objs.size + 1) :: wr) h i y → KeepOut (s₂.heap.objs.size :: (s₂.heap.objs.size + 1) :: wr) h h' → F (s₂.heap.objs.size :: (s₂.heap.objs.size + 1) :: wr) h' i y

theorem fresh_size (h : Heap) (a : Addr) (ha : h.objs.size ≤ a) : h.get? a = none := by
  cases e : h.get? a with
  | none => rfl
  | some o' => exact absurd (Heap.lt_size e) (Nat.not_lt.mpr ha)

/-- what the end of the comprehension is told -/
def LCdone (ex : Bool) (wr : List Addr) (n : Nat) (p : Nat → Bool) (F : List Addr → Heap → Nat → Value → Prop) (N : Value → Value → Prop) (δ : Nat) (s₂ : Shared) (ys : List Value) (h' : Heap) (tk : Nat) : Prop :=
  Lst h' s₂.heap.objs.size ys ∧ Paired (F (s₂.heap.objs.size :: (s₂.heap.objs.size + 1) :: wr) h') ((List.range n).filter p) ys ∧ ys.Pairwise N ∧ KeepOut wr s₂.heap h' ∧ SZ ex h' tk (s₂.heap.objs.size + 4 + ys.length * δ) s₂.toks

/-- what the rule of a comprehension asks at its iterator -/
inductive LCok (w : World) (A : Around) (env : Env) (scope : Scope) (cl : List (Str × Addr)) (target : Expr) (ifs : List Expr) (elt : Expr) (Q : Value → Shared → Prop) (it : Value) (s₂ : Shared) : Prop
  | mk (ex : Bool) (I : Addr) (fp wr : List Addr) (n : Nat) (P : Heap → Nat → Value → Prop) (St : Nat → Heap → Prop) (p : Nat → Bool) (F : List Addr → Heap → Nat → Value → Prop) (B : Nat → List (Str × Value) → Prop) (N : Value → Value → Prop) (δ : Nat) (hit : it = .ref I) (lc : LC w A env scope cl target ifs elt ex I fp wr n P St p F B N δ s₂) (hQ : ∀ ys h' tk, LCdone ex wr n p F N δ s₂ ys h' tk → Q (.ref s₂.heap.objs.size) { s₂ with heap := h', toks := tk }) : LCok w A env scope cl target ifs elt Q it s₂
inductive LCokA (w : World) (A : Around) (env : Env) (scope : Scope) (cl : List (Str × Addr)) (target : Expr) (ifs : List Expr) (elt : Expr) (l : List (Str × Value)) (y : Str) (Q : Flow → Shared → Prop) (it : Value) (s₂ : Shared) : Prop
  | mk (ex : Bool) (I : Addr) (fp wr : List Addr) (n : Nat) (P : Heap → Nat → Value → Prop) (St : Nat → Heap → Prop) (p : Nat → Bool) (F : List Addr → Heap → Nat → Value → Prop) (B : Nat → List (Str × Value) → Prop) (N : Value → Value → Prop) (δ : Nat) (hit : it = .ref I) (lc : LC w A env scope cl target ifs elt ex I fp wr n P St p F B N δ s₂) (hw : env.locals ∉ wr) (hn : s₂.heap.Ns env.locals (lk l)) (hF : ∀ i y h h', F (s₂.heap.objs.size :: (s₂.heap.objs.size + 1) :: wr) h i y → Heap.SameBut env.locals h h' → F (s₂.heap.objs.size :: (s₂.heap.objs.size + 1) :: wr) h' i y)
      (hQ : ∀ ys h' tk, LCdone ex (env.locals :: wr) n p (fun _ => F (s₂.heap.objs.size :: (s₂.heap.objs.size + 1) :: wr)) N δ s₂ ys h' tk → h'.Ns env.locals (lk ((y, .ref s₂.heap.objs.size) :: l)) → Q .next { s₂ with heap := h', toks := tk }) : LCokA w A env scope cl target ifs elt l y Q it s₂
theorem lcomp {elt target iter : Expr} {ifs : List Expr} {scope : Scope} {cl : List (Str × Addr)} {pos : Pos} {env : Env} {Q : Value → Shared → Prop}
    (hclos : closureFor scope env = pure cl) (hcell : ∀ y ∈ scope.names, y.2 ≠ .cell) (hkind : scope.kind = .function) (hnames : ∀ y ∈ scope.names, y.2 = .local → scope.names.lookup y.1 = some .local)
    (h : wpAny (MD w) A (eval iter env) (fun xv s₁ => wpAny (MD w) A (pyIter xv) (fun it s₂ => LCok w A env scope cl target ifs elt Q it s₂) E s₁) E s)
    (hs : ∀ x, foldedSetIterable iter env x = pure x := by intro _; rfl) :
    wpAny (MD w) A (eval (.ListComp elt [⟨target, iter, ifs, 0⟩] scope pos) env) Q E s := by
  rw [eval_ListComp]
  refine wpAny_comprehension_free (use := none) rfl hs hclos hkind hnames (wpAny_mono h (fun xv s₁ h₁ => wpAny_mono h₁ (fun it s₂ h₂ => ?_) fun _ _ e => e) fun _ _ e => e)
  obtain ⟨ex, I, fp, wr, n, P, St, p, F, B, N, δ, rfl, X, hQ⟩ := h₂
  refine lcomp_core (RR := fun acc C => compPost (MD w) A E none Q acc C) X.walk X.few p F B N δ hcell hkind X.st X.below X.asg X.tests X.elt X.stab ?_
  intro h' tk ys m hn hl hF hN hk hz
  refine ⟨m, hn, fun h'' hs'' => hQ ys h'' tk ⟨?_, ?_, hN, ?_, ?_⟩⟩
  · exact hl.same hs'' (Nat.ne_of_lt (Nat.lt_succ_self _))
  · exact Mine.Paired.imp hF fun i y q => X.stab i y h' h'' q (KeepOut.same hs'' (by simp))
  · intro b o hb e
    have hb' := Heap.lt_size e
    exact hs''.extBut b o (Nat.ne_of_lt (Nat.lt_succ_of_lt hb')) (hk b o (by
      intro hm
      rcases List.mem_cons.mp hm with q | hm
      · exact Nat.ne_of_lt hb' q
      · rcases List.mem_cons.mp hm with q | hm
        · exact Nat.ne_of_lt (Nat.lt_succ_of_lt hb') q
        · exact hb hm) e)
  · intro e; exact hs''.1 ▸ hz e

theorem lcompA {elt target iter : Expr} {ifs : List Expr} {scope : Scope} {cl : List (Str × Addr)} {pos spos py : Pos} {y : Str} {env : Env} {l : List (Str × Value)} {Q : Flow → Shared → Prop}
    (hsw : swapsWith (.ListComp elt [⟨target, iter, ifs, 0⟩] scope pos) (some (.Name y py)) spos.line env = pure true)
    (hclos : closureFor scope env = pure cl) (hcell : ∀ y ∈ scope.names, y.2 ≠ .cell) (hkind : scope.kind = .function) (hnames : ∀ y ∈ scope.names, y.2 = .local → scope.names.lookup y.1 = some .local)
    (hy : env.kindOf y = some .local) (hp : (env.scope.kind == .class || (env.scope.kind == .module && env.locals != env.globals)) = false)
    (h : wpAny (MD w) A (eval iter env) (fun xv s₁ => wpAny (MD w) A (pyIter xv) (fun it s₂ => LCokA w A env scope cl target ifs elt l y Q it s₂) E s₁) E s)
    (hs : ∀ x, foldedSetIterable iter env x = pure x := by intro _; rfl) :
    wpAny (MD w) A (exec (.Assign [.Name y py] (.ListComp elt [⟨target, iter, ifs, 0⟩] scope pos) spos) env) Q E s := by
  rw [exec_Assign_Name_used _ _ _ _ hsw]
  refine wpAny_bind (wpAny_standAt (wpAny_bind ?_))
  show wpAny _ A (do let _ ← comprehension (.ListComp elt [⟨target, iter, ifs, 0⟩] scope pos) scope env _ (newList []) false (eval iter env) (some (assign (.Name y py) env))) _ _ s
  refine wpAny_bind (wpAny_mono (wpAny_comprehension_free (use := some (assign (.Name y py) env)) (Q := fun _ s' => Q .next s') rfl hs hclos hkind hnames
    (wpAny_mono h (fun xv s₁ h₁ => wpAny_mono h₁ (fun it s₂ h₂ => ?_) fun _ _ e => e) fun _ _ e => e)) (fun _ s' hq => wpAny_pure (wpAny_pure hq)) fun _ _ e => e)
  obtain ⟨ex, I, fp, wr, n, P, St, p, F, B, N, δ, rfl, X, hLf, hn, hFL, hQ⟩ := h₂
  have hLlt : env.locals < s₂.heap.objs.size := by obtain ⟨o, _, _, ho, _⟩ := hn; exact Heap.lt_size ho
  refine lcomp_core (RR := fun acc C => compPost (MD w) A E (some (assign (.Name y py) env)) (fun _ s' => Q .next s') acc C) X.walk X.few p F B N δ hcell hkind X.st X.below X.asg X.tests X.elt X.stab ?_
  intro h' tk ys m hnC hl hF hN hk hz
  have hout : ∀ b, b < s₂.heap.objs.size → b ∉ wr → b ∉ s₂.heap.objs.size :: (s₂.heap.objs.size + 1) :: wr := by
    intro b hb' hb hm
    rcases List.mem_cons.mp hm with q | hm
    · exact Nat.ne_of_lt hb' q
    · rcases List.mem_cons.mp hm with q | hm
      · exact Nat.ne_of_lt (Nat.lt_succ_of_lt hb') q
      · exact hb hm
  show wpAny _ A (assign (.Name y py) env (.ref s₂.heap.objs.size)) _ _ _
  refine wpAny_assign_Name (wpAny_storeName_local hy (ns_keep hn hk (hout _ hLlt hLf)) (fun h₂ hn₂ hs₂ => ?_) hp)
  refine ⟨m, hnC.sameBut hs₂ (Ne.symm (Nat.ne_of_lt (Nat.lt_succ_of_lt hLlt))), fun h₃ hs₃ => hQ ys h₃ _ ⟨?_, ?_, hN, ?_, ?_⟩ ?_⟩
  · exact (hl.same hs₂ (Ne.symm (Nat.ne_of_lt hLlt))).same hs₃ (Nat.ne_of_lt (Nat.lt_succ_self _))
  · exact Mine.Paired.imp hF fun i y q => X.stab i y h₂ h₃ (hFL i y h' h₂ q hs₂) (KeepOut.same hs₃ (by simp))
  · intro b o hb e
    have hb' := Heap.lt_size e
    exact hs₃.extBut b o (Nat.ne_of_lt (Nat.lt_succ_of_lt hb')) (hs₂.extBut b o (fun q => hb (by simp [q])) (hk b o (hout b hb' (fun q => hb (List.mem_cons_of_mem _ q))) e))
  · intro e
    have a := hz e
    have b := hs₂.1
    have c := hs₃.1
    dsimp only at a b c ⊢
    (first | lia | omega)
  · rw [← lk_cons]; exact hn₂.sameBut hs₃ (Nat.ne_of_lt (Nat.lt_succ_of_lt hLlt))
end
end Mine

end
section
open PySem PySem.W PySem.W.X PyProof.Rows
set_option Elab.async false
set_option maxRecDepth 100000
set_option maxHeartbeats 0
namespace Mine
section
variable {w : World} {A : Around} {E : Value → Shared → Prop} {s : Shared}

theorem listEnd {it l : Addr} {i : Nat} {items} {Q : Option Value → Shared → Prop} (hh : A.handled = none)
    (hit : s.heap.IsListIter it l i) (hl : s.heap.IsList l items) (hx : items[i]? = none)
    (hQ : ∀ h', Heap.ExtBut it s.heap h' → h'.objs.size = s.heap.objs.size + 2 → Q none { s with heap := h' }) : wpAny (MD w) A (pyNext (.ref it)) Q E s := by
  obtain ⟨o, ho, hc, hd⟩ := id hit
  obtain ⟨ol, hol, _, nl, hdl⟩ := hl
  unfold pyNext
  refine wpAny_bind (wpAny_attempt (wpAny_callSpecial?_slot (name := Str.ofString "__next__") hit.typeIs slot_listiter_next
    (wpAny_call_entry slot_listiter_next hit.typeIs entry_listiter_next ?_ (args_listiter_next _))))
  show wpAny _ _ (field (.ref it) 0 >>= _) _ _ s
  refine wpAny_bind (wpAny_field ho hd (x := .ref l) rfl ?_)
  show wpAny _ _ (if (Value.ref l == Value.none) = true then _ else _) _ _ s
  rw [if_neg (show ¬ ((Value.ref l == Value.none) = true) from Bool.false_ne_true)]
  show wpAny _ _ (field (.ref it) 1 >>= _) _ _ s
  refine wpAny_bind (wpAny_field ho hd (x := .int i 0) rfl ?_)
  show wpAny _ _ (seqItems? (.ref l) >>= _) _ _ s
  refine wpAny_bind (wpAny_seqItems hol hdl ?_)
  simp only [Int.toNat_natCast, hx]
  refine wpAny_bind (wpAny_rule (wpAny_bind (wpAny_setField ho hd (by simp) ?_)))
  show wpAny _ _ (newExc (.type "StopIteration") [] >>= _) _ _ _
  refine wpAny_bind ?_
  simp only [newExc, newTuple]
  refine wpAny_bind (wpAny_newObj_type ?_ (by size_fits))
  refine wpAny_bind (m := firstArgMember _ _) (wpAny_of_eq (a := Value.none) (by first | rfl | (simp only [firstArgMember]; rfl)) ?_)
  refine wpAny_newObj_type ?_ (by size_fits)
  simp only [raiseNew]
  refine wpAny_bind (wpAny_handled ?_)
  rw [show A.in1.handled = none from hh]
  refine wpAny_bind (wpAny_pure (wpAny_throw ?_))
  refine wpAny_bind (wpAny_isInstance (T := "StopIteration") (b := true) ⟨_, Heap.get?_push_size _ rfl, rfl⟩ isSubtype_stop ?_)
  exact wpAny_pure (hQ _ (((Heap.SameBut.update ..).extBut.push _).push _) (by rw [Heap.size_push, Heap.size_push, (Heap.SameBut.update ..).1]))

theorem tupEnd {it t : Addr} {i : Nat} {items} {Q : Option Value → Shared → Prop} (hh : A.handled = none)
    (hit : IsTupIter s.heap it t i) (ht : IsTup s.heap t items) (hx : items[i]? = none)
    (hQ : ∀ h', Heap.ExtBut it s.heap h' → h'.objs.size = s.heap.objs.size + 2 → Q none { s with heap := h' }) : wpAny (MD w) A (pyNext (.ref it)) Q E s := by
  obtain ⟨o, ho, hc, hd⟩ := id hit
  obtain ⟨ol, hol, _, nl, hdl⟩ := ht
  unfold pyNext
  refine wpAny_bind (wpAny_attempt (wpAny_callSpecial?_slot (name := Str.ofString "__next__") hit.typeIs slot_tupleiter_next
    (wpAny_call_entry slot_tupleiter_next hit.typeIs entry_tupleiter_next ?_ (args_tupleiter_next _))))
  show wpAny _ _ (field (.ref it) 0 >>= _) _ _ s
  refine wpAny_bind (wpAny_field ho hd (x := .ref t) rfl ?_)
  show wpAny _ _ (if (Value.ref t == Value.none) = true then _ else _) _ _ s
  rw [if_neg (show ¬ ((Value.ref t == Value.none) = true) from Bool.false_ne_true)]
  show wpAny _ _ (field (.ref it) 1 >>= _) _ _ s
  refine wpAny_bind (wpAny_field ho hd (x := .int i 0) rfl ?_)
  show wpAny _ _ (seqItems? (.ref t) >>= _) _ _ s
  refine wpAny_bind (wpAny_seqItems hol hdl ?_)
  simp only [Int.toNat_natCast, hx]
  refine wpAny_bind (wpAny_rule (wpAny_bind (wpAny_setField ho hd (by simp) ?_)))
  show wpAny _ _ (newExc (.type "StopIteration") [] >>= _) _ _ _
  refine wpAny_bind ?_
  simp only [newExc, newTuple]
  refine wpAny_bind (wpAny_newObj_type ?_ (by size_fits))
  refine wpAny_bind (m := firstArgMember _ _) (wpAny_of_eq (a := Value.none) (by first | rfl | (simp only [firstArgMember]; rfl)) ?_)
  refine wpAny_newObj_type ?_ (by size_fits)
  simp only [raiseNew]
  refine wpAny_bind (wpAny_handled ?_)
  first | rw [show A.in1.handled = none from hh] | rw [hh]
  refine wpAny_bind (wpAny_pure (wpAny_throw ?_))
  refine wpAny_bind (wpAny_isInstance (T := "StopIteration") (b := true) ⟨_, Heap.get?_push_size _ rfl, rfl⟩ isSubtype_stop ?_)
  exact wpAny_pure (hQ _ (((Heap.SameBut.update ..).extBut.push _).push _) (by rw [Heap.size_push, Heap.size_push, (Heap.SameBut.update ..).1]))

/-- a tuple of so many items unpacked: an iterator and its end are laid -/
theorem unpackX {t : Addr} {vs : List Value} {n : Nat} {Q : List Value → Shared → Prop} (hh : A.handled = none) (ht : Tup s.heap t vs) (hn : n = vs.length)
    (hQ : ∀ h', Ext s.heap h' → h'.objs.size = s.heap.objs.size + 3 → Q vs { s with heap := h' }) : wpAny (MD w) A (unpackItems (.ref t) n none) Q E s := by
  subst hn
  have hT := ht.isTup
  have hlt : t ≠ s.heap.objs.size := by obtain ⟨_, ho⟩ := ht; exact Nat.ne_of_lt (Heap.lt_size ho)
  unfold unpackItems
  refine wpAny_bind ?_
  unfold notIterableAtAll
  refine wpAny_bind (wpAny_specialOf hT.typeIs slot_tuple_iter.lookup ?_)
  refine wpAny_pure ?_
  simp only [Bool.false_eq_true, if_false]
  refine wpAny_bind (wpAny_holding (iter_tuple hT ?_))
  refine wpAny_bind (wpAny_holding (draw_tuple hlt vs.length 0 _ _ ⟨_, Heap.get?_push_size _ rfl, rfl, rfl⟩ (hT.push _) (by simp) fun h₁ hit₁ hs₁ => ?_))
  have hall : List.take vs.length (List.drop 0 vs.toArray.toList) = vs := by simp
  rw [hall]
  rw [if_neg (by simp)]
  have ht₁ : IsTup h₁ t vs.toArray := (hT.push _).extBut hs₁.extBut hlt
  refine wpAny_bind (wpAny_holding (tupEnd hh hit₁ ht₁ (by simp) fun h₂ he₂ hz₂ => ?_))
  simp only [Option.isSome_none, Bool.false_eq_true, if_false]
  refine wpAny_pure (hQ h₂ (fun b o e => ?_) ?_)
  · have hb := Nat.ne_of_lt (Heap.lt_size e)
    exact he₂ b o hb (hs₁.extBut b o hb (Heap.get?_push_of_some _ e))
  · dsimp only at hz₂; rw [hz₂, hs₁.1, Heap.size_push]

theorem assignTup {env : Env} {elts : List Expr} {x1} {pos : Pos} {t : Addr} {vs : List Value} {Q : Unit → Shared → Prop} (hh : A.handled = none) (ht : Tup s.heap t vs)
    (hn : (assignEach elts env).length = vs.length) (hstar : (assignEach elts env).findIdx? (·.1) = none)
    (h : ∀ h', Ext s.heap h' → h'.objs.size = s.heap.objs.size + 3 → wpAny (MD w) A (assignInOrder ((assignEach elts env).map (·.2)) vs) Q E { s with heap := h' }) :
    wpAny (MD w) A (assign (.Tuple elts x1 pos) env (.ref t)) Q E s := by
  rw [arm_assign_Tuple]
  refine wpAny_bind (wpAny_standAt ?_)
  unfold unpack
  rw [hstar]
  exact wpAny_bind (wpAny_holding (unpackX hh ht hn h))

theorem Wk.ofWalks {I : Addr} {fp wr : List Addr} {n : Nat} {P : Nat → Value → Prop} {St : Nat → Heap → Prop} (W : Walks PR w A I fp wr n P St) (al : ∀ i h, St i h → ∀ b ∈ wr, ∃ o, h.get? b = some o) :
    Wk w A false I fp wr n (fun _ => P) St where
  sub := W.sub
  frame := W.frame
  alive := al
  item := fun i s Q E hi st hQ => W.item i s Q E hi st fun v h' tk hp st' hk => hQ v h' tk hp st' hk SZ.no
  done := fun s Q E st hQ => W.done s Q E st fun h' tk hk => hQ h' tk hk SZ.no
  self := W.self

theorem Wk.list (ex : Bool) (hh : A.handled = none) (I ax : Addr) (hne : ax ≠ I) (vs : List Value) :
    Wk w A ex I [I, ax] [I] vs.length (fun _ i v => vs[i]? = some v) (fun i h => h.IsListIter I ax i ∧ h.IsList ax vs.toArray) where
  sub := fun b hb => by simp at hb; simp [hb]
  frame := fun _ _ _ st hk => ⟨st.1.at fun o e => hk I (by simp) o e, st.2.at fun o e => hk ax (by simp) o e⟩
  alive := fun i h st b hb => by obtain ⟨o, e, _⟩ := st.1; simp at hb; exact ⟨o, hb ▸ e⟩
  item := fun i s Q E hi st hQ => by
    refine wpAny_pyNext_list_item st.1 st.2 (x := vs[i]) (by simp [hi]) fun h' hit' hs' => ?_
    exact hQ _ h' s.toks (by simp [hi]) ⟨hit', st.2.extBut hs'.extBut hne⟩ (KeepOut.same hs' (by simp)) fun _ => ⟨hs'.1, Nat.le_refl _⟩
  done := fun s Q E st hQ => listEnd hh st.1 st.2 (by simp) fun h' he' hz => hQ h' s.toks (KeepOut.but he' (by simp)) fun _ => ⟨hz, Nat.le_refl _⟩
  self := fun _ _ _ _ st hQ => wpAny_pyIter_listiter st.1 hQ

theorem Wk.range (hh : A.handled = none) (I : Addr) (n : Nat) : Wk w A false I [I] [I] n (fun _ i v => ∃ t, v = .int (i : Int) t) (fun i h => IsRangeIter h I ((0 : Int) + (i : Nat) * 1) ((n : Int) - (i : Nat)) 1) where
  sub := fun _ hb => hb
  frame := (Walks.range (prog := PR) (w := w) hh I 0 1 n).frame
  alive := fun i h st b hb => by simp at hb; exact ⟨_, hb ▸ st⟩
  item := fun i s Q E hi st hQ => (Walks.range (prog := PR) (w := w) hh I 0 1 n).item i s Q E hi st fun v h' tk hp st' hk => hQ v h' tk (by obtain ⟨t, rfl⟩ := hp; exact ⟨t, by rw [Int.mul_one, Int.zero_add]⟩) st' hk SZ.no
  done := fun s Q E st hQ => (Walks.range (prog := PR) (w := w) hh I 0 1 n).done s Q E st fun h' tk hk => hQ h' tk hk SZ.no
  self := (Walks.range (prog := PR) (w := w) hh I 0 1 n).self

/-- a name as the target -/
theorem asgName {ex : Bool} {scope : Scope} {cl : List (Str × Addr)} {C I : Addr} {env : Env} {x : Str} {px : Pos} {fp wr : List Addr} {n : Nat} {P : Heap → Nat → Value → Prop} {St : Nat → Heap → Prop} {k : Nat} {v : Value} {s : Shared} {l : List (Str × Value)} {Q : Unit → Shared → Prop} {E' : Value → Shared → Prop}
    {B : List (Str × Value) → Prop} (W : Wk w A ex I fp wr n P St) (hC : C ∉ fp) (hkind : scope.kind = .function) (hx : scope.names.lookup x = some .local)
    (hn : s.heap.Ns C (lk l)) (st : St k s.heap) (hB : B ((x, v) :: l))
    (hQ : ∀ h' tk l', h'.Ns C (lk l') → B l' → KeepOut (C :: wr) s.heap h' → St k h' → SZ ex h' tk s.heap.objs.size s.toks → Q () { s with heap := h', toks := tk }) :
    wpAny (MD w) A (letOwnedTupleGo (.Name x px) (.ref I) v >>= fun _ => assign (.Name x px) (compEnvC scope cl C env) v) Q E' s := by
  refine wpAny_bind (wpAny_pure (wpAny_assign_Name (wpAny_storeName_local (env := compEnvC scope cl C env) (lookup_relabel_local hx) hn (fun h' hn' hs' => ?_) (by simp [compEnvC, relabel, hkind]))))
  replace hs' : Heap.SameBut C s.heap h' := hs'
  refine hQ h' _ ((x, v) :: l) (lk_cons l x v ▸ hn') hB (KeepOut.same hs' (by simp)) ?_ fun _ => ⟨hs'.1, Nat.le_succ _⟩
  exact W.frame _ _ _ st fun b hb o e => hs'.extBut b o (fun q => hC (q ▸ hb)) e

/-- no tests -/
theorem noTests {ex : Bool} {env : Env} {s : Shared} {E' : Value → Shared → Prop} :
    wpAny (MD w) A (forIn ([] : List Expr) true fun c r => if r = true then do let ok ← isTrue c env (eval c env); pure (ForInStep.yield ok) else pure (ForInStep.yield r))
      (fun ok s' => ok = true ∧ ∃ h' tk, s' = { s with heap := h', toks := tk } ∧ Ext s.heap h' ∧ SZ ex h' tk s.heap.objs.size s.toks) E' s :=
  wpAny_tests_nil ⟨rfl, _, _, rfl, Ext.refl _, fun _ => ⟨rfl, Nat.le_refl _⟩⟩

theorem ne_of {a b : Nat} (h : a < b ∨ b < a) : a ≠ b := by (first | lia | omega)

theorem lt_ne {h : Heap} {b c : Addr} {o : Obj} (e : h.get? b = some o) (hc : h.objs.size ≤ c) : b ≠ c := Nat.ne_of_lt (Nat.lt_of_lt_of_le (Heap.lt_size e) hc)
theorem lw_below {I T n : Addr} (hT : T < I) (hn : n = I + 1) : ∀ b ∈ [I, T], b < n := by
  intro b hb
  subst hn
  rcases List.mem_cons.mp hb with rfl | hb
  · exact Nat.lt_succ_self _
  · rw [List.mem_singleton.mp hb]; exact Nat.lt_succ_of_lt hT
theorem lw_C {I T n : Addr} (hT : T < I) (hn : n = I + 1) : n + 1 ∉ [I, T] := by
  intro hm
  subst hn
  rcases List.mem_cons.mp hm with e | hm
  · exact absurd e (Nat.ne_of_gt (Nat.lt_succ_of_lt (Nat.lt_succ_self _)))
  · exact absurd (List.mem_singleton.mp hm).symm (Nat.ne_of_lt (Nat.lt_succ_of_lt (Nat.lt_succ_of_lt hT)))

theorem pushCells_size : ∀ (names : List (Str × NameKind)) (h : Heap), (pushCells h names).objs.size = h.objs.size + (names.filter (·.2 == .cell)).length
  | [], _ => rfl
  | (_, kind) :: r, h => by
    unfold pushCells
    cases hk : kind == NameKind.cell with
    | true => simp only [if_true]; rw [pushCells_size r, Heap.size_push, List.filter_cons]; simp [hk]; (first | lia | omega)
    | false => simp only [Bool.false_eq_true, if_false]; rw [pushCells_size r, List.filter_cons]; simp [hk]

/-- entering a def of the text that has cells, none of them a parameter -/
theorem call_fnC {name : Str} {i a : Nat} {args : List Value} {binds : List (Str × Value)} {Q : Value → Shared → Prop} {d : Nat} (hB : Base w s.heap) (g : Good A (d + 1)) (hF : IsFn s.heap a name i)
    (hbind : ∀ pm cd doc, bindArgs (Calls.docDef name (fnParams i) (fnBody i) (fnScope i) pm cd doc) ⟨args, []⟩ = pure binds)
    (hloc : ∀ x ∈ binds, (fnScope i).names.lookup x.1 = some .local)
    (h : ∀ h₁ cd, h₁.Ns s.heap.objs.size (lk binds.reverse) → (∀ n c, (cellsFrom (s.heap.objs.size + 1) (fnScope i).names []).lookup n = some c → h₁.IsCell c none) → Ext s.heap h₁ →
      h₁.objs.size = s.heap.objs.size + 1 + ((fnScope i).names.filter (·.2 == .cell)).length → Good (A.deeper (envC name (fnScope i) s.heap.objs.size a cd (cellsFrom (s.heap.objs.size + 1) (fnScope i).names []))) d →
      wpAny (MD w) (A.deeper (envC name (fnScope i) s.heap.objs.size a cd (cellsFrom (s.heap.objs.size + 1) (fnScope i).names []))) (execs (fnBody i) (envC name (fnScope i) s.heap.objs.size a cd (cellsFrom (s.heap.objs.size + 1) (fnScope i).names [])))
        (fun f s' => Q (match f with | .ret v => v | _ => .none) s') (fun _ _ => False) { s with heap := h₁, toks := s.toks + binds.length })
    (hco : (fnScope i).isCoroutine = false) (hgen : (fnScope i).isGenerator = false) (hk : (fnScope i).kind = .function) : wpAny (MD w) A (call (.ref a) args) Q E s := by
  obtain ⟨o, pm, cd, doc, ho, hd, hcd⟩ := hF
  refine wpAny_call (codeAny_call_function g.room ho hd hco hgen rfl hcd ?_)
  rw [hbind]
  refine wpAny_pure ?_
  simp only [newFunctionEnv, Option.isSome_none, Bool.false_eq_true, if_false]
  refine wpAny_bind (wpAny_alloc ?_)
  refine wpAny_bind (wpAny_layCells _ (fun name kind cells => by cases hkc : kind == NameKind.cell <;> simp [hkc]) _ _ _ _ ?_)
  have ok := cellsFrom_ok (fnScope i).names (s.heap.push { cls := .type "frame", data := .dict #[] }) (s.heap.objs.size + 1) [] ⟨fun _ _ hm => (nomatch hm), List.Pairwise.nil⟩ (by rw [Heap.size_push]; exact Nat.le_refl _)
  rw [Heap.size_push] at ok
  rw [show ({ s with heap := s.heap.push { cls := .type "frame", data := .dict #[] } } : Shared).heap.objs.size = s.heap.objs.size + 1 from Heap.size_push ..]
  dsimp only
  show wpAny _ _ _ _ _ { s with heap := pushCells (s.heap.push { cls := .type "frame", data := .dict #[] }) (fnScope i).names }
  have hn0 : (pushCells (s.heap.push { cls := .type "frame", data := .dict #[] }) (fnScope i).names).Ns s.heap.objs.size (lk []) := (Heap.Ns.new s.heap (.type "frame")).keeps (pushCells_keeps _ _)
  have hx0 : Ext s.heap (pushCells (s.heap.push { cls := .type "frame", data := .dict #[] }) (fnScope i).names) := fun b o e => pushCells_keeps _ _ b o (Heap.get?_push_of_some _ e)
  have hz0 := pushCells_size (fnScope i).names (s.heap.push { cls := .type "frame", data := .dict #[] })
  rw [Heap.size_push] at hz0
  have hc0 : ∀ n c, (cellsFrom (s.heap.objs.size + 1) (fnScope i).names []).lookup n = some c → (pushCells (s.heap.push { cls := .type "frame", data := .dict #[] }) (fnScope i).names).IsCell c none ∧ s.heap.objs.size < c := fun n c hc => ok.empty n c (mem_of_lookup hc)
  generalize pushCells (s.heap.push { cls := .type "frame", data := .dict #[] }) (fnScope i).names = h0 at hn0 hx0 hz0 hc0
  refine wpAny_bind ?_
  refine wpAny_forIn_list _
    (fun rest _ s' => ∃ done h', binds = done ++ rest ∧ s' = { s with heap := h', toks := s.toks + done.length } ∧ h'.Ns s.heap.objs.size (lk done.reverse) ∧ Heap.SameBut s.heap.objs.size h0 h') _ ?_ ?_ binds _
    ⟨[], _, rfl, rfl, hn0, Heap.SameBut.refl ..⟩
  · rintro ⟨nm, v⟩ rest _ s' ⟨done, h', hb, rfl, hns, hsb⟩
    refine wpAny_bind (wpAny_storeName_local (hl := hloc (nm, v) (by rw [hb]; simp)) hns (fun h'' hns' hsb' => wpAny_pure ⟨done ++ [(nm, v)], h'', by simp [hb], ?_, ?_, hsb.trans hsb'⟩) (by show ((fnScope i).kind == .class || ((fnScope i).kind == .module && _)) = false; rw [hk]; rfl))
    · simp [Nat.add_assoc]
    · show h''.Ns _ (fun x => List.lookup x _)
      rw [lookup_reverse_snoc]; exact hns'
  · rintro _ s' ⟨done, h', hb, rfl, hns, hsb⟩
    rw [List.append_nil] at hb; subst hb
    have hx' : Ext s.heap h' := hx0.same hsb (Nat.le_refl _)
    refine wpAny_pure ⟨(no_limit (hx'.base hB)), ?_⟩
    show codeAny _ _ (.func (fnBody i) (envC name (fnScope i) s.heap.objs.size a cd (cellsFrom (s.heap.objs.size + 1) (fnScope i).names []))) _ _
    refine codeAny_func (wpAny_mono (h h' cd hns (fun n c hc => ?_) hx' ?_ (g.deeper _)) (fun f s' q => q) (fun _ _ x => x.elim))
    · obtain ⟨c1, c2⟩ := hc0 n c hc
      exact c1.sameBut hsb (Nat.ne_of_gt c2)
    · rw [hsb.1, hz0]

theorem stCell {env : Env} {x : Str} {c : Addr} {v₀ : Option Value} {v : Value} {Q : Unit → Shared → Prop} (hv : s.heap.IsCell c v₀)
    (h : ∀ h', h'.IsCell c (some v) → Heap.SameBut c s.heap h' → Q () { s with heap := h' })
    (hk : env.scope.kind = .function := by rfl) (hl : env.kindOf x = some .cell := by rfl) (hc : env.cells.lookup x = some c := by rfl) : wpAny (MD w) A (storeName env x v) Q E s := wpAny_storeName_cell hk hl hc hv h
end
end Mine

end
section
open PySem PySem.W PySem.W.X PyProof.Rows
set_option Elab.async false
set_option maxRecDepth 100000
set_option maxHeartbeats 0
namespace Mine
section
variable {w : World} {A : Around} {E : Value → Shared → Prop} {s : Shared} {env : Env}

theorem Lst.push {h : Heap} {a : Addr} {vs : List Value} (x : Lst h a vs) (o : Obj) : Lst (h.push o) a vs := let ⟨n, e⟩ := x; ⟨n, Heap.get?_push_of_some _ e⟩
theorem Tup.push {h : Heap} {a : Addr} {vs : List Value} (x : Tup h a vs) (o : Obj) : Tup (h.push o) a vs := let ⟨n, e⟩ := x; ⟨n, Heap.get?_push_of_some _ e⟩
theorem pick_to (vs : List Value) (k : Nat) : slicePick vs.toArray none (some (k : Int)) none = (vs.take k).toArray := by
  have e : sliceBounds none (some (k : Int)) none vs.toArray.size = (((0 : Nat) : Int), ((min k vs.length : Nat) : Int), 1) := by
    simp only [sliceBounds, Option.getD_none, List.size_toArray]
    have h2 : ¬ ((k : Int) < 0) := by (first | lia | omega)
    simp only [h2, if_false, show (1 : Int) > 0 by decide, if_true]
    congr 1
    congr 1; (first | lia | omega)
  unfold slicePick
  rw [e]
  simp only [sliceRange_one, pick_run]
  rw [List.drop_zero, Nat.sub_zero]
  congr 1
  show vs.take (min k vs.length) = vs.take k
  rcases Nat.le_total k vs.length with h | h
  · rw [Nat.min_eq_left h]
  · rw [Nat.min_eq_right h, List.take_of_length_le (Nat.le_refl _), List.take_of_length_le h]

inductive SlTo (Q : Value → Shared → Prop) (o vu : Value) (s₂ : Shared) : Prop
  | mk (l : Addr) (vs : List Value) (k : Nat) (t : Tok) (ho : o = .ref l) (hl : Lst s₂.heap l vs) (hn : vs.length ≤ 1000) (hv : vu = .int ((k : Nat) : Int) t)
      (hQ : ∀ h', Ext s₂.heap h' → Lst h' (s₂.heap.objs.size + 1) (vs.take k) → h'.objs.size = s₂.heap.objs.size + 2 → Q (.ref (s₂.heap.objs.size + 1)) { s₂ with heap := h' }) : SlTo Q o vu s₂
inductive SlFrom (Q : Value → Shared → Prop) (o vl : Value) (s₂ : Shared) : Prop
  | mk (l : Addr) (vs : List Value) (k : Nat) (t : Tok) (ho : o = .ref l) (hl : Lst s₂.heap l vs) (hn : vs.length ≤ 1000) (hk : k ≤ vs.length) (hv : vl = .int ((k : Nat) : Int) t)
      (hQ : ∀ h', Ext s₂.heap h' → Lst h' (s₂.heap.objs.size + 1) (vs.drop k) → h'.objs.size = s₂.heap.objs.size + 2 → Q (.ref (s₂.heap.objs.size + 1)) { s₂ with heap := h' }) : SlFrom Q o vl s₂
/-- e[:k] -/
theorem sliceTo {value u : Expr} {p pos : Pos} {Q : Value → Shared → Prop}
    (h : wpAny (MD w) A (eval value env) (fun o s₁ => wpAny (MD w) A (eval u env) (fun vu s₂ => SlTo Q o vu s₂) E s₁) E s)
    (ht : ∀ o r, letTemporaryGo value o r = pure () := by intro _ _; rfl) :
    wpAny (MD w) A (eval (.Subscript value (.Slice none (some u) none p) pos) env) Q E s := by
  refine wpAny_Subscript_list_slice (wpAny_mono h (fun o s₁ h₁ => wpAny_pure (wpAny_mono h₁ (fun vu s₂ h₂ => ?_) fun _ _ e => e)) fun _ _ e => e) ht
  obtain ⟨l, vs, k, t, rfl, hl, hlen, rfl, hQ⟩ := h₂
  refine ⟨l, vs.toArray, none, some (k : Int), rfl, hl.isList, by rw [List.size_toArray]; exact Nat.le_trans hlen (by decide), .none, .int _ _, ?_⟩
  refine hQ _ (fun b o e => Heap.get?_push_of_some _ (Heap.get?_push_of_some _ e)) ?_ (by rw [Heap.size_push, Heap.size_push])
  rw [pick_to]
  have := Lst.new (s₂.heap.push { cls := .type "slice", data := .fields #[.none, .int (k : Int) t, .none] }) (vs.take k) 0
  rw [Heap.size_push] at this
  exact this

/-- e[k:] -/
theorem sliceFrom {value u : Expr} {p pos : Pos} {Q : Value → Shared → Prop}
    (h : wpAny (MD w) A (eval value env) (fun o s₁ => wpAny (MD w) A (eval u env) (fun vl s₂ => SlFrom Q o vl s₂) E s₁) E s)
    (ht : ∀ o r, letTemporaryGo value o r = pure () := by intro _ _; rfl) :
    wpAny (MD w) A (eval (.Subscript value (.Slice (some u) none none p) pos) env) Q E s := by
  refine wpAny_Subscript_list_slice (wpAny_mono h (fun o s₁ h₁ => wpAny_mono h₁ (fun vu s₂ h₂ => wpAny_pure ?_) fun _ _ e => e) fun _ _ e => e) ht
  obtain ⟨l, vs, k, t, rfl, hl, hlen, hk, rfl, hQ⟩ := h₂
  refine ⟨l, vs.toArray, some (k : Int), none, rfl, hl.isList, by rw [List.size_toArray]; exact Nat.le_trans hlen (by decide), .int _ _, .none, ?_⟩
  refine hQ _ (fun b o e => Heap.get?_push_of_some _ (Heap.get?_push_of_some _ e)) ?_ (by rw [Heap.size_push, Heap.size_push])
  rw [slicePick_from _ _ (by simpa using hk)]
  have := Lst.new (s₂.heap.push { cls := .type "slice", data := .fields #[.int (k : Int) t, .none, .none] }) (vs.drop k) 0
  rw [Heap.size_push] at this
  exact this

/-- what comes after, held apart -/
theorem wp_gen {α : Type} {m : Sem α} {Q : α → Shared → Prop} (h : ∀ (Q' : α → Shared → Prop) (E' : Value → Shared → Prop), (∀ x s', Q x s' → Q' x s') → wpAny (MD w) A m Q' E' s) : wpAny (MD w) A m Q E s :=
  h Q E fun _ _ q => q
theorem forLoop_any {R : Result → Shared → Prop} {target it body orelse} (I : Nat → Shared → Prop)
    (turn : ∀ n s, I n s → wpAny (MD w) A (pyNext it) (fun r s₁ => match r with
      | none => wpAny (MD w) A (execs orelse env) (fun f s₃ => R (.ok f) s₃) (notedBy (MD w) A env fun e s' => R (.error e) s') s₁
      | some v => wpAny (MD w) A (letOwnedTupleGo target it v >>= fun _ => assign target env v) (fun _ s₂ => wpAny (MD w) A (execs body env) (fun f s₃ => match f with
          | .next | .cont => ∃ m, m < n ∧ I m s₃
          | .brk => R (.ok .next) s₃
          | .ret v => R (.ok (.ret v)) s₃) (notedBy (MD w) A env fun e s' => R (.error e) s') s₂) (notedBy (MD w) A env fun e s' => R (.error e) s') s₁) (notedBy (MD w) A env fun e s' => R (.error e) s') s)
    (n : Nat) (h : I n s) : codeAny (MD w) A (.forLoop target it body orelse env) R s := by
  refine codeAny_loop' rfl I (fun n s hI => ?_) n h
  show wpAny _ _ ((forTurn target it body orelse env).onRaise (fun x => do noteFrame x env; theTreesLotGoes x)) _ _ s
  refine wpAny_noted ?_
  simp only [forTurn]
  refine wpAny_bind (wpAny_standAt (wpAny_bind (wpAny_onRaise (wpAny_mono (turn n s hI) (fun r s₁ h₁ => ?_) fun _ _ h' => wpAny_standAt h'))))
  cases r with
  | none => exact wpAny_pure (.inr ⟨rfl, codeAny_block h₁⟩)
  | some v =>
    have key : ∀ {β : Type} (k : Sem β) (Q : β → Shared → Prop) (E : Value → Shared → Prop), wpAny (MD w) A (letOwnedTupleGo target it v >>= fun _ => assign target env v) (fun _ s₂ => wpAny (MD w) A k Q E s₂) E s₁ →
        wpAny (MD w) A (letOwnedTupleGo target it v >>= fun _ => assign target env v >>= fun _ => k) Q E s₁ := by
      intro β k Q E h
      have e : (letOwnedTupleGo target it v >>= fun _ => assign target env v >>= fun _ => k) = ((letOwnedTupleGo target it v >>= fun _ => assign target env v) >>= fun _ => k) := by rw [bind_assoc]
      rw [e]; exact wpAny_bind h
    refine key _ _ _ (wpAny_mono h₁ (fun _ s₂ h₂ => wpAny_bind (wpAny_mono h₂ (fun f s₃ h₃ => ?_) fun _ _ h' => h')) fun _ _ h' => h')
    cases f with
    | next => exact wpAny_pure (.inl ⟨rfl, h₃⟩)
    | cont => exact wpAny_pure (.inl ⟨rfl, h₃⟩)
    | brk => exact wpAny_pure h₃
    | ret v => exact wpAny_pure h₃

theorem iterL {l : Addr} {vs : List Value} {Q : Value → Shared → Prop} (hl : Lst s.heap l vs)
    (hQ : ∀ h', Ext s.heap h' → h'.IsListIter s.heap.objs.size l 0 → h'.objs.size = s.heap.objs.size + 1 → Q (.ref s.heap.objs.size) { s with heap := h' }) : wpAny (MD w) A (pyIter (.ref l)) Q E s :=
  wpAny_pyIter_list hl.isList (hQ _ (fun b o e => Heap.get?_push_of_some _ e) ⟨_, Heap.get?_push_size _ rfl, rfl, rfl⟩ (Heap.size_push ..))
end

/-! lengths and members of the heap's lists -/
theorem getD_mem {vs : List Value} {i : Nat} (h : i < vs.length) : vs.getD i .none ∈ vs := List.mem_of_getElem? (getD_some h)
theorem sdG_len (lt : Value → Value → Bool) (st : Nat) (new : Value) (vs : List Value) (pos : Nat) : (sdG lt st new vs pos).length = vs.length := by
  induction pos using Nat.strongRecOn generalizing vs with
  | _ pos ih =>
    rw [sdG]
    split
    · split
      · rw [ih _ (by (first | lia | omega)), List.length_set]
      · rw [List.length_set]
    · rw [List.length_set]
theorem sdG_mem (lt : Value → Value → Bool) (st : Nat) (new : Value) (vs : List Value) (pos : Nat) (hp : pos < vs.length) : ∀ x ∈ sdG lt st new vs pos, x = new ∨ x ∈ vs := by
  induction pos using Nat.strongRecOn generalizing vs with
  | _ pos ih =>
    rw [sdG]
    have hset : ∀ x ∈ vs.set pos new, x = new ∨ x ∈ vs := fun x hx => by
      rcases List.mem_or_eq_of_mem_set hx with h | h
      · exact .inr h
      · exact .inl h
    split
    · rename_i h
      split
      · intro x hx
        rcases ih _ (by (first | lia | omega)) (vs.set pos (vs.getD ((pos - 1) / 2) .none)) (by rw [List.length_set]; (first | lia | omega)) x hx with e | e
        · exact .inl e
        · rcases List.mem_or_eq_of_mem_set e with h | h
          · exact .inr h
          · exact .inr (h ▸ getD_mem (by (first | lia | omega)))
      · exact hset
    · exact hset
theorem suG_len (lt : Value → Value → Bool) (n : Nat) : ∀ (vs : List Value) (pos : Nat), vs.length - pos ≤ n → pos < vs.length → (suG lt vs pos).1.length = vs.length ∧ (suG lt vs pos).2 < vs.length ∧ ∀ x ∈ (suG lt vs pos).1, x ∈ vs := by
  induction n with
  | zero => intro vs pos h1 h2; (first | lia | omega)
  | succ n ih =>
    intro vs pos h1 h2
    rw [suG]
    split
    · rename_i h
      have hc := childOf_lt (lt := lt) h
      have hg := childOf_gt lt vs pos
      obtain ⟨a, b, c⟩ := ih (vs.set pos (vs.getD (childOf lt vs pos) .none)) (childOf lt vs pos) (by rw [List.length_set]; (first | lia | omega)) (by rw [List.length_set]; exact hc)
      rw [List.length_set] at a b
      refine ⟨a, b, fun x hx => ?_⟩
      rcases List.mem_or_eq_of_mem_set (c x hx) with h | h
      · exact h
      · exact h ▸ getD_mem hc
    · exact ⟨rfl, h2, fun _ h => h⟩
theorem siftupG_len (lt : Value → Value → Bool) (vs : List Value) (pos : Nat) (h : pos < vs.length) : (siftupG lt vs pos).length = vs.length := by
  unfold siftupG
  rw [sdG_len, List.length_set]
  exact (suG_len lt _ vs pos (Nat.le_refl _) h).1
theorem siftupG_mem (lt : Value → Value → Bool) (vs : List Value) (pos : Nat) (h : pos < vs.length) : ∀ x ∈ siftupG lt vs pos, x ∈ vs := by
  obtain ⟨a, b, c⟩ := suG_len lt _ vs pos (Nat.le_refl _) h
  have hm : ∀ x ∈ (suG lt vs pos).1.set (suG lt vs pos).2 (vs.getD pos .none), x ∈ vs := fun x hx => by
    rcases List.mem_or_eq_of_mem_set hx with h' | h'
    · exact c x h'
    · exact h' ▸ getD_mem h
  intro x hx
  unfold siftupG at hx
  have hl : (suG lt vs pos).2 < ((suG lt vs pos).1.set (suG lt vs pos).2 (vs.getD pos .none)).length := by rw [List.length_set, a]; exact b
  rcases sdG_mem lt pos _ _ _ hl x hx with e | e
  · exact hm x (e ▸ getD_mem hl)
  · exact hm x e
theorem pushG_len (lt : Value → Value → Bool) (vs : List Value) (x : Value) : (pushG lt vs x).length = vs.length + 1 := by
  unfold pushG; rw [sdG_len]; simp
theorem pushG_mem (lt : Value → Value → Bool) (vs : List Value) (x : Value) : ∀ y ∈ pushG lt vs x, y ∈ vs ++ [x] := by
  intro y hy
  rcases sdG_mem lt 0 _ _ _ (by simp) y hy with e | e
  · exact e ▸ getD_mem (by simp)
  · exact e
theorem popG_len (lt : Value → Value → Bool) (vs : List Value) (y : Value) : (popG lt vs y).length = vs.length := by
  unfold popG
  split
  · rename_i h; rw [h]
  · rename_i h
    have : 0 < vs.length := List.length_pos_iff.mpr h
    rw [siftupG_len _ _ _ (by rw [List.length_set]; exact this), List.length_set]
theorem popG_mem (lt : Value → Value → Bool) (vs : List Value) (y : Value) : ∀ x ∈ popG lt vs y, x ∈ vs ++ [y] := by
  unfold popG
  split
  · intro x hx; cases hx
  · rename_i h
    have : 0 < vs.length := List.length_pos_iff.mpr h
    intro x hx
    rcases List.mem_or_eq_of_mem_set (siftupG_mem _ _ _ (by rw [List.length_set]; exact this) x hx) with e | e
    · exact List.mem_append_left _ e
    · exact e ▸ List.mem_append_right _ (.head _)
end Mine

end
section
open PySem PySem.W PySem.W.X PyProof.Rows
set_option Elab.async false
set_option maxRecDepth 100000
set_option maxHeartbeats 0
set_option linter.unusedVariables false
namespace Mine

/-- a thing: mode, price, pieces -/
def ThingAt (h : Heap) (th : Addr) (d : Int × Int × Int) : Prop := ∃ t1 t2 t3, Tup h th [.int d.1 t1, .int d.2.1 t2, .int d.2.2 t3]
theorem ThingAt.ext {h h' : Heap} {th : Addr} {d : Int × Int × Int} (x : ThingAt h th d) (y : Ext h h') : ThingAt h' th d := let ⟨a, b, c, e⟩ := x; ⟨a, b, c, e.ext y⟩
/-- 51 aside, all that stood stands -/
def Ext51 (h h' : Heap) : Prop := ∀ b o, h.get? b = some o → b ≠ 51 → h'.get? b = some o

noncomputable def ltI (D : Nat → Int × Int × Int) (i j : Nat) : Bool := decide ((D j).2.1 * (D i).2.2 - (D i).2.1 * (D j).2.2 < 0)
/-- the place of a key among six -/
noncomputable def ixK (k : Nat → Addr) (v : Value) : Nat := match v with
  | .ref a => if a = k 0 then 0 else if a = k 1 then 1 else if a = k 2 then 2 else if a = k 3 then 3 else if a = k 4 then 4 else if a = k 5 then 5 else 6
  | _ => 6
noncomputable def ltK (D : Nat → Int × Int × Int) (k : Nat → Addr) (x y : Value) : Bool := ltI D (ixK k x) (ixK k y)
noncomputable def six (f : Nat → Value) : List Value := [f 0, f 1, f 2, f 3, f 4, f 5]
noncomputable def popAll (lt : Value → Value → Bool) : Nat → List Value → List Value
  | 0, _ => []
  | n + 1, l => l.getD 0 .none :: popAll lt n (popG lt l.dropLast (l.getD n .none))

section
variable {w : World} {A : Around} {E : Value → Shared → Prop} {s : Shared}
theorem look_cmp : FnLook w 56 := by unfold FnLook; kernel_rfl
theorem look_heapify : FnLook w 35 := by unfold FnLook; kernel_rfl
theorem look_heappush : FnLook w 21 := by unfold FnLook; kernel_rfl
theorem look_heappop : FnLook w 28 := by unfold FnLook; kernel_rfl

theorem ldGE {env : Env} {x : Str} {pos : Pos} {v : Value} {Q : Value → Shared → Prop} (hB : Base w s.heap) (hv : nsFind (esOf w.params 3) x = some v) (h : Q v s) (hg : env.globals = mainGlobals := by rfl)
    (hk : env.scope.kind = .function := by rfl) (hl : env.kindOf x = some .globalImplicit := by rfl) (hd : (x == ("__debug__" : Str)) = false := by rfl) :
    wpAny (MD w) A (eval (.Name x pos) env) Q E s := Calls.Name_function_global hk hl (Calls.loadGlobal_global (hg ▸ ns_globals hB) hv h) hd
theorem ldBE {env : Env} {x : Str} {pos : Pos} {v : Value} {Q : Value → Shared → Prop} (hB : Base w s.heap) (hn : nsFind (esOf w.params 3) x = none) (hv : nsFind (esOf w.params 0) x = some v) (h : Q v s) (hg : env.globals = mainGlobals := by rfl) (hb : env.builtins = builtinsNs := by rfl)
    (hk : env.scope.kind = .function := by rfl) (hl : env.kindOf x = some .globalImplicit := by rfl) (hd : (x == ("__debug__" : Str)) = false := by rfl) :
    wpAny (MD w) A (eval (.Name x pos) env) Q E s := Calls.Name_function_global hk hl (Calls.loadGlobal_builtin (hg ▸ ns_globals hB) hn (hb ▸ ns_builtins hB) hv h) hd
theorem callCls {hs : Nat → Int} {t : Nat} {pos : Pos} {tm : Sem Value} {Q : Value → Shared → Prop}
    (h : wpAny (MD w) A tm (fun v s₁ => (KC hs t).In s₁.heap ∧ wpAny (MD w) A (call (.ref 288) [v]) Q E s₁) E s) : wpAny (MD w) A (callWith pos (.ref 288) [] [(false, tm)] []) Q E s :=
  callWith_of (P := (KC hs t).In) rfl (keeps_K (by kernel_rfl)) (Calls.evalArgs_plain (Calls.spliced_cons (wpAny_mono h (fun _ _ h₁ => Calls.spliced_nil h₁) fun _ _ e => e)))

theorem KC_ext {hs : Nat → Int} {t : Nat} {h h' : Heap} (x : (KC hs t).In h) (y : Ext h h') : (KC hs t).In h' := fun a o e => y a o (x a o e)

/-- an object apart from the cells that are written -/
def InstN (h : Heap) (x th : Addr) : Prop := ∃ dx od, h.get? x = some (instO th dx) ∧ h.get? dx = some od ∧ x ∉ [224, 226, 227] ∧ dx ∉ [224, 226, 227]
theorem InstN.inst {h : Heap} {x th : Addr} (i : InstN h x th) : Inst h x th := let ⟨dx, od, a, b, _⟩ := i; ⟨dx, od, a, b⟩
theorem InstN.keep {h h' : Heap} {x th : Addr} {wr : List Addr} (i : InstN h x th) (k : KeepOut wr h h') (hw : ∀ b ∈ wr, b ∈ [224, 226, 227]) : InstN h' x th :=
  let ⟨dx, od, a, b, c, d⟩ := i; ⟨dx, od, k _ _ (fun q => c (hw _ q)) a, k _ _ (fun q => d (hw _ q)) b, c, d⟩
theorem ThingAt.keep {h h' : Heap} {th : Addr} {d : Int × Int × Int} {wr : List Addr} (x : ThingAt h th d) (k : KeepOut wr h h') (hw : th ∉ wr) : ThingAt h' th d := let ⟨a, b, c, n, e⟩ := x; ⟨a, b, c, n, k _ _ hw e⟩
theorem KC_keep {hs : Nat → Int} {t : Nat} {h h' : Heap} {wr : List Addr} (x : (KC hs t).In h) (k : KeepOut wr h h') (hw : ∀ b ∈ wr, (KC hs t).lookup b = none) : (KC hs t).In h' := fun a o e => k a o (fun q => by rw [hw a q] at e; cases e) (x a o e)
theorem base_keep {w : World} {h h' : Heap} {wr : List Addr} (hB : Base w h) (k : KeepOut wr h h') (hw : ∀ b ∈ wr, 154 ≤ b) : Base w h' := by
  intro a o e
  refine k a o (fun q => ?_) (hB a o e)
  exact base_lt e (hw a q)

def keyF (th : Nat → Addr) (tri : List Addr) (h : Heap) (i : Nat) (y : Value) : Prop := ∃ a dx od, y = .ref a ∧ a ∉ tri ∧ dx ∉ tri ∧ h.get? a = some (instO (th i) dx) ∧ h.get? dx = some od ∧ a ∉ [224, 226, 227] ∧ dx ∉ [224, 226, 227]

theorem newL {vs : List Value} {Q : Value → Shared → Prop} (h : ∀ h', Ext s.heap h' → Lst h' s.heap.objs.size vs → h'.objs.size = s.heap.objs.size + 1 → Q (.ref s.heap.objs.size) { s with heap := h' }) (hsz : vs.length ≤ 1000 := by simp) :
    wpAny (MD w) A (newList vs) Q E s :=
  wpAny_newObj_type (h _ (fun b o e => Heap.get?_push_of_some _ e) (Lst.new s.heap vs 0) (Heap.size_push ..)) (by show vs.toArray.size ≤ sizeLine; rw [List.size_toArray]; exact Nat.le_trans hsz (by decide))
theorem newT {vs : List Value} {Q : Value → Shared → Prop} (h : ∀ h', Ext s.heap h' → Tup h' s.heap.objs.size vs → h'.objs.size = s.heap.objs.size + 1 → Q (.ref s.heap.objs.size) { s with heap := h' }) (hsz : vs.length ≤ 1000 := by simp) :
    wpAny (MD w) A (newTuple vs) Q E s :=
  wpAny_newObj_type (h _ (fun b o e => Heap.get?_push_of_some _ e) ⟨0, Heap.get?_push_size _ rfl⟩ (Heap.size_push ..)) (by show vs.toArray.size ≤ sizeLine; rw [List.size_toArray]; exact Nat.le_trans hsz (by decide))

theorem Paired.atL {α β : Type} {F : α → β → Prop} {l₁ : List α} {l₂ : List β} (h : Paired F l₁ l₂) : ∀ {i : Nat} {a : α}, l₁[i]? = some a → ∃ b, l₂[i]? = some b ∧ F a b := by
  induction h with
  | nil => intro i a e; cases e
  | cons x _ ih =>
    intro i a e
    cases i with
    | zero => cases e; exact ⟨_, rfl, x⟩
    | succ i => exact ih e
theorem six_get (f : Nat → Value) {i : Nat} (hi : i < 6) : (six f)[i]? = some (f i) := by
  match i, hi with
  | 0, _ | 1, _ | 2, _ | 3, _ | 4, _ | 5, _ => rfl
theorem six_paired {F : Nat → Value → Prop} {ys : List Value} (h : Paired F ((List.range 6).filter fun _ => true) ys) : ∃ f : Nat → Value, ys = six f ∧ ∀ i, i < 6 → F i (f i) := by
  have e : (List.range 6).filter (fun _ => true) = List.range 6 := rfl
  rw [e] at h
  have hl : ys.length = 6 := h.length.symm
  have hg : ∀ i, i < 6 → ys[i]? = some (ys.getD i .none) := fun i hi => by rw [List.getD_eq_getElem?_getD, List.getElem?_eq_getElem (hl ▸ hi)]; rfl
  refine ⟨fun i => ys.getD i .none, List.ext_getElem? fun i => ?_, fun i hi => ?_⟩
  · by_cases hi : i < 6
    · rw [six_get _ hi]; exact hg i hi
    · rw [List.getElem?_eq_none (hl ▸ Nat.le_of_not_lt hi), List.getElem?_eq_none (Nat.le_of_not_lt hi)]
  · obtain ⟨b, e1, e2⟩ := Paired.atL h (List.getElem?_range hi)
    rw [hg i hi] at e1
    cases e1
    exact e2

theorem ixK_at {k : Nat → Addr} (hk : ∀ i j, i < 6 → j < 6 → i ≠ j → k i ≠ k j) : ∀ i, i < 6 → ixK k (.ref (k i)) = i := by
  intro i hi
  unfold ixK
  have q : ∀ a b, a < 6 → b < 6 → a ≠ b → ¬ (k a = k b) := hk
  match i, hi with
  | 0, _ => simp
  | 1, _ => simp [q 1 0]
  | 2, _ => simp [q 2 0, q 2 1]
  | 3, _ => simp [q 3 0, q 3 1, q 3 2]
  | 4, _ => simp [q 4 0, q 4 1, q 4 2, q 4 3]
  | 5, _ => simp [q 5 0, q 5 1, q 5 2, q 5 3, q 5 4]
theorem six_mem {f : Nat → Value} {x : Value} (h : x ∈ six f) : ∃ i, i < 6 ∧ x = f i := by
  simp only [six, List.mem_cons, List.not_mem_nil, or_false] at h
  rcases h with h | h | h | h | h | h
  · exact ⟨0, by decide, h⟩
  · exact ⟨1, by decide, h⟩
  · exact ⟨2, by decide, h⟩
  · exact ⟨3, by decide, h⟩
  · exact ⟨4, by decide, h⟩
  · exact ⟨5, by decide, h⟩

theorem cmp_keys {hs : Nat → Int} {t : Nat} {h₀ h : Heap} {H : Addr} {k th : Nat → Addr} {D : Nat → Int × Int × Int} (hB : Base w h₀) (hC : (KC hs t).In h₀) (hI : ∀ i, i < 6 → InstN h₀ (k i) (th i)) (hth : ∀ i, i < 6 → ThingAt h₀ (th i) (D i))
    (hsm : ∀ i, i < 6 → small (D i).2.1) (hk : ∀ i j, i < 6 → j < 6 → i ≠ j → k i ≠ k j) (hthn : ∀ i, i < 6 → th i ∉ [224, 226, 227]) (hH : h₀.objs.size ≤ H) (hx : KeepOut [224, 227] h₀ h) : CmpOk w H h (ltK D k) (six fun i => .ref (k i)) := by
  intro x hxm y hym s A Q E hk' g hQ
  obtain ⟨i, hi, rfl⟩ := six_mem hxm
  obtain ⟨j, hj, rfl⟩ := six_mem hym
  have hx' : KeepOut [224, 227] h₀ s.heap := fun b o hb e => hk' b o (lt_ne e hH) (hx b o hb e)
  have sub : ∀ b ∈ [224, 227], b ∈ [224, 226, 227] := by decide
  obtain ⟨t1, t2, t3, e1⟩ := (hth i hi).keep hx' (fun q => hthn i hi (sub _ q))
  obtain ⟨t4, t5, t6, e2⟩ := (hth j hj).keep hx' (fun q => hthn j hj (sub _ q))
  refine cmp_spec (base_keep hB hx' (by decide)) (g.less (by (first | lia | omega))) (KC_keep hC hx' (fun b hb => by simp only [List.mem_cons, List.not_mem_nil, or_false] at hb; rcases hb with rfl | rfl <;> rfl)) ((hI i hi).keep hx' sub).inst ((hI j hj).keep hx' sub).inst e1 e2 (hsm i hi) (hsm j hj) fun h' tk hx'' => ?_
  have := hQ h' tk hx''
  unfold ltK at this
  rw [ixK_at hk i hi, ixK_at hk j hj] at this
  exact this

end
end Mine

end
section
open PySem PySem.W PySem.W.X PyProof.Rows
set_option Elab.async false
set_option maxRecDepth 100000
set_option maxHeartbeats 0
set_option linter.unusedVariables false
namespace Mine
section
variable {w : World} {A : Around} {E : Value → Shared → Prop} {s : Shared}

theorem iterRange {r : Addr} {n : Nat} {t u v : Tok} {Q : Value → Shared → Prop} (hr : IsRange s.heap r 0 n 1 t u v) (hn : n ≤ 1000)
    (hQ : ∀ h', Ext s.heap h' → IsRangeIter h' s.heap.objs.size ((0 : Int) + (0 : Nat) * 1) ((n : Int) - (0 : Nat)) 1 → h'.objs.size = s.heap.objs.size + 1 → Q (.ref s.heap.objs.size) { s with heap := h' }) : wpAny (MD w) A (pyIter (.ref r)) Q E s := by
  have hsz : (Builtin.Range.rangeSize 0 (n : Int) 1 : Int) = (n : Int) := by
    unfold Builtin.Range.rangeSize
    simp
    try (first | lia | omega)
  refine wpAny_pyIter_range hr ?_ ?_
  · unfold Builtin.Range.small
    rw [hsz]
    simp [Builtin.Range.rangeFitsLong]
    (first | lia | omega)
  · rw [hsz]
    refine hQ _ (fun b o e => Heap.get?_push_of_some _ e) ?_ (Heap.size_push ..)
    have : IsRangeIter (s.heap.push { cls := .type "range_iterator", data := .fields #[rawInt 0, rawInt (n : Int), rawInt 1] }) s.heap.objs.size 0 (n : Int) 1 := Heap.get?_push_size _ rfl
    simpa using this

/-- e in (range n), the size known -/
theorem rangeOf {n : Nat} {t : Tok} {d : Nat} {Q : Value → Shared → Prop} (g : Good A 100) (hn : n ≤ 1000) (hQ : ∀ r h' tk, Ext s.heap h' → (∃ t u v, IsRange h' r 0 n 1 t u v) → Q (.ref r) { s with heap := h', toks := tk }) :
    wpAny (MD w) A (call (.type "range") [.int (n : Int) t]) Q E s :=
  range1_any fun a h' tk hx hr => hQ a h' tk hx hr

noncomputable abbrev rowEnv (cd : Value) : Env := envC "_law_row" (fnScope 37) 224 136 cd (cellsFrom (224 + 1) (fnScope 37).names [])
noncomputable def rowS (i : Nat) : Stmt := (fnBody 37)[i]?.getD (.Pass ⟨0, 0, 0, 0⟩)

theorem keys_at {k : Nat → Addr} {i : Nat} (hi : i < 6) : (six fun i => Value.ref (k i))[i]? = some (.ref (k i)) := six_get _ hi

/-- the places of a key among the keys: one -/
theorem places_one {k : Nat → Addr} (hk : ∀ i j, i < 6 → j < 6 → i ≠ j → k i ≠ k j) {m : Nat} (hm : m < 6) : (List.range 6).filter (fun i => decide (k i = k m)) = [m] := by
  have e : ∀ i, i < 6 → decide (k i = k m) = decide (i = m) := by
    intro i hi
    by_cases q : i = m
    · subst q; simp
    · rw [decide_eq_false (hk i m hi hm q), decide_eq_false q]
  rw [List.filter_congr (q := fun i => decide (i = m)) (fun i hi => e i (List.mem_range.mp hi))]
  match m, hm with
  | 0, _ | 1, _ | 2, _ | 3, _ | 4, _ | 5, _ => decide

theorem paired_one {m : Nat} {ys : List Value} (h : Paired (fun (i : Nat) y => ∃ t, y = .int (i : Int) t) [m] ys) : ∃ t, ys = [.int (m : Int) t] := by
  cases h with
  | cons a b => cases b; obtain ⟨t, rfl⟩ := a; exact ⟨t, rfl⟩
noncomputable def placeC : Expr := match rowS 5 with
  | .While _ (_ :: .Expr (.Call _ (.Subscript v _ _ :: _) _ _) _ :: _) _ _ => v
  | _ => .Name "" ⟨0, 0, 0, 0⟩

theorem place_spec {cd : Value} {K : Addr} {k th : Nat → Addr} {m : Nat} {Q : Value → Shared → Prop} (hB : Base w s.heap) (g : Good A 105) (hm : m < 6) (cK : s.heap.IsCell 226 (some (.ref K))) (cL : s.heap.IsCell 227 (some (.ref (k m))))
    (hK : Lst s.heap K (six fun i => .ref (k i))) (hI : ∀ i, i < 6 → InstN s.heap (k i) (th i)) (hinj : ∀ i j, i < 6 → j < 6 → i ≠ j → k i ≠ k j)
    (hQ : ∀ X h' t tk, Ext s.heap h' → Lst h' X [.int (m : Int) t] → Q (.ref X) { s with heap := h', toks := tk }) : wpAny (MD w) A (eval placeC (rowEnv cd)) Q E s := by
  refine lcomp (cl := [("least", 227), ("keys", 226)]) rfl (by decide) rfl (by decide) <| Call_Name1 <| ldBE hB (by kernel_rfl) (v := .type "range") (by kernel_rfl) <| PySem.callWith_type1 <| Call_Name1 <| ldBE hB (by kernel_rfl) (v := .builtin "len") (by kernel_rfl) <|
    callWith_builtin1 <| ldC (c := 226) cK <| lenL hK (by simp [six]) fun t₁ tk₁ => rangeOf (n := 6) (d := 0) (g.less (by (first | lia | omega))) (by (first | lia | omega)) fun r h₁ tk₂ hx₁ ⟨t₂, u₂, v₂, hr⟩ => iterRange (n := 6) hr (by (first | lia | omega)) fun h₂ hx₂ hi₂ hz₂ => ?_
  dsimp only at hx₁ hx₂ hi₂ hz₂ ⊢
  have hx : Ext s.heap h₂ := hx₁.trans hx₂
  refine ⟨false, _, [h₁.objs.size], [h₁.objs.size], 6, _, _, fun i => decide (k i = k m), fun _ _ i y => ∃ t, y = .int (i : Int) t, fun i l => ∃ t, lk l "place" = some (.int (i : Int) t), fun _ _ => True, 0, rfl,
    { walk := Wk.range g.handled _ 6, few := by decide, st := hi₂, below := ?_, asg := ?_, tests := ?_, elt := ?_, stab := fun _ _ _ _ h _ => h }, fun ys h₅ tk₅ hdone => ?_⟩
  · intro b hb; rw [List.mem_singleton.mp hb]; dsimp only; rw [hz₂]; exact Nat.lt_succ_self _
  · intro i v s' l Q E' hi hP hk hn st hQ
    obtain ⟨t, rfl⟩ := hP
    refine asgName (B := fun l => ∃ t, lk l "place" = some (.int (i : Int) t)) (Wk.range g.handled _ 6) ?_ rfl rfl hn st ⟨t, rfl⟩ hQ
    intro hm'
    have e : h₂.objs.size + 1 = h₁.objs.size := List.mem_singleton.mp hm'
    exact absurd e (by rw [hz₂]; exact Nat.ne_of_gt (Nat.lt_succ_of_lt (Nat.lt_succ_self _)))
  · rintro i s' l E' hi ⟨t, hv⟩ hn hk
    have hx' : Ext s.heap s'.heap := fun b o e => hk b o (by
      intro hm'
      have hb : b < h₁.objs.size := Heap.lt_size (hx₁ b o e)
      dsimp only at hm'
      rw [hz₂] at hm'
      simp only [List.mem_cons, List.not_mem_nil, or_false] at hm'
      rcases hm' with q | q | q
      · exact absurd q (Nat.ne_of_lt (Nat.lt_succ_of_lt hb))
      · exact absurd q (Nat.ne_of_lt (Nat.lt_succ_of_lt (Nat.lt_succ_of_lt hb)))
      · exact absurd q (Nat.ne_of_lt hb)) (hx b o e)
    have fin : ∀ b : Bool, b = decide (k i = k m) → (b = decide (k i = k m) ∧ ∃ h' tk, s' = { s' with heap := h', toks := tk } ∧ Ext s'.heap h' ∧ SZ false h' tk s'.heap.objs.size s'.toks) := fun b hb => ⟨hb, s'.heap, s'.toks, rfl, Ext.refl _, SZ.no⟩
    refine wpAny_tests_one <| wpAny_isTrue_Compare1 <| Subscript_ <| ldC (c := 226) (cK.keeps hx') <| ldE (l := l) hn hv <| tailL (hK.ext hx') (Int.natCast_nonneg _) (by rw [Int.toNat_natCast]; exact keys_at hi) (by simp [six]) <| ldC (c := 227) (cL.keeps hx') ?_
    by_cases q : k i = k m
    · rw [q] at fin ⊢
      exact wpAny_is_ref_self (wpAny_truthy_bool (fin true (by simp)))
    · obtain ⟨dx, od, e1, _⟩ := hI i hi
      obtain ⟨dx', od', e1', _⟩ := hI m hm
      exact wpAny_is_ref_other q (hx' _ _ e1) (hx' _ _ e1') (by simp) (wpAny_truthy_bool (fin false (by simp [q])))
  · rintro i s' l E' hi _ ⟨t, hv⟩ hn hk _
    exact ldE (l := l) hn hv ⟨s'.heap, s'.toks, rfl, Ext.refl _, ⟨t, rfl⟩, fun _ _ _ _ => trivial, SZ.no⟩
  · obtain ⟨hl, hF, _, hk, _⟩ := hdone
    dsimp only at hl hF hk ⊢
    rw [places_one hinj hm] at hF
    obtain ⟨t, rfl⟩ := paired_one hF
    refine hQ _ h₅ t tk₅ (fun b o e => hk b o (fun q => ?_) (hx b o e)) hl
    exact absurd (List.mem_singleton.mp q) (lt_ne (hx₁ b o e) (Nat.le_refl _))

/-- what the walk keeps -/
structure RowSt (w : World) (hs : Nat → Int) (t : Nat) (h : Heap) (K : Addr) (k th : Nat → Addr) (D : Nat → Int × Int × Int) : Prop where
  base : Base w h
  kc : (KC hs t).In h
  inst : ∀ i, i < 6 → InstN h (k i) (th i)
  thing : ∀ i, i < 6 → ThingAt h (th i) (D i)
  keys : Lst h K (six fun i => .ref (k i))
  cell : h.IsCell 226 (some (.ref K))
theorem RowSt.keep {w : World} {hs : Nat → Int} {t : Nat} {h h' : Heap} {K : Addr} {k th : Nat → Addr} {D : Nat → Int × Int × Int} (x : RowSt w hs t h K k th D) (hthn : ∀ i, i < 6 → th i ∉ [224, 226, 227]) (hKn : K ∉ [224, 227])
    (y : KeepOut [224, 227] h h') : RowSt w hs t h' K k th D where
  base := base_keep x.base y (by decide)
  kc := KC_keep x.kc y (fun b hb => by simp only [List.mem_cons, List.not_mem_nil, or_false] at hb; rcases hb with rfl | rfl <;> rfl)
  inst := fun i hi => (x.inst i hi).keep y (by decide)
  thing := fun i hi => (x.thing i hi).keep y (fun q => hthn i hi (by simp only [List.mem_cons, List.not_mem_nil, or_false] at q ⊢; rcases q with q | q <;> simp [q]))
  keys := x.keys.keep y hKn
  cell := let ⟨o, e, d⟩ := x.cell; ⟨o, y _ _ (by decide) e, d⟩
theorem RowSt.cmp {w : World} {hs : Nat → Int} {t : Nat} {h₀ h : Heap} {K H : Addr} {k th : Nat → Addr} {D : Nat → Int × Int × Int} (x : RowSt w hs t h₀ K k th D) (hthn : ∀ i, i < 6 → th i ∉ [224, 226, 227])
    (hsm : ∀ i, i < 6 → small (D i).2.1) (hk : ∀ i j, i < 6 → j < 6 → i ≠ j → k i ≠ k j) (hH : h₀.objs.size ≤ H) (y : KeepOut [224, 227] h₀ h) : CmpOk w H h (ltK D k) (six fun i => .ref (k i)) :=
  cmp_keys x.base x.kc x.inst x.thing hsm hk hthn hH y

noncomputable def push3 (lt : Value → Value → Bool) (f : Nat → Value) : Nat → List Value
  | 0 => siftupG lt [f 0, f 1, f 2] 0
  | i + 1 => pushG lt (push3 lt f i) (f (3 + i))
theorem push3_ok (lt : Value → Value → Bool) (f : Nat → Value) : ∀ i, i ≤ 3 → (push3 lt f i).length = 3 + i ∧ ∀ x ∈ push3 lt f i, x ∈ six f
  | 0, _ => ⟨siftupG_len _ _ _ (by simp), fun x hx => by
      have := siftupG_mem lt [f 0, f 1, f 2] 0 (by simp) x hx
      simp only [List.mem_cons, List.not_mem_nil, or_false] at this
      simp only [six, List.mem_cons, List.not_mem_nil, or_false]
      rcases this with h | h | h <;> simp [h]⟩
  | i + 1, hi => by
    obtain ⟨a, b⟩ := push3_ok lt f i (by (first | lia | omega))
    refine ⟨by show (pushG lt _ _).length = _; rw [pushG_len, a]; (first | lia | omega), fun x hx => ?_⟩
    rcases List.mem_append.mp (pushG_mem lt _ _ x hx) with h | h
    · exact b x h
    · rw [List.mem_singleton.mp h]
      match i, (show i < 3 by (first | lia | omega)) with
      | 0, _ | 1, _ | 2, _ => simp [six]

theorem three_at {f : Nat → Value} {i : Nat} (h : i < 3) : [f 3, f 4, f 5][i]? = some (f (3 + i)) := by
  match i, h with
  | 0, _ | 1, _ | 2, _ => rfl

theorem stE {env : Env} {l : List (Str × Value)} {x : Str} {v : Value} {Q : Unit → Shared → Prop} (hn : s.heap.Ns env.locals (lk l))
    (h : ∀ h', h'.Ns env.locals (lk ((x, v) :: l)) → Heap.SameBut env.locals s.heap h' → Q () { s with heap := h', toks := s.toks + 1 })
    (hk : env.scope.kind = .function := by rfl) (hl : env.kindOf x = some .local := by rfl) : wpAny (MD w) A (storeName env x v) Q E s :=
  wpAny_storeName_local hl hn (fun h' hn' hs => h h' (lk_cons l x v ▸ hn') hs) (by rw [hk]; rfl)

inductive RpSt (s : Shared) (b₀ : Heap) (I X H R : Nat) (k : Nat → Addr) (lt : Value → Value → Bool) (m : Nat) (s' : Shared) : Prop
  | mk (h' : Heap) (tk : Nat) (l : List (Str × Value)) (i : Nat) (hs : s' = { s with heap := h', toks := tk }) (st : h'.IsListIter I X i ∧ h'.IsList X ([.ref (k 3), .ref (k 4), .ref (k 5)] : List Value).toArray) (hH : Lst h' H (push3 lt (fun i => .ref (k i)) i)) (hR : Lst h' R []) (hn : h'.Ns 224 (lk l)) (e1 : lk l "heap" = some (.ref H)) (e2 : lk l "row" = some (.ref R)) (cL : h'.IsCell 227 none) (kk : KeepOut [224, 227] b₀ h') (hi : i ≤ 3) (hm : m = 3 - i) : RpSt s b₀ I X H R k lt m s'
/-- where the heap's list and the row lie -/
structure RowAt (b₀ : Heap) (H R : Nat) : Prop where
  hb : b₀.objs.size ≤ H
  rb : b₀.objs.size ≤ R
  ne : R ≠ H
  big : 228 ≤ b₀.objs.size
theorem RowAt.keepH {b₀ h h' : Heap} {H R : Nat} (a : RowAt b₀ H R) (k : KeepOut [224, 227] b₀ h) (e : Heap.ExtBut H h h') : KeepOut [224, 227] b₀ h' := fun b o hb q => e b o (lt_ne q a.hb) (k b o hb q)
theorem RowAt.keepR {b₀ h h' : Heap} {H R : Nat} (a : RowAt b₀ H R) (k : KeepOut [224, 227] b₀ h) (e : Heap.SameBut R h h') : KeepOut [224, 227] b₀ h' := fun b o hb q => e.extBut b o (lt_ne q a.rb) (k b o hb q)
theorem RowAt.h1 {b₀ : Heap} {H R : Nat} (a : RowAt b₀ H R) : H ≠ 224 := Nat.ne_of_gt (Nat.lt_of_lt_of_le (by decide) (Nat.le_trans a.big a.hb))
theorem RowAt.h2 {b₀ : Heap} {H R : Nat} (a : RowAt b₀ H R) : H ≠ 227 := Nat.ne_of_gt (Nat.lt_of_lt_of_le (by decide) (Nat.le_trans a.big a.hb))
theorem RowAt.r1 {b₀ : Heap} {H R : Nat} (a : RowAt b₀ H R) : R ≠ 224 := Nat.ne_of_gt (Nat.lt_of_lt_of_le (by decide) (Nat.le_trans a.big a.rb))
theorem RowAt.r2 {b₀ : Heap} {H R : Nat} (a : RowAt b₀ H R) : R ≠ 227 := Nat.ne_of_gt (Nat.lt_of_lt_of_le (by decide) (Nat.le_trans a.big a.rb))
theorem RowAt.h3 {b₀ : Heap} {H R : Nat} (a : RowAt b₀ H R) : 154 ≤ H := Nat.le_trans (Nat.le_trans (by decide) a.big) a.hb
theorem cellAt {h h' : Heap} {c : Addr} {v : Option Value} (x : h.IsCell c v) (f : ∀ o, h.get? c = some o → h'.get? c = some o) : h'.IsCell c v := let ⟨o, e, d⟩ := x; ⟨o, f o e, d⟩
theorem row_push {cd : Value} {hs : Nat → Int} {t : Nat} {b₀ : Heap} {H R K : Nat} {k th : Nat → Addr} {D : Nat → Int × Int × Int} {l : List (Str × Value)} {Q : Flow → Shared → Prop} (x : RowSt w hs t b₀ K k th D) (hthn : ∀ i, i < 6 → th i ∉ [224, 226, 227]) (hKn : K ∉ [224, 227])
    (hsm : ∀ i, i < 6 → small (D i).2.1) (hinj : ∀ i j, i < 6 → j < 6 → i ≠ j → k i ≠ k j) (g : Good A 110) (a : RowAt b₀ H R) (k7 : KeepOut [224, 227] b₀ s.heap) (hn₇ : s.heap.Ns 224 (lk l)) (e1 : lk l "heap" = some (.ref H)) (e2 : lk l "row" = some (.ref R))
    (hH₇ : Lst s.heap H (push3 (ltK D k) (fun i => .ref (k i)) 0)) (hR₇ : Lst s.heap R []) (cL₇ : s.heap.IsCell 227 none)
    (hQ : ∀ h' tk l', KeepOut [224, 227] b₀ h' → h'.Ns 224 (lk l') → lk l' "heap" = some (.ref H) → lk l' "row" = some (.ref R) → Lst h' H (push3 (ltK D k) (fun i => .ref (k i)) 3) → Lst h' R [] → h'.IsCell 227 none → Q .next { s with heap := h', toks := tk }) :
    wpAny (MD w) A (exec (rowS 4) (rowEnv cd)) Q E s := by
  have x₇ := x.keep hthn hKn k7
  refine wpAny_For <| sliceFrom <| ldC (c := 226) x₇.cell <| wpAny_Constant_int ⟨K, _, 3, _, rfl, x₇.keys, by simp [six], by simp [six], rfl, fun h₈ hx₈ hl₈ hz₈ => ?_⟩
  dsimp only at hx₈ hl₈ hz₈ ⊢
  replace hl₈ : Lst h₈ (s.heap.objs.size + 1) [.ref (k 3), .ref (k 4), .ref (k 5)] := hl₈
  refine iterL hl₈ fun h₉ hx₉ hit₉ hz₉ => ?_
  dsimp only at hx₉ hit₉ hz₉ ⊢
  have hx₉' : Ext s.heap h₉ := hx₈.trans hx₉
  have XI : s.heap.objs.size + 1 < h₈.objs.size := hl₈.lt
  have hHX : H < s.heap.objs.size + 1 := Nat.lt_succ_of_lt hH₇.lt
  have hRX : R < s.heap.objs.size + 1 := Nat.lt_succ_of_lt hR₇.lt
  have st9 : h₉.IsListIter h₈.objs.size (s.heap.objs.size + 1) 0 ∧ h₉.IsList (s.heap.objs.size + 1) ([.ref (k 3), .ref (k 4), .ref (k 5)] : List Value).toArray := ⟨hit₉, (hl₈.ext hx₉).isList⟩
  generalize s.heap.objs.size + 1 = X at hHX hRX XI st9
  generalize h₈.objs.size = I at XI st9
  have hHI := Nat.lt_trans hHX XI
  have hRI := Nat.lt_trans hRX XI
  have W : Wk w A false I [I, X] [I] 3 _ _ := Wk.list (w := w) (A := A) false g.handled I X (Nat.ne_of_lt XI) [.ref (k 3), .ref (k 4), .ref (k 5)]
  have low : ∀ {b : Nat}, b < b₀.objs.size → b ≠ I ∧ b ≠ X := fun h => ⟨Nat.ne_of_lt (Nat.lt_trans (Nat.lt_of_lt_of_le h a.hb) hHI), Nat.ne_of_lt (Nat.lt_trans (Nat.lt_of_lt_of_le h a.hb) hHX)⟩
  have nI : ∀ {b : Nat}, b ≠ I → b ∉ [I] := fun h q => h (List.mem_singleton.mp q)
  have l224 := low (Nat.lt_of_lt_of_le (show 224 < 228 by decide) a.big)
  have l227 := low (Nat.lt_of_lt_of_le (show 227 < 228 by decide) a.big)
  have kI : ∀ {h h' : Heap}, KeepOut [224, 227] b₀ h → KeepOut [I] h h' → KeepOut [224, 227] b₀ h' := fun k1 k2 b o hb e => k2 b o (nI (low (Heap.lt_size e)).1) (k1 b o hb e)
  refine forLoop_any (RpSt s b₀ I X H R k (ltK D k)) ?_ 3 ⟨h₉, _, _, 0, rfl, st9, hH₇.ext hx₉', hR₇.ext hx₉', ns_ext hn₇ hx₉', e1, e2, cL₇.keeps hx₉', k7.trans (KeepOut.ext hx₉' _), by (first | lia | omega), rfl⟩
  clear st9 hx₉' hx₉ hit₉ hz₉ hl₈ hz₈ hx₈ hn₇ hH₇ hR₇ cL₇ k7 x₇ e1 e2
  rintro m s' ⟨h', tk, l, i, rfl, st, hH, hR, hn, e1, e2, cL, kk, hi, rfl⟩
  rcases Nat.lt_or_ge i 3 with hlt | hge
  · refine W.item i _ _ _ hlt st fun v h₁ tk₁ hP st₁ k₁ _ => ?_
    dsimp only at k₁ ⊢
    have hv : v = .ref (k (3 + i)) := Option.some.inj ((show _ = _ from hP).symm.trans (three_at (f := fun i => .ref (k i)) hlt))
    subst hv
    refine wpAny_bind <| wpAny_pure <| wpAny_assign_Name <| stE (ns_keep hn k₁ (nI l224.1)) fun h₂ hn₂ hs₂ => ?_
    replace hs₂ : Heap.SameBut 224 h₁ h₂ := hs₂
    have kk₂ : KeepOut [224, 227] b₀ h₂ := (kI kk k₁).trans (KeepOut.same hs₂ (by simp))
    have hH₂ := (hH.keep k₁ (nI (Nat.ne_of_lt hHI))).same hs₂ a.h1
    have hR₂ := (hR.keep k₁ (nI (Nat.ne_of_lt hRI))).same hs₂ a.r1
    have cL₂ : h₂.IsCell 227 none := cellAt cL fun o e => hs₂.extBut _ _ (by decide) (k₁ _ _ (nI l227.1) e)
    have x₂ := x.keep hthn hKn kk₂
    have st₂ : h₂.IsListIter I X (i + 1) ∧ h₂.IsList X ([.ref (k 3), .ref (k 4), .ref (k 5)] : List Value).toArray := ⟨st₁.1.extBut hs₂.extBut (Ne.symm l224.1), st₁.2.extBut hs₂.extBut (Ne.symm l224.2)⟩
    obtain ⟨len, mem⟩ := push3_ok (ltK D k) (fun i => .ref (k i)) i hi
    refine wpAny_execs_cons <| wpAny_Expr <| Call_Name2 <| ldGE x₂.base (v := .ref 21) (by kernel_rfl) <| call2 look_heappush <| ldE hn₂ e1 <| ldE hn₂ rfl ⟨x₂.base, ?_⟩
    refine heappush_spec x₂.base (g.less (by (first | lia | omega))) a.h3 hH₂ ((x.cmp hthn hsm hinj a.hb kk₂).mono (fun b o _ e => e) fun v hv => ?_) (by rw [len]; (first | lia | omega)) fun h₃ tk₃ hH₃ hk₃ => ?_
    · rcases List.mem_append.mp hv with h | h
      · exact mem v h
      · rw [List.mem_singleton.mp h]
        exact List.mem_of_getElem? (keys_at (k := k) (i := 3 + i) (by (first | lia | omega)))
    exact wpAny_execs_nil ⟨3 - (i + 1), by (first | lia | omega), h₃, tk₃, _, i + 1, rfl, ⟨st₂.1.extBut hk₃ (Nat.ne_of_gt hHI), st₂.2.extBut hk₃ (Nat.ne_of_gt hHX)⟩, hH₃, hR₂.but hk₃ a.ne, Heap.Ns.extBut hn₂ hk₃ (Ne.symm a.h1), e1, e2, cellAt cL₂ fun o e => hk₃ _ _ (Ne.symm a.h2) e, a.keepH kk₂ hk₃, hlt, rfl⟩
  · have : i = 3 := by (first | lia | omega)
    subst this
    refine W.done _ _ _ st fun h₁ tk₁ k₁ _ => wpAny_execs_nil ?_
    exact hQ _ _ l (kI kk k₁) (ns_keep hn k₁ (nI l224.1)) e1 e2 (hH.keep k₁ (nI (Nat.ne_of_lt hHI))) (hR.keep k₁ (nI (Nat.ne_of_lt hRI))) (cellAt cL fun o e => k₁ _ _ (nI l227.1) e)
inductive PpSt (s : Shared) (b₀ : Heap) (H R : Nat) (k : Nat → Addr) (lt : Value → Value → Bool) (start : List Value) (m : Nat) (s' : Shared) : Prop
  | mk (h' : Heap) (tk : Nat) (l : List (Str × Value)) (vs popped rv : List Value) (c : Option Value) (hs : s' = { s with heap := h', toks := tk }) (hH : Lst h' H vs) (hR : Lst h' R rv) (hn : h'.Ns 224 (lk l)) (e1 : lk l "heap" = some (.ref H)) (e2 : lk l "row" = some (.ref R)) (cL : h'.IsCell 227 c) (kk : KeepOut [224, 227] b₀ h') (len : vs.length = m) (hm : m ≤ 6) (mem : ∀ v ∈ vs, v ∈ six fun i => .ref (k i)) (hrl : rv.length = 6 - m) (hpop : popped ++ popAll lt m vs = popAll lt 6 start) (hP : Paired (fun v y => ∃ t, y = .int (ixK k v : Int) t) popped rv) : PpSt s b₀ H R k lt start m s'
theorem row_pops {cd : Value} {hs : Nat → Int} {t : Nat} {b₀ : Heap} {H R K : Nat} {k th : Nat → Addr} {D : Nat → Int × Int × Int} {l : List (Str × Value)} {Q : Flow → Shared → Prop} (x : RowSt w hs t b₀ K k th D) (hthn : ∀ i, i < 6 → th i ∉ [224, 226, 227]) (hKn : K ∉ [224, 227])
    (hsm : ∀ i, i < 6 → small (D i).2.1) (hinj : ∀ i j, i < 6 → j < 6 → i ≠ j → k i ≠ k j) (g : Good A 110) (a : RowAt b₀ H R) (k₁ : KeepOut [224, 227] b₀ s.heap) (hn₁ : s.heap.Ns 224 (lk l)) (e1 : lk l "heap" = some (.ref H)) (e2 : lk l "row" = some (.ref R))
    (hH₁ : Lst s.heap H (push3 (ltK D k) (fun i => .ref (k i)) 3)) (hR₁ : Lst s.heap R []) (cL₁ : s.heap.IsCell 227 none)
    (hQ : ∀ h' tk rv, KeepOut [224, 227] b₀ h' → Lst h' R rv → Paired (fun v y => ∃ t, y = .int (ixK k v : Int) t) (popAll (ltK D k) 6 (push3 (ltK D k) (fun i => .ref (k i)) 3)) rv → Q (.ret (.ref R)) { s with heap := h', toks := tk }) :
    wpAny (MD w) A (execs [rowS 5, rowS 6] (rowEnv cd)) Q E s := by
  obtain ⟨len, mem⟩ := push3_ok (ltK D k) (fun i => .ref (k i)) 3 (Nat.le_refl _)
  generalize push3 (ltK D k) (fun i => .ref (k i)) 3 = start at len mem hH₁ hQ
  refine wpAny_execs_cons <| wpAny_While <| codeAny_whileLoop (PpSt s b₀ H R k (ltK D k) start) ?_ 6 ⟨s.heap, _, l, start, [], [], none, rfl, hH₁, hR₁, hn₁, e1, e2, cL₁, k₁, len, Nat.le_refl _, mem, rfl, rfl, .nil⟩
  clear hH₁ hR₁ hn₁ e1 e2 cL₁ k₁ len mem l
  rintro m s' ⟨h', tk, l, vs, popped, rv, c, rfl, hH, hR, hn, e1, e2, cL, kk, len, hm, mem, hrl, hpop, hP⟩
  refine isTrue_plain <| ldE hn e1 <| wpAny_truthy_list hH.isList (by simp; (first | lia | omega)) ?_
  cases m with
  | zero =>
    have hv0 : vs = [] := List.eq_nil_of_length_eq_zero len
    subst hv0
    rw [if_neg (by simp)]
    refine wpAny_execs_nil <| wpAny_execs_cons <| wpAny_Return_some <| ldE hn e2 ?_
    refine hQ h' _ rv kk hR ?_
    rw [← hpop]
    simpa [popAll] using hP
  | succ m =>
    obtain ⟨ws, y, rfl⟩ : ∃ ws y, vs = ws ++ [y] := ⟨vs.dropLast, vs.getLast (by intro q; rw [q] at len; simp at len), (List.dropLast_concat_getLast _).symm⟩
    have hws : ws.length = m := by simpa using len
    rw [if_pos (by simp)]
    have xx := x.keep hthn hKn kk
    refine wpAny_execs_cons <| wpAny_Assign_Name <| Call_Name1 <| ldGE xx.base (v := .ref 28) (by kernel_rfl) <| call1 look_heappop <| ldE hn e1 ⟨xx.base, ?_⟩
    refine heappop_spec xx.base (g.less (by (first | lia | omega))) a.h3 hH ((x.cmp hthn hsm hinj a.hb kk).mono (fun b o _ e => e) mem) (by (first | lia | omega)) fun h₂ tk₂ hH₂ hk₂ => ?_
    dsimp only at hk₂ ⊢
    obtain ⟨j, hj, hvj⟩ := six_mem (mem _ (getD_mem (i := 0) (by simp)))
    rw [hvj]
    have kk₂ := a.keepH kk hk₂
    refine stCell (c := 227) (cellAt cL fun o e => hk₂ _ _ (Ne.symm a.h2) e) fun h₃ cL₃ hs₃ => ?_
    dsimp only at hs₃ ⊢
    have kk₃ : KeepOut [224, 227] b₀ h₃ := kk₂.trans (KeepOut.same hs₃ (by simp))
    have x₃ := x.keep hthn hKn kk₃
    have hn₃ : h₃.Ns 224 (lk l) := (hn.extBut hk₂ (Ne.symm a.h1)).sameBut hs₃ (by decide)
    have hR₃ := (hR.but hk₂ a.ne).same hs₃ a.r2
    refine wpAny_execs_cons <| wpAny_Expr <| methL slot_list_append PySem.F.type_list_append rfl rfl rfl <| ldE hn₃ e2 ⟨R, rv, rfl, hR₃, with1 <| Subscript_ <| place_spec (th := th) x₃.base (g.less (by (first | lia | omega))) hj x₃.cell cL₃ x₃.keys x₃.inst hinj fun X h₄ t₄ tk₄ hx₄ hl₄ =>
      wpAny_Constant_int <| tailL (v := .int (j : Int) t₄) hl₄ (by decide) rfl (by simp) <| appendL (hR₃.ext hx₄) (by (first | lia | omega)) fun h₅ hR₅ hs₅ => ?_⟩
    refine wpAny_execs_nil ⟨m, Nat.lt_succ_self _, h₅, _, l, popG (ltK D k) ws y, popped ++ [.ref (k j)], rv ++ [.int (j : Int) t₄], some (.ref (k j)), rfl, ((hH₂.same hs₃ a.h2).ext hx₄).same hs₅ (Ne.symm a.ne), hR₅, (ns_ext hn₃ hx₄).sameBut hs₅ (Ne.symm a.r1), e1, e2,
      (cL₃.keeps hx₄).sameBut hs₅ (Ne.symm a.r2), a.keepR (kk₃.trans (KeepOut.ext hx₄ _)) hs₅, by rw [popG_len, hws], by (first | lia | omega), fun v hv => mem v (popG_mem _ _ _ v hv), by simp [hrl]; (first | lia | omega), ?_, ?_⟩
    · rw [← hpop, List.append_assoc]
      congr 1
      show Value.ref (k j) :: _ = _ :: _
      rw [hvj, show (ws ++ [y]).dropLast = ws by simp, show (ws ++ [y]).getD m .none = y by rw [← hws]; simp]
      rfl
    · refine Paired.snoc hP ⟨t₄, ?_⟩
      rw [ixK_at hinj j hj]
theorem row_tail {cd : Value} {hs : Nat → Int} {t : Nat} {T K : Addr} {k th : Nat → Addr} {D : Nat → Int × Int × Int} {Q : Flow → Shared → Prop} (x : RowSt w hs t s.heap K k th D) (hthn : ∀ i, i < 6 → th i ∉ [224, 226, 227]) (hKn : K ∉ [224, 227])
    (hsm : ∀ i, i < 6 → small (D i).2.1) (hinj : ∀ i j, i < 6 → j < 6 → i ≠ j → k i ≠ k j) (g : Good A 110) (hn : s.heap.Ns 224 (lk [("things", .ref T)])) (cL : s.heap.IsCell 227 none) (hbig : 228 ≤ s.heap.objs.size)
    (hQ : ∀ h' tk R rv, KeepOut [224, 227] s.heap h' → Lst h' R rv → Paired (fun v y => ∃ t, y = .int (ixK k v : Int) t) (popAll (ltK D k) 6 (push3 (ltK D k) (fun i => .ref (k i)) 3)) rv → Q (.ret (.ref R)) { s with heap := h', toks := tk }) :
    wpAny (MD w) A (execs [rowS 2, rowS 3, rowS 4, rowS 5, rowS 6] (rowEnv cd)) Q (fun _ _ => False) s := by
  refine wpAny_execs_cons <| Assign_Tuple_swapped (names := ["heap", "row"]) <| Tuple_ <| args_cons <| sliceTo <| ldC (c := 226) x.cell <| wpAny_Constant_int ⟨K, _, 3, _, rfl, x.keys, by simp [six], rfl, fun h₁ hx₁ hl₁ hz₁ => ?_⟩
  dsimp only at hx₁ hl₁ hz₁ ⊢
  refine args_cons <| List_ <| args_nil <| newL fun h₂ hx₂ hl₂ hz₂ => ?_
  dsimp only at hx₂ hl₂ hz₂ ⊢
  refine args_nil <| newT fun h₃ hx₃ ht₃ hz₃ => ?_
  dsimp only at hx₃ ht₃ hz₃ ⊢
  refine unpackX g.handled ht₃ rfl fun h₄ hx₄ hz₄ => ?_
  dsimp only at hx₄ hz₄ ⊢
  have hx₄' : Ext s.heap h₄ := ((hx₁.trans hx₂).trans hx₃).trans hx₄
  have a : RowAt s.heap (s.heap.objs.size + 1) h₁.objs.size := ⟨Nat.le_succ _, by rw [hz₁]; exact Nat.le_add_right _ _, by rw [hz₁]; exact nef (by (first | lia | omega)), hbig⟩
  have hH₄ : Lst h₄ (s.heap.objs.size + 1) [.ref (k 0), .ref (k 1), .ref (k 2)] := ((hl₁.ext hx₂).ext hx₃).ext hx₄
  have hR₄ : Lst h₄ h₁.objs.size [] := (hl₂.ext hx₃).ext hx₄
  clear hx₁ hx₂ hx₃ hx₄ hl₁ hl₂ ht₃ hz₂ hz₃ hz₄ hz₁
  generalize h₁.objs.size = R at a hR₄
  generalize s.heap.objs.size + 1 = H at a hH₄
  refine assignInOrder_cons <| bindName_ <| stE (l := [("things", .ref T)]) (ns_ext hn hx₄') fun h₅ hn₅ hs₅ => ?_
  replace hs₅ : Heap.SameBut 224 h₄ h₅ := hs₅
  refine assignInOrder_cons <| bindName_ <| stE hn₅ fun h₆ hn₆ hs₆ => assignInOrder_nil ?_
  replace hs₆ : Heap.SameBut 224 h₅ h₆ := hs₆
  replace hn₆ : h₆.Ns 224 (lk [("heap", .ref H), ("row", .ref R), ("things", .ref T)]) := hn₆
  have k6 : KeepOut [224, 227] s.heap h₆ := (KeepOut.ext hx₄' _).trans ((KeepOut.same hs₅ (by simp)).trans (KeepOut.same hs₆ (by simp)))
  have x₆ := x.keep hthn hKn k6
  refine wpAny_execs_cons <| wpAny_Expr <| Call_Name1 <| ldGE x₆.base (v := .ref 35) (by kernel_rfl) <| call1 look_heapify <| ldE hn₆ rfl ⟨x₆.base, ?_⟩
  refine heapify_spec x₆.base (g.less (by (first | lia | omega))) a.h3 ((hH₄.same hs₅ a.h1).same hs₆ a.h1) ((x.cmp hthn hsm hinj a.hb k6).mono (fun b o _ e => e) fun v hv => ?_) fun h₇ tk₇ hH₇ hk₇ => ?_
  · simp only [List.mem_cons, List.not_mem_nil, or_false] at hv
    simp only [six, List.mem_cons, List.not_mem_nil, or_false]
    rcases hv with h | h | h <;> simp [h]
  refine wpAny_execs_cons <| row_push x hthn hKn hsm hinj g a (a.keepH k6 hk₇) (Heap.Ns.extBut hn₆ hk₇ (Ne.symm a.h1)) rfl rfl hH₇ (((hR₄.same hs₅ a.r1).same hs₆ a.r1).but hk₇ a.ne)
    (cellAt (((cL.keeps hx₄').sameBut hs₅ (by decide)).sameBut hs₆ (by decide)) fun o e => hk₇ _ _ (Ne.symm a.h2) e) fun h₈ tk₈ l₈ k₈ hn₈ e1 e2 hH₈ hR₈ cL₈ => ?_
  exact row_pops x hthn hKn hsm hinj g a k₈ hn₈ e1 e2 hH₈ hR₈ cL₈ fun h₉ tk₉ rv k₉ hR₉ hP => hQ h₉ tk₉ R rv k₉ hR₉ hP
end
end Mine

end
section
open PySem PySem.W PySem.W.X PyProof.Rows
set_option Elab.async false
set_option maxRecDepth 100000
set_option maxHeartbeats 0
set_option linter.unusedVariables false
namespace Mine

/-! the heap's lists under a renaming of the items -/
section
variable {lt lt' : Value → Value → Bool} {ρ : Value → Value} (hρ : ∀ x y, lt' (ρ x) (ρ y) = lt x y) (h0 : ρ .none = .none)
include h0
theorem getD_map (vs : List Value) (i : Nat) : (vs.map ρ).getD i .none = ρ (vs.getD i .none) := by
  simp only [List.getD_eq_getElem?_getD, List.getElem?_map]
  cases vs[i]? <;> simp [h0]
include hρ
theorem sdG_map (st : Nat) (new : Value) : ∀ (pos : Nat) (vs : List Value), sdG lt' st (ρ new) (vs.map ρ) pos = (sdG lt st new vs pos).map ρ := by
  intro pos
  induction pos using Nat.strongRecOn with
  | _ pos ih =>
    intro vs
    conv => lhs; rw [sdG]
    conv => rhs; rw [sdG]
    rw [getD_map h0, hρ]
    split
    · split
      · rw [← List.map_set, ih _ (by (first | lia | omega))]
      · rw [List.map_set]
    · rw [List.map_set]
theorem childOf_map (vs : List Value) (pos : Nat) : childOf lt' (vs.map ρ) pos = childOf lt vs pos := by
  unfold childOf
  rw [getD_map h0, getD_map h0, hρ, List.length_map]
theorem suG_map (n : Nat) : ∀ (vs : List Value) (pos : Nat), vs.length - pos ≤ n → suG lt' (vs.map ρ) pos = ((suG lt vs pos).1.map ρ, (suG lt vs pos).2) := by
  induction n with
  | zero =>
    intro vs pos h
    conv => lhs; rw [suG]
    conv => rhs; rw [suG]
    have q : ¬ (2 * pos + 1 < vs.length) := by (first | lia | omega)
    rw [dif_neg q, dif_neg (by rw [List.length_map]; exact q)]
  | succ n ih =>
    intro vs pos h
    conv => lhs; rw [suG]
    conv => rhs; rw [suG]
    by_cases q : 2 * pos + 1 < vs.length
    · rw [dif_pos q, dif_pos (by rw [List.length_map]; exact q)]
      have hg := childOf_gt lt vs pos
      rw [childOf_map hρ h0, getD_map h0, ← List.map_set, ih _ _ (by rw [List.length_set]; (first | lia | omega))]
    · rw [dif_neg q, dif_neg (by rw [List.length_map]; exact q)]
theorem siftupG_map (vs : List Value) (pos : Nat) : siftupG lt' (vs.map ρ) pos = (siftupG lt vs pos).map ρ := by
  unfold siftupG
  simp only [suG_map hρ h0 _ vs pos (Nat.le_refl _), getD_map h0, ← List.map_set, sdG_map hρ h0]
theorem pushG_map (vs : List Value) (x : Value) : pushG lt' (vs.map ρ) (ρ x) = (pushG lt vs x).map ρ := by
  unfold pushG
  rw [show vs.map ρ ++ [ρ x] = (vs ++ [x]).map ρ by simp, getD_map h0, List.length_map, sdG_map hρ h0]
theorem popG_map (vs : List Value) (y : Value) : popG lt' (vs.map ρ) (ρ y) = (popG lt vs y).map ρ := by
  unfold popG
  by_cases q : vs = []
  · subst q; simp
  · rw [if_neg q, if_neg (by simpa using q), ← List.map_set, siftupG_map hρ h0]
theorem push3_map (f : Nat → Value) : ∀ i, push3 lt' (fun i => ρ (f i)) i = (push3 lt f i).map ρ
  | 0 => by
    show siftupG lt' ([f 0, f 1, f 2].map ρ) 0 = _
    rw [siftupG_map hρ h0]; rfl
  | i + 1 => by
    show pushG lt' (push3 lt' _ i) _ = (pushG lt (push3 lt f i) _).map ρ
    rw [push3_map f i, pushG_map hρ h0]
theorem popAll_map : ∀ (n : Nat) (l : List Value), popAll lt' n (l.map ρ) = (popAll lt n l).map ρ
  | 0, _ => rfl
  | n + 1, l => by
    show _ :: _ = _ :: _
    rw [getD_map h0, getD_map h0, ← List.map_dropLast, popG_map hρ h0, popAll_map n]
end

/-- the places in the order in which they come off, told from the things alone -/
noncomputable def rowI (D : Nat → Int × Int × Int) : List Nat :=
  (popAll (fun x y => ltI D (ixK id x) (ixK id y)) 6 (push3 (fun x y => ltI D (ixK id x) (ixK id y)) (fun i => .ref i) 3)).map (ixK id)

theorem rowI_of {k : Nat → Addr} (hinj : ∀ i j, i < 6 → j < 6 → i ≠ j → k i ≠ k j) (D : Nat → Int × Int × Int) :
    (popAll (fun x y => ltI D (ixK k x) (ixK k y)) 6 (push3 (fun x y => ltI D (ixK k x) (ixK k y)) (fun i => .ref (k i)) 3)).map (ixK k) = rowI D := by
  let ρ : Value → Value := fun v => match v with | .ref a => (if a < 6 then .ref (k a) else .none) | _ => .none
  have hix : ∀ v, ixK k (ρ v) = ixK id v := by
    intro v
    cases v with
    | ref a =>
      by_cases h : a < 6
      · show ixK k (if a < 6 then .ref (k a) else .none) = _
        rw [if_pos h, ixK_at hinj a h]
        exact (ixK_at (k := id) (fun i j _ _ h => h) a h).symm
      · show ixK k (if a < 6 then .ref (k a) else .none) = _
        rw [if_neg h]
        have q : ∀ j, j < 6 → ¬ (a = j) := fun j hj e => h (e ▸ hj)
        simp [ixK, q 0, q 1, q 2, q 3, q 4, q 5]
    | _ => rfl
  have hρ : ∀ x y, (fun x y => ltI D (ixK k x) (ixK k y)) (ρ x) (ρ y) = (fun x y => ltI D (ixK id x) (ixK id y)) x y := fun x y => by simp only [hix]
  have h0 : ρ .none = .none := rfl
  have e : push3 (fun x y => ltI D (ixK k x) (ixK k y)) (fun i => .ref (k i)) 3 = push3 (fun x y => ltI D (ixK k x) (ixK k y)) (fun i => ρ (.ref i)) 3 := rfl
  rw [e, push3_map (lt' := fun x y => ltI D (ixK k x) (ixK k y)) (lt := fun x y => ltI D (ixK id x) (ixK id y)) (ρ := ρ) hρ h0 (fun i => .ref i) 3, popAll_map (lt' := fun x y => ltI D (ixK k x) (ixK k y)) (lt := fun x y => ltI D (ixK id x) (ixK id y)) (ρ := ρ) hρ h0, List.map_map]
  unfold rowI
  exact List.map_congr_left fun v _ => hix v

theorem Paired.mapL {α β γ : Type} {F : β → γ → Prop} {f : α → β} {l : List α} {l' : List γ} (h : Paired (fun a c => F (f a) c) l l') : Paired F (l.map f) l' := by
  induction h with
  | nil => exact .nil
  | cons a _ ih => exact .cons a ih

section
variable {w : World} {A : Around} {E : Value → Shared → Prop} {s : Shared}
theorem row_spec {T : Addr} {th : Nat → Addr} {D : Nat → Int × Int × Int} {Q : Value → Shared → Prop} (hB : Base w s.heap) (g : Good A 120) (hsz : s.heap.objs.size = 224) (hgen : s.gens = #[]) (htk : 407 ≤ s.toks)
    (ZH : KT.Holds s.heap 1 0 (hz.ktop_345 w.params)) (hT : Lst s.heap T (six fun i => .ref (th i))) (hth : ∀ i, i < 6 → ThingAt s.heap (th i) (D i)) (hsm : ∀ i, i < 6 → small (D i).2.1) (hTb : (154 : Nat) ≤ T) (hthb : ∀ i, i < 6 → (154 : Nat) ≤ th i)
    (hQ : ∀ h' tk R rv, Ext51 s.heap h' → h'.get? 51 = some (tableObj #[rawInt 45, rawInt 4, .ref 235]) → Lst h' R rv → Paired (fun (i : Nat) y => ∃ t, y = .int (i : Int) t) (rowI D) rv → Q (.ref R) { s with heap := h', toks := tk }) :
    wpAny (MD w) A (call (.ref 136) [.ref T]) Q E s := by
  refine call_fnC (binds := [("things", .ref T)]) hB (Good.less g (e := 119 + 1) (by (first | lia | omega))) (fn_row hB) (fun _ _ _ => rfl) (locs rfl) (fun h₁ cd hn₁ hc₁ hx₁ hz₁ g' => ?_) rfl rfl rfl
  have hB₁ := hx₁.base hB
  have hz₁' : h₁.objs.size = 228 := by rw [hz₁, hsz]; rfl
  rw [hsz] at hn₁ hc₁ g' ⊢
  have cW : h₁.IsCell 225 none := hc₁ "weigh" 225 rfl
  have cK : h₁.IsCell 226 none := hc₁ "keys" 226 rfl
  have cL : h₁.IsCell 227 none := hc₁ "least" 227 rfl
  obtain ⟨sh, sg, sd, stk, sos⟩ := s
  dsimp only at hsz hgen htk hn₁ hx₁ hT hth hz₁ ZH hB hQ ⊢
  subst hgen
  refine wpAny_execs_cons <| wpAny_Assign_Name <| Call_Name1 <| ldGE hB₁ (v := .ref 56) (by kernel_rfl) <| call1 look_cmp <| ldGE hB₁ (v := .ref 131) (by kernel_rfl) ⟨hB₁, ?_⟩
  refine wider (g'.less (by (first | lia | omega))) (cmp_to_key_AA w _ _ _ (ZH.keeps hx₁) hz₁' rfl (by show 407 ≤ stk + _; (first | lia | omega)) fun h₂ tk₂ hs hC₂ hx₂ h51 hz₂ => ?_)
  dsimp only at hC₂ hx₂ ⊢
  have cW₂ : h₂.IsCell 225 none := let ⟨o, e, d⟩ := cW; ⟨o, hx₂ _ _ e (by decide), d⟩
  have cK₂ : h₂.IsCell 226 none := let ⟨o, e, d⟩ := cK; ⟨o, hx₂ _ _ e (by decide), d⟩
  have cL₂ : h₂.IsCell 227 none := let ⟨o, e, d⟩ := cL; ⟨o, hx₂ _ _ e (by decide), d⟩
  refine stCell (c := 225) cW₂ fun h₃ cW₃ hs₃ => ?_
  dsimp only at hs₃ ⊢
  have hk₃ : ∀ b o, h₂.get? b = some o → b ≠ 225 → h₃.get? b = some o := fun b o e n => hs₃.extBut b o n e
  have hC₃ : (KC hs (stk + 1)).In h₃ := by
    intro a o e
    refine hk₃ a o (hC₂ a o e) ?_
    rintro rfl
    exact absurd e (by show ¬ (none = some o); intro q; cases q)
  have hx₂' : Ext51 sh h₂ := fun b o e n => hx₂ b o (hx₁ b o e) n
  have hx₃' : Ext51 sh h₃ := fun b o e n => hk₃ b o (hx₂' b o e n) (lt_ne e (by rw [hsz]; decide))
  have hB₃ : Base w h₃ := by
    intro a o e
    refine hx₃' a o (hB a o e) ?_
    rintro rfl
    rw [show (KG w.params).lookup 51 = none by kernel_rfl] at e
    cases e
  have hn₃ : h₃.Ns 224 (lk [("things", .ref T)]) := by
    obtain ⟨o, es, ep, e, r⟩ := hn₁
    exact ⟨o, es, ep, hk₃ _ _ (hx₂ _ _ e (by decide)) (by decide), r⟩
  have cK₃ : h₃.IsCell 226 none := cK₂.sameBut hs₃ (by decide)
  have cL₃ : h₃.IsCell 227 none := cL₂.sameBut hs₃ (by decide)
  have hT₃ : Lst h₃ T (six fun i => .ref (th i)) := let ⟨n, e⟩ := hT; ⟨n, hx₃' _ _ e (ne_of (by (first | lia | omega)))⟩
  have hth₃ : ∀ i, i < 6 → ThingAt h₃ (th i) (D i) := fun i hi => let ⟨a, b, c, n, e⟩ := hth i hi; ⟨a, b, c, n, hx₃' _ _ e (ne_of (by have := hthb i hi; (first | lia | omega)))⟩
  have hth₀ := hth
  have h51₃ : h₃.get? 51 = some (tableObj #[rawInt 45, rawInt 4, .ref 235]) := hk₃ _ _ h51 (by decide)
  have hz₃ : h₃.objs.size = 292 := by rw [hs₃.1, hz₂]
  clear hn₁ hc₁ hx₁ hz₁ cW cK cL hB₁ hz₁' hC₂ hx₂ h51 hz₂ cW₂ cK₂ cL₂ hk₃ hs₃ hx₂' ZH hT hth hB
  refine wpAny_execs_cons <| wpAny_Assign_Name <| lcomp (cl := [("weigh", 225)]) rfl (by decide) rfl (by decide) <| ldE hn₃ rfl <| iterL hT₃ fun h₄ hx₄ hit₄ hz₄ => ?_
  dsimp only at hx₄ hit₄ hz₄ ⊢
  have hT₄ := hT₃.ext hx₄
  have hTlt : T < h₃.objs.size := hT₃.lt
  refine ⟨false, h₃.objs.size, [h₃.objs.size, T], [h₃.objs.size], 6, _, _, fun _ => true, keyF th, fun i l => lk l "thing" = some (.ref (th i)), fun a b => a ≠ b, 0, rfl,
    { walk := Wk.list false g'.handled _ T (Nat.ne_of_lt hTlt) (six fun i => .ref (th i)), few := by decide, st := ⟨hit₄, hT₄.isList⟩, below := ?_, asg := ?_, tests := ?_, elt := ?_, stab := ?_ }, fun ys h₅ tk₅ hdone => ?_⟩
  · exact lw_below hTlt hz₄
  · intro i v s l Q E' hi hP hk hn st hQ
    refine asgName (B := fun l => lk l "thing" = some (.ref (th i))) (Wk.list false g'.handled _ T (Nat.ne_of_lt hTlt) (six fun i => .ref (th i))) ?_ rfl rfl hn st ?_ hQ
    · exact lw_C hTlt hz₄
    · have : v = .ref (th i) := Option.some.inj ((show (six fun i => Value.ref (th i))[i]? = some v from hP).symm.trans (keys_at hi))
      rw [this]; rfl
  · intro i s l E' hi hB hn hk
    exact noTests
  · intro i s l E' hi _ hBi hn hk hal
    have hx : Ext h₃ s.heap := fun b o e => hk b o (by
      intro hm
      have hb := Heap.lt_size e
      dsimp only at hm
      rw [hz₄] at hm
      simp only [List.mem_cons, List.not_mem_nil, or_false] at hm
      rcases hm with q | q | q
      · exact absurd q (Nat.ne_of_lt (Nat.lt_succ_of_lt hb))
      · exact absurd q (Nat.ne_of_lt (Nat.lt_succ_of_lt (Nat.lt_succ_of_lt hb)))
      · exact absurd q (Nat.ne_of_lt hb)) (hx₄ b o e)
    have hC := KC_ext hC₃ hx
    refine Call_Name1 <| ldC (c := 225) (cW₃.keeps hx) <| callCls <| ldE (l := l) hn hBi ⟨hC, ?_⟩
    refine weigh_any hC (hx.base hB₃) (g'.less (by (first | lia | omega))) fun a h' tk hx' ⟨dx, od, i1, i2, i3, i4⟩ => ?_
    have fr : ∀ a, s.heap.get? a = none → a ∉ h₄.objs.size :: (h₄.objs.size + 1) :: [h₃.objs.size] := by
      intro a ha hm
      obtain ⟨o, q⟩ := hal a hm
      rw [ha] at q; cases q
    have fc : ∀ a, s.heap.get? a = none → a ∉ [224, 226, 227] := by
      intro a ha hm
      simp only [List.mem_cons, List.not_mem_nil, or_false] at hm
      rcases hm with rfl | rfl | rfl
      · obtain ⟨o, _, _, q, _⟩ := ns_ext hn₃ hx; rw [ha] at q; cases q
      · obtain ⟨o, q, _⟩ := cK₃.keeps hx; rw [ha] at q; cases q
      · obtain ⟨o, q, _⟩ := cL₃.keeps hx; rw [ha] at q; cases q
    refine ⟨h', tk, rfl, hx', ⟨a, dx, od, rfl, fr _ i3, fr _ i4, i1, i2, fc _ i3, fc _ i4⟩, ?_, SZ.no⟩
    rintro j y' hj ⟨a', dx', od', rfl, _, _, q, _⟩ e
    cases e
    rw [i3] at q; cases q
  · intro i y h h' ⟨a, dx, od, e1, e2, e3, e4, e5, e6⟩ hk
    exact ⟨a, dx, od, e1, e2, e3, hk _ _ e2 e4, hk _ _ e3 e5, e6⟩
  obtain ⟨hl₅, hF₅, hN₅, hk₅, _⟩ := hdone
  dsimp only at hl₅ hF₅ hk₅ ⊢
  have hx₅ : Ext h₃ h₅ := fun b o e => hk₅ b o (fun hm => absurd (List.mem_singleton.mp hm) (lt_ne e (Nat.le_refl _))) (hx₄ b o e)
  obtain ⟨f, rfl, hf⟩ := six_paired hF₅
  have hf' : ∀ i, i < 6 → ∃ a, f i = .ref a ∧ InstN h₅ a (th i) := fun i hi => by
    obtain ⟨a, dx, od, e, _, _, e4, e5, e6⟩ := hf i hi
    exact ⟨a, e, dx, od, e4, e5, e6⟩
  obtain ⟨k, hkf, hkI⟩ : ∃ k : Nat → Addr, (∀ i, i < 6 → f i = .ref (k i)) ∧ ∀ i, i < 6 → InstN h₅ (k i) (th i) := by
    refine ⟨fun i => match f i with | .ref a => a | _ => 0, fun i hi => ?_, fun i hi => ?_⟩
    · obtain ⟨a, e, _⟩ := hf' i hi; simp only [e]
    · obtain ⟨a, e, q⟩ := hf' i hi; simp only [e]; exact q
  have hys : six f = six fun i => .ref (k i) := by simp only [six, hkf 0 (by decide), hkf 1 (by decide), hkf 2 (by decide), hkf 3 (by decide), hkf 4 (by decide), hkf 5 (by decide)]
  rw [hys] at hl₅ hN₅
  have hinj : ∀ i j, i < 6 → j < 6 → i ≠ j → k i ≠ k j := by
    have lt : ∀ i j, i < j → j < 6 → k i ≠ k j := by
      intro i j hij hj e
      have a := keys_at (k := k) (Nat.lt_trans hij hj)
      have b := keys_at (k := k) hj
      obtain ⟨ha, ea⟩ := List.getElem?_eq_some_iff.mp a
      obtain ⟨hb, eb⟩ := List.getElem?_eq_some_iff.mp b
      have := List.pairwise_iff_getElem.mp hN₅ i j ha hb hij
      rw [ea, eb, e] at this
      exact this rfl
    intro i j hi hj hne
    rcases Nat.lt_or_gt_of_ne hne with q | q
    · exact lt i j q hj
    · exact (lt j i q hi).symm
  have hK : h₄.objs.size ≠ 226 := by rw [hz₄, hz₃]; decide
  have hK1 : h₄.objs.size ≠ 224 := by rw [hz₄, hz₃]; decide
  have hK2 : h₄.objs.size ≠ 227 := by rw [hz₄, hz₃]; decide
  have hK3 : 228 ≤ h₄.objs.size := by rw [hz₄, hz₃]; decide
  generalize h₄.objs.size = K at hl₅ hK hK1 hK2 hK3 ⊢
  refine stCell (c := 226) (cK₃.keeps hx₅) fun h₆ cK₆ hs₆ => ?_
  dsimp only at hs₆ ⊢
  have hthn : ∀ i, i < 6 → th i ∉ [224, 226, 227] := by
    intro i hi hm
    obtain ⟨_, _, _, _, e⟩ := hth₀ i hi
    have : th i < 224 := hsz ▸ Heap.lt_size e
    simp only [List.mem_cons, List.not_mem_nil, or_false] at hm
    rcases hm with q | q | q <;> (rw [q] at this; exact absurd this (by decide))
  have k6 : KeepOut [226] h₅ h₆ := KeepOut.same hs₆ (by simp)
  have hB₆ : Base w h₆ := base_keep (hx₅.base hB₃) k6 (by decide)
  have hC₆ : (KC hs (stk + 1)).In h₆ := KC_keep (KC_ext hC₃ hx₅) k6 (fun b hb => by rw [List.mem_singleton.mp hb]; rfl)
  have hI₆ : ∀ i, i < 6 → InstN h₆ (k i) (th i) := fun i hi => (hkI i hi).keep k6 (by decide)
  have hth₆ : ∀ i, i < 6 → ThingAt h₆ (th i) (D i) := fun i hi => ((hth₃ i hi).ext hx₅).keep k6 (fun q => hthn i hi (by rw [List.mem_singleton.mp q]; decide))
  have hn₆ : h₆.Ns 224 (lk [("things", .ref T)]) := ns_keep (ns_ext hn₃ hx₅) k6 (by decide)
  have cL₆ : h₆.IsCell 227 none := (cL₃.keeps hx₅).sameBut hs₆ (by decide)
  have h51₆ : h₆.get? 51 = some (tableObj #[rawInt 45, rawInt 4, .ref 235]) := k6 _ _ (by decide) (hx₅ _ _ h51₃)
  have hx₆' : Ext51 sh h₆ := fun b o e n => k6 b o (fun q => by rw [List.mem_singleton.mp q] at e; exact absurd (hsz ▸ Heap.lt_size e) (by decide)) (hx₅ b o (hx₃' b o e n))
  have hl₆ : Lst h₆ K (six fun i => .ref (k i)) := hl₅.keep k6 (fun q => hK (List.mem_singleton.mp q))
  have hbig : 228 ≤ h₆.objs.size := Nat.le_trans hK3 (Nat.le_of_lt hl₆.lt)
  have hKn : K ∉ [224, 227] := by simp only [List.mem_cons, List.not_mem_nil, or_false, not_or]; exact ⟨hK1, hK2⟩
  refine row_tail (w := w) (th := th) (D := D) (T := T) ⟨hB₆, hC₆, hI₆, hth₆, hl₆, cK₆⟩ hthn hKn hsm hinj (g'.less (by (first | lia | omega))) hn₆ cL₆ hbig fun h' tk R rv hk hl hP => ?_
  refine hQ h' tk R rv (fun b o e n => hk b o (fun q => ?_) (hx₆' b o e n)) (hk _ _ (by decide) h51₆) hl ?_
  · simp only [List.mem_cons, List.not_mem_nil, or_false] at q
    have := Heap.lt_size e
    rw [hsz] at this
    rcases q with q | q <;> (rw [q] at this; exact absurd this (by decide))
  · rw [← rowI_of hinj D]
    exact Paired.mapL hP
end
end Mine

end
section
open PySem PySem.W PySem.W.X PyProof.Rows PySem.Calls
set_option Elab.async false
set_option maxRecDepth 100000
set_option maxHeartbeats 0
set_option linter.unusedVariables false
namespace Mine
section
variable {w : World} {A : Around} {E : Value → Shared → Prop} {s : Shared}

theorem iterCall {l : Addr} {vs : List Value} {Q : Value → Shared → Prop} (hl : Lst s.heap l vs)
    (hQ : ∀ h', Ext s.heap h' → h'.IsListIter s.heap.objs.size l 0 → h'.objs.size = s.heap.objs.size + 1 → Q (.ref s.heap.objs.size) { s with heap := h' }) : wpAny (MD w) A (call (.builtin "iter") [.ref l]) Q E s := by
  refine call_function_entry (by decide +kernel) (by decide +kernel) kdk_entry_iter (kdk_args_iter _) ?_
  unfold Builtin.«iter»
  refine wpAny_bind (m := someArgs "iter" 1 2 _) (wpAny_of_eq (a := [Value.ref l]) (by first | rfl | kernel_rfl!) ?_)
  show wpAny _ _ (pyIter (.ref l) >>= _) _ _ _
  exact wpAny_bind (iterL hl fun h' hx hi hz => wpAny_pure ⟨_, rfl, hQ h' hx hi hz⟩)

theorem Paired.at {α β : Type} {F : α → β → Prop} : ∀ {l₁ : List α} {l₂ : List β} {i : Nat} {b : β}, Paired F l₁ l₂ → l₂[i]? = some b → ∃ a, l₁[i]? = some a ∧ F a b
  | _, _, 0, b, .cons h _, e => by cases e; exact ⟨_, rfl, h⟩
  | _, _, i + 1, b, .cons _ t, e => Paired.at t (i := i) e
  | _, _, i, b, .nil, e => by cases e

/-- a function at an address, called with two arguments -/
theorem callF2 {pos : Pos} {a : Addr} {o : Obj} {fd : FuncData} {t u : Sem Value} {Q : Value → Shared → Prop} (ho : s.heap.get? a = some o) (hd : o.data = .func fd)
    (h : wpAny (MD w) A t (fun v s₁ => wpAny (MD w) A u (fun v' s₂ => s₂.heap.get? a = some o ∧ wpAny (MD w) A (call (.ref a) [v, v']) Q E s₂) E s₁) E s) : wpAny (MD w) A (callWith pos (.ref a) [] [(false, t), (false, u)] []) Q E s :=
  callWith_function_kw (o := o) (fd := fd) (Calls.evalArgs_plain (Calls.spliced_cons (wpAny_mono h (fun _ _ h₁ => Calls.spliced_cons (wpAny_mono h₁ (fun _ _ h₂ => Calls.spliced_nil ⟨⟨h₂.1, hd⟩, h₂.2⟩) fun _ _ e => e)) fun _ _ e => e)))

/-- a function of two whole numbers -/
def Fn2 (w : World) (h : Heap) (f : Addr) (op : Int → Int → Int) : Prop := (∃ o fd, h.get? f = some o ∧ o.data = .func fd) ∧
  ∀ (s : Shared) (A : Around) (Q : Value → Shared → Prop) (E : Value → Shared → Prop) (a b : Int) (ta tb : Tok), Ext h s.heap → Good A 20 →
    (∀ h' t tk, Ext s.heap h' → Q (.int (op a b) t) { s with heap := h', toks := tk }) → wpAny (MD w) A (call (.ref f) [.int a ta, .int b tb]) Q E s

noncomputable def redFd (w : World) : FuncData := { Calls.docDef "reduce" (fnParams 9) (fnBody 9) (fnScope 9) (fdOf w.params 65).pyModule (.ref 64) (fdOf w.params 65).doc with defaults := .ref 58 }
theorem look_reduce : FnLook w 65 := by unfold FnLook; kernel_rfl
theorem red_fd : fdOf w.params 65 = redFd w := by kernel_rfl

inductive RdSt (s : Shared) (I l f : Addr) (vs : List Value) (ns : List Int) (op : Int → Int → Int) (a : Int) (m : Nat) (s' : Shared) : Prop
  | mk (h' : Heap) (tk : Nat) (b : List (Str × Value)) (i : Nat) (t : Tok) (hs : s' = { s with heap := h', toks := tk }) (f0 : (h'.IsListIter I l i ∧ h'.IsList l vs.toArray)) (f1 : h'.Ns s.heap.objs.size (lk b)) (f2 : lk b "function" = some (.ref f)) (f3 : lk b "value" = some (.int ((ns.take i).foldl op a) t)) (f4 : Ext s.heap h') (f5 : i ≤ vs.length) (f6 : m = vs.length - i) : RdSt s I l f vs ns op a m s'
theorem reduce_spec {f l : Addr} {op : Int → Int → Int} {ns : List Int} {vs : List Value} {a : Int} {ta : Tok} {Q : Value → Shared → Prop} (hB : Base w s.heap) (g : Good A 30) (hf : Fn2 w s.heap f op) (hl : Lst s.heap l vs)
    (hv : Paired (fun n v => ∃ t, v = .int n t) ns vs) (hlen : vs.length ≤ 1000)
    (hQ : ∀ h' t tk, Ext s.heap h' → Q (.int (ns.foldl op a) t) { s with heap := h', toks := tk }) : wpAny (MD w) A (call (.ref 65) [.ref f, .ref l, .int a ta]) Q E s := by
  have ho : s.heap.get? 65 = some ⟨.type "function", none, .func (redFd w), #[]⟩ := red_fd (w := w) ▸ hB _ _ look_reduce
  refine wpAny_call (codeAny_call_function (fd := redFd w) (body := fnBody 9) g.room ho rfl rfl rfl rfl (codeRec_of hB (by kernel_rfl)) ?_)
  have hbt : BindsTo s (redFd w) ⟨[.ref f, .ref l, .int a ta], []⟩ [("function", .ref f), ("sequence", .ref l), ("initial", .int a ta)] :=
    BindsTo.of_defaults (T := 58) (items := #[.ref 57]) (n := 0) rfl (hB 58 ⟨.type "tuple", none, .seq #[.ref 57] 0, #[]⟩ (by kernel_rfl)) rfl rfl rfl
  refine hbt _ _ _ _ (wpAny_newFunctionEnv (show ∀ x ∈ (fnScope 9).names, x.2 ≠ .cell by decide) (locs rfl) (fun h₁ hns hsb => ⟨(no_limit hB).fresh _ hsb, ?_⟩) rfl)
  have hx₁ : Ext s.heap h₁ := fun b o e => hsb.extBut b o (Nat.ne_of_lt (Heap.lt_size e)) (Heap.get?_push_of_some _ e)
  refine codeAny_func (wpAny_mono (Q := fun f s' => Q (match f with | .ret v => v | _ => .none) s') (E := fun _ _ => False) ?_ (fun f s' q => q) (fun _ _ x => x.elim))
  have hB₁ := hx₁.base hB
  have g' := (Good.less g (e := 29 + 1) (by (first | lia | omega))).deeper (envOf "reduce" (fnScope 9) s.heap.objs.size 65 (.ref 64))
  show wpAny (MD w) (A.deeper (envOf "reduce" (fnScope 9) s.heap.objs.size 65 (.ref 64))) (execs (fnBody 9) (envOf "reduce" (fnScope 9) s.heap.objs.size 65 (.ref 64))) _ _ _
  have hn₁ : h₁.Ns s.heap.objs.size (lk [("initial", .int a ta), ("sequence", .ref l), ("function", .ref f)]) := hns
  have hl₁ := hl.ext hx₁
  have hLb : s.heap.objs.size ≤ s.heap.objs.size := Nat.le_refl _
  refine wpAny_execs_cons <| wpAny_Assign_Name <| Call_Name1 <| ldB hB₁ (by kernel_rfl) (v := .builtin "iter") (by kernel_rfl) <| callWith_builtin1 <| ldL hn₁ rfl <| iterCall hl₁ fun h₂ hx₂ hi₂ hz₂ => ?_
  dsimp only at hx₂ hi₂ hz₂ ⊢
  have hlt : l < h₁.objs.size := hl₁.lt
  have hL1 : s.heap.objs.size < h₁.objs.size := hn₁.lt
  generalize h₁.objs.size = I at hi₂ hlt hL1 hz₂ ⊢
  refine stL (ns_ext hn₁ hx₂) fun h₃ hn₃ hs₃ => ?_
  dsimp only at hn₃ hs₃ ⊢
  have hx₃ : Ext s.heap h₃ := (hx₁.trans hx₂).same hs₃ hLb
  have hi₃ : h₃.IsListIter I l 0 := hi₂.extBut hs₃.extBut (Nat.ne_of_gt hL1)
  have hB₃ := hx₃.base hB
  refine wpAny_execs_cons <| wpAny_If <| wpAny_isTrue_Compare1 <| ldL hn₃ rfl <| ldG hB₃ (v := .ref 57) (by kernel_rfl) <| wpAny_is_other rfl (by simp) <| wpAny_truthy_bool ?_
  rw [if_neg (by decide)]
  refine wpAny_execs_cons <| wpAny_Assign_Name <| ldL hn₃ rfl <| stL hn₃ fun h₄ hn₄ hs₄ => wpAny_execs_nil ?_
  dsimp only at hn₄ hs₄ ⊢
  have hx₄ : Ext s.heap h₄ := hx₃.same hs₄ hLb
  have hi₄ : h₄.IsListIter I l 0 := hi₃.extBut hs₄.extBut (Nat.ne_of_gt hL1)
  refine wpAny_execs_cons <| wpAny_For <| ldL hn₄ rfl <| wpAny_pyIter_listiter hi₄ ?_
  have W : Wk w (A.deeper (envOf "reduce" (fnScope 9) s.heap.objs.size 65 (.ref 64))) false I [I, l] [I] vs.length _ _ := Wk.list false g'.handled I l (Nat.ne_of_lt hlt) vs
  refine forLoop_any (RdSt s I l f vs ns op a) ?_ vs.length
    ⟨h₄, _, _, 0, ta, rfl, ⟨hi₄, (hl.ext hx₄).isList⟩, hn₄, rfl, rfl, hx₄, Nat.zero_le _, rfl⟩
  rintro m s' ⟨h', tk, b, i, t, rfl, st, hn, e1, e2, hx, hi, rfl⟩
  have nI : ∀ {c : Addr} {o : Obj}, s.heap.get? c = some o → c ∉ [I] := fun e q => absurd (List.mem_singleton.mp q) (lt_ne e (Nat.le_of_lt hL1))
  have hnl : ns.length = vs.length := hv.length
  rcases Nat.lt_or_ge i vs.length with hlt' | hge
  · refine W.item i _ _ _ hlt' st fun v h₅ tk₅ hP st₅ k₅ _ => ?_
    dsimp only at k₅ ⊢
    obtain ⟨n, hni, t', rfl⟩ := Mine.Paired.at hv (show vs[i]? = some v from hP)
    have hx₅ : Ext s.heap h₅ := fun c o e => k₅ c o (nI e) (hx c o e)
    refine wpAny_bind <| wpAny_pure <| wpAny_assign_Name <| stL (ns_keep hn k₅ (fun q => absurd (List.mem_singleton.mp q) (Nat.ne_of_lt hL1))) fun h₆ hn₆ hs₆ => ?_
    dsimp only at hn₆ hs₆ ⊢
    have hx₆ : Ext s.heap h₆ := hx₅.same hs₆ hLb
    have st₆ := W.frame _ _ h₆ st₅ fun c hc o e => hs₆.extBut c o (fun q => by
      rw [q] at hc
      simp only [List.mem_cons, List.not_mem_nil, or_false] at hc
      rcases hc with q | q
      · exact absurd q (Nat.ne_of_lt hL1)
      · exact absurd q.symm (Nat.ne_of_lt hl.lt)) e
    obtain ⟨⟨of, fdf, hof, hdf⟩, hfc⟩ := id hf
    refine wpAny_execs_cons <| wpAny_Assign_Name <| Call_Name2 <| ldL hn₆ e1 <| callF2 (hx₆ _ _ hof) hdf <| ldL hn₆ e2 <| ldL hn₆ rfl ⟨hx₆ _ _ hof, ?_⟩
    refine hfc _ _ _ _ _ _ _ _ hx₆ (g'.less (by (first | lia | omega))) fun h₇ t₇ tk₇ hx₇ => ?_
    dsimp only at hx₇ ⊢
    refine stL (ns_ext hn₆ hx₇) fun h₈ hn₈ hs₈ => wpAny_execs_nil ?_
    dsimp only at hn₈ hs₈ ⊢
    refine ⟨vs.length - (i + 1), by (first | lia | omega), h₈, _, _, i + 1, t₇, rfl, ?_, hn₈, e1, ?_, (hx₆.trans hx₇).same hs₈ hLb, hlt', rfl⟩
    · refine W.frame _ _ _ st₆ fun c hc o e => hs₈.extBut c o (fun q => ?_) (hx₇ _ _ e)
      rw [q] at hc
      simp only [List.mem_cons, List.not_mem_nil, or_false] at hc
      rcases hc with q | q
      · exact absurd q (Nat.ne_of_lt hL1)
      · exact absurd q.symm (Nat.ne_of_lt hl.lt)
    · show some _ = some _
      rw [List.take_add_one, hni]
      simp
  · have : i = vs.length := by (first | lia | omega)
    subst this
    refine W.done _ _ _ st fun h₅ tk₅ k₅ _ => wpAny_execs_nil ?_
    dsimp only at k₅ ⊢
    have hx₅ : Ext s.heap h₅ := fun c o e => k₅ c o (nI e) (hx c o e)
    refine wpAny_execs_cons <| wpAny_Return_some <| ldL (ns_keep hn k₅ (fun q => absurd (List.mem_singleton.mp q) (Nat.ne_of_lt hL1))) e2 ?_
    rw [← hnl, List.take_length]
    exact hQ _ _ _ hx₅
end
end Mine

end
section
open PySem PySem.W PySem.W.X PyProof.Rows PySem.Calls
set_option Elab.async false
set_option maxRecDepth 100000
set_option maxHeartbeats 0
set_option linter.unusedVariables false
namespace Mine
noncomputable def keptS (i : Nat) : Stmt := (fnBody 38)[i]?.getD (.Pass ⟨0, 0, 0, 0⟩)
noncomputable def lamE : Expr := match keptS 1 with
  | .For _ _ (.Assign _ (.Call _ (l :: _) _ _) _ :: _) _ _ => l
  | _ => .Name "" ⟨0, 0, 0, 0⟩
noncomputable def lamP : Arguments := match lamE with | .Lambda p _ _ _ => p | _ => fnParams 0
noncomputable def lamB : Expr := match lamE with | .Lambda _ b _ _ => b | _ => lamE
noncomputable def lamS : Scope := match lamE with | .Lambda _ _ s _ => s | _ => fnScope 0
noncomputable def lamPos : Pos := match lamE with | .Lambda _ _ _ p => p | _ => ⟨0, 0, 0, 0⟩
noncomputable abbrev lamQ : Str := "_law_kept.<locals>.<lambda>"
noncomputable def lamOp (a b : Int) : Int := if Builtin.bitXor a b < a then Builtin.bitXor a b else a
/-- the lambda at f -/
def LamAt (h : Heap) (f : Addr) : Prop := ∃ pm cv ct, h.get? f = some { cls := .type "function", data := .func (kla_fn "<lambda>" lamQ lamP lamB lamS [] pm cv ct) } ∧ h.CodeRec cv lamQ
theorem CodeRec.ext {h h' : Heap} {cd : Value} {n : Str} (x : h.CodeRec cd n) (y : Ext h h') : h'.CodeRec cd n := let ⟨c, oc, vs, tq, a, b, d⟩ := x; ⟨c, oc, vs, tq, a, y _ _ b, d⟩
section
variable {w : World} {A : Around} {E : Value → Shared → Prop} {s : Shared}
theorem callB2 {pos : Pos} {id : String} {t u : Sem Value} {Q : Value → Shared → Prop}
    (h : wpAny (MD w) A t (fun v s₁ => wpAny (MD w) A u (fun v' s₂ => wpAny (MD w) A (call (.builtin id) [v, v']) Q E s₂) E s₁) E s) : wpAny (MD w) A (callWith pos (.builtin id) [] [(false, t), (false, u)] []) Q E s :=
  Calls.callWith_builtin rfl (Calls.evalArgs_plain (Calls.spliced_cons (wpAny_mono h (fun _ _ h₁ => Calls.spliced_cons (wpAny_mono h₁ (fun _ _ h₂ => Calls.spliced_nil h₂) fun _ _ e => e)) fun _ _ e => e)))

theorem lam_fn2 {h : Heap} {f : Addr} (hB : Base w h) (hl : LamAt h f) : Fn2 w h f lamOp := by
  obtain ⟨pm, cv, ct, ho, hcd⟩ := hl
  refine ⟨⟨_, _, ho, rfl⟩, fun s A Q E a b ta tb hx g hQ => ?_⟩
  have hB' := hx.base hB
  refine wpAny_call (kla_callFunE (body := lamB) g.room (hx _ _ ho) rfl rfl rfl rfl (CodeRec.ext hcd hx) ?_)
  rw [show bindArgs (kla_fn "<lambda>" lamQ lamP lamB lamS [] pm cv ct) ⟨[.int a ta, .int b tb], []⟩ = (pure [("have", Value.int a ta), ("base", Value.int b tb)] : Sem (List (Str × Value))) from rfl]
  refine wpAny_pure (wpAny_newFunctionEnv (show ∀ x ∈ lamS.names, x.2 ≠ .cell by decide) (locs rfl) (fun h₁ hns hsb => ⟨(no_limit hB').fresh _ hsb, ?_⟩) rfl)
  have hx₁ : Ext s.heap h₁ := fun b o e => hsb.extBut b o (Nat.ne_of_lt (Heap.lt_size e)) (Heap.get?_push_of_some _ e)
  have hB₁ := hx₁.base hB'
  refine kla_codeExpr (wpAny_mono (Q := Q) (E := fun _ _ => False) ?_ (fun f s' q => q) (fun _ _ x => x.elim))
  have g' := (Good.less g (e := 19 + 1) (by (first | lia | omega))).deeper (envOf lamQ lamS s.heap.objs.size f cv)
  show wpAny (MD w) (A.deeper (envOf lamQ lamS s.heap.objs.size f cv)) (eval lamB (envOf lamQ lamS s.heap.objs.size f cv)) _ _ _
  have hn₁ : h₁.Ns s.heap.objs.size (lk [("base", .int b tb), ("have", .int a ta)]) := hns
  refine Call_Name2 <| ldB hB₁ (by kernel_rfl) (v := .builtin "min") (by kernel_rfl) <| callB2 <| ldL hn₁ rfl <| wpAny_BinOp <| ldL hn₁ rfl <| ldL hn₁ rfl <| xor_int <| min_two_ints g'.handled fun h₂ tk₂ hx₂ => ?_
  have key := fun t => hQ h₂ t tk₂ (hx₁.trans hx₂)
  unfold lamOp at key
  split
  · rename_i q; simp only [if_pos q] at key; exact key _
  · rename_i q; simp only [if_neg q] at key; exact key _

noncomputable def objK (w : World) (a : Addr) : Obj := ((KG w.params).lookup a).getD { cls := .none, data := .plain }
noncomputable def fieldsK (o : Obj) : Array Value := match o.data with | .fields vs => vs | _ => #[]
noncomputable def strK (v : Value) : Str := match v with | .str x _ => x | _ => ""
noncomputable def tokK (v : Value) : Tok := match v with | .str _ t => t | .int _ t => t | _ => 0
noncomputable def intK (v : Value) : Int := match v with | .int i _ => i | _ => 0
noncomputable def boolK (v : Value) : Bool := match v with | .bool b => b | _ => false
theorem code_hd {h : Heap} (hB : Base w h) : CodeHd h 142 138 :=
  ⟨objK w 142, fieldsK (objK w 142), strK ((fieldsK (objK w 142)).getD 18 .none), tokK ((fieldsK (objK w 142)).getD 18 .none), intK ((fieldsK (objK w 142)).getD 7 .none), tokK ((fieldsK (objK w 142)).getD 7 .none), boolK ((fieldsK (objK w 142)).getD 9 .none),
    intK ((fieldsK (objK w 142)).getD 10 .none), tokK ((fieldsK (objK w 142)).getD 10 .none), hB 142 _ (by kernel_rfl), by kernel_rfl, by kernel_rfl, by kernel_rfl, by kernel_rfl, by kernel_rfl, by kernel_rfl, by kernel_rfl, by kernel_rfl, by decide⟩
noncomputable def refK (o : Option Value) : Addr := match o with | some (.ref a) => a | _ => 0
theorem built_at {h : Heap} (hB : Base w h) : h.BuiltinsAt (nsFind (esOf w.params 3)) 138 :=
  ⟨4, objK w 4, by kernel_rfl, by decide, by decide, by decide, hB 4 _ (by kernel_rfl), by kernel_rfl, by kernel_rfl, by kernel_rfl⟩
noncomputable abbrev keptEnv (L : Addr) : Env := envOf "_law_kept" (fnScope 38) L 143 (.ref 142)

/-- the lambda made: at the first time its code is laid down in the table -/
theorem lam_first {L : Addr} {Q : Value → Shared → Prop} (hB : Base w s.heap) (ht : s.heap.get? 138 = some (tabObj #[]))
    (hQ : ∀ f h' tk c', Heap.ExtBut 138 s.heap h' → LamAt h' f → h'.get? 138 = some (tabObj #[rawInt 147, rawInt 22, .ref c']) → h'.CodeRec (.ref c') lamQ → s.heap.get? f = none → Q (.ref f) { s with heap := h', toks := tk }) :
    wpAny (MD w) A (eval lamE (keptEnv L)) Q E s := by
  refine kla_eval (params := lamP) (body := lamB) (scope := lamS) (pos := lamPos) rfl ?_
  refine kla_makeFunction (c := 142) (P := 138) (ps := #[]) (clos := []) rfl rfl (ns_globals hB) rfl (code_hd hB) ht trivial rfl (by decide) (built_at hB) fun c' ctv h' tk hx hge hlt hrec htb => ?_
  refine hQ h'.objs.size _ tk c' ((hx.push _)) ⟨_, _, _, Heap.get?_push_size _ rfl, CodeRec.ext hrec fun b o e => Heap.get?_push_of_some _ e⟩ (Heap.get?_push_of_some _ htb) (CodeRec.ext hrec fun b o e => Heap.get?_push_of_some _ e) ?_
  exact fresh_size _ _ (Nat.le_of_lt (Nat.lt_of_le_of_lt hge hlt))
theorem lam_again {L c' : Addr} {Q : Value → Shared → Prop} (hB : Base w s.heap) (ht : s.heap.get? 138 = some (tabObj #[rawInt 147, rawInt 22, .ref c'])) (hc : s.heap.CodeRec (.ref c') lamQ)
    (hQ : ∀ f h' tk, Ext s.heap h' → LamAt h' f → s.heap.get? f = none → Q (.ref f) { s with heap := h', toks := tk }) :
    wpAny (MD w) A (eval lamE (keptEnv L)) Q E s := by
  refine kla_eval (params := lamP) (body := lamB) (scope := lamS) (pos := lamPos) rfl ?_
  refine kla_makeFunctionHit (c := 142) (P := 138) (ps := #[rawInt 147, rawInt 22, .ref c']) (clos := []) (cv := .ref c') rfl rfl (ns_globals hB) rfl (code_hd hB) ht trivial rfl (built_at hB) fun ctv h' tk hx hsz => ?_
  exact hQ h'.objs.size _ tk (fun b o e => Heap.get?_push_of_some _ (hx b o e)) ⟨_, _, _, Heap.get?_push_size _ rfl, CodeRec.ext hc fun b o e => Heap.get?_push_of_some _ (hx b o e)⟩ (fresh_size _ _ hsz)
end
end Mine

end
section
open PySem PySem.W PySem.W.X PyProof.Rows PySem.Calls
set_option Elab.async false
set_option maxRecDepth 100000
set_option maxHeartbeats 0
set_option linter.unusedVariables false
namespace Mine
noncomputable def keptStep (seen : List Int) (st : List Nat × List Int) (p : Nat) : List Nat × List Int :=
  if st.2.foldl lamOp (seen.getD p 0) ≠ 0 then (st.1 ++ [p], st.2 ++ [st.2.foldl lamOp (seen.getD p 0)]) else st
noncomputable def keptG (seen : List Int) (row : List Nat) : List Nat × List Int := row.foldl (keptStep seen) ([], [])
def Ext138 (h h' : Heap) : Prop := ∀ b o, h.get? b = some o → b ≠ 138 → h'.get? b = some o
theorem base138 {w : World} {h h' : Heap} (hB : Base w h) (x : Ext138 h h') : Base w h' := by
  intro a o e
  refine x a o (hB a o e) ?_
  rintro rfl
  rw [show (KG w.params).lookup 138 = none by kernel_rfl] at e
  cases e
abbrev IntV (n : Int) (v : Value) : Prop := ∃ t, v = .int n t
abbrev NatV (n : Nat) (v : Value) : Prop := ∃ t, v = .int (n : Int) t
/-- the table of the lambda's code -/
def Tab (h : Heap) (i : Nat) : Prop := (i = 0 ∧ h.get? 138 = some (tabObj #[])) ∨ (0 < i ∧ ∃ c', h.get? 138 = some (tabObj #[rawInt 147, rawInt 22, .ref c']) ∧ h.CodeRec (.ref c') lamQ)
theorem Tab.ext {h h' : Heap} {i : Nat} (x : Tab h i) (y : Ext h h') : Tab h' i := by
  rcases x with ⟨a, b⟩ | ⟨a, c', b, d⟩
  · exact .inl ⟨a, y _ _ b⟩
  · exact .inr ⟨a, c', y _ _ b, CodeRec.ext d y⟩
theorem Tab.same {h h' : Heap} {i : Nat} {L : Addr} (x : Tab h i) (y : Heap.SameBut L h h') (hL : L ≠ 138) (hF : ∀ o vs, h.get? L = some o → o.data ≠ .fields vs) : Tab h' i := by
  rcases x with ⟨a, b⟩ | ⟨a, c', b, d⟩
  · exact .inl ⟨a, y.extBut _ _ hL.symm b⟩
  · obtain ⟨c, oc, vs, tq, e1, e2, e3, e4⟩ := d
    exact .inr ⟨a, c', y.extBut _ _ hL.symm b, c, oc, vs, tq, e1, y.extBut _ _ (fun q => hF oc vs (q ▸ e2) e3) e2, e3, e4⟩
theorem Tab.iter {h h' : Heap} {i j : Nat} {I R : Addr} (x : Tab h i) (hit : h.IsListIter I R j) (k : KeepOut [I] h h') (hI : 138 < I) : Tab h' i := by
  have n138 : (138 : Addr) ∉ [I] := fun q => absurd (List.mem_singleton.mp q) (Nat.ne_of_lt hI)
  rcases x with ⟨a, b⟩ | ⟨a, c', b, d⟩
  · exact .inl ⟨a, k _ _ n138 b⟩
  · obtain ⟨c, oc, vs, tq, e1, e2, e3, e4⟩ := d
    refine .inr ⟨a, c', k _ _ n138 b, c, oc, vs, tq, e1, k _ _ (fun q => ?_) e2, e3, e4⟩
    rw [List.mem_singleton.mp q] at e2
    obtain ⟨o, f1, _, f3⟩ := hit
    rw [e2] at f1; cases f1
    rw [f3] at e3; cases e3
    simp at e4
section
variable {w : World} {A : Around} {E : Value → Shared → Prop} {s : Shared}
/-- the lambda, at whatever turn -/
theorem lam_any {L : Addr} {i : Nat} {Q : Value → Shared → Prop} (hB : Base w s.heap) (ht : Tab s.heap i)
    (hQ : ∀ f h' tk, Ext138 s.heap h' → LamAt h' f → Tab h' (i + 1) → Q (.ref f) { s with heap := h', toks := tk }) :
    wpAny (MD w) A (eval lamE (keptEnv L)) Q E s := by
  rcases ht with ⟨rfl, h0⟩ | ⟨hi, c', h1, h2⟩
  · exact lam_first hB h0 fun f h' tk c' hx hl ht hc _ => hQ f h' tk (fun b o e n => hx b o n e) hl (.inr ⟨Nat.succ_pos _, c', ht, hc⟩)
  · exact lam_again hB h1 h2 fun f h' tk hx hl _ => hQ f h' tk (fun b o e n => hx b o e) hl (.inr ⟨Nat.succ_pos _, c', hx _ _ h1, CodeRec.ext h2 hx⟩)

inductive KpSt (s : Shared) (n : Nat) (I R S : Addr) (rv : List Value) (row : List Nat) (seen : List Int) (m : Nat) (s' : Shared) : Prop
  | mk (h' : Heap) (tk : Nat) (b : List (Str × Value)) (i : Nat) (kv bv : List Value) (hs : s' = { s with heap := h', toks := tk }) (f0 : (h'.IsListIter I R i ∧ h'.IsList R rv.toArray)) (f1 : h'.Ns n (lk b)) (f2 : lk b "kept" = some (.ref (n + 1))) (f3 : lk b "bases" = some (.ref (n + 2))) (f4 : lk b "seen" = some (.ref S)) (f5 : Lst h' (n + 1) kv) (f6 : Lst h' (n + 2) bv) (f7 : Paired NatV ((row.take i).foldl (keptStep seen) ([], [])).1 kv) (f8 : Paired IntV ((row.take i).foldl (keptStep seen) ([], [])).2 bv) (f9 : Ext138 s.heap h') (f10 : Tab h' i) (f11 : bv.length ≤ i) (f12 : kv.length ≤ i) (f13 : i ≤ rv.length) (f14 : m = rv.length - i) : KpSt s n I R S rv row seen m s'
theorem kept_spec {R S : Addr} {rv sv : List Value} {row : List Nat} {seen : List Int} {Q : Value → Shared → Prop} (hB : Base w s.heap) (g : Good A 60) (hR : Lst s.heap R rv) (hrow : Paired NatV row rv) (hS : Lst s.heap S sv) (hseen : Paired IntV seen sv)
    (hlt : ∀ i ∈ row, i < seen.length) (hlen : seen.length ≤ 100) (hlen' : row.length ≤ 100) (ht : s.heap.get? 138 = some (tabObj #[])) (hbig : 154 ≤ s.heap.objs.size)
    (hQ : ∀ h' tk Kp kv, Ext138 s.heap h' → Tab h' row.length → Lst h' Kp kv → Paired NatV (keptG seen row).1 kv → Q (.ref Kp) { s with heap := h', toks := tk }) : wpAny (MD w) A (call (.ref 143) [.ref R, .ref S]) Q E s := by
  have hfd : fdOf w.params 143 = Calls.docDef "_law_kept" (fnParams 38) (fnBody 38) (fnScope 38) (fdOf w.params 143).pyModule (.ref 142) (fdOf w.params 143).doc := by kernel_rfl
  have ho : s.heap.get? 143 = some ⟨.type "function", none, .func (fdOf w.params 143), #[]⟩ := hB _ _ (by kernel_rfl)
  rw [hfd] at ho
  refine wpAny_call (codeAny_call_function (body := fnBody 38) g.room ho rfl rfl rfl rfl (codeRec_of hB (by kernel_rfl)) ?_)
  rw [show ∀ pm doc, bindArgs (Calls.docDef "_law_kept" (fnParams 38) (fnBody 38) (fnScope 38) pm (.ref 142) doc) ⟨[.ref R, .ref S], []⟩ = (pure [("row", Value.ref R), ("seen", Value.ref S)] : Sem (List (Str × Value))) from fun _ _ => rfl]
  refine wpAny_pure (wpAny_newFunctionEnv (show ∀ x ∈ (fnScope 38).names, x.2 ≠ .cell by decide) (locs rfl) (fun h₁ hns hsb => ⟨(no_limit hB).fresh _ hsb, ?_⟩) rfl)
  have hx₁ : Ext s.heap h₁ := fun b o e => hsb.extBut b o (Nat.ne_of_lt (Heap.lt_size e)) (Heap.get?_push_of_some _ e)
  refine codeAny_func (wpAny_mono (Q := fun f s' => Q (match f with | .ret v => v | _ => .none) s') (E := fun _ _ => False) ?_ (fun f s' q => q) (fun _ _ x => x.elim))
  have g' := (Good.less g (e := 59 + 1) (by (first | lia | omega))).deeper (keptEnv s.heap.objs.size)
  show wpAny (MD w) (A.deeper (keptEnv s.heap.objs.size)) (execs (fnBody 38) (keptEnv s.heap.objs.size)) _ _ _
  have hn₁ : h₁.Ns s.heap.objs.size (lk [("seen", .ref S), ("row", .ref R)]) := hns
  have hz₁ : h₁.objs.size = s.heap.objs.size + 1 := by rw [hsb.1, Heap.size_push]
  generalize hn0 : s.heap.objs.size = n at *
  refine wpAny_execs_cons <| Assign_Tuple_swapped (names := ["kept", "bases"]) <| Tuple_ <| args_cons <| List_ <| args_nil <| newL fun h₂ hx₂ hl₂ hz₂ => ?_
  dsimp only at hx₂ hl₂ hz₂ ⊢
  refine args_cons <| List_ <| args_nil <| newL fun h₃ hx₃ hl₃ hz₃ => ?_
  dsimp only at hx₃ hl₃ hz₃ ⊢
  refine args_nil <| newT fun h₄ hx₄ ht₄ hz₄ => ?_
  dsimp only at hx₄ ht₄ hz₄ ⊢
  refine unpackX g'.handled ht₄ rfl fun h₅ hx₅ hz₅ => ?_
  dsimp only at hx₅ hz₅ ⊢
  rw [hz₂, hz₁] at hl₃ ⊢
  rw [hz₁] at hl₂
  have hx₅' : Ext s.heap h₅ := (((hx₁.trans hx₂).trans hx₃).trans hx₄).trans hx₅
  have hn₅ := ns_ext hn₁ (((hx₂.trans hx₃).trans hx₄).trans hx₅)
  have hK₅ : Lst h₅ (n + 1) [] := ((hl₂.ext hx₃).ext hx₄).ext hx₅
  have hBs₅ : Lst h₅ (n + 2) [] := (hl₃.ext hx₄).ext hx₅
  clear hx₁ hx₂ hx₃ hx₄ hx₅ hl₂ hl₃ ht₄ hz₁ hz₂ hz₃ hz₄ hz₅ hns hsb hn₁
  refine assignInOrder_cons <| bindName_ <| stL hn₅ fun h₆ hn₆ hs₆ => ?_
  dsimp only at hn₆ hs₆ ⊢
  refine assignInOrder_cons <| bindName_ <| stL hn₆ fun h₇ hn₇ hs₇ => assignInOrder_nil ?_
  dsimp only at hn₇ hs₇ ⊢
  have hLb : s.heap.objs.size ≤ n := Nat.le_of_eq hn0
  have hx₇ : Ext s.heap h₇ := (hx₅'.same hs₆ hLb).same hs₇ hLb
  have n1 : n + 1 ≠ n := Nat.succ_ne_self _
  have n2 : n + 2 ≠ n := by (first | lia | omega)
  have hK₇ := (hK₅.same hs₆ n1).same hs₇ n1
  have hBs₇ := (hBs₅.same hs₆ n2).same hs₇ n2
  clear hK₅ hBs₅ hn₅ hs₆ hn₆ hs₇ hx₅'
  have hbn : 138 < n := Nat.lt_of_lt_of_le (by decide) hbig
  have tab₇ : Tab h₇ 0 := .inl ⟨rfl, hx₇ _ _ ht⟩
  refine wpAny_execs_cons <| wpAny_For <| ldL hn₇ rfl <| iterL (hR.ext hx₇) fun h₈ hx₈ hi₈ hz₈ => ?_
  dsimp only at hx₈ hi₈ hz₈ ⊢
  have hI : n + 2 < h₇.objs.size := hBs₇.lt
  have hRl : R < n := hn0 ▸ hR.lt
  generalize h₇.objs.size = I at hi₈ hI ⊢
  have RI : R < I := Nat.lt_trans hRl (Nat.lt_trans (by (first | lia | omega)) hI)
  have hn₈ := ns_ext hn₇ hx₈
  have tab₈ := tab₇.ext hx₈
  have hK₈ := hK₇.ext hx₈
  have hBs₈ := hBs₇.ext hx₈
  have hx₈' := hx₇.trans hx₈
  clear hn₇ hx₇ hx₈ hK₇ hBs₇ tab₇ hz₈
  have W : Wk w (A.deeper (keptEnv n)) false I [I, R] [I] rv.length _ _ := Wk.list false g'.handled I R (Nat.ne_of_lt RI) rv
  have hrl : row.length = rv.length := hrow.length
  refine forLoop_any (KpSt s n I R S rv row seen) ?_ rv.length
    ⟨h₈, _, _, 0, [], [], rfl, ⟨hi₈, (hR.ext hx₈').isList⟩, hn₈, rfl, rfl, rfl, hK₈, hBs₈, .nil, .nil, fun b o e _ => hx₈' b o e, tab₈, Nat.le_refl _, Nat.le_refl _, Nat.zero_le _, rfl⟩
  rintro m s' ⟨h', tk, b, i, kv, bv, rfl, st, hn, e1, e2, e3, hK, hBs, pK, pB, hx, tab, lb, lkv, hi, rfl⟩
  have nI : ∀ {c : Addr}, c < I → c ∉ [I] := fun h q => absurd (List.mem_singleton.mp q) (Nat.ne_of_lt h)
  have nlt : ∀ {c : Addr} {o : Obj}, s.heap.get? c = some o → c < n := fun e => hn0 ▸ Heap.lt_size e
  have noF : ∀ {h : Heap} {m} , h.Ns n m → ∀ o vs, h.get? n = some o → o.data ≠ .fields vs := fun hn o vs e q => by
    obtain ⟨o', es, ep, e', d, _⟩ := hn
    rw [e] at e'; cases e'; rw [q] at d; cases d
  rcases Nat.lt_or_ge i rv.length with hlt' | hge
  · refine W.item i _ _ _ hlt' st fun v h₁ tk₁ hP st₁ k₁ _ => ?_
    dsimp only at k₁ ⊢
    obtain ⟨p, hpi, t', rfl⟩ := Mine.Paired.at hrow (show rv[i]? = some v from hP)
    have nn : n < I := Nat.lt_trans (by (first | lia | omega)) hI
    have hx₁ : Ext138 s.heap h₁ := fun c o e q => k₁ c o (nI (Nat.lt_trans (nlt e) nn)) (hx c o e q)
    have tab₁ : Tab h₁ i := tab.iter st.1 k₁ (Nat.lt_trans hbn nn)
    have hn₁ := ns_keep hn k₁ (nI nn)
    have hK₁ := hK.keep k₁ (nI (Nat.lt_trans (by (first | lia | omega)) hI))
    have hBs₁ := hBs.keep k₁ (nI hI)
    refine wpAny_bind <| wpAny_pure <| wpAny_assign_Name <| stL hn₁ fun h₂ hn₂ hs₂ => wp_gen fun Q' E' next => ?_
    dsimp only at hn₂ hs₂ ⊢
    have nf : ∀ {c : Addr}, c < n → c ≠ n := fun h => Nat.ne_of_lt h
    have st₂ : h₂.IsListIter I R (i + 1) ∧ h₂.IsList R rv.toArray := ⟨st₁.1.extBut hs₂.extBut (Nat.ne_of_gt nn), st₁.2.extBut hs₂.extBut (nf hRl)⟩
    have tab₂ := tab₁.same hs₂ (Nat.ne_of_gt hbn) (noF hn₁)
    have hx₂ : Ext138 s.heap h₂ := fun c o e q => hs₂.extBut c o (nf (nlt e)) (hx₁ c o e q)
    have hK₂ := hK₁.same hs₂ n1
    have hBs₂ := hBs₁.same hs₂ n2
    have hB₂ := base138 hB hx₂
    have hp : p < seen.length := hlt p (List.mem_of_getElem? hpi)
    obtain ⟨sp, hsp, tp, rfl⟩ := Paired.atL hseen (show seen[p]? = some (seen.getD p 0) by rw [List.getD_eq_getElem?_getD, List.getElem?_eq_getElem hp]; rfl)
    have hS₂ : Lst h₂ S sv := let ⟨k, e⟩ := hS; ⟨k, hx₂ _ _ e (by
      rintro rfl
      rw [ht] at e
      cases e)⟩
    refine wpAny_execs_cons <| wpAny_Assign_Name <| Call_Name3 <| ldG hB₂ (v := .ref 65) (by kernel_rfl) <| call3 look_reduce <| lam_any (L := n) (i := i) hB₂ tab₂ fun f h₃ tk₃ hx₃ hl₃ tab₃ => ?_
    dsimp only at hx₃ ⊢
    have k3 : ∀ {c : Addr}, c ≠ 138 → ∀ o, h₂.get? c = some o → h₃.get? c = some o := fun q o e => hx₃ _ o e q
    have x3 : ∀ {c : Addr}, 138 < c → c ≠ 138 := fun h => Nat.ne_of_gt h
    have hn₃ : h₃.Ns n (lk _) := let ⟨o, es, ep, e, r⟩ := hn₂; ⟨o, es, ep, k3 (x3 hbn) o e, r⟩
    have hK₃ : Lst h₃ (n + 1) kv := let ⟨k, e⟩ := hK₂; ⟨k, k3 (x3 (Nat.lt_succ_of_lt hbn)) _ e⟩
    have hBs₃ : Lst h₃ (n + 2) bv := let ⟨k, e⟩ := hBs₂; ⟨k, k3 (x3 (Nat.lt_succ_of_lt (Nat.lt_succ_of_lt hbn))) _ e⟩
    have hS₃ : Lst h₃ S sv := let ⟨k, e⟩ := hS₂; ⟨k, hx₃ _ _ e (by
      rintro rfl
      obtain ⟨k', e'⟩ := hS
      rw [ht] at e'
      cases e')⟩
    have st₃ : h₃.IsListIter I R (i + 1) ∧ h₃.IsList R rv.toArray := ⟨let ⟨o, e, r⟩ := st₂.1; ⟨o, k3 (x3 (Nat.lt_trans hbn nn)) o e, r⟩, let ⟨o, e, r⟩ := st₂.2; ⟨o, hx₃ _ o e (by
      rintro rfl
      obtain ⟨k', e'⟩ := hR
      rw [ht] at e'
      cases e'), r⟩⟩
    have hx₃' : Ext138 s.heap h₃ := fun c o e q => hx₃ c o (hx₂ c o e q) q
    have hB₃ := base138 hB hx₃'
    refine ldL hn₃ e2 <| Subscript_ <| ldL hn₃ e3 <| ldL hn₃ rfl <| tailL hS₃ (Int.natCast_nonneg _) (by rw [Int.toNat_natCast]; exact hsp) (by have := hseen.length; (first | lia | omega)) ⟨hB₃, ?_⟩
    refine reduce_spec hB₃ (g'.less (by (first | lia | omega))) (lam_fn2 hB₃ hl₃) hBs₃ pB (by (first | lia | omega)) fun h₄ t₄ tk₄ hx₄ => ?_
    dsimp only at hx₄ ⊢
    generalize hst : (row.take i).foldl (keptStep seen) ([], []) = stt at pK pB ⊢
    generalize hrest : stt.2.foldl lamOp (seen.getD p 0) = rest
    have hstep : (row.take (i + 1)).foldl (keptStep seen) ([], []) = if rest ≠ 0 then (stt.1 ++ [p], stt.2 ++ [rest]) else stt := by
      rw [List.take_add_one, hpi, List.foldl_append, hst]
      show keptStep seen stt p = _
      unfold keptStep
      rw [hrest]
    refine stL (ns_ext hn₃ hx₄) fun h₅ hn₅ hs₅ => ?_
    dsimp only at hn₅ hs₅ ⊢
    have tab₅ := (tab₃.ext hx₄).same hs₅ (Nat.ne_of_gt hbn) (noF (ns_ext hn₃ hx₄))
    have hK₅ := (hK₃.ext hx₄).same hs₅ n1
    have hBs₅ := (hBs₃.ext hx₄).same hs₅ n2
    have st₅ : h₅.IsListIter I R (i + 1) ∧ h₅.IsList R rv.toArray := ⟨(st₃.1.at fun o e => hx₄ _ _ e).extBut hs₅.extBut (Nat.ne_of_gt nn), (st₃.2.at fun o e => hx₄ _ _ e).extBut hs₅.extBut (nf hRl)⟩
    have hx₅ : Ext138 s.heap h₅ := fun c o e q => hs₅.extBut c o (nf (nlt e)) (hx₄ c o (hx₃' c o e q))
    refine wpAny_execs_cons <| wpAny_If <| isTrue_plain <| ldL hn₅ rfl <| truthy_int ?_
    by_cases hz : rest = 0
    · rw [if_neg (by simp [hz])]
      rw [if_neg (by simpa using hz)] at hstep
      refine wpAny_execs_nil <| wpAny_execs_nil <| next _ _ ⟨rv.length - (i + 1), by (first | lia | omega), h₅, _, _, i + 1, kv, bv, rfl, st₅, hn₅, e1, e2, e3, hK₅, hBs₅, by rw [hstep]; exact pK, by rw [hstep]; exact pB, hx₅, tab₅, by (first | lia | omega), by (first | lia | omega), hlt', rfl⟩
    · rw [if_pos (by simpa using hz)]
      rw [if_pos hz] at hstep
      refine wpAny_execs_cons <| wpAny_Expr <| methL slot_list_append PySem.F.type_list_append rfl rfl rfl <| ldL hn₅ e1 ⟨n + 1, kv, rfl, hK₅, with1 <| ldL hn₅ rfl <| appendL hK₅ (by (first | lia | omega)) fun h₆ hK₆ hs₆ => ?_⟩
      dsimp only at hK₆ hs₆ ⊢
      have hn₆ := hn₅.sameBut hs₆ n1.symm
      have n12 : n + 2 ≠ n + 1 := by (first | lia | omega)
      have hBs₆ := hBs₅.same hs₆ n12
      refine wpAny_execs_cons <| wpAny_Expr <| methL slot_list_append PySem.F.type_list_append rfl rfl rfl <| ldL hn₆ e2 ⟨n + 2, bv, rfl, hBs₆, with1 <| ldL hn₆ rfl <| appendL hBs₆ (by (first | lia | omega)) fun h₇ hBs₇ hs₇ => ?_⟩
      dsimp only at hBs₇ hs₇ ⊢
      have lF : ∀ {h : Heap} {a : Addr} {vs : List Value}, Lst h a vs → ∀ o ws, h.get? a = some o → o.data ≠ .fields ws := fun hl o ws e q => by
        obtain ⟨k, e'⟩ := hl
        rw [e] at e'; cases e'; cases q
      refine wpAny_execs_nil <| wpAny_execs_nil <| next _ _ ⟨rv.length - (i + 1), by (first | lia | omega), h₇, _, _, i + 1, kv ++ [.int (p : Int) t'], bv ++ [.int rest t₄], rfl, ?_, hn₆.sameBut hs₇ n2.symm, e1, e2, e3, hK₆.same hs₇ n12.symm, hBs₇, ?_, ?_, ?_, ?_, by simp; (first | lia | omega), by simp; (first | lia | omega), hlt', rfl⟩
      · exact ⟨(st₅.1.extBut hs₆.extBut (Nat.ne_of_gt (Nat.lt_trans (by (first | lia | omega)) hI))).extBut hs₇.extBut (Nat.ne_of_gt hI), (st₅.2.extBut hs₆.extBut (Nat.ne_of_lt (Nat.lt_succ_of_lt hRl))).extBut hs₇.extBut (Nat.ne_of_lt (Nat.lt_succ_of_lt (Nat.lt_succ_of_lt hRl)))⟩
      · rw [hstep]; exact Paired.snoc pK ⟨t', rfl⟩
      · rw [hstep]; exact Paired.snoc pB ⟨t₄, rfl⟩
      · exact fun c o e q => hs₇.extBut c o (Nat.ne_of_lt (Nat.lt_succ_of_lt (Nat.lt_succ_of_lt (nlt e)))) (hs₆.extBut c o (Nat.ne_of_lt (Nat.lt_succ_of_lt (nlt e))) (hx₅ c o e q))
      · exact (tab₅.same hs₆ (Nat.ne_of_gt (Nat.lt_succ_of_lt hbn)) (lF hK₅)).same hs₇ (Nat.ne_of_gt (Nat.lt_succ_of_lt (Nat.lt_succ_of_lt hbn))) (lF hBs₆)
  · have : i = rv.length := by (first | lia | omega)
    subst this
    refine W.done _ _ _ st fun h₁ tk₁ k₁ _ => wpAny_execs_nil ?_
    dsimp only at k₁ ⊢
    refine wpAny_execs_cons <| wpAny_Return_some <| ldL (ns_keep hn k₁ (nI (Nat.lt_trans (by (first | lia | omega)) hI))) e1 ?_
    rw [← hrl, List.take_length] at pK
    refine hQ _ _ _ kv (fun c o e q => k₁ c o (nI (Nat.lt_trans (nlt e) (Nat.lt_trans (by (first | lia | omega)) hI))) (hx c o e q)) ?_ (hK.keep k₁ (nI (Nat.lt_trans (by (first | lia | omega)) hI))) pK
    rw [hrl]
    exact tab.iter st.1 k₁ (Nat.lt_trans hbn (Nat.lt_trans (by (first | lia | omega)) hI))
end
end Mine

end
section
open PySem PySem.W PySem.W.X PyProof.Rows PySem.Calls
set_option Elab.async false
set_option maxRecDepth 100000
set_option maxHeartbeats 0
set_option linter.unusedVariables false
namespace Mine
noncomputable def thingD (N k b : Int) : Int × Int × Int :=
  (4096 * k + (N.fmod 16).fdiv 8 * 2 ^ (9 + b).toNat + (N.fmod 16).fmod 8 * 8 ^ b.toNat
    + (((N.fdiv 4800).fmod 64).fdiv 8 * 8 ^ ((b + 1).fmod 3).toNat + ((N.fdiv 4800).fmod 64).fmod 8 * 8 ^ ((b + 2).fmod 3).toNat),
   (N.fdiv 16).fmod 50, (N.fdiv 800).fmod 6 + 1)
theorem fdE (a : Int) (b : Nat) : a.fdiv (b : Int) = a / b := Int.fdiv_eq_ediv_of_nonneg _ (Int.natCast_nonneg _)
theorem fmE (a : Int) (b : Nat) : a.fmod (b : Int) = a % b := Int.fmod_eq_emod_of_nonneg _ (Int.natCast_nonneg _)
theorem small_of {a : Int} (h1 : -1000000000 < a) (h2 : a < 1000000000) : small a := ⟨by (first | lia | omega), by (first | lia | omega)⟩
theorem fm_bd (x : Int) (n : Nat) (h : 0 < n) : 0 ≤ x.fmod n ∧ x.fmod n < n := by rw [fmE]; exact ⟨Int.emod_nonneg _ (by (first | lia | omega)), Int.emod_lt_of_pos _ (by (first | lia | omega))⟩
theorem fd8_bd {x : Int} {m : Nat} (h : 0 ≤ x ∧ x < 8 * m) : 0 ≤ x.fdiv 8 ∧ x.fdiv 8 < m := by rw [show (8 : Int) = ((8 : Nat) : Int) from rfl, fdE]; (first | lia | omega)
theorem small_nn {a : Int} {m : Nat} (h : 0 ≤ a ∧ a < m) (hm : m ≤ 1000000 := by decide) : small a := small_of (by (first | lia | omega)) (by (first | lia | omega))
theorem div_ok (x y : Int) (h : y = 8 ∨ y = 16 ∨ y = 800 ∨ y = 4800) : Builtin.divisionGoesByPylong x y = false := by rcases h with rfl | rfl | rfl | rfl <;> exact PyProof.noPylong_of_log2 (by decide +kernel)
noncomputable abbrev thEnv (L : Addr) (cd : Value) : Env := envOf "_law_thing" (fnScope 34) L 119 cd
noncomputable def thS (i : Nat) : Stmt := (fnBody 34)[i]?.getD (.Pass ⟨0, 0, 0, 0⟩)
noncomputable def thE (i : Nat) : Expr := match thS i with | .Assign _ e _ => e | .AugAssign _ _ e _ => e | .Return (some e) _ => e | _ => .Name "" ⟨0, 0, 0, 0⟩
theorem le_many (a n : Nat) {b : Nat} (h : b = a + n) : a ≤ b := h ▸ Nat.le_add_right _ _
section
variable {w : World} {A : Around} {E : Value → Shared → Prop} {s : Shared}
theorem look_thing : FnLook w 119 := by unfold FnLook; kernel_rfl
theorem mode1 {L : Addr} {cd : Value} {l : List (Str × Value)} {k r b : Int} {t1 t2 t3 : Tok} {Q : Value → Shared → Prop} (hn : s.heap.Ns L (lk l)) (e1 : lk l "kind" = some (.int k t1)) (e2 : lk l "rights" = some (.int r t2)) (e3 : lk l "block" = some (.int b t3)) (hr : 0 ≤ r ∧ r < 16) (hb : b = 0 ∨ b = 1 ∨ b = 2)
    (hQ : ∀ t tk, s.toks ≤ tk → Q (.int (4096 * k + r.fdiv 8 * 2 ^ (9 + b).toNat + r.fmod 8 * 8 ^ b.toNat) t) { s with toks := tk }) : wpAny (MD w) A (eval (thE 1) (thEnv L cd)) Q E s := by
  have p1 : 0 ≤ 9 + b ∧ (Builtin.Int.intBits 2 : Int) * (9 + b) ≤ 2 ^ 27 := by rcases hb with rfl | rfl | rfl <;> decide +kernel
  have p2 : 0 ≤ b ∧ (Builtin.Int.intBits 8 : Int) * b ≤ 2 ^ 27 := by rcases hb with rfl | rfl | rfl <;> decide +kernel
  exact wpAny_BinOp <| wpAny_BinOp <| wpAny_BinOp <| wpAny_Constant_int <| ldL hn e1 <| mul_int (hm := IntMulOk.of_left (by decide +kernel)) <| wpAny_BinOp <| wpAny_BinOp <| ldL hn e2 <| wpAny_Constant_int <| floordiv_int (by decide) (hp := Or.inl (div_ok _ _ (.inl rfl))) <|
    wpAny_BinOp <| wpAny_Constant_int <| wpAny_BinOp <| wpAny_Constant_int <| ldL hn e3 <| add_int <| pow_int p1.1 p1.2 <| mul_int (hm := (small_nn (fd8_bd (m := 2) hr)).mul) <| add_int <| wpAny_BinOp <| wpAny_BinOp <| ldL hn e2 <| wpAny_Constant_int <| mod_int (by decide) <|
    wpAny_BinOp <| wpAny_Constant_int <| ldL hn e3 <| pow_int p2.1 p2.2 <| mul_int (hm := (small_nn (fm_bd r 8 (by decide))).mul) <| add_int (hQ _ _ (le_many _ 16 rfl))
theorem mode2 {L : Addr} {cd : Value} {l : List (Str × Value)} {o b : Int} {t2 t3 : Tok} {Q : Value → Shared → Prop} (hn : s.heap.Ns L (lk l)) (e2 : lk l "others" = some (.int o t2)) (e3 : lk l "block" = some (.int b t3)) (ho : 0 ≤ o ∧ o < 64) (hb : b = 0 ∨ b = 1 ∨ b = 2)
    (hQ : ∀ t tk, s.toks ≤ tk → Q (.int (o.fdiv 8 * 8 ^ ((b + 1).fmod 3).toNat + o.fmod 8 * 8 ^ ((b + 2).fmod 3).toNat) t) { s with toks := tk }) : wpAny (MD w) A (eval (thE 2) (thEnv L cd)) Q E s := by
  have p3 : 0 ≤ (b + 1).fmod 3 ∧ (Builtin.Int.intBits 8 : Int) * (b + 1).fmod 3 ≤ 2 ^ 27 := by rcases hb with rfl | rfl | rfl <;> decide +kernel
  have p4 : 0 ≤ (b + 2).fmod 3 ∧ (Builtin.Int.intBits 8 : Int) * (b + 2).fmod 3 ≤ 2 ^ 27 := by rcases hb with rfl | rfl | rfl <;> decide +kernel
  exact wpAny_BinOp <| wpAny_BinOp <| wpAny_BinOp <| ldL hn e2 <| wpAny_Constant_int <| floordiv_int (by decide) (hp := Or.inl (div_ok _ _ (.inl rfl))) <| wpAny_BinOp <| wpAny_Constant_int <|
    wpAny_BinOp <| wpAny_BinOp <| ldL hn e3 <| wpAny_Constant_int <| add_int <| wpAny_Constant_int <| mod_int (by decide) <| pow_int p3.1 p3.2 <| mul_int (hm := (small_nn (fd8_bd (m := 8) ho)).mul) <| wpAny_BinOp <| wpAny_BinOp <| ldL hn e2 <| wpAny_Constant_int <| mod_int (by decide) <|
    wpAny_BinOp <| wpAny_Constant_int <| wpAny_BinOp <| wpAny_BinOp <| ldL hn e3 <| wpAny_Constant_int <| add_int <| wpAny_Constant_int <| mod_int (by decide) <| pow_int p4.1 p4.2 <| mul_int (hm := (small_nn (fm_bd o 8 (by decide))).mul) <| add_int (hQ _ _ (le_many _ 19 rfl))
theorem mode3 {L : Addr} {cd : Value} {l : List (Str × Value)} {m N : Int} {t1 t2 : Tok} {Q : Value → Shared → Prop} (hn : s.heap.Ns L (lk l)) (e1 : lk l "mode" = some (.int m t1)) (e2 : lk l "number" = some (.int N t2))
    (hQ : ∀ h' tk t3 t4, s.toks ≤ tk → Ext s.heap h' → Tup h' s.heap.objs.size [.int m t1, .int ((N.fdiv 16).fmod 50) t3, .int ((N.fdiv 800).fmod 6 + 1) t4] → h'.objs.size = s.heap.objs.size + 1 → Q (.ref s.heap.objs.size) { s with heap := h', toks := tk }) : wpAny (MD w) A (eval (thE 3) (thEnv L cd)) Q E s :=
  Tuple_ <| args_cons <| ldL hn e1 <| args_cons <| wpAny_BinOp <| wpAny_BinOp <| ldL hn e2 <| wpAny_Constant_int <| floordiv_int (by decide) (hp := Or.inl (div_ok _ _ (.inr (.inl rfl)))) <| wpAny_Constant_int <| mod_int (by decide) <|
    args_cons <| wpAny_BinOp <| wpAny_BinOp <| wpAny_BinOp <| ldL hn e2 <| wpAny_Constant_int <| floordiv_int (by decide) (hp := Or.inl (div_ok _ _ (.inr (.inr (.inl rfl))))) <| wpAny_Constant_int <| mod_int (by decide) <| wpAny_Constant_int <| add_int <| args_nil <| newT fun h' hx ht hz => hQ h' _ _ _ (le_many _ 10 rfl) hx ht hz

theorem thing_spec {N k b : Int} {tn tk' tb : Tok} {Q : Value → Shared → Prop} (hB : Base w s.heap) (g : Good A 10) (hN : 0 ≤ N ∧ N < 1000000) (hk : 0 ≤ k ∧ k < 16) (hb : b = 0 ∨ b = 1 ∨ b = 2)
    (hQ : ∀ a h' tk, Ext s.heap h' → ThingAt h' a (thingD N k b) → s.heap.objs.size ≤ a → h'.objs.size = s.heap.objs.size + 6 → s.toks ≤ tk → Q (.ref a) { s with heap := h', toks := tk }) :
    wpAny (MD w) A (call (.ref 119) [.int N tn, .int k tk', .int b tb]) Q E s := by
  refine call_fn (binds := [("number", .int N tn), ("kind", .int k tk'), ("block", .int b tb)]) hB g (fn_thing hB) (fun _ _ _ => rfl) (locs rfl) (fun h₁ cd hn₁ hx₁ hz₁ g' => ?_) rfl rfl rfl (by decide)
  refine wpAny_execs_cons <| Assign_Tuple_swapped (names := ["rights", "others"]) <| Tuple_ <| args_cons <| wpAny_BinOp <| ldL hn₁ rfl <| wpAny_Constant_int <| mod_int (by decide) <| args_cons <| wpAny_BinOp <| wpAny_BinOp <| ldL hn₁ rfl <| wpAny_Constant_int <|
    floordiv_int (by decide) (hp := Or.inl (div_ok _ _ (.inr (.inr (.inr rfl))))) <| wpAny_Constant_int <| mod_int (by decide) <| args_nil <| newT fun h₂ hx₂ ht₂ hz₂ => ?_
  dsimp only at hx₂ ht₂ hz₂ ⊢
  refine unpackX g'.handled ht₂ rfl fun h₃ hx₃ hz₃ => ?_
  dsimp only at hx₃ hz₃ ⊢
  refine assignInOrder_cons <| bindName_ <| stL (ns_ext hn₁ (hx₂.trans hx₃)) fun h₄ hn₄ hs₄ => ?_
  dsimp only at hn₄ hs₄ ⊢
  refine assignInOrder_cons <| bindName_ <| stL hn₄ fun h₅ hn₅ hs₅ => assignInOrder_nil ?_
  dsimp only at hn₅ hs₅ ⊢
  have hLb : s.heap.objs.size ≤ s.heap.objs.size := Nat.le_refl _
  have hx₅ : Ext s.heap h₅ := (((hx₁.trans hx₂).trans hx₃).same hs₄ hLb).same hs₅ hLb
  have hz₅ : h₅.objs.size = s.heap.objs.size + 5 := by rw [hs₅.1, hs₄.1, hz₃, hz₂, hz₁]
  clear hn₁ hx₁ hz₁ hx₂ ht₂ hz₂ hx₃ hz₃ hn₄ hs₄ hs₅
  refine wpAny_execs_cons <| wpAny_Assign_Name <| mode1 (L := s.heap.objs.size) hn₅ rfl rfl rfl (fm_bd N 16 (by decide)) hb fun t₆ tk₆ ht₆ => stL hn₅ fun h₆ hn₆ hs₆ => ?_
  dsimp only at hn₆ hs₆ ⊢
  refine wpAny_execs_cons <| wpAny_AugAssign_Name <| wpAny_loadName_local rfl rfl hn₆ rfl <| mode2 (L := s.heap.objs.size) hn₆ rfl rfl (fm_bd _ 64 (by decide)) hb fun t₇ tk₇ ht₇ => iadd_int <| stL hn₆ fun h₇ hn₇ hs₇ => ?_
  dsimp only at hn₇ hs₇ ⊢
  refine wpAny_execs_cons <| wpAny_Return_some <| mode3 (L := s.heap.objs.size) hn₇ rfl rfl fun h₈ tk₈ t₈ t₉ ht₈ hx₈ htp hz₈ => ?_
  dsimp only at ht₆ ht₇ ht₈ hx₈ htp hz₈ ⊢
  refine hQ _ h₈ _ (((hx₅.same hs₆ hLb).same hs₇ hLb).trans hx₈) ⟨_, _, _, htp⟩ ?_ ?_ ?_
  · rw [hs₇.1, hs₆.1, hz₅]; exact Nat.le_add_right _ _
  · rw [hz₈, hs₇.1, hs₆.1, hz₅]
  · simp only [List.length_cons, List.length_nil] at ht₆; (first | lia | omega)
end
end Mine

end
section
open PySem PySem.W PySem.W.X PyProof.Rows PySem.Calls
set_option Elab.async false
set_option maxRecDepth 100000
set_option maxHeartbeats 0
set_option linter.unusedVariables false
namespace Mine
theorem Paired.at' {α β : Type} {F : α → β → Prop} : ∀ {l₁ : List α} {l₂ : List β} {i : Nat} {b : β}, Paired F l₁ l₂ → l₂[i]? = some b → ∃ a, l₁[i]? = some a ∧ F a b
  | _, _, 0, b, .cons h _, e => by cases e; exact ⟨_, rfl, h⟩
  | _, _, i + 1, b, .cons _ t, e => Paired.at' t (i := i) e
  | _, _, i, b, .nil, e => by cases e
section
variable {w : World} {A : Around} {R : Result → Shared → Prop} {I : Addr} {fp wr : List Addr} {n : Nat} {P : Heap → Nat → Value → Prop} {St : Nat → Heap → Prop}

theorem sumLoopX (W : Wk w A.in1 true I fp wr n P St) (val : Nat → Int) (hval : ∀ h i v, P h i v → ∃ t, v = .int (val i) t) (hfit : ∀ j, j < n → InLong (val j) ∧ InLong (preSum val (j + 1))) (S : Addr) (hSf : S ∉ fp) (z t0 : Nat) :
    ∀ (k i : Nat) (s : Shared) (tA : Tok) (c : Nat), n - i = k → i ≤ n → St i s.heap → s.heap.get? S = some { cls := .type "list", dict := none, data := .seq #[.int (preSum val i) tA] c, slots := #[] } → s.heap.objs.size = z → t0 ≤ s.toks →
    (∀ h' tk t', (∀ b o, b ∉ wr → b ≠ S → s.heap.get? b = some o → h'.get? b = some o) → h'.objs.size = z + 2 → t0 ≤ tk → R (.ok (.ret (.int (preSum val n) t'))) { s with heap := h', toks := tk }) →
    codeAny (MD w) A (.builtin "sum.loop" ⟨[.ref I, .ref S, rawInt 0, rawInt 0], []⟩) R s := by
  have hSw : S ∉ wr := fun h => hSf (W.sub _ h)
  intro k
  induction k with
  | zero =>
    intro i s tA c hk hi hst hS hz0 ht0 hR
    have hin : i = n := by (first | lia | omega)
    subst hin
    refine codeAny_builtin PySem.F.entry_sum_loop ?_
    rw [Around.under_plainId PySem.F.plain_sum_loop _]
    show wpAny _ A.in1 (seqItems? (.ref S) >>= _) _ _ s
    refine wpAny_bind (wpAny_seqItems hS rfl ?_)
    show wpAny _ A.in1 (tryCatch (pyNext (.ref I)) _ >>= _) _ _ s
    refine wpAny_bind (wpAny_tryCatch (W.done s _ _ hst fun h' tk hk' hz => ?_))
    have q := hz rfl
    exact wpAny_pure (hR h' tk tA (fun b o hbw _ e => hk' b o hbw e) (by (first | lia | omega)) (by (first | lia | omega)))
  | succ k ih =>
    intro i s tA c hk hi hst hS hz0 ht0 hR
    have hlt : i < n := by (first | lia | omega)
    refine codeAny_builtin PySem.F.entry_sum_loop ?_
    rw [Around.under_plainId PySem.F.plain_sum_loop _]
    show wpAny _ A.in1 (seqItems? (.ref S) >>= _) _ _ s
    refine wpAny_bind (wpAny_seqItems hS rfl ?_)
    show wpAny _ A.in1 (tryCatch (pyNext (.ref I)) _ >>= _) _ _ s
    refine wpAny_bind (wpAny_tryCatch (W.item i s _ _ hlt hst fun v h' tk hP hst' hk' hz => ?_))
    have q := hz rfl
    obtain ⟨t, rfl⟩ := hval _ i v hP
    have hS' := hk' S _ hSw hS
    obtain ⟨⟨f1, f2⟩, f3, f4⟩ := hfit i hlt
    have hc : ((decide (-(2 ^ 63) ≤ val i) && decide (val i < 2 ^ 63)) && (decide (-(2 ^ 63) ≤ preSum val i + val i) && decide (preSum val i + val i < 2 ^ 63))) = true := by
      simp only [preSum] at f3 f4
      simp only [Bool.and_eq_true, decide_eq_true_eq]
      exact ⟨⟨f1, f2⟩, f3, f4⟩
    show wpAny _ A.in1 (if (_ : Bool) = true then (mkInt (preSum val i + val i) >>= _) else _) _ _ _
    split
    · refine wpAny_bind (wpAny_mkInt ?_)
      show wpAny _ A.in1 (updateSeq S (fun _ => #[.int (preSum val i + val i) tk]) >>= _) _ _ _
      refine wpAny_bind ?_
      refine wpAny_updateSeq hS' rfl (wpAny_pure ⟨plainId_quiet PySem.F.plain_sum_loop _, ih (i + 1) _ tk _ (by (first | lia | omega)) hlt (W.frame _ _ _ hst' fun b hb o e => ?_) (Heap.get?_update_self _ hS' rfl) ?_ ?_ fun h'' tk'' t'' hk'' hz'' ht'' => ?_⟩)
      · exact (Heap.get?_update_other _ _ (fun h : S = b => hSf (by rw [h]; exact hb))).trans e
      · dsimp only; rw [(Heap.SameBut.update ..).1]; (first | lia | omega)
      · dsimp only; (first | lia | omega)
      · exact hR h'' tk'' t'' (fun b o hbw hbS e => hk'' b o hbw hbS ((Heap.get?_update_other _ _ (Ne.symm hbS)).trans (hk' b o hbw e))) hz'' ht''
    · rename_i hneg
      exact absurd hc hneg
end

section
variable {w : World} {A : Around} {E : Value → Shared → Prop} {s : Shared}
theorem sumX {l : Addr} {vs : List Value} {ns : List Int} {Q : Value → Shared → Prop} (hh : A.handled = none) (hl : Lst s.heap l vs) (hv : Paired (fun (n : Int) v => ∃ t, v = .int n t) ns vs)
    (hfit : ∀ j, j < ns.length → InLong (ns.getD j 0) ∧ InLong (preSum (fun i => ns.getD i 0) (j + 1)))
    (hQ : ∀ h' tk t', Ext s.heap h' → h'.objs.size = s.heap.objs.size + 4 → s.toks ≤ tk → Q (.int (preSum (fun i => ns.getD i 0) ns.length) t') { s with heap := h', toks := tk }) :
    wpAny (MD w) A (call (.builtin "sum") [.ref l]) Q E s := by
  refine call_function_tree PySem.F.kind_sum PySem.F.plain_sum PySem.F.entry_sum (PySem.F.args_sum1 _) ?_
  unfold Builtin.«sum»
  simp only [List.length_cons, List.length_nil]
  rw [if_neg (by decide)]
  refine wpAny_bind (wpAny_of_eq (show Builtin.Builtins.bindParams "sum" ["start"] 0 { } = pure [none] from rfl) ?_)
  refine wpAny_bind (iterL hl fun h₂ hx₂ hi₂ hz₂ => ?_)
  dsimp only at hx₂ hi₂ hz₂ ⊢
  refine wpAny_bind (wpAny_mkInt ?_)
  refine wpAny_bind (wpAny_pure ?_)
  simp only [List.forIn_cons, List.forIn_nil]
  refine wpAny_bind (wpAny_bind (wpAny_bind (wpAny_isInstance (T := "int") (b := false) (typeIs_int _ _ _) PySem.sub_int_str ?_)))
  simp only [Bool.false_eq_true, if_false]
  refine wpAny_pure (wpAny_bind (wpAny_bind (wpAny_isInstance (T := "int") (b := false) (typeIs_int _ _ _) PySem.sub_int_bytes ?_)))
  simp only [Bool.false_eq_true, if_false]
  refine wpAny_pure (wpAny_bind (wpAny_bind (wpAny_isInstance (T := "int") (b := false) (typeIs_int _ _ _) PySem.sub_int_bytearray ?_)))
  simp only [Bool.false_eq_true, if_false]
  refine wpAny_pure (wpAny_pure ?_)
  refine wpAny_bind (wpAny_newObj_type ?_)
  have hlt : l < s.heap.objs.size := hl.lt
  have hlen : ns.length = vs.length := hv.length
  have hSf : h₂.objs.size ∉ [s.heap.objs.size, l] := fun hm => Nat.lt_irrefl _ (lw_below hlt hz₂ _ hm)
  rw [hlen] at hfit hQ
  refine wpAny_pure ⟨plainId_quiet PySem.F.plain_sum_loop _, sumLoopX (Wk.list true (show A.in1.handled = none from hh) s.heap.objs.size l (Nat.ne_of_lt hlt) vs) (fun i => ns.getD i 0) ?_ hfit h₂.objs.size hSf (h₂.objs.size + 1) s.toks vs.length 0 _ s.toks 0 rfl (Nat.zero_le _)
    ⟨hi₂.at fun o e => Heap.get?_push_of_some _ e, (hl.ext hx₂).isList.at fun o e => Heap.get?_push_of_some _ e⟩ (Heap.get?_push_size _ rfl) (Heap.size_push ..) (Nat.le_succ _) fun h' tk t' hk hz ht => ?_⟩
  · intro h i v hP
    obtain ⟨a, e, t, rfl⟩ := Mine.Paired.at' hv (show vs[i]? = some v from hP)
    exact ⟨t, by rw [List.getD_eq_getElem?_getD, e]; rfl⟩
  · refine hQ h' tk t' (fun b o e => hk b o ?_ (Nat.ne_of_lt (Nat.lt_of_lt_of_le (Heap.lt_size e) (by rw [hz₂]; exact Nat.le_succ _))) (Heap.get?_push_of_some _ (hx₂ b o e))) (by rw [hz, hz₂]) ht
    exact fun q => absurd (List.mem_singleton.mp q) (Nat.ne_of_lt (Heap.lt_size e))
end
end Mine

end
section
open PySem PySem.W PySem.W.X PyProof.Rows PySem.Calls
set_option Elab.async false
set_option maxRecDepth 100000
set_option maxHeartbeats 0
set_option linter.unusedVariables false
namespace Mine
noncomputable def numsL (xs : List Int) : List Int := (xs.take 6).map (fun x => x.fmod 1000000) ++ [101797, 192147, 45206, 280920, 15277, 227217]
noncomputable def cellsL (xs : List Int) : List Int := (numsL xs).take 6
theorem cellsL_len (xs : List Int) : (cellsL xs).length = 6 := by unfold cellsL numsL; simp
abbrev IntW (n : Int) (v : Value) : Prop := ∃ t, v = .int n t
noncomputable abbrev lawEnv (cd : Value) : Env := envC "law" (fnScope 40) 155 153 cd (cellsFrom (155 + 1) (fnScope 40).names [])
noncomputable def lawS (i : Nat) : Stmt := (fnBody 40)[i]?.getD (.Pass ⟨0, 0, 0, 0⟩)

theorem Paired.take {α β : Type} {F : α → β → Prop} {l₁ : List α} {l₂ : List β} (h : Paired F l₁ l₂) : ∀ n, Paired F (l₁.take n) (l₂.take n) := by
  induction h with
  | nil => intro n; simp; exact .nil
  | cons a _ ih => intro n; cases n with | zero => exact .nil | succ n => exact .cons a (ih n)
theorem Paired.append {α β : Type} {F : α → β → Prop} {l₁ l₁' : List α} {l₂ l₂' : List β} (h : Paired F l₁ l₂) (h' : Paired F l₁' l₂') : Paired F (l₁ ++ l₁') (l₂ ++ l₂') := by
  induction h with
  | nil => exact h'
  | cons a _ ih => exact .cons a ih
theorem paired_range {F : Nat → Value → Prop} {G : Int → Value → Prop} {ns : List Int} {f : Int → Int} {n : Nat} {ys : List Value} (hn : ns.length = n) (h : Paired F ((List.range n).filter fun _ => true) ys) (hF : ∀ i y, i < n → F i y → G (f (ns.getD i 0)) y) :
    Paired G (ns.map f) ys := by
  have e : (List.range n).filter (fun _ => true) = List.range n := by simp
  rw [e] at h
  have key : ∀ (l : List Nat) (ys : List Value), Paired F l ys → (∀ i ∈ l, i < n) → Paired G (l.map fun i => f (ns.getD i 0)) ys := by
    intro l ys h
    induction h with
    | nil => intro _; exact .nil
    | cons a _ ih => intro hl; exact .cons (hF _ _ (hl _ (.head _)) a) (ih fun i hi => hl i (.tail _ hi))
  have := key _ _ h (fun i hi => List.mem_range.mp hi)
  have e2 : (List.range n).map (fun i => f (ns.getD i 0)) = ns.map f := by
    subst hn
    apply List.ext_getElem
    · simp
    · intro i h1 h2
      simp only [List.getElem_map, List.getElem_range]
      rw [List.getD_eq_getElem?_getD, List.getElem?_eq_getElem (by simpa using h2)]
      rfl
  rw [e2] at this
  exact this

section
variable {w : World} {A : Around} {E : Value → Shared → Prop} {s : Shared}
theorem addL {l b : Addr} {vs ws : List Value} {Q : Value → Shared → Prop} (hl : Lst s.heap l vs) (hb : Lst s.heap b ws) (hsz : vs.length + ws.length ≤ 1000)
    (hQ : ∀ h', Ext s.heap h' → Lst h' s.heap.objs.size (vs ++ ws) → h'.objs.size = s.heap.objs.size + 1 → Q (.ref s.heap.objs.size) { s with heap := h' }) : wpAny (MD w) A (binaryOp .Add (.ref l) (.ref b)) Q E s := by
  obtain ⟨na, hna⟩ := hl
  obtain ⟨nb, hnb⟩ := hb
  refine PySem.P.add_list hna hnb ?_ (by simp [sizeLine]; (first | lia | omega))
  have h := Lst.new s.heap (vs ++ ws) 0
  have e : vs.toArray ++ ws.toArray = (vs ++ ws).toArray := by simp
  rw [e]
  exact hQ _ (fun b o e => Heap.get?_push_of_some _ e) h (Heap.size_push ..)
theorem numbers_spec {cd : Value} {xs : List Int} {sv : List Value} {l : List (Str × Value)} {Q : Flow → Shared → Prop} (hB : Base w s.heap) (g : Good A 200) (hsz : 156 ≤ s.heap.objs.size) (hn : s.heap.Ns 155 (lk [("script", .ref 154)])) (hS : Lst s.heap 154 sv) (hx : Paired IntW xs sv) (hlen : sv.length ≤ 1000)
    (hQ : ∀ h' tk N nv, KeepOut [155] s.heap h' → h'.Ns 155 (lk [("numbers", .ref N), ("script", .ref 154)]) → Lst h' N nv → Paired IntW (numsL xs) nv → h'.objs.size = s.heap.objs.size + 9 → s.toks ≤ tk → Q .next { s with heap := h', toks := tk }) :
    wpAny (MD w) A (exec (lawS 0) (lawEnv cd)) Q E s := by
  refine wpAny_Assign_Name <| wpAny_BinOp <| lcomp (cl := []) rfl (by decide) rfl (by decide) <| sliceTo <| ldE hn rfl <| wpAny_Constant_int ⟨154, sv, 6, _, rfl, hS, hlen, rfl, fun h₁ hx₁ hl₁ hz₁ => ?_⟩
  dsimp only at hx₁ hl₁ hz₁ ⊢
  refine iterL hl₁ fun h₂ hx₂ hi₂ hz₂ => ?_
  dsimp only at hx₂ hi₂ hz₂ ⊢
  have hl₂ := hl₁.ext hx₂
  have hTlt := hl₁.lt
  have hxl : (xs.take 6).length = (sv.take 6).length := (Paired.take hx 6).length
  generalize hX : s.heap.objs.size + 1 = X at *
  have W : Wk w A true h₁.objs.size [h₁.objs.size, X] [h₁.objs.size] (sv.take 6).length _ _ := Wk.list (w := w) (A := A) true g.handled h₁.objs.size X (Nat.ne_of_lt hTlt) (sv.take 6)
  refine ⟨true, h₁.objs.size, [h₁.objs.size, X], [h₁.objs.size], (sv.take 6).length, _, _, fun _ => true, fun _ _ i y => ∃ t, y = .int (((xs.take 6).getD i 0).fmod 1000000) t, fun i l => ∃ t, lk l "cell" = some (.int ((xs.take 6).getD i 0) t), fun _ _ => True, 0, rfl,
    { walk := W, few := by simp; (first | lia | omega), st := ⟨hi₂, hl₂.isList⟩, below := lw_below hTlt hz₂, asg := ?_, tests := fun _ _ _ _ _ _ _ _ => noTests, elt := ?_, stab := fun _ _ _ _ h _ => h }, fun ys h₅ tk₅ hdone => ?_⟩
  · intro i v s' l Q E' hi hP hk hn st hQ
    obtain ⟨a, e, t, rfl⟩ := Mine.Paired.at' (Paired.take hx 6) (show (sv.take 6)[i]? = some v from hP)
    refine asgName (B := fun l => ∃ t, lk l "cell" = some (.int ((xs.take 6).getD i 0) t)) W (lw_C hTlt hz₂) rfl rfl hn st ⟨t, ?_⟩ hQ
    show some _ = some _
    rw [List.getD_eq_getElem?_getD, e]; rfl
  · rintro i s' l E' hi _ ⟨t, hv⟩ hn' hk _
    have hB' : Base w s'.heap := base_keep (hx₂.base (hx₁.base hB)) hk (by
      intro b hb
      dsimp only at hb
      simp only [List.mem_cons, List.not_mem_nil, or_false] at hb
      have z1 : 154 ≤ h₁.objs.size := by (first | lia | omega)
      rcases hb with q | q | q
      · rw [q, hz₂]; exact Nat.le_trans z1 (Nat.le_succ _)
      · rw [q, hz₂]; exact Nat.le_trans z1 (Nat.le_trans (Nat.le_succ _) (Nat.le_succ _))
      · rw [q]; exact z1)
    refine wpAny_BinOp <| Call_Name1 <| ldBE hB' (by kernel_rfl) (v := .type "int") (by kernel_rfl) <| PySem.callWith_type1 <| ldE (l := l) hn' hv <| call_int_int <| wpAny_BinOp <| wpAny_Constant_int <| wpAny_Constant_int <| pow_int (by decide) (by decide +kernel) <| mod_int (by decide) ?_
    exact ⟨s'.heap, _, rfl, Ext.refl _, ⟨_, rfl⟩, fun _ _ _ _ => trivial, fun _ => ⟨rfl, by dsimp only; (first | lia | omega)⟩⟩
  · obtain ⟨hl₅, hF₅, _, hk₅, hz₅⟩ := hdone
    dsimp only at hl₅ hF₅ hk₅ hz₅ ⊢
    have hz₅' := hz₅ rfl
    have hpair : Paired IntW ((xs.take 6).map fun x => x.fmod 1000000) ys := paired_range (f := fun x => x.fmod 1000000) hxl hF₅ fun i y _ h => h
    have kk : Ext s.heap h₅ := fun b o e => hk₅ b o (fun q => absurd (List.mem_singleton.mp q) (lt_ne e (by (first | lia | omega)))) (hx₂ b o (hx₁ b o e))
    have hB₅ := kk.base hB
    have hyl : ys.length ≤ 6 := by have := hpair.length; simp at this; (first | lia | omega)
    refine List_ <| args_cons <| wpAny_Constant_int <| args_cons <| wpAny_Constant_int <| args_cons <| wpAny_Constant_int <| args_cons <| wpAny_Constant_int <| args_cons <| wpAny_Constant_int <| args_cons <| wpAny_Constant_int <| args_nil <| newL fun h₆ hx₆ hl₆ hz₆ => ?_
    dsimp only at hx₆ hl₆ hz₆ ⊢
    refine addL (hl₅.ext hx₆) hl₆ (by simp; (first | lia | omega)) fun h₇ hx₇ hl₇ hz₇ => ?_
    dsimp only at hx₇ hl₇ hz₇ ⊢
    have kk₇ := (kk.trans hx₆).trans hx₇
    refine stE (l := [("script", .ref 154)]) (ns_ext hn kk₇) fun h₈ hn₈ hs₈ => ?_
    replace hs₈ : Heap.SameBut 155 h₇ h₈ := hs₈
    have hN155 : h₆.objs.size ≠ 155 := ne_of (by (first | lia | omega))
    refine hQ h₈ _ h₆.objs.size _ ((KeepOut.ext kk₇ _).trans (KeepOut.same hs₈ (by simp))) hn₈ (hl₇.same hs₈ hN155) ?_ ?_ ?_
    · exact Paired.append hpair (.cons ⟨_, rfl⟩ (.cons ⟨_, rfl⟩ (.cons ⟨_, rfl⟩ (.cons ⟨_, rfl⟩ (.cons ⟨_, rfl⟩ (.cons ⟨_, rfl⟩ .nil))))))
    · rw [hs₈.1]; (first | lia | omega)
    · dsimp only; (first | lia | omega)
end
end Mine

end
section
open PySem PySem.W PySem.W.X PyProof.Rows PySem.Calls
set_option Elab.async false
set_option maxRecDepth 100000
set_option maxHeartbeats 0
set_option linter.unusedVariables false
namespace Mine
noncomputable def sumL (xs : List Int) : Int := preSum (fun i => (cellsL xs).getD i 0) 6
noncomputable def blockL (xs : List Int) : Int := (sumL xs).fmod 3
noncomputable def kindL (xs : List Int) : Int := ((sumL xs).fdiv 3).fmod 16
theorem cellsL_bd (xs : List Int) : ∀ i, i < 6 → 0 ≤ (cellsL xs).getD i 0 ∧ (cellsL xs).getD i 0 < 1000000 := by
  have h : ∀ x ∈ cellsL xs, 0 ≤ x ∧ x < 1000000 := by
    intro x hx
    unfold cellsL numsL at hx
    rcases List.mem_append.mp (List.mem_of_mem_take hx) with h | h
    · obtain ⟨y, _, rfl⟩ := List.mem_map.mp h
      rw [show (1000000 : Int) = ((1000000 : Nat) : Int) from rfl, fmE]
      (first | lia | omega)
    · simp only [List.mem_cons, List.not_mem_nil, or_false] at h
      rcases h with rfl | rfl | rfl | rfl | rfl | rfl <;> decide
  intro i hi
  have hl := cellsL_len xs
  rw [List.getD_eq_getElem?_getD, List.getElem?_eq_getElem (by (first | lia | omega))]
  exact h _ (List.getElem_mem _)
theorem preSum_bd (xs : List Int) : ∀ j, j ≤ 6 → 0 ≤ preSum (fun i => (cellsL xs).getD i 0) j ∧ preSum (fun i => (cellsL xs).getD i 0) j ≤ 1000000 * j
  | 0, _ => by simp [preSum]
  | j + 1, h => by
    have a := preSum_bd xs j (by (first | lia | omega))
    have b := cellsL_bd xs j (by (first | lia | omega))
    simp only [preSum]
    push_cast
    (first | lia | omega)
theorem sum_fits (xs : List Int) : ∀ j, j < (cellsL xs).length → InLong ((cellsL xs).getD j 0) ∧ InLong (preSum (fun i => (cellsL xs).getD i 0) (j + 1)) := by
  intro j hj
  rw [cellsL_len] at hj
  have a := preSum_bd xs (j + 1) (by (first | lia | omega))
  have b := cellsL_bd xs j hj
  push_cast at a
  unfold InLong
  constructor <;> constructor <;> (first | lia | omega)
theorem block_ok (xs : List Int) : blockL xs = 0 ∨ blockL xs = 1 ∨ blockL xs = 2 := by
  unfold blockL
  rw [show (3 : Int) = ((3 : Nat) : Int) from rfl, fmE]; (first | lia | omega)
theorem kind_ok (xs : List Int) : 0 ≤ kindL xs ∧ kindL xs < 16 := by
  unfold kindL
  rw [show (16 : Int) = ((16 : Nat) : Int) from rfl, fmE]; (first | lia | omega)

section
variable {w : World} {A : Around} {E : Value → Shared → Prop} {s : Shared}
theorem mid_spec {cd : Value} {xs : List Int} {N : Addr} {nv : List Value} {Q : Flow → Shared → Prop} (hB : Base w s.heap) (g : Good A 200) (hsz : 160 ≤ s.heap.objs.size) (hn : s.heap.Ns 155 (lk [("numbers", .ref N), ("script", .ref 154)]))
    (hN : Lst s.heap N nv) (hx : Paired IntW (numsL xs) nv) (c1 : s.heap.IsCell 156 none) (c2 : s.heap.IsCell 157 none)
    (hQ : ∀ h' tk C cv tb tk', KeepOut [155, 156, 157] s.heap h' → h'.Ns 155 (lk [("cells", .ref C), ("numbers", .ref N), ("script", .ref 154)]) → Lst h' C cv → Paired IntW (cellsL xs) cv → h'.IsCell 156 (some (.int (blockL xs) tb)) → h'.IsCell 157 (some (.int (kindL xs) tk')) →
      h'.objs.size = s.heap.objs.size + 14 → s.toks ≤ tk → Q .next { s with heap := h', toks := tk }) :
    wpAny (MD w) A (execs [lawS 1, lawS 2] (lawEnv cd)) Q E s := by
  refine wpAny_execs_cons <| wpAny_Assign_Name <| sliceTo <| ldE hn rfl <| wpAny_Constant_int ⟨N, nv, 6, _, rfl, hN, by have := hx.length; unfold numsL at this; simp at this; (first | lia | omega), rfl, fun h₁ hx₁ hl₁ hz₁ => ?_⟩
  dsimp only at hx₁ hl₁ hz₁ ⊢
  refine stE (ns_ext hn hx₁) fun h₂ hn₂ hs₂ => ?_
  replace hs₂ : Heap.SameBut 155 h₁ h₂ := hs₂
  have hC155 : s.heap.objs.size + 1 ≠ 155 := ne_of (by (first | lia | omega))
  have hl₂ := hl₁.same hs₂ hC155
  generalize hC : s.heap.objs.size + 1 = C at *
  have hp : Paired IntW (cellsL xs) (nv.take 6) := Paired.take hx 6
  have hB₂ : Base w h₂ := base_keep (hx₁.base hB) (KeepOut.same hs₂ (List.mem_singleton.mpr rfl)) (by decide)
  have c1₂ := (c1.keeps hx₁).sameBut hs₂ (by decide)
  have c2₂ := (c2.keeps hx₁).sameBut hs₂ (by decide)
  have hlen : (cellsL xs).length = 6 := cellsL_len xs
  refine wpAny_execs_cons <| Assign_Tuple <| Tuple_ <| args_cons <| wpAny_BinOp <| Call_Name1 <| ldBE hB₂ (by kernel_rfl) (v := .builtin "sum") (by kernel_rfl) <| callWith_builtin1 <| ldE hn₂ rfl <| sumX g.handled hl₂ hp (sum_fits xs) fun h₃ tk₃ t₃ hx₃ hz₃ ht₃ => ?_
  dsimp only at hx₃ hz₃ ht₃ ⊢
  rw [hlen]
  refine wpAny_Constant_int <| mod_int (by decide) <| args_cons <| wpAny_BinOp <| wpAny_BinOp <| Call_Name1 <| ldBE (hx₃.base hB₂) (by kernel_rfl) (v := .builtin "sum") (by kernel_rfl) <| callWith_builtin1 <| ldE (ns_ext hn₂ hx₃) rfl <| sumX g.handled (hl₂.ext hx₃) hp (sum_fits xs) fun h₄ tk₄ t₄ hx₄ hz₄ ht₄ => ?_
  dsimp only at hx₄ hz₄ ht₄ ⊢
  rw [hlen]
  refine wpAny_Constant_int <| floordiv_int (by decide) (hp := Or.inl (PyProof.noPylong_of_log2 (by decide +kernel))) <| wpAny_Constant_int <| mod_int (by decide) <| args_nil <| newT fun h₅ hx₅ ht₅ hz₅ => ?_
  dsimp only at hx₅ ht₅ hz₅ ⊢
  refine assignTup g.handled ht₅ rfl rfl fun h₆ hx₆ hz₆ => ?_
  dsimp only at hx₆ hz₆ ⊢
  have hx₆' : Ext h₂ h₆ := ((hx₃.trans hx₄).trans hx₅).trans hx₆
  refine assignInOrder_cons <| assign_Name <| stCell (c := 156) (c1₂.keeps hx₆') fun h₇ c1₇ hs₇ => ?_
  dsimp only at hs₇ ⊢
  refine assignInOrder_cons <| assign_Name <| stCell (c := 157) ((c2₂.keeps hx₆').sameBut hs₇ (by decide)) fun h₈ c2₈ hs₈ => assignInOrder_nil ?_
  dsimp only at hs₈ ⊢
  have C156 : C ≠ 156 := ne_of (by (first | lia | omega))
  have C157 : C ≠ 157 := ne_of (by (first | lia | omega))
  refine wpAny_execs_nil <| hQ h₈ _ C (nv.take 6) _ _ ?_ ?_ ?_ hp (c1₇.sameBut hs₈ (by decide)) c2₈ ?_ ?_
  · exact ((KeepOut.ext hx₁ _).trans (KeepOut.same hs₂ (by simp))).trans ((KeepOut.ext hx₆' _).trans ((KeepOut.same hs₇ (by simp)).trans (KeepOut.same hs₈ (by simp))))
  · exact ((ns_ext hn₂ hx₆').sameBut hs₇ (show (155 : Nat) ≠ 156 by decide)).sameBut hs₈ (show (155 : Nat) ≠ 157 by decide)
  · exact ((hl₂.ext hx₆').same hs₇ C156).same hs₈ C157
  · rw [hs₈.1, hs₇.1, hz₆, hz₅, hz₄, hz₃, hs₂.1, hz₁]
  · (first | lia | omega)
end
end Mine

end
section
open PySem PySem.W PySem.W.X PyProof.Rows PySem.Calls
set_option Elab.async false
set_option maxRecDepth 100000
set_option maxHeartbeats 0
set_option linter.unusedVariables false
namespace Mine
noncomputable def DL (xs : List Int) (i : Nat) : Int × Int × Int := thingD ((cellsL xs).getD i 0) (kindL xs) (blockL xs)
def thF (xs : List Int) (lo : Nat) (tri : List Addr) (h : Heap) (i : Nat) (y : Value) : Prop := ∃ a, y = .ref a ∧ a ∉ tri ∧ lo ≤ a ∧ ThingAt h a (DL xs i)
section
variable {w : World} {A : Around} {E : Value → Shared → Prop} {s : Shared}
theorem things_spec {cd : Value} {xs : List Int} {C : Addr} {cv : List Value} {l : List (Str × Value)} {tb tk' : Tok} {Q : Flow → Shared → Prop} (hB : Base w s.heap) (g : Good A 200) (hsz : 160 ≤ s.heap.objs.size) (hn : s.heap.Ns 155 (lk l)) (hl : lk l "cells" = some (.ref C))
    (hC : Lst s.heap C cv) (hp : Paired IntW (cellsL xs) cv) (c1 : s.heap.IsCell 156 (some (.int (blockL xs) tb))) (c2 : s.heap.IsCell 157 (some (.int (kindL xs) tk')))
    (hQ : ∀ h' tk T (th : Nat → Addr), KeepOut [155] s.heap h' → h'.Ns 155 (lk (("things", .ref T) :: l)) → Lst h' T (six fun i => .ref (th i)) → (∀ i, i < 6 → ThingAt h' (th i) (DL xs i)) → (∀ i, i < 6 → (154 : Nat) ≤ th i) → (154 : Nat) ≤ T →
      h'.objs.size = s.heap.objs.size + 41 → s.toks ≤ tk → Q .next { s with heap := h', toks := tk }) :
    wpAny (MD w) A (exec (lawS 3) (lawEnv cd)) Q E s := by
  have hlen : (cellsL xs).length = 6 := cellsL_len xs
  have hcv : cv.length = 6 := by rw [← hp.length]; exact hlen
  refine lcompA (l := l) (cl := [("kind", 157), ("block", 156)]) rfl rfl (by decide) rfl (by decide) rfl rfl <| ldE hn hl <| iterL hC fun h₂ hx₂ hi₂ hz₂ => ?_
  have hTlt := hC.lt
  have hC₂ := hC.ext hx₂
  have W : Wk w A true s.heap.objs.size [s.heap.objs.size, C] [s.heap.objs.size] 6 _ _ := hcv ▸ Wk.list (w := w) (A := A) true g.handled s.heap.objs.size C (Nat.ne_of_lt hTlt) cv
  refine ⟨true, s.heap.objs.size, [s.heap.objs.size, C], [s.heap.objs.size], 6, _, _, fun _ => true, thF xs s.heap.objs.size, fun i l => ∃ t, lk l "cell" = some (.int ((cellsL xs).getD i 0) t), fun _ _ => True, 6, rfl,
    { walk := W, few := by decide, st := ⟨hi₂, hC₂.isList⟩, below := lw_below hTlt hz₂, asg := ?_, tests := fun _ _ _ _ _ _ _ _ => noTests, elt := ?_, stab := ?_ }, ?_, ns_ext hn hx₂, ?_, fun ys h₅ tk₅ hdone hn₅ => ?_⟩
  · intro i v s' l Q E' hi hP hk hn st hQ
    obtain ⟨a, e, t, rfl⟩ := Mine.Paired.at' hp (show cv[i]? = some v from hP)
    refine asgName (B := fun l => ∃ t, lk l "cell" = some (.int ((cellsL xs).getD i 0) t)) W (lw_C hTlt hz₂) rfl rfl hn st ⟨t, ?_⟩ hQ
    show some _ = some _
    rw [List.getD_eq_getElem?_getD, e]; rfl
  · rintro i s' l' E' hi _ ⟨t, hv⟩ hn' hk hal
    have hx' : Ext s.heap s'.heap := fun b o e => hk b o (by
      intro hm
      have hb := Heap.lt_size e
      dsimp only at hm
      rw [hz₂] at hm
      simp only [List.mem_cons, List.not_mem_nil, or_false] at hm
      rcases hm with q | q | q
      · exact absurd q (Nat.ne_of_lt (Nat.lt_succ_of_lt hb))
      · exact absurd q (Nat.ne_of_lt (Nat.lt_succ_of_lt (Nat.lt_succ_of_lt hb)))
      · exact absurd q (Nat.ne_of_lt hb)) (hx₂ b o e)
    have hB' := hx'.base hB
    refine Call_Name3 <| ldGE hB' (v := .ref 119) (by kernel_rfl) <| call3 look_thing <| ldE (l := l') hn' hv <| ldC (c := 157) (c2.keeps hx') <| ldC (c := 156) (c1.keeps hx') ⟨hB', ?_⟩
    refine thing_spec hB' (g.less (by (first | lia | omega))) (cellsL_bd xs i hi) (kind_ok xs) (block_ok xs) fun a h' tk hx'' hth hge hz' ht' => ?_
    refine ⟨h', tk, rfl, hx'', ⟨a, rfl, ?_, ?_, hth⟩, fun _ _ _ _ => trivial, fun _ => ⟨hz', ht'⟩⟩
    · intro hm
      obtain ⟨o, e⟩ := hal a hm
      rw [fresh_size _ _ hge] at e; cases e
    · obtain ⟨o, e⟩ := hal h₂.objs.size (.head _)
      exact Nat.le_trans (Nat.le_of_lt (Nat.lt_of_le_of_lt (by rw [hz₂]; exact Nat.le_succ _) (Heap.lt_size e))) hge
  · rintro i y h h' ⟨a, rfl, e1, e2, e3⟩ hk
    exact ⟨a, rfl, e1, e2, e3.keep hk e1⟩
  · exact fun hm => absurd (List.mem_singleton.mp hm) (show (155 : Nat) ≠ s.heap.objs.size from ne_of (by (first | lia | omega)))
  · rintro i y h h' ⟨a, rfl, e1, e2, e3⟩ hs
    replace hs : Heap.SameBut 155 h h' := hs
    exact ⟨a, rfl, e1, e2, e3.keep (KeepOut.same hs (List.mem_singleton.mpr rfl)) (fun q => absurd (List.mem_singleton.mp q) (ne_of (Or.inr (Nat.lt_of_lt_of_le (show 155 < s.heap.objs.size by (first | lia | omega)) e2))))⟩
  · obtain ⟨hl₅, hF₅, _, hk₅, hz₅⟩ := hdone
    dsimp only at hl₅ hF₅ hk₅ hz₅ hn₅ ⊢
    have hz₅' := hz₅ rfl
    obtain ⟨f, rfl, hf⟩ := six_paired hF₅
    obtain ⟨th, hth, hfe⟩ : ∃ th : Nat → Addr, (∀ i, i < 6 → ThingAt h₅ (th i) (DL xs i) ∧ s.heap.objs.size ≤ th i) ∧ ∀ i, i < 6 → f i = .ref (th i) := by
      refine ⟨fun i => match f i with | .ref a => a | _ => 0, fun i hi => ?_, fun i hi => ?_⟩
      · obtain ⟨a, e, _, e2, e3⟩ := hf i hi; simp only [e]; exact ⟨e3, e2⟩
      · obtain ⟨a, e, _⟩ := hf i hi; simp only [e]
    have hys : six f = six fun i => .ref (th i) := by simp only [six, hfe 0 (by decide), hfe 1 (by decide), hfe 2 (by decide), hfe 3 (by decide), hfe 4 (by decide), hfe 5 (by decide)]
    have hyl : (six f).length = 6 := rfl
    rw [hys] at hl₅
    refine hQ h₅ tk₅ h₂.objs.size th ?_ hn₅ hl₅ (fun i hi => (hth i hi).1) (fun i hi => by have := (hth i hi).2; (first | lia | omega)) (by (first | lia | omega)) ?_ hz₅'.2
    · intro b o hb e
      refine hk₅ b o ?_ (hx₂ b o e)
      intro hm
      rcases List.mem_cons.mp hm with q | hm
      · exact hb (by rw [q]; exact List.mem_singleton.mpr rfl)
      · exact absurd (List.mem_singleton.mp hm) (lt_ne e (Nat.le_refl _))
    · rw [hyl] at hz₅'; (first | lia | omega)
end
end Mine

end
section
open PySem PySem.W PySem.W.X PyProof.Rows PySem.Calls
set_option Elab.async false
set_option maxRecDepth 100000
set_option maxHeartbeats 0
set_option linter.unusedVariables false
namespace Mine
def EnumNew (h₀ h : Heap) (a : Addr) : Prop := ∃ it, IsEnum h a it 0 .none ∧ IsTupIter h it 105 0 ∧ h₀.get? a = none ∧ h₀.get? it = none ∧ a ≠ it
theorem meets_enum_tup (t : Addr) (items : Array Value) (n : Nat) :
    Meets (Builtin.«enumerate.__new__» ⟨[.type "enumerate", .ref t], []⟩) (fun _ R s => s.heap.get? t = some { cls := .type "tuple", dict := none, data := .seq items n, slots := #[] } ∧
      R (.ok (.ret (.ref (s.heap.push { cls := .type "tuple_iterator", data := .fields #[.ref t, .int 0 0] }).objs.size)))
        { s with heap := (s.heap.push { cls := .type "tuple_iterator", data := .fields #[.ref t, .int 0 0] }).push { cls := .type "enumerate", data := .fields #[.none, .bool false, .ref s.heap.objs.size, rawInt 0, .none, .none] } }) :=
  .of_wp fun prog w A R s h => by
    obtain ⟨hp, g, d, tk, os⟩ := s; obtain ⟨hl, h⟩ := h
    have hsub := sub_enumerate
    have hL : IsTup (Shared.heap ⟨hp, g, d, tk, os⟩) t items := ⟨_, hl, rfl, n, rfl⟩
    wp_walk using AutoSeq1.wpAny_loadPart' hl
    refine wpAny_stack_any fun st => wpAny_pure ?_
    split
    · rename_i c _ _ _ _ _
      cases (c == Value.type "enumerate")
      · wp_walk using AutoSeq1.wpAny_loadPart' hl, iter_tuple hL
        exact ⟨_, rfl, h⟩
      · wp_walk using AutoSeq1.wpAny_loadPart' hl, iter_tuple hL
        exact ⟨_, rfl, h⟩
    · wp_walk using AutoSeq1.wpAny_loadPart' hl, iter_tuple hL
      exact ⟨_, rfl, h⟩
theorem enum_any {w : World} {A : Around} {s : Shared} {E : Value → Shared → Prop} {Q : Value → Shared → Prop} {vs : List Value} (hT : Tup s.heap 105 vs) (hQ : ∀ a h' tk, Ext s.heap h' → EnumNew s.heap h' a → Q (.ref a) { s with heap := h', toks := tk }) :
    wpAny (MD w) A (call (.type "enumerate") [.ref 105]) Q E s := by
  obtain ⟨n, hl⟩ := hT
  refine callType_new F.called_enumerate (by decide) (F.typeCall_enumerate_1 _) (F.newCall_enumerate_1 _) (fun obj => F.args_object_init_2 obj _) F.entry_enumerate_new (meets_enum_tup 105 vs.toArray n) ⟨hl, ?_⟩
  have hz : (s.heap.push { cls := .type "tuple_iterator", data := .fields #[.ref 105, .int 0 0] }).objs.size = s.heap.objs.size + 1 := Heap.size_push ..
  have he := Heap.get?_push_size (s.heap.push { cls := .type "tuple_iterator", data := .fields #[.ref 105, .int 0 0] }) (o := { cls := .type "enumerate", data := .fields #[.none, .bool false, .ref s.heap.objs.size, rawInt 0, .none, .none] }) rfl
  rw [hz] at he
  show _ ∧ _
  rw [hz]
  exact ⟨⟨_, he, rfl⟩, hQ _ _ _ (fun b o x => Heap.get?_push_of_some _ (Heap.get?_push_of_some _ x)) ⟨s.heap.objs.size, he, ⟨_, Heap.get?_push_of_some _ (Heap.get?_push_size _ rfl), rfl, rfl⟩, fresh_size _ _ (Nat.le_succ _), fresh_size _ _ (Nat.le_refl _), Nat.succ_ne_self _⟩⟩
section
variable {w : World} {A : Around} {E : Value → Shared → Prop} {s : Shared}
theorem nextOfT_item {it t : Addr} {i : Nat} {items} {x : Value} {Q : Value → Shared → Prop} (hit : IsTupIter s.heap it t i) (ht : IsTup s.heap t items) (hx : items[i]? = some x)
    (hQ : ∀ h', IsTupIter h' it t (i + 1) → Heap.SameBut it s.heap h' → Q x { s with heap := h' }) : wpAny (MD w) A (Builtin.SmallTypes.nextOf (.ref it)) Q E s := by
  obtain ⟨o, ho, hc, hd⟩ := id hit
  obtain ⟨ol, hol, _, nl, hdl⟩ := ht
  unfold Builtin.SmallTypes.nextOf
  refine wpAny_bind (wpAny_callSpecial?_slot (name := Str.ofString "__next__") hit.typeIs slot_tupleiter_next
    (wpAny_call_entry slot_tupleiter_next hit.typeIs entry_tupleiter_next ?_ (args_tupleiter_next _)))
  show wpAny _ _ (field (.ref it) 0 >>= _) _ _ s
  refine wpAny_bind (wpAny_field ho hd (x := .ref t) rfl ?_)
  show wpAny _ _ (if (Value.ref t == Value.none) = true then _ else _) _ _ s
  rw [if_neg (show ¬ ((Value.ref t == Value.none) = true) from Bool.false_ne_true)]
  show wpAny _ _ (field (.ref it) 1 >>= _) _ _ s
  refine wpAny_bind (wpAny_field ho hd (x := .int i 0) rfl ?_)
  show wpAny _ _ (seqItems? (.ref t) >>= _) _ _ s
  refine wpAny_bind (wpAny_seqItems hol hdl ?_)
  simp only [Int.toNat_natCast, hx]
  refine wpAny_bind (wpAny_setField ho hd (by simp) (wpAny_pure ⟨x, rfl, wpAny_pure (hQ _ ?_ (Heap.SameBut.update ..))⟩))
  exact ⟨_, Heap.get?_update_self _ ho (Obj.isFreed_of_fields (Obj.data_mapFields hd _)), (Obj.cls_mapFields ..).trans hc, by
    rw [Obj.data_mapFields hd]; simp [rawInt]⟩
theorem nextOfT_end {it t : Addr} {i : Nat} {items} {Q : Value → Shared → Prop} (hh : A.handled = none) (hit : IsTupIter s.heap it t i) (ht : IsTup s.heap t items) (hx : items[i]? = none)
    (hE : ∀ h' e, Heap.ExtBut it s.heap h' → (∃ o, h'.get? e = some o ∧ o.cls = .type "StopIteration") → E (.ref e) { s with heap := h' }) : wpAny (MD w) A (Builtin.SmallTypes.nextOf (.ref it)) Q E s := by
  obtain ⟨o, ho, hc, hd⟩ := id hit
  obtain ⟨ol, hol, _, nl, hdl⟩ := ht
  unfold Builtin.SmallTypes.nextOf
  refine wpAny_bind (wpAny_callSpecial?_slot (name := Str.ofString "__next__") hit.typeIs slot_tupleiter_next
    (wpAny_call_entry slot_tupleiter_next hit.typeIs entry_tupleiter_next ?_ (args_tupleiter_next _)))
  show wpAny _ _ (field (.ref it) 0 >>= _) _ _ s
  refine wpAny_bind (wpAny_field ho hd (x := .ref t) rfl ?_)
  show wpAny _ _ (if (Value.ref t == Value.none) = true then _ else _) _ _ s
  rw [if_neg (show ¬ ((Value.ref t == Value.none) = true) from Bool.false_ne_true)]
  show wpAny _ _ (field (.ref it) 1 >>= _) _ _ s
  refine wpAny_bind (wpAny_field ho hd (x := .int i 0) rfl ?_)
  show wpAny _ _ (seqItems? (.ref t) >>= _) _ _ s
  refine wpAny_bind (wpAny_seqItems hol hdl ?_)
  simp only [Int.toNat_natCast, hx]
  refine wpAny_bind (wpAny_rule (wpAny_bind (wpAny_setField ho hd (by simp) ?_)))
  show wpAny _ _ (newExc (.type "StopIteration") [] >>= _) _ _ _
  refine wpAny_bind ?_
  simp only [newExc, newTuple]
  refine wpAny_bind (wpAny_newObj_type ?_ (by size_fits))
  refine wpAny_bind (m := firstArgMember _ _) (wpAny_of_eq (a := Value.none) (by first | rfl | (simp only [firstArgMember]; rfl)) ?_)
  refine wpAny_newObj_type ?_ (by size_fits)
  simp only [raiseNew]
  refine wpAny_bind (wpAny_handled ?_)
  first | rw [show A.in1.handled = none from hh] | rw [hh]
  refine wpAny_bind (wpAny_pure (wpAny_throw ?_))
  exact hE _ _ (((Heap.SameBut.update ..).extBut.push _).push _) ⟨_, Heap.get?_push_size _ rfl, rfl⟩
theorem drawsT (hh : A.handled = none) (it t : Addr) (hne : t ≠ it) (items : Array Value) :
    Draws PR w A it [it, t] items.size (fun i v => items[i]? = some v) (fun i h => IsTupIter h it t i ∧ IsTup h t items) where
  live := fun _ _ st => let ⟨o, ho, _⟩ := st.1; ⟨o, ho⟩
  frame := fun _ _ _ st hk => ⟨let ⟨o, e, r⟩ := st.1; ⟨o, hk it (by simp) o e, r⟩, let ⟨o, e, r⟩ := st.2; ⟨o, hk t (by simp) o e, r⟩⟩
  item := fun i s Q E hi st hQ => by
    refine nextOfT_item st.1 st.2 (x := items[i]) (by simp [hi]) fun h' hit' hs' => ?_
    exact hQ _ h' s.toks (by simp [hi]) ⟨hit', st.2.extBut hs'.extBut hne⟩ hs'
  done := fun s Q E st hE => nextOfT_end hh st.1 st.2 (by simp) hE
end
end Mine

end
section
open PySem PySem.W PySem.W.X PyProof.Rows PySem.Calls
set_option Elab.async false
set_option maxRecDepth 100000
set_option maxHeartbeats 0
set_option linter.unusedVariables false
namespace Mine
noncomputable def tabD : List (List (Int × Str)) := [[(40960, "l"), (49152, "s"), (32768, "-"), (24576, "b"), (16384, "d"), (8192, "c"), (4096, "p")], [(256, "r")], [(128, "w")], [(2112, "s"), (2048, "S"), (64, "x")], [(32, "r")], [(16, "w")], [(1032, "s"), (1024, "S"), (8, "x")], [(4, "r")], [(2, "w")], [(513, "t"), (512, "T"), (1, "x")]]
noncomputable def tabA : List Addr := [80, 82, 84, 88, 90, 92, 96, 98, 100, 104]
noncomputable def pairA : List (List Addr) := [[73, 74, 75, 76, 77, 78, 79], [81], [83], [85, 86, 87], [89], [91], [93, 94, 95], [97], [99], [101, 102, 103]]
noncomputable def seqK (o : Obj) : Array Value := match o.data with | .seq vs _ => vs | _ => #[]
section
variable {w : World} {h : Heap} (hB : Base w h)
include hB
theorem tab105 : Tup h 105 (tabA.map .ref) := ⟨0, hB 105 _ (by kernel_rfl)⟩
theorem tab80 : Tup h 80 [.ref 73, .ref 74, .ref 75, .ref 76, .ref 77, .ref 78, .ref 79] := ⟨0, hB 80 _ (by kernel_rfl)⟩
theorem tab73 : ∃ t t', Tup h 73 [.int 40960 t, .str "l" t'] := ⟨tokK ((seqK (objK w 73)).getD 0 .none), tokK ((seqK (objK w 73)).getD 1 .none), 0, hB 73 _ (by kernel_rfl)⟩
theorem tab74 : ∃ t t', Tup h 74 [.int 49152 t, .str "s" t'] := ⟨tokK ((seqK (objK w 74)).getD 0 .none), tokK ((seqK (objK w 74)).getD 1 .none), 0, hB 74 _ (by kernel_rfl)⟩
theorem tab75 : ∃ t t', Tup h 75 [.int 32768 t, .str "-" t'] := ⟨tokK ((seqK (objK w 75)).getD 0 .none), tokK ((seqK (objK w 75)).getD 1 .none), 0, hB 75 _ (by kernel_rfl)⟩
theorem tab76 : ∃ t t', Tup h 76 [.int 24576 t, .str "b" t'] := ⟨tokK ((seqK (objK w 76)).getD 0 .none), tokK ((seqK (objK w 76)).getD 1 .none), 0, hB 76 _ (by kernel_rfl)⟩
theorem tab77 : ∃ t t', Tup h 77 [.int 16384 t, .str "d" t'] := ⟨tokK ((seqK (objK w 77)).getD 0 .none), tokK ((seqK (objK w 77)).getD 1 .none), 0, hB 77 _ (by kernel_rfl)⟩
theorem tab78 : ∃ t t', Tup h 78 [.int 8192 t, .str "c" t'] := ⟨tokK ((seqK (objK w 78)).getD 0 .none), tokK ((seqK (objK w 78)).getD 1 .none), 0, hB 78 _ (by kernel_rfl)⟩
theorem tab79 : ∃ t t', Tup h 79 [.int 4096 t, .str "p" t'] := ⟨tokK ((seqK (objK w 79)).getD 0 .none), tokK ((seqK (objK w 79)).getD 1 .none), 0, hB 79 _ (by kernel_rfl)⟩
theorem tab82 : Tup h 82 [.ref 81] := ⟨0, hB 82 _ (by kernel_rfl)⟩
theorem tab81 : ∃ t t', Tup h 81 [.int 256 t, .str "r" t'] := ⟨tokK ((seqK (objK w 81)).getD 0 .none), tokK ((seqK (objK w 81)).getD 1 .none), 0, hB 81 _ (by kernel_rfl)⟩
theorem tab84 : Tup h 84 [.ref 83] := ⟨0, hB 84 _ (by kernel_rfl)⟩
theorem tab83 : ∃ t t', Tup h 83 [.int 128 t, .str "w" t'] := ⟨tokK ((seqK (objK w 83)).getD 0 .none), tokK ((seqK (objK w 83)).getD 1 .none), 0, hB 83 _ (by kernel_rfl)⟩
theorem tab88 : Tup h 88 [.ref 85, .ref 86, .ref 87] := ⟨0, hB 88 _ (by kernel_rfl)⟩
theorem tab85 : ∃ t t', Tup h 85 [.int 2112 t, .str "s" t'] := ⟨tokK ((seqK (objK w 85)).getD 0 .none), tokK ((seqK (objK w 85)).getD 1 .none), 0, hB 85 _ (by kernel_rfl)⟩
theorem tab86 : ∃ t t', Tup h 86 [.int 2048 t, .str "S" t'] := ⟨tokK ((seqK (objK w 86)).getD 0 .none), tokK ((seqK (objK w 86)).getD 1 .none), 0, hB 86 _ (by kernel_rfl)⟩
theorem tab87 : ∃ t t', Tup h 87 [.int 64 t, .str "x" t'] := ⟨tokK ((seqK (objK w 87)).getD 0 .none), tokK ((seqK (objK w 87)).getD 1 .none), 0, hB 87 _ (by kernel_rfl)⟩
theorem tab90 : Tup h 90 [.ref 89] := ⟨0, hB 90 _ (by kernel_rfl)⟩
theorem tab89 : ∃ t t', Tup h 89 [.int 32 t, .str "r" t'] := ⟨tokK ((seqK (objK w 89)).getD 0 .none), tokK ((seqK (objK w 89)).getD 1 .none), 0, hB 89 _ (by kernel_rfl)⟩
theorem tab92 : Tup h 92 [.ref 91] := ⟨0, hB 92 _ (by kernel_rfl)⟩
theorem tab91 : ∃ t t', Tup h 91 [.int 16 t, .str "w" t'] := ⟨tokK ((seqK (objK w 91)).getD 0 .none), tokK ((seqK (objK w 91)).getD 1 .none), 0, hB 91 _ (by kernel_rfl)⟩
theorem tab96 : Tup h 96 [.ref 93, .ref 94, .ref 95] := ⟨0, hB 96 _ (by kernel_rfl)⟩
theorem tab93 : ∃ t t', Tup h 93 [.int 1032 t, .str "s" t'] := ⟨tokK ((seqK (objK w 93)).getD 0 .none), tokK ((seqK (objK w 93)).getD 1 .none), 0, hB 93 _ (by kernel_rfl)⟩
theorem tab94 : ∃ t t', Tup h 94 [.int 1024 t, .str "S" t'] := ⟨tokK ((seqK (objK w 94)).getD 0 .none), tokK ((seqK (objK w 94)).getD 1 .none), 0, hB 94 _ (by kernel_rfl)⟩
theorem tab95 : ∃ t t', Tup h 95 [.int 8 t, .str "x" t'] := ⟨tokK ((seqK (objK w 95)).getD 0 .none), tokK ((seqK (objK w 95)).getD 1 .none), 0, hB 95 _ (by kernel_rfl)⟩
theorem tab98 : Tup h 98 [.ref 97] := ⟨0, hB 98 _ (by kernel_rfl)⟩
theorem tab97 : ∃ t t', Tup h 97 [.int 4 t, .str "r" t'] := ⟨tokK ((seqK (objK w 97)).getD 0 .none), tokK ((seqK (objK w 97)).getD 1 .none), 0, hB 97 _ (by kernel_rfl)⟩
theorem tab100 : Tup h 100 [.ref 99] := ⟨0, hB 100 _ (by kernel_rfl)⟩
theorem tab99 : ∃ t t', Tup h 99 [.int 2 t, .str "w" t'] := ⟨tokK ((seqK (objK w 99)).getD 0 .none), tokK ((seqK (objK w 99)).getD 1 .none), 0, hB 99 _ (by kernel_rfl)⟩
theorem tab104 : Tup h 104 [.ref 101, .ref 102, .ref 103] := ⟨0, hB 104 _ (by kernel_rfl)⟩
theorem tab101 : ∃ t t', Tup h 101 [.int 513 t, .str "t" t'] := ⟨tokK ((seqK (objK w 101)).getD 0 .none), tokK ((seqK (objK w 101)).getD 1 .none), 0, hB 101 _ (by kernel_rfl)⟩
theorem tab102 : ∃ t t', Tup h 102 [.int 512 t, .str "T" t'] := ⟨tokK ((seqK (objK w 102)).getD 0 .none), tokK ((seqK (objK w 102)).getD 1 .none), 0, hB 102 _ (by kernel_rfl)⟩
theorem tab103 : ∃ t t', Tup h 103 [.int 1 t, .str "x" t'] := ⟨tokK ((seqK (objK w 103)).getD 0 .none), tokK ((seqK (objK w 103)).getD 1 .none), 0, hB 103 _ (by kernel_rfl)⟩
end
end Mine

end
section
open PySem PySem.W PySem.W.X PyProof.Rows PySem.Calls
set_option Elab.async false
set_option maxRecDepth 100000
set_option maxHeartbeats 0
set_option linter.unusedVariables false
namespace Mine
section
variable {w : World} {A : Around} {E : Value → Shared → Prop} {s : Shared}
/-- an iterator that owns no tuple -/
theorem go_plain {elts : List Expr} {k : Nat} {pos : Pos} {I : Addr} {v : Value} {o : Obj} {T : String} {Q : Unit → Shared → Prop} (ho : s.heap.get? I = some o) (hc : o.cls = .type T)
    (hT : ["enumerate", "zip", "dict_itemiterator", "dict_reverseitemiterator", "odict_iterator", "itertools.zip_longest", "itertools.pairwise"].contains T = false) (h : Q () s) :
    wpAny (MD w) A (letOwnedTupleGo (.Tuple elts k pos) (.ref I) v) Q E s := by
  unfold letOwnedTupleGo
  cases v with
  | ref a =>
    dsimp only
    refine wpAny_bind (wpAny_load ho ?_)
    rw [hc]
    split
    · rename_i n vs e1 e2
      cases e1
      rw [hT]
      simp only [Bool.false_and, Bool.false_eq_true, if_false]
      exact wpAny_pure h
    · exact wpAny_pure h
  | _ => exact wpAny_pure h

theorem look_ifmt : FnLook w 72 := by unfold FnLook; kernel_rfl
theorem ifmt_spec {m : Int} {t : Tok} {Q : Value → Shared → Prop} (hB : Base w s.heap) (g : Good A 5) (hQ : ∀ h' t' tk, Ext s.heap h' → Q (.int (Builtin.bitAnd m 61440) t') { s with heap := h', toks := tk }) :
    wpAny (MD w) A (call (.ref 72) [.int m t]) Q E s := by
  refine call_fn (binds := [("mode", .int m t)]) hB g (fn_sifmt hB) (fun _ _ _ => rfl) (locs rfl) (fun h₁ cd hn₁ hx₁ hz₁ g' => ?_) rfl rfl rfl (by decide)
  exact wpAny_execs_cons <| wpAny_Return_some <| wpAny_BinOp <| ldL hn₁ rfl <| wpAny_Constant_int <| and_int (hQ _ _ _ hx₁)

noncomputable def fmS (i : Nat) : Stmt := (fnBody 32)[i]?.getD (.Pass ⟨0, 0, 0, 0⟩)
noncomputable def innerS : Stmt := match fmS 1 with | .For _ _ (b :: _) _ _ => b | _ => .Pass ⟨0, 0, 0, 0⟩
noncomputable abbrev fmEnv (L : Addr) (cd : Value) : Env := envOf "filemode" (fnScope 32) L 112 cd
noncomputable def hit (i : Nat) (m : Int) (p : Int × Str) : Bool := if i = 0 then Builtin.bitAnd m 61440 == p.1 else Builtin.bitAnd m p.1 == p.1
noncomputable def charOf (i : Nat) (m : Int) (ps : List (Int × Str)) : Str := match ps.find? (hit i m) with | some p => p.2 | none => if i = 0 then "?" else "-"
def PairAt (h : Heap) (p : Int × Str) (v : Value) : Prop := ∃ a t t', v = .ref a ∧ Tup h a [.int p.1 t, .str p.2 t']
end
end Mine

end
section
open PySem PySem.W PySem.W.X PyProof.Rows PySem.Calls
set_option Elab.async false
set_option maxRecDepth 100000
set_option maxHeartbeats 0
set_option linter.unusedVariables false
namespace Mine
section
variable {w : World} {A : Around} {E : Value → Shared → Prop} {s : Shared}
inductive InSt (s : Shared) (I a L PL : Addr) (i : Nat) (m : Int) (ti tm : Tok) (ps : List (Int × Str)) (pv : List Value) (k : Nat) (s' : Shared) : Prop
  | mk (h' : Heap) (tk : Nat) (b : List (Str × Value)) (j : Nat) (hs : s' = { s with heap := h', toks := tk }) (f0 : IsTupIter h' I a j) (f1 : h'.Ns L (lk b)) (f2 : lk b "index" = some (.int (i : Int) ti)) (f3 : lk b "mode" = some (.int m tm)) (f4 : lk b "perm" = some (.ref PL)) (f5 : Lst h' PL pv) (f6 : KeepOut [L, PL] s.heap h') (f7 : (∀ p ∈ ps.take j, hit i m p = false)) (f8 : j ≤ ps.length) (f9 : k = ps.length - j) : InSt s I a L PL i m ti tm ps pv k s'
theorem inner_spec {L a PL : Addr} {cd : Value} {i : Nat} {m : Int} {ti tm : Tok} {ps : List (Int × Str)} {pvs pv : List Value} {l : List (Str × Value)} {Q : Flow → Shared → Prop} (hB : Base w s.heap) (g : Good A 20) (hn : s.heap.Ns L (lk l))
    (e1 : lk l "index" = some (.int (i : Int) ti)) (e2 : lk l "table" = some (.ref a)) (e3 : lk l "mode" = some (.int m tm)) (e4 : lk l "perm" = some (.ref PL))
    (hT : ∀ h, Base w h → Tup h a pvs ∧ Paired (PairAt h) ps pvs) (hP : Lst s.heap PL pv) (hLP : L ≠ PL) (hL : 154 ≤ L) (hPL : 154 ≤ PL) (hlen : pv.length ≤ 100)
    (hQ : ∀ h' tk l' t', KeepOut [L, PL] s.heap h' → h'.Ns L (lk l') → lk l' "mode" = some (.int m tm) → lk l' "perm" = some (.ref PL) → Lst h' PL (pv ++ [.str (charOf i m ps) t']) → Q .next { s with heap := h', toks := tk }) :
    wpAny (MD w) A (exec innerS (fmEnv L cd)) Q E s := by
  have hTa := (hT _ hB).1
  refine wpAny_For <| ldL hn e2 <| iter_tuple hTa.isTup ?_
  have hx₁ : Ext s.heap (s.heap.push { cls := .type "tuple_iterator", data := .fields #[.ref a, .int 0 0] }) := fun b o e => Heap.get?_push_of_some _ e
  have hi₁ : IsTupIter (s.heap.push { cls := .type "tuple_iterator", data := .fields #[.ref a, .int 0 0] }) s.heap.objs.size a 0 := ⟨_, Heap.get?_push_size _ rfl, rfl, rfl⟩
  generalize s.heap.push { cls := .type "tuple_iterator", data := .fields #[.ref a, .int 0 0] } = h₁ at hx₁ hi₁
  have hI : s.heap.objs.size ≤ s.heap.objs.size := Nat.le_refl _
  have hLI : L < s.heap.objs.size := hn.lt
  have hPI : PL < s.heap.objs.size := hP.lt
  generalize hI0 : s.heap.objs.size = I at *
  have hpl : ps.length = pvs.length := (hT _ hB).2.length
  have n154 : ∀ {x : Addr}, 154 ≤ x → ∀ {y : Addr}, y < 154 → y ≠ x := fun h1 _ h2 => Nat.ne_of_lt (Nat.lt_of_lt_of_le h2 h1)
  refine forLoop_any (InSt s I a L PL i m ti tm ps pv) ?_ ps.length
    ⟨h₁, _, l, 0, rfl, hi₁, ns_ext hn hx₁, e1, e3, e4, hP.ext hx₁, KeepOut.ext hx₁ _, by simp, Nat.zero_le _, rfl⟩
  rintro k s' ⟨h', tk, b, j, rfl, hit', hn', f1, f3, f4, hP', kk, hno, hj, rfl⟩
  have hB' : Base w h' := base_keep hB kk (by intro x hx; simp only [List.mem_cons, List.not_mem_nil, or_false] at hx; rcases hx with rfl | rfl <;> assumption)
  have nlt : ∀ {c : Addr} {o : Obj}, s.heap.get? c = some o → c ≠ I := fun e => lt_ne e (Nat.le_of_eq hI0)
  have eqi : (i : Int) == 0 ↔ i = 0 := by simp
  rcases Nat.lt_or_ge j ps.length with hlt | hge
  · obtain ⟨hTa', hpp⟩ := hT _ hB'
    have hjv : j < pvs.length := hpl ▸ hlt
    refine next_tuple_item hit' hTa'.isTup (x := pvs[j]) (by simp [hjv]) fun h₂ hit₂ hs₂ => ?_
    dsimp only at hs₂ ⊢
    have kk₂ : KeepOut [L, PL] s.heap h₂ := fun c o hc e => hs₂.extBut c o (nlt e) (kk c o hc e)
    have hB₂ : Base w h₂ := base_keep hB kk₂ (by intro x hx; simp only [List.mem_cons, List.not_mem_nil, or_false] at hx; rcases hx with rfl | rfl <;> assumption)
    obtain ⟨p, hpj, pa, t, t', hv, htp⟩ := Mine.Paired.at (hT _ hB₂).2 (show pvs[j]? = some pvs[j] by simp [hjv])
    rw [hv]
    have hn₂ := hn'.sameBut hs₂ (Nat.ne_of_lt hLI)
    have hP₂ := hP'.same hs₂ (Nat.ne_of_lt hPI)
    obtain ⟨oI, oI1, oI2, oI3⟩ := id hit₂
    refine wpAny_bind <| go_plain oI1 oI2 (by decide) <| assignTup g.handled htp rfl rfl fun h₃ hx₃ _ => ?_
    dsimp only at hx₃ ⊢
    refine assignInOrder_cons <| assign_Name <| stL (ns_ext hn₂ hx₃) fun h₄ hn₄ hs₄ => ?_
    dsimp only at hn₄ hs₄ ⊢
    refine assignInOrder_cons <| assign_Name <| stL hn₄ fun h₅ hn₅ hs₅ => assignInOrder_nil ?_
    dsimp only at hn₅ hs₅ ⊢
    have kk₅ : KeepOut [L, PL] s.heap h₅ := kk₂.trans ((KeepOut.ext hx₃ _).trans ((KeepOut.same hs₄ (by simp)).trans (KeepOut.same hs₅ (by simp))))
    have hB₅ : Base w h₅ := base_keep hB kk₅ (by intro x hx; simp only [List.mem_cons, List.not_mem_nil, or_false] at hx; rcases hx with rfl | rfl <;> assumption)
    have hP₅ := ((hP₂.ext hx₃).same hs₄ hLP.symm).same hs₅ hLP.symm
    have hit₅ : IsTupIter h₅ I a (j + 1) := ⟨oI, hs₅.extBut _ _ (Nat.ne_of_gt hLI) (hs₄.extBut _ _ (Nat.ne_of_gt hLI) (hx₃ _ _ oI1)), oI2, oI3⟩
    have hstep : ∀ q ∈ ps.take (j + 1), q ∈ ps.take j ∨ q = p := fun q hq => by
      rw [List.take_add_one, hpj] at hq
      rcases List.mem_append.mp hq with h | h
      · exact .inl h
      · exact .inr (by simpa using h)
    have hchar : hit i m p = true → charOf i m ps = p.2 := fun h => by
      unfold charOf
      have hsplit : ps = ps.take j ++ p :: ps.drop (j + 1) := by
        have := List.take_append_drop j ps
        rw [List.drop_eq_getElem_cons hlt] at this
        rw [List.getElem?_eq_getElem hlt] at hpj
        rw [Option.some.inj hpj] at this
        exact this.symm
      rw [hsplit, List.find?_append, List.find?_eq_none.mpr (fun q hq => by rw [hno q hq]; decide)]
      simp [List.find?_cons, h]
    have next : ∀ (h₆ : Heap) (tk₆ : Nat), Ext h₅ h₆ → hit i m p = false → ∃ (k' : Nat), k' < ps.length - j ∧ InSt s I a L PL i m ti tm ps pv k' { s with heap := h₆, toks := tk₆ } := fun h₆ tk₆ hx₆ hf =>
      ⟨ps.length - (j + 1), by (first | lia | omega), h₆, tk₆, _, j + 1, rfl, ⟨oI, hx₆ _ _ (hs₅.extBut _ _ (Nat.ne_of_gt hLI) (hs₄.extBut _ _ (Nat.ne_of_gt hLI) (hx₃ _ _ oI1))), oI2, oI3⟩, ns_ext hn₅ hx₆, f1, f3, f4, hP₅.ext hx₆, kk₅.trans (KeepOut.ext hx₆ _), fun q hq => (hstep q hq).elim (hno q) (fun e => e ▸ hf), hlt, rfl⟩
    have e0 : ((i : Int) == 0) = decide (i = 0) := by by_cases h : i = 0 <;> simp [h]
    refine wpAny_execs_cons <| wpAny_If <| wpAny_isTrue_Compare1 <| ldL hn₅ f1 <| wpAny_Constant_int <| eq_int <| wpAny_truthy_bool ?_
    rw [e0]
    by_cases hi0 : i = 0
    · rw [if_pos (by simpa using hi0)]
      refine wpAny_execs_cons <| wpAny_If <| wpAny_isTrue_Compare1 <| Call_Name1 <| ldG hB₅ (v := .ref 72) (by kernel_rfl) <| call1 look_ifmt <| ldL hn₅ f3 ⟨hB₅, ifmt_spec hB₅ (g.less (by (first | lia | omega))) fun h₆ t₆ tk₆ hx₆ => ?_⟩
      dsimp only at hx₆ ⊢
      have hn₆ := ns_ext hn₅ hx₆
      refine ldL hn₆ rfl <| eq_int <| wpAny_truthy_bool ?_
      have hh : hit i m p = (Builtin.bitAnd m 61440 == p.1) := by unfold hit; rw [if_pos hi0]
      rw [← hh]
      cases hq : hit i m p with
      | true =>
        rw [if_pos rfl]
        refine wpAny_execs_cons <| wpAny_Expr <| methL slot_list_append PySem.F.type_list_append rfl rfl rfl <| ldL hn₆ f4 ⟨PL, pv, rfl, hP₅.ext hx₆, with1 <| ldL hn₆ rfl <| appendL (hP₅.ext hx₆) (by (first | lia | omega)) fun h₇ hP₇ hs₇ => ?_⟩
        refine wpAny_execs_cons <| wpAny_Break ?_
        exact hQ _ _ _ t' ((kk₅.trans (KeepOut.ext hx₆ _)).trans (KeepOut.same hs₇ (by simp))) (hn₆.sameBut hs₇ hLP) f3 f4 (hchar hq ▸ hP₇)
      | false =>
        rw [if_neg (by decide)]
        exact wpAny_execs_nil <| wpAny_execs_nil <| wpAny_execs_nil <| next _ _ hx₆ hq
    · rw [if_neg (by simpa using hi0)]
      refine wpAny_execs_cons <| wpAny_If <| wpAny_isTrue_Compare1 <| wpAny_BinOp <| ldL hn₅ f3 <| ldL hn₅ rfl <| and_int <| ldL hn₅ rfl <| eq_int <| wpAny_truthy_bool ?_
      have hh : hit i m p = (Builtin.bitAnd m p.1 == p.1) := by unfold hit; rw [if_neg hi0]
      rw [← hh]
      cases hq : hit i m p with
      | true =>
        rw [if_pos rfl]
        refine wpAny_execs_cons <| wpAny_Expr <| methL slot_list_append PySem.F.type_list_append rfl rfl rfl <| ldL hn₅ f4 ⟨PL, pv, rfl, hP₅, with1 <| ldL hn₅ rfl <| appendL hP₅ (by (first | lia | omega)) fun h₇ hP₇ hs₇ => ?_⟩
        refine wpAny_execs_cons <| wpAny_Break ?_
        exact hQ _ _ _ t' (kk₅.trans (KeepOut.same hs₇ (by simp))) (hn₅.sameBut hs₇ hLP) f3 f4 (hchar hq ▸ hP₇)
      | false =>
        rw [if_neg (by decide)]
        exact wpAny_execs_nil <| wpAny_execs_nil <| wpAny_execs_nil <| next _ _ (Ext.refl _) hq
  · have hje : j = ps.length := by (first | lia | omega)
    subst hje
    have hnone : charOf i m ps = (if i = 0 then ("?" : Str) else ("-" : Str)) := by
      have hf : ps.find? (hit i m) = none := List.find?_eq_none.mpr (fun q hq => by rw [hno q (by rw [List.take_length]; exact hq)]; decide)
      unfold charOf
      rw [hf]
    refine next_tuple_end g.handled hit' (hT _ hB').1.isTup (by simp [hpl]) fun h₂ hx₂ => ?_
    dsimp only at hx₂ ⊢
    have kk₂ : KeepOut [L, PL] s.heap h₂ := fun c o hc e => hx₂ c o (nlt e) (kk c o hc e)
    have hn₂ := hn'.extBut hx₂ (Nat.ne_of_lt hLI)
    have hP₂ := hP'.but hx₂ (Nat.ne_of_lt hPI)
    have e0 : ((i : Int) == 0) = decide (i = 0) := by by_cases h : i = 0 <;> simp [h]
    refine wpAny_execs_cons <| wpAny_If <| wpAny_isTrue_Compare1 <| ldL hn₂ f1 <| wpAny_Constant_int <| eq_int <| wpAny_truthy_bool ?_
    rw [e0]
    by_cases hi0 : i = 0
    · rw [if_pos (by simpa using hi0)]
      rw [if_pos hi0] at hnone
      refine wpAny_execs_cons <| wpAny_Expr <| methL slot_list_append PySem.F.type_list_append rfl rfl rfl <| ldL hn₂ f4 ⟨PL, pv, rfl, hP₂, with1 <| Constant_str (k := 0) (pos := ⟨117, 28, 117, 31⟩) <| appendL hP₂ (by (first | lia | omega)) fun h₇ hP₇ hs₇ => ?_⟩
      exact wpAny_execs_nil <| wpAny_execs_nil <| hQ _ _ _ _ (kk₂.trans (KeepOut.same hs₇ (by simp))) (hn₂.sameBut hs₇ hLP) f3 f4 (hnone ▸ hP₇)
    · rw [if_neg (by simpa using hi0)]
      rw [if_neg hi0] at hnone
      refine wpAny_execs_cons <| wpAny_Expr <| methL slot_list_append PySem.F.type_list_append rfl rfl rfl <| ldL hn₂ f4 ⟨PL, pv, rfl, hP₂, with1 <| Constant_str (k := 0) (pos := ⟨119, 28, 119, 31⟩) <| appendL hP₂ (by (first | lia | omega)) fun h₇ hP₇ hs₇ => ?_⟩
      exact wpAny_execs_nil <| wpAny_execs_nil <| hQ _ _ _ _ (kk₂.trans (KeepOut.same hs₇ (by simp))) (hn₂.sameBut hs₇ hLP) f3 f4 (hnone ▸ hP₇)
end
end Mine

end
section
open PySem PySem.W PySem.W.X PyProof.Rows PySem.Calls
set_option Elab.async false
set_option maxRecDepth 100000
set_option maxHeartbeats 0
set_option linter.unusedVariables false
namespace Mine
noncomputable def tabAt (i : Nat) : List (Int × Str) := tabD.getD i []
noncomputable def addrAt (i : Nat) : Addr := tabA.getD i 0
noncomputable def pairsAt (i : Nat) : List Value := (pairA.getD i []).map .ref
theorem tab_at {w : World} : ∀ i, i < 10 → ∀ h, Base w h → Tup h (addrAt i) (pairsAt i) ∧ Paired (PairAt h) (tabAt i) (pairsAt i) := by
  have one : ∀ {h : Heap} {a : Addr} {n : Int} {c : Str}, (∃ t t', Tup h a [.int n t, .str c t']) → PairAt h (n, c) (.ref a) := fun ⟨t, t', e⟩ => ⟨_, t, t', rfl, e⟩
  intro i hi h hB
  match i, hi with
  | 0, _ => exact ⟨tab80 hB, .cons (one (tab73 hB)) (.cons (one (tab74 hB)) (.cons (one (tab75 hB)) (.cons (one (tab76 hB)) (.cons (one (tab77 hB)) (.cons (one (tab78 hB)) (.cons (one (tab79 hB)) .nil))))))⟩
  | 1, _ => exact ⟨tab82 hB, .cons (one (tab81 hB)) .nil⟩
  | 2, _ => exact ⟨tab84 hB, .cons (one (tab83 hB)) .nil⟩
  | 3, _ => exact ⟨tab88 hB, .cons (one (tab85 hB)) (.cons (one (tab86 hB)) (.cons (one (tab87 hB)) .nil))⟩
  | 4, _ => exact ⟨tab90 hB, .cons (one (tab89 hB)) .nil⟩
  | 5, _ => exact ⟨tab92 hB, .cons (one (tab91 hB)) .nil⟩
  | 6, _ => exact ⟨tab96 hB, .cons (one (tab93 hB)) (.cons (one (tab94 hB)) (.cons (one (tab95 hB)) .nil))⟩
  | 7, _ => exact ⟨tab98 hB, .cons (one (tab97 hB)) .nil⟩
  | 8, _ => exact ⟨tab100 hB, .cons (one (tab99 hB)) .nil⟩
  | 9, _ => exact ⟨tab104 hB, .cons (one (tab101 hB)) (.cons (one (tab102 hB)) (.cons (one (tab103 hB)) .nil))⟩
noncomputable def charsOf (m : Int) : List Str := (List.range 10).map fun i => charOf i m (tabAt i)
theorem tabA_at {i : Nat} {v : Value} (h : ((tabA.map .ref : List Value).toArray)[i]? = some v) : v = .ref (addrAt i) := by
  simp only [List.getElem?_toArray, List.getElem?_map] at h
  unfold addrAt
  rw [List.getD_eq_getElem?_getD]
  cases e : tabA[i]? with
  | none => rw [e] at h; cases h
  | some a => rw [e] at h; cases h; rfl
section
variable {w : World} {A : Around} {E : Value → Shared → Prop} {s : Shared}
theorem look_filemode : FnLook w 112 := by unfold FnLook; kernel_rfl
theorem unpackY {t : Addr} {vs : List Value} {n : Nat} {Q : List Value → Shared → Prop} (hh : A.handled = none) (hT : IsTup s.heap t vs.toArray) (hn : n = vs.length)
    (hQ : ∀ h', Ext s.heap h' → h'.objs.size = s.heap.objs.size + 3 → Q vs { s with heap := h' }) : wpAny (MD w) A (unpackItems (.ref t) n none) Q E s := by
  subst hn
  have hlt : t ≠ s.heap.objs.size := by obtain ⟨_, ho, _⟩ := hT; exact Nat.ne_of_lt (Heap.lt_size ho)
  unfold unpackItems
  refine wpAny_bind ?_
  unfold notIterableAtAll
  refine wpAny_bind (wpAny_specialOf hT.typeIs slot_tuple_iter.lookup ?_)
  refine wpAny_pure ?_
  simp only [Bool.false_eq_true, if_false]
  refine wpAny_bind (wpAny_holding (iter_tuple hT ?_))
  refine wpAny_bind (wpAny_holding (draw_tuple hlt vs.length 0 _ _ ⟨_, Heap.get?_push_size _ rfl, rfl, rfl⟩ (hT.push _) (by simp) fun h₁ hit₁ hs₁ => ?_))
  have hall : List.take vs.length (List.drop 0 vs.toArray.toList) = vs := by simp
  rw [hall]
  rw [if_neg (by simp)]
  have ht₁ : IsTup h₁ t vs.toArray := (hT.push _).extBut hs₁.extBut hlt
  refine wpAny_bind (wpAny_holding (tupEnd hh hit₁ ht₁ (by simp) fun h₂ he₂ hz₂ => ?_))
  simp only [Option.isSome_none, Bool.false_eq_true, if_false]
  refine wpAny_pure (hQ h₂ (fun b o e => ?_) ?_)
  · have hb := Nat.ne_of_lt (Heap.lt_size e)
    exact he₂ b o hb (hs₁.extBut b o hb (Heap.get?_push_of_some _ e))
  · dsimp only at hz₂; rw [hz₂, hs₁.1, Heap.size_push]
theorem assignTupY {env : Env} {elts : List Expr} {x1} {pos : Pos} {t : Addr} {vs : List Value} {Q : Unit → Shared → Prop} (hh : A.handled = none) (ht : IsTup s.heap t vs.toArray)
    (hn : (assignEach elts env).length = vs.length) (hstar : (assignEach elts env).findIdx? (·.1) = none)
    (h : ∀ h', Ext s.heap h' → h'.objs.size = s.heap.objs.size + 3 → wpAny (MD w) A (assignInOrder ((assignEach elts env).map (·.2)) vs) Q E { s with heap := h' }) :
    wpAny (MD w) A (assign (.Tuple elts x1 pos) env (.ref t)) Q E s := by
  rw [arm_assign_Tuple]
  refine wpAny_bind (wpAny_standAt ?_)
  unfold unpack
  rw [hstar]
  exact wpAny_bind (wpAny_holding (unpackY hh ht hn h))
/-- a method of a text, called -/
theorem methS {o : Expr} {name : Str} {apos pos : Pos} {args : List Expr} {env : Env} {id : String} {Q : Value → Shared → Prop} (slot : Slot "str" name id) (hty : typeOf (.builtin id) = pure (.type "method_descriptor"))
    (hbase : attributeBase o name env (eval o env) = eval o env)
    (hfew : ((backTo pos (starEach args env)).all (fun x => !x.1) && (backToKw pos (keywordEach [] env)).all (fun x => x.1.isSome)
      && decide (args.length + ([] : List Keyword).length + (if ([] : List Keyword).isEmpty then 0 else 1) < 30)) = true)
    (hline : (apos.endLine == pos.line) = true)
    (h : wpAny (MD w) A (eval o env) (fun ov s₁ => ∃ x t, ov = .str x t ∧ wpAny (MD w) A (callWith pos (.builtin id) [.str x t] (backTo pos (starEach args env)) []) Q E s₁) E s) :
    wpAny (MD w) A (eval (.Call (.Attribute o name apos) args [] pos) env) Q E s := by
  refine wpAny_Call_method_lateS hbase hfew hline (wpAny_mono h (fun ov s₁ h₁ => ?_) fun _ _ e => e)
  obtain ⟨x, t, rfl, hc⟩ := h₁
  exact ⟨"str", id, PySem.F.plainAttrs_str, slot, hty, typeIs_str _ _ _, (fun a e => nomatch e), hc⟩
theorem strsOf {ss : List Str} {vs : List Value} (h : Paired (fun (x : Str) v => ∃ t, v = .str x t) ss vs) : StrsAre vs ss := by
  induction h with
  | nil => exact .nil
  | cons a _ ih => obtain ⟨t, rfl⟩ := a; exact .cons _ _ ih

inductive FmSt (s : Shared) (e it L PL : Addr) (m : Int) (tm : Tok) (k : Nat) (s' : Shared) : Prop
  | mk (h' : Heap) (tk : Nat) (b : List (Str × Value)) (i : Nat) (pv : List Value) (hs : s' = { s with heap := h', toks := tk }) (f0 : ((∃ old, IsEnum h' e it i old) ∧ IsTupIter h' it 105 i ∧ IsTup h' 105 (tabA.map .ref : List Value).toArray)) (f1 : h'.Ns L (lk b)) (f2 : lk b "mode" = some (.int m tm)) (f3 : lk b "perm" = some (.ref PL)) (f4 : Lst h' PL pv) (f5 : Paired (fun (x : Str) v => ∃ t, v = .str x t) ((List.range i).map fun i => charOf i m (tabAt i)) pv) (f6 : Ext s.heap h') (f7 : i ≤ 10) (f8 : k = 10 - i) : FmSt s e it L PL m tm k s'
theorem filemode_spec {m : Int} {tm : Tok} {Q : Value → Shared → Prop} (hB : Base w s.heap) (g : Good A 120) (hbig : 154 ≤ s.heap.objs.size) (hone : ∀ x ∈ charsOf m, x.length = 1)
    (hQ : ∀ h' t' tk, Ext s.heap h' → Q (.str (Txt.join (Str.ofString "") (charsOf m)) t') { s with heap := h', toks := tk }) : wpAny (MD w) A (call (.ref 112) [.int m tm]) Q E s := by
  refine call_fn (binds := [("mode", .int m tm)]) hB (Good.less g (e := 119 + 1) (by (first | lia | omega))) (fn_filemode hB) (fun _ _ _ => rfl) (locs rfl) (fun h₁ cd hn₁ hx₁ hz₁ g' => ?_) rfl rfl rfl (by decide)
  refine wpAny_execs_cons <| wpAny_Assign_Name <| List_ <| args_nil <| newL fun h₂ hx₂ hl₂ hz₂ => ?_
  dsimp only at hx₂ hl₂ hz₂ ⊢
  have hL1 : s.heap.objs.size < h₁.objs.size := hn₁.lt
  refine stL (ns_ext hn₁ hx₂) fun h₃ hn₃ hs₃ => ?_
  dsimp only at hn₃ hs₃ ⊢
  have hLb : s.heap.objs.size ≤ s.heap.objs.size := Nat.le_refl _
  have hP₃ := hl₂.same hs₃ (Nat.ne_of_gt hL1)
  have hx₃ : Ext s.heap h₃ := (hx₁.trans hx₂).same hs₃ hLb
  have hB₃ := hx₃.base hB
  generalize hPL : h₁.objs.size = PL at *
  generalize hL0 : s.heap.objs.size = L at *
  clear hl₂ hx₂ hx₁ hs₃ hn₁
  refine wpAny_execs_cons <| wpAny_For <| Call_Name1 <| ldB hB₃ (by kernel_rfl) (v := .type "enumerate") (by kernel_rfl) <| PySem.callWith_type1 <| ldG hB₃ (v := .ref 105) (by kernel_rfl) <| enum_any (tab105 hB₃) fun e h₄ tk₄ hx₄ ⟨it, he₄, hit₄, fe, fit, hne⟩ => ?_
  dsimp only at hx₄ fe fit ⊢
  refine wpAny_pyIter_enum he₄ ?_
  have fresh : ∀ {b : Addr}, h₃.get? b = none → L ≠ b ∧ PL ≠ b ∧ (∀ c o, s.heap.get? c = some o → c ≠ b) ∧ (105 : Addr) ≠ b := fun {b} hb => by
    refine ⟨fun q => ?_, fun q => ?_, fun c o ec q => ?_, fun q => ?_⟩
    · obtain ⟨o, _, _, q', _⟩ := hn₃; rw [q, hb] at q'; cases q'
    · obtain ⟨o, q'⟩ := hP₃; rw [q, hb] at q'; cases q'
    · have := hx₃ c o ec; rw [q, hb] at this; cases this
    · obtain ⟨o, q'⟩ := tab105 hB₃; rw [q, hb] at q'; cases q'
  obtain ⟨Le, Pe, olde, t5e⟩ := fresh fe
  obtain ⟨Li, Pi, oldi, t5i⟩ := fresh fit
  have D : Draws PR w (A.deeper (fmEnv L cd)).in1 it [it, 105] _ _ _ := drawsT (w := w) (A := (A.deeper (fmEnv L cd)).in1) (show _ = none from g'.handled) it 105 t5i (tabA.map .ref : List Value).toArray
  have WT := WalksT.enumerateD (A := A.deeper (fmEnv L cd)) D e hne (by simp only [List.mem_cons, List.not_mem_nil, or_false, not_or]; exact ⟨hne, t5e.symm⟩) (by simp)
  have h154 : ∀ x ∈ [L, PL], 154 ≤ x := by
    intro x hx
    simp only [List.mem_cons, List.not_mem_nil, or_false] at hx
    rcases hx with rfl | rfl
    · exact hbig
    · exact Nat.le_of_lt (Nat.lt_of_le_of_lt hbig hL1)
  have nLP : ∀ c ∈ [e, it, 105], c ≠ L ∧ c ≠ PL := by
    intro c hc
    simp only [List.mem_cons, List.not_mem_nil, or_false] at hc
    rcases hc with rfl | rfl | rfl
    · exact ⟨Le.symm, Pe.symm⟩
    · exact ⟨Li.symm, Pi.symm⟩
    · exact ⟨Nat.ne_of_lt (Nat.lt_of_lt_of_le (by decide) (h154 L (by simp))), Nat.ne_of_lt (Nat.lt_of_lt_of_le (by decide) (h154 PL (by simp)))⟩
  refine forLoop_any (FmSt s e it L PL m tm) ?_ 10
    ⟨h₄, _, _, 0, [], rfl, ⟨⟨_, he₄⟩, hit₄, (tab105 (hx₄.base hB₃)).isTup⟩, ns_ext hn₃ hx₄, rfl, rfl, hP₃.ext hx₄, .nil, hx₃.trans hx₄, by (first | lia | omega), rfl⟩
  rintro k s' ⟨h', tk, b, i, pv, rfl, st, hn, e1, e2, hP, hpair, hx, hi, rfl⟩
  have ol : ∀ {c : Addr} {o : Obj}, s.heap.get? c = some o → c ∉ [e, it] := fun ec q => by
    simp only [List.mem_cons, List.not_mem_nil, or_false] at q
    exact q.elim (olde _ _ ec) (oldi _ _ ec)
  have Ln : L ∉ [e, it] := by simp only [List.mem_cons, List.not_mem_nil, or_false, not_or]; exact ⟨Le, Li⟩
  have Pn : PL ∉ [e, it] := by simp only [List.mem_cons, List.not_mem_nil, or_false, not_or]; exact ⟨Pe, Pi⟩
  rcases Nat.lt_or_ge i 10 with hlt | hge
  · refine WT.item i _ _ _ hlt st fun T vals h₅ tk₅ ⟨t, x, hPx, hv⟩ hTge hT₅ mid₅ k₅ => ?_
    dsimp only at k₅ hTge ⊢
    have hxv := tabA_at hPx
    subst hxv hv
    refine wpAny_bind <| WT.go _ _ _ i T _ _ _ mid₅ fun h₆ st₆ k₆ => ?_
    dsimp only at k₆ ⊢
    have Tn := WT.apart _ _ _ mid₅
    have hT₆ : IsTup h₆ T [.int (i : Int) t, .ref (addrAt i)].toArray := let ⟨o, q, r⟩ := hT₅; ⟨o, k₆ _ _ Tn q, r⟩
    have kk₆ : ∀ c o, c ∉ [e, it] → h'.get? c = some o → h₆.get? c = some o := fun c o hc q => k₆ c o hc (k₅ c o hc q)
    have hn₆ : h₆.Ns L (lk b) := let ⟨o, es, ep, q, r⟩ := hn; ⟨o, es, ep, kk₆ _ _ Ln q, r⟩
    have hP₆ : Lst h₆ PL pv := let ⟨n, q⟩ := hP; ⟨n, kk₆ _ _ Pn q⟩
    have hx₆ : Ext s.heap h₆ := fun c o q => kk₆ c o (ol q) (hx c o q)
    refine assignTupY g'.handled hT₆ rfl rfl fun h₇ hx₇ _ => ?_
    dsimp only at hx₇ ⊢
    refine assignInOrder_cons <| assign_Name <| stL (ns_ext hn₆ hx₇) fun h₈ hn₈ hs₈ => ?_
    dsimp only at hn₈ hs₈ ⊢
    refine assignInOrder_cons <| assign_Name <| stL hn₈ fun h₉ hn₉ hs₉ => assignInOrder_nil ?_
    dsimp only at hn₉ hs₉ ⊢
    have hx₉ : Ext s.heap h₉ := ((hx₆.trans hx₇).same hs₈ (Nat.le_of_eq hL0)).same hs₉ (Nat.le_of_eq hL0)
    have PLL : PL ≠ L := Nat.ne_of_gt hL1
    have hP₉ := ((hP₆.ext hx₇).same hs₈ PLL).same hs₉ PLL
    have st₉ := WT.frame _ _ h₉ st₆ fun c hc o q => hs₉.extBut c o (nLP c hc).1 (hs₈.extBut c o (nLP c hc).1 (hx₇ c o q))
    have hlen : pv.length = i := by rw [← hpair.length]; simp
    refine wpAny_execs_cons <| inner_spec (i := i) (ps := tabAt i) (hx₉.base hB) (g'.less (by (first | lia | omega))) hn₉ rfl rfl e1 e2 (tab_at i hlt) hP₉ PLL.symm (h154 _ (by simp)) (h154 _ (by simp)) (by (first | lia | omega)) fun h₁₀ tk₁₀ l₁₀ t₁₀ k₁₀ hn₁₀ f1 f2 hP₁₀ => ?_
    dsimp only at k₁₀ ⊢
    refine wpAny_execs_nil ⟨10 - (i + 1), by (first | lia | omega), h₁₀, tk₁₀, l₁₀, i + 1, _, rfl, ?_, hn₁₀, f1, f2, hP₁₀, ?_, ?_, hlt, rfl⟩
    · exact WT.frame _ _ _ st₉ fun c hc o q => k₁₀ c o (fun hm => by
        simp only [List.mem_cons, List.not_mem_nil, or_false] at hm
        exact hm.elim (nLP c hc).1 (nLP c hc).2) q
    · rw [List.range_succ, List.map_append]
      exact Paired.snoc hpair ⟨t₁₀, rfl⟩
    · intro c o q
      have hc : c < L := hL0 ▸ Heap.lt_size q
      refine k₁₀ c o (fun hm => ?_) (hx₉ c o q)
      simp only [List.mem_cons, List.not_mem_nil, or_false] at hm
      exact hm.elim (Nat.ne_of_lt hc) (Nat.ne_of_lt (Nat.lt_trans hc hL1))
  · have : i = 10 := by (first | lia | omega)
    subst this
    refine WT.done _ _ _ st fun h₅ tk₅ k₅ => wpAny_execs_nil ?_
    dsimp only at k₅ ⊢
    have hn₅ : h₅.Ns L (lk b) := let ⟨o, es, ep, q, r⟩ := hn; ⟨o, es, ep, k₅ _ _ Ln q, r⟩
    have hP₅ : Lst h₅ PL pv := let ⟨n, q⟩ := hP; ⟨n, k₅ _ _ Pn q⟩
    have hx₅ : Ext s.heap h₅ := fun c o q => k₅ c o (ol q) (hx c o q)
    refine wpAny_execs_cons <| wpAny_Return_some <| methS PySem.F.slot_str_join PySem.F.type_str_join rfl rfl rfl <| Constant_str (k := 0) (pos := ⟨120, 11, 120, 13⟩) ⟨_, _, rfl, with1 <| ldL hn₅ e2 <| join_list (ys := charsOf m) hP₅.isList (by rw [List.toList_toArray]; exact strsOf hpair) ?_ fun t' k => hQ _ _ _ hx₅⟩
    have hl : (charsOf m).length = 10 := by simp [charsOf]
    have hs : ∀ l : List Str, (∀ x ∈ l, x.length = 1) → (l.map (·.length)).sum = l.length := by
      intro l
      induction l with
      | nil => intro _; rfl
      | cons a r ih => intro h; simp [h a (.head _), ih fun x hx => h x (.tail _ hx)]; (first | lia | omega)
    rw [hs _ hone, hl]
    exact (by decide : 10 + 10 * (Str.ofString "").length ≤ 16777216)
end
end Mine

end
section
open PySem PySem.W PySem.W.X PyProof.Rows PySem.Calls
set_option Elab.async false
set_option maxRecDepth 100000
set_option maxHeartbeats 0
set_option linter.unusedVariables false
namespace Mine
/-- the class's three signs -/
noncomputable def sgn (m b : Int) : Str := Txt.slice (Txt.join (Str.ofString "") (charsOf m)) (some (7 - 3 * b)) (some (10 - 3 * b))
noncomputable def seenB (m b : Int) : Nat → Bool
  | 0 => Txt.item (sgn m b) 0 == Str.ofString "r"
  | 1 => Txt.item (sgn m b) 1 == Str.ofString "w"
  | 2 => Txt.contains (Str.ofString "xst") (Txt.item (sgn m b) 2)
  | _ => Txt.contains (Str.ofString "sStT") (Txt.item (sgn m b) 2)
noncomputable def seenL (f : Nat → Bool) : List Int := ((List.range 4).filter f).map fun i => (2 : Int) ^ i
noncomputable def seenV (m b : Int) : Int := preSum (fun i => (seenL (seenB m b)).getD i 0) (seenL (seenB m b)).length

noncomputable def cpAt (i : Nat) (m : Int) : Nat := (charOf i m (tabAt i)).cps.getD 0 0
theorem tab_single : ∀ i, i < 10 → ∀ p ∈ tabAt i, p.2 = ⟨#[p.2.cps.getD 0 0]⟩ := by decide +kernel
theorem char_one (m : Int) {i : Nat} (hi : i < 10) : charOf i m (tabAt i) = ⟨#[cpAt i m]⟩ := by
  have key : ∀ c : Str, c = ⟨#[c.cps.getD 0 0]⟩ → c = ⟨#[c.cps.getD 0 0]⟩ := fun _ h => h
  unfold cpAt
  apply key
  unfold charOf
  cases e : (tabAt i).find? (hit i m) with
  | some p => exact tab_single i hi p (List.mem_of_find?_eq_some e)
  | none =>
    by_cases h : i = 0
    · simp only [h, if_true]; decide +kernel
    · simp only [h, if_false]; decide +kernel
theorem charsOf_eq (m : Int) : charsOf m = [⟨#[cpAt 0 m]⟩, ⟨#[cpAt 1 m]⟩, ⟨#[cpAt 2 m]⟩, ⟨#[cpAt 3 m]⟩, ⟨#[cpAt 4 m]⟩, ⟨#[cpAt 5 m]⟩, ⟨#[cpAt 6 m]⟩, ⟨#[cpAt 7 m]⟩, ⟨#[cpAt 8 m]⟩, ⟨#[cpAt 9 m]⟩] := by
  show [charOf 0 m (tabAt 0), charOf 1 m (tabAt 1), charOf 2 m (tabAt 2), charOf 3 m (tabAt 3), charOf 4 m (tabAt 4), charOf 5 m (tabAt 5), charOf 6 m (tabAt 6), charOf 7 m (tabAt 7), charOf 8 m (tabAt 8), charOf 9 m (tabAt 9)] = _
  rw [char_one m (i := 0) (by decide), char_one m (i := 1) (by decide), char_one m (i := 2) (by decide), char_one m (i := 3) (by decide), char_one m (i := 4) (by decide), char_one m (i := 5) (by decide), char_one m (i := 6) (by decide), char_one m (i := 7) (by decide), char_one m (i := 8) (by decide), char_one m (i := 9) (by decide)]
theorem chars_single (m : Int) : ∀ x ∈ charsOf m, x.length = 1 := by
  rw [charsOf_eq]
  intro x hx
  simp only [List.mem_cons, List.not_mem_nil, or_false] at hx
  rcases hx with rfl | rfl | rfl | rfl | rfl | rfl | rfl | rfl | rfl | rfl <;> rfl
theorem join_eq (m : Int) : Txt.join (Str.ofString "") (charsOf m) = ⟨#[cpAt 0 m, cpAt 1 m, cpAt 2 m, cpAt 3 m, cpAt 4 m, cpAt 5 m, cpAt 6 m, cpAt 7 m, cpAt 8 m, cpAt 9 m]⟩ := by
  rw [charsOf_eq, show Str.ofString "" = ⟨#[]⟩ by decide +kernel]
  rfl
theorem join_small (m : Int) : (Txt.join (Str.ofString "") (charsOf m)).length ≤ sizeLine := by
  rw [join_eq]
  show 10 ≤ sizeLine
  decide
theorem sgn_eq (m b : Int) (hb : b = 0 ∨ b = 1 ∨ b = 2) : sgn m b = ⟨#[cpAt (7 - 3 * b).toNat m, cpAt (8 - 3 * b).toNat m, cpAt (9 - 3 * b).toNat m]⟩ := by
  unfold sgn
  rw [join_eq]
  rcases hb with rfl | rfl | rfl <;> rfl
theorem sgn_len (m b : Int) (hb : b = 0 ∨ b = 1 ∨ b = 2) : (sgn m b).length = 3 := by rw [sgn_eq m b hb]; rfl
noncomputable def hitN (m n : Int) : Bool := Builtin.bitAnd m n == n
theorem seenB_eq (m b : Int) (hb : b = 0 ∨ b = 1 ∨ b = 2) (hA : hitN m (512 * 2 ^ b.toNat + 8 ^ b.toNat) = (hitN m (512 * 2 ^ b.toNat) && hitN m (8 ^ b.toNat))) :
    seenB m b 0 = hitN m (4 * 8 ^ b.toNat) ∧ seenB m b 1 = hitN m (2 * 8 ^ b.toNat) ∧ seenB m b 2 = hitN m (8 ^ b.toNat) ∧ seenB m b 3 = hitN m (512 * 2 ^ b.toNat) := by
  have cp1 : ∀ (i : Nat) (n : Int) (c : Str), i ≠ 0 → tabAt i = [(n, c)] → cpAt i m = if hitN m n then c.cps.getD 0 0 else 45 := by
    intro i n c h0 ht
    unfold cpAt charOf
    rw [ht]
    simp only [List.find?, hit, if_neg h0]
    show _ = if (Builtin.bitAnd m n == n) = true then _ else _
    cases (Builtin.bitAnd m n == n) <;> rfl
  have cp3 : ∀ (i : Nat) (n1 n2 n3 : Int) (c1 c2 c3 : Str), i ≠ 0 → tabAt i = [(n1, c1), (n2, c2), (n3, c3)] → cpAt i m = if hitN m n1 then c1.cps.getD 0 0 else if hitN m n2 then c2.cps.getD 0 0 else if hitN m n3 then c3.cps.getD 0 0 else 45 := by
    intro i n1 n2 n3 c1 c2 c3 h0 ht
    unfold cpAt charOf
    rw [ht]
    simp only [List.find?, hit, if_neg h0]
    show _ = if (Builtin.bitAnd m n1 == n1) = true then _ else if (Builtin.bitAnd m n2 == n2) = true then _ else if (Builtin.bitAnd m n3 == n3) = true then _ else _
    cases (Builtin.bitAnd m n1 == n1) <;> cases (Builtin.bitAnd m n2 == n2) <;> cases (Builtin.bitAnd m n3 == n3) <;> rfl
  have e0 : ∀ a b c : Nat, Txt.item ⟨#[a, b, c]⟩ 0 = ⟨#[a]⟩ := fun _ _ _ => rfl
  have e1 : ∀ a b c : Nat, Txt.item ⟨#[a, b, c]⟩ 1 = ⟨#[b]⟩ := fun _ _ _ => rfl
  have e2 : ∀ a b c : Nat, Txt.item ⟨#[a, b, c]⟩ 2 = ⟨#[c]⟩ := fun _ _ _ => rfl
  unfold seenB
  rw [sgn_eq m b hb]
  simp only [e0, e1, e2]
  have fin : ∀ (s S : Str), (s = Str.ofString "t" ∧ S = Str.ofString "T") ∨ (s = Str.ofString "s" ∧ S = Str.ofString "S") → ∀ a b A X : Bool,
      ((⟨#[if a then (Str.ofString "r").cps.getD 0 0 else 45]⟩ : Str) == Str.ofString "r") = a ∧ ((⟨#[if b then (Str.ofString "w").cps.getD 0 0 else 45]⟩ : Str) == Str.ofString "w") = b ∧
      Txt.contains (Str.ofString "xst") ⟨#[if (A && X) = true then s.cps.getD 0 0 else if A then S.cps.getD 0 0 else if X then (Str.ofString "x").cps.getD 0 0 else 45]⟩ = X ∧
      Txt.contains (Str.ofString "sStT") ⟨#[if (A && X) = true then s.cps.getD 0 0 else if A then S.cps.getD 0 0 else if X then (Str.ofString "x").cps.getD 0 0 else 45]⟩ = A := by
    rintro s S (⟨rfl, rfl⟩ | ⟨rfl, rfl⟩) <;> decide +kernel
  rcases hb with rfl | rfl | rfl
  · show ((⟨#[cpAt 7 m]⟩ : Str) == _) = hitN m 4 ∧ ((⟨#[cpAt 8 m]⟩ : Str) == _) = hitN m 2 ∧ Txt.contains _ ⟨#[cpAt 9 m]⟩ = hitN m 1 ∧ Txt.contains _ ⟨#[cpAt 9 m]⟩ = hitN m 512
    rw [cp1 7 4 (Str.ofString "r") (by decide) rfl, cp1 8 2 (Str.ofString "w") (by decide) rfl, cp3 9 513 512 1 (Str.ofString "t") (Str.ofString "T") (Str.ofString "x") (by decide) rfl, show hitN m 513 = (hitN m 512 && hitN m 1) from hA]
    exact fin _ _ (.inl ⟨rfl, rfl⟩) _ _ _ _
  · show ((⟨#[cpAt 4 m]⟩ : Str) == _) = hitN m 32 ∧ ((⟨#[cpAt 5 m]⟩ : Str) == _) = hitN m 16 ∧ Txt.contains _ ⟨#[cpAt 6 m]⟩ = hitN m 8 ∧ Txt.contains _ ⟨#[cpAt 6 m]⟩ = hitN m 1024
    rw [cp1 4 32 (Str.ofString "r") (by decide) rfl, cp1 5 16 (Str.ofString "w") (by decide) rfl, cp3 6 1032 1024 8 (Str.ofString "s") (Str.ofString "S") (Str.ofString "x") (by decide) rfl, show hitN m 1032 = (hitN m 1024 && hitN m 8) from hA]
    exact fin _ _ (.inr ⟨rfl, rfl⟩) _ _ _ _
  · show ((⟨#[cpAt 1 m]⟩ : Str) == _) = hitN m 256 ∧ ((⟨#[cpAt 2 m]⟩ : Str) == _) = hitN m 128 ∧ Txt.contains _ ⟨#[cpAt 3 m]⟩ = hitN m 64 ∧ Txt.contains _ ⟨#[cpAt 3 m]⟩ = hitN m 2048
    rw [cp1 1 256 (Str.ofString "r") (by decide) rfl, cp1 2 128 (Str.ofString "w") (by decide) rfl, cp3 3 2112 2048 64 (Str.ofString "s") (Str.ofString "S") (Str.ofString "x") (by decide) rfl, show hitN m 2112 = (hitN m 2048 && hitN m 64) from hA]
    exact fin _ _ (.inr ⟨rfl, rfl⟩) _ _ _ _

theorem hitN_and (m n : Nat) : hitN m n = (m &&& n == n) := by
  unfold hitN
  rw [bitAnd_pp (Int.natCast_nonneg _) (Int.natCast_nonneg _), Int.toNat_natCast, Int.toNat_natCast]
  exact Bool.eq_iff_iff.mpr (by simp only [beq_iff_eq]; (first | lia | omega))
theorem hitN_bit (m k : Nat) : hitN m ((2 ^ k : Nat) : Int) = m.testBit k := by
  rw [hitN_and]
  refine Bool.eq_iff_iff.mpr ?_
  rw [beq_iff_eq]
  constructor
  · intro h
    have := congrArg (·.testBit k) h
    simpa [Nat.testBit_and, Nat.testBit_two_pow] using this
  · intro h
    refine Nat.eq_of_testBit_eq fun i => ?_
    rw [Nat.testBit_and, Nat.testBit_two_pow]
    by_cases e : k = i
    · subst e; simp [h]
    · simp [e]
theorem hitN_two (m j k : Nat) : hitN m ((2 ^ j ||| 2 ^ k : Nat) : Int) = (m.testBit j && m.testBit k) := by
  rw [hitN_and]
  refine Bool.eq_iff_iff.mpr ?_
  rw [beq_iff_eq, Bool.and_eq_true]
  constructor
  · intro h
    have a := congrArg (·.testBit j) h
    have b := congrArg (·.testBit k) h
    constructor
    · simpa [Nat.testBit_and, Nat.testBit_or, Nat.testBit_two_pow] using a
    · simpa [Nat.testBit_and, Nat.testBit_or, Nat.testBit_two_pow] using b
  · rintro ⟨h1, h2⟩
    refine Nat.eq_of_testBit_eq fun i => ?_
    rw [Nat.testBit_and, Nat.testBit_or, Nat.testBit_two_pow, Nat.testBit_two_pow]
    by_cases e : j = i
    · subst e; simp [h1]
    · by_cases f : k = i
      · subst f; simp [h2]
      · simp [e, f]
/-- the rights with their bits in the listing's order -/
noncomputable def sig (r : Nat) : Nat := r / 4 % 2 + 2 * (r / 2 % 2) + 4 * (r % 2) + 8 * (r / 8 % 2)
theorem seenV_eq (m b : Int) : seenV m b = (if seenB m b 0 then 1 else 0) + 2 * (if seenB m b 1 then 1 else 0) + 4 * (if seenB m b 2 then 1 else 0) + 8 * (if seenB m b 3 then 1 else 0) := by
  have key : ∀ a b c d : Bool, preSum (fun i => (seenL fun i => [a, b, c, d].getD i false).getD i 0) (seenL fun i => [a, b, c, d].getD i false).length = (if a then 1 else 0) + 2 * (if b then 1 else 0) + 4 * (if c then 1 else 0) + 8 * (if d then 1 else 0) := by decide
  have e : seenL (seenB m b) = seenL fun i => [seenB m b 0, seenB m b 1, seenB m b 2, seenB m b 3].getD i false := by
    unfold seenL
    congr 1
  unfold seenV
  rw [e]
  exact key _ _ _ _
noncomputable def bitsB (M r j0 j1 j2 j3 : Nat) : Bool := M / 2 ^ j0 % 2 == r / 4 % 2 && M / 2 ^ j1 % 2 == r / 2 % 2 && M / 2 ^ j2 % 2 == r % 2 && M / 2 ^ j3 % 2 == r / 8 % 2
theorem seen_bits (M r : Nat) (b : Int) (j0 j1 j2 j3 : Nat) (hb : b = 0 ∨ b = 1 ∨ b = 2) (h0 : ((2 ^ j0 : Nat) : Int) = 4 * 8 ^ b.toNat) (h1 : ((2 ^ j1 : Nat) : Int) = 2 * 8 ^ b.toNat) (h2 : ((2 ^ j2 : Nat) : Int) = 8 ^ b.toNat)
    (h3 : ((2 ^ j3 : Nat) : Int) = 512 * 2 ^ b.toNat) (h4 : ((2 ^ j3 ||| 2 ^ j2 : Nat) : Int) = 512 * 2 ^ b.toNat + 8 ^ b.toNat)
    (gb : bitsB M r j0 j1 j2 j3 = true) : seenV (M : Int) b = (sig r : Nat) := by
  unfold bitsB at gb
  simp only [Bool.and_eq_true, beq_iff_eq] at gb
  obtain ⟨⟨⟨g0, g1⟩, g2⟩, g3⟩ := gb
  have bit : ∀ k : Nat, M.testBit k = decide (M / 2 ^ k % 2 = 1) := fun k => Nat.testBit_eq_decide_div_mod_eq ..
  obtain ⟨s0, s1, s2, s3⟩ := seenB_eq (M : Int) b hb (by rw [← h2, ← h3, hitN_bit, hitN_bit, h2, h3, ← h4, hitN_two])
  rw [← h0, hitN_bit, bit, g0] at s0
  rw [← h1, hitN_bit, bit, g1] at s1
  rw [← h2, hitN_bit, bit, g2] at s2
  rw [← h3, hitN_bit, bit, g3] at s3
  rw [seenV_eq, s0, s1, s2, s3]
  unfold sig
  have e : ∀ x : Nat, (if decide (x % 2 = 1) = true then (1 : Int) else 0) = ((x % 2 : Nat) : Int) := fun x => by
    rcases Nat.mod_two_eq_zero_or_one x with h | h <;> simp [h]
  rw [e, e, e, e]
  (first | lia | omega)
theorem bit_up (q z k : Nat) (hk : k < 12) : (4096 * q + z) / 2 ^ k % 2 = z / 2 ^ k % 2 := by
  have e : (4096 * q + z) / 2 ^ k = 2 ^ (12 - k) * q + z / 2 ^ k := by
    have : 4096 * q = 2 ^ k * (2 ^ (12 - k) * q) := by rw [← Nat.mul_assoc, ← Nat.pow_add, Nat.add_sub_cancel' (Nat.le_of_lt hk)]
    rw [this, Nat.mul_add_div (Nat.two_pow_pos k)]
  rw [e]
  have e2 : 2 ^ (12 - k) * q = 2 * (2 ^ (11 - k) * q) := by rw [← Nat.mul_assoc, ← Nat.pow_succ', show (11 - k).succ = 12 - k by (first | lia | omega)]
  rw [e2, Nat.mul_add_mod]
theorem bitsB_up (q z r j0 j1 j2 j3 : Nat) (h0 : j0 < 12) (h1 : j1 < 12) (h2 : j2 < 12) (h3 : j3 < 12) (h : bitsB z r j0 j1 j2 j3 = true) : bitsB (4096 * q + z) r j0 j1 j2 j3 = true := by
  unfold bitsB at h ⊢
  rw [bit_up q z j0 h0, bit_up q z j1 h1, bit_up q z j2 h2, bit_up q z j3 h3]; exact h
theorem bits_dec0 : ∀ x, x < 2 → ∀ y, y < 8 → ∀ u, u < 8 → ∀ v, v < 8 → bitsB (x * 512 + y + (u * 8 + v * 64)) (8 * x + y) 2 1 0 9 = true := by decide +kernel
theorem bits_dec1 : ∀ x, x < 2 → ∀ y, y < 8 → ∀ u, u < 8 → ∀ v, v < 8 → bitsB (x * 1024 + y * 8 + (u * 64 + v)) (8 * x + y) 5 4 3 10 = true := by decide +kernel
theorem bits_dec2 : ∀ x, x < 2 → ∀ y, y < 8 → ∀ u, u < 8 → ∀ v, v < 8 → bitsB (x * 2048 + y * 64 + (u + v * 8)) (8 * x + y) 8 7 6 11 = true := by decide +kernel
theorem seen_of_thing {N k b : Int} (hN : 0 ≤ N ∧ N < 1000000) (hk : 0 ≤ k ∧ k < 16) (hb : b = 0 ∨ b = 1 ∨ b = 2) : seenV (thingD N k b).1 b = (sig (N % 16).toNat : Nat) := by
  have hd : ∀ (x : Int) (n : Nat), x.fdiv (n : Int) = x / n := fdE
  have hm : ∀ (x : Int) (n : Nat), x.fmod (n : Int) = x % n := fmE
  obtain ⟨n, rfl⟩ := Int.eq_ofNat_of_zero_le hN.1
  obtain ⟨q, rfl⟩ := Int.eq_ofNat_of_zero_le hk.1
  have e16 : (n : Int).fmod 16 = ((n % 16 : Nat) : Int) := hm n 16
  have e48 : ((n : Int).fdiv 4800).fmod 64 = ((n / 4800 % 64 : Nat) : Int) := by
    rw [show (n : Int).fdiv 4800 = ((n / 4800 : Nat) : Int) from hd n 4800]; exact hm _ 64
  have d8 : ∀ x : Nat, (x : Int).fdiv 8 = ((x / 8 : Nat) : Int) := fun x => hd x 8
  have m8 : ∀ x : Nat, (x : Int).fmod 8 = ((x % 8 : Nat) : Int) := fun x => hm x 8
  generalize hr : n % 16 = r at *
  generalize ho : n / 4800 % 64 = o at *
  have hr' : r < 16 := by (first | lia | omega)
  have ho' : o < 64 := by (first | lia | omega)
  have e0 : ((n : Int) % 16).toNat = r := by (first | lia | omega)
  rw [e0]
  have x1 : r / 8 < 2 := by (first | lia | omega)
  have x2 : r % 8 < 8 := by (first | lia | omega)
  have x3 : o / 8 < 8 := by (first | lia | omega)
  have x4 : o % 8 < 8 := by (first | lia | omega)
  have er : r = 8 * (r / 8) + r % 8 := by (first | lia | omega)
  rcases hb with rfl | rfl | rfl
  · have eM : (thingD (n : Int) q 0).1 = ((4096 * q + r / 8 * 512 + r % 8 + (o / 8 * 8 + o % 8 * 64) : Nat) : Int) := by
      unfold thingD
      simp only [e16, e48, d8, m8]
      show (4096 * (q : Int) + ((r / 8 : Nat) : Int) * 2 ^ 9 + ((r % 8 : Nat) : Int) * 8 ^ 0 + (((o / 8 : Nat) : Int) * 8 ^ 1 + ((o % 8 : Nat) : Int) * 8 ^ 2)) = _
      (first | lia | omega)
    rw [eM]
    have B := bits_dec0 _ x1 _ x2 _ x3 _ x4
    rw [← er] at B
    rw [Nat.add_assoc (4096 * q), Nat.add_assoc (4096 * q)]
    exact seen_bits _ r 0 2 1 0 9 (.inl rfl) rfl rfl rfl rfl rfl (bitsB_up _ _ _ _ _ _ _ (by decide) (by decide) (by decide) (by decide) B)
  · have eM : (thingD (n : Int) q 1).1 = ((4096 * q + r / 8 * 1024 + r % 8 * 8 + (o / 8 * 64 + o % 8) : Nat) : Int) := by
      unfold thingD
      simp only [e16, e48, d8, m8]
      show (4096 * (q : Int) + ((r / 8 : Nat) : Int) * 2 ^ 10 + ((r % 8 : Nat) : Int) * 8 ^ 1 + (((o / 8 : Nat) : Int) * 8 ^ 2 + ((o % 8 : Nat) : Int) * 8 ^ 0)) = _
      (first | lia | omega)
    rw [eM]
    have B := bits_dec1 _ x1 _ x2 _ x3 _ x4
    rw [← er] at B
    rw [Nat.add_assoc (4096 * q), Nat.add_assoc (4096 * q)]
    exact seen_bits _ r 1 5 4 3 10 (.inr (.inl rfl)) rfl rfl rfl rfl rfl (bitsB_up _ _ _ _ _ _ _ (by decide) (by decide) (by decide) (by decide) B)
  · have eM : (thingD (n : Int) q 2).1 = ((4096 * q + r / 8 * 2048 + r % 8 * 64 + (o / 8 + o % 8 * 8) : Nat) : Int) := by
      unfold thingD
      simp only [e16, e48, d8, m8]
      show (4096 * (q : Int) + ((r / 8 : Nat) : Int) * 2 ^ 11 + ((r % 8 : Nat) : Int) * 8 ^ 2 + (((o / 8 : Nat) : Int) * 8 ^ 0 + ((o % 8 : Nat) : Int) * 8 ^ 1)) = _
      (first | lia | omega)
    rw [eM]
    have B := bits_dec2 _ x1 _ x2 _ x3 _ x4
    rw [← er] at B
    rw [Nat.add_assoc (4096 * q), Nat.add_assoc (4096 * q)]
    exact seen_bits _ r 2 8 7 6 11 (.inr (.inr rfl)) rfl rfl rfl rfl rfl (bitsB_up _ _ _ _ _ _ _ (by decide) (by decide) (by decide) (by decide) B)
end Mine

end
section
open PySem PySem.W PySem.W.X PyProof.Rows PySem.Calls
set_option Elab.async false
set_option maxRecDepth 100000
set_option maxHeartbeats 0
set_option linter.unusedVariables false
namespace Mine
noncomputable abbrev seenEnv (L : Addr) (cd : Value) : Env := envC "_law_seen" (fnScope 35) L 124 cd (cellsFrom (L + 1) (fnScope 35).names [])
noncomputable def seenC : Expr := match fnBody 35 with
  | [_, _, .Return (some (.Call _ (c :: _) _ _)) _] => c
  | _ => .Name "" ⟨0, 0, 0, 0⟩
theorem seenL_fits (f : Nat → Bool) : ∀ j, j < (seenL f).length → InLong ((seenL f).getD j 0) ∧ InLong (preSum (fun i => (seenL f).getD i 0) (j + 1)) := by
  have key : ∀ a b c d : Bool, ∀ j, j < (seenL fun i => [a, b, c, d].getD i false).length → InLong ((seenL fun i => [a, b, c, d].getD i false).getD j 0) ∧ InLong (preSum (fun k => (seenL fun i => [a, b, c, d].getD i false).getD k 0) (j + 1)) := by
    unfold InLong
    decide
  have e : seenL f = seenL fun i => [f 0, f 1, f 2, f 3].getD i false := by
    unfold seenL
    congr 1
  rw [e]
  exact key _ _ _ _
section
variable {w : World} {A : Around} {E : Value → Shared → Prop} {s : Shared}
theorem tri_out {n I z b : Nat} (h1 : n < I) (h2 : z = I + 1) (h3 : b < n) : b ∉ z :: (z + 1) :: [I] := by
  simp only [List.mem_cons, List.not_mem_nil, or_false]; (first | lia | omega)
theorem four_at {f : Nat → Bool} {i : Nat} (h : i < 4) : [Value.bool (f 0), .bool (f 1), .bool (f 2), .bool (f 3)][i]? = some (.bool (f i)) := by
  match i, h with
  | 0, _ | 1, _ | 2, _ | 3, _ => rfl
theorem look_seen : FnLook w 124 := by unfold FnLook; kernel_rfl
theorem rangeX {n : Nat} {t : Tok} {Q : Value → Shared → Prop} (hn : n ≤ 1000)
    (hQ : ∀ h' tk, Ext s.heap h' → IsRangeIter h' (s.heap.objs.size + 1) ((0 : Int) + (0 : Nat) * 1) ((n : Int) - (0 : Nat)) 1 → h'.objs.size = s.heap.objs.size + 2 → Q (.ref (s.heap.objs.size + 1)) { s with heap := h', toks := tk }) :
    wpAny (MD w) A (call (.type "range") [.int (n : Int) t]) (fun v s₁ => wpAny (MD w) A (pyIter v) Q E s₁) E s := by
  refine call_range_1 ?_
  refine iterRange (n := n) (Heap.get?_push_size _ rfl) hn fun h' hx hi hz => ?_
  dsimp only at hx hi hz ⊢
  rw [Heap.size_push] at hi hz ⊢
  exact hQ h' _ (fun b o e => hx b o (Heap.get?_push_of_some _ e)) hi hz
/-- the sum of the places that are there -/
theorem seen_sum {L S : Addr} {cd : Value} {f : Nat → Bool} {Q : Value → Shared → Prop} (hB : Base w s.heap) (g : Good A 105) (cS : s.heap.IsCell (L + 1) (some (.ref S))) (hS : Lst s.heap S [.bool (f 0), .bool (f 1), .bool (f 2), .bool (f 3)])
    (hQ : ∀ h' X ys tk, Ext s.heap h' → Lst h' X ys → Paired (fun (n : Int) v => ∃ t, v = .int n t) (seenL f) ys → Q (.ref X) { s with heap := h', toks := tk }) : wpAny (MD w) A (eval seenC (seenEnv L cd)) Q E s := by
  refine lcomp (cl := [("seen", L + 1)]) rfl (by decide) rfl (by decide) <| Call_Name1 <| ldBE hB (by kernel_rfl) (v := .type "range") (by kernel_rfl) <| PySem.callWith_type1 <| wpAny_Constant_int <| rangeX (n := 4) (by (first | lia | omega)) fun h₂ tk₂ hx hi₂ hz₂ => ?_
  dsimp only at hx hi₂ hz₂ ⊢
  generalize hI0 : s.heap.objs.size + 1 = I at *
  have hI : s.heap.objs.size < I := by (first | lia | omega)
  have hzI : h₂.objs.size = I + 1 := by (first | lia | omega)
  refine ⟨false, _, [I], [I], 4, _, _, f, fun _ _ i y => ∃ t, y = .int ((2 : Int) ^ i) t, fun i l => ∃ t, lk l "place" = some (.int (i : Int) t), fun _ _ => True, 0, rfl,
    { walk := Wk.range g.handled _ 4, few := by decide, st := hi₂, below := ?_, asg := ?_, tests := ?_, elt := ?_, stab := fun _ _ _ _ h _ => h }, fun ys h₅ tk₅ hdone => ?_⟩
  · intro b hb; rw [List.mem_singleton.mp hb]; dsimp only; rw [hzI]; exact Nat.lt_succ_self _
  · intro i v s' l Q E' hi hP hk hn st hQ
    obtain ⟨t, rfl⟩ := hP
    refine asgName (B := fun l => ∃ t, lk l "place" = some (.int (i : Int) t)) (Wk.range g.handled _ 4) ?_ rfl rfl hn st ⟨t, rfl⟩ hQ
    intro hm'
    have e : h₂.objs.size + 1 = I := List.mem_singleton.mp hm'
    (first | lia | omega)
  · rintro i s' l E' hi ⟨t, hv⟩ hn hk
    have hx' : Ext s.heap s'.heap := fun b o e => hk b o (tri_out hI hzI (Heap.lt_size e)) (hx b o e)
    have fin : ∀ b : Bool, b = f i → (b = f i ∧ ∃ h' tk, s' = { s' with heap := h', toks := tk } ∧ Ext s'.heap h' ∧ SZ false h' tk s'.heap.objs.size s'.toks) := fun b hb => ⟨hb, s'.heap, s'.toks, rfl, Ext.refl _, SZ.no⟩
    refine wpAny_tests_one <| isTrue_plain <| Subscript_ <| ldC (c := L + 1) (cS.keeps hx') <| ldE (l := l) hn hv <| tailL (v := .bool (f i)) (hS.ext hx') (Int.natCast_nonneg _) (by rw [Int.toNat_natCast]; exact four_at hi) (by simp) <| wpAny_truthy_bool (fin _ rfl)
  · rintro i s' l E' hi _ ⟨t, hv⟩ hn hk _
    refine wpAny_BinOp <| wpAny_Constant_int <| ldE (l := l) hn hv <| pow_int (Int.natCast_nonneg _) (by rw [show (Builtin.Int.intBits 2 : Int) = 2 by decide +kernel]; (first | lia | omega)) ⟨s'.heap, _, rfl, Ext.refl _, ⟨_, by rw [Int.toNat_natCast]⟩, fun _ _ _ _ => trivial, SZ.no⟩
  · obtain ⟨hl, hF, _, hk, _⟩ := hdone
    dsimp only at hl hF hk ⊢
    refine hQ h₅ _ ys tk₅ (fun b o e => hk b o (fun q => ?_) (hx b o e)) hl (Paired.mapL hF)
    exact absurd (List.mem_singleton.mp q) (Nat.ne_of_lt (Nat.lt_trans (Heap.lt_size e) hI))

theorem seen_spec {m b : Int} {tm tb : Tok} {Q : Value → Shared → Prop} (hB : Base w s.heap) (g : Good A 130) (hbig : 154 ≤ s.heap.objs.size) (hb : b = 0 ∨ b = 1 ∨ b = 2)
    (hQ : ∀ h' t' tk, Ext s.heap h' → Q (.int (seenV m b) t') { s with heap := h', toks := tk }) : wpAny (MD w) A (call (.ref 124) [.int m tm, .int b tb]) Q E s := by
  refine call_fnC (binds := [("mode", .int m tm), ("block", .int b tb)]) hB (Good.less g (e := 129 + 1) (by (first | lia | omega))) (fn_seen hB) (fun _ _ _ => rfl) (locs rfl) (fun h₁ cd hn₁ hc₁ hx₁ hz₁ g' => ?_) rfl rfl rfl
  have hB₁ := hx₁.base hB
  have c₁ : h₁.IsCell (s.heap.objs.size + 1) none := hc₁ "seen" _ rfl
  have hz₁' : h₁.objs.size = s.heap.objs.size + 2 := hz₁
  have hLb : s.heap.objs.size ≤ s.heap.objs.size := Nat.le_refl _
  have hlen := sgn_len m b hb
  have m3 : ∀ y, IntMulOk (3 : Int) y := fun y => IntMulOk.of_left (by decide +kernel)
  refine wpAny_execs_cons <| wpAny_Assign_Name <| Subscript_ <| Call_Name1 <| ldGE hB₁ (v := .ref 112) (by kernel_rfl) <| call1 look_filemode <| ldE hn₁ rfl ⟨hB₁, filemode_spec hB₁ (g'.less (by (first | lia | omega))) (by show 154 ≤ h₁.objs.size; (first | lia | omega)) (chars_single m) fun h₂ t₂ tk₂ hx₂ => ?_⟩
  dsimp only at hx₂ ⊢
  have hn₂ := ns_ext hn₁ hx₂
  refine wpAny_Slice <| evalPart_some_step <| wpAny_BinOp <| wpAny_Constant_int <| wpAny_BinOp <| wpAny_Constant_int <| ldE hn₂ rfl <| mul_int (hm := m3 _) <| sub_int <| evalPart_some_step <| wpAny_BinOp <| wpAny_Constant_int <| wpAny_BinOp <| wpAny_Constant_int <|
    ldE hn₂ rfl <| mul_int (hm := m3 _) <| sub_int <| evalPart_none_step <| tail_of_ItemOn (SBH.sliceItem_ss (P := Ext h₂) (fun h o x => x.push o) (Ext.refl _) (fun h₃ t₃ tk₃ hx₃ => ?_) ?_) (by with_unfolding_all rfl) (by intro _; with_unfolding_all rfl)
  case refine_2 => exact join_small m
  dsimp only at hx₃ ⊢
  have hx₃' := hx₂.trans hx₃
  refine stE (ns_ext hn₂ hx₃) fun h₄ hn₄ hs₄ => ?_
  replace hs₄ : Heap.SameBut s.heap.objs.size h₃ h₄ := hs₄
  have hx₄ : Ext s.heap h₄ := (hx₁.trans hx₃').same hs₄ hLb
  have c₄ : h₄.IsCell (s.heap.objs.size + 1) none := (c₁.keeps hx₃').sameBut hs₄ (Nat.succ_ne_self _)
  have hB₄ := hx₄.base hB
  clear hx₂ hx₃ hx₃' hn₂ hn₁ hB₁ c₁ hs₄ hx₁ hc₁ hz₁ hz₁'
  change wpAny _ _ _ _ _ { s with heap := h₄, toks := _ }
  have r0 : -((sgn m b).length : Int) ≤ 0 ∧ (0 : Int) < (sgn m b).length := by rw [hlen]; decide
  have r1 : -((sgn m b).length : Int) ≤ 1 ∧ (1 : Int) < (sgn m b).length := by rw [hlen]; decide
  have r2 : -((sgn m b).length : Int) ≤ 2 ∧ (2 : Int) < (sgn m b).length := by rw [hlen]; decide
  refine wpAny_execs_cons <| wpAny_Assign_Name <| List_ <| args_cons <| wpAny_Compare1 <| Subscript_ <| ldE hn₄ rfl <| wpAny_Constant_int <| item_str (x := sgn m b) (by decide) r0.1 r0.2 fun _ => Constant_str <| eq_str <|
    args_cons <| wpAny_Compare1 <| Subscript_ <| ldE hn₄ rfl <| wpAny_Constant_int <| item_str (x := sgn m b) (by decide) r1.1 r1.2 fun _ => Constant_str <| eq_str <|
    args_cons <| wpAny_Compare1 <| Subscript_ <| ldE hn₄ rfl <| wpAny_Constant_int <| item_str (x := sgn m b) (by decide) r2.1 r2.2 fun _ => Constant_str <| in_str <|
    args_cons <| wpAny_Compare1 <| Subscript_ <| ldE hn₄ rfl <| wpAny_Constant_int <| item_str (x := sgn m b) (by decide) r2.1 r2.2 fun _ => Constant_str <| in_str <| args_nil <| newL fun h₅ hx₅ hl₅ hz₅ => ?_
  dsimp only at hx₅ hl₅ hz₅ ⊢
  refine stCell (c := s.heap.objs.size + 1) (c₄.keeps hx₅) fun h₆ c₆ hs₆ => ?_
  dsimp only at hs₆ ⊢
  have hne : h₄.objs.size ≠ s.heap.objs.size + 1 := by
    obtain ⟨o, e, _⟩ := c₄
    exact Nat.ne_of_gt (Heap.lt_size e)
  have hx₆ : Ext s.heap h₆ := (hx₄.trans hx₅).same hs₆ (Nat.le_succ _)
  have hl₆ := hl₅.same hs₆ hne
  refine wpAny_execs_cons <| wpAny_Return_some <| Call_Name1 <| ldBE (hx₆.base hB) (by kernel_rfl) (v := .builtin "sum") (by kernel_rfl) <| callWith_builtin1 <| seen_sum (f := seenB m b) (L := s.heap.objs.size) (cd := cd) (hx₆.base hB) (g'.less (by (first | lia | omega))) c₆ hl₆ fun h₇ X ys tk₇ hx₇ hl₇ hp₇ => ?_
  dsimp only at hx₇ ⊢
  refine sumX g'.handled hl₇ hp₇ (seenL_fits _) fun h₈ tk₈ t₈ hx₈ _ _ => ?_
  exact hQ _ _ _ ((hx₆.trans hx₇).trans hx₈)
end
end Mine

end
section
open PySem PySem.W PySem.W.X PyProof.Rows PySem.Calls
set_option Elab.async false
set_option maxRecDepth 100000
set_option maxHeartbeats 0
set_option linter.unusedVariables false
namespace Mine
theorem intsOf {ns : List Int} {vs : List Value} (h : Paired IntW ns vs) : IntsAre vs ns := by
  induction h with
  | nil => exact .nil
  | cons a _ ih => obtain ⟨t, rfl⟩ := a; exact .cons _ _ ih
/-- the comprehension's picked items -/
theorem paired_pick {α : Type} [Inhabited α] {F : Nat → Value → Prop} {G : α → Value → Prop} {cs : List α} {p : Nat → Bool} {q : α → Bool} {ys : List Value} (h : Paired F ((List.range cs.length).filter p) ys)
    (hp : ∀ i, i < cs.length → p i = q (cs.getD i default)) (hF : ∀ i y, i < cs.length → F i y → G (cs.getD i default) y) : Paired G (cs.filter q) ys := by
  have e : cs = (List.range cs.length).map fun i => cs.getD i default := by
    refine List.ext_getElem (by simp) fun i h1 h2 => ?_
    simp only [List.getElem_map, List.getElem_range]
    rw [List.getD_eq_getElem?_getD, List.getElem?_eq_getElem h1]; rfl
  have e2 : cs.filter q = ((List.range cs.length).filter p).map fun i => cs.getD i default := by
    conv => lhs; rw [e]
    rw [List.filter_map]
    congr 1
    exact List.filter_congr fun i hi => (hp i (List.mem_range.mp hi)).symm
  rw [e2]
  refine Paired.mapL ?_
  have key : ∀ (l : List Nat) (ys : List Value), Paired F l ys → (∀ i ∈ l, i < cs.length) → Paired (fun i y => G (cs.getD i default) y) l ys := by
    intro l ys h
    induction h with
    | nil => intro _; exact .nil
    | cons a _ ih => intro hl; exact .cons (hF _ _ (hl _ (.head _)) a) (ih fun i hi => hl i (.tail _ hi))
  exact key _ _ h fun i hi => List.mem_range.mp (List.mem_filter.mp hi).1
section
variable {w : World} {A : Around} {E : Value → Shared → Prop} {s : Shared}
theorem maxX {l : Addr} {vs : List Value} {ns : List Int} {M : Int} {Q : Value → Shared → Prop} (hh : A.handled = none) (hl : Lst s.heap l vs) (hv : Paired IntW ns vs) (h1 : M ∈ ns) (h2 : ∀ a ∈ ns, a ≤ M)
    (hQ : ∀ h' t tk, Ext s.heap h' → Q (.int M t) { s with heap := h', toks := tk }) : wpAny (MD w) A (call (.builtin "max") [.ref l]) Q E s := by
  have hi := intsOf hv
  obtain ⟨xs, e⟩ := hi.allInts.items
  have hns : ns = xs.toList.map (·.1) := by rw [← hi.numsOf, ← nums_intItems, ← e]
  have hsz : 0 < xs.size := by
    have h3 : 0 < ns.length := List.length_pos_of_mem h1
    rw [hns, List.length_map, Array.length_toList] at h3; exact h3
  have hL := hl.isList
  rw [e] at hL
  refine max_intList hh hL hsz fun v h' tk hv hk => ?_
  obtain ⟨t, rfl⟩ := intItems_at hv
  obtain ⟨g1, g2⟩ := argBest_gt (numAt xs) (xs.size - 1)
  have a1 : numAt xs (argBest (fun i j => decide (numAt xs i > numAt xs j)) (xs.size - 1)) ∈ ns := by
    rw [hns, numAt_eq]
    have hlt : argBest (fun i j => decide (numAt xs i > numAt xs j)) (xs.size - 1) < (xs.toList.map (·.1)).length := by rw [List.length_map, Array.length_toList]; omega
    rw [List.getD_eq_getElem?_getD, List.getElem?_eq_getElem hlt]
    exact List.getElem_mem hlt
  have a2 : ∀ a ∈ ns, a ≤ numAt xs (argBest (fun i j => decide (numAt xs i > numAt xs j)) (xs.size - 1)) := fun a ha => by
    rw [hns] at ha
    obtain ⟨j, hj, rfl⟩ := mem_getD ha
    rw [List.length_map, Array.length_toList] at hj
    rw [← numAt_eq]; exact g2 j (by omega)
  have : numAt xs (argBest (fun i j => decide (numAt xs i > numAt xs j)) (xs.size - 1)) = M := Int.le_antisymm (h2 _ a1) (a2 _ h1)
  rw [this]
  exact hQ _ _ _ hk
end

/-- a choice: what its rights make, how many, their worth -/
abbrev Choice := List Int × Int × Int
noncomputable def growC (r wo : Int) (c : Choice) : Choice := (c.1 ++ c.1.map (fun x => Builtin.bitXor x r), c.2.1 + 1, c.2.2 + wo)
noncomputable def freeC (r : Int) (c : Choice) : Bool := !(c.1.any (· == r))
noncomputable def stepC (cs : List Choice) (it : Int × Int) : List Choice := cs ++ (cs.filter (freeC it.1)).map (growC it.1 it.2)
noncomputable def choicesC (its : List (Int × Int)) : List Choice := its.foldl stepC [([0], 0, 0)]
def ChoiceAt (bad : List Addr) (h : Heap) (c : Choice) (v : Value) : Prop := ∃ a sp sv t1 t2, v = .ref a ∧ a ∉ bad ∧ sp ∉ bad ∧ Tup h a [.ref sp, .int c.2.1 t1, .int c.2.2 t2] ∧ Lst h sp sv ∧ Paired IntW c.1 sv
theorem ChoiceAt.keep {bad wr : List Addr} {h h' : Heap} {c : Choice} {v : Value} (x : ChoiceAt bad h c v) (k : KeepOut wr h h') (hw : ∀ b ∈ wr, b ∈ bad) : ChoiceAt bad h' c v := by
  obtain ⟨a, sp, sv, t1, t2, e, n1, n2, ⟨n, e1⟩, e2, p⟩ := x
  exact ⟨a, sp, sv, t1, t2, e, n1, n2, ⟨n, k _ _ (fun q => n1 (hw _ q)) e1⟩, e2.keep k (fun q => n2 (hw _ q)), p⟩
theorem ChoiceAt.less {bad bad' : List Addr} {h : Heap} {c : Choice} {v : Value} (x : ChoiceAt bad h c v) (hw : ∀ b ∈ bad', b ∈ bad) : ChoiceAt bad' h c v := by
  obtain ⟨a, sp, sv, t1, t2, e, n1, n2, r⟩ := x
  exact ⟨a, sp, sv, t1, t2, e, fun q => n1 (hw _ q), fun q => n2 (hw _ q), r⟩
end Mine

end
section
open PySem PySem.W PySem.W.X PyProof.Rows PySem.Calls
set_option Elab.async false
set_option maxRecDepth 100000
set_option maxHeartbeats 0
set_option linter.unusedVariables false
namespace Mine
section
variable {w : World} {A : Around} {E : Value → Shared → Prop} {s : Shared}
theorem tri_outL {n I z b : Nat} (h1 : n ≤ I) (h2 : z = I + 1) (h3 : b < n) : b ∉ z :: (z + 1) :: [I] := by
  simp only [List.mem_cons, List.not_mem_nil, or_false]; (first | lia | omega)
theorem tri_low {h₂ s' : Heap} {h : Heap} {I : Addr} (hI : h.objs.size ≤ I) (hz : h₂.objs.size = I + 1) (hx : Ext h h₂) (hk : KeepOut (h₂.objs.size :: (h₂.objs.size + 1) :: [I]) h₂ s') : Ext h s' :=
  fun b o e => hk b o (tri_outL hI hz (Heap.lt_size e)) (hx b o e)
inductive LMok (w : World) (A : Around) (env : Env) (scope : Scope) (cl : List (Str × Addr)) (elt : Expr) (x : Str) (f : Int → Int) (Q : Value → Shared → Prop) (xv : Value) (s₁ : Shared) : Prop
  | mk (L : Addr) (vs : List Value) (ns : List Int) (hv : xv = .ref L) (hL : Lst s₁.heap L vs) (hp : Paired IntW ns vs) (hn : vs.length ≤ 1000)
      (he : ∀ i (s' : Shared) C l t E', i < ns.length → Ext s₁.heap s'.heap → s'.heap.Ns C (lk l) → lk l x = some (.int (ns.getD i 0) t) →
        wpAny (MD w) A (eval elt (compEnvC scope cl C env)) (fun y s'' => ∃ h' tk t', s'' = { s' with heap := h', toks := tk } ∧ Ext s'.heap h' ∧ y = .int (f (ns.getD i 0)) t') E' s')
      (hQ : ∀ X ys h' tk, Ext s₁.heap h' → s₁.heap.objs.size ≤ X → Lst h' X ys → Paired IntW (ns.map f) ys → Q (.ref X) { s₁ with heap := h', toks := tk }) : LMok w A env scope cl elt x f Q xv s₁
/-- a comprehension over a list of whole numbers, each turned by f -/
theorem lcompMap {elt iter : Expr} {x : Str} {px pos : Pos} {scope : Scope} {cl : List (Str × Addr)} {env : Env} {Q : Value → Shared → Prop} (f : Int → Int)
    (hclos : closureFor scope env = pure cl) (hcell : ∀ y ∈ scope.names, y.2 ≠ .cell) (hkind : scope.kind = .function) (hnames : ∀ y ∈ scope.names, y.2 = .local → scope.names.lookup y.1 = some .local) (hx : scope.names.lookup x = some .local) (hh : A.handled = none)
    (h : wpAny (MD w) A (eval iter env) (fun xv s₁ => LMok w A env scope cl elt x f Q xv s₁) E s)
    (hs : ∀ x, foldedSetIterable iter env x = pure x := by intro _; rfl) :
    wpAny (MD w) A (eval (.ListComp elt [⟨.Name x px, iter, [], 0⟩] scope pos) env) Q E s := by
  refine lcomp hclos hcell hkind hnames (wpAny_mono h (fun xv s₁ h₁ => ?_) fun _ _ e => e) hs
  obtain ⟨L, vs, ns, rfl, hL, hp, hlen, hel, hQ⟩ := h₁
  refine iterL hL fun h₂ hx₂ hi₂ hz₂ => ?_
  have hTlt := hL.lt
  have hl₂ := hL.ext hx₂
  have hnl : ns.length = vs.length := hp.length
  have W : Wk w A false s₁.heap.objs.size [s₁.heap.objs.size, L] [s₁.heap.objs.size] vs.length _ _ := Wk.list (w := w) (A := A) false hh s₁.heap.objs.size L (Nat.ne_of_lt hTlt) vs
  refine ⟨false, s₁.heap.objs.size, [s₁.heap.objs.size, L], [s₁.heap.objs.size], vs.length, _, _, fun _ => true, fun _ _ i y => ∃ t, y = .int (f (ns.getD i 0)) t, fun i l => ∃ t, lk l x = some (.int (ns.getD i 0) t), fun _ _ => True, 0, rfl,
    { walk := W, few := by (first | lia | omega), st := ⟨hi₂, hl₂.isList⟩, below := lw_below hTlt hz₂, asg := ?_, tests := fun _ _ _ _ _ _ _ _ => noTests, elt := ?_, stab := fun _ _ _ _ h _ => h }, fun ys h₅ tk₅ hdone => ?_⟩
  · intro i v s' l Q E' hi hP hk hn st hQ
    obtain ⟨a, e, t, rfl⟩ := Mine.Paired.at' hp (show vs[i]? = some v from hP)
    refine asgName (B := fun l => ∃ t, lk l x = some (.int (ns.getD i 0) t)) W (lw_C hTlt hz₂) hkind hx hn st ⟨t, ?_⟩ hQ
    show List.lookup x ((x, _) :: l) = some _
    rw [List.lookup_cons, beq_self_eq_true, List.getD_eq_getElem?_getD, e]; rfl
  · rintro i s' l E' hi _ ⟨t, hv⟩ hn' hk _
    refine wpAny_mono (hel i s' _ l t E' (by (first | lia | omega)) (tri_low (Nat.le_refl _) hz₂ hx₂ hk) hn' hv) (fun y s'' hy => ?_) fun _ _ e => e
    obtain ⟨h', tk, t', rfl, hx', rfl⟩ := hy
    exact ⟨h', tk, rfl, hx', ⟨t', rfl⟩, fun _ _ _ _ => trivial, SZ.no⟩
  · obtain ⟨hl₅, hF₅, _, hk₅, _⟩ := hdone
    dsimp only at hl₅ hF₅ hk₅ ⊢
    refine hQ _ ys h₅ tk₅ (fun b o e => hk₅ b o (fun q => absurd (List.mem_singleton.mp q) (lt_ne e (Nat.le_refl _))) (hx₂ b o e)) (by rw [hz₂]; exact Nat.le_succ _) hl₅ ?_
    exact paired_range (f := f) hnl hF₅ fun i y _ h => h
/-- a name stored in a comprehension's frame -/
theorem stComp {scope : Scope} {cl : List (Str × Addr)} {C : Addr} {env : Env} {x : Str} {v : Value} {l : List (Str × Value)} {Q : Unit → Shared → Prop} (hkind : scope.kind = .function) (hx : scope.names.lookup x = some .local) (hn : s.heap.Ns C (lk l))
    (hQ : ∀ h', h'.Ns C (lk ((x, v) :: l)) → Heap.SameBut C s.heap h' → Q () { s with heap := h', toks := s.toks + 1 }) : wpAny (MD w) A (storeName (compEnvC scope cl C env) x v) Q E s :=
  wpAny_storeName_local (env := compEnvC scope cl C env) (lookup_relabel_local hx) hn (fun h' hn' hs' => hQ h' (lk_cons l x v ▸ hn') hs') (by simp [compEnvC, relabel, hkind])
/-- three names as the target, of a tuple drawn from a list -/
theorem asg3 {scope : Scope} {cl : List (Str × Addr)} {C I T a : Addr} {env : Env} {x y z : Str} {p1 p2 p3 pos : Pos} {x1 : Nat} {fp wr : List Addr} {n k : Nat} {P : Heap → Nat → Value → Prop} {St : Nat → Heap → Prop} {v1 v2 v3 : Value} {l : List (Str × Value)} {Q : Unit → Shared → Prop}
    {E' : Value → Shared → Prop} {B : List (Str × Value) → Prop} (hh : A.handled = none) (W : Wk w A false I fp wr n P St) (hC : C ∉ fp) (hkind : scope.kind = .function) (hx : scope.names.lookup x = some .local) (hy : scope.names.lookup y = some .local) (hz : scope.names.lookup z = some .local)
    (hit : s.heap.IsListIter I T k) (ht : Tup s.heap a [v1, v2, v3]) (hn : s.heap.Ns C (lk l)) (st : St k s.heap) (hB : B ((z, v3) :: (y, v2) :: (x, v1) :: l))
    (hQ : ∀ h' tk l', h'.Ns C (lk l') → B l' → KeepOut (C :: wr) s.heap h' → St k h' → SZ false h' tk s.heap.objs.size s.toks → Q () { s with heap := h', toks := tk }) :
    wpAny (MD w) A (letOwnedTupleGo (.Tuple [.Name x p1, .Name y p2, .Name z p3] x1 pos) (.ref I) (.ref a) >>= fun _ => assign (.Tuple [.Name x p1, .Name y p2, .Name z p3] x1 pos) (compEnvC scope cl C env) (.ref a)) Q E' s := by
  obtain ⟨o, ho, hc, _⟩ := hit
  refine wpAny_bind <| go_plain ho hc (by decide) <| assignTup hh ht rfl rfl fun h₁ hx₁ _ => ?_
  refine assignInOrder_cons <| assign_Name <| stComp hkind hx (ns_ext hn hx₁) fun h₂ hn₂ hs₂ => assignInOrder_cons <| assign_Name <| stComp hkind hy hn₂ fun h₃ hn₃ hs₃ => assignInOrder_cons <| assign_Name <| stComp hkind hz hn₃ fun h₄ hn₄ hs₄ => assignInOrder_nil ?_
  refine hQ h₄ _ _ hn₄ hB ?_ ?_ SZ.no
  · exact (KeepOut.ext hx₁ _).trans ((KeepOut.same hs₂ (by simp)).trans ((KeepOut.same hs₃ (by simp)).trans (KeepOut.same hs₄ (by simp))))
  · exact W.frame _ _ _ st fun b hb o e => hs₄.extBut b o (fun q => hC (q ▸ hb)) (hs₃.extBut b o (fun q => hC (q ▸ hb)) (hs₂.extBut b o (fun q => hC (q ▸ hb)) (hx₁ b o e)))
end
noncomputable abbrev bestEnv (L : Addr) (cd : Value) : Env := envC "_law_best" (fnScope 39) L 148 cd (cellsFrom (L + 1) (fnScope 39).names [])
noncomputable def bestS (i : Nat) : Stmt := (fnBody 39)[i]?.getD (.Pass ⟨0, 0, 0, 0⟩)
noncomputable def loopS (i : Nat) : Stmt := match bestS 1 with | .For _ _ b _ _ => b[i]?.getD (.Pass ⟨0, 0, 0, 0⟩) | _ => .Pass ⟨0, 0, 0, 0⟩
noncomputable def grownE : Expr := match loopS 0 with | .Assign _ e _ => e | _ => .Name "" ⟨0, 0, 0, 0⟩
noncomputable def gScope : Scope := match grownE with | .ListComp _ _ s _ => s | _ => fnScope 0
noncomputable def gElt : Expr := match grownE with | .ListComp e _ _ _ => e | _ => .Name "" ⟨0, 0, 0, 0⟩
noncomputable abbrev gCl (L : Addr) : List (Str × Addr) := [("worth", L + 3), ("rights", L + 2)]
section
variable {w : World} {A : Around} {E : Value → Shared → Prop} {s : Shared}
/-- the grown choice -/
theorem gElt_spec {L C sp : Addr} {cd : Value} {c : Choice} {r wo : Int} {tr tw t1 t2 : Tok} {sv : List Value} {l : List (Str × Value)} {Q : Value → Shared → Prop} (hh : A.handled = none) (hn : s.heap.Ns C (lk l)) (e1 : lk l "span" = some (.ref sp)) (e2 : lk l "size" = some (.int c.2.1 t1))
    (e3 : lk l "total" = some (.int c.2.2 t2)) (hS : Lst s.heap sp sv) (hp : Paired IntW c.1 sv) (hlen : c.1.length ≤ 64) (cR : s.heap.IsCell (L + 2) (some (.int r tr))) (cW : s.heap.IsCell (L + 3) (some (.int wo tw)))
    (hQ : ∀ h' tk a, Ext s.heap h' → (∀ bad : List Addr, (∀ b ∈ bad, b < s.heap.objs.size) → ChoiceAt bad h' (growC r wo c) (.ref a)) → Q (.ref a) { s with heap := h', toks := tk }) :
    wpAny (MD w) A (eval gElt (compEnvC gScope (gCl L) C (bestEnv L cd))) Q E s := by
  have hsv : c.1.length = sv.length := hp.length
  refine Tuple_ <| args_cons <| wpAny_BinOp <| ldE (l := l) hn e1 <| lcompMap (cl := [("rights", L + 2)]) (fun x => Builtin.bitXor x r) rfl (by decide) rfl (by decide) rfl hh <| ldE (l := l) hn e1 ⟨sp, sv, c.1, rfl, hS, hp, by (first | lia | omega), ?_, ?_⟩
  · intro i s' C' l' t E' hi hx' hn' hv
    exact wpAny_BinOp <| ldE (l := l') hn' hv <| ldC (c := L + 2) (cR.keeps hx') <| xor_int ⟨_, _, _, rfl, Ext.refl _, rfl⟩
  · intro X ys h₁ tk₁ hx₁ hX hl₁ hp₁
    have hyl : ys.length = c.1.length := by rw [← hp₁.length]; simp
    refine addL (hS.ext hx₁) hl₁ (by (first | lia | omega)) fun h₂ hx₂ hl₂ hz₂ => ?_
    dsimp only at hx₂ hl₂ hz₂ ⊢
    have hx₂' := hx₁.trans hx₂
    refine args_cons <| wpAny_BinOp <| ldE (l := l) (ns_ext hn hx₂') e2 <| wpAny_Constant_int <| add_int <| args_cons <| wpAny_BinOp <| ldE (l := l) (ns_ext hn hx₂') e3 <| ldC (c := L + 3) (cW.keeps hx₂') <| add_int <| args_nil <| newT fun h₃ hx₃ ht₃ hz₃ => ?_
    dsimp only at hx₃ ht₃ hz₃ ⊢
    refine hQ h₃ _ _ (hx₂'.trans hx₃) fun bad hb => ⟨_, _, _, _, _, rfl, fun q => ?_, fun q => ?_, ht₃, hl₂.ext hx₃, Paired.append hp hp₁⟩
    · have a1 : h₂.objs.size < s.heap.objs.size := hb _ q
      have a2 : s.heap.objs.size ≤ X := hX
      have a3 : X < h₁.objs.size := hl₁.lt
      (first | lia | omega)
    · have a1 : h₁.objs.size < s.heap.objs.size := hb _ q
      have a2 : s.heap.objs.size ≤ X := hX
      have a3 : X < h₁.objs.size := hl₁.lt
      (first | lia | omega)

theorem grown_spec {L Cs : Addr} {cd : Value} {cs : List Choice} {cv : List Value} {bad : List Addr} {r wo : Int} {tr tw : Tok} {l : List (Str × Value)} {Q : Flow → Shared → Prop} (hh : A.handled = none) (hn : s.heap.Ns L (lk l)) (cC : s.heap.IsCell (L + 1) (some (.ref Cs)))
    (cR : s.heap.IsCell (L + 2) (some (.int r tr))) (cW : s.heap.IsCell (L + 3) (some (.int wo tw))) (hC : Lst s.heap Cs cv) (hp : Paired (ChoiceAt bad s.heap) cs cv) (hbad : ∀ b ∈ bad, b < s.heap.objs.size) (hLb : L ∈ bad) (hlen : cv.length ≤ 64) (hspan : ∀ c ∈ cs, c.1.length ≤ 64)
    (hQ : ∀ h' tk G gv, KeepOut [L] s.heap h' → h'.Ns L (lk (("grown", .ref G) :: l)) → Lst h' G gv → s.heap.objs.size ≤ G → Paired (ChoiceAt bad h') ((cs.filter (freeC r)).map (growC r wo)) gv → Q .next { s with heap := h', toks := tk }) :
    wpAny (MD w) A (exec (loopS 0) (bestEnv L cd)) Q E s := by
  have hcl : cs.length = cv.length := hp.length
  refine lcompA (l := l) (cl := gCl L) rfl rfl (by decide) rfl (by decide) rfl rfl <| ldC (c := L + 1) cC <| iterL hC fun h₂ hx₂ hi₂ hz₂ => ?_
  have hTlt := hC.lt
  have hC₂ := hC.ext hx₂
  have W : Wk w A false s.heap.objs.size [s.heap.objs.size, Cs] [s.heap.objs.size] cs.length _ _ := hcl ▸ Wk.list (w := w) (A := A) false hh s.heap.objs.size Cs (Nat.ne_of_lt hTlt) cv
  have hat : ∀ i, i < cs.length → ∃ a sp sv t1 t2, cv[i]? = some (.ref a) ∧ Tup s.heap a [.ref sp, .int (cs.getD i default).2.1 t1, .int (cs.getD i default).2.2 t2] ∧ Lst s.heap sp sv ∧ Paired IntW (cs.getD i default).1 sv := fun i hi => by
    obtain ⟨v, e, a, sp, sv, t1, t2, rfl, _, _, q⟩ := Mine.Paired.atL hp (show cs[i]? = some (cs.getD i default) by rw [List.getD_eq_getElem?_getD, List.getElem?_eq_getElem hi]; rfl)
    exact ⟨a, sp, sv, t1, t2, e, q⟩
  refine ⟨false, s.heap.objs.size, [s.heap.objs.size, Cs], [s.heap.objs.size], cs.length, _, _, fun i => freeC r (cs.getD i default), fun tri h i y => ChoiceAt (tri ++ bad) h (growC r wo (cs.getD i default)) y,
    fun i l => ∃ sp sv t1 t2, lk l "span" = some (.ref sp) ∧ lk l "size" = some (.int (cs.getD i default).2.1 t1) ∧ lk l "total" = some (.int (cs.getD i default).2.2 t2) ∧ Lst s.heap sp sv ∧ Paired IntW (cs.getD i default).1 sv, fun _ _ => True, 0, rfl,
    { walk := W, few := by (first | lia | omega), st := ⟨hi₂, hC₂.isList⟩, below := lw_below hTlt hz₂, asg := ?_, tests := ?_, elt := ?_, stab := ?_ }, ?_, ns_ext hn hx₂, ?_, fun ys h₅ tk₅ hdone hn₅ => ?_⟩
  · intro i v s' l Q E' hi hP hk hn st hQ
    obtain ⟨a, sp, sv, t1, t2, e, ht, q1, q2⟩ := hat i hi
    have hv : v = .ref a := Option.some.inj ((show cv[i]? = some v from hP).symm.trans e)
    subst hv
    exact asg3 hh W (lw_C hTlt hz₂) rfl rfl rfl rfl st.1 (ht.ext (tri_low (Nat.le_refl _) hz₂ hx₂ hk)) hn st ⟨sp, sv, t1, t2, rfl, rfl, rfl, q1, q2⟩ hQ
  · rintro i s' l E' hi ⟨sp, sv, t1, t2, e1, e2, e3, q1, q2⟩ hn' hk
    have hx' := tri_low (Nat.le_refl _) hz₂ hx₂ hk
    exact wpAny_tests_one <| wpAny_isTrue_Compare1 <| ldC (c := L + 2) (cR.keeps hx') <| ldE (l := l) hn' e1 <| notin_list_ints (q1.ext hx').isList (intsOf q2) <| wpAny_truthy_bool ⟨rfl, _, _, rfl, Ext.refl _, SZ.no⟩
  · rintro i s' l E' hi _ ⟨sp, sv, t1, t2, e1, e2, e3, q1, q2⟩ hn' hk hal
    have hx' := tri_low (Nat.le_refl _) hz₂ hx₂ hk
    refine gElt_spec hh hn' e1 e2 e3 (q1.ext hx') q2 (hspan _ ?_) (cR.keeps hx') (cW.keeps hx') fun h' tk a hx'' hch => ⟨h', tk, rfl, hx'', hch _ fun b hb => ?_, fun _ _ _ _ => trivial, SZ.no⟩
    · rw [List.getD_eq_getElem?_getD, List.getElem?_eq_getElem hi]; exact List.getElem_mem hi
    · rcases List.mem_append.mp hb with hb | hb
      · obtain ⟨o, e⟩ := hal b hb
        exact Heap.lt_size e
      · have b1 : (b : Nat) < s.heap.objs.size := hbad b hb
        obtain ⟨o, e⟩ := hal s.heap.objs.size (by simp)
        exact Nat.lt_trans b1 (Heap.lt_size e)
  · intro i y h h' hF hk
    exact hF.keep hk fun b hb => List.mem_append_left _ hb
  · have hLl : (L : Nat) < s.heap.objs.size := hbad L hLb
    exact fun hm => absurd (List.mem_singleton.mp hm) (Nat.ne_of_lt hLl)
  · intro i y h h' hF hs
    replace hs : Heap.SameBut L h h' := hs
    exact hF.keep (KeepOut.same hs (List.mem_singleton.mpr rfl)) fun b hb => List.mem_append_right _ (by rw [List.mem_singleton.mp hb]; exact hLb)
  · obtain ⟨hl₅, hF₅, _, hk₅, _⟩ := hdone
    dsimp only at hl₅ hF₅ hk₅ hn₅ ⊢
    refine hQ h₅ tk₅ _ ys (fun b o hb e => hk₅ b o (fun q => ?_) (hx₂ b o e)) hn₅ hl₅ (by rw [hz₂]; exact Nat.le_succ _) ?_
    · rcases List.mem_cons.mp q with q | q
      · exact hb (by rw [q]; exact List.mem_singleton.mpr rfl)
      · exact absurd (List.mem_singleton.mp q) (lt_ne e (Nat.le_refl _))
    · refine Paired.mapL (paired_pick (G := fun c y => ChoiceAt bad h₅ (growC r wo c) y) hF₅ (fun i _ => rfl) fun i y _ hF => hF.less fun b hb => List.mem_append_right _ hb)
end
end Mine

end
section
open PySem PySem.W PySem.W.X PyProof.Rows PySem.Calls
set_option Elab.async false
set_option maxRecDepth 100000
set_option maxHeartbeats 0
set_option linter.unusedVariables false
namespace Mine
section
variable {w : World} {A : Around} {E : Value → Shared → Prop} {s : Shared}
/-- the state in which the loop of a comprehension stands whose name is a cell -/
inductive WSt (s₂ : Shared) (D : Nat) (I : Nat) (n : Nat) (f : Nat → Int) (k : Nat) (s' : Shared) : Prop
  | mk (h' : Heap) (tk : Nat) (l : List (Str × Value)) (ys : List Value) (i : Nat) (v : Option Value) (hs : s' = { s₂ with heap := h', toks := tk }) (f0 : IsRangeIter h' I ((0 : Int) + (i : Nat) * 1) ((n : Int) - (i : Nat)) 1) (f1 : Lst h' D ys) (f2 : h'.Ns (D + 1) (lk l)) (f3 : h'.IsCell (D + 2) v) (f4 : Paired (fun (i : Nat) y => ∃ t, y = .int (f i) t) (List.range i) ys) (f5 : i ≤ n) (f6 : k = n - i) (f7 : KeepOut [I] s₂.heap h') : WSt s₂ D I n f k s'
inductive IVok (n : Int) (s' : Shared) (y : Value) (s'' : Shared) : Prop
  | mk (h' : Heap) (tk : Nat) (t' : Tok) (hs : s'' = { s' with heap := h', toks := tk }) (hx : Ext s'.heap h') (hy : y = .int n t') : IVok n s' y s''
inductive LWok (w : World) (A : Around) (env : Env) (scope : Scope) (cl : List (Str × Addr)) (elt : Expr) (x : Str) (Q : Value → Shared → Prop) (it : Value) (s₂ : Shared) : Prop
  | mk (I : Addr) (n : Nat) (f : Nat → Int) (hit : it = .ref I) (hI : IsRangeIter s₂.heap I ((0 : Int) + (0 : Nat) * 1) ((n : Int) - (0 : Nat)) 1) (hn : n ≤ 1000)
      (he : ∀ (i : Nat) (s' : Shared) C c t E', i < n → KeepOut [I] s₂.heap s'.heap → s'.heap.IsCell c (some (.int (i : Int) t)) →
        wpAny (MD w) A (eval elt (compEnvC scope ((x, c) :: cl) C env)) (IVok (f i) s') E' s')
      (hQ : ∀ X ys h' tk, KeepOut [I] s₂.heap h' → Lst h' X ys → Paired IntW ((List.range n).map f) ys → Q (.ref X) { s₂ with heap := h', toks := tk }) : LWok w A env scope cl elt x Q it s₂
/-- a comprehension over a range whose name is a cell -/
theorem lcompW {elt iter : Expr} {x : Str} {px pos : Pos} {scope : Scope} {cl : List (Str × Addr)} {env : Env} {Q : Value → Shared → Prop}
    (hclos : closureFor scope env = pure cl) (hkind : scope.kind = .function) (hnames : ∀ y ∈ scope.names, y.2 = .local → scope.names.lookup y.1 = some .local) (hcf : ∀ n, cellsFrom n scope.names cl = (x, n) :: cl)
    (hpc : ∀ h, pushCells h scope.names = h.push { cls := .type "cell", data := .cell none }) (hxk : ∀ c C, (compEnvC scope c C env).kindOf x = some .cell) (hh : A.handled = none)
    (h : wpAny (MD w) A (eval iter env) (fun xv s₁ => wpAny (MD w) A (pyIter xv) (fun it s₂ => LWok w A env scope cl elt x Q it s₂) E s₁) E s)
    (hs : ∀ x, foldedSetIterable iter env x = pure x := by intro _; rfl) :
    wpAny (MD w) A (eval (.ListComp elt [⟨.Name x px, iter, [], 0⟩] scope pos) env) Q E s := by
  rw [eval_ListComp]
  refine wpAny_comprehension_free (use := none) rfl hs hclos hkind hnames (wpAny_mono h (fun xv s₁ h₁ => wpAny_mono h₁ (fun it s₂ h₂ => ?_) fun _ _ e => e) fun _ _ e => e)
  obtain ⟨I, n, f, rfl, hI, hn, hel, hQ⟩ := h₂
  clear h h₁
  have hIlt : I < s₂.heap.objs.size := Heap.lt_size hI
  refine wpAny_newObj_type ?_
  simp only [newFunctionEnv, Option.isSome_some, if_true]
  refine wpAny_bind (wpAny_alloc ?_)
  refine wpAny_bind (wpAny_layCells _ (fun name kind cells => by cases hkc : kind == NameKind.cell <;> simp [hkc]) _ _ _ _ ?_)
  rw [hcf, hpc]
  simp only [List.forIn_nil]
  refine wpAny_bind (wpAny_pure (wpAny_pure ?_))
  dsimp only
  have hz1 : (s₂.heap.push { cls := .type "list", data := .seq ([] : List Value).toArray }).objs.size = s₂.heap.objs.size + 1 := Heap.size_push ..
  have hz2 : ((s₂.heap.push { cls := .type "list", data := .seq ([] : List Value).toArray }).push { cls := .type "dict", data := .dict #[] }).objs.size = s₂.heap.objs.size + 2 := by rw [Heap.size_push, hz1]
  have hacc : Lst (s₂.heap.push { cls := .type "list", data := .seq ([] : List Value).toArray }) s₂.heap.objs.size [] := Lst.new s₂.heap [] 0
  have hns : ((s₂.heap.push { cls := .type "list", data := .seq ([] : List Value).toArray }).push { cls := .type "dict", data := .dict #[] }).Ns (s₂.heap.objs.size + 1) (lk []) := hz1 ▸ Heap.Ns.new _ (.type "dict")
  have hcell : (((s₂.heap.push { cls := .type "list", data := .seq ([] : List Value).toArray }).push { cls := .type "dict", data := .dict #[] }).push { cls := .type "cell", data := .cell none }).IsCell (s₂.heap.objs.size + 2) none := hz2 ▸ ⟨_, Heap.get?_push_size _ rfl, rfl⟩
  rw [hz1, hz2]
  have old : Ext s₂.heap (((s₂.heap.push { cls := .type "list", data := .seq ([] : List Value).toArray }).push { cls := .type "dict", data := .dict #[] }).push { cls := .type "cell", data := .cell none }) := fun b o e => Heap.get?_push_of_some _ (Heap.get?_push_of_some _ (Heap.get?_push_of_some _ e))
  replace hacc := (hacc.push { cls := .type "dict", data := .dict #[] }).push { cls := .type "cell", data := .cell none }
  replace hns := hns.push { cls := .type "cell", data := .cell none }
  generalize (((s₂.heap.push { cls := .type "list", data := .seq ([] : List Value).toArray }).push { cls := .type "dict", data := .dict #[] }).push { cls := .type "cell", data := .cell none }) = h₁ at hacc hns hcell old ⊢
  clear hz1 hz2
  generalize hD : s₂.heap.objs.size = D at *
  have loop : codeAny (MD w) A (.compLoop (.ListComp elt [⟨.Name x px, iter, [], 0⟩] scope pos) 0 (.ref I) (.ref D) (compEnvC scope ((x, D + 2) :: cl) (D + 1) env)) (compPost (MD w) A E none Q (.ref D) (D + 1)) { s₂ with heap := h₁ } := by
    refine compLoop_any (WSt s₂ D I n f) ?_ n ⟨h₁, _, [], [], 0, none, rfl, old _ _ hI, hacc, hns, hcell, .nil, Nat.zero_le _, rfl, KeepOut.ext old _⟩
    rintro k s' ⟨h', tk, l, ys, i, v, rfl, st, hl, hns, hc, hF, hi, rfl, hk⟩
    have W : Wk w A false I [I] [I] n _ _ := Wk.range (w := w) (A := A) hh I n
    have DI : D ∉ [I] := fun q => absurd (List.mem_singleton.mp q) (Nat.ne_of_gt hIlt)
    have D1 : D + 1 ∉ [I] := fun q => absurd (List.mem_singleton.mp q) (Nat.ne_of_gt (Nat.lt_succ_of_lt hIlt))
    have D2 : D + 2 ∉ [I] := fun q => absurd (List.mem_singleton.mp q) (Nat.ne_of_gt (Nat.lt_succ_of_lt (Nat.lt_succ_of_lt hIlt)))
    rcases Nat.lt_or_ge i n with hlt | hge
    · refine W.item i _ _ _ hlt st fun v h₃ tk₃ ⟨t, hv⟩ st₃ hk₃ _ => ?_
      subst hv
      dsimp only at hk₃ ⊢
      have hc₃ : h₃.IsCell (D + 2) _ := let ⟨o, e, d⟩ := hc; ⟨o, hk₃ _ _ D2 e, d⟩
      refine wpAny_bind <| wpAny_pure <| wpAny_assign_Name <| wpAny_storeName_cell (by simpa [compEnvC, relabel] using hkind) (hxk _ _) (by simp [compEnvC]) hc₃ fun h₄ hc₄ hs₄ => ?_
      replace hs₄ : Heap.SameBut (D + 2) h₃ h₄ := hs₄
      have hk₄ : KeepOut [I] s₂.heap h₄ := fun b o hb e => hs₄.extBut b o (Nat.ne_of_lt (Nat.lt_succ_of_lt (Nat.lt_succ_of_lt (hD ▸ Heap.lt_size e)))) (hk₃ b o hb (hk b o hb e))
      have dd : D ≠ D + 2 := Nat.ne_of_lt (Nat.lt_succ_of_lt (Nat.lt_succ_self _))
      refine wpAny_tests_nil ?_
      rw [if_pos rfl]
      refine wpAny_mono (hel i _ (D + 1) (D + 2) t _ hlt hk₄ hc₄) (fun y s₆ h₆ => ?_) fun _ _ e => e
      obtain ⟨h₆, tk₆, t₆, rfl, hx₆, rfl⟩ := h₆
      dsimp only at hx₆ ⊢
      have hl₄ : Lst h₆ D ys := (((hl.keep hk₃ DI).same hs₄ dd)).ext hx₆
      have hlen : ys.length ≤ i := by rw [← hF.length]; simp
      refine appendL hl₄ (by (first | lia | omega)) fun h₇ hl₇ hs₇ => ?_
      dsimp only at hs₇ ⊢
      refine ⟨n - (i + 1), by (first | lia | omega), ⟨h₇, tk₆, l, _, i + 1, some (.int (i : Int) t), rfl, ?_, hl₇, ?_, ?_, ?_, hlt, rfl, ?_⟩⟩
      · exact W.frame _ _ _ st₃ fun b hb o e => by
          have hb' : b = I := List.mem_singleton.mp hb
          subst hb'
          exact hs₇.extBut b o (Nat.ne_of_lt hIlt) (hx₆ b o (hs₄.extBut b o (Nat.ne_of_lt (Nat.lt_succ_of_lt (Nat.lt_succ_of_lt hIlt))) e))
      · exact (ns_ext ((ns_keep hns hk₃ D1).sameBut hs₄ (Nat.ne_of_lt (Nat.lt_succ_self _))) hx₆).sameBut hs₇ (Nat.succ_ne_self _)
      · exact (hc₄.keeps hx₆).sameBut hs₇ dd.symm
      · rw [List.range_succ]; exact Paired.snoc hF ⟨t₆, rfl⟩
      · exact fun b o hb e => hs₇.extBut b o (Nat.ne_of_lt (hD ▸ Heap.lt_size e)) (hx₆ b o (hk₄ b o hb e))
    · have : i = n := by (first | lia | omega)
      subst this
      refine W.done _ _ _ st fun h₃ tk₃ hk₃ _ => ?_
      dsimp only at hk₃ ⊢
      refine ⟨_, ns_keep hns hk₃ D1, fun h'' hs'' => hQ _ ys _ _ (fun b o hb e => ?_) ((hl.keep hk₃ DI).same hs'' (Nat.ne_of_lt (Nat.lt_succ_self _))) (Paired.mapL hF)⟩
      exact hs''.extBut b o (Nat.ne_of_lt (Nat.lt_succ_of_lt (hD ▸ Heap.lt_size e))) (hk₃ b o hb (hk b o hb e))
  exact codeAny_compStart_list loop ((Wk.range (w := w) (A := A) hh I n).self 0 _ _ _ (old _ _ hI) loop)
end
end Mine

end
section
open PySem PySem.W PySem.W.X PyProof.Rows PySem.Calls
set_option Elab.async false
set_option maxRecDepth 100000
set_option maxHeartbeats 0
set_option linter.unusedVariables false
namespace Mine
theorem step_len {cs : List Choice} {n : Nat} (h1 : cs.length ≤ n) (h2 : ∀ c ∈ cs, c.1.length ≤ n) (it : Int × Int) : (stepC cs it).length ≤ 2 * n ∧ ∀ c ∈ stepC cs it, c.1.length ≤ 2 * n := by
  unfold stepC
  constructor
  · rw [List.length_append, List.length_map]
    have := List.length_filter_le (freeC it.1) cs
    (first | lia | omega)
  · intro c hc
    rcases List.mem_append.mp hc with hc | hc
    · have := h2 c hc; (first | lia | omega)
    · obtain ⟨d, hd, rfl⟩ := List.mem_map.mp hc
      have := h2 d (List.mem_filter.mp hd).1
      show (d.1 ++ d.1.map _).length ≤ _
      rw [List.length_append, List.length_map]
      (first | lia | omega)
theorem choices_len (its : List (Int × Int)) : ∀ i, ((its.take i).foldl stepC [([0], 0, 0)]).length ≤ 2 ^ i ∧ ∀ c ∈ (its.take i).foldl stepC [([0], 0, 0)], c.1.length ≤ 2 ^ i
  | 0 => by simp
  | i + 1 => by
    obtain ⟨h1, h2⟩ := choices_len its i
    rw [List.take_add_one, List.foldl_append]
    cases its[i]? with
    | none => simp only [Option.toList_none, List.foldl_nil]; exact ⟨by (first | lia | omega), fun c hc => by have := h2 c hc; (first | lia | omega)⟩
    | some it =>
      have := step_len h1 h2 it
      simp only [Option.toList_some, List.foldl_cons, List.foldl_nil]
      rw [Nat.pow_succ, Nat.mul_comm]
      exact this
section
variable {w : World} {A : Around} {E : Value → Shared → Prop} {s : Shared}
inductive PCok (w : World) (A : Around) (env : Env) (scope : Scope) (cl : List (Str × Addr)) (elt : Expr) (ifs : List Expr) (q : Choice → Bool) (val : Choice → Int) (Q : Value → Shared → Prop) (xv : Value) (s₁ : Shared) : Prop
  | mk (Cs : Addr) (cv : List Value) (cs : List Choice) (hv : xv = .ref Cs) (hC : Lst s₁.heap Cs cv) (hp : Paired (ChoiceAt [] s₁.heap) cs cv) (hn : cv.length ≤ 1000)
      (ht : ∀ (c : Choice) (s' : Shared) C l t1 E', Ext s₁.heap s'.heap → s'.heap.Ns C (lk l) → lk l "size" = some (.int c.2.1 t1) →
        wpAny (MD w) A (forIn ifs true fun c r => if r = true then do let ok ← isTrue c (compEnvC scope cl C env) (eval c (compEnvC scope cl C env)); pure (ForInStep.yield ok) else pure (ForInStep.yield r)) (fun ok s'' => ok = q c ∧ s'' = s') E' s')
      (he : ∀ (c : Choice) (s' : Shared) C l t1 t2 E', s'.heap.Ns C (lk l) → lk l "size" = some (.int c.2.1 t1) → lk l "total" = some (.int c.2.2 t2) →
        wpAny (MD w) A (eval elt (compEnvC scope cl C env)) (fun y s'' => s'' = s' ∧ ∃ t, y = .int (val c) t) E' s')
      (hQ : ∀ X ys h' tk, Ext s₁.heap h' → Lst h' X ys → Paired IntW ((cs.filter q).map val) ys → Q (.ref X) { s₁ with heap := h', toks := tk }) : PCok w A env scope cl elt ifs q val Q xv s₁
/-- something told of each choice, picked -/
theorem pickC {elt iter : Expr} {p1 p2 p3 pt pos : Pos} {x1 : Nat} {ifs : List Expr} {scope : Scope} {cl : List (Str × Addr)} {env : Env} {Q : Value → Shared → Prop} (q : Choice → Bool) (val : Choice → Int)
    (hclos : closureFor scope env = pure cl) (hcell : ∀ y ∈ scope.names, y.2 ≠ .cell) (hkind : scope.kind = .function) (hnames : ∀ y ∈ scope.names, y.2 = .local → scope.names.lookup y.1 = some .local)
    (h1 : scope.names.lookup (Str.ofString "span") = some .local) (h2 : scope.names.lookup (Str.ofString "size") = some .local) (h3 : scope.names.lookup (Str.ofString "total") = some .local) (hh : A.handled = none)
    (h : wpAny (MD w) A (eval iter env) (fun xv s₁ => PCok w A env scope cl elt ifs q val Q xv s₁) E s)
    (hs : ∀ x, foldedSetIterable iter env x = pure x := by intro _; rfl) :
    wpAny (MD w) A (eval (.ListComp elt [⟨.Tuple [.Name "span" p1, .Name "size" p2, .Name "total" p3] x1 pt, iter, ifs, 0⟩] scope pos) env) Q E s := by
  refine lcomp hclos hcell hkind hnames (wpAny_mono h (fun xv s₁ h₁ => ?_) fun _ _ e => e) hs
  obtain ⟨Cs, cv, cs, rfl, hC, hp, hlen, htest, helt, hQ⟩ := h₁
  clear h
  have hcl : cs.length = cv.length := hp.length
  refine iterL hC fun h₂ hx₂ hi₂ hz₂ => ?_
  have hTlt := hC.lt
  have hC₂ := hC.ext hx₂
  have W : Wk w A false s₁.heap.objs.size [s₁.heap.objs.size, Cs] [s₁.heap.objs.size] cs.length _ _ := hcl ▸ Wk.list (w := w) (A := A) false hh s₁.heap.objs.size Cs (Nat.ne_of_lt hTlt) cv
  refine ⟨false, s₁.heap.objs.size, [s₁.heap.objs.size, Cs], [s₁.heap.objs.size], cs.length, _, _, fun i => q (cs.getD i default), fun _ _ i y => ∃ t, y = .int (val (cs.getD i default)) t,
    fun i l => ∃ t1 t2, lk l "size" = some (.int (cs.getD i default).2.1 t1) ∧ lk l "total" = some (.int (cs.getD i default).2.2 t2), fun _ _ => True, 0, rfl,
    { walk := W, few := by (first | lia | omega), st := ⟨hi₂, hC₂.isList⟩, below := lw_below hTlt hz₂, asg := ?_, tests := ?_, elt := ?_, stab := fun _ _ _ _ h _ => h }, fun ys h₅ tk₅ hdone => ?_⟩
  · intro i v s' l Q E' hi hP hk hn st hQ
    obtain ⟨v', e, a, sp, sv, t1, t2, rfl, _, _, ht, _⟩ := Mine.Paired.atL hp (show cs[i]? = some (cs.getD i default) by rw [List.getD_eq_getElem?_getD, List.getElem?_eq_getElem hi]; rfl)
    have hv : v = .ref a := Option.some.inj ((show cv[i]? = some v from hP).symm.trans e)
    subst hv
    exact asg3 hh W (lw_C hTlt hz₂) hkind h1 h2 h3 st.1 (ht.ext (tri_low (Nat.le_refl _) hz₂ hx₂ hk)) hn st ⟨t1, t2, rfl, rfl⟩ hQ
  · rintro i s' l E' hi ⟨t1, t2, e1, e2⟩ hn' hk
    refine wpAny_mono (htest _ s' _ l t1 E' (tri_low (Nat.le_refl _) hz₂ hx₂ hk) hn' e1) (fun ok s'' hy => ?_) fun _ _ e => e
    obtain ⟨rfl, rfl⟩ := hy
    exact ⟨rfl, _, _, rfl, Ext.refl _, SZ.no⟩
  · rintro i s' l E' hi _ ⟨t1, t2, e1, e2⟩ hn' hk _
    refine wpAny_mono (helt _ s' _ l t1 t2 E' hn' e1 e2) (fun y s'' hy => ?_) fun _ _ e => e
    obtain ⟨rfl, t, rfl⟩ := hy
    exact ⟨_, _, rfl, Ext.refl _, ⟨t, rfl⟩, fun _ _ _ _ => trivial, SZ.no⟩
  · obtain ⟨hl₅, hF₅, _, hk₅, _⟩ := hdone
    dsimp only at hl₅ hF₅ hk₅ ⊢
    refine hQ _ ys h₅ tk₅ (fun b o e => hk₅ b o (fun q => absurd (List.mem_singleton.mp q) (lt_ne e (Nat.le_refl _))) (hx₂ b o e)) hl₅ ?_
    exact Paired.mapL (paired_pick (G := fun c y => ∃ t, y = .int (val c) t) hF₅ (fun i _ => rfl) fun i y _ hF => hF)

noncomputable def mostE : Expr := match bestS 2 with | .Assign _ (.Call _ (c :: _) _ _) _ => c | _ => .Name "" ⟨0, 0, 0, 0⟩
noncomputable def wishE : Expr := match bestS 3 with | .Return (some e) _ => e | _ => .Name "" ⟨0, 0, 0, 0⟩
/-- what the best choices are worth, told of the choices -/
structure BestOf (cs : List Choice) (mx : Nat) (top : Nat → Int) : Prop where
  le : ∀ c ∈ cs, c.2.1 ≤ mx
  at_ : ∃ c ∈ cs, c.2.1 = mx
  some_ : ∀ k, k ≤ mx → ∃ c ∈ cs, c.2.1 = (k : Int) ∧ c.2.2 = top k
  all_ : ∀ k, k ≤ mx → ∀ c ∈ cs, c.2.1 = (k : Int) → c.2.2 ≤ top k
theorem most_spec {L Cs : Addr} {cd : Value} {cs : List Choice} {cv : List Value} {mx : Nat} {top : Nat → Int} {Q : Value → Shared → Prop} (hB : Base w s.heap) (hh : A.handled = none) (cC : s.heap.IsCell (L + 1) (some (.ref Cs))) (hC : Lst s.heap Cs cv) (hp : Paired (ChoiceAt [] s.heap) cs cv) (hlen : cv.length ≤ 64)
    (X : BestOf cs mx top) (hQ : ∀ h' t tk, Ext s.heap h' → Q (.int (mx : Int) t) { s with heap := h', toks := tk }) : wpAny (MD w) A (eval mostE (bestEnv L cd)) (fun v s₁ => wpAny (MD w) A (call (.builtin "max") [v]) Q E s₁) E s := by
  refine pickC (cl := []) (fun _ => true) (fun c => c.2.1) rfl (by decide) rfl (by decide) rfl rfl rfl hh <| ldC (c := L + 1) cC ⟨Cs, cv, cs, rfl, hC, hp, by (first | lia | omega), fun c s' C l t1 E' _ _ _ => wpAny_tests_nil ⟨rfl, rfl⟩, fun c s' C l t1 t2 E' hn e1 _ => ldE (l := l) hn e1 ⟨rfl, _, rfl⟩, fun Y ys h₁ tk₁ hx₁ hl₁ hp₁ => ?_⟩
  obtain ⟨c, hc, e⟩ := X.at_
  refine maxX (M := mx) hh hl₁ hp₁ (List.mem_map.mpr ⟨c, List.mem_filter.mpr ⟨hc, rfl⟩, e⟩) (fun a ha => ?_) fun h₂ t₂ tk₂ hx₂ => hQ h₂ t₂ tk₂ (hx₁.trans hx₂)
  obtain ⟨d, hd, rfl⟩ := List.mem_map.mp ha
  exact X.le d (List.mem_filter.mp hd).1
theorem wish_spec {L Cs : Addr} {cd : Value} {cs : List Choice} {cv : List Value} {mx : Nat} {top : Nat → Int} {tm : Tok} {l : List (Str × Value)} {Q : Value → Shared → Prop} (hB : Base w s.heap) (hh : A.handled = none) (hn : s.heap.Ns L (lk l)) (hm : lk l "most" = some (.int (mx : Int) tm)) (hmx : mx ≤ 100)
    (cC : s.heap.IsCell (L + 1) (some (.ref Cs))) (hC : Lst s.heap Cs cv) (hp : Paired (ChoiceAt [] s.heap) cs cv) (hlen : cv.length ≤ 64) (X : BestOf cs mx top)
    (hQ : ∀ Y ys h' tk, Ext s.heap h' → Lst h' Y ys → Paired IntW ((List.range (mx + 1)).map top) ys → Q (.ref Y) { s with heap := h', toks := tk }) : wpAny (MD w) A (eval wishE (bestEnv L cd)) Q E s := by
  refine lcompW (cl := [("choices", L + 1)]) rfl rfl (by decide) (fun _ => rfl) (fun _ => rfl) (fun _ _ => rfl) hh <| Call_Name1 <| ldBE hB (by kernel_rfl) (v := .type "range") (by kernel_rfl) <| PySem.callWith_type1 <| wpAny_BinOp <| ldE hn hm <| wpAny_Constant_int <| add_int <| rangeX (n := mx + 1) (by (first | lia | omega)) fun h₂ tk₂ hx₂ hi₂ hz₂ => ?_
  dsimp only at hx₂ hi₂ hz₂ ⊢
  refine ⟨s.heap.objs.size + 1, mx + 1, top, rfl, hi₂, by (first | lia | omega), ?_, ?_⟩
  · intro i s' C c t E' hi hk hc
    have hx' : Ext s.heap s'.heap := fun b o e => hk b o (fun q => absurd (List.mem_singleton.mp q) (Nat.ne_of_lt (Nat.lt_succ_of_lt (Heap.lt_size e)))) (hx₂ b o e)
    have hB' := hx'.base hB
    refine Call_Name1 <| ldBE hB' (by kernel_rfl) (v := .builtin "max") (by kernel_rfl) <| callWith_builtin1 <| pickC (cl := [("wish", c)]) (fun d => d.2.1 == (i : Int)) (fun c => c.2.2) rfl (by decide) rfl (by decide) rfl rfl rfl hh <| ldC (c := L + 1) (cC.keeps hx')
      ⟨Cs, cv, cs, rfl, hC.ext hx', Mine.Paired.imp hp fun a b z => z.keep (KeepOut.ext hx' []) (fun b hb => hb), by (first | lia | omega), fun d s'' C' l' t1 E'' hx'' hn'' e1 => ?_, fun c s' C l t1 t2 E' hn _ e2 => ldE (l := l) hn e2 ⟨rfl, _, rfl⟩, fun Y ys h₃ tk₃ hx₃ hl₃ hp₃ => ?_⟩
    · exact wpAny_tests_one <| wpAny_isTrue_Compare1 <| ldE (l := l') hn'' e1 <| ldC (c := c) (hc.keeps hx'') <| eq_int <| wpAny_truthy_bool ⟨rfl, rfl⟩
    · obtain ⟨d, hd, e1, e2⟩ := X.some_ i (by (first | lia | omega))
      refine maxX (M := top i) hh hl₃ hp₃ (List.mem_map.mpr ⟨d, List.mem_filter.mpr ⟨hd, by simp [e1]⟩, e2⟩) (fun a ha => ?_) fun h₄ t₄ tk₄ hx₄ => ⟨h₄, tk₄, t₄, rfl, hx₃.trans hx₄, rfl⟩
      obtain ⟨d, hd, rfl⟩ := List.mem_map.mp ha
      obtain ⟨hd1, hd2⟩ := List.mem_filter.mp hd
      exact X.all_ i (by (first | lia | omega)) d hd1 (by simpa using hd2)
  · intro Y ys h' tk hk hl hp'
    exact hQ Y ys h' tk (fun b o e => hk b o (fun q => absurd (List.mem_singleton.mp q) (Nat.ne_of_lt (Nat.lt_succ_of_lt (Heap.lt_size e)))) (hx₂ b o e)) hl hp'
end
end Mine

end
section
open PySem PySem.W PySem.W.X PyProof.Rows PySem.Calls
set_option Elab.async false
set_option maxRecDepth 100000
set_option maxHeartbeats 0
set_option linter.unusedVariables false
namespace Mine
def ItemAt (h : Heap) (it : Int × Int) (v : Value) : Prop := ∃ a t1 t2, v = .ref a ∧ Tup h a [.int it.1 t1, .int it.2 t2]
/-- the state in which the loop over the things stands -/
inductive BSt (s : Shared) (L : Nat) (I : Nat) (T : Nat) (tv : List Value) (its : List (Int × Int)) (k : Nat) (s' : Shared) : Prop
  | mk (h' : Heap) (tk : Nat) (l : List (Str × Value)) (i : Nat) (Cs : Addr) (cv : List Value) (r wo : Option Value) (hs : s' = { s with heap := h', toks := tk }) (f0 : (h'.IsListIter I T i ∧ h'.IsList T tv.toArray)) (f1 : h'.Ns L (lk l)) (f2 : h'.IsCell (L + 1) (some (.ref Cs))) (f3 : h'.IsCell (L + 2) r) (f4 : h'.IsCell (L + 3) wo) (f5 : Lst h' Cs cv) (f6 : Cs ∉ [L, L + 1, L + 2, L + 3, I]) (f7 : Paired (ChoiceAt [L, L + 1, L + 2, L + 3, I] h') ((its.take i).foldl stepC [([0], 0, 0)]) cv) (f8 : Ext s.heap h') (f9 : i ≤ its.length) (f10 : k = its.length - i) : BSt s L I T tv its k s'
section
variable {w : World} {A : Around} {E : Value → Shared → Prop} {s : Shared}
theorem nin5 {L x I : Nat} (h : L + 3 < x) (h' : x ≠ I) : x ∉ [L, L + 1, L + 2, L + 3, I] := by
  simp only [List.mem_cons, List.not_mem_nil, or_false]; (first | lia | omega)
theorem look_best : FnLook w 148 := by unfold FnLook; kernel_rfl
theorem best_turn {L I T Cs : Nat} {cd : Value} {cs : List Choice} {cv : List Value} {r wo : Int} {tr tw : Tok} {l : List (Str × Value)} {Q : Flow → Shared → Prop} (hh : A.handled = none) (hn : s.heap.Ns L (lk l)) (cC : s.heap.IsCell (L + 1) (some (.ref Cs)))
    (cR : s.heap.IsCell (L + 2) (some (.int r tr))) (cW : s.heap.IsCell (L + 3) (some (.int wo tw))) (hC : Lst s.heap Cs cv) (hp : Paired (ChoiceAt [L, L + 1, L + 2, L + 3, I] s.heap) cs cv) (hI : L + 3 < I) (hIs : I < s.heap.objs.size) (hlen : cv.length ≤ 64) (hspan : ∀ c ∈ cs, c.1.length ≤ 64)
    (hCn : Cs ∉ [L, L + 1, L + 2, L + 3, I])
    (hQ : ∀ h' tk l' Cs' cv', KeepOut [L, L + 1] s.heap h' → h'.Ns L (lk l') → h'.IsCell (L + 1) (some (.ref Cs')) → Lst h' Cs' cv' → Cs' ∉ [L, L + 1, L + 2, L + 3, I] → Paired (ChoiceAt [L, L + 1, L + 2, L + 3, I] h') (stepC cs (r, wo)) cv' → Q .next { s with heap := h', toks := tk }) :
    wpAny (MD w) A (execs [loopS 0, loopS 1] (bestEnv L cd)) Q E s := by
  have hbad : ∀ b ∈ [L, L + 1, L + 2, L + 3, I], b < s.heap.objs.size := by
    intro b hb
    simp only [List.mem_cons, List.not_mem_nil, or_false] at hb
    (first | lia | omega)
  refine wpAny_execs_cons <| grown_spec hh hn cC cR cW hC hp hbad (by simp) hlen hspan fun h₁ tk₁ G gv k₁ hn₁ hG₁ hGge hp₁ => ?_
  dsimp only at k₁ hGge ⊢
  have kL : ∀ {b : Nat}, b ≠ L → b ∉ [L] := fun h q => h (List.mem_singleton.mp q)
  have cC₁ : h₁.IsCell (L + 1) _ := let ⟨o, e, d⟩ := cC; ⟨o, k₁ _ _ (kL (Nat.succ_ne_self _)) e, d⟩
  have CsL : (Cs : Nat) ≠ L := fun q => hCn (by simp [q])
  have hC₁ : Lst h₁ Cs cv := hC.keep k₁ (kL CsL)
  have hgl : gv.length ≤ 64 := by
    have h1 := hp₁.length
    rw [List.length_map] at h1
    have := List.length_filter_le (freeC r) cs
    have := hp.length
    (first | lia | omega)
  refine wpAny_execs_cons <| wpAny_Assign_Name <| wpAny_BinOp <| ldC (c := L + 1) cC₁ <| ldE hn₁ rfl <| addL hC₁ hG₁ (by (first | lia | omega)) fun h₂ hx₂ hl₂ hz₂ => ?_
  dsimp only at hx₂ hl₂ hz₂ ⊢
  refine stCell (c := L + 1) (cC₁.keeps hx₂) fun h₃ c₃ hs₃ => ?_
  dsimp only at hs₃ ⊢
  have hbig : I < h₁.objs.size := Nat.lt_of_lt_of_le hIs (Nat.le_of_lt (Nat.lt_of_le_of_lt hGge hG₁.lt))
  have hnew : h₁.objs.size ∉ [L, L + 1, L + 2, L + 3, I] := by simp only [List.mem_cons, List.not_mem_nil, or_false]; (first | lia | omega)
  have k3 : KeepOut [L, L + 1] h₁ h₃ := (KeepOut.ext hx₂ _).trans (KeepOut.same hs₃ (by simp))
  have sub : ∀ b ∈ [L, L + 1], b ∈ [L, L + 1, L + 2, L + 3, I] := fun b hb => by
    simp only [List.mem_cons, List.not_mem_nil, or_false] at hb ⊢
    rcases hb with h | h <;> simp [h]
  refine wpAny_execs_nil <| hQ h₃ _ _ _ _ ((k₁.more fun b hb => by rw [List.mem_singleton.mp hb]; simp).trans k3) ((ns_ext hn₁ hx₂).sameBut hs₃ (show L ≠ L + 1 by (first | lia | omega))) c₃ (hl₂.same hs₃ (ne_of (.inr (by (first | lia | omega))))) hnew ?_
  refine Paired.append ?_ ?_
  · exact Mine.Paired.imp hp fun c v x => (x.keep k₁ fun b hb => by rw [List.mem_singleton.mp hb]; simp).keep k3 sub
  · exact Mine.Paired.imp hp₁ fun c v x => x.keep k3 sub

theorem best_spec {T : Addr} {tv : List Value} {its : List (Int × Int)} {mx : Nat} {top : Nat → Int} {Q : Value → Shared → Prop} (hB : Base w s.heap) (g : Good A 120) (hT : Lst s.heap T tv) (hits : Paired (ItemAt s.heap) its tv) (hlen : its.length ≤ 6) (X : BestOf (choicesC its) mx top) (hmx : mx ≤ 100)
    (hQ : ∀ h' tk Y ys, Ext s.heap h' → Lst h' Y ys → Paired IntW ((List.range (mx + 1)).map top) ys → Q (.ref Y) { s with heap := h', toks := tk }) : wpAny (MD w) A (call (.ref 148) [.ref T]) Q E s := by
  refine call_fnC (binds := [("things", .ref T)]) hB (Good.less g (e := 119 + 1) (by (first | lia | omega))) (fn_best hB) (fun _ _ _ => rfl) (locs rfl) (fun h₁ cd hn₁ hc₁ hx₁ hz₁ g' => ?_) rfl rfl rfl
  have hB₁ := hx₁.base hB
  have cC : h₁.IsCell (s.heap.objs.size + 1) none := hc₁ "choices" _ rfl
  have cR : h₁.IsCell (s.heap.objs.size + 2) none := hc₁ "rights" _ rfl
  have cW : h₁.IsCell (s.heap.objs.size + 3) none := hc₁ "worth" _ rfl
  have hz₁' : h₁.objs.size = s.heap.objs.size + 4 := hz₁
  have hTlt : (T : Nat) < s.heap.objs.size := hT.lt
  generalize hL0 : s.heap.objs.size = L at *
  clear hc₁ hz₁
  refine wpAny_execs_cons <| wpAny_Assign_Name <| List_ <| args_cons <| Tuple_ <| args_cons <| List_ <| args_cons <| wpAny_Constant_int <| args_nil <| newL fun h₂ hx₂ hl₂ hz₂ => ?_
  dsimp only at hx₂ hl₂ hz₂ ⊢
  refine args_cons <| wpAny_Constant_int <| args_cons <| wpAny_Constant_int <| args_nil <| newT fun h₃ hx₃ ht₃ hz₃ => ?_
  dsimp only at hx₃ ht₃ hz₃ ⊢
  refine args_nil <| newL fun h₄ hx₄ hl₄ hz₄ => ?_
  dsimp only at hx₄ hl₄ hz₄ ⊢
  have hx₄' : Ext h₁ h₄ := (hx₂.trans hx₃).trans hx₄
  refine stCell (c := L + 1) (cC.keeps hx₄') fun h₅ c₅ hs₅ => ?_
  dsimp only at hs₅ ⊢
  have n2 : h₂.objs.size = L + 5 := by (first | lia | omega)
  have n3 : h₃.objs.size = L + 6 := by (first | lia | omega)
  have hn₅ : h₅.Ns L (lk [("things", .ref T)]) := (ns_ext hn₁ hx₄').sameBut hs₅ (show L ≠ L + 1 by (first | lia | omega))
  have cR₅ := (cR.keeps hx₄').sameBut hs₅ (show L + 2 ≠ L + 1 by (first | lia | omega))
  have cW₅ := (cW.keeps hx₄').sameBut hs₅ (show L + 3 ≠ L + 1 by (first | lia | omega))
  have hx₅ : Ext s.heap h₅ := (hx₁.trans hx₄').same hs₅ (by rw [hL0]; exact Nat.le_succ _)
  have hC₅ : Lst h₅ (L + 6) [.ref (L + 5)] := by
    have := hl₄.same hs₅ (show h₃.objs.size ≠ L + 1 by (first | lia | omega))
    rw [n3, n2] at this; exact this
  have hch₅ : ∀ bad : List Addr, L + 4 ∉ bad → L + 5 ∉ bad → ChoiceAt bad h₅ ([0], 0, 0) (.ref (L + 5)) := by
    intro bad b1 b2
    have e1 := ht₃.ext hx₄
    have e2 := (hl₂.ext hx₃).ext hx₄
    rw [n2] at e1
    rw [hz₁'] at e1 e2
    obtain ⟨n, q⟩ := e1
    exact ⟨_, _, _, _, _, rfl, b2, b1, ⟨n, hs₅.extBut _ _ (show L + 5 ≠ L + 1 by (first | lia | omega)) q⟩, e2.same hs₅ (show L + 4 ≠ L + 1 by (first | lia | omega)), .cons ⟨_, rfl⟩ .nil⟩
  rw [n3] at c₅
  have hz₅ : h₅.objs.size = L + 7 := by rw [hs₅.1]; (first | lia | omega)
  clear hx₂ hl₂ hz₂ hx₃ ht₃ hz₃ hx₄ hl₄ hz₄ hs₅ hx₄' cC cR cW hn₁ hB₁ hx₁ hz₁' n2 n3
  refine wpAny_execs_cons <| wpAny_For <| ldE hn₅ rfl <| iterL (hT.ext hx₅) fun h₆ hx₆ hi₆ hz₆ => ?_
  dsimp only at hx₆ hi₆ hz₆ ⊢
  rw [hz₅] at hi₆ hz₆ ⊢
  have hTn : ∀ j, (T : Nat) ≠ L + j := fun j => Nat.ne_of_lt (Nat.lt_of_lt_of_le hTlt (Nat.le_add_right _ _))
  have TI : (T : Nat) ≠ L + 7 := Nat.ne_of_lt (Nat.lt_of_lt_of_le hTlt (Nat.le_add_right _ _))
  have W : Wk w (A.deeper (bestEnv L cd)) false (L + 7) [L + 7, T] [L + 7] tv.length _ _ := Wk.list (w := w) (A := A.deeper (bestEnv L cd)) false g'.handled (L + 7) T TI tv
  have htl : its.length = tv.length := hits.length
  refine forLoop_any (BSt s L (L + 7) T tv its) ?turn its.length ⟨h₆, _, _, 0, L + 6, [.ref (L + 5)], none, none, rfl, ⟨hi₆, ((hT.ext hx₅).ext hx₆).isList⟩, ns_ext hn₅ hx₆, c₅.keeps hx₆, cR₅.keeps hx₆, cW₅.keeps hx₆, hC₅.ext hx₆, ?nin, ?pair, hx₅.trans hx₆, Nat.zero_le _, rfl⟩
  case nin => exact nin5 (by (first | lia | omega)) (by (first | lia | omega))
  case pair => exact .cons ((hch₅ _ (nin5 (by (first | lia | omega)) (by (first | lia | omega))) (nin5 (by (first | lia | omega)) (by (first | lia | omega)))).keep (KeepOut.ext hx₆ []) (fun b hb => nomatch hb)) .nil
  clear hC₅ hch₅ hx₆ hi₆ hz₆ cR₅ cW₅ c₅ hn₅ hx₅ hz₅
  rintro k s' ⟨h', tk, l, i, Cs, cv, r, wo, rfl, st, hn, cC, cR, cW, hC, hCn, hp, hx, hi, rfl⟩
  obtain ⟨len1, len2⟩ := choices_len its i
  have pw : 2 ^ i ≤ 64 := by
    have : (2 : Nat) ^ i ≤ 2 ^ 6 := Nat.pow_le_pow_right (by decide) (Nat.le_trans hi hlen)
    exact this
  have hcl := hp.length
  have nI : ∀ {b : Nat}, b ≠ L + 7 → b ∉ [L + 7] := fun h q => h (List.mem_singleton.mp q)
  rcases Nat.lt_or_ge i its.length with hlt | hge
  · refine W.item i _ _ _ (htl ▸ hlt) st fun v h₁ tk₁ hP st₁ k₁ _ => ?_
    dsimp only at k₁ ⊢
    obtain ⟨it, hit, a, t1, t2, rfl, hta⟩ := Mine.Paired.at hits (show tv[i]? = some v from hP)
    have hx₁ : Ext s.heap h₁ := fun b o e => k₁ b o (nI (Nat.ne_of_lt (Nat.lt_of_lt_of_le (hL0 ▸ Heap.lt_size e) (by (first | lia | omega))))) (hx b o e)
    obtain ⟨oI, o1, o2, o3⟩ := id st₁.1
    have cR₁ : h₁.IsCell (L + 2) r := let ⟨o, e, d⟩ := cR; ⟨o, k₁ _ _ (nI (by (first | lia | omega))) e, d⟩
    have cW₁ : h₁.IsCell (L + 3) wo := let ⟨o, e, d⟩ := cW; ⟨o, k₁ _ _ (nI (by (first | lia | omega))) e, d⟩
    have cC₁ : h₁.IsCell (L + 1) _ := let ⟨o, e, d⟩ := cC; ⟨o, k₁ _ _ (nI (by (first | lia | omega))) e, d⟩
    have CsI : (Cs : Nat) ≠ L + 7 := fun q => hCn (by simp [q])
    refine wpAny_bind <| go_plain o1 o2 (by decide) <| assignTup g'.handled (hta.ext hx₁) rfl rfl fun h₂ hx₂ _ => ?_
    dsimp only at hx₂ ⊢
    refine assignInOrder_cons <| assign_Name <| stCell (c := L + 2) (cR₁.keeps hx₂) fun h₃ cR₃ hs₃ => ?_
    dsimp only at hs₃ ⊢
    refine assignInOrder_cons <| assign_Name <| stCell (c := L + 3) ((cW₁.keeps hx₂).sameBut hs₃ (ne_of (by (first | lia | omega)))) fun h₄ cW₄ hs₄ => assignInOrder_nil ?_
    dsimp only at hs₄ ⊢
    have k4 : KeepOut [L + 2, L + 3] h₁ h₄ := (KeepOut.ext hx₂ _).trans ((KeepOut.same hs₃ (by simp)).trans (KeepOut.same hs₄ (by simp)))
    have o4 : ∀ {b : Nat}, b ≠ L + 2 → b ≠ L + 3 → b ∉ [L + 2, L + 3] := fun h1 h2 q => by simp only [List.mem_cons, List.not_mem_nil, or_false] at q; (first | lia | omega)
    have Cs2 : (Cs : Nat) ≠ L + 2 := fun q => hCn (by simp [q])
    have Cs3 : (Cs : Nat) ≠ L + 3 := fun q => hCn (by simp [q])
    have hI4 : h₄.IsListIter (L + 7) T (i + 1) := let ⟨o, e, d⟩ := st₁.1; ⟨o, k4 _ _ (o4 (by (first | lia | omega)) (by (first | lia | omega))) e, d⟩
    have hIs : L + 7 < h₄.objs.size := by obtain ⟨o, e, _⟩ := hI4; exact Heap.lt_size e
    have hk4 : KeepOut [L, L + 1, L + 2, L + 3, L + 7] h' h₄ := (k₁.more fun b hb => by rw [List.mem_singleton.mp hb]; simp).trans (k4.more fun b hb => by simp only [List.mem_cons, List.not_mem_nil, or_false] at hb ⊢; rcases hb with h | h <;> simp [h])
    refine best_turn (I := L + 7) (T := T) g'.handled (ns_keep (ns_keep hn k₁ (nI (by (first | lia | omega)))) k4 (o4 (by (first | lia | omega)) (by (first | lia | omega)))) (let ⟨o, e, d⟩ := cC₁; ⟨o, k4 _ _ (o4 (by (first | lia | omega)) (by (first | lia | omega))) e, d⟩) (cR₃.sameBut hs₄ (ne_of (by (first | lia | omega)))) cW₄ (hC.keep hk4 hCn) (Mine.Paired.imp hp fun c v x => x.keep hk4 fun b hb => hb) (by (first | lia | omega)) hIs (by (first | lia | omega))
      (fun c hc => Nat.le_trans (len2 c hc) pw) hCn fun h₅ tk₅ l₅ Cs₅ cv₅ k₅ hn₅ cC₅ hC₅ hCn₅ hp₅ => ?_
    dsimp only at k₅ ⊢
    have o5 : ∀ {b : Nat}, b ≠ L → b ≠ L + 1 → b ∉ [L, L + 1] := fun h1 h2 q => by simp only [List.mem_cons, List.not_mem_nil, or_false] at q; (first | lia | omega)
    refine ⟨its.length - (i + 1), by (first | lia | omega), ⟨h₅, tk₅, l₅, i + 1, Cs₅, cv₅, some (.int it.1 t1), some (.int it.2 t2), rfl, ⟨?_, ?_⟩, hn₅, cC₅, ?_, ?_, hC₅, hCn₅, ?_, ?_, hlt, rfl⟩⟩
    · obtain ⟨o, e, d⟩ := hI4; exact ⟨o, k₅ _ _ (o5 (by (first | lia | omega)) (by (first | lia | omega))) e, d⟩
    · obtain ⟨o, e, d⟩ := st₁.2; exact ⟨o, k₅ _ _ (o5 (hTn 0) (hTn 1)) (k4 _ _ (o4 (hTn 2) (hTn 3)) e), d⟩
    · obtain ⟨o, e, d⟩ := cR₃.sameBut hs₄ (show L + 2 ≠ L + 3 by (first | lia | omega)); exact ⟨o, k₅ _ _ (o5 (by (first | lia | omega)) (by (first | lia | omega))) e, d⟩
    · obtain ⟨o, e, d⟩ := cW₄; exact ⟨o, k₅ _ _ (o5 (by (first | lia | omega)) (by (first | lia | omega))) e, d⟩
    · rw [List.take_add_one, hit, List.foldl_append]; exact hp₅
    · intro b o e
      have hb : (b : Nat) < L := hL0 ▸ Heap.lt_size e
      exact k₅ b o (o5 (Nat.ne_of_lt hb) (Nat.ne_of_lt (Nat.lt_succ_of_lt hb))) (k4 b o (o4 (Nat.ne_of_lt (Nat.lt_of_lt_of_le hb (by (first | lia | omega)))) (Nat.ne_of_lt (Nat.lt_of_lt_of_le hb (by (first | lia | omega))))) (hx₁ b o e))
  · have : i = its.length := by (first | lia | omega)
    subst this
    rw [List.take_length] at hp
    refine W.done _ _ _ (htl ▸ st) fun h₁ tk₁ k₁ _ => wpAny_execs_nil ?_
    dsimp only at k₁ ⊢
    have hx₁ : Ext s.heap h₁ := fun b o e => k₁ b o (nI (Nat.ne_of_lt (Nat.lt_of_lt_of_le (hL0 ▸ Heap.lt_size e) (by (first | lia | omega))))) (hx b o e)
    have CsI : (Cs : Nat) ≠ L + 7 := fun q => hCn (by simp [q])
    have cC₁ : h₁.IsCell (L + 1) _ := let ⟨o, e, d⟩ := cC; ⟨o, k₁ _ _ (nI (by (first | lia | omega))) e, d⟩
    have hC₁ : Lst h₁ Cs cv := hC.keep k₁ (nI CsI)
    have hp₀ : Paired (ChoiceAt [L, L + 1, L + 2, L + 3, L + 7] h₁) (choicesC its) cv := Mine.Paired.imp hp fun c v x => x.keep k₁ fun b hb => by rw [List.mem_singleton.mp hb]; simp
    have hp₁ : Paired (ChoiceAt [] h₁) (choicesC its) cv := Mine.Paired.imp hp₀ fun c v x => x.less fun b hb => nomatch hb
    have hn₁ := ns_keep hn k₁ (nI (show L ≠ L + 7 by (first | lia | omega)))
    have hcl' : cv.length ≤ 64 := by rw [List.take_length] at len1 hcl; (first | lia | omega)
    refine wpAny_execs_cons <| wpAny_Assign_Name <| Call_Name1 <| ldBE (hx₁.base hB) (by kernel_rfl) (v := .builtin "max") (by kernel_rfl) <| callWith_builtin1 <| most_spec (L := L) (cd := cd) (hx₁.base hB) g'.handled cC₁ hC₁ hp₁ hcl' X fun h₂ t₂ tk₂ hx₂ => stE (ns_ext hn₁ hx₂) fun h₃ hn₃ hs₃ => ?_
    replace hs₃ : Heap.SameBut L h₂ h₃ := hs₃
    have hx₃ : Ext s.heap h₃ := (hx₁.trans hx₂).same hs₃ (Nat.le_of_eq hL0)
    have k3 : KeepOut [L] h₁ h₃ := (KeepOut.ext hx₂ _).trans (KeepOut.same hs₃ (by simp))
    have CsL : (Cs : Nat) ≠ L := fun q => hCn (by simp [q])
    have hp₃ : Paired (ChoiceAt [] h₃) (choicesC its) cv := Mine.Paired.imp hp₀ fun c v x => (x.keep k3 fun b hb => by rw [List.mem_singleton.mp hb]; simp).less fun b hb => nomatch hb
    have oL : ∀ {b : Nat}, b ≠ L → b ∉ [L] := fun h q => h (List.mem_singleton.mp q)
    have cC₃ : h₃.IsCell (L + 1) _ := let ⟨o, e, d⟩ := cC₁; ⟨o, k3 _ _ (oL (by (first | lia | omega))) e, d⟩
    exact wpAny_execs_cons <| wpAny_Return_some <| wish_spec (L := L) (cd := cd) (hx₃.base hB) g'.handled hn₃ rfl hmx cC₃ (hC₁.keep k3 (oL CsL)) hp₃ hcl' X fun Y ys h₄ tk₄ hx₄ hl₄ hp₄ => hQ _ _ _ _ (hx₃.trans hx₄) hl₄ hp₄
end
end Mine

end
section
open PySem PySem.W PySem.W.X PyProof.Rows PySem.Calls
set_option Elab.async false
set_option maxRecDepth 100000
set_option maxHeartbeats 0
set_option linter.unusedVariables false
namespace Mine
noncomputable def seensL (xs : List Int) : List Int := (List.range 6).map fun i => seenV (DL xs i).1 (blockL xs)
noncomputable def keptL (xs : List Int) : List Nat := (keptG (seensL xs) (rowI (DL xs))).1
theorem ext51_base {w : World} {h h' : Heap} (hB : Base w h) (x : Ext51 h h') : Base w h' := by
  intro a o e
  refine x a o (hB a o e) ?_
  rintro rfl
  rw [show (KG w.params).lookup 51 = none by kernel_rfl] at e
  cases e
theorem Lst.ne_cell {h : Heap} {a c : Addr} {vs : List Value} {v : Option Value} (x : Lst h a vs) (y : h.IsCell c v) : a ≠ c := by
  rintro rfl
  obtain ⟨n, e⟩ := x
  obtain ⟨o, e', d⟩ := y
  rw [e] at e'
  cases e'
  cases d
theorem Lst.ne_ns {h : Heap} {a L : Addr} {vs : List Value} {m : Str → Option Value} (x : Lst h a vs) (y : h.Ns L m) : a ≠ L := by
  rintro rfl
  obtain ⟨n, e⟩ := x
  obtain ⟨o, es, ep, e', d, _⟩ := y
  rw [e] at e'
  cases e'
  cases d
/-- all but the two code tables and these -/
def KeepT (wr : List Addr) (h h' : Heap) : Prop := ∀ b o, b ∉ wr → b ≠ 51 → b ≠ 138 → h.get? b = some o → h'.get? b = some o
section
variable {w : World} {A : Around} {E : Value → Shared → Prop} {s : Shared}
theorem look_row : FnLook w 136 := by unfold FnLook; kernel_rfl
theorem look_kept : FnLook w 143 := by unfold FnLook; kernel_rfl
noncomputable def seensE : Expr := match lawS 4 with | .Assign _ (.Call _ [_, c] _ _) _ => c | _ => .Name "" ⟨0, 0, 0, 0⟩
theorem seens_spec {cd : Value} {xs : List Int} {T : Addr} {th : Nat → Addr} {tb : Tok} {l : List (Str × Value)} {Q : Value → Shared → Prop} (hB : Base w s.heap) (g : Good A 140) (hbig : 154 ≤ s.heap.objs.size) (hn : s.heap.Ns 155 (lk l)) (e1 : lk l "things" = some (.ref T)) (c1 : s.heap.IsCell 156 (some (.int (blockL xs) tb)))
    (hT : Lst s.heap T (six fun i => .ref (th i))) (hth : ∀ i, i < 6 → ThingAt s.heap (th i) (DL xs i))
    (hQ : ∀ h' tk S sv, Ext s.heap h' → Lst h' S sv → Paired IntV (seensL xs) sv → Q (.ref S) { s with heap := h', toks := tk }) : wpAny (MD w) A (eval seensE (lawEnv cd)) Q E s := by
  refine lcomp (cl := [("block", 156)]) rfl (by decide) rfl (by decide) <| ldE hn e1 <| iterL hT fun h₂ hx₂ hi₂ hz₂ => ?_
  have hTlt := hT.lt
  have hT₂ := hT.ext hx₂
  have W : Wk w A false s.heap.objs.size [s.heap.objs.size, T] [s.heap.objs.size] 6 _ _ := Wk.list (w := w) (A := A) false g.handled s.heap.objs.size T (Nat.ne_of_lt hTlt) (six fun i => .ref (th i))
  refine ⟨false, s.heap.objs.size, [s.heap.objs.size, T], [s.heap.objs.size], 6, _, _, fun _ => true, fun _ _ i y => ∃ t, y = .int (seenV (DL xs i).1 (blockL xs)) t, fun i l => lk l "thing" = some (.ref (th i)), fun _ _ => True, 0, rfl,
    { walk := W, few := by decide, st := ⟨hi₂, hT₂.isList⟩, below := lw_below hTlt hz₂, asg := ?_, tests := fun _ _ _ _ _ _ _ _ => noTests, elt := ?_, stab := fun _ _ _ _ h _ => h }, fun ys h₅ tk₅ hdone => ?_⟩
  · intro i v s' l Q E' hi hP hk hn st hQ
    have hv : v = .ref (th i) := Option.some.inj ((show (six fun i => .ref (th i))[i]? = some v from hP).symm.trans (keys_at hi))
    subst hv
    exact asgName (B := fun l => lk l "thing" = some (.ref (th i))) W (lw_C hTlt hz₂) rfl rfl hn st rfl hQ
  · rintro i s' l E' hi _ hv hn' hk _
    have hx' := tri_low (Nat.le_refl _) hz₂ hx₂ hk
    have hB' := hx'.base hB
    obtain ⟨t1, t2, t3, ht⟩ := (hth i hi).ext hx'
    refine Call_Name2 <| ldGE hB' (v := .ref 124) (by kernel_rfl) <| call2 look_seen <| Subscript_ <| ldE (l := l) hn' hv <| wpAny_Constant_int <| tailT (v := .int (DL xs i).1 t1) ht (by decide) rfl (by simp) <| ldC (c := 156) (c1.keeps hx') ⟨hB', ?_⟩
    refine seen_spec hB' (g.less (by (first | lia | omega))) ?_ (block_ok xs) fun h' t' tk hx'' => ⟨h', tk, rfl, hx'', ⟨t', rfl⟩, fun _ _ _ _ => trivial, SZ.no⟩
    obtain ⟨o, _, _, e, _⟩ := hn'
    have a1 : (h₂.objs.size + 1 : Nat) < s'.heap.objs.size := Heap.lt_size e
    show 154 ≤ s'.heap.objs.size
    (first | lia | omega)
  · obtain ⟨hl₅, hF₅, _, hk₅, _⟩ := hdone
    dsimp only at hl₅ hF₅ hk₅ ⊢
    refine hQ h₅ tk₅ _ ys (fun b o e => hk₅ b o (fun q => absurd (List.mem_singleton.mp q) (lt_ne e (Nat.le_refl _))) (hx₂ b o e)) hl₅ ?_
    have e : (List.range 6).filter (fun _ => true) = List.range 6 := by simp
    rw [e] at hF₅
    exact Paired.mapL hF₅

theorem kept_stmt {cd : Value} {xs : List Int} {T : Addr} {th : Nat → Addr} {tb : Tok} {l : List (Str × Value)} {v : Option Value} {Q : Flow → Shared → Prop} (hB : Base w s.heap) (g : Good A 150) (hsz : s.heap.objs.size = 224) (hgen : s.gens = #[]) (htk : 407 ≤ s.toks) (ZH : KT.Holds s.heap 1 0 (hz.ktop_345 w.params))
    (hn : s.heap.Ns 155 (lk l)) (e1 : lk l "things" = some (.ref T)) (c1 : s.heap.IsCell 156 (some (.int (blockL xs) tb))) (c3 : s.heap.IsCell 158 v) (h138 : s.heap.get? 138 = some (tabObj #[]))
    (hT : Lst s.heap T (six fun i => .ref (th i))) (hth : ∀ i, i < 6 → ThingAt s.heap (th i) (DL xs i)) (hTb : (154 : Nat) ≤ T) (hthb : ∀ i, i < 6 → (154 : Nat) ≤ th i) (hrow : ∀ i ∈ rowI (DL xs), i < 6) (hrl : (rowI (DL xs)).length ≤ 6)
    (hQ : ∀ h' tk Kp kv, KeepT [158] s.heap h' → (∃ m, h'.get? 51 = some (tableObj m)) → (∃ m, h'.get? 138 = some (tableObj m)) → h'.IsCell 158 (some (.ref Kp)) → Lst h' Kp kv → Paired NatV (keptL xs) kv → Q .next { s with heap := h', toks := tk }) :
    wpAny (MD w) A (exec (lawS 4) (lawEnv cd)) Q E s := by
  have hsm : ∀ i, i < 6 → small (DL xs i).2.1 := fun i hi => by
    refine small_of ?_ ?_ <;> (show _ < _; unfold DL thingD; simp only []; rw [show (50 : Int) = ((50 : Nat) : Int) from rfl, fmE]; (first | lia | omega))
  refine wpAny_Assign_Name <| Call_Name2 <| ldGE hB (v := .ref 143) (by kernel_rfl) <| call2 look_kept <| Call_Name1 <| ldGE hB (v := .ref 136) (by kernel_rfl) <| call1 look_row <| ldE hn e1 ⟨hB, ?_⟩
  refine row_spec hB (g.less (by (first | lia | omega))) hsz hgen htk ZH hT hth hsm hTb hthb fun h₁ tk₁ R rv hx₁ h51 hR hpr => ?_
  try dsimp only at hx₁ ⊢
  have hB₁ := ext51_base hB hx₁
  have n51 : ∀ {b : Nat}, 154 ≤ b → b ≠ 51 := fun h => by (first | lia | omega)
  have hn₁ : h₁.Ns 155 (lk l) := let ⟨o, es, ep, e, r⟩ := hn; ⟨o, es, ep, hx₁ _ _ e (by decide), r⟩
  have c1₁ : h₁.IsCell 156 _ := let ⟨o, e, d⟩ := c1; ⟨o, hx₁ _ _ e (by decide), d⟩
  have c3₁ : h₁.IsCell 158 v := let ⟨o, e, d⟩ := c3; ⟨o, hx₁ _ _ e (by decide), d⟩
  have hT₁ : Lst h₁ T (six fun i => .ref (th i)) := let ⟨n, e⟩ := hT; ⟨n, hx₁ _ _ e (n51 hTb)⟩
  have hth₁ : ∀ i, i < 6 → ThingAt h₁ (th i) (DL xs i) := fun i hi => let ⟨a, b, c, n, e⟩ := hth i hi; ⟨a, b, c, n, hx₁ _ _ e (n51 (hthb i hi))⟩
  have h138₁ : h₁.get? 138 = some (tabObj #[]) := hx₁ _ _ h138 (by decide)
  have hbig : 156 < h₁.objs.size := by obtain ⟨o, e, _⟩ := c1₁; exact Heap.lt_size e
  refine seens_spec hB₁ (g.less (by (first | lia | omega))) (Nat.le_of_lt (Nat.lt_trans (by decide) hbig)) hn₁ e1 c1₁ hT₁ hth₁ fun h₂ tk₂ S sv hx₂ hS hps => ⟨hx₂.base hB₁, ?_⟩
  dsimp only at hx₂ ⊢
  refine kept_spec (row := rowI (DL xs)) (seen := seensL xs) (hx₂.base hB₁) (g.less (by (first | lia | omega))) (hR.ext hx₂) hpr hS hps (fun i hi => ?_) ?_ (by (first | lia | omega)) (hx₂ _ _ h138₁) ?_ fun h₃ tk₃ Kp kv hx₃ tab hK hpk => ?_
  · have : (seensL xs).length = 6 := by simp [seensL]
    rw [this]; exact hrow i hi
  · simp [seensL]
  · obtain ⟨o, e, _⟩ := c1₁.keeps hx₂
    exact Nat.le_of_lt (Nat.lt_trans (show 154 < 156 by decide) (Heap.lt_size e))
  dsimp only at hx₃ ⊢
  have c3₃ : h₃.IsCell 158 v := let ⟨o, e, d⟩ := c3₁; ⟨o, hx₃ _ _ (hx₂ _ _ e) (by decide), d⟩
  refine stCell (c := 158) c3₃ fun h₄ c₄ hs₄ => ?_
  dsimp only at hs₄ ⊢
  refine hQ h₄ _ Kp kv (fun b o hb n1 n2 e => hs₄.extBut b o (fun q => hb (by simp [q])) (hx₃ b o (hx₂ b o (hx₁ b o e n1)) n2)) ⟨_, hs₄.extBut _ _ (by decide) (hx₃ _ _ (hx₂ _ _ h51) (by decide))⟩ ?_ c₄ (hK.same hs₄ (hK.ne_cell c3₃)) hpk
  rcases tab with ⟨_, e⟩ | ⟨_, c', e, _⟩
  · exact ⟨_, hs₄.extBut _ _ (by decide) e⟩
  · exact ⟨_, hs₄.extBut _ _ (by decide) e⟩
end
end Mine

end
section
open PySem PySem.W PySem.W.X PyProof.Rows PySem.Calls
set_option Elab.async false
set_option maxRecDepth 100000
set_option maxHeartbeats 0
set_option linter.unusedVariables false
namespace Mine
noncomputable def worthI (c : Int) : Int := (c.fdiv 16).fmod 50 * (60 : Int).fdiv ((c.fdiv 800).fmod 6 + 1)
noncomputable def worthsL (xs : List Int) : List Int := (cellsL xs).map worthI
noncomputable def wAt (xs : List Int) (p : Int) : Int := (worthsL xs).getD p.toNat 0
noncomputable def topL (xs : List Int) (k : Nat) : List Int := ((keptL xs).take k).map fun (p : Nat) => wAt xs (p : Int)
noncomputable def sumK (xs : List Int) (k : Nat) : Int := preSum (fun i => (topL xs k).getD i 0) (topL xs k).length
theorem pieces_ok (c : Int) : (c.fdiv 800).fmod 6 + 1 ≠ 0 ∧ 0 < (c.fdiv 800).fmod 6 + 1 ∧ (c.fdiv 800).fmod 6 + 1 < 7 := by
  rw [show (6 : Int) = ((6 : Nat) : Int) from rfl, fmE]; (first | lia | omega)
theorem price_ok (c : Int) : 0 ≤ (c.fdiv 16).fmod 50 ∧ (c.fdiv 16).fmod 50 < 50 := by
  rw [show (50 : Int) = ((50 : Nat) : Int) from rfl, fmE]; (first | lia | omega)
theorem worthsL_len (xs : List Int) : (worthsL xs).length = 6 := by unfold worthsL; rw [List.length_map, cellsL_len]
theorem paired_nat {ks : List Nat} {vs : List Value} (h : Paired NatV ks vs) : Paired IntW (ks.map fun (k : Nat) => (k : Int)) vs := Paired.mapL h
section
variable {w : World} {A : Around} {E : Value → Shared → Prop} {s : Shared}
theorem worths_stmt {cd : Value} {xs : List Int} {C : Addr} {cv : List Value} {l : List (Str × Value)} {v : Option Value} {Q : Flow → Shared → Prop} (hh : A.handled = none) (hn : s.heap.Ns 155 (lk l)) (e1 : lk l "cells" = some (.ref C)) (hC : Lst s.heap C cv) (hp : Paired IntW (cellsL xs) cv) (c4 : s.heap.IsCell 159 v)
    (hQ : ∀ h' tk Wo wv, KeepOut [159] s.heap h' → h'.IsCell 159 (some (.ref Wo)) → Lst h' Wo wv → Paired IntW (worthsL xs) wv → Q .next { s with heap := h', toks := tk }) : wpAny (MD w) A (exec (lawS 5) (lawEnv cd)) Q E s := by
  have hcl : cv.length = 6 := by rw [← hp.length]; exact cellsL_len xs
  refine wpAny_Assign_Name <| lcompMap (cl := []) worthI rfl (by decide) rfl (by decide) rfl hh <| ldE hn e1 ⟨C, cv, cellsL xs, rfl, hC, hp, by (first | lia | omega), ?_, ?_⟩
  · intro i s' C' l' t E' hi hx' hn' hv
    generalize (cellsL xs).getD i 0 = c at hv ⊢
    have dv : ∀ x y : Int, (y = 16 ∨ y = 800) → Builtin.divisionGoesByPylong x y = false := fun x y h => by rcases h with rfl | rfl <;> exact PyProof.noPylong_of_log2 (by decide +kernel)
    have p1 := pieces_ok c
    have p2 := price_ok c
    have m1 : ∀ y, IntMulOk ((c.fdiv 16).fmod 50) y := fun y => (small_of (by (first | lia | omega)) (by (first | lia | omega))).mul
    have dv2 : Builtin.divisionGoesByPylong 60 ((c.fdiv 800).fmod 6 + 1) = false := by
      have : ∀ y : Nat, y < 7 → Builtin.divisionGoesByPylong 60 (y : Int) = false := by decide +kernel
      have e : (((c.fdiv 800).fmod 6 + 1).toNat : Int) = (c.fdiv 800).fmod 6 + 1 := Int.toNat_of_nonneg (by (first | lia | omega))
      rw [← e]; exact this _ (by (first | lia | omega))
    exact wpAny_BinOp <| wpAny_BinOp <| wpAny_BinOp <| ldE (l := l') hn' hv <| wpAny_Constant_int <| floordiv_int (by decide) (hp := Or.inl (dv _ _ (by simp))) <| wpAny_Constant_int <| mod_int (by decide) <| wpAny_BinOp <| wpAny_Constant_int <| wpAny_BinOp <| wpAny_BinOp <| wpAny_BinOp <|
      ldE (l := l') hn' hv <| wpAny_Constant_int <| floordiv_int (by decide) (hp := Or.inl (dv _ _ (by simp))) <| wpAny_Constant_int <| mod_int (by decide) <| wpAny_Constant_int <| add_int <| floordiv_int p1.1 (hp := Or.inl dv2) <| mul_int (hm := m1 _) ⟨_, _, _, rfl, Ext.refl _, rfl⟩
  · intro X ys h₁ tk₁ hx₁ hX hl₁ hp₁
    refine stCell (c := 159) (c4.keeps hx₁) fun h₂ c₂ hs₂ => ?_
    dsimp only at hs₂ ⊢
    exact hQ h₂ _ X ys ((KeepOut.ext hx₁ _).trans (KeepOut.same hs₂ (by simp))) c₂ (hl₁.same hs₂ (hl₁.ne_cell (c4.keeps hx₁))) hp₁

theorem sums_stmt {cd : Value} {xs : List Int} {Kp Wo : Addr} {kv wv : List Value} {l : List (Str × Value)} {Q : Flow → Shared → Prop} (hB : Base w s.heap) (hh : A.handled = none) (hbig : 160 ≤ s.heap.objs.size) (hn : s.heap.Ns 155 (lk l)) (c3 : s.heap.IsCell 158 (some (.ref Kp))) (c4 : s.heap.IsCell 159 (some (.ref Wo)))
    (hK : Lst s.heap Kp kv) (hpk : Paired NatV (keptL xs) kv) (hW : Lst s.heap Wo wv) (hpw : Paired IntW (worthsL xs) wv) (hkl : (keptL xs).length ≤ 6) (hkm : ∀ p ∈ keptL xs, p < 6) (hfit : ∀ k, ∀ j, j < (topL xs k).length → InLong ((topL xs k).getD j 0) ∧ InLong (preSum (fun i => (topL xs k).getD i 0) (j + 1)))
    (hQ : ∀ h' tk S sv, KeepOut [155] s.heap h' → h'.Ns 155 (lk (("sums", .ref S) :: l)) → Lst h' S sv → Paired IntW ((List.range ((keptL xs).length + 1)).map (sumK xs)) sv → Q .next { s with heap := h', toks := tk }) : wpAny (MD w) A (exec (lawS 6) (lawEnv cd)) Q E s := by
  have hkv : (keptL xs).length = kv.length := hpk.length
  have hwv : wv.length = 6 := by rw [← hpw.length]; exact worthsL_len xs
  refine lcompA (l := l) (cl := [("worths", 159), ("kept", 158)]) rfl rfl (by decide) rfl (by decide) rfl rfl <| Call_Name1 <| ldBE hB (by kernel_rfl) (v := .type "range") (by kernel_rfl) <| PySem.callWith_type1 <| wpAny_BinOp <| Call_Name1 <| ldBE hB (by kernel_rfl) (v := .builtin "len") (by kernel_rfl) <|
    callWith_builtin1 <| ldC (c := 158) c3 <| lenL hK (by (first | lia | omega)) fun t₁ tk₁ => wpAny_Constant_int <| add_int <| rangeX (n := kv.length + 1) (by (first | lia | omega)) fun h₂ tk₂ hx₂ hi₂ hz₂ => ?_
  dsimp only at hx₂ hi₂ hz₂ ⊢
  generalize hI0 : s.heap.objs.size + 1 = I at *
  have hI : s.heap.objs.size ≤ I := by (first | lia | omega)
  have hzI : h₂.objs.size = I + 1 := by (first | lia | omega)
  have W : Wk w A false I [I] [I] (kv.length + 1) _ _ := Wk.range (w := w) (A := A) hh I (kv.length + 1)
  have h155 : (155 : Nat) < I := by (first | lia | omega)
  refine ⟨false, I, [I], [I], kv.length + 1, _, _, fun _ => true, fun _ _ i y => ∃ t, y = .int (sumK xs i) t, fun i l => ∃ t, lk l "size" = some (.int (i : Int) t), fun _ _ => True, 0, rfl,
    { walk := W, few := by (first | lia | omega), st := hi₂, below := ?_, asg := ?_, tests := fun _ _ _ _ _ _ _ _ => noTests, elt := ?_, stab := fun _ _ _ _ h _ => h }, ?_, ns_ext hn hx₂, fun _ _ _ _ h _ => h, fun ys h₅ tk₅ hdone hn₅ => ?_⟩
  · intro b hb; rw [List.mem_singleton.mp hb]; show I < h₂.objs.size; (first | lia | omega)
  · intro i v s' l Q E' hi hP hk hn st hQ
    obtain ⟨t, rfl⟩ := hP
    refine asgName (B := fun l => ∃ t, lk l "size" = some (.int (i : Int) t)) W ?_ rfl rfl hn st ⟨t, rfl⟩ hQ
    intro hm'
    have e : h₂.objs.size + 1 = I := List.mem_singleton.mp hm'
    (first | lia | omega)
  · rintro i s' l E' hi _ ⟨t, hv⟩ hn' hk _
    have hx' := tri_low hI hzI hx₂ hk
    have hB' := hx'.base hB
    refine Call_Name1 <| ldBE hB' (by kernel_rfl) (v := .builtin "sum") (by kernel_rfl) <| callWith_builtin1 <| lcompMap (cl := [("worths", 159)]) (wAt xs) rfl (by decide) rfl (by decide) rfl hh <| sliceTo <| ldC (c := 158) (c3.keeps hx') <| ldE (l := l) hn' hv ⟨Kp, kv, i, t, rfl, hK.ext hx', by (first | lia | omega), rfl, fun h₃ hx₃ hl₃ hz₃ => ?_⟩
    dsimp only at hx₃ hl₃ hz₃ ⊢
    have hx₃' := hx'.trans hx₃
    refine ⟨_, kv.take i, ((keptL xs).take i).map fun (k : Nat) => (k : Int), rfl, hl₃, paired_nat (Paired.take hpk i), by simp; (first | lia | omega), ?_, ?_⟩
    · intro j s'' C'' l'' t'' E'' hj hx'' hn'' hv''
      rw [List.length_map] at hj
      have hj' : ((keptL xs).take i)[j]? = some ((keptL xs).take i)[j] := List.getElem?_eq_getElem hj
      have e : (((keptL xs).take i).map fun (k : Nat) => (k : Int)).getD j 0 = (((keptL xs).take i)[j] : Nat) := by rw [List.getD_eq_getElem?_getD, List.getElem?_map, hj']; rfl
      rw [e] at hv'' ⊢
      have hp6 : ((keptL xs).take i)[j] < 6 := hkm _ (List.mem_of_mem_take (List.getElem_mem hj))
      generalize ((keptL xs).take i)[j] = p at hv'' hp6 ⊢
      obtain ⟨wy, hwy, t₉, rfl⟩ := Mine.Paired.atL hpw (show (worthsL xs)[p]? = some (wAt xs (p : Int)) by unfold wAt; rw [Int.toNat_natCast, List.getD_eq_getElem?_getD, List.getElem?_eq_getElem (by rw [worthsL_len]; exact hp6)]; rfl)
      exact Subscript_ <| ldC (c := 159) (c4.keeps (hx₃'.trans hx'')) <| ldE (l := l'') hn'' hv'' <| tailL (hW.ext (hx₃'.trans hx'')) (Int.natCast_nonneg _) (by rw [Int.toNat_natCast]; exact hwy) (by (first | lia | omega)) ⟨_, _, _, rfl, Ext.refl _, rfl⟩
    · intro X ys h₄ tk₄ hx₄ hX hl₄ hp₄
      rw [List.map_map] at hp₄
      refine sumX hh hl₄ (show Paired _ (topL xs i) ys from hp₄) (hfit i) fun h₅ tk₅ t₅ hx₅ _ _ => ⟨h₅, tk₅, rfl, (hx₃.trans hx₄).trans hx₅, ⟨t₅, rfl⟩, fun _ _ _ _ => trivial, SZ.no⟩
  · exact fun hm => absurd (List.mem_singleton.mp hm) (Nat.ne_of_lt h155)
  · obtain ⟨hl₅, hF₅, _, hk₅, _⟩ := hdone
    dsimp only at hl₅ hF₅ hk₅ hn₅ ⊢
    refine hQ h₅ tk₅ _ ys (fun b o hb e => hk₅ b o (fun q => ?_) (hx₂ b o e)) hn₅ hl₅ ?_
    · rcases List.mem_cons.mp q with q | q
      · exact hb (by rw [q]; exact List.mem_singleton.mpr rfl)
      · exact absurd (List.mem_singleton.mp q) (lt_ne e hI)
    · have e : (List.range (kv.length + 1)).filter (fun _ => true) = List.range (kv.length + 1) := by simp
      rw [e] at hF₅
      rw [hkv]
      exact Paired.mapL hF₅
end
end Mine

end
section
open PySem PySem.W PySem.W.X PyProof.Rows PySem.Calls
set_option Elab.async false
set_option maxRecDepth 100000
set_option maxHeartbeats 0
set_option linter.unusedVariables false
namespace Mine
/-- an item that lies apart from these -/
def ItemN (bad : List Addr) (h : Heap) (it : Int × Int) (v : Value) : Prop := ∃ a t1 t2, v = .ref a ∧ a ∉ bad ∧ Tup h a [.int it.1 t1, .int it.2 t2]
theorem ItemN.keep {bad wr : List Addr} {h h' : Heap} {it : Int × Int} {v : Value} (x : ItemN bad h it v) (k : KeepOut wr h h') (hw : ∀ b ∈ wr, b ∈ bad) : ItemN bad h' it v := by
  obtain ⟨a, t1, t2, e, n, c, q⟩ := x
  exact ⟨a, t1, t2, e, n, c, k _ _ (fun q => n (hw _ q)) q⟩
/-- the state in which the comprehension over the zip stands -/
inductive ZSt (s₂ : Shared) (D : Nat) (wr : List Addr) (n : Nat) (its : List (Int × Int)) (St : Nat → Heap → Prop) (k : Nat) (s' : Shared) : Prop
  | mk (h' : Heap) (tk : Nat) (l : List (Str × Value)) (ys : List Value) (i : Nat) (hs : s' = { s₂ with heap := h', toks := tk }) (f0 : St i h') (f1 : Lst h' D ys) (f2 : h'.Ns (D + 1) (lk l)) (f3 : Paired (ItemN (D :: (D + 1) :: wr) h') (its.take i) ys) (f4 : i ≤ n) (f5 : k = n - i) (f6 : KeepOut wr s₂.heap h') : ZSt s₂ D wr n its St k s'
inductive TPok (its : List (Int × Int)) (i : Nat) (s' : Shared) (r : Value) (s'' : Shared) : Prop
  | mk (h' : Heap) (tk : Nat) (a : Addr) (t1 t2 : Tok) (hs : s'' = { s' with heap := h', toks := tk }) (hx : Ext s'.heap h') (hr : r = .ref a) (ha : s'.heap.objs.size ≤ a) (ht : Tup h' a [.int (its.getD i (0, 0)).1 t1, .int (its.getD i (0, 0)).2 t2]) : TPok its i s' r s''
inductive LTok (w : World) (A : Around) (env : Env) (scope : Scope) (cl : List (Str × Addr)) (elt : Expr) (x y : Str) (Q : Value → Shared → Prop) (it : Value) (s₂ : Shared) : Prop
  | mk (I : Addr) (fp wr : List Addr) (n : Nat) (Pt : Nat → Array Value → Prop) (St : Nat → Heap → Prop) (Mid : Nat → Addr → Heap → Prop) (its : List (Int × Int)) (hit : it = .ref I) (W : WalksT PR w A I fp wr n Pt St Mid) (hst : St 0 s₂.heap) (hfp : ∀ b ∈ fp, b < s₂.heap.objs.size) (hn : n ≤ 1000) (hl : List.length its = n)
      (he : ∀ i vals, i < n → Pt i vals → ∃ v1 v2, vals = #[v1, v2] ∧ ∀ (s' : Shared) C l E', s'.heap.Ns C (lk l) → lk l x = some v1 → lk l y = some v2 →
        wpAny (MD w) A (eval elt (compEnvC scope cl C env)) (TPok its i s') E' s')
      (hQ : ∀ X ys h' tk, KeepOut wr s₂.heap h' → Lst h' X ys → Paired (ItemAt h') its ys → Q (.ref X) { s₂ with heap := h', toks := tk }) : LTok w A env scope cl elt x y Q it s₂
section
variable {w : World} {A : Around} {E : Value → Shared → Prop} {s : Shared}
/-- a comprehension over pairs handed out by an iterator that owns its tuple -/
theorem lcompT {elt iter : Expr} {x y : Str} {p1 p2 pt pos : Pos} {x1 : Nat} {scope : Scope} {cl : List (Str × Addr)} {env : Env} {Q : Value → Shared → Prop}
    (hclos : closureFor scope env = pure cl) (hcell : ∀ y ∈ scope.names, y.2 ≠ .cell) (hkind : scope.kind = .function) (hnames : ∀ y ∈ scope.names, y.2 = .local → scope.names.lookup y.1 = some .local) (hx : scope.names.lookup x = some .local) (hy : scope.names.lookup y = some .local) (hh : A.handled = none)
    (h : wpAny (MD w) A (eval iter env) (fun xv s₁ => wpAny (MD w) A (pyIter xv) (fun it s₂ => LTok w A env scope cl elt x y Q it s₂) E s₁) E s)
    (hxy : x ≠ y) (hs : ∀ x, foldedSetIterable iter env x = pure x := by intro _; rfl) :
    wpAny (MD w) A (eval (.ListComp elt [⟨.Tuple [.Name x p1, .Name y p2] x1 pt, iter, [], 0⟩] scope pos) env) Q E s := by
  rw [eval_ListComp]
  refine wpAny_comprehension_free (use := none) rfl hs hclos hkind hnames (wpAny_mono h (fun xv s₁ h₁ => wpAny_mono h₁ (fun it s₂ h₂ => ?_) fun _ _ e => e) fun _ _ e => e)
  obtain ⟨I, fp, wr, n, Pt, St, Mid, its, rfl, W, hst, hfp, hn, hits, hel, hQ⟩ := h₂
  clear h h₁
  refine wpAny_newObj_type (wpAny_newFunctionEnv hcell (by intro y hy; simp at hy) (fun h₁ hns₁ hsb₁ => ?_) hkind)
  dsimp only at hns₁ hsb₁ ⊢
  generalize hH2 : s₂.heap.push { cls := .type "list", dict := none, data := .seq ([] : List Value).toArray } = H2 at hns₁ hsb₁ ⊢
  have hC : H2.objs.size = s₂.heap.objs.size + 1 := by rw [← hH2, Heap.size_push]
  rw [hC] at hns₁ hsb₁ ⊢
  generalize hD : s₂.heap.objs.size = D at *
  have old : Ext s₂.heap h₁ := fun b o e => hsb₁.extBut b o (Nat.ne_of_lt (Nat.lt_succ_of_lt (hD ▸ Heap.lt_size e))) (Heap.get?_push_of_some _ (hH2 ▸ Heap.get?_push_of_some _ e))
  have hacc : Lst h₁ D [] := ⟨_, hsb₁.extBut _ _ (Nat.ne_of_lt (Nat.lt_succ_self _)) (Heap.get?_push_of_some _ (hH2 ▸ hD ▸ Heap.get?_push_size _ rfl))⟩
  have hst₁ : St 0 h₁ := W.frame _ _ _ hst fun b _ o e => old b o e
  have hDf : D ∉ fp := fun hm => Nat.lt_irrefl _ (hfp _ hm)
  have hCf : D + 1 ∉ fp := fun hm => Nat.lt_irrefl _ (Nat.lt_of_succ_lt (hfp _ hm))
  have hDw : D ∉ wr := fun hm => hDf (W.sub _ hm)
  have hCw : D + 1 ∉ wr := fun hm => hCf (W.sub _ hm)
  clear hH2 hC hsb₁
  have loop : codeAny (MD w) A (.compLoop (.ListComp elt [⟨.Tuple [.Name x p1, .Name y p2] x1 pt, iter, [], 0⟩] scope pos) 0 (.ref I) (.ref D) (compEnvC scope cl (D + 1) env)) (compPost (MD w) A E none Q (.ref D) (D + 1)) { s₂ with heap := h₁, toks := s₂.toks + ([] : List (Str × Value)).length } := by
    refine compLoop_any (ZSt s₂ D wr n its St) ?_ n ⟨h₁, _, [], [], 0, rfl, hst₁, hacc, hns₁, .nil, Nat.zero_le _, rfl, KeepOut.ext old _⟩
    rintro k s' ⟨h', tk, l, ys, i, rfl, st, hl, hns, hF, hi, rfl, hk⟩
    rcases Nat.lt_or_ge i n with hlt | hge
    · refine W.item i _ _ _ hlt st fun T vals h₃ tk₃ hPt hTge hT₃ mid₃ k₃ => ?_
      dsimp only at k₃ hTge ⊢
      obtain ⟨v1, v2, rfl, hel⟩ := hel i vals hlt hPt
      have Tn := W.apart _ _ _ mid₃
      refine wpAny_bind <| W.go _ _ _ i T _ _ _ mid₃ fun h₄ st₄ k₄ => ?_
      dsimp only at k₄ ⊢
      have kk₄ : KeepOut wr h' h₄ := fun b o hb e => k₄ b o hb (k₃ b o hb e)
      have hT₄ : IsTup h₄ T [v1, v2].toArray := let ⟨o, q, r⟩ := hT₃; ⟨o, k₄ _ _ Tn q, r⟩
      refine assignTupY hh hT₄ rfl rfl fun h₅ hx₅ _ => ?_
      dsimp only at hx₅ ⊢
      refine assignInOrder_cons <| assign_Name <| stComp hkind hx (ns_ext (ns_keep hns kk₄ hCw) hx₅) fun h₆ hn₆ hs₆ => ?_
      dsimp only at hn₆ hs₆ ⊢
      refine assignInOrder_cons <| assign_Name <| stComp hkind hy hn₆ fun h₇ hn₇ hs₇ => assignInOrder_nil ?_
      dsimp only at hn₇ hs₇ ⊢
      have kk₇ : KeepOut (D :: (D + 1) :: wr) h' h₇ := (kk₄.more (by simp +contextual)).trans ((KeepOut.ext hx₅ _).trans ((KeepOut.same hs₆ (by simp)).trans (KeepOut.same hs₇ (by simp))))
      have c1 : D ≠ D + 1 := Nat.ne_of_lt (Nat.lt_succ_self _)
      have hl₇ : Lst h₇ D ys := (((hl.keep kk₄ hDw).ext hx₅).same hs₆ c1).same hs₇ c1
      refine wpAny_tests_nil ?_
      rw [if_pos rfl]
      refine wpAny_mono (hel _ (D + 1) _ _ hn₇ ?_ ?_) (fun r s₈ h₈ => ?_) fun _ _ e => e
      · show List.lookup x ((y, v2) :: (x, v1) :: l) = some v1
        rw [List.lookup_cons, beq_eq_false_iff_ne.mpr hxy, List.lookup_cons, beq_self_eq_true]
      · show List.lookup y ((y, v2) :: (x, v1) :: l) = some v2
        rw [List.lookup_cons, beq_self_eq_true]
      obtain ⟨h₈, tk₈, a, t1, t2, rfl, hx₈, rfl, hage, hta⟩ := h₈
      dsimp only at hx₈ hage ⊢
      have hlen : ys.length ≤ i := by rw [← hF.length, List.length_take]; (first | lia | omega)
      refine appendL (hl₇.ext hx₈) (by (first | lia | omega)) fun h₉ hl₉ hs₉ => ?_
      dsimp only at hs₉ ⊢
      have an : a ∉ D :: (D + 1) :: wr := by
        have l1 : (D : Nat) < h₇.objs.size := hl₇.lt
        have l2 : (D + 1 : Nat) < h₇.objs.size := by obtain ⟨_, _, _, q, _⟩ := hn₇; exact Heap.lt_size q
        have l3 : h₇.objs.size ≤ (a : Nat) := hage
        intro hm
        rcases List.mem_cons.mp hm with q | hm
        · exact absurd q (Nat.ne_of_gt (Nat.lt_of_lt_of_le l1 l3))
        · rcases List.mem_cons.mp hm with q | hm
          · exact absurd q (Nat.ne_of_gt (Nat.lt_of_lt_of_le l2 l3))
          · exact absurd (Nat.lt_trans (hfp _ (W.sub _ hm)) (Nat.lt_of_lt_of_le l1 l3)) (Nat.lt_irrefl _)
      have kk₉ : KeepOut (D :: (D + 1) :: wr) h₇ h₉ := (KeepOut.ext hx₈ _).trans (KeepOut.same hs₉ (by simp))
      refine ⟨n - (i + 1), by (first | lia | omega), ⟨h₉, tk₈, _, _, i + 1, rfl, ?_, hl₉, (ns_ext hn₇ hx₈).sameBut hs₉ c1.symm, ?_, hlt, rfl, fun b o hb e => ?_⟩⟩
      · exact W.frame _ _ _ st₄ fun b hb o e => hs₉.extBut b o (fun q => hDf (q ▸ hb)) (hx₈ b o (hs₇.extBut b o (fun q => hCf (q ▸ hb)) (hs₆.extBut b o (fun q => hCf (q ▸ hb)) (hx₅ b o e))))
      · have ei : its[i]? = some (its.getD i (0, 0)) := by rw [List.getD_eq_getElem?_getD, List.getElem?_eq_getElem (by (first | lia | omega))]; rfl
        rw [List.take_add_one, ei]
        refine Paired.snoc (Mine.Paired.imp hF fun _ _ z => (z.keep kk₇ fun b hb => hb).keep kk₉ fun b hb => hb) ⟨a, t1, t2, rfl, an, ?_⟩
        obtain ⟨m, q⟩ := hta
        exact ⟨m, hs₉.extBut _ _ (fun q => an (by simp [q])) q⟩
      · have hb' : (b : Nat) < D := hD ▸ Heap.lt_size e
        refine kk₉ b o (fun hm => ?_) (kk₇ b o (fun hm => ?_) (hk b o hb e))
        all_goals
          rcases List.mem_cons.mp hm with q | hm
          · exact absurd q (Nat.ne_of_lt hb')
          · rcases List.mem_cons.mp hm with q | hm
            · exact absurd q (Nat.ne_of_lt (Nat.lt_succ_of_lt hb'))
            · exact hb hm
    · have : i = n := by (first | lia | omega)
      subst this
      refine W.done _ _ _ st fun h₃ tk₃ hk₃ => ?_
      dsimp only at hk₃ ⊢
      rw [← hits, List.take_length] at hF
      have k3' : KeepOut (D :: (D + 1) :: wr) h' h₃ := KeepOut.more hk₃ (by simp +contextual)
      refine ⟨_, ns_keep hns hk₃ hCw, fun h'' hs'' => hQ _ ys _ _ (fun b o hb e => ?_) ((hl.keep hk₃ hDw).same hs'' (Nat.ne_of_lt (Nat.lt_succ_self _))) (Mine.Paired.imp hF fun _ _ z => ?_)⟩
      · exact hs''.extBut b o (Nat.ne_of_lt (Nat.lt_succ_of_lt (hD ▸ Heap.lt_size e))) (hk₃ b o hb (hk b o hb e))
      · obtain ⟨a, t1, t2, e, _, q⟩ := (z.keep k3' fun b hb => hb).keep (KeepOut.same hs'' (show D + 1 ∈ D :: (D + 1) :: wr by simp)) fun b hb => hb
        exact ⟨a, t1, t2, e, q⟩
  exact codeAny_compStart_list loop (W.self 0 _ _ _ hst₁ loop)
theorem type2 {pos : Pos} {T : String} {t u : Sem Value} {Q : Value → Shared → Prop} (h : wpAny (MD w) A t (fun v s₁ => wpAny (MD w) A u (fun v' s₂ => wpAny (MD w) A (call (.type T) [v, v']) Q E s₂) E s₁) E s) : wpAny (MD w) A (callWith pos (.type T) [] [(false, t), (false, u)] []) Q E s :=
  PySem.callWith_type rfl (Calls.evalArgs_plain (Calls.spliced_cons (wpAny_mono h (fun _ _ h₁ => Calls.spliced_cons (wpAny_mono h₁ (fun _ _ h₂ => Calls.spliced_nil h₂) fun _ _ e => e)) fun _ _ e => e)))
theorem zip_apart {n c o : Nat} (h1 : c < n) (h2 : o < n) : ZipApart (n + 4) (n + 2) (n + 3) n (n + 1) c o := by
  constructor <;> (show (_ : Nat) ≠ _; (first | lia | omega))
theorem zip_below {n z c o : Nat} (h : z = n + 5) (h1 : c < n) (h2 : o < n) : ∀ b ∈ [n + 4, n + 2, n + 3, n, n + 1, c, o], b < z := by
  intro b hb
  simp only [List.mem_cons, List.not_mem_nil, or_false] at hb
  (first | lia | omega)
theorem zip_out {n b : Nat} (h : b < n) : b ∉ [n + 4, n + 3, n, n + 1] := by
  simp only [List.mem_cons, List.not_mem_nil, or_false]; (first | lia | omega)
noncomputable def pairsE : Expr := match lawS 7 with | .Return (some (.Compare _ _ [.Call _ [c] _ _] _)) _ => c | _ => .Name "" ⟨0, 0, 0, 0⟩
theorem pairs_spec {cd : Value} {C Wo : Addr} {cv wv : List Value} {cs ws : List Int} {its : List (Int × Int)} {l : List (Str × Value)} {Q : Value → Shared → Prop} (hB : Base w s.heap) (hh : A.handled = none) (hn : s.heap.Ns 155 (lk l)) (e1 : lk l "cells" = some (.ref C)) (c4 : s.heap.IsCell 159 (some (.ref Wo)))
    (hC : Lst s.heap C cv) (hp : Paired IntW cs cv) (hW : Lst s.heap Wo wv) (hpw : Paired IntW ws wv) (hcl : cv.length = 6) (hwl : wv.length = 6) (hits : its.length = 6) (hit : ∀ i (c wo : Int), cs[i]? = some c → ws[i]? = some wo → its.getD i (0, 0) = (c.fmod 16, wo))
    (hQ : ∀ h' tk T tv, Ext s.heap h' → Lst h' T tv → Paired (ItemAt h') its tv → Q (.ref T) { s with heap := h', toks := tk }) : wpAny (MD w) A (eval pairsE (lawEnv cd)) Q E s := by
  refine lcompT (cl := []) rfl (by decide) rfl (by decide) rfl rfl hh (hxy := by decide) <| Call_Name2 <| ldBE hB (by kernel_rfl) (v := .type "zip") (by kernel_rfl) <| type2 <| ldE hn e1 <| ldC (c := 159) c4 <| call_zip_2 hC.isList hW.isList fun h₂ hz hTI hTO hi1 hi2 hsz hx => ?_
  try dsimp only at hsz hx ⊢
  have lC : (C : Nat) < s.heap.objs.size := hC.lt
  have lW : (Wo : Nat) < s.heap.objs.size := hW.lt
  have WT := WalksT.zip2 (prog := PR) (w := w) hh _ _ _ _ _ C Wo (zip_apart lC lW) cv.toArray wv.toArray
  rw [show min cv.toArray.size wv.toArray.size = 6 by simp [hcl, hwl]] at WT
  refine wpAny_pyIter_zip hz ⟨_, _, _, 6, _, _, _, its, rfl, WT,
    ⟨hz, hTI, ⟨_, _, hTO⟩, hi1, hi2, (hC.ext hx).isList, (hW.ext hx).isList⟩, zip_below hsz lC lW, by decide, hits, ?_, ?_⟩
  · rintro i vals hi ⟨v1, v2, q1, q2, rfl⟩
    obtain ⟨c, f1, t1, rfl⟩ := Mine.Paired.at hp (show cv[i]? = some v1 by simpa using q1)
    obtain ⟨wo, f2, t2, rfl⟩ := Mine.Paired.at hpw (show wv[i]? = some v2 by simpa using q2)
    refine ⟨_, _, rfl, fun s' C' l' E' hn' g1 g2 => ?_⟩
    refine Tuple_ <| args_cons <| wpAny_BinOp <| ldE (l := l') hn' g1 <| wpAny_Constant_int <| mod_int (by decide) <| args_cons <| ldE (l := l') hn' g2 <| args_nil <| newT fun h₃ hx₃ ht₃ hz₃ => ?_
    exact ⟨h₃, _, _, _, _, rfl, hx₃, rfl, Nat.le_refl _, (congrArg (fun p : Int × Int => Tup h₃ _ [.int p.1 _, .int p.2 _]) (hit i c wo f1 f2)).mpr ht₃⟩
  · intro X ys h' tk hk hl hpi
    exact hQ h' tk X ys (fun b o e => hk b o (zip_out (Heap.lt_size e)) (hx b o e)) hl hpi
/-- two lists of the same whole numbers -/
theorem eq_lists {a b : Addr} {vs ws : List Value} {ns : List Int} {Q : Value → Shared → Prop} (g : Good A 1) (ha : Lst s.heap a vs) (hb : Lst s.heap b ws) (h1 : Paired IntW ns vs) (h2 : Paired IntW ns ws) (h : Q (.bool true) s) : wpAny (MD w) A (compareOp .Eq (.ref a) (.ref b)) Q E s := by
  have e1 := h1.length
  have e2 := h2.length
  refine PySem.SeqAt.eq_listAt (e := fun _ => true) ha.isList hb.isList (by simp; (first | lia | omega)) (by have := g.units; show _ < 9900; (first | lia | omega)) (fun j l1 l2 => ?_) (by rw [show (List.range vs.toArray.size).all (fun _ => true) = true from List.all_eq_true.mpr fun _ _ => rfl]; exact h)
  simp only [List.getElem_toArray]
  have k1 : j < vs.length := by simpa using l1
  have k2 : j < ws.length := by simpa using l2
  obtain ⟨n1, f1, t1, q1⟩ := Mine.Paired.at h1 (List.getElem?_eq_getElem k1)
  obtain ⟨n2, f2, t2, q2⟩ := Mine.Paired.at h2 (List.getElem?_eq_getElem k2)
  rw [q1, q2]
  have : n1 = n2 := Option.some.inj (f1.symm.trans f2)
  subst this
  have := PySem.SeqAt.EqAt.int_int (A := A.in1) (s := s) n1 t1 n1 t2
  rwa [beq_self_eq_true] at this
end
end Mine

end
section
open PySem PySem.W PySem.W.X PyProof.Rows PySem.Calls
set_option Elab.async false
set_option maxRecDepth 100000
set_option maxHeartbeats 0
set_option linter.unusedVariables false
namespace Mine
noncomputable def itsL (xs : List Int) : List (Int × Int) := (cellsL xs).map fun c => (c.fmod 16, worthI c)
/-- what the plain law tells -/
structure PureLaw (xs : List Int) : Prop where
  row : ∀ i ∈ rowI (DL xs), i < 6
  rowLen : (rowI (DL xs)).length ≤ 6
  keptLen : (keptL xs).length ≤ 6
  kept : ∀ p ∈ keptL xs, p < 6
  fit : ∀ k, ∀ j, j < (topL xs k).length → InLong ((topL xs k).getD j 0) ∧ InLong (preSum (fun i => (topL xs k).getD i 0) (j + 1))
  best : BestOf (choicesC (itsL xs)) (keptL xs).length (sumK xs)
theorem pairedOf {ns : List Int} {vs : List Value} (h : IntsAre vs ns) : Paired IntW ns vs := by
  induction h with
  | nil => exact .nil
  | cons n t _ ih => exact .cons ⟨t, rfl⟩ ih
theorem execs_split {env : Env} (a b : Stmt) (rest : List Stmt) : execs (a :: b :: rest) env = (execs [a, b] env >>= fun f => match f with | .next => execs rest env | f => pure f) := by
  rw [execs_cons env a (b :: rest), execs_cons env a [b], bind_assoc]
  congr 1
  funext f
  cases f with
  | next =>
    show execs (b :: rest) env = (execs [b] env >>= _)
    rw [execs_cons env b rest, execs_cons env b [], bind_assoc]
    congr 1
    funext f
    cases f <;> rfl
  | _ => rfl
section
variable {w : World} {A : Around} {E : Value → Shared → Prop} {s : Shared}
theorem execs_two {env : Env} {a b : Stmt} {rest : List Stmt} {Q : Flow → Shared → Prop} (h : wpAny (MD w) A (execs [a, b] env) (fun f s' => match f with | .next => wpAny (MD w) A (execs rest env) Q E s' | f => Q f s') E s) : wpAny (MD w) A (execs (a :: b :: rest) env) Q E s := by
  rw [execs_split]
  refine wpAny_bind (wpAny_mono h (fun f s' hq => ?_) fun _ _ e => e)
  cases f with
  | next => exact hq
  | _ => exact wpAny_pure hq
theorem KeepT.of_keep {wr : List Addr} {h h' : Heap} (x : KeepOut wr h h') : KeepT wr h h' := fun b o hb _ _ e => x b o hb e
theorem KeepT.trans {wr : List Addr} {a b c : Heap} (x : KeepT wr a b) (y : KeepT wr b c) : KeepT wr a c := fun i o hi n1 n2 e => y i o hi n1 n2 (x i o hi n1 n2 e)
theorem KeepT.more {wr wr' : List Addr} {a b : Heap} (x : KeepT wr a b) (h : ∀ i ∈ wr, i ∈ wr') : KeepT wr' a b := fun i o hi n1 n2 e => x i o (fun m => hi (h i m)) n1 n2 e

theorem Lst.ne_tab {h : Heap} {a b : Addr} {vs : List Value} {m : Array Value} (x : Lst h a vs) (y : h.get? b = some (tableObj m)) : a ≠ b := by
  rintro rfl
  obtain ⟨n, e⟩ := x
  rw [e] at y
  cases y
/-- from the row on -/
theorem law_tail {cd : Value} {xs : List Int} {C T N : Addr} {cv : List Value} {th : Nat → Addr} {tb : Tok} {Q : Flow → Shared → Prop} (P : PureLaw xs) (hB : Base w s.heap) (g : Good A 200) (hsz : s.heap.objs.size = 224) (hgen : s.gens = #[]) (htk : 407 ≤ s.toks) (ZH : KT.Holds s.heap 1 0 (hz.ktop_345 w.params))
    (hn : s.heap.Ns 155 (lk [("things", .ref T), ("cells", .ref C), ("numbers", .ref N), ("script", .ref 154)])) (c1 : s.heap.IsCell 156 (some (.int (blockL xs) tb))) (c3 : s.heap.IsCell 158 none) (c4 : s.heap.IsCell 159 none) (h138 : s.heap.get? 138 = some (tabObj #[]))
    (hC : Lst s.heap C cv) (hp : Paired IntW (cellsL xs) cv) (hT : Lst s.heap T (six fun i => .ref (th i))) (hth : ∀ i, i < 6 → ThingAt s.heap (th i) (DL xs i)) (hTb : (154 : Nat) ≤ T) (hthb : ∀ i, i < 6 → (154 : Nat) ≤ th i) (h51 : s.heap.get? 51 = some (tableObj #[]))
    (hQ : ∀ h' tk, KeepT [155, 158, 159] s.heap h' → (∃ m, h'.get? 51 = some (tableObj m)) → (∃ m, h'.get? 138 = some (tableObj m)) → Q (.ret (.bool true)) { s with heap := h', toks := tk }) :
    wpAny (MD w) A (execs [lawS 4, lawS 5, lawS 6, lawS 7] (lawEnv cd)) Q E s := by
  refine wpAny_execs_cons <| kept_stmt hB (g.less (by (first | lia | omega))) hsz hgen htk ZH hn rfl c1 c3 h138 hT hth hTb hthb P.row P.rowLen fun h₁ tk₁ Kp kv k₁ m51 m138 c3₁ hK hpk => ?_
  try dsimp only at k₁ ⊢
  have hB₁ : Base w h₁ := by
    intro a o e
    refine k₁ a o (fun q => ?_) ?_ ?_ (hB a o e)
    · rw [List.mem_singleton.mp q] at e; exact base_lt e (by decide)
    · rintro rfl; rw [show (KG w.params).lookup 51 = none by kernel_rfl] at e; cases e
    · rintro rfl; rw [show (KG w.params).lookup 138 = none by kernel_rfl] at e; cases e
  have hn₁ : h₁.Ns 155 (lk [("things", .ref T), ("cells", .ref C), ("numbers", .ref N), ("script", .ref 154)]) := let ⟨o, es, ep, e, r⟩ := hn; ⟨o, es, ep, k₁ _ _ (by decide) (by decide) (by decide) e, r⟩
  have c4₁ : h₁.IsCell 159 none := let ⟨o, e, d⟩ := c4; ⟨o, k₁ _ _ (by decide) (by decide) (by decide) e, d⟩
  have hC₁ : Lst h₁ C cv := let ⟨n, e⟩ := hC; ⟨n, k₁ _ _ (fun q => absurd (List.mem_singleton.mp q) (hC.ne_cell c3)) (hC.ne_tab h51) (hC.ne_tab h138) e⟩
  refine wpAny_execs_cons <| worths_stmt g.handled hn₁ rfl hC₁ hp c4₁ fun h₂ tk₂ Wo wv k₂ c4₂ hW hpw => ?_
  try dsimp only at k₂ ⊢
  have o2 : ∀ {b : Nat}, b ≠ 159 → b ∉ [159] := fun h q => h (List.mem_singleton.mp q)
  have hn₂ := ns_keep hn₁ k₂ (by decide)
  have c3₂ : h₂.IsCell 158 (some (.ref Kp)) := let ⟨o, e, d⟩ := c3₁; ⟨o, k₂ _ _ (by decide) e, d⟩
  have hK₂ := hK.keep k₂ (o2 (hK.ne_cell c4₁))
  have hC₂ := hC₁.keep k₂ (o2 (hC₁.ne_cell c4₁))
  have hB₂ := base_keep hB₁ k₂ (by decide)
  have hbig : 160 ≤ h₂.objs.size := by obtain ⟨o, e, _⟩ := c4₂; exact Heap.lt_size e
  refine wpAny_execs_cons <| sums_stmt hB₂ g.handled hbig hn₂ c3₂ c4₂ hK₂ hpk hW hpw P.keptLen P.kept P.fit fun h₃ tk₃ S sv k₃ hn₃ hS hps => ?_
  try dsimp only at k₃ ⊢
  have o3 : ∀ {b : Nat}, b ≠ 155 → b ∉ [155] := fun h q => h (List.mem_singleton.mp q)
  have c4₃ : h₃.IsCell 159 (some (.ref Wo)) := let ⟨o, e, d⟩ := c4₂; ⟨o, k₃ _ _ (by decide) e, d⟩
  have hB₃ := base_keep hB₂ k₃ (by decide)
  have hC₃ := hC₂.keep k₃ (o3 (hC₂.ne_ns hn₂))
  have hW₃ := hW.keep k₃ (o3 (hW.ne_ns hn₂))
  have hcl : cv.length = 6 := by rw [← hp.length]; exact cellsL_len xs
  have hwl : wv.length = 6 := by rw [← hpw.length]; exact worthsL_len xs
  have hil : (itsL xs).length = 6 := by unfold itsL; rw [List.length_map]; exact cellsL_len xs
  refine wpAny_execs_cons <| wpAny_Return_some <| wpAny_Compare1 <| ldE hn₃ rfl <| Call_Name1 <| ldGE hB₃ (v := .ref 148) (by kernel_rfl) <| call1 look_best <| pairs_spec (its := itsL xs) hB₃ g.handled hn₃ rfl c4₃ hC₃ hp hW₃ hpw hcl hwl hil ?_ fun h₄ tk₄ Y tv hx₄ hY hpy => ⟨hx₄.base hB₃, ?_⟩
  · intro i c wo f1 f2
    unfold itsL
    unfold worthsL at f2
    rw [List.getElem?_map, f1] at f2
    rw [List.getD_eq_getElem?_getD, List.getElem?_map, f1]
    cases f2
    rfl
  refine best_spec (hx₄.base hB₃) (g.less (by (first | lia | omega))) hY hpy (by (first | lia | omega)) P.best (by have := P.keptLen; (first | lia | omega)) fun h₅ tk₅ X ys hx₅ hl₅ hp₅ => ?_
  try dsimp only at hx₅ ⊢
  refine eq_lists (g.less (by (first | lia | omega))) ((hS.ext hx₄).ext hx₅) hl₅ hps hp₅ ?_
  refine hQ h₅ _ ?_ ?_ ?_
  · intro b o hb n1 n2 e
    simp only [List.mem_cons, List.not_mem_nil, or_false, not_or] at hb
    exact hx₅ b o (hx₄ b o (k₃ b o (o3 hb.1) (k₂ b o (o2 hb.2.2) (k₁ b o (fun q => hb.2.1 (List.mem_singleton.mp q)) n1 n2 e))))
  · obtain ⟨m, e⟩ := m51; exact ⟨m, hx₅ _ _ (hx₄ _ _ (k₃ _ _ (by decide) (k₂ _ _ (by decide) e)))⟩
  · obtain ⟨m, e⟩ := m138; exact ⟨m, hx₅ _ _ (hx₄ _ _ (k₃ _ _ (by decide) (k₂ _ _ (by decide) e)))⟩
theorem good_caller : Good callerA 300 := ⟨rfl, by decide, by decide⟩
theorem lookup_filter {K : Frag} {p : Addr × Obj → Bool} (hp : ∀ a o o', p (a, o) = p (a, o')) : ∀ {a : Addr} {o : Obj}, (K.filter p).lookup a = some o → K.lookup a = some o := by
  induction K with
  | nil => intro a o e; exact e
  | cons x r ih =>
    intro a o e
    obtain ⟨b, ob⟩ := x
    rw [List.lookup_cons]
    rw [List.filter_cons] at e
    cases q : a == b with
    | true =>
      have hab := beq_iff_eq.mp q
      subst hab
      cases f : p (a, ob) with
      | true => rw [if_pos f, List.lookup_cons, q] at e; exact e
      | false =>
        rw [if_neg (by rw [f]; decide)] at e
        exfalso
        clear ih
        induction r with
        | nil => cases e
        | cons y r ih =>
          obtain ⟨c, oc⟩ := y
          rw [List.filter_cons] at e
          cases g : p (c, oc) with
          | true =>
            rw [if_pos g, List.lookup_cons] at e
            cases z : a == c with
            | true => rw [beq_iff_eq.mp z] at f; rw [hp c ob oc, g] at f; cases f
            | false => rw [z] at e; exact ih e
          | false => rw [if_neg (by rw [g]; decide)] at e; exact ih e
    | false =>
      cases f : p (b, ob) with
      | true => rw [if_pos f, List.lookup_cons, q] at e; exact ih e
      | false => rw [if_neg (by rw [f]; decide)] at e; exact ih e
theorem base_of {w : World} {h : Heap} (KX : (hz.heap_192 w.params).In h) : Base w h := fun a o e => KX a o (lookup_filter (fun _ _ _ => rfl) e)
theorem law_spec {xs : List Int} {vs : List Value} {Q : Value → Shared → Prop} (P : PureLaw xs) (KX : (hz.heap_192 w.params).In s.heap) (ZH : KT.Holds s.heap 1 0 (hz.ktop_345 w.params)) (hsz : s.heap.objs.size = 155) (htk : 407 ≤ s.toks) (hg : s.gens = #[])
    (hob : s.heap.get? 154 = some { cls := .type "list", data := .seq vs.toArray }) (hI : IntsAre vs xs) (hlen : xs.length ≤ 63)
    (hQ : ∀ h' tk, (∀ b o, s.heap.get? b = some o → b ≠ 51 → b ≠ 138 → h'.get? b = some o) → (∃ m, h'.get? 51 = some (tableObj m)) → (∃ m, h'.get? 138 = some (tableObj m)) → Q (.bool true) ⟨h', #[], s.drawn, tk, s.os⟩) :
    wpAny (MD w) callerA (call (.ref 153) [.ref 154]) Q E s := by
  have hB := base_of KX
  have hp := pairedOf hI
  have hvl := hp.length
  have hS : Lst s.heap 154 vs := ⟨0, hob⟩
  refine call_fnC (binds := [("script", .ref 154)]) hB (Good.less good_caller (e := 299 + 1) (by (first | lia | omega))) (fn_law hB) (fun _ _ _ => rfl) (locs rfl) (fun h₁ cd hn₁ hc₁ hx₁ hz₁ g' => ?_) rfl rfl rfl
  rw [hsz] at hn₁ hc₁ g' hz₁ ⊢
  have c1 : h₁.IsCell 156 none := hc₁ "block" 156 rfl
  have c2 : h₁.IsCell 157 none := hc₁ "kind" 157 rfl
  have c3 : h₁.IsCell 158 none := hc₁ "kept" 158 rfl
  have c4 : h₁.IsCell 159 none := hc₁ "worths" 159 rfl
  have hz₁' : h₁.objs.size = 160 := hz₁
  have hB₁ := hx₁.base hB
  refine wpAny_execs_cons <| numbers_spec hB₁ (g'.less (by (first | lia | omega))) (by show 156 ≤ h₁.objs.size; (first | lia | omega)) hn₁ (hS.ext hx₁) hp (by (first | lia | omega)) (l := []) fun h₂ tk₂ N nv k₂ hn₂ hN hpN hz₂ ht₂ => ?_
  dsimp only at k₂ hz₂ ht₂ ⊢
  have kc : ∀ {c : Nat}, c ≠ 155 → c ∉ [155] := fun h q => h (List.mem_singleton.mp q)
  have kcell : ∀ {c : Nat} {v : Option Value}, c ≠ 155 → h₁.IsCell c v → h₂.IsCell c v := fun hc ⟨o, e, d⟩ => ⟨o, k₂ _ _ (kc hc) e, d⟩
  have hB₂ := base_keep hB₁ k₂ (by decide)
  refine execs_two <| mid_spec hB₂ (g'.less (by (first | lia | omega))) (by show 160 ≤ h₂.objs.size; (first | lia | omega)) hn₂ hN hpN (kcell (by decide) c1) (kcell (by decide) c2) fun h₃ tk₃ C cv tb tkd k₃ hn₃ hC hpC c1₃ c2₃ hz₃ ht₃ => ?_
  dsimp only at k₃ hz₃ ht₃ ⊢
  have hB₃ := base_keep hB₂ k₃ (by decide)
  refine wpAny_execs_cons <| things_spec hB₃ (g'.less (by (first | lia | omega))) (by show 160 ≤ h₃.objs.size; (first | lia | omega)) hn₃ rfl hC hpC c1₃ c2₃ fun h₄ tk₄ T th k₄ hn₄ hT hth hthb hTb hz₄ ht₄ => ?_
  dsimp only at k₄ hz₄ ht₄ ⊢
  have hB₄ := base_keep hB₃ k₄ (by decide)
  have kall : KeepOut [155, 156, 157] h₁ h₄ := (k₂.more (by simp)).trans (k₃.trans (k₄.more (by simp)))
  have cAt : ∀ {c : Nat} {v : Option Value}, c ∉ [155, 156, 157] → h₁.IsCell c v → h₄.IsCell c v := fun hc ⟨o, e, d⟩ => ⟨o, kall _ _ hc e, d⟩
  have out : ∀ {b : Nat}, b < 155 → b ∉ [155, 156, 157] := fun h => by simp only [List.mem_cons, List.not_mem_nil, or_false]; (first | lia | omega)
  have hx₄ : Ext s.heap h₄ := fun b o e => kall b o (out (hsz ▸ Heap.lt_size e)) (hx₁ b o e)
  have h51 : s.heap.get? 51 = some (tableObj #[]) := KX 51 (tableObj #[]) (by kernel_rfl)
  have h138 : s.heap.get? 138 = some (tabObj #[]) := KX 138 (tableObj #[]) (by kernel_rfl)
  have hC₄ : Lst h₄ C cv := hC.keep k₄ (kc (hC.ne_ns hn₃))
  have c1₄ : h₄.IsCell 156 (some (.int (blockL xs) tb)) := let ⟨o, e, d⟩ := c1₃; ⟨o, k₄ _ _ (by decide) e, d⟩
  refine law_tail (C := C) (N := N) P hB₄ (g'.less (by (first | lia | omega))) (by show h₄.objs.size = 224; (first | lia | omega)) hg (by show 407 ≤ tk₄; (first | lia | omega)) (ZH.keeps hx₄) hn₄ c1₄ (cAt (by decide) c3) (cAt (by decide) c4) (hx₄ _ _ h138) hC₄ hpC hT hth hTb hthb (hx₄ _ _ h51) fun h₅ tk₅ k₅ m51 m138 => ?_
  have := hQ h₅ tk₅ (fun b o e n1 n2 => k₅ b o (fun hm => ?_) n1 n2 (hx₄ b o e)) m51 m138
  · dsimp only at this ⊢
    rw [hg]
    exact this
  · have hb : (b : Nat) < 155 := hsz ▸ Heap.lt_size e
    simp only [List.mem_cons, List.not_mem_nil, or_false] at hm
    rcases hm with q | q | q <;> (rw [q] at hb; exact absurd hb (by decide))
end
end Mine

end
section
open PySem PySem.W PySem.W.X PyProof.Rows
set_option Elab.async false
set_option maxRecDepth 100000
set_option linter.unusedVariables false
namespace Mine
/-! the heap's lists: what comes off is sorted -/
section
variable {lt : Value → Value → Bool} {f : Value → Nat} (hlt : ∀ x y, lt x y = decide (f y < f x))
/-- the key at a place -/
noncomputable def ky (f : Value → Nat) (vs : List Value) (i : Nat) : Nat := f (vs.getD i .none)
theorem ky_set {f : Value → Nat} {vs : List Value} {p : Nat} {v : Value} (hp : p < vs.length) (i : Nat) : ky f (vs.set p v) i = if i = p then f v else ky f vs i := by
  unfold ky
  rw [List.getD_eq_getElem?_getD, List.getD_eq_getElem?_getD, List.getElem?_set]
  by_cases h : p = i
  · subst h; simp [hp]
  · rw [if_neg h, if_neg (fun q => h q.symm)]
def Hp (f : Value → Nat) (vs : List Value) : Prop := ∀ i, 0 < i → i < vs.length → ky f vs i ≤ ky f vs ((i - 1) / 2)
/-- all but what touches this place -/
def HpBut (f : Value → Nat) (vs : List Value) (p : Nat) : Prop := ∀ i, 0 < i → i < vs.length → i ≠ p → (i - 1) / 2 ≠ p → ky f vs i ≤ ky f vs ((i - 1) / 2)
include hlt
theorem sdG_hp (new : Value) : ∀ (pos : Nat) (vs : List Value), pos < vs.length → HpBut f vs pos → (∀ i, 0 < i → i < vs.length → (i - 1) / 2 = pos → ky f vs i ≤ f new) →
    (0 < pos → ∀ i, 0 < i → i < vs.length → (i - 1) / 2 = pos → ky f vs i ≤ ky f vs ((pos - 1) / 2)) → Hp f (sdG lt 0 new vs pos) := by
  intro pos
  induction pos using Nat.strongRecOn with
  | _ pos ih =>
    intro vs hp h1 h2 h3
    have fin : (0 < pos → f new ≤ ky f vs ((pos - 1) / 2)) → Hp f (vs.set pos new) := by
      intro h4 i i0 hi
      rw [List.length_set] at hi
      rw [ky_set hp, ky_set hp]
      by_cases e1 : i = pos
      · subst e1
        rw [if_pos rfl, if_neg (by (first | lia | omega))]
        exact h4 i0
      · rw [if_neg e1]
        by_cases e2 : (i - 1) / 2 = pos
        · rw [if_pos e2]; exact h2 i i0 hi e2
        · rw [if_neg e2]; exact h1 i i0 hi e1 e2
    rw [sdG]
    by_cases p0 : 0 < pos
    · rw [if_pos p0, hlt]
      by_cases c : f (vs.getD ((pos - 1) / 2) .none) < f new
      · rw [if_pos (decide_eq_true c)]
        have hq : (pos - 1) / 2 < pos := by (first | lia | omega)
        refine ih _ hq _ (by rw [List.length_set]; (first | lia | omega)) ?_ ?_ ?_
        · intro i i0 hi e1 e2
          rw [List.length_set] at hi
          rw [ky_set hp, ky_set hp, if_neg (fun q => e2 (by rw [q]))]
          by_cases e3 : (i - 1) / 2 = pos
          · rw [if_pos e3]; exact h3 p0 i i0 hi e3
          · rw [if_neg e3]; exact h1 i i0 hi (fun q => e2 (by rw [q])) e3
        · intro i i0 hi e2
          rw [List.length_set] at hi
          rw [ky_set hp]
          by_cases e3 : i = pos
          · rw [if_pos e3]; exact Nat.le_of_lt c
          · rw [if_neg e3]
            exact Nat.le_trans (h1 i i0 hi e3 (by (first | lia | omega))) (by rw [e2]; exact Nat.le_of_lt c)
        · intro q0 i i0 hi e2
          rw [List.length_set] at hi
          rw [ky_set hp, ky_set hp, if_neg (show ((pos - 1) / 2 - 1) / 2 ≠ pos by (first | lia | omega))]
          have a := h1 ((pos - 1) / 2) q0 (by (first | lia | omega)) (by (first | lia | omega)) (by (first | lia | omega))
          by_cases e3 : i = pos
          · rw [if_pos e3]; exact a
          · rw [if_neg e3]
            have b := h1 i i0 hi e3 (by (first | lia | omega))
            rw [e2] at b
            exact Nat.le_trans b a
      · rw [if_neg (by rw [decide_eq_false c]; decide)]
        exact fin fun _ => Nat.le_of_not_lt c
    · rw [if_neg p0]
      exact fin fun q => absurd q p0
theorem suG_hp (n : Nat) : ∀ (vs : List Value) (pos : Nat), vs.length - pos ≤ n → pos < vs.length → HpBut f vs pos → (0 < pos → ∀ i, 0 < i → i < vs.length → (i - 1) / 2 = pos → ky f vs i ≤ ky f vs ((pos - 1) / 2)) →
    HpBut f (suG lt vs pos).1 (suG lt vs pos).2 ∧ (suG lt vs pos).2 < (suG lt vs pos).1.length ∧ (suG lt vs pos).1.length ≤ 2 * (suG lt vs pos).2 + 1 := by
  induction n with
  | zero => intro vs pos h1 h2; (first | lia | omega)
  | succ n ih =>
    intro vs pos hn hp h1 h3
    rw [suG]
    by_cases c : 2 * pos + 1 < vs.length
    · rw [dif_pos c]
      have hc := childOf_lt (lt := lt) c
      have hg := childOf_gt lt vs pos
      have hpar : (childOf lt vs pos - 1) / 2 = pos := by unfold childOf; split <;> (first | lia | omega)
      have hbest : ∀ i, 0 < i → i < vs.length → (i - 1) / 2 = pos → ky f vs i ≤ ky f vs (childOf lt vs pos) := by
        intro i i0 hi e
        have : i = 2 * pos + 1 ∨ i = 2 * pos + 2 := by (first | lia | omega)
        unfold childOf
        rw [hlt]
        unfold ky
        split
        · rename_i q
          have q2 : ¬ (f (vs.getD (2 * pos + 2) .none) < f (vs.getD (2 * pos + 1) .none)) := of_decide_eq_false q.2
          rcases this with rfl | rfl
          · (first | lia | omega)
          · exact Nat.le_refl _
        · rename_i q
          rcases this with rfl | rfl
          · exact Nat.le_refl _
          · have q2 : f (vs.getD (2 * pos + 2) .none) < f (vs.getD (2 * pos + 1) .none) := by
              apply Decidable.byContradiction
              intro z
              exact q ⟨hi, decide_eq_false z⟩
            (first | lia | omega)
      generalize childOf lt vs pos = k at hc hg hpar hbest
      refine ih _ k (by rw [List.length_set]; (first | lia | omega)) (by rw [List.length_set]; exact hc) ?_ ?_
      · intro i i0 hi e1 e2
        rw [List.length_set] at hi
        rw [ky_set hp, ky_set hp]
        by_cases e3 : i = pos
        · subst e3
          rw [if_pos rfl, if_neg (by (first | lia | omega))]
          exact h3 i0 k (by (first | lia | omega)) hc hpar
        · rw [if_neg e3]
          by_cases e4 : (i - 1) / 2 = pos
          · rw [if_pos e4]; exact hbest i i0 hi e4
          · rw [if_neg e4]; exact h1 i i0 hi e3 e4
      · intro k0 i i0 hi e2
        rw [List.length_set] at hi
        rw [ky_set hp, ky_set hp, if_neg (by (first | lia | omega)), hpar, if_pos rfl]
        have := h1 i i0 hi (by (first | lia | omega)) (by (first | lia | omega))
        rw [e2] at this
        exact this
    · rw [dif_neg c]
      exact ⟨h1, hp, by show vs.length ≤ 2 * pos + 1; (first | lia | omega)⟩
theorem siftupG_hp {vs : List Value} (h0 : 0 < vs.length) (h1 : HpBut f vs 0) : Hp f (siftupG lt vs 0) := by
  obtain ⟨a, b, c⟩ := suG_hp hlt _ vs 0 (Nat.le_refl _) h0 h1 (fun q => absurd q (Nat.lt_irrefl _))
  unfold siftupG
  refine sdG_hp hlt _ _ _ (by rw [List.length_set]; exact b) ?_ ?_ ?_
  · intro i i0 hi e1 e2
    rw [List.length_set] at hi
    rw [ky_set b, ky_set b, if_neg e1, if_neg e2]
    exact a i i0 hi e1 e2
  · intro i i0 hi e; rw [List.length_set] at hi; (first | lia | omega)
  · intro _ i i0 hi e; rw [List.length_set] at hi; (first | lia | omega)
theorem pushG_hp {vs : List Value} {x : Value} (h : Hp f vs) : Hp f (pushG lt vs x) := by
  unfold pushG
  have hl : (vs ++ [x]).length = vs.length + 1 := by simp
  refine sdG_hp hlt _ _ _ (by (first | lia | omega)) ?_ ?_ ?_
  · intro i i0 hi e1 e2
    have := h i i0 (by (first | lia | omega))
    unfold ky at this ⊢
    rw [List.getD_eq_getElem?_getD, List.getD_eq_getElem?_getD, List.getElem?_append_left (by (first | lia | omega)), List.getElem?_append_left (by (first | lia | omega)), ← List.getD_eq_getElem?_getD, ← List.getD_eq_getElem?_getD]
    exact this
  · intro i i0 hi e; (first | lia | omega)
  · intro _ i i0 hi e; (first | lia | omega)
end
/-! the same items -/
theorem hole_perm {vs : List Value} {p q : Nat} {new : Value} (hp : p < vs.length) (hq : q < vs.length) (hne : q ≠ p) : ((vs.set p (vs.getD q .none)).set q new).Perm (vs.set p new) := by
  have h := List.set_set_perm (as := vs.set p new) (i := p) (j := q) (by rw [List.length_set]; exact hp) (by rw [List.length_set]; exact hq)
  have e1 : (vs.set p new)[q]'(by rw [List.length_set]; exact hq) = vs.getD q .none := by
    rw [List.getElem_set_ne (fun h => hne h.symm), List.getD_eq_getElem?_getD, List.getElem?_eq_getElem hq]; rfl
  have e2 : (vs.set p new)[p]'(by rw [List.length_set]; exact hp) = new := List.getElem_set_self ..
  rw [e1, e2, List.set_set] at h
  exact h
section
variable {lt : Value → Value → Bool}
theorem sdG_perm (st : Nat) (new : Value) : ∀ (pos : Nat) (vs : List Value), pos < vs.length → (sdG lt st new vs pos).Perm (vs.set pos new) := by
  intro pos
  induction pos using Nat.strongRecOn with
  | _ pos ih =>
    intro vs hp
    rw [sdG]
    split
    · split
      · exact (ih _ (by (first | lia | omega)) _ (by rw [List.length_set]; (first | lia | omega))).trans (hole_perm hp (by (first | lia | omega)) (by (first | lia | omega)))
      · exact .refl _
    · exact .refl _
theorem suG_perm (new : Value) (n : Nat) : ∀ (vs : List Value) (pos : Nat), vs.length - pos ≤ n → pos < vs.length → ((suG lt vs pos).1.set (suG lt vs pos).2 new).Perm (vs.set pos new) := by
  induction n with
  | zero => intro vs pos h1 h2; (first | lia | omega)
  | succ n ih =>
    intro vs pos hn hp
    rw [suG]
    split
    · rename_i c
      have hc := childOf_lt (lt := lt) c
      have hg := childOf_gt lt vs pos
      exact (ih _ _ (by rw [List.length_set]; (first | lia | omega)) (by rw [List.length_set]; exact hc)).trans (hole_perm hp hc (by (first | lia | omega)))
    · exact .refl _
theorem set_getD {vs : List Value} {p : Nat} (hp : p < vs.length) : vs.set p (vs.getD p .none) = vs := by
  rw [List.getD_eq_getElem?_getD, List.getElem?_eq_getElem hp]
  exact List.set_getElem_self hp
theorem siftupG_perm {vs : List Value} {pos : Nat} (hp : pos < vs.length) : (siftupG lt vs pos).Perm vs := by
  obtain ⟨a, b, _⟩ := suG_len lt _ vs pos (Nat.le_refl _) hp
  unfold siftupG
  have hl : (suG lt vs pos).2 < ((suG lt vs pos).1.set (suG lt vs pos).2 (vs.getD pos .none)).length := by rw [List.length_set, a]; exact b
  refine (sdG_perm pos _ _ _ hl).trans ?_
  rw [set_getD hl]
  refine (suG_perm _ _ vs pos (Nat.le_refl _) hp).trans ?_
  rw [set_getD hp]
theorem pushG_perm (vs : List Value) (x : Value) : (pushG lt vs x).Perm (vs ++ [x]) := by
  unfold pushG
  have hl : vs.length < (vs ++ [x]).length := by simp
  refine (sdG_perm 0 _ _ _ hl).trans ?_
  rw [set_getD hl]
end
section
variable {lt : Value → Value → Bool} {f : Value → Nat} (hlt : ∀ x y, lt x y = decide (f y < f x))
include hlt
theorem Hp.top {vs : List Value} (h : Hp f vs) : ∀ i, i < vs.length → ky f vs i ≤ ky f vs 0 := by
  intro i
  induction i using Nat.strongRecOn with
  | _ i ih =>
    intro hi
    by_cases i0 : i = 0
    · rw [i0]; exact Nat.le_refl _
    · exact Nat.le_trans (h i (by (first | lia | omega)) hi) (ih _ (by (first | lia | omega)) (by (first | lia | omega)))
theorem popG_ok {vs : List Value} {y : Value} (h : Hp f (vs ++ [y])) : Hp f (popG lt vs y) ∧ ((vs ++ [y]).getD 0 .none :: popG lt vs y).Perm (vs ++ [y]) := by
  unfold popG
  cases vs with
  | nil => simp only [if_true]; exact ⟨fun i _ hi => absurd hi (Nat.not_lt_zero _), .refl _⟩
  | cons a r =>
    rw [if_neg (by simp)]
    constructor
    · refine siftupG_hp hlt (by simp) fun i i0 hi e1 e2 => ?_
      have hl : 0 < (a :: r).length := by simp
      rw [List.length_set] at hi
      rw [ky_set hl, ky_set hl, if_neg e1, if_neg e2]
      have := h i i0 (by simp at hi ⊢; (first | lia | omega))
      unfold ky at this ⊢
      rw [List.getD_eq_getElem?_getD, List.getD_eq_getElem?_getD, List.getElem?_append_left (by (first | lia | omega)), List.getElem?_append_left (by (first | lia | omega)), ← List.getD_eq_getElem?_getD, ← List.getD_eq_getElem?_getD] at this
      exact this
    · show (a :: siftupG lt (y :: r) 0).Perm (a :: (r ++ [y]))
      exact (siftupG_perm (by simp)).cons a |>.trans (List.perm_append_comm (l₁ := [y]) (l₂ := r) |>.cons a)
theorem popAll_ok : ∀ (n : Nat) (l : List Value), l.length = n → Hp f l → (popAll lt n l).Perm l ∧ (popAll lt n l).Pairwise (fun x y => f y ≤ f x)
  | 0, l, hl, _ => by
    have : l = [] := List.eq_nil_of_length_eq_zero hl
    subst this
    exact ⟨.refl _, .nil⟩
  | n + 1, l, hl, h => by
    obtain ⟨vs, y, rfl⟩ : ∃ vs y, l = vs ++ [y] := ⟨l.dropLast, l.getLast (by intro q; rw [q] at hl; simp at hl), (List.dropLast_concat_getLast _).symm⟩
    have hv : vs.length = n := by simpa using hl
    have e1 : (vs ++ [y]).dropLast = vs := by simp
    have e2 : (vs ++ [y]).getD n .none = y := by rw [← hv]; simp
    obtain ⟨a, b⟩ := popG_ok hlt h
    obtain ⟨c, d⟩ := popAll_ok n (popG lt vs y) (by rw [popG_len]; exact hv) a
    show ((vs ++ [y]).getD 0 .none :: popAll lt n (popG lt (vs ++ [y]).dropLast ((vs ++ [y]).getD n .none))).Perm _ ∧ List.Pairwise _ ((vs ++ [y]).getD 0 .none :: popAll lt n (popG lt (vs ++ [y]).dropLast ((vs ++ [y]).getD n .none)))
    rw [e1, e2]
    refine ⟨(c.cons _).trans b, List.pairwise_cons.mpr ⟨fun x hx => ?_, d⟩⟩
    have hm : x ∈ vs ++ [y] := b.mem_iff.mp (List.mem_cons_of_mem _ (c.mem_iff.mp hx))
    obtain ⟨i, hi, rfl⟩ := List.getElem_of_mem hm
    have := Hp.top hlt h i hi
    unfold ky at this
    rw [List.getD_eq_getElem?_getD, List.getElem?_eq_getElem hi] at this
    exact this
theorem push3_ok' (g : Nat → Value) : ∀ i, Hp f (push3 lt g i)
  | 0 => siftupG_hp hlt (by simp) fun i i0 hi e1 e2 => by simp at hi; (first | lia | omega)
  | i + 1 => pushG_hp hlt (push3_ok' g i)
end
theorem push3_perm {lt : Value → Value → Bool} (g : Nat → Value) : (push3 lt g 3).Perm (six g) := by
  show (pushG lt (pushG lt (pushG lt (siftupG lt [g 0, g 1, g 2] 0) (g 3)) (g 4)) (g 5)).Perm _
  have a : (siftupG lt [g 0, g 1, g 2] 0).Perm [g 0, g 1, g 2] := siftupG_perm (by simp)
  have b := (pushG_perm (lt := lt) _ (g 3)).trans (a.append_right [g 3])
  have c := (pushG_perm (lt := lt) _ (g 4)).trans (b.append_right [g 4])
  exact (pushG_perm (lt := lt) _ (g 5)).trans (c.append_right [g 5])
/-- what comes off: each place once, the worths falling -/
theorem rowI_ok {D : Nat → Int × Int × Int} {wo : Nat → Nat} (h : ∀ i j, ltI D i j = decide (wo j < wo i)) : (rowI D).Perm (List.range 6) ∧ (rowI D).Pairwise (fun i j => wo j ≤ wo i) := by
  have hlt : ∀ x y : Value, (fun x y => ltI D (ixK id x) (ixK id y)) x y = decide ((fun v => wo (ixK id v)) y < (fun v => wo (ixK id v)) x) := fun x y => h _ _
  obtain ⟨a, b⟩ := popAll_ok hlt 6 (push3 (fun x y => ltI D (ixK id x) (ixK id y)) (fun i => .ref i) 3) (push3_ok _ _ 3 (Nat.le_refl _)).1 (push3_ok' hlt _ 3)
  refine ⟨((a.trans (push3_perm _)).map (ixK id)), ?_⟩
  unfold rowI
  exact List.pairwise_map.mpr b
end Mine

end
section
set_option Elab.async false
namespace Mine
/-! what numbers make, turned upon each other -/
noncomputable def spanR : List Nat → List Nat
  | [] => [0]
  | v :: l => spanR l ++ (spanR l).map (· ^^^ v)
theorem spanR_len (l : List Nat) : (spanR l).length = 2 ^ l.length := by
  induction l with
  | nil => rfl
  | cons v l ih => show (spanR l ++ (spanR l).map _).length = _; rw [List.length_append, List.length_map, ih, List.length_cons, Nat.pow_succ]; (first | lia | omega)
theorem xor_xor (a b : Nat) : a ^^^ b ^^^ b = a := by rw [Nat.xor_assoc, Nat.xor_self, Nat.xor_zero]
theorem mem_cons_span {v z : Nat} {l : List Nat} : z ∈ spanR (v :: l) ↔ z ∈ spanR l ∨ z ^^^ v ∈ spanR l := by
  show z ∈ spanR l ++ (spanR l).map _ ↔ _
  rw [List.mem_append, List.mem_map]
  constructor
  · rintro (h | ⟨y, hy, rfl⟩)
    · exact .inl h
    · exact .inr (by rw [xor_xor]; exact hy)
  · rintro (h | h)
    · exact .inl h
    · exact .inr ⟨_, h, xor_xor _ _⟩
theorem zero_span (l : List Nat) : 0 ∈ spanR l := by
  induction l with
  | nil => exact .head _
  | cons v l ih => exact mem_cons_span.mpr (.inl ih)
theorem xor_span {l : List Nat} : ∀ {a b : Nat}, a ∈ spanR l → b ∈ spanR l → a ^^^ b ∈ spanR l := by
  induction l with
  | nil =>
    intro a b ha hb
    have e1 : a = 0 := List.mem_singleton.mp ha
    have e2 : b = 0 := List.mem_singleton.mp hb
    rw [e1, e2]; exact .head _
  | cons v l ih =>
    intro a b ha hb
    rw [mem_cons_span] at ha hb ⊢
    rcases ha with ha | ha <;> rcases hb with hb | hb
    · exact .inl (ih ha hb)
    · exact .inr (by rw [Nat.xor_assoc]; exact ih ha hb)
    · exact .inr (by rw [Nat.xor_assoc, Nat.xor_comm b v, ← Nat.xor_assoc]; exact ih ha hb)
    · refine .inl ?_
      have := ih ha hb
      rwa [Nat.xor_assoc, Nat.xor_comm v (b ^^^ v), xor_xor] at this
theorem self_span {l : List Nat} : ∀ {v : Nat}, v ∈ l → v ∈ spanR l := by
  induction l with
  | nil => intro v h; cases h
  | cons a l ih =>
    intro v h
    rw [mem_cons_span]
    rcases List.mem_cons.mp h with rfl | h
    · exact .inr (by rw [Nat.xor_self]; exact zero_span l)
    · exact .inl (ih h)
theorem span_sub {l m : List Nat} (h : ∀ v ∈ l, v ∈ spanR m) : ∀ {z : Nat}, z ∈ spanR l → z ∈ spanR m := by
  induction l with
  | nil => intro z hz; rw [List.mem_singleton.mp hz]; exact zero_span m
  | cons v l ih =>
    intro z hz
    have ih' := @ih fun u hu => h u (.tail _ hu)
    rcases mem_cons_span.mp hz with hz | hz
    · exact ih' hz
    · have := xor_span (ih' hz) (h v (.head _))
      rwa [xor_xor] at this
theorem span_mono {l m : List Nat} (h : ∀ v ∈ l, v ∈ m) {z : Nat} (hz : z ∈ spanR l) : z ∈ spanR m := span_sub (fun v hv => self_span (h v hv)) hz
theorem span_perm {l m : List Nat} (h : l.Perm m) : (spanR l).Perm (spanR m) := by
  induction h with
  | nil => exact .refl _
  | cons v _ ih => exact ih.append (ih.map _)
  | trans _ _ ih1 ih2 => exact ih1.trans ih2
  | swap a b l =>
    show ((spanR l ++ (spanR l).map (· ^^^ a)) ++ (spanR l ++ (spanR l).map (· ^^^ a)).map (· ^^^ b)).Perm ((spanR l ++ (spanR l).map (· ^^^ b)) ++ (spanR l ++ (spanR l).map (· ^^^ b)).map (· ^^^ a))
    rw [List.map_append, List.map_append, List.map_map, List.map_map]
    have e : ((fun x => x ^^^ b) ∘ fun x => x ^^^ a) = ((fun x => x ^^^ a) ∘ fun x => x ^^^ b) := by
      funext x
      show x ^^^ a ^^^ b = x ^^^ b ^^^ a
      rw [Nat.xor_assoc, Nat.xor_comm a b, ← Nat.xor_assoc]
    rw [e, List.append_assoc, List.append_assoc]
    refine List.Perm.append_left _ ?_
    rw [← List.append_assoc, ← List.append_assoc]
    exact List.Perm.append_right _ List.perm_append_comm
def Ind (l : List Nat) : Prop := (spanR l).Nodup
theorem Ind.perm {l m : List Nat} (h : l.Perm m) (x : Ind l) : Ind m := (span_perm h).nodup_iff.mp x
theorem ind_cons {v : Nat} {l : List Nat} : Ind (v :: l) ↔ Ind l ∧ v ∉ spanR l := by
  unfold Ind
  show (spanR l ++ (spanR l).map (· ^^^ v)).Nodup ↔ _
  rw [List.nodup_append]
  constructor
  · rintro ⟨a, _, c⟩
    refine ⟨a, fun hv => ?_⟩
    exact c v hv v (List.mem_map.mpr ⟨0, zero_span l, Nat.zero_xor v⟩) rfl
  · rintro ⟨a, b⟩
    refine ⟨a, ?_, ?_⟩
    · refine List.pairwise_map.mpr (a.imp ?_)
      intro x y hxy e
      apply hxy
      have := congrArg (· ^^^ v) e
      simpa [xor_xor] using this
    · intro x hx y hy e
      subst e
      obtain ⟨z, hz, rfl⟩ := List.mem_map.mp hy
      apply b
      have := xor_span hz hx
      rwa [← Nat.xor_assoc, Nat.xor_self, Nat.zero_xor] at this
theorem Ind.sub {l m : List Nat} (h : l.Sublist m) (x : Ind m) : Ind l := by
  induction h with
  | slnil => exact x
  | cons a _ ih => exact ih (ind_cons.mp x).1
  | cons_cons a h ih =>
    obtain ⟨y, z⟩ := ind_cons.mp x
    exact ind_cons.mpr ⟨ih y, fun q => z (span_mono (fun v hv => h.subset hv) q)⟩
theorem len_le {α : Type} [BEq α] [LawfulBEq α] : ∀ {l m : List α}, l.Nodup → (∀ x ∈ l, x ∈ m) → l.length ≤ m.length
  | [], _, _, _ => Nat.zero_le _
  | a :: l, m, hd, hs => by
    have ha : a ∈ m := hs a (.head _)
    have hd' := List.nodup_cons.mp hd
    have h := len_le (l := l) (m := m.erase a) hd'.2 fun x hx => (List.mem_erase_of_ne (show x ≠ a from fun e => hd'.1 (e ▸ hx))).mpr (hs x (.tail _ hx))
    have := List.length_erase_of_mem ha
    have h0 : 0 < m.length := List.length_pos_of_mem ha
    rw [List.length_cons]; (first | lia | omega)
theorem ind_le {l m : List Nat} (x : Ind l) (h : ∀ v ∈ l, v ∈ spanR m) : l.length ≤ m.length := by
  have := len_le x fun z hz => span_sub h hz
  rw [spanR_len, spanR_len] at this
  exact (Nat.pow_le_pow_iff_right (by decide)).mp this

/-! numbers reduced one by another -/
noncomputable def lamN (a b : Nat) : Nat := if a ^^^ b < a then a ^^^ b else a
theorem red_xor : ∀ a, a < 16 → ∀ b, b < 16 → ∀ c, c < 16 → a < a ^^^ b → c < c ^^^ b → a ^^^ c < a ^^^ c ^^^ b := by decide +kernel
theorem lam_red : ∀ a, a < 16 → ∀ b, b < 16 → b ≠ 0 → lamN a b < lamN a b ^^^ b := by decide +kernel
theorem lam_or (a b : Nat) : lamN a b = a ∨ lamN a b = a ^^^ b := by unfold lamN; split <;> simp
theorem xor_lt16 {a b : Nat} (ha : a < 16) (hb : b < 16) : a ^^^ b < 16 := Nat.xor_lt_two_pow (n := 4) ha hb
theorem lam_lt16 {a b : Nat} (ha : a < 16) (hb : b < 16) : lamN a b < 16 := by
  rcases lam_or a b with h | h <;> rw [h]
  · exact ha
  · exact xor_lt16 ha hb
/-- a reduced list of numbers: each below what it is turned by an earlier one -/
def RB (bs : List Nat) : Prop := (∀ b ∈ bs, b < 16 ∧ b ≠ 0) ∧ bs.Pairwise fun b c => c < c ^^^ b
theorem rb_span {b : Nat} {bs : List Nat} (hb : b < 16) (h : ∀ c ∈ bs, c < 16 ∧ c < c ^^^ b) (h0 : b ≠ 0) : ∀ {y : Nat}, y ∈ spanR bs → y < 16 ∧ y < y ^^^ b := by
  induction bs with
  | nil => intro y hy; rw [List.mem_singleton.mp hy, Nat.zero_xor]; exact ⟨by decide, Nat.pos_of_ne_zero h0⟩
  | cons c bs ih =>
    intro y hy
    have ih' := @ih fun d hd => h d (.tail _ hd)
    rcases mem_cons_span.mp hy with hy | hy
    · exact ih' hy
    · obtain ⟨a1, a2⟩ := ih' hy
      obtain ⟨c1, c2⟩ := h c (.head _)
      have := red_xor _ a1 b hb c c1 a2 c2
      rw [xor_xor] at this
      exact ⟨by have := xor_lt16 a1 c1; rwa [xor_xor] at this, this⟩
theorem fold_zero {bs : List Nat} (h : RB bs) : ∀ {y : Nat}, y ∈ spanR bs → bs.foldl lamN y = 0 := by
  induction bs with
  | nil => intro y hy; exact List.mem_singleton.mp hy
  | cons b bs ih =>
    intro y hy
    obtain ⟨h1, h2⟩ := h
    obtain ⟨p1, p2⟩ := List.pairwise_cons.mp h2
    have hb := h1 b (.head _)
    have red := @rb_span b bs hb.1 (fun c hc => ⟨(h1 c (.tail _ hc)).1, p1 c hc⟩) hb.2
    have key : ∀ y', y' ∈ spanR bs → (y = y' ∨ y = y' ^^^ b) → lamN y b = y' := by
      intro y' hy' e
      have r := (red hy').2
      unfold lamN
      rcases e with rfl | rfl
      · rw [if_neg (Nat.not_lt.mpr (Nat.le_of_lt r))]
      · rw [xor_xor, if_pos r]
    show bs.foldl lamN (lamN y b) = 0
    have ihb := @ih ⟨fun c hc => h1 c (.tail _ hc), p2⟩
    rcases mem_cons_span.mp hy with hy | hy
    · rw [key y hy (.inl rfl)]; exact ihb hy
    · rw [key _ hy (.inr (by rw [xor_xor]))]; exact ihb hy
/-- what is left, and the number itself, differ by what the list makes -/
theorem fold_span {bs : List Nat} : ∀ {x : Nat}, (bs.foldl lamN x) ^^^ x ∈ spanR bs := by
  induction bs with
  | nil => intro x; show x ^^^ x ∈ _; rw [Nat.xor_self]; exact .head _
  | cons b bs ih =>
    intro x
    show (bs.foldl lamN (lamN x b)) ^^^ x ∈ _
    have h := @ih (lamN x b)
    rw [mem_cons_span]
    rcases lam_or x b with e | e
    · rw [e] at h ⊢; exact .inl h
    · rw [e] at h ⊢; exact .inr (by rw [Nat.xor_assoc]; exact h)
theorem fold_lt16 {bs : List Nat} (h : ∀ b ∈ bs, b < 16) : ∀ {x : Nat}, x < 16 → bs.foldl lamN x < 16 := by
  induction bs with
  | nil => intro x hx; exact hx
  | cons b bs ih => intro x hx; exact ih (fun c hc => h c (.tail _ hc)) (lam_lt16 hx (h b (.head _)))
theorem fold_red {bs : List Nat} (h : RB bs) : ∀ {x : Nat}, x < 16 → ∀ b ∈ bs, bs.foldl lamN x < (bs.foldl lamN x) ^^^ b := by
  have stay : ∀ (b : Nat), b < 16 → ∀ (bs : List Nat), (∀ c ∈ bs, c < 16 ∧ c < c ^^^ b) → ∀ x, x < 16 → x < x ^^^ b → bs.foldl lamN x < (bs.foldl lamN x) ^^^ b := by
    intro b hb bs
    induction bs with
    | nil => intro _ x _ hx; exact hx
    | cons c bs ih =>
      intro h x hx16 hx
      have hc := h c (.head _)
      refine ih (fun d hd => h d (.tail _ hd)) _ (lam_lt16 hx16 hc.1) ?_
      rcases lam_or x c with e | e
      · rw [e]; exact hx
      · rw [e]; exact red_xor x hx16 b hb c hc.1 hx hc.2
  induction bs with
  | nil => intro x _ b hb; cases hb
  | cons a bs ih =>
    intro x hx b hb
    obtain ⟨h1, h2⟩ := h
    obtain ⟨p1, p2⟩ := List.pairwise_cons.mp h2
    have ha := h1 a (.head _)
    show bs.foldl lamN (lamN x a) < _
    rcases List.mem_cons.mp hb with rfl | hb
    · exact stay b ha.1 bs (fun c hc => ⟨(h1 c (.tail _ hc)).1, p1 c hc⟩) _ (lam_lt16 hx ha.1) (lam_red x hx b ha.1 ha.2)
    · exact ih ⟨fun c hc => h1 c (.tail _ hc), p2⟩ (lam_lt16 hx ha.1) b hb
end Mine

end
section
set_option Elab.async false
set_option linter.unusedVariables false
namespace Mine
/-! the greedy choice -/
/-- one place more -/
noncomputable def keptN (sg : Nat → Nat) (st : List Nat × List Nat) (p : Nat) : List Nat × List Nat :=
  if st.2.foldl lamN (sg p) ≠ 0 then (st.1 ++ [p], st.2 ++ [st.2.foldl lamN (sg p)]) else st
structure Gr (sg wo : Nat → Nat) (pre : List Nat) (st : List Nat × List Nat) : Prop where
  rb : RB st.2
  sub : st.1.Sublist pre
  sp : ∀ z, z ∈ spanR st.2 ↔ z ∈ spanR (st.1.map sg)
  ind : Ind (st.1.map sg)
  all : ∀ p ∈ pre, sg p ∈ spanR ((st.1.filter fun k => decide (wo p ≤ wo k)).map sg)
theorem snoc_span {l : List Nat} {v z : Nat} : z ∈ spanR (l ++ [v]) ↔ z ∈ spanR (v :: l) := (span_perm (List.perm_append_comm (l₁ := l) (l₂ := [v]))).mem_iff
theorem Gr.step {sg wo : Nat → Nat} {pre : List Nat} {st : List Nat × List Nat} {p : Nat} (g : Gr sg wo pre st) (hsg : ∀ i, sg i < 16) (hwo : ∀ q ∈ pre, wo p ≤ wo q) : Gr sg wo (pre ++ [p]) (keptN sg st p) := by
  obtain ⟨rb, sub, sp, ind, all⟩ := g
  have hks : ∀ k ∈ st.1, wo p ≤ wo k := fun k hk => hwo k (sub.subset hk)
  unfold keptN
  by_cases hz : st.2.foldl lamN (sg p) = 0
  · rw [if_neg (by simp [hz])]
    have hin : sg p ∈ spanR (st.1.map sg) := by
      have := fold_span (bs := st.2) (x := sg p)
      rw [hz, Nat.zero_xor] at this
      exact (sp _).mp this
    refine ⟨rb, sub.trans (List.sublist_append_left _ _), sp, ind, fun q hq => ?_⟩
    rcases List.mem_append.mp hq with hq | hq
    · exact all q hq
    · rw [List.mem_singleton.mp hq, List.filter_eq_self.mpr fun k hk => decide_eq_true (hks k hk)]
      exact hin
  · rw [if_pos hz]
    have h16 := fold_lt16 (fun b hb => (rb.1 b hb).1) (hsg p) (bs := st.2)
    have hsp : ∀ z, z ∈ spanR (st.2 ++ [st.2.foldl lamN (sg p)]) ↔ z ∈ spanR ((st.1 ++ [p]).map sg) := by
      intro z
      have hx := fold_span (bs := st.2) (x := sg p)
      have e : (st.1 ++ [p]).map sg = st.1.map sg ++ [sg p] := by rw [List.map_append]; rfl
      rw [e, snoc_span, snoc_span, mem_cons_span, mem_cons_span, ← sp, ← sp]
      refine or_congr Iff.rfl ⟨fun h => ?_, fun h => ?_⟩
      · have := xor_span h hx
        rwa [Nat.xor_assoc, ← Nat.xor_assoc (st.2.foldl lamN (sg p)), Nat.xor_self, Nat.zero_xor] at this
      · have := xor_span h hx
        rwa [Nat.xor_assoc, Nat.xor_comm (st.2.foldl lamN (sg p)), ← Nat.xor_assoc (sg p), Nat.xor_self, Nat.zero_xor] at this
    refine ⟨⟨fun b hb => ?_, List.pairwise_append.mpr ⟨rb.2, List.pairwise_singleton _ _, fun b hb c hc => ?_⟩⟩, sub.append (List.Sublist.refl _), hsp, ?_, fun q hq => ?_⟩
    · rcases List.mem_append.mp hb with hb | hb
      · exact rb.1 b hb
      · rw [List.mem_singleton.mp hb]; exact ⟨h16, hz⟩
    · rw [List.mem_singleton.mp hc]; exact fold_red rb (hsg p) b hb
    · have e : (st.1 ++ [p]).map sg = st.1.map sg ++ [sg p] := by rw [List.map_append]; rfl
      rw [e]
      exact (ind_cons.mpr ⟨ind, fun h => hz (fold_zero rb ((sp _).mpr h))⟩).perm (List.perm_append_comm (l₁ := [sg p]))
    · rcases List.mem_append.mp hq with hq | hq
      · refine span_mono (fun v hv => ?_) (all q hq)
        rw [List.filter_append, List.map_append]
        exact List.mem_append_left _ hv
      · rw [List.mem_singleton.mp hq, List.filter_eq_self.mpr]
        · exact self_span (List.mem_map.mpr ⟨p, by simp, rfl⟩)
        · intro k hk
          rcases List.mem_append.mp hk with hk | hk
          · exact decide_eq_true (hks k hk)
          · rw [List.mem_singleton.mp hk]; exact decide_eq_true (Nat.le_refl _)
theorem greedy {sg wo : Nat → Nat} (hsg : ∀ i, sg i < 16) : ∀ (row pre : List Nat) (st : List Nat × List Nat), Gr sg wo pre st → (pre ++ row).Pairwise (fun i j => wo j ≤ wo i) → Gr sg wo (pre ++ row) (row.foldl (keptN sg) st)
  | [], pre, st, g, _ => by rw [List.append_nil]; exact g
  | p :: row, pre, st, g, h => by
    have e : pre ++ p :: row = pre ++ [p] ++ row := by simp
    rw [e] at h ⊢
    refine greedy hsg row (pre ++ [p]) _ (g.step hsg fun q hq => ?_) h
    have := (List.pairwise_append.mp (List.pairwise_append.mp h).1).2.2 q hq p (by simp)
    exact this
theorem gr_nil (sg wo : Nat → Nat) : Gr sg wo [] ([], []) := ⟨⟨fun b hb => (nomatch hb), .nil⟩, .slnil, fun z => Iff.rfl, List.pairwise_singleton _ _, fun p hp => (nomatch hp)⟩

/-! sums by layers -/
theorem sum_le_of_counts : ∀ (T : Nat) (a b : List Nat), (∀ x ∈ a, x ≤ T) → (∀ x ∈ b, x ≤ T) → (∀ t, a.countP (fun x => decide (t < x)) ≤ b.countP (fun x => decide (t < x))) → a.sum ≤ b.sum := by
  have layer : ∀ (l : List Nat) (T : Nat), (∀ x ∈ l, x ≤ T) → l.sum = ((List.range T).map fun t => l.countP fun x => decide (t < x)).sum := by
    intro l T
    induction l with
    | nil =>
      intro _
      have : ∀ n, ((List.range n).map fun t => ([] : List Nat).countP fun x => decide (t < x)).sum = 0 := by
        intro n
        induction n with
        | zero => rfl
        | succ n ih => rw [List.range_succ, List.map_append, List.sum_append, ih]; rfl
      exact (this T).symm
    | cons x l ih =>
      intro h
      have hx := h x (.head _)
      have key : ∀ n, ((List.range n).map fun t => (x :: l).countP fun y => decide (t < y)).sum = min n x + ((List.range n).map fun t => l.countP fun y => decide (t < y)).sum := by
        intro n
        induction n with
        | zero => simp
        | succ n ih =>
          rw [List.range_succ, List.map_append, List.map_append, List.sum_append, List.sum_append, ih]
          simp only [List.map_cons, List.map_nil, List.sum_cons, List.sum_nil, List.countP_cons, decide_eq_true_eq]
          split <;> (first | lia | omega)
      rw [key T, ← ih fun y hy => h y (.tail _ hy), List.sum_cons, Nat.min_eq_right hx]
  intro T a b ha hb h
  rw [layer a T ha, layer b T hb]
  have : ∀ n, ((List.range n).map fun t => a.countP fun x => decide (t < x)).sum ≤ ((List.range n).map fun t => b.countP fun x => decide (t < x)).sum := by
    intro n
    induction n with
    | zero => exact Nat.le_refl _
    | succ n ih =>
      rw [List.range_succ, List.map_append, List.map_append, List.sum_append, List.sum_append]
      exact Nat.add_le_add ih (by simpa using h n)
  exact this T
theorem count_take {wo : Nat → Nat} (t : Nat) : ∀ (K : List Nat) (k : Nat), K.Pairwise (fun i j => wo j ≤ wo i) → (K.take k).countP (fun i => decide (t < wo i)) = min k (K.countP fun i => decide (t < wo i))
  | [], k, _ => by simp
  | a :: K, 0, _ => by simp
  | a :: K, k + 1, h => by
    obtain ⟨h1, h2⟩ := List.pairwise_cons.mp h
    rw [List.take_succ_cons, List.countP_cons, List.countP_cons, count_take t K k h2]
    by_cases c : t < wo a
    · rw [if_pos (decide_eq_true c)]; (first | lia | omega)
    · have z : K.countP (fun i => decide (t < wo i)) = 0 := by
        rw [List.countP_eq_zero]
        intro i hi
        have := h1 i hi
        simp only [decide_eq_true_eq]; (first | lia | omega)
      rw [z, if_neg (by simpa using c)]; simp
/-- no choice is worth more -/
theorem greedy_best {sg wo : Nat → Nat} {T : Nat} {row K bs I : List Nat} (hT : ∀ i, wo i ≤ T) (g : Gr sg wo row (K, bs)) (hrow : row.Pairwise (fun i j => wo j ≤ wo i)) (hI : Ind (I.map sg)) (hm : ∀ i ∈ I, i ∈ row) :
    I.length ≤ K.length ∧ (I.map wo).sum ≤ ((K.take I.length).map wo).sum := by
  have h1 : I.length ≤ K.length := by
    have := ind_le (m := K.map sg) hI fun v hv => by
      obtain ⟨i, hi, rfl⟩ := List.mem_map.mp hv
      refine span_mono (fun u hu => ?_) (g.all i (hm i hi))
      obtain ⟨k, hk, rfl⟩ := List.mem_map.mp hu
      exact List.mem_map.mpr ⟨k, (List.mem_filter.mp hk).1, rfl⟩
    simpa using this
  refine ⟨h1, sum_le_of_counts T _ _ (fun x hx => ?_) (fun x hx => ?_) fun t => ?_⟩
  · obtain ⟨i, _, rfl⟩ := List.mem_map.mp hx; exact hT i
  · obtain ⟨i, _, rfl⟩ := List.mem_map.mp hx; exact hT i
  · rw [List.countP_map, List.countP_map]
    show I.countP (fun i => decide (t < wo i)) ≤ (K.take I.length).countP (fun i => decide (t < wo i))
    rw [count_take t K _ (hrow.sublist g.sub)]
    refine Nat.le_min.mpr ⟨List.countP_le_length, ?_⟩
    rw [List.countP_eq_length_filter, List.countP_eq_length_filter]
    have := ind_le (l := (I.filter fun i => decide (t < wo i)).map sg) (m := (K.filter fun i => decide (t < wo i)).map sg) (hI.sub ((List.filter_sublist).map sg)) fun v hv => by
      obtain ⟨i, hi, rfl⟩ := List.mem_map.mp hv
      obtain ⟨hi1, hi2⟩ := List.mem_filter.mp hi
      refine span_mono (fun u hu => ?_) (g.all i (hm i hi1))
      obtain ⟨k, hk, rfl⟩ := List.mem_map.mp hu
      obtain ⟨hk1, hk2⟩ := List.mem_filter.mp hk
      refine List.mem_map.mpr ⟨k, List.mem_filter.mpr ⟨hk1, ?_⟩, rfl⟩
      simp only [decide_eq_true_eq] at hi2 hk2 ⊢
      (first | lia | omega)
    simpa using this
end Mine

end
section
open PySem PySem.W PySem.W.X PyProof.Rows
set_option Elab.async false
set_option maxRecDepth 100000
set_option linter.unusedVariables false
namespace Mine
noncomputable def cN (xs : List Int) (i : Nat) : Int := (cellsL xs).getD i 0
noncomputable def rN (xs : List Int) (i : Nat) : Nat := (cN xs i % 16).toNat
noncomputable def wN (xs : List Int) (i : Nat) : Nat := (worthI (cN xs i)).toNat
noncomputable def sgN (xs : List Int) (i : Nat) : Nat := sig (rN xs i)
theorem rN_lt (xs : List Int) (i : Nat) : rN xs i < 16 := by unfold rN; omega
theorem sig_lt (r : Nat) : sig r < 16 := by unfold sig; omega
theorem sixty : ∀ q : Nat, q < 6 → (60 : Int).fdiv ((q : Int) + 1) * ((q : Int) + 1) = 60 ∧ 0 ≤ (60 : Int).fdiv ((q : Int) + 1) ∧ (60 : Int).fdiv ((q : Int) + 1) ≤ 60 := by decide +kernel
/-- price, pieces, worth -/
theorem worth_of (c : Int) : worthI c * ((c.fdiv 800).fmod 6 + 1) = 60 * (c.fdiv 16).fmod 50 ∧ 0 ≤ worthI c ∧ worthI c ≤ 2940 := by
  have p := price_ok c
  have q := pieces_ok c
  obtain ⟨n, hn⟩ := Int.eq_ofNat_of_zero_le (show 0 ≤ (c.fdiv 800).fmod 6 by omega)
  obtain ⟨a, b, d⟩ := sixty n (by omega)
  unfold worthI
  rw [hn] at q ⊢
  generalize (c.fdiv 16).fmod 50 = x at p ⊢
  refine ⟨by rw [Int.mul_assoc, a, Int.mul_comm], Int.mul_nonneg p.1 b, ?_⟩
  have := Int.mul_le_mul (show x ≤ 49 by omega) d b (by decide)
  exact this
theorem lt_of_worth {p p' q q' v v' : Int} (h : v * q = 60 * p) (h' : v' * q' = 60 * p') (hq : 0 < q) (hq' : 0 < q') : p' * q - p * q' < 0 ↔ v' < v := by
  have e1 : 60 * (p' * q) = v' * (q * q') := by rw [← Int.mul_assoc, ← h', Int.mul_assoc, Int.mul_comm q' q]
  have e2 : 60 * (p * q') = v * (q * q') := by rw [← Int.mul_assoc, ← h, Int.mul_assoc]
  have hpos : 0 < q * q' := Int.mul_pos hq hq'
  constructor
  · intro x
    have : v' * (q * q') < v * (q * q') := by omega
    exact Int.lt_of_mul_lt_mul_right this (Int.le_of_lt hpos)
  · intro x
    have : v' * (q * q') < v * (q * q') := Int.mul_lt_mul_of_pos_right x hpos
    omega
theorem lt_row (xs : List Int) (i j : Nat) : ltI (DL xs) i j = decide (wN xs j < wN xs i) := by
  unfold ltI
  have hi := worth_of (cN xs i)
  have hj := worth_of (cN xs j)
  have := lt_of_worth hi.1 hj.1 (pieces_ok (cN xs i)).2.1 (pieces_ok (cN xs j)).2.1
  refine decide_eq_decide.mpr (this.trans ?_)
  unfold wN
  omega
theorem row_ok (xs : List Int) : (rowI (DL xs)).Perm (List.range 6) ∧ (rowI (DL xs)).Pairwise (fun i j => wN xs j ≤ wN xs i) := rowI_ok (lt_row xs)
theorem seens_eq (xs : List Int) : seensL xs = (List.range 6).map fun i => ((sgN xs i : Nat) : Int) := by
  unfold seensL
  refine List.map_congr_left fun i hi => ?_
  exact seen_of_thing (cellsL_bd xs i (List.mem_range.mp hi)) (kind_ok xs) (block_ok xs)
theorem lam_int : ∀ a, a < 16 → ∀ b, b < 16 → lamOp (a : Nat) (b : Nat) = ((lamN a b : Nat) : Int) := by decide +kernel
theorem xor_int' : ∀ a, a < 16 → ∀ b, b < 16 → Builtin.bitXor (a : Nat) (b : Nat) = ((a ^^^ b : Nat) : Int) := by decide +kernel
theorem fold_int : ∀ (bs : List Nat), (∀ b ∈ bs, b < 16) → ∀ x : Nat, x < 16 → (bs.map fun (b : Nat) => (b : Int)).foldl lamOp (x : Int) = ((bs.foldl lamN x : Nat) : Int)
  | [], _, x, _ => rfl
  | b :: bs, h, x, hx => by
    have hb := h b (.head _)
    show (bs.map fun (b : Nat) => (b : Int)).foldl lamOp (lamOp (x : Int) (b : Int)) = _
    rw [lam_int x hx b hb]
    exact fold_int bs (fun c hc => h c (.tail _ hc)) _ (lam_lt16 hx hb)
theorem kept_sim (xs : List Int) : ∀ (row : List Nat) (st : List Nat × List Nat), (∀ p ∈ row, p < 6) → (∀ b ∈ st.2, b < 16) →
    row.foldl (keptStep (seensL xs)) (st.1, st.2.map fun (b : Nat) => (b : Int)) = ((row.foldl (keptN (sgN xs)) st).1, (row.foldl (keptN (sgN xs)) st).2.map fun (b : Nat) => (b : Int))
  | [], st, _, _ => rfl
  | p :: row, st, hp, hb => by
    have h16 : sgN xs p < 16 := sig_lt _
    have e1 : (seensL xs).getD p 0 = ((sgN xs p : Nat) : Int) := by
      rw [seens_eq, List.getD_eq_getElem?_getD, List.getElem?_map, List.getElem?_range (hp p (.head _))]; rfl
    have step : keptStep (seensL xs) (st.1, st.2.map fun (b : Nat) => (b : Int)) p = ((keptN (sgN xs) st p).1, (keptN (sgN xs) st p).2.map fun (b : Nat) => (b : Int)) := by
      unfold keptStep keptN
      rw [e1, fold_int st.2 hb _ h16]
      by_cases z : st.2.foldl lamN (sgN xs p) = 0
      · rw [if_neg (by rw [z]; simp), if_neg (by simp [z])]
      · rw [if_pos (by simpa using z), if_pos z]
        simp
    show row.foldl (keptStep (seensL xs)) (keptStep (seensL xs) _ p) = _
    rw [step]
    refine kept_sim xs row (keptN (sgN xs) st p) (fun q hq => hp q (.tail _ hq)) fun b hb' => ?_
    unfold keptN at hb'
    split at hb'
    · rcases List.mem_append.mp hb' with q | q
      · exact hb b q
      · rw [List.mem_singleton.mp q]; exact fold_lt16 hb h16
    · exact hb b hb'
theorem kept_gr (xs : List Int) : ∃ bs, Gr (sgN xs) (wN xs) (rowI (DL xs)) (keptL xs, bs) := by
  obtain ⟨hp, hs⟩ := row_ok xs
  unfold keptL keptG
  generalize rowI (DL xs) = row at hp hs ⊢
  have hm : ∀ p ∈ row, p < 6 := fun p hp' => List.mem_range.mp (hp.mem_iff.mp hp')
  have h := greedy (fun i => sig_lt _) row [] ([], []) (gr_nil (sgN xs) (wN xs)) hs
  have e := kept_sim xs row ([], []) hm (fun b hb => nomatch hb)
  have e' : row.foldl (keptStep (seensL xs)) ([], []) = _ := e
  rw [e']
  exact ⟨_, h⟩
/-! the choices -/
theorem span_lt16 {l : List Nat} (h : ∀ v ∈ l, v < 16) : ∀ {z : Nat}, z ∈ spanR l → z < 16 := by
  induction l with
  | nil => intro z hz; rw [List.mem_singleton.mp hz]; decide
  | cons v l ih =>
    intro z hz
    have ih' := @ih fun u hu => h u (.tail _ hu)
    rcases mem_cons_span.mp hz with hz | hz
    · exact ih' hz
    · have := xor_lt16 (ih' hz) (h v (.head _))
      rwa [xor_xor] at this
noncomputable def chOf (r v : Nat → Nat) (s : List Nat) : Choice := ((spanR (s.map r)).map (fun (z : Nat) => (z : Int)), (s.length : Int), (((s.map v).sum : Nat) : Int))
theorem choices_mem {r v : Nat → Nat} (hr : ∀ i, r i < 16) : ∀ (m : List Nat) (c : Choice), c ∈ (m.reverse.map fun i => (((r i : Nat) : Int), ((v i : Nat) : Int))).foldl stepC [([0], 0, 0)] ↔ ∃ s : List Nat, s.Sublist m ∧ Ind (s.map r) ∧ c = chOf r v s
  | [], c => by
    constructor
    · intro h
      have : c = ([0], 0, 0) := List.mem_singleton.mp h
      exact ⟨[], .slnil, List.pairwise_singleton _ _, this⟩
    · rintro ⟨s, hs, _, rfl⟩
      rw [List.sublist_nil.mp hs]
      exact .head _
  | i :: m, c => by
    have ih := choices_mem (v := v) hr m
    rw [List.reverse_cons, List.map_append, List.foldl_append]
    show c ∈ stepC _ _ ↔ _
    have free : ∀ s : List Nat, freeC ((r i : Nat) : Int) (chOf r v s) = true ↔ r i ∉ spanR (s.map r) := by
      intro s
      unfold freeC chOf
      rw [Bool.not_eq_true', List.any_eq_false]
      constructor
      · intro h hm
        exact h _ (List.mem_map.mpr ⟨_, hm, rfl⟩) (by simp)
      · intro h x hx
        obtain ⟨z, hz, rfl⟩ := List.mem_map.mp hx
        intro e
        have e' : (z : Int) = ((r i : Nat) : Int) := by simpa using e
        have : z = r i := by omega
        exact h (this ▸ hz)
    have grow : ∀ s : List Nat, growC ((r i : Nat) : Int) ((v i : Nat) : Int) (chOf r v s) = chOf r v (i :: s) := by
      intro s
      unfold growC chOf
      refine Prod.ext ?_ (Prod.ext ?_ ?_)
      · show (spanR (s.map r)).map _ ++ ((spanR (s.map r)).map _).map _ = (spanR (s.map r) ++ (spanR (s.map r)).map (· ^^^ r i)).map _
        rw [List.map_append, List.map_map, List.map_map]
        congr 1
        refine List.map_congr_left fun z hz => ?_
        exact xor_int' z (span_lt16 (fun u hu => by obtain ⟨k, _, rfl⟩ := List.mem_map.mp hu; exact hr k) hz) (r i) (hr i)
      · show ((s.length : Nat) : Int) + 1 = (((i :: s).length : Nat) : Int)
        simp
      · show (((s.map v).sum : Nat) : Int) + ((v i : Nat) : Int) = ((((i :: s).map v).sum : Nat) : Int)
        rw [List.map_cons, List.sum_cons]; omega
    unfold stepC
    rw [List.mem_append, List.mem_map]
    constructor
    · rintro (h | ⟨d, hd, rfl⟩)
      · obtain ⟨s, hs, h1, h2⟩ := (ih c).mp h
        exact ⟨s, hs.cons i, h1, h2⟩
      · obtain ⟨hd, hf⟩ := List.mem_filter.mp hd
        obtain ⟨s, hs, h1, rfl⟩ := (ih d).mp hd
        exact ⟨i :: s, hs.cons_cons i, ind_cons.mpr ⟨h1, (free s).mp hf⟩, grow s⟩
    · rintro ⟨s, hs, h1, rfl⟩
      cases hs with
      | cons _ hs => exact .inl ((ih _).mpr ⟨s, hs, h1, rfl⟩)
      | cons_cons _ hs =>
        rename_i s
        obtain ⟨h1, h2⟩ := ind_cons.mp h1
        exact .inr ⟨chOf r v s, List.mem_filter.mpr ⟨(ih _).mpr ⟨s, hs, h1, rfl⟩, (free s).mpr h2⟩, grow s⟩
theorem its_eq (xs : List Int) : itsL xs = (List.range 6).map fun i => (((rN xs i : Nat) : Int), ((wN xs i : Nat) : Int)) := by
  have hl := cellsL_len xs
  unfold itsL
  refine List.ext_getElem (by simp [hl]) fun i h1 h2 => ?_
  have hi : i < (cellsL xs).length := by simpa using h1
  rw [List.getElem_map, List.getElem_map, List.getElem_range]
  have e : (cellsL xs)[i] = cN xs i := by unfold cN; rw [List.getD_eq_getElem?_getD, List.getElem?_eq_getElem hi]; rfl
  rw [e]
  have w := worth_of (cN xs i)
  refine Prod.ext ?_ ?_
  · show (cN xs i).fmod 16 = ((rN xs i : Nat) : Int)
    unfold rN
    rw [show (16 : Int) = ((16 : Nat) : Int) from rfl, fmE]; omega
  · show worthI (cN xs i) = ((wN xs i : Nat) : Int)
    unfold wN
    omega
/-! the rights and what is seen of them -/
theorem sig_xor : ∀ a, a < 16 → ∀ b, b < 16 → sig (a ^^^ b) = sig a ^^^ sig b := by decide +kernel
theorem sig_inj : ∀ a, a < 16 → ∀ b, b < 16 → sig a = sig b → a = b := by decide +kernel
theorem span_sig : ∀ (l : List Nat), (∀ v ∈ l, v < 16) → spanR (l.map sig) = (spanR l).map sig
  | [], _ => rfl
  | v :: l, h => by
    show spanR (l.map sig) ++ (spanR (l.map sig)).map (· ^^^ sig v) = (spanR l ++ (spanR l).map (· ^^^ v)).map sig
    rw [span_sig l fun u hu => h u (.tail _ hu), List.map_append, List.map_map, List.map_map]
    congr 1
    refine List.map_congr_left fun z hz => ?_
    exact (sig_xor z (span_lt16 (fun u hu => h u (.tail _ hu)) hz) v (h v (.head _))).symm
theorem ind_sig {l : List Nat} (h : ∀ v ∈ l, v < 16) : Ind (l.map sig) ↔ Ind l := by
  unfold Ind
  rw [span_sig l h]
  unfold List.Nodup
  rw [List.pairwise_map]
  constructor
  · exact fun x => x.imp fun q e => q (by rw [e])
  · intro x
    refine List.Pairwise.imp_of_mem ?_ x
    intro a b ha hb q e
    exact q (sig_inj a (span_lt16 h ha) b (span_lt16 h hb) e)
theorem ind_seen (xs : List Int) (s : List Nat) : Ind (s.map (sgN xs)) ↔ Ind (s.map (rN xs)) := by
  have e : s.map (sgN xs) = (s.map (rN xs)).map sig := by rw [List.map_map]; rfl
  rw [e]
  exact ind_sig fun v hv => by obtain ⟨i, _, rfl⟩ := List.mem_map.mp hv; exact rN_lt xs i
end Mine

end
section
open PySem PySem.W PySem.W.X PyProof.Rows
set_option Elab.async false
set_option maxRecDepth 100000
set_option linter.unusedVariables false
namespace Mine
theorem perm_of_mem {l : List Nat} : ∀ {m : List Nat}, l.Nodup → m.Nodup → (∀ x, x ∈ l ↔ x ∈ m) → l.Perm m := by
  induction l with
  | nil =>
    intro m _ _ h
    cases m with
    | nil => exact .nil
    | cons a m => exact absurd ((h a).mpr (.head _)) (by simp)
  | cons a l ih =>
    intro m hl hm h
    have ha : a ∈ m := (h a).mp (.head _)
    obtain ⟨hl1, hl2⟩ := List.nodup_cons.mp hl
    refine ((ih hl2 (hm.erase a) fun x => ?_).cons a).trans (List.perm_cons_erase ha).symm
    rw [hm.mem_erase_iff]
    constructor
    · intro hx; exact ⟨fun e => hl1 (e ▸ hx), (h x).mp (.tail _ hx)⟩
    · rintro ⟨hx, hx'⟩
      rcases List.mem_cons.mp ((h x).mpr hx') with e | e
      · exact absurd e hx
      · exact e
theorem preSum_ext {f g : Nat → Int} : ∀ n, (∀ i, i < n → f i = g i) → preSum f n = preSum g n
  | 0, _ => rfl
  | n + 1, h => by simp only [preSum]; rw [preSum_ext n fun i hi => h i (by (first | lia | omega)), h n (by (first | lia | omega))]
theorem preSum_take (l : List Nat) : ∀ n, n ≤ l.length → preSum (fun i => (l.map fun (x : Nat) => (x : Int)).getD i 0) n = (((l.take n).sum : Nat) : Int)
  | 0, _ => by simp [preSum]
  | n + 1, h => by
    have hn : n < l.length := by (first | lia | omega)
    simp only [preSum]
    rw [preSum_take l n (by (first | lia | omega)), List.take_add_one, List.getElem?_eq_getElem hn, List.sum_append, List.getD_eq_getElem?_getD, List.getElem?_map, List.getElem?_eq_getElem hn]
    simp
theorem wN_le (xs : List Int) (i : Nat) : wN xs i ≤ 2940 := by
  have := worth_of (cN xs i)
  unfold wN; (first | lia | omega)
theorem wAt_eq (xs : List Int) {p : Nat} (hp : p < 6) : wAt xs (p : Int) = ((wN xs p : Nat) : Int) := by
  have hl := cellsL_len xs
  have w := worth_of (cN xs p)
  unfold wAt worthsL wN
  have e : (cellsL xs)[p]? = some (cN xs p) := by unfold cN; rw [List.getD_eq_getElem?_getD, List.getElem?_eq_getElem (by (first | lia | omega))]; rfl
  rw [Int.toNat_natCast, List.getD_eq_getElem?_getD, List.getElem?_map, e]
  show worthI (cN xs p) = _
  (first | lia | omega)
theorem sum_le (l : List Nat) (h : ∀ x ∈ l, x ≤ 2940) : l.sum ≤ 2940 * l.length := by
  induction l with
  | nil => simp
  | cons a l ih =>
    have := h a (.head _)
    have := ih fun x hx => h x (.tail _ hx)
    rw [List.sum_cons, List.length_cons]; (first | lia | omega)
theorem pure_law (xs : List Int) : PureLaw xs := by
  obtain ⟨bs, g⟩ := kept_gr xs
  obtain ⟨hperm, hsort⟩ := row_ok xs
  have hrow : ∀ i, i ∈ rowI (DL xs) ↔ i < 6 := fun i => hperm.mem_iff.trans List.mem_range
  have hrl : (rowI (DL xs)).length = 6 := by rw [hperm.length_eq]; simp
  have hkm : ∀ p ∈ keptL xs, p < 6 := fun p hp => (hrow p).mp (g.sub.subset hp)
  have hkl : (keptL xs).length ≤ 6 := hrl ▸ g.sub.length_le
  have hnd : (keptL xs).Nodup := (hperm.nodup_iff.mpr List.nodup_range).sublist g.sub
  have r1 : ∀ i ∈ rowI (DL xs), i < 6 := fun i hi => (hrow i).mp hi
  have r2 : (rowI (DL xs)).length ≤ 6 := Nat.le_of_eq hrl
  generalize rowI (DL xs) = row at g hperm hsort hrow hrl
  have htop : ∀ k, topL xs k = (((keptL xs).take k).map (wN xs)).map fun (x : Nat) => (x : Int) := by
    intro k
    unfold topL
    rw [List.map_map]
    exact List.map_congr_left fun p hp => wAt_eq xs (hkm p (List.mem_of_mem_take hp))
  have hlen : ∀ k, (((keptL xs).take k).map (wN xs)).length ≤ 6 := fun k => by rw [List.length_map, List.length_take]; (first | lia | omega)
  have hle : ∀ k, ∀ x ∈ ((keptL xs).take k).map (wN xs), x ≤ 2940 := fun k x hx => by obtain ⟨i, _, rfl⟩ := List.mem_map.mp hx; exact wN_le xs i
  have hsum : ∀ k, sumK xs k = (((((keptL xs).take k).map (wN xs)).sum : Nat) : Int) := by
    intro k
    unfold sumK
    rw [htop, List.length_map, preSum_take _ _ (Nat.le_refl _), List.take_length]
  refine ⟨r1, r2, hkl, hkm, fun k j hj => ?_, ?_⟩
  · rw [htop] at hj ⊢
    rw [List.length_map] at hj
    rw [preSum_take _ _ (by (first | lia | omega)), List.getD_eq_getElem?_getD, List.getElem?_map, List.getElem?_eq_getElem hj]
    have h1 := hle k _ (List.getElem_mem hj)
    have h2 := sum_le ((((keptL xs).take k).map (wN xs)).take (j + 1)) fun x hx => hle k x (List.mem_of_mem_take hx)
    have h3 : ((((keptL xs).take k).map (wN xs)).take (j + 1)).length ≤ 6 := by rw [List.length_take]; have := hlen k; (first | lia | omega)
    generalize ((((keptL xs).take k).map (wN xs)).take (j + 1)) = L at h2 h3 ⊢
    generalize (((keptL xs).take k).map (wN xs))[j] = X at h1 ⊢
    show InLong ((X : Nat) : Int) ∧ _
    unfold InLong
    constructor <;> constructor <;> (first | lia | omega)
  · have mem : ∀ c, c ∈ choicesC (itsL xs) ↔ ∃ s : List Nat, s.Sublist (List.range 6).reverse ∧ Ind (s.map (rN xs)) ∧ c = chOf (rN xs) (wN xs) s := by
      intro c
      have := choices_mem (v := wN xs) (rN_lt xs) (List.range 6).reverse c
      rw [List.reverse_reverse] at this
      unfold choicesC
      rw [its_eq]
      exact this
    have some' : ∀ k, k ≤ (keptL xs).length → ∃ c ∈ choicesC (itsL xs), c.2.1 = (k : Int) ∧ c.2.2 = sumK xs k := by
      intro k hk
      have hnk : ((keptL xs).take k).Nodup := hnd.sublist (List.take_sublist _ _)
      have hsl : ((List.range 6).reverse.filter fun i => decide (i ∈ (keptL xs).take k)).Sublist (List.range 6).reverse := List.filter_sublist
      have hp : ((List.range 6).reverse.filter fun i => decide (i ∈ (keptL xs).take k)).Perm ((keptL xs).take k) := by
        refine perm_of_mem (((List.reverse_perm (List.range 6)).nodup_iff.mpr List.nodup_range).sublist List.filter_sublist) hnk fun x => ?_
        rw [List.mem_filter, List.mem_reverse, List.mem_range]
        constructor
        · exact fun h => of_decide_eq_true h.2
        · exact fun h => ⟨hkm x (List.mem_of_mem_take h), decide_eq_true h⟩
      generalize ((List.range 6).reverse.filter fun i => decide (i ∈ (keptL xs).take k)) = S at hsl hp
      refine ⟨chOf (rN xs) (wN xs) S, (mem _).mpr ⟨S, hsl, ?_, rfl⟩, ?_, ?_⟩
      · refine Ind.perm (hp.map (rN xs)).symm ?_
        exact (ind_seen xs _).mp (g.ind.sub ((List.take_sublist _ _).map _))
      · show ((_ : Nat) : Int) = _
        rw [hp.length_eq, List.length_take, Nat.min_eq_left hk]
      · show ((_ : Nat) : Int) = _
        rw [hsum, (hp.map (wN xs)).sum_nat]
    have best : ∀ c ∈ choicesC (itsL xs), ∃ k : Nat, c.2.1 = (k : Int) ∧ k ≤ (keptL xs).length ∧ c.2.2 ≤ sumK xs k := by
      intro c hc
      obtain ⟨s, hs, hi, rfl⟩ := (mem c).mp hc
      have := greedy_best (T := 2940) (wN_le xs) g hsort ((ind_seen xs s).mpr hi) fun i hi => (hrow i).mpr (List.mem_range.mp (List.mem_reverse.mp (hs.subset hi)))
      refine ⟨s.length, rfl, this.1, ?_⟩
      rw [hsum]
      show (((s.map (wN xs)).sum : Nat) : Int) ≤ _
      exact Int.ofNat_le.mpr this.2
    refine ⟨fun c hc => ?_, ?_, some', fun k hk c hc e => ?_⟩
    · obtain ⟨k, e, h, _⟩ := best c hc; (first | lia | omega)
    · obtain ⟨c, hc, e, _⟩ := some' _ (Nat.le_refl _); exact ⟨c, hc, e⟩
    · obtain ⟨k', e', h, q⟩ := best c hc
      have : k' = k := by (first | lia | omega)
      exact this ▸ q
end Mine

end
section
open PySem PySem.W PySem.W.X PyProof.Rows
set_option maxRecDepth 100000 in
set_option maxHeartbeats 8000000 in
theorem PySem.Challenge.cw_nq0107_01_holds : PySem.Challenge.rw_nq0107_01.Holds :=
  Mine.hz_open fun _ _ xs _ _ _ KX ZH hsz htk hg hob hI hlen hQ => Mine.law_spec (Mine.pure_law xs) KX ZH hsz htk hg hob hI hlen hQ

end
