import PyProof.Rows.All
import Wide.All
import OpenK.AllK
import Wide.FinOn
import Lean
import PySem.Challenge.RW_xg0020_01
set_option compiler.extract_closed false
/-! part Head -/
section
open PySem PySem.W PyProof.Rows
set_option Elab.async false
set_option maxRecDepth 100000
set_option maxHeartbeats 400000
set_option linter.unusedSimpArgs false
namespace Mine
/-! ## the head, by one check of the kernel over the library's quick forms of the machine; no quick forms of the program are laid -/
noncomputable def hqView : Program := view PySem.Challenge.pw_xg0020_01 [22]
noncomputable def hqEnds (p : Program) (w : World) (N : Nat) : Option Shared :=
  (fencedOpening Fast.tw14364793385576792824 p w N).bind fun a => cond (a.heap.isNs mainGlobals && a.gens.size == 0)
    ((Fast.tw14082659384304107361 Fast.tw14364793385576792824 p w a.heap.objs.size (a.heap.nsMap mainGlobals "__annotations__") N a (topStub p)).filter
      fun b => staticsOk (Fast.tw5923862056798008813 p.main.body) a.heap b.heap && namesBound p b.heap && gensDone b && laidKept a.heap b.heap) none
theorem hqSome {α : Type} {x : Bool} {b : α} : (match x with | true => some b | false => none) = if x = true then some b else none := by cases x <;> rfl
theorem hqEnds_eq (p : Program) (w : World) (N : Nat) : openEnds treeTable p w N = hqEnds p w N := by
  unfold openEnds topFrom hqEnds
  rw [Fast.te14082659384304107361, Fast.te14364793385576792824, Fast.te5923862056798008813]
  congr 1
  funext a
  cases a.heap.isNs mainGlobals && a.gens.size == 0 with
  | false => rfl
  | true =>
    show Option.bind _ _ = Option.filter _ _
    generalize Fast.tw14082659384304107361 _ _ _ _ _ _ _ _ = r
    cases r with
    | none => rfl
    | some b =>
      rw [Option.bind_some]
      dsimp only [Option.filter]
      exact hqSome
theorem hqLeft {p q : Program} {loose : List Str} {Xt : Shared → Bool} {α : Type} {Yf : Shared → α} {Ya : World → α} {N : Nat}
    (h : ∀ w, (hqEnds p w N).map (fun s => (Fast.tw4187177175401517315 q loose (Fast.tw5923862056798008813 p.main.body) Xt true s, Yf s)) = some (openGood q loose, Ya w)) : LeftO p q loose Xt Yf Ya N := by
  intro w
  rw [hqEnds_eq, Fast.te5923862056798008813, Fast.te4187177175401517315]
  exact h w
theorem hqL1 : sreFenced PySem.Challenge.rw_xg0020_01.prog.main = true := by rw [Fast.te11788848310118352699]; kernel_rfl
theorem hqL3 : namesResolve PySem.Challenge.rw_xg0020_01.prog = true := by rw [Fast.te8377067652309620493]; kernel_rfl
theorem hqL5 : noRoadLSs { strict := !(importedModules PySem.Challenge.rw_xg0020_01.prog.main.body).all cThrough.contains, foot := none, bare := (["vars", "dir", "locals"] : List Str).filter (readsOut PySem.Challenge.rw_xg0020_01.prog PySem.Challenge.rw_xg0020_01.prog.main.body) } PySem.Challenge.rw_xg0020_01.prog.main.body = true := by
  rw [Fast.te8326940854005059898]; kernel_rfl
theorem hqL6 : (namesMeet PySem.Challenge.rw_xg0020_01.prog PySem.Challenge.rw_xg0020_01.prog.main.body fun _ n => attrL n) = true := by
  rw [Fast.te17119622794617984870]; kernel_rfl
theorem hqLo : looksOpen PySem.Challenge.rw_xg0020_01.prog = true := by
  unfold looksOpen
  refine look_both (look_both (look_both (look_both (look_both hqL1 ?_) hqL3) ?_) hqL5) hqL6
  · rw [Fast.te9807087744658564304]; kernel_rfl
  · rw [Fast.te18344453789297297638, Fast.te14412699480532031325]; kernel_rfl
theorem hqPt : PySem.Challenge.rw_xg0020_01.row.partSaid = true := by
  unfold OpenRow.partSaid
  refine look_both (look_both (look_both (look_both (look_both (look_both (look_both (look_both (look_both (look_both (look_both (look_both (look_both hqLo ?_) ?_) ?_) ?_) ?_) ?_) ?_) ?_) ?_) ?_) ?_) ?_) ?_
  all_goals (try simp only [Fast.te8326940854005059898, Fast.te17119622794617984870, Fast.te10501279942588096481, Fast.te8179353310426384613, Fast.te9558739934217749035, Fast.te16286561074155671207, Fast.te10792542408131684335, Fast.te6984425678791042302, Fast.te482687673346738481, Fast.named_eq])
  all_goals kernel_rfl
theorem hqRo : PySem.Challenge.rw_xg0020_01.row.wellSaid = true := by
  unfold OpenRow.wellSaid
  refine look_both (look_both hqPt ?_) ?_
  · rw [Fast.te18344453789297297638]; kernel_rfl
  · kernel_rfl
theorem hqSaid : PySem.Challenge.rw_xg0020_01.wellSaid = true := by
  unfold OpenLaw.wellSaid
  refine look_both (look_both (look_both (look_both (look_both (look_both (look_both (look_both (look_both (look_both (look_both (look_both (look_both (look_both (look_both (look_both (look_both (look_both hqRo ?_) ?_) ?_) ?_) ?_) ?_) ?_) ?_) ?_) ?_) ?_) ?_) ?_) ?_) ?_) ?_) ?_) ?_
  all_goals (try simp only [Fast.te8326940854005059898, Fast.te17119622794617984870, Fast.te10501279942588096481, Fast.te8179353310426384613, Fast.te9558739934217749035, Fast.te16286561074155671207, Fast.te10792542408131684335, Fast.te6984425678791042302, Fast.te482687673346738481, Fast.named_eq])
  all_goals kernel_rfl
noncomputable def hqLoose : List Str := ["_wall", "_MOVE_COST", "_CASE_COST", "_substitution_cost", "EMPTYSTRING", "_Accumulator", "CHAR_MAX", "_grouping_intervals", "add_func_stats", "add_callers", "count_calls", "_law_deal", "_law_cut", "_law_ways", "_law_chain", "_law_rows", "_law_price"]
noncomputable def hqX (s : Shared) : Bool := xlAt hqView [] s && recOk (RowW.records (OpenRow.toRowW (OpenLaw.row PySem.Challenge.rw_xg0020_01))) s
theorem hqTop {K : Params → Frag} {as : List Addr} {e : ∀ P, as = (K P).map (·.1)} (said : PySem.Challenge.rw_xg0020_01.row.wellSaid = true)
    (hl : ∀ w, (hqEnds PySem.Challenge.pw_xg0020_01 w 2070).map (fun s => (Fast.tw4187177175401517315 hqView hqLoose (Fast.tw5923862056798008813 PySem.Challenge.pw_xg0020_01.main.body) hqX true s, Hook.obs (kmHook K as e [76]) s)) = some (openGood hqView hqLoose, Hook.val (kmHook K as e [76]) w))
    (hw : PySem.Challenge.rw_xg0020_01.row.toRowW.promised)
    (walk : ∀ d kwd, d.name = Str.ofString "law" → WalkO hqView hqLoose (XL hqView []) (Hook.says (kmHook K as e [76])) PySem.Challenge.rw_xg0020_01.row.toRowW d kwd fun f vs => PySem.call f vs) : PySem.Challenge.rw_xg0020_01.row.Holds :=
  holds_open (q := hqView) (loose := hqLoose) (Xt := hqX) (XP := XL hqView [])
      (Yf := Hook.obs (kmHook K as e [76])) (Ya := Hook.val (kmHook K as e [76])) (YP := Hook.says (kmHook K as e [76])) (N := 2070) (hqLeft (p := PySem.Challenge.pw_xg0020_01) hl)
      (Hook.of (kmHook K as e [76])) (Hook.keeps (kmHook K as e [76])) (fun s e => xl_of s (Bool.and_eq_true_iff.mp e).1) XL.keeps (by rfl) (by rfl) (by rfl) (fun s e => recFacts_of (Bool.and_eq_true_iff.mp e).2) (by rfl) said (by decide +kernel) ⟨rfl, rfl, rfl, rfl, rfl, by decide +kernel⟩ hw (walk _ _ (by rfl))
local macro_rules | `(tactic| o_law) => `(tactic| refine holds_law hqSaid fun said => ?_)
local macro_rules | `(tactic| o_head (kHook $k $a $e)) => do
  let hw := Lean.mkIdent `hw
  let hc := Lean.mkIdent `hc
  `(tactic| refine hqTop (K := $k) (as := $a) (e := $e) (by assumption) (fun w => by kernel_rfl) ?$hw ?$hc)
open_top hd for PySem.Challenge.rw_xg0020_01

end Mine
end
/-! part A1 -/
section
open PySem PySem.Calls PySem.Spec PyProof.Rows PySem.W
set_option Elab.async false
set_option linter.unusedVariables false
namespace Mine

/-! ## knowledge, data predicates -/
noncomputable abbrev Kn := Addr → Option Obj
noncomputable def Kle (K K' : Kn) : Prop := ∀ a o, K a = some o → K' a = some o
theorem Kle.refl (K : Kn) : Kle K K := fun _ _ h => h
theorem Kle.trans {K K' K'' : Kn} (h : Kle K K') (h' : Kle K' K'') : Kle K K'' := fun a o e => h' a o (h a o e)
noncomputable def hk (h : Heap) : Kn := fun a => h.get? a

structure DP where
  p : Kn → Value → Prop
  mono : ∀ {K K' : Kn} {v : Value}, Kle K K' → p K v → p K' v

inductive Al (K : Kn) : List DP → List Value → Prop
  | nil : Al K [] []
  | cons {P : DP} {v : Value} {Ps : List DP} {vs : List Value} : P.p K v → Al K Ps vs → Al K (P :: Ps) (v :: vs)
theorem Al.mono {K K' : Kn} (h : Kle K K') : ∀ {Ps : List DP} {vs : List Value}, Al K Ps vs → Al K' Ps vs
  | _, _, .nil => .nil
  | _, _, .cons a r => .cons (DP.mono _ h a) (Al.mono h r)
theorem Al.length {K : Kn} : ∀ {Ps : List DP} {vs : List Value}, Al K Ps vs → vs.length = Ps.length
  | _, _, .nil => rfl
  | _, _, .cons _ r => by rw [List.length_cons, List.length_cons, r.length]
theorem Al.append {K : Kn} : ∀ {Ps Qs : List DP} {vs us : List Value}, Al K Ps vs → Al K Qs us → Al K (Ps ++ Qs) (vs ++ us)
  | _, _, _, _, .nil, h => h
  | _, _, _, _, .cons a r, h => .cons a (r.append h)
theorem Al.get {K : Kn} : ∀ {Ps : List DP} {vs : List Value}, Al K Ps vs → ∀ {i : Nat} {P : DP}, Ps[i]? = some P → ∃ v, vs[i]? = some v ∧ P.p K v
  | _, _, .cons a r, 0, P, e => by cases e; exact ⟨_, rfl, a⟩
  | _, _, .cons a r, i + 1, P, e => by
    obtain ⟨v, h1, h2⟩ := r.get (i := i) (P := P) e
    exact ⟨v, h1, h2⟩
  | _, _, .nil, i, P, e => by simp at e
theorem Al.get' {K : Kn} : ∀ {Ps : List DP} {vs : List Value}, Al K Ps vs → ∀ {i : Nat} {v : Value}, vs[i]? = some v → ∃ P, Ps[i]? = some P ∧ P.p K v
  | _, _, .cons a r, 0, v, e => by cases e; exact ⟨_, rfl, a⟩
  | _, _, .cons a r, i + 1, v, e => by
    obtain ⟨P, h1, h2⟩ := r.get' (i := i) (v := v) e
    exact ⟨P, h1, h2⟩
  | _, _, .nil, i, v, e => by simp at e
theorem Al.one {K : Kn} {P : DP} {v : Value} (h : P.p K v) : Al K [P] [v] := .cons h .nil

noncomputable def lObj (vs : List Value) (n : Nat) : Obj := { cls := .type "list", dict := none, data := .seq vs.toArray n, slots := #[] }
noncomputable def tObj (vs : List Value) (n : Nat) : Obj := { cls := .type "tuple", dict := none, data := .seq vs.toArray n, slots := #[] }

noncomputable def dInt (i : Int) : DP := ⟨fun _ v => ∃ t, v = .int i t, fun _ h => h⟩
noncomputable def dStr (x : Str) : DP := ⟨fun _ v => ∃ t, v = .str x t, fun _ h => h⟩
noncomputable def dBool (b : Bool) : DP := ⟨fun _ v => v = .bool b, fun _ h => h⟩
noncomputable def dNone : DP := ⟨fun _ v => v = .none, fun _ h => h⟩
noncomputable def dTy (T : String) : DP := ⟨fun _ v => v = .type T, fun _ h => h⟩
noncomputable def dList (Ps : List DP) : DP := ⟨fun K v => ∃ a vs n, v = .ref a ∧ K a = some (lObj vs n) ∧ Al K Ps vs, fun hk ⟨a, vs, n, e, h, r⟩ => ⟨a, vs, n, e, hk _ _ h, r.mono hk⟩⟩
noncomputable def dTup (Ps : List DP) : DP := ⟨fun K v => ∃ a vs n, v = .ref a ∧ K a = some (tObj vs n) ∧ Al K Ps vs, fun hk ⟨a, vs, n, e, h, r⟩ => ⟨a, vs, n, e, hk _ _ h, r.mono hk⟩⟩

section
variable {prog : Program} {w : World} {κ : Type} [DecidableEq κ]
/-- a dict's object: its keys, its values -/
noncomputable def DRep (knd : KeyKind prog w κ) (K : Kn) (kvs : List (κ × DP)) (o : Obj) : Prop := ∃ kv : List (κ × Value), o.IsDictOf knd kv ∧ kv.map (·.1) = kvs.map (·.1) ∧ Al K (kvs.map (·.2)) (kv.map (·.2))
theorem DRep.mono {knd : KeyKind prog w κ} {K K' : Kn} {kvs : List (κ × DP)} {o : Obj} (hk : Kle K K') (h : DRep knd K kvs o) : DRep knd K' kvs o :=
  let ⟨kv, h1, h2, h3⟩ := h; ⟨kv, h1, h2, h3.mono hk⟩
noncomputable def dDict (knd : KeyKind prog w κ) (kvs : List (κ × DP)) : DP := ⟨fun K v => ∃ a o, v = .ref a ∧ K a = some o ∧ (a == sysModules) = false ∧ DRep knd K kvs o,
  fun hk ⟨a, o, e, h, hs, r⟩ => ⟨a, o, e, hk _ _ h, hs, r.mono hk⟩⟩
end

/-- an object of any kind, told by what it holds -/
structure OD where
  rep : Kn → Addr → Obj → Prop
  mono : ∀ {K K' : Kn} {a : Addr} {o : Obj}, Kle K K' → rep K a o → rep K' a o
  ncell : ∀ {K : Kn} {a : Addr} {o : Obj} {v : Option Value}, rep K a o → o.data ≠ .cell v
noncomputable def dObj (D : OD) : DP := ⟨fun K v => ∃ a o, v = .ref a ∧ K a = some o ∧ (a == sysModules) = false ∧ D.rep K a o, fun hk ⟨a, o, e, h, hs, r⟩ => ⟨a, o, e, hk _ _ h, hs, D.mono hk r⟩⟩
/-- a variable's content: frozen data, or a container of its own (not shared, may be changed) -/
inductive V (prog : Program) (w : World) where
  | frz (P : DP)
  | lst (Ps : List DP)
  | sdc (kvs : List (Str × DP))
  | idc (kvs : List (Int × DP))
  | obj (D : OD)
section
variable {prog : Program} {w : World}
noncomputable def V.rd (K G : Kn) (u : Value) : V prog w → Prop
  | .frz P => P.p K u
  | .lst Ps => ∃ a vs n, u = .ref a ∧ G a = some (lObj vs n) ∧ Al K Ps vs
  | .sdc kvs => ∃ a o, u = .ref a ∧ G a = some o ∧ (a == sysModules) = false ∧ DRep (strKind prog w) K kvs o
  | .idc kvs => ∃ a o, u = .ref a ∧ G a = some o ∧ (a == sysModules) = false ∧ DRep (intKind prog w) K kvs o
  | .obj D => ∃ a o, u = .ref a ∧ G a = some o ∧ (a == sysModules) = false ∧ D.rep K a o
noncomputable def V.own : V prog w → Bool
  | .frz _ => false
  | _ => true
noncomputable def V.cold : V prog w → DP
  | .frz P => P
  | .lst Ps => dList Ps
  | .sdc kvs => dDict (strKind prog w) kvs
  | .idc kvs => dDict (intKind prog w) kvs
  | .obj D => dObj D
theorem V.rd.mono {K K' G G' : Kn} {u : Value} {x : V prog w} (hk : Kle K K') (hg : Kle G G') (h : x.rd K G u) : x.rd K' G' u := by
  cases x with
  | frz P => exact P.mono hk h
  | lst Ps => obtain ⟨a, vs, n, e, h1, h2⟩ := h; exact ⟨a, vs, n, e, hg _ _ h1, h2.mono hk⟩
  | sdc kvs => obtain ⟨a, o, e, h1, hs, h2⟩ := h; exact ⟨a, o, e, hg _ _ h1, hs, h2.mono hk⟩
  | idc kvs => obtain ⟨a, o, e, h1, hs, h2⟩ := h; exact ⟨a, o, e, hg _ _ h1, hs, h2.mono hk⟩
  | obj D => obtain ⟨a, o, e, h1, hs, h2⟩ := h; exact ⟨a, o, e, hg _ _ h1, hs, D.mono hk h2⟩
theorem V.own_ref {K G : Kn} {u : Value} {x : V prog w} (h : x.rd K G u) (ho : x.own = true) : ∃ a o, u = .ref a ∧ G a = some o := by
  cases x with
  | frz P => cases ho
  | lst Ps => obtain ⟨a, vs, n, e, h1, h2⟩ := h; exact ⟨a, _, e, h1⟩
  | sdc kvs => obtain ⟨a, o, e, h1, hs, h2⟩ := h; exact ⟨a, o, e, h1⟩
  | idc kvs => obtain ⟨a, o, e, h1, hs, h2⟩ := h; exact ⟨a, o, e, h1⟩
  | obj D => obtain ⟨a, o, e, h1, hs, h2⟩ := h; exact ⟨a, o, e, h1⟩
/-- a container whose object is known stands frozen -/
theorem V.cold_of {K G : Kn} {x : V prog w} {a : Addr} (h : x.rd K G (.ref a)) (ho : x.own = true) (hk : K a = G a) : x.cold.p K (.ref a) := by
  cases x with
  | frz P => cases ho
  | lst Ps => obtain ⟨b, vs, n, e, h1, h2⟩ := h; cases e; exact ⟨a, vs, n, rfl, hk.trans h1, h2⟩
  | sdc kvs => obtain ⟨b, o, e, h1, hs, h2⟩ := h; cases e; exact ⟨a, o, rfl, hk.trans h1, hs, h2⟩
  | idc kvs => obtain ⟨b, o, e, h1, hs, h2⟩ := h; cases e; exact ⟨a, o, rfl, hk.trans h1, hs, h2⟩
  | obj D => obtain ⟨b, o, e, h1, hs, h2⟩ := h; cases e; exact ⟨a, o, rfl, hk.trans h1, hs, h2⟩
/-- frozen data may be read as a container -/
theorem V.rd_of_cold {K G : Kn} {u : Value} {x : V prog w} (hk : Kle K G) (h : x.cold.p K u) : x.rd K G u := by
  cases x with
  | frz P => exact h
  | lst Ps => obtain ⟨b, vs, n, e, h1, h2⟩ := h; exact ⟨b, vs, n, e, hk _ _ h1, h2⟩
  | sdc kvs => obtain ⟨b, o, e, h1, hs, h2⟩ := h; exact ⟨b, o, e, hk _ _ h1, hs, h2⟩
  | idc kvs => obtain ⟨b, o, e, h1, hs, h2⟩ := h; exact ⟨b, o, e, hk _ _ h1, hs, h2⟩
  | obj D => obtain ⟨b, o, e, h1, hs, h2⟩ := h; exact ⟨b, o, e, hk _ _ h1, hs, h2⟩
end

/-! ## a frame, the state -/
structure Fm where
  env : Env
  A : Around
  /-- the start's heap: what every run finds as it was -/
  g : Heap
  /-- the cells that are the frame's own -/
  mine : List Str

noncomputable def Holds (env : Env) (h : Heap) (x : Str) (u : Value) : Prop :=
  (env.kindOf x = some .local ∧ ∃ m, h.Ns env.locals m ∧ m x = some u) ∨ ((env.kindOf x = some .cell ∨ env.kindOf x = some .free) ∧ ∃ c, env.cells.lookup x = some c ∧ h.IsCell c (some u))

noncomputable def GExt (g g' : Array GenState) : Prop := ∃ l : List GenState, g'.toList = g.toList ++ l ∧ ∀ y ∈ l, y.bare = true
theorem GExt.refl (g : Array GenState) : GExt g g := ⟨[], by simp, fun _ h => nomatch h⟩
theorem GExt.trans {g g' g'' : Array GenState} (h : GExt g g') (h' : GExt g' g'') : GExt g g'' := by
  obtain ⟨l, e, b⟩ := h
  obtain ⟨l', e', b'⟩ := h'
  exact ⟨l ++ l', by rw [e', e, List.append_assoc], fun y hy => (List.mem_append.mp hy).elim (b y) (b' y)⟩

structure Rest (s s' : Shared) : Prop where
  os : s'.os = s.os
  gens : GExt s.gens s'.gens
theorem Rest.refl (s : Shared) : Rest s s := ⟨rfl, .refl _⟩
theorem Rest.trans {s s' s'' : Shared} (h : Rest s s') (h' : Rest s' s'') : Rest s s'' := ⟨h'.os.trans h.os, h.gens.trans h'.gens⟩

noncomputable def Keep (h h' : Heap) : Prop := ∀ b o, h.get? b = some o → h'.get? b = some o

/-- from s to s' nothing that stood has been changed; what is known has grown by new objects alone -/
structure Ext (s s' : Shared) (K K' : Kn) : Prop where
  rest : Rest s s'
  keep : Keep s.heap s'.heap
  le : Kle K K'
  old : ∀ a o, s.heap.get? a = some o → K' a = K a
  kin : Kle K' (hk s'.heap)
theorem Ext.trans {s s' s'' : Shared} {K K' K'' : Kn} (h : Ext s s' K K') (h' : Ext s' s'' K' K'') : Ext s s'' K K'' :=
  ⟨h.rest.trans h'.rest, fun b o e => h'.keep b o (h.keep b o e), h.le.trans h'.le, fun a o e => (h'.old a o (h.keep a o e)).trans (h.old a o e), h'.kin⟩
theorem Ext.refl {s : Shared} {K : Kn} (h : Kle K (hk s.heap)) : Ext s s K K := ⟨.refl _, fun _ _ e => e, .refl _, fun _ _ _ => rfl, h⟩
/-- the heap has grown, tokens were drawn, nothing new is known -/
theorem Ext.grow {s : Shared} {K : Kn} {h' : Heap} {tk : Nat} (h : Kle K (hk s.heap)) (k : Keep s.heap h') : Ext s { s with heap := h', toks := tk } K K :=
  ⟨⟨rfl, .refl _⟩, k, .refl _, fun _ _ _ => rfl, fun a o e => k a o (h a o e)⟩
theorem Ext.toks {s : Shared} {K : Kn} {tk : Nat} (h : Kle K (hk s.heap)) : Ext s { s with toks := tk } K K := ⟨⟨rfl, .refl _⟩, fun _ _ e => e, .refl _, fun _ _ _ => rfl, h⟩

noncomputable abbrev Ro (prog : Program) (w : World) := Str → Option (V prog w)

structure Sat {prog : Program} {w : World} (F : Fm) (K X : Kn) (ρ : Ro prog w) (s : Shared) : Prop where
  gk : Kle (hk F.g) K
  kin : Kle K (hk s.heap)
  xin : Kle X (hk s.heap)
  ns : ∃ m, s.heap.Ns F.env.locals m
  kl : K F.env.locals = none
  xl : X F.env.locals = none
  cel : ∀ x ∈ F.mine, ∃ c v, F.env.kindOf x = some .cell ∧ F.env.cells.lookup x = some c ∧ s.heap.IsCell c v ∧ K c = none ∧ X c = none
  inj : ∀ x c, x ∈ F.mine → F.env.cells.lookup x = some c → ∀ y, F.env.cells.lookup y = some c → y = x
  live : ∀ x c, F.env.cells.lookup x = some c → ∃ o, s.heap.get? c = some o
  vars : ∀ x V, ρ x = some V → ∃ u, Holds F.env s.heap x u ∧ V.rd K (hk s.heap) u ∧ (V.own = true → ∃ a, u = .ref a ∧ K a = none ∧ X a = none ∧ a ≠ F.env.locals)
  sep : ∀ x y a Vx Vy, x ≠ y → ρ x = some Vx → ρ y = some Vy → Vx.own = true → Vy.own = true → Holds F.env s.heap x (.ref a) → Holds F.env s.heap y (.ref a) → False

theorem Holds.keep {env : Env} {h h' : Heap} {x : Str} {u : Value} (k : Keep h h') (H : Holds env h x u) : Holds env h' x u := by
  rcases H with ⟨e, m, hn, hm⟩ | ⟨e, c, hc, hv⟩
  · exact .inl ⟨e, m, hn.keeps k, hm⟩
  · exact .inr ⟨e, c, hc, hv.keeps k⟩

theorem Ns_inj {h : Heap} {a : Addr} {m m' : Str → Option Value} (H : h.Ns a m) (H' : h.Ns a m') : m = m' := by
  obtain ⟨o, es, ep, e, hd, _, r⟩ := H
  obtain ⟨o', es', ep', e', hd', _, r'⟩ := H'
  have : o = o' := Option.some.inj (e.symm.trans e')
  subst this
  rw [hd] at hd'
  cases hd'
  funext n
  rw [← r, ← r']
theorem Holds.inj {env : Env} {h : Heap} {x : Str} {u u' : Value} (H : Holds env h x u) (H' : Holds env h x u') : u = u' := by
  rcases H with ⟨e, m, hn, hm⟩ | ⟨e, c, hc, o, ho, hv⟩
  · rcases H' with ⟨_, m', hn', hm'⟩ | ⟨e', _⟩
    · rw [Ns_inj hn hn'] at hm
      exact Option.some.inj (hm.symm.trans hm')
    · rw [e] at e'; rcases e' with e' | e' <;> cases e'
  · rcases H' with ⟨e', _⟩ | ⟨_, c', hc', o', ho', hv'⟩
    · rw [e'] at e; rcases e with e | e <;> cases e
    · have : c = c' := Option.some.inj (hc.symm.trans hc')
      subst this
      have : o = o' := Option.some.inj (ho.symm.trans ho')
      subst this
      rw [hv] at hv'
      cases hv'
      rfl
/-- a value that a name held before is still held, and no other -/
theorem Holds.back {env : Env} {h h' : Heap} {x : Str} {u u' : Value} (k : Keep h h') (H : Holds env h x u) (H' : Holds env h' x u') : Holds env h x u' := by
  rw [← (H.keep k).inj H']; exact H

section
variable {prog : Program} {w : World} {F : Fm} {K K' X : Kn} {ρ ρ' : Ro prog w} {s s' : Shared}

theorem Sat.ext (S : Sat F K X ρ s) (e : Ext s s' K K') : Sat F K' X ρ s' where
  gk := S.gk.trans e.le
  kin := e.kin
  xin := fun a o h => e.keep a o (S.xin a o h)
  ns := let ⟨m, hn⟩ := S.ns; ⟨m, hn.keeps e.keep⟩
  kl := by
    obtain ⟨m, o, _, _, ho, _⟩ := S.ns
    rw [e.old _ _ ho]; exact S.kl
  xl := S.xl
  cel := fun x hx => by
    obtain ⟨c, v, h1, h2, h3, h4, h5⟩ := S.cel x hx
    obtain ⟨o, ho, _⟩ := id h3
    exact ⟨c, v, h1, h2, h3.keeps e.keep, by rw [e.old _ _ ho]; exact h4, h5⟩
  inj := S.inj
  live := fun x c hc => let ⟨o, ho⟩ := S.live x c hc; ⟨o, e.keep _ _ ho⟩
  vars := fun x V hx => by
    obtain ⟨u, h1, h2, h3⟩ := S.vars x V hx
    refine ⟨u, h1.keep e.keep, h2.mono e.le (fun a o h => e.keep a o h), fun ho => ?_⟩
    obtain ⟨a, rfl, h4, h5, h6⟩ := h3 ho
    obtain ⟨b, o, hb, hG⟩ := V.own_ref h2 ho
    cases hb
    exact ⟨a, rfl, by rw [e.old _ _ hG]; exact h4, h5, h6⟩
  sep := fun x y a Vx Vy hxy hx hy ox oy H1 H2 => by
    obtain ⟨u, h1, _⟩ := S.vars x Vx hx
    obtain ⟨u', h1', _⟩ := S.vars y Vy hy
    exact S.sep x y a Vx Vy hxy hx hy ox oy (h1.back e.keep H1) (h1'.back e.keep H2)

/-- fewer names told -/
theorem Sat.less (S : Sat F K X ρ s) (h : ∀ x V, ρ' x = some V → ρ x = some V) : Sat F K X ρ' s :=
  { S with vars := fun x V hx => S.vars x V (h x V hx), sep := fun x y a Vx Vy hxy hx hy => S.sep x y a Vx Vy hxy (h _ _ hx) (h _ _ hy) }

/-- fewer objects told to stay -/
theorem Sat.lessX {X' : Kn} (S : Sat F K X ρ s) (h : Kle X' X) : Sat F K X' ρ s :=
  have hn : ∀ a, X a = none → X' a = none := fun a e => by
    cases q : X' a with
    | none => rfl
    | some o => rw [h a o q] at e; cases e
  { S with
    xin := h.trans S.xin
    xl := hn _ S.xl
    cel := fun x hx => by
      obtain ⟨c, v, h1, h2, h3, h4, h5⟩ := S.cel x hx
      exact ⟨c, v, h1, h2, h3, h4, hn _ h5⟩
    vars := fun x V hx => by
      obtain ⟨u, h1, h2, h3⟩ := S.vars x V hx
      exact ⟨u, h1, h2, fun ho => by
        obtain ⟨a, e, h4, h5, h6⟩ := h3 ho
        exact ⟨a, e, h4, hn _ h5, h6⟩⟩ }
end

/-! ## the judgements -/
section
variable {prog : Program} {w : World}
structure Wr (p : Prop) : Prop where
  out : p
noncomputable def Ev (F : Fm) (e : PySem.Expr) (ρ : Ro prog w) (R : V prog w) : Prop :=
  Wr (∀ (K X : Kn) (s : Shared) (Q E : Value → Shared → Prop), Sat F K X ρ s → (∀ K' s' v, Ext s s' K K' → R.rd K' (hk s'.heap) v → Q v s') → wpAny (model prog w) F.A (eval e F.env) Q E s)
noncomputable abbrev Ez (F : Fm) (e : PySem.Expr) (ρ : Ro prog w) (P : DP) : Prop := Ev F e ρ (.frz P)
/-- a new container, not shared -/
noncomputable def En (F : Fm) (e : PySem.Expr) (ρ : Ro prog w) (R : V prog w) : Prop :=
  Wr (∀ (K X : Kn) (s : Shared) (Q E : Value → Shared → Prop), Sat F K X ρ s → (∀ K' s' a, Ext s s' K K' → R.rd K' (hk s'.heap) (.ref a) → K' a = none → s.heap.get? a = none → Q (.ref a) s') → wpAny (model prog w) F.A (eval e F.env) Q E s)
noncomputable def Eb (F : Fm) (e : PySem.Expr) (ρ : Ro prog w) (b : Bool) : Prop :=
  Wr (∀ (K X : Kn) (s : Shared) (Q : Bool → Shared → Prop) (E : Value → Shared → Prop), Sat F K X ρ s → (∀ K' s', Ext s s' K K' → Q b s') → wpAny (model prog w) F.A (isTrue e F.env (eval e F.env)) Q E s)

inductive Out where
  | next | brk | cont
  | ret (P : DP)
noncomputable def Out.is (K : Kn) : Out → Flow → Prop
  | .next, f => f = .next
  | .brk, f => f = .brk
  | .cont, f => f = .cont
  | .ret P, f => ∃ v, f = .ret v ∧ P.p K v

/-- from s to s' by statements: what is told to stay (X) stays -/
structure Stp (s s' : Shared) (K K' X : Kn) : Prop where
  rest : Rest s s'
  le : Kle K K'
  old : ∀ a o, X a = some o → K' a = K a
theorem Stp.refl (s : Shared) (K X : Kn) : Stp s s K K X := ⟨.refl _, .refl _, fun _ _ _ => rfl⟩
theorem Stp.trans {s s' s'' : Shared} {K K' K'' X : Kn} (h : Stp s s' K K' X) (h' : Stp s' s'' K' K'' X) : Stp s s'' K K'' X :=
  ⟨h.rest.trans h'.rest, h.le.trans h'.le, fun a o e => (h'.old a o e).trans (h.old a o e)⟩
theorem Ext.stp {s s' : Shared} {K K' X : Kn} (h : Ext s s' K K') (hx : Kle X (hk s.heap)) : Stp s s' K K' X := ⟨h.rest, h.le, fun a o e => h.old a o (hx a o e)⟩

noncomputable def Ex (F : Fm) (ss : List Stmt) (ρ : Ro prog w) (Φ : Out → Ro prog w → Prop) : Prop :=
  Wr (∀ (K X : Kn) (s : Shared) (Q : Flow → Shared → Prop) (E : Value → Shared → Prop), Sat F K X ρ s →
    (∀ K' s' fl o ρ', Φ o ρ' → o.is K' fl → Sat F K' X ρ' s' → Stp s s' K K' X → Q fl s') → wpAny (model prog w) F.A (execs ss F.env) Q E s)

variable {F : Fm} {ρ ρ' : Ro prog w} {Φ Φ' : Out → Ro prog w → Prop}

theorem Ex.mono {ss : List Stmt} (h : Ex F ss ρ Φ) (hm : ∀ o ρ, Φ o ρ → Φ' o ρ) : Ex F ss ρ Φ' := Wr.mk <| fun K X s Q E S k =>
  h.out K X s Q E S fun K' s' fl o ρ' hp => k K' s' fl o ρ' (hm o ρ' hp)
theorem Ex.less {ss : List Stmt} (h : Ex F ss ρ' Φ) (hl : ∀ x V, ρ' x = some V → ρ x = some V) : Ex F ss ρ Φ := Wr.mk <| fun K X s Q E S k => h.out K X s Q E (S.less hl) k
theorem Ex.nil (h : Φ .next ρ) : Ex F [] ρ Φ := Wr.mk <| fun K X s Q E S k => wpAny_execs_nil (k K s .next .next ρ h rfl S (.refl _ _ _))
theorem Ex.seq {st : Stmt} {rest : List Stmt} (h : Ex F [st] ρ fun o ρ' => match o with | .next => Ex F rest ρ' Φ | o => Φ o ρ') : Ex F (st :: rest) ρ Φ := Wr.mk <| fun K X s Q E S k => by
  have h1 := h.out K X s (fun f s' => match f with | .next => wpAny (model prog w) F.A (execs rest F.env) Q E s' | f => Q f s') E S fun K' s' fl o ρ' hp hi S' st => by
    cases o with
    | next => cases hi; exact (show Ex F rest ρ' Φ from hp).out K' X s' Q E S' fun K'' s'' fl o ρ'' hp' hi' S'' st' => k K'' s'' fl o ρ'' hp' hi' S'' (st.trans st')
    | brk => cases hi; exact k K' s' _ .brk ρ' hp rfl S' st
    | cont => cases hi; exact k K' s' _ .cont ρ' hp rfl S' st
    | ret P =>
      obtain ⟨v, rfl, hv⟩ := hi
      exact k K' s' _ (.ret P) ρ' hp ⟨v, rfl, hv⟩ S' st
  -- [st] runs st and then nothing
  refine wpAny_execs_cons ?_
  have h2 : wpAny (model prog w) F.A (execs [st] F.env >>= fun f => pure f) (fun f s' => match f with | .next => wpAny (model prog w) F.A (execs rest F.env) Q E s' | f => Q f s') E s := wpAny_bind (wpAny_mono h1 (fun _ _ h => wpAny_pure h) fun _ _ h => h)
  intro Γ p hΓ
  have h3 := h1 Γ p hΓ
  rw [execs_cons, Sem.wp_bind'] at h3
  refine Sem.wp_mono _ Γ _ (fun f p' s' h' => ?_) (fun _ _ _ h' => h') _ _ h3
  cases f with
  | next =>
    rw [execs_nil] at h'
    intro Γ' p'' hΓ'
    exact (show wpAny (model prog w) F.A (execs rest F.env) Q E s' from h') Γ' p'' hΓ'
  | brk => exact h'
  | cont => exact h'
  | ret v => exact h'
end
end Mine
end
/-! part A2 -/
section
open PySem PySem.Calls PySem.Spec PyProof.Rows PySem.W
set_option Elab.async false
set_option linter.unusedVariables false
namespace Mine

/-- room: n levels of calls below -/
structure Rm (n : Nat) (A : Around) : Prop where
  hh : A.handled = none
  depth : A.depth + 20 * n ≤ 700
  units : A.units + 200 * n ≤ 4000
theorem Rm.lt {n : Nat} {A : Around} (h : Rm n A) : A.depth < recursionLimit := by have := h.depth; show _ < 1000; omega
theorem Rm.units_lt {n : Nat} {A : Around} (h : Rm n A) : A.units + 300 < cLine := by have := h.units; show _ < 9900; omega
theorem Rm.deeper {n : Nat} {A : Around} (h : Rm (n + 1) A) (env : Env) : Rm n (A.deeper env) :=
  ⟨h.hh, by have := h.depth; show A.depth + 1 + _ ≤ _; omega, by have := h.units; show A.units + 3 + _ ≤ _; omega⟩
theorem Rm.le {n m : Nat} {A : Around} (h : Rm n A) (hm : m ≤ n) : Rm m A := ⟨h.hh, by have := h.depth; omega, by have := h.units; omega⟩

structure Fok (n : Nat) (F : Fm) : Prop where
  kind : F.env.scope.kind = .function
  glob : F.env.globals = mainGlobals
  bui : F.env.builtins = builtinsNs
  rm : Rm n F.A
  mods : ∃ o, F.g.get? sysModules = some o
theorem Fok.hp {n : Nat} {F : Fm} (h : Fok n F) : (F.env.scope.kind == .class || (F.env.scope.kind == .module && F.env.locals != F.env.globals)) = false := by rw [h.kind]; rfl

noncomputable def upd {prog : Program} {w : World} (ρ : Ro prog w) (x : Str) (R : V prog w) : Ro prog w := fun y => if y = x then some R else ρ y
theorem upd_self {prog : Program} {w : World} (ρ : Ro prog w) (x : Str) (R : V prog w) : upd ρ x R x = some R := if_pos rfl
theorem upd_ne {prog : Program} {w : World} (ρ : Ro prog w) {x y : Str} (R : V prog w) (h : y ≠ x) : upd ρ x R y = ρ y := if_neg h

theorem objN {h : Heap} {a : Addr} {m : Str → Option Value} (n : h.Ns a m) : ∃ o es ep, h.get? a = some o ∧ o.data = .dict es ep := let ⟨o, es, ep, ho, hd, _⟩ := n; ⟨o, es, ep, ho, hd⟩
theorem cell_ne_ns {h : Heap} {a c : Addr} {m : Str → Option Value} {v : Option Value} (n : h.Ns a m) (k : h.IsCell c v) : c ≠ a := by
  rintro rfl
  obtain ⟨o, es, ep, ho, hd, _⟩ := n
  obtain ⟨o', ho', hd'⟩ := k
  rw [ho] at ho'; cases ho'; rw [hd] at hd'; cases hd'

section
variable {prog : Program} {w : World} {F : Fm} {K K' X : Kn} {ρ ρ' : Ro prog w} {s s' : Shared}

theorem V.own_not_cell {G : Kn} {a : Addr} {o : Obj} {v : Option Value} {R : V prog w} (h : R.rd K G (.ref a)) (ho : R.own = true) (hg : G a = some o) : o.data ≠ .cell v := by
  cases R with
  | frz P => cases ho
  | lst Ps => obtain ⟨b, vs, n, e, h1, h2⟩ := h; cases e; rw [hg] at h1; cases h1; intro h; cases h
  | sdc kvs => obtain ⟨b, o', e, h1, hs, kv, ⟨es, ep, h3, h4, _⟩, _⟩ := h; cases e; rw [hg] at h1; cases h1; rw [h4]; intro h; cases h
  | idc kvs => obtain ⟨b, o', e, h1, hs, kv, ⟨es, ep, h3, h4, _⟩, _⟩ := h; cases e; rw [hg] at h1; cases h1; rw [h4]; intro h; cases h
  | obj D => obtain ⟨b, o', e, h1, hs, h2⟩ := h; cases e; rw [hg] at h1; cases h1; exact D.ncell h2

/-- an object that is changed and is neither known nor told to stay: the reading of the others stays -/
theorem V.rd_same {b : Addr} {h h' : Heap} {u : Value} {R : V prog w} (hs : Heap.SameBut b h h') (hr : R.rd K (hk h) u) (hb : R.own = true → u ≠ .ref b) : R.rd K (hk h') u := by
  cases R with
  | frz P => exact hr
  | lst Ps => obtain ⟨a, vs, n, e, h1, h2⟩ := hr; exact ⟨a, vs, n, e, (hs.2 a (fun q => hb rfl (by rw [e, q]))).trans h1, h2⟩
  | sdc kvs => obtain ⟨a, o, e, h1, hsy, h2⟩ := hr; exact ⟨a, o, e, (hs.2 a (fun q => hb rfl (by rw [e, q]))).trans h1, hsy, h2⟩
  | idc kvs => obtain ⟨a, o, e, h1, hsy, h2⟩ := hr; exact ⟨a, o, e, (hs.2 a (fun q => hb rfl (by rw [e, q]))).trans h1, hsy, h2⟩
  | obj D => obtain ⟨a, o, e, h1, hsy, h2⟩ := hr; exact ⟨a, o, e, (hs.2 a (fun q => hb rfl (by rw [e, q]))).trans h1, hsy, h2⟩

theorem Holds.same {b : Addr} {h h' : Heap} {x : Str} {u : Value} (hs : Heap.SameBut b h h') (H : Holds F.env h x u) (hl : F.env.kindOf x = some .local → F.env.locals ≠ b) (hc : ∀ c, F.env.cells.lookup x = some c → c ≠ b) : Holds F.env h' x u := by
  rcases H with ⟨e, m, hn, hm⟩ | ⟨e, c, hcc, hv⟩
  · exact .inl ⟨e, m, hn.sameBut hs (hl e), hm⟩
  · exact .inr ⟨e, c, hcc, hv.sameBut hs (hc c hcc)⟩

theorem live_same {b : Addr} {h h' : Heap} (hs : Heap.SameBut b h h') (hb : ∃ o, h'.get? b = some o) (hl : ∀ x c, F.env.cells.lookup x = some c → ∃ o, h.get? c = some o) : ∀ x c, F.env.cells.lookup x = some c → ∃ o, h'.get? c = some o := fun x c hc => by
  by_cases e : c = b
  · rw [e]; exact hb
  · obtain ⟨o, ho⟩ := hl x c hc; exact ⟨o, (hs.2 c e).trans ho⟩
theorem kle_same {b : Addr} {h h' : Heap} (hs : Heap.SameBut b h h') (hk0 : Kle K (hk h)) (hb : K b = none) : Kle K (hk h') := fun a o e =>
  (hs.2 a (by rintro rfl; rw [hb] at e; cases e)).trans (hk0 a o e)

/-- what a store into a name needs of its value -/
structure Fit (F : Fm) (K X : Kn) (ρ : Ro prog w) (s : Shared) (x : Str) (u : Value) (R : V prog w) : Prop where
  rd : R.rd K (hk s.heap) u
  own : R.own = true → ∃ a, u = .ref a ∧ K a = none ∧ X a = none ∧ a ≠ F.env.locals ∧ ∀ y Vy, y ≠ x → ρ y = some Vy → Vy.own = true → ¬ Holds F.env s.heap y (.ref a)

theorem Fit.frz {x : Str} {u : Value} {P : DP} (h : P.p K u) : Fit F K X ρ s x u (.frz P) := ⟨h, fun e => nomatch e⟩

theorem store_local0 {A : Around} {x : Str} {u : Value} {R : V prog w} {Q : Unit → Shared → Prop} {M : Model} {E : Value → Shared → Prop} (hp : (F.env.scope.kind == .class || (F.env.scope.kind == .module && F.env.locals != F.env.globals)) = false) (S : Sat F K X ρ s) (hx : F.env.kindOf x = some .local)
    (ft : Fit F K X ρ s x u R) (h : ∀ s', Sat F K X (upd ρ x R) s' → Rest s s' → Q () s') : wpAny M A (storeName F.env x u) Q E s := by
  obtain ⟨m, hn⟩ := S.ns
  refine wpAny_storeName_local hx hn (fun h' hn' hs => h _ ?_ ⟨rfl, .refl _⟩) hp
  have hoth : ∀ y v, y ≠ x → (Holds F.env s.heap y v ↔ Holds F.env h' y v) := by
    intro y v hy
    constructor
    · rintro (⟨e, m', hm', hv⟩ | ⟨e, c, hc, hv⟩)
      · refine .inl ⟨e, _, hn', ?_⟩
        rw [if_neg hy, Ns_inj hn hm']; exact hv
      · exact .inr ⟨e, c, hc, hv.sameBut hs (cell_ne_ns hn hv)⟩
    · rintro (⟨e, m', hm', hv⟩ | ⟨e, c, hc, o, ho, hd⟩)
      · refine .inl ⟨e, _, hn, ?_⟩
        rw [← Ns_inj hn' hm'] at hv; dsimp only at hv; rw [if_neg hy] at hv; exact hv
      · refine .inr ⟨e, c, hc, o, ?_, hd⟩
        have : c ≠ F.env.locals := by
          rintro rfl
          obtain ⟨o', es, ep, ho', hd'⟩ := objN hn'
          rw [ho] at ho'; cases ho'; rw [hd] at hd'; cases hd'
        rw [← hs.2 c this]; exact ho
  have hself : Holds F.env h' x u := .inl ⟨hx, _, hn', if_pos rfl⟩
  refine ⟨S.gk, kle_same hs S.kin S.kl, kle_same hs S.xin S.xl, ⟨_, hn'⟩, S.kl, S.xl, ?_, S.inj, live_same hs (let ⟨o, _, _, ho, _⟩ := objN hn'; ⟨o, ho⟩) S.live, ?_, ?_⟩
  · intro y hy
    obtain ⟨c, v, h1, h2, h3, h4, h5⟩ := S.cel y hy
    exact ⟨c, v, h1, h2, h3.sameBut hs (cell_ne_ns hn h3), h4, h5⟩
  · intro y Vy hy
    by_cases hyx : y = x
    · subst hyx
      rw [upd_self] at hy; cases hy
      refine ⟨u, hself, V.rd_same hs ft.rd fun ho e => ?_, fun ho => ?_⟩
      · obtain ⟨a, e', _, _, hl, _⟩ := ft.own ho; rw [e] at e'; cases e'; exact hl rfl
      · obtain ⟨a, e', h1, h2, hl, _⟩ := ft.own ho; exact ⟨a, e', h1, h2, hl⟩
    · rw [upd_ne _ _ hyx] at hy
      obtain ⟨v, h1, h2, h3⟩ := S.vars y Vy hy
      refine ⟨v, (hoth y v hyx).mp h1, V.rd_same hs h2 fun ho e => ?_, h3⟩
      obtain ⟨a, e', _, _, hl⟩ := h3 ho; rw [e] at e'; cases e'; exact hl rfl
  · intro y z a Vy Vz hyz hy hz oy oz H1 H2
    by_cases hyx : y = x
    · subst hyx
      have hzy : z ≠ y := fun e => hyz e.symm
      rw [upd_self] at hy; cases hy
      rw [upd_ne _ _ hzy] at hz
      obtain ⟨b, e', _, _, _, hno⟩ := ft.own oy
      have := hself.inj H1
      rw [e'] at this; cases this
      exact hno z Vz hzy hz oz ((hoth z _ hzy).mpr H2)
    · by_cases hzx : z = x
      · subst hzx
        rw [upd_self] at hz; cases hz
        rw [upd_ne _ _ hyx] at hy
        obtain ⟨b, e', _, _, _, hno⟩ := ft.own oz
        have := hself.inj H2
        rw [e'] at this; cases this
        exact hno y Vy hyx hy oy ((hoth y _ hyx).mpr H1)
      · rw [upd_ne _ _ hyx] at hy
        rw [upd_ne _ _ hzx] at hz
        exact S.sep y z a Vy Vz hyz hy hz oy oz ((hoth y _ hyx).mpr H1) ((hoth z _ hzx).mpr H2)

theorem store_local {n : Nat} {x : Str} {u : Value} {R : V prog w} {Q : Unit → Shared → Prop} {M : Model} {E : Value → Shared → Prop} (ok : Fok n F) (S : Sat F K X ρ s) (hx : F.env.kindOf x = some .local)
    (ft : Fit F K X ρ s x u R) (h : ∀ s', Sat F K X (upd ρ x R) s' → Rest s s' → Q () s') : wpAny M F.A (storeName F.env x u) Q E s := store_local0 ok.hp S hx ft h

theorem store_cell {n : Nat} {x : Str} {u : Value} {R : V prog w} {Q : Unit → Shared → Prop} {M : Model} {E : Value → Shared → Prop} (ok : Fok n F) (S : Sat F K X ρ s) (hx : x ∈ F.mine)
    (ft : Fit F K X ρ s x u R) (h : ∀ s', Sat F K X (upd ρ x R) s' → Rest s s' → Q () s') : wpAny M F.A (storeName F.env x u) Q E s := by
  obtain ⟨m, hn⟩ := S.ns
  obtain ⟨c, v₀, hkx, hc, hv₀, hkc, hxc⟩ := S.cel x hx
  refine wpAny_storeName_cell ok.kind hkx hc hv₀ (fun h' hv' hs => h _ ?_ ⟨rfl, .refl _⟩)
  have hcl : c ≠ F.env.locals := cell_ne_ns hn hv₀
  have hn' : h'.Ns F.env.locals m := hn.sameBut hs (Ne.symm hcl)
  have hoth : ∀ y v, y ≠ x → (Holds F.env s.heap y v ↔ Holds F.env h' y v) := by
    intro y v hy
    have hne : ∀ d, F.env.cells.lookup y = some d → d ≠ c := fun d hd e => hy (S.inj x c hx hc y (e ▸ hd))
    constructor
    · rintro (⟨e, m', hm', hv⟩ | ⟨e, d, hd, hv⟩)
      · exact .inl ⟨e, m', hm'.sameBut hs (Ne.symm hcl), hv⟩
      · exact .inr ⟨e, d, hd, hv.sameBut hs (hne d hd)⟩
    · rintro (⟨e, m', hm', hv⟩ | ⟨e, d, hd, o, ho, hdd⟩)
      · refine .inl ⟨e, m, hn, ?_⟩
        rw [Ns_inj hn' hm']; exact hv
      · exact .inr ⟨e, d, hd, o, (hs.2 d (hne d hd)).symm.trans ho, hdd⟩
  have hself : Holds F.env h' x u := .inr ⟨.inl hkx, c, hc, hv'⟩
  have ownc : ∀ {R : V prog w} {v : Value}, R.rd K (hk s.heap) v → R.own = true → v ≠ .ref c := by
    intro R v hr ho e
    subst e
    obtain ⟨o, hoo, hdd⟩ := hv₀
    exact V.own_not_cell hr ho hoo hdd
  refine ⟨S.gk, kle_same hs S.kin hkc, kle_same hs S.xin hxc, ⟨_, hn'⟩, S.kl, S.xl, ?_, S.inj, live_same hs (let ⟨o, ho, _⟩ := id hv'; ⟨o, ho⟩) S.live, ?_, ?_⟩
  · intro y hy
    by_cases hyx : y = x
    · subst hyx; exact ⟨c, _, hkx, hc, hv', hkc, hxc⟩
    · obtain ⟨d, v, h1, h2, h3, h4, h5⟩ := S.cel y hy
      exact ⟨d, v, h1, h2, h3.sameBut hs (fun e => hyx (S.inj x c hx hc y (e ▸ h2))), h4, h5⟩
  · intro y Vy hy
    by_cases hyx : y = x
    · subst hyx
      rw [upd_self] at hy; cases hy
      refine ⟨u, hself, V.rd_same hs ft.rd fun ho => ownc ft.rd ho, fun ho => ?_⟩
      obtain ⟨a, e', h1, h2, hl, _⟩ := ft.own ho; exact ⟨a, e', h1, h2, hl⟩
    · rw [upd_ne _ _ hyx] at hy
      obtain ⟨v, h1, h2, h3⟩ := S.vars y Vy hy
      exact ⟨v, (hoth y v hyx).mp h1, V.rd_same hs h2 fun ho => ownc h2 ho, h3⟩
  · intro y z a Vy Vz hyz hy hz oy oz H1 H2
    by_cases hyx : y = x
    · subst hyx
      have hzy : z ≠ y := fun e => hyz e.symm
      rw [upd_self] at hy; cases hy
      rw [upd_ne _ _ hzy] at hz
      obtain ⟨b, e', _, _, _, hno⟩ := ft.own oy
      have := hself.inj H1
      rw [e'] at this; cases this
      exact hno z Vz hzy hz oz ((hoth z _ hzy).mpr H2)
    · by_cases hzx : z = x
      · subst hzx
        rw [upd_self] at hz; cases hz
        rw [upd_ne _ _ hyx] at hy
        obtain ⟨b, e', _, _, _, hno⟩ := ft.own oz
        have := hself.inj H2
        rw [e'] at this; cases this
        exact hno y Vy hyx hy oy ((hoth y _ hyx).mpr H1)
      · rw [upd_ne _ _ hyx] at hy
        rw [upd_ne _ _ hzx] at hz
        exact S.sep y z a Vy Vz hyz hy hz oy oz ((hoth y _ hyx).mpr H1) ((hoth z _ hzx).mpr H2)

/-- a name that may be stored: a local one, or a cell of the frame's own -/
noncomputable def Own1 (F : Fm) (x : Str) : Prop := F.env.kindOf x = some .local ∨ x ∈ F.mine
theorem store_name {n : Nat} {x : Str} {u : Value} {R : V prog w} {Q : Unit → Shared → Prop} {M : Model} {E : Value → Shared → Prop} (ok : Fok n F) (S : Sat F K X ρ s) (hx : Own1 F x)
    (ft : Fit F K X ρ s x u R) (h : ∀ s', Sat F K X (upd ρ x R) s' → Rest s s' → Q () s') : wpAny M F.A (storeName F.env x u) Q E s :=
  hx.elim (fun hl => store_local ok S hl ft h) fun hc => store_cell ok S hc ft h

/-- a container of one's own is frozen -/
theorem Sat.freeze {x : Str} {R : V prog w} (S : Sat F K X ρ s) (hx : ρ x = some R) : ∃ K', Sat F K' X (upd ρ x (.frz R.cold)) s ∧ Kle K K' ∧ ∀ a o, X a = some o → K' a = K a := by
  by_cases ho : R.own = true
  · obtain ⟨u, h1, h2, h3⟩ := S.vars x R hx
    obtain ⟨a, rfl, hka, hxa, hla⟩ := h3 ho
    obtain ⟨b, o, hb, hG⟩ := V.own_ref h2 ho
    cases hb
    let K' : Kn := fun b => if b = a then some o else K b
    have hle : Kle K K' := fun b o' e => by
      show (if b = a then some o else K b) = _
      by_cases hb : b = a
      · subst hb; rw [hka] at e; cases e
      · rw [if_neg hb]; exact e
    have hK : ∀ b, b ≠ a → K' b = K b := fun b hb => if_neg hb
    refine ⟨K', ⟨S.gk.trans hle, ?_, S.xin, S.ns, (hK _ (Ne.symm hla)).trans S.kl, S.xl, ?_, S.inj, S.live, ?_, ?_⟩, hle, fun b o' e => hK b (by rintro rfl; rw [hxa] at e; cases e)⟩
    · intro b o' e
      have e' : (if b = a then some o else K b) = some o' := e
      by_cases hb : b = a
      · rw [if_pos hb] at e'; cases e'; subst hb; exact hG
      · rw [if_neg hb] at e'; exact S.kin b o' e'
    · intro y hy
      obtain ⟨c, v, q1, q2, q3, q4, q5⟩ := S.cel y hy
      refine ⟨c, v, q1, q2, q3, (hK c ?_).trans q4, q5⟩
      rintro rfl
      obtain ⟨o', ho', hd'⟩ := q3
      exact V.own_not_cell h2 ho (by exact ho') hd'
    · intro y Vy hy
      by_cases hyx : y = x
      · subst hyx
        rw [upd_self] at hy; cases hy
        refine ⟨_, h1, ?_, fun e => nomatch e⟩
        exact V.cold_of (h2.mono hle (Kle.refl _)) ho ((if_pos rfl).trans hG.symm)
      · rw [upd_ne _ _ hyx] at hy
        obtain ⟨v, g1, g2, g3⟩ := S.vars y Vy hy
        refine ⟨v, g1, g2.mono hle (Kle.refl _), fun oy => ?_⟩
        obtain ⟨c, rfl, k1, k2, k3⟩ := g3 oy
        refine ⟨c, rfl, (hK c ?_).trans k1, k2, k3⟩
        rintro rfl
        exact S.sep y x _ Vy R hyx hy hx oy ho g1 h1
    · intro y z b Vy Vz hyz hy hz oy oz H1 H2
      have n1 : y ≠ x := by rintro rfl; rw [upd_self] at hy; cases hy; cases oy
      have n2 : z ≠ x := by rintro rfl; rw [upd_self] at hz; cases hz; cases oz
      rw [upd_ne _ _ n1] at hy
      rw [upd_ne _ _ n2] at hz
      exact S.sep y z b Vy Vz hyz hy hz oy oz H1 H2
  · have : R = .frz R.cold := by cases R <;> first | rfl | exact absurd rfl ho
    refine ⟨K, S.less fun y Vy hy => ?_, .refl _, fun _ _ _ => rfl⟩
    by_cases hyx : y = x
    · subst hyx; rw [upd_self] at hy; cases hy; rw [hx]; exact congrArg some this
    · rwa [upd_ne _ _ hyx] at hy

/-- a new container becomes known -/
theorem Ext.freeze {R : V prog w} {a : Addr} (e : Ext s s' K K') (hr : R.rd K' (hk s'.heap) (.ref a)) (ho : R.own = true) (hka : K' a = none) (hnew : s.heap.get? a = none) :
    ∃ K'', Ext s s' K K'' ∧ R.cold.p K'' (.ref a) := by
  obtain ⟨b, o, hb, hG⟩ := V.own_ref hr ho
  cases hb
  let K'' : Kn := fun b => if b = a then some o else K' b
  have hle : Kle K' K'' := fun b o' e => by
    show (if b = a then some o else K' b) = _
    by_cases hb : b = a
    · subst hb; rw [hka] at e; cases e
    · rw [if_neg hb]; exact e
  refine ⟨K'', ⟨e.rest, e.keep, e.le.trans hle, fun b o' q => ?_, fun b o' q => ?_⟩, V.cold_of (hr.mono hle (Kle.refl _)) ho ((if_pos rfl).trans hG.symm)⟩
  · show (if b = a then some o else K' b) = _
    rw [if_neg (by rintro rfl; rw [hnew] at q; cases q)]
    exact e.old b o' q
  · have q' : (if b = a then some o else K' b) = some o' := q
    by_cases hb : b = a
    · rw [if_pos hb] at q'; cases q'; subst hb; exact hG
    · rw [if_neg hb] at q'; exact e.kin b o' q'
end
end Mine
end
/-! part A3 -/
section
open PySem PySem.Calls PySem.Spec PyProof.Rows PySem.W
set_option Elab.async false
set_option linter.unusedVariables false
namespace Mine
section
variable {prog : Program} {w : World} {F : Fm} {K K' X : Kn} {ρ ρ' : Ro prog w} {s s' : Shared} {Φ : Out → Ro prog w → Prop}

theorem Ev.of_eval {e : PySem.Expr} {R : V prog w} (h : ∀ (K X : Kn) (s : Shared) (Q E : Value → Shared → Prop), Sat F K X ρ s → (∀ K' s' v, Ext s s' K K' → R.rd K' (hk s'.heap) v → Q v s') → wpAny (model prog w) F.A (eval e F.env) Q E s) : Ev F e ρ R := ⟨h⟩

/-! ### names, constants -/
theorem Ev.name {n : Nat} {x : Str} {pos : Pos} {R : V prog w} (ok : Fok n F) (hx : ρ x = some R) (hd : (x == ("__debug__" : Str)) = false := by decide) (hc : (x == ("__classdict__" : Str)) = false := by decide) : Ev F (.Name x pos) ρ R := Wr.mk <| fun K X s Q E S k => by
  obtain ⟨u, h1, h2, _⟩ := S.vars x R hx
  refine wpAny_Name ?_ hd
  rcases h1 with ⟨hl, m, hn, hm⟩ | ⟨hl | hl, c, hcc, hv⟩
  · exact wpAny_loadName_local ok.kind hl hn hm (k K s u (.refl S.kin) h2)
  · exact wpAny_loadName_cell ok.kind hl hcc hv (k K s u (.refl S.kin) h2)
  · exact wpAny_loadName_free ok.kind hl hcc hv (k K s u (.refl S.kin) h2) hc
theorem Ez.int {i : Int} {q : Nat} {pos : Pos} : Ez F (.Constant (.int i) q pos) ρ (dInt i) := Wr.mk <| fun K X s Q E S k => wpAny_Constant_int (k K _ _ (.toks S.kin) ⟨_, rfl⟩)
theorem Ez.str {x : Str} {q : Nat} {pos : Pos} : Ez F (.Constant (.str x) q pos) ρ (dStr x) := Wr.mk <| fun K X s Q E S k => Constant_str (k K _ _ (.toks S.kin) ⟨_, rfl⟩)
theorem Ez.bool {b : Bool} {q : Nat} {pos : Pos} : Ez F (.Constant (.bool b) q pos) ρ (dBool b) := Wr.mk <| fun K X s Q E S k => wpAny_Constant_bool (k K _ _ (.refl S.kin) rfl)
theorem Ez.none {q : Nat} {pos : Pos} : Ez F (.Constant .none q pos) ρ dNone := Wr.mk <| fun K X s Q E S k => wpAny_Constant_none (k K _ _ (.refl S.kin) rfl)

/-! ### ranks -/
theorem Ev.cold_rd {e : PySem.Expr} {R : V prog w} (h : Ez F e ρ R.cold) : Ev F e ρ R := Wr.mk <| fun K X s Q E S k =>
  h.out K X s Q E S fun K' s' v e hv => k K' s' v e (V.rd_of_cold e.kin hv)
theorem Ev.lst {e : PySem.Expr} {Ps : List DP} (h : Ez F e ρ (dList Ps)) : Ev F e ρ (.lst Ps) := Ev.cold_rd (R := .lst Ps) h
theorem Ev.sdc {e : PySem.Expr} {kvs : List (Str × DP)} (h : Ez F e ρ (dDict (strKind prog w) kvs)) : Ev F e ρ (.sdc kvs) := Ev.cold_rd (R := .sdc kvs) h
theorem Ev.idc {e : PySem.Expr} {kvs : List (Int × DP)} (h : Ez F e ρ (dDict (intKind prog w) kvs)) : Ev F e ρ (.idc kvs) := Ev.cold_rd (R := .idc kvs) h
theorem En.cold {e : PySem.Expr} {R : V prog w} (h : En F e ρ R) (ho : R.own = true) : Ez F e ρ R.cold := Wr.mk <| fun K X s Q E S k =>
  h.out K X s Q E S fun K' s' a e hr hka hnew => by
    obtain ⟨K'', e', h'⟩ := e.freeze hr ho hka hnew
    exact k K'' s' _ e' h'
theorem En.list {e : PySem.Expr} {Ps : List DP} (h : En F e ρ (.lst Ps)) : Ez F e ρ (dList Ps) := h.cold rfl
theorem En.rd {e : PySem.Expr} {R : V prog w} (h : En F e ρ R) : Ev F e ρ R := Wr.mk <| fun K X s Q E S k => h.out K X s Q E S fun K' s' a e hr _ _ => k K' s' _ e hr
theorem Ev.less {e : PySem.Expr} {R : V prog w} (h : Ev F e ρ' R) (hl : ∀ x V, ρ' x = some V → ρ x = some V) : Ev F e ρ R := Wr.mk <| fun K X s Q E S k => h.out K X s Q E (S.less hl) k

/-! ### operations -/
/-- an operation on two values -/
noncomputable def Bin (prog : Program) (w : World) (A : Around) (t : Value → Value → Sem Value) (Rl Rr R : V prog w) : Prop :=
  ∀ (K : Kn) (s : Shared) (u v : Value) (Q E : Value → Shared → Prop), Kle K (hk s.heap) → Rl.rd K (hk s.heap) u → Rr.rd K (hk s.heap) v → (∀ K' s' x, Ext s s' K K' → R.rd K' (hk s'.heap) x → Q x s') → wpAny (model prog w) A (t u v) Q E s
/-- .. whose answer is a new container -/
noncomputable def BinN (prog : Program) (w : World) (A : Around) (t : Value → Value → Sem Value) (Rl Rr R : V prog w) : Prop :=
  ∀ (K : Kn) (s : Shared) (u v : Value) (Q E : Value → Shared → Prop), Kle K (hk s.heap) → Rl.rd K (hk s.heap) u → Rr.rd K (hk s.heap) v → (∀ K' s' a, Ext s s' K K' → R.rd K' (hk s'.heap) (.ref a) → K' a = none → s.heap.get? a = none → Q (.ref a) s') → wpAny (model prog w) A (t u v) Q E s

theorem two {l r : PySem.Expr} {t : Value → Value → Sem Value} {Rl Rr R : V prog w} (hl : Ev F l ρ Rl) (hr : Ev F r ρ Rr) (ht : Bin prog w F.A t Rl Rr R) {Q E : Value → Shared → Prop} (S : Sat F K X ρ s)
    (k : ∀ K' s' v, Ext s s' K K' → R.rd K' (hk s'.heap) v → Q v s') :
    wpAny (model prog w) F.A (eval l F.env) (fun a s₁ => wpAny (model prog w) F.A (eval r F.env) (fun b s₂ => wpAny (model prog w) F.A (t a b) Q E s₂) E s₁) E s :=
  hl.out K X s _ E S fun K₁ s₁ u e₁ h₁ => hr.out K₁ X s₁ _ E (S.ext e₁) fun K₂ s₂ v e₂ h₂ =>
    ht K₂ s₂ u v Q E e₂.kin (h₁.mono e₂.le (fun a o q => e₂.keep a o q)) h₂ fun K₃ s₃ x e₃ h₃ => k K₃ s₃ x ((e₁.trans e₂).trans e₃) h₃
theorem twoN {l r : PySem.Expr} {t : Value → Value → Sem Value} {Rl Rr R : V prog w} (hl : Ev F l ρ Rl) (hr : Ev F r ρ Rr) (ht : BinN prog w F.A t Rl Rr R) {Q E : Value → Shared → Prop} (S : Sat F K X ρ s)
    (k : ∀ K' s' a, Ext s s' K K' → R.rd K' (hk s'.heap) (.ref a) → K' a = none → s.heap.get? a = none → Q (.ref a) s') :
    wpAny (model prog w) F.A (eval l F.env) (fun a s₁ => wpAny (model prog w) F.A (eval r F.env) (fun b s₂ => wpAny (model prog w) F.A (t a b) Q E s₂) E s₁) E s :=
  hl.out K X s _ E S fun K₁ s₁ u e₁ h₁ => hr.out K₁ X s₁ _ E (S.ext e₁) fun K₂ s₂ v e₂ h₂ =>
    ht K₂ s₂ u v Q E e₂.kin (h₁.mono e₂.le (fun a o q => e₂.keep a o q)) h₂ fun K₃ s₃ x e₃ h₃ hn hf => k K₃ s₃ x ((e₁.trans e₂).trans e₃) h₃ hn (by
      cases q : s.heap.get? x with
      | none => rfl
      | some o => rw [e₂.keep _ _ (e₁.keep _ _ q)] at hf; cases hf)

theorem Ev.bin {l r : PySem.Expr} {op : Operator} {pos : Pos} {Rl Rr R : V prog w} (hl : Ev F l ρ Rl) (hr : Ev F r ρ Rr) (ht : Bin prog w F.A (binaryOp op) Rl Rr R) : Ev F (.BinOp l op r pos) ρ R :=
  Wr.mk <| fun _ _ _ _ _ S k => wpAny_BinOp (two hl hr ht S k)
theorem En.bin {l r : PySem.Expr} {op : Operator} {pos : Pos} {Rl Rr R : V prog w} (hl : Ev F l ρ Rl) (hr : Ev F r ρ Rr) (ht : BinN prog w F.A (binaryOp op) Rl Rr R) : En F (.BinOp l op r pos) ρ R :=
  Wr.mk <| fun _ _ _ _ _ S k => wpAny_BinOp (twoN hl hr ht S k)
theorem Ev.cmp {l r : PySem.Expr} {op : CmpOp} {pos : Pos} {Rl Rr R : V prog w} (hl : Ev F l ρ Rl) (hr : Ev F r ρ Rr) (ht : Bin prog w F.A (compareOp op) Rl Rr R)
    (hm : behindInMarks op r = false := by with_unfolding_all rfl) : Ev F (.Compare l [op] [r] pos) ρ R := Wr.mk <| fun _ _ _ _ _ S k => wpAny_Compare1 (two hl hr ht S k) hm
theorem Eb.cmp {l r : PySem.Expr} {op : CmpOp} {pos : Pos} {Rl Rr : V prog w} {b : Bool} (hl : Ev F l ρ Rl) (hr : Ev F r ρ Rr) (ht : Bin prog w F.A (compareOp op) Rl Rr (.frz (dBool b)))
    (hm : behindInMarks op r = false := by with_unfolding_all rfl) : Eb F (.Compare l [op] [r] pos) ρ b := Wr.mk <| fun _ _ _ Q E S k =>
  wpAny_isTrue_Compare1 (two (t := compareOp op) (Q := fun c s₃ => wpAny (model prog w) F.A (truthy c) Q E s₃) hl hr ht S fun K' s' v e h => by
    have hv : v = .bool b := h
    subst hv
    exact wpAny_truthy_bool (k K' s' e)) hm
theorem Eb.and2 {x y : PySem.Expr} {pos : Pos} {a b : Bool} (hx : Eb F x ρ a) (hy : a = true → Eb F y ρ b) : Eb F (.BoolOp .And [x, y] pos) ρ (a && b) := Wr.mk <| fun K X s Q E S k => by
  show wpAny _ F.A (allTrue .And [x, y] F.env) Q E s
  rw [allTrue]
  refine wpAny_bind (hx.out K X s _ E S fun K₁ s₁ e₁ => ?_)
  cases a with
  | false => exact wpAny_pure (k K₁ s₁ e₁)
  | true =>
    show wpAny _ F.A (allTrue .And [y] F.env) Q E s₁
    rw [allTrue]
    refine wpAny_bind ((hy rfl).out K₁ X s₁ _ E (S.ext e₁) fun K₂ s₂ e₂ => ?_)
    cases b with
    | false => exact wpAny_pure (k K₂ s₂ (e₁.trans e₂))
    | true =>
      show wpAny _ F.A (allTrue .And [] F.env) Q E s₂
      rw [allTrue]
      exact wpAny_pure (k K₂ s₂ (e₁.trans e₂))
theorem Ev.ite {test body orelse : PySem.Expr} {pos : Pos} {b : Bool} {R : V prog w} (ht : Eb F test ρ b) (h1 : b = true → Ev F body ρ R) (h2 : b = false → Ev F orelse ρ R) : Ev F (.IfExp test body orelse pos) ρ R := Wr.mk <| fun K X s Q E S k => by
  show wpAny _ F.A (isTrue test F.env (eval test F.env) >>= fun c => if c = true then eval body F.env else eval orelse F.env) Q E s
  refine wpAny_bind (ht.out K X s _ E S fun K₁ s₁ e₁ => ?_)
  cases b with
  | true => exact (h1 rfl).out K₁ X s₁ Q E (S.ext e₁) fun K₂ s₂ v e₂ h => k K₂ s₂ v (e₁.trans e₂) h
  | false => exact (h2 rfl).out K₁ X s₁ Q E (S.ext e₁) fun K₂ s₂ v e₂ h => k K₂ s₂ v (e₁.trans e₂) h

/-! ### ints -/
theorem bin_int {t : Value → Value → Sem Value} {A : Around} {a b c : Int} (h : ∀ (s : Shared) (p q : Tok) (Q E : Value → Shared → Prop), Q (.int c s.toks) { s with toks := s.toks + 1 } → wpAny (model prog w) A (t (.int a p) (.int b q)) Q E s) :
    Bin prog w A t (.frz (dInt a)) (.frz (dInt b)) (.frz (dInt c)) := fun K s u v Q E hk hu hv k => by
  obtain ⟨p, rfl⟩ := hu
  obtain ⟨q, rfl⟩ := hv
  exact h s p q Q E (k K _ _ (.toks hk) ⟨_, rfl⟩)
theorem bin_add {A : Around} {a b : Int} : Bin prog w A (binaryOp .Add) (.frz (dInt a)) (.frz (dInt b)) (.frz (dInt (a + b))) := bin_int fun _ _ _ _ _ h => wpAny_add_int h
theorem bin_sub {A : Around} {a b : Int} : Bin prog w A (binaryOp .Sub) (.frz (dInt a)) (.frz (dInt b)) (.frz (dInt (a - b))) := bin_int fun _ _ _ _ _ h => PySem.P.sub_int h
theorem bin_iadd {A : Around} {a b : Int} : Bin prog w A (inplaceOp .Add) (.frz (dInt a)) (.frz (dInt b)) (.frz (dInt (a + b))) := bin_int fun _ _ _ _ _ h => PySem.P.iadd_int h
theorem bin_mul {A : Around} {a b : Int} (hm : IntMulOk a b) : Bin prog w A (binaryOp .Mult) (.frz (dInt a)) (.frz (dInt b)) (.frz (dInt (a * b))) := bin_int fun _ _ _ _ _ h => PySem.P.mul_int h hm
theorem bin_mod {A : Around} {a b : Int} (hb : b ≠ 0) : Bin prog w A (binaryOp .Mod) (.frz (dInt a)) (.frz (dInt b)) (.frz (dInt (a.fmod b))) := bin_int fun _ _ _ _ _ h => PyProof.Rows.mod_int' hb h
theorem bin_div {A : Around} {a b : Int} (hb : b ≠ 0) (hp : Builtin.divisionGoesByPylong a b = false) : Bin prog w A (binaryOp .FloorDiv) (.frz (dInt a)) (.frz (dInt b)) (.frz (dInt (a.fdiv b))) := bin_int fun _ _ _ _ _ h => PyProof.Rows.floordiv_int hb h (.inl hp)
theorem bin_pow {A : Around} {a b : Int} (hn : 0 ≤ b) (hn2 : b ≤ 1000000) (ha : a.natAbs < 2 ^ 64) : Bin prog w A (binaryOp .Pow) (.frz (dInt a)) (.frz (dInt b)) (.frz (dInt (a ^ b.toNat))) := bin_int fun _ _ _ _ _ h => PyProof.Rows.pow_int_small hn hn2 ha h
theorem cmp_int {t : Value → Value → Sem Value} {A : Around} {a b : Int} {c : Bool} (h : ∀ (s : Shared) (p q : Tok) (Q E : Value → Shared → Prop), Q (.bool c) s → wpAny (model prog w) A (t (.int a p) (.int b q)) Q E s) :
    Bin prog w A t (.frz (dInt a)) (.frz (dInt b)) (.frz (dBool c)) := fun K s u v Q E hk hu hv k => by
  obtain ⟨p, rfl⟩ := hu
  obtain ⟨q, rfl⟩ := hv
  exact h s p q Q E (k K _ _ (.refl hk) rfl)
theorem cmp_eq {A : Around} {a b : Int} : Bin prog w A (compareOp .Eq) (.frz (dInt a)) (.frz (dInt b)) (.frz (dBool (a == b))) := cmp_int fun _ _ _ _ _ h => PySem.P.eq_int h
theorem cmp_ne {A : Around} {a b : Int} : Bin prog w A (compareOp .NotEq) (.frz (dInt a)) (.frz (dInt b)) (.frz (dBool (a != b))) := cmp_int fun _ _ _ _ _ h => PySem.P.ne_int h
theorem cmp_lt {A : Around} {a b : Int} : Bin prog w A (compareOp .Lt) (.frz (dInt a)) (.frz (dInt b)) (.frz (dBool (decide (a < b)))) := cmp_int fun _ _ _ _ _ h => PySem.P.lt_int h

/-! ### texts -/
theorem str_beq (x y : Str) : (x.cps.toList == y.cps.toList) = decide (x = y) := by
  by_cases h : x = y
  · subst h; simp
  · rw [decide_eq_false h]
    cases q : x.cps.toList == y.cps.toList with
    | false => rfl
    | true => exact absurd (by obtain ⟨⟨a⟩⟩ := x; obtain ⟨⟨b⟩⟩ := y; simp at q; subst q; rfl) h
theorem cmp_streq {A : Around} {x y : Str} : Bin prog w A (compareOp .Eq) (.frz (dStr x)) (.frz (dStr y)) (.frz (dBool (decide (x = y)))) := fun K s u v Q E hk hu hv k => by
  obtain ⟨p, rfl⟩ := hu
  obtain ⟨q, rfl⟩ := hv
  refine PySem.P.eq_str ?_
  rw [str_beq]
  exact k K _ _ (.refl hk) rfl
theorem cmp_strne {A : Around} {x y : Str} : Bin prog w A (compareOp .NotEq) (.frz (dStr x)) (.frz (dStr y)) (.frz (dBool (!decide (x = y)))) := fun K s u v Q E hk hu hv k => by
  obtain ⟨p, rfl⟩ := hu
  obtain ⟨q, rfl⟩ := hv
  refine PySem.P.ne_str ?_
  rw [bne, str_beq]
  exact k K _ _ (.refl hk) rfl
theorem bin_stradd {A : Around} {x y : Str} (hx : x.length ≤ 1000) (hy : y.length ≤ 1000) : Bin prog w A (binaryOp .Add) (.frz (dStr x)) (.frz (dStr y)) (.frz (dStr (x ++ y))) := fun K s u v Q E hk hu hv k => by
  obtain ⟨p, rfl⟩ := hu
  obtain ⟨q, rfl⟩ := hv
  refine PySem.P.add_str ?_
  split
  · rename_i h0
    have : x ++ y = y := by
      have h1 : x.cps = #[] := by simpa [Str.length] using h0
      obtain ⟨a⟩ := x; obtain ⟨b⟩ := y
      simp at h1; subst h1
      show (Str.mk (#[] ++ b)) = _
      simp
    rw [← this]
    exact k K _ _ (.refl hk) ⟨_, by rw [this]⟩
  · split
    · rename_i h0
      have : x ++ y = x := by
        have h1 : y.cps = #[] := by simpa [Str.length] using h0
        obtain ⟨a⟩ := x; obtain ⟨b⟩ := y
        simp at h1; subst h1
        show (Str.mk (a ++ #[])) = _
        simp
      exact k K _ _ (.refl hk) ⟨_, by rw [this]⟩
    · refine ⟨?_, k K _ _ (.toks hk) ⟨_, rfl⟩⟩
      have := Str.length_append x y
      rw [this]
      show _ ≤ 2 ^ 24
      omega

/-! ### statements -/
theorem Ex.last {st : Stmt} (h : ∀ (K X : Kn) (s : Shared) (Q : Flow → Shared → Prop) (E : Value → Shared → Prop), Sat F K X ρ s →
    (∀ K' s' fl o ρ', Φ o ρ' → o.is K' fl → Sat F K' X ρ' s' → Stp s s' K K' X → Q fl s') → wpAny (model prog w) F.A (exec st F.env) Q E s) : Ex F [st] ρ Φ := Wr.mk <| fun K X s Q E S k => by
  refine wpAny_execs_cons (wpAny_mono (h K X s Q E S k) (fun fl s' hq => ?_) fun _ _ x => x)
  cases fl with
  | next => exact wpAny_execs_nil hq
  | brk => exact hq
  | cont => exact hq
  | ret v => exact hq
theorem Ex.assign {n : Nat} {x : Str} {e : PySem.Expr} {pos' pos : Pos} {P : DP} (ok : Fok n F) (hx : Own1 F x) (he : Ez F e ρ P) (h : Φ .next (upd ρ x (.frz P)))
    (hs : swapsWith e (some (.Name x pos')) pos.line F.env = pure false := by with_unfolding_all rfl) : Ex F [.Assign [.Name x pos'] e pos] ρ Φ := Ex.last fun K X s Q E S k =>
  wpAny_Assign_Name (he.out K X s _ E S fun K₁ s₁ v e₁ hv => store_name ok (S.ext e₁) hx (.frz hv) fun s₂ S₂ r => k K₁ s₂ .next .next _ h rfl S₂ ((e₁.stp S.xin).trans ⟨r, .refl _, fun _ _ _ => rfl⟩)) hs
theorem fit_new {x : Str} {a : Addr} {R : V prog w} (S : Sat F K X ρ s) (e : Ext s s' K K') (hr : R.rd K' (hk s'.heap) (.ref a)) (hka : K' a = none) (hnew : s.heap.get? a = none) : Fit F K' X ρ s' x (.ref a) R := by
  refine ⟨hr, fun _ => ⟨a, rfl, hka, ?_, ?_, ?_⟩⟩
  · cases q : X a with
    | none => rfl
    | some o => have := S.xin a o q; rw [show hk s.heap a = s.heap.get? a from rfl, hnew] at this; cases this
  · rintro rfl; obtain ⟨m, hn⟩ := S.ns; obtain ⟨o, _, _, ho, _⟩ := objN hn; rw [hnew] at ho; cases ho
  · intro y Vy _ hy oy H
    obtain ⟨u, h1, h2, _⟩ := S.vars y Vy hy
    obtain ⟨b, o, rfl, hG⟩ := V.own_ref h2 oy
    have := (h1.keep e.keep).inj H
    cases this
    rw [show hk s.heap a = s.heap.get? a from rfl, hnew] at hG; cases hG
theorem Ex.assignN {n : Nat} {x : Str} {e : PySem.Expr} {pos' pos : Pos} {R : V prog w} (ok : Fok n F) (hx : Own1 F x) (he : En F e ρ R) (h : Φ .next (upd ρ x R))
    (hs : swapsWith e (some (.Name x pos')) pos.line F.env = pure false := by with_unfolding_all rfl) : Ex F [.Assign [.Name x pos'] e pos] ρ Φ := Ex.last fun K X s Q E S k =>
  wpAny_Assign_Name (he.out K X s _ E S fun K₁ s₁ a e₁ hr hka hnew => store_name ok (S.ext e₁) hx (fit_new S e₁ hr hka hnew) fun s₂ S₂ r => k K₁ s₂ .next .next _ h rfl S₂ ((e₁.stp S.xin).trans ⟨r, .refl _, fun _ _ _ => rfl⟩)) hs
theorem Ex.aug {n : Nat} {x : Str} {op : Operator} {e : PySem.Expr} {pos' pos : Pos} {R Re : V prog w} {P : DP} (ok : Fok n F) (hx : Own1 F x) (hρ : ρ x = some R) (he : Ev F e ρ Re) (ht : Bin prog w F.A (inplaceOp op) R Re (.frz P)) (h : Φ .next (upd ρ x (.frz P)))
    (hd : (x == ("__debug__" : Str)) = false := by decide) (hc : (x == ("__classdict__" : Str)) = false := by decide) : Ex F [.AugAssign (.Name x pos') op e pos] ρ Φ := Ex.last fun K X s Q E S k => by
  refine wpAny_AugAssign_Name ?_
  have h1 : ∀ (Q' : Value → Shared → Prop), (∀ u, R.rd K (hk s.heap) u → Q' u s) → wpAny (model prog w) F.A (loadName F.env x) Q' E s := fun Q' hq => by
    obtain ⟨u, h1, h2, _⟩ := S.vars x R hρ
    rcases h1 with ⟨hl, m, hn, hm⟩ | ⟨hl | hl, c, hcc, hv⟩
    · exact wpAny_loadName_local ok.kind hl hn hm (hq u h2)
    · exact wpAny_loadName_cell ok.kind hl hcc hv (hq u h2)
    · exact wpAny_loadName_free ok.kind hl hcc hv (hq u h2) hc
  refine h1 _ fun u hu => he.out K X s _ E S fun K₁ s₁ v e₁ hv => ht K₁ s₁ u v _ E e₁.kin (hu.mono e₁.le (fun a o q => e₁.keep a o q)) hv fun K₂ s₂ y e₂ hy => ?_
  exact store_name ok ((S.ext e₁).ext e₂) hx (.frz hy) fun s₃ S₃ r => k K₂ s₃ .next .next _ h rfl S₃ (((e₁.trans e₂).stp S.xin).trans ⟨r, .refl _, fun _ _ _ => rfl⟩)
theorem Ex.ret {e : PySem.Expr} {pos : Pos} {P : DP} (he : Ez F e ρ P) (h : Φ (.ret P) ρ) : Ex F [.Return (some e) pos] ρ Φ := Ex.last fun K X s Q E S k =>
  wpAny_Return_some (he.out K X s _ E S fun K₁ s₁ v e₁ hv => k K₁ s₁ _ (.ret P) ρ h ⟨v, rfl, hv⟩ (S.ext e₁) (e₁.stp S.xin))
theorem Ex.ifc {test : PySem.Expr} {body orelse : List Stmt} {pos : Pos} {b : Bool} (ht : Eb F test ρ b) (h1 : b = true → Ex F body ρ Φ) (h2 : b = false → Ex F orelse ρ Φ) : Ex F [.If test body orelse pos] ρ Φ := Ex.last fun K X s Q E S k => by
  refine wpAny_If (ht.out K X s _ E S fun K₁ s₁ e₁ => ?_)
  cases b with
  | true => exact (h1 rfl).out K₁ X s₁ Q E (S.ext e₁) fun K₂ s₂ fl o ρ₂ hp hi S₂ st => k K₂ s₂ fl o ρ₂ hp hi S₂ ((e₁.stp S.xin).trans st)
  | false => exact (h2 rfl).out K₁ X s₁ Q E (S.ext e₁) fun K₂ s₂ fl o ρ₂ hp hi S₂ st => k K₂ s₂ fl o ρ₂ hp hi S₂ ((e₁.stp S.xin).trans st)
theorem Ex.freeze {ss : List Stmt} {x : Str} {R : V prog w} (hx : ρ x = some R) (h : Ex F ss (upd ρ x (.frz R.cold)) Φ) : Ex F ss ρ Φ := Wr.mk <| fun K X s Q E S k => by
  obtain ⟨K', S', hle, hold⟩ := S.freeze hx
  exact h.out K' X s Q E S' fun K₂ s₂ fl o ρ₂ hp hi S₂ st => k K₂ s₂ fl o ρ₂ hp hi S₂ ⟨st.rest, hle.trans st.le, fun a o q => (st.old a o q).trans (hold a o q)⟩
theorem Ex.brk {pos : Pos} (h : Φ .brk ρ) : Ex F [.Break pos] ρ Φ := Ex.last fun K X s Q E S k => wpAny_Break (k K s .brk .brk ρ h rfl S (.refl _ _ _))

/-- what a loop's turn comes to -/
noncomputable def Turn (Inv : Ro prog w → Prop) (Φ : Out → Ro prog w → Prop) : Out → Ro prog w → Prop := fun o ρ => match o with
  | .next | .cont => Inv ρ
  | .brk => Φ .next ρ
  | .ret P => Φ (.ret P) ρ
theorem Ex.while {test : PySem.Expr} {body : List Stmt} {pos : Pos} (Inv : Nat → Ro prog w → Prop) (n : Nat) (h0 : Inv n ρ)
    (turn : ∀ n ρ, Inv n ρ → ∃ b, Eb F test ρ b ∧ (b = false → Φ .next ρ) ∧ (b = true → Ex F body ρ (Turn (fun ρ' => ∃ m, m < n ∧ Inv m ρ') Φ)))
    (hm : F.A.mark none = F.A := by rfl) :
    Ex F [.While test body [] pos] ρ Φ := Ex.last fun K X s Q E S k => by
  refine wpAny_bind (wpAny_standAt (wpAny_runOwn ?_))
  rw [hm]
  refine codeAny_whileLoop (fun n s' => ∃ K' ρ', Inv n ρ' ∧ Sat F K' X ρ' s' ∧ Stp s s' K K' X) ?_ n ⟨K, ρ, h0, S, .refl _ _ _⟩
  rintro n s₁ ⟨K₁, ρ₁, hi, S₁, st₁⟩
  obtain ⟨b, hb, hf, ht⟩ := turn n ρ₁ hi
  refine hb.out K₁ X s₁ _ _ S₁ fun K₂ s₂ e₂ => ?_
  have st₂ := st₁.trans (e₂.stp S₁.xin)
  cases b with
  | false =>
    refine wpAny_execs_nil ?_
    exact k K₂ s₂ .next .next ρ₁ (hf rfl) rfl (S₁.ext e₂) st₂
  | true =>
    refine (ht rfl).out K₂ X s₂ _ _ (S₁.ext e₂) fun K₃ s₃ fl o ρ₃ hp hi₃ S₃ st₃ => ?_
    have st := st₂.trans st₃
    cases o with
    | next => cases hi₃; obtain ⟨m, hm', hI⟩ := hp; exact ⟨m, hm', K₃, ρ₃, hI, S₃, st⟩
    | cont => cases hi₃; obtain ⟨m, hm', hI⟩ := hp; exact ⟨m, hm', K₃, ρ₃, hI, S₃, st⟩
    | brk => cases hi₃; exact k K₃ s₃ .next .next ρ₃ hp rfl S₃ st
    | ret P => obtain ⟨v, rfl, hv⟩ := hi₃; exact k K₃ s₃ _ (.ret P) ρ₃ hp ⟨v, rfl, hv⟩ S₃ st
end
end Mine
end
/-! part A4 -/
section
open PySem PySem.Calls PySem.Spec PyProof.Rows PySem.W
set_option Elab.async false
set_option linter.unusedVariables false
namespace Mine
section
variable {prog : Program} {w : World} {F : Fm} {K K' X : Kn} {ρ ρ' : Ro prog w} {s s' : Shared} {Φ : Out → Ro prog w → Prop}

/-! ### objects that a walk writes: apart from all that is told -/
structure Off (F : Fm) (K X : Kn) (ρ : Ro prog w) (s : Shared) (b : Addr) : Prop where
  k : K b = none
  x : X b = none
  l : b ≠ F.env.locals
  c : ∀ x c, F.env.cells.lookup x = some c → c ≠ b
  v : ∀ x V, ρ x = some V → V.own = true → ¬ Holds F.env s.heap x (.ref b)

open Classical in
noncomputable def addX (X : Kn) (wr : List Addr) (h : Heap) : Kn := fun a => if a ∈ wr then h.get? a else X a
theorem addX_in {wr : List Addr} {h : Heap} {a : Addr} (ha : a ∈ wr) : addX X wr h a = h.get? a := if_pos ha
theorem addX_out {wr : List Addr} {h : Heap} {a : Addr} (ha : a ∉ wr) : addX X wr h a = X a := if_neg ha

theorem Off.fresh (S : Sat F K X ρ s) {b : Addr} (hb : s.heap.get? b = none) : Off F K X ρ s b where
  k := by
    cases q : K b with
    | none => rfl
    | some o => have := S.kin b o q; rw [show hk s.heap b = s.heap.get? b from rfl, hb] at this; cases this
  x := by
    cases q : X b with
    | none => rfl
    | some o => have := S.xin b o q; rw [show hk s.heap b = s.heap.get? b from rfl, hb] at this; cases this
  l := by rintro rfl; obtain ⟨m, hn⟩ := S.ns; obtain ⟨o, _, _, ho, _⟩ := objN hn; rw [hb] at ho; cases ho
  c := fun x c hc e => by obtain ⟨o, ho⟩ := S.live x c hc; rw [e, hb] at ho; cases ho
  v := fun x V hx ho H => by
    obtain ⟨u, h1, h2, _⟩ := S.vars x V hx
    have := h1.inj H
    subst this
    obtain ⟨b', o, hb', hG⟩ := V.own_ref h2 ho
    cases hb'
    rw [show hk s.heap b = s.heap.get? b from rfl, hb] at hG; cases hG
theorem Off.ext (S : Sat F K X ρ s) {b : Addr} (f : Off F K X ρ s b) (hb : s.heap.get? b = none) (e : Ext s s' K K') (hk' : K' b = none) : Off F K' X ρ s' b :=
  ⟨hk', f.x, f.l, f.c, fun x V hx ho H => by
    obtain ⟨u, h1, _⟩ := S.vars x V hx
    exact f.v x V hx ho (h1.back e.keep H)⟩

theorem Sat.addX (S : Sat F K X ρ s) {wr : List Addr} (f : ∀ b ∈ wr, Off F K X ρ s b) (hx : Kle X (hk s.heap)) : Sat F K (addX X wr s.heap) ρ s where
  gk := S.gk
  kin := S.kin
  xin := fun a o e => by
    by_cases ha : a ∈ wr
    · rw [addX_in ha] at e; exact e
    · rw [addX_out ha] at e; exact hx a o e
  ns := S.ns
  kl := S.kl
  xl := by
    rw [addX_out (fun ha => (f _ ha).l rfl)]; exact S.xl
  cel := fun x hx' => by
    obtain ⟨c, v, h1, h2, h3, h4, h5⟩ := S.cel x hx'
    exact ⟨c, v, h1, h2, h3, h4, by rw [addX_out (fun ha => (f _ ha).c x c h2 rfl)]; exact h5⟩
  inj := S.inj
  live := S.live
  vars := fun x V hx' => by
    obtain ⟨u, h1, h2, h3⟩ := S.vars x V hx'
    refine ⟨u, h1, h2, fun ho => ?_⟩
    obtain ⟨a, rfl, h4, h5, h6⟩ := h3 ho
    exact ⟨a, rfl, h4, by rw [addX_out (fun ha => (f _ ha).v x V hx' ho h1)]; exact h5, h6⟩
  sep := S.sep

theorem Off.of_addX {wr : List Addr} {h : Heap} {b : Addr} (hb : b ∈ wr) (S : Sat F K (Mine.addX X wr h) ρ s) (hob : ∃ o, h.get? b = some o) (hx : X b = none) (hk0 : K b = none)
    (hc : ∀ x c, F.env.cells.lookup x = some c → c ≠ b) : Off F K X ρ s b := by
  obtain ⟨o, ho⟩ := hob
  have hX : Mine.addX X wr h b = some o := (addX_in hb).trans ho
  refine ⟨hk0, hx, ?_, hc, fun x V hx' ho' H => ?_⟩
  · rintro rfl; rw [S.xl] at hX; cases hX
  · obtain ⟨u, h1, h2, h3⟩ := S.vars x V hx'
    have := h1.inj H
    subst this
    obtain ⟨a, e, _, h5, _⟩ := h3 ho'
    cases e
    rw [h5] at hX; cases hX

theorem Off.same_heap {b : Addr} {g : Array GenState} {d : Drawn} {t : Nat} {os : OsState} (f : Off F K X ρ s b) : Off F K X ρ ⟨s.heap, g, d, t, os⟩ b := ⟨f.k, f.x, f.l, f.c, f.v⟩

/-- the objects of wr are written, no other -/
theorem Sat.touch {wr : List Addr} {h' : Heap} {tk : Nat} (S : Sat F K X ρ s) (f : ∀ b ∈ wr, Off F K X ρ s b) (hk' : ∀ b o, b ∉ wr → s.heap.get? b = some o → h'.get? b = some o) :
    Sat F K X ρ { s with heap := h', toks := tk } ∧ ∀ b ∈ wr, Off F K X ρ { s with heap := h', toks := tk } b := by
  have hh : ∀ {x : Str} {u : Value}, Holds F.env s.heap x u → Holds F.env h' x u := by
    rintro x u (⟨e, m, hn, hm⟩ | ⟨e, c, hc, hv⟩)
    · exact .inl ⟨e, m, hn.at' fun o q => hk' _ o (fun ha => (f _ ha).l rfl) q, hm⟩
    · obtain ⟨o, ho, hd⟩ := hv
      exact .inr ⟨e, c, hc, o, hk' c o (fun ha => (f _ ha).c x c hc rfl) ho, hd⟩
  refine ⟨⟨S.gk, fun a o e => ?_, fun a o e => ?_, ?_, S.kl, S.xl, fun x hx => ?_, S.inj, fun x c hc => ?_, fun x V hx => ?_, ?_⟩, fun b hb => ⟨(f b hb).k, (f b hb).x, (f b hb).l, (f b hb).c, fun x V hx ho H => ?_⟩⟩
  · exact hk' a o (fun ha => by rw [(f a ha).k] at e; cases e) (S.kin a o e)
  · exact hk' a o (fun ha => by rw [(f a ha).x] at e; cases e) (S.xin a o e)
  · obtain ⟨m, hn⟩ := S.ns
    exact ⟨m, hn.at' fun o q => hk' _ o (fun ha => (f _ ha).l rfl) q⟩
  · obtain ⟨c, v, h1, h2, ⟨o, ho, hd⟩, h4, h5⟩ := S.cel x hx
    exact ⟨c, v, h1, h2, ⟨o, hk' c o (fun ha => (f _ ha).c x c h2 rfl) ho, hd⟩, h4, h5⟩
  · obtain ⟨o, ho⟩ := S.live x c hc
    exact ⟨o, hk' c o (fun ha => (f _ ha).c x c hc rfl) ho⟩
  · obtain ⟨u, h1, h2, h3⟩ := S.vars x V hx
    refine ⟨u, hh h1, ?_, h3⟩
    cases V with
    | frz P => exact h2
    | lst Ps => obtain ⟨a, vs, n, e, q1, q2⟩ := h2; exact ⟨a, vs, n, e, hk' a _ (fun ha => (f _ ha).v x _ hx rfl (e ▸ h1)) q1, q2⟩
    | sdc kvs => obtain ⟨a, o, e, q1, q2, q3⟩ := h2; exact ⟨a, o, e, hk' a _ (fun ha => (f _ ha).v x _ hx rfl (e ▸ h1)) q1, q2, q3⟩
    | idc kvs => obtain ⟨a, o, e, q1, q2, q3⟩ := h2; exact ⟨a, o, e, hk' a _ (fun ha => (f _ ha).v x _ hx rfl (e ▸ h1)) q1, q2, q3⟩
    | obj D => obtain ⟨a, o, e, q1, q2, q3⟩ := h2; exact ⟨a, o, e, hk' a _ (fun ha => (f _ ha).v x _ hx rfl (e ▸ h1)) q1, q2, q3⟩
  · intro x y a Vx Vy hxy hx hy ox oy H1 H2
    obtain ⟨u, h1, _⟩ := S.vars x Vx hx
    obtain ⟨u', h1', _⟩ := S.vars y Vy hy
    have e1 := (hh h1).inj H1
    have e2 := (hh h1').inj H2
    subst e1 e2
    exact S.sep x y a Vx Vy hxy hx hy ox oy h1 h1'
  · obtain ⟨u, h1, _⟩ := S.vars x V hx
    have e1 := (hh h1).inj H
    subst e1
    exact (f b hb).v x V hx ho h1

/-! ### what may be walked -/
/-- the value is walked: its items -/
noncomputable def Itr (prog : Program) (w : World) (A : Around) (R : V prog w) (Ps : List DP) : Prop :=
  ∀ (K : Kn) (s : Shared) (v : Value) (Q E : Value → Shared → Prop), Kle K (hk s.heap) → R.rd K (hk s.heap) v →
    (∀ (I : Addr) (fp wr : List Addr) (St : Nat → Heap → Prop) (h' : Heap) (tk : Nat), Walks prog w A I fp wr Ps.length (fun i u => ∃ P, Ps[i]? = some P ∧ P.p K u) St → St 0 h' → Keep s.heap h' →
      (∀ b ∈ wr, s.heap.get? b = none) → (∀ i h, St i h → ∀ b ∈ wr, ∃ o, h.get? b = some o) → (∀ b ∈ fp, b ∈ wr ∨ ∃ o, K b = some o) → Q (.ref I) { s with heap := h', toks := tk }) →
    wpAny (model prog w) A (pyIter v) Q E s

theorem itr_list {A : Around} (hh : A.handled = none) {Ps : List DP} : Itr prog w A (.frz (dList Ps)) Ps := fun K s v Q E hk0 hr k => by
  obtain ⟨a, vs, n, rfl, ho, al⟩ := hr
  have hl : s.heap.IsList a vs.toArray := ⟨_, hk0 _ _ ho, rfl, n, rfl⟩
  have hne : a ≠ s.heap.objs.size := Nat.ne_of_lt (Heap.lt_size (hk0 _ _ ho))
  refine wpAny_pyIter_list hl ?_
  have W := Walks.list (prog := prog) (w := w) hh s.heap.objs.size a hne vs.toArray
  have hlen : vs.toArray.size = Ps.length := by simp [al.length]
  rw [hlen] at W
  refine k s.heap.objs.size _ _ _ _ s.toks ⟨W.sub, W.frame, fun i s Q E hi st hQ => W.item i s Q E hi st fun v h' tk hP st' hk' => ?_, W.done, W.self⟩
    ⟨⟨_, Heap.get?_push_size _ rfl, rfl, rfl⟩, ⟨_, Heap.get?_push_of_some _ (hk0 _ _ ho), rfl, n, rfl⟩⟩ (fun b o e => Heap.get?_push_of_some _ e) (fun b hb => ?_) (fun i h st b hb => ?_) (fun b hb => ?_)
  · refine hQ v h' tk ?_ st' hk'
    have hP' : vs[i]? = some v := by simpa using hP
    exact al.get' hP'
  · rw [List.mem_singleton.mp hb]
    cases q : s.heap.get? s.heap.objs.size with
    | none => rfl
    | some o => exact absurd (Heap.lt_size q) (Nat.lt_irrefl _)
  · obtain ⟨o, ho, _⟩ := st.1
    rw [List.mem_singleton.mp hb]; exact ⟨o, ho⟩
  · rcases List.mem_cons.mp hb with rfl | hb
    · exact .inl (List.mem_singleton.mpr rfl)
    · rw [List.mem_singleton.mp hb]; exact .inr ⟨_, ho⟩

/-- a walk's state amid a body that stores -/
structure At (prog : Program) (w : World) (F : Fm) (K X : Kn) (ρ : Ro prog w) (wr : List Addr) (s : Shared) : Prop where
  sat : Sat F K X ρ s
  off : ∀ b ∈ wr, Off F K X ρ s b

/-- the loop: an invariant over what the names hold -/
theorem Ex.for {n : Nat} {x : Str} {px pos : Pos} {iter : PySem.Expr} {body : List Stmt} {R : V prog w} {Ps : List DP} (ok : Fok n F) (hx : Own1 F x) (hi : Ev F iter ρ R) (it : Itr prog w F.A R Ps)
    (Inv : Nat → Ro prog w → Prop) (h0 : Inv 0 ρ)
    (turn : ∀ i P ρ, Ps[i]? = some P → Inv i ρ → Ex F body (upd ρ x (.frz P)) (Turn (Inv (i + 1)) Φ))
    (done : ∀ ρ, Inv Ps.length ρ → Φ .next ρ)
    (hs : ∀ x, foldedSetIterable iter F.env x = pure x := by intro _; with_unfolding_all rfl) (hm : F.A.mark none = F.A := by rfl) :
    Ex F [.For (.Name x px) iter body [] pos] ρ Φ := Ex.last fun K X s Q E S k => by
  refine wpAny_For (hi.out K X s _ E S fun K₁ s₁ v e₁ hv => ?_) hs
  have S₁ := S.ext e₁
  refine it K₁ s₁ v _ E S₁.kin hv fun I fp wr St h' tk W st0 keep hnew hob hfp => ?_
  have e₂ : Ext s₁ { s₁ with heap := h', toks := tk } K₁ K₁ := .grow S₁.kin keep
  have S₂ := S₁.ext e₂
  have off₂ : ∀ b ∈ wr, Off F K₁ X ρ { s₁ with heap := h', toks := tk } b := fun b hb => (Off.fresh S₁ (hnew b hb)).ext S₁ (hnew b hb) e₂ (Off.fresh S₁ (hnew b hb)).k
  have st₂ : Stp s { s₁ with heap := h', toks := tk } K K₁ X := (e₁.trans e₂).stp S.xin
  refine codeAny_forLoop (fun m s' => ∃ K' ρ' i, Inv i ρ' ∧ Sat F K' X ρ' s' ∧ (∀ b ∈ wr, Off F K' X ρ' s' b) ∧ Stp s s' K K' X ∧ Kle K₁ K' ∧ St i s'.heap ∧ i ≤ Ps.length ∧ m = Ps.length + 1 - i) ?_ (Ps.length + 1)
    ⟨K₁, ρ, 0, h0, S₂, off₂, st₂, .refl _, st0, Nat.zero_le _, rfl⟩
  rintro m s' ⟨K', ρ', i, hI, S', off', st', le', hst, hile, rfl⟩
  by_cases hlt : i < Ps.length
  · refine W.item i _ _ _ hlt hst fun u h'' tk' hP hst' hk' => ?_
    obtain ⟨P, hPi, hu⟩ := hP
    obtain ⟨S'', off''⟩ := S'.touch (tk := tk') off' hk'
    have SX := S''.addX off'' S''.xin
    refine wpAny_assign_Name (store_name ok SX hx (.frz (P.mono le' hu)) fun s₃ S₃ r₃ => ?_)
    refine (turn i P ρ' hPi hI).out K' _ s₃ _ _ S₃ fun K₄ s₄ fl o ρ₄ hp hi₄ S₄ st₄ => ?_
    have hX4 : ∀ b ∈ wr, ∃ o, h''.get? b = some o ∧ s₄.heap.get? b = some o := fun b hb => by
      obtain ⟨o, ho⟩ := hob _ _ hst' b hb
      exact ⟨o, ho, S₄.xin b o ((addX_in hb).trans ho)⟩
    have le4 : Kle K₁ K₄ := le'.trans st₄.le
    have hXle : Kle X (addX X wr h'') := fun a o e => by
      rw [addX_out (fun ha => by rw [(off' a ha).x] at e; cases e)]; exact e
    have hst4 : St (i + 1) s₄.heap := W.frame _ _ _ hst' fun b hb o e => by
      by_cases hbw : b ∈ wr
      · obtain ⟨o', h1, h2⟩ := hX4 b hbw
        rw [h1] at e; cases e; exact h2
      · rcases hfp b hb with h1 | ⟨o', h1⟩
        · exact absurd h1 hbw
        · have h3 := S₄.kin b o' (le4 b o' h1)
          have h4 := S''.kin b o' (le' b o' h1)
          rw [show hk h'' b = h''.get? b from rfl, e] at h4
          cases h4; exact h3
    have off4 : ∀ b ∈ wr, Off F K₄ X ρ₄ s₄ b := fun b hb => by
      obtain ⟨o', h1, _⟩ := hX4 b hb
      refine Off.of_addX hb S₄ ⟨o', h1⟩ (off' b hb).x ?_ (off' b hb).c
      rw [st₄.old b o' ((addX_in hb).trans h1)]; exact (off' b hb).k
    have S4 : Sat F K₄ X ρ₄ s₄ := S₄.lessX hXle
    have st4 : Stp s s₄ K K₄ X := st'.trans ⟨⟨(r₃.trans st₄.rest).os, (r₃.trans st₄.rest).gens⟩, st₄.le, fun a o e => st₄.old a o (hXle a o e)⟩
    have go : ∀ ρ₅, ρ₅ = ρ₄ → Inv (i + 1) ρ₅ → ∃ m, m < Ps.length + 1 - i ∧ ∃ K' ρ' i, Inv i ρ' ∧ Sat F K' X ρ' s₄ ∧ (∀ b ∈ wr, Off F K' X ρ' s₄ b) ∧ Stp s s₄ K K' X ∧ Kle K₁ K' ∧ St i s₄.heap ∧ i ≤ Ps.length ∧ m = Ps.length + 1 - i := by
      intro ρ₅ e5 hI'
      subst e5
      exact ⟨Ps.length + 1 - (i + 1), by omega, K₄, _, i + 1, hI', S4, off4, st4, le4, hst4, hlt, rfl⟩
    cases o with
    | next => cases hi₄; exact go ρ₄ rfl hp
    | cont => cases hi₄; exact go ρ₄ rfl hp
    | brk => cases hi₄; exact k K₄ s₄ .next .next ρ₄ hp rfl S4 st4
    | ret P => obtain ⟨v, rfl, hv⟩ := hi₄; exact k K₄ s₄ _ (.ret P) ρ₄ hp ⟨v, rfl, hv⟩ S4 st4
  · have hin : i = Ps.length := by omega
    subst hin
    refine W.done _ _ _ hst fun h'' tk' hk' => ?_
    obtain ⟨S'', _⟩ := S'.touch (tk := tk') off' hk'
    exact wpAny_execs_nil (k K' _ .next .next ρ' (done ρ' hI) rfl S'' (st'.trans ⟨⟨rfl, .refl _⟩, .refl _, fun _ _ _ => rfl⟩))
end
end Mine
end
/-! part A5 -/
section
open PySem PySem.Calls PySem.Spec PyProof.Rows PySem.W
set_option Elab.async false
set_option linter.unusedVariables false
namespace Mine

/-! ### a comprehension's turn, its parts told -/
noncomputable def cTurn (target : PySem.Expr) (ipos : Pos) (ifs : List PySem.Expr) (inner : Sem Unit) (ag : Code) (it : Value) (env : Env) : Sem Fin := do
  standAt ipos
  match ← pyNext it with
  | none => pure (.done .next)
  | some v =>
    letOwnedTupleGo target it v
    assign target env v
    let mut ok := true
    for c in ifs do
      if ok then ok ← isTrue c env (eval c env)
    if ok then inner
    again ag
noncomputable def emitL (elt : PySem.Expr) (D : Addr) (env : Env) : Sem Unit := do let _ ← call (.builtin "list.append") [.ref D, ← eval elt env]
noncomputable def emitD (kx vx : PySem.Expr) (D : Addr) (env : Env) : Sem Unit := do
  let kv ← eval kx env
  let vv ← holding [kv] (eval vx env)
  standAt { kx.pos with endLine := vx.pos.endLine, endCol := vx.pos.endCol }
  holding [kv, vv] (dictSet D kv vv)
noncomputable def cTurnI (target : PySem.Expr) (ipos : Pos) (ifs : List PySem.Expr) (e iter2 : PySem.Expr) (D : Addr) (ag : Code) (it : Value) (env : Env) : Sem Fin := do
  standAt ipos
  match ← pyNext it with
  | none => pure (.done .next)
  | some v =>
    letOwnedTupleGo target it v
    assign target env v
    let mut ok := true
    for c in ifs do
      if ok then ok ← isTrue c env (eval c env)
    if ok then
      let x ← eval iter2 env
      standAt iter2.pos
      let x ← foldedSetIterable iter2 env x
      let _ ← runOwn (.compStart e 1 (← holding [x] (pyIter x)) (.ref D) env) env
    again ag
noncomputable def into (e : PySem.Expr) (iter : PySem.Expr) (D : Addr) (env : Env) : Sem Unit := do
  let x ← eval iter env
  standAt iter.pos
  let x ← foldedSetIterable iter env x
  let _ ← runOwn (.compStart e 1 (← holding [x] (pyIter x)) (.ref D) env) env
theorem cTurnI_eq (target : PySem.Expr) (ipos : Pos) (ifs : List PySem.Expr) (e iter2 : PySem.Expr) (D : Addr) (ag : Code) (it : Value) (env : Env) :
    cTurnI target ipos ifs e iter2 D ag it env = cTurn target ipos ifs (into e iter2 D env) ag it env := by
  unfold cTurnI cTurn into
  simp only [LawfulMonad.bind_assoc, LawfulMonad.pure_bind]
theorem cTurn_l1 (elt target iter : PySem.Expr) (ifs : List PySem.Expr) (scope : Scope) (pos : Pos) (it : Value) (D : Addr) (env : Env) :
    compTurn (.ListComp elt [⟨target, iter, ifs, 0⟩] scope pos) 0 it (.ref D) env = cTurn target iter.pos ifs (emitL elt D env) (.compLoop (.ListComp elt [⟨target, iter, ifs, 0⟩] scope pos) 0 it (.ref D) env) it env := by rfl
theorem cTurn_d1 (kx vx target iter : PySem.Expr) (ifs : List PySem.Expr) (scope : Scope) (pos : Pos) (it : Value) (D : Addr) (env : Env) :
    compTurn (.DictComp kx vx [⟨target, iter, ifs, 0⟩] scope pos) 0 it (.ref D) env = cTurn target iter.pos ifs (emitD kx vx D env) (.compLoop (.DictComp kx vx [⟨target, iter, ifs, 0⟩] scope pos) 0 it (.ref D) env) it env := by rfl
theorem cTurn_l2 (elt target iter : PySem.Expr) (ifs : List PySem.Expr) (t2 i2 : PySem.Expr) (f2 : List PySem.Expr) (scope : Scope) (pos : Pos) (it : Value) (D : Addr) (env : Env) :
    compTurn (.ListComp elt [⟨target, iter, ifs, 0⟩, ⟨t2, i2, f2, 0⟩] scope pos) 0 it (.ref D) env =
      cTurn target iter.pos ifs (into (.ListComp elt [⟨target, iter, ifs, 0⟩, ⟨t2, i2, f2, 0⟩] scope pos) i2 D env) (.compLoop (.ListComp elt [⟨target, iter, ifs, 0⟩, ⟨t2, i2, f2, 0⟩] scope pos) 0 it (.ref D) env) it env :=
  (show _ = cTurnI target iter.pos ifs (.ListComp elt [⟨target, iter, ifs, 0⟩, ⟨t2, i2, f2, 0⟩] scope pos) i2 D (.compLoop (.ListComp elt [⟨target, iter, ifs, 0⟩, ⟨t2, i2, f2, 0⟩] scope pos) 0 it (.ref D) env) it env by rfl).trans (cTurnI_eq ..)
theorem cTurn_l3 (elt target iter : PySem.Expr) (ifs : List PySem.Expr) (t2 i2 : PySem.Expr) (f2 : List PySem.Expr) (scope : Scope) (pos : Pos) (it : Value) (D : Addr) (env : Env) :
    compTurn (.ListComp elt [⟨target, iter, ifs, 0⟩, ⟨t2, i2, f2, 0⟩] scope pos) 1 it (.ref D) env =
      cTurn t2 i2.pos f2 (emitL elt D env) (.compLoop (.ListComp elt [⟨target, iter, ifs, 0⟩, ⟨t2, i2, f2, 0⟩] scope pos) 1 it (.ref D) env) it env := by rfl
theorem cTurn_d2 (kx vx target iter : PySem.Expr) (ifs : List PySem.Expr) (t2 i2 : PySem.Expr) (f2 : List PySem.Expr) (scope : Scope) (pos : Pos) (it : Value) (D : Addr) (env : Env) :
    compTurn (.DictComp kx vx [⟨target, iter, ifs, 0⟩, ⟨t2, i2, f2, 0⟩] scope pos) 0 it (.ref D) env =
      cTurn target iter.pos ifs (into (.DictComp kx vx [⟨target, iter, ifs, 0⟩, ⟨t2, i2, f2, 0⟩] scope pos) i2 D env) (.compLoop (.DictComp kx vx [⟨target, iter, ifs, 0⟩, ⟨t2, i2, f2, 0⟩] scope pos) 0 it (.ref D) env) it env :=
  (show _ = cTurnI target iter.pos ifs (.DictComp kx vx [⟨target, iter, ifs, 0⟩, ⟨t2, i2, f2, 0⟩] scope pos) i2 D (.compLoop (.DictComp kx vx [⟨target, iter, ifs, 0⟩, ⟨t2, i2, f2, 0⟩] scope pos) 0 it (.ref D) env) it env by rfl).trans (cTurnI_eq ..)
theorem cTurn_d3 (kx vx target iter : PySem.Expr) (ifs : List PySem.Expr) (t2 i2 : PySem.Expr) (f2 : List PySem.Expr) (scope : Scope) (pos : Pos) (it : Value) (D : Addr) (env : Env) :
    compTurn (.DictComp kx vx [⟨target, iter, ifs, 0⟩, ⟨t2, i2, f2, 0⟩] scope pos) 1 it (.ref D) env =
      cTurn t2 i2.pos f2 (emitD kx vx D env) (.compLoop (.DictComp kx vx [⟨target, iter, ifs, 0⟩, ⟨t2, i2, f2, 0⟩] scope pos) 1 it (.ref D) env) it env := by rfl

section
variable {prog : Program} {w : World} {F : Fm} {K K' X : Kn} {ρ ρ' : Ro prog w} {s s' : Shared} {α : Type}

/-- what an accumulator's object bears -/
structure Ac (α : Type) where
  rep : Kn → α → Obj → Prop
  mono : ∀ {K K' : Kn} {c : α} {o : Obj}, Kle K K' → rep K c o → rep K' c o
noncomputable def acL : Ac (List DP) := ⟨fun K Ps o => ∃ vs n, o = lObj vs n ∧ Al K Ps vs, fun h ⟨vs, n, e, r⟩ => ⟨vs, n, e, r.mono h⟩⟩
noncomputable def acD {κ : Type} [DecidableEq κ] (knd : KeyKind prog w κ) : Ac (List (κ × DP)) := ⟨fun K kvs o => DRep knd K kvs o, fun h r => r.mono h⟩

/-- a tree that turns the accumulator D from c to c' and leaves the names -/
noncomputable def Inn (prog : Program) (w : World) (F : Fm) (ac : Ac α) (D : Addr) (ρ : Ro prog w) (t : Sem Unit) (c c' : α) : Prop :=
  ∀ (K X : Kn) (s : Shared) (Q : Unit → Shared → Prop) (E : Value → Shared → Prop), Sat F K X ρ s → Off F K X ρ s D → (∃ o, s.heap.get? D = some o ∧ ac.rep K c o) →
    (∀ K' s', Sat F K' X ρ s' → Off F K' X ρ s' D → (∃ o, s'.heap.get? D = some o ∧ ac.rep K' c' o) → Stp s s' K K' X → Q () s') → wpAny (model prog w) F.A t Q E s
noncomputable def Tst (F : Fm) (ρ : Ro prog w) (ifs : List PySem.Expr) (b : Bool) : Prop :=
  Wr (∀ (K X : Kn) (s : Shared) (Q : Bool → Shared → Prop) (E : Value → Shared → Prop), Sat F K X ρ s → (∀ K' s', Ext s s' K K' → Q b s') →
    wpAny (model prog w) F.A (forIn ifs true fun c r => if r = true then do let ok ← isTrue c F.env (eval c F.env); pure (ForInStep.yield ok) else pure (ForInStep.yield r)) Q E s)
theorem Tst.nil : Tst F ρ [] true := Wr.mk <| fun K X s Q E S k => wpAny_tests_nil (k K s (.refl S.kin))
theorem Tst.one {c : PySem.Expr} {b : Bool} (h : Eb F c ρ b) : Tst F ρ [c] b := Wr.mk <| fun K X s Q E S k => wpAny_tests_one (h.out K X s Q E S k)

theorem Off.stay {D : Addr} (S : Sat F K X ρ s) (f : Off F K X ρ s D) (e : Ext s s' K K') (hD : ∃ o, s.heap.get? D = some o) : Off F K' X ρ s' D := by
  obtain ⟨o, ho⟩ := hD
  refine ⟨(e.old _ _ ho).trans f.k, f.x, f.l, f.c, fun x V hx ho' H => ?_⟩
  obtain ⟨u, h1, _⟩ := S.vars x V hx
  exact f.v x V hx ho' (h1.back e.keep H)
theorem Off.lessX {D : Addr} {X' : Kn} (f : Off F K X ρ s D) (h : Kle X' X) : Off F K X' ρ s D := by
  refine ⟨f.k, ?_, f.l, f.c, f.v⟩
  cases q : X' D with
  | none => rfl
  | some o => have := h _ _ q; rw [f.x] at this; cases this
theorem Off.lessR {D : Addr} (f : Off F K X ρ s D) (h : ∀ x V, ρ' x = some V → ρ x = some V) : Off F K X ρ' s D := ⟨f.k, f.x, f.l, f.c, fun x V hx => f.v x V (h x V hx)⟩

theorem less_upd {x : Str} {R : V prog w} (hx : ρ x = none) : ∀ y V, ρ y = some V → upd ρ x R y = some V := fun y V hy => by
  rw [upd_ne _ _ (by rintro rfl; rw [hx] at hy; cases hy)]; exact hy

/-- the walk of one clause -/
theorem comp_loop {n : Nat} {x : Str} {px ipos : Pos} {ifs : List PySem.Expr} {inner : Sem Unit} {e : PySem.Expr} {d : Nat} {I D : Addr} {Ps : List DP} {ac : Ac α} {c : Nat → α} {bt : Nat → Bool} {Rr : Result → Shared → Prop}
    (ok : Fok n F) (hx : Own1 F x) (hρ : ρ x = none)
    (hct : compTurn e d (.ref I) (.ref D) F.env = cTurn (.Name x px) ipos ifs inner (.compLoop e d (.ref I) (.ref D) F.env) (.ref I) F.env)
    (hfr : (Code.compLoop e d (.ref I) (.ref D) F.env).isFrame = false) (hun : F.A.under (Code.compLoop e d (.ref I) (.ref D) F.env) = F.A)
    {fp wr : List Addr} {St : Nat → Heap → Prop} {K₁ : Kn} (W : Walks prog w F.A I fp wr Ps.length (fun i u => ∃ P, Ps[i]? = some P ∧ P.p K₁ u) St)
    (hob : ∀ i h, St i h → ∀ b ∈ wr, ∃ o, h.get? b = some o) (hfp : ∀ b ∈ fp, b ∈ wr ∨ ∃ o, K₁ b = some o) (hDw : D ∉ wr)
    (tests : ∀ i P, Ps[i]? = some P → Tst F (upd ρ x (.frz P)) ifs (bt i))
    (inn : ∀ i P, Ps[i]? = some P → bt i = true → Inn prog w F ac D (upd ρ x (.frz P)) inner (c i) (c (i + 1)))
    (skip : ∀ i, bt i = false → c (i + 1) = c i)
    (S : Sat F K X ρ s) (le : Kle K₁ K) (offw : ∀ b ∈ wr, Off F K X ρ s b) (offD : Off F K X ρ s D) (hst : St 0 s.heap) (hacc : ∃ o, s.heap.get? D = some o ∧ ac.rep K (c 0) o)
    (hR : ∀ K' s', Sat F K' X ρ s' → Off F K' X ρ s' D → (∃ o, s'.heap.get? D = some o ∧ ac.rep K' (c Ps.length) o) → Stp s s' K K' X → Rr (.ok .next) s') :
    codeAny (model prog w) F.A (.compLoop e d (.ref I) (.ref D) F.env) Rr s := by
  refine codeAny_loop rfl (fun m s' => ∃ K' i, Sat F K' X ρ s' ∧ Kle K₁ K' ∧ (∀ b ∈ wr, Off F K' X ρ s' b) ∧ Off F K' X ρ s' D ∧ St i s'.heap ∧ (∃ o, s'.heap.get? D = some o ∧ ac.rep K' (c i) o) ∧ Stp s s' K K' X ∧ i ≤ Ps.length ∧ m = Ps.length + 1 - i)
    (fun m s' hI => ?_) (Ps.length + 1) ⟨K, 0, S, le, offw, offD, hst, hacc, .refl _ _ _, Nat.zero_le _, rfl⟩
  obtain ⟨K', i, S', le', offw', offD', hst', ⟨oD, hoD, hrep⟩, st', hile, rfl⟩ := hI
  rw [hun]
  show wpAny _ F.A (if (Code.compLoop e d (.ref I) (.ref D) F.env).isFrame then (compTurn e d (.ref I) (.ref D) F.env).onRaise (leaving F.env) else (compTurn e d (.ref I) (.ref D) F.env).onRaise (fun x => do noteFrame x F.env; theTreesLotGoes x)) _ _ s'
  rw [hfr, if_neg Bool.false_ne_true]
  refine wpAny_noted ?_
  rw [hct]
  unfold cTurn
  refine wpAny_bind (wpAny_standAt (wpAny_bind ?_))
  by_cases hlt : i < Ps.length
  · refine W.item i _ _ _ hlt hst' fun u h'' tk' hP hst'' hk' => ?_
    obtain ⟨P, hPi, hu⟩ := hP
    obtain ⟨S'', off''⟩ := S'.touch (tk := tk') (wr := D :: wr) (fun b hb => (List.mem_cons.mp hb).elim (fun e => e ▸ offD') (offw' b)) (fun b o hb e => hk' b o (fun h => hb (List.mem_cons_of_mem _ h)) e)
    have hoD'' : h''.get? D = some oD := hk' D oD hDw hoD
    have SX := S''.addX off'' S''.xin
    refine wpAny_bind (wpAny_of_eq (by rfl : letOwnedTupleGo (.Name x px) (.ref I) u = pure ()) ?_)
    refine wpAny_bind (wpAny_assign_Name (store_name ok SX hx (.frz (P.mono (le') hu)) fun s₃ S₃ r₃ => ?_))
    -- what was told to stay stands
    have keep3 : ∀ b ∈ D :: wr, ∃ o, h''.get? b = some o ∧ s₃.heap.get? b = some o := fun b hb => by
      obtain ⟨o, ho⟩ : ∃ o, h''.get? b = some o := (List.mem_cons.mp hb).elim (fun e => ⟨oD, e ▸ hoD''⟩) (hob _ _ hst'' b)
      exact ⟨o, ho, S₃.xin b o ((addX_in hb).trans ho)⟩
    have off3 : ∀ b ∈ D :: wr, Off F K' X (upd ρ x (.frz P)) s₃ b := fun b hb => by
      obtain ⟨o, h1, _⟩ := keep3 b hb
      exact Off.of_addX hb S₃ ⟨o, h1⟩ (off'' b hb).x (off'' b hb).k (off'' b hb).c
    have XleA : ∀ (l : List Addr) (h : Heap), (∀ b ∈ l, X b = none) → Kle X (addX X l h) := fun l h hl a o e => by
      rw [addX_out (fun ha => by rw [hl a ha] at e; cases e)]; exact e
    have S3 : Sat F K' X (upd ρ x (.frz P)) s₃ := S₃.lessX (XleA _ _ fun b hb => (off'' b hb).x)
    have hst3 : St (i + 1) s₃.heap := W.frame _ _ _ hst'' fun b hb o e => by
      by_cases hbw : b ∈ wr
      · obtain ⟨o', h1, h2⟩ := keep3 b (List.mem_cons_of_mem _ hbw)
        rw [h1] at e; cases e; exact h2
      · rcases hfp b hb with h1 | ⟨o', h1⟩
        · exact absurd h1 hbw
        · have h3 := S₃.kin b o' (le' b o' h1)
          have h4 := S''.kin b o' (le' b o' h1)
          rw [show hk h'' b = h''.get? b from rfl, e] at h4
          cases h4; exact h3
    have hoD3 : s₃.heap.get? D = some oD := by
      obtain ⟨o, h1, h2⟩ := keep3 D List.mem_cons_self
      rw [hoD''] at h1; cases h1; exact h2
    have st3 : Stp s s₃ K K' X := ⟨⟨(r₃.os).trans st'.rest.os, st'.rest.gens.trans r₃.gens⟩, st'.le, st'.old⟩
    refine wpAny_bind ((tests i P hPi).out K' X s₃ _ _ S3 fun K₄ s₄ e₄ => ?_)
    have S4 := S3.ext e₄
    have hex3 : ∀ b ∈ D :: wr, ∃ o, s₃.heap.get? b = some o := fun b hb => by obtain ⟨o, _, h2⟩ := keep3 b hb; exact ⟨o, h2⟩
    have off4 : ∀ b ∈ D :: wr, Off F K₄ X (upd ρ x (.frz P)) s₄ b := fun b hb => Off.stay S3 (off3 b hb) e₄ (hex3 b hb)
    have hst4 : St (i + 1) s₄.heap := W.frame _ _ _ hst3 fun b hb o e => e₄.keep b o e
    have hoD4 := e₄.keep _ _ hoD3
    have st4 : Stp s s₄ K K₄ X := st3.trans (e₄.stp S3.xin)
    have le4 : Kle K₁ K₄ := le'.trans e₄.le
    have lessρ : ∀ y V, ρ y = some V → upd ρ x (.frz P) y = some V := less_upd hρ
    cases hb : bt i with
    | false =>
      refine wpAny_pure ⟨rfl, Ps.length + 1 - (i + 1), by omega, K₄, i + 1, S4.less lessρ, le4, fun b hb' => (off4 b (List.mem_cons_of_mem _ hb')).lessR lessρ, (off4 D List.mem_cons_self).lessR lessρ, hst4, ⟨oD, hoD4, ?_⟩, st4, hlt, rfl⟩
      rw [skip i hb]; exact ac.mono e₄.le hrep
    | true =>
      have offw4 : ∀ b ∈ wr, Off F K₄ X (upd ρ x (.frz P)) s₄ b := fun b hb' => off4 b (List.mem_cons_of_mem _ hb')
      have SX4 := S4.addX offw4 S4.xin
      have offD4 : Off F K₄ (addX X wr s₄.heap) (upd ρ x (.frz P)) s₄ D := by
        have f := off4 D List.mem_cons_self
        exact ⟨f.k, by rw [addX_out hDw]; exact f.x, f.l, f.c, f.v⟩
      refine wpAny_bind (inn i P hPi hb K₄ _ s₄ _ _ SX4 offD4 ⟨oD, hoD4, ac.mono e₄.le hrep⟩ fun K₅ s₅ S₅ off₅ hacc₅ st₅ => ?_)
      have keep5 : ∀ b ∈ wr, ∃ o, s₄.heap.get? b = some o ∧ s₅.heap.get? b = some o := fun b hb' => by
        obtain ⟨o, ho⟩ := hob _ _ hst4 b hb'
        exact ⟨o, ho, S₅.xin b o ((addX_in hb').trans ho)⟩
      have hXl : Kle X (addX X wr s₄.heap) := XleA _ _ fun b hb' => (offw4 b hb').x
      have S5 : Sat F K₅ X (upd ρ x (.frz P)) s₅ := S₅.lessX hXl
      have offw5 : ∀ b ∈ wr, Off F K₅ X (upd ρ x (.frz P)) s₅ b := fun b hb' => by
        obtain ⟨o, h1, _⟩ := keep5 b hb'
        exact Off.of_addX hb' S₅ ⟨o, h1⟩ (offw4 b hb').x (by rw [st₅.old b o ((addX_in hb').trans h1)]; exact (offw4 b hb').k) (offw4 b hb').c
      have le5 : Kle K₁ K₅ := le4.trans st₅.le
      have hst5 : St (i + 1) s₅.heap := W.frame _ _ _ hst4 fun b hb' o e => by
        by_cases hbw : b ∈ wr
        · obtain ⟨o', h1, h2⟩ := keep5 b hbw
          rw [h1] at e; cases e; exact h2
        · rcases hfp b hb' with h1 | ⟨o', h1⟩
          · exact absurd h1 hbw
          · have h3 := S₅.kin b o' (le5 b o' h1)
            have h4 := S4.kin b o' (le4 b o' h1)
            rw [show hk s₄.heap b = s₄.heap.get? b from rfl, e] at h4
            cases h4; exact h3
      have st5 : Stp s s₅ K K₅ X := st4.trans ⟨st₅.rest, st₅.le, fun a o e => st₅.old a o (hXl a o e)⟩
      exact wpAny_pure ⟨rfl, Ps.length + 1 - (i + 1), by omega, K₅, i + 1, S5.less lessρ, le5, fun b hb' => (offw5 b hb').lessR lessρ, (off₅.lessX hXl).lessR lessρ, hst5, hacc₅, st5, hlt, rfl⟩
  · have hin : i = Ps.length := by omega
    subst hin
    refine W.done _ _ _ hst' fun h'' tk' hk' => ?_
    obtain ⟨S'', off''⟩ := S'.touch (tk := tk') (wr := D :: wr) (fun b hb => (List.mem_cons.mp hb).elim (fun e => e ▸ offD') (offw' b)) (fun b o hb e => hk' b o (fun h => hb (List.mem_cons_of_mem _ h)) e)
    exact wpAny_pure (hR K' _ S'' (off'' D List.mem_cons_self) ⟨oD, hk' D oD hDw hoD, hrep⟩ (st'.trans ⟨⟨rfl, .refl _⟩, .refl _, fun _ _ _ => rfl⟩))
end
end Mine
end
/-! part A6 -/
section
open PySem PySem.Calls PySem.Spec PyProof.Rows PySem.W
set_option Elab.async false
set_option linter.unusedVariables false
namespace Mine

/-! ### the comprehension's frame -/
noncomputable def cellNames (names : List (Str × NameKind)) : List Str := (names.filter fun p => p.2 == .cell).map (·.1)
noncomputable def cloOf (env : Env) (names : List (Str × NameKind)) (acc : List (Str × Addr)) : List (Str × Addr) :=
  names.foldl (fun cs p => if p.2 == .free then (match env.cells.lookup p.1 with | some a => (p.1, a) :: cs | none => cs) else cs) acc

theorem closureFor_of {env : Env} : ∀ (names : List (Str × NameKind)) (acc : List (Str × Addr)), (∀ p ∈ names, p.2 = .free → ∃ c, env.cells.lookup p.1 = some c) →
    (forIn names acc fun (x : Str × NameKind) (cs : List (Str × Addr)) => (match x with
      | (name, kind) => (if kind == .free then do pure (ForInStep.yield ((name, ← cellOf env name) :: cs)) else pure (ForInStep.yield cs) : Sem (ForInStep (List (Str × Addr))))) : Sem (List (Str × Addr))) = pure (cloOf env names acc)
  | [], acc, _ => by rw [List.forIn_nil]; rfl
  | (n, k) :: r, acc, h => by
    rw [List.forIn_cons]
    have hr := closureFor_of (env := env) r
    by_cases hk : k = .free
    · subst hk
      obtain ⟨c, hc⟩ := h (n, .free) List.mem_cons_self rfl
      have e1 : cellOf env n = pure c := by unfold cellOf; rw [hc]
      simp only [beq_self_eq_true, if_true, e1, LawfulMonad.pure_bind]
      rw [hr _ fun p hp => h p (List.mem_cons_of_mem _ hp)]
      have e2 : cloOf env ((n, NameKind.free) :: r) acc = cloOf env r ((n, c) :: acc) := by
        unfold cloOf
        rw [List.foldl_cons]
        simp only [beq_self_eq_true, if_true, hc]
      rw [e2]
    · have hb : (k == NameKind.free) = false := by simpa using hk
      simp only [hb, Bool.false_eq_true, if_false, LawfulMonad.pure_bind]
      rw [hr _ fun p hp => h p (List.mem_cons_of_mem _ hp)]
      have e2 : cloOf env ((n, k) :: r) acc = cloOf env r acc := by
        unfold cloOf
        rw [List.foldl_cons]
        simp only [hb, Bool.false_eq_true, if_false]
      rw [e2]
theorem closureFor_is {env : Env} {scope : Scope} (h : ∀ p ∈ scope.names, p.2 = .free → ∃ c, env.cells.lookup p.1 = some c) : closureFor scope env = pure (cloOf env scope.names []) := by
  have := closureFor_of (env := env) scope.names [] h
  unfold closureFor
  show (forIn scope.names [] (fun (x : Str × NameKind) (cs : List (Str × Addr)) => (match x with
      | (name, kind) => (if kind == .free then do pure (ForInStep.yield ((name, ← cellOf env name) :: cs)) else pure (ForInStep.yield cs) : Sem (ForInStep (List (Str × Addr)))))) >>= fun cs => pure cs : Sem (List (Str × Addr))) = _
  rw [this]
  rfl

theorem lookup_cloOf {env : Env} {x : Str} : ∀ (names : List (Str × NameKind)) (acc : List (Str × Addr)) (c : Addr), (cloOf env names acc).lookup x = some c → acc.lookup x = some c ∨ env.cells.lookup x = some c
  | [], acc, c, h => .inl h
  | (n, k) :: r, acc, c, h => by
    unfold cloOf at h
    rw [List.foldl_cons] at h
    by_cases hk : (k == NameKind.free) = true
    · simp only [hk, if_true] at h
      cases hn : env.cells.lookup n with
      | none => rw [hn] at h; exact lookup_cloOf r acc c h
      | some d =>
        rw [hn] at h
        rcases lookup_cloOf r _ c h with h1 | h1
        · rw [List.lookup_cons] at h1
          by_cases hx : (x == n) = true
          · rw [hx] at h1; cases h1; rw [beq_iff_eq.mp hx]; exact .inr hn
          · have hx' : (x == n) = false := by simpa using hx
            rw [hx'] at h1; exact .inl h1
        · exact .inr h1
    · have hk' : (k == NameKind.free) = false := by simpa using hk
      simp only [hk', Bool.false_eq_true, if_false] at h
      exact lookup_cloOf r acc c h
theorem lookup_cloOf_acc {env : Env} {x : Str} : ∀ (names : List (Str × NameKind)) (acc : List (Str × Addr)), (acc.lookup x).isSome = true → ((cloOf env names acc).lookup x).isSome = true
  | [], acc, h => h
  | (n, k) :: r, acc, h => by
    unfold cloOf
    rw [List.foldl_cons]
    by_cases hk : (k == NameKind.free) = true
    · simp only [hk, if_true]
      cases hn : env.cells.lookup n with
      | none => exact lookup_cloOf_acc r acc h
      | some d =>
        refine lookup_cloOf_acc r _ ?_
        rw [List.lookup_cons]
        cases hx : x == n with
        | true => rfl
        | false => exact h
    · have hk' : (k == NameKind.free) = false := by simpa using hk
      simp only [hk', Bool.false_eq_true, if_false]
      exact lookup_cloOf_acc r acc h
theorem lookup_cloOf_some {env : Env} {x : Str} : ∀ (names : List (Str × NameKind)) (acc : List (Str × Addr)), (x, NameKind.free) ∈ names → (env.cells.lookup x).isSome = true → ((cloOf env names acc).lookup x).isSome = true
  | (n, k) :: r, acc, hm, hc => by
    unfold cloOf
    rw [List.foldl_cons]
    rcases List.mem_cons.mp hm with e | hm
    · cases e
      obtain ⟨c, hc'⟩ := Option.isSome_iff_exists.mp hc
      simp only [beq_self_eq_true, if_true, hc']
      refine lookup_cloOf_acc r _ ?_
      rw [List.lookup_cons, beq_self_eq_true]; rfl
    · by_cases hk : (k == NameKind.free) = true
      · simp only [hk, if_true]
        cases hn : env.cells.lookup n with
        | none => exact lookup_cloOf_some r acc hm hc
        | some d => exact lookup_cloOf_some r _ hm hc
      · have hk' : (k == NameKind.free) = false := by simpa using hk
        simp only [hk', Bool.false_eq_true, if_false]
        exact lookup_cloOf_some r acc hm hc

theorem mem_cellsFrom : ∀ (names : List (Str × NameKind)) (n : Nat) (acc : List (Str × Addr)) (p : Str × Addr), p ∈ cellsFrom n names acc → p ∈ acc ∨ (n ≤ p.2 ∧ p.1 ∈ cellNames names)
  | [], n, acc, p, h => .inl h
  | (x, k) :: r, n, acc, p, h => by
    unfold cellsFrom at h
    by_cases hk : (k == NameKind.cell) = true
    · rw [if_pos hk] at h
      have hin : ∀ y, y ∈ cellNames r → y ∈ cellNames ((x, k) :: r) := fun y hy => by
        unfold cellNames at hy ⊢
        rw [List.filter_cons, if_pos hk, List.map_cons]; exact List.mem_cons_of_mem _ hy
      rcases mem_cellsFrom r (n + 1) _ p h with h1 | ⟨h1, h2⟩
      · rcases List.mem_cons.mp h1 with e | h1
        · refine .inr ?_
          rw [e]
          refine ⟨Nat.le_refl _, ?_⟩
          unfold cellNames
          rw [List.filter_cons, if_pos hk, List.map_cons]; exact List.mem_cons_self
        · exact .inl h1
      · exact .inr ⟨by omega, hin _ h2⟩
    · rw [if_neg hk] at h
      rcases mem_cellsFrom r n acc p h with h1 | ⟨h1, h2⟩
      · exact .inl h1
      · refine .inr ⟨h1, ?_⟩
        unfold cellNames at h2 ⊢
        rw [List.filter_cons, if_neg (by simpa using hk)]; exact h2
theorem lookup_cellsFrom_out {x : Str} : ∀ (names : List (Str × NameKind)) (n : Nat) (acc : List (Str × Addr)), x ∉ cellNames names → (cellsFrom n names acc).lookup x = acc.lookup x
  | [], n, acc, h => rfl
  | (y, k) :: r, n, acc, h => by
    unfold cellsFrom
    by_cases hk : (k == NameKind.cell) = true
    · have h1 : x ∉ y :: cellNames r := by
        unfold cellNames at h
        rw [List.filter_cons, if_pos hk, List.map_cons] at h; exact h
      rw [if_pos hk, lookup_cellsFrom_out r _ _ fun q => h1 (List.mem_cons_of_mem _ q), List.lookup_cons]
      have : (x == y) = false := by
        rw [beq_eq_false_iff_ne]; rintro rfl; exact h1 List.mem_cons_self
      rw [this]
    · have h1 : x ∉ cellNames r := by
        unfold cellNames at h
        rw [List.filter_cons, if_neg (by simpa using hk)] at h; exact h
      rw [if_neg hk]
      exact lookup_cellsFrom_out r n acc h1
theorem lookup_cellsFrom_in {x : Str} : ∀ (names : List (Str × NameKind)) (n : Nat) (acc : List (Str × Addr)), x ∈ cellNames names → ∃ c, (cellsFrom n names acc).lookup x = some c ∧ n ≤ c
  | [], n, acc, h => by cases h
  | (y, k) :: r, n, acc, h => by
    unfold cellsFrom
    by_cases hk : (k == NameKind.cell) = true
    · have h1 : x ∈ y :: cellNames r := by
        unfold cellNames at h
        rw [List.filter_cons, if_pos hk, List.map_cons] at h; exact h
      rw [if_pos hk]
      by_cases hr : x ∈ cellNames r
      · obtain ⟨c, h2, h3⟩ := lookup_cellsFrom_in r (n + 1) ((y, n) :: acc) hr
        exact ⟨c, h2, by omega⟩
      · rcases List.mem_cons.mp h1 with rfl | h1
        · rw [lookup_cellsFrom_out r _ _ hr, List.lookup_cons, beq_self_eq_true]
          exact ⟨n, rfl, Nat.le_refl _⟩
        · exact absurd h1 hr
    · have h1 : x ∈ cellNames r := by
        unfold cellNames at h
        rw [List.filter_cons, if_neg (by simpa using hk)] at h; exact h
      rw [if_neg hk]
      exact lookup_cellsFrom_in r n acc h1
/-- the laid cells: empty, above, apart -/
theorem cells_laid : ∀ (names : List (Str × NameKind)) (h : Heap) (acc : List (Str × Addr)), (∀ p ∈ acc, p.2 < h.objs.size) →
    (∀ p, p ∈ cellsFrom h.objs.size names acc → p ∈ acc ∨ (pushCells h names).IsCell p.2 none) ∧
    (∀ p q, p ∈ cellsFrom h.objs.size names acc → q ∈ cellsFrom h.objs.size names acc → p.2 = q.2 → h.objs.size ≤ p.2 → p.1 = q.1)
  | [], h, acc, ha => ⟨fun p hp => .inl hp, fun p q hp _ _ hle => absurd (ha p hp) (Nat.not_lt_of_le hle)⟩
  | (x, k) :: r, h, acc, ha => by
    unfold cellsFrom pushCells
    by_cases hk : (k == NameKind.cell) = true
    · rw [if_pos hk, if_pos hk]
      have hs : (h.push { cls := .type "cell", data := .cell none }).objs.size = h.objs.size + 1 := Heap.size_push ..
      have ih := cells_laid r (h.push { cls := .type "cell", data := .cell none }) ((x, h.objs.size) :: acc) fun p hp => by
        rw [hs]
        rcases List.mem_cons.mp hp with e | hp
        · rw [e]; exact Nat.lt_succ_self _
        · exact Nat.lt_succ_of_lt (ha p hp)
      rw [hs] at ih
      refine ⟨fun p hp => ?_, fun p q hp hq e hle => ?_⟩
      · rcases ih.1 p hp with h1 | h1
        · rcases List.mem_cons.mp h1 with e | h1
          · refine .inr ?_
            rw [e]
            exact Heap.IsCell.keeps (h := h.push { cls := .type "cell", data := .cell none }) ⟨_, Heap.get?_push_size _ rfl, rfl⟩ fun b o => pushCells_keeps r _ b o
          · exact .inl h1
        · exact .inr h1
      · by_cases h0 : h.objs.size + 1 ≤ p.2
        · exact ih.2 p q hp hq e h0
        · have hp2 : p.2 = h.objs.size := Nat.le_antisymm (Nat.lt_succ_iff.mp (Nat.lt_of_not_le h0)) hle
          have one : ∀ z, z ∈ cellsFrom (h.objs.size + 1) r ((x, h.objs.size) :: acc) → z.2 = h.objs.size → z.1 = x := fun z hz hz2 => by
            rcases mem_cellsFrom r _ _ z hz with h1 | ⟨h1, _⟩
            · rcases List.mem_cons.mp h1 with e | h1
              · rw [e]
              · exact absurd (ha z h1) (by rw [hz2]; exact Nat.lt_irrefl _)
            · exact absurd h1 (by rw [hz2]; exact Nat.not_succ_le_self _)
          rw [one p hp hp2, one q hq (by rw [← e]; exact hp2)]
    · rw [if_neg hk, if_neg hk]
      exact cells_laid r h acc ha

section
variable {prog : Program} {w : World} {F F' : Fm} {K K' X : Kn} {ρ ρ' : Ro prog w} {s s' : Shared} {α : Type}

/-- a frame of a comprehension within F -/
structure IsComp (F : Fm) (sc : Scope) (F' : Fm) : Prop where
  scope : F'.env.scope = relabel sc F.env
  glob : F'.env.globals = F.env.globals
  bui : F'.env.builtins = F.env.builtins
  A : F'.A = F.A
  g : F'.g = F.g
  mine : F'.mine = cellNames sc.names
theorem IsComp.fok {n : Nat} {scope : Scope} (h : IsComp F scope F') (ok : Fok n F) (hk : scope.kind = .function) : Fok n F' :=
  ⟨by rw [h.scope]; exact hk, h.glob.trans ok.glob, h.bui.trans ok.bui, by rw [h.A]; exact ok.rm, by rw [h.g]; exact ok.mods⟩

/-- what the comprehension sees of the names around it -/
noncomputable def seen (scope : Scope) (ρ : Ro prog w) : Ro prog w := fun x => if scope.names.lookup x = some .free then (match ρ x with | some (.frz P) => some (.frz P) | _ => none) else none
theorem seen_frz {scope : Scope} {x : Str} {V : V prog w} (h : seen scope ρ x = some V) : scope.names.lookup x = some .free ∧ ρ x = some V ∧ V.own = false := by
  unfold seen at h
  split at h
  · rename_i hl
    split at h
    · rename_i P e; cases h; exact ⟨hl, e, rfl⟩
    · cases h
  · cases h

/-- the scope of a comprehension is in order -/
structure ScOk (F : Fm) (scope : Scope) (ρ : Ro prog w) : Prop where
  kind : scope.kind = .function
  names : ∀ p ∈ scope.names, p.2 = .local → scope.names.lookup p.1 = some .local
  free : ∀ p ∈ scope.names, p.2 = .free → (ρ p.1).isSome = true ∧ F.env.kindOf p.1 ≠ some .local
  cell : ∀ x ∈ cellNames scope.names, scope.names.lookup x = some .cell

theorem lookup_relabel {env : Env} {x : Str} : ∀ (names : List (Str × NameKind)), (names.map fun (n, k) => if (k == NameKind.free && env.scope.kind == .function && env.kindOf n == some .cell) then (n, NameKind.cell) else (n, k)).lookup x =
    (names.lookup x).map fun k => if (k == NameKind.free && env.scope.kind == .function && env.kindOf x == some .cell) then .cell else k
  | [] => rfl
  | (n, k) :: r => by
    rw [List.map_cons, List.lookup_cons]
    by_cases hx : (x == n) = true
    · have := beq_iff_eq.mp hx
      subst this
      dsimp only
      by_cases hc : (k == NameKind.free && env.scope.kind == .function && env.kindOf x == some .cell) = true
      · rw [if_pos hc, List.lookup_cons, beq_self_eq_true]
        show some NameKind.cell = some (if _ then _ else _)
        rw [if_pos hc]
      · rw [if_neg hc, List.lookup_cons, beq_self_eq_true]
        show some k = some (if _ then _ else _)
        rw [if_neg hc]
    · have hx' : (x == n) = false := by simpa using hx
      rw [List.lookup_cons, hx']
      by_cases hc : (k == NameKind.free && env.scope.kind == .function && env.kindOf n == some .cell) = true
      · dsimp only
        rw [if_pos hc]
        dsimp only
        rw [hx']; exact lookup_relabel r
      · dsimp only
        rw [if_neg hc]
        dsimp only
        rw [hx']; exact lookup_relabel r

theorem wpAny_newCompEnv {M : Model} {A : Around} {E : Value → Shared → Prop} {scope : Scope} {globals : Addr} {cl : List (Str × Addr)} {qual : Str} {outer : Env} {b : Addr} {Q : Env → Shared → Prop}
    (h : Q (newEnv scope s.heap.objs.size globals (cellsFrom (s.heap.objs.size + 1) scope.names cl) qual none .none (some outer) b) { s with heap := pushCells (s.heap.push { cls := .type "dict", data := .dict #[] }) scope.names }) :
    wpAny M A (newFunctionEnv scope globals cl [] qual none .none (some outer) b) Q E s := by
  simp only [newFunctionEnv, Option.isSome_some, if_true]
  refine wpAny_bind (wpAny_alloc ?_)
  refine wpAny_bind (wpAny_layCells _ (fun name kind cells => by cases hkc : kind == NameKind.cell <;> simp [hkc]) _ _ _ _ ?_)
  rw [show ({ s with heap := s.heap.push { cls := .type "dict", data := .dict #[] } } : Shared).heap.objs.size = s.heap.objs.size + 1 from Heap.size_push ..]
  refine wpAny_bind ?_
  rw [List.forIn_nil]
  exact wpAny_pure (wpAny_pure h)
end
end Mine
end
/-! part A7 -/
section
open PySem PySem.Calls PySem.Spec PyProof.Rows PySem.W
set_option Elab.async false
set_option linter.unusedVariables false
namespace Mine
section
variable {prog : Program} {w : World} {F F' : Fm} {K K' X : Kn} {ρ ρ' : Ro prog w} {s s' : Shared} {α : Type}

theorem mem_cloOf {env : Env} : ∀ (names : List (Str × NameKind)) (acc : List (Str × Addr)) (p : Str × Addr), p ∈ cloOf env names acc → p ∈ acc ∨ env.cells.lookup p.1 = some p.2
  | [], acc, p, h => .inl h
  | (n, k) :: r, acc, p, h => by
    unfold cloOf at h
    rw [List.foldl_cons] at h
    by_cases hk : (k == NameKind.free) = true
    · simp only [hk, if_true] at h
      cases hn : env.cells.lookup n with
      | none => rw [hn] at h; exact mem_cloOf r acc p h
      | some d =>
        rw [hn] at h
        rcases mem_cloOf r _ p h with h1 | h1
        · rcases List.mem_cons.mp h1 with e | h1
          · rw [e]; exact .inr hn
          · exact .inl h1
        · exact .inr h1
    · have hk' : (k == NameKind.free) = false := by simpa using hk
      simp only [hk', Bool.false_eq_true, if_false] at h
      exact mem_cloOf r acc p h
theorem none_of_fresh {a : Addr} (h : s.heap.objs.size ≤ a) : s.heap.get? a = none := by
  cases q : s.heap.get? a with
  | none => rfl
  | some o => exact absurd (Heap.lt_size q) (Nat.not_lt_of_le h)
theorem kn_none {h : Heap} {a : Addr} (hk0 : Kle K (hk h)) (ha : h.get? a = none) : K a = none := by
  cases q : K a with
  | none => rfl
  | some o => have := hk0 a o q; rw [show hk h a = h.get? a from rfl, ha] at this; cases this

/-- a loop of a comprehension, at its first clause -/
noncomputable def LoopOk (prog : Program) (w : World) (F : Fm) (e : PySem.Expr) (d : Nat) (ρ : Ro prog w) (Ps : List DP) (ac : Ac α) (c0 c1 : α) : Prop :=
  ∀ (K₁ K X : Kn) (s : Shared) (I D : Addr) (fp wr : List Addr) (St : Nat → Heap → Prop) (Rr : Result → Shared → Prop),
    Walks prog w F.A I fp wr Ps.length (fun i u => ∃ P, Ps[i]? = some P ∧ P.p K₁ u) St → (∀ i h, St i h → ∀ b ∈ wr, ∃ o, h.get? b = some o) → (∀ b ∈ fp, b ∈ wr ∨ ∃ o, K₁ b = some o) → D ∉ wr →
    Sat F K X ρ s → Kle K₁ K → (∀ b ∈ wr, Off F K X ρ s b) → Off F K X ρ s D → St 0 s.heap → (∃ o, s.heap.get? D = some o ∧ ac.rep K c0 o) →
    (∀ K' s', Sat F K' X ρ s' → Off F K' X ρ s' D → (∃ o, s'.heap.get? D = some o ∧ ac.rep K' c1 o) → Stp s s' K K' X → Rr (.ok .next) s') →
    codeAny (model prog w) F.A (.compLoop e d (.ref I) (.ref D) F.env) Rr s

/-- the accumulator's start -/
noncomputable def NewOk (prog : Program) (w : World) (A : Around) (t : Sem Value) (ac : Ac α) (c0 : α) : Prop :=
  ∀ (s : Shared) (Q E : Value → Shared → Prop), (∀ o, o.isFreed = false → (∀ K, ac.rep K c0 o) → Q (.ref s.heap.objs.size) { s with heap := s.heap.push o }) → wpAny (model prog w) A t Q E s
theorem new_list {A : Around} : NewOk prog w A (newList []) acL [] := fun s Q E k => wpAny_newObj_type (k _ rfl fun K => ⟨[], 0, rfl, .nil⟩)
theorem new_dict {A : Around} {κ : Type} [DecidableEq κ] (knd : KeyKind prog w κ) : NewOk prog w A newDict (acD knd) [] := fun s Q E k => by
  unfold newDict
  exact wpAny_newObj_type (k _ rfl fun K => ⟨[], ⟨#[], 0, ⟨rfl, rfl, rfl⟩, rfl, fun e he => by simp at he, .nil, List.nodup_nil⟩, rfl, .nil⟩)

theorem comp_core {n : Nat} {iter : PySem.Expr} {R : V prog w} {Ps : List DP} {scope : Scope} {e : PySem.Expr} {newAcc : Sem Value} {ac : Ac α} {c0 c1 : α} {E : Value → Shared → Prop} {RR : Value → Addr → Result → Shared → Prop}
    (ok : Fok n F) (S : Sat F K X ρ s) (hi : Ev F iter ρ R) (it : Itr prog w F.A R Ps) (sc : ScOk F scope ρ) (hnew : NewOk prog w F.A newAcc ac c0)
    (hstart : ∀ (it acc : Value) (env : Env) (R : Result → Shared → Prop) (s : Shared), codeAny (model prog w) F.A (.compLoop e 0 it acc env) R s →
      wpAny (model prog w) F.A (pyIter it) (fun it' s' => codeAny (model prog w) F.A (.compLoop e 0 it' acc env) R s') (notedBy (model prog w) F.A env fun x s' => R (.error x) s') s →
      codeAny (model prog w) F.A (.compStart e 0 it acc env) R s)
    (loop : ∀ F', IsComp F scope F' → LoopOk prog w F' e 0 (seen scope ρ) Ps ac c0 c1)
    (k : ∀ K' s' D C m o, Ext s s' K K' → s'.heap.get? D = some o → ac.rep K' c1 o → K' D = none → s.heap.get? D = none → s.heap.get? C = none → K' C = none → D ≠ C → s'.heap.Ns C m → RR (.ref D) C (.ok .next) s') :
    wpAny (model prog w) F.A (eval iter F.env) (fun x s₁ => wpAny (model prog w) F.A (pyIter x) (fun it s₂ => wpAny (model prog w) F.A newAcc (fun acc s₃ =>
      wpAny (model prog w) F.A (newFunctionEnv scope F.env.globals (cloOf F.env scope.names []) [] F.env.qual none .none (some F.env)) (fun cenv s₄ =>
        codeAny (model prog w) F.A (.compStart e 0 it acc { cenv with scope := relabel scope F.env }) (RR acc cenv.locals) s₄) E s₃) E s₂) E s₁) E s := by
  refine hi.out K X s _ E S fun K₁ s₁ v e₁ hv => ?_
  have S₁ := S.ext e₁
  refine it K₁ s₁ v _ E S₁.kin hv fun I fp wr St h' tk W st0 keep hnewr hob hfp => ?_
  refine hnew _ _ _ fun oD hfrD hrepD => ?_
  refine wpAny_newCompEnv ?_
  dsimp only
  -- names of the heaps
  have low : ∀ {a : Addr} {o : Obj}, s₁.heap.get? a = some o → a < h'.objs.size := fun e => Heap.lt_size (keep _ _ e)
  generalize hH3 : h'.push oD = H3
  have hC : H3.objs.size = h'.objs.size + 1 := by rw [← hH3, Heap.size_push]
  have k3 : Keep h' H3 := fun b o q => hH3 ▸ Heap.get?_push_of_some _ q
  have hD3 : H3.get? h'.objs.size = some oD := hH3 ▸ Heap.get?_push_size _ hfrD
  generalize hH4 : H3.push { cls := .type "dict", data := .dict #[] } = H4
  have hS4 : H4.objs.size = H3.objs.size + 1 := by rw [← hH4, Heap.size_push]
  have k4 : Keep H3 H4 := fun b o q => hH4 ▸ Heap.get?_push_of_some _ q
  have k5 : Keep H4 (pushCells H4 scope.names) := fun b o q => pushCells_keeps _ _ b o q
  generalize hcs : cellsFrom (H3.objs.size + 1) scope.names (cloOf F.env scope.names []) = cs
  have kk : Keep s₁.heap (pushCells H4 scope.names) := fun b o q => k5 b o (k4 b o (k3 b o (keep b o q)))
  have hsc : ∀ p ∈ scope.names, p.2 = .free → ∃ c, F.env.cells.lookup p.1 = some c := fun p hp hf => by
    obtain ⟨h1, h2⟩ := sc.free p hp hf
    obtain ⟨V, hV⟩ := Option.isSome_iff_exists.mp h1
    obtain ⟨u, H, _⟩ := S.vars _ _ hV
    rcases H with ⟨hl, _⟩ | ⟨_, c, hc, _⟩
    · exact absurd hl h2
    · exact ⟨c, hc⟩
  have hacc : ∀ p ∈ cloOf F.env scope.names [], p.2 < H4.objs.size := fun p hp => by
    rcases mem_cloOf _ _ p hp with h1 | h1
    · cases h1
    · obtain ⟨o, ho⟩ := S₁.live _ _ h1
      rw [hS4, hC]
      exact Nat.lt_succ_of_lt (Nat.lt_succ_of_lt (low ho))
  obtain ⟨laid1, laid2⟩ := cells_laid scope.names H4 (cloOf F.env scope.names []) hacc
  rw [hS4, hcs] at laid1 laid2
  rw [hS4] at hacc
  let F' : Fm := ⟨{ newEnv scope H3.objs.size F.env.globals cs F.env.qual none .none (some F.env) builtinsNs with scope := relabel scope F.env }, F.A, F.g, cellNames scope.names⟩
  have hF' : IsComp F scope F' := ⟨rfl, rfl, rfl, rfl, rfl, rfl⟩
  have hkd : ∀ x, F'.env.kindOf x = (scope.names.lookup x).map fun k => if (k == NameKind.free && F.env.scope.kind == .function && F.env.kindOf x == some .cell) then .cell else k := fun x => lookup_relabel scope.names
  have fresh1 : ∀ {a : Addr}, h'.objs.size ≤ a → s₁.heap.get? a = none := fun ha => by
    cases q : s₁.heap.get? _ with
    | none => rfl
    | some o => exact absurd (low q) (Nat.not_lt_of_le ha)
  have hCfresh : s₁.heap.get? H3.objs.size = none := fresh1 (by rw [hC]; exact Nat.le_succ _)
  have hCN : (pushCells H4 scope.names).Ns H3.objs.size fun _ => none := (hH4 ▸ Heap.Ns.new H3 (.type "dict")).keeps k5
  have ownc : ∀ x ∈ cellNames scope.names, ∃ c, cs.lookup x = some c ∧ H3.objs.size + 1 ≤ c := fun x hx => hcs ▸ lookup_cellsFrom_in scope.names (H3.objs.size + 1) _ hx
  have hcfresh : ∀ {c : Addr}, H3.objs.size + 1 ≤ c → s₁.heap.get? c = none := fun hc => fresh1 (by rw [hC] at hc; exact Nat.le_trans (Nat.le_succ_of_le (Nat.le_succ _)) hc)
  let s₄ : Shared := { s₁ with heap := pushCells H4 scope.names, toks := tk }
  have S4 : Sat F' K₁ (hk s₁.heap) (seen scope ρ) s₄ := by
    refine ⟨S₁.gk, fun a o q => kk a o (S₁.kin a o q), fun a o q => kk a o q, ⟨_, hCN⟩, kn_none S₁.kin hCfresh, hCfresh, ?_, ?_, ?_, ?_, ?_⟩
    · intro x hx
      obtain ⟨c, hc, hle⟩ := ownc x hx
      refine ⟨c, none, ?_, hc, ?_, kn_none S₁.kin (hcfresh hle), hcfresh hle⟩
      · rw [hkd, sc.cell x hx]; rfl
      · rcases laid1 (x, c) (mem_of_lookup hc) with h1 | h1
        · exact absurd (hacc _ h1) (Nat.not_lt_of_le hle)
        · exact h1
    · intro x c hx hc y hy
      obtain ⟨c', hc', hle⟩ := ownc x hx
      have : c' = c := Option.some.inj (hc'.symm.trans hc)
      subst this
      exact laid2 (y, c') (x, c') (mem_of_lookup hy) (mem_of_lookup hc) rfl hle
    · intro x c hc
      rcases laid1 (x, c) (mem_of_lookup hc) with h1 | ⟨o, ho, _⟩
      · rcases mem_cloOf _ _ _ h1 with h2 | h2
        · cases h2
        · obtain ⟨o, ho⟩ := S₁.live _ _ h2
          exact ⟨o, kk _ _ ho⟩
      · exact ⟨o, ho⟩
    · intro x V hx
      obtain ⟨hl, hρ, hown⟩ := seen_frz hx
      obtain ⟨u, h1, h2, _⟩ := S₁.vars x V hρ
      refine ⟨u, ?_, h2.mono (.refl _) fun a o q => kk a o q, fun q => by rw [hown] at q; cases q⟩
      have hm := mem_of_lookup hl
      rcases h1 with ⟨hl', _⟩ | ⟨_, c, hc, hv⟩
      · exact absurd hl' (sc.free _ hm rfl).2
      · refine .inr ⟨?_, c, ?_, hv.keeps kk⟩
        · rw [hkd, hl]
          show some (if _ then _ else _) = _ ∨ some (if _ then _ else _) = _
          split
          · exact .inl rfl
          · exact .inr rfl
        · have hnot : x ∉ cellNames scope.names := fun hx' => by rw [sc.cell x hx'] at hl; cases hl
          show cs.lookup x = some c
          rw [← hcs, lookup_cellsFrom_out _ _ _ hnot]
          obtain ⟨d, hd⟩ := Option.isSome_iff_exists.mp (lookup_cloOf_some (env := F.env) scope.names [] hm (by rw [hc]; rfl))
          rcases lookup_cloOf _ _ _ hd with h3 | h3
          · cases h3
          · rw [hc] at h3; cases h3; exact hd
    · intro x y a Vx Vy _ hx _ ox
      rw [(seen_frz hx).2.2] at ox; cases ox
  have hcell_ne : ∀ {x c b} (o : Obj), F'.env.cells.lookup x = some c → H3.get? b = some o → s₁.heap.get? b = none → c ≠ b := fun {x c b} o hc hb hb1 e => by
    subst e
    rcases laid1 (x, c) (mem_of_lookup hc) with h1 | h1
    · rcases mem_cloOf _ _ _ h1 with h2 | h2
      · cases h2
      · obtain ⟨o', ho'⟩ := S₁.live _ _ h2
        rw [hb1] at ho'; cases ho'
    · have hmem : (x, c) ∈ cellsFrom (H3.objs.size + 1) scope.names (cloOf F.env scope.names []) := by rw [hcs]; exact mem_of_lookup hc
      rcases mem_cellsFrom _ _ _ _ hmem with h2 | ⟨h2, _⟩
      · rcases mem_cloOf _ _ _ h2 with h3 | h3
        · cases h3
        · obtain ⟨o', ho'⟩ := S₁.live _ _ h3
          rw [hb1] at ho'; cases ho'
      · exact absurd (Heap.lt_size hb) (Nat.not_lt_of_le (Nat.le_of_succ_le h2))
  have off : ∀ b o, H3.get? b = some o → s₁.heap.get? b = none → Off F' K₁ (hk s₁.heap) (seen scope ρ) s₄ b := fun b o hb hb1 =>
    ⟨kn_none S₁.kin hb1, hb1, fun e => absurd (Heap.lt_size hb) (by rw [e]; exact Nat.lt_irrefl _), fun x c hc => hcell_ne o hc hb hb1, fun x V hx ho => by rw [(seen_frz hx).2.2] at ho; cases ho⟩
  have hD1 : s₁.heap.get? h'.objs.size = none := fresh1 (Nat.le_refl _)
  have offD := off _ _ hD3 hD1
  have offw : ∀ b ∈ wr, Off F' K₁ (hk s₁.heap) (seen scope ρ) s₄ b := fun b hb => by
    obtain ⟨o, ho⟩ := hob _ _ st0 b hb
    exact off b o (k3 b o ho) (hnewr b hb)
  have hDw : h'.objs.size ∉ wr := fun hb => by
    obtain ⟨o, ho⟩ := hob _ _ st0 _ hb
    exact absurd (Heap.lt_size ho) (Nat.lt_irrefl _)
  have hst4 : St 0 s₄.heap := W.frame _ _ _ st0 fun b _ o q => k5 b o (k4 b o (k3 b o q))
  have go : codeAny (model prog w) F.A (.compLoop e 0 (.ref I) (.ref h'.objs.size) F'.env) (RR (.ref h'.objs.size) H3.objs.size) s₄ := by
    refine loop F' hF' K₁ K₁ (hk s₁.heap) s₄ I h'.objs.size fp wr St (RR (.ref h'.objs.size) H3.objs.size) W hob hfp hDw S4 (.refl _) offw offD hst4 ⟨oD, k5 _ _ (k4 _ _ hD3), hrepD K₁⟩ fun K' s' S' off' ⟨o, ho, hrep⟩ st => ?_
    obtain ⟨m, hm⟩ := S'.ns
    refine k K' s' h'.objs.size H3.objs.size m o ⟨⟨(st.rest.os).trans e₁.rest.os, e₁.rest.gens.trans st.rest.gens⟩, fun b o q => S'.xin b o (e₁.keep b o q), e₁.le.trans st.le, fun a o q => ?_, S'.kin⟩ ho hrep off'.k ?_ ?_ S'.kl ?_ hm
    · rw [st.old a o (e₁.keep a o q), e₁.old a o q]
    · cases q : s.heap.get? h'.objs.size with
      | none => rfl
      | some o => rw [e₁.keep _ _ q] at hD1; cases hD1
    · cases q : s.heap.get? H3.objs.size with
      | none => rfl
      | some o => rw [e₁.keep _ _ q] at hCfresh; cases hCfresh
    · rw [hC]; exact Nat.ne_of_lt (Nat.lt_succ_self _)
  exact hstart _ _ _ _ _ go (W.self 0 _ _ _ hst4 go)
end
end Mine
end
/-! part A8 -/
section
open PySem PySem.Calls PySem.Spec PyProof.Rows PySem.W
set_option Elab.async false
set_option linter.unusedVariables false
namespace Mine
section
variable {prog : Program} {w : World} {F F' : Fm} {K K' X : Kn} {ρ ρ' : Ro prog w} {s s' : Shared} {α : Type} {Φ : Out → Ro prog w → Prop}

theorem not_mods {n : Nat} {a : Addr} (ok : Fok n F) (S : Sat F K X ρ s) (ha : s.heap.get? a = none) : (a == sysModules) = false := by
  rw [beq_eq_false_iff_ne]
  rintro rfl
  obtain ⟨o, ho⟩ := ok.mods
  have := S.kin _ _ (S.gk _ _ ho)
  rw [show hk s.heap sysModules = s.heap.get? sysModules from rfl, ha] at this; cases this

/-- the accumulator, read as a container -/
noncomputable def Bears (ac : Ac α) (c : α) (R : V prog w) : Prop := ∀ (K G : Kn) (a : Addr) (o : Obj), G a = some o → ac.rep K c o → (a == sysModules) = false → R.rd K G (.ref a)
theorem bears_list {Ps : List DP} : Bears (prog := prog) (w := w) acL Ps (.lst Ps) := fun K G a o hg ⟨vs, n, e, r⟩ _ => ⟨a, vs, n, rfl, e ▸ hg, r⟩
theorem bears_sdc {kvs : List (Str × DP)} : Bears (prog := prog) (w := w) (acD (strKind prog w)) kvs (.sdc kvs) := fun K G a o hg r hm => ⟨a, o, rfl, hg, hm, r⟩
theorem bears_idc {kvs : List (Int × DP)} : Bears (prog := prog) (w := w) (acD (intKind prog w)) kvs (.idc kvs) := fun K G a o hg r hm => ⟨a, o, rfl, hg, hm, r⟩

theorem clo_ok (S : Sat F K X ρ s) {scope : Scope} (sc : ScOk F scope ρ) : closureFor scope F.env = pure (cloOf F.env scope.names []) := closureFor_is fun p hp hf => by
  obtain ⟨h1, h2⟩ := sc.free p hp hf
  obtain ⟨V, hV⟩ := Option.isSome_iff_exists.mp h1
  obtain ⟨u, H, _⟩ := S.vars _ _ hV
  rcases H with ⟨hl, _⟩ | ⟨_, c, hc, _⟩
  · exact absurd hl h2
  · exact ⟨c, hc⟩

/-- what a comprehension is made of -/
structure CompOk (prog : Program) (w : World) (F : Fm) (ρ : Ro prog w) (e : PySem.Expr) (scope : Scope) (pos : Pos) (iter : PySem.Expr) (newAcc : Sem Value) (ac : Ac α) (c0 c1 : α) (Rv : V prog w) : Prop where
  ev : ∃ (R : V prog w) (Ps : List DP), Ev F iter ρ R ∧ Itr prog w F.A R Ps ∧ ∀ F', IsComp F scope F' → LoopOk prog w F' e 0 (seen scope ρ) Ps ac c0 c1
  cl : ∃ g gs, clausesOf e = g :: gs ∧ ∀ x, foldedSetIterable g.iter F.env x = pure x
  sc : ScOk F scope ρ
  new : NewOk prog w F.A newAcc ac c0
  start : ∀ (it acc : Value) (env : Env) (R : Result → Shared → Prop) (s : Shared), codeAny (model prog w) F.A (.compLoop e 0 it acc env) R s →
      wpAny (model prog w) F.A (pyIter it) (fun it' s' => codeAny (model prog w) F.A (.compLoop e 0 it' acc env) R s') (notedBy (model prog w) F.A env fun x s' => R (.error x) s') s →
      codeAny (model prog w) F.A (.compStart e 0 it acc env) R s
  bears : Bears ac c1 Rv
  own : Rv.own = true

theorem En.comp {n : Nat} {e : PySem.Expr} {scope : Scope} {pos : Pos} {iter : PySem.Expr} {newAcc : Sem Value} {ac : Ac α} {c0 c1 : α} {Rv : V prog w} (ok : Fok n F) (C : CompOk prog w F ρ e scope pos iter newAcc ac c0 c1 Rv)
    (he : eval e F.env = comprehension e scope F.env pos newAcc false (eval iter F.env)) : En F e ρ Rv := Wr.mk <| fun K X s Q E S k => by
  rw [he]
  obtain ⟨R, Ps, hi, it, loop⟩ := C.ev
  obtain ⟨g, gs, hcl, hs⟩ := C.cl
  refine wpAny_comprehension_free (use := none) hcl hs (clo_ok S C.sc) C.sc.kind C.sc.names (comp_core (RR := fun acc C => compPost (model prog w) F.A E none Q acc C) ok S hi it C.sc C.new C.start loop ?_)
  intro K' s' D Ca m o e' hD hrep hkD hnD hnC hkC hDC hn
  refine ⟨m, hn, fun h'' hs'' => ?_⟩
  have hDs : h''.get? D = some o := (hs''.2 D hDC).trans hD
  refine k K' { s' with heap := h'' } D ⟨⟨e'.rest.os, e'.rest.gens⟩, fun b o q => ?_, e'.le, e'.old, kle_same hs'' e'.kin hkC⟩ (C.bears K' _ D o hDs hrep (not_mods ok S hnD)) hkD hnD
  exact (hs''.2 b (by rintro rfl; rw [hnC] at q; cases q)).trans (e'.keep b o q)

/-- a comprehension that a local name of the same line takes at once -/
theorem Ex.comp {n : Nat} {e : PySem.Expr} {scope : Scope} {pos spos : Pos} {iter : PySem.Expr} {newAcc : Sem Value} {ac : Ac α} {c0 c1 : α} {Rv : V prog w} {y : Str} {py : Pos} (ok : Fok n F) (hy : F.env.kindOf y = some .local)
    (C : CompOk prog w F ρ e scope pos iter newAcc ac c0 c1 Rv) (h : Φ .next (upd ρ y Rv))
    (hu : ∀ u, evalThenUse e F.env u = (do let _ ← comprehension e scope F.env pos newAcc false (eval iter F.env) (some u)))
    (hsw : swapsWith e (some (.Name y py)) spos.line F.env = pure true := by with_unfolding_all rfl) : Ex F [.Assign [.Name y py] e spos] ρ Φ := Ex.last fun K X s Q E S k => by
  rw [exec_Assign_Name_used _ _ _ _ hsw, hu]
  obtain ⟨R, Ps, hi, it, loop⟩ := C.ev
  obtain ⟨g, gs, hcl, hs⟩ := C.cl
  refine wpAny_bind (wpAny_standAt (wpAny_bind (wpAny_bind (wpAny_mono (wpAny_comprehension_free (use := some (PySem.assign (.Name y py) F.env)) (Q := fun _ s' => Q .next s') hcl hs (clo_ok S C.sc) C.sc.kind C.sc.names
    (comp_core (RR := fun acc C => compPost (model prog w) F.A E (some (PySem.assign (.Name y py) F.env)) (fun _ s' => Q .next s') acc C) ok S hi it C.sc C.new C.start loop ?_)) (fun _ s' hq => wpAny_pure (wpAny_pure hq)) fun _ _ x => x))))
  intro K' s' D Ca m o e' hD hrep hkD hnD hnC hkC hDC hn
  have S' := S.ext e'
  have offC : Off F K' X ρ s' Ca := (Off.fresh S hnC).ext S hnC e' hkC
  have SX := S'.addX (wr := [Ca]) (fun b hb => by rw [List.mem_singleton.mp hb]; exact offC) S'.xin
  have hrd : Rv.rd K' (hk s'.heap) (.ref D) := C.bears K' _ D o hD hrep (not_mods ok S hnD)
  have ft := fit_new (x := y) S e' hrd hkD hnD
  have ftX : Fit F K' (addX X [Ca] s'.heap) ρ s' y (.ref D) Rv := ⟨ft.rd, fun q => by
    obtain ⟨a, e1, h1, h2, h3, h4⟩ := ft.own q
    cases e1
    exact ⟨D, rfl, h1, by rw [addX_out (by simpa using hDC)]; exact h2, h3, h4⟩⟩
  refine wpAny_assign_Name (store_name ok SX (.inl hy) ftX fun s₂ S₂ r₂ => ?_)
  obtain ⟨oc, es, ep, hoc, hdc⟩ := objN hn
  have hC2 : s₂.heap.get? Ca = some oc := S₂.xin Ca oc ((addX_in (List.mem_singleton.mpr rfl)).trans hoc)
  have off2 : Off F K' X (upd ρ y Rv) s₂ Ca := Off.of_addX (List.mem_singleton.mpr rfl) S₂ ⟨oc, hoc⟩ offC.x offC.k offC.c
  have S2 : Sat F K' X (upd ρ y Rv) s₂ := S₂.lessX fun a o q => by
    rw [addX_out (fun ha => by rw [List.mem_singleton.mp ha, offC.x] at q; cases q)]; exact q
  refine ⟨m, hn.at' fun o' q => by rw [hoc] at q; cases q; exact hC2, fun h'' hs'' => ?_⟩
  obtain ⟨S3, _⟩ := S2.touch (tk := s₂.toks) (wr := [Ca]) (h' := h'') (fun b hb => by rw [List.mem_singleton.mp hb]; exact off2) fun b o' hb q => (hs''.2 b (by simpa using hb)).trans q
  exact k K' { s₂ with heap := h'' } .next .next _ h rfl S3 ((e'.stp S.xin).trans ⟨⟨r₂.os, r₂.gens⟩, .refl _, fun _ _ _ => rfl⟩)

/-! ### the emits -/
theorem inn_list {elt : PySem.Expr} {D : Addr} {P : DP} {Ps : List DP} (h : Ez F elt ρ P) (hsz : Ps.length ≤ sizeLine) : Inn prog w F acL D ρ (emitL elt D F.env) Ps (Ps ++ [P]) := fun K X s Q E S off ⟨o, ho, vs, nn, e, al⟩ k => by
  subst e
  unfold emitL
  refine wpAny_bind (h.out K X s _ E S fun K₁ s₁ v e₁ hv => ?_)
  have S₁ := S.ext e₁
  have off₁ := Off.stay S off e₁ ⟨_, ho⟩
  have hl : s₁.heap.PlainList D vs.toArray := ⟨nn, e₁.keep _ _ ho⟩
  refine wpAny_bind (wpAny_list_append_plain hl (fun h' hl' hs' => ?_) (by rw [List.size_toArray, al.length]; exact hsz))
  obtain ⟨S2, off2⟩ := S₁.touch (tk := s₁.toks) (wr := [D]) (h' := h') (fun b hb => by rw [List.mem_singleton.mp hb]; exact off₁) fun b o hb q => (hs'.2 b (by simpa using hb)).trans q
  obtain ⟨n', ho'⟩ := hl'
  refine wpAny_pure (k K₁ _ S2 (off2 D (List.mem_singleton.mpr rfl)) ⟨_, ho', vs ++ [v], n', ?_, (al.mono e₁.le).append (Al.one hv)⟩ ((e₁.stp S.xin).trans ⟨⟨rfl, .refl _⟩, .refl _, fun _ _ _ => rfl⟩))
  simp [lObj]

/-- a dict with one more row -/
noncomputable def putK {κ : Type} [DecidableEq κ] (kvs : List (κ × DP)) (k : κ) (P : DP) : List (κ × DP) := if kvs.any (fun kv => kv.1 = k) then kvs.map (fun kv => if kv.1 = k then (kv.1, P) else kv) else kvs ++ [(k, P)]
theorem DRep.stored {κ : Type} [DecidableEq κ] {knd : KeyKind prog w κ} {kvs : List (κ × DP)} {kv : List (κ × Value)} {k : κ} {P : DP} {v : Value} (h1 : kv.map (·.1) = kvs.map (·.1)) (h2 : Al K (kvs.map (·.2)) (kv.map (·.2))) (hv : P.p K v) :
    (PySem.stored kv k v).map (·.1) = (putK kvs k P).map (·.1) ∧ Al K ((putK kvs k P).map (·.2)) ((PySem.stored kv k v).map (·.2)) := by
  have hany : kv.any (fun x => decide (x.1 = k)) = kvs.any (fun x => decide (x.1 = k)) := by
    have e : ∀ {β : Type} (l : List (κ × β)), l.any (fun x => decide (x.1 = k)) = (l.map (·.1)).any (fun x => decide (x = k)) := fun l => by rw [List.any_map]; rfl
    rw [e, e, h1]
  unfold PySem.stored putK
  rw [hany]
  split
  · rename_i hc
    clear hc hany
    induction kv generalizing kvs with
    | nil => cases kvs with
      | nil => exact ⟨rfl, .nil⟩
      | cons y r => cases h1
    | cons x r ih => cases kvs with
      | nil => cases h1
      | cons y q =>
        simp only [List.map_cons, List.cons.injEq] at h1
        cases h2 with
        | cons g1 g2 =>
          obtain ⟨i1, i2⟩ := ih h1.2 g2
          simp only [List.map_cons]
          by_cases hx : x.1 = k
          · have hy : y.1 = k := h1.1 ▸ hx
            rw [if_pos hx, if_pos hy]
            exact ⟨by rw [i1, h1.1], .cons hv i2⟩
          · have hy : ¬ y.1 = k := h1.1 ▸ hx
            rw [if_neg hx, if_neg hy]
            exact ⟨by rw [i1, h1.1], .cons g1 i2⟩
  · rw [List.map_append, List.map_append, List.map_append, List.map_append, h1]
    exact ⟨rfl, h2.append (Al.one hv)⟩
theorem DRep.length {κ : Type} [DecidableEq κ] {kvs : List (κ × DP)} {kv : List (κ × Value)} (h1 : kv.map (·.1) = kvs.map (·.1)) : kv.length = kvs.length := by
  have := congrArg List.length h1; simpa using this

theorem inn_dict {κ : Type} [DecidableEq κ] {knd : KeyKind prog w κ} {kx vx : PySem.Expr} {D : Addr} {Pk P : DP} {key : κ} {kvs : List (κ × DP)} (hkx : Ez F kx ρ Pk) (hkey : ∀ K v, Pk.p K v → knd.is key v = true) (hvx : Ez F vx ρ P) (hsz : kvs.length ≤ sizeLine) :
    Inn prog w F (acD knd) D ρ (emitD kx vx D F.env) kvs (putK kvs key P) := fun K X s Q E S off ⟨o, ho, hr⟩ k => by
  unfold emitD
  refine wpAny_bind (hkx.out K X s _ E S fun K₁ s₁ u e₁ hu => ?_)
  have S₁ := S.ext e₁
  refine wpAny_bind (wpAny_holding (hvx.out K₁ X s₁ _ E S₁ fun K₂ s₂ v e₂ hv => ?_))
  have S₂ := S₁.ext e₂
  have off₂ := Off.stay S₁ (Off.stay S off e₁ ⟨_, ho⟩) e₂ ⟨_, e₁.keep _ _ ho⟩
  obtain ⟨kv, hd, h1, h2⟩ := (hr.mono e₁.le).mono e₂.le
  have ho2 := e₂.keep _ _ (e₁.keep _ _ ho)
  have hD : s₂.heap.DictOf knd D kv := Heap.dictOf_iff.mpr ⟨o, ho2, hd⟩
  refine wpAny_bind (wpAny_standAt (wpAny_holding (wpAny_dictSet_pairs (hkey _ _ hu) hD (fun h' hd' hs' => ?_) (by rw [DRep.length h1]; exact hsz))))
  obtain ⟨S3, off3⟩ := S₂.touch (tk := s₂.toks + 1) (wr := [D]) (h' := h') (fun b hb => by rw [List.mem_singleton.mp hb]; exact off₂) fun b o hb q => (hs'.2 b (by simpa using hb)).trans q
  obtain ⟨o', ho', hd''⟩ := Heap.dictOf_iff.mp hd'
  obtain ⟨g1, g2⟩ := DRep.stored (knd := knd) (k := key) h1 h2 hv
  exact k K₂ _ S3 (off3 D (List.mem_singleton.mpr rfl)) ⟨o', ho', _, hd'', g1, g2⟩ (((e₁.trans e₂).stp S.xin).trans ⟨⟨rfl, .refl _⟩, .refl _, fun _ _ _ => rfl⟩)
end
end Mine
end
/-! part A9 -/
section
open PySem PySem.Calls PySem.Spec PyProof.Rows PySem.W
set_option Elab.async false
set_option linter.unusedVariables false
namespace Mine
section
variable {prog : Program} {w : World} {F F' : Fm} {K K' X : Kn} {ρ ρ' : Ro prog w} {s s' : Shared} {α β γ : Type} {Φ : Out → Ro prog w → Prop}

/-- a clause's own name -/
noncomputable def CompName (scope : Scope) (x : Str) : Prop := scope.names.lookup x = some .local ∨ scope.names.lookup x = some .cell
theorem CompName.own {scope : Scope} {x : Str} (h : CompName scope x) (C : IsComp F scope F') (hm : ∀ y, scope.names.lookup y = some .cell → y ∈ cellNames scope.names) : Own1 F' x := by
  rcases h with h | h
  · refine .inl ?_
    show F'.env.scope.names.lookup x = _
    rw [C.scope]
    show ((relabel scope F.env).names.lookup x) = _
    exact (lookup_relabel (env := F.env) scope.names).trans (by rw [h]; rfl)
  · exact .inr (by rw [C.mine]; exact hm x h)
theorem mem_cellNames {names : List (Str × NameKind)} {y : Str} (h : names.lookup y = some .cell) : y ∈ cellNames names := by
  unfold cellNames
  exact List.mem_map.mpr ⟨(y, .cell), List.mem_filter.mpr ⟨mem_of_lookup h, rfl⟩, rfl⟩
theorem CompName.unseen {scope : Scope} {x : Str} (h : CompName scope x) : seen scope ρ x = none := by
  unfold seen
  rw [if_neg]
  rcases h with h | h <;> rw [h] <;> intro e <;> cases e

theorem take_filter (xs : List α) (t : α → Bool) (f : α → γ) (i : Nat) (a : α) (h : xs[i]? = some a) :
    ((xs.take (i + 1)).filter t).map f = ((xs.take i).filter t).map f ++ (if t a then [f a] else []) := by
  rw [List.take_add_one, h, Option.toList, List.filter_append, List.map_append, List.filter_cons, List.filter_nil]
  split <;> rfl
theorem len_filter_le (xs : List α) (t : α → Bool) (f : α → γ) (i : Nat) : (((xs.take i).filter t).map f).length ≤ xs.length := by
  rw [List.length_map]
  exact Nat.le_trans (List.length_filter_le _ _) (by rw [List.length_take]; exact Nat.min_le_right _ _)

/-- the last clause: what its items give -/
theorem loop_list {n : Nat} {elt iter : PySem.Expr} {x : Str} {px : Pos} {ifs : List PySem.Expr} {e : PySem.Expr} {d : Nat} {xs : List α} {pv el : α → DP} {tb : α → Bool} {pre : List DP} (ok : Fok n F) (hx : Own1 F x) (hρ : ρ x = none)
    (hct : ∀ I D, compTurn e d (.ref I) (.ref D) F.env = cTurn (.Name x px) iter.pos ifs (emitL elt D F.env) (.compLoop e d (.ref I) (.ref D) F.env) (.ref I) F.env)
    (hfr : ∀ I D, (Code.compLoop e d (.ref I) (.ref D) F.env).isFrame = false) (hun : ∀ I D, F.A.under (Code.compLoop e d (.ref I) (.ref D) F.env) = F.A)
    (elts : ∀ a ∈ xs, Tst F (upd ρ x (.frz (pv a))) ifs (tb a) ∧ (tb a = true → Ez F elt (upd ρ x (.frz (pv a))) (el a))) (hsz : pre.length + xs.length ≤ sizeLine) :
    LoopOk prog w F e d ρ (xs.map pv) acL pre (pre ++ (xs.filter tb).map el) := fun K₁ K X s I D fp wr St Rr W hob hfp hDw S le offw offD st0 hacc hR => by
  have at' : ∀ {i : Nat} {P : DP}, (xs.map pv)[i]? = some P → ∃ a, xs[i]? = some a ∧ a ∈ xs ∧ P = pv a := fun {i P} h => by
    rw [List.getElem?_map] at h
    obtain ⟨a, ha, rfl⟩ := Option.map_eq_some_iff.mp h
    exact ⟨a, ha, List.mem_of_getElem? ha, rfl⟩
  refine comp_loop (ac := acL) (c := fun i => pre ++ ((xs.take i).filter tb).map el) (bt := fun i => (xs[i]?).any tb) ok hx hρ (hct I D) (hfr I D) (hun I D) W hob hfp hDw ?_ ?_ ?_ S le offw offD st0 (by simpa using hacc) fun K' s' S' o' ha st => hR K' s' S' o' (by simpa using ha) st
  · intro i P hP
    obtain ⟨a, ha, hm, rfl⟩ := at' hP
    rw [ha]
    exact (elts a hm).1
  · intro i P hP hb
    obtain ⟨a, ha, hm, rfl⟩ := at' hP
    rw [ha] at hb
    have hb' : tb a = true := hb
    rw [take_filter _ _ _ _ _ ha, if_pos hb', ← List.append_assoc]
    exact inn_list ((elts a hm).2 hb') (by
      rw [List.length_append]
      exact Nat.le_trans (Nat.add_le_add_left (len_filter_le _ _ _ _) _) hsz)
  · intro i hb
    cases q : xs[i]? with
    | none =>
      try dsimp only
      have hl : xs.length ≤ i := List.getElem?_eq_none_iff.mp q
      rw [List.take_of_length_le hl, List.take_of_length_le (Nat.le_succ_of_le hl)]
    | some a =>
      rw [q] at hb
      have hb' : tb a = false := hb
      try dsimp only
      rw [take_filter _ _ _ _ _ q, hb', if_neg Bool.false_ne_true, List.append_nil]

noncomputable def putAll {κ : Type} [DecidableEq κ] (kvs l : List (κ × DP)) : List (κ × DP) := l.foldl (fun acc p => putK acc p.1 p.2) kvs
theorem putK_len {κ : Type} [DecidableEq κ] (kvs : List (κ × DP)) (k : κ) (P : DP) : (putK kvs k P).length ≤ kvs.length + 1 := by
  unfold putK
  split
  · rw [List.length_map]; exact Nat.le_succ _
  · rw [List.length_append]; exact Nat.le_refl _
theorem putAll_len {κ : Type} [DecidableEq κ] : ∀ (l kvs : List (κ × DP)), (putAll kvs l).length ≤ kvs.length + l.length
  | [], kvs => Nat.le_refl _
  | p :: r, kvs => by
    have h1 := putAll_len r (putK kvs p.1 p.2)
    have h2 := putK_len kvs p.1 p.2
    show (putAll (putK kvs p.1 p.2) r).length ≤ kvs.length + (r.length + 1)
    omega
theorem putAll_snoc {κ : Type} [DecidableEq κ] (kvs l l' : List (κ × DP)) : putAll kvs (l ++ l') = putAll (putAll kvs l) l' := List.foldl_append ..

theorem loop_dict {κ : Type} [DecidableEq κ] {knd : KeyKind prog w κ} {n : Nat} {kx vx iter : PySem.Expr} {x : Str} {px : Pos} {ifs : List PySem.Expr} {e : PySem.Expr} {d : Nat} {xs : List α} {pv kp el : α → DP} {key : α → κ} {tb : α → Bool} {pre : List (κ × DP)} (ok : Fok n F) (hx : Own1 F x) (hρ : ρ x = none)
    (hct : ∀ I D, compTurn e d (.ref I) (.ref D) F.env = cTurn (.Name x px) iter.pos ifs (emitD kx vx D F.env) (.compLoop e d (.ref I) (.ref D) F.env) (.ref I) F.env)
    (hfr : ∀ I D, (Code.compLoop e d (.ref I) (.ref D) F.env).isFrame = false) (hun : ∀ I D, F.A.under (Code.compLoop e d (.ref I) (.ref D) F.env) = F.A)
    (elts : ∀ a ∈ xs, Tst F (upd ρ x (.frz (pv a))) ifs (tb a) ∧ (tb a = true → Ez F kx (upd ρ x (.frz (pv a))) (kp a) ∧ (∀ K v, (kp a).p K v → knd.is (key a) v = true) ∧ Ez F vx (upd ρ x (.frz (pv a))) (el a))) (hsz : pre.length + xs.length ≤ sizeLine) :
    LoopOk prog w F e d ρ (xs.map pv) (acD knd) pre (putAll pre ((xs.filter tb).map fun a => (key a, el a))) := fun K₁ K X s I D fp wr St Rr W hob hfp hDw S le offw offD st0 hacc hR => by
  have at' : ∀ {i : Nat} {P : DP}, (xs.map pv)[i]? = some P → ∃ a, xs[i]? = some a ∧ a ∈ xs ∧ P = pv a := fun {i P} h => by
    rw [List.getElem?_map] at h
    obtain ⟨a, ha, rfl⟩ := Option.map_eq_some_iff.mp h
    exact ⟨a, ha, List.mem_of_getElem? ha, rfl⟩
  refine comp_loop (ac := acD knd) (c := fun i => putAll pre (((xs.take i).filter tb).map fun a => (key a, el a))) (bt := fun i => (xs[i]?).any tb) ok hx hρ (hct I D) (hfr I D) (hun I D) W hob hfp hDw ?_ ?_ ?_ S le offw offD st0 (by simpa [putAll] using hacc) fun K' s' S' o' ha st => hR K' s' S' o' (by simpa using ha) st
  · intro i P hP
    obtain ⟨a, ha, hm, rfl⟩ := at' hP
    rw [ha]
    exact (elts a hm).1
  · intro i P hP hb
    obtain ⟨a, ha, hm, rfl⟩ := at' hP
    rw [ha] at hb
    have hb' : tb a = true := hb
    rw [take_filter _ _ _ _ _ ha, if_pos hb', putAll_snoc]
    obtain ⟨h1, h2, h3⟩ := (elts a hm).2 hb'
    exact inn_dict h1 h2 h3 (Nat.le_trans (putAll_len _ _) (Nat.le_trans (Nat.add_le_add_left (len_filter_le _ _ _ _) _) hsz))
  · intro i hb
    cases q : xs[i]? with
    | none =>
      try dsimp only
      have hl : xs.length ≤ i := List.getElem?_eq_none_iff.mp q
      rw [List.take_of_length_le hl, List.take_of_length_le (Nat.le_succ_of_le hl)]
    | some a =>
      rw [q] at hb
      have hb' : tb a = false := hb
      try dsimp only
      rw [take_filter _ _ _ _ _ q, hb', if_neg Bool.false_ne_true, List.append_nil]

/-- a clause within a clause -/
theorem inn_into {n : Nat} {e iter : PySem.Expr} {D : Addr} {R : V prog w} {Ps : List DP} {ac : Ac γ} {c c' : γ} (ok : Fok n F) (hi : Ev F iter ρ R) (it : Itr prog w F.A R Ps) (hs : ∀ x, foldedSetIterable iter F.env x = pure x)
    (loop : LoopOk prog w F e 1 ρ Ps ac c c')
    (hstart : ∀ (it acc : Value) (env : Env) (R : Result → Shared → Prop) (s : Shared), codeAny (model prog w) F.A (.compLoop e 1 it acc env) R s →
      wpAny (model prog w) F.A (pyIter it) (fun it' s' => codeAny (model prog w) F.A (.compLoop e 1 it' acc env) R s') (notedBy (model prog w) F.A env fun x s' => R (.error x) s') s →
      codeAny (model prog w) F.A (.compStart e 1 it acc env) R s) (hm : F.A.mark none = F.A := by rfl) :
    Inn prog w F ac D ρ (into e iter D F.env) c c' := fun K X s Q E S off ⟨o, ho, hr⟩ k => by
  unfold into
  refine wpAny_bind (hi.out K X s _ E S fun K₁ s₁ v e₁ hv => wpAny_bind (wpAny_standAt ?_))
  rw [hs v]
  refine wpAny_bind (wpAny_pure (wpAny_bind (wpAny_holding ?_)))
  have S₁ := S.ext e₁
  have off₁ := Off.stay S off e₁ ⟨_, ho⟩
  refine it K₁ s₁ v _ E S₁.kin hv fun I fp wr St h' tk W st0 keep hnewr hob hfp => ?_
  have e₂ : Ext s₁ { s₁ with heap := h', toks := tk } K₁ K₁ := .grow S₁.kin keep
  have S₂ := S₁.ext e₂
  have off₂ := Off.stay S₁ off₁ e₂ ⟨_, e₁.keep _ _ ho⟩
  have hDw : D ∉ wr := fun hb => by have := hnewr D hb; rw [e₁.keep _ _ ho] at this; cases this
  refine wpAny_bind (wpAny_runOwn ?_)
  rw [hm]
  have go : codeAny (model prog w) F.A (.compLoop e 1 (.ref I) (.ref D) F.env) (fun r s' => match r with | .ok f => wpAny (model prog w) F.A (pure () : Sem Unit) Q E s' | .error e => cameBackBy (model prog w) F.A F.env E e s') { s₁ with heap := h', toks := tk } :=
    loop K₁ K₁ X _ I D fp wr St _ W hob hfp hDw S₂ (.refl _) (fun b hb => (Off.fresh S₁ (hnewr b hb)).ext S₁ (hnewr b hb) e₂ (Off.fresh S₁ (hnewr b hb)).k) off₂ st0 ⟨o, keep _ _ (e₁.keep _ _ ho), ac.mono e₁.le hr⟩
      fun K' s' S' o' ha st => wpAny_pure (k K' s' S' o' ha (((e₁.trans e₂).stp S.xin).trans st))
  exact hstart _ _ _ _ _ go (W.self 0 _ _ _ st0 go)

theorem start_l2 {A : Around} {elt t1 i1 t2 i2 : PySem.Expr} {f1 f2 : List PySem.Expr} {scope : Scope} {pos : Pos} (it acc : Value) (env : Env) (R : Result → Shared → Prop) (s : Shared)
    (h0 : codeAny (model prog w) A (.compLoop (.ListComp elt [⟨t1, i1, f1, 0⟩, ⟨t2, i2, f2, 0⟩] scope pos) 1 it acc env) R s)
    (h : wpAny (model prog w) A (pyIter it) (fun it' s' => codeAny (model prog w) A (.compLoop (.ListComp elt [⟨t1, i1, f1, 0⟩, ⟨t2, i2, f2, 0⟩] scope pos) 1 it' acc env) R s') (notedBy (model prog w) A env fun x s' => R (.error x) s') s) :
    codeAny (model prog w) A (.compStart (.ListComp elt [⟨t1, i1, f1, 0⟩, ⟨t2, i2, f2, 0⟩] scope pos) 1 it acc env) R s := by
  refine codeAny_of_tree ?_
  show wpAny _ A ((compStart (.ListComp elt [⟨t1, i1, f1, 0⟩, ⟨t2, i2, f2, 0⟩] scope pos) 1 it acc env).onRaise (fun x => do noteFrame x env; standAt theWindowsPlace)) _ _ s
  refine wpAny_notedAt ?_
  unfold compStart
  show wpAny _ _ (ask >>= _) _ _ s
  refine wpAny_bind (wpAny_askSetting (wpAny_ite ?_))
  split
  · first
      | exact wpAny_bind (wpAny_pure (wpAny_pure (And.intro rfl h0)))
      | exact wpAny_pure (And.intro rfl h0)
  · refine wpAny_bind (wpAny_rule ?_)
    show wpAny _ _ (standAt i2.pos >>= _) _ _ s
    exact wpAny_bind (wpAny_standAt (wpAny_bind (wpAny_mono h (fun it' s' h' => wpAny_pure (And.intro rfl h')) fun _ _ x => x)))
theorem start_d2 {A : Around} {kx vx t1 i1 t2 i2 : PySem.Expr} {f1 f2 : List PySem.Expr} {scope : Scope} {pos : Pos} (it acc : Value) (env : Env) (R : Result → Shared → Prop) (s : Shared)
    (h0 : codeAny (model prog w) A (.compLoop (.DictComp kx vx [⟨t1, i1, f1, 0⟩, ⟨t2, i2, f2, 0⟩] scope pos) 1 it acc env) R s)
    (h : wpAny (model prog w) A (pyIter it) (fun it' s' => codeAny (model prog w) A (.compLoop (.DictComp kx vx [⟨t1, i1, f1, 0⟩, ⟨t2, i2, f2, 0⟩] scope pos) 1 it' acc env) R s') (notedBy (model prog w) A env fun x s' => R (.error x) s') s) :
    codeAny (model prog w) A (.compStart (.DictComp kx vx [⟨t1, i1, f1, 0⟩, ⟨t2, i2, f2, 0⟩] scope pos) 1 it acc env) R s := by
  refine codeAny_of_tree ?_
  show wpAny _ A ((compStart (.DictComp kx vx [⟨t1, i1, f1, 0⟩, ⟨t2, i2, f2, 0⟩] scope pos) 1 it acc env).onRaise (fun x => do noteFrame x env; standAt theWindowsPlace)) _ _ s
  refine wpAny_notedAt ?_
  unfold compStart
  show wpAny _ _ (ask >>= _) _ _ s
  refine wpAny_bind (wpAny_askSetting (wpAny_ite ?_))
  split
  · first
      | exact wpAny_bind (wpAny_pure (wpAny_pure (And.intro rfl h0)))
      | exact wpAny_pure (And.intro rfl h0)
  · refine wpAny_bind (wpAny_rule ?_)
    show wpAny _ _ (standAt i2.pos >>= _) _ _ s
    exact wpAny_bind (wpAny_standAt (wpAny_bind (wpAny_mono h (fun it' s' h' => wpAny_pure (And.intro rfl h')) fun _ _ x => x)))

/-- the outer of two clauses -/
theorem loop_outer {n : Nat} {iter iter2 : PySem.Expr} {x : Str} {px : Pos} {e : PySem.Expr} {xs : List α} {pv : α → DP} {ac : Ac γ} {c : List α → γ} (ok : Fok n F) (hx : Own1 F x) (hρ : ρ x = none)
    (hct : ∀ I D, compTurn e 0 (.ref I) (.ref D) F.env = cTurn (.Name x px) iter.pos [] (into e iter2 D F.env) (.compLoop e 0 (.ref I) (.ref D) F.env) (.ref I) F.env)
    (hfr : ∀ I D, (Code.compLoop e 0 (.ref I) (.ref D) F.env).isFrame = false) (hun : ∀ I D, F.A.under (Code.compLoop e 0 (.ref I) (.ref D) F.env) = F.A)
    (hs : ∀ x, foldedSetIterable iter2 F.env x = pure x)
    (hstart : ∀ (it acc : Value) (env : Env) (R : Result → Shared → Prop) (s : Shared), codeAny (model prog w) F.A (.compLoop e 1 it acc env) R s →
      wpAny (model prog w) F.A (pyIter it) (fun it' s' => codeAny (model prog w) F.A (.compLoop e 1 it' acc env) R s') (notedBy (model prog w) F.A env fun x s' => R (.error x) s') s →
      codeAny (model prog w) F.A (.compStart e 1 it acc env) R s)
    (elts : ∀ pre a post, xs = pre ++ a :: post → ∃ (R : V prog w) (Ps : List DP), Ev F iter2 (upd ρ x (.frz (pv a))) R ∧ Itr prog w F.A R Ps ∧ LoopOk prog w F e 1 (upd ρ x (.frz (pv a))) Ps ac (c pre) (c (pre ++ [a]))) (hm : F.A.mark none = F.A := by rfl) :
    LoopOk prog w F e 0 ρ (xs.map pv) ac (c []) (c xs) := fun K₁ K X s I D fp wr St Rr W hob hfp hDw S le offw offD st0 hacc hR => by
  refine comp_loop (ac := ac) (c := fun i => c (xs.take i)) (bt := fun _ => true) ok hx hρ (hct I D) (hfr I D) (hun I D) W hob hfp hDw (fun _ _ _ => Tst.nil) ?_ (fun i h => nomatch h) S le offw offD st0 (by simpa using hacc) fun K' s' S' o' ha st => hR K' s' S' o' (by simpa using ha) st
  intro i P hP _
  rw [List.getElem?_map] at hP
  obtain ⟨a, ha, rfl⟩ := Option.map_eq_some_iff.mp hP
  have hsplit : xs = xs.take i ++ a :: xs.drop (i + 1) := by
    have hlt : i < xs.length := (List.getElem?_eq_some_iff.mp ha).1
    have : xs[i] = a := (List.getElem?_eq_some_iff.mp ha).2
    rw [← this, ← List.drop_eq_getElem_cons hlt, List.take_append_drop]
  obtain ⟨R, Ps, h1, h2, h3⟩ := elts _ _ _ hsplit
  have := inn_into (D := D) ok h1 h2 hs h3 hstart hm
  rw [show xs.take (i + 1) = xs.take i ++ [a] by rw [List.take_add_one, ha]; rfl]
  exact this
end
end Mine
end
/-! part A10 -/
section
open PySem PySem.Calls PySem.Spec PyProof.Rows PySem.W
set_option Elab.async false
set_option linter.unusedVariables false
namespace Mine
section
variable {prog : Program} {w : World} {F F' : Fm} {K K' X : Kn} {ρ ρ' : Ro prog w} {s s' : Shared} {α β γ : Type} {Φ : Out → Ro prog w → Prop}

theorem filter_tt (l : List α) : l.filter (fun _ => true) = l := List.filter_eq_self.mpr fun _ _ => rfl
theorem IsComp.cn {n : Nat} {scope : Scope} {x : Str} (C : IsComp F scope F') (h : CompName scope x) : Own1 F' x := h.own C fun y hy => mem_cellNames hy

/-- [elt for x in iter if ..] -/
theorem compL1 {n : Nat} {elt iter : PySem.Expr} {x : Str} {px : Pos} {ifs : List PySem.Expr} {scope : Scope} {pos p2 : Pos} {R : V prog w} (xs : List α) (pv el : α → DP) (tb : α → Bool) (ok : Fok n F)
    (hi : Ev F iter ρ R) (it : Itr prog w F.A R (xs.map pv)) (sc : ScOk F scope ρ) (hx : CompName scope x)
    (elts : ∀ F', IsComp F scope F' → Fok n F' → ∀ a ∈ xs, Tst F' (upd (seen scope ρ) x (.frz (pv a))) ifs (tb a) ∧ (tb a = true → Ez F' elt (upd (seen scope ρ) x (.frz (pv a))) (el a))) (hsz : xs.length ≤ sizeLine)
    (hs : ∀ x, foldedSetIterable iter F.env x = pure x := by intro _; with_unfolding_all rfl) :
    CompOk prog w F ρ (.ListComp elt [⟨.Name x px, iter, ifs, 0⟩] scope pos) scope p2 iter (newList []) acL [] ((xs.filter tb).map el) (.lst ((xs.filter tb).map el)) where
  ev := ⟨R, _, hi, it, fun F' C => by
    have := loop_list (pre := []) (d := 0) (C.fok ok sc.kind) (C.cn (n := n) hx) hx.unseen (fun I D => cTurn_l1 elt (.Name x px) iter ifs scope pos (.ref I) D F'.env) (fun _ _ => rfl) (fun _ _ => rfl) (elts F' C (C.fok ok sc.kind)) (by simpa using hsz)
    simpa using this⟩
  cl := ⟨_, _, rfl, hs⟩
  sc := sc
  new := new_list
  start := fun it acc env R s h0 h => codeAny_compStart_list h0 h
  bears := bears_list
  own := rfl
theorem compD1 {κ : Type} [DecidableEq κ] {knd : KeyKind prog w κ} {n : Nat} {kx vx iter : PySem.Expr} {x : Str} {px : Pos} {ifs : List PySem.Expr} {scope : Scope} {pos p2 : Pos} {R Rv : V prog w} (xs : List α) (pv kp el : α → DP) (key : α → κ) (tb : α → Bool) (ok : Fok n F)
    (hi : Ev F iter ρ R) (it : Itr prog w F.A R (xs.map pv)) (sc : ScOk F scope ρ) (hx : CompName scope x)
    (elts : ∀ F', IsComp F scope F' → Fok n F' → ∀ a ∈ xs, Tst F' (upd (seen scope ρ) x (.frz (pv a))) ifs (tb a) ∧
      (tb a = true → Ez F' kx (upd (seen scope ρ) x (.frz (pv a))) (kp a) ∧ (∀ K v, (kp a).p K v → knd.is (key a) v = true) ∧ Ez F' vx (upd (seen scope ρ) x (.frz (pv a))) (el a))) (hsz : xs.length ≤ sizeLine)
    (hb : Bears (acD knd) (putAll [] ((xs.filter tb).map fun a => (key a, el a))) Rv) (ho : Rv.own = true)
    (hs : ∀ x, foldedSetIterable iter F.env x = pure x := by intro _; with_unfolding_all rfl) :
    CompOk prog w F ρ (.DictComp kx vx [⟨.Name x px, iter, ifs, 0⟩] scope pos) scope p2 iter newDict (acD knd) [] (putAll [] ((xs.filter tb).map fun a => (key a, el a))) Rv where
  ev := ⟨R, _, hi, it, fun F' C => loop_dict (d := 0) (C.fok ok sc.kind) (C.cn (n := n) hx) hx.unseen (fun I D => cTurn_d1 kx vx (.Name x px) iter ifs scope pos (.ref I) D F'.env) (fun _ _ => rfl) (fun _ _ => rfl) (elts F' C (C.fok ok sc.kind)) (by simpa using hsz)⟩
  cl := ⟨_, _, rfl, hs⟩
  sc := sc
  new := new_dict knd
  start := fun it acc env R s h0 h => codeAny_compStart_dict h0 h
  bears := hb
  own := ho
theorem compL2 {n : Nat} {elt iter i2 : PySem.Expr} {x y : Str} {px py : Pos} {scope : Scope} {pos p2 : Pos} {R : V prog w} (xs : List α) (ys : α → List β) (pv : α → DP) (pw el : α → β → DP) (ok : Fok n F)
    (hi : Ev F iter ρ R) (it : Itr prog w F.A R (xs.map pv)) (sc : ScOk F scope ρ) (hx : CompName scope x) (hy : CompName scope y) (hxy : y ≠ x)
    (elts : ∀ F', IsComp F scope F' → Fok n F' → ∀ a ∈ xs, (∃ R : V prog w, Ev F' i2 (upd (seen scope ρ) x (.frz (pv a))) R ∧ Itr prog w F'.A R ((ys a).map (pw a))) ∧
      ∀ b ∈ ys a, Ez F' elt (upd (upd (seen scope ρ) x (.frz (pv a))) y (.frz (pw a b))) (el a b))
    (hsz : (xs.flatMap fun a => (ys a).map (el a)).length ≤ sizeLine)
    (hs : ∀ x, foldedSetIterable iter F.env x = pure x := by intro _; with_unfolding_all rfl) (hs2 : ∀ F', IsComp F scope F' → ∀ x, foldedSetIterable i2 F'.env x = pure x := by intro _ _ _; with_unfolding_all rfl) (hm : F.A.mark none = F.A := by rfl) :
    CompOk prog w F ρ (.ListComp elt [⟨.Name x px, iter, [], 0⟩, ⟨.Name y py, i2, [], 0⟩] scope pos) scope p2 iter (newList []) acL [] (xs.flatMap fun a => (ys a).map (el a)) (.lst (xs.flatMap fun a => (ys a).map (el a))) where
  ev := ⟨R, _, hi, it, fun F' C => by
    have ok' := C.fok ok sc.kind
    have hm' : F'.A.mark none = F'.A := by rw [C.A]; exact hm
    refine loop_outer (n := n) (c := fun pre => pre.flatMap fun a => (ys a).map (el a)) ok' (C.cn (n := n) hx) hx.unseen (fun I D => cTurn_l2 elt (.Name x px) iter [] (.Name y py) i2 [] scope pos (.ref I) D F'.env) (fun _ _ => rfl) (fun _ _ => rfl)
      (hs2 F' C) (fun it acc env R s h0 h => start_l2 it acc env R s h0 h) ?_ hm'
    intro pre a post hsp
    have ha : a ∈ xs := by rw [hsp]; exact List.mem_append.mpr (.inr List.mem_cons_self)
    obtain ⟨⟨R2, h1, h2⟩, h3⟩ := elts F' C ok' a ha
    refine ⟨R2, _, h1, h2, ?_⟩
    have hun : upd (seen scope ρ) x (.frz (pv a)) y = none := by rw [upd_ne _ _ hxy]; exact hy.unseen
    have hlen : (pre.flatMap fun a => (ys a).map (el a)).length + (ys a).length ≤ sizeLine := by
      refine Nat.le_trans ?_ hsz
      rw [hsp, List.flatMap_append, List.flatMap_cons, List.length_append, List.length_append, List.length_map]
      omega
    have := loop_list (F := F') (d := 1) (e := .ListComp elt [⟨.Name x px, iter, [], 0⟩, ⟨.Name y py, i2, [], 0⟩] scope pos) (xs := ys a) (pv := pw a) (el := el a) (tb := fun _ => true) (pre := pre.flatMap fun a => (ys a).map (el a)) ok' (C.cn (n := n) hy) hun
      (fun I D => cTurn_l3 elt (.Name x px) iter [] (.Name y py) i2 [] scope pos (.ref I) D F'.env) (fun _ _ => rfl) (fun _ _ => rfl) (fun b hb => ⟨Tst.nil, fun _ => h3 b hb⟩) hlen
    have e : (pre ++ [a]).flatMap (fun a => (ys a).map (el a)) = (pre.flatMap fun a => (ys a).map (el a)) ++ (ys a).map (el a) := by
      rw [List.flatMap_append, List.flatMap_cons, List.flatMap_nil, List.append_nil]
    rw [e]
    rw [filter_tt] at this
    exact this⟩
  cl := ⟨_, _, rfl, hs⟩
  sc := sc
  new := new_list
  start := fun it acc env R s h0 h => codeAny_compStart_list h0 h
  bears := bears_list
  own := rfl
theorem compD2 {κ : Type} [DecidableEq κ] {knd : KeyKind prog w κ} {n : Nat} {kx vx iter i2 : PySem.Expr} {x y : Str} {px py : Pos} {scope : Scope} {pos p2 : Pos} {R Rv : V prog w} (xs : List α) (ys : α → List β) (pv : α → DP) (pw kp el : α → β → DP) (key : α → β → κ) (ok : Fok n F)
    (hi : Ev F iter ρ R) (it : Itr prog w F.A R (xs.map pv)) (sc : ScOk F scope ρ) (hx : CompName scope x) (hy : CompName scope y) (hxy : y ≠ x)
    (elts : ∀ F', IsComp F scope F' → Fok n F' → ∀ a ∈ xs, (∃ R : V prog w, Ev F' i2 (upd (seen scope ρ) x (.frz (pv a))) R ∧ Itr prog w F'.A R ((ys a).map (pw a))) ∧
      ∀ b ∈ ys a, Ez F' kx (upd (upd (seen scope ρ) x (.frz (pv a))) y (.frz (pw a b))) (kp a b) ∧ (∀ K v, (kp a b).p K v → knd.is (key a b) v = true) ∧ Ez F' vx (upd (upd (seen scope ρ) x (.frz (pv a))) y (.frz (pw a b))) (el a b))
    (hsz : (xs.flatMap fun a => (ys a).map fun b => (key a b, el a b)).length ≤ sizeLine)
    (hb : Bears (acD knd) (putAll [] (xs.flatMap fun a => (ys a).map fun b => (key a b, el a b))) Rv) (ho : Rv.own = true)
    (hs : ∀ x, foldedSetIterable iter F.env x = pure x := by intro _; with_unfolding_all rfl) (hs2 : ∀ F', IsComp F scope F' → ∀ x, foldedSetIterable i2 F'.env x = pure x := by intro _ _ _; with_unfolding_all rfl) (hm : F.A.mark none = F.A := by rfl) :
    CompOk prog w F ρ (.DictComp kx vx [⟨.Name x px, iter, [], 0⟩, ⟨.Name y py, i2, [], 0⟩] scope pos) scope p2 iter newDict (acD knd) [] (putAll [] (xs.flatMap fun a => (ys a).map fun b => (key a b, el a b))) Rv where
  ev := ⟨R, _, hi, it, fun F' C => by
    have ok' := C.fok ok sc.kind
    have hm' : F'.A.mark none = F'.A := by rw [C.A]; exact hm
    refine loop_outer (n := n) (c := fun pre => putAll [] (pre.flatMap fun a => (ys a).map fun b => (key a b, el a b))) ok' (C.cn (n := n) hx) hx.unseen (fun I D => cTurn_d2 kx vx (.Name x px) iter [] (.Name y py) i2 [] scope pos (.ref I) D F'.env) (fun _ _ => rfl) (fun _ _ => rfl)
      (hs2 F' C) (fun it acc env R s h0 h => start_d2 it acc env R s h0 h) ?_ hm'
    intro pre a post hsp
    have ha : a ∈ xs := by rw [hsp]; exact List.mem_append.mpr (.inr List.mem_cons_self)
    obtain ⟨⟨R2, h1, h2⟩, h3⟩ := elts F' C ok' a ha
    refine ⟨R2, _, h1, h2, ?_⟩
    have hun : upd (seen scope ρ) x (.frz (pv a)) y = none := by rw [upd_ne _ _ hxy]; exact hy.unseen
    have hlen : (putAll [] (pre.flatMap fun a => (ys a).map fun b => (key a b, el a b))).length + (ys a).length ≤ sizeLine := by
      refine Nat.le_trans ?_ hsz
      have := putAll_len (pre.flatMap fun a => (ys a).map fun b => (key a b, el a b)) []
      rw [hsp, List.flatMap_append, List.flatMap_cons, List.length_append, List.length_append, List.length_map]
      simp only [List.length_nil, Nat.zero_add] at this
      omega
    have := loop_dict (knd := knd) (F := F') (d := 1) (e := .DictComp kx vx [⟨.Name x px, iter, [], 0⟩, ⟨.Name y py, i2, [], 0⟩] scope pos) (xs := ys a) (pv := pw a) (kp := kp a) (el := el a) (key := key a) (tb := fun _ => true) (pre := putAll [] (pre.flatMap fun a => (ys a).map fun b => (key a b, el a b))) ok' (C.cn (n := n) hy) hun
      (fun I D => cTurn_d3 kx vx (.Name x px) iter [] (.Name y py) i2 [] scope pos (.ref I) D F'.env) (fun _ _ => rfl) (fun _ _ => rfl) (fun b hb => ⟨Tst.nil, fun _ => h3 b hb⟩) hlen
    have e : (pre ++ [a]).flatMap (fun a => (ys a).map fun b => (key a b, el a b)) = (pre.flatMap fun a => (ys a).map fun b => (key a b, el a b)) ++ (ys a).map fun b => (key a b, el a b) := by
      rw [List.flatMap_append, List.flatMap_cons, List.flatMap_nil, List.append_nil]
    rw [e, putAll_snoc]
    rw [filter_tt] at this
    exact this⟩
  cl := ⟨_, _, rfl, hs⟩
  sc := sc
  new := new_dict knd
  start := fun it acc env R s h0 h => codeAny_compStart_dict h0 h
  bears := hb
  own := ho
end
end Mine
end
/-! part A11 -/
section
open PySem PySem.Calls PySem.Spec PyProof.Rows PySem.W
set_option Elab.async false
set_option linter.unusedVariables false
namespace Mine

/-! ### the start's names -/
structure Gl (g : Heap) (mg mb : Str → Option Value) : Prop where
  gl : g.Ns mainGlobals mg
  bu : g.Ns builtinsNs mb
  lim : g.NoLimit
  boot : ∀ x : Str, x ≠ "__name__" → mb x = bootBuiltins x

section
variable {prog : Program} {w : World} {F F' : Fm} {K K' X : Kn} {ρ ρ' : Ro prog w} {s s' : Shared} {α β γ : Type} {Φ : Out → Ro prog w → Prop} {mg mb : Str → Option Value}

theorem hk_keeps {g h : Heap} (h1 : Kle (hk g) K) (h2 : Kle K (hk h)) : ∀ b o, g.get? b = some o → h.get? b = some o := fun b o e => h2 b o (h1 b o e)

/-- a global name's value -/
theorem eval_glob {n : Nat} {x : Str} {pos : Pos} {v : Value} {Q E : Value → Shared → Prop} (ok : Fok n F) (G : Gl F.g mg mb) (S : Sat F K X ρ s) (hx : F.env.kindOf x = some .globalImplicit) (hv : mg x = some v) (h : Q v s)
    (hd : (x == ("__debug__" : Str)) = false := by decide) : wpAny (model prog w) F.A (eval (.Name x pos) F.env) Q E s :=
  Name_function_global ok.kind hx (loadGlobal_global (by rw [ok.glob]; exact G.gl.keeps (hk_keeps S.gk S.kin)) hv h) hd
theorem eval_built {n : Nat} {x : Str} {pos : Pos} {v : Value} {Q E : Value → Shared → Prop} (ok : Fok n F) (G : Gl F.g mg mb) (S : Sat F K X ρ s) (hx : F.env.kindOf x = some .globalImplicit) (hm : mg x = none) (hv : bootBuiltins x = some v) (h : Q v s)
    (hn : x ≠ "__name__" := by decide) (hd : (x == ("__debug__" : Str)) = false := by decide) : wpAny (model prog w) F.A (eval (.Name x pos) F.env) Q E s :=
  Name_function_global ok.kind hx (loadGlobal_builtin (by rw [ok.glob]; exact G.gl.keeps (hk_keeps S.gk S.kin)) hm (by rw [ok.bui]; exact G.bu.keeps (hk_keeps S.gk S.kin)) (by rw [G.boot x hn]; exact hv) h) hd
theorem Ez.glob {n : Nat} {x : Str} {pos : Pos} {P : DP} {v : Value} (ok : Fok n F) (G : Gl F.g mg mb) (hx : F.env.kindOf x = some .globalImplicit) (hv : mg x = some v) (hP : ∀ K, P.p K v)
    (hd : (x == ("__debug__" : Str)) = false := by decide) : Ez F (.Name x pos) ρ P := Wr.mk <| fun K X s Q E S k => eval_glob ok G S hx hv (k K s v (.refl S.kin) (hP K)) hd

/-! ### arguments -/
inductive Rl (K G : Kn) : List (V prog w) → List Value → Prop
  | nil : Rl K G [] []
  | cons {R : V prog w} {v : Value} {Rs : List (V prog w)} {vs : List Value} : R.rd K G v → Rl K G Rs vs → Rl K G (R :: Rs) (v :: vs)
theorem Rl.mono {K K' G G' : Kn} (hk0 : Kle K K') (hg : Kle G G') : ∀ {Rs : List (V prog w)} {vs : List Value}, Rl K G Rs vs → Rl K' G' Rs vs
  | _, _, .nil => .nil
  | _, _, .cons a r => .cons (a.mono hk0 hg) (r.mono hk0 hg)
theorem Rl.al {K G : Kn} : ∀ {Ps : List DP} {vs : List Value}, Rl K G (Ps.map (V.frz (prog := prog) (w := w))) vs → Al K Ps vs
  | [], _, .nil => .nil
  | _ :: _, _, .cons a r => .cons a r.al
noncomputable def Evs (F : Fm) (ts : List (Bool × Sem Value)) (ρ : Ro prog w) (Rs : List (V prog w)) : Prop :=
  Wr (∀ (K X : Kn) (s : Shared) (Q : List Value → Shared → Prop) (E : Value → Shared → Prop), Sat F K X ρ s → (∀ K' s' vs, Ext s s' K K' → Rl K' (hk s'.heap) Rs vs → Q vs s') → wpAny (model prog w) F.A (spliced ts) Q E s)
theorem Evs.nil : Evs F [] ρ ([] : List (V prog w)) := Wr.mk <| fun K X s Q E S k => spliced_nil (k K s [] (.refl S.kin) .nil)
theorem Evs.cons {e : PySem.Expr} {ts : List (Bool × Sem Value)} {R : V prog w} {Rs : List (V prog w)} (h : Ev F e ρ R) (r : Evs F ts ρ Rs) : Evs F ((false, eval e F.env) :: ts) ρ (R :: Rs) := Wr.mk <| fun K X s Q E S k =>
  spliced_cons (h.out K X s _ E S fun K₁ s₁ v e₁ hv => r.out K₁ X s₁ _ E (S.ext e₁) fun K₂ s₂ vs e₂ hvs => k K₂ s₂ _ (e₁.trans e₂) (.cons (hv.mono e₂.le (fun a o q => e₂.keep a o q)) hvs))
theorem evalArgs_of {f : Value} {ts : List (Bool × Sem Value)} {Rs : List (V prog w)} {Q : Args → Shared → Prop} {E : Value → Shared → Prop} (h : Evs F ts ρ Rs) (hp : ts.any (·.1) = false) (S : Sat F K X ρ s)
    (k : ∀ K' s' vs, Ext s s' K K' → Rl K' (hk s'.heap) Rs vs → Q ⟨vs, []⟩ s') : wpAny (model prog w) F.A (evalArgs f true ts []) Q E s := by
  cases ts with
  | nil =>
    unfold evalArgs
    show wpAny _ F.A (spliced [] >>= _) Q E s
    refine wpAny_bind (h.out K X s _ E S fun K₁ s₁ vs e₁ r => ?_)
    refine wpAny_holding ?_
    exact wpAny_bind (wpAny_pure (wpAny_bind (wpAny_pure (wpAny_pure (k K₁ s₁ vs e₁ r)))))
  | cons t r =>
    obtain ⟨b, x⟩ := t
    have hb : b = false := by
      cases b with
      | false => rfl
      | true => simp at hp
    subst hb
    exact evalArgs_plain (h.out K X s _ E S k)

/-! ### calls of the text's own functions -/
noncomputable def Spec (prog : Program) (w : World) (g : Heap) (n : Nat) (f : Addr) (Ps : List DP) (P : DP) : Prop :=
  ∀ (A : Around) (K : Kn) (s : Shared) (vs : List Value) (Q E : Value → Shared → Prop), Rm n A → Kle (hk g) K → Kle K (hk s.heap) → Al K Ps vs → (∀ K' s' v, Ext s s' K K' → P.p K' v → Q v s') → wpAny (model prog w) A (call (.ref f) vs []) Q E s

theorem Ez.call {n : Nat} {x : Str} {px pos : Pos} {args : List PySem.Expr} {f : Addr} {o : Obj} {fd : FuncData} {Ps : List DP} {P : DP} (ok : Fok n F) (G : Gl F.g mg mb) (hx : F.env.kindOf x = some .globalImplicit) (hv : mg x = some (.ref f))
    (hf : F.g.get? f = some o ∧ o.data = .func fd) (ha : Evs F (backTo pos (starEach args F.env)) ρ (Ps.map .frz)) (hp : (backTo pos (starEach args F.env)).any (·.1) = false) (sp : Spec prog w F.g n f Ps P)
    (hd : (x == ("__debug__" : Str)) = false := by decide) : Ez F (.Call (.Name x px) args [] pos) ρ P := Wr.mk <| fun K X s Q E S k => by
  refine wpAny_Call_NameR (eval_glob ok G S hx hv ?_ hd)
  refine callWith_function (o := o) (fd := fd) (evalArgs_of ha hp S fun K₁ s₁ vs e₁ r => ?_)
  have S₁ := S.ext e₁
  exact ⟨⟨S₁.kin _ _ (S₁.gk _ _ hf.1), hf.2⟩, sp F.A K₁ s₁ vs Q E ok.rm S₁.gk S₁.kin r.al fun K₂ s₂ v e₂ hv => k K₂ s₂ v (e₁.trans e₂) hv⟩

theorem bindL_out {kd : Str → Option NameKind} : ∀ (binds : List (Str × Value)) (m : Str → Option Value) (x : Str), x ∉ binds.map (·.1) → bindL kd binds m x = m x
  | [], _, _, _ => rfl
  | (n, v) :: r, m, x, h => by
    unfold bindL
    rw [bindL_out r _ x fun q => h (List.mem_cons_of_mem _ q)]
    split
    · exact if_neg fun e => h (by rw [e]; exact List.mem_cons_self)
    · rfl
theorem bindL_at {kd : Str → Option NameKind} : ∀ (binds : List (Str × Value)) (m : Str → Option Value) (x : Str) (v : Value), (binds.map (·.1)).Nodup → (x, v) ∈ binds → kd x = some .local → bindL kd binds m x = some v
  | (n, u) :: r, m, x, v, hn, hm, hk => by
    rw [List.map_cons, List.nodup_cons] at hn
    unfold bindL
    rcases List.mem_cons.mp hm with e | hm
    · cases e
      rw [bindL_out r _ _ hn.1, if_pos hk]; exact if_pos rfl
    · exact bindL_at r _ x v hn.2 hm hk
theorem bindC_out {kd : Str → Option NameKind} : ∀ (binds : List (Str × Value)) (m : Str → Option Value) (x : Str), x ∉ binds.map (·.1) → bindC kd binds m x = m x
  | [], _, _, _ => rfl
  | (n, v) :: r, m, x, h => by
    unfold bindC
    rw [bindC_out r _ x fun q => h (List.mem_cons_of_mem _ q)]
    split
    · rfl
    · exact if_neg fun e => h (by rw [e]; exact List.mem_cons_self)
theorem bindC_at {kd : Str → Option NameKind} : ∀ (binds : List (Str × Value)) (m : Str → Option Value) (x : Str) (v : Value), (binds.map (·.1)).Nodup → (x, v) ∈ binds → kd x ≠ some .local → bindC kd binds m x = some v
  | (n, u) :: r, m, x, v, hn, hm, hk => by
    rw [List.map_cons, List.nodup_cons] at hn
    unfold bindC
    rcases List.mem_cons.mp hm with e | hm
    · cases e
      rw [bindC_out r _ _ hn.1, if_neg hk]; exact if_pos rfl
    · exact bindC_at r _ x v hn.2 hm hk

/-- the parameters, as names -/
noncomputable def parR (xs : List Str) (Ps : List DP) : Ro prog w := fun x => ((xs.zip Ps).lookup x).map .frz
theorem zip_al : ∀ {xs : List Str} {Ps : List DP} {vs : List Value}, Al K Ps vs → ∀ {x : Str} {P : DP}, (xs.zip Ps).lookup x = some P → ∃ v, (x, v) ∈ xs.zip vs ∧ P.p K v
  | [], _, _, _, x, P, h => by cases h
  | y :: r, _, _, .nil, x, P, h => by cases h
  | y :: r, _, _, .cons a al, x, P, h => by
    rw [List.zip_cons_cons, List.lookup_cons] at h
    by_cases hx : (x == y) = true
    · rw [hx] at h; cases h
      rw [beq_iff_eq.mp hx]
      exact ⟨_, List.mem_cons_self, a⟩
    · have hx' : (x == y) = false := by simpa using hx
      rw [hx'] at h
      obtain ⟨v, h1, h2⟩ := zip_al al h
      exact ⟨v, List.mem_cons_of_mem _ h1, h2⟩
theorem zip_keys : ∀ (xs : List Str) (vs : List Value), xs.length = vs.length → (xs.zip vs).map (·.1) = xs
  | [], [], _ => rfl
  | [], _ :: _, h => by cases h
  | _ :: _, [], h => by cases h
  | x :: r, v :: q, h => by rw [List.zip_cons_cons, List.map_cons, zip_keys r q (by simpa using h)]

/-- what a function's object must be like -/
structure FnOk (g : Heap) (fd : FuncData) (body : List Stmt) (xs : List Str) : Prop where
  code : g.CodeRec fd.code fd.qualname
  body : fd.body = .stmts body
  bind : ∀ vs : List Value, vs.length = xs.length → bindArgs fd ⟨vs, []⟩ = pure (xs.zip vs)
  clo : fd.closure = []
  glob : fd.globals = mainGlobals
  bui : fd.builtins = builtinsNs
  nodup : xs.Nodup
  par : ∀ x ∈ xs, fd.scope.names.lookup x = some .local ∨ fd.scope.names.lookup x = some .cell
  cell : ∀ x ∈ cellNames fd.scope.names, fd.scope.names.lookup x = some .cell
  co : fd.scope.isCoroutine = false
  gen : fd.scope.isGenerator = false
  kind : fd.scope.kind = .function

theorem bind1 {fd : FuncData} {xs : List Str} (hx : xs.length = 1) (p : ∀ a, bindArgs fd ⟨[a], []⟩ = pure (xs.zip [a])) (vs : List Value) (h : vs.length = xs.length) : bindArgs fd ⟨vs, []⟩ = pure (xs.zip vs) :=
  let ⟨a, e⟩ := List.length_eq_one_iff.mp (h.trans hx)
  e ▸ p a
theorem bind2 {fd : FuncData} {xs : List Str} (hx : xs.length = 2) (p : ∀ a b, bindArgs fd ⟨[a, b], []⟩ = pure (xs.zip [a, b])) (vs : List Value) (h : vs.length = xs.length) : bindArgs fd ⟨vs, []⟩ = pure (xs.zip vs) :=
  let ⟨a, t, e⟩ := List.exists_cons_of_length_eq_add_one (h.trans hx)
  let ⟨b, e'⟩ := List.length_eq_one_iff.mp (Nat.succ.inj ((congrArg List.length e).symm.trans (h.trans hx)))
  (e.trans (congrArg _ e')) ▸ p a b

/-- a frame of a call -/
structure IsFrame (g : Heap) (n : Nat) (fd : FuncData) (F : Fm) : Prop where
  scope : F.env.scope = fd.scope
  g : F.g = g
  mine : F.mine = cellNames fd.scope.names
  env : ∃ L f, F.env = callEnvC fd L f
  ok : Fok n F

theorem Spec.enter {g : Heap} {n : Nat} {f : Addr} {o : Obj} {fd : FuncData} {body : List Stmt} {xs : List Str} {Ps : List DP} {P : DP} (G : Gl g mg mb) (hmods : ∃ o, g.get? sysModules = some o) (ho : g.get? f = some o) (hd : o.data = .func fd) (fo : FnOk g fd body xs)
    (hl : xs.length = Ps.length) (h : ∀ F, IsFrame g n fd F → Ex F body (parR xs Ps : Ro prog w) fun o _ => o = .ret P) : Spec prog w g (n + 1) f Ps P := fun A K s vs Q E rm hgk hkin al k => by
  have kp := hk_keeps hgk hkin
  have hlen : vs.length = xs.length := al.length.trans hl.symm
  refine wpAny_call (codeAny_call_cells rm.lt (kp _ _ ho) hd (G.lim.keeps kp) (fo.code.keeps kp) fo.body (fo.bind vs hlen) fo.clo ?_ ?_ fo.co fo.gen fo.kind)
  · intro x hx
    have hx' : x.1 ∈ xs := by
      have := List.mem_map_of_mem (f := (·.1)) hx
      rwa [zip_keys _ _ hlen.symm] at this
    rcases fo.par _ hx' with h1 | h1
    · exact .inl h1
    · refine .inr ⟨h1, ?_⟩
      obtain ⟨c, hc, _⟩ := lookup_cellsFrom_in fd.scope.names (s.heap.objs.size + 1) [] (mem_cellNames h1)
      rw [hc]; rfl
  · intro s₁ x
    let F : Fm := ⟨callEnvC fd s.heap.objs.size f, A.deeper (callEnvC fd s.heap.objs.size f), g, cellNames fd.scope.names⟩
    have hF : IsFrame g n fd F := ⟨rfl, rfl, rfl, ⟨_, _, rfl⟩, ⟨fo.kind, fo.glob, fo.bui, rm.deeper _, hmods⟩⟩
    obtain ⟨h₁, tk₁, rfl⟩ := x.toInCall.same
    have hfr : ∀ a, s.heap.objs.size ≤ a → s.heap.get? a = none := fun a => none_of_fresh
    have hkd : ∀ y, F.env.kindOf y = fd.scope.names.lookup y := fun _ => rfl
    have S : Sat F K (hk s.heap) (parR xs Ps : Ro prog w) { s with heap := h₁, toks := tk₁ } := by
      refine ⟨hgk, fun a o q => x.toInCall.keep a o (hkin a o q), fun a o q => x.toInCall.keep a o q, ⟨_, x.toInCall.ns⟩, kn_none hkin (hfr _ x.toInCall.fresh), hfr _ x.toInCall.fresh, ?_, ?_, ?_, ?_, ?_⟩
      · intro y hy
        obtain ⟨c, hc, hle⟩ := lookup_cellsFrom_in fd.scope.names (s.heap.objs.size + 1) [] hy
        have hc0 := hfr c (Nat.le_of_succ_le hle)
        exact ⟨c, _, (hkd y).trans (fo.cell y hy), hc, x.cell y c hc, kn_none hkin hc0, hc0⟩
      · intro y c _ hc z hz
        exact name_of_addr x.apart (mem_of_lookup hz) (mem_of_lookup hc)
      · intro y c hc
        obtain ⟨o', ho', _⟩ := x.cell y c hc
        exact ⟨o', ho'⟩
      · intro y V hy
        unfold parR at hy
        obtain ⟨P', hP', rfl⟩ := Option.map_eq_some_iff.mp hy
        obtain ⟨v, hm, hv⟩ := zip_al al hP'
        have hyx : y ∈ xs := by
          have := List.mem_map_of_mem (f := (·.1)) hm
          rwa [zip_keys _ _ hlen.symm] at this
        have hnd : ((xs.zip vs).map (·.1)).Nodup := by rw [zip_keys _ _ hlen.symm]; exact fo.nodup
        refine ⟨v, ?_, hv, fun e => nomatch e⟩
        rcases fo.par y hyx with h1 | h1
        · exact .inl ⟨(hkd y).trans h1, _, x.toInCall.ns, bindL_at _ _ _ _ hnd hm ((hkd y).trans h1)⟩
        · obtain ⟨c, hc, _⟩ := lookup_cellsFrom_in fd.scope.names (s.heap.objs.size + 1) [] (mem_cellNames h1)
          refine .inr ⟨.inl ((hkd y).trans h1), c, hc, ?_⟩
          have h2 := x.cell y c hc
          rwa [bindC_at _ _ _ _ hnd hm (by rw [hkd y |>.trans h1]; intro e; cases e)] at h2
      · intro y z a Vy Vz _ hy _ oy
        unfold parR at hy
        obtain ⟨P', _, rfl⟩ := Option.map_eq_some_iff.mp hy
        cases oy
    refine (h F hF).out K (hk s.heap) _ _ _ S fun K' s' fl o ρ' hp hi S' st => ?_
    subst hp
    obtain ⟨v, rfl, hv⟩ := hi
    exact k K' s' v ⟨⟨st.rest.os, st.rest.gens⟩, fun b o q => S'.xin b o q, st.le, fun a o q => st.old a o q, S'.kin⟩ hv
end
end Mine
end
/-! part A12 -/
section
open PySem PySem.Calls PySem.Spec PyProof.Rows PySem.W
set_option Elab.async false
set_option linter.unusedVariables false
namespace Mine
section
variable {prog : Program} {w : World} {F F' : Fm} {K K' X : Kn} {ρ ρ' : Ro prog w} {s s' : Shared} {α β γ : Type} {Φ : Out → Ro prog w → Prop}

/-! ### subscripts -/
theorem Ev.sub {value slice : PySem.Expr} {pos : Pos} {Ra Ri R : V prog w} (hv : Ev F value ρ Ra) (hi : Ev F slice ρ Ri) (ht : Bin prog w F.A (subscriptTail value slice) Ra Ri R) : Ev F (.Subscript value slice pos) ρ R :=
  Wr.mk <| fun _ _ _ _ _ S k => Subscript_ (two hv hi ht S k)

theorem isList_of {h : Heap} {a : Addr} {vs : List Value} {n : Nat} (e : h.get? a = some (lObj vs n)) : h.IsList a vs.toArray := ⟨_, e, rfl, n, rfl⟩
theorem isTup_of {h : Heap} {a : Addr} {vs : List Value} {n : Nat} (e : h.get? a = some (tObj vs n)) : IsTup h a vs.toArray := ⟨_, e, rfl, n, rfl⟩

theorem sub_list {A : Around} {value slice : PySem.Expr} {Ps : List DP} {i : Int} {P : DP} (h0 : 0 ≤ i) (hi : Ps[i.toNat]? = some P) (hfit : i < 2 ^ 63)
    (hs : ∀ a t, subscripted slice false (.ref a) (.int i t) = operate [.ref a, .int i t] (getItem (.ref a) (.int i t)) := by intros; with_unfolding_all rfl) :
    Bin prog w A (subscriptTail value slice) (.lst Ps) (.frz (dInt i)) (.frz P) := fun K s u v Q E hk0 hu hv k => by
  obtain ⟨a, vs, n, rfl, ho, al⟩ := hu
  obtain ⟨t, rfl⟩ := hv
  obtain ⟨x, hx, hp⟩ := al.get hi
  have hl : s.heap.IsList a vs.toArray := isList_of ho
  exact tail_any hl.typeIs slot_list_getitem.lookup (wpAny_getItem_list (x := x) hl h0 hfit (by simpa using hx) (k K s x (.refl hk0) hp)) (hs a t)
theorem sub_tup {A : Around} {value slice : PySem.Expr} {Ps : List DP} {i : Int} {P : DP} (h0 : 0 ≤ i) (hi : Ps[i.toNat]? = some P) (hfit : i < 2 ^ 63)
    (hs : ∀ a t, subscripted slice false (.ref a) (.int i t) = operate [.ref a, .int i t] (getItem (.ref a) (.int i t)) := by intros; with_unfolding_all rfl) :
    Bin prog w A (subscriptTail value slice) (.frz (dTup Ps)) (.frz (dInt i)) (.frz P) := fun K s u v Q E hk0 hu hv k => by
  obtain ⟨a, vs, n, rfl, ho, al⟩ := hu
  obtain ⟨t, rfl⟩ := hv
  obtain ⟨x, hx, hp⟩ := al.get hi
  have hlen : i < vs.length := by
    have := (List.getElem?_eq_some_iff.mp hx).1
    omega
  exact item_tupleT (isTup_of (hk0 _ _ ho)) (by omega) hfit (seqIndex_of h0 hlen) hx (k K s x (.refl hk0) hp) (hs a t)

theorem valueAt_al {κ : Type} [DecidableEq κ] {K : Kn} : ∀ {kv : List (κ × Value)} {kvs : List (κ × DP)}, kv.map (·.1) = kvs.map (·.1) → Al K (kvs.map (·.2)) (kv.map (·.2)) → ∀ {k : κ} {P : DP}, (kvs.find? fun x => x.1 = k).map (·.2) = some P →
    ∃ v, valueAt kv k = some v ∧ P.p K v
  | [], [], _, _, k, P, h => by cases h
  | [], _ :: _, h1, _, _, _, _ => by cases h1
  | _ :: _, [], h1, _, _, _, _ => by cases h1
  | (x, u) :: r, (y, R) :: q, h1, h2, k, P, h => by
    simp only [List.map_cons, List.cons.injEq] at h1
    obtain ⟨rfl, h1⟩ := h1
    cases h2 with
    | cons a al =>
      by_cases hx : x = k
      · subst hx
        simp only [List.find?_cons, decide_true, Option.map_some, Option.some.injEq] at h
        subst h
        exact ⟨u, by simp [valueAt], a⟩
      · simp only [List.find?_cons, hx, decide_false] at h
        obtain ⟨v, h3, h4⟩ := valueAt_al h1 al h
        exact ⟨v, by simpa [valueAt, hx] using h3, h4⟩
theorem valueAt_none {κ : Type} [DecidableEq κ] : ∀ {kv : List (κ × Value)} {kvs : List (κ × DP)}, kv.map (·.1) = kvs.map (·.1) → ∀ {k : κ}, (valueAt kv k).isSome = kvs.any fun x => x.1 = k
  | [], [], _, k => rfl
  | [], _ :: _, h1, _ => by cases h1
  | _ :: _, [], h1, _ => by cases h1
  | (x, u) :: r, (y, R) :: q, h1, k => by
    simp only [List.map_cons, List.cons.injEq] at h1
    obtain ⟨rfl, h1⟩ := h1
    have := valueAt_none h1 (k := k)
    by_cases hx : x = k
    · simp [valueAt, hx]
    · simp only [List.any_cons, hx, decide_false, Bool.false_or]
      rw [← this]
      simp [valueAt, hx]

/-- the value of a dict's key -/
noncomputable def lookK {κ : Type} [DecidableEq κ] (kvs : List (κ × γ)) (k : κ) : Option γ := (kvs.find? fun x => x.1 = k).map (·.2)

/-- a dict's reading, whether shared or not -/
noncomputable def RdD {κ : Type} [DecidableEq κ] (knd : KeyKind prog w κ) (kvs : List (κ × DP)) (R : V prog w) : Prop :=
  ∀ K G u, Kle K G → R.rd K G u → ∃ a o, u = .ref a ∧ G a = some o ∧ (a == sysModules) = false ∧ DRep knd K kvs o
theorem rdD_sdc {kvs : List (Str × DP)} : RdD (strKind prog w) kvs (.sdc kvs) := fun K G u _ h => h
theorem rdD_idc {kvs : List (Int × DP)} : RdD (intKind prog w) kvs (.idc kvs) := fun K G u _ h => h
theorem rdD_frz {κ : Type} [DecidableEq κ] {knd : KeyKind prog w κ} {kvs : List (κ × DP)} : RdD knd kvs (.frz (dDict knd kvs)) := fun K G u hk0 ⟨a, o, e, h, r⟩ => ⟨a, o, e, hk0 _ _ h, r⟩

theorem sub_dict {κ : Type} [DecidableEq κ] {knd : KeyKind prog w κ} {A : Around} {value slice : PySem.Expr} {kvs : List (κ × DP)} {R : V prog w} {Pk P : DP} {key : κ} (hR : RdD knd kvs R) (hkey : ∀ K v, Pk.p K v → knd.is key v = true) (hv : lookK kvs key = some P)
    (hs : ∀ a v, subscripted slice false (.ref a) v = operate [.ref a, v] (getItem (.ref a) v) := by intros; with_unfolding_all rfl) :
    Bin prog w A (subscriptTail value slice) R (.frz Pk) (.frz P) := fun K s u v Q E hk0 hu hw k => by
  obtain ⟨a, o, rfl, ho, _, kv, hd, h1, h2⟩ := hR K _ u hk0 hu
  have hD : s.heap.DictOf knd a kv := Heap.dictOf_iff.mpr ⟨o, ho, hd⟩
  obtain ⟨x, hx, hp⟩ := valueAt_al h1 h2 hv
  exact tail_any hD.typeIs slot_dict_getitem.lookup (wpAny_getItem_of (hkey _ _ hw) hD.mapOf hx (k K _ x (.toks hk0) hp)) (hs a v)

theorem sub_str {A : Around} {value slice : PySem.Expr} {x : Str} {i : Int} (h1 : -(x.length : Int) ≤ i) (h2 : i < x.length) (hr : PySem.fitsSsize i = true)
    (hs : ∀ t u, subscripted slice false (.str x t) (.int i u) = operate [.str x t, .int i u] (getItem (.str x t) (.int i u)) := by intros; with_unfolding_all rfl)
    (ht : ∀ t r, letTemporaryGo value (.str x t) r = pure () := by intros; with_unfolding_all rfl) :
    Bin prog w A (subscriptTail value slice) (.frz (dStr x)) (.frz (dInt i)) (.frz (dStr (PySem.Txt.item x i))) := fun K s u v Q E hk0 hu hv k => by
  obtain ⟨t, rfl⟩ := hu
  obtain ⟨p, rfl⟩ := hv
  exact item_str hr h1 h2 (fun _ => k K _ _ (.toks hk0) ⟨_, rfl⟩) (hs t p) (ht t)
end
end Mine
end
/-! part A13 -/
section
open PySem PySem.Calls PySem.Spec PyProof.Rows PySem.W
set_option Elab.async false
set_option linter.unusedVariables false
namespace Mine
section
variable {prog : Program} {w : World} {F F' : Fm} {K K' X : Kn} {ρ ρ' : Ro prog w} {s s' : Shared} {α β γ : Type} {Φ : Out → Ro prog w → Prop}

/-! ### slices -/
noncomputable def Prt (F : Fm) (x : Option PySem.Expr) (ρ : Ro prog w) (o : Option Int) : Prop :=
  Wr (∀ (K X : Kn) (s : Shared) (Q E : Value → Shared → Prop), Sat F K X ρ s → (∀ K' s' v, Ext s s' K K' → IsPart v o → Q v s') → wpAny (model prog w) F.A (evalPart x F.env) Q E s)
theorem prt_none : Prt F none ρ none := Wr.mk <| fun K X s Q E S k => wpAny_pure (k K s _ (.refl S.kin) .none)
theorem prt_int {e : PySem.Expr} {i : Int} (h : Ez F e ρ (dInt i)) : Prt F (some e) ρ (some i) := Wr.mk <| fun K X s Q E S k => h.out K X s Q E S fun K' s' v e hv => by
  obtain ⟨t, rfl⟩ := hv
  exact k K' s' _ e (.int i t)

noncomputable def pickL (l : List α) (lo hi st : Option Int) : List α := (sliceRange (sliceBounds lo hi st l.length).1 (sliceBounds lo hi st l.length).2.1 (sliceBounds lo hi st l.length).2.2).filterMap (l[·]?)
theorem Al.places {Ps : List DP} {vs : List Value} (al : Al K Ps vs) : ∀ js : List Nat, Al K (js.filterMap (Ps[·]?)) (js.filterMap (vs[·]?))
  | [] => .nil
  | j :: js => by
    have ih := al.places js
    cases hn : Ps[j]? with
    | some P =>
      obtain ⟨v, hv, hp⟩ := al.get hn
      simp only [List.filterMap_cons, hn, hv]
      exact .cons hp ih
    | none =>
      have hv : vs[j]? = none := by
        rw [List.getElem?_eq_none_iff] at hn ⊢
        rw [al.length]; exact hn
      simp only [List.filterMap_cons, hn, hv]
      exact ih
theorem Al.pick {Ps : List DP} {vs : List Value} (al : Al K Ps vs) (lo hi st : Option Int) : Al K (pickL Ps lo hi st) (slicePick vs.toArray lo hi st).toList := by
  have e : (slicePick vs.toArray lo hi st).toList = (sliceRange (sliceBounds lo hi st Ps.length).1 (sliceBounds lo hi st Ps.length).2.1 (sliceBounds lo hi st Ps.length).2.2).filterMap (vs[·]?) := by
    simp [slicePick, al.length]
  rw [e]
  exact al.places _
theorem filterMap_map_get (l : List α) (f : α → β) (js : List Nat) : js.filterMap ((l.map f)[·]?) = (js.filterMap (l[·]?)).map f := by
  induction js with
  | nil => rfl
  | cons j js ih =>
    simp only [List.filterMap_cons, List.getElem?_map]
    cases l[j]? with
    | none => simpa using ih
    | some x => simpa using ih
theorem pickL_map (l : List α) (f : α → β) (lo hi st : Option Int) : pickL (l.map f) lo hi st = (pickL l lo hi st).map f := by
  unfold pickL
  rw [List.length_map, filterMap_map_get]

theorem new_at {h : Heap} {o : Obj} (hf : o.isFreed = false) : (h.push o).get? h.objs.size = some o := Heap.get?_push_size _ hf
theorem get_new (h : Heap) : h.get? h.objs.size = none := by
  cases e : h.get? h.objs.size with
  | none => rfl
  | some o => exact absurd (Heap.lt_size e) (Nat.lt_irrefl _)
theorem Ext.push {o : Obj} (h : Kle K (hk s.heap)) : Ext s { s with heap := s.heap.push o } K K := .grow (tk := s.toks) h fun b o' e => Heap.get?_push_of_some _ e

/-- a step that pushes one new object -/
theorem pushed {Q : Value → Shared → Prop} {R : V prog w} {o : Obj} {tk : Nat} (hk0 : Kle K (hk s.heap)) (hr : R.rd K (hk (s.heap.push o)) (.ref s.heap.objs.size))
    (k : ∀ K' s' a, Ext s s' K K' → R.rd K' (hk s'.heap) (.ref a) → K' a = none → s.heap.get? a = none → Q (.ref a) s') : Q (.ref s.heap.objs.size) { s with heap := s.heap.push o, toks := tk } :=
  k K _ _ (.grow hk0 fun b o' e => Heap.get?_push_of_some _ e) hr (kn_none hk0 (get_new _)) (get_new _)

theorem en_slice {value : PySem.Expr} {lo up st : Option PySem.Expr} {p pos : Pos} {Ps : List DP} {a b c : Option Int} (hv : Ev F value ρ (.lst Ps)) (hl : Prt F lo ρ a) (hu : Prt F up ρ b) (hst : Prt F st ρ c) (h0 : c ≠ some 0) (hsz : Ps.length ≤ sizeLine)
    (hs : ∀ o i, ∃ ops, subscripted (.Slice lo up st p) false (.ref o) (.ref i) = operate ops (getItem (.ref o) (.ref i)) := by intros; exact ⟨_, by with_unfolding_all rfl⟩)
    (ht : ∀ o r, letTemporaryGo value (.ref o) r = pure () := by intros; with_unfolding_all rfl) :
    En F (.Subscript value (.Slice lo up st p) pos) ρ (.lst (pickL Ps a b c)) := Wr.mk <| fun K X s Q E S k => by
  refine Subscript_ (hv.out K X s _ E S fun K₁ s₁ v e₁ h₁ => wpAny_Slice (hl.out K₁ X s₁ _ E (S.ext e₁) fun K₂ s₂ vl e₂ p₂ => hu.out K₂ X s₂ _ E ((S.ext e₁).ext e₂) fun K₃ s₃ vu e₃ p₃ => hst.out K₃ X s₃ _ E (((S.ext e₁).ext e₂).ext e₃) fun K₄ s₄ vs e₄ p₄ => ?_))
  obtain ⟨o, vs', n, rfl, ho, al⟩ := h₁
  have e24 := (e₂.trans e₃).trans e₄
  have ho4 : s₄.heap.get? o = some (lObj vs' n) := e24.keep _ _ ho
  have hl4 : s₄.heap.IsList o vs'.toArray := isList_of ho4
  have al4 := al.mono e24.le
  refine subscriptTail_ops (Heap.IsList.typeIs (s := { s₄ with heap := s₄.heap.push { cls := .type "slice", data := .fields #[vl, vu, vs] } }) (hl4.push _)) list_getitem_lookup
    (wpAny_getItem_list_slice (hl4.push _) (Heap.IsSliceOf.new ..) p₂ p₃ p₄ h0 ?_ (by simpa [al4.length] using hsz)) (hs _ _).choose_spec (ht o)
  have eT := (e₁.trans e24).trans (Ext.push (s := s₄) (o := { cls := .type "slice", data := .fields #[vl, vu, vs] }) e₄.kin)
  refine pushed (s := { s₄ with heap := s₄.heap.push { cls := .type "slice", data := .fields #[vl, vu, vs] } }) (tk := s₄.toks) (R := .lst (pickL Ps a b c)) eT.kin ⟨_, (slicePick vs'.toArray a b c).toList, 0, rfl, Heap.get?_push_size _ rfl, al4.pick a b c⟩ fun K' s' x e' hr hn hf => k K' s' x (eT.trans e') hr hn ?_
  cases q : s.heap.get? x with
  | none => rfl
  | some o' => rw [eT.keep _ _ q] at hf; cases hf

/-! ### slices of texts -/
theorem ez_strTo {value e : PySem.Expr} {p pos : Pos} {x : Str} {j : Int} (hv : Ez F value ρ (dStr x)) (he : Ez F e ρ (dInt j)) (hsz : x.length ≤ 1000)
    (hs : ∀ t i, subscripted (.Slice none (some e) none p) false (.str x t) (.ref i) = operate [.ref i, .str x t] (getItem (.str x t) (.ref i)) := by intros; with_unfolding_all rfl)
    (ht : ∀ t r, letTemporaryGo value (.str x t) r = pure () := by intros; with_unfolding_all rfl) :
    Ez F (.Subscript value (.Slice none (some e) none p) pos) ρ (dStr (Txt.slice x none (some j))) := Wr.mk <| fun K X s Q E S k => by
  refine Subscript_ (hv.out K X s _ E S fun K₁ s₁ v e₁ h₁ => wpAny_Slice (wpAny_pure (he.out K₁ X s₁ _ E (S.ext e₁) fun K₂ s₂ v₂ e₂ h₂ => wpAny_pure ?_)))
  obtain ⟨t, rfl⟩ := h₁
  obtain ⟨u, rfl⟩ := h₂
  refine tail_of_ItemOn (SBH.sliceItem_ns (P := fun h => Keep s₂.heap h) (fun h ob kp b o q => Heap.get?_push_of_some _ (kp b o q)) (fun _ _ q => q) (fun h' t' tk kp => ?_) (Nat.le_trans hsz (by decide))) (hs _ _) (ht _)
  exact k K₂ _ _ ((e₁.trans e₂).trans (.grow e₂.kin kp)) ⟨_, rfl⟩
theorem ez_strFrom {value e : PySem.Expr} {p pos : Pos} {x : Str} {j : Int} (hv : Ez F value ρ (dStr x)) (he : Ez F e ρ (dInt j)) (hsz : x.length ≤ 1000)
    (hs : ∀ t i, subscripted (.Slice (some e) none none p) false (.str x t) (.ref i) = operate [.ref i, .str x t] (getItem (.str x t) (.ref i)) := by intros; with_unfolding_all rfl)
    (ht : ∀ t r, letTemporaryGo value (.str x t) r = pure () := by intros; with_unfolding_all rfl) :
    Ez F (.Subscript value (.Slice (some e) none none p) pos) ρ (dStr (Txt.slice x (some j) none)) := Wr.mk <| fun K X s Q E S k => by
  refine Subscript_ (hv.out K X s _ E S fun K₁ s₁ v e₁ h₁ => wpAny_Slice (he.out K₁ X s₁ _ E (S.ext e₁) fun K₂ s₂ v₂ e₂ h₂ => wpAny_pure (wpAny_pure ?_)))
  obtain ⟨t, rfl⟩ := h₁
  obtain ⟨u, rfl⟩ := h₂
  refine tail_of_ItemOn (SBH.sliceItem_sn (P := fun h => Keep s₂.heap h) (fun h ob kp b o q => Heap.get?_push_of_some _ (kp b o q)) (fun _ _ q => q) (fun h' t' tk kp => ?_) (Nat.le_trans hsz (by decide))) (hs _ _) (ht _)
  exact k K₂ _ _ ((e₁.trans e₂).trans (.grow e₂.kin kp)) ⟨_, rfl⟩

/-! ### displays -/
theorem Rl.al' {G : Kn} : ∀ {Ps : List DP} {vs : List Value}, Rl K G (Ps.map (V.frz (prog := prog) (w := w))) vs → Al K Ps vs := fun r => r.al
theorem en_disp {elts : List PySem.Expr} {pos : Pos} {Ps : List DP} (h : Evs F (backTo pos (starEach elts F.env)) ρ (Ps.map .frz)) (hsz : Ps.length ≤ sizeLine) : En F (.List elts pos) ρ (.lst Ps) := Wr.mk <| fun K X s Q E S k => by
  refine wpAny_List_spliced (h.out K X s _ E S fun K₁ s₁ vs e₁ r => ⟨by rw [r.al.length]; exact hsz, ?_⟩)
  refine pushed (tk := s₁.toks) (R := .lst Ps) e₁.kin ⟨_, vs, 0, rfl, Heap.get?_push_size _ rfl, r.al⟩ fun K' s' x e' hr hn hf => k K' s' x (e₁.trans e') hr hn ?_
  cases q : s.heap.get? x with
  | none => rfl
  | some o' => rw [e₁.keep _ _ q] at hf; cases hf
theorem ez_tup {elts : List PySem.Expr} {x1} {pos : Pos} {Ps : List DP} (h : Evs F (backTo pos (starEach elts F.env)) ρ (Ps.map .frz)) (hsz : Ps.length ≤ sizeLine) : Ez F (.Tuple elts x1 pos) ρ (dTup Ps) := Wr.mk <| fun K X s Q E S k => by
  refine wpAny_Tuple_spliced (h.out K X s _ E S fun K₁ s₁ vs e₁ r => ⟨by rw [r.al.length]; exact hsz, ?_⟩)
  let o : Obj := tObj vs 0
  let K' : Kn := fun b => if b = s₁.heap.objs.size then some o else K₁ b
  have hle : Kle K₁ K' := fun b o' e => by
    show (if b = _ then some o else K₁ b) = _
    rw [if_neg]
    · exact e
    · rintro rfl; have := e₁.kin _ _ e; rw [show hk s₁.heap _ = s₁.heap.get? _ from rfl, get_new] at this; cases this
  refine k K' _ _ (e₁.trans ⟨⟨rfl, .refl _⟩, fun b o' e => Heap.get?_push_of_some _ e, hle, fun b o' e => if_neg (Nat.ne_of_lt (Heap.lt_size e)), fun b o' e => ?_⟩) ⟨_, vs, 0, rfl, if_pos rfl, r.al.mono hle⟩
  have e' : (if b = s₁.heap.objs.size then some o else K₁ b) = some o' := e
  by_cases hb : b = s₁.heap.objs.size
  · rw [if_pos hb] at e'; cases e'; rw [hb]; exact Heap.get?_push_size _ rfl
  · rw [if_neg hb] at e'; exact Heap.get?_push_of_some _ (e₁.kin _ _ e')
end
end Mine
end
/-! part A14 -/
section
open PySem PySem.Calls PySem.Spec PyProof.Rows PySem.W PySem.SeqAt
set_option Elab.async false
set_option linter.unusedVariables false
namespace Mine
section
variable {prog : Program} {w : World} {F F' : Fm} {K K' X : Kn} {ρ ρ' : Ro prog w} {s s' : Shared} {α β γ : Type} {Φ : Out → Ro prog w → Prop}

/-! ### dict displays -/
theorem dictOf_new {κ : Type} [DecidableEq κ] (knd : KeyKind prog w κ) (h : Heap) : (h.push { cls := .type "dict", data := .dict #[] }).DictOf knd h.objs.size [] :=
  ⟨_, #[], 0, Heap.get?_push_size _ rfl, ⟨rfl, rfl, rfl⟩, rfl, fun e he => by simp at he, .nil, .nil⟩
theorem not_mods' {n : Nat} (ok : Fok n F) (S : Sat F K X ρ s) : (s.heap.objs.size == sysModules) = false := not_mods ok S (get_new _)
theorem en_dict0s {n : Nat} {pos : Pos} (ok : Fok n F) : En F (.Dict [] [] pos) ρ (.sdc []) := Wr.mk <| fun K X s Q E S k => by
  refine wpAny_Dict_empty ?_
  obtain ⟨o, ho, hd⟩ := Heap.dictOf_iff.mp (dictOf_new (strKind prog w) s.heap)
  exact pushed (tk := s.toks) (R := .sdc []) S.kin ⟨_, o, rfl, ho, not_mods' ok S, [], hd, rfl, .nil⟩ k
theorem en_dict1i {n : Nat} {kx vx : PySem.Expr} {pos : Pos} {key : Int} {P : DP} (ok : Fok n F) (hkx : Ez F kx ρ (dInt key)) (hvx : Ez F vx ρ P) : En F (.Dict [some kx] [vx] pos) ρ (.idc [(key, P)]) := Wr.mk <| fun K X s Q E S k => by
  refine wpAny_Dict_pairs (knd := intKind prog w) (pairs := [(eval kx F.env, do let x ← eval vx F.env; standAt pos; pure x)]) rfl (by simp) (Nat.le_of_ble_eq_true rfl) ?_
  have e0 : Ext s { s with heap := s.heap.push { cls := .type "dict", data := .dict #[] } } K K := Ext.push S.kin
  refine evalPairs_cons (hkx.out K X _ _ E (S.ext e0) fun K₁ s₁ u e₁ hu => wpAny_bind (hvx.out K₁ X s₁ _ E ((S.ext e0).ext e₁) fun K₂ s₂ v e₂ hv => wpAny_bind (wpAny_standAt (wpAny_pure (evalPairs_nil ?_)))))
  obtain ⟨t, rfl⟩ := hu
  have hd0 := dictOf_new (intKind prog w) s.heap
  have hd2 : s₂.heap.DictOf (intKind prog w) s.heap.objs.size [] := (hd0.keep e₁.keep).keep e₂.keep
  refine ⟨[(key, v)], ⟨intKind_is prog w key t, rfl, trivial⟩, hd0.keep fun b o q => e₂.keep b o (e₁.keep b o q), fun h' hd' hs' => ?_⟩
  obtain ⟨o, ho, hdd⟩ := Heap.dictOf_iff.mp hd'
  have eT := (e0.trans e₁).trans e₂
  have hKn : K₂ s.heap.objs.size = none := by
    obtain ⟨ob, hob, _⟩ := Heap.dictOf_iff.mp hd0
    rw [(e₁.trans e₂).old _ _ hob]; exact kn_none S.kin (get_new _)
  refine k K₂ _ s.heap.objs.size ⟨⟨eT.rest.os, eT.rest.gens⟩, fun b o' q => ?_, eT.le, eT.old, kle_same hs' eT.kin hKn⟩ ⟨_, o, rfl, ho, not_mods' ok S, _, hdd, rfl, Al.one hv⟩ hKn (get_new _)
  exact (hs'.2 b (by rintro rfl; rw [get_new] at q; cases q)).trans (eT.keep b o' q)

/-! ### list + list, list * int -/
theorem bin_ladd {A : Around} {Ps Qs : List DP} (hsz : Ps.length + Qs.length ≤ sizeLine) : BinN prog w A (binaryOp .Add) (.lst Ps) (.lst Qs) (.lst (Ps ++ Qs)) := fun K s u v Q E hk0 hu hv k => by
  obtain ⟨a, vs, n, rfl, ho, al⟩ := hu
  obtain ⟨b, ws, m, rfl, ho2, al2⟩ := hv
  have ho' : s.heap.get? a = some (lObj vs n) := ho
  have ho2' : s.heap.get? b = some (lObj ws m) := ho2
  refine concat_meets ⟨_, ho', rfl⟩ ⟨_, ho2', rfl⟩ noFill_list_add seq_list_add PySem.F.slot_list_add PySem.F.entry_list_add (PySem.F.args_list_add_2 _ _) (list_addW a b vs.toArray ws.toArray n m none none #[] #[] (by simpa [al.length, al2.length] using hsz)) ⟨ho', ho2', ?_⟩
  refine pushed (tk := s.toks) (R := .lst (Ps ++ Qs)) hk0 ⟨_, vs ++ ws, 0, rfl, ?_, al.append al2⟩ k
  refine (Heap.get?_push_size _ rfl).trans ?_
  simp [lObj]
theorem foldl_rep (n : Nat) (a : Array α) : (List.foldl (fun x1 x2 => x1 ++ x2) #[] (List.replicate n a)).toList = (List.replicate n a.toList).flatten := by
  have : ∀ (l : List (Array α)) (b : Array α), (List.foldl (fun x1 x2 => x1 ++ x2) b l).toList = b.toList ++ (l.map Array.toList).flatten := by
    intro l
    induction l with
    | nil => intro b; simp
    | cons x r ih => intro b; rw [List.foldl_cons, ih]; simp
  rw [this]; simp
theorem Al.rep {Ps : List DP} {vs : List Value} (al : Al K Ps vs) : ∀ n : Nat, Al K (List.replicate n Ps).flatten (List.replicate n vs).flatten
  | 0 => .nil
  | n + 1 => by rw [List.replicate_succ, List.replicate_succ, List.flatten_cons, List.flatten_cons]; exact al.append (al.rep n)
theorem bin_lmul {A : Around} {Ps : List DP} {x : Int} (hlo : 0 ≤ x) (hhi : x < 2 ^ 63) (hsz : Ps.length * x.toNat ≤ 2 ^ 24) : BinN prog w A (binaryOp .Mult) (.lst Ps) (.frz (dInt x)) (.lst (List.replicate x.toNat Ps).flatten) := fun K s uu v Q E hk0 hu hv k => by
  obtain ⟨l, vs, n, rfl, hl, al⟩ := hu
  obtain ⟨u, rfl⟩ := hv
  have hl : s.heap.get? l = some { cls := .type "list", dict := none, data := .seq vs.toArray n, slots := #[] } := hl
  have hsz' : vs.toArray.size * x.toNat ≤ 2 ^ 24 := by rw [List.size_toArray, al.length]; exact hsz
  refine wpAny_binaryOp_repeat_ref (T := "list") (U := "int") (by decide) ⟨_, hl, rfl⟩ (fun s' => typeIs_int s' x u) noFill_list_mul PySem.F.fills_int_mul PySem.F.slot_int_rmul repeat_list PySem.F.slot_int_index.lookup
    (call_meets PySem.F.slot_int_rmul (typeIs_int s x u) PySem.F.entry_int_rmul (PySem.F.args_int_rmul_2 _ _) (int___rmul___int_list x u l vs.toArray n)
      ⟨hl, rfl, ⟨_, hl, rfl⟩, call_meets PySem.F.slot_list_mul ⟨_, hl, rfl⟩ PySem.F.entry_list_mul (PySem.F.args_list_mul_2 _ _)
        (AutoListH.list___mul___list_int_3 l vs.toArray n x u (by simp [Builtin.List.listFitsIndex]; omega) (by omega) (by simp only [Builtin.List.listTooLong, sizeLine]; simp; omega))
        ⟨hl, ?_⟩⟩)
  have e : (List.foldl (fun x1 x2 => x1 ++ x2) #[] (List.replicate (if vs.toArray.isEmpty = true then 0 else x.toNat) vs.toArray)) = ((List.replicate x.toNat vs).flatten).toArray := by
    rw [← Array.toList_inj, foldl_rep]
    cases vs with
    | nil => simp
    | cons y r => simp
  rw [e]
  exact pushed (tk := s.toks) (R := .lst _) hk0 ⟨_, _, 0, rfl, Heap.get?_push_size _ rfl, al.rep _⟩ k
end
end Mine
end
/-! part A15 -/
section
open PySem PySem.Calls PySem.Spec PyProof.Rows PySem.W PySem.SeqAt
set_option Elab.async false
set_option linter.unusedVariables false
namespace Mine
section
variable {prog : Program} {w : World} {F F' : Fm} {K K' X : Kn} {ρ ρ' : Ro prog w} {s s' : Shared} {α β γ : Type} {Φ : Out → Ro prog w → Prop}

/-! ### equality -/
structure Eqd (r : Nat) (P P' : DP) (b : Bool) : Prop where
  eq : ∀ (A : Around) (K : Kn) (s : Shared) (v v' : Value), A.units + 10 * r < cLine → Kle K (hk s.heap) → P.p K v → P'.p K v' → EqAt A s v v' b
  same : ∀ (K : Kn) (v : Value), P.p K v → P'.p K v → b = true
noncomputable def DEq [DecidableEq α] (r : Nat) (f : α → DP) : Prop := ∀ x y : α, Eqd r (f x) (f y) (decide (x = y))
theorem deq_int (r : Nat) : DEq r dInt := fun x y => ⟨fun A K s v v' _ _ ⟨t, e⟩ ⟨u, e'⟩ => by
    subst e e'
    have := EqAt.int_int (A := A) (s := s) x t y u
    rwa [show (x == y) = decide (x = y) by rw [Bool.eq_iff_iff]; simp] at this,
  fun K v ⟨t, e⟩ ⟨u, e'⟩ => by subst e; cases e'; simp⟩
theorem deq_str (r : Nat) : DEq r dStr := fun x y => ⟨fun A K s v v' _ _ ⟨t, e⟩ ⟨u, e'⟩ => by
    subst e e'
    have := EqAt.str_str (A := A) (s := s) x t y u
    rwa [show (x == y) = decide (x = y) by rw [Bool.eq_iff_iff]; simp] at this,
  fun K v ⟨t, e⟩ ⟨u, e'⟩ => by subst e; cases e'; simp⟩

theorem all_eq [DecidableEq α] : ∀ (xs ys : List α), xs.length = ys.length → ((List.range xs.length).all fun j => decide (xs[j]? = ys[j]?)) = decide (xs = ys) := fun xs ys hl => by
  rw [Bool.eq_iff_iff, List.all_eq_true, decide_eq_true_eq]
  constructor
  · intro h
    apply List.ext_getElem? fun j => ?_
    by_cases hj : j < xs.length
    · exact of_decide_eq_true (h j (List.mem_range.mpr hj))
    · rw [List.getElem?_eq_none (by omega), List.getElem?_eq_none (by omega)]
  · rintro rfl j _; simp
theorem Al.at {K : Kn} {f : α → DP} {xs : List α} {vs : List Value} (al : Al K (xs.map f) vs) {j : Nat} {v : Value} (h : vs[j]? = some v) : ∃ x, xs[j]? = some x ∧ (f x).p K v := by
  obtain ⟨P, h1, h2⟩ := al.get' h
  rw [List.getElem?_map] at h1
  obtain ⟨x, h3, rfl⟩ := Option.map_eq_some_iff.mp h1
  exact ⟨x, h3, h2⟩
theorem lists_at [DecidableEq α] {r : Nat} {f : α → DP} (hf : DEq r f) {A : Around} {xs ys : List α} {vs us : List Value} (hu : A.units + 10 * (r + 1) < cLine) (hk0 : Kle K (hk s.heap)) (a1 : Al K (xs.map f) vs) (a2 : Al K (ys.map f) us) :
    ∀ j (h1 : j < vs.toArray.size) (h2 : j < us.toArray.size), EqAt A.in1 s vs.toArray[j] us.toArray[j] (decide (xs[j]? = ys[j]?)) := fun j h1 h2 => by
  have h1' : j < vs.length := by simpa using h1
  have h2' : j < us.length := by simpa using h2
  obtain ⟨x, hx, px⟩ := a1.at (List.getElem?_eq_getElem h1')
  obtain ⟨y, hy, py⟩ := a2.at (List.getElem?_eq_getElem h2')
  have := (hf x y).eq A.in1 K s _ _ (by show A.units + 1 + _ < _; omega) hk0 px py
  rw [hx, hy]
  simp only [Option.some.injEq]
  simpa using this
theorem deq_list [DecidableEq α] {r : Nat} {f : α → DP} (hf : DEq r f) : DEq (r + 1) (fun xs : List α => dList (xs.map f)) := fun xs ys => ⟨fun A K s v v' hu hk0 ⟨a, vs, n, e, ho, al⟩ ⟨b, us, m, e', ho', al'⟩ => by
    subst e e'
    have hl := isList_of (hk0 _ _ ho)
    have hb := isList_of (hk0 _ _ ho')
    have l1 : vs.toArray.size = xs.length := by simp [al.length]
    have l2 : us.toArray.size = ys.length := by simp [al'.length]
    by_cases hab : a = b
    · subst hab
      rw [ho] at ho'
      have e1 : vs = us := by
        have h1 : lObj vs n = lObj us m := Option.some.inj ho'
        simp only [lObj, Obj.mk.injEq, Data.seq.injEq] at h1
        have := h1.2.2.1.1
        simpa using this
      subst e1
      have : xs = ys := by
        have hlen : xs.length = ys.length := by rw [← l1, ← l2]
        apply List.ext_getElem? fun j => ?_
        by_cases hj : j < vs.length
        · obtain ⟨x, hx, px⟩ := al.at (List.getElem?_eq_getElem hj)
          obtain ⟨y, hy, py⟩ := al'.at (List.getElem?_eq_getElem hj)
          have := (hf x y).same K _ px py
          rw [hx, hy, of_decide_eq_true this]
        · have : vs.length = xs.length := by simpa using l1
          rw [List.getElem?_eq_none (by omega), List.getElem?_eq_none (by omega)]
      rw [decide_eq_true this]
      exact EqAt.same _
    · refine EqAt.of_refs hab ?_
      by_cases hlen : xs.length = ys.length
      · have := RcAt.lists (A := A) hl hb (by rw [l1, l2, hlen]) (by omega) (lists_at hf hu hk0 al al')
        rw [l1, all_eq _ _ hlen] at this
        exact this
      · rw [decide_eq_false (fun e => hlen (by rw [e]))]
        exact RcAt.lists_lengths (A := A) hl hb (by rw [l1, l2]; simpa using hlen) (by omega),
  fun K v ⟨a, vs, n, e, ho, al⟩ ⟨b, us, m, e', ho', al'⟩ => by
    subst e; cases e'
    rw [ho] at ho'
    have e1 : vs = us := by
      have h1 : lObj vs n = lObj us m := Option.some.inj ho'
      simp only [lObj, Obj.mk.injEq, Data.seq.injEq] at h1
      have := h1.2.2.1.1
      simpa using this
    subst e1
    rw [decide_eq_true_eq]
    have l1 := al.length
    have l2 := al'.length
    rw [List.length_map] at l1 l2
    apply List.ext_getElem? fun j => ?_
    by_cases hj : j < vs.length
    · obtain ⟨x, hx, px⟩ := al.at (List.getElem?_eq_getElem hj)
      obtain ⟨y, hy, py⟩ := al'.at (List.getElem?_eq_getElem hj)
      have := (hf x y).same K _ px py
      rw [hx, hy, of_decide_eq_true this]
    · rw [List.getElem?_eq_none (by omega), List.getElem?_eq_none (by omega)]⟩

theorem cmp_leq [DecidableEq α] {r : Nat} {f : α → DP} (hf : DEq r f) {A : Around} (hu : A.units + 10 * (r + 1) < cLine) {xs ys : List α} : Bin prog w A (compareOp .Eq) (.lst (xs.map f)) (.lst (ys.map f)) (.frz (dBool (decide (xs = ys)))) := fun K s u v Q E hk0 h1 h2 k => by
  obtain ⟨a, vs, n, rfl, ho, al⟩ := h1
  obtain ⟨b, us, m, rfl, ho', al'⟩ := h2
  have hl : s.heap.IsList a vs.toArray := isList_of ho
  have hb : s.heap.IsList b us.toArray := isList_of ho'
  have l1 : vs.toArray.size = xs.length := by simp [al.length]
  have l2 : us.toArray.size = ys.length := by simp [al'.length]
  by_cases hlen : xs.length = ys.length
  · refine eq_listAt hl hb (by rw [l1, l2, hlen]) (by omega) (lists_at hf hu hk0 al al') ?_
    rw [l1, all_eq _ _ hlen]
    exact k K s _ (.refl hk0) rfl
  · refine eq_list_lengthsAt hl hb (by rw [l1, l2]; simpa using hlen) (by omega) ?_
    exact k K s _ (.refl hk0) (by rw [decide_eq_false (fun e => hlen (by rw [e]))]; rfl)
theorem cmp_lne [DecidableEq α] {r : Nat} {f : α → DP} (hf : DEq r f) {A : Around} (hu : A.units + 10 * (r + 1) < cLine) {xs ys : List α} : Bin prog w A (compareOp .NotEq) (.lst (xs.map f)) (.lst (ys.map f)) (.frz (dBool (!decide (xs = ys)))) := fun K s u v Q E hk0 h1 h2 k => by
  obtain ⟨a, vs, n, rfl, ho, al⟩ := h1
  obtain ⟨b, us, m, rfl, ho', al'⟩ := h2
  have hl : s.heap.IsList a vs.toArray := isList_of ho
  have hb : s.heap.IsList b us.toArray := isList_of ho'
  have l1 : vs.toArray.size = xs.length := by simp [al.length]
  have l2 : us.toArray.size = ys.length := by simp [al'.length]
  by_cases hlen : xs.length = ys.length
  · refine RcNeAt.lists hl hb (by rw [l1, l2, hlen]) (by omega) (lists_at hf hu hk0 al al') prog w E Q ?_
    rw [l1, all_eq _ _ hlen]
    exact k K s _ (.refl hk0) rfl
  · refine RcNeAt.lists_lengths hl hb (by rw [l1, l2]; simpa using hlen) (by omega) prog w E Q ?_
    exact k K s _ (.refl hk0) (by rw [decide_eq_false (fun e => hlen (by rw [e]))]; rfl)

noncomputable def eAt [DecidableEq α] (K : Kn) (f : α → DP) (ys : List α) (x : α) (v : Value) : Bool := @decide (∃ y ∈ ys, (f y).p K v ∧ y = x) (Classical.propDecidable _)
theorem eAt_of [DecidableEq α] {r : Nat} {f : α → DP} (hf : DEq r f) {ys : List α} {x y : α} {v : Value} (hy : y ∈ ys) (hp : (f y).p K v) : eAt K f ys x v = decide (y = x) := by
  unfold eAt
  rw [Bool.eq_iff_iff, @decide_eq_true_iff _ (Classical.propDecidable _), decide_eq_true_eq]
  constructor
  · rintro ⟨z, _, pz, rfl⟩
    exact of_decide_eq_true ((hf y z).same K v hp pz)
  · rintro rfl; exact ⟨y, hy, hp, rfl⟩
theorem any_at [DecidableEq α] {r : Nat} {f : α → DP} (hf : DEq r f) {zs : List α} {x : α} : ∀ {ys : List α} {vs : List Value}, Al K (ys.map f) vs → (∀ y ∈ ys, y ∈ zs) → vs.any (eAt K f zs x) = decide (x ∈ ys)
  | [], _, .nil, _ => by simp
  | y :: ys, _, .cons a al, h => by
    rw [List.any_cons, any_at hf al fun z hz => h z (List.mem_cons_of_mem _ hz), eAt_of hf (h y List.mem_cons_self) a, Bool.eq_iff_iff]
    simp only [Bool.or_eq_true, decide_eq_true_eq, List.mem_cons]
    exact ⟨fun h => h.elim (fun h => .inl h.symm) .inr, fun h => h.elim (fun h => .inl h.symm) .inr⟩
theorem in_at [DecidableEq α] {r : Nat} {f : α → DP} (hf : DEq r f) {A : Around} (hu : A.units + 10 * (r + 1) < cLine) {x : α} {ys : List α} {vs : List Value} {u : Value} (hk0 : Kle K (hk s.heap)) (al : Al K (ys.map f) vs) (hx : (f x).p K u) :
    ∀ y, y ∈ vs.toArray → EqAt A.in1 s y u (eAt K f ys x y) := fun y hy => by
  have hy' : y ∈ vs := by simpa using hy
  obtain ⟨j, hj, e⟩ := List.getElem_of_mem hy'
  obtain ⟨z, hz, pz⟩ := al.at (j := j) (v := y) (by rw [List.getElem?_eq_getElem hj, e])
  rw [eAt_of hf (List.mem_of_getElem? hz) pz]
  exact (hf z x).eq A.in1 K s _ _ (by show A.units + 1 + _ < _; omega) hk0 pz hx
theorem cmp_lin [DecidableEq α] {r : Nat} {f : α → DP} (hf : DEq r f) {A : Around} (hu : A.units + 10 * (r + 1) < cLine) {x : α} {ys : List α} : Bin prog w A (compareOp .In) (.frz (f x)) (.lst (ys.map f)) (.frz (dBool (decide (x ∈ ys)))) := fun K s u v Q E hk0 h1 h2 k => by
  obtain ⟨a, vs, n, rfl, ho, al⟩ := h2
  refine in_listAt (eAt K f ys x) (isList_of ho) (in_at hf hu hk0 al h1) (k K s _ (.refl hk0) ?_)
  have := any_at (zs := ys) (x := x) hf al fun _ h => h
  show _ = _
  rw [← this]; simp
theorem cmp_lnotin [DecidableEq α] {r : Nat} {f : α → DP} (hf : DEq r f) {A : Around} (hu : A.units + 10 * (r + 1) < cLine) {x : α} {ys : List α} : Bin prog w A (compareOp .NotIn) (.frz (f x)) (.lst (ys.map f)) (.frz (dBool (!decide (x ∈ ys)))) := fun K s u v Q E hk0 h1 h2 k => by
  obtain ⟨a, vs, n, rfl, ho, al⟩ := h2
  refine notIn_listAt (eAt K f ys x) (isList_of ho) (in_at hf hu hk0 al h1) (k K s _ (.refl hk0) ?_)
  have := any_at (zs := ys) (x := x) hf al fun _ h => h
  show _ = _
  rw [← this]; simp
theorem cmp_tin [DecidableEq α] {r : Nat} {f : α → DP} (hf : DEq r f) {A : Around} (hu : A.units + 10 * (r + 1) < cLine) {x : α} {ys : List α} : Bin prog w A (compareOp .In) (.frz (f x)) (.frz (dTup (ys.map f))) (.frz (dBool (decide (x ∈ ys)))) := fun K s u v Q E hk0 h1 h2 k => by
  obtain ⟨a, vs, n, rfl, ho, al⟩ := h2
  refine in_tupleAt (eAt K f ys x) (isTup_of (hk0 _ _ ho)) (in_at hf hu hk0 al h1) (k K s _ (.refl hk0) ?_)
  have := any_at (zs := ys) (x := x) hf al fun _ h => h
  show _ = _
  rw [← this]; simp

/-! ### keys of a dict -/
theorem cmp_din {κ : Type} [DecidableEq κ] {knd : KeyKind prog w κ} {A : Around} {kvs : List (κ × DP)} {R : V prog w} {Pk : DP} {key : κ} (hR : RdD knd kvs R) (hkey : ∀ K v, Pk.p K v → knd.is key v = true) :
    Bin prog w A (compareOp .In) (.frz Pk) R (.frz (dBool (kvs.any fun x => x.1 = key))) := fun K s u v Q E hk0 h1 h2 k => by
  obtain ⟨a, o, rfl, ho, hs, kv, hd, e1, e2⟩ := hR K _ v hk0 h2
  have hD : s.heap.DictOf knd a kv := Heap.dictOf_iff.mpr ⟨o, ho, hd⟩
  refine wpAny_in_of (hkey _ _ h1) hs hD.mapOf ?_
  rw [valueAt_none e1]
  exact k K _ _ (.toks hk0) rfl
theorem cmp_dnotin {κ : Type} [DecidableEq κ] {knd : KeyKind prog w κ} {A : Around} {kvs : List (κ × DP)} {R : V prog w} {Pk : DP} {key : κ} (hR : RdD knd kvs R) (hkey : ∀ K v, Pk.p K v → knd.is key v = true) :
    Bin prog w A (compareOp .NotIn) (.frz Pk) R (.frz (dBool (!kvs.any fun x => x.1 = key))) := fun K s u v Q E hk0 h1 h2 k => by
  obtain ⟨a, o, rfl, ho, hs, kv, hd, e1, e2⟩ := hR K _ v hk0 h2
  have hD : s.heap.DictOf knd a kv := Heap.dictOf_iff.mpr ⟨o, ho, hd⟩
  refine wpAny_notIn_of (hkey _ _ h1) hs hD.mapOf ?_
  rw [valueAt_none e1]
  exact k K _ _ (.toks hk0) rfl

/-! ### dicts against each other -/
noncomputable def eqDict {κ : Type} [DecidableEq κ] [DecidableEq β] (a b : List (κ × β)) : Bool := a.length == b.length && a.all fun kv => decide (lookK b kv.1 = some kv.2)
noncomputable def mapD {κ : Type} (f : β → DP) (kvs : List (κ × β)) : List (κ × DP) := kvs.map fun kv => (kv.1, f kv.2)
theorem lookK_map {κ : Type} [DecidableEq κ] (f : β → γ) (k : κ) : ∀ l : List (κ × β), lookK (l.map fun kv => (kv.1, f kv.2)) k = (lookK l k).map f
  | [] => rfl
  | (x, y) :: r => by
    have := lookK_map f k r
    unfold lookK at this ⊢
    by_cases hx : x = k
    · simp [hx]
    · simpa [List.find?_cons, hx] using this
theorem hits_of {κ : Type} [DecidableEq κ] [DecidableEq β] {r : Nat} {f : β → DP} (hf : DEq r f) {A : Around} (hu : A.units + 10 * r < cLine) (hk0 : Kle K (hk s.heap)) {kb : List (κ × Value)} {b : List (κ × β)} (b1 : kb.map (·.1) = (mapD f b).map (·.1)) (b2 : Al K ((mapD f b).map (·.2)) (kb.map (·.2))) :
    ∀ {ka : List (κ × Value)} {a : List (κ × β)}, ka.map (·.1) = (mapD f a).map (·.1) → Al K ((mapD f a).map (·.2)) (ka.map (·.2)) → KeqHits A s kb ka (a.all fun kv => decide (lookK b kv.1 = some kv.2))
  | [], [], _, _ => .nil
  | [], _ :: _, h, _ => by cases h
  | _ :: _, [], h, _ => by cases h
  | (x, v) :: ra, (y, d) :: qa, h1, h2 => by
    simp only [mapD, List.map_cons, List.cons.injEq] at h1
    obtain ⟨rfl, h1⟩ := h1
    simp only [mapD, List.map_cons] at h2
    cases h2 with
    | cons pv al =>
      have ih := hits_of hf hu hk0 b1 b2 (ka := ra) (a := qa) h1 al
      rw [List.all_cons]
      cases q : lookK b x with
      | none =>
        have : valueAt kb x = none := by
          have h3 := valueAt_none b1 (k := x)
          have h4 : ((mapD f b).any fun y => decide (y.1 = x)) = false := by
            unfold lookK at q
            rw [Option.map_eq_none_iff, List.find?_eq_none] at q
            rw [List.any_eq_false]
            intro z hz
            obtain ⟨z', hz', rfl⟩ := List.mem_map.mp hz
            exact q z' hz'
          rw [h4] at h3
          cases e : valueAt kb x with
          | none => rfl
          | some u => rw [e] at h3; cases h3
        have : KeqHits A s kb ((x, v) :: ra) false := .miss this
        simpa using this
      | some d' =>
        obtain ⟨u, hu', pu⟩ := valueAt_al b1 b2 (k := x) (P := f d') (by
          have := lookK_map f x b
          rw [q] at this
          exact this)
        have := KeqHits.hit (v := v) hu' ((hf d d').eq A K s _ _ hu hk0 pv pu) ih
        have e : decide (some d' = some d) = decide (d = d') := by
          rw [Bool.eq_iff_iff]; simp only [decide_eq_true_eq, Option.some.injEq]; exact eq_comm
        simp only [e]
        exact this
theorem cmp_dne {κ : Type} [DecidableEq κ] [DecidableEq β] {knd : KeyKind prog w κ} {r : Nat} {f : β → DP} (hf : DEq r f) {A : Around} (hu : A.units + 10 * (r + 1) < cLine) {a b : List (κ × β)} {Ra Rb : V prog w} (hA : RdD knd (mapD f a) Ra) (hB : RdD knd (mapD f b) Rb) :
    Bin prog w A (compareOp .NotEq) Ra Rb (.frz (dBool (!eqDict a b))) := fun K s u v Q E hk0 h1 h2 k => by
  obtain ⟨x, o, rfl, ho, hs, ka, hd, e1, e2⟩ := hA K _ u hk0 h1
  obtain ⟨y, o', rfl, ho', hs', kb, hd', e1', e2'⟩ := hB K _ v hk0 h2
  have hDx : s.heap.DictOf knd x ka := Heap.dictOf_iff.mpr ⟨o, ho, hd⟩
  have hDy : s.heap.DictOf knd y kb := Heap.dictOf_iff.mpr ⟨o', ho', hd'⟩
  have l1 : ka.length = a.length := by have := DRep.length e1; simpa [mapD] using this
  have l2 : kb.length = b.length := by have := DRep.length e1'; simpa [mapD] using this
  refine keq_ne hs hs' hDx hDy (by omega) (fun _ => hits_of hf (by show A.units + 1 + _ < _; omega) hk0 e1' e2' e1 e2) ?_
  rw [l1, l2]
  exact k K s _ (.refl hk0) rfl
end
end Mine
end
/-! part A16 -/
section
open PySem PySem.Calls PySem.Spec PyProof.Rows PySem.W PySem.SeqAt
set_option Elab.async false
set_option linter.unusedVariables false
namespace Mine
section
variable {prog : Program} {w : World} {F F' : Fm} {K K' X : Kn} {ρ ρ' : Ro prog w} {s s' : Shared} {α β γ : Type} {Φ : Out → Ro prog w → Prop} {mg mb : Str → Option Value}

theorem frozen_new {Q : Value → Shared → Prop} {P : DP} {o : Obj} {tk : Nat} (hk0 : Kle K (hk s.heap)) (hf : o.isFreed = false) (hp : ∀ K', Kle K K' → K' s.heap.objs.size = some o → P.p K' (.ref s.heap.objs.size))
    (k : ∀ K' s' v, Ext s s' K K' → P.p K' v → Q v s') : Q (.ref s.heap.objs.size) { s with heap := s.heap.push o, toks := tk } := by
  let K' : Kn := fun b => if b = s.heap.objs.size then some o else K b
  have hle : Kle K K' := fun b o' e => by
    show (if b = _ then some o else K b) = _
    rw [if_neg]
    · exact e
    · rintro rfl; have := hk0 _ _ e; rw [show hk s.heap _ = s.heap.get? _ from rfl, get_new] at this; cases this
  refine k K' _ _ ⟨⟨rfl, .refl _⟩, fun b o' e => Heap.get?_push_of_some _ e, hle, fun b o' e => if_neg (Nat.ne_of_lt (Heap.lt_size e)), fun b o' e => ?_⟩ (hp K' hle (if_pos rfl))
  have e' : (if b = s.heap.objs.size then some o else K b) = some o' := e
  by_cases hb : b = s.heap.objs.size
  · rw [if_pos hb] at e'; cases e'; rw [hb]; exact Heap.get?_push_size _ hf
  · rw [if_neg hb] at e'; exact Heap.get?_push_of_some _ (hk0 _ _ e')

/-- a grown heap in which a new object stands: it is frozen -/
theorem frozen_at {Q : Value → Shared → Prop} {P : DP} {o : Obj} {a : Addr} {h' : Heap} {tk : Nat} (hk0 : Kle K (hk s.heap)) (keep : Keep s.heap h') (ho : h'.get? a = some o) (hn : s.heap.get? a = none) (hp : ∀ K', Kle K K' → K' a = some o → P.p K' (.ref a))
    (k : ∀ K' s' v, Ext s s' K K' → P.p K' v → Q v s') : Q (.ref a) { s with heap := h', toks := tk } := by
  let K' : Kn := fun b => if b = a then some o else K b
  have hle : Kle K K' := fun b o' e => by
    show (if b = _ then some o else K b) = _
    rw [if_neg]
    · exact e
    · rintro rfl; have := hk0 _ _ e; rw [show hk s.heap _ = s.heap.get? _ from rfl, hn] at this; cases this
  refine k K' _ _ ⟨⟨rfl, .refl _⟩, keep, hle, fun b o' e => if_neg (by rintro rfl; rw [hn] at e; cases e), fun b o' e => ?_⟩ (hp K' hle (if_pos rfl))
  have e' : (if b = a then some o else K b) = some o' := e
  by_cases hb : b = a
  · rw [if_pos hb] at e'; cases e'; rw [hb]; exact ho
  · rw [if_neg hb] at e'; exact keep _ _ (hk0 _ _ e')

/-! ### calls of the language's own functions and types -/
noncomputable def Bfn (prog : Program) (w : World) (A : Around) (f : Value) (Rs : List (V prog w)) (R : V prog w) : Prop :=
  ∀ (K : Kn) (s : Shared) (vs : List Value) (Q E : Value → Shared → Prop), Kle K (hk s.heap) → Rl K (hk s.heap) Rs vs → (∀ K' s' v, Ext s s' K K' → R.rd K' (hk s'.heap) v → Q v s') → wpAny (model prog w) A (call f vs []) Q E s
noncomputable def BfnN (prog : Program) (w : World) (A : Around) (f : Value) (Rs : List (V prog w)) (R : V prog w) : Prop :=
  ∀ (K : Kn) (s : Shared) (vs : List Value) (Q E : Value → Shared → Prop), Kle K (hk s.heap) → Rl K (hk s.heap) Rs vs →
    (∀ K' s' a, Ext s s' K K' → R.rd K' (hk s'.heap) (.ref a) → K' a = none → s.heap.get? a = none → Q (.ref a) s') → wpAny (model prog w) A (call f vs []) Q E s
theorem ev_built {n : Nat} {x : Str} {id : String} {px pos : Pos} {args : List PySem.Expr} {Rs : List (V prog w)} {R : V prog w} (ok : Fok n F) (G : Gl F.g mg mb) (hx : F.env.kindOf x = some .globalImplicit) (hm : mg x = none)
    (hv : bootBuiltins x = some (.builtin id)) (ha : Evs F (backTo pos (starEach args F.env)) ρ Rs) (hp : (backTo pos (starEach args F.env)).any (·.1) = false) (h : Bfn prog w F.A (.builtin id) Rs R)
    (hn : x ≠ "__name__" := by decide) (hd : (x == ("__debug__" : Str)) = false := by decide) : Ev F (.Call (.Name x px) args [] pos) ρ R := Wr.mk <| fun K X s Q E S k =>
  wpAny_Call_NameR (eval_built ok G S hx hm hv (callWith_builtin hp (evalArgs_of ha hp S fun K₁ s₁ vs e₁ r => h K₁ s₁ vs Q E e₁.kin r fun K₂ s₂ v e₂ hv => k K₂ s₂ v (e₁.trans e₂) hv)) hn hd)
theorem none_back (k : Keep s.heap s'.heap) {x : Addr} (hf : s'.heap.get? x = none) : s.heap.get? x = none := by
  cases q : s.heap.get? x with
  | none => rfl
  | some o => rw [k _ _ q] at hf; cases hf
theorem en_built {n : Nat} {x : Str} {id : String} {px pos : Pos} {args : List PySem.Expr} {Rs : List (V prog w)} {R : V prog w} (ok : Fok n F) (G : Gl F.g mg mb) (hx : F.env.kindOf x = some .globalImplicit) (hm : mg x = none)
    (hv : bootBuiltins x = some (.builtin id)) (ha : Evs F (backTo pos (starEach args F.env)) ρ Rs) (hp : (backTo pos (starEach args F.env)).any (·.1) = false) (h : BfnN prog w F.A (.builtin id) Rs R)
    (hn : x ≠ "__name__" := by decide) (hd : (x == ("__debug__" : Str)) = false := by decide) : En F (.Call (.Name x px) args [] pos) ρ R := Wr.mk <| fun K X s Q E S k =>
  wpAny_Call_NameR (eval_built ok G S hx hm hv (callWith_builtin hp (evalArgs_of ha hp S fun K₁ s₁ vs e₁ r => h K₁ s₁ vs Q E e₁.kin r fun K₂ s₂ v e₂ hv hk' hn' => k K₂ s₂ v (e₁.trans e₂) hv hk' (none_back e₁.keep hn'))) hn hd)
theorem ev_type {n : Nat} {x : Str} {T : String} {px pos : Pos} {args : List PySem.Expr} {Rs : List (V prog w)} {R : V prog w} (ok : Fok n F) (G : Gl F.g mg mb) (hx : F.env.kindOf x = some .globalImplicit) (hm : mg x = none)
    (hv : bootBuiltins x = some (.type T)) (ha : Evs F (backTo pos (starEach args F.env)) ρ Rs) (hp : (backTo pos (starEach args F.env)).any (·.1) = false) (h : Bfn prog w F.A (.type T) Rs R)
    (hn : x ≠ "__name__" := by decide) (hd : (x == ("__debug__" : Str)) = false := by decide) : Ev F (.Call (.Name x px) args [] pos) ρ R := Wr.mk <| fun K X s Q E S k =>
  wpAny_Call_NameR (eval_built ok G S hx hm hv (PySem.callWith_type hp (evalArgs_of ha hp S fun K₁ s₁ vs e₁ r => h K₁ s₁ vs Q E e₁.kin r fun K₂ s₂ v e₂ hv => k K₂ s₂ v (e₁.trans e₂) hv)) hn hd)
theorem en_type {n : Nat} {x : Str} {T : String} {px pos : Pos} {args : List PySem.Expr} {Rs : List (V prog w)} {R : V prog w} (ok : Fok n F) (G : Gl F.g mg mb) (hx : F.env.kindOf x = some .globalImplicit) (hm : mg x = none)
    (hv : bootBuiltins x = some (.type T)) (ha : Evs F (backTo pos (starEach args F.env)) ρ Rs) (hp : (backTo pos (starEach args F.env)).any (·.1) = false) (h : BfnN prog w F.A (.type T) Rs R)
    (hn : x ≠ "__name__" := by decide) (hd : (x == ("__debug__" : Str)) = false := by decide) : En F (.Call (.Name x px) args [] pos) ρ R := Wr.mk <| fun K X s Q E S k =>
  wpAny_Call_NameR (eval_built ok G S hx hm hv (PySem.callWith_type hp (evalArgs_of ha hp S fun K₁ s₁ vs e₁ r => h K₁ s₁ vs Q E e₁.kin r fun K₂ s₂ v e₂ hv hk' hn' => k K₂ s₂ v (e₁.trans e₂) hv hk' (none_back e₁.keep hn'))) hn hd)

/-! ### range -/
noncomputable def rObj (a b : Int) (t u v : Tok) : Obj := { cls := .type "range", dict := none, data := .fields #[.int a t, .int b u, .int 1 v], slots := #[] }
noncomputable def dRng (a b : Int) : DP := ⟨fun K v => ∃ r t u q, v = .ref r ∧ K r = some (rObj a b t u q), fun hk ⟨r, t, u, q, e, h⟩ => ⟨r, t, u, q, e, hk _ _ h⟩⟩
theorem bfn_range1 {A : Around} {b : Int} : Bfn prog w A (.type "range") [.frz (dInt b)] (.frz (dRng 0 b)) := fun K s vs Q E hk0 r k => by
  cases r with
  | cons h r =>
    cases r
    obtain ⟨t, rfl⟩ := h
    exact call_range_1 (frozen_new (P := dRng 0 b) hk0 rfl (fun K' _ h => ⟨_, _, _, _, rfl, h⟩) k)
theorem bfn_range2 {A : Around} {a b : Int} : Bfn prog w A (.type "range") [.frz (dInt a), .frz (dInt b)] (.frz (dRng a b)) := fun K s vs Q E hk0 r k => by
  cases r with
  | cons h r =>
    cases r with
    | cons h' r =>
      cases r
      obtain ⟨t, rfl⟩ := h
      obtain ⟨u, rfl⟩ := h'
      exact call_range_2 (frozen_new (P := dRng a b) hk0 rfl (fun K' _ h => ⟨_, _, _, _, rfl, h⟩) k)
/-- the numbers from a up to b -/
noncomputable def upto (a b : Int) : List Int := (List.range (b - a).toNat).map fun i => a + (i : Nat)
theorem rsize (a b : Int) : Builtin.Range.rangeSize a b 1 = ((b - a).toNat : Int) := by
  rw [rangeSize_one]; split <;> omega
theorem itr_rng {A : Around} (hh : A.handled = none) {a b : Int} (ha : -(2 ^ 62) ≤ a) (ha' : a < 2 ^ 62) (hb : -(2 ^ 62) ≤ b) (hb' : b < 2 ^ 62) : Itr prog w A (.frz (dRng a b)) ((upto a b).map dInt) := fun K s v Q E hk0 hr k => by
  obtain ⟨r, t, u, q, rfl, ho⟩ := hr
  have hR : IsRange s.heap r a b 1 t u q := hk0 _ _ ho
  refine wpAny_pyIter_range hR (small_one ha ha' hb hb') ?_
  have W := Walks.range (prog := prog) (w := w) hh s.heap.objs.size a 1 (b - a).toNat
  have hlen : ((upto a b).map dInt).length = (b - a).toNat := by simp [upto]
  refine k s.heap.objs.size _ _ _ _ s.toks (by
    rw [hlen]
    refine ⟨W.sub, W.frame, fun i s Q E hi st hQ => W.item i s Q E hi st fun v h' tk hP st' hk' => hQ v h' tk ?_ st' hk', W.done, W.self⟩
    obtain ⟨t, rfl⟩ := hP
    refine ⟨dInt (a + i), by simp [upto, hi], t, by simp⟩) ?_ (fun b o e => Heap.get?_push_of_some _ e) (fun c hc => by rw [List.mem_singleton.mp hc]; exact get_new _) (fun i h st c hc => ?_) (fun c hc => .inl hc)
  · rw [rsize]
    have e1 : (a + ((0 : Nat) : Int) * 1) = a := by simp
    have e2 : (((b - a).toNat : Int) - ((0 : Nat) : Int)) = ((b - a).toNat : Int) := by simp
    rw [e1, e2]
    exact Heap.get?_push_size _ rfl
  · rw [List.mem_singleton.mp hc]; exact ⟨_, st⟩

/-! ### texts -/
noncomputable def sgn (x : Str) : List Str := x.cps.toList.map fun c => ⟨#[c]⟩
theorem itr_str {A : Around} (hh : A.handled = none) {x : Str} (hob : True) : Itr prog w A (.frz (dStr x)) ((sgn x).map dStr) := fun K s v Q E hk0 hr k => by
  obtain ⟨t, rfl⟩ := hr
  have key : ∀ T : String, Walks prog w A s.heap.objs.size [s.heap.objs.size] [s.heap.objs.size] x.cps.size (SignAt x) (fun i h => h.IsStrIter s.heap.objs.size T x t i) → Q (.ref s.heap.objs.size) { s with heap := s.heap.push { cls := .type T, data := .fields #[.str x t, .int 0 0] }, toks := s.toks } := fun T W => by
    have hlen : ((sgn x).map dStr).length = x.cps.size := by simp [sgn]
    refine k s.heap.objs.size _ _ (fun i h => h.IsStrIter s.heap.objs.size T x t i) _ s.toks (by
      rw [hlen]
      refine ⟨W.sub, W.frame, fun i s Q E hi st hQ => W.item i s Q E hi st fun v h' tk hP st' hk' => hQ v h' tk ?_ st' hk', W.done, W.self⟩
      obtain ⟨c, u, hc, rfl⟩ := hP
      refine ⟨dStr ⟨#[c]⟩, ?_, u, rfl⟩
      simp [sgn, hc]) ⟨_, Heap.get?_push_size _ rfl, rfl, rfl⟩ (fun b o e => Heap.get?_push_of_some _ e) (fun c hc => by rw [List.mem_singleton.mp hc]; exact get_new _) (fun i h st c hc => ?_) (fun c hc => .inl hc)
    rw [List.mem_singleton.mp hc]; obtain ⟨o, ho, _⟩ := st; exact ⟨o, ho⟩
  cases ha : x.cps.all (· < 128)
  · exact wpAny_pyIter_wide ha (key _ (Walks.strWide hh _ x t))
  · exact wpAny_pyIter_ascii ha (key _ (Walks.strAscii hh _ x t))

/-! ### dicts: keys, values -/
theorem al_map {κ : Type} : ∀ {kv : List (κ × Value)} {kvs : List (κ × DP)}, kv.map (·.1) = kvs.map (·.1) → ∀ (i : Nat) (k : κ) (v : Value), kv[i]? = some (k, v) → ∃ P : DP, kvs[i]? = some (k, P) := fun {kv kvs} h i k v hi => by
  have := congrArg (fun l => l[i]?) h
  simp only [List.getElem?_map, hi, Option.map_some] at this
  cases e : kvs[i]? with
  | none => rw [e] at this; cases this
  | some p =>
    rw [e] at this
    simp only [Option.map_some, Option.some.injEq] at this
    exact ⟨p.2, by rw [this]⟩
theorem itr_keys {κ : Type} [DecidableEq κ] {knd : KeyKind prog w κ} {A : Around} (hh : A.handled = none) {kvs : List (κ × DP)} (kp : κ → DP) (hkp : ∀ K k v, knd.is k v = true → (kp k).p K v) : Itr prog w A (.frz (dDict knd kvs)) (kvs.map fun kv => kp kv.1) := fun K s v Q E hk0 hr k => by
  obtain ⟨d, o, rfl, ho, hs, kv, hd, h1, h2⟩ := hr
  obtain ⟨es, ep, hd'⟩ := id hd
  have hA : s.heap.DictAt knd d kv ep := ⟨o, es, hk0 _ _ ho, hd'⟩
  refine wpAny_pyIter_dict hs hA ?_
  have hne : d ≠ s.heap.objs.size := Nat.ne_of_lt hA.lt_size
  have W := Walks.dictKeys (prog := prog) (w := w) (knd := knd) hh s.heap.objs.size d hne kv ep
  have hlen : (kvs.map fun kv => kp kv.1).length = kv.length := by rw [List.length_map, DRep.length h1]
  refine k s.heap.objs.size _ _ (fun i h => h.IsKeyIter s.heap.objs.size d i kv.length ep ∧ h.DictAt knd d kv ep) _ s.toks (by
    rw [hlen]
    refine ⟨W.sub, W.frame, fun i s Q E hi st hQ => W.item i s Q E hi st fun v h' tk hP st' hk' => hQ v h' tk ?_ st' hk', W.done, W.self⟩
    obtain ⟨k, x, hx, hv⟩ := hP
    obtain ⟨P, hP⟩ := al_map h1 i k x hx
    exact ⟨kp k, by simp [hP], hkp K k v hv⟩) ⟨⟨_, Heap.get?_push_size _ rfl, rfl, rfl⟩, hA.push _⟩ (fun b o e => Heap.get?_push_of_some _ e) (fun c hc => by rw [List.mem_singleton.mp hc]; exact get_new _) (fun i h st c hc => ?_) (fun c hc => ?_)
  · rw [List.mem_singleton.mp hc]; obtain ⟨o, ho, _⟩ := st.1; exact ⟨o, ho⟩
  · rcases List.mem_cons.mp hc with rfl | hc
    · exact .inl (List.mem_singleton.mpr rfl)
    · rw [List.mem_singleton.mp hc]; exact .inr ⟨o, ho⟩

noncomputable def dVals {κ : Type} [DecidableEq κ] (knd : KeyKind prog w κ) (kvs : List (κ × DP)) : DP := ⟨fun K v => ∃ a d o, v = .ref a ∧ K a = some { cls := .type "dict_values", data := .fields #[.ref d] } ∧ K d = some o ∧ DRep knd K kvs o,
  fun hk ⟨a, d, o, e, h1, h2, r⟩ => ⟨a, d, o, e, hk _ _ h1, hk _ _ h2, r.mono hk⟩⟩
theorem ez_values {κ : Type} [DecidableEq κ] {knd : KeyKind prog w κ} {e : PySem.Expr} {apos pos : Pos} {kvs : List (κ × DP)} (h : Ez F e ρ (dDict knd kvs)) (hbase : attributeBase e "values" F.env (eval e F.env) = eval e F.env) (hline : (apos.endLine == pos.line) = true) :
    Ez F (.Call (.Attribute e "values" apos) [] [] pos) ρ (dVals knd kvs) := Wr.mk <| fun K X s Q E S k => by
  refine wpAny_Call_method (T := "dict") (id := "dict.values") hbase rfl hline PySem.F.plainAttrs_dict PySem.F.slot_dict_values PySem.F.type_dict_values (h.out K X s _ E S fun K₁ s₁ v e₁ hv => ?_)
  obtain ⟨d, o, rfl, ho, hs, kv, hd, h1, h2⟩ := hv
  have hD : s₁.heap.DictOf knd d kv := Heap.dictOf_iff.mpr ⟨o, e₁.kin _ _ ho, hd⟩
  refine ⟨hD.typeIs, hD.mapOf.noDict, ?_⟩
  show wpAny _ _ (callWith pos (.builtin "dict.values") [.ref d] [] []) Q E s₁
  refine method_meetsIn PySem.F.slot_dict_values PySem.F.entry_dict_values rfl (PySem.evalArgs_none ⟨rfl, hD.typeIs, PySem.F.args_dict_values_1 _, _, meets_dict_values knd d hs, ⟨kv, hD⟩, ?_⟩)
  exact frozen_new (tk := s₁.toks) (P := dVals knd kvs) e₁.kin rfl (fun K' le h => ⟨_, d, o, rfl, h, le _ _ ho, kv, hd, h1, h2.mono le⟩) fun K₂ s₂ v e₂ hv => k K₂ s₂ v (e₁.trans e₂) hv
theorem itr_vals {κ : Type} [DecidableEq κ] {knd : KeyKind prog w κ} {A : Around} (hh : A.handled = none) {kvs : List (κ × DP)} : Itr prog w A (.frz (dVals knd kvs)) (kvs.map (·.2)) := fun K s v Q E hk0 hr k => by
  obtain ⟨a, d, o, rfl, ha, ho, kv, hd, h1, h2⟩ := hr
  obtain ⟨es, ep, hd'⟩ := id hd
  have hA : s.heap.DictAt knd d kv ep := ⟨o, es, hk0 _ _ ho, hd'⟩
  refine wpAny_pyIter_values ⟨_, hk0 _ _ ha, rfl, rfl⟩ hA ?_
  have hne : d ≠ s.heap.objs.size := Nat.ne_of_lt hA.lt_size
  have W := Walks.dictValues (prog := prog) (w := w) (knd := knd) hh s.heap.objs.size d hne kv ep
  have hlen : (kvs.map (·.2)).length = kv.length := by rw [List.length_map, DRep.length h1]
  refine k s.heap.objs.size _ _ (fun i h => h.IsValIter s.heap.objs.size d i kv.length ep ∧ h.DictAt knd d kv ep) _ s.toks (by
    rw [hlen]
    refine ⟨W.sub, W.frame, fun i s Q E hi st hQ => W.item i s Q E hi st fun v h' tk hP st' hk' => hQ v h' tk ?_ st' hk', W.done, W.self⟩
    obtain ⟨k, hx⟩ := hP
    exact h2.get' (i := i) (v := v) (by simp [hx])) ⟨⟨_, Heap.get?_push_size _ rfl, rfl, rfl⟩, hA.push _⟩ (fun b o e => Heap.get?_push_of_some _ e) (fun c hc => by rw [List.mem_singleton.mp hc]; exact get_new _) (fun i h st c hc => ?_) (fun c hc => ?_)
  · rw [List.mem_singleton.mp hc]; obtain ⟨o, ho, _⟩ := st.1; exact ⟨o, ho⟩
  · rcases List.mem_cons.mp hc with rfl | hc
    · exact .inl (List.mem_singleton.mpr rfl)
    · rw [List.mem_singleton.mp hc]; exact .inr ⟨o, ho⟩
end
end Mine
end
/-! part A17 -/
section
open PySem PySem.Calls PySem.Spec PyProof.Rows PySem.W PySem.SeqAt
set_option Elab.async false
set_option linter.unusedVariables false
namespace Mine
section
variable {prog : Program} {w : World} {F F' : Fm} {K K' X : Kn} {ρ ρ' : Ro prog w} {s s' : Shared} {α β γ : Type} {Φ : Out → Ro prog w → Prop} {mg mb : Str → Option Value}

/-! ### methods that read -/
noncomputable def Recv (prog : Program) (w : World) (T : String) (Ra : V prog w) : Prop := ∀ (K : Kn) (s : Shared) (u : Value), Kle K (hk s.heap) → Ra.rd K (hk s.heap) u → s.TypeIs u T ∧ ∀ a, u = .ref a → ∃ ob, s.heap.get? a = some ob ∧ ob.dict = none
theorem recv_str {x : Str} : Recv prog w "str" (.frz (dStr x)) := fun K s u _ ⟨t, e⟩ => by subst e; exact ⟨rfl, fun a e => nomatch e⟩
theorem recv_lst {Ps : List DP} : Recv prog w "list" (.lst Ps) := fun K s u _ ⟨a, vs, n, e, h, _⟩ => by
  subst e; exact ⟨⟨_, h, rfl⟩, fun b e => by cases e; exact ⟨_, h, rfl⟩⟩
theorem ev_method {T id : String} {name : Str} {o : PySem.Expr} {apos pos : Pos} {args : List PySem.Expr} {Ra R : V prog w} {Rs : List (V prog w)} (pa : PlainAttrs T) (slot : Slot T name id) (hty : typeOf (.builtin id) = pure (.type "method_descriptor"))
    (hr : Recv prog w T Ra) (ho : Ev F o ρ Ra) (ha : Evs F (backTo pos (starEach args F.env)) ρ Rs) (hp : (backTo pos (starEach args F.env)).any (·.1) = false)
    (h : Bfn prog w F.A (.builtin id) (Ra :: Rs) R)
    (hbase : attributeBase o name F.env (eval o F.env) = eval o F.env)
    (hfew : ((backTo pos (starEach args F.env)).all (fun x => !x.1) && (backToKw pos (keywordEach [] F.env)).all (fun x => x.1.isSome)
      && decide (args.length + ([] : List Keyword).length + (if ([] : List Keyword).isEmpty then 0 else 1) < 30)) = true)
    (hline : (apos.endLine == pos.line) = true) :
    Ev F (.Call (.Attribute o name apos) args [] pos) ρ R := Wr.mk <| fun K X s Q E S k =>
  wpAny_Call_method hbase hfew hline pa slot hty (ho.out K X s _ E S fun K₁ s₁ u e₁ hu =>
    let ⟨h1, h2⟩ := hr K₁ s₁ u e₁.kin hu
    ⟨h1, h2, callWith_builtin hp (evalArgs_of ha hp (S.ext e₁) fun K₂ s₂ vs e₂ r => h K₂ s₂ (u :: vs) Q E e₂.kin (.cons (hu.mono e₂.le fun a o q => e₂.keep a o q) r) fun K₃ s₃ v e₃ hv => k K₃ s₃ v ((e₁.trans e₂).trans e₃) hv)⟩)

theorem bfn_lower {A : Around} {x : Str} (hsz : x.length ≤ 1000) : Bfn prog w A (.builtin "str.lower") [.frz (dStr x)] (.frz (dStr (Txt.lower x))) := fun K s vs Q E hk0 r k => by
  cases r with
  | cons h r =>
    cases r
    obtain ⟨t, rfl⟩ := h
    exact SC.lower (fit_lower (Nat.le_trans hsz (by decide))) (k K _ _ (.toks hk0) ⟨_, rfl⟩)
theorem bfn_sindex {A : Around} {x y : Str} {i : Nat} {rest : List Nat} (h : Builtin.Str.occurrences x y 0 x.length 1 = i :: rest) : Bfn prog w A (.builtin "str.index") [.frz (dStr x), .frz (dStr y)] (.frz (dInt i)) := fun K s vs Q E hk0 r k => by
  cases r with
  | cons h1 r => cases r with
    | cons h2 r =>
      cases r
      obtain ⟨t, rfl⟩ := h1
      obtain ⟨u, rfl⟩ := h2
      exact call_gives PySem.F.slot_str_index (typeIs_str _ _ _) PySem.F.entry_str_index (PySem.F.args_str_index_2 _ _) (gives_str_index x y t u i rest h) (k K _ _ (.toks hk0) ⟨_, rfl⟩)
theorem al_strs : ∀ {xs : List Str} {vs : List Value}, Al K (xs.map dStr) vs → ∃ l : List (Str × Tok), l.map (·.1) = xs ∧ vs = strValues l
  | [], _, .nil => ⟨[], rfl, rfl⟩
  | x :: xs, _, .cons ⟨t, e⟩ al => by
    obtain ⟨l, h1, h2⟩ := al_strs al
    exact ⟨(x, t) :: l, by rw [List.map_cons, h1], by rw [e, h2]; rfl⟩
theorem bfn_join {A : Around} {x : Str} {xs : List Str} (hok : JoinOk x xs = true) : Bfn prog w A (.builtin "str.join") [.frz (dStr x), .lst (xs.map dStr)] (.frz (dStr (Txt.join x xs))) := fun K s vs Q E hk0 r k => by
  cases r with
  | cons h1 r => cases r with
    | cons h2 r =>
      cases r
      obtain ⟨t, rfl⟩ := h1
      obtain ⟨a, vs, n, rfl, ho, al⟩ := h2
      obtain ⟨l, hl, rfl⟩ := al_strs al
      exact SC.join (isList_of ho) hl hok fun t' tk => k K _ _ (.toks hk0) ⟨_, rfl⟩
theorem bfn_lindex [DecidableEq α] {r : Nat} {f : α → DP} (hf : DEq r f) {A : Around} (hu : A.units + 10 * (r + 2) < cLine) {ys : List α} {x : α} {j : Nat} (hj : ys.findIdx? (fun y => decide (y = x)) = some j) (hsz : ys.length ≤ 1000) :
    Bfn prog w A (.builtin "list.index") [.lst (ys.map f), .frz (f x)] (.frz (dInt j)) := fun K s vs Q E hk0 rr k => by
  cases rr with
  | cons h1 rr => cases rr with
    | cons h2 rr =>
      cases rr
      obtain ⟨a, us, n, rfl, ho, al⟩ := h1
      obtain ⟨hlt, hhit, hmiss⟩ := List.findIdx?_eq_some_iff_getElem.mp hj
      have hlen : us.length = ys.length := by rw [al.length, List.length_map]
      have ho' : s.heap.get? a = some { cls := .type "list", dict := none, data := .seq us.toArray n, slots := #[] } := ho
      have e1 : ∀ m (hm : m < us.toArray.size), eAt K f ys x us.toArray[m] = decide (ys[m]? = some x) := fun m hm => by
        have hm' : m < us.length := by simpa using hm
        obtain ⟨z, hz, pz⟩ := al.at (List.getElem?_eq_getElem hm')
        have := eAt_of hf (x := x) (List.mem_of_getElem? hz) pz
        rw [hz]
        simpa using this
      refine call_meets PySem.F.slot_list_index ⟨_, ho', rfl⟩ PySem.F.entry_list_index (PySem.F.args_list_index_2 _ _)
        (list_indexAt a us.toArray n none #[] _ (eAt K f ys x) j (by simp [hlen, hlt]) (by omega) (by rw [e1]; simp [List.getElem?_eq_getElem hlt, of_decide_eq_true hhit]) (fun m hm hmj => by
          rw [e1]
          have hm' : m < ys.length := by simp [hlen] at hm; exact hm
          have := hmiss m hmj
          simpa [List.getElem?_eq_getElem hm'] using this))
        ⟨ho', in_at hf (A := A) (by omega) hk0 al h2, k K _ _ (.toks hk0) ⟨_, rfl⟩⟩

/-! ### functions -/
theorem bfn_len_lst {A : Around} {Ps : List DP} (hsz : Ps.length ≤ sizeLine) : Bfn prog w A (.builtin "len") [.lst Ps] (.frz (dInt Ps.length)) := fun K s vs Q E hk0 r k => by
  cases r with
  | cons h1 r =>
    cases r
    obtain ⟨a, us, n, rfl, ho, al⟩ := h1
    have hfit : (us.toArray.size : Int) < 2 ^ 63 := by
      have e : sizeLine = 16777216 := sizeLine_eq
      simp [al.length]; omega
    refine call_len_list (isList_of ho) hfit ?_
    refine k K _ _ (.toks hk0) ⟨s.toks + 1, ?_⟩
    simp [al.length]
theorem bfn_len_dict {κ : Type} [DecidableEq κ] {knd : KeyKind prog w κ} {A : Around} {kvs : List (κ × DP)} {R : V prog w} (hR : RdD knd kvs R) (hsz : kvs.length ≤ 1000) : Bfn prog w A (.builtin "len") [R] (.frz (dInt kvs.length)) := fun K s vs Q E hk0 r k => by
  cases r with
  | cons h1 r =>
    cases r
    obtain ⟨a, o, rfl, ho, hs, kv, hd, e1, e2⟩ := hR K _ _ hk0 h1
    have hD : s.heap.DictOf knd a kv := Heap.dictOf_iff.mpr ⟨o, ho, hd⟩
    refine call_len_dict hs hD (by rw [DRep.length e1]; omega) ?_
    rw [DRep.length e1]
    exact k K _ _ (.toks hk0) ⟨_, rfl⟩
theorem bfn_len_str {A : Around} {x : Str} (hsz : x.length ≤ 1000) : Bfn prog w A (.builtin "len") [.frz (dStr x)] (.frz (dInt x.length)) := fun K s vs Q E hk0 r k => by
  cases r with
  | cons h1 r =>
    cases r
    obtain ⟨t, rfl⟩ := h1
    exact PyProof.Rows.len_str (by omega) (k K _ _ (.toks hk0) ⟨_, rfl⟩)
theorem bfn_max {A : Around} (hh : A.handled = none) {a b : Int} : Bfn prog w A (.builtin "max") [.frz (dInt a), .frz (dInt b)] (.frz (dInt (max a b))) := fun K s vs Q E hk0 r k => by
  cases r with
  | cons h1 r => cases r with
    | cons h2 r =>
      cases r
      obtain ⟨t, rfl⟩ := h1
      obtain ⟨u, rfl⟩ := h2
      refine max_two_ints hh fun h' tk kp => k K _ _ (.grow hk0 kp) ?_
      by_cases c : b > a
      · rw [if_pos c]; exact ⟨u, by rw [Int.max_eq_right (by omega)]⟩
      · rw [if_neg c]; exact ⟨t, by rw [Int.max_eq_left (by omega)]⟩
theorem bfn_isint_tuple {A : Around} {n : Int} : Bfn prog w A (.builtin "isinstance") [.frz (dInt n), .frz (dTy "tuple")] (.frz (dBool false)) := fun K s vs Q E hk0 r k => by
  cases r with
  | cons h1 r => cases r with
    | cons h2 r =>
      cases r
      obtain ⟨t, rfl⟩ := h1
      have h2 : _ = Value.type "tuple" := h2
      subst h2
      exact IsiPair.int_tuple (k K _ _ (.toks hk0) rfl)
theorem preSum_of (ns : List Int) : preSum (fun i => ns.getD i 0) ns.length = ns.sum := by
  have : ∀ n, n ≤ ns.length → preSum (fun i => ns.getD i 0) n = (ns.take n).sum := by
    intro n
    induction n with
    | zero => intro _; simp [preSum]
    | succ n ih =>
      intro hn
      rw [List.take_add_one, List.sum_append, ← ih (by omega)]
      simp [preSum, List.getElem?_eq_getElem (show n < ns.length by omega)]
  rw [this _ (Nat.le_refl _), List.take_length]
theorem bfn_sum {A : Around} {R : V prog w} {ns : List Int} (it : Itr prog w A.in1 R (ns.map dInt)) : Bfn prog w A (.builtin "sum") [R] (.frz (dInt ns.sum)) := fun K s vs Q E hk0 r k => by
  cases r with
  | cons h1 r =>
    cases r
    refine call_sum_walkG (it K s _ _ E hk0 h1 fun I fp wr St h' tk W st0 keep hnew hob hfp => ?_)
    refine ⟨I, fp, wr, _, _, St, fun i => ns.getD i 0, rfl, W, st0, fun b hb => ?_, fun i v hP => ?_, fun h'' tk' t' hk' => ?_⟩
    · rcases hfp b hb with h | ⟨o, h⟩
      · obtain ⟨o, ho⟩ := hob 0 h' st0 b h; exact Heap.lt_size ho
      · exact Heap.lt_size (keep _ _ (hk0 _ _ h))
    · obtain ⟨P, hP, hv⟩ := hP
      rw [List.getElem?_map] at hP
      obtain ⟨n, hn, rfl⟩ := Option.map_eq_some_iff.mp hP
      obtain ⟨t, rfl⟩ := hv
      exact ⟨t, by simp [List.getD_eq_getElem?_getD, hn]⟩
    · rw [List.length_map, preSum_of]
      refine k K _ _ (.grow hk0 fun b o q => hk' b o (fun hb => ?_) (keep b o q)) ⟨t', rfl⟩
      rw [hnew b hb] at q; cases q

/-! ### own containers that are changed -/
theorem Sat.change {x : Str} {a : Addr} {R R' : V prog w} {h' : Heap} {tk : Nat} (S : Sat F K X ρ s) (hx : ρ x = some R) (ho : R.own = true) (H : Holds F.env s.heap x (.ref a)) (hs : Heap.SameBut a s.heap h') (hr : R'.rd K (hk h') (.ref a)) (hoR : R'.own = true) :
    Sat F K X (upd ρ x R') { s with heap := h', toks := tk } := by
  obtain ⟨u, h1, h2, h3⟩ := S.vars x R hx
  have := h1.inj H
  subst this
  obtain ⟨a', e, hka, hxa, hla⟩ := h3 ho
  cases e
  obtain ⟨b, o, e, hG⟩ := V.own_ref h2 ho
  cases e
  have hcell : ∀ {c : Addr} {v : Option Value}, s.heap.IsCell c v → c ≠ a := by
    rintro c v ⟨o', ho', hd'⟩ rfl
    exact V.own_not_cell h2 ho ho' hd'
  have hoth : ∀ y v, Holds F.env s.heap y v ↔ Holds F.env h' y v := by
    intro y v
    constructor
    · rintro (⟨e, m, hn, hm⟩ | ⟨e, c, hc, hv⟩)
      · exact .inl ⟨e, m, hn.sameBut hs (Ne.symm hla), hm⟩
      · exact .inr ⟨e, c, hc, hv.sameBut hs (hcell hv)⟩
    · rintro (⟨e, m, hn, hm⟩ | ⟨e, c, hc, o', ho', hd'⟩)
      · obtain ⟨m', hn'⟩ := S.ns
        refine .inl ⟨e, m', hn', ?_⟩
        rw [← Ns_inj hn (hn'.sameBut hs (Ne.symm hla))]; exact hm
      · refine .inr ⟨e, c, hc, o', ?_, hd'⟩
        have : c ≠ a := by
          rintro rfl
          exact V.own_not_cell hr hoR ho' hd'
        rw [← hs.2 c this]; exact ho'
  have hlive : ∃ o, h'.get? a = some o := let ⟨b, o, e, hG⟩ := V.own_ref hr hoR; ⟨o, by cases e; exact hG⟩
  refine ⟨S.gk, kle_same hs S.kin hka, kle_same hs S.xin hxa, let ⟨m, hn⟩ := S.ns; ⟨m, hn.sameBut hs (Ne.symm hla)⟩, S.kl, S.xl, fun y hy => ?_, S.inj, live_same hs hlive S.live, fun y Vy hy => ?_, fun y z b Vy Vz hyz hy hz oy oz H1 H2 => ?_⟩
  · obtain ⟨c, v, q1, q2, q3, q4, q5⟩ := S.cel y hy
    exact ⟨c, v, q1, q2, q3.sameBut hs (hcell q3), q4, q5⟩
  · by_cases hyx : y = x
    · subst hyx
      rw [upd_self] at hy; cases hy
      exact ⟨_, (hoth _ _).mp h1, hr, fun _ => ⟨a, rfl, hka, hxa, hla⟩⟩
    · rw [upd_ne _ _ hyx] at hy
      obtain ⟨v, g1, g2, g3⟩ := S.vars y Vy hy
      refine ⟨v, (hoth _ _).mp g1, V.rd_same hs g2 fun oy e => ?_, g3⟩
      subst e
      exact S.sep y x a Vy R hyx hy hx oy ho g1 h1
  · have hy' : ∃ Vy', ρ y = some Vy' ∧ Vy'.own = true := by
      by_cases e : y = x
      · subst e; exact ⟨R, hx, ho⟩
      · rw [upd_ne _ _ e] at hy; exact ⟨Vy, hy, oy⟩
    have hz' : ∃ Vz', ρ z = some Vz' ∧ Vz'.own = true := by
      by_cases e : z = x
      · subst e; exact ⟨R, hx, ho⟩
      · rw [upd_ne _ _ e] at hz; exact ⟨Vz, hz, oz⟩
    obtain ⟨Vy', hy1, hy2⟩ := hy'
    obtain ⟨Vz', hz1, hz2⟩ := hz'
    exact S.sep y z b Vy' Vz' hyz hy1 hz1 hy2 hz2 ((hoth _ _).mpr H1) ((hoth _ _).mpr H2)

theorem load_own {n : Nat} {x : Str} {px : Pos} {R : V prog w} {Q E : Value → Shared → Prop} (ok : Fok n F) (S : Sat F K X ρ s) (hx : ρ x = some R) (h : ∀ u, Holds F.env s.heap x u → R.rd K (hk s.heap) u → Q u s)
    (hd : (x == ("__debug__" : Str)) = false := by decide) (hc : (x == ("__classdict__" : Str)) = false := by decide) : wpAny (model prog w) F.A (eval (.Name x px) F.env) Q E s := by
  obtain ⟨u, h1, h2, _⟩ := S.vars x R hx
  refine wpAny_Name ?_ hd
  rcases id h1 with ⟨hl, m, hn, hm⟩ | ⟨hl | hl, c, hcc, hv⟩
  · exact wpAny_loadName_local ok.kind hl hn hm (h u h1 h2)
  · exact wpAny_loadName_cell ok.kind hl hcc hv (h u h1 h2)
  · exact wpAny_loadName_free ok.kind hl hcc hv (h u h1 h2) hc

theorem ex_append {n : Nat} {x : Str} {e : PySem.Expr} {px apos pos epos : Pos} {Ps : List DP} {P : DP} (ok : Fok n F) (hx : ρ x = some (.lst Ps)) (he : Ez F e ρ P) (hsz : Ps.length ≤ 1000) (h : Φ .next (upd ρ x (.lst (Ps ++ [P]))))
    (hbase : attributeBase (.Name x px) "append" F.env (eval (.Name x px) F.env) = eval (.Name x px) F.env)
    (hfew : ((backTo pos (starEach [e] F.env)).all (fun x => !x.1) && (backToKw pos (keywordEach [] F.env)).all (fun x => x.1.isSome)
      && decide (([e] : List PySem.Expr).length + ([] : List Keyword).length + (if ([] : List Keyword).isEmpty then 0 else 1) < 30)) = true)
    (hline : (apos.endLine == pos.line) = true) (htrees : backTo pos (starEach [e] F.env) = [(false, eval e F.env)])
    (hi : interactive F.env = false) (hs : swapsWith (.Call (.Attribute (.Name x px) "append" apos) [e] [] pos) none epos.line F.env = pure false)
    (hd : (x == ("__debug__" : Str)) = false := by decide) (hc : (x == ("__classdict__" : Str)) = false := by decide) :
    Ex F [.Expr (.Call (.Attribute (.Name x px) "append" apos) [e] [] pos) epos] ρ Φ := Ex.last fun K X s Q E S k => by
  refine wpAny_Expr (wpAny_Call_append hbase hfew hline htrees (load_own ok S hx (fun u H hu => ?_) hd hc)) hi hs
  obtain ⟨a, vs, m, rfl, ho, al⟩ := hu
  have ho' : s.heap.get? a = some (lObj vs m) := ho
  refine ⟨a, vs.toArray, rfl, ⟨_, m, ho', rfl, rfl, rfl⟩, he.out K X s _ E S fun K₁ s₁ v e₁ hv => ?_⟩
  have ho1 : s₁.heap.PlainList a vs.toArray := ⟨m, e₁.keep _ _ ho'⟩
  have S₁ := S.ext e₁
  have H₁ := H.keep e₁.keep
  refine wpAny_list_append_plain ho1 (fun h' hl' hs' => ?_) (by rw [List.size_toArray, al.length]; exact Nat.le_trans hsz (by rw [sizeLine_eq]; decide))
  obtain ⟨m', ho2⟩ := hl'
  have S₂ : Sat F K₁ X (upd ρ x (.lst (Ps ++ [P]))) { s₁ with heap := h', toks := s₁.toks } := S₁.change hx rfl H₁ hs' ⟨a, vs ++ [v], m', rfl, by
    refine ho2.trans ?_
    simp [lObj], (al.mono e₁.le).append (Al.one hv)⟩ rfl
  exact k K₁ _ .next .next _ h rfl S₂ ((e₁.stp S.xin).trans ⟨⟨rfl, .refl _⟩, .refl _, fun _ _ _ => rfl⟩)
end
end Mine
end
/-! part A18 -/
section
open PySem PySem.Calls PySem.Spec PyProof.Rows PySem.W PySem.SeqAt
set_option Elab.async false
set_option linter.unusedVariables false
namespace Mine

/-! ### sorted lists of texts -/
noncomputable def leS (a b : Str) : Prop := ltCps b.cps.toList a.cps.toList = false
theorem leS_iff {a b : Str} : leS a b ↔ a.cps.toList ≤ b.cps.toList := by
  unfold leS
  rw [ltCps_eq]
  simp
theorem leS_anti {a b : Str} (h : leS a b) (h' : leS b a) : a = b := by
  have := List.le_antisymm (leS_iff.mp h) (leS_iff.mp h')
  obtain ⟨⟨x⟩⟩ := a
  obtain ⟨⟨y⟩⟩ := b
  simp at this
  rw [this]
theorem leS_trans {a b c : Str} (h : leS a b) (h' : leS b c) : leS a c := leS_iff.mpr (List.le_trans (leS_iff.mp h) (leS_iff.mp h'))
theorem pair_of_rising : ∀ (p : Str) (l : List Str), risingS p l = true → (p :: l).Pairwise leS
  | p, [], _ => by simp
  | p, x :: r, h => by
    have h' : (!ltCps x.cps.toList p.cps.toList && risingS x r) = true := h
    rw [Bool.and_eq_true, Bool.not_eq_true'] at h'
    have ih := pair_of_rising x r h'.2
    refine List.pairwise_cons.mpr ⟨fun y hy => ?_, ih⟩
    rcases List.mem_cons.mp hy with rfl | hy
    · exact h'.1
    · exact leS_trans h'.1 (List.rel_of_pairwise_cons ih hy)
theorem pair_of_sorted : ∀ (l : List Str), sortedS l = true → l.Pairwise leS
  | [], _ => .nil
  | x :: r, h => pair_of_rising x r h
theorem sorted_uniq : ∀ (l l' : List Str), l.Perm l' → l.Pairwise leS → l'.Pairwise leS → l = l'
  | [], l', h, _, _ => by simpa using h.symm
  | a :: r, [], h, _, _ => by simp at h
  | a :: r, b :: t, h, h1, h2 => by
    have hab : a = b := by
      rcases List.mem_cons.mp (h.subset List.mem_cons_self) with e | ha
      · exact e
      rcases List.mem_cons.mp (h.symm.subset List.mem_cons_self) with e | hb
      · exact e.symm
      · exact leS_anti (List.rel_of_pairwise_cons h1 hb) (List.rel_of_pairwise_cons h2 ha)
    subst hab
    rw [sorted_uniq r t ((List.perm_cons _).mp h) (List.pairwise_cons.mp h1).2 (List.pairwise_cons.mp h2).2]

section
variable {prog : Program} {w : World} {F F' : Fm} {K K' X : Kn} {ρ ρ' : Ro prog w} {s s' : Shared} {α β γ : Type} {Φ : Out → Ro prog w → Prop} {mg mb : Str → Option Value}

noncomputable def dSrt (xs : List Str) : DP := ⟨fun K v => ∃ ss, ss.Perm xs ∧ sortedS ss = true ∧ (dList (ss.map dStr)).p K v, fun hk ⟨ss, h1, h2, h3⟩ => ⟨ss, h1, h2, (dList (ss.map dStr)).mono hk h3⟩⟩
theorem strsAre_of : ∀ {xs : List Str} {vs : List Value}, Al K (xs.map dStr) vs → StrsAre vs xs
  | [], _, .nil => .nil
  | x :: xs, _, .cons ⟨t, e⟩ al => by subst e; exact .cons x t (strsAre_of al)
theorem of_strsAre : ∀ {xs : List Str} {vs : List Value}, StrsAre vs xs → Al K (xs.map dStr) vs
  | _, _, .nil => .nil
  | _, _, .cons x t h => .cons ⟨t, rfl⟩ (of_strsAre h)
theorem bfn_sorted {A : Around} {xs : List Str} (h64 : xs.length < 64) : Bfn prog w A (.builtin "sorted") [.lst (xs.map dStr)] (.frz (dSrt xs)) := fun K s vs Q E hk0 r k => by
  cases r with
  | cons h1 r =>
    cases r
    obtain ⟨a, us, n, rfl, ho, al⟩ := h1
    refine sorted_strs (isList_of ho) (strsAre_of al) (by rw [al.length, List.length_map]; exact h64) fun out ss h1 h2 h3 => ?_
    obtain ⟨e, he⟩ := sortedAll_at s.heap us out
    exact frozen_at (P := dSrt xs) (tk := s.toks) hk0 (fun b o q => sortedAll_old q) he (by
      cases q : s.heap.get? (s.heap.objs.size + 1) with
      | none => rfl
      | some o => exact absurd (Heap.lt_size q) (Nat.not_lt.mpr (Nat.le_succ _))) (fun K' le h => ⟨ss, h2, h3, _, out.toList, e, rfl, h.trans (by simp [lObj, seqObj]), of_strsAre h1⟩) k
theorem bfn_sorted_str {A : Around} (hh : A.handled = none) {x : Str} (h64 : x.length < 64) : Bfn prog w A (.builtin "sorted") [.frz (dStr x)] (.frz (dSrt (sgn x))) := fun K s vs Q E hk0 r k => by
  cases r with
  | cons h1 r =>
    cases r
    obtain ⟨t, rfl⟩ := h1
    have hsz0 : x.cps.size < 64 := h64
    refine Calls.call_function_entry kind_sorted plain_sorted entry_sorted (args_sorted1 _) ?_
    unfold Builtin.«sorted»
    refine wpAny_bind (m := checkCount "sorted" 1 1 _) (wpAny_pure ?_)
    refine wpAny_bind (wpAny_collect_str (A := A.in1) hh x t (fun s₁ acc kp hg hd hos hi => ?_) (by rw [sizeLine_eq]; omega))
    refine wpAny_bind (wpAny_newList ?_ (by simp only [Array.length_toList, hi.1]; rw [sizeLine_eq]; omega))
    have hS : StrsAre acc.toList (sgn x) := by
      have : Al (fun _ => none) ((sgn x).map dStr) acc.toList := by
        have hlen : acc.toList.length = (sgn x).length := by simp [sgn, hi.1]
        have key : ∀ (vs : List Value) (ys : List Str), vs.length = ys.length → (∀ (j : Nat) (v : Value) (y : Str), vs[j]? = some v → ys[j]? = some y → ∃ t : Tok, v = Value.str y t) → Al (fun _ => none) (ys.map dStr) vs := by
          intro vs
          induction vs with
          | nil => intro ys h _; cases ys with
            | nil => exact .nil
            | cons y r => cases h
          | cons v r ih => intro ys h hh; cases ys with
            | nil => cases h
            | cons y q => exact .cons (hh 0 v y rfl rfl) (ih q (by simpa using h) fun j v y h1 h2 => hh (j + 1) v y h1 h2)
        refine key _ _ hlen fun j v y h1 h2 => ?_
        have h1' : acc[j]? = some v := by simpa using h1
        obtain ⟨c, u, hc, rfl⟩ := hi.2 j v h1'
        have : y = ⟨#[c]⟩ := by
          have e : (sgn x)[j]? = some ⟨#[c]⟩ := by simp [sgn, hc]
          rw [e] at h2; cases h2; rfl
        exact ⟨u, by rw [this]⟩
      exact strsAre_of this
    have ho : (s₁.heap.push (seqObj "list" acc.toList.toArray 0)).get? s₁.heap.objs.size = some (seqObj "list" acc.toList.toArray 0) := Heap.get?_push_size _ rfl
    show wpAny _ _ _ _ _ { s₁ with heap := s₁.heap.push (seqObj "list" acc.toList.toArray 0) }
    refine wpAny_bind (wpAny_holding (wpAny_call_entry slot_list_sort ⟨_, ho, rfl⟩ entry_list_sort (list_sort_treeK strKind_oneLt ho hS.keysOf (fun v₁ v₂ rest e => keyKind_strs (by rw [← e]; exact hS)) (by simp [hi.1]; exact hsz0) fun st' a1 a2 => ⟨_, rfl, ?_⟩) (args_list_sort _)))
    obtain ⟨ss, h1, h2, h3⟩ := sorted_out_str hS a1 a2
    refine wpAny_pure ⟨_, rfl, ?_⟩
    obtain ⟨e, he⟩ := sortedHeap_at (out := (arrOf st').map (·.2)) ho
    have e1 : s₁ = { s with heap := s₁.heap, toks := s₁.toks } := by
      obtain ⟨a, b, c, d, f⟩ := s₁
      simp only at hg hd hos
      subst hg hd hos; rfl
    have kp2 : Keep s.heap (sortedHeap (s₁.heap.push (seqObj "list" acc.toList.toArray 0)) s₁.heap.objs.size acc.toList ((arrOf st').map (·.2))) := fun b o q => by
      have hb := kp b o q
      rw [sortedHeap_old (Nat.ne_of_lt (Heap.lt_size hb)) (by rw [Heap.size_push]; exact Nat.lt_succ_of_lt (Heap.lt_size hb))]
      exact Heap.get?_push_of_some _ hb
    have hn : s.heap.get? s₁.heap.objs.size = none := by
      cases q : s.heap.get? s₁.heap.objs.size with
      | none => rfl
      | some o => exact absurd (Heap.lt_size (kp _ _ q)) (Nat.lt_irrefl _)
    have fin := frozen_at (s := s) (P := dSrt (sgn x)) (tk := s₁.toks) hk0 kp2 he hn (fun K' le h => ⟨ss, h2, h3, _, ((arrOf st').map (·.2)).toList, e, rfl, h.trans (by unfold lObj seqObj; rw [Array.toArray_toList]), of_strsAre h1⟩) k
    rw [e1]
    exact fin
theorem srt_cmp {xs ys ss ts : List Str} (h1 : ss.Perm xs) (h2 : sortedS ss = true) (h3 : ts.Perm ys) (h4 : sortedS ts = true) : decide (ss = ts) = decide (xs.Perm ys) := by
  rw [Bool.eq_iff_iff, decide_eq_true_eq, decide_eq_true_eq]
  constructor
  · rintro rfl; exact h1.symm.trans h3
  · intro h; exact sorted_uniq _ _ (h1.trans (h.trans h3.symm)) (pair_of_sorted _ h2) (pair_of_sorted _ h4)
theorem cmp_srt_ne {A : Around} (hu : A.units + 100 < cLine) {xs ys : List Str} : Bin prog w A (compareOp .NotEq) (.frz (dSrt xs)) (.frz (dSrt ys)) (.frz (dBool (!decide (xs.Perm ys)))) := fun K s u v Q E hk0 h1 h2 k => by
  obtain ⟨ss, p1, p2, p3⟩ := h1
  obtain ⟨ts, q1, q2, q3⟩ := h2
  refine cmp_lne (deq_str 0) (by omega) (xs := ss) (ys := ts) K s u v Q E hk0 ?_ ?_ ?_
  · exact V.rd_of_cold (x := .lst (ss.map dStr)) hk0 p3
  · exact V.rd_of_cold (x := .lst (ts.map dStr)) hk0 q3
  · rw [srt_cmp p1 p2 q1 q2]; exact k

/-! ### list(range) -/
theorem bfnN_list_rng {A : Around} (hh : A.handled = none) {b : Int} (h0 : 0 ≤ b) (hb : b ≤ 1000) : BfnN prog w A (.type "list") [.frz (dRng 0 b)] (.lst ((upto 0 b).map dInt)) := fun K s vs Q E hk0 r k => by
  cases r with
  | cons h1 r =>
    cases r
    obtain ⟨r, t, u, q, rfl, ho⟩ := h1
    refine call_list_range (n := b.toNat) hh (hk0 _ _ ho) (small_one (by decide) (by decide) (by omega) (by omega)) (by rw [rsize]; simp) (by omega) fun h' tk acc c kp hS hi => ?_
    refine k K _ s.heap.objs.size (.grow hk0 kp) ⟨_, acc.toList, c, rfl, hS.trans (by simp [lObj]), ?_⟩ (kn_none hk0 (get_new _)) (get_new _)
    have key : ∀ (vs : List Value) (ys : List Int), vs.length = ys.length → (∀ (j : Nat) (v : Value) (y : Int), vs[j]? = some v → ys[j]? = some y → ∃ t : Tok, v = Value.int y t) → Al K (ys.map dInt) vs := by
      intro vs
      induction vs with
      | nil => intro ys h _; cases ys with
        | nil => exact .nil
        | cons y r => cases h
      | cons v r ih => intro ys h hh; cases ys with
        | nil => cases h
        | cons y q => exact .cons (hh 0 v y rfl rfl) (ih q (by simpa using h) fun j v y h1 h2 => hh (j + 1) v y h1 h2)
    refine key _ _ (by simp [upto, hi.1]) fun j v y h1 h2 => ?_
    obtain ⟨t, rfl⟩ := hi.2 j v (by simpa using h1)
    have hj : j < b.toNat := by
      have h3 := (List.getElem?_eq_some_iff.mp h1).1
      simp [hi.1] at h3; omega
    have e : (upto 0 b)[j]? = some (0 + (j : Int)) := by simp [upto, hj]
    rw [e] at h2; cases h2
    exact ⟨t, by simp⟩

/-! ### truth of a value, minus -/
theorem eb_of {e : PySem.Expr} {b : Bool} (h : Ez F e ρ (dBool b)) (he : isTrue e F.env (eval e F.env) = (do let v ← eval e F.env; standAt e.pos; holding [v] (truthy v)) := by rfl) : Eb F e ρ b := Wr.mk <| fun K X s Q E S k =>
  wpAny_isTrue_value (h.out K X s _ E S fun K₁ s₁ v e₁ hv => by
    have hv : v = .bool b := hv
    subst hv
    exact wpAny_truthy_bool (k K₁ s₁ e₁)) he
theorem ez_neg {e : PySem.Expr} {pos : Pos} {i : Int} (h : Ez F e ρ (dInt i)) : Ez F (.UnaryOp .USub e pos) ρ (dInt (-i)) := Wr.mk <| fun K X s Q E S k =>
  wpAny_UnaryOp (h.out K X s _ E S fun K₁ s₁ v e₁ hv => by
    obtain ⟨t, rfl⟩ := hv
    exact PyProof.Rows.neg_int (k K₁ _ _ (e₁.trans (.toks e₁.kin)) ⟨_, rfl⟩))
end
end Mine
end
/-! part A19 -/
section
open PySem PySem.Calls PySem.Spec PyProof.Rows PySem.W PySem.SeqAt
set_option Elab.async false
set_option linter.unusedVariables false
namespace Mine
section
variable {prog : Program} {w : World} {F F' : Fm} {K K' X : Kn} {ρ ρ' : Ro prog w} {s s' : Shared} {α β γ : Type} {Φ : Out → Ro prog w → Prop} {mg mb : Str → Option Value}

/-! ### a dict of one's own is written -/
structure OwnD {κ : Type} [DecidableEq κ] (knd : KeyKind prog w κ) (mk : List (κ × DP) → V prog w) : Prop where
  own : ∀ kvs, (mk kvs).own = true
  to : ∀ kvs K G u, (mk kvs).rd K G u → ∃ a o, u = .ref a ∧ G a = some o ∧ (a == sysModules) = false ∧ DRep knd K kvs o
  from' : ∀ kvs K G a o, G a = some o → (a == sysModules) = false → DRep knd K kvs o → (mk kvs).rd K G (.ref a)
theorem ownD_s : OwnD (strKind prog w) (V.sdc (prog := prog) (w := w)) := ⟨fun _ => rfl, fun _ _ _ _ h => h, fun _ _ _ a o h1 h2 h3 => ⟨a, o, rfl, h1, h2, h3⟩⟩
theorem ownD_i : OwnD (intKind prog w) (V.idc (prog := prog) (w := w)) := ⟨fun _ => rfl, fun _ _ _ _ h => h, fun _ _ _ a o h1 h2 h3 => ⟨a, o, rfl, h1, h2, h3⟩⟩

/-- the store itself -/
theorem put_own {κ : Type} [DecidableEq κ] {knd : KeyKind prog w κ} {mk : List (κ × DP) → V prog w} (od : OwnD knd mk) {x : Str} {kvs : List (κ × DP)} {key : κ} {P : DP} {u v kv : Value} {A : Around} {Q : Unit → Shared → Prop} {E : Value → Shared → Prop} (S : Sat F K X ρ s) (hx : ρ x = some (mk kvs)) (H : Holds F.env s.heap x u) (hu : (mk kvs).rd K (hk s.heap) u)
    (hkey : knd.is key kv = true) (hv : P.p K v) (hsz : kvs.length ≤ 1000) (h : ∀ s', Sat F K X (upd ρ x (mk (putK kvs key P))) s' → Rest s s' → Q () s') : wpAny (model prog w) A (setItem u kv v) Q E s := by
  obtain ⟨a, o, rfl, ho, hs, pairs, hd, h1, h2⟩ := od.to _ _ _ _ hu
  have hD : s.heap.DictOf knd a pairs := Heap.dictOf_iff.mpr ⟨o, ho, hd⟩
  refine wpAny_setItem_pairs hkey hD (fun h' hd' hs' => h _ ?_ ⟨rfl, .refl _⟩) (by rw [DRep.length h1, sizeLine_eq]; omega)
  obtain ⟨o', ho', hd''⟩ := Heap.dictOf_iff.mp hd'
  obtain ⟨g1, g2⟩ := DRep.stored (knd := knd) (k := key) h1 h2 hv
  exact S.change hx (od.own _) H hs' (od.from' _ _ _ a o' ho' hs ⟨_, hd'', g1, g2⟩) (od.own _)

theorem ex_put {κ : Type} [DecidableEq κ] {knd : KeyKind prog w κ} {mk : List (κ × DP) → V prog w} (od : OwnD knd mk) {n : Nat} {x : Str} {i e : PySem.Expr} {px p' pos : Pos} {kvs : List (κ × DP)} {Pk P : DP} {key : κ} (ok : Fok n F) (hx : ρ x = some (mk kvs)) (he : Ez F e ρ P) (hi : Ez F i ρ Pk)
    (hkey : ∀ K v, Pk.p K v → knd.is key v = true) (hsz : kvs.length ≤ 1000) (h : Φ .next (upd ρ x (mk (putK kvs key P))))
    (hs : swapsWith e (some (.Subscript (.Name x px) i p')) pos.line F.env = pure false := by with_unfolding_all rfl)
    (hd : (x == ("__debug__" : Str)) = false := by decide) (hc : (x == ("__classdict__" : Str)) = false := by decide) :
    Ex F [.Assign [.Subscript (.Name x px) i p'] e pos] ρ Φ := Ex.last fun K X s Q E S k => by
  refine wpAny_Assign_Subscript (he.out K X s _ E S fun K₁ s₁ v e₁ hv => load_own ok (S.ext e₁) hx (fun u H hu => hi.out K₁ X s₁ _ E (S.ext e₁) fun K₂ s₂ kv e₂ hkv => ?_) hd hc) hs
  have S₂ := (S.ext e₁).ext e₂
  refine put_own od S₂ hx (H.keep e₂.keep) (hu.mono e₂.le fun a o q => e₂.keep a o q) (hkey _ _ hkv) (P.mono e₂.le hv) hsz fun s₃ S₃ r₃ => ?_
  exact k K₂ s₃ .next .next _ h rfl S₃ (((e₁.trans e₂).stp S.xin).trans ⟨r₃, .refl _, fun _ _ _ => rfl⟩)

theorem ex_putAug {κ : Type} [DecidableEq κ] {knd : KeyKind prog w κ} {mk : List (κ × DP) → V prog w} (od : OwnD knd mk) {n : Nat} {x : Str} {i e : PySem.Expr} {op : Operator} {px p' pos : Pos} {kvs : List (κ × DP)} {Pk P0 P1 P : DP} {key : κ} (ok : Fok n F) (hx : ρ x = some (mk kvs)) (hi : Ez F i ρ Pk)
    (hkey : ∀ K v, Pk.p K v → knd.is key v = true) (h0 : lookK kvs key = some P0) (he : Ez F e ρ P1) (ht : Bin prog w F.A (inplaceOp op) (.frz P0) (.frz P1) (.frz P)) (hsz : kvs.length ≤ 1000) (h : Φ .next (upd ρ x (mk (putK kvs key P))))
    (ha : ∀ ov iv new, augStore i ov iv new = (do holding [new, ov, iv] (setItem ov iv new); release [new, ov, iv] []; pure .next) := by intros; rfl)
    (hd : (x == ("__debug__" : Str)) = false := by decide) (hc : (x == ("__classdict__" : Str)) = false := by decide) :
    Ex F [.AugAssign (.Subscript (.Name x px) i p') op e pos] ρ Φ := Ex.last fun K X s Q E S k => by
  refine wpAny_AugAssign_SubscriptAny (load_own ok S hx (fun u H hu => hi.out K X s _ E S fun K₁ s₁ kv e₁ hkv => ?_) hd hc) ha
  have S₁ := S.ext e₁
  have H₁ := H.keep e₁.keep
  have hu₁ := hu.mono e₁.le fun a o q => e₁.keep a o q
  obtain ⟨a, o, rfl, ho, hs, pairs, hdd, h1, h2⟩ := od.to _ _ _ _ hu₁
  have hD : s₁.heap.DictOf knd a pairs := Heap.dictOf_iff.mpr ⟨o, ho, hdd⟩
  obtain ⟨y, hy, hp⟩ := valueAt_al h1 h2 h0
  refine wpAny_getItem_of (hkey _ _ hkv) hD.mapOf hy ?_
  have e₁' : Ext s₁ { s₁ with toks := s₁.toks + 1 } K₁ K₁ := .toks e₁.kin
  refine he.out K₁ X _ _ E (S₁.ext e₁') fun K₂ s₂ v e₂ hv => ht K₂ s₂ y v _ E e₂.kin (P0.mono e₂.le hp) hv fun K₃ s₃ z e₃ hz => ?_
  have e13 := (e₁'.trans e₂).trans e₃
  refine put_own od (S₁.ext e13) hx (H₁.keep e13.keep) (hu₁.mono e13.le fun a o q => e13.keep a o q) (hkey _ _ (Pk.mono e13.le hkv)) hz hsz fun s₄ S₄ r₄ => ?_
  exact k K₃ s₄ .next .next _ h rfl S₄ (((e₁.trans e13).stp S.xin).trans ⟨r₄, .refl _, fun _ _ _ => rfl⟩)

/-! ### for k, v in d.items() -/
theorem ex_items {κ : Type} [DecidableEq κ] {knd : KeyKind prog w κ} {n : Nat} {xk xv : Str} {pk pv pt apos cpos pos : Pos} {x1 : Nat} {e : PySem.Expr} {body : List Stmt} {kvs : List (κ × DP)} (kp : κ → DP) (hkp : ∀ K k v, knd.is k v = true → (kp k).p K v) (ok : Fok n F) (hk1 : Own1 F xk) (hk2 : Own1 F xv)
    (he : Ez F e ρ (dDict knd kvs)) (Inv : Nat → Ro prog w → Prop) (h0 : Inv 0 ρ)
    (turn : ∀ i k P ρ, kvs[i]? = some (k, P) → Inv i ρ → Ex F body (upd (upd ρ xk (.frz (kp k))) xv (.frz P)) (Turn (Inv (i + 1)) Φ))
    (done : ∀ ρ, Inv kvs.length ρ → Φ .next ρ)
    (hbase : attributeBase e "items" F.env (eval e F.env) = eval e F.env) (hline : (apos.endLine == cpos.line) = true)
    (hs : ∀ x, foldedSetIterable (.Call (.Attribute e "items" apos) [] [] cpos) F.env x = pure x := by intro _; with_unfolding_all rfl) (hm : F.A.mark none = F.A := by rfl) :
    Ex F [.For (.Tuple [.Name xk pk, .Name xv pv] x1 pt) (.Call (.Attribute e "items" apos) [] [] cpos) body [] pos] ρ Φ := Ex.last fun K X s Q E S k => by
  refine wpAny_For ?_ hs
  refine wpAny_Call_method (T := "dict") (id := "dict.items") hbase rfl hline PySem.F.plainAttrs_dict PySem.F.slot_dict_items PySem.F.type_dict_items (he.out K X s _ E S fun K₁ s₁ v e₁ hv => ?_)
  obtain ⟨d, o, rfl, ho, hsm, kv, hd, h1, h2⟩ := hv
  obtain ⟨es, ep, hd'⟩ := id hd
  have hD : s₁.heap.DictOf knd d kv := Heap.dictOf_iff.mpr ⟨o, e₁.kin _ _ ho, hd⟩
  have hA : s₁.heap.DictAt knd d kv ep := ⟨o, es, e₁.kin _ _ ho, hd'⟩
  refine ⟨hD.typeIs, hD.mapOf.noDict, ?_⟩
  show wpAny _ _ (callWith cpos (.builtin "dict.items") [.ref d] [] []) _ E s₁
  refine method_meetsIn PySem.F.slot_dict_items PySem.F.entry_dict_items rfl (PySem.evalArgs_none ⟨rfl, hD.typeIs, PySem.F.args_dict_items_1 _, _, meets_dict_items knd d hsm, ⟨kv, hD⟩, ?_⟩)
  refine wpAny_pyIter_items (knd := knd) (d := d) (kvs := kv) (ep := ep) ⟨_, Heap.get?_push_size _ rfl, rfl, rfl⟩ (hA.push _) ?_
  have S₁ := S.ext e₁
  have ea : Ext s₁ { s₁ with heap := s₁.heap.push { cls := .type "dict_items", data := .fields #[.ref d] } } K₁ K₁ := Ext.push S₁.kin
  have S₂ := S₁.ext ea
  generalize hh2 : s₁.heap.push { cls := .type "dict_items", data := .fields #[.ref d] } = hp2 at ea S₂ ⊢
  have hA2 : hp2.DictAt knd d kv ep := by rw [← hh2]; exact hA.push _
  let I : Addr := hp2.objs.size
  have hI : hp2.get? I = none := get_new _
  have eb : Ext { s₁ with heap := hp2 } { s₁ with heap := hp2.push { cls := .type "dict_itemiterator", data := .fields #[.none, .bool false, .ref d, .int 0 0, .int kv.length 0, .int ep 0, .none, .none] } } K₁ K₁ := Ext.push S₂.kin
  have hne : d ≠ I := Nat.ne_of_lt hA2.lt_size
  have off₂ := Off.fresh S₂ (b := I) hI
  have S₃ := S₂.ext eb
  have off₃ := off₂.ext S₂ hI eb off₂.k
  have st₃ : Stp s _ K K₁ X := ((e₁.trans ea).trans eb).stp S.xin
  have hlen : kv.length = kvs.length := DRep.length h1
  refine codeAny_forLoop_any (fun m s' => ∃ K' ρ' i okk ov, Inv i ρ' ∧ Sat F K' X ρ' s' ∧ Off F K' X ρ' s' I ∧ Stp s s' K K' X ∧ Kle K₁ K' ∧ IsItemIter s'.heap I d i kv.length ep okk ov ∧ i ≤ kv.length ∧ m = kv.length + 1 - i) ?_ (kv.length + 1)
    ⟨K₁, ρ, 0, .none, .none, h0, S₃, off₃, st₃, .refl _, Heap.get?_push_size _ rfl, Nat.zero_le _, rfl⟩
  rintro m s' ⟨K', ρ', i, okk, ov, hInv, S', off', st', le', hit, hile, rfl⟩
  have hA' : s'.heap.DictAt knd d kv ep := ⟨o, es, S'.kin _ _ (le' _ _ ho), hd'⟩
  cases hv : kv[i]? with
  | none =>
    have hin : i = kvs.length := by rw [← hlen]; exact Nat.le_antisymm hile (by simpa using hv)
    refine wpAny_pyNext_items_end ok.rm.hh hit hA' hv fun h₁ he₁ => wpAny_execs_nil ?_
    obtain ⟨S'', _⟩ := S'.touch (tk := s'.toks) (wr := [I]) (h' := h₁) (fun b hb => by rw [List.mem_singleton.mp hb]; exact off') fun b o hb q => he₁ b o (by simpa using hb) q
    exact k K' _ .next .next ρ' (done ρ' (hin ▸ hInv)) rfl S'' (st'.trans ⟨⟨rfl, .refl _⟩, .refl _, fun _ _ _ => rfl⟩)
  | some kvp =>
    obtain ⟨ky, vl⟩ := kvp
    have hlt : i < kv.length := (List.getElem?_eq_some_iff.mp hv).1
    obtain ⟨P, hP⟩ := al_map h1 i ky vl hv
    have hvl : P.p K₁ vl := by
      obtain ⟨P', hP', hp⟩ := h2.get' (i := i) (v := vl) (by simp [hv])
      rw [List.getElem?_map, hP] at hP'
      cases hP'; exact hp
    refine wpAny_pyNext_items_item hit hA' hv fun key h₁ hkey heo ht₁ hz₁ hk₁ => ?_
    refine wpAny_letOwnedTupleGo_items heo fun h₂ he₂ hs₂ => ?_
    replace hs₂ : Heap.SameBut I h₁ h₂ := hs₂
    have hIlt : I < s'.heap.objs.size := Heap.lt_size hit
    have ht₂ : h₂.IsTuple s'.heap.objs.size #[key, vl] := ⟨_, (hs₂.2 _ (Nat.ne_of_gt hIlt)).trans ht₁, rfl, _, rfl⟩
    refine wpAny_assign_Tuple ok.rm.hh ht₂ rfl rfl fun h₃ hx₃ => ?_
    replace hx₃ : Heap.ExtBut h₂.objs.size h₂ h₃ := hx₃
    have hz₂ : h₂.objs.size = s'.heap.objs.size + 1 := hs₂.1.trans hz₁
    have keep₃ : ∀ b o, b ≠ I → s'.heap.get? b = some o → h₃.get? b = some o := fun b o hb q => hx₃ b o (by rw [hz₂]; exact Nat.ne_of_lt (Nat.lt_succ_of_lt (Heap.lt_size q))) ((hs₂.2 b hb).trans (hk₁ b o hb q))
    have hit₃ : IsItemIter h₃ I d (i + 1) kv.length ep key vl := hx₃ I _ (by rw [hz₂]; exact Nat.ne_of_lt (Nat.lt_succ_of_lt hIlt)) he₂
    obtain ⟨S'', off''⟩ := S'.touch (tk := s'.toks) (wr := [I]) (h' := h₃) (fun b hb => by rw [List.mem_singleton.mp hb]; exact off') fun b o hb q => keep₃ b o (by simpa using hb) q
    have SX := S''.addX off'' S''.xin
    show wpAny _ _ (do holding [vl] (PySem.assign (.Name xk pk) F.env key); do holding [] (PySem.assign (.Name xv pv) F.env vl); pure ()) _ _ _
    refine wpAny_bind (wpAny_holding (wpAny_assign_Name (store_name ok SX hk1 (.frz (hkp K' ky key hkey)) fun s₄ S₄ r₄ => ?_)))
    refine wpAny_bind (wpAny_holding (wpAny_assign_Name (store_name ok S₄ hk2 (.frz (P.mono le' hvl)) fun s₅ S₅ r₅ => wpAny_pure ?_)))
    refine (turn i ky P ρ' hP hInv).out K' _ s₅ _ _ S₅ fun K₆ s₆ fl oo ρ₆ hp hi₆ S₆ st₆ => ?_
    have hI6 : s₆.heap.get? I = h₃.get? I := by
      have : addX X [I] h₃ I = some _ := (addX_in (List.mem_singleton.mpr rfl)).trans hit₃
      exact (S₆.xin I _ this).trans hit₃.symm
    have le6 : Kle K₁ K₆ := le'.trans st₆.le
    have hXle : Kle X (addX X [I] h₃) := fun a o e => by
      rw [addX_out (fun ha => by rw [List.mem_singleton.mp ha, off'.x] at e; cases e)]; exact e
    have off6 : Off F K₆ X ρ₆ s₆ I := by
      refine Off.of_addX (List.mem_singleton.mpr rfl) S₆ ⟨_, hit₃⟩ off'.x ?_ off'.c
      rw [st₆.old I _ ((addX_in (List.mem_singleton.mpr rfl)).trans hit₃)]; exact off'.k
    have S6 : Sat F K₆ X ρ₆ s₆ := S₆.lessX hXle
    have st6 : Stp s s₆ K K₆ X := st'.trans ⟨⟨((r₄.trans r₅).trans st₆.rest).os, ((r₄.trans r₅).trans st₆.rest).gens⟩, st₆.le, fun a o e => st₆.old a o (hXle a o e)⟩
    have go : ∀ ρ₇, ρ₇ = ρ₆ → Inv (i + 1) ρ₇ → ∃ m, m < kv.length + 1 - i ∧ ∃ K' ρ' i okk ov, Inv i ρ' ∧ Sat F K' X ρ' s₆ ∧ Off F K' X ρ' s₆ I ∧ Stp s s₆ K K' X ∧ Kle K₁ K' ∧ IsItemIter s₆.heap I d i kv.length ep okk ov ∧ i ≤ kv.length ∧ m = kv.length + 1 - i := by
      intro ρ₇ e7 hI'
      subst e7
      exact ⟨kv.length + 1 - (i + 1), by omega, K₆, _, i + 1, key, vl, hI', S6, off6, st6, le6, hI6.trans hit₃, hlt, rfl⟩
    cases oo with
    | next => cases hi₆; exact go ρ₆ rfl hp
    | cont => cases hi₆; exact go ρ₆ rfl hp
    | brk => cases hi₆; exact k K₆ s₆ .next .next ρ₆ hp rfl S6 st6
    | ret P => obtain ⟨v, rfl, hv⟩ := hi₆; exact k K₆ s₆ _ (.ret P) ρ₆ hp ⟨v, rfl, hv⟩ S6 st6
end
end Mine
end
/-! part A20 -/
section
open PySem PySem.Calls PySem.Spec PyProof.Rows PySem.W PySem.SeqAt
set_option Elab.async false
set_option linter.unusedVariables false
namespace Mine
section
variable {prog : Program} {w : World} {F F' : Fm} {K K' X : Kn} {ρ ρ' : Ro prog w} {s s' : Shared} {α β γ : Type} {Φ : Out → Ro prog w → Prop} {mg mb : Str → Option Value}

/-! ### a tuple is unpacked -/
noncomputable def updL (ρ : Ro prog w) : List Str → List DP → Ro prog w
  | x :: xs, P :: Ps => updL (upd ρ x (.frz P)) xs Ps
  | _, _ => ρ
theorem assign_all {n : Nat} (ok : Fok n F) {E : Value → Shared → Prop} : ∀ (xs : List (Str × Pos)) (Ps : List DP) (vs : List Value) (ρ : Ro prog w) (s : Shared) (Q : Unit → Shared → Prop), Sat F K X ρ s → Al K Ps vs → (∀ p ∈ xs, Own1 F p.1) → xs.length = Ps.length →
    (∀ s', Sat F K X (updL ρ (xs.map (·.1)) Ps) s' → Rest s s' → Q () s') → wpAny (model prog w) F.A (assignInOrder (xs.map fun p => PySem.assign (.Name p.1 p.2) F.env) vs) Q E s
  | [], _, _, ρ, s, Q, S, al, _, hl, k => by
    cases al with
    | nil => exact wpAny_pure (k s S (.refl _))
    | cons _ _ => cases hl
  | x :: xs, _, _, ρ, s, Q, S, al, ho, hl, k => by
    cases al with
    | nil => cases hl
    | cons a al =>
      show wpAny _ _ (do holding _ (PySem.assign (.Name x.1 x.2) F.env _); assignInOrder _ _) Q E s
      refine wpAny_bind (wpAny_holding (wpAny_assign_Name (store_name ok S (ho x List.mem_cons_self) (.frz a) fun s₁ S₁ r₁ => ?_)))
      exact assign_all ok xs _ _ _ s₁ Q S₁ al (fun p hp => ho p (List.mem_cons_of_mem _ hp)) (by simpa using hl) fun s₂ S₂ r₂ => k s₂ S₂ (r₁.trans r₂)
theorem ex_unpack {n : Nat} {elts : List PySem.Expr} {k0 : Nat} {tpos pos : Pos} {e : PySem.Expr} {Ps : List DP} (xs : List (Str × Pos)) (ok : Fok n F) (he : Ez F e ρ (dTup Ps)) (ho : ∀ p ∈ xs, Own1 F p.1) (hl : xs.length = Ps.length)
    (h : Φ .next (updL ρ (xs.map (·.1)) Ps)) (hel : assignEach elts F.env = xs.map fun p => (false, PySem.assign (.Name p.1 p.2) F.env))
    (hs : swapsWithSole [.Tuple elts k0 tpos] e pos.line F.env = pure false := by rfl) (hw : swappedStores [.Tuple elts k0 tpos] e F.env = pure none := by rfl) :
    Ex F [.Assign [.Tuple elts k0 tpos] e pos] ρ Φ := Ex.last fun K X s Q E S k => by
  refine Assign_Tuple (he.out K X s _ E S fun K₁ s₁ v e₁ hv => ?_) hs hw
  obtain ⟨a, vs, m, rfl, ha, al⟩ := hv
  have ht : s₁.heap.IsTuple a vs.toArray := ⟨_, e₁.kin _ _ ha, rfl, m, rfl⟩
  have S₁ := S.ext e₁
  refine wpAny_assign_Tuple ok.rm.hh ht (by rw [hel, List.length_map, hl]; simp [al.length]) (by rw [hel]; simp) fun h' hx => ?_
  have kp : Keep s₁.heap h' := fun b o q => hx b o (Nat.ne_of_lt (Heap.lt_size q)) q
  have e₂ : Ext s₁ { s₁ with heap := h' } K₁ K₁ := .grow (tk := s₁.toks) S₁.kin kp
  have hm : (assignEach elts F.env).map (·.2) = xs.map fun p => PySem.assign (.Name p.1 p.2) F.env := by rw [hel, List.map_map]; rfl
  rw [hm]
  exact assign_all ok xs Ps vs ρ _ _ (S₁.ext e₂) al ho hl fun s₃ S₃ r₃ => k K₁ s₃ .next .next _ h rfl S₃ (((e₁.trans e₂).stp S.xin).trans ⟨r₃, .refl _, fun _ _ _ => rfl⟩)

/-! ### l.extend(range(..)) -/
theorem WalksS.shift {A : Around} {I : Addr} {fp wr : List Addr} {G : Array GenState → Array GenState → Prop} {n p : Nat} {P P' : Nat → Value → Prop} {St : Nat → Shared → Prop} (W : WalksS prog w A I fp wr G n P St) (hP : ∀ i v, P i v → P' (p + i) v) :
    WalksS prog w A I fp wr G (p + n) P' (fun i s => p ≤ i ∧ St (i - p) s) where
  sub := W.sub
  grefl := W.grefl
  gtrans := W.gtrans
  frame := fun i s h' tk ⟨h1, h2⟩ ht hk => ⟨h1, W.frame _ s h' tk h2 ht hk⟩
  item := fun i s Q E hi ⟨h1, h2⟩ hQ => W.item (i - p) s Q E (by omega) h2 fun v s' hv hst hm => hQ v s' (by have := hP _ _ hv; rwa [show p + (i - p) = i by omega] at this) ⟨by omega, by rwa [show i + 1 - p = i - p + 1 by omega]⟩ hm
  done := fun s Q E ⟨h1, h2⟩ hQ => W.done s Q E (by rwa [show p + n - p = n by omega] at h2) hQ
  self := fun i s Q E ⟨_, h2⟩ hQ => W.self _ s Q E h2 hQ

theorem extend_rng {A : Around} {R : Result → Shared → Prop} {r : Addr} {a b c : Int} {t u v : Tok} {n : Nat} (hh : A.handled = none) (hr : IsRange s.heap r a b c t u v) (hsmall : Builtin.Range.small a b c = true)
    (hn : Builtin.Range.rangeSize a b c = n) (hlen : n ≤ 1000) (S : Addr) (res : Value) (c₀ : Nat) (pre : Array Value) (hpre : pre.size ≤ 1000) (hS : s.heap.get? S = some { cls := .type "list", data := .seq pre c₀ })
    (hR : ∀ h' tk acc' c', (∀ b o, b ≠ S → s.heap.get? b = some o → h'.get? b = some o) → h'.get? S = some { cls := .type "list", dict := none, data := .seq acc' c', slots := #[] } →
      ItemsOf (fun i v => pre[i]? = some v ∨ (pre.size ≤ i ∧ ∃ t, v = .int (a + ((i - pre.size : Nat) : Int) * c) t)) acc' (pre.size + n) → R (.ok (.ret res)) { s with heap := h', toks := tk }) :
    wpAny (model prog w) A.in1 (Builtin.List.listExtendWith (.ref S) (.ref r) res)
      (fun fin s' => match fin with | .done f => R (.ok f) s' | .again c' => c'.quiet = true ∧ codeAny (model prog w) A c' R s') (fun e s' => R (.error e) s') s := by
  have hSr : S ≠ r := fun e => by rw [e, hr] at hS; simp at hS
  have hSlt : S < s.heap.objs.size := Heap.lt_size hS
  have hSI : S ≠ s.heap.objs.size := Nat.ne_of_lt hSlt
  have hSf : S ∉ [s.heap.objs.size] := fun hm => hSI (List.mem_singleton.mp hm)
  have W := WalksS.shift (p := pre.size) (P' := fun i v => pre[i]? = some v ∨ (pre.size ≤ i ∧ ∃ t, v = .int (a + ((i - pre.size : Nat) : Int) * c) t)) (Walks.range (prog := prog) (w := w) (A := A.in1) hh s.heap.objs.size a c n).toS fun i v ⟨t, e⟩ => .inr ⟨by omega, t, by rw [e]; congr 2; congr 1; omega⟩
  have hsl : sizeLine = 16777216 := sizeLine_eq
  have key : ∀ (h : Heap) (c₁ tk : Nat), IsRangeIter h s.heap.objs.size (a + ((0 : Nat) : Int) * c) ((n : Int) - ((0 : Nat) : Int)) c → (∀ b o, b ≠ S → s.heap.get? b = some o → h.get? b = some o) →
      h.get? S = some { cls := .type "list", data := .seq pre c₁ } → codeAny (model prog w) A (.builtin "list.extend.loop" ⟨[.ref S, .ref s.heap.objs.size, res], []⟩) R { s with heap := h, toks := tk } := by
    intro h c₁ tk hit hk hS₁
    refine codeAny_extend_loopS W (by omega) S hSf res n pre.size _ pre c₁ (by omega) (by omega) ⟨Nat.le_refl _, by rw [Nat.sub_self]; exact hit⟩ hS₁ ⟨rfl, fun j v hj => .inl hj⟩ fun s' acc' c' hm hS' hacc => ?_
    rw [Moved.eq_with hm]
    refine hR s'.heap s'.toks acc' c' (fun b o hb e => hm.heap b o (fun hmem => ?_) (hk b o hb e)) hS' hacc
    rcases List.mem_cons.mp hmem with e' | hmem
    · exact hb e'
    · exact absurd (Heap.lt_size e) (by rw [List.mem_singleton.mp hmem]; exact Nat.lt_irrefl _)
  unfold Builtin.List.listExtendWith
  refine wpAny_bind (wpAny_typeOf (T := "range") ⟨_, hr, rfl⟩ ?_)
  have h1 : Builtin.List.listSameRef (.ref S) (.ref r) = false := by simp [Builtin.List.listSameRef, hSr]
  have h2 : (Value.type "range" == Value.type "list") = false := by decide
  have h3 : (Value.type "range" == Value.type "tuple") = false := by decide
  simp only [h1, h2, h3, Bool.or_false, Bool.false_eq_true, if_false]
  refine wpAny_bind (wpAny_pyIter_range hr hsmall ?_)
  refine wpAny_bind (wpAny_holding (wpAny_hint_range (n := n) (Heap.get?_push_of_some _ hr) hn (by omega) ?_))
  have hit₁ : IsRangeIter (s.heap.push { cls := .type "range_iterator", data := .fields #[rawInt a, rawInt (Builtin.Range.rangeSize a b c), rawInt c] }) s.heap.objs.size (a + ((0 : Nat) : Int) * c) ((n : Int) - ((0 : Nat) : Int)) c := by
    show IsRangeIter _ _ _ _ _; rw [hn]; simpa using Heap.get?_push_size _ rfl
  have hS₁ := Heap.get?_push_of_some { cls := .type "range_iterator", data := .fields #[rawInt a, rawInt (Builtin.Range.rangeSize a b c), rawInt c] } hS
  refine wpAny_ite_split (fun _ => ?_) (fun _ => wpAny_pure ⟨plainId_quiet PySem.F.plain_extend_loop _, key _ c₀ _ hit₁ (fun b o _ e => Heap.get?_push_of_some _ e) hS₁⟩)
  refine wpAny_bind (wpAny_rule ?_)
  refine wpAny_bind ?_
  show wpAny _ _ (updateSeq S (·.push .none) >>= fun _ => updateSeq S (·.pop)) _ _ _
  refine wpAny_bind (wpAny_updateSeq hS₁ rfl ?_ (by omega) (by show (pre.push _).size ≤ _; rw [Array.size_push]; omega))
  have hS₂ := Heap.get?_update_self (Obj.mapSeq (·.push Value.none)) hS₁ rfl
  refine wpAny_updateSeq hS₂ rfl ?_ (by show (pre.push _).size ≤ _; rw [Array.size_push]; omega) (by show (pre.push _).pop.size ≤ _; rw [Array.pop_push]; omega)
  have hS₃ := Heap.get?_update_self (Obj.mapSeq (·.pop)) hS₂ rfl
  refine wpAny_pure ⟨plainId_quiet PySem.F.plain_extend_loop _, key _ _ _ ?_ (fun b o hb e => ?_) (hS₃.trans (by simp only [Obj.mapSeq, Array.pop_push]; rfl))⟩
  · exact (Heap.get?_update_other _ _ hSI).trans ((Heap.get?_update_other _ _ hSI).trans hit₁)
  · exact (Heap.get?_update_other _ _ (Ne.symm hb)).trans ((Heap.get?_update_other _ _ (Ne.symm hb)).trans (Heap.get?_push_of_some _ e))
end
end Mine
end
/-! part A21 -/
section
open PySem PySem.Calls PySem.Spec PyProof.Rows PySem.W PySem.SeqAt
set_option Elab.async false
set_option linter.unusedVariables false
namespace Mine
section
variable {prog : Program} {w : World} {F F' : Fm} {K K' X : Kn} {ρ ρ' : Ro prog w} {s s' : Shared} {α β γ : Type} {Φ : Out → Ro prog w → Prop} {mg mb : Str → Option Value}

theorem getMethod_list {l : Addr} {vs : List Value} {n : Nat} {name : Str} {id : String} {pl : Sem Bool} {A : Around} {Q : Value × List Value → Shared → Prop} {E : Value → Shared → Prop} (slot : Slot "list" name id) (hty : typeOf (.builtin id) = pure (.type "method_descriptor")) (ho : s.heap.get? l = some (lObj vs n)) (h : Q (.builtin id, [.ref l]) s) :
    wpAny (model prog w) A (getMethod (.ref l) name pl) Q E s :=
  getMethod_builtin ⟨_, ho, rfl⟩ PySem.F.plainAttrs_list slot hty (fun a e => by cases e; exact ⟨_, ho, rfl⟩) h

theorem ex_extend {n : Nat} {x : Str} {e : PySem.Expr} {px apos pos epos : Pos} {Ps : List DP} {a b : Int} (ok : Fok n F) (hx : ρ x = some (.lst Ps)) (he : Ez F e ρ (dRng a b)) (ha : -1000 ≤ a) (ha' : a ≤ 1000) (hb : -1000 ≤ b) (hb' : b ≤ 1000) (hl : (b - a).toNat ≤ 1000) (hsz : Ps.length ≤ 1000) (h : Φ .next (upd ρ x (.lst (Ps ++ (upto a b).map dInt))))
    (hbase : attributeBase (.Name x px) "extend" F.env (eval (.Name x px) F.env) = eval (.Name x px) F.env)
    (hfew : ((backTo pos (starEach [e] F.env)).all (fun x => !x.1) && (backToKw pos (keywordEach [] F.env)).all (fun x => x.1.isSome)
      && decide (([e] : List PySem.Expr).length + ([] : List Keyword).length + (if ([] : List Keyword).isEmpty then 0 else 1) < 30)) = true)
    (hline : (apos.endLine == pos.line) = true) (htrees : backTo pos (starEach [e] F.env) = [(false, eval e F.env)])
    (hi : interactive F.env = false) (hs : swapsWith (.Call (.Attribute (.Name x px) "extend" apos) [e] [] pos) none epos.line F.env = pure false)
    (hd : (x == ("__debug__" : Str)) = false := by decide) (hc : (x == ("__classdict__" : Str)) = false := by decide) :
    Ex F [.Expr (.Call (.Attribute (.Name x px) "extend" apos) [e] [] pos) epos] ρ Φ := Ex.last fun K X s Q E S k => by
  refine wpAny_Expr (wpAny_Call_method (T := "list") (id := "list.extend") hbase hfew hline PySem.F.plainAttrs_list PySem.F.slot_list_extend PySem.F.type_list_extend (load_own ok S hx (fun u H hu => ?_) hd hc)) hi hs
  obtain ⟨l, vs, m, rfl, ho, al⟩ := hu
  have ho' : s.heap.get? l = some (lObj vs m) := ho
  refine ⟨⟨_, ho', rfl⟩, fun a e => by cases e; exact ⟨_, ho', rfl⟩, ?_⟩
  rw [htrees]
  refine callWith_builtin rfl (evalArgs_plain (spliced_cons (he.out K X s _ E S fun K₁ s₁ v e₁ hv => spliced_nil ?_)))
  obtain ⟨r, t, u, q, rfl, hr⟩ := hv
  have ho1 : s₁.heap.get? l = some (lObj vs m) := e₁.keep _ _ ho'
  have S₁ := S.ext e₁
  have H₁ := H.keep e₁.keep
  have hlen : vs.toArray.size = Ps.length := by simp [al.length]
  refine wpAny_call (codeAny_call_builtin PySem.F.slot_list_extend.plain PySem.F.entry_list_extend (PySem.F.slot_list_extend.check _ _ _ _ _ _ _ _ ⟨_, ho1, rfl⟩ (PySem.F.args_list_extend_2 _ _) ?_))
  show wpAny _ _ (Builtin.List.listExtendWith (.ref l) (.ref r) .none) _ _ _
  refine extend_rng (R := wants _ E) (n := (b - a).toNat) ok.rm.hh (e₁.kin _ _ hr) (small_one (by omega) (by omega) (by omega) (by omega)) (rsize a b) hl l .none m vs.toArray (by rw [hlen]; exact hsz) ho1 fun h' tk acc c kp hS hit => ?_
  have hka : K₁ l = none ∧ X l = none ∧ l ≠ F.env.locals := by
    obtain ⟨u, h1, h2, h3⟩ := S₁.vars x _ hx
    have := h1.inj H₁
    subst this
    obtain ⟨a, e, h4, h5, h6⟩ := h3 rfl
    cases e
    exact ⟨h4, h5, h6⟩
  have offl : Off F K₁ X ρ s₁ l → False := fun o => o.v x _ hx rfl H₁
  -- the heap keeps all but l
  have al' : Al K₁ (Ps ++ (upto a b).map dInt) acc.toList := by
    have key : ∀ (vs : List Value) (Qs : List DP), vs.length = Qs.length → (∀ (j : Nat) (v : Value) (P : DP), vs[j]? = some v → Qs[j]? = some P → P.p K₁ v) → Al K₁ Qs vs := by
      intro vs
      induction vs with
      | nil => intro ys h _; cases ys with
        | nil => exact .nil
        | cons y r => cases h
      | cons v r ih => intro ys h hh; cases ys with
        | nil => cases h
        | cons y q => exact .cons (hh 0 v y rfl rfl) (ih q (by simpa using h) fun j v y h1 h2 => hh (j + 1) v y h1 h2)
    refine key _ _ (by simp [hit.1, al.length, upto]) fun j v P h1 h2 => ?_
    have hv := hit.2 j v (by simpa using h1)
    have alm := al.mono e₁.le
    by_cases hj : j < Ps.length
    · rw [List.getElem?_append_left hj] at h2
      rcases hv with hv | ⟨hge, _⟩
      · obtain ⟨P', hP', hp⟩ := alm.get' (i := j) (v := v) (by simpa using hv)
        rw [hP'] at h2; cases h2; exact hp
      · omega
    · rw [List.getElem?_append_right (by omega)] at h2
      rcases hv with hv | ⟨hge, t, rfl⟩
      · have := (Array.getElem?_eq_some_iff.mp hv).1
        omega
      · have hj2 : j - Ps.length < (b - a).toNat := by
          have := (List.getElem?_eq_some_iff.mp h2).1
          simpa [upto] using this
        have e : ((upto a b).map dInt)[j - Ps.length]? = some (dInt (a + ((j - Ps.length : Nat) : Int))) := by simp [upto, hj2]
        rw [e] at h2; cases h2
        exact ⟨t, by rw [hlen]; simp⟩
  show Q .next _
  have S₂ : Sat F K₁ X (upd ρ x (.lst (Ps ++ (upto a b).map dInt))) { s₁ with heap := h', toks := tk } := by
    -- through a heap in which l alone is another
    let hm : Heap := s₁.heap.update l (Obj.mapSeq fun _ => acc)
    have hsb : Heap.SameBut l s₁.heap hm := Heap.SameBut.update ..
    obtain ⟨m', hm'⟩ := Obj.data_mapSeq (o := lObj vs m) rfl (fun _ => acc)
    have hml : hm.get? l = some (lObj acc.toList m') := by
      refine (Heap.get?_update_self _ ho1 (Obj.isFreed_of_seq hm')).trans ?_
      have e1 : (Obj.mapSeq (fun _ => acc) (lObj vs m)).data = .seq acc m' := hm'
      simp only [lObj, Obj.mapSeq] at e1 ⊢
      rw [e1]
    have S2 : Sat F K₁ X (upd ρ x (.lst (Ps ++ (upto a b).map dInt))) { s₁ with heap := hm, toks := tk } := S₁.change hx rfl H₁ hsb ⟨l, acc.toList, m', rfl, hml, al'⟩ rfl
    have kp2 : ∀ b o, b ≠ l → hm.get? b = some o → h'.get? b = some o := fun b o hb q => kp b o hb ((hsb.2 b hb).symm.trans q)
    have hh : ∀ {y : Str} {u : Value}, Holds F.env hm y u → Holds F.env h' y u := by
      rintro y u (⟨e, mm, hn, hv⟩ | ⟨e, c, hc, o, ho, hd⟩)
      · exact .inl ⟨e, mm, hn.at' fun o q => kp2 _ o (Ne.symm hka.2.2) q, hv⟩
      · refine .inr ⟨e, c, hc, o, kp2 c o ?_ ho, hd⟩
        rintro rfl
        rw [hml] at ho; cases ho; cases hd
    refine ⟨S2.gk, fun b o q => kp2 b o (fun e => by subst e; rw [hka.1] at q; cases q) (S2.kin b o q), fun b o q => kp2 b o (fun e => by subst e; rw [hka.2.1] at q; cases q) (S2.xin b o q), ?_, S2.kl, S2.xl, fun y hy => ?_, S2.inj, fun y c hc => ?_, fun y V hy => ?_, ?_⟩
    · obtain ⟨mm, hn⟩ := S2.ns
      exact ⟨mm, hn.at' fun o q => kp2 _ o (Ne.symm hka.2.2) q⟩
    · obtain ⟨c, v, q1, q2, ⟨o, ho, hd⟩, q4, q5⟩ := S2.cel y hy
      refine ⟨c, v, q1, q2, ⟨o, kp2 c o ?_ ho, hd⟩, q4, q5⟩
      rintro rfl
      rw [show ({ s₁ with heap := hm, toks := tk } : Shared).heap.get? c = hm.get? c from rfl, hml] at ho; cases ho; cases hd
    · obtain ⟨o, ho⟩ := S2.live y c hc
      by_cases e : c = l
      · subst e; exact ⟨_, hS⟩
      · exact ⟨o, kp2 c o e ho⟩
    · obtain ⟨u, g1, g2, g3⟩ := S2.vars y V hy
      refine ⟨u, hh g1, ?_, g3⟩
      by_cases hyx : y = x
      · subst hyx
        rw [upd_self] at hy; cases hy
        obtain ⟨l2, vs2, m2, rfl, hl2, al2⟩ := g2
        have : l2 = l := by
          have h5 := (S2.vars y _ (upd_self _ _ _))
          obtain ⟨u5, k1, k2, _⟩ := h5
          have := k1.inj g1
          subst this
          -- both are what the name holds
          have h6 : Holds F.env hm y (.ref l) := by
            rcases H₁ with ⟨e, mm, hn, hv⟩ | ⟨e, c, hc, hv⟩
            · exact .inl ⟨e, mm, hn.sameBut hsb (Ne.symm hka.2.2), hv⟩
            · refine .inr ⟨e, c, hc, hv.sameBut hsb ?_⟩
              rintro rfl
              obtain ⟨o, ho, hd⟩ := hv
              rw [ho1] at ho; cases ho; cases hd
          have := h6.inj g1
          cases this; rfl
        subst this
        exact ⟨l2, acc.toList, c, rfl, hS.trans (by simp [lObj]), al'⟩
      · have hyl : V.own = true → u ≠ .ref l := fun oy e => by
          subst e
          refine S2.sep y x l V (.lst _) hyx hy (upd_self _ _ _) oy rfl g1 ?_
          rcases H₁ with ⟨e, mm, hn, hv⟩ | ⟨e, c, hc, hv⟩
          · exact .inl ⟨e, mm, hn.sameBut hsb (Ne.symm hka.2.2), hv⟩
          · refine .inr ⟨e, c, hc, hv.sameBut hsb ?_⟩
            rintro rfl
            obtain ⟨o, ho, hd⟩ := hv
            rw [ho1] at ho; cases ho; cases hd
        cases V with
        | frz P => exact g2
        | lst Qs => obtain ⟨a2, vs2, n2, e, q1, q2⟩ := g2; exact ⟨a2, vs2, n2, e, kp2 a2 _ (fun h => hyl rfl (by rw [e, h])) q1, q2⟩
        | sdc kvs => obtain ⟨a2, o2, e, q1, q2, q3⟩ := g2; exact ⟨a2, o2, e, kp2 a2 _ (fun h => hyl rfl (by rw [e, h])) q1, q2, q3⟩
        | idc kvs => obtain ⟨a2, o2, e, q1, q2, q3⟩ := g2; exact ⟨a2, o2, e, kp2 a2 _ (fun h => hyl rfl (by rw [e, h])) q1, q2, q3⟩
        | obj D => obtain ⟨a2, o2, e, q1, q2, q3⟩ := g2; exact ⟨a2, o2, e, kp2 a2 _ (fun h => hyl rfl (by rw [e, h])) q1, q2, q3⟩
    · intro y z b Vy Vz hyz hy hz oy oz G1 G2
      obtain ⟨u, g1, _⟩ := S2.vars y Vy hy
      obtain ⟨u', g1', _⟩ := S2.vars z Vz hz
      have e1 := (hh g1).inj G1
      have e2 := (hh g1').inj G2
      subst e1 e2
      exact S2.sep y z b Vy Vz hyz hy hz oy oz g1 g1'
  exact k K₁ _ .next .next _ h rfl S₂ ((e₁.stp S.xin).trans ⟨⟨rfl, .refl _⟩, .refl _, fun _ _ _ => rfl⟩)
end
end Mine
end
/-! part A22 -/
section
open PySem PySem.Calls PySem.Spec PyProof.Rows PySem.W PySem.SeqAt
set_option Elab.async false
set_option linter.unusedVariables false
namespace Mine
section
variable {prog : Program} {w : World} {F F' : Fm} {K K' X : Kn} {ρ ρ' : Ro prog w} {s s' : Shared} {α β γ : Type} {Φ : Out → Ro prog w → Prop} {mg mb : Str → Option Value}

theorem plain_trees {es : List PySem.Expr} {env : Env} : (es.map fun e => (false, eval e env)).any (·.1) = false := by
  induction es with
  | nil => rfl
  | cons e r ih => simp
theorem method_few {es args : List PySem.Expr} {env : Env} {pos : Pos} (ht : backTo pos (starEach args env) = es.map fun e => (false, eval e env)) (hl : args.length < 20) :
    ((backTo pos (starEach args env)).all (fun x => !x.1) && (backToKw pos (keywordEach [] env)).all (fun x => x.1.isSome)
      && decide (args.length + ([] : List Keyword).length + (if ([] : List Keyword).isEmpty then 0 else 1) < 30)) = true := by
  rw [ht]
  have h1 : (es.map fun e => (false, eval e env)).all (fun x => !x.1) = true := by simp
  have h2 : (backToKw pos (keywordEach [] env)).all (fun x => x.1.isSome) = true := rfl
  rw [h1, h2]
  simp
  omega
inductive Evl (F : Fm) (ρ : Ro prog w) : List PySem.Expr → List (V prog w) → Prop
  | nil : Evl F ρ [] []
  | cons {e : PySem.Expr} {es : List PySem.Expr} {R : V prog w} {Rs : List (V prog w)} : Ev F e ρ R → Evl F ρ es Rs → Evl F ρ (e :: es) (R :: Rs)
theorem Evl.evs {es : List PySem.Expr} {Rs : List (V prog w)} (h : Evl F ρ es Rs) : Evs F (es.map fun e => (false, eval e F.env)) ρ Rs := by
  induction h with
  | nil => exact Evs.nil
  | cons h _ ih => exact Evs.cons h ih
theorem Evl.one {e : PySem.Expr} {R : V prog w} (h : Ev F e ρ R) : Evl F ρ [e] [R] := .cons h .nil
theorem Evl.two {e e' : PySem.Expr} {R R' : V prog w} (h : Ev F e ρ R) (h' : Ev F e' ρ R') : Evl F ρ [e, e'] [R, R'] := .cons h (.cons h' .nil)

structure Mt (T : String) (name : Str) (id : String) : Prop where
  pa : PlainAttrs T
  slot : Slot T name id
  hty : typeOf (.builtin id) = pure (.type "method_descriptor")
theorem mt_index : Mt "str" "index" "str.index" := ⟨PySem.F.plainAttrs_str, PySem.F.slot_str_index, PySem.F.type_str_index⟩
theorem mt_lower : Mt "str" "lower" "str.lower" := ⟨PySem.F.plainAttrs_str, PySem.F.slot_str_lower, PySem.F.type_str_lower⟩
theorem mt_join : Mt "str" "join" "str.join" := ⟨PySem.F.plainAttrs_str, PySem.F.slot_str_join, PySem.F.type_str_join⟩
theorem mt_lindex : Mt "list" "index" "list.index" := ⟨PySem.F.plainAttrs_list, PySem.F.slot_list_index, PySem.F.type_list_index⟩
theorem mth {T id : String} {name : Str} {o : PySem.Expr} {apos pos : Pos} {args : List PySem.Expr} {Ra R : V prog w} {Rs : List (V prog w)} (m : Mt T name id)
    (hr : Recv prog w T Ra) (ho : Ev F o ρ Ra) (ha : Evl F ρ args Rs) (h : Bfn prog w F.A (.builtin id) (Ra :: Rs) R)
    (hbase : attributeBase o name F.env (eval o F.env) = eval o F.env := by rfl) (hline : (apos.endLine == pos.line) = true := by rfl) (hl : args.length < 20 := by simp)
    (ht : backTo pos (starEach args F.env) = args.map fun e => (false, eval e F.env) := by rfl) :
    Ev F (.Call (.Attribute o name apos) args [] pos) ρ R :=
  ev_method m.pa m.slot m.hty hr ho (by rw [ht]; exact ha.evs) (by rw [ht]; exact plain_trees) h hbase (method_few ht hl) hline
theorem blt {n : Nat} {x : Str} {id : String} {px pos : Pos} {args : List PySem.Expr} {Rs : List (V prog w)} {R : V prog w} (ok : Fok n F) (G : Gl F.g mg mb) (hm : mg x = none) (hv : bootBuiltins x = some (.builtin id)) (ha : Evl F ρ args Rs) (h : Bfn prog w F.A (.builtin id) Rs R)
    (hx : F.env.kindOf x = some .globalImplicit := by rfl) (ht : backTo pos (starEach args F.env) = args.map fun e => (false, eval e F.env) := by rfl)
    (hn : x ≠ "__name__" := by decide) (hd : (x == ("__debug__" : Str)) = false := by decide) : Ev F (.Call (.Name x px) args [] pos) ρ R :=
  ev_built ok G hx hm hv (by rw [ht]; exact ha.evs) (by rw [ht]; exact plain_trees) h hn hd
theorem bltN {n : Nat} {x : Str} {id : String} {px pos : Pos} {args : List PySem.Expr} {Rs : List (V prog w)} {R : V prog w} (ok : Fok n F) (G : Gl F.g mg mb) (hm : mg x = none) (hv : bootBuiltins x = some (.builtin id)) (ha : Evl F ρ args Rs) (h : BfnN prog w F.A (.builtin id) Rs R)
    (hx : F.env.kindOf x = some .globalImplicit := by rfl) (ht : backTo pos (starEach args F.env) = args.map fun e => (false, eval e F.env) := by rfl)
    (hn : x ≠ "__name__" := by decide) (hd : (x == ("__debug__" : Str)) = false := by decide) : En F (.Call (.Name x px) args [] pos) ρ R :=
  en_built ok G hx hm hv (by rw [ht]; exact ha.evs) (by rw [ht]; exact plain_trees) h hn hd
theorem tyc {n : Nat} {x : Str} {T : String} {px pos : Pos} {args : List PySem.Expr} {Rs : List (V prog w)} {R : V prog w} (ok : Fok n F) (G : Gl F.g mg mb) (hm : mg x = none) (hv : bootBuiltins x = some (.type T)) (ha : Evl F ρ args Rs) (h : Bfn prog w F.A (.type T) Rs R)
    (hx : F.env.kindOf x = some .globalImplicit := by rfl) (ht : backTo pos (starEach args F.env) = args.map fun e => (false, eval e F.env) := by rfl)
    (hn : x ≠ "__name__" := by decide) (hd : (x == ("__debug__" : Str)) = false := by decide) : Ev F (.Call (.Name x px) args [] pos) ρ R :=
  ev_type ok G hx hm hv (by rw [ht]; exact ha.evs) (by rw [ht]; exact plain_trees) h hn hd
theorem tycN {n : Nat} {x : Str} {T : String} {px pos : Pos} {args : List PySem.Expr} {Rs : List (V prog w)} {R : V prog w} (ok : Fok n F) (G : Gl F.g mg mb) (hm : mg x = none) (hv : bootBuiltins x = some (.type T)) (ha : Evl F ρ args Rs) (h : BfnN prog w F.A (.type T) Rs R)
    (hx : F.env.kindOf x = some .globalImplicit := by rfl) (ht : backTo pos (starEach args F.env) = args.map fun e => (false, eval e F.env) := by rfl)
    (hn : x ≠ "__name__" := by decide) (hd : (x == ("__debug__" : Str)) = false := by decide) : En F (.Call (.Name x px) args [] pos) ρ R :=
  en_type ok G hx hm hv (by rw [ht]; exact ha.evs) (by rw [ht]; exact plain_trees) h hn hd
/-- a call of the text's own function -/
theorem own {n : Nat} {x : Str} {px pos : Pos} {args : List PySem.Expr} {f : Addr} {o : Obj} {fd : FuncData} {Ps : List DP} {P : DP} (ok : Fok n F) (G : Gl F.g mg mb) (hv : mg x = some (.ref f)) (ho : F.g.get? f = some o) (hf : o.data = .func fd) (ha : Evl F ρ args (Ps.map .frz)) (sp : Spec prog w F.g n f Ps P)
    (hx : F.env.kindOf x = some .globalImplicit := by rfl) (ht : backTo pos (starEach args F.env) = args.map fun e => (false, eval e F.env) := by rfl)
    (hd : (x == ("__debug__" : Str)) = false := by decide) : Ez F (.Call (.Name x px) args [] pos) ρ P :=
  Ez.call ok G hx hv ⟨ho, hf⟩ (by rw [ht]; exact ha.evs) (by rw [ht]; exact plain_trees) sp hd
theorem lstD {elts : List PySem.Expr} {pos : Pos} {Ps : List DP} (h : Evl F ρ elts (Ps.map .frz)) (hsz : Ps.length ≤ sizeLine) (ht : backTo pos (starEach elts F.env) = elts.map fun e => (false, eval e F.env) := by rfl) : En F (.List elts pos) ρ (.lst Ps) :=
  en_disp (by rw [ht]; exact h.evs) hsz
theorem tupD {elts : List PySem.Expr} {x1} {pos : Pos} {Ps : List DP} (h : Evl F ρ elts (Ps.map .frz)) (hsz : Ps.length ≤ sizeLine) (ht : backTo pos (starEach elts F.env) = elts.map fun e => (false, eval e F.env) := by rfl) : Ez F (.Tuple elts x1 pos) ρ (dTup Ps) :=
  ez_tup (by rw [ht]; exact h.evs) hsz
theorem ez_bty {n : Nat} {x : Str} {pos : Pos} {T : String} (ok : Fok n F) (G : Gl F.g mg mb) (hm : mg x = none) (hv : bootBuiltins x = some (.type T)) (hx : F.env.kindOf x = some .globalImplicit := by rfl)
    (hn : x ≠ "__name__" := by decide) (hd : (x == ("__debug__" : Str)) = false := by decide) : Ez F (.Name x pos) ρ (dTy T) := Wr.mk <| fun K X s Q E S k =>
  eval_built ok G S hx hm hv (k K s _ (.refl S.kin) rfl) hn hd
theorem IsComp.glb {sc : Scope} {x : Str} {k : NameKind} (C : IsComp F sc F') (h : sc.names.lookup x = some k) (hk : k ≠ .free) : F'.env.kindOf x = some k := by
  show F'.env.scope.names.lookup x = _
  rw [C.scope]
  show (List.map _ sc.names).lookup x = _
  rw [lookup_relabel, h]
  simp [hk]
theorem Fok.room {n : Nat} {A : Around} {r : Nat} (h : Rm n A) (hr : r ≤ 300) : A.units + r < cLine := Nat.lt_of_le_of_lt (Nat.add_le_add_left hr _) h.units_lt
theorem seen_of {sc : Scope} {x : Str} {P : DP} (h : sc.names.lookup x = some .free) (h2 : ρ x = some (.frz P)) : seen sc ρ x = some (.frz P) := by
  unfold seen; rw [if_pos h, h2]
/-- what a comprehension's scope wants of the names around it -/
theorem sc_ok {sc : Scope} (fs : List Str) (hk : sc.kind = .function) (h1 : ∀ p ∈ sc.names, p.2 = .local → sc.names.lookup p.1 = some .local) (h2 : ∀ p ∈ sc.names, p.2 = .free → p.1 ∈ fs) (h3 : ∀ x ∈ cellNames sc.names, sc.names.lookup x = some .cell)
    (h4 : ∀ x ∈ fs, (∃ V, ρ x = some V) ∧ F.env.kindOf x ≠ some .local) : ScOk F sc ρ :=
  ⟨hk, h1, fun p hp hf => ⟨Option.isSome_iff_exists.mpr (h4 _ (h2 p hp hf)).1, (h4 _ (h2 p hp hf)).2⟩, h3⟩
theorem all_nil {α : Type} {p : α → Prop} : ∀ x ∈ ([] : List α), p x := fun x h => nomatch h
theorem all_cons {α : Type} {p : α → Prop} {a : α} {l : List α} (h : p a) (r : ∀ x ∈ l, p x) : ∀ x ∈ a :: l, p x := fun x hx => by
  rcases List.mem_cons.mp hx with rfl | hx
  · exact h
  · exact r x hx
theorem lc1C {n : Nat} {elt iter : PySem.Expr} {x : Str} {px : Pos} {scope : Scope} {pos p2 : Pos} {R : V prog w} (xs : List α) (pv el : α → DP) (ok : Fok n F)
    (hi : Ev F iter ρ R) (it : Itr prog w F.A R (xs.map pv)) (sc : ScOk F scope ρ) (hx : CompName scope x)
    (elts : ∀ F', IsComp F scope F' → Fok n F' → ∀ a ∈ xs, Ez F' elt (upd (seen scope ρ) x (.frz (pv a))) (el a)) (hsz : xs.length ≤ 1000)
    (hs : ∀ x, foldedSetIterable iter F.env x = pure x := by intro _; with_unfolding_all rfl) :
    CompOk prog w F ρ (.ListComp elt [⟨.Name x px, iter, [], 0⟩] scope pos) scope p2 iter (newList []) acL [] (xs.map el) (.lst (xs.map el)) := by
  have := compL1 (pos := pos) (p2 := p2) (px := px) xs pv el (fun _ => true) ok hi it sc hx (fun F' C ok' a ha => ⟨.nil, fun _ => elts F' C ok' a ha⟩) (Nat.le_trans hsz (by rw [sizeLine_eq]; decide)) hs
  rwa [filter_tt] at this
/-- [elt for x in iter] -/
theorem lc1 {n : Nat} {elt iter : PySem.Expr} {x : Str} {px : Pos} {scope : Scope} {pos : Pos} {R : V prog w} (xs : List α) (pv el : α → DP) (ok : Fok n F)
    (hi : Ev F iter ρ R) (it : Itr prog w F.A R (xs.map pv)) (sc : ScOk F scope ρ) (hx : CompName scope x)
    (elts : ∀ F', IsComp F scope F' → Fok n F' → ∀ a ∈ xs, Ez F' elt (upd (seen scope ρ) x (.frz (pv a))) (el a)) (hsz : xs.length ≤ 1000)
    (hs : ∀ x, foldedSetIterable iter F.env x = pure x := by intro _; with_unfolding_all rfl)
    (he : eval (.ListComp elt [⟨.Name x px, iter, [], 0⟩] scope pos) F.env = comprehension (.ListComp elt [⟨.Name x px, iter, [], 0⟩] scope pos) scope F.env (firstIterPos [⟨.Name x px, iter, [], 0⟩] pos) (newList []) false (eval iter F.env) := by rfl) : En F (.ListComp elt [⟨.Name x px, iter, [], 0⟩] scope pos) ρ (.lst (xs.map el)) :=
  En.comp ok (lc1C (p2 := (firstIterPos [⟨.Name x px, iter, [], 0⟩] pos)) xs pv el ok hi it sc hx elts hsz hs) he
/-- y = [elt for x in iter] -/
theorem ex_lc1 {n : Nat} {elt iter : PySem.Expr} {x y : Str} {px py spos : Pos} {scope : Scope} {pos : Pos} {R : V prog w} (xs : List α) (pv el : α → DP) (ok : Fok n F) (hy : F.env.kindOf y = some .local)
    (hi : Ev F iter ρ R) (it : Itr prog w F.A R (xs.map pv)) (sc : ScOk F scope ρ) (hx : CompName scope x)
    (elts : ∀ F', IsComp F scope F' → Fok n F' → ∀ a ∈ xs, Ez F' elt (upd (seen scope ρ) x (.frz (pv a))) (el a)) (hsz : xs.length ≤ 1000) (h : Φ .next (upd ρ y (.lst (xs.map el))))
    (hs : ∀ x, foldedSetIterable iter F.env x = pure x := by intro _; with_unfolding_all rfl)
    (hsw : swapsWith (.ListComp elt [⟨.Name x px, iter, [], 0⟩] scope pos) (some (.Name y py)) spos.line F.env = pure true := by with_unfolding_all rfl)
    (hu : ∀ u, evalThenUse (.ListComp elt [⟨.Name x px, iter, [], 0⟩] scope pos) F.env u = (do let _ ← comprehension (.ListComp elt [⟨.Name x px, iter, [], 0⟩] scope pos) scope F.env (firstIterPos [⟨.Name x px, iter, [], 0⟩] pos) (newList []) false (eval iter F.env) (some u)) := by intro _; rfl) : Ex F [.Assign [.Name y py] (.ListComp elt [⟨.Name x px, iter, [], 0⟩] scope pos) spos] ρ Φ :=
  Ex.comp ok hy (lc1C (p2 := (firstIterPos [⟨.Name x px, iter, [], 0⟩] pos)) xs pv el ok hi it sc hx elts hsz hs) h hu hsw
theorem en_sliceM {value : PySem.Expr} {lo up st : Option PySem.Expr} {p pos : Pos} (l : List α) (f : α → DP) {a b c : Option Int} (hv : Ev F value ρ (.lst (l.map f))) (hl : Prt F lo ρ a) (hu : Prt F up ρ b) (hst : Prt F st ρ c) (h0 : c ≠ some 0) (hsz : l.length ≤ 1000)
    (hs : ∀ o i, ∃ ops, subscripted (.Slice lo up st p) false (.ref o) (.ref i) = operate ops (getItem (.ref o) (.ref i)) := by intros; exact ⟨_, by with_unfolding_all rfl⟩)
    (ht : ∀ o r, letTemporaryGo value (.ref o) r = pure () := by intros; with_unfolding_all rfl) :
    En F (.Subscript value (.Slice lo up st p) pos) ρ (.lst ((pickL l a b c).map f)) := by
  rw [← pickL_map]
  exact en_slice hv hl hu hst h0 (by rw [List.length_map]; exact Nat.le_trans hsz (by rw [sizeLine_eq]; decide)) hs ht
theorem IsComp.gl {sc : Scope} (C : IsComp F sc F') (G : Gl F.g mg mb) : Gl F'.g mg mb := by rw [C.g]; exact G
theorem bin_divk {A : Around} {a b : Int} (hb : b ≠ 0) (hs : b.natAbs < 1000) : Bin prog w A (binaryOp .FloorDiv) (.frz (dInt a)) (.frz (dInt b)) (.frz (dInt (a.fdiv b))) := bin_div hb (by
  unfold Builtin.divisionGoesByPylong
  have : (if b == 0 then 0 else b.natAbs.log2 / 30 + 1) ≤ 300 := by
    split
    · omega
    · have : b.natAbs.log2 ≤ b.natAbs := Nat.log2_le_self _
      omega
  simp only [Bool.and_eq_false_iff, decide_eq_false_iff_not]
  left; omega)
end
end Mine
end
/-! part A23 -/
section
open PySem PySem.Calls PySem.Spec PyProof.Rows PySem.W PySem.SeqAt
open AutoSeq1 (wpAny_loadPart')
open MeetsSeq MeetsSeq2 MeetsSeq3
set_option Elab.async false
set_option linter.unusedVariables false
namespace Mine
section
variable {prog : Program} {w : World} {F F' : Fm} {K K' X : Kn} {ρ ρ' : Ro prog w} {s s' : Shared} {α β γ : Type} {Φ : Out → Ro prog w → Prop} {mg mb : Str → Option Value}

theorem tuple_neP {A : Around} {l b : Addr} {items items2 : Array Value} {n n2 : Nat} {P : Value → Shared → Prop} {E : Value → Shared → Prop} (e : Nat → Bool)
    (hl : s.heap.get? l = some { cls := .type "tuple", dict := none, data := .seq items n, slots := #[] }) (hb : s.heap.get? b = some { cls := .type "tuple", dict := none, data := .seq items2 n2, slots := #[] })
    (he : ∀ j (h1 : j < items.size) (h2 : j < items2.size) (E : Value → Shared → Prop) (Q : Bool → Shared → Prop), Q (e j) s → wpAny (model prog w) A.in1 (eqBool items[j] items2[j]) Q E s)
    (h : P (.bool (!((List.range (min items.size items2.size)).all e && items.size == items2.size))) s) :
    wpAny (model prog w) A.in1 (Builtin.«tuple.__ne__» ⟨[.ref l, .ref b], []⟩) (fun fin s' => ∃ v, fin = .done (.ret v) ∧ P v s') E s := by
  obtain ⟨hp, g, d, tk, os⟩ := s
  have f2 := AutoSeq1.sub_tuple_tuple
  have hZ : (items.toList.zip items2.toList).length = min items.size items2.size := by simp
  wp_walk using wpAny_loadPart' hl, wpAny_loadPart' hb, wpAny_forIn_list _ (fun rest b s' => b.1 = none ∧ s' = ⟨hp, g, d, tk, os⟩ ∧ ∃ i, rest = (items.toList.zip items2.toList).drop i ∧
      P (.bool (!(((List.range (min items.size items2.size)).drop i).all e && items.size == items2.size))) ⟨hp, g, d, tk, os⟩) _
  case turn =>
    rintro ⟨y, x⟩ rest b s' ⟨hb', rfl, i, hz, hR⟩
    have hlt : i < (items.toList.zip items2.toList).length := by
      rcases Nat.lt_or_ge i (items.toList.zip items2.toList).length with h' | h'
      · exact h'
      · rw [List.drop_of_length_le h'] at hz; cases hz
    have hm : i < min items.size items2.size := hZ ▸ hlt
    have h1 : i < items.size := Nat.lt_of_lt_of_le hm (Nat.min_le_left _ _)
    have h2 : i < items2.size := Nat.lt_of_lt_of_le hm (Nat.min_le_right _ _)
    rw [List.drop_eq_getElem_cons hlt] at hz
    injection hz with hyx hrest
    have hy : y = items[i] := by have := congrArg Prod.fst hyx; simpa using this
    have hx : x = items2[i] := by have := congrArg Prod.snd hyx; simpa using this
    subst hy hx
    have hd : (List.range (min items.size items2.size)).drop i = i :: (List.range (min items.size items2.size)).drop (i + 1) := by simp [List.drop_eq_getElem_cons, hm]
    rw [hd, List.all_cons] at hR
    refine wpAny_bind (he i h1 h2 _ _ ?_)
    cases hy : e i with
    | true =>
      rw [hy] at hR
      wp_walk
      exact ⟨rfl, rfl, i + 1, hrest, by simpa using hR⟩
    | false =>
      rw [hy] at hR
      wp_walk
      exact ⟨_, rfl, by simpa using hR⟩
  case fin =>
    rintro ⟨b1, b2⟩ s' ⟨hb', rfl, i, hz, hR⟩
    simp only at hb'
    subst hb'
    have hge : min items.size items2.size ≤ i := by
      rcases Nat.lt_or_ge i (items.toList.zip items2.toList).length with h' | h'
      · rw [List.drop_eq_getElem_cons h'] at hz; cases hz
      · exact hZ ▸ h'
    rw [List.drop_of_length_le (by simpa using hge)] at hR
    wp_walk
    exact ⟨_, rfl, by simpa [Builtin.Tuple.tupleCompareSizes, bne] using hR⟩
  case h =>
    exact ⟨rfl, rfl, 0, rfl, by simpa using h⟩
end
end Mine
end
/-! part B0 -/
section
open PySem PySem.Calls PySem.Spec PyProof.Rows PySem.W PySem.SeqAt
set_option Elab.async false
set_option linter.unusedVariables false
set_option maxRecDepth 100000
namespace Mine

/-- the text's function of a name -/
noncomputable def aOf (P : Params) (x : Str) : Addr := match nsIn (hd.heap_1 P) mainGlobals x with
  | some (some (.ref a)) => a
  | _ => 0
structure Base (w : World) (g : Heap) (mg mb : Str → Option Value) : Prop where
  gl : Gl g mg mb
  K : (hd.heap_1 w.params).In g
  mods : ∃ o, g.get? sysModules = some o
theorem Base.at {w : World} {g : Heap} {mg mb : Str → Option Value} (B : Base w g mg mb) {x : Str} {v : Value} (e : nsIn (hd.heap_1 w.params) mainGlobals x = some (some v)) : mg x = some v := mg_of B.K B.gl.gl e
theorem Base.no {w : World} {g : Heap} {mg mb : Str → Option Value} (B : Base w g mg mb) {x : Str} (e : nsIn (hd.heap_1 w.params) mainGlobals x = some none) : mg x = none := mg_none_of B.K B.gl.gl e

noncomputable def ltr (i : Nat) : Str := match i with
  | 0 => "a" | 1 => "A" | 2 => "b" | _ => "B"
noncomputable def priceI (i j : Nat) : Int := if i = j then 0 else if i / 2 = j / 2 then 1 else 2

section
variable {prog : Program} {w : World} {g : Heap} {mg mb : Str → Option Value}
end
end Mine
end
local macro_rules | `(tactic| passes_own) => `(tactic| (repeat (first | exact Mine.upd_self _ _ _ | refine (Mine.upd_ne _ _ (by decide)).trans ?_)) <;> first | assumption | rfl)
/-! part B1 -/
section
open PySem PySem.Calls PySem.Spec PyProof.Rows PySem.W PySem.SeqAt
set_option Elab.async false
set_option linter.unusedVariables false
set_option maxRecDepth 100000
namespace Mine
theorem ltr_inj {i j : Nat} (hi : i < 4) (hj : j < 4) (h : ltr i = ltr j) : i = j := by
  have : ∀ i : Fin 4, ∀ j : Fin 4, ltr i = ltr j → i = j := by decide +kernel
  exact congrArg Fin.val (this ⟨i, hi⟩ ⟨j, hj⟩ h)
theorem ltr_at {i : Nat} (hi : i < 4) : Builtin.Str.occurrences "aAbB" (ltr i) 0 (Str.length "aAbB") 1 = i :: [] := by
  have : ∀ i : Fin 4, Builtin.Str.occurrences "aAbB" (ltr i) 0 (Str.length "aAbB") 1 = i.val :: [] := by decide +kernel
  exact this ⟨i, hi⟩
section
variable {prog : Program} {w : World} {g : Heap} {mg mb : Str → Option Value}

theorem spec_price (B : Base w g mg mb) (n : Nat) (i j : Nat) (hi : i < 4) (hj : j < 4) : Spec prog w g (n + 1) (aOf w.params "_law_price") [dStr (ltr i), dStr (ltr j)] (dInt (priceI i j)) := by
  refine Spec.enter (xs := ["one", "other"]) B.gl B.mods (B.K _ _ rfl) rfl ⟨⟨_, _, _, _, rfl, B.K _ _ rfl, rfl, rfl⟩, rfl, bind2 rfl fun _ _ => rfl, rfl, rfl, rfl, by decide, by decide, by decide, rfl, rfl, rfl⟩ rfl fun F hF => ?_
  obtain ⟨env, A, g', mine⟩ := F
  obtain ⟨-, rfl, rfl, ⟨L, f, rfl⟩, ok⟩ := hF
  refine Ex.seq (Ex.ifc (Eb.cmp (Ev.name ok rfl) (Ev.name ok rfl) cmp_streq) (fun h => ?_) (fun h => ?_))
  · have := ltr_inj hi hj (of_decide_eq_true h)
    refine Ex.ret Ez.int ?_
    rw [show (0 : Int) = priceI i j by simp [priceI, this]]
  · have hne : i ≠ j := fun e => by subst e; simp at h
    refine Ex.nil (Ex.ret (P := dInt (priceI i j)) ?_ rfl)
    have key : ∀ (k : Nat), k < 4 → Bfn prog w A (.builtin "str.index") [.frz (dStr "aAbB"), .frz (dStr (ltr k))] (.frz (dInt k)) := fun k hk => bfn_sindex (ltr_at hk)
    have e1 : ∀ k : Nat, (k : Int).fdiv 2 = ((k / 2 : Nat) : Int) := fun k => by rw [Int.fdiv_eq_ediv_of_nonneg _ (by decide)]; rfl
    refine Ev.ite (Eb.cmp (Ev.bin (mth mt_index recv_str Ez.str (Evl.one (Ev.name ok rfl)) (key i hi)) Ez.int (bin_divk (by decide) (by decide)))
      (Ev.bin (mth mt_index recv_str Ez.str (Evl.one (Ev.name ok rfl)) (key j hj)) Ez.int (bin_divk (by decide) (by decide))) cmp_eq) (fun h => ?_) (fun h => ?_)
    · have h2 : i / 2 = j / 2 := by rw [e1, e1] at h; simp at h; omega
      rw [show priceI i j = 1 by simp [priceI, hne, h2]]
      exact Ez.int
    · have h2 : i / 2 ≠ j / 2 := by rw [e1, e1] at h; simp at h; omega
      rw [show priceI i j = 2 by simp [priceI, hne, h2]]
      exact Ez.int

theorem lower_eq {i j : Nat} (hi : i < 4) (hj : j < 4) : (Txt.lower (ltr i) = Txt.lower (ltr j)) ↔ i / 2 = j / 2 := by
  have : ∀ i : Fin 4, ∀ j : Fin 4, (Txt.lower (ltr i) = Txt.lower (ltr j)) ↔ i.val / 2 = j.val / 2 := by decide +kernel
  exact this ⟨i, hi⟩ ⟨j, hj⟩
theorem ltr_len (i : Nat) : (ltr i).length = 1 := by
  match i with
  | 0 => rfl
  | 1 => rfl
  | 2 => rfl
  | n + 3 => rfl
theorem spec_cost (B : Base w g mg mb) (n : Nat) (i j : Nat) (hi : i < 4) (hj : j < 4) : Spec prog w g (n + 1) (aOf w.params "_substitution_cost") [dStr (ltr i), dStr (ltr j)] (dInt (priceI i j)) := by
  refine Spec.enter (xs := ["ch_a", "ch_b"]) B.gl B.mods (B.K _ _ rfl) rfl ⟨⟨_, _, _, _, rfl, B.K _ _ rfl, rfl, rfl⟩, rfl, bind2 rfl fun _ _ => rfl, rfl, rfl, rfl, by decide, by decide, by decide, rfl, rfl, rfl⟩ rfl fun F hF => ?_
  obtain ⟨env, A, g', mine⟩ := F
  obtain ⟨-, rfl, rfl, ⟨L, f, rfl⟩, ok⟩ := hF
  refine Ex.seq (Ex.ifc (Eb.cmp (Ev.name ok rfl) (Ev.name ok rfl) cmp_streq) (fun h => ?_) (fun h => ?_))
  · have := ltr_inj hi hj (of_decide_eq_true h)
    refine Ex.ret Ez.int ?_
    rw [show (0 : Int) = priceI i j by simp [priceI, this]]
  · have hne : i ≠ j := fun e => by subst e; simp at h
    refine Ex.nil (Ex.seq (Ex.ifc (Eb.cmp (mth mt_lower recv_str (Ev.name ok rfl) .nil (bfn_lower (by rw [ltr_len]; decide))) (mth mt_lower recv_str (Ev.name ok rfl) .nil (bfn_lower (by rw [ltr_len]; decide))) cmp_streq) (fun h => ?_) (fun h => ?_)))
    · have h2 := (lower_eq hi hj).mp (of_decide_eq_true h)
      refine Ex.ret (P := dInt (priceI i j)) (Ez.glob ok B.gl rfl (B.at rfl) fun K => ?_) rfl
      exact ⟨_, by rw [show priceI i j = 1 by simp [priceI, hne, h2]]⟩
    · have h2 : i / 2 ≠ j / 2 := fun e => by rw [(lower_eq hi hj).mpr e] at h; simp at h
      refine Ex.nil (Ex.ret (P := dInt (priceI i j)) (Ez.glob ok B.gl rfl (B.at rfl) fun K => ?_) rfl)
      exact ⟨_, by rw [show priceI i j = 2 by simp [priceI, hne, h2]]⟩

/-! ### count_calls -/
theorem spec_count (B : Base w g mg mb) (n : Nat) (kvs : List (Str × Int)) : Spec prog w g (n + 1) (aOf w.params "count_calls") [dDict (strKind prog w) (mapD dInt kvs)] (dInt (kvs.map (·.2)).sum) := by
  refine Spec.enter (xs := ["callers"]) B.gl B.mods (B.K _ _ rfl) rfl ⟨⟨_, _, _, _, rfl, B.K _ _ rfl, rfl, rfl⟩, rfl, bind1 rfl fun _ => rfl, rfl, rfl, rfl, by decide, by decide, by decide, rfl, rfl, rfl⟩ rfl fun F hF => ?_
  obtain ⟨env, A, g', mine⟩ := F
  obtain ⟨-, rfl, rfl, ⟨L, f, rfl⟩, ok⟩ := hF
  refine Ex.seq (Ex.assign ok (.inl rfl) Ez.int ?_)
  refine Ex.seq (Ex.for (R := .frz (dVals (strKind prog w) (mapD dInt kvs))) (Ps := (mapD dInt kvs).map (·.2)) ok (.inl rfl) (ez_values (Ev.name ok rfl) rfl rfl) (itr_vals ok.rm.hh)
    (fun i ρ => ρ "nc" = some (.frz (dInt ((kvs.map (·.2)).take i).sum))) rfl ?_ ?_)
  · intro i P ρ hP hI
    have hP' : ((kvs.map (·.2)).map dInt)[i]? = some P := by simpa [mapD] using hP
    rw [List.getElem?_map] at hP'
    obtain ⟨m, hm, rfl⟩ := Option.map_eq_some_iff.mp hP'
    refine Ex.aug ok (.inl rfl) (R := .frz (dInt ((kvs.map (·.2)).take i).sum)) (by passes_own) (Ev.name ok rfl) bin_iadd ?_
    show upd _ _ _ _ = _
    rw [upd_self, List.take_add_one, hm]
    simp
  · intro ρ hI
    refine Ex.ret (Ev.name ok hI) ?_
    have : ((mapD dInt kvs).map (·.2)).length = (kvs.map (·.2)).length := by simp [mapD]
    rw [this, List.take_length]
end
end Mine
end
/-! part B2 -/
section
open PySem PySem.Calls PySem.Spec PyProof.Rows PySem.W PySem.SeqAt
set_option Elab.async false
set_option linter.unusedVariables false
set_option maxRecDepth 100000
namespace Mine

noncomputable def putI {κ : Type} [DecidableEq κ] (kvs : List (κ × Int)) (k : κ) (v : Int) : List (κ × Int) := if kvs.any (fun kv => kv.1 = k) then kvs.map (fun kv => if kv.1 = k then (kv.1, v) else kv) else kvs ++ [(k, v)]
theorem any_mapD {κ β : Type} [DecidableEq κ] (f : β → DP) (kvs : List (κ × β)) (k : κ) : ((mapD f kvs).any fun kv => decide (kv.1 = k)) = kvs.any fun kv => decide (kv.1 = k) := by
  unfold mapD; rw [List.any_map]; rfl
theorem putK_mapD {κ : Type} [DecidableEq κ] (kvs : List (κ × Int)) (k : κ) (v : Int) : putK (mapD dInt kvs) k (dInt v) = mapD dInt (putI kvs k v) := by
  unfold putK putI
  rw [any_mapD]
  split
  · unfold mapD
    rw [List.map_map, List.map_map]
    refine List.map_congr_left fun kv _ => ?_
    dsimp only [Function.comp]
    split <;> rfl
  · unfold mapD; rw [List.map_append]; rfl
theorem putI_len {κ : Type} [DecidableEq κ] (kvs : List (κ × Int)) (k : κ) (v : Int) : (putI kvs k v).length ≤ kvs.length + 1 := by
  unfold putI
  split
  · rw [List.length_map]; omega
  · simp
noncomputable def addC (t s : List (Str × Int)) : List (Str × Int) := s.foldl (fun acc kv => match lookK acc kv.1 with | some o => putI acc kv.1 (o + kv.2) | none => putI acc kv.1 kv.2) (t.foldl (fun acc kv => putI acc kv.1 kv.2) [])
theorem foldl_len {α : Type} (f : List α → α → List α) (hf : ∀ acc x, (f acc x).length ≤ acc.length + 1) : ∀ (l acc : List α), (l.foldl f acc).length ≤ acc.length + l.length
  | [], acc => by simp
  | x :: r, acc => by
    have := foldl_len f hf r (f acc x)
    have := hf acc x
    rw [List.foldl_cons, List.length_cons]
    omega
theorem kp_str {prog : Program} {w : World} (K : Kn) (k : Str) (v : Value) (h : (strKind prog w).is k v = true) : (dStr k).p K v := Value.isStrOf_shape h
theorem key_str {prog : Program} {w : World} {k : Str} (K : Kn) (v : Value) (h : (dStr k).p K v) : (strKind prog w).is k v = true := by
  obtain ⟨t, rfl⟩ := h; exact strKind_is prog w k t
theorem key_int {prog : Program} {w : World} {k : Int} (K : Kn) (v : Value) (h : (dInt k).p K v) : (intKind prog w).is k v = true := by
  obtain ⟨t, rfl⟩ := h; exact intKind_is prog w k t
theorem mapD_get {κ β : Type} {f : β → DP} {kvs : List (κ × β)} {i : Nat} {k : κ} {P : DP} (h : (mapD f kvs)[i]? = some (k, P)) : ∃ v, kvs[i]? = some (k, v) ∧ P = f v := by
  unfold mapD at h
  rw [List.getElem?_map] at h
  obtain ⟨kv, h1, h2⟩ := Option.map_eq_some_iff.mp h
  cases h2
  exact ⟨kv.2, h1, rfl⟩
theorem mapD_len {κ β : Type} (f : β → DP) (kvs : List (κ × β)) : (mapD f kvs).length = kvs.length := by simp [mapD]
theorem any_lookK {κ β : Type} [DecidableEq κ] (kvs : List (κ × β)) (k : κ) : (kvs.any fun kv => decide (kv.1 = k)) = (lookK kvs k).isSome := by
  unfold lookK
  rw [Option.isSome_map, List.isSome_find?]

section
variable {prog : Program} {w : World} {g : Heap} {mg mb : Str → Option Value}
theorem spec_addc (B : Base w g mg mb) (n : Nat) (t s : List (Str × Int)) (hsz : t.length + s.length ≤ 900) : Spec prog w g (n + 1) (aOf w.params "add_callers") [dDict (strKind prog w) (mapD dInt t), dDict (strKind prog w) (mapD dInt s)] (dDict (strKind prog w) (mapD dInt (addC t s))) := by
  refine Spec.enter (xs := ["target", "source"]) B.gl B.mods (B.K _ _ rfl) rfl ⟨⟨_, _, _, _, rfl, B.K _ _ rfl, rfl, rfl⟩, rfl, bind2 rfl fun _ _ => rfl, rfl, rfl, rfl, by decide, by decide, by decide, rfl, rfl, rfl⟩ rfl fun F hF => ?_
  obtain ⟨env, A, g', mine⟩ := F
  obtain ⟨-, rfl, rfl, ⟨L, f, rfl⟩, ok⟩ := hF
  let st1 : List (Str × Int) → Str × Int → List (Str × Int) := fun acc kv => putI acc kv.1 kv.2
  let st2 : List (Str × Int) → Str × Int → List (Str × Int) := fun acc kv => match lookK acc kv.1 with | some o => putI acc kv.1 (o + kv.2) | none => putI acc kv.1 kv.2
  have len1 : ∀ i, ((t.take i).foldl st1 []).length ≤ t.length := fun i => by
    have := foldl_len st1 (fun acc x => putI_len _ _ _) (t.take i) []
    simp at this; omega
  have len2 : ∀ i, ((s.take i).foldl st2 (t.foldl st1 [])).length ≤ t.length + s.length := fun i => by
    have := foldl_len st2 (fun acc x => by
      show (match lookK acc x.1 with | some o => putI acc x.1 (o + x.2) | none => putI acc x.1 x.2).length ≤ _
      split <;> exact putI_len _ _ _) (s.take i) (t.foldl st1 [])
    have h1 := len1 t.length
    rw [List.take_length] at h1
    have : (s.take i).length ≤ s.length := by simp; omega
    omega
  refine Ex.seq (Ex.assignN ok (.inl rfl) (en_dict0s ok) ?_)
  refine Ex.seq (ex_items (kvs := mapD dInt t) dStr kp_str ok (.inl rfl) (.inl rfl) (Ev.name ok rfl)
    (fun i ρ => ρ "source" = some (.frz (dDict (strKind prog w) (mapD dInt s))) ∧ ρ "new_callers" = some (.sdc (mapD dInt ((t.take i).foldl st1 [])))) ⟨rfl, rfl⟩ ?_ ?_ rfl rfl)
  · intro i k P ρ hP ⟨hI1, hI2⟩
    obtain ⟨v, hv, rfl⟩ := mapD_get hP
    refine ex_put ownD_s ok (x := "new_callers") (kvs := mapD dInt ((t.take i).foldl st1 [])) (by passes_own) (Ev.name ok rfl) (Ev.name ok rfl) key_str (by rw [mapD_len]; have := len1 i; omega) ?_
    refine ⟨by passes_own, ?_⟩
    rw [upd_self, putK_mapD, List.take_add_one, hv, List.foldl_append]
    rfl
  · rintro ρ ⟨hI1, hI2⟩
    rw [mapD_len, List.take_length] at hI2
    refine Ex.seq (ex_items (kvs := mapD dInt s) dStr kp_str ok (.inl rfl) (.inl rfl) (Ev.name ok hI1)
      (fun i ρ => ρ "new_callers" = some (.sdc (mapD dInt ((s.take i).foldl st2 (t.foldl st1 []))))) hI2 ?_ ?_ rfl rfl)
    · intro i k P ρ hP hI
      obtain ⟨v, hv, rfl⟩ := mapD_get hP
      have hnext : (s.take (i + 1)).foldl st2 (t.foldl st1 []) = st2 ((s.take i).foldl st2 (t.foldl st1 [])) (k, v) := by
        rw [List.take_add_one, hv, List.foldl_append]; rfl
      have hlen := len2 i
      show Ex _ _ _ (Turn (fun ρ => ρ "new_callers" = some (.sdc (mapD dInt ((s.take (i + 1)).foldl st2 (t.foldl st1 []))))) _)
      rw [hnext]
      generalize (s.take i).foldl st2 (t.foldl st1 []) = acc at hI hlen ⊢
      refine Ex.ifc (Eb.cmp (Rr := .sdc (mapD dInt acc)) (Ev.name ok rfl) (Ev.name ok (by passes_own)) (cmp_din rdD_sdc key_str)) (fun h => ?_) (fun h => ?_)
      · rw [any_mapD, any_lookK] at h
        obtain ⟨o, ho⟩ := Option.isSome_iff_exists.mp h
        refine Ex.ifc (eb_of (blt ok B.gl (B.no rfl) rfl (.two (Ev.name ok rfl) (R' := .frz (dTy "tuple")) ?_) bfn_isint_tuple)) (fun h => nomatch h) (fun _ => ?_)
        · exact ez_bty ok B.gl (B.no rfl) rfl
        · refine ex_putAug ownD_s ok (x := "new_callers") (kvs := mapD dInt acc) (by passes_own) (Ev.name ok rfl) key_str (by have := lookK_map dInt k acc; rw [ho] at this; exact this) (Ev.name ok rfl) bin_iadd (by rw [mapD_len]; omega) ?_
          show upd _ _ _ _ = _
          rw [upd_self, putK_mapD]
          show _ = some (V.sdc (mapD dInt (match lookK acc k with | some o => putI acc k (o + v) | none => putI acc k v)))
          rw [ho]
      · rw [any_mapD, any_lookK] at h
        have ho : lookK acc k = none := by simpa using h
        refine ex_put ownD_s ok (x := "new_callers") (kvs := mapD dInt acc) (by passes_own) (Ev.name ok rfl) (Ev.name ok rfl) key_str (by rw [mapD_len]; omega) ?_
        show upd _ _ _ _ = _
        rw [upd_self, putK_mapD]
        show _ = some (V.sdc (mapD dInt (match lookK acc k with | some o => putI acc k (o + v) | none => putI acc k v)))
        rw [ho]
    · intro ρ hI
      rw [mapD_len, List.take_length] at hI
      refine Ex.freeze (x := "new_callers") hI (Ex.ret (Ev.name ok (upd_self _ _ _)) rfl)

/-! ### add_func_stats -/
noncomputable def dStats (a b c d : Int) (kvs : List (Str × Int)) : DP := dTup [dInt a, dInt b, dInt c, dInt d, dDict (strKind prog w) (mapD dInt kvs)]
theorem spec_adds (B : Base w g mg mb) (n : Nat) (a b c d a' b' c' d' : Int) (t s : List (Str × Int)) (hsz : t.length + s.length ≤ 900) : Spec prog w g (n + 2) (aOf w.params "add_func_stats") [dStats (prog := prog) (w := w) a b c d t, dStats (prog := prog) (w := w) a' b' c' d' s] (dStats (prog := prog) (w := w) (a' + a) (b' + b) (c' + c) (d' + d) (addC t s)) := by
  refine Spec.enter (xs := ["target", "source"]) B.gl B.mods (B.K _ _ rfl) rfl ⟨⟨_, _, _, _, rfl, B.K _ _ rfl, rfl, rfl⟩, rfl, bind2 rfl fun _ _ => rfl, rfl, rfl, rfl, by decide, by decide, by decide, rfl, rfl, rfl⟩ rfl fun F hF => ?_
  obtain ⟨env, A, g', mine⟩ := F
  obtain ⟨-, rfl, rfl, ⟨L, f, rfl⟩, ok⟩ := hF
  refine Ex.seq (ex_unpack [("cc", _), ("nc", _), ("tt", _), ("ct", _), ("callers", _)] ok (Ev.name ok rfl) (by intro p hp; simp only [List.mem_cons, List.not_mem_nil, or_false] at hp; rcases hp with rfl | rfl | rfl | rfl | rfl <;> exact .inl rfl) rfl ?_ rfl)
  refine Ex.seq (ex_unpack [("t_cc", _), ("t_nc", _), ("t_tt", _), ("t_ct", _), ("t_callers", _)] ok (Ev.name ok rfl) (by intro p hp; simp only [List.mem_cons, List.not_mem_nil, or_false] at hp; rcases hp with rfl | rfl | rfl | rfl | rfl <;> exact .inl rfl) rfl ?_ rfl)
  refine Ex.ret (tupD (Ps := [dInt (a' + a), dInt (b' + b), dInt (c' + c), dInt (d' + d), dDict (strKind prog w) (mapD dInt (addC t s))]) (.cons (Ev.bin (Ev.name ok rfl) (Ev.name ok rfl) bin_add) (.cons (Ev.bin (Ev.name ok rfl) (Ev.name ok rfl) bin_add) (.cons (Ev.bin (Ev.name ok rfl) (Ev.name ok rfl) bin_add) (.cons (Ev.bin (Ev.name ok rfl) (Ev.name ok rfl) bin_add)
    (.cons (own ok B.gl (B.at rfl) (B.K _ _ rfl) rfl (.two (Ev.name ok rfl) (Ev.name ok rfl)) (spec_addc B n t s hsz)) .nil))))) (by rw [sizeLine_eq]; exact Nat.le_of_ble_eq_true rfl)) rfl
end
end Mine
end
/-! part B3 -/
section
open PySem PySem.Calls PySem.Spec PyProof.Rows PySem.W PySem.SeqAt
set_option Elab.async false
set_option linter.unusedVariables false
set_option maxRecDepth 100000
namespace Mine

/-! ### the sizes -/
noncomputable def szAt (i : Fin 5) : Int := match i with
  | 0 => 1 | 1 => 2 | 2 => 3 | 3 => 0 | 4 => 127
noncomputable def szs (a b c : Fin 5) : List Int := [szAt a, szAt b, szAt c]
/-- the places of a size that ends the telling -/
noncomputable def ends (sizes : List Int) : List Int := (upto 0 3).filter (fun p => decide (sizes.getD p.toNat 0 ∈ [(0 : Int), 127])) ++ [3]
noncomputable def end0 (sizes : List Int) : Int := (ends sizes).getD 0 0
noncomputable def told0 (sizes : List Int) : List Int := pickL sizes none (some (end0 sizes)) none
noncomputable def isZ (sizes : List Int) : Bool := decide (end0 sizes < 3) && (sizes.getD (end0 sizes).toNat 0 == 0)
noncomputable def told1 (sizes : List Int) : List Int := if isZ sizes then told0 sizes ++ (List.replicate 4 (pickL (told0 sizes) (some (-1)) none none)).flatten else told0 sizes
noncomputable def cutStep (p : Int × List Int) (s : Int) : Int × List Int := (max 0 (p.1 - s), p.2 ++ upto (max 0 (p.1 - s)) p.1)
noncomputable def cutEnd (told : List Int) : List Int := let p := told.foldl cutStep (4, []); upto 0 p.1 ++ p.2
noncomputable def cutF (sizes : List Int) : List Int := if isZ sizes && decide (told0 sizes = []) then [3, 2, 1, 0] else cutEnd (told1 sizes)

theorem cut_inv : ∀ (told : List Int) (p : Int × List Int), (∀ s ∈ told, 0 ≤ s) → 0 ≤ p.1 → p.1 ≤ 4 → (p.2.length : Int) + p.1 = 4 → 0 ≤ (told.foldl cutStep p).1 ∧ (told.foldl cutStep p).1 ≤ 4 ∧ ((told.foldl cutStep p).2.length : Int) + (told.foldl cutStep p).1 = 4
  | [], p, _, h1, h2, h3 => ⟨h1, h2, h3⟩
  | s :: r, p, h, h1, h2, h3 => by
    have hs := h s List.mem_cons_self
    rw [List.foldl_cons]
    refine cut_inv r (cutStep p s) (fun x hx => h x (List.mem_cons_of_mem _ hx)) ?_ ?_ ?_
    · show 0 ≤ max 0 (p.1 - s); omega
    · show max 0 (p.1 - s) ≤ 4; omega
    · show ((p.2 ++ upto (max 0 (p.1 - s)) p.1).length : Int) + max 0 (p.1 - s) = 4
      have : (upto (max 0 (p.1 - s)) p.1).length = (p.1 - max 0 (p.1 - s)).toNat := by simp [upto]
      rw [List.length_append, this]
      omega

section
variable {prog : Program} {w : World} {g : Heap} {mg mb : Str → Option Value}
theorem getD_get {α : Type} {l : List α} {i : Nat} {d : α} (h : i < l.length) : l[i]? = some (l.getD i d) := by
  simp [List.getD_eq_getElem?_getD, List.getElem?_eq_getElem h]
theorem sub_ints {A : Around} {value slice : PySem.Expr} {l : List Int} {i : Int} (h0 : 0 ≤ i) (h1 : i < l.length) (hl : l.length ≤ 1000)
    (hs : ∀ a t, subscripted slice false (.ref a) (.int i t) = operate [.ref a, .int i t] (getItem (.ref a) (.int i t)) := by intros; with_unfolding_all rfl) :
    Bin prog w A (subscriptTail value slice) (.lst (l.map dInt)) (.frz (dInt i)) (.frz (dInt (l.getD i.toNat 0))) :=
  sub_list h0 (by rw [List.getElem?_map, getD_get (d := 0) (by omega)]; rfl) (by omega) hs

theorem spec_cut (B : Base w g mg mb) (n : Nat) (a b c : Fin 5) : Spec prog w g (n + 1) (aOf w.params "_law_cut") [dList ((szs a b c).map dInt)] (dList ((cutF (szs a b c)).map dInt)) := by
  have facts : ∀ a b c : Fin 5, (0 ≤ end0 (szs a b c) ∧ end0 (szs a b c) ≤ 3 ∧ (ends (szs a b c)).length ≤ 4 ∧ 0 < (ends (szs a b c)).length ∧ (told0 (szs a b c)).length ≤ 3 ∧ (pickL (told0 (szs a b c)) (some (-1)) none none).length ≤ 3) ∧ (∀ s ∈ told1 (szs a b c), 0 ≤ s) := by decide +kernel
  obtain ⟨⟨f1, f2, f3, f4, f5, f7⟩, f6⟩ := facts a b c
  have hsl : sizeLine = 16777216 := sizeLine_eq
  refine Spec.enter (xs := ["sizes"]) B.gl B.mods (B.K _ _ rfl) rfl ⟨⟨_, _, _, _, rfl, B.K _ _ rfl, rfl, rfl⟩, rfl, bind1 rfl fun _ => rfl, rfl, rfl, rfl, by decide, by decide, by decide, rfl, rfl, rfl⟩ rfl fun F hF => ?_
  obtain ⟨env, A, g', mine⟩ := F
  obtain ⟨-, rfl, rfl, ⟨L, f, rfl⟩, ok⟩ := hF
  have hh := ok.rm.hh
  have hlen : (szs a b c).length = 3 := rfl
  have hu : A.units + 10 * (0 + 1) < cLine := Fok.room ok.rm (by decide)
  generalize hsz : szs a b c = sizes at f1 f2 f3 f4 f5 f6 f7 hlen ⊢
  -- ends
  refine Ex.seq (Ex.assignN (R := .lst ((ends sizes).map dInt)) ok (.inl rfl) ?_ ?_)
  · have : (ends sizes).map dInt = ((upto 0 3).filter (fun p => decide (sizes.getD p.toNat 0 ∈ [(0 : Int), 127]))).map dInt ++ [(3 : Int)].map dInt := by simp [ends]
    rw [this]
    refine En.bin (En.rd (En.comp ok (compL1 (upto 0 3) dInt dInt (fun p => decide (sizes.getD p.toNat 0 ∈ [(0 : Int), 127])) ok
      (tyc ok B.gl (B.no rfl) rfl (.one Ez.int) bfn_range1) (itr_rng hh (by decide) (by decide) (by decide) (by decide)) ⟨rfl, by decide, ?_, by decide⟩ (.inl rfl) (fun F' C ok' p hp => ?_) ?_) rfl)) (En.rd (lstD (Ps := [dInt 3]) (.one Ez.int) ?_)) (bin_ladd ?_)
    · intro p hp hf
      simp only [List.mem_cons, List.not_mem_nil, or_false] at hp
      rcases hp with rfl | rfl | rfl
      · cases hf
      · cases hf
      · exact ⟨rfl, fun h => nomatch h⟩
    · have hp3 : 0 ≤ p ∧ p < 3 := by
        have : ∀ p ∈ upto 0 3, 0 ≤ p ∧ p < 3 := by decide
        exact this p hp
      refine ⟨.one (Eb.cmp (Ev.sub (Ev.lst (Ev.name ok' rfl)) (Ev.name ok' rfl) (sub_ints hp3.1 (by rw [hlen]; exact hp3.2) (by rw [hlen]; decide))) (tupD (Ps := [dInt 0, dInt 127]) (.two Ez.int Ez.int) (by rw [hsl]; exact Nat.le_of_ble_eq_true rfl)) (cmp_tin (ys := [(0 : Int), 127]) (deq_int 0) (Fok.room ok'.rm (by decide)))), fun _ => Ev.name ok' rfl⟩
    · rw [hsl]; decide
    · rw [hsl]; exact Nat.le_of_ble_eq_true rfl
    · rw [hsl, List.length_map]
      have : ((upto 0 3).filter (fun p => decide (sizes.getD p.toNat 0 ∈ [(0 : Int), 127]))).length ≤ (upto 0 3).length := List.length_filter_le _ _
      refine Nat.le_trans (Nat.add_le_add_right this _) ?_
      exact Nat.le_of_ble_eq_true rfl
  have hE0 : ∀ {ρ : Ro prog w} {F' : Fm} {m : Nat} (ok' : Fok m F') {px p2 p3 : Pos} {q : Nat}, ρ "ends" = some (.lst ((ends sizes).map dInt)) → Ez F' (.Subscript (.Name "ends" px) (.Constant (.int 0) q p2) p3) ρ (dInt (end0 sizes)) := by
    intro ρ F' m ok' px p2 p3 q h
    exact Ev.sub (Ev.name ok' h) Ez.int (sub_ints (by decide) (by omega) (by omega))
  -- told
  refine Ex.seq (Ex.assignN (R := .lst ((told0 sizes).map dInt)) ok (.inl rfl) ?_ ?_)
  · unfold told0
    rw [← pickL_map]
    exact en_slice (Ev.lst (Ev.name ok rfl)) prt_none (prt_int (hE0 ok rfl)) prt_none (by decide) (by rw [hsl, List.length_map, hlen]; decide)
  refine Ex.seq (Ex.mono (Φ := fun o ρ => match o with | .next => ρ "told" = some (.lst ((told1 sizes).map dInt)) ∧ (isZ sizes && decide (told0 sizes = [])) = false | o => o = .ret (dList ((cutF sizes).map dInt)))
    (Ex.ifc (b := isZ sizes) (Eb.and2 (Eb.cmp (hE0 ok rfl) Ez.int cmp_lt) (fun h => Eb.cmp (Ev.sub (Ev.lst (Ev.name ok rfl)) (hE0 ok rfl) (sub_ints f1 (by have := of_decide_eq_true h; omega) (by omega))) Ez.int cmp_eq)) (fun hz => ?_) (fun hz => ?_)) ?_)
  · refine Ex.seq (Ex.ifc (Eb.cmp (Ev.name ok rfl) (En.rd (lstD (Ps := ([] : List Int).map dInt) .nil (Nat.zero_le _))) (cmp_leq (deq_int 0) hu)) (fun he => ?_) (fun he => ?_))
    · refine Ex.ret (En.list (lstD (Ps := [dInt 3, dInt 2, dInt 1, dInt 0]) (.cons Ez.int (.cons Ez.int (.two Ez.int Ez.int))) (by rw [hsl]; exact Nat.le_of_ble_eq_true rfl))) ?_
      show Out.ret _ = Out.ret _
      rw [show cutF sizes = [3, 2, 1, 0] by unfold cutF; rw [hz, he]; rfl]
      rfl
    · refine Ex.nil (Ex.assignN (R := .lst ((told1 sizes).map dInt)) ok (.inl rfl) ?_ ⟨upd_self _ _ _, by rw [he, Bool.and_false]⟩)
      have : (told1 sizes).map dInt = (told0 sizes).map dInt ++ (List.replicate (4 : Int).toNat (pickL ((told0 sizes).map dInt) (some (-1)) none none)).flatten := by
        unfold told1; rw [if_pos hz, List.map_append, pickL_map, List.map_flatten, List.map_replicate]; rfl
      rw [this]
      have hp : (pickL ((told0 sizes).map dInt) (some (-1)) none none).length ≤ 3 := by
        rw [pickL_map, List.length_map]; exact f7
      refine En.bin (Ev.name ok rfl) (En.rd (En.bin (En.rd (en_slice (Ev.name ok rfl) (prt_int (ez_neg Ez.int)) prt_none prt_none (by decide) (by rw [hsl, List.length_map]; omega))) Ez.int (bin_lmul (by decide) (by decide) ?_))) (bin_ladd ?_)
      · refine Nat.le_trans (Nat.mul_le_mul_right _ hp) ?_
        exact Nat.le_of_ble_eq_true rfl
      · have e4 : (4 : Int).toNat = 4 := rfl
        rw [e4, List.length_map, hsl]
        generalize pickL ((told0 sizes).map dInt) (some (-1)) none none = q at hp ⊢
        have : (List.replicate 4 q).flatten = q ++ (q ++ (q ++ (q ++ []))) := rfl
        rw [this]
        simp only [List.length_append, List.length_nil]
        omega
  · refine Ex.nil ⟨?_, by rw [hz]; rfl⟩
    show _ = _
    rw [show told1 sizes = told0 sizes by unfold told1; rw [hz]; rfl]
    rfl
  intro o ρ hΦ
  cases o with
  | brk => cases hΦ
  | cont => cases hΦ
  | ret P => exact hΦ
  | next =>
    obtain ⟨hT, hn⟩ := hΦ
    refine Ex.freeze hT (Ex.seq (Ex.assign ok (.inl rfl) Ez.int (Ex.seq (Ex.assignN ok (.inl rfl) (lstD (Ps := []) .nil (Nat.zero_le _)) (Ex.seq (Ex.for (R := .frz (dList ((told1 sizes).map dInt))) (Ps := (told1 sizes).map dInt) ok (.inl rfl) (Ev.name ok rfl) (itr_list hh)
      (fun i ρ => ρ "left" = some (.frz (dInt (((told1 sizes).take i).foldl cutStep (4, [])).1)) ∧ ρ "behind" = some (.lst ((((told1 sizes).take i).foldl cutStep (4, [])).2.map dInt))) ⟨rfl, rfl⟩ ?_ ?_))))))
    · intro i P ρ hP ⟨h1, h2⟩
      rw [List.getElem?_map] at hP
      obtain ⟨s, hs, rfl⟩ := Option.map_eq_some_iff.mp hP
      have hnext : ((told1 sizes).take (i + 1)).foldl cutStep (4, []) = cutStep (((told1 sizes).take i).foldl cutStep (4, [])) s := by
        rw [List.take_add_one, hs, List.foldl_append]; rfl
      have inv := cut_inv ((told1 sizes).take i) (4, []) (fun x hx => f6 x (List.mem_of_mem_take hx)) (by decide) (by decide) rfl
      have hs0 := f6 s (List.mem_of_getElem? hs)
      generalize ((told1 sizes).take i).foldl cutStep (4, []) = p at h1 h2 hnext inv ⊢
      show Ex _ _ _ (Turn (fun ρ => ρ "left" = some (.frz (dInt (((told1 sizes).take (i + 1)).foldl cutStep (4, [])).1)) ∧ ρ "behind" = some (.lst ((((told1 sizes).take (i + 1)).foldl cutStep (4, [])).2.map dInt))) _)
      rw [hnext]
      refine Ex.seq (Ex.assign ok (.inl rfl) (blt ok B.gl (B.no rfl) rfl (.two Ez.int (Ev.bin (Ev.name ok (by passes_own)) (Ev.name ok (by passes_own)) bin_sub)) (bfn_max hh)) ?_)
      refine Ex.seq (ex_extend ok (x := "behind") (Ps := p.2.map dInt) (by passes_own) (tyc ok B.gl (B.no rfl) rfl (.two (Ev.name ok (by passes_own)) (Ev.name ok (by passes_own))) bfn_range2) ?_ ?_ ?_ ?_ ?_ ?_ ?_ rfl rfl rfl rfl rfl rfl)
      · omega
      · omega
      · omega
      · omega
      · omega
      · rw [List.length_map]; omega
      refine Ex.assign ok (.inl rfl) (Ev.name ok (by passes_own)) ⟨by passes_own, ?_⟩
      rw [upd_ne _ _ (by decide), upd_self, ← List.map_append]
      rfl
    · rintro ρ ⟨h1, h2⟩
      rw [List.length_map, List.take_length] at h1 h2
      have inv := cut_inv (told1 sizes) (4, []) f6 (by decide) (by decide) rfl
      have hc : cutF sizes = upto 0 ((told1 sizes).foldl cutStep (4, [])).1 ++ ((told1 sizes).foldl cutStep (4, [])).2 := by
        unfold cutF; rw [hn]; rfl
      refine Ex.ret (En.list (Ps := ((cutF sizes).map dInt)) ?_) rfl
      rw [hc, List.map_append]
      generalize (told1 sizes).foldl cutStep (4, []) = p at h1 h2 inv ⊢
      refine En.bin (En.rd (tycN ok B.gl (B.no rfl) rfl (.one (tyc ok B.gl (B.no rfl) rfl (.one (Ev.name ok h1)) bfn_range1)) (bfnN_list_rng hh (by omega) (by omega)))) (Ev.name ok h2) (bin_ladd ?_)
      rw [List.length_map, List.length_map, hsl]
      have : (upto 0 p.1).length = p.1.toNat := by simp [upto]
      omega
end
end Mine
end
/-! part B4 -/
section
open PySem PySem.Calls PySem.Spec PyProof.Rows PySem.W PySem.SeqAt
set_option Elab.async false
set_option linter.unusedVariables false
set_option maxRecDepth 100000
namespace Mine

/-- a row of places -/
noncomputable def IsPm (m : List Int) : Prop := m.length = 4 ∧ ∀ x ∈ m, 0 ≤ x ∧ x < 4
theorem IsPm.at {m : List Int} (h : IsPm m) {i : Int} (h0 : 0 ≤ i) (h1 : i < 4) : 0 ≤ m.getD i.toNat 0 ∧ m.getD i.toNat 0 < 4 := by
  have hl : i.toNat < m.length := by rw [h.1]; omega
  have : m.getD i.toNat 0 = m[i.toNat] := by simp [List.getD_eq_getElem?_getD, List.getElem?_eq_getElem hl]
  rw [this]
  exact h.2 _ (List.getElem_mem hl)
noncomputable def after (move way : List Int) : List Int := way.map fun x => move.getD x.toNat 0
theorem IsPm.after {m v : List Int} (h : IsPm m) (hv : IsPm v) : IsPm (after m v) := ⟨by unfold Mine.after; rw [List.length_map]; exact hv.1, fun x hx => by
  obtain ⟨y, hy, rfl⟩ := List.mem_map.mp hx
  exact h.at (hv.2 y hy).1 (hv.2 y hy).2⟩
noncomputable def dL (l : List Int) : DP := dList (l.map dInt)
theorem deq_L : DEq 1 dL := deq_list (deq_int 0)

noncomputable abbrev Ways := List (Int × List Int)
noncomputable def wStep (point : Int) (way : List Int) (ws : Ways) (move : List Int) : Ways :=
  let goal := move.getD (way.getD point.toNat 0).toNat 0
  if ws.any (fun kv => kv.1 = goal) then ws else ws ++ [(goal, after move way)]
noncomputable def waysGo (point : Int) (moves : List (List Int)) : Nat → Ways → Nat → Ways
  | 0, ws, _ => ws
  | n + 1, ws, d => match ws[d]? with
    | some kv => waysGo point moves n (moves.foldl (wStep point kv.2) ws) (d + 1)
    | none => ws
noncomputable def waysF (point : Int) (moves : List (List Int)) : Ways := waysGo point moves 5 [(point, [0, 1, 2, 3])] 0

structure GoodW (ws : Ways) : Prop where
  key : ∀ kv ∈ ws, 0 ≤ kv.1 ∧ kv.1 < 4
  val : ∀ kv ∈ ws, IsPm kv.2
  nodup : (ws.map (·.1)).Nodup
theorem nodup_sub {α : Type} [BEq α] [LawfulBEq α] : ∀ (l r : List α), l.Nodup → l ⊆ r → l.length ≤ r.length
  | [], r, _, _ => Nat.zero_le _
  | x :: t, r, h, hs => by
    rw [List.nodup_cons] at h
    have hx : x ∈ r := hs List.mem_cons_self
    have := nodup_sub t (r.erase x) h.2 fun y hy => (List.mem_erase_of_ne (by rintro rfl; exact h.1 hy)).mpr (hs (List.mem_cons_of_mem _ hy))
    rw [List.length_erase_of_mem hx] at this
    have : 0 < r.length := List.length_pos_of_mem hx
    rw [List.length_cons]
    omega
theorem nodup_le4 (l : List Int) (h : l.Nodup) (hb : ∀ x ∈ l, 0 ≤ x ∧ x < 4) : l.length ≤ 4 :=
  nodup_sub l [0, 1, 2, 3] h fun x hx => by
    have := hb x hx
    simp; omega
theorem GoodW.len {ws : Ways} (h : GoodW ws) : ws.length ≤ 4 := by
  have := nodup_le4 _ h.nodup fun x hx => by
    obtain ⟨kv, hk, rfl⟩ := List.mem_map.mp hx
    exact h.key kv hk
  simpa using this
theorem GoodW.step {ws : Ways} (h : GoodW ws) {point : Int} {way move : List Int} (hp : 0 ≤ point ∧ point < 4) (hw : IsPm way) (hm : IsPm move) : GoodW (wStep point way ws move) := by
  unfold wStep
  dsimp only
  split
  · exact h
  · rename_i hc
    have hg := hm.at (hw.at hp.1 hp.2).1 (hw.at hp.1 hp.2).2
    refine ⟨fun kv hk => ?_, fun kv hk => ?_, ?_⟩
    · rcases List.mem_append.mp hk with hk | hk
      · exact h.key kv hk
      · rw [List.mem_singleton.mp hk]; exact hg
    · rcases List.mem_append.mp hk with hk | hk
      · exact h.val kv hk
      · rw [List.mem_singleton.mp hk]; exact hm.after hw
    · rw [List.map_append]
      refine List.nodup_append.mpr ⟨h.nodup, by simp, fun x hx y hy => ?_⟩
      obtain ⟨kv, hk, rfl⟩ := List.mem_map.mp hx
      simp only [List.map_cons, List.map_nil, List.mem_singleton] at hy
      subst hy
      intro e
      exact hc (List.any_eq_true.mpr ⟨kv, hk, decide_eq_true e⟩)
theorem GoodW.fold {point : Int} {way : List Int} (hp : 0 ≤ point ∧ point < 4) (hw : IsPm way) : ∀ (moves : List (List Int)) {ws : Ways}, GoodW ws → (∀ m ∈ moves, IsPm m) → GoodW (moves.foldl (wStep point way) ws)
  | [], _, h, _ => h
  | m :: r, _, h, hm => by
    rw [List.foldl_cons]
    exact GoodW.fold hp hw r (h.step hp hw (hm m List.mem_cons_self)) fun x hx => hm x (List.mem_cons_of_mem _ hx)
theorem nodup_look {β : Type} : ∀ (ws : List (Int × β)), (ws.map (·.1)).Nodup → ∀ {i : Nat} {kv : Int × β}, ws[i]? = some kv → lookK ws kv.1 = some kv.2
  | [], _, i, kv, h => by simp at h
  | (k, v) :: r, hn, 0, kv, h => by cases h; simp [lookK]
  | (k, v) :: r, hn, i + 1, kv, h => by
    rw [List.map_cons, List.nodup_cons] at hn
    have h' : r[i]? = some kv := h
    have ih := nodup_look r hn.2 h'
    have hne : ¬ k = kv.1 := fun e => hn.1 (e ▸ List.mem_map_of_mem (f := (·.1)) (List.mem_of_getElem? h'))
    unfold lookK at ih ⊢
    rw [List.find?_cons]
    simp only [hne, decide_false]
    exact ih
theorem waysGo_good {point : Int} (hp : 0 ≤ point ∧ point < 4) {moves : List (List Int)} (hm : ∀ m ∈ moves, IsPm m) : ∀ (n : Nat) (ws : Ways) (d : Nat), GoodW ws → GoodW (waysGo point moves n ws d)
  | 0, ws, _, h => h
  | n + 1, ws, d, h => by
    unfold waysGo
    split
    · rename_i kv hk
      exact waysGo_good hp hm n _ _ (GoodW.fold hp (h.val kv (List.mem_of_getElem? hk)) moves h hm)
    · exact h
theorem good_start {point : Int} (hp : 0 ≤ point ∧ point < 4) : GoodW [(point, [0, 1, 2, 3])] :=
  ⟨fun kv hk => by rw [List.mem_singleton.mp hk]; exact hp, fun kv hk => by rw [List.mem_singleton.mp hk]; exact ⟨rfl, show ∀ x ∈ [(0 : Int), 1, 2, 3], 0 ≤ x ∧ x < 4 by decide⟩, by simp⟩
theorem waysF_good {point : Int} (hp : 0 ≤ point ∧ point < 4) {moves : List (List Int)} (hm : ∀ m ∈ moves, IsPm m) : GoodW (waysF point moves) := waysGo_good hp hm _ _ _ (good_start hp)

theorem putK_new {κ β : Type} [DecidableEq κ] (f : β → DP) (kvs : List (κ × β)) (k : κ) (v : β) (h : (kvs.any fun kv => decide (kv.1 = k)) = false) : putK (mapD f kvs) k (f v) = mapD f (kvs ++ [(k, v)]) := by
  unfold putK
  rw [any_mapD, h]
  show mapD f kvs ++ _ = _
  unfold mapD; rw [List.map_append]; rfl

section
variable {prog : Program} {w : World} {g : Heap} {mg mb : Str → Option Value}
theorem spec_ways (B : Base w g mg mb) (n : Nat) (point : Int) (moves : List (List Int)) (hp : 0 ≤ point ∧ point < 4) (hm : ∀ m ∈ moves, IsPm m) : Spec prog w g (n + 1) (aOf w.params "_law_ways") [dInt point, dList (moves.map dL)] (dDict (intKind prog w) (mapD dL (waysF point moves))) := by
  have hsl : sizeLine = 16777216 := sizeLine_eq
  refine Spec.enter (xs := ["point", "moves"]) B.gl B.mods (B.K _ _ rfl) rfl ⟨⟨_, _, _, _, rfl, B.K _ _ rfl, rfl, rfl⟩, rfl, bind2 rfl fun _ _ => rfl, rfl, rfl, rfl, by decide, by decide, by decide, rfl, rfl, rfl⟩ rfl fun F hF => ?_
  obtain ⟨env, A, g', mine⟩ := F
  obtain ⟨-, rfl, rfl, ⟨L, f, rfl⟩, ok⟩ := hF
  have hh := ok.rm.hh
  refine Ex.seq (Ex.assignN (R := .idc (mapD dL [(point, [0, 1, 2, 3])])) ok (.inl rfl) (en_dict1i ok (Ev.name ok rfl) (En.list (lstD (Ps := [dInt 0, dInt 1, dInt 2, dInt 3]) (.cons Ez.int (.cons Ez.int (.two Ez.int Ez.int))) (by rw [hsl]; exact Nat.le_of_ble_eq_true rfl)))) ?_)
  refine Ex.seq (Ex.assignN (R := .lst ([point].map dInt)) ok (.inl rfl) (lstD (Ps := [dInt point]) (.one (Ev.name ok rfl)) (by rw [hsl]; exact Nat.le_of_ble_eq_true rfl)) ?_)
  refine Ex.seq (Ex.assign ok (.inl rfl) Ez.int ?_)
  refine Ex.seq (Ex.while (fun m ρ => ∃ (ws : Ways) (d : Nat), GoodW ws ∧ d ≤ ws.length ∧ m = 5 - d ∧ ρ "ways" = some (.idc (mapD dL ws)) ∧ ρ "line" = some (.lst ((ws.map (·.1)).map dInt)) ∧ ρ "done" = some (.frz (dInt d)) ∧
    ρ "point" = some (.frz (dInt point)) ∧ ρ "moves" = some (.frz (dList (moves.map dL))) ∧ waysGo point moves (5 - d) ws d = waysF point moves) 5 ⟨[(point, [0, 1, 2, 3])], 0, good_start hp, Nat.zero_le _, rfl, rfl, rfl, rfl, rfl, rfl, rfl⟩ ?_)
  rintro m ρ ⟨ws, d, hg, hd, rfl, h1, h2, h3, h4, h5, hgo⟩
  have hlen := hg.len
  refine ⟨_, Eb.cmp (Ev.name ok h3) (blt ok B.gl (B.no rfl) rfl (.one (Ev.name ok h2)) (bfn_len_lst (by rw [List.length_map, List.length_map, hsl]; omega))) cmp_lt, fun hb => ?_, fun hb => ?_⟩
  · have hb := of_decide_eq_false hb
    rw [List.length_map, List.length_map] at hb
    have hdl : d = ws.length := by omega
    have : waysF point moves = ws := by
      rw [← hgo]
      cases h6 : 5 - d with
      | zero => rfl
      | succ k => unfold waysGo; rw [List.getElem?_eq_none (by omega)]
    rw [this]
    exact Ex.freeze h1 (Ex.ret (Ev.name ok (upd_self _ _ _)) rfl)
  · have hb := of_decide_eq_true hb
    rw [List.length_map, List.length_map] at hb
    have hdl : d < ws.length := by omega
    have hk : ws[d]? = some ws[d] := List.getElem?_eq_getElem hdl
    have hway := hg.val _ (List.getElem_mem hdl)
    have hgo' : waysGo point moves (5 - (d + 1)) (moves.foldl (wStep point ws[d].2) ws) (d + 1) = waysF point moves := by
      rw [← hgo, show 5 - d = 5 - (d + 1) + 1 by omega]
      conv => rhs; unfold waysGo
      rw [hk]
    have hl := nodup_look ws hg.nodup hk
    refine Ex.seq (Ex.assign ok (.inl rfl) (P := dL ws[d].2) (Ev.sub (Ev.name ok h1) (Ev.sub (Ev.name ok h2) (Ev.name ok h3) (sub_ints (by omega) (by rw [List.length_map]; omega) (by rw [List.length_map]; omega))) (sub_dict (key := ws[d].1) rdD_idc ?_ ?_)) ?_)
    · have e : (ws.map (·.1)).getD (d : Int).toNat 0 = ws[d].1 := by simp [List.getD_eq_getElem?_getD, hdl]
      rw [e]; exact key_int
    · have := lookK_map dL ws[d].1 ws
      rw [hl] at this
      exact this
    refine Ex.seq (Ex.aug ok (.inl rfl) (R := .frz (dInt d)) (by passes_own) Ez.int bin_iadd ?_)
    refine Ex.for (R := .frz (dList (moves.map dL))) (Ps := moves.map dL) ok (.inr (mem_cellNames rfl)) (Ev.name ok (by passes_own)) (itr_list hh)
      (fun i ρ => ρ "ways" = some (.idc (mapD dL ((moves.take i).foldl (wStep point ws[d].2) ws))) ∧ ρ "line" = some (.lst ((((moves.take i).foldl (wStep point ws[d].2) ws).map (·.1)).map dInt)) ∧ ρ "done" = some (.frz (dInt ((d + 1 : Nat) : Int))) ∧
        ρ "way" = some (.frz (dL ws[d].2)) ∧ ρ "point" = some (.frz (dInt point)) ∧ ρ "moves" = some (.frz (dList (moves.map dL)))) ⟨by passes_own, by passes_own, by rw [upd_self]; rfl, by passes_own, by passes_own, by passes_own⟩ ?_ ?_
    · rintro i P ρ' hP ⟨k1, k2, k3, k4, k5, k6⟩
      rw [List.getElem?_map] at hP
      obtain ⟨move, hmv, rfl⟩ := Option.map_eq_some_iff.mp hP
      have hpm := hm move (List.mem_of_getElem? hmv)
      have hnext : (moves.take (i + 1)).foldl (wStep point ws[d].2) ws = wStep point ws[d].2 ((moves.take i).foldl (wStep point ws[d].2) ws) move := by
        rw [List.take_add_one, hmv, List.foldl_append]; rfl
      have hgi := GoodW.fold hp hway (moves.take i) hg fun x hx => hm x (List.mem_of_mem_take hx)
      simp only [hnext]
      generalize (moves.take i).foldl (wStep point ws[d].2) ws = us at k1 k2 hgi ⊢
      generalize ws[d].2 = way at k4 hway ⊢
      have hw1 := hway.at hp.1 hp.2
      have hgoal := hpm.at hw1.1 hw1.2
      have hul := hgi.len
      refine Ex.seq (Ex.assign ok (.inl rfl) (Ev.sub (Ev.lst (Ev.name ok (upd_self _ _ _))) (Ev.sub (Ev.lst (Ev.name ok (by passes_own))) (Ev.name ok (by passes_own)) (sub_ints (l := way) hp.1 (by rw [hway.1]; exact hp.2) (by rw [hway.1]; decide))) (sub_ints (l := move) hw1.1 (by rw [hpm.1]; exact hw1.2) (by rw [hpm.1]; decide))) ?_)
      refine Ex.ifc (Eb.cmp (Ev.name ok (upd_self _ _ _)) (Rr := .idc (mapD dL us)) (Ev.name ok (by passes_own)) (cmp_dnotin rdD_idc key_int)) (fun hc => ?_) (fun hc => ?_)
      · rw [any_mapD, Bool.not_eq_true'] at hc
        have hst : wStep point way us move = us ++ [(move.getD (way.getD point.toNat 0).toNat 0, after move way)] := by
          unfold wStep; dsimp only; rw [hc]; rfl
        rw [hst]
        refine Ex.seq (ex_put ownD_i ok (x := "ways") (kvs := mapD dL us) (P := dL (after move way)) (by passes_own) ?_ (Ev.name ok (upd_self _ _ _)) key_int (by rw [mapD_len]; omega) ?_)
        · have e : dL (after move way) = dList ((way.filter fun _ => true).map fun x => dInt (move.getD x.toNat 0)) := by
            rw [filter_tt]; unfold dL after; rw [List.map_map]; rfl
          rw [e]
          refine En.list (En.comp ok (compL1 way dInt (fun x => dInt (move.getD x.toNat 0)) (fun _ => true) ok (Ev.name ok (R := .frz (dL way)) (by passes_own)) (itr_list hh)
            (sc_ok ["move"] rfl (by decide) (by decide) (by decide) (all_cons ⟨⟨_, by passes_own⟩, fun h => nomatch h⟩ all_nil)) (.inl rfl) (fun F' C ok' x hx => ⟨.nil, fun _ => ?_⟩) ?_) rfl)
          · exact Ev.sub (Ev.lst (Ev.name ok' ((upd_ne _ _ (by decide)).trans (seen_of rfl (by passes_own))))) (Ev.name ok' (upd_self _ _ _)) (sub_ints (l := move) (hway.2 x hx).1 (by rw [hpm.1]; exact (hway.2 x hx).2) (by rw [hpm.1]; decide))
          · rw [hway.1, hsl]; decide
        · rw [putK_new _ _ _ _ hc]
          refine ex_append ok (x := "line") (Ps := (us.map (·.1)).map dInt) (by passes_own) (Ev.name ok (by passes_own)) (by rw [List.length_map, List.length_map]; omega) ?_ rfl rfl rfl rfl rfl rfl
          refine ⟨by passes_own, ?_, by passes_own, by passes_own, by passes_own, by passes_own⟩
          rw [upd_self, List.map_append, List.map_append]; rfl
      · rw [any_mapD, Bool.not_eq_false'] at hc
        have hst : wStep point way us move = us := by
          unfold wStep; dsimp only; rw [hc]; rfl
        rw [hst]
        exact Ex.nil ⟨by passes_own, by passes_own, by passes_own, by passes_own, by passes_own, by passes_own⟩
    · rintro ρ' ⟨k1, k2, k3, k4, k5, k6⟩
      rw [List.length_map, List.take_length] at k1 k2
      refine ⟨5 - (d + 1), by omega, _, d + 1, GoodW.fold hp hway moves hg hm, ?_, rfl, k1, k2, k3, k5, k6, hgo'⟩
      have mono : ∀ (l : List (List Int)) (us : Ways), us.length ≤ (l.foldl (wStep point ws[d].2) us).length := by
        intro l
        induction l with
        | nil => intro us; exact Nat.le_refl _
        | cons m r ih =>
          intro us
          rw [List.foldl_cons]
          refine Nat.le_trans ?_ (ih _)
          unfold wStep; dsimp only
          split
          · exact Nat.le_refl _
          · rw [List.length_append]; omega
      exact Nat.le_trans hdl (mono moves ws)
end
end Mine
end
/-! part B5 -/
section
open PySem PySem.Calls PySem.Spec PyProof.Rows PySem.W PySem.SeqAt
set_option Elab.async false
set_option linter.unusedVariables false
set_option maxRecDepth 100000
namespace Mine

noncomputable def pmB (m : List Int) : Bool := m.length == 4 && m.all fun x => decide (0 ≤ x) && decide (x < 4)
theorem pm_of {m : List Int} (h : pmB m = true) : IsPm m := by
  unfold pmB at h
  rw [Bool.and_eq_true, beq_iff_eq, List.all_eq_true] at h
  exact ⟨h.1, fun x hx => by have := h.2 x hx; simp at this; exact this⟩
noncomputable def dW {prog : Program} {w : World} (ws : Ways) : DP := dDict (intKind prog w) (mapD dL ws)
noncomputable def wayAt (ws : Ways) (k : Int) : List Int := (lookK ws k).getD []
noncomputable def ringOf (ws : Ways) (spot : Int) (m : List Int) : List Int := (wayAt ws spot).map fun x => ((wayAt ws (m.getD spot.toNat 0)).findIdx fun y => decide (y = m.getD x.toNat 0) : Nat)
noncomputable def kStep (ws : Ways) (spot : Int) (acc : List (List Int)) (m : List Int) : List (List Int) := if (!decide (ringOf ws spot m = [0, 1, 2, 3]) && !decide (ringOf ws spot m ∈ acc)) then acc ++ [ringOf ws spot m] else acc
noncomputable def keptOf (ws : Ways) (ms : List (List Int)) : List (List Int) := ws.foldl (fun acc kv => ms.foldl (kStep ws kv.1) acc) []
noncomputable def okStage (point : Int) (ms : List (List Int)) : Bool := ms.all pmB && decide (ms.length ≤ 60) && (waysF point ms).all fun kv => ms.all fun m =>
  (lookK (waysF point ms) (m.getD kv.1.toNat 0)).isSome && kv.2.all fun x => (wayAt (waysF point ms) (m.getD kv.1.toNat 0)).any fun y => decide (y = m.getD x.toNat 0)
noncomputable def stage (point : Int) (ms : List (List Int)) : List (List Int) := keptOf (waysF point ms) ms
noncomputable def chainF (ms : List (List Int)) : List Ways := [waysF 0 ms, waysF 1 (stage 0 ms), waysF 2 (stage 1 (stage 0 ms))]
noncomputable def okChain (ms : List (List Int)) : Bool := okStage 0 ms && okStage 1 (stage 0 ms) && okStage 2 (stage 1 (stage 0 ms))
theorem kp_int {prog : Program} {w : World} (K : Kn) (k : Int) (v : Value) (h : (intKind prog w).is k v = true) : (dInt k).p K v := Value.isInt_shape h

noncomputable def msAt (ms : List (List Int)) : Nat → List (List Int)
  | 0 => ms
  | 1 => stage 0 ms
  | 2 => stage 1 (stage 0 ms)
  | n + 3 => stage 2 (stage 1 (stage 0 ms))
theorem ok_at {ms : List (List Int)} (h : okChain ms = true) {i : Nat} (hi : i < 3) : okStage (i : Int) (msAt ms i) = true := by
  unfold okChain at h
  simp only [Bool.and_eq_true] at h
  match i, hi with
  | 0, _ => exact h.1.1
  | 1, _ => exact h.1.2
  | 2, _ => exact h.2
theorem msAt_succ (ms : List (List Int)) {i : Nat} (hi : i < 3) : msAt ms (i + 1) = stage (i : Int) (msAt ms i) := by
  match i, hi with
  | 0, _ => rfl
  | 1, _ => rfl
  | 2, _ => rfl
theorem chain_at (ms : List (List Int)) {i : Nat} (hi : i < 3) : (chainF ms)[i]? = some (waysF (i : Int) (msAt ms i)) := by
  match i, hi with
  | 0, _ => rfl
  | 1, _ => rfl
  | 2, _ => rfl

section
variable {prog : Program} {w : World} {g : Heap} {mg mb : Str → Option Value}
theorem spec_chain (B : Base w g mg mb) (n : Nat) (ms : List (List Int)) (hok : okChain ms = true) : Spec prog w g (n + 2) (aOf w.params "_law_chain") [dList (ms.map dL)] (dList ((chainF ms).map (dW (prog := prog) (w := w)))) := by
  have hsl : sizeLine = 16777216 := sizeLine_eq
  refine Spec.enter (xs := ["moves"]) B.gl B.mods (B.K _ _ rfl) rfl ⟨⟨_, _, _, _, rfl, B.K _ _ rfl, rfl, rfl⟩, rfl, bind1 rfl fun _ => rfl, rfl, rfl, rfl, by decide, by decide, by decide, rfl, rfl, rfl⟩ rfl fun F hF => ?_
  obtain ⟨env, A, g', mine⟩ := F
  obtain ⟨-, rfl, rfl, ⟨L, f, rfl⟩, ok⟩ := hF
  have hh := ok.rm.hh
  refine Ex.seq (Ex.assignN ok (.inl rfl) (lstD (Ps := []) .nil (Nat.zero_le _)) ?_)
  refine Ex.seq (Ex.for (Ps := (upto 0 3).map dInt) ok (.inl rfl) (tyc ok B.gl (B.no rfl) rfl (.one Ez.int) bfn_range1) (itr_rng hh (by decide) (by decide) (by decide) (by decide))
    (fun i ρ => ρ "moves" = some (.frz (dList ((msAt ms i).map dL))) ∧ ρ "chain" = some (.lst (((chainF ms).take i).map (dW (prog := prog) (w := w))))) ⟨rfl, rfl⟩ ?_ ?_)
  · rintro i P ρ hP ⟨h1, h2⟩
    have hi : i < 3 := by
      have := (List.getElem?_eq_some_iff.mp hP).1
      exact this
    have hPi : P = dInt (i : Int) := by
      match i, hi with
      | 0, _ => cases hP; rfl
      | 1, _ => cases hP; rfl
      | 2, _ => cases hP; rfl
    subst hPi
    have hst := ok_at hok hi
    rw [show ((chainF ms).take (i + 1)) = (chainF ms).take i ++ [waysF (i : Int) (msAt ms i)] by rw [List.take_add_one, chain_at ms hi]; rfl, msAt_succ ms hi]
    generalize msAt ms i = us at h1 hst ⊢
    unfold okStage at hst
    rw [Bool.and_eq_true, Bool.and_eq_true, List.all_eq_true, decide_eq_true_eq, List.all_eq_true] at hst
    obtain ⟨⟨g1, g2⟩, g3⟩ := hst
    have hpm : ∀ m ∈ us, IsPm m := fun m hm => pm_of (g1 m hm)
    have hgood := waysF_good (point := (i : Int)) ⟨by omega, by omega⟩ hpm
    unfold stage
    have hcl : ((chainF ms).take i).length ≤ 3 := by rw [List.length_take]; omega
    refine Ex.seq (Ex.assign ok (.inl rfl) (P := dW (prog := prog) (w := w) (waysF i us)) (own ok B.gl (B.at rfl) (B.K _ _ rfl) rfl (.two (Ev.name ok (upd_self _ _ _)) (Ev.name ok (by passes_own))) (spec_ways B n (i : Int) us ⟨by omega, by omega⟩ hpm)) ?_)
    generalize waysF (i : Int) us = ws at g3 hgood ⊢
    refine Ex.seq (ex_append ok (x := "chain") (Ps := ((chainF ms).take i).map (dW (prog := prog) (w := w))) (by passes_own) (Ev.name ok (upd_self _ _ _)) (by rw [List.length_map]; omega) ?_ rfl rfl rfl rfl rfl rfl)
    refine Ex.seq (Ex.assignN ok (.inl rfl) (lstD (Ps := []) .nil (Nat.zero_le _)) ?_)
    have fold_len : ∀ (l : List (List Int)) (spot : Int) (acc : List (List Int)), (l.foldl (kStep ws spot) acc).length ≤ acc.length + l.length := fun l spot acc => foldl_len (kStep ws spot) (fun acc x => by
      unfold kStep; split
      · rw [List.length_append]; exact Nat.le_refl _
      · omega) l acc
    have fold_len2 : ∀ (l : Ways) (acc : List (List Int)), (l.foldl (fun acc kv => us.foldl (kStep ws kv.1) acc) acc).length ≤ acc.length + l.length * us.length := by
      intro l
      induction l with
      | nil => intro acc; simp
      | cons kv r ih =>
        intro acc
        have h1 := ih (us.foldl (kStep ws kv.1) acc)
        have h2 := fold_len us kv.1 acc
        rw [List.foldl_cons, List.length_cons, Nat.succ_mul]
        omega
    have hws4 := hgood.len
    have outer : ∀ j, ((ws.take j).foldl (fun acc kv => us.foldl (kStep ws kv.1) acc) []).length ≤ 240 := fun j => by
      have h1 := fold_len2 (ws.take j) []
      have h2 : (ws.take j).length ≤ 4 := by rw [List.length_take]; omega
      have h3 : (ws.take j).length * us.length ≤ 4 * 60 := Nat.mul_le_mul h2 g2
      simp only [List.length_nil] at h1
      omega
    refine Ex.seq (Ex.for (R := .frz (dW (prog := prog) (w := w) ws)) (Ps := (mapD dL ws).map fun kv => dInt kv.1) ok (.inl rfl) (Ev.name ok (by passes_own)) (itr_keys hh dInt kp_int)
      (fun j ρ => ρ "moves" = some (.frz (dList (us.map dL))) ∧ ρ "chain" = some (.lst (((chainF ms).take i).map (dW (prog := prog) (w := w)) ++ [dW (prog := prog) (w := w) ws])) ∧ ρ "ways" = some (.frz (dW (prog := prog) (w := w) ws)) ∧
        ρ "kept" = some (.lst (((ws.take j).foldl (fun acc kv => us.foldl (kStep ws kv.1) acc) []).map dL))) ⟨by passes_own, by rw [upd_ne _ _ (by decide), upd_self], by passes_own, by passes_own⟩ ?_ ?_)
    · rintro j P ρ' hP ⟨k1, k2, k3, k4⟩
      have hP' : (ws.map fun kv => dInt kv.1)[j]? = some P := by simpa [mapD] using hP
      rw [List.getElem?_map] at hP'
      obtain ⟨kv, hkv, rfl⟩ := Option.map_eq_some_iff.mp hP'
      have hnext : (ws.take (j + 1)).foldl (fun acc kv => us.foldl (kStep ws kv.1) acc) [] = us.foldl (kStep ws kv.1) ((ws.take j).foldl (fun acc kv => us.foldl (kStep ws kv.1) acc) []) := by
        rw [List.take_add_one, hkv, List.foldl_append]; rfl
      simp only [hnext]
      have hol := outer j
      generalize (ws.take j).foldl (fun acc kv => us.foldl (kStep ws kv.1) acc) [] = acc0 at k4 hol ⊢
      have hkm := List.mem_of_getElem? hkv
      have hk0 := hgood.key kv hkm
      have hkl := nodup_look ws hgood.nodup hkv
      have hkp := hgood.val kv hkm
      have g3' := g3 kv hkm
      rw [List.all_eq_true] at g3'
      refine Ex.for (R := .frz (dList (us.map dL))) (Ps := us.map dL) ok (.inr (mem_cellNames rfl)) (Ev.name ok (by passes_own)) (itr_list hh)
        (fun l ρ => ρ "moves" = some (.frz (dList (us.map dL))) ∧ ρ "chain" = some (.lst (((chainF ms).take i).map (dW (prog := prog) (w := w)) ++ [dW (prog := prog) (w := w) ws])) ∧ ρ "ways" = some (.frz (dW (prog := prog) (w := w) ws)) ∧
          ρ "spot" = some (.frz (dInt kv.1)) ∧ ρ "kept" = some (.lst (((us.take l).foldl (kStep ws kv.1) acc0).map dL))) ⟨by passes_own, by passes_own, by passes_own, by passes_own, by passes_own⟩ ?_ ?_
      · rintro l P ρ'' hP ⟨m1, m2, m3, m4, m5⟩
        rw [List.getElem?_map] at hP
        obtain ⟨m, hm, rfl⟩ := Option.map_eq_some_iff.mp hP
        have hmm := List.mem_of_getElem? hm
        have hmp := hpm m hmm
        have hnext : (us.take (l + 1)).foldl (kStep ws kv.1) acc0 = kStep ws kv.1 ((us.take l).foldl (kStep ws kv.1) acc0) m := by
          rw [List.take_add_one, hm, List.foldl_append]; rfl
        simp only [hnext]
        have hal : ((us.take l).foldl (kStep ws kv.1) acc0).length ≤ 300 := by
          have := fold_len (us.take l) kv.1 acc0
          have : (us.take l).length ≤ us.length := by rw [List.length_take]; omega
          omega
        generalize (us.take l).foldl (kStep ws kv.1) acc0 = acc at m5 hal ⊢
        have hg := g3' m hmm
        rw [Bool.and_eq_true, List.all_eq_true] at hg
        obtain ⟨hs, hx⟩ := hg
        obtain ⟨back, hback⟩ := Option.isSome_iff_exists.mp hs
        have hbk : wayAt ws (m.getD kv.1.toNat 0) = back := by unfold wayAt; rw [hback]; rfl
        have hbp : IsPm back := by
          unfold lookK at hback
          obtain ⟨q, hq, rfl⟩ := Option.map_eq_some_iff.mp hback
          exact hgood.val q (List.mem_of_find?_eq_some hq)
        rw [hbk] at hx
        have hring : ringOf ws kv.1 m = kv.2.map fun x => ((back.findIdx fun y => decide (y = m.getD x.toNat 0) : Nat) : Int) := by
          unfold ringOf; rw [hbk]; unfold wayAt; rw [hkl]; rfl
        refine Ex.seq (Ex.assign ok (.inr (mem_cellNames rfl)) (P := dL back) (Ev.sub (Ra := .frz (dW (prog := prog) (w := w) ws)) (Ev.name ok (by passes_own)) (Ev.sub (Ev.lst (Ev.name ok (upd_self _ _ _))) (Ev.name ok (by passes_own)) (sub_ints (l := m) hk0.1 (by rw [hmp.1]; exact hk0.2) (by rw [hmp.1]; decide))) (sub_dict (key := m.getD kv.1.toNat 0) rdD_frz key_int ?_)) ?_)
        · have := lookK_map dL (m.getD kv.1.toNat 0) ws
          rw [hback] at this
          exact this
        have e : (ringOf ws kv.1 m).map dInt = kv.2.map fun x => dInt ((back.findIdx fun y => decide (y = m.getD x.toNat 0) : Nat) : Int) := by
          rw [hring, List.map_map]; rfl
        refine Ex.seq (ex_lc1 kv.2 dInt (fun x => dInt ((back.findIdx fun y => decide (y = m.getD x.toNat 0) : Nat) : Int)) ok rfl (R := .frz (dL kv.2))
            (Ev.sub (Ra := .frz (dW (prog := prog) (w := w) ws)) (Ev.name ok (by passes_own)) (Ev.name ok (by passes_own)) (sub_dict (key := kv.1) rdD_frz key_int ?_)) (itr_list hh)
            (sc_ok ["back", "move"] rfl (by decide) (by decide) (by decide) (all_cons ⟨⟨_, by passes_own⟩, fun h => nomatch h⟩ (all_cons ⟨⟨_, by passes_own⟩, fun h => nomatch h⟩ all_nil))) (.inl rfl) (fun F' C ok' x hxm => ?_) ?_ ?_)
        · have := lookK_map dL kv.1 ws
          rw [hkl] at this
          exact this
        · refine mth mt_lindex recv_lst (Ev.lst (Ev.name ok' ((upd_ne _ _ (by decide)).trans (seen_of rfl (by passes_own)))))
              (.one (Ev.sub (Ev.lst (Ev.name ok' ((upd_ne _ _ (by decide)).trans (seen_of rfl (by passes_own))))) (Ev.name ok' (upd_self _ _ _)) (sub_ints (l := m) (hkp.2 x hxm).1 (by rw [hmp.1]; exact (hkp.2 x hxm).2) (by rw [hmp.1]; decide))))
              (bfn_lindex (deq_int 0) (Fok.room ok'.rm (by decide)) ?_ (by rw [hbp.1]; decide))
          have hh' := hx x hxm
          rw [List.any_eq_true] at hh'
          exact List.findIdx?_eq_some_iff_findIdx_eq.mpr ⟨List.findIdx_lt_length_of_exists hh', rfl⟩
        · rw [hkp.1]; decide
        · rw [← e]
          refine Ex.freeze (x := "ring") (upd_self _ _ _) ?_
          refine Ex.ifc (Eb.and2 (Eb.cmp (Ev.lst (Ev.name ok (upd_self _ _ _))) (En.rd (lstD (Ps := ([0, 1, 2, 3] : List Int).map dInt) (.cons Ez.int (.cons Ez.int (.two Ez.int Ez.int))) (by rw [hsl]; exact Nat.le_of_ble_eq_true rfl))) (cmp_lne (xs := ringOf ws kv.1 m) (deq_int 0) (Fok.room ok.rm (by decide))))
            (fun _ => Eb.cmp (Rl := .frz (dL (ringOf ws kv.1 m))) (Ev.name ok (upd_self _ _ _)) (Ev.name ok (by passes_own)) (cmp_lnotin (f := dL) (ys := acc) deq_L (Fok.room ok.rm (by decide))))) (fun hc => ?_) (fun hc => ?_)
          · have hk : kStep ws kv.1 acc m = acc ++ [ringOf ws kv.1 m] := by
              unfold kStep; rw [if_pos]; simpa using hc
            rw [hk]
            refine ex_append ok (x := "kept") (Ps := acc.map dL) (P := dL (ringOf ws kv.1 m)) (by passes_own) (Ev.name ok (upd_self _ _ _)) (by rw [List.length_map]; omega) ?_ rfl rfl rfl rfl rfl rfl
            refine ⟨by passes_own, by passes_own, by passes_own, by passes_own, ?_⟩
            rw [upd_self, List.map_append]; rfl
          · have hk : kStep ws kv.1 acc m = acc := by
              unfold kStep; rw [if_neg]; simpa using hc
            rw [hk]
            exact Ex.nil ⟨by passes_own, by passes_own, by passes_own, by passes_own, by passes_own⟩
      · rintro ρ'' ⟨m1, m2, m3, m4, m5⟩
        rw [List.length_map, List.take_length] at m5
        exact ⟨m1, m2, m3, m5⟩
    · rintro ρ' ⟨k1, k2, k3, k4⟩
      have e : ((mapD dL ws).map fun kv => dInt kv.1).length = ws.length := by simp [mapD]
      rw [e, List.take_length] at k4
      refine Ex.freeze k4 (Ex.assign ok (.inl rfl) (Ev.name ok (upd_self _ _ _)) ⟨by passes_own, ?_⟩)
      rw [upd_ne _ _ (by decide), upd_ne _ _ (by decide), k2, List.map_append]; rfl
  · rintro ρ ⟨h1, h2⟩
    have e : ((chainF ms).take ((upto 0 3).map dInt).length) = chainF ms := rfl
    rw [e] at h2
    exact Ex.freeze h2 (Ex.ret (Ev.name ok (upd_self _ _ _)) rfl)
end
end Mine
end
/-! part B6 -/
section
open PySem PySem.Calls PySem.Spec PyProof.Rows PySem.W PySem.SeqAt
set_option Elab.async false
set_option linter.unusedVariables false
set_option maxRecDepth 100000
namespace Mine

noncomputable def cp (i : Nat) : Nat := match i with
  | 0 => 97 | 1 => 65 | 2 => 98 | _ => 66
theorem ltr_cp (i : Nat) : ltr i = ⟨#[cp i]⟩ := by
  match i with
  | 0 => decide +kernel
  | 1 => decide +kernel
  | 2 => decide +kernel
  | n + 3 =>
    show ltr 3 = ⟨#[cp 3]⟩
    decide +kernel
/-- a row of cards -/
noncomputable def rowS (cs : List Nat) : Str := ⟨(cs.map cp).toArray⟩
theorem rowS_len (cs : List Nat) : (rowS cs).length = cs.length := by simp [rowS, Str.length]
theorem item_row {cs : List Nat} {i : Int} (h0 : 0 ≤ i) (h1 : i < cs.length) : Txt.item (rowS cs) i = ltr (cs.getD i.toNat 0) := by
  rw [ltr_cp]
  unfold Txt.item Txt.charAt
  rw [rowS_len, seqIndex_of h0 h1]
  have hl : i.toNat < cs.length := by omega
  simp [rowS, List.getElem?_eq_getElem hl, List.getD_eq_getElem?_getD]
theorem join_row4 (a b c d : Nat) : Txt.join "" [ltr a, ltr b, ltr c, ltr d] = rowS [a, b, c, d] := by
  rw [ltr_cp, ltr_cp, ltr_cp, ltr_cp]
  rfl
theorem join_ok4 (l : List Nat) (h : l.length ≤ 1000) : JoinOk "" (l.map ltr) = true := by
  unfold JoinOk
  rw [StrLaws.joinFits (B := 1) (fun y hy => by obtain ⟨i, _, rfl⟩ := List.mem_map.mp hy; rw [ltr_len]; exact Nat.le_refl _) (by rw [List.length_map]; show _ + _ * 0 ≤ _; omega)]
  rfl
theorem row_of {l : List Nat} (h : l.length = 4) : Txt.join "" (l.map ltr) = rowS l := by
  match l, h with
  | [a, b, c, d], _ => exact join_row4 a b c d

noncomputable def goalsF (low mid high : List Int) : List Int := low.map fun x => high.getD (mid.getD x.toNat 0).toNat 0
noncomputable def rowF (cs : List Nat) (goals : List Int) : List Nat := (upto 0 4).map fun p => cs.getD (goals.findIdx fun y => decide (y = p)) 0
noncomputable def rows1 (cs : List Nat) (low mid : List Int) (w0 : Ways) : List (List Nat) := w0.map fun hi => rowF cs (goalsF low mid hi.2)
noncomputable def rows2 (cs : List Nat) (low : List Int) (w0 w1 : Ways) : List (List Nat) := w1.flatMap fun mi => rows1 cs low mi.2 w0
noncomputable def rowsF (cs : List Nat) (w0 w1 w2 : Ways) : List (List Nat) := w2.flatMap fun lo => rows2 cs lo.2 w0 w1
noncomputable def okRows (w0 w1 w2 : Ways) : Bool := w2.all fun lo => w1.all fun mi => w0.all fun hi => (upto 0 4).all fun p => (goalsF lo.2 mi.2 hi.2).any fun y => decide (y = p)
noncomputable def dR (r : List Nat) : DP := dStr (rowS r)
theorem vals_get {ws : Ways} {i : Nat} {P : DP} (h : ((mapD dL ws).map (·.2))[i]? = some P) : ∃ kv, ws[i]? = some kv ∧ P = dL kv.2 := by
  unfold mapD at h
  rw [List.map_map, List.getElem?_map] at h
  obtain ⟨kv, h1, rfl⟩ := Option.map_eq_some_iff.mp h
  exact ⟨kv, h1, rfl⟩
theorem rows1_len (cs low mid w0) : (rows1 cs low mid w0).length = w0.length := by simp [rows1]
theorem flat_len {α β : Type} (f : α → List β) (n : Nat) : ∀ l : List α, (∀ x ∈ l, (f x).length ≤ n) → (l.flatMap f).length ≤ l.length * n
  | [], _ => by simp
  | x :: r, h => by
    have h1 := flat_len f n r fun y hy => h y (List.mem_cons_of_mem _ hy)
    have h2 := h x List.mem_cons_self
    rw [List.flatMap_cons, List.length_append, List.length_cons, Nat.succ_mul]
    omega

section
variable {prog : Program} {w : World} {g : Heap} {mg mb : Str → Option Value}
theorem sub_card {A : Around} {value slice : PySem.Expr} {cs : List Nat} {i : Int} (h0 : 0 ≤ i) (h1 : i < cs.length) (hl : cs.length ≤ 1000)
    (hs : ∀ x t u, subscripted slice false (.str x t) (.int i u) = operate [.str x t, .int i u] (getItem (.str x t) (.int i u)) := by intros; with_unfolding_all rfl)
    (ht : ∀ x t r, letTemporaryGo value (.str x t) r = pure () := by intros; with_unfolding_all rfl) :
    Bin prog w A (subscriptTail value slice) (.frz (dR cs)) (.frz (dInt i)) (.frz (dStr (ltr (cs.getD i.toNat 0)))) := by
  rw [← item_row h0 h1]
  have hr : PySem.fitsSsize i = true := by
    unfold PySem.fitsSsize
    have h2 : ¬ i < -(2 ^ 63 : Int) := by omega
    have h3 : ¬ i ≥ 2 ^ 63 := by omega
    simp only [h2, h3, decide_false, Bool.or_self, Bool.not_false]
  exact sub_str (by rw [rowS_len]; omega) (by rw [rowS_len]; exact h1) hr (fun t u => hs _ t u) (fun t r => ht _ t r)
theorem spec_rows (B : Base w g mg mb) (n : Nat) (cs : List Nat) (w0 w1 w2 : Ways) (hcs : cs.length = 4) (g0 : GoodW w0) (g1 : GoodW w1) (g2 : GoodW w2) (hok : okRows w0 w1 w2 = true) :
    Spec prog w g (n + 1) (aOf w.params "_law_rows") [dR cs, dList ([w0, w1, w2].map (dW (prog := prog) (w := w)))] (dList ((rowsF cs w0 w1 w2).map dR)) := by
  have hsl : sizeLine = 16777216 := sizeLine_eq
  refine Spec.enter (xs := ["cards", "chain"]) B.gl B.mods (B.K _ _ rfl) rfl ⟨⟨_, _, _, _, rfl, B.K _ _ rfl, rfl, rfl⟩, rfl, bind2 rfl fun _ _ => rfl, rfl, rfl, rfl, by decide, by decide, by decide, rfl, rfl, rfl⟩ rfl fun F hF => ?_
  obtain ⟨env, A, g', mine⟩ := F
  obtain ⟨-, rfl, rfl, ⟨L, f, rfl⟩, ok⟩ := hF
  have hh := ok.rm.hh
  have l0 := g0.len
  have l1 := g1.len
  have l2 := g2.len
  unfold okRows at hok
  rw [List.all_eq_true] at hok
  have len1 : ∀ low mid k, (rows1 cs low mid (w0.take k)).length ≤ 4 := fun low mid k => by rw [rows1_len, List.length_take]; omega
  have len2 : ∀ low k, (rows2 cs low w0 (w1.take k)).length ≤ 16 := fun low k => by
    have := flat_len (fun mi : Int × List Int => rows1 cs low mi.2 w0) 4 (w1.take k) fun x _ => by have := len1 low x.2 w0.length; rwa [List.take_length] at this
    have h3 : (w1.take k).length ≤ 4 := by rw [List.length_take]; omega
    unfold rows2; omega
  have len3 : ∀ k, (rowsF cs w0 w1 (w2.take k)).length ≤ 64 := fun k => by
    have := flat_len (fun lo : Int × List Int => rows2 cs lo.2 w0 w1) 16 (w2.take k) fun x _ => by have := len2 x.2 w1.length; rwa [List.take_length] at this
    have h3 : (w2.take k).length ≤ 4 := by rw [List.length_take]; omega
    unfold rowsF; omega
  refine Ex.seq (Ex.assignN ok (.inl rfl) (lstD (Ps := []) .nil (Nat.zero_le _)) ?_)
  refine Ex.seq (Ex.for (Ps := (mapD dL w2).map (·.2)) ok (.inl rfl) (ez_values (knd := intKind prog w) (kvs := mapD dL w2) (Ev.sub (Ev.lst (Ev.name ok rfl)) Ez.int (sub_list (Ps := [w0, w1, w2].map (dW (prog := prog) (w := w))) (by decide) rfl (by decide))) rfl rfl) (itr_vals hh)
    (fun i ρ => ρ "cards" = some (.frz (dR cs)) ∧ ρ "chain" = some (.frz (dList ([w0, w1, w2].map (dW (prog := prog) (w := w))))) ∧ ρ "rows" = some (.lst ((rowsF cs w0 w1 (w2.take i)).map dR))) ⟨rfl, rfl, rfl⟩ ?_ ?_)
  · rintro i P ρ hP ⟨h1, h2, h3⟩
    obtain ⟨lo, hlo, rfl⟩ := vals_get hP
    have hlm := List.mem_of_getElem? hlo
    have hlp := g2.val lo hlm
    have hok2 := hok lo hlm
    rw [List.all_eq_true] at hok2
    rw [show rowsF cs w0 w1 (w2.take (i + 1)) = rowsF cs w0 w1 (w2.take i) ++ rows2 cs lo.2 w0 w1 by unfold rowsF; rw [List.take_add_one, hlo, List.flatMap_append]; simp]
    have hl3 := len3 i
    generalize rowsF cs w0 w1 (w2.take i) = pre at h3 hl3 ⊢
    refine Ex.for (Ps := (mapD dL w1).map (·.2)) ok (.inr (mem_cellNames rfl)) (ez_values (knd := intKind prog w) (kvs := mapD dL w1) (Ev.sub (Ev.lst (Ev.name ok (by passes_own))) Ez.int (sub_list (Ps := [w0, w1, w2].map (dW (prog := prog) (w := w))) (by decide) rfl (by decide))) rfl rfl) (itr_vals hh)
      (fun j ρ => ρ "cards" = some (.frz (dR cs)) ∧ ρ "chain" = some (.frz (dList ([w0, w1, w2].map (dW (prog := prog) (w := w))))) ∧ ρ "low" = some (.frz (dL lo.2)) ∧ ρ "rows" = some (.lst ((pre ++ rows2 cs lo.2 w0 (w1.take j)).map dR))) ⟨by passes_own, by passes_own, by passes_own, by simp [rows2]; passes_own⟩ ?_ ?_
    · rintro j P ρ1 hP ⟨k1, k2, k3, k4⟩
      obtain ⟨mi, hmi, rfl⟩ := vals_get hP
      have hmm := List.mem_of_getElem? hmi
      have hmp := g1.val mi hmm
      have hok1 := hok2 mi hmm
      rw [List.all_eq_true] at hok1
      rw [show pre ++ rows2 cs lo.2 w0 (w1.take (j + 1)) = pre ++ rows2 cs lo.2 w0 (w1.take j) ++ rows1 cs lo.2 mi.2 w0 by unfold rows2; rw [List.take_add_one, hmi, List.flatMap_append]; simp]
      have hl2 : (pre ++ rows2 cs lo.2 w0 (w1.take j)).length ≤ 80 := by have := len2 lo.2 j; rw [List.length_append]; omega
      generalize pre ++ rows2 cs lo.2 w0 (w1.take j) = pre1 at k4 hl2 ⊢
      refine Ex.for (Ps := (mapD dL w0).map (·.2)) ok (.inr (mem_cellNames rfl)) (ez_values (knd := intKind prog w) (kvs := mapD dL w0) (Ev.sub (Ev.lst (Ev.name ok (by passes_own))) Ez.int (sub_list (Ps := [w0, w1, w2].map (dW (prog := prog) (w := w))) (by decide) rfl (by decide))) rfl rfl) (itr_vals hh)
        (fun k ρ => ρ "cards" = some (.frz (dR cs)) ∧ ρ "chain" = some (.frz (dList ([w0, w1, w2].map (dW (prog := prog) (w := w))))) ∧ ρ "low" = some (.frz (dL lo.2)) ∧ ρ "middle" = some (.frz (dL mi.2)) ∧ ρ "rows" = some (.lst ((pre1 ++ rows1 cs lo.2 mi.2 (w0.take k)).map dR))) ⟨by passes_own, by passes_own, by passes_own, by passes_own, by simp [rows1]; passes_own⟩ ?_ ?_
      · rintro k P ρ2 hP ⟨m1, m2, m3, m4, m5⟩
        obtain ⟨hi, hhi, rfl⟩ := vals_get hP
        have hhm := List.mem_of_getElem? hhi
        have hhp := g0.val hi hhm
        have hok0 := hok1 hi hhm
        rw [List.all_eq_true] at hok0
        rw [show pre1 ++ rows1 cs lo.2 mi.2 (w0.take (k + 1)) = pre1 ++ rows1 cs lo.2 mi.2 (w0.take k) ++ [rowF cs (goalsF lo.2 mi.2 hi.2)] by unfold rows1; rw [List.take_add_one, hhi, List.map_append]; simp]
        have hl1 : (pre1 ++ rows1 cs lo.2 mi.2 (w0.take k)).length ≤ 100 := by have := len1 lo.2 mi.2 k; rw [List.length_append]; omega
        generalize pre1 ++ rows1 cs lo.2 mi.2 (w0.take k) = pre2 at m5 hl1 ⊢
        refine Ex.seq (Ex.assignN (R := .lst ((goalsF lo.2 mi.2 hi.2).map dInt)) ok (.inr (mem_cellNames rfl)) ?_ ?_)
        · unfold goalsF
          rw [List.map_map]
          refine lc1 lo.2 dInt _ ok (Ev.name ok (R := .frz (dL lo.2)) (by passes_own)) (itr_list hh) (sc_ok ["high", "middle"] rfl (by decide) (by decide) (by decide) (all_cons ⟨⟨_, by passes_own⟩, fun h => nomatch h⟩ (all_cons ⟨⟨_, by passes_own⟩, fun h => nomatch h⟩ all_nil))) (.inl rfl) (fun F' C ok' x hx => ?_) (by rw [hlp.1]; decide)
          have hx' := hlp.2 x hx
          have hmx := hmp.at hx'.1 hx'.2
          exact Ev.sub (Ev.lst (Ev.name ok' ((upd_ne _ _ (by decide)).trans (seen_of rfl (by passes_own))))) (Ev.sub (Ev.lst (Ev.name ok' ((upd_ne _ _ (by decide)).trans (seen_of rfl (by passes_own))))) (Ev.name ok' (upd_self _ _ _)) (sub_ints (l := mi.2) hx'.1 (by rw [hmp.1]; exact hx'.2) (by rw [hmp.1]; decide))) (sub_ints (l := hi.2) hmx.1 (by rw [hhp.1]; exact hmx.2) (by rw [hhp.1]; decide))
        · have hgl : (goalsF lo.2 mi.2 hi.2).length = 4 := by unfold goalsF; rw [List.length_map, hlp.1]
          generalize goalsF lo.2 mi.2 hi.2 = goals at hok0 hgl ⊢
          refine Ex.freeze (x := "goals") (upd_self _ _ _) ?_
          refine ex_append ok (x := "rows") (Ps := pre2.map dR) (P := dR (rowF cs goals)) (by passes_own) ?_ (by rw [List.length_map]; omega) ?_ rfl rfl rfl rfl rfl rfl
          · have hrow : dR (rowF cs goals) = dStr (Txt.join "" ((rowF cs goals).map ltr)) := by unfold dR; rw [row_of (by unfold rowF; rw [List.length_map]; rfl)]
            rw [hrow]
            refine mth mt_join recv_str Ez.str (.one (En.rd (R := .lst (((rowF cs goals).map ltr).map dStr)) ?_)) (bfn_join (join_ok4 _ (by unfold rowF; rw [List.length_map]; decide)))
            unfold rowF
            rw [List.map_map, List.map_map]
            refine lc1 (upto 0 4) dInt _ ok (tyc ok B.gl (B.no rfl) rfl (.one Ez.int) bfn_range1) (itr_rng hh (by decide) (by decide) (by decide) (by decide)) (sc_ok ["cards", "goals"] rfl (by decide) (by decide) (by decide) (all_cons ⟨⟨_, by passes_own⟩, fun h => nomatch h⟩ (all_cons ⟨⟨_, by passes_own⟩, fun h => nomatch h⟩ all_nil))) (.inl rfl) (fun F' C ok' p hp => ?_) (by decide)
            have hany := hok0 p hp
            rw [List.any_eq_true] at hany
            have hfi := List.findIdx_lt_length_of_exists hany
            show Ez F' _ _ (dStr (ltr (cs.getD (goals.findIdx fun y => decide (y = p)) 0)))
            exact Ev.sub (Ev.name ok' ((upd_ne _ _ (by decide)).trans (seen_of rfl (by passes_own))))
              (mth mt_lindex recv_lst (Ev.lst (Ev.name ok' ((upd_ne _ _ (by decide)).trans (seen_of rfl (by passes_own))))) (.one (Ev.name ok' (upd_self _ _ _)))
                (bfn_lindex (deq_int 0) (Fok.room ok'.rm (by decide)) (List.findIdx?_eq_some_iff_findIdx_eq.mpr ⟨hfi, rfl⟩) (by omega)))
              (sub_card (by omega) (by omega) (by omega))
          · refine ⟨by passes_own, by passes_own, by passes_own, by passes_own, ?_⟩
            rw [upd_self, List.map_append]; rfl
      · rintro ρ2 ⟨m1, m2, m3, m4, m5⟩
        have e : ((mapD dL w0).map (·.2)).length = w0.length := by simp [mapD]
        rw [e, List.take_length] at m5
        exact ⟨m1, m2, m3, m5⟩
    · rintro ρ1 ⟨k1, k2, k3, k4⟩
      have e : ((mapD dL w1).map (·.2)).length = w1.length := by simp [mapD]
      rw [e, List.take_length] at k4
      exact ⟨k1, k2, k4⟩
  · rintro ρ ⟨h1, h2, h3⟩
    have e : ((mapD dL w2).map (·.2)).length = w2.length := by simp [mapD]
    rw [e, List.take_length] at h3
    exact Ex.freeze h3 (Ex.ret (Ev.name ok (upd_self _ _ _)) rfl)
end
end Mine
end
/-! part B7 -/
section
open PySem PySem.Calls PySem.Spec PyProof.Rows PySem.W PySem.SeqAt
set_option Elab.async false
set_option linter.unusedVariables false
set_option maxRecDepth 100000
namespace Mine
theorem rowS_append (a b : List Nat) : rowS a ++ rowS b = rowS (a ++ b) := by
  show Str.append (rowS a) (rowS b) = _
  simp [rowS, Str.append]
theorem range_get {α : Type} : ∀ (l : List α) (n : Nat), (List.range n).filterMap (l[·]?) = l.take n := by
  intro l n
  induction n with
  | zero => simp
  | succ n ih =>
    have e : List.filterMap (fun x => l[x]?) [n] = (l[n]?).toList := by
      cases h : l[n]? with
      | none => rw [List.filterMap_cons_none h]; rfl
      | some x => rw [List.filterMap_cons_some h]; rfl
    rw [List.range_succ, List.filterMap_append, ih, List.take_add_one, e]
theorem range_from {α : Type} (l : List α) (n : Nat) : ((List.range (l.length - n)).map (n + ·)).filterMap (l[·]?) = l.drop n := by
  have := range_get (l.drop n) (l.length - n)
  rw [List.take_of_length_le (by simp)] at this
  rw [← this, List.filterMap_map]
  congr 1
  funext i
  simp
theorem idx_to : ∀ len : Fin 5, ∀ n : Fin 5, n.val ≤ len.val → Builtin.Str.strSliceIndices none (some (n.val : Int)) 1 len.val = List.range n.val := by decide +kernel
theorem idx_from : ∀ len : Fin 5, ∀ n : Fin 5, n.val ≤ len.val → Builtin.Str.strSliceIndices (some (n.val : Int)) none 1 len.val = (List.range (len.val - n.val)).map (n.val + ·) := by decide +kernel
theorem rowS_get (ps : List Nat) (js : List Nat) : js.filterMap (fun x => (rowS ps).cps[x]?) = (js.filterMap (ps[·]?)).map cp := by
  induction js with
  | nil => rfl
  | cons j js ih =>
    have e : (rowS ps).cps[j]? = (ps[j]?).map cp := by simp [rowS]
    simp only [List.filterMap_cons, e]
    cases ps[j]? with
    | none => simpa using ih
    | some x => simpa using ih
theorem slice_take {ps : List Nat} {n : Nat} (hl : ps.length ≤ 4) (h : n ≤ ps.length) : Txt.slice (rowS ps) none (some (n : Int)) = rowS (ps.take n) := by
  unfold Txt.slice
  have e := idx_to ⟨ps.length, by omega⟩ ⟨n, by omega⟩ h
  simp only at e
  rw [rowS_len, e]
  split
  · rename_i hc
    simp at hc
    rw [List.take_of_length_le (by omega)]
  · rw [rowS_get, range_get]; rfl
theorem slice_drop {ps : List Nat} {n : Nat} (hl : ps.length ≤ 4) (h : n ≤ ps.length) : Txt.slice (rowS ps) (some (n : Int)) none = rowS (ps.drop n) := by
  unfold Txt.slice
  have e := idx_from ⟨ps.length, by omega⟩ ⟨n, by omega⟩ h
  simp only at e
  rw [rowS_len, e]
  split
  · rename_i hc
    simp at hc
    have : n = 0 := by omega
    subst this
    rfl
  · rw [rowS_get, range_from]; rfl
theorem cp_inj {i j : Nat} (hi : i < 4) (hj : j < 4) (h : cp i = cp j) : i = j := by
  have : ∀ i : Fin 4, ∀ j : Fin 4, cp i = cp j → i = j := by decide
  exact congrArg Fin.val (this ⟨i, hi⟩ ⟨j, hj⟩ h)
theorem rowS_inj {a b : List Nat} (ha : ∀ x ∈ a, x < 4) (hb : ∀ x ∈ b, x < 4) (h : rowS a = rowS b) : a = b := by
  have h1 : a.map cp = b.map cp := by
    have := congrArg (fun s : Str => s.cps.toList) h
    simpa [rowS] using this
  clear h
  induction a generalizing b with
  | nil => cases b with
    | nil => rfl
    | cons y r => cases h1
  | cons x r ih => cases b with
    | nil => cases h1
    | cons y q =>
      simp only [List.map_cons, List.cons.injEq] at h1
      rw [cp_inj (ha x List.mem_cons_self) (hb y List.mem_cons_self) h1.1, ih (fun z hz => ha z (List.mem_cons_of_mem _ hz)) (fun z hz => hb z (List.mem_cons_of_mem _ hz)) h1.2]
theorem sgn_row (cs : List Nat) : sgn (rowS cs) = cs.map ltr := by
  unfold sgn rowS
  simp only [List.map_map]
  exact List.map_congr_left fun x _ => (ltr_cp x).symm
end Mine
end
/-! part B8 -/
section
open PySem PySem.Calls PySem.Spec PyProof.Rows PySem.W PySem.SeqAt
set_option Elab.async false
set_option linter.unusedVariables false
set_option maxRecDepth 100000
namespace Mine

/-! ## the law, as plain data -/
noncomputable def gt (l : List Nat) (k : Nat) : Nat := l.getD k 0
/-- a move of a row -/
noncomputable def app (mv : List Int) (r : List Nat) : List Nat := mv.map fun x => r.getD x.toNat 0
/-- the text of a card and a place -/
noncomputable def kd (i k : Nat) : Str := ⟨#[cp i, 48 + k]⟩
noncomputable def putL {κ : Type} [DecidableEq κ] (kvs l : List (κ × Int)) : List (κ × Int) := l.foldl (fun acc p => putI acc p.1 p.2) kvs
noncomputable def srcTab (r : List Nat) : List (Str × Int) := putL [] ((upto 0 4).map fun k => (kd (gt r k.toNat) k.toNat, (1 : Int)))
noncomputable def srcCost (cs r : List Nat) : List (Str × Int) := putL [] ((upto 0 4).map fun k => (rowS [gt cs k.toNat, gt r k.toNat], priceI (gt cs k.toNat) (gt r k.toNat)))
noncomputable def spent (cs r : List Nat) : List Int := (upto 0 4).map fun k => priceI (gt cs k.toNat) (gt r k.toNat)
structure St where
  rows : List (List Nat)
  seen : Nat
  t0 : Int
  t1 : Int
  t2 : Int
  t3 : Int
  tab : List (Str × Int)
  costs : List (Str × Int)
  led : List (List Nat)
noncomputable def addR (rows : List (List Nat)) (d : List Nat) : List (List Nat) := if d ∈ rows then rows else rows ++ [d]
noncomputable def same (n : Nat) (r cs : List Nat) : Int := if r.take n = cs.take n then 1 else 0
noncomputable def deals2 (mv0 mv1 : List Int) (rows : List (List Nat)) (r : List Nat) : List (List Nat) := addR (addR rows (app mv0 r)) (app mv1 r)
noncomputable def turnF (cs : List Nat) (mv0 mv1 : List Int) (st : St) (r : List Nat) : St :=
  { rows := deals2 mv0 mv1 st.rows r, seen := st.seen + 1, t0 := 1 + st.t0, t1 := same 1 r cs + st.t1, t2 := same 2 r cs + st.t2, t3 := (spent cs r).sum + st.t3,
    tab := addC st.tab (srcTab r), costs := addC st.costs (srcCost cs r), led := st.led ++ [app mv0 r, app mv1 r] }
noncomputable def run (cs : List Nat) (mv0 mv1 : List Int) : Nat → St → St
  | 0, st => st
  | n + 1, st => match st.rows[st.seen]? with
    | some r => run cs mv0 mv1 n (turnF cs mv0 mv1 st r)
    | none => st
noncomputable def start (cs : List Nat) : St := ⟨[cs], 0, 0, 0, 0, 0, [], [], []⟩
noncomputable def fin (cs : List Nat) (mv0 mv1 : List Int) : St := run cs mv0 mv1 25 (start cs)
noncomputable def goalsW (mv0 mv1 : List Int) (k : Int) : Ways := waysF k [mv0, mv1]
noncomputable def keptN (mv0 mv1 : List Int) : Int := ((waysF 1 (stage 0 [mv0, mv1])).length : Int) * ((waysF 2 (stage 1 (stage 0 [mv0, mv1]))).length : Int)
noncomputable def wholeN (mv0 mv1 : List Int) : Int := ((waysF 0 [mv0, mv1]).length : Int) * keptN mv0 mv1
noncomputable def paidF (cs : List Nat) (mv0 mv1 : List Int) : List (Str × Int) := putL [] ((upto 0 4).flatMap fun k => (goalsW mv0 mv1 k).map fun x =>
  (rowS [gt cs k.toNat, gt cs x.1.toNat], (wholeN mv0 mv1).fdiv ((goalsW mv0 mv1 k).length : Int) * priceI (gt cs k.toNat) (gt cs x.1.toNat)))
noncomputable def tableF (cs : List Nat) (mv0 mv1 : List Int) : List (Str × Int) := putL [] ((upto 0 4).flatMap fun k => (goalsW mv0 mv1 k).map fun x =>
  (kd (gt cs k.toNat) x.1.toNat, (wholeN mv0 mv1).fdiv ((goalsW mv0 mv1 k).length : Int)))
noncomputable def partF (tab : List (Str × Int)) (c : Nat) : List (Str × Int) := putL [] ((tab.filter fun kv => decide (Txt.item kv.1 0 = ltr c)).map fun kv => (kv.1, (lookK tab kv.1).getD 0))

/-- a row of cards that is a row of all four -/
structure IsRow (r : List Nat) : Prop where
  len : r.length = 4
  lt : ∀ x ∈ r, x < 4
  nodup : r.Nodup
/-- what the walk takes from the plain law -/
structure LawOk (cs : List Nat) (mv0 mv1 : List Int) : Prop where
  row : IsRow cs
  p0 : IsPm mv0
  p1 : IsPm mv1
  q0 : mv0.Perm [0, 1, 2, 3]
  q1 : mv1.Perm [0, 1, 2, 3]
  chain : okChain [mv0, mv1] = true
  rowsOk : okRows (waysF 0 [mv0, mv1]) (waysF 1 (stage 0 [mv0, mv1])) (waysF 2 (stage 1 (stage 0 [mv0, mv1]))) = true
  done : (fin cs mv0 mv1).rows.length = (fin cs mv0 mv1).seen
  perm : (fin cs mv0 mv1).rows.Perm (rowsF cs (waysF 0 [mv0, mv1]) (waysF 1 (stage 0 [mv0, mv1])) (waysF 2 (stage 1 (stage 0 [mv0, mv1]))))
  costs : eqDict (fin cs mv0 mv1).costs (paidF cs mv0 mv1) = true
  t0 : (fin cs mv0 mv1).t0 = wholeN mv0 mv1
  t1 : (fin cs mv0 mv1).t1 = keptN mv0 mv1
  t2 : (fin cs mv0 mv1).t2 = ((waysF 2 (stage 1 (stage 0 [mv0, mv1]))).length : Int)
  t3 : (fin cs mv0 mv1).t3 = ((paidF cs mv0 mv1).map (·.2)).sum
  tab : eqDict (fin cs mv0 mv1).tab (tableF cs mv0 mv1) = true
  led : (fin cs mv0 mv1).led = (fin cs mv0 mv1).rows.flatMap fun r => [app mv0 r, app mv1 r]
  keyLen : ∀ kv ∈ (fin cs mv0 mv1).tab, 0 < kv.1.length
  parts : ∀ k, k < 4 → ((partF (fin cs mv0 mv1).tab (gt cs k)).map (·.2)).sum = wholeN mv0 mv1
end Mine
end
/-! part B8b -/
section
open PySem PySem.Calls PySem.Spec PyProof.Rows PySem.W PySem.SeqAt
set_option Elab.async false
set_option linter.unusedVariables false
set_option maxRecDepth 100000
namespace Mine
section
variable {prog : Program} {w : World} {F F' : Fm} {K K' X : Kn} {ρ ρ' : Ro prog w} {s s' : Shared} {α β γ : Type} {Φ : Out → Ro prog w → Prop} {mg mb : Str → Option Value}
theorem putAll_mapD {κ : Type} [DecidableEq κ] : ∀ (l : List α) (key : α → κ) (val : α → Int) (kvs : List (κ × Int)), putAll (mapD dInt kvs) (l.map fun a => (key a, dInt (val a))) = mapD dInt (putL kvs (l.map fun a => (key a, val a)))
  | [], _, _, _ => rfl
  | a :: r, key, val, kvs => by
    show putAll (putK (mapD dInt kvs) (key a) (dInt (val a))) _ = mapD dInt (putL (putI kvs (key a) (val a)) _)
    rw [putK_mapD]
    exact putAll_mapD r key val _
theorem IsComp.at {sc : Scope} {f : Addr} {o : Obj} (C : IsComp F sc F') (h : F.g.get? f = some o) : F'.g.get? f = some o := by rw [C.g]; exact h
theorem IsComp.sp {sc : Scope} {n : Nat} {f : Addr} {Ps : List DP} {P : DP} (C : IsComp F sc F') (h : Spec prog w F.g n f Ps P) : Spec prog w F'.g n f Ps P := by rw [C.g]; exact h

theorem dc1C {n : Nat} {kx vx iter : PySem.Expr} {x : Str} {px : Pos} {ifs : List PySem.Expr} {scope : Scope} {pos p2 : Pos} {R : V prog w} (xs : List α) (pv : α → DP) (key : α → Str) (val : α → Int) (tb : α → Bool) (ok : Fok n F)
    (hi : Ev F iter ρ R) (it : Itr prog w F.A R (xs.map pv)) (sc : ScOk F scope ρ) (hx : CompName scope x)
    (elts : ∀ F', IsComp F scope F' → Fok n F' → ∀ a ∈ xs, Tst F' (upd (seen scope ρ) x (.frz (pv a))) ifs (tb a) ∧ (tb a = true → Ez F' kx (upd (seen scope ρ) x (.frz (pv a))) (dStr (key a)) ∧ Ez F' vx (upd (seen scope ρ) x (.frz (pv a))) (dInt (val a)))) (hsz : xs.length ≤ 1000)
    (hs : ∀ x, foldedSetIterable iter F.env x = pure x := by intro _; with_unfolding_all rfl) :
    CompOk prog w F ρ (.DictComp kx vx [⟨.Name x px, iter, ifs, 0⟩] scope pos) scope p2 iter newDict (acD (strKind prog w)) [] (mapD dInt (putL [] ((xs.filter tb).map fun a => (key a, val a)))) (.sdc (mapD dInt (putL [] ((xs.filter tb).map fun a => (key a, val a))))) := by
  rw [← putAll_mapD]
  exact compD1 (knd := strKind prog w) xs pv (fun a => dStr (key a)) (fun a => dInt (val a)) key tb ok hi it sc hx (fun F' C ok' a ha => ⟨(elts F' C ok' a ha).1, fun h => ⟨((elts F' C ok' a ha).2 h).1, key_str, ((elts F' C ok' a ha).2 h).2⟩⟩) (Nat.le_trans hsz (by rw [sizeLine_eq]; decide)) bears_sdc rfl hs
/-- {key: val for x in iter if ..} -/
theorem dc1 {n : Nat} {kx vx iter : PySem.Expr} {x : Str} {px : Pos} {ifs : List PySem.Expr} {scope : Scope} {pos : Pos} {R : V prog w} (xs : List α) (pv : α → DP) (key : α → Str) (val : α → Int) (tb : α → Bool) (ok : Fok n F)
    (hi : Ev F iter ρ R) (it : Itr prog w F.A R (xs.map pv)) (sc : ScOk F scope ρ) (hx : CompName scope x)
    (elts : ∀ F', IsComp F scope F' → Fok n F' → ∀ a ∈ xs, Tst F' (upd (seen scope ρ) x (.frz (pv a))) ifs (tb a) ∧ (tb a = true → Ez F' kx (upd (seen scope ρ) x (.frz (pv a))) (dStr (key a)) ∧ Ez F' vx (upd (seen scope ρ) x (.frz (pv a))) (dInt (val a)))) (hsz : xs.length ≤ 1000)
    (hs : ∀ x, foldedSetIterable iter F.env x = pure x := by intro _; with_unfolding_all rfl)
    (he : eval (.DictComp kx vx [⟨.Name x px, iter, ifs, 0⟩] scope pos) F.env = comprehension (.DictComp kx vx [⟨.Name x px, iter, ifs, 0⟩] scope pos) scope F.env (firstIterPos [⟨.Name x px, iter, ifs, 0⟩] pos) newDict false (eval iter F.env) := by rfl) :
    En F (.DictComp kx vx [⟨.Name x px, iter, ifs, 0⟩] scope pos) ρ (.sdc (mapD dInt (putL [] ((xs.filter tb).map fun a => (key a, val a))))) :=
  En.comp ok (dc1C (p2 := firstIterPos [⟨.Name x px, iter, ifs, 0⟩] pos) xs pv key val tb ok hi it sc hx elts hsz hs) he
theorem flatMap_pairs (xs : List α) (ys : α → List β) (key : α → β → Str) (val : α → β → Int) : (xs.flatMap fun a => (ys a).map fun b => (key a b, dInt (val a b))) = (xs.flatMap fun a => (ys a).map fun b => (a, b)).map fun p => (key p.1 p.2, dInt (val p.1 p.2)) := by
  rw [List.map_flatMap]
  congr 1; funext a
  rw [List.map_map]; rfl
theorem flatMap_pairs' (xs : List α) (ys : α → List β) (key : α → β → Str) (val : α → β → Int) : (xs.flatMap fun a => (ys a).map fun b => (key a b, val a b)) = (xs.flatMap fun a => (ys a).map fun b => (a, b)).map fun p => (key p.1 p.2, val p.1 p.2) := by
  rw [List.map_flatMap]
  congr 1; funext a
  rw [List.map_map]; rfl
/-- y = {key: val for a in .. for b in ..} -/
theorem ex_dc2 {n : Nat} {kx vx iter i2 : PySem.Expr} {x y z : Str} {px py pz spos : Pos} {scope : Scope} {pos : Pos} {R : V prog w} (xs : List α) (ys : α → List β) (pv : α → DP) (pw : α → β → DP) (key : α → β → Str) (val : α → β → Int) (ok : Fok n F) (hz : F.env.kindOf z = some .local)
    (hi : Ev F iter ρ R) (it : Itr prog w F.A R (xs.map pv)) (sc : ScOk F scope ρ) (hx : CompName scope x) (hy : CompName scope y) (hxy : y ≠ x)
    (elts : ∀ F', IsComp F scope F' → Fok n F' → ∀ a ∈ xs, (∃ R : V prog w, Ev F' i2 (upd (seen scope ρ) x (.frz (pv a))) R ∧ Itr prog w F'.A R ((ys a).map (pw a))) ∧
      ∀ b ∈ ys a, Ez F' kx (upd (upd (seen scope ρ) x (.frz (pv a))) y (.frz (pw a b))) (dStr (key a b)) ∧ Ez F' vx (upd (upd (seen scope ρ) x (.frz (pv a))) y (.frz (pw a b))) (dInt (val a b)))
    (hsz : (xs.flatMap fun a => (ys a).map fun b => (key a b, val a b)).length ≤ 1000)
    (h : Φ .next (upd ρ z (.sdc (mapD dInt (putL [] (xs.flatMap fun a => (ys a).map fun b => (key a b, val a b)))))))
    (hs : ∀ x, foldedSetIterable iter F.env x = pure x := by intro _; with_unfolding_all rfl) (hs2 : ∀ F', IsComp F scope F' → ∀ x, foldedSetIterable i2 F'.env x = pure x := by intro _ _ _; with_unfolding_all rfl) (hm : F.A.mark none = F.A := by rfl)
    (hsw : swapsWith (.DictComp kx vx [⟨.Name x px, iter, [], 0⟩, ⟨.Name y py, i2, [], 0⟩] scope pos) (some (.Name z pz)) spos.line F.env = pure true := by with_unfolding_all rfl)
    (hu : ∀ u, evalThenUse (.DictComp kx vx [⟨.Name x px, iter, [], 0⟩, ⟨.Name y py, i2, [], 0⟩] scope pos) F.env u = (do let _ ← comprehension (.DictComp kx vx [⟨.Name x px, iter, [], 0⟩, ⟨.Name y py, i2, [], 0⟩] scope pos) scope F.env (firstIterPos [⟨.Name x px, iter, [], 0⟩, ⟨.Name y py, i2, [], 0⟩] pos) newDict false (eval iter F.env) (some u)) := by intro _; rfl) :
    Ex F [.Assign [.Name z pz] (.DictComp kx vx [⟨.Name x px, iter, [], 0⟩, ⟨.Name y py, i2, [], 0⟩] scope pos) spos] ρ Φ := by
  have e : putAll [] (xs.flatMap fun a => (ys a).map fun b => (key a b, dInt (val a b))) = mapD dInt (putL [] (xs.flatMap fun a => (ys a).map fun b => (key a b, val a b))) := by
    rw [flatMap_pairs, flatMap_pairs']
    exact putAll_mapD _ (fun p : α × β => key p.1 p.2) (fun p => val p.1 p.2) []
  have hlen : (xs.flatMap fun a => (ys a).map fun b => (key a b, dInt (val a b))).length = (xs.flatMap fun a => (ys a).map fun b => (key a b, val a b)).length := by
    rw [flatMap_pairs, flatMap_pairs', List.length_map, List.length_map]
  rw [← e] at h
  exact Ex.comp ok hz (compD2 (knd := strKind prog w) (p2 := firstIterPos [⟨.Name x px, iter, [], 0⟩, ⟨.Name y py, i2, [], 0⟩] pos) xs ys pv pw (fun a b => dStr (key a b)) (fun a b => dInt (val a b)) key ok hi it sc hx hy hxy
    (fun F' C ok' a ha => ⟨(elts F' C ok' a ha).1, fun b hb => ⟨((elts F' C ok' a ha).2 b hb).1, key_str, ((elts F' C ok' a ha).2 b hb).2⟩⟩) (by rw [hlen]; exact Nat.le_trans hsz (by rw [sizeLine_eq]; decide)) bears_sdc rfl hs hs2 hm) h hu hsw

/-! ### rows -/
theorem IsRow.perm {r : List Nat} (h : IsRow r) : r.Perm [0, 1, 2, 3] := by
  have key : ∀ a b c d : Fin 4, [a.val, b.val, c.val, d.val].Nodup → [a.val, b.val, c.val, d.val].isPerm [0, 1, 2, 3] = true := by decide +kernel
  obtain ⟨h1, h2, h3⟩ := h
  match r, h1 with
  | [a, b, c, d], _ => exact List.isPerm_iff.mp (key ⟨a, h2 a (by simp)⟩ ⟨b, h2 b (by simp)⟩ ⟨c, h2 c (by simp)⟩ ⟨d, h2 d (by simp)⟩ h3)
theorem isRow_of_perm {cs : List Nat} (h : cs.Perm [0, 1, 2, 3]) : IsRow cs :=
  ⟨h.length_eq, fun x hx => by have := h.mem_iff.mp hx; simp at this; omega, h.nodup_iff.mpr (by decide)⟩
theorem app_perm {mv : List Int} (hq : mv.Perm [0, 1, 2, 3]) {r : List Nat} (h : r.length = 4) : (app mv r).Perm r := by
  unfold app
  refine (hq.map _).trans ?_
  match r, h with
  | [a, b, c, d], _ => exact .refl _
theorem IsRow.app {mv : List Int} (hq : mv.Perm [0, 1, 2, 3]) {r : List Nat} (h : IsRow r) : IsRow (app mv r) := isRow_of_perm ((app_perm hq h.len).trans h.perm)
noncomputable def allRows : List (List Nat) := (List.finRange 4).flatMap fun a => (List.finRange 4).flatMap fun b => (List.finRange 4).flatMap fun c => ((List.finRange 4).map fun d => [a.val, b.val, c.val, d.val]).filter fun l => decide l.Nodup
theorem rows_le (rows : List (List Nat)) (h : ∀ r ∈ rows, IsRow r) (hn : rows.Nodup) : rows.length ≤ 24 := by
  have hl : allRows.length = 24 := by decide +kernel
  rw [← hl]
  refine nodup_sub rows allRows hn fun r hr => ?_
  obtain ⟨h1, h2, h3⟩ := h r hr
  match r, h1 with
  | [a, b, c, d], _ =>
    unfold allRows
    refine List.mem_flatMap.mpr ⟨⟨a, h2 a (by simp)⟩, List.mem_finRange _, List.mem_flatMap.mpr ⟨⟨b, h2 b (by simp)⟩, List.mem_finRange _, List.mem_flatMap.mpr ⟨⟨c, h2 c (by simp)⟩, List.mem_finRange _, List.mem_filter.mpr ⟨List.mem_map.mpr ⟨⟨d, h2 d (by simp)⟩, List.mem_finRange _, rfl⟩, decide_eq_true h3⟩⟩⟩⟩
structure GoodSt (st : St) : Prop where
  rows : ∀ r ∈ st.rows, IsRow r
  nodup : st.rows.Nodup
  seen : st.seen ≤ st.rows.length
  tab : st.tab.length ≤ 4 * st.seen
  costs : st.costs.length ≤ 4 * st.seen
  led : st.led.length = 2 * st.seen
theorem addR_row {rows : List (List Nat)} {d : List Nat} (h : ∀ r ∈ rows, IsRow r) (hd : IsRow d) : ∀ r ∈ addR rows d, IsRow r := by
  unfold addR; split
  · exact h
  · intro r hr
    rcases List.mem_append.mp hr with hr | hr
    · exact h r hr
    · rw [List.mem_singleton.mp hr]; exact hd
theorem addR_nodup {rows : List (List Nat)} {d : List Nat} (h : rows.Nodup) : (addR rows d).Nodup := by
  unfold addR; split
  · exact h
  · rename_i hd
    exact List.nodup_append.mpr ⟨h, by simp, fun x hx y hy e => hd (by rw [List.mem_singleton.mp hy] at e; exact e ▸ hx)⟩
theorem addR_len {rows : List (List Nat)} {d : List Nat} : rows.length ≤ (addR rows d).length := by
  unfold addR; split
  · exact Nat.le_refl _
  · rw [List.length_append]; omega
theorem putL_len : ∀ (l kvs : List (Str × Int)), (putL kvs l).length ≤ kvs.length + l.length := fun l kvs => foldl_len (fun acc p => putI acc p.1 p.2) (fun acc x => putI_len _ _ _) l kvs
theorem addC_len (t s : List (Str × Int)) : (addC t s).length ≤ t.length + s.length := by
  unfold addC
  have h1 := putL_len t []
  have h2 := foldl_len (fun acc kv => match lookK acc kv.1 with | some o => putI acc kv.1 (o + kv.2) | none => putI acc kv.1 kv.2) (fun acc x => by
    show (match lookK acc x.1 with | some o => putI acc x.1 (o + x.2) | none => putI acc x.1 x.2).length ≤ _
    split <;> exact putI_len _ _ _) s (t.foldl (fun acc kv => putI acc kv.1 kv.2) [])
  have h1' : (t.foldl (fun acc kv => putI acc kv.1 kv.2) []).length ≤ 0 + t.length := h1
  refine Nat.le_trans h2 ?_
  omega
theorem src_len (r cs : List Nat) : (srcTab r).length ≤ 4 ∧ (srcCost cs r).length ≤ 4 := ⟨putL_len _ [], putL_len _ []⟩
theorem GoodSt.turn {cs : List Nat} {mv0 mv1 : List Int} (q0 : mv0.Perm [0, 1, 2, 3]) (q1 : mv1.Perm [0, 1, 2, 3]) {st : St} (h : GoodSt st) {r : List Nat} (hr : st.rows[st.seen]? = some r) : GoodSt (turnF cs mv0 mv1 st r) := by
  have hrow := h.rows r (List.mem_of_getElem? hr)
  have hlt := (List.getElem?_eq_some_iff.mp hr).1
  refine ⟨addR_row (addR_row h.rows (hrow.app q0)) (hrow.app q1), addR_nodup (addR_nodup h.nodup), ?_, ?_, ?_, ?_⟩
  · exact Nat.le_trans hlt (Nat.le_trans addR_len addR_len)
  · have := addC_len st.tab (srcTab r); have := (src_len r cs).1; have := h.tab
    show (addC st.tab (srcTab r)).length ≤ 4 * (st.seen + 1); omega
  · have := addC_len st.costs (srcCost cs r); have := (src_len r cs).2; have := h.costs
    show (addC st.costs (srcCost cs r)).length ≤ 4 * (st.seen + 1); omega
  · show (st.led ++ [app mv0 r, app mv1 r]).length = 2 * (st.seen + 1)
    rw [List.length_append, h.led]; rfl
end
end Mine
end
/-! part B8c -/
section
open PySem PySem.Calls PySem.Spec PyProof.Rows PySem.W PySem.SeqAt
set_option Elab.async false
set_option linter.unusedVariables false
set_option maxRecDepth 100000
namespace Mine
section
variable {prog : Program} {w : World} {F F' : Fm} {K K' X : Kn} {ρ ρ' : Ro prog w} {s s' : Shared} {α β γ : Type} {Φ : Out → Ro prog w → Prop} {mg mb : Str → Option Value}
theorem eqp_dict {a b : List (Str × Int)} {A : Around} {v v' : Value} (he : eqDict a b = true) (hu : A.units + 20 < cLine) (hk0 : Kle K (hk s.heap)) (pa : (dDict (strKind prog w) (mapD dInt a)).p K v) (pb : (dDict (strKind prog w) (mapD dInt b)).p K v')
    (E : Value → Shared → Prop) (Q : Bool → Shared → Prop) (hq : Q true s) : wpAny (model prog w) A (eqBool v v') Q E s := by
  obtain ⟨x, o, rfl, ho, hs, ka, hd, e1, e2⟩ := pa
  obtain ⟨y, o', rfl, ho', hs', kb, hd', e1', e2'⟩ := pb
  unfold eqBool
  refine wpAny_holding ?_
  refine wpAny_ite_split (fun hab => ?_) (fun hab => ?_)
  · exact wpAny_bind (wpAny_rule (wpAny_pure hq))
  · have hDx : s.heap.DictOf (strKind prog w) x ka := Heap.dictOf_iff.mpr ⟨o, hk0 _ _ ho, hd⟩
    have hDy : s.heap.DictOf (strKind prog w) y kb := Heap.dictOf_iff.mpr ⟨o', hk0 _ _ ho', hd'⟩
    have l1 : ka.length = a.length := by have := DRep.length e1; simpa [mapD] using this
    have l2 : kb.length = b.length := by have := DRep.length e1'; simpa [mapD] using this
    refine wpAny_bind (keq_eq hs hs' hDx hDy (by omega) (fun _ => hits_of (deq_int 0) (by show A.units + 1 + _ < _; omega) hk0 e1' e2' e1 e2) ?_)
    rw [l1, l2]
    have he' : (a.length == b.length && a.all fun kv => decide (lookK b kv.1 = some kv.2)) = true := he
    rw [he']
    exact wpAny_truthy_bool hq
theorem cmp_stats {A : Around} (hu : A.units + 100 < cLine) {t0 t1 t2 t3 : Int} {a b : List (Str × Int)} (he : eqDict a b = true) : Bin prog w A (compareOp .NotEq) (.frz (dStats (prog := prog) (w := w) t0 t1 t2 t3 a)) (.frz (dStats (prog := prog) (w := w) t0 t1 t2 t3 b)) (.frz (dBool false)) := fun K s u v Q E hk0 h1 h2 k => by
  obtain ⟨x, vs, n, rfl, ho, al⟩ := h1
  obtain ⟨y, us, m, rfl, ho', al'⟩ := h2
  have hx : s.heap.get? x = some { cls := .type "tuple", dict := none, data := .seq vs.toArray n, slots := #[] } := hk0 _ _ ho
  have hy : s.heap.get? y = some { cls := .type "tuple", dict := none, data := .seq us.toArray m, slots := #[] } := hk0 _ _ ho'
  refine wpAny_richCompare_same_room (op := .NotEq) ⟨_, hx, rfl⟩ ⟨_, hy, rfl⟩ PySem.F.slot_tuple_ne (wpAny_call_entry PySem.F.slot_tuple_ne ⟨_, hx, rfl⟩ PySem.F.entry_tuple_ne (tuple_neP (fun _ => true) hx hy (fun j g1 g2 E Q hq => ?_) ?_) (PySem.F.args_tuple_ne_2 _ _)) (by omega)
  · have j1 : vs[j]? = some vs.toArray[j] := by rw [List.getElem?_eq_getElem (by simpa using g1)]; simp
    have j2 : us[j]? = some us.toArray[j] := by rw [List.getElem?_eq_getElem (by simpa using g2)]; simp
    have hj : j < 5 := by have := al.length; have h5 : vs.length = 5 := this; rw [List.size_toArray, h5] at g1; exact g1
    obtain ⟨P, hP, p1⟩ := al.get' j1
    obtain ⟨P', hP', p2⟩ := al'.get' j2
    generalize vs.toArray[j] = v1 at p1 ⊢
    generalize us.toArray[j] = v2 at p2 ⊢
    have int : ∀ i : Int, (dInt i).p K v1 → (dInt i).p K v2 → wpAny (model prog w) A.in1 (eqBool v1 v2) Q E s := by
      rintro i ⟨t, rfl⟩ ⟨t', rfl⟩
      have := EqAt.int_int (A := A.in1) (s := s) i t i t'
      rw [beq_self_eq_true] at this
      exact this prog w E Q hq
    match j, hj with
    | 0, _ => cases hP; cases hP'; exact int _ p1 p2
    | 1, _ => cases hP; cases hP'; exact int _ p1 p2
    | 2, _ => cases hP; cases hP'; exact int _ p1 p2
    | 3, _ => cases hP; cases hP'; exact int _ p1 p2
    | 4, _ => cases hP; cases hP'; exact eqp_dict he (by show A.units + 1 + 20 < _; omega) hk0 p1 p2 E Q hq
  · refine ⟨(fun x => nomatch x), ?_⟩
    have l1 : vs.toArray.size = 5 := by rw [List.size_toArray]; exact al.length
    have l2 : us.toArray.size = 5 := by rw [List.size_toArray]; exact al'.length
    rw [l1, l2]
    exact k K s _ (.refl hk0) rfl
theorem mul_small {a b : Int} (h : a.natAbs < 2 ^ 63) : IntMulOk a b := IntMulOk.of_left (by
  unfold Builtin.Int.intBits
  split
  · omega
  · have := Nat.log2_lt (n := a.natAbs) (k := 63) (by rename_i h0; intro e; apply h0; simp [Int.natAbs_eq_zero.mp e])
    have h2 := this.mpr h
    omega)
end
end Mine
end
/-! part E0 -/
section
open PySem PySem.Calls PySem.Spec PyProof.Rows PySem.W PySem.SeqAt
set_option Elab.async false
set_option linter.unusedVariables false
set_option maxRecDepth 100000
namespace Mine
section
variable {prog : Program} {w : World} {mg mb : Str → Option Value}
/-! ### the one table of codes that may grow: __str__'s -/
structure TabAt (X : Kn) (ps : Array Value) : Prop where
  at_ : X 76 = some (tabObj ps)
  ok : TriplesOk ps.toList
/-- all stays but the table, and that has grown -/
structure ExtT (s s' : Shared) (K K' : Kn) (ps : Array Value) : Prop where
  rest : Rest s s'
  keep : ∀ b o, b ≠ 76 → s.heap.get? b = some o → s'.heap.get? b = some o
  tab : ∃ more, TabAt (hk s'.heap) (ps ++ more)
  le : Kle K K'
  old : ∀ a o, s.heap.get? a = some o → K' a = K a
  kin : Kle K' (hk s'.heap)
section
variable {F : Fm} {ρ ρ' : Ro prog w} {Φ Φ' : Out → Ro prog w → Prop}
/-- as Ex; the table may grow -/
noncomputable def ExT (F : Fm) (ss : List Stmt) (ρ : Ro prog w) (Φ : Out → Ro prog w → Prop) : Prop :=
  Wr (∀ (K X : Kn) (s : Shared) (ps : Array Value) (Q : Flow → Shared → Prop) (E : Value → Shared → Prop), Sat F K X ρ s → TabAt X ps → K 76 = none →
    (∀ K' X' s' fl o ρ' more, Φ o ρ' → o.is K' fl → Sat F K' X' ρ' s' → TabAt X' (ps ++ more) → (∀ a, a ≠ 76 → X' a = X a) → Stp s s' K K' X → Q fl s') → wpAny (model prog w) F.A (execs ss F.env) Q E s)
theorem ExT.of {ss : List Stmt} (h : Ex F ss ρ Φ) : ExT F ss ρ Φ := Wr.mk <| fun K X s ps Q E S T hK k => h.out K X s Q E S fun K' s' fl o ρ' hp hi S' st =>
  k K' X s' fl o ρ' #[] hp hi S' (by rw [Array.append_empty]; exact T) (fun _ _ => rfl) st
theorem ExT.none76 {K K' X : Kn} {s s' : Shared} {ps : Array Value} (st : Stp s s' K K' X) (T : TabAt X ps) (h : K 76 = none) : K' 76 = none := (st.old _ _ T.at_).trans h
theorem ExT.seqE {st : Stmt} {rest : List Stmt} (h : Ex F [st] ρ fun o ρ' => match o with | .next => ExT F rest ρ' Φ | o => Φ o ρ') : ExT F (st :: rest) ρ Φ := Wr.mk <| fun K X s ps Q E S T hK k => by
  have h1 := h.out K X s (fun f s' => match f with | .next => wpAny (model prog w) F.A (execs rest F.env) Q E s' | f => Q f s') E S fun K' s' fl o ρ' hp hi S' st => by
    have T' : TabAt X (ps ++ #[]) := by rw [Array.append_empty]; exact T
    cases o with
    | next => cases hi; exact (show ExT F rest ρ' Φ from hp).out K' X s' ps Q E S' T (ExT.none76 st T hK) fun K'' X'' s'' fl o ρ'' more hp' hi' S'' T'' hX st' => k K'' X'' s'' fl o ρ'' more hp' hi' S'' T'' hX (st.trans st')
    | brk => cases hi; exact k K' X s' _ .brk ρ' #[] hp rfl S' T' (fun _ _ => rfl) st
    | cont => cases hi; exact k K' X s' _ .cont ρ' #[] hp rfl S' T' (fun _ _ => rfl) st
    | ret P =>
      obtain ⟨v, rfl, hv⟩ := hi
      exact k K' X s' _ (.ret P) ρ' #[] hp ⟨v, rfl, hv⟩ S' T' (fun _ _ => rfl) st
  intro Γ p hΓ
  have h3 := h1 Γ p hΓ
  rw [execs_cons, Sem.wp_bind'] at h3 ⊢
  refine Sem.wp_mono _ Γ _ (fun f p' s' h' => ?_) (fun _ _ _ h' => h') _ _ h3
  cases f with
  | next =>
    rw [execs_nil] at h'
    exact (show wpAny (model prog w) F.A (execs rest F.env) Q E s' from h') Γ p' hΓ
  | brk => exact h'
  | cont => exact h'
  | ret v => exact h'
theorem ExT.seq {st : Stmt} {rest : List Stmt} (h : ExT F [st] ρ fun o ρ' => match o with | .next => ExT F rest ρ' Φ | o => Φ o ρ') : ExT F (st :: rest) ρ Φ := Wr.mk <| fun K X s ps Q E S T hK k => by
  have h1 := h.out K X s ps (fun f s' => match f with | .next => wpAny (model prog w) F.A (execs rest F.env) Q E s' | f => Q f s') E S T hK fun K' X' s' fl o ρ' more hp hi S' T' hX st => by
    cases o with
    | next =>
      cases hi
      refine (show ExT F rest ρ' Φ from hp).out K' X' s' _ Q E S' T' (ExT.none76 st T hK) fun K'' X'' s'' fl o ρ'' more' hp' hi' S'' T'' hX' st' => k K'' X'' s'' fl o ρ'' (more ++ more') hp' hi' S'' (by rw [← Array.append_assoc]; exact T'') (fun a ha => (hX' a ha).trans (hX a ha)) ?_
      refine ⟨st.rest.trans st'.rest, st.le.trans st'.le, fun a o e => ?_⟩
      by_cases ha : a = 76
      · subst ha; exact (st'.old _ _ T'.at_).trans (st.old _ _ e)
      · exact (st'.old a o ((hX a ha).trans e)).trans (st.old a o e)
    | brk => cases hi; exact k K' X' s' _ .brk ρ' more hp rfl S' T' hX st
    | cont => cases hi; exact k K' X' s' _ .cont ρ' more hp rfl S' T' hX st
    | ret P =>
      obtain ⟨v, rfl, hv⟩ := hi
      exact k K' X' s' _ (.ret P) ρ' more hp ⟨v, rfl, hv⟩ S' T' hX st
  intro Γ p hΓ
  have h3 := h1 Γ p hΓ
  rw [execs_cons, Sem.wp_bind'] at h3 ⊢
  refine Sem.wp_mono _ Γ _ (fun f p' s' h' => ?_) (fun _ _ _ h' => h') _ _ h3
  cases f with
  | next =>
    rw [execs_nil] at h'
    exact (show wpAny (model prog w) F.A (execs rest F.env) Q E s' from h') Γ p' hΓ
  | brk => exact h'
  | cont => exact h'
  | ret v => exact h'
theorem ExT.last {st : Stmt} (h : ∀ (K X : Kn) (s : Shared) (ps : Array Value) (Q : Flow → Shared → Prop) (E : Value → Shared → Prop), Sat F K X ρ s → TabAt X ps → K 76 = none →
    (∀ K' X' s' fl o ρ' more, Φ o ρ' → o.is K' fl → Sat F K' X' ρ' s' → TabAt X' (ps ++ more) → (∀ a, a ≠ 76 → X' a = X a) → Stp s s' K K' X → Q fl s') → wpAny (model prog w) F.A (exec st F.env) Q E s) : ExT F [st] ρ Φ := Wr.mk <| fun K X s ps Q E S T hK k => by
  refine wpAny_execs_cons (wpAny_mono (h K X s ps Q E S T hK k) (fun fl s' hq => ?_) fun _ _ x => x)
  cases fl with
  | next => exact wpAny_execs_nil hq
  | brk => exact hq
  | cont => exact hq
  | ret v => exact hq
theorem ExT.while {test : PySem.Expr} {body : List Stmt} {pos : Pos} (Inv : Nat → Ro prog w → Prop) (n : Nat) (h0 : Inv n ρ)
    (turn : ∀ n ρ, Inv n ρ → ∃ b, Eb F test ρ b ∧ (b = false → Φ .next ρ) ∧ (b = true → ExT F body ρ (Turn (fun ρ' => ∃ m, m < n ∧ Inv m ρ') Φ)))
    (hm : F.A.mark none = F.A := by rfl) :
    ExT F [.While test body [] pos] ρ Φ := ExT.last fun K X s ps Q E S T hK k => by
  refine wpAny_bind (wpAny_standAt (wpAny_runOwn ?_))
  rw [hm]
  refine codeAny_whileLoop (fun n s' => ∃ K' X' ρ' more, Inv n ρ' ∧ Sat F K' X' ρ' s' ∧ TabAt X' (ps ++ more) ∧ (∀ a, a ≠ 76 → X' a = X a) ∧ Stp s s' K K' X) ?_ n ⟨K, X, ρ, #[], h0, S, by rw [Array.append_empty]; exact T, fun _ _ => rfl, .refl _ _ _⟩
  rintro n s₁ ⟨K₁, X₁, ρ₁, m₁, hi, S₁, T₁, hX₁, st₁⟩
  obtain ⟨b, hb, hf, ht⟩ := turn n ρ₁ hi
  refine hb.out K₁ X₁ s₁ _ _ S₁ fun K₂ s₂ e₂ => ?_
  have tr : ∀ {s' : Shared} {K' X' : Kn}, (∀ a, a ≠ 76 → X' a = X a) → ∀ {ps' : Array Value}, TabAt X' ps' → ∀ {s'' : Shared} {K'' : Kn}, Stp s s' K K' X → Stp s' s'' K' K'' X' → Stp s s'' K K'' X := fun hX _ T' _ _ a b => ⟨a.rest.trans b.rest, a.le.trans b.le, fun c o e => by
    by_cases hc : c = 76
    · subst hc; exact (b.old _ _ T'.at_).trans (a.old _ _ e)
    · exact (b.old c o ((hX c hc).trans e)).trans (a.old c o e)⟩
  have st₂ := tr hX₁ T₁ st₁ (e₂.stp S₁.xin)
  cases b with
  | false =>
    refine wpAny_execs_nil ?_
    exact k K₂ X₁ s₂ .next .next ρ₁ m₁ (hf rfl) rfl (S₁.ext e₂) T₁ hX₁ st₂
  | true =>
    refine (ht rfl).out K₂ X₁ s₂ _ _ _ (S₁.ext e₂) T₁ (ExT.none76 st₂ T hK) fun K₃ X₃ s₃ fl o ρ₃ m₃ hp hi₃ S₃ T₃ hX₃ st₃ => ?_
    have st := tr hX₁ T₁ st₂ st₃
    have hX : ∀ a, a ≠ 76 → X₃ a = X a := fun a ha => (hX₃ a ha).trans (hX₁ a ha)
    rw [Array.append_assoc] at T₃
    cases o with
    | next => cases hi₃; obtain ⟨m, hm', hI⟩ := hp; exact ⟨m, hm', K₃, X₃, ρ₃, _, hI, S₃, T₃, hX, st⟩
    | cont => cases hi₃; obtain ⟨m, hm', hI⟩ := hp; exact ⟨m, hm', K₃, X₃, ρ₃, _, hI, S₃, T₃, hX, st⟩
    | brk => cases hi₃; exact k K₃ X₃ s₃ .next .next ρ₃ _ hp rfl S₃ T₃ hX st
    | ret P => obtain ⟨v, rfl, hv⟩ := hi₃; exact k K₃ X₃ s₃ _ (.ret P) ρ₃ _ hp ⟨v, rfl, hv⟩ S₃ T₃ hX st
theorem ExT.freeze {ss : List Stmt} {x : Str} {R : V prog w} (hx : ρ x = some R) (h : ExT F ss (upd ρ x (.frz R.cold)) Φ) : ExT F ss ρ Φ := Wr.mk <| fun K X s ps Q E S T hK k => by
  obtain ⟨K', S', hle, hold⟩ := S.freeze hx
  exact h.out K' X s ps Q E S' T ((hold _ _ T.at_).trans hK) fun K₂ X₂ s₂ fl o ρ₂ more hp hi S₂ T₂ hX st => k K₂ X₂ s₂ fl o ρ₂ more hp hi S₂ T₂ hX ⟨st.rest, hle.trans st.le, fun a o q => (st.old a o q).trans (hold a o q)⟩
theorem Off.of_X {K X X' : Kn} {s : Shared} {b : Addr} {o : Obj} (hb : X b = some o) (S : Sat F K X ρ s) (hx : X' b = none) (hk0 : K b = none) (hc : ∀ x c, F.env.cells.lookup x = some c → c ≠ b) : Off F K X' ρ s b := by
  refine ⟨hk0, hx, ?_, hc, fun x V hx' ho' H => ?_⟩
  · rintro rfl; rw [S.xl] at hb; cases hb
  · obtain ⟨u, h1, h2, h3⟩ := S.vars x V hx'
    have := h1.inj H
    subst this
    obtain ⟨a, e, _, h5, _⟩ := h3 ho'
    cases e
    rw [h5] at hb; cases hb
theorem ExT.for {n : Nat} {x : Str} {px pos : Pos} {iter : PySem.Expr} {body : List Stmt} {R : V prog w} {Ps : List DP} (ok : Fok n F) (hx : Own1 F x) (hi : Ev F iter ρ R) (it : Itr prog w F.A R Ps)
    (Inv : Nat → Ro prog w → Prop) (h0 : Inv 0 ρ)
    (turn : ∀ i P ρ, Ps[i]? = some P → Inv i ρ → ExT F body (upd ρ x (.frz P)) (Turn (Inv (i + 1)) Φ))
    (done : ∀ ρ, Inv Ps.length ρ → Φ .next ρ)
    (hs : ∀ x, foldedSetIterable iter F.env x = pure x := by intro _; with_unfolding_all rfl) (hm : F.A.mark none = F.A := by rfl) :
    ExT F [.For (.Name x px) iter body [] pos] ρ Φ := ExT.last fun K X s ps Q E S T hK k => by
  refine wpAny_For (hi.out K X s _ E S fun K₁ s₁ v e₁ hv => ?_) hs
  have S₁ := S.ext e₁
  refine it K₁ s₁ v _ E S₁.kin hv fun I fp wr St h' tk W st0 keep hnew hob hfp => ?_
  have e₂ : Ext s₁ { s₁ with heap := h', toks := tk } K₁ K₁ := .grow S₁.kin keep
  have S₂ := S₁.ext e₂
  have off₂ : ∀ b ∈ wr, Off F K₁ X ρ { s₁ with heap := h', toks := tk } b := fun b hb => (Off.fresh S₁ (hnew b hb)).ext S₁ (hnew b hb) e₂ (Off.fresh S₁ (hnew b hb)).k
  have st₂ : Stp s { s₁ with heap := h', toks := tk } K K₁ X := (e₁.trans e₂).stp S.xin
  refine codeAny_forLoop (fun m s' => ∃ K' X' ρ' i more, Inv i ρ' ∧ Sat F K' X' ρ' s' ∧ TabAt X' (ps ++ more) ∧ (∀ a, a ≠ 76 → X' a = X a) ∧ (∀ b ∈ wr, Off F K' X' ρ' s' b) ∧ Stp s s' K K' X ∧ Kle K₁ K' ∧ St i s'.heap ∧ i ≤ Ps.length ∧ m = Ps.length + 1 - i) ?_ (Ps.length + 1)
    ⟨K₁, X, ρ, 0, #[], h0, S₂, by rw [Array.append_empty]; exact T, fun _ _ => rfl, off₂, st₂, .refl _, st0, Nat.zero_le _, rfl⟩
  rintro m s' ⟨K', X', ρ', i, more, hI, S', T', hX', off', st', le', hst, hile, rfl⟩
  have h76w : (76 : Addr) ∉ wr := fun hb => by have := (off' _ hb).x; rw [T'.at_] at this; cases this
  by_cases hlt : i < Ps.length
  · refine W.item i _ _ _ hlt hst fun u h'' tk' hP hst' hk' => ?_
    obtain ⟨P, hPi, hu⟩ := hP
    obtain ⟨S'', off''⟩ := S'.touch (tk := tk') off' hk'
    have SX := S''.addX off'' S''.xin
    have TX : TabAt (addX X' wr h'') (ps ++ more) := ⟨(addX_out h76w).trans T'.at_, T'.ok⟩
    refine wpAny_assign_Name (store_name ok SX hx (.frz (P.mono le' hu)) fun s₃ S₃ r₃ => ?_)
    refine (turn i P ρ' hPi hI).out K' _ s₃ _ _ _ S₃ TX (ExT.none76 st' T hK) fun K₄ X₄ s₄ fl o ρ₄ m₄ hp hi₄ S₄ T₄ hX₄ st₄ => ?_
    let Xn : Kn := fun a => if a = 76 then X₄ 76 else X a
    have hXn : ∀ a, a ≠ 76 → Xn a = X a := fun a ha => if_neg ha
    have hne : ∀ {b : Addr}, b ∈ wr → b ≠ 76 := fun hb e => h76w (e ▸ hb)
    have hX4 : ∀ b ∈ wr, ∃ o, h''.get? b = some o ∧ X₄ b = some o := fun b hb => by
      obtain ⟨o, ho⟩ := hob _ _ hst' b hb
      exact ⟨o, ho, (hX₄ b (hne hb)).trans ((addX_in hb).trans ho)⟩
    have le4 : Kle K₁ K₄ := le'.trans st₄.le
    have hXle : Kle Xn X₄ := fun a o e => by
      by_cases ha : a = 76
      · subst ha; exact (if_pos rfl).symm.trans e
      · have e' : X a = some o := (hXn a ha).symm.trans e
        have haw : a ∉ wr := fun hb => by have := (off' a hb).x; rw [hX' a ha, e'] at this; cases this
        rw [hX₄ a ha, addX_out haw, hX' a ha]; exact e'
    have hst4 : St (i + 1) s₄.heap := W.frame _ _ _ hst' fun b hb o e => by
      by_cases hbw : b ∈ wr
      · obtain ⟨o2, h1, h2⟩ := hX4 b hbw
        have h3 := S₄.xin b o2 h2
        rw [h1] at e; cases e; exact h3
      · rcases hfp b hb with h1 | ⟨o', h1⟩
        · exact absurd h1 hbw
        · have h3 := S₄.kin b o' (le4 b o' h1)
          have h4 := S''.kin b o' (le' b o' h1)
          rw [show hk h'' b = h''.get? b from rfl, e] at h4
          cases h4; exact h3
    have hxn : ∀ b ∈ wr, Xn b = none := fun b hb => by rw [hXn b (hne hb), ← hX' b (hne hb)]; exact (off' b hb).x
    have off4 : ∀ b ∈ wr, Off F K₄ Xn ρ₄ s₄ b := fun b hb => by
      obtain ⟨o2, h1, h2⟩ := hX4 b hb
      refine Off.of_X h2 S₄ (hxn b hb) ?_ (off' b hb).c
      rw [st₄.old b o2 ((addX_in hb).trans h1)]; exact (off' b hb).k
    have S4 : Sat F K₄ Xn ρ₄ s₄ := S₄.lessX hXle
    have T4 : TabAt Xn (ps ++ (more ++ m₄)) := ⟨(if_pos rfl).trans (by rw [← Array.append_assoc]; exact T₄.at_), by rw [← Array.append_assoc]; exact T₄.ok⟩
    have st4 : Stp s s₄ K K₄ X := st'.trans ⟨⟨(r₃.trans st₄.rest).os, (r₃.trans st₄.rest).gens⟩, st₄.le, fun a o e => by
      by_cases ha : a = 76
      · subst ha; exact st₄.old _ _ TX.at_
      · have haw : a ∉ wr := fun hb => by have := (off' a hb).x; rw [hX' a ha, e] at this; cases this
        exact st₄.old a o ((addX_out haw).trans ((hX' a ha).trans e))⟩
    have go : ∀ ρ₅, ρ₅ = ρ₄ → Inv (i + 1) ρ₅ → ∃ m, m < Ps.length + 1 - i ∧ ∃ K' X' ρ' i more, Inv i ρ' ∧ Sat F K' X' ρ' s₄ ∧ TabAt X' (ps ++ more) ∧ (∀ a, a ≠ 76 → X' a = X a) ∧ (∀ b ∈ wr, Off F K' X' ρ' s₄ b) ∧ Stp s s₄ K K' X ∧ Kle K₁ K' ∧ St i s₄.heap ∧ i ≤ Ps.length ∧ m = Ps.length + 1 - i := by
      intro ρ₅ e5 hI'
      subst e5
      exact ⟨Ps.length + 1 - (i + 1), by omega, K₄, Xn, _, i + 1, _, hI', S4, T4, hXn, off4, st4, le4, hst4, hlt, rfl⟩
    cases o with
    | next => cases hi₄; exact go ρ₄ rfl hp
    | cont => cases hi₄; exact go ρ₄ rfl hp
    | brk => cases hi₄; exact k K₄ Xn s₄ .next .next ρ₄ _ hp rfl S4 T4 hXn st4
    | ret P => obtain ⟨v, rfl, hv⟩ := hi₄; exact k K₄ Xn s₄ _ (.ret P) ρ₄ _ hp ⟨v, rfl, hv⟩ S4 T4 hXn st4
  · have hin : i = Ps.length := by omega
    subst hin
    refine W.done _ _ _ hst fun h'' tk' hk' => ?_
    obtain ⟨S'', _⟩ := S'.touch (tk := tk') off' hk'
    exact wpAny_execs_nil (k K' X' _ .next .next ρ' more (done ρ' hI) rfl S'' T' hX' (st'.trans ⟨⟨rfl, .refl _⟩, .refl _, fun _ _ _ => rfl⟩))
end
/-- what a call does, told of the call's own code; no frame stands around it -/
noncomputable def SpecC (prog : Program) (w : World) (g : Heap) (n : Nat) (f : Addr) (Ps : List DP) (P : DP) : Prop :=
  ∀ (A : Around) (K : Kn) (s : Shared) (vs : List Value) (ps : Array Value) (R : Result → Shared → Prop), Rm n A → A.frames = some [] → Kle (hk g) K → Kle K (hk s.heap) → TabAt (hk s.heap) ps → K 76 = none → Al K Ps vs → (∀ K' s' v, ExtT s s' K K' ps → P.p K' v → R (.ok (.ret v)) s') → codeAny (model prog w) A (.call (.ref f) ⟨vs, []⟩) R s
theorem SpecC.enter {g : Heap} {n : Nat} {f : Addr} {o : Obj} {fd : FuncData} {body : List Stmt} {xs : List Str} {Ps : List DP} {P : DP} (G : Gl g mg mb) (hmods : ∃ o, g.get? sysModules = some o) (ho : g.get? f = some o) (hd : o.data = .func fd) (fo : FnOk g fd body xs)
    (hl : xs.length = Ps.length) (h : ∀ F, IsFrame g n fd F → F.A.frames = some [F.env] → ExT F body (parR xs Ps : Ro prog w) fun o _ => o = .ret P) : SpecC prog w g (n + 1) f Ps P := fun A K s vs ps R rm hfr hgk hkin T hK al k => by
  have kp := hk_keeps hgk hkin
  have hlen : vs.length = xs.length := al.length.trans hl.symm
  refine (codeAny_call_cells rm.lt (kp _ _ ho) hd (G.lim.keeps kp) (fo.code.keeps kp) fo.body (fo.bind vs hlen) fo.clo ?_ ?_ fo.co fo.gen fo.kind)
  · intro x hx
    have hx' : x.1 ∈ xs := by
      have := List.mem_map_of_mem (f := (·.1)) hx
      rwa [zip_keys _ _ hlen.symm] at this
    rcases fo.par _ hx' with h1 | h1
    · exact .inl h1
    · refine .inr ⟨h1, ?_⟩
      obtain ⟨c, hc, _⟩ := lookup_cellsFrom_in fd.scope.names (s.heap.objs.size + 1) [] (mem_cellNames h1)
      rw [hc]; rfl
  · intro s₁ x
    let F : Fm := ⟨callEnvC fd s.heap.objs.size f, A.deeper (callEnvC fd s.heap.objs.size f), g, cellNames fd.scope.names⟩
    have hF : IsFrame g n fd F := ⟨rfl, rfl, rfl, ⟨_, _, rfl⟩, ⟨fo.kind, fo.glob, fo.bui, rm.deeper _, hmods⟩⟩
    have hFr : F.A.frames = some [F.env] := Around.frames_deeper hfr
    obtain ⟨h₁, tk₁, rfl⟩ := x.toInCall.same
    have hfr : ∀ a, s.heap.objs.size ≤ a → s.heap.get? a = none := fun a => none_of_fresh
    have hkd : ∀ y, F.env.kindOf y = fd.scope.names.lookup y := fun _ => rfl
    have S : Sat F K (hk s.heap) (parR xs Ps : Ro prog w) { s with heap := h₁, toks := tk₁ } := by
      refine ⟨hgk, fun a o q => x.toInCall.keep a o (hkin a o q), fun a o q => x.toInCall.keep a o q, ⟨_, x.toInCall.ns⟩, kn_none hkin (hfr _ x.toInCall.fresh), hfr _ x.toInCall.fresh, ?_, ?_, ?_, ?_, ?_⟩
      · intro y hy
        obtain ⟨c, hc, hle⟩ := lookup_cellsFrom_in fd.scope.names (s.heap.objs.size + 1) [] hy
        have hc0 := hfr c (Nat.le_of_succ_le hle)
        exact ⟨c, _, (hkd y).trans (fo.cell y hy), hc, x.cell y c hc, kn_none hkin hc0, hc0⟩
      · intro y c _ hc z hz
        exact name_of_addr x.apart (mem_of_lookup hz) (mem_of_lookup hc)
      · intro y c hc
        obtain ⟨o', ho', _⟩ := x.cell y c hc
        exact ⟨o', ho'⟩
      · intro y V hy
        unfold parR at hy
        obtain ⟨P', hP', rfl⟩ := Option.map_eq_some_iff.mp hy
        obtain ⟨v, hm, hv⟩ := zip_al al hP'
        have hyx : y ∈ xs := by
          have := List.mem_map_of_mem (f := (·.1)) hm
          rwa [zip_keys _ _ hlen.symm] at this
        have hnd : ((xs.zip vs).map (·.1)).Nodup := by rw [zip_keys _ _ hlen.symm]; exact fo.nodup
        refine ⟨v, ?_, hv, fun e => nomatch e⟩
        rcases fo.par y hyx with h1 | h1
        · exact .inl ⟨(hkd y).trans h1, _, x.toInCall.ns, bindL_at _ _ _ _ hnd hm ((hkd y).trans h1)⟩
        · obtain ⟨c, hc, _⟩ := lookup_cellsFrom_in fd.scope.names (s.heap.objs.size + 1) [] (mem_cellNames h1)
          refine .inr ⟨.inl ((hkd y).trans h1), c, hc, ?_⟩
          have h2 := x.cell y c hc
          rwa [bindC_at _ _ _ _ hnd hm (by rw [hkd y |>.trans h1]; intro e; cases e)] at h2
      · intro y z a Vy Vz _ hy _ oy
        unfold parR at hy
        obtain ⟨P', _, rfl⟩ := Option.map_eq_some_iff.mp hy
        cases oy
    refine (h F hF hFr).out K (hk s.heap) _ _ _ _ S T hK fun K' X' s' fl o ρ' more hp hi S' T' hX st => ?_
    subst hp
    obtain ⟨v, rfl, hv⟩ := hi
    exact k K' s' v ⟨⟨st.rest.os, st.rest.gens⟩, fun b o hb q => S'.xin b o ((hX b hb).trans q), ⟨more, S'.xin _ _ T'.at_, T'.ok⟩, st.le, fun a o q => st.old a o q, S'.kin⟩ hv

/-! ### a call in which the caller's own frame object may be made ready (its slots change) -/
structure ExtS (L : Addr) (s s' : Shared) (K K' : Kn) (ps : Array Value) : Prop where
  rest : Rest s s'
  keep : ∀ b o, b ≠ L → b ≠ 76 → s.heap.get? b = some o → s'.heap.get? b = some o
  slot : ∀ o, s.heap.get? L = some o → ∃ sl, s'.heap.get? L = some { o with slots := sl }
  tab : ∃ more, TabAt (hk s'.heap) (ps ++ more)
  le : Kle K K'
  old : ∀ a o, s.heap.get? a = some o → K' a = K a
  kin : Kle K' (hk s'.heap)
noncomputable def SpecS (prog : Program) (w : World) (g : Heap) (n : Nat) (f : Addr) (Ps : List DP) (P : DP) : Prop :=
  ∀ (A : Around) (K : Kn) (s : Shared) (vs : List Value) (ps : Array Value) (Q E : Value → Shared → Prop) (env : Env) (L : Addr) (m : Str → Option Value), Rm n A → A.frames = some [env] → env.scope.kind = .function → env.frame = some L → s.heap.Ns L m → K L = none →
    TabAt (hk s.heap) ps → K 76 = none → Kle (hk g) K → Kle K (hk s.heap) → Al K Ps vs → (∀ K' s' v, ExtS L s s' K K' ps → P.p K' v → Q v s') → wpAny (model prog w) A (call (.ref f) vs []) Q E s
section
variable {F : Fm} {K K' X : Kn} {ρ ρ' : Ro prog w} {s s' : Shared} {Φ : Out → Ro prog w → Prop}
theorem ns_slots {h h' : Heap} {L : Addr} {m : Str → Option Value} (hs : ∀ o, h.get? L = some o → ∃ sl, h'.get? L = some { o with slots := sl }) (hn : h.Ns L m) : h'.Ns L m := by
  obtain ⟨o, es, ep, ho, hd, r⟩ := hn
  obtain ⟨sl, h1⟩ := hs o ho
  exact ⟨_, es, ep, h1, hd, r⟩
theorem Sat.extS {ps : Array Value} (S : Sat F K X ρ s) (T : TabAt X ps) (e : ExtS F.env.locals s s' K K' ps) : ∃ X' more, Sat F K' X' ρ s' ∧ TabAt X' (ps ++ more) ∧ ∀ a, a ≠ 76 → X' a = X a := by
  obtain ⟨m0, hn0⟩ := S.ns
  have hn1 := ns_slots e.slot hn0
  obtain ⟨more, T'⟩ := e.tab
  let X' : Kn := fun a => if a = 76 then some (tabObj (ps ++ more)) else X a
  have hX' : ∀ a, a ≠ 76 → X' a = X a := fun a ha => if_neg ha
  have x76 : ∀ {a : Addr}, X a = none → a ≠ 76 := fun h q => by subst q; rw [T.at_] at h; cases h
  have hh : ∀ {y : Str} {u : Value}, (∃ V, ρ y = some V) ∨ y ∈ F.mine ∨ True → Holds F.env s.heap y u → (∀ c, F.env.cells.lookup y = some c → c ≠ 76) → Holds F.env s'.heap y u := by
    rintro y u - (⟨q, m, hn, hm⟩ | ⟨q, c, hc, hv⟩) h76
    · exact .inl ⟨q, m, ns_slots e.slot hn, hm⟩
    · refine .inr ⟨q, c, hc, ?_⟩
      have hne := cell_ne_ns hn0 hv
      obtain ⟨o, ho, hd⟩ := hv
      exact ⟨o, e.keep c o hne (h76 c hc) ho, hd⟩
  have tabnc : ∀ {c : Addr} {v : Option Value}, s.heap.IsCell c v → c ≠ 76 := fun {c v} hv q => by
    subst q
    obtain ⟨o, ho, hd⟩ := hv
    have := S.xin _ _ T.at_
    rw [show hk s.heap 76 = s.heap.get? 76 from rfl, ho] at this
    cases this; cases hd
  have hold : ∀ {y : Str} {u : Value}, Holds F.env s.heap y u → Holds F.env s'.heap y u := by
    rintro y u (⟨q, m, hn, hm⟩ | ⟨q, c, hc, hv⟩)
    · exact .inl ⟨q, m, ns_slots e.slot hn, hm⟩
    · refine .inr ⟨q, c, hc, ?_⟩
      have hne := cell_ne_ns hn0 hv
      have h76 := tabnc hv
      obtain ⟨o, ho, hd⟩ := hv
      exact ⟨o, e.keep c o hne h76 ho, hd⟩
  refine ⟨X', more, ⟨S.gk.trans e.le, e.kin, fun a o h => ?_, ⟨_, hn1⟩, ?_, ?_, fun x hx => ?_, S.inj, fun x c hc => ?_, fun x V hx => ?_, fun x y a Vx Vy hxy hx hy ox oy H1 H2 => ?_⟩, ⟨if_pos rfl, T'.ok⟩, hX'⟩
  · by_cases ha : a = 76
    · subst ha
      have h' : some (tabObj (ps ++ more)) = some o := (if_pos rfl).symm.trans h
      rw [← h']; exact T'.at_
    · have h' := (hX' a ha).symm.trans h
      exact e.keep a o (by rintro rfl; rw [S.xl] at h'; cases h') ha (S.xin a o h')
  · obtain ⟨o, _, _, ho, _⟩ := hn0
    rw [e.old _ _ ho]; exact S.kl
  · rw [hX' _ (x76 S.xl)]; exact S.xl
  · obtain ⟨c, v, h1, h2, h3, h4, h5⟩ := S.cel x hx
    have hne := cell_ne_ns hn0 h3
    obtain ⟨o, ho, hd⟩ := h3
    exact ⟨c, v, h1, h2, ⟨o, e.keep c o hne (x76 h5) ho, hd⟩, by rw [e.old _ _ ho]; exact h4, by rw [hX' _ (x76 h5)]; exact h5⟩
  · obtain ⟨o, ho⟩ := S.live x c hc
    by_cases q : c = F.env.locals
    · subst q; obtain ⟨sl, h1⟩ := e.slot o ho; exact ⟨_, h1⟩
    · by_cases q2 : c = 76
      · subst q2; exact ⟨_, T'.at_⟩
      · exact ⟨o, e.keep c o q q2 ho⟩
  · obtain ⟨u, h1, h2, h3⟩ := S.vars x V hx
    refine ⟨u, hold h1, ?_, fun ho => ?_⟩
    · cases V with
      | frz P => exact P.mono e.le h2
      | lst Ps =>
        obtain ⟨a, vs, n, rfl, q1, q2⟩ := h2
        obtain ⟨a', ea, _, hx', hl⟩ := h3 rfl
        cases ea
        exact ⟨a, vs, n, rfl, e.keep a _ hl (x76 hx') q1, q2.mono e.le⟩
      | sdc kvs =>
        obtain ⟨a, o, rfl, q1, q2, q3⟩ := h2
        obtain ⟨a', ea, _, hx', hl⟩ := h3 rfl
        cases ea
        exact ⟨a, o, rfl, e.keep a _ hl (x76 hx') q1, q2, q3.mono e.le⟩
      | idc kvs =>
        obtain ⟨a, o, rfl, q1, q2, q3⟩ := h2
        obtain ⟨a', ea, _, hx', hl⟩ := h3 rfl
        cases ea
        exact ⟨a, o, rfl, e.keep a _ hl (x76 hx') q1, q2, q3.mono e.le⟩
      | obj D =>
        obtain ⟨a, o, rfl, q1, q2, q3⟩ := h2
        obtain ⟨a', ea, _, hx', hl⟩ := h3 rfl
        cases ea
        exact ⟨a, o, rfl, e.keep a _ hl (x76 hx') q1, q2, D.mono e.le q3⟩
    · obtain ⟨a, rfl, h4, h5, h6⟩ := h3 ho
      obtain ⟨b, o, hb, hG⟩ := V.own_ref h2 ho
      cases hb
      exact ⟨a, rfl, by rw [e.old _ _ hG]; exact h4, by rw [hX' _ (x76 h5)]; exact h5, h6⟩
  · obtain ⟨u, h1, _⟩ := S.vars x Vx hx
    obtain ⟨u', h1', _⟩ := S.vars y Vy hy
    have e1 := (hold h1).inj H1
    have e2 := (hold h1').inj H2
    subst e1 e2
    exact S.sep x y a Vx Vy hxy hx hy ox oy h1 h1'
/-- x = f(args), the frame's own object made ready within, the table grown -/
theorem ExT.callS {n : Nat} {x y : Str} {px py pos spos : Pos} {args : List PySem.Expr} {f : Addr} {o : Obj} {fd : FuncData} {Ps : List DP} {P : DP} (ok : Fok n F) (G : Gl F.g mg mb) (hfr : F.A.frames = some [F.env]) (hfm : F.env.frame = some F.env.locals)
    (hy : Own1 F y) (hv : mg x = some (.ref f)) (ho : F.g.get? f = some o) (hf : o.data = .func fd) (ha : Evl F ρ args (Ps.map .frz)) (sp : SpecS prog w F.g n f Ps P) (h : Φ .next (upd ρ y (.frz P)))
    (hx : F.env.kindOf x = some .globalImplicit := by rfl) (ht : backTo pos (starEach args F.env) = args.map fun e => (false, eval e F.env) := by rfl)
    (hs : swapsWith (.Call (.Name x px) args [] pos) (some (.Name y py)) spos.line F.env = pure false := by with_unfolding_all rfl)
    (hd : (x == ("__debug__" : Str)) = false := by decide) : ExT F [.Assign [.Name y py] (.Call (.Name x px) args [] pos) spos] ρ Φ := ExT.last fun K X s ps Q E S T hK k => by
  refine wpAny_Assign_Name ?_ hs
  refine wpAny_Call_NameR (eval_glob ok G S hx hv ?_ hd)
  refine callWith_function (o := o) (fd := fd) (evalArgs_of (by rw [ht]; exact ha.evs) (by rw [ht]; exact plain_trees) S fun K₁ s₁ vs e₁ r => ?_)
  have S₁ := S.ext e₁
  refine ⟨⟨S₁.kin _ _ (S₁.gk _ _ ho), hf⟩, ?_⟩
  obtain ⟨m, hm⟩ := S₁.ns
  have st₁ : Stp s s₁ K K₁ X := e₁.stp S.xin
  refine sp F.A K₁ s₁ vs ps _ E F.env F.env.locals m ok.rm hfr ok.kind hfm hm S₁.kl ⟨S₁.xin _ _ T.at_, T.ok⟩ (ExT.none76 st₁ T hK) S₁.gk S₁.kin r.al fun K₂ s₂ v e₂ hv => ?_
  obtain ⟨X', more, S₂, T₂, hX⟩ := S₁.extS T e₂
  refine store_name ok S₂ hy (.frz hv) fun s₃ S₃ r₃ => ?_
  exact k K₂ X' s₃ .next .next _ more h rfl S₃ T₂ hX (st₁.trans ⟨e₂.rest.trans r₃, e₂.le, fun a o q => e₂.old a o (S₁.xin a o q)⟩)
end
end
end Mine
end
/-! part B9 -/
section
open PySem PySem.Calls PySem.Spec PyProof.Rows PySem.W PySem.SeqAt
set_option Elab.async false
set_option linter.unusedVariables false
set_option maxRecDepth 100000
set_option maxHeartbeats 6000000
namespace Mine

noncomputable def numAt (ns : List Int) (k : Int) : Int := ([100, 41, 0] : List Int).getD k.toNat 0 + (pickL ns (some k) (some 60) (some 3)).sum
noncomputable def dealOf (m : Int) : List Int := (upto 0 3).map fun k => ([1, 2, 3, 0, 127] : List Int).getD ((m.fdiv (5 ^ k.toNat)).fmod 5).toNat 0
theorem IsComp.nloc {F F' : Fm} {sc : Scope} {x : Str} (C : IsComp F sc F') (h : sc.names.lookup x = some .free) : F'.env.kindOf x ≠ some .local := by
  show F'.env.scope.names.lookup x ≠ _
  rw [C.scope]
  show (List.map _ sc.names).lookup x ≠ _
  rw [lookup_relabel, h]
  intro e
  simp only [Option.map_some, Option.some.injEq] at e
  split at e <;> exact nomatch e
theorem deal_szs (m : Int) : ∃ a b c : Fin 5, dealOf m = szs a b c := by
  have key : ∀ x : Int, ∃ a : Fin 5, ([1, 2, 3, 0, 127] : List Int).getD (x.fmod 5).toNat 0 = szAt a := fun x => by
    have h1 : 0 ≤ x.fmod 5 := Int.fmod_nonneg_of_pos x (by decide)
    have h2 : x.fmod 5 < 5 := Int.fmod_lt_of_pos x (by decide)
    have h3 : (x.fmod 5).toNat < 5 := by omega
    have : ∀ i : Fin 5, ([1, 2, 3, 0, 127] : List Int).getD i.val 0 = szAt i := by decide
    exact ⟨⟨_, h3⟩, this ⟨_, h3⟩⟩
  obtain ⟨a, ha⟩ := key (m.fdiv (5 ^ (0 : Int).toNat))
  obtain ⟨b, hb⟩ := key (m.fdiv (5 ^ (1 : Int).toNat))
  obtain ⟨c, hc⟩ := key (m.fdiv (5 ^ (2 : Int).toNat))
  refine ⟨a, b, c, ?_⟩
  show [_, _, _] = [_, _, _]
  rw [← ha, ← hb, ← hc]
  rfl
theorem ltr_row (i : Nat) : ltr i = rowS [i] := ltr_cp i

section
variable {prog : Program} {w : World} {g : Heap} {mg mb : Str → Option Value}
theorem len_row {F : Fm} {m : Nat} {ρ : Ro prog w} {ps : List Nat} {pos px p2 : Pos} (ok : Fok m F) (B : Base w F.g mg mb) (hx : F.env.kindOf "len" = some .globalImplicit) (h : ρ "pack" = some (.frz (dR ps))) (hl : ps.length ≤ 1000) : Ez F (.Call (.Name "len" px) [.Name "pack" p2] [] pos) ρ (dInt (ps.length : Int)) := by
  have := blt (pos := pos) (px := px) ok B.gl (B.no rfl) rfl (.one (Ev.name (pos := p2) ok h)) (bfn_len_str (by rw [rowS_len]; omega)) hx
  rw [rowS_len] at this
  exact this
theorem eb_same {F : Fm} {m : Nat} {ρ : Ro prog w} (n : Nat) (hn : n ≤ 2) (ok : Fok m F) {r cs : List Nat} (hrow : IsRow r) (hcs : IsRow cs) {p1 p2 p3 p4 p5 p6 p7 p8 p9 : Pos} {c1 c2 : Nat} (e1 : ρ "row" = some (.frz (dR r))) (e2 : ρ "cards" = some (.frz (dR cs))) :
    Eb F (.Compare (.Subscript (.Name "row" p1) (.Slice none (some (.Constant (.int (n : Nat)) c1 p2)) none p3) p4) [.Eq] [.Subscript (.Name "cards" p5) (.Slice none (some (.Constant (.int (n : Nat)) c2 p6)) none p7) p8] p9) ρ (decide (r.take n = cs.take n)) := by
  have := Eb.cmp (pos := p9) (ez_strTo (p := p3) (pos := p4) (Ev.name (pos := p1) ok e1) (Ez.int (i := (n : Nat)) (q := c1) (pos := p2)) (by rw [rowS_len, hrow.len]; decide)) (ez_strTo (p := p7) (pos := p8) (Ev.name (pos := p5) ok e2) (Ez.int (i := (n : Nat)) (q := c2) (pos := p6)) (by rw [rowS_len, hcs.len]; decide)) cmp_streq
  rw [slice_take (by rw [hrow.len]; decide) (by rw [hrow.len]; omega), slice_take (by rw [hcs.len]; decide) (by rw [hcs.len]; omega)] at this
  have e3 : decide (rowS (r.take n) = rowS (cs.take n)) = decide (r.take n = cs.take n) := by
    rw [Bool.eq_iff_iff, decide_eq_true_eq, decide_eq_true_eq]
    exact ⟨fun h => rowS_inj (fun x hx => hrow.lt x (List.mem_of_mem_take hx)) (fun x hx => hcs.lt x (List.mem_of_mem_take hx)) h, fun h => by rw [h]⟩
  rw [e3] at this
  exact this
theorem ez_kd {F : Fm} {m : Nat} {ρ : Ro prog w} (ok : Fok m F) {r : List Nat} (hrow : IsRow r) {k : Int} (hk : 0 ≤ k ∧ k < 4) {p1 p2 p3 p4 p5 p6 p7 : Pos} {c : Nat} (e1 : ρ "row" = some (.frz (dR r))) (e2 : ρ "k" = some (.frz (dInt k))) :
    Ez F (.BinOp (.Subscript (.Name "row" p1) (.Name "k" p2) p3) .Add (.Subscript (.Constant (.str "0123") c p4) (.Name "k" p5) p6) p7) ρ (dStr (kd (gt r k.toNat) k.toNat)) := by
  have hkd : kd (gt r k.toNat) k.toNat = ltr (gt r k.toNat) ++ Txt.item "0123" k := by
    have h2 : ∀ k : Fin 4, Txt.item "0123" (k.val : Int) = ⟨#[48 + k.val]⟩ := by decide +kernel
    have h3 := h2 ⟨k.toNat, by omega⟩
    have h4 : ((⟨k.toNat, by omega⟩ : Fin 4).val : Int) = k := by show (k.toNat : Int) = k; omega
    rw [h4] at h3
    rw [h3, ltr_cp]
    rfl
  rw [hkd]
  exact Ev.bin (Ev.sub (Ev.name ok e1) (Ev.name ok e2) (sub_card (cs := r) hk.1 (by rw [hrow.len]; exact hk.2) (by rw [hrow.len]; decide))) (Ev.sub Ez.str (Ev.name ok e2) (sub_str (x := "0123") (i := k) (by have : (Str.length "0123" : Int) = 4 := rfl; omega) (by have : (Str.length "0123" : Int) = 4 := rfl; omega) (by
    unfold PySem.fitsSsize
    have h2 : ¬ k < -(2 ^ 63 : Int) := by omega
    have h3 : ¬ k ≥ 2 ^ 63 := by omega
    simp only [h2, h3, decide_false, Bool.or_self, Bool.not_false]))) (bin_stradd (by rw [ltr_len]; decide) (by show (1 : Nat) ≤ 1000; decide))
theorem ez_k2 {F : Fm} {m : Nat} {ρ : Ro prog w} (ok : Fok m F) {cs r : List Nat} (hcs : IsRow cs) (hrow : IsRow r) {k : Int} (hk : 0 ≤ k ∧ k < 4) {p1 p2 p3 p4 p5 p6 p7 : Pos} (e0 : ρ "cards" = some (.frz (dR cs))) (e1 : ρ "row" = some (.frz (dR r))) (e2 : ρ "k" = some (.frz (dInt k))) :
    Ez F (.BinOp (.Subscript (.Name "cards" p1) (.Name "k" p2) p3) .Add (.Subscript (.Name "row" p4) (.Name "k" p5) p6) p7) ρ (dStr (rowS [gt cs k.toNat, gt r k.toNat])) := by
  rw [show rowS [gt cs k.toNat, gt r k.toNat] = ltr (gt cs k.toNat) ++ ltr (gt r k.toNat) by rw [ltr_row, ltr_row, rowS_append]; rfl]
  exact Ev.bin (Ev.sub (Ev.name ok e0) (Ev.name ok e2) (sub_card (cs := cs) hk.1 (by rw [hcs.len]; exact hk.2) (by rw [hcs.len]; decide))) (Ev.sub (Ev.name ok e1) (Ev.name ok e2) (sub_card (cs := r) hk.1 (by rw [hrow.len]; exact hk.2) (by rw [hrow.len]; decide))) (bin_stradd (by rw [ltr_len]; decide) (by rw [ltr_len]; decide))
theorem gt_lt {cs : List Nat} (hcs : IsRow cs) {k : Int} (hk : 0 ≤ k ∧ k < 4) : gt cs k.toNat < 4 := by
  have h2 : k.toNat < cs.length := by rw [hcs.len]; omega
  have e : gt cs k.toNat = cs[k.toNat] := by simp [gt, List.getD_eq_getElem?_getD, List.getElem?_eq_getElem h2]
  rw [e]; exact hcs.lt _ (List.getElem_mem h2)
theorem mul_price (a : Int) (i j : Nat) : IntMulOk a (priceI i j) := IntMulOk.of_right (by
  unfold priceI
  split
  · decide
  · split
    · decide
    · decide)
theorem item_dig {k : Int} (hk : 0 ≤ k ∧ k < 4) : Txt.item "0123" k = ⟨#[48 + k.toNat]⟩ := by
  have h2 : ∀ k : Fin 4, Txt.item "0123" (k.val : Int) = ⟨#[48 + k.val]⟩ := by decide +kernel
  have h3 := h2 ⟨k.toNat, by omega⟩
  have h4 : ((⟨k.toNat, by omega⟩ : Fin 4).val : Int) = k := by show (k.toNat : Int) = k; omega
  rw [h4] at h3
  exact h3
theorem fits_small {k : Int} (hk : 0 ≤ k ∧ k < 4) : PySem.fitsSsize k = true := by
  unfold PySem.fitsSsize
  have h2 : ¬ k < -(2 ^ 63 : Int) := by omega
  have h3 : ¬ k ≥ 2 ^ 63 := by omega
  simp only [h2, h3, decide_false, Bool.or_self, Bool.not_false]
theorem ez_kk {F : Fm} {m : Nat} {ρ : Ro prog w} (ok : Fok m F) {cs : List Nat} (hcs : IsRow cs) {k x : Int} (hk : 0 ≤ k ∧ k < 4) (hx : 0 ≤ x ∧ x < 4) {p1 p2 p3 p4 p5 p6 p7 : Pos} (e0 : ρ "cards" = some (.frz (dR cs))) (e1 : ρ "k" = some (.frz (dInt k))) (e2 : ρ "x" = some (.frz (dInt x))) :
    Ez F (.BinOp (.Subscript (.Name "cards" p1) (.Name "k" p2) p3) .Add (.Subscript (.Name "cards" p4) (.Name "x" p5) p6) p7) ρ (dStr (rowS [gt cs k.toNat, gt cs x.toNat])) := by
  rw [show rowS [gt cs k.toNat, gt cs x.toNat] = ltr (gt cs k.toNat) ++ ltr (gt cs x.toNat) by rw [ltr_row, ltr_row, rowS_append]; rfl]
  exact Ev.bin (Ev.sub (Ev.name ok e0) (Ev.name ok e1) (sub_card (cs := cs) hk.1 (by rw [hcs.len]; exact hk.2) (by rw [hcs.len]; decide))) (Ev.sub (Ev.name ok e0) (Ev.name ok e2) (sub_card (cs := cs) hx.1 (by rw [hcs.len]; exact hx.2) (by rw [hcs.len]; decide))) (bin_stradd (by rw [ltr_len]; decide) (by rw [ltr_len]; decide))
theorem ez_kdx {F : Fm} {m : Nat} {ρ : Ro prog w} (ok : Fok m F) {cs : List Nat} (hcs : IsRow cs) {k x : Int} (hk : 0 ≤ k ∧ k < 4) (hx : 0 ≤ x ∧ x < 4) {p1 p2 p3 p4 p5 p6 p7 : Pos} {c : Nat} (e0 : ρ "cards" = some (.frz (dR cs))) (e1 : ρ "k" = some (.frz (dInt k))) (e2 : ρ "x" = some (.frz (dInt x))) :
    Ez F (.BinOp (.Subscript (.Name "cards" p1) (.Name "k" p2) p3) .Add (.Subscript (.Constant (.str "0123") c p4) (.Name "x" p5) p6) p7) ρ (dStr (kd (gt cs k.toNat) x.toNat)) := by
  rw [show kd (gt cs k.toNat) x.toNat = ltr (gt cs k.toNat) ++ Txt.item "0123" x by rw [item_dig hx, ltr_cp]; rfl]
  exact Ev.bin (Ev.sub (Ev.name ok e0) (Ev.name ok e1) (sub_card (cs := cs) hk.1 (by rw [hcs.len]; exact hk.2) (by rw [hcs.len]; decide))) (Ev.sub Ez.str (Ev.name ok e2) (sub_str (x := "0123") (i := x) (by have : (Str.length "0123" : Int) = 4 := rfl; omega) (by have : (Str.length "0123" : Int) = 4 := rfl; omega) (fits_small hx))) (bin_stradd (by rw [ltr_len]; decide) (by show (1 : Nat) ≤ 1000; decide))
noncomputable def DealOk (prog : Program) (w : World) (g : Heap) : Prop := ∀ (cs : List Nat) (a b c : Fin 5), IsRow cs → SpecS prog w g 5 (aOf w.params "_law_deal") [dR cs, dL (szs a b c)] (dR (app (cutF (szs a b c)) cs))
theorem spec_law (B : Base w g mg mb) (hdeal : DealOk prog w g) (hlaw : ∀ (cs : List Nat) (a b c a' b' c' : Fin 5), IsRow cs → LawOk cs (cutF (szs a b c)) (cutF (szs a' b' c'))) (ns : List Int) (hns : ns.length ≤ 63) :
    SpecC prog w g 6 (aOf w.params "law") [dList (ns.map dInt)] (dBool true) := by
  have hsl : sizeLine = 16777216 := sizeLine_eq
  refine SpecC.enter (xs := ["script"]) B.gl B.mods (B.K _ _ rfl) rfl ⟨⟨_, _, _, _, rfl, B.K _ _ rfl, rfl, rfl⟩, rfl, bind1 rfl fun _ => rfl, rfl, rfl, rfl, by decide, by decide, by decide, rfl, rfl, rfl⟩ rfl fun F hF hfr => ?_
  obtain ⟨env, A, g', mine⟩ := F
  obtain ⟨-, rfl, rfl, ⟨L, f, rfl⟩, ok⟩ := hF
  have hh := ok.rm.hh
  have B' := B
  -- numbers
  refine ExT.seqE (ex_lc1 (upto 0 3) dInt (fun k => dInt (numAt ns k)) ok rfl (tyc ok B.gl (B.no rfl) rfl (.one Ez.int) bfn_range1) (itr_rng hh (by decide) (by decide) (by decide) (by decide))
    (sc_ok ["script"] rfl (by decide) (by decide) (by decide) (all_cons ⟨⟨_, rfl⟩, fun h => nomatch h⟩ all_nil)) (.inl rfl) (fun F' C ok' k hk => ?_) (by decide) ?_)
  · have hk3 : 0 ≤ k ∧ k < 3 := by
      have : ∀ p ∈ upto 0 3, 0 ≤ p ∧ p < 3 := by decide
      exact this k hk
    refine Ev.bin (Ev.sub (En.rd (lstD (Ps := ([100, 41, 0] : List Int).map dInt) (.cons Ez.int (.two Ez.int Ez.int)) (by rw [hsl]; exact Nat.le_of_ble_eq_true rfl))) (Ev.name ok' (upd_self _ _ _)) (sub_ints hk3.1 (by show k < 3; exact hk3.2) (by decide)))
      (blt ok' (C.gl B.gl) (B.no rfl) rfl (.one (En.list (en_sliceM ns dInt (Ev.lst (Ev.name ok' ((upd_ne _ _ (by decide)).trans (seen_of rfl rfl)))) (prt_int (Ev.name ok' (upd_self _ _ _))) (prt_int Ez.int) (prt_int Ez.int) (by decide) (by omega)))) (bfn_sum (itr_list (show F'.A.in1.handled = none from ok'.rm.hh))) (C.glb rfl (by decide))) bin_add
  -- deals
  refine ExT.seqE (ex_lc1 [numAt ns 0, numAt ns 1] dInt (fun m => dL (dealOf m)) ok rfl (R := .frz (dList ([numAt ns 0, numAt ns 1].map dInt))) (En.list (en_sliceM (c := none) (a := none) (b := some 2) [numAt ns 0, numAt ns 1, numAt ns 2] dInt (Ev.name ok rfl) prt_none (prt_int Ez.int) prt_none (by decide) (Nat.le_of_ble_eq_true rfl))) (itr_list hh)
    (sc_ok [] rfl (by decide) (by decide) (by decide) all_nil) (.inr rfl) (fun F' C ok' m hm => ?_) (Nat.le_of_ble_eq_true rfl) ?_)
  · refine En.list (lc1 (upto 0 3) dInt (fun k => dInt (([1, 2, 3, 0, 127] : List Int).getD ((m.fdiv (5 ^ k.toNat)).fmod 5).toNat 0)) ok' (tyc ok' (C.gl B.gl) (B.no rfl) rfl (.one Ez.int) bfn_range1 (C.glb rfl (by decide))) (itr_rng ok'.rm.hh (by decide) (by decide) (by decide) (by decide))
      (sc_ok ["number"] rfl (by decide) (by decide) (by decide) (all_cons ⟨⟨_, upd_self _ _ _⟩, by rw [C.glb (k := .cell) rfl (by decide)]; exact fun h => nomatch h⟩ all_nil)) (.inl rfl) (fun F2 C2 ok2 k hk => ?_) (by decide))
    have hk3 : 0 ≤ k ∧ k < 3 := by
      have : ∀ p ∈ upto 0 3, 0 ≤ p ∧ p < 3 := by decide
      exact this k hk
    have h5 : (5 : Int) ^ k.toNat ≠ 0 ∧ ((5 : Int) ^ k.toNat).natAbs < 1000 := by
      have : ∀ p ∈ upto 0 3, (5 : Int) ^ p.toNat ≠ 0 ∧ ((5 : Int) ^ p.toNat).natAbs < 1000 := by decide
      exact this k hk
    have hx1 : 0 ≤ (m.fdiv (5 ^ k.toNat)).fmod 5 := Int.fmod_nonneg_of_pos _ (by decide)
    have hx2 : (m.fdiv (5 ^ k.toNat)).fmod 5 < 5 := Int.fmod_lt_of_pos _ (by decide)
    refine Ev.sub (En.rd (lstD (Ps := ([1, 2, 3, 0, 127] : List Int).map dInt) (.cons Ez.int (.cons Ez.int (.cons Ez.int (.two Ez.int (Ez.glob ok2 (C2.gl (C.gl B.gl)) (C2.glb rfl (by decide)) (B.at rfl) fun K => ⟨_, rfl⟩))))) (by rw [hsl]; exact Nat.le_of_ble_eq_true rfl)))
      (Ev.bin (Ev.bin (Ev.name ok2 ((upd_ne _ _ (by decide)).trans (seen_of rfl (upd_self _ _ _)))) (Ev.bin Ez.int (Ev.name ok2 (upd_self _ _ _)) (bin_pow hk3.1 (by omega) (by decide))) (bin_divk h5.1 h5.2)) Ez.int (bin_mod (by decide)))
      (sub_ints hx1 hx2 (by decide))
  obtain ⟨a, b, c, hd0⟩ := deal_szs (numAt ns 0)
  obtain ⟨a', b', c', hd1⟩ := deal_szs (numAt ns 1)
  rw [show [numAt ns 0, numAt ns 1].map (fun m => dL (dealOf m)) = [szs a b c, szs a' b' c'].map dL by rw [← hd0, ← hd1]; rfl]
  -- pick, pack, cards
  refine ExT.seqE (Ex.assign ok (.inl rfl) (P := dInt (numAt ns 2)) (Ev.sub (Ev.name ok rfl) Ez.int (sub_ints (l := [numAt ns 0, numAt ns 1, numAt ns 2]) (by decide) (Int.lt_of_lt_of_le (by decide : (2 : Int) < 3) (Int.le_refl _)) (Nat.le_of_ble_eq_true rfl))) ?_)
  refine ExT.seqE (Ex.assign ok (.inl rfl) (P := dR [0, 1, 2, 3]) Ez.str ?_)
  refine ExT.seqE (Ex.assign ok (.inr (mem_cellNames rfl)) (P := dR []) Ez.str ?_)
  refine ExT.seqE (Ex.while (fun m ρ => ∃ (ps cs : List Nat) (p : Int), m = ps.length ∧ (cs ++ ps).Perm [0, 1, 2, 3] ∧ ρ "pack" = some (.frz (dR ps)) ∧ ρ "cards" = some (.frz (dR cs)) ∧ ρ "pick" = some (.frz (dInt p)) ∧ ρ "deals" = some (.lst ([szs a b c, szs a' b' c'].map dL))) 4
    ⟨[0, 1, 2, 3], [], numAt ns 2, rfl, .refl _, rfl, rfl, rfl, rfl⟩ ?_)
  rintro m ρ ⟨ps, cs, p, rfl, hpm, h1, h2, h3, h4⟩
  have hrow : ∀ x ∈ cs ++ ps, x < 4 := fun x hx => by have := hpm.mem_iff.mp hx; simp at this; omega
  have hlen : cs.length + ps.length = 4 := by have := hpm.length_eq; rw [List.length_append] at this; exact this
  refine ⟨_, Eb.cmp (Ev.name ok h1) Ez.str cmp_strne, fun hb => ?_, fun hb => ?_⟩
  · have hps : ps = [] := by
      have e0 : rowS ps = Str.ofString "" := by simpa using hb
      have e : rowS ps = rowS [] := e0.trans rfl
      exact rowS_inj (fun x hx => hrow x (List.mem_append.mpr (.inr hx))) (fun x hx => nomatch hx) e
    subst hps
    rw [List.append_nil] at hpm
    have hcs := isRow_of_perm hpm
    have H := hlaw cs a b c a' b' c' hcs
    -- moves
    refine ExT.freeze h4 (ExT.seqE (Ex.assignN (R := .lst ([cutF (szs a b c), cutF (szs a' b' c')].map dL)) ok (.inr (mem_cellNames rfl)) (lc1 [szs a b c, szs a' b' c'] dL (fun d => dL (cutF d)) ok (R := .frz (dList ([szs a b c, szs a' b' c'].map dL))) (Ev.name ok (upd_self _ _ _)) (itr_list hh)
      (sc_ok [] rfl (by decide) (by decide) (by decide) all_nil) (.inl rfl) (fun F' C ok' d hd => ?_) (Nat.le_of_ble_eq_true rfl)) ?_))
    · have : ∃ x y z, d = szs x y z := by
        simp only [List.mem_cons, List.not_mem_nil, or_false] at hd
        rcases hd with rfl | rfl
        · exact ⟨_, _, _, rfl⟩
        · exact ⟨_, _, _, rfl⟩
      obtain ⟨x, y, z, rfl⟩ := this
      exact own ok' (C.gl B.gl) (B.at rfl) (C.at (B.K _ _ rfl)) rfl (.one (Ev.name ok' (upd_self _ _ _))) (C.sp (spec_cut B 4 x y z)) (C.glb rfl (by decide))
    generalize hm0 : cutF (szs a b c) = mv0 at H ⊢
    generalize hm1 : cutF (szs a' b' c') = mv1 at H ⊢
    refine ExT.freeze (x := "moves") (upd_self _ _ _) ?_
    -- rows, seen, total, costs, led
    refine ExT.seqE (Ex.assignN (R := .lst ([cs].map dR)) ok (.inl rfl) (lstD (Ps := [dR cs]) (.one (Ev.name ok (by passes_own))) (by rw [hsl]; exact Nat.le_of_ble_eq_true rfl)) ?_)
    refine ExT.seqE (Ex.assign ok (.inl rfl) Ez.int ?_)
    refine ExT.seqE (Ex.assign ok (.inr (mem_cellNames rfl)) (P := dStats (prog := prog) (w := w) 0 0 0 0 []) (tupD (Ps := [dInt 0, dInt 0, dInt 0, dInt 0, dDict (strKind prog w) []]) (.cons Ez.int (.cons Ez.int (.cons Ez.int (.two Ez.int (En.cold (en_dict0s ok) rfl))))) (by rw [hsl]; exact Nat.le_of_ble_eq_true rfl)) ?_)
    refine ExT.seqE (Ex.assignN (R := .sdc []) ok (.inl rfl) (en_dict0s ok) ?_)
    refine ExT.freeze (x := "costs") (upd_self _ _ _) ?_
    refine ExT.seqE (Ex.assignN (R := .lst []) ok (.inl rfl) (lstD (Ps := []) .nil (Nat.zero_le _)) ?_)
    refine ExT.seq (ExT.while (fun m ρ => ∃ st : St, GoodSt st ∧ m = 25 - st.seen ∧ run cs mv0 mv1 (25 - st.seen) st = fin cs mv0 mv1 ∧ ρ "rows" = some (.lst (st.rows.map dR)) ∧ ρ "seen" = some (.frz (dInt (st.seen : Nat))) ∧
      ρ "total" = some (.frz (dStats (prog := prog) (w := w) st.t0 st.t1 st.t2 st.t3 st.tab)) ∧ ρ "costs" = some (.frz (dDict (strKind prog w) (mapD dInt st.costs))) ∧ ρ "led" = some (.lst (st.led.map dR)) ∧
      ρ "cards" = some (.frz (dR cs)) ∧ ρ "deals" = some (.frz (dList ([szs a b c, szs a' b' c'].map dL))) ∧ ρ "moves" = some (.frz (dList ([mv0, mv1].map dL)))) 25
      ⟨start cs, ⟨fun r hr => by rw [List.mem_singleton.mp hr]; exact hcs, by simp [start], Nat.zero_le _, Nat.zero_le _, Nat.zero_le _, rfl⟩, rfl, rfl, by passes_own, by passes_own, by passes_own, by passes_own, by passes_own, by passes_own, by passes_own, by passes_own⟩ ?_)
    rintro m ρ1 ⟨st, hg, rfl, hrun, k1, k2, k3, k4, k5, k6, k7, k8⟩
    have hr24 := rows_le st.rows hg.rows hg.nodup
    have hsn := hg.seen
    refine ⟨_, Eb.cmp (Ev.name ok k2) (blt ok B.gl (B.no rfl) rfl (.one (Ev.name ok k1)) (bfn_len_lst (by rw [List.length_map, hsl]; omega))) cmp_lt, fun hb => ?_, fun hb => ?_⟩
    · -- the end
      have hb := of_decide_eq_false hb
      rw [List.length_map] at hb
      have hlen : st.seen = st.rows.length := by omega
      have hfin : st = fin cs mv0 mv1 := by
        rw [← hrun]
        cases h6 : 25 - st.seen with
        | zero => rfl
        | succ k => unfold run; rw [List.getElem?_eq_none (by omega)]
      have hrows := hg.rows
      have htab := hg.tab
      have hled := hg.led
      subst hfin
      have hpms : ∀ m ∈ [mv0, mv1], IsPm m := fun m hm => by
        simp only [List.mem_cons, List.not_mem_nil, or_false] at hm
        rcases hm with rfl | rfl
        · exact H.p0
        · exact H.p1
      have hch := H.chain
      have stOk : ∀ (i : Nat), i < 3 → ∀ m ∈ msAt [mv0, mv1] i, IsPm m := fun i hi m hm => by
        have h := ok_at hch hi
        unfold okStage at h
        rw [Bool.and_eq_true, Bool.and_eq_true, List.all_eq_true] at h
        exact pm_of (h.1.1 m hm)
      have g0 : GoodW (waysF 0 [mv0, mv1]) := waysF_good (by decide) hpms
      have g1 : GoodW (waysF 1 (stage 0 [mv0, mv1])) := waysF_good (by decide) (stOk 1 (by decide))
      have g2 : GoodW (waysF 2 (stage 1 (stage 0 [mv0, mv1]))) := waysF_good (by decide) (stOk 2 (by decide))
      have gk : ∀ k ∈ upto 0 4, GoodW (goalsW mv0 mv1 k) := fun k hk => waysF_good (by
        have : ∀ k ∈ upto 0 4, 0 ≤ k ∧ k < 4 := by decide
        exact this k hk) hpms
      have hk4 : ∀ k ∈ upto 0 4, 0 ≤ k ∧ k < 4 := by decide
      -- the chain
      refine ExT.of <| Ex.seq (Ex.assign ok (.inl rfl) (P := dList ((chainF [mv0, mv1]).map (dW (prog := prog) (w := w)))) (own ok B.gl (B.at rfl) (B.K _ _ rfl) rfl (.one (Ev.name ok k8)) (spec_chain B 3 [mv0, mv1] hch)) ?_)
      generalize hW0 : waysF 0 [mv0, mv1] = w0 at g0
      generalize hW1 : waysF 1 (stage 0 [mv0, mv1]) = w1 at g1
      generalize hW2 : waysF 2 (stage 1 (stage 0 [mv0, mv1])) = w2 at g2
      have hchain : chainF [mv0, mv1] = [w0, w1, w2] := by unfold chainF; rw [hW0, hW1, hW2]
      have hkept : keptN mv0 mv1 = (w1.length : Int) * (w2.length : Int) := by unfold keptN; rw [hW1, hW2]
      have hwhole : wholeN mv0 mv1 = (w0.length : Int) * keptN mv0 mv1 := by unfold wholeN; rw [hW0]
      have hperm := H.perm
      have hrok := H.rowsOk
      have ht2 := H.t2
      rw [hW0, hW1, hW2] at hperm hrok
      rw [hW2] at ht2
      rw [hchain]
      have hrl : (rowsF cs w0 w1 w2).length ≤ 24 := by rw [← hperm.length_eq]; exact hr24
      have hmr : ∀ l : List (List Nat), l.map dR = (l.map rowS).map dStr := fun l => by rw [List.map_map]; rfl
      refine Ex.seq (Ex.ifc (Eb.cmp (blt ok B.gl (B.no rfl) rfl (.one (R := .lst (((fin cs mv0 mv1).rows.map rowS).map dStr)) (Ev.name ok (by rw [← hmr]; passes_own))) (bfn_sorted (by rw [List.length_map]; omega)))
        (blt ok B.gl (B.no rfl) rfl (.one (R := .lst (((rowsF cs w0 w1 w2).map rowS).map dStr)) (by rw [← hmr]; exact Ev.lst (own ok B.gl (B.at rfl) (B.K _ _ rfl) rfl (.two (Ev.name ok (by passes_own)) (Ev.name ok (upd_self _ _ _))) (spec_rows B 4 cs w0 w1 w2 hcs.len g0 g1 g2 hrok)))) (bfn_sorted (by rw [List.length_map]; omega)))
        (cmp_srt_ne (Fok.room ok.rm (by decide)))) (fun h => ?_) (fun _ => Ex.nil ?_))
      · exfalso
        rw [decide_eq_true (hperm.map rowS)] at h
        cases h
      -- kept, whole
      have hl0 := g0.len
      have hl1 := g1.len
      have hl2 := g2.len
      refine Ex.seq (Ex.assign ok (.inl rfl) (P := dInt (keptN mv0 mv1)) ?_ ?_)
      · rw [hkept]
        refine Ev.bin (blt ok B.gl (B.no rfl) rfl (.one (Ev.sub (Ev.lst (Ev.name ok (upd_self _ _ _))) Ez.int (sub_list (Ps := [w0, w1, w2].map (dW (prog := prog) (w := w))) (by decide) rfl (by decide)))) ?_) (blt ok B.gl (B.no rfl) rfl (.one (Ev.sub (Ev.lst (Ev.name ok (upd_self _ _ _))) Ez.int (sub_list (Ps := [w0, w1, w2].map (dW (prog := prog) (w := w))) (by decide) rfl (by decide)))) ?_) (bin_mul (mul_small (by omega)))
        · have := bfn_len_dict (A := A) (prog := prog) (w := w) (kvs := mapD dL w1) (R := .frz (dW (prog := prog) (w := w) w1)) rdD_frz (by rw [mapD_len]; omega)
          rw [mapD_len] at this; exact this
        · have := bfn_len_dict (A := A) (prog := prog) (w := w) (kvs := mapD dL w2) (R := .frz (dW (prog := prog) (w := w) w2)) rdD_frz (by rw [mapD_len]; omega)
          rw [mapD_len] at this; exact this
      refine Ex.seq (Ex.assign ok (.inr (mem_cellNames rfl)) (P := dInt (wholeN mv0 mv1)) ?_ ?_)
      · rw [hwhole]
        refine Ev.bin (blt ok B.gl (B.no rfl) rfl (.one (Ev.sub (Ev.lst (Ev.name ok (by passes_own))) Ez.int (sub_list (Ps := [w0, w1, w2].map (dW (prog := prog) (w := w))) (by decide) rfl (by decide)))) ?_) (Ev.name ok (upd_self _ _ _)) (bin_mul (mul_small (by omega)))
        have := bfn_len_dict (A := A) (prog := prog) (w := w) (kvs := mapD dL w0) (R := .frz (dW (prog := prog) (w := w) w0)) rdD_frz (by rw [mapD_len]; omega)
        rw [mapD_len] at this; exact this
      -- goals
      refine Ex.seq (Ex.assignN (R := .lst ((upto 0 4).map fun k => dW (prog := prog) (w := w) (goalsW mv0 mv1 k))) ok (.inr (mem_cellNames rfl)) (lc1 (upto 0 4) dInt (fun k => dW (prog := prog) (w := w) (goalsW mv0 mv1 k)) ok (tyc ok B.gl (B.no rfl) rfl (.one Ez.int) bfn_range1) (itr_rng hh (by decide) (by decide) (by decide) (by decide))
        (sc_ok ["moves"] rfl (by decide) (by decide) (by decide) (all_cons ⟨⟨_, by passes_own⟩, fun h => nomatch h⟩ all_nil)) (.inl rfl) (fun F' C ok' k hk => own ok' (C.gl B.gl) (B.at rfl) (C.at (B.K _ _ rfl)) rfl (.two (Ev.name ok' (upd_self _ _ _)) (Ev.name ok' ((upd_ne _ _ (by decide)).trans (seen_of rfl (by passes_own))))) (C.sp (spec_ways B 4 k [mv0, mv1] (hk4 k hk) hpms)) (C.glb rfl (by decide))) (by decide)) ?_)
      refine Ex.freeze (x := "goals") (upd_self _ _ _) ?_
      have goalAt : ∀ k ∈ upto 0 4, ((upto 0 4).map fun k => dW (prog := prog) (w := w) (goalsW mv0 mv1 k))[k.toNat]? = some (dW (prog := prog) (w := w) (goalsW mv0 mv1 k)) := by
        intro k hk
        have : ∀ k ∈ upto 0 4, k = 0 ∨ k = 1 ∨ k = 2 ∨ k = 3 := by decide
        rcases this k hk with rfl | rfl | rfl | rfl <;> rfl
      have itrK : ∀ (k : Int), Itr prog w A (.frz (dW (prog := prog) (w := w) (goalsW mv0 mv1 k))) ((goalsW mv0 mv1 k).map fun x => dInt x.1) := fun k => by
        have := itr_keys (A := A) (prog := prog) (w := w) (knd := intKind prog w) hh (kvs := mapD dL (goalsW mv0 mv1 k)) dInt kp_int
        have e : (mapD dL (goalsW mv0 mv1 k)).map (fun kv => dInt kv.1) = (goalsW mv0 mv1 k).map fun x => dInt x.1 := by unfold mapD; rw [List.map_map]; rfl
        rw [e] at this; exact this
      have lenG : ∀ k ∈ upto 0 4, Bfn prog w A (.builtin "len") [.frz (dW (prog := prog) (w := w) (goalsW mv0 mv1 k))] (.frz (dInt ((goalsW mv0 mv1 k).length : Int))) := fun k hk => by
        have := bfn_len_dict (A := A) (prog := prog) (w := w) (kvs := mapD dL (goalsW mv0 mv1 k)) (R := .frz (dW (prog := prog) (w := w) (goalsW mv0 mv1 k))) rdD_frz (by rw [mapD_len]; have := (gk k hk).len; omega)
        rw [mapD_len] at this; exact this
      have flatLen : ∀ (f : Int → Int × List Int → Str × Int), ((upto 0 4).flatMap fun k => (goalsW mv0 mv1 k).map fun x => f k x).length ≤ 1000 := fun f => by
        have := flat_len (fun k => (goalsW mv0 mv1 k).map fun x => f k x) 4 (upto 0 4) fun k hk => by rw [List.length_map]; exact (gk k hk).len
        have e4 : (upto 0 4).length = 4 := rfl
        rw [e4] at this; omega
      have gpos : ∀ k ∈ upto 0 4, ∀ x ∈ goalsW mv0 mv1 k, 0 < (goalsW mv0 mv1 k).length := fun k hk x hx => List.length_pos_of_mem hx
      -- paid
      refine Ex.seq (ex_dc2 (upto 0 4) (fun k => goalsW mv0 mv1 k) dInt (fun k x => dInt x.1) (fun k x => rowS [gt cs k.toNat, gt cs x.1.toNat]) (fun k x => (wholeN mv0 mv1).fdiv ((goalsW mv0 mv1 k).length : Int) * priceI (gt cs k.toNat) (gt cs x.1.toNat)) ok rfl
        (tyc ok B.gl (B.no rfl) rfl (.one Ez.int) bfn_range1) (itr_rng hh (by decide) (by decide) (by decide) (by decide))
        (sc_ok ["cards", "whole", "goals"] rfl (by decide) (by decide) (by decide) (all_cons ⟨⟨_, by passes_own⟩, fun h => nomatch h⟩ (all_cons ⟨⟨_, by passes_own⟩, fun h => nomatch h⟩ (all_cons ⟨⟨_, by passes_own⟩, fun h => nomatch h⟩ all_nil)))) (.inl rfl) (.inl rfl) (by decide) (fun F' C ok' k hk => ?_) (flatLen _) ?_)
      · have hF'A : F'.A = A := C.A
        refine ⟨⟨.frz (dW (prog := prog) (w := w) (goalsW mv0 mv1 k)), Ev.sub (Ev.lst (Ev.name ok' (R := .frz (dList ((upto 0 4).map fun k => dW (prog := prog) (w := w) (goalsW mv0 mv1 k)))) ((upd_ne _ _ (by decide)).trans (seen_of rfl (by passes_own))))) (Ev.name ok' (upd_self _ _ _)) (sub_list (hk4 k hk).1 (goalAt k hk) (by have := hk4 k hk; omega)), by rw [hF'A]; exact itrK k⟩, fun x hx => ⟨?_, ?_⟩⟩
        · exact ez_kk ok' hcs (hk4 k hk) ((gk k hk).key x hx) ((upd_ne _ _ (by decide)).trans ((upd_ne _ _ (by decide)).trans (seen_of rfl (by passes_own)))) ((upd_ne _ _ (by decide)).trans (upd_self _ _ _)) (upd_self _ _ _)
        · have hxx := (gk k hk).key x hx
          refine Ev.bin (Ev.bin (Ev.name ok' ((upd_ne _ _ (by decide)).trans ((upd_ne _ _ (by decide)).trans (seen_of rfl (by passes_own))))) (blt ok' (C.gl B.gl) (B.no rfl) rfl (.one (Ev.sub (Ev.lst (Ev.name ok' (R := .frz (dList ((upto 0 4).map fun k => dW (prog := prog) (w := w) (goalsW mv0 mv1 k)))) ((upd_ne _ _ (by decide)).trans ((upd_ne _ _ (by decide)).trans (seen_of rfl (by passes_own)))))) (Ev.name ok' ((upd_ne _ _ (by decide)).trans (upd_self _ _ _))) (sub_list (hk4 k hk).1 (goalAt k hk) (by have := hk4 k hk; omega)))) (by rw [hF'A]; exact lenG k hk) (C.glb rfl (by decide))) (bin_divk (by have := gpos k hk x hx; omega) (by have := (gk k hk).len; omega)))
            (own ok' (C.gl B.gl) (B.at rfl) (C.at (B.K _ _ rfl)) rfl (.two (Ev.sub (Ev.name ok' ((upd_ne _ _ (by decide)).trans ((upd_ne _ _ (by decide)).trans (seen_of rfl (by passes_own))))) (Ev.name ok' ((upd_ne _ _ (by decide)).trans (upd_self _ _ _))) (sub_card (cs := cs) (hk4 k hk).1 (by rw [hcs.len]; exact (hk4 k hk).2) (by rw [hcs.len]; decide)))
              (Ev.sub (Ev.name ok' ((upd_ne _ _ (by decide)).trans ((upd_ne _ _ (by decide)).trans (seen_of rfl (by passes_own))))) (Ev.name ok' (upd_self _ _ _)) (sub_card (cs := cs) hxx.1 (by rw [hcs.len]; exact hxx.2) (by rw [hcs.len]; decide)))) (C.sp (spec_price B 4 _ _ (gt_lt hcs (hk4 k hk)) (gt_lt hcs hxx))) (C.glb rfl (by decide))) (bin_mul (mul_price _ _ _))
      refine Ex.seq (Ex.ifc (Eb.cmp (Rl := .frz (dDict (strKind prog w) (mapD dInt (fin cs mv0 mv1).costs))) (Rr := .sdc (mapD dInt (paidF cs mv0 mv1))) (Ev.name ok (by passes_own)) (Ev.name ok (upd_self _ _ _)) (cmp_dne (deq_int 0) (Fok.room ok.rm (by decide)) rdD_frz rdD_sdc)) (fun h => ?_) (fun _ => Ex.nil ?_))
      · exfalso
        rw [H.costs] at h
        cases h
      refine Ex.freeze (x := "paid") (R := .sdc (mapD dInt (paidF cs mv0 mv1))) (upd_self _ _ _) ?_
      -- table
      refine Ex.seq (ex_dc2 (upto 0 4) (fun k => goalsW mv0 mv1 k) dInt (fun k x => dInt x.1) (fun k x => kd (gt cs k.toNat) x.1.toNat) (fun k x => (wholeN mv0 mv1).fdiv ((goalsW mv0 mv1 k).length : Int)) ok rfl
        (tyc ok B.gl (B.no rfl) rfl (.one Ez.int) bfn_range1) (itr_rng hh (by decide) (by decide) (by decide) (by decide))
        (sc_ok ["cards", "whole", "goals"] rfl (by decide) (by decide) (by decide) (all_cons ⟨⟨_, by passes_own⟩, fun h => nomatch h⟩ (all_cons ⟨⟨_, by passes_own⟩, fun h => nomatch h⟩ (all_cons ⟨⟨_, by passes_own⟩, fun h => nomatch h⟩ all_nil)))) (.inl rfl) (.inl rfl) (by decide) (fun F' C ok' k hk => ?_) (flatLen _) ?_)
      · have hF'A : F'.A = A := C.A
        refine ⟨⟨.frz (dW (prog := prog) (w := w) (goalsW mv0 mv1 k)), Ev.sub (Ev.lst (Ev.name ok' (R := .frz (dList ((upto 0 4).map fun k => dW (prog := prog) (w := w) (goalsW mv0 mv1 k)))) ((upd_ne _ _ (by decide)).trans (seen_of rfl (by passes_own))))) (Ev.name ok' (upd_self _ _ _)) (sub_list (hk4 k hk).1 (goalAt k hk) (by have := hk4 k hk; omega)), by rw [hF'A]; exact itrK k⟩, fun x hx => ⟨?_, ?_⟩⟩
        · exact ez_kdx ok' hcs (hk4 k hk) ((gk k hk).key x hx) ((upd_ne _ _ (by decide)).trans ((upd_ne _ _ (by decide)).trans (seen_of rfl (by passes_own)))) ((upd_ne _ _ (by decide)).trans (upd_self _ _ _)) (upd_self _ _ _)
        · exact Ev.bin (Ev.name ok' ((upd_ne _ _ (by decide)).trans ((upd_ne _ _ (by decide)).trans (seen_of rfl (by passes_own))))) (blt ok' (C.gl B.gl) (B.no rfl) rfl (.one (Ev.sub (Ev.lst (Ev.name ok' (R := .frz (dList ((upto 0 4).map fun k => dW (prog := prog) (w := w) (goalsW mv0 mv1 k)))) ((upd_ne _ _ (by decide)).trans ((upd_ne _ _ (by decide)).trans (seen_of rfl (by passes_own)))))) (Ev.name ok' ((upd_ne _ _ (by decide)).trans (upd_self _ _ _))) (sub_list (hk4 k hk).1 (goalAt k hk) (by have := hk4 k hk; omega)))) (by rw [hF'A]; exact lenG k hk) (C.glb rfl (by decide))) (bin_divk (by have := gpos k hk x hx; omega) (by have := (gk k hk).len; omega))
      refine Ex.freeze (x := "table") (R := .sdc (mapD dInt (tableF cs mv0 mv1))) (upd_self _ _ _) ?_
      -- the whole profile
      rw [H.t0, H.t1, ht2, H.t3] at k3
      have lenW2 : Bfn prog w A (.builtin "len") [.frz (dW (prog := prog) (w := w) w2)] (.frz (dInt (w2.length : Int))) := by
        have := bfn_len_dict (A := A) (prog := prog) (w := w) (kvs := mapD dL w2) (R := .frz (dW (prog := prog) (w := w) w2)) rdD_frz (by rw [mapD_len]; omega)
        rw [mapD_len] at this; exact this
      have itrP : Itr prog w A.in1 (.frz (dVals (strKind prog w) (mapD dInt (paidF cs mv0 mv1)))) (((paidF cs mv0 mv1).map (·.2)).map dInt) := by
        have := itr_vals (A := A.in1) (prog := prog) (w := w) (knd := strKind prog w) (show A.in1.handled = none from hh) (kvs := mapD dInt (paidF cs mv0 mv1))
        have e : (mapD dInt (paidF cs mv0 mv1)).map (·.2) = ((paidF cs mv0 mv1).map (·.2)).map dInt := by unfold mapD; rw [List.map_map, List.map_map]; rfl
        rw [e] at this; exact this
      refine Ex.seq (Ex.ifc (Eb.cmp (Ev.name ok (by passes_own)) (tupD (Ps := [dInt (wholeN mv0 mv1), dInt (keptN mv0 mv1), dInt (w2.length : Int), dInt ((paidF cs mv0 mv1).map (·.2)).sum, dDict (strKind prog w) (mapD dInt (tableF cs mv0 mv1))])
        (.cons (Ev.name ok (by passes_own)) (.cons (Ev.name ok (by passes_own)) (.cons (blt ok B.gl (B.no rfl) rfl (.one (Ev.sub (Ev.lst (Ev.name ok (by passes_own))) Ez.int (sub_list (Ps := [w0, w1, w2].map (dW (prog := prog) (w := w))) (by decide) rfl (by decide)))) lenW2)
          (.two (blt ok B.gl (B.no rfl) rfl (.one (ez_values (knd := strKind prog w) (kvs := mapD dInt (paidF cs mv0 mv1)) (Ev.name ok (by passes_own)) rfl rfl)) (bfn_sum itrP)) (Ev.name ok (upd_self _ _ _)))))) (by rw [hsl]; exact Nat.le_of_ble_eq_true rfl))
        (cmp_stats (prog := prog) (w := w) (Fok.room ok.rm (by decide)) (t0 := wholeN mv0 mv1) (t1 := keptN mv0 mv1) (t2 := (w2.length : Int)) (t3 := ((paidF cs mv0 mv1).map (·.2)).sum) H.tab)) (fun h => nomatch h) (fun _ => Ex.nil ?_))
      -- the deals led
      refine Ex.freeze (x := "rows") (R := .lst ((fin cs mv0 mv1).rows.map dR)) (by passes_own) ?_
      have hledEq : (fin cs mv0 mv1).rows.flatMap (fun r => [mv0, mv1].map fun m => dR (app m r)) = ((fin cs mv0 mv1).led.map rowS).map dStr := by
        rw [H.led, ← hmr, List.map_flatMap]; rfl
      have hflat : ((fin cs mv0 mv1).rows.flatMap (fun r => [mv0, mv1].map fun m => dR (app m r))).length ≤ sizeLine := by
        have := flat_len (fun r => [mv0, mv1].map fun m => dR (app m r)) 2 (fin cs mv0 mv1).rows fun r _ => Nat.le_refl _
        rw [hsl]; omega
      refine Ex.seq (Ex.ifc (Eb.cmp (Rl := .lst (((fin cs mv0 mv1).led.map rowS).map dStr)) (Rr := .lst (((fin cs mv0 mv1).led.map rowS).map dStr)) (Ev.name ok (by rw [← hmr]; passes_own)) (by
          rw [← hledEq]
          refine En.rd (En.comp ok (compL2 (fin cs mv0 mv1).rows (fun _ => [mv0, mv1]) dR (fun _ m => dL m) (fun r m => dR (app m r)) ok (R := .frz (dList ((fin cs mv0 mv1).rows.map dR))) (Ev.name ok (upd_self _ _ _)) (itr_list hh)
            (sc_ok ["moves"] rfl (by decide) (by decide) (by decide) (all_cons ⟨⟨_, by passes_own⟩, fun h => nomatch h⟩ all_nil)) (.inr rfl) (.inl rfl) (by decide) (fun F' C ok' r hr => ⟨⟨.frz (dList ([mv0, mv1].map dL)), Ev.name ok' ((upd_ne _ _ (by decide)).trans (seen_of rfl (by passes_own))), itr_list ok'.rm.hh⟩, fun m hm => ?_⟩) hflat) rfl)
          have hmp := hpms m hm
          have hrw := hrows r hr
          have e : dR (app m r) = dStr (Txt.join "" ((app m r).map ltr)) := by unfold dR; rw [row_of (by unfold app; rw [List.length_map]; exact hmp.1)]
          rw [e]
          refine mth mt_join recv_str Ez.str (.one (En.rd (R := .lst (((app m r).map ltr).map dStr)) ?_)) (bfn_join (join_ok4 _ (by unfold app; rw [List.length_map, hmp.1]; decide)))
          unfold app
          rw [List.map_map, List.map_map]
          refine lc1 m dInt _ ok' (R := .frz (dL m)) (Ev.name ok' (upd_self _ _ _)) (itr_list ok'.rm.hh) (sc_ok ["one"] rfl (by decide) (by decide) (by decide) (all_cons ⟨⟨_, (upd_ne _ _ (by decide)).trans (upd_self _ _ _)⟩, by rw [C.glb (k := .cell) rfl (by decide)]; exact fun h => nomatch h⟩ all_nil)) (.inl rfl) (fun F2 C2 ok2 x hx => ?_) (by rw [hmp.1]; decide)
          show Ez F2 _ _ (dStr (ltr (r.getD x.toNat 0)))
          exact Ev.sub (Ev.name ok2 ((upd_ne _ _ (by decide)).trans (seen_of rfl ((upd_ne _ _ (by decide)).trans (upd_self _ _ _))))) (Ev.name ok2 (upd_self _ _ _)) (sub_card (cs := r) (hmp.2 x hx).1 (by rw [hrw.len]; exact (hmp.2 x hx).2) (by rw [hrw.len]; decide)))
        (cmp_lne (deq_str 0) (Fok.room ok.rm (by decide)))) (fun h => ?_) (fun _ => Ex.nil ?_))
      · exfalso
        simp at h
      -- the parts
      have hkl := H.keyLen
      have hparts := H.parts
      generalize htabE : (fin cs mv0 mv1).tab = tab at k3 hkl hparts htab
      have htl : tab.length ≤ 100 := by omega
      have itrC : Itr prog w A (.frz (dR cs)) (cs.map fun c => dStr (ltr c)) := by
        have := itr_str (A := A) (prog := prog) (w := w) (x := rowS cs) hh trivial
        rw [sgn_row, List.map_map] at this; exact this
      have totAt : ∀ {F' : Fm} {m : Nat} {ρ : Ro prog w} {p1 p2 p3 : Pos} {q : Nat}, Fok m F' → ρ "total" = some (.frz (dStats (prog := prog) (w := w) (wholeN mv0 mv1) (keptN mv0 mv1) (w2.length : Int) ((paidF cs mv0 mv1).map (·.2)).sum tab)) →
          Ez F' (.Subscript (.Name "total" p1) (.Constant (.int 4) q p2) p3) ρ (dDict (strKind prog w) (mapD dInt tab)) := by
        intro F' m ρ p1 p2 p3 q ok' h
        exact Ev.sub (Ev.name ok' h) Ez.int (sub_tup (Ps := [dInt (wholeN mv0 mv1), dInt (keptN mv0 mv1), dInt (w2.length : Int), dInt ((paidF cs mv0 mv1).map (·.2)).sum, dDict (strKind prog w) (mapD dInt tab)]) (by decide) rfl (by decide))
      have itrT : ∀ {A' : Around}, A'.handled = none → Itr prog w A' (.frz (dDict (strKind prog w) (mapD dInt tab))) (tab.map fun kv => dStr kv.1) := fun {A'} h => by
        have := itr_keys (A := A') (prog := prog) (w := w) (knd := strKind prog w) h (kvs := mapD dInt tab) dStr kp_str
        have e : (mapD dInt tab).map (fun kv => dStr kv.1) = tab.map fun kv => dStr kv.1 := by unfold mapD; rw [List.map_map]; rfl
        rw [e] at this; exact this
      refine Ex.seq (ex_lc1 cs (fun c => dStr (ltr c)) (fun c => dDict (strKind prog w) (mapD dInt (partF tab c))) ok rfl (R := .frz (dR cs)) (Ev.name ok (by passes_own)) itrC
        (sc_ok ["total"] rfl (by decide) (by decide) (by decide) (all_cons ⟨⟨_, by passes_own⟩, fun h => nomatch h⟩ all_nil)) (.inr rfl) (fun F' C ok' c hc => ?_) (by rw [hcs.len]; decide) ?_)
      · refine En.cold (R := .sdc (mapD dInt (partF tab c))) (dc1 tab (fun kv => dStr kv.1) (fun kv => kv.1) (fun kv => (lookK tab kv.1).getD 0) (fun kv => decide (Txt.item kv.1 0 = ltr c)) ok' (totAt ok' ((upd_ne _ _ (by decide)).trans (seen_of rfl (by passes_own)))) (itrT ok'.rm.hh)
          (sc_ok ["card", "total"] rfl (by decide) (by decide) (by decide) (all_cons ⟨⟨_, upd_self _ _ _⟩, by rw [C.glb (k := .cell) rfl (by decide)]; exact fun h => nomatch h⟩ (all_cons ⟨⟨_, (upd_ne _ _ (by decide)).trans (seen_of rfl (by passes_own))⟩, ?_⟩ all_nil))) (.inl rfl) (fun F2 C2 ok2 kv hkv => ⟨.one (Eb.cmp (Ev.sub (Ev.name ok2 (upd_self _ _ _)) Ez.int (sub_str (x := kv.1) (i := 0) ?_ ?_ (by decide))) (Ev.name ok2 ((upd_ne _ _ (by decide)).trans (seen_of rfl (upd_self _ _ _)))) cmp_streq), fun _ => ⟨Ev.name ok2 (upd_self _ _ _), ?_⟩⟩) (by omega)) rfl
        · exact C.nloc rfl
        · omega
        · have := hkl kv hkv; omega
        · refine Ev.sub (totAt ok2 ((upd_ne _ _ (by decide)).trans (seen_of rfl ((upd_ne _ _ (by decide)).trans (seen_of rfl (by passes_own)))))) (Ev.name ok2 (upd_self _ _ _)) (sub_dict (key := kv.1) rdD_frz key_str ?_)
          have h1 : (lookK tab kv.1).isSome = true := by
            rw [← any_lookK, List.any_eq_true]
            exact ⟨kv, hkv, decide_eq_true rfl⟩
          obtain ⟨v, hv⟩ := Option.isSome_iff_exists.mp h1
          have := lookK_map dInt kv.1 tab
          rw [hv] at this
          rw [hv]
          exact this
      refine Ex.freeze (x := "parts") (upd_self _ _ _) ?_
      have itrL : Itr prog w A (.frz (dList (cs.map fun c => dDict (strKind prog w) (mapD dInt (partF tab c))))) (cs.map fun c => dDict (strKind prog w) (mapD dInt (partF tab c))) := itr_list hh
      have hall : cs.map (fun c => ((partF tab c).map (·.2)).sum) = (List.replicate (4 : Int).toNat [wholeN mv0 mv1]).flatten := by
        have h4 : ∀ k, k < 4 → ((partF tab (gt cs k)).map (·.2)).sum = wholeN mv0 mv1 := hparts
        obtain ⟨hl, _, _⟩ := hcs
        match cs, hl, h4 with
        | [x0, x1, x2, x3], _, h4 =>
          have e0 := h4 0 (by decide)
          have e1 := h4 1 (by decide)
          have e2 := h4 2 (by decide)
          have e3 := h4 3 (by decide)
          show [((partF tab (gt [x0, x1, x2, x3] 0)).map (·.2)).sum, ((partF tab (gt [x0, x1, x2, x3] 1)).map (·.2)).sum, ((partF tab (gt [x0, x1, x2, x3] 2)).map (·.2)).sum, ((partF tab (gt [x0, x1, x2, x3] 3)).map (·.2)).sum] = [wholeN mv0 mv1, wholeN mv0 mv1, wholeN mv0 mv1, wholeN mv0 mv1]
          rw [e0, e1, e2, e3]
      have hb1 : decide (cs.map (fun c => ((partF tab c).map (·.2)).sum) = (List.replicate (4 : Int).toNat [wholeN mv0 mv1]).flatten) = true := decide_eq_true hall
      refine Ex.ret (P := dBool true) ?_ rfl
      have hcmp := cmp_leq (prog := prog) (w := w) (A := A) (deq_int 0) (Fok.room ok.rm (by decide)) (xs := cs.map fun c => ((partF tab c).map (·.2)).sum) (ys := (List.replicate (4 : Int).toNat [wholeN mv0 mv1]).flatten)
      rw [hb1] at hcmp
      refine Ev.cmp (Rl := .lst ((cs.map fun c => ((partF tab c).map (·.2)).sum).map dInt)) (Rr := .lst (((List.replicate (4 : Int).toNat [wholeN mv0 mv1]).flatten).map dInt)) (En.rd ?_) (En.rd ?_) hcmp
      · rw [List.map_map]
        exact lc1 cs (fun c => dDict (strKind prog w) (mapD dInt (partF tab c))) _ ok (Ev.name ok (upd_self _ _ _)) itrL (sc_ok [] rfl (by decide) (by decide) (by decide) all_nil) (.inl rfl) (fun F' C ok' c hc => own ok' (C.gl B.gl) (B.at rfl) (C.at (B.K _ _ rfl)) rfl (.one (Ev.name ok' (upd_self _ _ _))) (C.sp (spec_count B 4 (partF tab c))) (C.glb rfl (by decide))) (by rw [hcs.len]; decide)
      · have e : ((List.replicate (4 : Int).toNat [wholeN mv0 mv1]).flatten).map dInt = (List.replicate (4 : Int).toNat [dInt (wholeN mv0 mv1)]).flatten := rfl
        rw [e]
        exact En.bin (En.rd (lstD (Ps := [dInt (wholeN mv0 mv1)]) (.one (Ev.name ok (by passes_own))) (by rw [hsl]; exact Nat.le_of_ble_eq_true rfl))) Ez.int (bin_lmul (by decide) (by decide) (Nat.le_of_ble_eq_true rfl))
    · have hb := of_decide_eq_true hb
      rw [List.length_map] at hb
      have hlt : st.seen < st.rows.length := by omega
      have hr : st.rows[st.seen]? = some st.rows[st.seen] := List.getElem?_eq_getElem hlt
      generalize st.rows[st.seen] = r at hr
      have hrow := hg.rows r (List.mem_of_getElem? hr)
      have hgt := hg.turn (cs := cs) H.q0 H.q1 hr
      have hrun' : run cs mv0 mv1 (25 - (st.seen + 1)) (turnF cs mv0 mv1 st r) = fin cs mv0 mv1 := by
        rw [← hrun, show 25 - st.seen = 25 - (st.seen + 1) + 1 by omega]
        conv => rhs; unfold run
        rw [hr]
      refine ExT.seqE (Ex.assign ok (.inr (mem_cellNames rfl)) (P := dR r) (Ev.sub (Ev.name ok k1) (Ev.name ok k2) (sub_list (by omega) (by rw [List.getElem?_map]; show Option.map dR st.rows[st.seen]? = _; rw [hr]; rfl) (by omega))) ?_)
      refine ExT.seqE (Ex.aug ok (.inl rfl) (R := .frz (dInt (st.seen : Nat))) (by passes_own) Ez.int bin_iadd ?_)
      refine ExT.seqE (Ex.assign ok (.inl rfl) (P := dInt (same 1 r cs)) (Ev.ite (eb_same 1 (by decide) ok hrow hcs (by passes_own) (by passes_own)) (fun h => ?_) (fun h => ?_)) ?_)
      · rw [show same 1 r cs = 1 from if_pos (of_decide_eq_true h)]; exact Ez.int
      · rw [show same 1 r cs = 0 from if_neg (of_decide_eq_false h)]; exact Ez.int
      refine ExT.seqE (Ex.assign ok (.inl rfl) (P := dInt (same 2 r cs)) (Ev.ite (eb_same 2 (by decide) ok hrow hcs (by passes_own) (by passes_own)) (fun h => ?_) (fun h => ?_)) ?_)
      · rw [show same 2 r cs = 1 from if_pos (of_decide_eq_true h)]; exact Ez.int
      · rw [show same 2 r cs = 0 from if_neg (of_decide_eq_false h)]; exact Ez.int
      have hk4 : ∀ k ∈ upto 0 4, 0 ≤ k ∧ k < 4 := by decide
      have hat : ∀ (l : List Nat), IsRow l → ∀ k ∈ upto 0 4, gt l k.toNat < 4 := fun l hl k hk => by
        have h1 := hk4 k hk
        have h2 : k.toNat < l.length := by rw [hl.len]; omega
        have e : gt l k.toNat = l[k.toNat] := by simp [gt, List.getD_eq_getElem?_getD, List.getElem?_eq_getElem h2]
        rw [e]; exact hl.lt _ (List.getElem_mem h2)
      -- spent
      refine ExT.seqE (Ex.assignN (R := .lst ((spent cs r).map dInt)) ok (.inr (mem_cellNames rfl)) ?_ ?_)
      · unfold spent
        rw [List.map_map]
        refine lc1 (upto 0 4) dInt _ ok (tyc ok B.gl (B.no rfl) rfl (.one Ez.int) bfn_range1) (itr_rng hh (by decide) (by decide) (by decide) (by decide)) (sc_ok ["cards", "row"] rfl (by decide) (by decide) (by decide) (all_cons ⟨⟨_, by passes_own⟩, fun h => nomatch h⟩ (all_cons ⟨⟨_, by passes_own⟩, fun h => nomatch h⟩ all_nil))) (.inl rfl) (fun F' C ok' k hk => ?_) (by decide)
        have h1 := hk4 k hk
        exact own ok' (C.gl B.gl) (B.at rfl) (C.at (B.K _ _ rfl)) rfl (.two (Ev.sub (Ev.name ok' ((upd_ne _ _ (by decide)).trans (seen_of rfl (by passes_own)))) (Ev.name ok' (upd_self _ _ _)) (sub_card (cs := cs) h1.1 (by rw [hcs.len]; exact h1.2) (by rw [hcs.len]; decide)))
          (Ev.sub (Ev.name ok' ((upd_ne _ _ (by decide)).trans (seen_of rfl (by passes_own)))) (Ev.name ok' (upd_self _ _ _)) (sub_card (cs := r) h1.1 (by rw [hrow.len]; exact h1.2) (by rw [hrow.len]; decide)))) (C.sp (spec_cost B 4 _ _ (hat cs hcs k hk) (hat r hrow k hk))) (C.glb rfl (by decide))
      refine ExT.freeze (x := "spent") (upd_self _ _ _) ?_
      have htl := hg.tab
      have hcl := hg.costs
      have hsl4 := src_len r cs
      -- total
      refine ExT.seqE (Ex.assign ok (.inr (mem_cellNames rfl)) (P := dStats (prog := prog) (w := w) (1 + st.t0) (same 1 r cs + st.t1) (same 2 r cs + st.t2) ((spent cs r).sum + st.t3) (addC st.tab (srcTab r)))
        (own ok B.gl (B.at rfl) (B.K _ _ rfl) rfl (.two (Ev.name ok (by passes_own)) (tupD (Ps := [dInt 1, dInt (same 1 r cs), dInt (same 2 r cs), dInt (spent cs r).sum, dDict (strKind prog w) (mapD dInt (srcTab r))])
          (.cons Ez.int (.cons (Ev.name ok (by passes_own)) (.cons (Ev.name ok (by passes_own)) (.two (blt ok B.gl (B.no rfl) rfl (.one (Ev.name ok (R := .frz (dList ((spent cs r).map dInt))) (by passes_own))) (bfn_sum (itr_list (show A.in1.handled = none from hh)))) ?_)))) (by rw [hsl]; exact Nat.le_of_ble_eq_true rfl)))
          (spec_adds B 3 st.t0 st.t1 st.t2 st.t3 1 (same 1 r cs) (same 2 r cs) (spent cs r).sum st.tab (srcTab r) (by omega))) ?_)
      · refine En.cold (R := .sdc (mapD dInt (srcTab r))) ?_ rfl
        have e : srcTab r = putL [] (((upto 0 4).filter fun _ => true).map fun k => (kd (gt r k.toNat) k.toNat, (1 : Int))) := rfl
        rw [e]
        refine dc1 (upto 0 4) dInt (fun k => kd (gt r k.toNat) k.toNat) (fun _ => 1) (fun _ => true) ok (tyc ok B.gl (B.no rfl) rfl (.one Ez.int) bfn_range1) (itr_rng hh (by decide) (by decide) (by decide) (by decide)) (sc_ok ["row"] rfl (by decide) (by decide) (by decide) (all_cons ⟨⟨_, by passes_own⟩, fun h => nomatch h⟩ all_nil)) (.inl rfl) (fun F' C ok' k hk => ⟨.nil, fun _ => ⟨?_, Ez.int⟩⟩) (by decide)
        exact ez_kd ok' hrow (hk4 k hk) ((upd_ne _ _ (by decide)).trans (seen_of rfl (by passes_own))) (upd_self _ _ _)
      -- costs
      refine ExT.seqE (Ex.assign ok (.inl rfl) (P := dDict (strKind prog w) (mapD dInt (addC st.costs (srcCost cs r))))
        (own ok B.gl (B.at rfl) (B.K _ _ rfl) rfl (.two (Ev.name ok (by passes_own)) ?_) (spec_addc B 4 st.costs (srcCost cs r) (by omega))) ?_)
      · refine En.cold (R := .sdc (mapD dInt (srcCost cs r))) ?_ rfl
        have e : srcCost cs r = putL [] (((upto 0 4).filter fun _ => true).map fun k => (rowS [gt cs k.toNat, gt r k.toNat], priceI (gt cs k.toNat) (gt r k.toNat))) := rfl
        rw [e]
        refine dc1 (upto 0 4) dInt (fun k => rowS [gt cs k.toNat, gt r k.toNat]) (fun k => priceI (gt cs k.toNat) (gt r k.toNat)) (fun _ => true) ok (tyc ok B.gl (B.no rfl) rfl (.one Ez.int) bfn_range1) (itr_rng hh (by decide) (by decide) (by decide) (by decide)) (sc_ok ["cards", "row", "spent"] rfl (by decide) (by decide) (by decide) (all_cons ⟨⟨_, by passes_own⟩, fun h => nomatch h⟩ (all_cons ⟨⟨_, by passes_own⟩, fun h => nomatch h⟩ (all_cons ⟨⟨_, by passes_own⟩, fun h => nomatch h⟩ all_nil)))) (.inl rfl) (fun F' C ok' k hk => ⟨.nil, fun _ => ⟨?_, ?_⟩⟩) (by decide)
        · exact ez_k2 ok' hcs hrow (hk4 k hk) ((upd_ne _ _ (by decide)).trans (seen_of rfl (by passes_own))) ((upd_ne _ _ (by decide)).trans (seen_of rfl (by passes_own))) (upd_self _ _ _)
        · have h1 := hk4 k hk
          have hsp : (spent cs r).getD k.toNat 0 = priceI (gt cs k.toNat) (gt r k.toNat) := by
            have : ∀ k ∈ upto 0 4, ∀ f : Int → Int, ((upto 0 4).map f).getD k.toNat 0 = f k := by
              intro k hk f
              have : ∀ k ∈ upto 0 4, k = 0 ∨ k = 1 ∨ k = 2 ∨ k = 3 := by decide
              rcases this k hk with rfl | rfl | rfl | rfl <;> rfl
            exact this k hk _
          rw [← hsp]
          exact Ev.sub (Ev.lst (Ev.name ok' (R := .frz (dList ((spent cs r).map dInt))) ((upd_ne _ _ (by decide)).trans (seen_of rfl (by passes_own))))) (Ev.name ok' (upd_self _ _ _)) (sub_ints (l := spent cs r) h1.1 h1.2 (Nat.le_of_ble_eq_true rfl))
      -- the two deals
      have hmr : (st.rows.map dR) = (st.rows.map rowS).map dStr := by rw [List.map_map]; rfl
      have body : ∀ (us : List (List Nat)) (mv : List Int) (q : mv.Perm [0, 1, 2, 3]), (∀ x ∈ us, IsRow x) → (decide (rowS (app mv r) ∈ us.map rowS)) = decide (app mv r ∈ us) := by
        intro us mv q hus
        rw [Bool.eq_iff_iff, decide_eq_true_eq, decide_eq_true_eq]
        constructor
        · intro h
          obtain ⟨x, hx, e⟩ := List.mem_map.mp h
          rw [← rowS_inj (hus x hx).lt (hrow.app q).lt e]; exact hx
        · exact fun h => List.mem_map_of_mem h
      have hled := hg.led
      have hg24 := rows_le _ hgt.rows hgt.nodup
      refine ExT.for (Ps := (upto 0 2).map dInt) ok (.inl rfl) (tyc ok B.gl (B.no rfl) rfl (.one Ez.int) bfn_range1) (itr_rng hh (by decide) (by decide) (by decide) (by decide))
        (fun i ρ => ρ "rows" = some (.lst ((([app mv0 r, app mv1 r].take i).foldl addR st.rows).map dR)) ∧ ρ "led" = some (.lst ((st.led ++ [app mv0 r, app mv1 r].take i).map dR)) ∧ ρ "seen" = some (.frz (dInt ((st.seen : Nat) + 1))) ∧
          ρ "total" = some (.frz (dStats (prog := prog) (w := w) (1 + st.t0) (same 1 r cs + st.t1) (same 2 r cs + st.t2) ((spent cs r).sum + st.t3) (addC st.tab (srcTab r)))) ∧ ρ "costs" = some (.frz (dDict (strKind prog w) (mapD dInt (addC st.costs (srcCost cs r))))) ∧
          ρ "cards" = some (.frz (dR cs)) ∧ ρ "deals" = some (.frz (dList ([szs a b c, szs a' b' c'].map dL))) ∧ ρ "moves" = some (.frz (dList ([mv0, mv1].map dL))) ∧ ρ "row" = some (.frz (dR r)))
        ⟨by passes_own, by rw [List.take_zero, List.append_nil]; passes_own, by passes_own, by passes_own, by passes_own, by passes_own, by passes_own, by passes_own, by passes_own⟩ ?_ ?_
      · rintro i P ρ2 hP ⟨l1, l2, l3, l4, l5, l6, l7, l8, l9⟩
        have hi : i < 2 := (List.getElem?_eq_some_iff.mp hP).1
        -- the deal, its move
        obtain ⟨mv, sz, hmv, hszi, hPi, hq, hsp⟩ : ∃ (mv : List Int) (sz : List Int), [app mv0 r, app mv1 r][i]? = some (app mv r) ∧ ([szs a b c, szs a' b' c'].map dL)[i]? = some (dL sz) ∧ P = dInt (i : Int) ∧ mv.Perm [0, 1, 2, 3] ∧ SpecS prog w g' 5 (aOf w.params "_law_deal") [dR r, dL sz] (dR (app mv r)) := by
          match i, hi with
          | 0, _ => cases hP; exact ⟨mv0, _, rfl, rfl, rfl, H.q0, hm0 ▸ hdeal r a b c hrow⟩
          | 1, _ => cases hP; exact ⟨mv1, _, rfl, rfl, rfl, H.q1, hm1 ▸ hdeal r a' b' c' hrow⟩
        subst hPi
        have htk : [app mv0 r, app mv1 r].take (i + 1) = [app mv0 r, app mv1 r].take i ++ [app mv r] := by rw [List.take_add_one, hmv]; rfl
        rw [htk, List.foldl_append]
        have hus : ∀ x ∈ ([app mv0 r, app mv1 r].take i).foldl addR st.rows, IsRow x := by
          match i, hi with
          | 0, _ => exact hg.rows
          | 1, _ => exact addR_row hg.rows (hrow.app H.q0)
        have hul : (([app mv0 r, app mv1 r].take i).foldl addR st.rows).length ≤ 24 := by
          match i, hi with
          | 0, _ => exact hr24
          | 1, _ => exact Nat.le_trans addR_len hg24
        have hll : (st.led ++ [app mv0 r, app mv1 r].take i).length ≤ 100 := by
          rw [List.length_append, hled, List.length_take]
          show 2 * st.seen + min i 2 ≤ 100
          omega
        rw [← List.append_assoc]
        generalize ([app mv0 r, app mv1 r].take i).foldl addR st.rows = us at l1 hus hul ⊢
        generalize st.led ++ [app mv0 r, app mv1 r].take i = ld at l2 hll ⊢
        have hb := body us mv hq hus
        refine ExT.seq (ExT.callS (P := dR (app mv r)) ok B.gl hfr rfl (.inl rfl) (B.at rfl) (B.K _ _ rfl) rfl (.two (Ev.name ok (by passes_own)) (Ev.sub (Ev.lst (Ev.name ok (by passes_own))) (Ev.name ok (upd_self _ _ _)) (sub_list (i := ((i : Nat) : Int)) (Ps := [szs a b c, szs a' b' c'].map dL) (by omega) hszi (by omega)))) hsp ?_)
        refine ExT.of <| Ex.seq (Ex.ifc (Eb.cmp (blt ok B.gl (B.no rfl) rfl (.one (Ev.name ok (upd_self _ _ _))) (bfn_sorted_str hh (x := rowS (app mv r)) (by rw [rowS_len, (hrow.app hq).len]; decide))) (blt ok B.gl (B.no rfl) rfl (.one (Ev.name ok (by passes_own))) (bfn_sorted_str hh (x := rowS cs) (by rw [rowS_len, hcs.len]; decide))) (cmp_srt_ne (Fok.room ok.rm (by decide)))) (fun h => ?_) (fun _ => Ex.nil ?_))
        · exfalso
          have : (sgn (rowS (app mv r))).Perm (sgn (rowS cs)) := by
            rw [sgn_row, sgn_row]
            exact (((app_perm hq hrow.len).trans (hrow.perm.trans hcs.perm.symm))).map ltr
          rw [decide_eq_true this] at h
          cases h
        refine Ex.seq (ex_append ok (x := "led") (Ps := ld.map dR) (P := dR (app mv r)) (by passes_own) (Ev.name ok (upd_self _ _ _)) (by rw [List.length_map]; omega) ?_ rfl rfl rfl rfl rfl rfl)
        have e3 : ld.map dR ++ [dR (app mv r)] = (ld ++ [app mv r]).map dR := by rw [List.map_append]; rfl
        rw [e3]
        refine Ex.ifc (Eb.cmp (Ev.name ok (by passes_own)) (Rr := .lst ((us.map rowS).map dStr)) (Ev.name ok (by rw [List.map_map]; passes_own)) (cmp_lnotin (f := dStr) (x := rowS (app mv r)) (deq_str 0) (Fok.room ok.rm (by decide)))) (fun h => ?_) (fun h => ?_)
        · have hd : addR us (app mv r) = us ++ [app mv r] := by
            unfold addR; rw [if_neg]
            rw [hb] at h; simpa using h
          show Ex _ _ _ (Turn (fun ρ => ρ "rows" = some (.lst ((addR us (app mv r)).map dR)) ∧ _) _)
          rw [hd]
          refine ex_append ok (x := "rows") (Ps := us.map dR) (P := dR (app mv r)) (by passes_own) (Ev.name ok (by passes_own)) (by rw [List.length_map]; omega) ?_ rfl rfl rfl rfl rfl rfl
          refine ⟨?_, by passes_own, by passes_own, by passes_own, by passes_own, by passes_own, by passes_own, by passes_own, by passes_own⟩
          rw [upd_self, List.map_append]; rfl
        · have hd : addR us (app mv r) = us := by
            unfold addR; rw [if_pos]
            rw [hb] at h; simpa using h
          show Ex _ _ _ (Turn (fun ρ => ρ "rows" = some (.lst ((addR us (app mv r)).map dR)) ∧ _) _)
          rw [hd]
          exact Ex.nil ⟨by passes_own, by passes_own, by passes_own, by passes_own, by passes_own, by passes_own, by passes_own, by passes_own, by passes_own⟩
      · rintro ρ2 ⟨l1, l2, l3, l4, l5, l6, l7, l8, l9⟩
        exact ⟨25 - (st.seen + 1), by omega, turnF cs mv0 mv1 st r, hgt, rfl, hrun', l1, l3, l4, l5, l2, l6, l7, l8⟩
  · have hps : ps ≠ [] := fun e => by subst e; simp at hb; exact hb rfl
    have hp0 : 0 < ps.length := List.length_pos_iff.mpr hps
    have hm1 : 0 ≤ p.fmod (ps.length : Int) := Int.fmod_nonneg_of_pos p (by omega)
    have hm2 : p.fmod (ps.length : Int) < ps.length := Int.fmod_lt_of_pos p (by omega)
    refine Ex.seq (Ex.assign ok (.inl rfl) (P := dInt (p.fmod (ps.length : Int))) (Ev.bin (Ev.name ok h3) (len_row ok B rfl h1 (by omega)) (bin_mod (by omega))) ?_)
    obtain ⟨pl, hpl⟩ : ∃ pl : Nat, p.fmod (ps.length : Int) = pl := ⟨(p.fmod (ps.length : Int)).toNat, by omega⟩
    rw [hpl] at hm1 hm2 ⊢
    have hpl' : pl < ps.length := by omega
    refine Ex.seq (Ex.assign ok (.inl rfl) (Ev.bin (Ev.name ok (by passes_own)) (len_row ok B rfl (by passes_own) (by omega)) (bin_divk (by omega) (by omega))) ?_)
    refine Ex.seq (Ex.assign ok (.inr (mem_cellNames rfl)) (P := dR (cs ++ [ps.getD pl 0])) ?_ ?_)
    · have e : dR (cs ++ [ps.getD pl 0]) = dStr (rowS cs ++ ltr (ps.getD pl 0)) := by unfold dR; rw [ltr_row, rowS_append]
      rw [e]
      exact Ev.bin (Ev.name ok (by passes_own)) (Ev.sub (Ev.name ok (by passes_own)) (Ev.name ok (by passes_own)) (sub_card (cs := ps) (i := (pl : Int)) hm1 hm2 (by omega))) (bin_stradd (by rw [rowS_len]; omega) (by rw [ltr_len]; decide))
    · refine Ex.assign ok (.inl rfl) (P := dR (ps.take pl ++ ps.drop (pl + 1))) ?_ ⟨ps.length - 1, by omega, ps.take pl ++ ps.drop (pl + 1), cs ++ [ps.getD pl 0], _, ?_, ?_, by passes_own, by passes_own, by passes_own, by passes_own⟩
      · have e : dR (ps.take pl ++ ps.drop (pl + 1)) = dStr (Txt.slice (rowS ps) none (some (pl : Int)) ++ Txt.slice (rowS ps) (some ((pl : Int) + 1)) none) := by
          unfold dR; rw [show (pl : Int) + 1 = ((pl + 1 : Nat) : Int) from rfl, slice_take (by omega) (by omega), slice_drop (by omega) (by omega), rowS_append]
        rw [e]
        refine Ev.bin (ez_strTo (Ev.name ok (by passes_own)) (Ev.name ok (by passes_own)) (by rw [rowS_len]; omega)) (ez_strFrom (Ev.name ok (by passes_own)) (Ev.bin (Ev.name ok (by passes_own)) Ez.int bin_add) (by rw [rowS_len]; omega)) (bin_stradd ?_ ?_)
        · rw [slice_take (by omega) (by omega), rowS_len, List.length_take]; omega
        · rw [show (pl : Int) + 1 = ((pl + 1 : Nat) : Int) from rfl, slice_drop (by omega) (by omega), rowS_len, List.length_drop]; omega
      · rw [List.length_append, List.length_take, List.length_drop]; omega
      · refine List.Perm.trans ?_ hpm
        rw [List.append_assoc]
        refine List.Perm.append_left cs ?_
        have e : ps.getD pl 0 = ps[pl] := by simp [List.getD_eq_getElem?_getD, List.getElem?_eq_getElem hpl']
        have e2 : ps = ps.take pl ++ ps[pl] :: ps.drop (pl + 1) := by rw [← List.drop_eq_getElem_cons hpl', List.take_append_drop]
        conv => rhs; rw [e2]
        rw [e]
        show (ps[pl] :: (ps.take pl ++ ps.drop (pl + 1))).Perm _
        exact (List.perm_middle).symm
end
end Mine
end
/-! part D1 -/
section
open PySem PySem.Calls PySem.Spec PyProof.Rows PySem.W PySem.SeqAt
set_option Elab.async false
set_option linter.unusedVariables false
set_option maxRecDepth 100000
namespace Mine

/-! ## dicts of index pairs, and their images -/
section Im
variable {κ ι : Type} [DecidableEq κ] [DecidableEq ι] {f : ι → κ} {s : ι → Int → Int}
/-- the image of a dict -/
noncomputable def Im (f : ι → κ) (s : ι → Int → Int) (d : List (ι × Int)) : List (κ × Int) := d.map fun kv => (f kv.1, s kv.1 kv.2)
theorem any_im (hf : ∀ x y, f x = f y → x = y) (d : List (ι × Int)) (k : ι) : ((Im f s d).any fun kv => decide (kv.1 = f k)) = d.any fun kv => decide (kv.1 = k) := by
  unfold Im
  rw [List.any_map]
  congr 1
  funext kv
  exact decide_eq_decide.mpr ⟨fun h => hf _ _ h, fun h => congrArg f h⟩
theorem putI_im (hf : ∀ x y, f x = f y → x = y) (d : List (ι × Int)) (k : ι) (v : Int) : putI (Im f s d) (f k) (s k v) = Im f s (putI d k v) := by
  unfold putI
  rw [any_im hf]
  split
  · unfold Im
    rw [List.map_map, List.map_map]
    congr 1
    funext kv
    show (if f kv.1 = f k then (f kv.1, s k v) else (f kv.1, s kv.1 kv.2)) = (f (if kv.1 = k then (kv.1, v) else kv).1, s (if kv.1 = k then (kv.1, v) else kv).1 (if kv.1 = k then (kv.1, v) else kv).2)
    by_cases h : kv.1 = k
    · rw [if_pos h, if_pos (congrArg f h)]
      simp [h]
    · rw [if_neg h, if_neg fun e => h (hf _ _ e)]
  · unfold Im; rw [List.map_append]; rfl
theorem lookK_im (hf : ∀ x y, f x = f y → x = y) (k : ι) : ∀ d : List (ι × Int), lookK (Im f s d) (f k) = (lookK d k).map (s k)
  | [] => rfl
  | (x, v) :: r => by
    have ih := lookK_im hf k r
    unfold lookK at ih ⊢
    show Option.map _ (List.find? _ ((f x, s x v) :: Im f s r)) = _
    rw [List.find?_cons, List.find?_cons]
    by_cases h : x = k
    · subst h; simp
    · rw [show decide ((f x, s x v).1 = f k) = false from decide_eq_false fun e => h (hf _ _ e), show decide ((x, v).1 = k) = false from decide_eq_false h]
      exact ih
theorem putL_im (hf : ∀ x y, f x = f y → x = y) : ∀ (e d : List (ι × Int)), putL (Im f s d) (Im f s e) = Im f s (putL d e)
  | [], d => rfl
  | (k, v) :: r, d => by
    show putL (putI (Im f s d) (f k) (s k v)) (Im f s r) = Im f s (putL (putI d k v) r)
    rw [putI_im hf, putL_im hf r]
noncomputable def addI (acc : List (ι × Int)) (kv : ι × Int) : List (ι × Int) := match lookK acc kv.1 with | some o => putI acc kv.1 (o + kv.2) | none => putI acc kv.1 kv.2
noncomputable def addG (t e : List (ι × Int)) : List (ι × Int) := e.foldl addI (putL [] t)
theorem addI_im (hf : ∀ x y, f x = f y → x = y) (hs : ∀ k a b, s k (a + b) = s k a + s k b) (d : List (ι × Int)) (k : ι) (v : Int) : addI (Im f s d) (f k, s k v) = Im f s (addI d (k, v)) := by
  unfold addI
  show (match lookK (Im f s d) (f k) with | some o => putI (Im f s d) (f k) (o + s k v) | none => putI (Im f s d) (f k) (s k v)) = Im f s (match lookK d k with | some o => putI d k (o + v) | none => putI d k v)
  rw [lookK_im hf]
  cases lookK d k with
  | none => exact putI_im hf d k v
  | some o =>
    show putI (Im f s d) (f k) (s k o + s k v) = _
    rw [← hs, putI_im hf]
theorem foldl_im (hf : ∀ x y, f x = f y → x = y) (hs : ∀ k a b, s k (a + b) = s k a + s k b) : ∀ (e d : List (ι × Int)), (Im f s e).foldl addI (Im f s d) = Im f s (e.foldl addI d)
  | [], d => rfl
  | (k, v) :: r, d => by
    show (Im f s r).foldl addI (addI (Im f s d) (f k, s k v)) = Im f s (r.foldl addI (addI d (k, v)))
    rw [addI_im hf hs, foldl_im hf hs r]
theorem addG_im (hf : ∀ x y, f x = f y → x = y) (hs : ∀ k a b, s k (a + b) = s k a + s k b) (t e : List (ι × Int)) : addG (Im f s t) (Im f s e) = Im f s (addG t e) := by
  unfold addG
  rw [← foldl_im hf hs]
  congr 1
  exact putL_im hf t []
theorem eqDict_im (hf : ∀ x y, f x = f y → x = y) {d e : List (ι × Int)} (h : eqDict d e = true) : eqDict (Im f s d) (Im f s e) = true := by
  unfold eqDict at h ⊢
  rw [Bool.and_eq_true] at h ⊢
  refine ⟨by simpa [Im] using h.1, List.all_eq_true.mpr fun kv hk => ?_⟩
  obtain ⟨p, hp, rfl⟩ := List.mem_map.mp hk
  have := of_decide_eq_true (List.all_eq_true.mp h.2 p hp)
  apply decide_eq_true
  show lookK (Im f s e) (f p.1) = some (s p.1 p.2)
  rw [lookK_im hf, this]; rfl
/-! ## sums -/
noncomputable def sumV (d : List (ι × Int)) : Int := (d.map (·.2)).sum
theorem lookK_none {d : List (ι × Int)} {k : ι} (h : lookK d k = none) : ¬ (d.any fun kv => decide (kv.1 = k)) = true := by
  rw [any_lookK, h]; simp
theorem putI_new {d : List (ι × Int)} {k : ι} (h : lookK d k = none) (v : Int) : putI d k v = d ++ [(k, v)] := by
  unfold putI; rw [if_neg (lookK_none h)]
theorem putI_keys (d : List (ι × Int)) (k : ι) (v : Int) (h : (d.map (·.1)).Nodup) : ((putI d k v).map (·.1)).Nodup := by
  unfold putI
  split
  · rw [List.map_map]
    have : ((fun x : ι × Int => x.1) ∘ fun kv => if kv.1 = k then (kv.1, v) else kv) = fun kv => kv.1 := by funext kv; simp only [Function.comp]; split <;> rfl
    rw [this]; exact h
  · rename_i hn
    rw [List.map_append, List.nodup_append]
    refine ⟨h, by simp, fun a ha b hb => ?_⟩
    obtain ⟨p, hp, rfl⟩ := List.mem_map.mp ha
    simp only [List.map_cons, List.map_nil, List.mem_singleton] at hb
    subst hb
    intro e
    exact hn (List.any_eq_true.mpr ⟨p, hp, decide_eq_true e⟩)
theorem putI_sum {d : List (ι × Int)} {k : ι} {o v : Int} (h : (d.map (·.1)).Nodup) (hl : lookK d k = some o) : sumV (putI d k (o + v)) = sumV d + v := by
  have ha : (d.any fun kv => decide (kv.1 = k)) = true := by rw [any_lookK, hl]; rfl
  unfold putI; rw [if_pos ha]
  clear ha
  induction d with
  | nil => simp [lookK] at hl
  | cons p r ih =>
    obtain ⟨x, y⟩ := p
    rw [List.map_cons, List.nodup_cons] at h
    unfold lookK at hl
    rw [List.find?_cons] at hl
    by_cases hx : x = k
    · subst hx
      simp at hl; subst hl
      have hr : r.map (fun kv => if kv.1 = x then (kv.1, y + v) else kv) = r := by
        conv => rhs; rw [← List.map_id r]
        refine List.map_congr_left fun p hp => ?_
        rw [if_neg]; rfl
        intro e; exact h.1 (List.mem_map.mpr ⟨p, hp, e⟩)
      rw [List.map_cons, hr, if_pos rfl]
      simp [sumV]; omega
    · rw [show decide ((x, y).1 = k) = false from decide_eq_false hx] at hl
      have := ih h.2 hl
      rw [List.map_cons, if_neg hx]
      unfold sumV at this ⊢
      rw [List.map_cons, List.sum_cons, this, List.map_cons, List.sum_cons]; omega
theorem addI_sum {d : List (ι × Int)} {k : ι} {v : Int} (h : (d.map (·.1)).Nodup) : sumV (addI d (k, v)) = sumV d + v := by
  unfold addI
  show sumV (match lookK d k with | some o => putI d k (o + v) | none => putI d k v) = _
  cases hl : lookK d k with
  | none => show sumV (putI d k v) = _; rw [putI_new hl]; simp [sumV]
  | some o => exact putI_sum h hl
theorem addI_keys {d : List (ι × Int)} {p : ι × Int} (h : (d.map (·.1)).Nodup) : ((addI d p).map (·.1)).Nodup := by
  unfold addI; split <;> exact putI_keys _ _ _ h
theorem putL_keys : ∀ (e d : List (ι × Int)), (d.map (·.1)).Nodup → ((putL d e).map (·.1)).Nodup
  | [], d, h => h
  | p :: r, d, h => putL_keys r _ (putI_keys d p.1 p.2 h)
theorem foldl_keys : ∀ (e d : List (ι × Int)), (d.map (·.1)).Nodup → ((e.foldl addI d).map (·.1)).Nodup
  | [], d, h => h
  | p :: r, d, h => foldl_keys r _ (addI_keys h)
theorem foldl_sum : ∀ (e d : List (ι × Int)), (d.map (·.1)).Nodup → sumV (e.foldl addI d) = sumV d + sumV e
  | [], d, h => by simp [sumV]
  | (k, v) :: r, d, h => by
    rw [List.foldl_cons, foldl_sum r _ (addI_keys h), addI_sum h]; simp [sumV]; omega
theorem lookK_out {d : List (ι × Int)} {k : ι} (h : k ∉ d.map (·.1)) : lookK d k = none := by
  cases hl : lookK d k with
  | none => rfl
  | some o =>
    have ha : (d.any fun kv => decide (kv.1 = k)) = true := by rw [any_lookK, hl]; rfl
    obtain ⟨p, hp, e⟩ := List.any_eq_true.mp ha
    exact absurd (List.mem_map.mpr ⟨p, hp, of_decide_eq_true e⟩) h
theorem putL_new : ∀ (e d : List (ι × Int)), ((d ++ e).map (·.1)).Nodup → putL d e = d ++ e
  | [], d, h => by simp [putL]
  | (k, v) :: r, d, h => by
    have hk : k ∉ d.map (·.1) := by
      rw [List.map_append, List.nodup_append] at h
      intro hm
      exact h.2.2 k hm k (by simp) rfl
    show putL (putI d k v) r = _
    rw [putI_new (lookK_out hk), putL_new r _ (by simpa using h)]
    simp
theorem addG_sum {t e : List (ι × Int)} (h : (t.map (·.1)).Nodup) : sumV (addG t e) = sumV t + sumV e := by
  unfold addG
  rw [foldl_sum _ _ (putL_keys t [] (by simp)), putL_new t [] (by simpa using h)]; rfl
theorem addG_keys {t e : List (ι × Int)} : ((addG t e).map (·.1)).Nodup := foldl_keys e _ (putL_keys t [] (by simp))
end Im
theorem addC_eq (t e : List (Str × Int)) : addC t e = addG t e := rfl
end Mine
end
/-! part D2 -/
section
open PySem PySem.Calls PySem.Spec PyProof.Rows PySem.W PySem.SeqAt
set_option Elab.async false
set_option linter.unusedVariables false
set_option maxRecDepth 100000
namespace Mine

/-! ## the law on rows of places -/
noncomputable abbrev I4 := _root_.Fin 4
noncomputable def F4 (k : Int) : I4 := ⟨k.toNat % 4, Nat.mod_lt _ (by decide)⟩
noncomputable def appI (mv : List Int) (r : List I4) : List I4 := mv.map fun x => r.getD x.toNat 0
noncomputable def srcI (r : List I4) : List ((I4 × I4) × Int) := [((0, r.getD 0 0), 1), ((1, r.getD 1 0), 1), ((2, r.getD 2 0), 1), ((3, r.getD 3 0), 1)]
structure SI where
  rows : List (List I4)
  seen : Nat
  t1 : Int
  t2 : Int
  cnt : List ((I4 × I4) × Int)
noncomputable def addRI (rows : List (List I4)) (d : List I4) : List (List I4) := if d ∈ rows then rows else rows ++ [d]
noncomputable def sameI (n : Nat) (r : List I4) : Int := if r.take n = [0, 1, 2, 3].take n then 1 else 0
noncomputable def turnI (mv0 mv1 : List Int) (st : SI) (r : List I4) : SI :=
  { rows := addRI (addRI st.rows (appI mv0 r)) (appI mv1 r), seen := st.seen + 1, t1 := sameI 1 r + st.t1, t2 := sameI 2 r + st.t2, cnt := addG st.cnt (srcI r) }
noncomputable def runI (mv0 mv1 : List Int) : Nat → SI → SI
  | 0, st => st
  | n + 1, st => match st.rows[st.seen]? with
    | some r => runI mv0 mv1 n (turnI mv0 mv1 st r)
    | none => st
noncomputable def finI (mv0 mv1 : List Int) : SI := runI mv0 mv1 25 ⟨[[0, 1, 2, 3]], 0, 0, 0, []⟩
noncomputable def rowI (goals : List Int) : List I4 := (upto 0 4).map fun p => F4 (goals.findIdx fun y => decide (y = p))
noncomputable def rowsI (w0 w1 w2 : Ways) : List (List I4) := w2.flatMap fun lo => w1.flatMap fun mi => w0.map fun hi => rowI (goalsF lo.2 mi.2 hi.2)
noncomputable def okRowsI (w0 w1 w2 : Ways) : Bool := w2.all fun lo => w1.all fun mi => w0.all fun hi => (upto 0 4).all fun p => decide (((goalsF lo.2 mi.2 hi.2).findIdx fun y => decide (y = p)) < 4)
noncomputable def paidI (mv0 mv1 : List Int) : List ((I4 × I4) × Int) := (upto 0 4).flatMap fun k => (goalsW mv0 mv1 k).map fun x => ((F4 k, F4 x.1), (wholeN mv0 mv1).fdiv ((goalsW mv0 mv1 k).length : Int))
noncomputable def tabI (mv0 mv1 : List Int) : List ((I4 × I4) × Int) := (upto 0 4).flatMap fun k => (goalsW mv0 mv1 k).map fun x => ((F4 x.1, F4 k), (wholeN mv0 mv1).fdiv ((goalsW mv0 mv1 k).length : Int))
noncomputable def partI (cnt : List ((I4 × I4) × Int)) (c : I4) : List ((I4 × I4) × Int) := putL [] ((cnt.filter fun kv => decide (kv.1.2 = c)).map fun kv => (kv.1, (lookK cnt kv.1).getD 0))
structure OkI (mv0 mv1 : List Int) : Prop where
  p0 : pmB mv0 = true
  p1 : pmB mv1 = true
  q0 : mv0.isPerm [0, 1, 2, 3] = true
  q1 : mv1.isPerm [0, 1, 2, 3] = true
  chain : okChain [mv0, mv1] = true
  rowsOk : okRows (waysF 0 [mv0, mv1]) (waysF 1 (stage 0 [mv0, mv1])) (waysF 2 (stage 1 (stage 0 [mv0, mv1]))) = true
  rowsOk' : okRowsI (waysF 0 [mv0, mv1]) (waysF 1 (stage 0 [mv0, mv1])) (waysF 2 (stage 1 (stage 0 [mv0, mv1]))) = true
  done : (finI mv0 mv1).rows.length = (finI mv0 mv1).seen
  perm : (finI mv0 mv1).rows.isPerm (rowsI (waysF 0 [mv0, mv1]) (waysF 1 (stage 0 [mv0, mv1])) (waysF 2 (stage 1 (stage 0 [mv0, mv1])))) = true
  keys : ∀ k ∈ upto 0 4, ∀ x ∈ goalsW mv0 mv1 k, 0 ≤ x.1 ∧ x.1 < 4
  costs : eqDict (finI mv0 mv1).cnt (putL [] (paidI mv0 mv1)) = true
  costs' : (finI mv0 mv1).cnt.isPerm (putL [] (paidI mv0 mv1)) = true
  t0 : ((finI mv0 mv1).seen : Int) = wholeN mv0 mv1
  t1 : (finI mv0 mv1).t1 = keptN mv0 mv1
  t2 : (finI mv0 mv1).t2 = ((waysF 2 (stage 1 (stage 0 [mv0, mv1]))).length : Int)
  tab : eqDict (finI mv0 mv1).cnt (putL [] (tabI mv0 mv1)) = true
  parts : ∀ k : I4, sumV (partI (finI mv0 mv1).cnt k) = wholeN mv0 mv1
noncomputable def okI (mv0 mv1 : List Int) : Bool :=
  let w0 := waysF 0 [mv0, mv1]
  let s1 := stage 0 [mv0, mv1]
  let w1 := waysF 1 s1
  let w2 := waysF 2 (stage 1 s1)
  let f := finI mv0 mv1
  pmB mv0 && pmB mv1 && mv0.isPerm [0, 1, 2, 3] && mv1.isPerm [0, 1, 2, 3] && okChain [mv0, mv1] && okRows w0 w1 w2 && okRowsI w0 w1 w2 && (f.rows.length == f.seen) && f.rows.isPerm (rowsI w0 w1 w2)
   && ((upto 0 4).all fun k => (goalsW mv0 mv1 k).all fun x => decide (0 ≤ x.1) && decide (x.1 < 4))
   && eqDict f.cnt (putL [] (paidI mv0 mv1)) && f.cnt.isPerm (putL [] (paidI mv0 mv1)) && decide ((f.seen : Int) = wholeN mv0 mv1) && decide (f.t1 = keptN mv0 mv1) && decide (f.t2 = (w2.length : Int))
   && eqDict f.cnt (putL [] (tabI mv0 mv1)) && (List.finRange 4).all fun k => decide (sumV (partI f.cnt k) = wholeN mv0 mv1)
theorem okI_ok {mv0 mv1 : List Int} (h : okI mv0 mv1 = true) : OkI mv0 mv1 := by
  unfold okI at h
  simp only [Bool.and_eq_true] at h
  obtain ⟨⟨⟨⟨⟨⟨⟨⟨⟨⟨⟨⟨⟨⟨⟨⟨a1, a2⟩, a3⟩, a4⟩, a5⟩, a6⟩, a7⟩, a8⟩, a9⟩, b1⟩, b2⟩, b3⟩, b4⟩, b5⟩, b6⟩, b7⟩, b8⟩ := h
  exact ⟨a1, a2, a3, a4, a5, a6, a7, by simpa using a8, a9, fun k hk x hx => by
      have := List.all_eq_true.mp (List.all_eq_true.mp b1 k hk) x hx
      simpa using this, b2, b3, of_decide_eq_true b4, of_decide_eq_true b5, of_decide_eq_true b6, b7, fun k => of_decide_eq_true (List.all_eq_true.mp b8 k (List.mem_finRange k))⟩
noncomputable def allMv : List (List Int) := [[0, 3, 2, 1], [3, 2, 0, 1], [3, 2, 1, 0], [0, 1, 3, 2], [3, 1, 2, 0], [0, 3, 1, 2], [3, 0, 1, 2], [0, 1, 2, 3], [2, 3, 1, 0], [0, 2, 3, 1], [2, 3, 0, 1], [1, 2, 3, 0]]
theorem cut_mem : ∀ a b c : _root_.Fin 5, cutF (szs a b c) ∈ allMv := by decide +kernel
end Mine
end
/-! part D3 -/
section
open PySem PySem.Calls PySem.Spec PyProof.Rows PySem.W PySem.SeqAt
set_option Elab.async false
set_option linter.unusedVariables false
set_option maxRecDepth 100000
namespace Mine

/-! ## rows of cards as images of rows of places -/
noncomputable def toR (cs : List Nat) (r : List I4) : List Nat := r.map fun j => gt cs j.val
theorem gt_inj {cs : List Nat} (h : IsRow cs) {i j : I4} (e : gt cs i.val = gt cs j.val) : i = j := by
  have hi : i.val < cs.length := by rw [h.len]; exact i.isLt
  have hj : j.val < cs.length := by rw [h.len]; exact j.isLt
  unfold gt at e
  rw [List.getD_eq_getElem?_getD, List.getD_eq_getElem?_getD, List.getElem?_eq_getElem hi, List.getElem?_eq_getElem hj] at e
  have hp := List.pairwise_iff_getElem.mp h.nodup
  refine Fin.ext ?_
  rcases Nat.lt_trichotomy i.val j.val with hlt | heq | hgt
  · exact absurd (by simpa using e) (hp _ _ hi hj hlt)
  · exact heq
  · exact absurd (by simpa using e.symm) (hp _ _ hj hi hgt)
theorem gtI_lt {cs : List Nat} (h : IsRow cs) (i : I4) : gt cs i.val < 4 := by
  have hi : i.val < cs.length := by rw [h.len]; exact i.isLt
  unfold gt
  rw [List.getD_eq_getElem?_getD, List.getElem?_eq_getElem hi]
  exact h.lt _ (List.getElem_mem hi)
theorem toR_inj {cs : List Nat} (h : IsRow cs) {a b : List I4} (e : toR cs a = toR cs b) : a = b := by
  unfold toR at e
  induction a generalizing b with
  | nil => cases b with
    | nil => rfl
    | cons y t => simp at e
  | cons x r ih => cases b with
    | nil => simp at e
    | cons y t =>
      simp only [List.map_cons, List.cons.injEq] at e
      rw [gt_inj h e.1, ih e.2]
theorem toR_get (cs : List Nat) {r : List I4} {k : Nat} (hk : k < r.length) : gt (toR cs r) k = gt cs (r.getD k 0).val := by
  show (toR cs r).getD k 0 = _
  unfold toR
  rw [List.getD_eq_getElem?_getD, List.getD_eq_getElem?_getD, List.getElem?_map, List.getElem?_eq_getElem hk]; rfl
theorem app_toR (cs : List Nat) {mv : List Int} (hm : IsPm mv) {r : List I4} (hr : r.length = 4) : app mv (toR cs r) = toR cs (appI mv r) := by
  unfold app appI
  rw [show toR cs (mv.map fun x => r.getD x.toNat 0) = mv.map fun x => gt cs (r.getD x.toNat 0).val from List.map_map]
  refine List.map_congr_left fun x hx => ?_
  have := hm.2 x hx
  exact toR_get cs (by omega)
theorem toR_base {cs : List Nat} (h : IsRow cs) : toR cs [0, 1, 2, 3] = cs := by
  obtain ⟨hl, _, _⟩ := h
  match cs, hl with
  | [a, b, c, d], _ => rfl
theorem addR_toR {cs : List Nat} (h : IsRow cs) (rows : List (List I4)) (d : List I4) : addR (rows.map (toR cs)) (toR cs d) = (addRI rows d).map (toR cs) := by
  unfold addR addRI
  have : toR cs d ∈ rows.map (toR cs) ↔ d ∈ rows := by
    constructor
    · intro hm
      obtain ⟨x, hx, e⟩ := List.mem_map.mp hm
      rw [← toR_inj h e]; exact hx
    · exact fun hm => List.mem_map.mpr ⟨d, hm, rfl⟩
  by_cases hd : d ∈ rows
  · rw [if_pos hd, if_pos (this.mpr hd)]
  · rw [if_neg hd, if_neg fun e => hd (this.mp e), List.map_append]; rfl
theorem same_toR {cs : List Nat} (h : IsRow cs) (n : Nat) (r : List I4) : same n (toR cs r) cs = sameI n r := by
  unfold same sameI
  have e : (toR cs r).take n = cs.take n ↔ r.take n = [0, 1, 2, 3].take n := by
    have h1 : (toR cs r).take n = toR cs (r.take n) := by unfold toR; rw [List.map_take]
    have h2 : cs.take n = toR cs (([0, 1, 2, 3] : List I4).take n) := by
      conv => lhs; rw [← toR_base h]
      unfold toR; rw [List.map_take]
    rw [h1, h2]
    exact ⟨fun e => toR_inj h e, fun e => by rw [e]⟩
  by_cases hr : r.take n = [0, 1, 2, 3].take n
  · rw [if_pos hr, if_pos (e.mpr hr)]
  · rw [if_neg hr, if_neg fun x => hr (e.mp x)]

/-! ## the two dicts -/
noncomputable def fT (cs : List Nat) (p : I4 × I4) : Str := kd (gt cs p.2.val) p.1.val
noncomputable def sT (p : I4 × I4) (v : Int) : Int := v
noncomputable def fC (cs : List Nat) (p : I4 × I4) : Str := rowS [gt cs p.1.val, gt cs p.2.val]
noncomputable def sC (cs : List Nat) (p : I4 × I4) (v : Int) : Int := v * priceI (gt cs p.1.val) (gt cs p.2.val)
theorem fT_inj {cs : List Nat} (h : IsRow cs) (x y : I4 × I4) (e : fT cs x = fT cs y) : x = y := by
  obtain ⟨a, b⟩ := x
  obtain ⟨c, d⟩ := y
  unfold fT kd at e
  simp only [Str.mk.injEq, Array.mk.injEq, List.cons.injEq] at e
  have h1 := gt_inj h (cp_inj (gtI_lt h b) (gtI_lt h d) e.1)
  have h2 : a = c := Fin.ext (by have := e.2.1; omega)
  rw [h1, h2]
theorem fC_inj {cs : List Nat} (h : IsRow cs) (x y : I4 × I4) (e : fC cs x = fC cs y) : x = y := by
  obtain ⟨a, b⟩ := x
  obtain ⟨c, d⟩ := y
  unfold fC at e
  have e2 := rowS_inj (by intro x hx; simp at hx; rcases hx with rfl | rfl <;> exact gtI_lt h _) (by intro x hx; simp at hx; rcases hx with rfl | rfl <;> exact gtI_lt h _) e
  simp only [List.cons.injEq, and_true] at e2
  rw [gt_inj h e2.1, gt_inj h e2.2]
theorem sT_add (p : I4 × I4) (a b : Int) : sT p (a + b) = sT p a + sT p b := rfl
theorem sC_add (cs : List Nat) (p : I4 × I4) (a b : Int) : sC cs p (a + b) = sC cs p a + sC cs p b := Int.add_mul _ _ _
theorem srcI_keys (r : List I4) : ((srcI r).map (·.1)).Nodup := by
  unfold srcI; simp
theorem srcTab_toR {cs : List Nat} (h : IsRow cs) {r : List I4} (hr : r.length = 4) : srcTab (toR cs r) = Im (fT cs) sT (srcI r) := by
  have e : ((upto 0 4).map fun k => (kd (gt (toR cs r) k.toNat) k.toNat, (1 : Int))) = Im (fT cs) sT (srcI r) := by
    show [(kd (gt (toR cs r) 0) 0, (1 : Int)), (kd (gt (toR cs r) 1) 1, (1 : Int)), (kd (gt (toR cs r) 2) 2, (1 : Int)), (kd (gt (toR cs r) 3) 3, (1 : Int))] = _
    rw [toR_get cs (by omega), toR_get cs (by omega), toR_get cs (by omega), toR_get cs (by omega)]; rfl
  unfold srcTab
  rw [e]
  have := putL_im (f := fT cs) (s := sT) (fT_inj h) (srcI r) []
  rw [putL_new (srcI r) [] (srcI_keys r)] at this
  exact this
theorem srcCost_toR {cs : List Nat} (h : IsRow cs) {r : List I4} (hr : r.length = 4) : srcCost cs (toR cs r) = Im (fC cs) (sC cs) (srcI r) := by
  have e : ((upto 0 4).map fun k => (rowS [gt cs k.toNat, gt (toR cs r) k.toNat], priceI (gt cs k.toNat) (gt (toR cs r) k.toNat))) = Im (fC cs) (sC cs) (srcI r) := by
    show [(rowS [gt cs 0, gt (toR cs r) 0], priceI (gt cs 0) (gt (toR cs r) 0)), (rowS [gt cs 1, gt (toR cs r) 1], priceI (gt cs 1) (gt (toR cs r) 1)), (rowS [gt cs 2, gt (toR cs r) 2], priceI (gt cs 2) (gt (toR cs r) 2)), (rowS [gt cs 3, gt (toR cs r) 3], priceI (gt cs 3) (gt (toR cs r) 3))] = _
    rw [toR_get cs (by omega), toR_get cs (by omega), toR_get cs (by omega), toR_get cs (by omega)]
    unfold Im srcI sC fC
    simp only [List.map_cons, List.map_nil, Int.one_mul]
    rfl
  unfold srcCost
  rw [e]
  have := putL_im (f := fC cs) (s := sC cs) (fC_inj h) (srcI r) []
  rw [putL_new (srcI r) [] (srcI_keys r)] at this
  exact this
theorem spent_toR {cs : List Nat} (h : IsRow cs) {r : List I4} (hr : r.length = 4) : (spent cs (toR cs r)).sum = sumV (Im (fC cs) (sC cs) (srcI r)) := by
  show [priceI (gt cs 0) (gt (toR cs r) 0), priceI (gt cs 1) (gt (toR cs r) 1), priceI (gt cs 2) (gt (toR cs r) 2), priceI (gt cs 3) (gt (toR cs r) 3)].sum = _
  rw [toR_get cs (by omega), toR_get cs (by omega), toR_get cs (by omega), toR_get cs (by omega)]
  unfold sumV Im srcI sC
  simp only [List.map_cons, List.map_nil, Int.one_mul]
  rfl
end Mine
end
/-! part D4 -/
section
open PySem PySem.Calls PySem.Spec PyProof.Rows PySem.W PySem.SeqAt
set_option Elab.async false
set_option linter.unusedVariables false
set_option maxRecDepth 100000
set_option maxHeartbeats 0
namespace Mine
theorem ok_0_0 : okI [0, 3, 2, 1] [0, 3, 2, 1] = true := by decide +kernel
theorem ok_0_1 : okI [0, 3, 2, 1] [3, 2, 0, 1] = true := by decide +kernel
theorem ok_0_2 : okI [0, 3, 2, 1] [3, 2, 1, 0] = true := by decide +kernel
theorem ok_0_3 : okI [0, 3, 2, 1] [0, 1, 3, 2] = true := by decide +kernel
theorem ok_0_4 : okI [0, 3, 2, 1] [3, 1, 2, 0] = true := by decide +kernel
theorem ok_0_5 : okI [0, 3, 2, 1] [0, 3, 1, 2] = true := by decide +kernel
theorem ok_0_6 : okI [0, 3, 2, 1] [3, 0, 1, 2] = true := by decide +kernel
theorem ok_0_7 : okI [0, 3, 2, 1] [0, 1, 2, 3] = true := by decide +kernel
theorem ok_0_8 : okI [0, 3, 2, 1] [2, 3, 1, 0] = true := by decide +kernel
theorem ok_0_9 : okI [0, 3, 2, 1] [0, 2, 3, 1] = true := by decide +kernel
theorem ok_0_10 : okI [0, 3, 2, 1] [2, 3, 0, 1] = true := by decide +kernel
theorem ok_0_11 : okI [0, 3, 2, 1] [1, 2, 3, 0] = true := by decide +kernel
theorem ok_1_0 : okI [3, 2, 0, 1] [0, 3, 2, 1] = true := by decide +kernel
theorem ok_1_1 : okI [3, 2, 0, 1] [3, 2, 0, 1] = true := by decide +kernel
theorem ok_1_2 : okI [3, 2, 0, 1] [3, 2, 1, 0] = true := by decide +kernel
theorem ok_1_3 : okI [3, 2, 0, 1] [0, 1, 3, 2] = true := by decide +kernel
theorem ok_1_4 : okI [3, 2, 0, 1] [3, 1, 2, 0] = true := by decide +kernel
theorem ok_1_5 : okI [3, 2, 0, 1] [0, 3, 1, 2] = true := by decide +kernel
theorem ok_1_6 : okI [3, 2, 0, 1] [3, 0, 1, 2] = true := by decide +kernel
theorem ok_1_7 : okI [3, 2, 0, 1] [0, 1, 2, 3] = true := by decide +kernel
theorem ok_1_8 : okI [3, 2, 0, 1] [2, 3, 1, 0] = true := by decide +kernel
theorem ok_1_9 : okI [3, 2, 0, 1] [0, 2, 3, 1] = true := by decide +kernel
theorem ok_1_10 : okI [3, 2, 0, 1] [2, 3, 0, 1] = true := by decide +kernel
theorem ok_1_11 : okI [3, 2, 0, 1] [1, 2, 3, 0] = true := by decide +kernel
theorem ok_2_0 : okI [3, 2, 1, 0] [0, 3, 2, 1] = true := by decide +kernel
theorem ok_2_1 : okI [3, 2, 1, 0] [3, 2, 0, 1] = true := by decide +kernel
theorem ok_2_2 : okI [3, 2, 1, 0] [3, 2, 1, 0] = true := by decide +kernel
theorem ok_2_3 : okI [3, 2, 1, 0] [0, 1, 3, 2] = true := by decide +kernel
theorem ok_2_4 : okI [3, 2, 1, 0] [3, 1, 2, 0] = true := by decide +kernel
theorem ok_2_5 : okI [3, 2, 1, 0] [0, 3, 1, 2] = true := by decide +kernel
theorem ok_2_6 : okI [3, 2, 1, 0] [3, 0, 1, 2] = true := by decide +kernel
theorem ok_2_7 : okI [3, 2, 1, 0] [0, 1, 2, 3] = true := by decide +kernel
theorem ok_2_8 : okI [3, 2, 1, 0] [2, 3, 1, 0] = true := by decide +kernel
theorem ok_2_9 : okI [3, 2, 1, 0] [0, 2, 3, 1] = true := by decide +kernel
theorem ok_2_10 : okI [3, 2, 1, 0] [2, 3, 0, 1] = true := by decide +kernel
theorem ok_2_11 : okI [3, 2, 1, 0] [1, 2, 3, 0] = true := by decide +kernel
theorem ok_3_0 : okI [0, 1, 3, 2] [0, 3, 2, 1] = true := by decide +kernel
theorem ok_3_1 : okI [0, 1, 3, 2] [3, 2, 0, 1] = true := by decide +kernel
theorem ok_3_2 : okI [0, 1, 3, 2] [3, 2, 1, 0] = true := by decide +kernel
theorem ok_3_3 : okI [0, 1, 3, 2] [0, 1, 3, 2] = true := by decide +kernel
theorem ok_3_4 : okI [0, 1, 3, 2] [3, 1, 2, 0] = true := by decide +kernel
theorem ok_3_5 : okI [0, 1, 3, 2] [0, 3, 1, 2] = true := by decide +kernel
theorem ok_3_6 : okI [0, 1, 3, 2] [3, 0, 1, 2] = true := by decide +kernel
theorem ok_3_7 : okI [0, 1, 3, 2] [0, 1, 2, 3] = true := by decide +kernel
theorem ok_3_8 : okI [0, 1, 3, 2] [2, 3, 1, 0] = true := by decide +kernel
theorem ok_3_9 : okI [0, 1, 3, 2] [0, 2, 3, 1] = true := by decide +kernel
theorem ok_3_10 : okI [0, 1, 3, 2] [2, 3, 0, 1] = true := by decide +kernel
theorem ok_3_11 : okI [0, 1, 3, 2] [1, 2, 3, 0] = true := by decide +kernel
theorem ok_4_0 : okI [3, 1, 2, 0] [0, 3, 2, 1] = true := by decide +kernel
theorem ok_4_1 : okI [3, 1, 2, 0] [3, 2, 0, 1] = true := by decide +kernel
theorem ok_4_2 : okI [3, 1, 2, 0] [3, 2, 1, 0] = true := by decide +kernel
theorem ok_4_3 : okI [3, 1, 2, 0] [0, 1, 3, 2] = true := by decide +kernel
theorem ok_4_4 : okI [3, 1, 2, 0] [3, 1, 2, 0] = true := by decide +kernel
theorem ok_4_5 : okI [3, 1, 2, 0] [0, 3, 1, 2] = true := by decide +kernel
theorem ok_4_6 : okI [3, 1, 2, 0] [3, 0, 1, 2] = true := by decide +kernel
theorem ok_4_7 : okI [3, 1, 2, 0] [0, 1, 2, 3] = true := by decide +kernel
theorem ok_4_8 : okI [3, 1, 2, 0] [2, 3, 1, 0] = true := by decide +kernel
theorem ok_4_9 : okI [3, 1, 2, 0] [0, 2, 3, 1] = true := by decide +kernel
theorem ok_4_10 : okI [3, 1, 2, 0] [2, 3, 0, 1] = true := by decide +kernel
theorem ok_4_11 : okI [3, 1, 2, 0] [1, 2, 3, 0] = true := by decide +kernel
theorem ok_5_0 : okI [0, 3, 1, 2] [0, 3, 2, 1] = true := by decide +kernel
theorem ok_5_1 : okI [0, 3, 1, 2] [3, 2, 0, 1] = true := by decide +kernel
theorem ok_5_2 : okI [0, 3, 1, 2] [3, 2, 1, 0] = true := by decide +kernel
theorem ok_5_3 : okI [0, 3, 1, 2] [0, 1, 3, 2] = true := by decide +kernel
theorem ok_5_4 : okI [0, 3, 1, 2] [3, 1, 2, 0] = true := by decide +kernel
theorem ok_5_5 : okI [0, 3, 1, 2] [0, 3, 1, 2] = true := by decide +kernel
theorem ok_5_6 : okI [0, 3, 1, 2] [3, 0, 1, 2] = true := by decide +kernel
theorem ok_5_7 : okI [0, 3, 1, 2] [0, 1, 2, 3] = true := by decide +kernel
theorem ok_5_8 : okI [0, 3, 1, 2] [2, 3, 1, 0] = true := by decide +kernel
theorem ok_5_9 : okI [0, 3, 1, 2] [0, 2, 3, 1] = true := by decide +kernel
theorem ok_5_10 : okI [0, 3, 1, 2] [2, 3, 0, 1] = true := by decide +kernel
theorem ok_5_11 : okI [0, 3, 1, 2] [1, 2, 3, 0] = true := by decide +kernel
theorem ok_6_0 : okI [3, 0, 1, 2] [0, 3, 2, 1] = true := by decide +kernel
theorem ok_6_1 : okI [3, 0, 1, 2] [3, 2, 0, 1] = true := by decide +kernel
theorem ok_6_2 : okI [3, 0, 1, 2] [3, 2, 1, 0] = true := by decide +kernel
theorem ok_6_3 : okI [3, 0, 1, 2] [0, 1, 3, 2] = true := by decide +kernel
theorem ok_6_4 : okI [3, 0, 1, 2] [3, 1, 2, 0] = true := by decide +kernel
theorem ok_6_5 : okI [3, 0, 1, 2] [0, 3, 1, 2] = true := by decide +kernel
theorem ok_6_6 : okI [3, 0, 1, 2] [3, 0, 1, 2] = true := by decide +kernel
theorem ok_6_7 : okI [3, 0, 1, 2] [0, 1, 2, 3] = true := by decide +kernel
theorem ok_6_8 : okI [3, 0, 1, 2] [2, 3, 1, 0] = true := by decide +kernel
theorem ok_6_9 : okI [3, 0, 1, 2] [0, 2, 3, 1] = true := by decide +kernel
theorem ok_6_10 : okI [3, 0, 1, 2] [2, 3, 0, 1] = true := by decide +kernel
theorem ok_6_11 : okI [3, 0, 1, 2] [1, 2, 3, 0] = true := by decide +kernel
theorem ok_7_0 : okI [0, 1, 2, 3] [0, 3, 2, 1] = true := by decide +kernel
theorem ok_7_1 : okI [0, 1, 2, 3] [3, 2, 0, 1] = true := by decide +kernel
theorem ok_7_2 : okI [0, 1, 2, 3] [3, 2, 1, 0] = true := by decide +kernel
theorem ok_7_3 : okI [0, 1, 2, 3] [0, 1, 3, 2] = true := by decide +kernel
theorem ok_7_4 : okI [0, 1, 2, 3] [3, 1, 2, 0] = true := by decide +kernel
theorem ok_7_5 : okI [0, 1, 2, 3] [0, 3, 1, 2] = true := by decide +kernel
theorem ok_7_6 : okI [0, 1, 2, 3] [3, 0, 1, 2] = true := by decide +kernel
theorem ok_7_7 : okI [0, 1, 2, 3] [0, 1, 2, 3] = true := by decide +kernel
theorem ok_7_8 : okI [0, 1, 2, 3] [2, 3, 1, 0] = true := by decide +kernel
theorem ok_7_9 : okI [0, 1, 2, 3] [0, 2, 3, 1] = true := by decide +kernel
theorem ok_7_10 : okI [0, 1, 2, 3] [2, 3, 0, 1] = true := by decide +kernel
theorem ok_7_11 : okI [0, 1, 2, 3] [1, 2, 3, 0] = true := by decide +kernel
theorem ok_8_0 : okI [2, 3, 1, 0] [0, 3, 2, 1] = true := by decide +kernel
theorem ok_8_1 : okI [2, 3, 1, 0] [3, 2, 0, 1] = true := by decide +kernel
theorem ok_8_2 : okI [2, 3, 1, 0] [3, 2, 1, 0] = true := by decide +kernel
theorem ok_8_3 : okI [2, 3, 1, 0] [0, 1, 3, 2] = true := by decide +kernel
theorem ok_8_4 : okI [2, 3, 1, 0] [3, 1, 2, 0] = true := by decide +kernel
theorem ok_8_5 : okI [2, 3, 1, 0] [0, 3, 1, 2] = true := by decide +kernel
theorem ok_8_6 : okI [2, 3, 1, 0] [3, 0, 1, 2] = true := by decide +kernel
theorem ok_8_7 : okI [2, 3, 1, 0] [0, 1, 2, 3] = true := by decide +kernel
theorem ok_8_8 : okI [2, 3, 1, 0] [2, 3, 1, 0] = true := by decide +kernel
theorem ok_8_9 : okI [2, 3, 1, 0] [0, 2, 3, 1] = true := by decide +kernel
theorem ok_8_10 : okI [2, 3, 1, 0] [2, 3, 0, 1] = true := by decide +kernel
theorem ok_8_11 : okI [2, 3, 1, 0] [1, 2, 3, 0] = true := by decide +kernel
theorem ok_9_0 : okI [0, 2, 3, 1] [0, 3, 2, 1] = true := by decide +kernel
theorem ok_9_1 : okI [0, 2, 3, 1] [3, 2, 0, 1] = true := by decide +kernel
theorem ok_9_2 : okI [0, 2, 3, 1] [3, 2, 1, 0] = true := by decide +kernel
theorem ok_9_3 : okI [0, 2, 3, 1] [0, 1, 3, 2] = true := by decide +kernel
theorem ok_9_4 : okI [0, 2, 3, 1] [3, 1, 2, 0] = true := by decide +kernel
theorem ok_9_5 : okI [0, 2, 3, 1] [0, 3, 1, 2] = true := by decide +kernel
theorem ok_9_6 : okI [0, 2, 3, 1] [3, 0, 1, 2] = true := by decide +kernel
theorem ok_9_7 : okI [0, 2, 3, 1] [0, 1, 2, 3] = true := by decide +kernel
theorem ok_9_8 : okI [0, 2, 3, 1] [2, 3, 1, 0] = true := by decide +kernel
theorem ok_9_9 : okI [0, 2, 3, 1] [0, 2, 3, 1] = true := by decide +kernel
theorem ok_9_10 : okI [0, 2, 3, 1] [2, 3, 0, 1] = true := by decide +kernel
theorem ok_9_11 : okI [0, 2, 3, 1] [1, 2, 3, 0] = true := by decide +kernel
theorem ok_10_0 : okI [2, 3, 0, 1] [0, 3, 2, 1] = true := by decide +kernel
theorem ok_10_1 : okI [2, 3, 0, 1] [3, 2, 0, 1] = true := by decide +kernel
theorem ok_10_2 : okI [2, 3, 0, 1] [3, 2, 1, 0] = true := by decide +kernel
theorem ok_10_3 : okI [2, 3, 0, 1] [0, 1, 3, 2] = true := by decide +kernel
theorem ok_10_4 : okI [2, 3, 0, 1] [3, 1, 2, 0] = true := by decide +kernel
theorem ok_10_5 : okI [2, 3, 0, 1] [0, 3, 1, 2] = true := by decide +kernel
theorem ok_10_6 : okI [2, 3, 0, 1] [3, 0, 1, 2] = true := by decide +kernel
theorem ok_10_7 : okI [2, 3, 0, 1] [0, 1, 2, 3] = true := by decide +kernel
theorem ok_10_8 : okI [2, 3, 0, 1] [2, 3, 1, 0] = true := by decide +kernel
theorem ok_10_9 : okI [2, 3, 0, 1] [0, 2, 3, 1] = true := by decide +kernel
theorem ok_10_10 : okI [2, 3, 0, 1] [2, 3, 0, 1] = true := by decide +kernel
theorem ok_10_11 : okI [2, 3, 0, 1] [1, 2, 3, 0] = true := by decide +kernel
theorem ok_11_0 : okI [1, 2, 3, 0] [0, 3, 2, 1] = true := by decide +kernel
theorem ok_11_1 : okI [1, 2, 3, 0] [3, 2, 0, 1] = true := by decide +kernel
theorem ok_11_2 : okI [1, 2, 3, 0] [3, 2, 1, 0] = true := by decide +kernel
theorem ok_11_3 : okI [1, 2, 3, 0] [0, 1, 3, 2] = true := by decide +kernel
theorem ok_11_4 : okI [1, 2, 3, 0] [3, 1, 2, 0] = true := by decide +kernel
theorem ok_11_5 : okI [1, 2, 3, 0] [0, 3, 1, 2] = true := by decide +kernel
theorem ok_11_6 : okI [1, 2, 3, 0] [3, 0, 1, 2] = true := by decide +kernel
theorem ok_11_7 : okI [1, 2, 3, 0] [0, 1, 2, 3] = true := by decide +kernel
theorem ok_11_8 : okI [1, 2, 3, 0] [2, 3, 1, 0] = true := by decide +kernel
theorem ok_11_9 : okI [1, 2, 3, 0] [0, 2, 3, 1] = true := by decide +kernel
theorem ok_11_10 : okI [1, 2, 3, 0] [2, 3, 0, 1] = true := by decide +kernel
theorem ok_11_11 : okI [1, 2, 3, 0] [1, 2, 3, 0] = true := by decide +kernel
theorem okRow_0 (b : List Int) (h : b ∈ allMv) : okI [0, 3, 2, 1] b = true := by
  simp only [allMv, List.mem_cons, List.not_mem_nil, or_false] at h
  rcases h with rfl | rfl | rfl | rfl | rfl | rfl | rfl | rfl | rfl | rfl | rfl | rfl
  · exact ok_0_0
  · exact ok_0_1
  · exact ok_0_2
  · exact ok_0_3
  · exact ok_0_4
  · exact ok_0_5
  · exact ok_0_6
  · exact ok_0_7
  · exact ok_0_8
  · exact ok_0_9
  · exact ok_0_10
  · exact ok_0_11
theorem okRow_1 (b : List Int) (h : b ∈ allMv) : okI [3, 2, 0, 1] b = true := by
  simp only [allMv, List.mem_cons, List.not_mem_nil, or_false] at h
  rcases h with rfl | rfl | rfl | rfl | rfl | rfl | rfl | rfl | rfl | rfl | rfl | rfl
  · exact ok_1_0
  · exact ok_1_1
  · exact ok_1_2
  · exact ok_1_3
  · exact ok_1_4
  · exact ok_1_5
  · exact ok_1_6
  · exact ok_1_7
  · exact ok_1_8
  · exact ok_1_9
  · exact ok_1_10
  · exact ok_1_11
theorem okRow_2 (b : List Int) (h : b ∈ allMv) : okI [3, 2, 1, 0] b = true := by
  simp only [allMv, List.mem_cons, List.not_mem_nil, or_false] at h
  rcases h with rfl | rfl | rfl | rfl | rfl | rfl | rfl | rfl | rfl | rfl | rfl | rfl
  · exact ok_2_0
  · exact ok_2_1
  · exact ok_2_2
  · exact ok_2_3
  · exact ok_2_4
  · exact ok_2_5
  · exact ok_2_6
  · exact ok_2_7
  · exact ok_2_8
  · exact ok_2_9
  · exact ok_2_10
  · exact ok_2_11
theorem okRow_3 (b : List Int) (h : b ∈ allMv) : okI [0, 1, 3, 2] b = true := by
  simp only [allMv, List.mem_cons, List.not_mem_nil, or_false] at h
  rcases h with rfl | rfl | rfl | rfl | rfl | rfl | rfl | rfl | rfl | rfl | rfl | rfl
  · exact ok_3_0
  · exact ok_3_1
  · exact ok_3_2
  · exact ok_3_3
  · exact ok_3_4
  · exact ok_3_5
  · exact ok_3_6
  · exact ok_3_7
  · exact ok_3_8
  · exact ok_3_9
  · exact ok_3_10
  · exact ok_3_11
theorem okRow_4 (b : List Int) (h : b ∈ allMv) : okI [3, 1, 2, 0] b = true := by
  simp only [allMv, List.mem_cons, List.not_mem_nil, or_false] at h
  rcases h with rfl | rfl | rfl | rfl | rfl | rfl | rfl | rfl | rfl | rfl | rfl | rfl
  · exact ok_4_0
  · exact ok_4_1
  · exact ok_4_2
  · exact ok_4_3
  · exact ok_4_4
  · exact ok_4_5
  · exact ok_4_6
  · exact ok_4_7
  · exact ok_4_8
  · exact ok_4_9
  · exact ok_4_10
  · exact ok_4_11
theorem okRow_5 (b : List Int) (h : b ∈ allMv) : okI [0, 3, 1, 2] b = true := by
  simp only [allMv, List.mem_cons, List.not_mem_nil, or_false] at h
  rcases h with rfl | rfl | rfl | rfl | rfl | rfl | rfl | rfl | rfl | rfl | rfl | rfl
  · exact ok_5_0
  · exact ok_5_1
  · exact ok_5_2
  · exact ok_5_3
  · exact ok_5_4
  · exact ok_5_5
  · exact ok_5_6
  · exact ok_5_7
  · exact ok_5_8
  · exact ok_5_9
  · exact ok_5_10
  · exact ok_5_11
theorem okRow_6 (b : List Int) (h : b ∈ allMv) : okI [3, 0, 1, 2] b = true := by
  simp only [allMv, List.mem_cons, List.not_mem_nil, or_false] at h
  rcases h with rfl | rfl | rfl | rfl | rfl | rfl | rfl | rfl | rfl | rfl | rfl | rfl
  · exact ok_6_0
  · exact ok_6_1
  · exact ok_6_2
  · exact ok_6_3
  · exact ok_6_4
  · exact ok_6_5
  · exact ok_6_6
  · exact ok_6_7
  · exact ok_6_8
  · exact ok_6_9
  · exact ok_6_10
  · exact ok_6_11
theorem okRow_7 (b : List Int) (h : b ∈ allMv) : okI [0, 1, 2, 3] b = true := by
  simp only [allMv, List.mem_cons, List.not_mem_nil, or_false] at h
  rcases h with rfl | rfl | rfl | rfl | rfl | rfl | rfl | rfl | rfl | rfl | rfl | rfl
  · exact ok_7_0
  · exact ok_7_1
  · exact ok_7_2
  · exact ok_7_3
  · exact ok_7_4
  · exact ok_7_5
  · exact ok_7_6
  · exact ok_7_7
  · exact ok_7_8
  · exact ok_7_9
  · exact ok_7_10
  · exact ok_7_11
theorem okRow_8 (b : List Int) (h : b ∈ allMv) : okI [2, 3, 1, 0] b = true := by
  simp only [allMv, List.mem_cons, List.not_mem_nil, or_false] at h
  rcases h with rfl | rfl | rfl | rfl | rfl | rfl | rfl | rfl | rfl | rfl | rfl | rfl
  · exact ok_8_0
  · exact ok_8_1
  · exact ok_8_2
  · exact ok_8_3
  · exact ok_8_4
  · exact ok_8_5
  · exact ok_8_6
  · exact ok_8_7
  · exact ok_8_8
  · exact ok_8_9
  · exact ok_8_10
  · exact ok_8_11
theorem okRow_9 (b : List Int) (h : b ∈ allMv) : okI [0, 2, 3, 1] b = true := by
  simp only [allMv, List.mem_cons, List.not_mem_nil, or_false] at h
  rcases h with rfl | rfl | rfl | rfl | rfl | rfl | rfl | rfl | rfl | rfl | rfl | rfl
  · exact ok_9_0
  · exact ok_9_1
  · exact ok_9_2
  · exact ok_9_3
  · exact ok_9_4
  · exact ok_9_5
  · exact ok_9_6
  · exact ok_9_7
  · exact ok_9_8
  · exact ok_9_9
  · exact ok_9_10
  · exact ok_9_11
theorem okRow_10 (b : List Int) (h : b ∈ allMv) : okI [2, 3, 0, 1] b = true := by
  simp only [allMv, List.mem_cons, List.not_mem_nil, or_false] at h
  rcases h with rfl | rfl | rfl | rfl | rfl | rfl | rfl | rfl | rfl | rfl | rfl | rfl
  · exact ok_10_0
  · exact ok_10_1
  · exact ok_10_2
  · exact ok_10_3
  · exact ok_10_4
  · exact ok_10_5
  · exact ok_10_6
  · exact ok_10_7
  · exact ok_10_8
  · exact ok_10_9
  · exact ok_10_10
  · exact ok_10_11
theorem okRow_11 (b : List Int) (h : b ∈ allMv) : okI [1, 2, 3, 0] b = true := by
  simp only [allMv, List.mem_cons, List.not_mem_nil, or_false] at h
  rcases h with rfl | rfl | rfl | rfl | rfl | rfl | rfl | rfl | rfl | rfl | rfl | rfl
  · exact ok_11_0
  · exact ok_11_1
  · exact ok_11_2
  · exact ok_11_3
  · exact ok_11_4
  · exact ok_11_5
  · exact ok_11_6
  · exact ok_11_7
  · exact ok_11_8
  · exact ok_11_9
  · exact ok_11_10
  · exact ok_11_11
theorem okI_all (a : List Int) (ha : a ∈ allMv) (b : List Int) (h : b ∈ allMv) : okI a b = true := by
  simp only [allMv, List.mem_cons, List.not_mem_nil, or_false] at ha
  rcases ha with rfl | rfl | rfl | rfl | rfl | rfl | rfl | rfl | rfl | rfl | rfl | rfl
  · exact okRow_0 b h
  · exact okRow_1 b h
  · exact okRow_2 b h
  · exact okRow_3 b h
  · exact okRow_4 b h
  · exact okRow_5 b h
  · exact okRow_6 b h
  · exact okRow_7 b h
  · exact okRow_8 b h
  · exact okRow_9 b h
  · exact okRow_10 b h
  · exact okRow_11 b h
end Mine
end
/-! part D5 -/
section
open PySem PySem.Calls PySem.Spec PyProof.Rows PySem.W PySem.SeqAt
set_option Elab.async false
set_option linter.unusedVariables false
set_option maxRecDepth 100000
namespace Mine

/-! ## the run on cards follows the run on places -/
structure RelI (cs : List Nat) (mv0 mv1 : List Int) (st : St) (si : SI) : Prop where
  rows : st.rows = si.rows.map (toR cs)
  seen : st.seen = si.seen
  t0 : st.t0 = (si.seen : Int)
  t1 : st.t1 = si.t1
  t2 : st.t2 = si.t2
  t3 : st.t3 = sumV st.costs
  tab : st.tab = Im (fT cs) sT si.cnt
  costs : st.costs = Im (fC cs) (sC cs) si.cnt
  keys : (si.cnt.map (·.1)).Nodup
  led : st.led = (st.rows.take st.seen).flatMap fun r => [app mv0 r, app mv1 r]
  le : st.seen ≤ st.rows.length
  len : ∀ r ∈ si.rows, r.length = 4
theorem im_keys {κ ι : Type} [DecidableEq κ] [DecidableEq ι] {f : ι → κ} {s : ι → Int → Int} (hf : ∀ x y, f x = f y → x = y) {d : List (ι × Int)} (h : (d.map (·.1)).Nodup) : ((Im f s d).map (·.1)).Nodup := by
  unfold Im
  rw [List.map_map]
  have : ((fun x : κ × Int => x.1) ∘ fun kv : ι × Int => (f kv.1, s kv.1 kv.2)) = f ∘ (·.1) := rfl
  rw [this, ← List.map_map]
  exact List.Pairwise.map f (fun a b hab e => hab (hf _ _ e)) h
theorem addR_take (rows : List (List Nat)) (d : List Nat) {n : Nat} (h : n ≤ rows.length) : (addR rows d).take n = rows.take n ∧ rows.length ≤ (addR rows d).length := by
  unfold addR
  split
  · exact ⟨rfl, Nat.le_refl _⟩
  · exact ⟨List.take_append_of_le_length h, by simp⟩
theorem appI_len {mv : List Int} (hm : IsPm mv) (r : List I4) : (appI mv r).length = 4 := by unfold appI; rw [List.length_map]; exact hm.1
theorem RelI.turn {cs : List Nat} (hcs : IsRow cs) {mv0 mv1 : List Int} (h0 : IsPm mv0) (h1 : IsPm mv1) {st : St} {si : SI} (R : RelI cs mv0 mv1 st si) {r : List I4} (hr : si.rows[si.seen]? = some r) :
    RelI cs mv0 mv1 (turnF cs mv0 mv1 st (toR cs r)) (turnI mv0 mv1 si r) := by
  have hlen : r.length = 4 := R.len r (List.mem_of_getElem? hr)
  have hst : st.rows[st.seen]? = some (toR cs r) := by rw [R.rows, R.seen, List.getElem?_map, hr]; rfl
  have hlt : st.seen < st.rows.length := (List.getElem?_eq_some_iff.mp hst).1
  have hge : (toR cs r) = st.rows[st.seen] := (List.getElem?_eq_some_iff.mp hst).2.symm
  have t1 := addR_take st.rows (app mv0 (toR cs r)) (n := st.seen + 1) hlt
  have t2 := addR_take (addR st.rows (app mv0 (toR cs r))) (app mv1 (toR cs r)) (n := st.seen + 1) (Nat.le_trans hlt t1.2)
  refine ⟨?_, ?_, ?_, ?_, ?_, ?_, ?_, ?_, ?_, ?_, ?_, ?_⟩
  · show deals2 mv0 mv1 st.rows (toR cs r) = (addRI (addRI si.rows (appI mv0 r)) (appI mv1 r)).map (toR cs)
    unfold deals2
    rw [app_toR cs h0 hlen, app_toR cs h1 hlen, R.rows, addR_toR hcs, addR_toR hcs]
  · show st.seen + 1 = si.seen + 1
    rw [R.seen]
  · show 1 + st.t0 = ((si.seen + 1 : Nat) : Int)
    rw [R.t0]; omega
  · show same 1 (toR cs r) cs + st.t1 = sameI 1 r + si.t1
    rw [same_toR hcs, R.t1]
  · show same 2 (toR cs r) cs + st.t2 = sameI 2 r + si.t2
    rw [same_toR hcs, R.t2]
  · show (spent cs (toR cs r)).sum + st.t3 = sumV (addC st.costs (srcCost cs (toR cs r)))
    rw [addC_eq, addG_sum (by rw [R.costs]; exact im_keys (fC_inj hcs) R.keys), spent_toR hcs hlen, srcCost_toR hcs hlen, R.t3]
    omega
  · show addC st.tab (srcTab (toR cs r)) = Im (fT cs) sT (addG si.cnt (srcI r))
    rw [addC_eq, srcTab_toR hcs hlen, R.tab, addG_im (fT_inj hcs) sT_add]
  · show addC st.costs (srcCost cs (toR cs r)) = Im (fC cs) (sC cs) (addG si.cnt (srcI r))
    rw [addC_eq, srcCost_toR hcs hlen, R.costs, addG_im (fC_inj hcs) (sC_add cs)]
  · exact addG_keys
  · show st.led ++ [app mv0 (toR cs r), app mv1 (toR cs r)] = ((deals2 mv0 mv1 st.rows (toR cs r)).take (st.seen + 1)).flatMap fun r => [app mv0 r, app mv1 r]
    unfold deals2
    rw [t2.1, t1.1, List.take_add_one, hst, List.flatMap_append, ← R.led]
    rfl
  · show st.seen + 1 ≤ (deals2 mv0 mv1 st.rows (toR cs r)).length
    unfold deals2
    exact Nat.le_trans (Nat.le_trans hlt t1.2) t2.2
  · show ∀ x ∈ addRI (addRI si.rows (appI mv0 r)) (appI mv1 r), x.length = 4
    intro x hx
    have mem : ∀ (l : List (List I4)) (d : List I4), x ∈ addRI l d → x ∈ l ∨ x = d := by
      intro l d h
      unfold addRI at h
      split at h
      · exact .inl h
      · simpa using h
    rcases mem _ _ hx with hx | rfl
    · rcases mem _ _ hx with hx | rfl
      · exact R.len x hx
      · exact appI_len h0 r
    · exact appI_len h1 r
theorem RelI.run {cs : List Nat} (hcs : IsRow cs) {mv0 mv1 : List Int} (h0 : IsPm mv0) (h1 : IsPm mv1) : ∀ (n : Nat) {st : St} {si : SI}, RelI cs mv0 mv1 st si → RelI cs mv0 mv1 (run cs mv0 mv1 n st) (runI mv0 mv1 n si)
  | 0, st, si, R => R
  | n + 1, st, si, R => by
    have hst : st.rows[st.seen]? = (si.rows[si.seen]?).map (toR cs) := by rw [R.rows, R.seen, List.getElem?_map]
    show RelI cs mv0 mv1 (match st.rows[st.seen]? with | some r => Mine.run cs mv0 mv1 n (turnF cs mv0 mv1 st r) | none => st) (match si.rows[si.seen]? with | some r => runI mv0 mv1 n (turnI mv0 mv1 si r) | none => si)
    rw [hst]
    cases hr : si.rows[si.seen]? with
    | none => exact R
    | some r => exact RelI.run hcs h0 h1 n (R.turn hcs h0 h1 hr)
theorem rel_fin {cs : List Nat} (hcs : IsRow cs) {mv0 mv1 : List Int} (h0 : IsPm mv0) (h1 : IsPm mv1) : RelI cs mv0 mv1 (fin cs mv0 mv1) (finI mv0 mv1) :=
  RelI.run hcs h0 h1 25 ⟨by show [cs] = [toR cs [0, 1, 2, 3]]; rw [toR_base hcs], rfl, rfl, rfl, rfl, rfl, rfl, rfl, by simp, rfl, Nat.zero_le _, by intro r hr; simp at hr; subst hr; rfl⟩

/-! ## the told side -/
theorem gt_F4 (cs : List Nat) {k : Int} (h0 : 0 ≤ k) (h1 : k < 4) : gt cs (F4 k).val = gt cs k.toNat := by
  show gt cs (k.toNat % 4) = _
  rw [Nat.mod_eq_of_lt (by omega)]
theorem mem_upto4 {k : Int} (h : k ∈ upto 0 4) : 0 ≤ k ∧ k < 4 := by
  have : upto 0 4 = [0, 1, 2, 3] := rfl
  rw [this] at h
  simp at h
  omega
theorem map_flat {α β γ : Type} (f : β → γ) (l : List α) (g : α → List β) : (l.flatMap g).map f = l.flatMap fun a => (g a).map f := List.map_flatMap
theorem flat_congr {α β : Type} {l : List α} {g h : α → List β} (e : ∀ a ∈ l, g a = h a) : l.flatMap g = l.flatMap h := by
  induction l with
  | nil => rfl
  | cons x r ih => rw [List.flatMap_cons, List.flatMap_cons, e x (by simp), ih fun a ha => e a (by simp [ha])]
theorem paidF_im {cs : List Nat} (hcs : IsRow cs) {mv0 mv1 : List Int} (hk : ∀ k ∈ upto 0 4, ∀ x ∈ goalsW mv0 mv1 k, 0 ≤ x.1 ∧ x.1 < 4) : paidF cs mv0 mv1 = Im (fC cs) (sC cs) (putL [] (paidI mv0 mv1)) := by
  rw [← putL_im (fC_inj hcs)]
  unfold paidF
  refine congrArg (putL []) ?_
  unfold Im paidI
  rw [map_flat]
  refine flat_congr fun k hk4 => ?_
  rw [List.map_map]
  refine List.map_congr_left fun x hx => ?_
  have a := mem_upto4 hk4
  have b := hk k hk4 x hx
  show _ = (rowS [gt cs (F4 k).val, gt cs (F4 x.1).val], _ * priceI (gt cs (F4 k).val) (gt cs (F4 x.1).val))
  rw [gt_F4 cs a.1 a.2, gt_F4 cs b.1 b.2]
theorem tableF_im {cs : List Nat} (hcs : IsRow cs) {mv0 mv1 : List Int} (hk : ∀ k ∈ upto 0 4, ∀ x ∈ goalsW mv0 mv1 k, 0 ≤ x.1 ∧ x.1 < 4) : tableF cs mv0 mv1 = Im (fT cs) sT (putL [] (tabI mv0 mv1)) := by
  rw [← putL_im (fT_inj hcs)]
  unfold tableF
  refine congrArg (putL []) ?_
  unfold Im tabI
  rw [map_flat]
  refine flat_congr fun k hk4 => ?_
  rw [List.map_map]
  refine List.map_congr_left fun x hx => ?_
  have a := mem_upto4 hk4
  have b := hk k hk4 x hx
  show _ = (kd (gt cs (F4 k).val) (F4 x.1).val, _)
  rw [gt_F4 cs a.1 a.2, show (F4 x.1).val = x.1.toNat from Nat.mod_eq_of_lt (by omega)]; rfl
theorem rowF_toR (cs : List Nat) (goals : List Int) (h : ∀ p ∈ upto 0 4, (goals.findIdx fun y => decide (y = p)) < 4) : rowF cs goals = toR cs (rowI goals) := by
  unfold rowF toR rowI
  rw [List.map_map]
  refine List.map_congr_left fun p hp => ?_
  have := h p hp
  exact (gt_F4 cs (k := ((goals.findIdx fun y => decide (y = p) : Nat) : Int)) (by omega) (by omega)).symm
theorem rowsF_toR (cs : List Nat) {w0 w1 w2 : Ways} (h : okRowsI w0 w1 w2 = true) : rowsF cs w0 w1 w2 = (rowsI w0 w1 w2).map (toR cs) := by
  unfold rowsF rowsI
  rw [map_flat]
  refine flat_congr fun lo hlo => ?_
  unfold rows2
  rw [map_flat]
  refine flat_congr fun mi hmi => ?_
  unfold rows1
  rw [List.map_map]
  refine List.map_congr_left fun hi hhi => ?_
  exact rowF_toR cs _ fun p hp => of_decide_eq_true (List.all_eq_true.mp (List.all_eq_true.mp (List.all_eq_true.mp (List.all_eq_true.mp h lo hlo) mi hmi) hi hhi) p hp)
theorem sum_perm {a b : List Int} (h : a.Perm b) : a.sum = b.sum := by
  induction h with
  | nil => rfl
  | cons x _ ih => rw [List.sum_cons, List.sum_cons, ih]
  | swap x y l => rw [List.sum_cons, List.sum_cons, List.sum_cons, List.sum_cons]; omega
  | trans _ _ i1 i2 => exact i1.trans i2
theorem sumV_perm {κ : Type} {a b : List (κ × Int)} (h : a.Perm b) : sumV a = sumV b := sum_perm (h.map _)
theorem item_kd : ∀ (i j : I4) (k : I4), decide (Txt.item (kd i.val k.val) 0 = ltr j.val) = decide (i = j) := by decide +kernel
theorem partF_im {cs : List Nat} (hcs : IsRow cs) (d : List ((I4 × I4) × Int)) (c : I4) : partF (Im (fT cs) sT d) (gt cs c.val) = Im (fT cs) sT (partI d c) := by
  unfold partI
  rw [← putL_im (fT_inj hcs)]
  unfold partF
  refine congrArg (putL []) ?_
  have hfil : ∀ l : List ((I4 × I4) × Int), (Im (fT cs) sT l).filter (fun kv => decide (Txt.item kv.1 0 = ltr (gt cs c.val))) = Im (fT cs) sT (l.filter fun kv => decide (kv.1.2 = c)) := by
    intro l
    unfold Im
    rw [List.filter_map]
    refine congrArg (List.map _) ?_
    refine List.filter_congr fun p hp => ?_
    show decide (Txt.item (kd (gt cs p.1.2.val) p.1.1.val) 0 = ltr (gt cs c.val)) = decide (p.1.2 = c)
    have := item_kd ⟨gt cs p.1.2.val, gtI_lt hcs _⟩ ⟨gt cs c.val, gtI_lt hcs _⟩ p.1.1
    refine this.trans (decide_eq_decide.mpr ⟨fun e => gt_inj hcs (congrArg Fin.val e), fun e => by rw [e]⟩)
  rw [hfil]
  unfold Im
  rw [List.map_map, List.map_map]
  refine List.map_congr_left fun p hp => ?_
  show (fT cs p.1, (lookK (Im (fT cs) sT d) (fT cs p.1)).getD 0) = (fT cs p.1, (lookK d p.1).getD 0)
  rw [lookK_im (fT_inj hcs)]
  cases lookK d p.1 <;> rfl
theorem sumV_T {cs : List Nat} (d : List ((I4 × I4) × Int)) : sumV (Im (fT cs) sT d) = sumV d := by
  unfold sumV Im
  rw [List.map_map]; rfl
/-- the plain law -/
theorem lawOk {cs : List Nat} (hcs : IsRow cs) {mv0 mv1 : List Int} (h : OkI mv0 mv1) : LawOk cs mv0 mv1 := by
  have h0 := pm_of h.p0
  have h1 := pm_of h.p1
  have R := rel_fin hcs h0 h1
  have hp : (fin cs mv0 mv1).costs.Perm (paidF cs mv0 mv1) := by
    rw [R.costs, paidF_im hcs h.keys]
    exact (List.isPerm_iff.mp h.costs').map _
  refine { row := hcs, p0 := h0, p1 := h1, q0 := List.isPerm_iff.mp h.q0, q1 := List.isPerm_iff.mp h.q1, chain := h.chain, rowsOk := h.rowsOk, done := ?_, perm := ?_, costs := ?_, t0 := ?_, t1 := ?_, t2 := ?_, t3 := ?_, tab := ?_, led := ?_, keyLen := ?_, parts := ?_ }
  · rw [R.rows, R.seen, List.length_map]; exact h.done
  · rw [R.rows, rowsF_toR cs h.rowsOk']
    exact (List.isPerm_iff.mp h.perm).map _
  · rw [R.costs, paidF_im hcs h.keys]; exact eqDict_im (fC_inj hcs) h.costs
  · rw [R.t0]; exact h.t0
  · rw [R.t1]; exact h.t1
  · rw [R.t2]; exact h.t2
  · rw [R.t3]; exact sumV_perm hp
  · rw [R.tab, tableF_im hcs h.keys]; exact eqDict_im (fT_inj hcs) h.tab
  · have hd : (fin cs mv0 mv1).rows.length = (fin cs mv0 mv1).seen := by rw [R.rows, R.seen, List.length_map]; exact h.done
    have := R.led
    rw [← hd, List.take_length] at this
    exact this
  · intro kv hkv
    rw [R.tab] at hkv
    obtain ⟨p, _, rfl⟩ := List.mem_map.mp hkv
    show 0 < (kd _ _).length
    exact Nat.zero_lt_succ 1
  · intro k hk
    rw [R.tab]
    have := partF_im hcs (finI mv0 mv1).cnt ⟨k, hk⟩
    show sumV (partF _ (gt cs k)) = _
    rw [this, sumV_T]
    exact h.parts ⟨k, hk⟩
theorem law_all (cs : List Nat) (a b c a' b' c' : _root_.Fin 5) (hcs : IsRow cs) : LawOk cs (cutF (szs a b c)) (cutF (szs a' b' c')) :=
  lawOk hcs (okI_ok (okI_all _ (cut_mem a b c) _ (cut_mem a' b' c')))
end Mine
end
/-! part E1 -/
section
open PySem PySem.Calls PySem.Spec PyProof.Rows PySem.W PySem.SeqAt
set_option Elab.async false
set_option linter.unusedVariables false
set_option maxRecDepth 100000
set_option maxHeartbeats 1000000
namespace Mine
/-! ## what the start's heap tells of the class -/
noncomputable def CA (P : Params) : Addr := aOf P "_Accumulator"
section
variable (P : Params)
theorem acc_at : nsIn (hd.heap_1 P) mainGlobals "_Accumulator" = some (some (.ref (CA P))) := rfl
theorem acc_append : findIn (hd.heap_1 P) (.ref (CA P)) "append" = some (some (.builtin "list.append")) := rfl
theorem acc_ga : findIn (hd.heap_1 P) (.ref (CA P)) "__getattribute__" = some (some (.builtin "list.__getattribute__")) := rfl
theorem acc_getitem : findIn (hd.heap_1 P) (.ref (CA P)) "__getitem__" = some (some (.builtin "list.__getitem__")) := rfl
theorem acc_setitem : findIn (hd.heap_1 P) (.ref (CA P)) "__setitem__" = some (some (.builtin "list.__setitem__")) := rfl
theorem acc_nogetattr : findIn (hd.heap_1 P) (.ref (CA P)) "__getattr__" = some none := rfl
theorem acc_call : specialIn (hd.heap_1 P) (.ref (CA P)) "__call__" = some (some (.builtin "type.__call__")) := rfl
theorem acc_type : instIn (hd.heap_1 P) (.ref (CA P)) (.type "type") = some true := rfl
theorem acc_sub : subIn (hd.heap_1 P) (.ref (CA P)) (.type "list") = some true := rfl
theorem acc_push : ∃ f, findIn (hd.heap_1 P) (.ref (CA P)) "push" = some (some (.ref f)) := ⟨_, rfl⟩
theorem acc_pop : ∃ f, findIn (hd.heap_1 P) (.ref (CA P)) "pop_from" = some (some (.ref f)) := ⟨_, rfl⟩
theorem acc_count : ∃ f, findIn (hd.heap_1 P) (.ref (CA P)) "part_count" = some (some (.ref f)) := ⟨_, rfl⟩
theorem acc_str : ∃ f, findIn (hd.heap_1 P) (.ref (CA P)) "__str__" = some (some (.ref f)) := ⟨_, rfl⟩
theorem acc_init : ∃ f, findIn (hd.heap_1 P) (.ref (CA P)) "__init__" = some (some (.ref f)) := ⟨_, rfl⟩
theorem canon_lga : (Manifest.canonical "list.__getattribute__" != "object.__getattribute__") = false := by decide +kernel
end
end Mine
end
/-! part E2 -/
section
open PySem PySem.Calls PySem.Spec PyProof.Rows PySem.W PySem.SeqAt
set_option Elab.async false
set_option linter.unusedVariables false
set_option maxRecDepth 100000
set_option maxHeartbeats 1000000
namespace Mine
/-! ## list's own methods on an object of the class -/
section
variable {prog : Program} {w : World} {A : Around} {E : Value → Shared → Prop} {s : Shared} {P : Params}
/-- an object of the class stands at x -/
structure IsAcc (P : Params) (h : Heap) (x : Addr) (xs : Array Value) (d : Addr) : Prop where
  obj : ∃ n, h.get? x = some { cls := .ref (CA P), dict := some d, data := .seq xs n, slots := #[] }
theorem IsAcc.inst {h : Heap} {x d : Addr} {xs : Array Value} {M : Model} (I : IsAcc P h x xs d) (X : (hd.heap_1 P).In h) : Looks M h (isInstance (.ref x) (.type "list")) true := by
  obtain ⟨n, hx⟩ := I.obj
  exact ((Looks.ld hx).andThen .now).andThen (looks_subIn X (acc_sub P))
theorem check_meth {M : Model} {i owner n : String} {self : Value} {rest : List Value} {kw : List (Str × Value)} {Q : Unit → Shared → Prop}
    (hk : builtinKind i = some .method) (hs : splitId i = some (owner, n)) (hi : Looks M s.heap (isInstance self (.type owner)) true) (ha : argsOk i ⟨self :: rest, kw⟩) (q : Q () s) :
    wpAny M A (checkBuiltinCall i ⟨self :: rest, kw⟩) Q E s := by
  unfold checkBuiltinCall
  simp only [hk, hs]
  refine wpAny_bind (hi.here ?_)
  simp only [Bool.not_true, Bool.false_eq_true, if_false]
  unfold argsOk at ha
  cases hsig : Manifest.signature? i with
  | none => exact wpAny_pure q
  | some sig =>
    rw [hsig] at ha
    have h2 : Bind.checkArgs i sig ⟨self :: rest, kw⟩ = pure () := ha
    show wpAny M A (Bind.checkArgs i sig ⟨self :: rest, kw⟩) Q E s
    rw [h2]; exact wpAny_pure q
theorem IsAcc.call_meth {x d : Addr} {xs : Array Value} {i n : String} {rest : List Value} {b : Builtin} {Q : Value → Shared → Prop} (I : IsAcc P s.heap x xs d) (X : (hd.heap_1 P).In s.heap)
    (hk : builtinKind i = some .method) (hs : splitId i = some ("list", n)) (ha : argsOk i ⟨.ref x :: rest, []⟩) (hq : plainId i = true) (hb : entryFor table i = some b)
    (hc : wpAny (model prog w) A.in1 (b ⟨.ref x :: rest, []⟩) (fun fin s' => ∃ v, fin = .done (.ret v) ∧ Q v s') E s) : wpAny (model prog w) A (call (.builtin i) (.ref x :: rest)) Q E s := by
  refine wpAny_call (codeAny_call_builtin hq hb (check_meth hk hs (I.inst X) ha (wpAny_mono hc (fun fin s' h' => ?_) fun _ _ h' => h')))
  obtain ⟨v, rfl, hv⟩ := h'; exact hv
theorem acc_update {h : Heap} {x d : Addr} {xs : Array Value} (I : IsAcc P h x xs d) (f : Array Value → Array Value) : IsAcc P (h.update x (Obj.mapSeq f)) x (f xs) d := by
  obtain ⟨n, hx⟩ := I.obj
  exact ⟨_, Heap.get?_update_self _ hx rfl⟩
theorem IsAcc.append {x d : Addr} {xs : Array Value} {v : Value} {Q : Value → Shared → Prop} (I : IsAcc P s.heap x xs d) (X : (hd.heap_1 P).In s.heap) (hsz : xs.size ≤ 1000)
    (h : ∀ h', IsAcc P h' x (xs.push v) d → Heap.SameBut x s.heap h' → Q .none { s with heap := h' }) : wpAny (model prog w) A (call (.builtin "list.append") [.ref x, v]) Q E s := by
  obtain ⟨n, hx⟩ := id I.obj
  refine I.call_meth X (by decide +kernel) (n := "append") (by decide +kernel) (args_list_append _ _) (by decide +kernel) entry_list_append ?_
  show wpAny _ _ (updateSeq x (·.push v) >>= fun _ => ret .none) _ _ s
  have hsl : sizeLine = 16777216 := sizeLine_eq
  refine wpAny_bind (wpAny_updateSeq hx rfl (wpAny_pure ⟨.none, rfl, h _ (acc_update I _) (Heap.SameBut.update ..)⟩) (by omega) (by rw [Array.size_push]; omega))
theorem IsAcc.type {M : Model} {h : Heap} {x d : Addr} {xs : Array Value} (I : IsAcc P h x xs d) : Looks M h (typeOf (.ref x)) (.ref (CA P)) := by
  obtain ⟨n, hx⟩ := I.obj
  exact (Looks.ld hx).andThen .now
theorem IsAcc.method {x d : Addr} {xs : Array Value} {name : Str} {f : Value} {T : String} {pl : Sem Bool} {m : Str → Option Value} {Q : Value × List Value → Shared → Prop} (I : IsAcc P s.heap x xs d) (X : (hd.heap_1 P).In s.heap)
    (hf : findIn (hd.heap_1 P) (.ref (CA P)) name = some (some f)) (ht : typeIn (hd.heap_1 P) f = some (.type T)) (hT : (Value.type T != .type "function" && Value.type T != .type "method_descriptor" && Value.type T != .type "wrapper_descriptor") = false)
    (hn : s.heap.Ns d m) (hm : m name = none) (h : Q (f, [.ref x]) s) : wpAny (model prog w) A (getMethod (.ref x) name pl) Q E s := by
  obtain ⟨n, hx⟩ := id I.obj
  unfold getMethod specialOf
  refine wpAny_bind (wpAny_bind (I.type.here ((looks_findIn X (acc_ga P)).here ?_)))
  dsimp only
  rw [canon_lga, if_neg Bool.false_ne_true]
  refine wpAny_bind (wpAny_bind (I.type.here ((looks_findIn X (acc_nogetattr P)).here ?_)))
  refine wpAny_bind (wpAny_bind (I.type.here ((looks_findIn X hf).here (wpAny_bind ((looks_typeIn X ht).here ?_)))))
  rw [hT, if_neg Bool.false_ne_true]
  refine wpAny_bind (wpAny_loadPart hx (wpAny_bind (wpAny_nsGet hn ?_)))
  rw [hm]
  exact wpAny_bind (wpAny_rule (wpAny_pure h))
/-- the tail of a subscript of an object -/
theorem IsAcc.subTail {value slice : PySem.Expr} {x d : Addr} {xs : Array Value} {i : Value} {ops : List Value} {Q : Value → Shared → Prop} (I : IsAcc P s.heap x xs d) (X : (hd.heap_1 P).In s.heap)
    (h : wpAny (model prog w) A (getItem (.ref x) i) Q E s) (hs : subscripted slice false (.ref x) i = operate ops (getItem (.ref x) i)) :
    wpAny (model prog w) A (subscriptTail value slice (.ref x) i) Q E s := by
  unfold subscriptTail getitemInPython specialOf
  refine wpAny_bind (wpAny_bind (wpAny_bind (I.type.here ((looks_findIn X (acc_getitem P)).here ?_))))
  dsimp only
  refine wpAny_pure ?_
  rw [hs]
  exact wpAny_bind (wpAny_operating (wpAny_mono h (fun r s₃ h₃ => wpAny_bind (wpAny_letTemporaryGo (wpAny_pure h₃))) fun _ _ x => x))
theorem acc_noSeq (P : Params) : noSeq (hd.heap_1 P) (CA P) = true := rfl
/-- a special of list's own on an object -/
theorem IsAcc.special {x d : Addr} {xs : Array Value} {name : Str} {i : String} {args : List Value} {Q : Option Value → Shared → Prop} (I : IsAcc P s.heap x xs d) (X : (hd.heap_1 P).In s.heap)
    (hf : findIn (hd.heap_1 P) (.ref (CA P)) name = some (some (.builtin i))) (hb : bindSpecial (.builtin i) (.ref x) = pure (.builtin i, [.ref x]))
    (h : wpAny (model prog w) A (call (.builtin i) (.ref x :: args)) (fun v s' => Q (some v) s') E s) : wpAny (model prog w) A (callSpecial? (.ref x) name args) Q E s := by
  unfold callSpecial? specialOf
  refine wpAny_bind (wpAny_bind (I.type.here ((looks_findIn X hf).here ?_)))
  dsimp only
  refine wpAny_holding ?_
  rw [hb]
  exact wpAny_bind (wpAny_pure (wpAny_bind (wpAny_mono h (fun v s' h' => wpAny_pure h') fun _ _ z => z)))
theorem IsAcc.getItem {x d : Addr} {xs : Array Value} {v : Value} {Q : Value → Shared → Prop} (I : IsAcc P s.heap x xs d) (X : (hd.heap_1 P).In s.heap)
    (h : wpAny (model prog w) A (call (.builtin "list.__getitem__") [.ref x, v]) Q E s) : wpAny (model prog w) A (PySem.getItem (.ref x) v) Q E s := by
  unfold PySem.getItem sequenceKey
  refine wpAny_holding (wpAny_bind (wpAny_bind (I.type.here ?_)))
  refine wpAny_bind ((anyM_none X (acc_noSeq P)).here ?_)
  rw [if_pos (show (!false) = true from rfl)]
  exact wpAny_pure (wpAny_bind (I.special X (acc_getitem P) (slot_list_getitem.bind _) (wpAny_mono h (fun _ _ z => wpAny_pure z) fun _ _ z => z)))
theorem IsAcc.getSlice {x sl d : Addr} {xs : Array Value} {vl vu vs : Value} {lo hi st : Option Int} {Q : Value → Shared → Prop} (I : IsAcc P s.heap x xs d) (X : (hd.heap_1 P).In s.heap)
    (hs : s.heap.IsSliceOf sl vl vu vs) (pl : IsPart vl lo) (pu : IsPart vu hi) (ps : IsPart vs st) (h0 : st ≠ some 0) (hsz : xs.size ≤ 1000)
    (h : Q (.ref s.heap.objs.size) { s with heap := s.heap.push { cls := .type "list", data := .seq (slicePick xs lo hi st) } }) : wpAny (model prog w) A (PySem.getItem (.ref x) (.ref sl)) Q E s := by
  obtain ⟨n, hx⟩ := id I.obj
  obtain ⟨os, hos, hcs, hds⟩ := id hs
  have hsl : sizeLine = 16777216 := sizeLine_eq
  have hTs : s.TypeIs (.ref sl) "slice" := ⟨os, hos, hcs⟩
  refine I.getItem X (I.call_meth X (by decide +kernel) (n := "__getitem__") (by decide +kernel) (args_list_getitem _ _) (by decide +kernel) entry_list_getitem ?_)
  show wpAny _ _ (Builtin.List.listSubscript? (.ref sl) >>= _) _ _ s
  refine wpAny_bind ?_
  unfold Builtin.List.listSubscript?
  refine wpAny_bind (wpAny_specialOf hTs slice_no_index ?_)
  simp only [Option.isNone_none, if_true]
  refine wpAny_pure ?_
  show wpAny _ _ (typeOf (.ref sl) >>= _) _ _ s
  refine wpAny_bind (wpAny_typeOf hTs ?_)
  rw [if_neg (by decide)]
  rw [listSliceParts_eq]
  have hz : ¬ ((rawPart st == rawInt 0) = true) := by
    cases st with
    | none => exact Bool.false_ne_true
    | some c => exact fun e => h0 (congrArg some (by simpa [rawPart, rawInt] using e))
  refine wpAny_bind (wpAny_bind (wpAny_field hos hds (x := vs) rfl (wpAny_bind (wpAny_listPart ps ?_))))
  rw [if_neg hz]
  refine wpAny_bind (wpAny_field hos hds (x := vl) rfl (wpAny_bind (wpAny_listPart pl ?_)))
  refine wpAny_bind (wpAny_field hos hds (x := vu) rfl (wpAny_bind (wpAny_listPart pu (wpAny_pure ?_))))
  refine wpAny_bind (listItems_at hx rfl ?_)
  refine wpAny_bind (wpAny_of_eq (sliceIndices_raw lo hi st xs.size h0) ?_)
  exact wpAny_bind (wpAny_newObj_type (wpAny_pure ⟨_, rfl, h⟩) (Nat.le_trans (slicePick_size_le xs lo hi st) (by omega)))
theorem IsAcc.call_slot {x d : Addr} {xs : Array Value} {i n : String} {rest : List Value} {b : Builtin} {Q : Value → Shared → Prop} (I : IsAcc P s.heap x xs d) (X : (hd.heap_1 P).In s.heap)
    (hk : builtinKind i = some .slot) (hs : splitId i = some ("list", n)) (ha : argsOk i ⟨.ref x :: rest, []⟩) (hq : plainId i = true) (hb : entryFor table i = some b)
    (hc : wpAny (model prog w) A.in1 (b ⟨.ref x :: rest, []⟩) (fun fin s' => ∃ v, fin = .done (.ret v) ∧ Q v s') E s) : wpAny (model prog w) A (call (.builtin i) (.ref x :: rest)) Q E s := by
  refine wpAny_call (codeAny_call_builtin hq hb (check_slot hk hs (I.inst X) ha (wpAny_mono hc (fun fin s' h' => ?_) fun _ _ h' => h')))
  obtain ⟨v, rfl, hv⟩ := h'; exact hv
/-- self[i:] = an empty list -/
theorem IsAcc.cutFrom {x sl b d : Addr} {xs : Array Value} {vl vu vs : Value} {lo : Option Int} {Q : Unit → Shared → Prop} (I : IsAcc P s.heap x xs d) (X : (hd.heap_1 P).In s.heap)
    (hs : s.heap.IsSliceOf sl vl vu vs) (pl : IsPart vl lo) (pu : IsPart vu none) (ps : IsPart vs none) (hb : s.heap.IsList b #[]) (hbx : b ≠ x) (hsz : xs.size ≤ 1000)
    (h : ∀ h', IsAcc P h' x (xs.extract 0 (sliceBounds lo none none xs.size).1.toNat ++ #[] ++ xs.extract (max (sliceBounds lo none none xs.size).1 (sliceBounds lo none none xs.size).2.1).toNat xs.size) d → Heap.SameBut x s.heap h' → Q () { s with heap := h' }) :
    wpAny (model prog w) A (PySem.setItem (.ref x) (.ref sl) (.ref b)) Q E s := by
  obtain ⟨n, hx⟩ := id I.obj
  obtain ⟨os, hos, hcs, hds⟩ := id hs
  obtain ⟨ob, hob, hcb, nb, hdb⟩ := id hb
  have hsl : sizeLine = 16777216 := sizeLine_eq
  have hTs : s.TypeIs (.ref sl) "slice" := ⟨os, hos, hcs⟩
  have hTb : s.TypeIs (.ref b) "list" := ⟨ob, hob, hcb⟩
  unfold PySem.setItem sequenceKey
  refine wpAny_holding (wpAny_bind (wpAny_bind (I.type.here ?_)))
  refine wpAny_bind ((anyM_none X (acc_noSeq P)).here ?_)
  rw [if_pos (show (!false) = true from rfl)]
  refine wpAny_pure (wpAny_bind (I.special X (acc_setitem P) (slot_list_setitem.bind _) (wpAny_mono (Q := fun v s' => Q () s') (I.call_slot X (by decide +kernel) (n := "__setitem__") (by decide +kernel) (args_list_setitem _ _ _) (by decide +kernel) entry_list_setitem ?_) (fun _ _ z => wpAny_pure z) fun _ _ z => z)))
  show wpAny _ _ (Builtin.List.listSubscript? (.ref sl) >>= _) _ _ s
  refine wpAny_bind ?_
  unfold Builtin.List.listSubscript?
  refine wpAny_bind (wpAny_specialOf hTs slice_no_index ?_)
  simp only [Option.isNone_none, if_true]
  refine wpAny_pure ?_
  show wpAny _ _ (typeOf (.ref sl) >>= _) _ _ s
  refine wpAny_bind (wpAny_typeOf hTs ?_)
  rw [if_neg (by decide)]
  rw [listSliceParts_eq]
  refine wpAny_bind (wpAny_bind (wpAny_field hos hds (x := vs) rfl (wpAny_bind (wpAny_listPart ps ?_))))
  rw [if_neg (show ¬ ((rawPart none == rawInt 0) = true) from Bool.false_ne_true)]
  refine wpAny_bind (wpAny_field hos hds (x := vl) rfl (wpAny_bind (wpAny_listPart pl ?_)))
  refine wpAny_bind (wpAny_field hos hds (x := vu) rfl (wpAny_bind (wpAny_listPart pu (wpAny_pure ?_))))
  rw [if_neg (show ¬ (Builtin.List.listSameRef (.ref x) (.ref b) = true) by simp [Builtin.List.listSameRef, Ne.symm hbx])]
  unfold Builtin.List.listAllItems
  refine wpAny_bind (wpAny_bind (wpAny_typeOf hTb ?_))
  rw [if_pos (by decide)]
  refine wpAny_bind (wpAny_seqItems hob hdb (wpAny_pure ?_))
  refine wpAny_bind (listItems_at hx rfl ?_)
  refine wpAny_bind (wpAny_of_eq (sliceIndices_raw lo none none xs.size (by simp)) ?_)
  rw [if_pos (by rfl)]
  refine wpAny_bind (wpAny_rule ?_)
  rw [if_neg (by simp [Builtin.List.listTooLong]; omega)]
  refine wpAny_bind (listUpdate_at hx rfl ?_ (by omega) (by simp; omega))
  exact wpAny_bind (wpAny_letGo (wpAny_pure ⟨.none, rfl, h _ (acc_update I _) (Heap.SameBut.update ..)⟩))
theorem IsAcc.len {x d : Addr} {xs : Array Value} {Q : Value → Shared → Prop} (I : IsAcc P s.heap x xs d) (X : (hd.heap_1 P).In s.heap)
    (h : ∀ t tk, Q (.int xs.size t) { s with toks := tk }) : wpAny (model prog w) A (call (.builtin "list.__len__") [.ref x]) Q E s := by
  obtain ⟨n, hx⟩ := id I.obj
  refine I.call_slot X (by decide +kernel) (n := "__len__") (by decide +kernel) (by unfold argsOk; kernel_rfl) (by decide +kernel) (entryFor_of_tree (by kernel_rfl)) (b := Builtin.«list.__len__») ?_
  show wpAny _ _ (seqSize x >>= _) _ _ s
  unfold seqSize
  refine wpAny_bind (wpAny_bind (wpAny_loadPart hx (wpAny_pure ?_)))
  exact wpAny_bind (wpAny_mkInt (wpAny_pure ⟨_, rfl, h _ _⟩))
theorem acc_iter (P : Params) : findIn (hd.heap_1 P) (.ref (CA P)) "__iter__" = some (some (.builtin "list.__iter__")) := rfl
theorem IsAcc.iter {x d : Addr} {xs : Array Value} {Q : Value → Shared → Prop} (I : IsAcc P s.heap x xs d) (X : (hd.heap_1 P).In s.heap)
    (h : Q (.ref s.heap.objs.size) { s with heap := s.heap.push { cls := .type "list_iterator", data := .fields #[.ref x, .int 0 0] } }) : wpAny (model prog w) A (pyIter (.ref x)) Q E s := by
  have hc : wpAny (model prog w) A (call (.builtin "list.__iter__") [.ref x]) (fun it s' => ∃ T' r, s'.TypeIs it T' ∧ typeLookup (.type T') "__next__" = pure (some r) ∧ Q it s') E s := by
    refine I.call_slot X (by decide +kernel) (n := "__iter__") (by decide +kernel) (args_list_iter _) (by decide +kernel) entry_list_iter ?_
    show wpAny _ _ (do ret (← newFields "list_iterator" [.ref x, rawInt 0])) _ _ s
    exact wpAny_bind (wpAny_newObj_type (wpAny_pure ⟨_, rfl, "list_iterator", _, ⟨_, Heap.get?_push_size _ rfl, rfl⟩, slot_listiter_next.lookup, h⟩))
  unfold pyIter specialOf
  refine wpAny_bind (wpAny_bind (I.type.here ((looks_findIn X (acc_iter P)).here ?_)))
  show wpAny _ A (callSpecialIfBoundUnlessNone? (.ref x) "__iter__" _ >>= _) Q E s
  unfold callSpecialIfBoundUnlessNone? bindSpecialIfBound? specialOf
  refine wpAny_bind (wpAny_holding (wpAny_bind (wpAny_bind (wpAny_bind (I.type.here ((looks_findIn X (acc_iter P)).here ?_))))))
  dsimp only
  rw [slot_list_iter.bind]
  refine wpAny_bind (wpAny_askSetting (wpAny_ite ?_))
  split
  · refine wpAny_bind (wpAny_pure (wpAny_pure ?_))
    dsimp only
    rw [if_neg (show ¬ ((Value.builtin "list.__iter__" == Value.none) = true) by rw [builtin_beq_none]; exact Bool.false_ne_true)]
    refine wpAny_bind (wpAny_mono hc (fun it s' h' => wpAny_pure ?_) fun _ _ z => z)
    obtain ⟨T', r, hT', hl, hQ⟩ := h'
    exact wpAny_bind (wpAny_specialOf hT' hl (wpAny_pure hQ))
  · refine wpAny_tryCatch (wpAny_bind (wpAny_pure (wpAny_pure ?_)))
    dsimp only
    rw [if_neg (show ¬ ((Value.builtin "list.__iter__" == Value.none) = true) by rw [builtin_beq_none]; exact Bool.false_ne_true)]
    refine wpAny_bind (wpAny_mono hc (fun it s' h' => wpAny_pure ?_) fun _ _ z => z)
    obtain ⟨T', r, hT', hl, hQ⟩ := h'
    exact wpAny_bind (wpAny_specialOf hT' hl (wpAny_pure hQ))
end
end Mine
end
/-! part E3 -/
section
open PySem PySem.Calls PySem.Spec PyProof.Rows PySem.W PySem.SeqAt
set_option Elab.async false
set_option linter.unusedVariables false
set_option maxRecDepth 100000
set_option maxHeartbeats 1000000
namespace Mine
/-! ## making an object -/
section
variable {prog : Program} {w : World} {A : Around} {P : Params}
noncomputable def makesL (K : Frag) (C : Addr) : Bool := match K.lookup C with
  | some ⟨_, _, .cls cd, sl⟩ => !cd.abstract && !cd.hasDel && (sl.toList[4]?).join == some (.builtin "list.__new__") && !cd.mro.isEmpty && cd.mro.contains (.ref C) && cd.mro.contains (.type "list") &&
      specialIn K (.ref C) "__call__" == some (some (.builtin "type.__call__")) && instIn K (.ref C) (.type "type") == some true
  | _ => false
structure MakesL (M : Model) (h : Heap) (C : Addr) : Prop where
  obj : ∃ oc od cd sl, h.get? C = some ⟨oc, od, .cls cd, sl⟩ ∧ cd.abstract = false ∧ cd.hasDel = false ∧ cd.mro.isEmpty = false
  made : Looks M h (Bind.madeBy (.ref C)) (some "list.__new__")
  base : Looks M h (Bind.staticBase (.ref C)) (.ref C)
  self : Looks M h (isSubtype (.ref C) (.ref C)) true
  top : Looks M h (isSubtype (.ref C) (.type "list")) true
  call : Looks M h (specialOf (.ref C) "__call__") (some (.builtin "type.__call__"))
  typ : Looks M h (isInstance (.ref C) (.type "type")) true
theorem makesL_of {K : Frag} {M : Model} {h : Heap} (X : K.In h) {C : Addr} (e : makesL K C = true) : MakesL M h C := by
  unfold makesL at e
  split at e
  · rename_i oc od cd sl ho
    simp only [Bool.and_eq_true, Bool.not_eq_true', beq_iff_eq] at e
    obtain ⟨⟨⟨⟨⟨⟨⟨e1, e2⟩, e3⟩, e4⟩, e5⟩, e6⟩, e7⟩, e8⟩ := e
    have hc : clsIn K C = some cd := by unfold clsIn; rw [ho]
    have hm : Looks M h (mroOf (.ref C)) cd.mro := (looks_clsIn X hc).andThen .now
    obtain ⟨c, l, hl⟩ : ∃ c l, cd.mro = c :: l := by cases q : cd.mro with | nil => rw [q] at e4; cases e4 | cons c l => exact ⟨c, l, rfl⟩
    have made : Looks M h (Bind.madeBy (.ref C)) (some "list.__new__") := by
      intro A Q E s k q
      unfold Bind.madeBy
      refine wpAny_bind (hm A _ E s k ?_)
      rw [hl, List.forIn_cons]
      refine wpAny_bind (wpAny_bind (wpAny_bind (wpAny_bind (wpAny_loadPart (k _ _ (X _ _ ho)) (wpAny_pure ?_)))))
      dsimp only
      rw [← Array.getElem?_toList, e3]
      exact wpAny_pure (wpAny_pure (wpAny_pure q))
    refine ⟨⟨oc, od, cd, sl, X _ _ ho, e1, e2, e4⟩, made, ?_, looks_mroIn X ?_, looks_mroIn X ?_, looks_specialIn X e7, looks_instIn X e8⟩
    · intro A Q E s k q
      unfold Bind.staticBase
      refine wpAny_bind (hm A _ E s k ?_)
      rw [hl, List.forIn_cons]
      exact wpAny_bind (wpAny_bind (wpAny_bind (made A _ E s k (wpAny_pure (wpAny_pure (wpAny_pure q))))))
    · unfold mroIn; rw [hc, Option.bind_some, if_neg (by rw [e4]; decide), e5]
    · unfold mroIn; rw [hc, Option.bind_some, if_neg (by rw [e4]; decide), e6]
  · cases e
theorem acc_makes (P : Params) : makesL (hd.heap_1 P) (CA P) = true := rfl
noncomputable abbrev accObj (C dx : Addr) : Obj := { cls := .ref C, dict := some dx, data := .seq #[] }
section
variable {C : Addr} {R : Result → Shared → Prop} {h : Heap} {g : Array GenState} {d : Drawn} {t : Nat} {os : OsState}
theorem ln_split : splitId "list.__new__" = some ("list", "__new__") := by decide +kernel
theorem ln_kind : builtinKind "list.__new__" = some .builtinFn := by decide +kernel
theorem ln_args (a : Value) : ∀ sig, Manifest.signature? "list.__new__" = some sig → Bind.checkArgs "list.__new__" sig ⟨[a], []⟩ = pure () := fun sig h => by
  have h1 : (Manifest.signature? "list.__new__").map (fun sig => Bind.checkArgs "list.__new__" sig ⟨[a], []⟩) = some (pure ()) := by kernel_rfl
  rw [h] at h1
  exact Option.some.inj h1
theorem new_L (Y : MakesL (model prog w) h C)
    (hq : R (.ok (.ret (.ref (h.objs.size + 1)))) ⟨(h.push emptyDict).push (accObj C h.objs.size), g, d, t, os⟩) :
    codeAny (model prog w) A (.call (.builtin "list.__new__") ⟨[.ref C], []⟩) R ⟨h, g, d, t, os⟩ := by
  obtain ⟨⟨oc, od, cd, sl, hC, e1, e2, e4⟩, made, base, self, top, call, typ⟩ := Y
  refine codeAny_call_builtin_code (plainId_quiet F.plain_list_new _) ?_
  have fin : codeAny (model prog w) A (.builtin "list.__new__" ⟨[.ref C], []⟩) R ⟨h, g, d, t, os⟩ := by
    refine codeAny_builtin_stack F.entry_list_new rfl fun p st => ?_
    rw [Around.under_plainId F.plain_list_new _]
    have hown := owner_list_new
    simp only [hown]
    have fin2 : ∀ A', wpAny (model prog w) A' (do
      let .ref d ← newDict | unsupported "internal:list.__new__"
      ret (← newObj (.ref C) (.seq #[]) (some d))) (fun fin s' => match fin with | .done f => R (.ok f) s' | .again c' => c'.quiet = true ∧ codeAny (model prog w) A c' R s') (fun e s' => R (.error e) s') ⟨h, g, d, t, os⟩ := by
      intro A'
      unfold newDict
      refine wpAny_bind (wpAny_newObj_type ?_)
      show wpAny _ _ (newObj (.ref C) (.seq #[]) (some h.objs.size) >>= _) _ _ _
      unfold newObj
      refine wpAny_bind ?_
      dsimp only
      rw [if_neg (by decide)]
      show wpAny _ _ (newObjAsIs _ _ _) _ _ _
      unfold newObjAsIs classHasDel
      refine wpAny_bind (wpAny_alloc (wpAny_bind (wpAny_bind (wpAny_load (Heap.get?_push_of_some _ (Heap.get?_push_of_some _ hC)) (wpAny_pure ?_)))))
      rw [e2]
      refine wpAny_pure (wpAny_pure ?_)
      show R _ _
      rw [Heap.size_push]
      exact hq
    repeat (first | exact fin2 _ | simp only [Bool.not_true, Bool.false_eq_true, if_false] | lk)
  simp only [checkBuiltinCall, ln_kind, ln_split]
  cases hsig : Manifest.signature? "list.__new__" with
  | none => repeat (first | exact fin | simp only [bne_self_eq_false, Bool.false_eq_true, if_false] | lk)
  | some sig =>
    have h1 := ln_args (.ref C) sig hsig
    repeat (first | exact fin | simp only [bne_self_eq_false, Bool.false_eq_true, if_false, h1] | lk)
theorem make_L {init : Value} (Y : MakesL (model prog w) h C) (hi : Looks (model prog w) h (typeLookup (.ref C) "__init__") (some init))
    (hb : ∀ self, Looks (model prog w) h (bindSpecial init self) (init, [self]))
    (hq : codeAny (model prog w) (A.under (.builtin "type.__call__" ⟨[.ref C], []⟩)) (.call init ⟨[.ref (h.objs.size + 1)], []⟩) (InitBack (h.objs.size + 1) R) ⟨(h.push emptyDict).push (accObj C h.objs.size), g, d, t, os⟩) :
    codeAny (model prog w) A (.call (.ref C) ⟨[], []⟩) R ⟨h, g, d, t, os⟩ := by
  have Y' := Y
  obtain ⟨⟨oc, od, cd, sl, hC, e1, e2, e4⟩, made, base, self, top, call, typ⟩ := Y
  refine codeAny_of_tree ?_
  show wpAny _ _ (callAny (.ref C) _) _ _ _
  refine nd_load hC ?_
  show wpAny _ _ (callAny.viaDunder (.ref C) _) _ _ _
  unfold callAny.viaDunder
  refine wpAny_bind (call.at ?_)
  dsimp only
  rw [tc_bind]
  refine wpAny_bind (wpAny_pure (wpAny_bind (wpAny_pure ?_)))
  refine wpAny_pure (a := Fin.again (.call (.builtin "type.__call__") ⟨[.ref C], []⟩)) (And.intro rfl ?_)
  refine codeAny_call_builtin_at (Code.quiet_builtin _ (by decide +kernel)) entry_typeCall (check_slot tc_kind tc_split typ (tc_args _ _ _) ?_)
  unfold Builtin.«type.__call__»
  have hm : Looks (model prog w) h (mroOf (.ref C)) cd.mro := ((Looks.ld (part := none) hC).andThen .now).andThen .now
  repeat (first | simp only [e4, Bool.false_eq_true, if_false] | with_reducible refine wpAny_call ?_ | lk)
  refine new_L Y' ?_
  have k : ∀ b o, h.get? b = some o → ((h.push emptyDict).push (accObj C h.objs.size)).get? b = some o := fun b o e => Heap.get?_push_of_some _ (Heap.get?_push_of_some _ e)
  have hx : ((h.push emptyDict).push (accObj C h.objs.size)).get? (h.objs.size + 1) = some (accObj C h.objs.size) := by heap_get
  have t1 : Looks (model prog w) ((h.push emptyDict).push (accObj C h.objs.size)) (typeOf (.ref (h.objs.size + 1))) (.ref C) := (Looks.ld hx).andThen .now
  have s1 := self.keeps k
  have i1 := hi.keeps k
  have b1 := (hb (.ref (h.objs.size + 1))).keeps k
  unfold isInstance callSpecial? specialOf
  repeat (first | with_reducible refine wpAny_call ?_ | lk)
  refine codeAny_mono hq fun r s' z => ?_
  rcases r with e | (v | _ | _ | _) <;> first | exact z | exact z.elim | skip
  obtain ⟨rfl, z⟩ := z
  exact wpAny_pure (wpAny_pure z)
end
end
end Mine
end
/-! part E4 -/
section
open PySem PySem.Calls PySem.Spec PyProof.Rows PySem.W PySem.SeqAt
open Sem (wp)
set_option Elab.async false
set_option linter.unusedVariables false
set_option maxRecDepth 100000
set_option maxHeartbeats 1000000
namespace Mine
/-! ## super() with a target of list's own -/
theorem acc_superlen (P : Params) : alongIn (hd.heap_1 P) "__len__" [.type "list", .type "object"] = some (some (.builtin "list.__len__")) := rfl
theorem acc_superinit (P : Params) : alongIn (hd.heap_1 P) "__init__" [.type "list", .type "object"] = some (some (.builtin "list.__init__")) := rfl
theorem acc_cls (P : Params) : ∃ cd, clsIn (hd.heap_1 P) (CA P) = some cd ∧ cd.mro = [.ref (CA P), .type "list", .type "object"] := ⟨_, rfl, rfl⟩
theorem acc_opaque (P : Params) : nsIn (hd.heap_1 P) cStatics "thirdparty.any" = some none := rfl
theorem acc_superno (P : Params) : nsIn (hd.heap_1 P) mainGlobals "super" = some none := rfl
theorem slot_wd_get : Slot "wrapper_descriptor" "__get__" "wrapper_descriptor.__get__" := .of (owner := "wrapper_descriptor") (n := "__get__") (by rw [typeLookup_type, builtinLookup_eq_fast]; kernel_rfl) (by decide +kernel) (by decide +kernel) (by decide +kernel)
  (by first | exact .inl (by decide +kernel) | exact .inr (by decide +kernel)) (by rw [isSubtype_type]; kernel_rfl)
theorem entry_wd_get : entryFor table "wrapper_descriptor.__get__" = some Builtin.«wrapper_descriptor.__get__» := entryFor_of_tree (by kernel_rfl)
theorem args_wd_get (a b c : Value) : argsOk "wrapper_descriptor.__get__" ⟨[a, b, c], []⟩ := by unfold argsOk; kernel_rfl
theorem ty_len : typeOf (.builtin "list.__len__") = pure (.type "wrapper_descriptor") := by show builtinType _ = _; rw [builtinType_eq_fast]; exact of_pureOf (by kernel_rfl)
theorem ty_init : typeOf (.builtin "list.__init__") = pure (.type "wrapper_descriptor") := by show builtinType _ = _; rw [builtinType_eq_fast]; exact of_pureOf (by kernel_rfl)
theorem ln_cut : ".".intercalate ("list.__len__".cutAt '.').dropLast = "list" := by decide +kernel
theorem li_cut : ".".intercalate ("list.__init__".cutAt '.').dropLast = "list" := by decide +kernel
noncomputable abbrev mwObj (id : String) (x : Addr) : Obj := { cls := .type "method-wrapper", dict := none, data := .fields #[.builtin id, .ref x], slots := #[] }
section
variable {prog : Program} {w : World} {A : Around} {E : Value → Shared → Prop} {P : Params} {h : Heap} {g : Array GenState} {d : Drawn} {t : Nat} {os : OsState}
theorem super_gaB {so D x C : Addr} {id : String} {l₀ l : List Value} {K : Frag} {name : Str} {tk : Tok} {Q : Fin → Shared → Prop}
    (hso : h.get? so = some { cls := .type "super", dict := none, data := .fields #[.ref D, .ref x, .ref C], slots := #[] }) (hno : Looks (model prog w) h (opaqueClassAbove (.ref C)) none)
    (hC : Looks (model prog w) h (mroOf (.ref C)) l₀) (hl : (l₀.dropWhile (· != .ref D)).drop 1 = l) (X : K.In h)
    (hf : alongIn K name l = some (some (.builtin id))) (hty : typeOf (.builtin id) = pure (.type "wrapper_descriptor")) (hi : Looks (model prog w) h (isInstance (.ref x) (.type "list")) true)
    (hcut : ".".intercalate (id.cutAt '.').dropLast = "list") (hxC : x ≠ C) (hn : (name == ("__class__" : Str)) = false)
    (hq : Q (.done (.ret (.ref h.objs.size))) ⟨h.push (mwObj id x), g, d, t, os⟩) :
    wpAny (model prog w) A (Builtin.«super.__getattribute__» ⟨[.ref so, .str name tk], []⟩) Q E ⟨h, g, d, t, os⟩ := by
  have hlk := slot_wd_get.lookup
  have hne : (Value.ref x == Value.ref C) = false := by simp [hxC]
  have hdt : ({ cls := .type "super", dict := none, data := .fields #[.ref D, .ref x, .ref C], slots := #[] } : Obj).data = .fields #[.ref D, .ref x, .ref C] := rfl
  have f0 : (#[.ref D, .ref x, .ref C] : Array Value)[0]? = some (.ref D) := rfl
  have f1 : (#[.ref D, .ref x, .ref C] : Array Value)[1]? = some (.ref x) := rfl
  have f2 : (#[.ref D, .ref x, .ref C] : Array Value)[2]? = some (.ref C) := rfl
  have hget : ∀ (A' : Around) (Q' : Value → Shared → Prop) (E' : Value → Shared → Prop), Q' (.ref h.objs.size) ⟨h.push (mwObj id x), g, d, t, os⟩ → wpAny (model prog w) A' (call (.builtin "wrapper_descriptor.__get__") [.builtin id, .ref x, .ref C]) Q' E' ⟨h, g, d, t, os⟩ := by
    intro A' Q' E' hq'
    refine wpAny_call_entry slot_wd_get (T := "wrapper_descriptor") hty entry_wd_get ?_ (args_wd_get _ _ _)
    have hi' : Looks (model prog w) h (isInstance (.ref x) (.type (".".intercalate (id.cutAt '.').dropLast))) true := by rw [hcut]; exact hi
    unfold Builtin.«wrapper_descriptor.__get__» 
    repeat lk
    exact ⟨_, rfl, hq'⟩
  unfold Builtin.«super.__getattribute__»
  repeat (first
    | (with_reducible refine wpAny_field hso hdt f0 ?_) | (with_reducible refine wpAny_field hso hdt f1 ?_) | (with_reducible refine wpAny_field hso hdt f2 ?_)
    | (with_reducible refine ks_wpAny_notOpaque hno ?_)
    | (with_reducible refine Looks.at hC ?_; rw [hl])
    | (refine ks_forIn_along X (fun _ _ => rfl) rfl ?_ hf)
    | (with_reducible refine wpAny_typeOf hty ?_)
    | (with_reducible refine hget _ _ _ ?_)
    | (simp only [hn, hne, Bool.or_false, Bool.false_eq_true, if_false])
    | wp_step
    | dsimp only)
  all_goals exact hq
theorem getMethod_superB {so D x C : Addr} {id : String} {l₀ l : List Value} {K : Frag} {name : Str} {pl : Sem Bool} {Q : Value × List Value → Shared → Prop}
    (hso : h.get? so = some { cls := .type "super", dict := none, data := .fields #[.ref D, .ref x, .ref C], slots := #[] }) (hno : Looks (model prog w) h (opaqueClassAbove (.ref C)) none)
    (hC : Looks (model prog w) h (mroOf (.ref C)) l₀) (hl : (l₀.dropWhile (· != .ref D)).drop 1 = l) (X : K.In h)
    (hf : alongIn K name l = some (some (.builtin id))) (hty : typeOf (.builtin id) = pure (.type "wrapper_descriptor")) (hi : Looks (model prog w) h (isInstance (.ref x) (.type "list")) true)
    (hcut : ".".intercalate (id.cutAt '.').dropLast = "list") (hxC : x ≠ C) (hn : (name == ("__class__" : Str)) = false)
    (hq : Q (.ref h.objs.size, []) ⟨h.push (mwObj id x), g, d, t + 1, os⟩) :
    wpAny (model prog w) A (getMethod (.ref so) name pl) Q E ⟨h, g, d, t, os⟩ := by
  have hlk := F.ks_slot_super_ga.lookup
  have hcan := F.ks_canon_super_ga
  have hT : ∀ t', (⟨h, g, d, t', os⟩ : Shared).TypeIs (.ref so) "super" := fun _ => ⟨_, hso, rfl⟩
  unfold getMethod
  refine wpAny_bind (wpAny_specialOf (hT _) hlk ?_)
  show wpAny _ _ (if (Manifest.canonical "super.__getattribute__" != "object.__getattribute__") = true then _ else _) _ _ _
  rw [if_pos hcan]
  unfold getAttr getAttrBy
  refine wpAny_bind (wpAny_bind (wpAny_mkText (wpAny_holding (wpAny_bind (wpAny_typeOf (hT _) (wpAny_bind (wpAny_of_eq hlk ?_)))))))
  show wpAny _ _ (getAttrByItsOwn (.ref so) (.str name t) (.type "super") (.builtin "super.__getattribute__") true false) _ _ _
  unfold getAttrByItsOwn hookBefore callGetattribute boundAndCalled
  refine wpAny_bind (wpAny_of_eq (show (if onTheHeap (.type "super") then typeLookup (.type "super") "__getattr__" else pure none) = pure none from rfl) ?_)
  refine wpAny_bind (wpAny_attempt (wpAny_holding ?_))
  show wpAny _ _ (bindSpecial (.builtin "super.__getattribute__") (.ref so) >>= _) _ _ _
  refine wpAny_bind (wpAny_of_eq (F.ks_slot_super_ga.bind _) ?_)
  refine wpAny_mono (Q := fun v s' => v = .ref h.objs.size ∧ s' = ⟨h.push (mwObj id x), g, d, t + 1, os⟩) (E := fun _ _ => False)
    (wpAny_call_entry F.ks_slot_super_ga (hT _) F.ks_entry_super_ga (super_gaB hso hno hC hl X hf hty hi hcut hxC hn ⟨_, rfl, rfl, rfl⟩) (F.ks_gaArgs_super _ _)) (fun v s' hv => ?_) fun _ _ z => z.elim
  obtain ⟨rfl, rfl⟩ := hv
  exact wpAny_pure (wpAny_pure hq)
/-- a call of a method wrapper without arguments -/
theorem callWith_mw {s : Shared} {mw x : Addr} {id : String} {b : Builtin} {pos : Pos} {Q : Value → Shared → Prop} (hm : s.heap.get? mw = some (mwObj id x))
    (hk : builtinKind id = some .slot) (ha : argsOk id ⟨[.ref x], []⟩) (hq : plainId id = true) (hb : entryFor table id = some b)
    (hc : wpAny (model prog w) A.in1 (b ⟨[.ref x], []⟩) (fun fin s' => ∃ v, fin = .done (.ret v) ∧ Q v s') E s) :
    wpAny (model prog w) A (callWith pos (.ref mw) [] [] []) Q E s := by
  have mid : wpAny (model prog w) A (call (.ref mw) []) Q E s := by
    refine wpAny_call (codeAny_of_tree ?_)
    show wpAny _ _ (callAny (.ref mw) _) _ _ _
    unfold callAny
    refine wpAny_bind (wpAny_load hm ?_)
    simp only [mwObj, show (Value.type "method-wrapper" == Value.type "method" || Value.type "method-wrapper" == Value.type "builtin_function_or_method" || Value.type "method-wrapper" == Value.type "method-wrapper") = true by decide, if_true]
    show wpAny _ _ (if (Value.type "method-wrapper" != Value.type "method") = true then (checkBoundCall id ⟨[.ref x], []⟩ >>= fun _ => again (Code.builtin id ⟨[.ref x], []⟩)) else _) _ _ _
    rw [if_pos (by decide)]
    have hcb : checkBoundCall id ⟨[.ref x], []⟩ = pure () := by
      unfold checkBoundCall
      unfold argsOk at ha
      cases hs : Manifest.signature? id with
      | none => rfl
      | some sig =>
        rw [hs] at ha
        simp only [hk]
        have h2 : Bind.checkArgs id sig ⟨[.ref x], []⟩ = pure () := ha
        exact h2
    refine wpAny_bind (wpAny_of_eq hcb ?_)
    refine wpAny_pure (And.intro (plainId_quiet hq _) (codeAny_builtin hb ?_))
    rw [Around.under_plainId hq _]
    refine wpAny_mono hc (fun fin s' h' => ?_) fun _ _ z => z
    obtain ⟨v, rfl, hv⟩ := h'
    exact hv
  unfold callWith
  refine wpAny_bind (wpAny_holding (PySem.evalArgs_none (wpAny_bind (wpAny_standAt ?_))))
  refine wpAny_bind (m := keeperOf (.ref mw)) ?_
  unfold keeperOf
  refine wpAny_bind (wpAny_load hm ?_)
  simp only [mwObj, show (Value.type "method-wrapper" != Value.type "method") = true by decide, show (Value.type "method-wrapper" == Value.type "builtin_function_or_method" || Value.type "method-wrapper" == Value.type "method-wrapper") = true by decide, if_true]
  refine wpAny_pure ?_
  exact wpAny_bind (wpAny_mono mid (fun r s₂ hr => wpAny_bind (wpAny_holding (wpAny_point (wpAny_pure hr)))) fun _ _ x => x)
end
end Mine
end
/-! part E5 -/
section
open PySem PySem.Calls PySem.Spec PyProof.Rows PySem.W PySem.SeqAt
open Sem (wp)
set_option Elab.async false
set_option linter.unusedVariables false
set_option maxRecDepth 100000
set_option maxHeartbeats 1000000
namespace Mine
/-! ## the methods of the class: entry, push -/
noncomputable abbrev aPush : Addr := 52
noncomputable abbrev aPop : Addr := 60
noncomputable abbrev aCount : Addr := 104
noncomputable abbrev aStr : Addr := 81
noncomputable abbrev aInit : Addr := 45
theorem mOf_push (P : Params) : findIn (hd.heap_1 P) (.ref (CA P)) "push" = some (some (.ref aPush)) := rfl
theorem mOf_pop (P : Params) : findIn (hd.heap_1 P) (.ref (CA P)) "pop_from" = some (some (.ref aPop)) := rfl
theorem mOf_count (P : Params) : findIn (hd.heap_1 P) (.ref (CA P)) "part_count" = some (some (.ref aCount)) := rfl
theorem mOf_str (P : Params) : findIn (hd.heap_1 P) (.ref (CA P)) "__str__" = some (some (.ref aStr)) := rfl
theorem mOf_init (P : Params) : findIn (hd.heap_1 P) (.ref (CA P)) "__init__" = some (some (.ref aInit)) := rfl
noncomputable def fdOf (P : Params) (f : Addr) : Option FuncData := match (hd.heap_1 P).lookup f with
  | some ⟨_, _, .func fd, _⟩ => some fd
  | _ => none
theorem Base.keeps {w : World} {g h : Heap} {mg mb : Str → Option Value} (B : Base w g mg mb) (k : ∀ b o, g.get? b = some o → h.get? b = some o) : Base w h mg mb :=
  ⟨⟨B.gl.gl.keeps k, B.gl.bu.keeps k, B.gl.lim.keeps k, B.gl.boot⟩, fun b o e => k b o (B.K b o e), let ⟨o, ho⟩ := B.mods; ⟨o, k _ _ ho⟩⟩
/-- one object alone may be another, new ones may stand -/
noncomputable def KeepBut (x : Addr) (h h' : Heap) : Prop := ∀ b o, b ≠ x → h.get? b = some o → h'.get? b = some o
theorem KeepBut.trans {x : Addr} {h h' h'' : Heap} (a : KeepBut x h h') (b : KeepBut x h' h'') : KeepBut x h h'' := fun c o hc e => b c o hc (a c o hc e)
theorem KeepBut.of {x : Addr} {h h' : Heap} (k : Keep h h') : KeepBut x h h' := fun b o _ e => k b o e
theorem KeepBut.same {x : Addr} {h h' : Heap} (k : Heap.SameBut x h h') : KeepBut x h h' := fun b o hb e => (k.2 b hb).trans e
theorem IsAcc.keeps {P : Params} {h h' : Heap} {x d : Addr} {xs : Array Value} (I : IsAcc P h x xs d) (k : Keep h h') : IsAcc P h' x xs d := let ⟨n, e⟩ := I.obj; ⟨n, k _ _ e⟩
section
variable {prog : Program} {w : World} {A : Around} {E : Value → Shared → Prop} {s : Shared} {mg mb : Str → Option Value} {P : Params}
theorem wpAny_MethodCall {env : Env} {o : PySem.Expr} {name : Str} {apos pos : Pos} {args : List PySem.Expr} {pl : Sem Bool} {Q : Value → Shared → Prop}
    (h : wpAny (model prog w) A (eval o env) (fun ov s₁ => wpAny (model prog w) A (getMethod ov name pl) (fun fx s₂ => wpAny (model prog w) A (callWith pos fx.1 fx.2 (backTo pos (starEach args env)) []) Q E s₂) E s₁) E s)
    (hbase : attributeBase o name env (eval o env) = eval o env := by rfl)
    (he : eval (.Call (.Attribute o name apos) args [] pos) env = (do
      let ov ← attributeBase o name env (eval o env)
      standAt apos.atName
      let (f, first) ← holding [ov] (getMethod ov name pl)
      callWith pos f first (backTo pos (starEach args env)) []) := by rfl) :
    wpAny (model prog w) A (eval (.Call (.Attribute o name apos) args [] pos) env) Q E s := by
  rw [he, hbase]
  refine wpAny_bind (wpAny_mono h (fun ov s₁ h₁ => wpAny_bind (wpAny_standAt (wpAny_bind (wpAny_holding (wpAny_mono h₁ (fun fx s₂ h₂ => ?_) fun _ _ x => x))))) fun _ _ x => x)
  exact h₂
theorem enterM {f : Addr} {oc : Value} {od : Option Addr} {osl : Array (Option Value)} {fd : FuncData} {body : List Stmt} {args : Args} {binds : List (Str × Value)} {R : Result → Shared → Prop} (B : Base w s.heap mg mb) (hroom : A.depth < recursionLimit)
    (ho : (hd.heap_1 w.params).lookup f = some ⟨oc, od, .func fd, osl⟩) (hcd : codeIn (hd.heap_1 w.params) fd.code fd.qualname = true) (hbody : fd.body = .stmts body) (hbind : BindsTo s fd args binds)
    (h : ∀ h₀, h₀.Ns s.heap.objs.size (fun x => binds.reverse.lookup x) → Keep s.heap h₀ → Base w h₀ mg mb →
      _root_.PySem.wpAt (model prog w) (A.deeper (callEnv fd s.heap.objs.size f)) (.func body (callEnv fd s.heap.objs.size f)) (execs body (callEnv fd s.heap.objs.size f)) (fun fl s' => R (.ok (.ret (match fl with | .ret v => v | _ => .none))) s')
        (fun e s' => wpAny (model prog w) (A.deeper (callEnv fd s.heap.objs.size f)) (leaving (callEnv fd s.heap.objs.size f) e) (fun _ s'' => R (.error e) s'') (fun e' s'' => R (.error e') s'') s')
        { s with heap := h₀, toks := s.toks + binds.length })
    (hcell : ∀ x ∈ fd.scope.names, x.2 ≠ .cell) (hloc : ∀ x ∈ binds, fd.scope.names.lookup x.1 = some .local)
    (hco : fd.scope.isCoroutine = false := by rfl) (hgen : fd.scope.isGenerator = false := by rfl) (hk : fd.scope.kind = .function := by rfl) : codeAny (model prog w) A (.call (.ref f) args) R s :=
  ks_codeAny_call_defAt hroom (B.K _ _ ho) rfl B.gl.lim (codeRec_of B.K hcd) hbody hbind hcell hloc (fun h₀ hn k => h h₀ hn k (B.keeps k)) hco hgen hk
theorem name_at {env : Env} {y : Str} {pos : Pos} {v : Value} {L : Addr} {m : Str → Option Value} {Q : Value → Shared → Prop} (hn : s.heap.Ns L m) (hm : m y = some v) (h : Q v s) (hL : env.locals = L := by rfl) (hk : env.scope.kind = .function := by rfl) (hl : env.kindOf y = some .local := by rfl)
    (hd : (y == ("__debug__" : Str)) = false := by decide) : wpAny (model prog w) A (eval (.Name y pos) env) Q E s := by
  subst hL
  exact wpAny_Name (wpAny_loadName_local hk hl hn hm h) hd
theorem callWith_b1 {id : String} {first : List Value} {e : PySem.Expr} {env : Env} {pos : Pos} {Q : Value → Shared → Prop} (h : wpAny (model prog w) A (eval e env) (fun v s₁ => wpAny (model prog w) A (call (.builtin id) (first ++ [v])) Q E s₁) E s)
    (ht : backTo pos (starEach [e] env) = [(false, eval e env)] := by rfl) : wpAny (model prog w) A (callWith pos (.builtin id) first (backTo pos (starEach [e] env)) []) Q E s := by
  rw [ht]
  exact callWith_builtin rfl (evalArgs_plain (spliced_cons (wpAny_mono h (fun v s₁ h₁ => spliced_nil h₁) fun _ _ z => z)))
theorem tup2 {a b : PySem.Expr} {env : Env} {k : Nat} {pos : Pos} {Q : Value → Shared → Prop} (h : wpAny (model prog w) A (eval a env) (fun u s₁ => wpAny (model prog w) A (eval b env) (fun v s₂ => Q (.ref s₂.heap.objs.size) { s₂ with heap := s₂.heap.push (tObj [u, v] 0) }) E s₁) E s)
    (ht : backTo pos (starEach [a, b] env) = [(false, eval a env), (false, eval b env)] := by rfl) : wpAny (model prog w) A (eval (.Tuple [a, b] k pos) env) Q E s := by
  refine wpAny_Tuple_spliced ?_
  rw [ht]
  refine spliced_cons (wpAny_mono h (fun u s₁ h₁ => spliced_cons (wpAny_mono h₁ (fun v s₂ h₂ => spliced_nil ⟨?_, h₂⟩) fun _ _ z => z)) fun _ _ z => z)
  rw [sizeLine_eq]; exact Nat.le_of_ble_eq_true rfl
/-- self.append((fws, string)) -/
theorem code_push {x d : Addr} {xs : Array Value} {u v : Value} {mI : Str → Option Value} {R : Result → Shared → Prop} (B : Base w s.heap mg mb) (I : IsAcc w.params s.heap x xs d) (hd0 : s.heap.Ns d mI) (hm : mI "append" = none) (hsz : xs.size ≤ 1000) (hroom : A.depth < recursionLimit)
    (h : ∀ h' tk t n, KeepBut x s.heap h' → s.heap.get? t = none → h'.get? t = some (tObj [u, v] n) → IsAcc w.params h' x (xs.push (.ref t)) d → R (.ok (.ret .none)) { s with heap := h', toks := tk }) :
    codeAny (model prog w) A (.call (.ref aPush) ⟨[.ref x, u, v], []⟩) R s := by
  refine enterM (binds := [("self", .ref x), ("fws", u), ("string", v)]) B hroom rfl rfl rfl (BindsTo.of_eq rfl) (fun h₀ hn k B₀ => ?_) (by decide) ?_
  · have hfresh := get_new s.heap
    refine _root_.PySem.wpAt_of_wpAny (wpAny_execs_cons (wpAny_Expr ?_))
    have I₀ := I.keeps k
    refine wpAny_MethodCall (name_at hn rfl ?_)
    refine I₀.method B₀.K (acc_append _) rfl rfl (hd0.keeps k) hm ?_
    dsimp only
    refine callWith_b1 (tup2 (name_at hn rfl (name_at hn rfl ?_)))
    show wpAny _ _ (call (.builtin "list.append") [.ref x, .ref h₀.objs.size]) _ _ _
    have I₁ := I₀.keeps (h' := h₀.push (tObj [u, v] 0)) fun b o e => Heap.get?_push_of_some _ e
    have B₁ := B₀.keeps (h := h₀.push (tObj [u, v] 0)) fun b o e => Heap.get?_push_of_some _ e
    have hxlt : x < s.heap.objs.size := let ⟨n, e⟩ := I.obj; Heap.lt_size e
    have hsz0 : s.heap.objs.size ≤ h₀.objs.size := Nat.le_of_lt hn.lt
    refine I₁.append B₁.K hsz fun h' I' hs' => ?_
    refine wpAny_execs_nil ?_
    refine h h' _ h₀.objs.size 0 (((KeepBut.of k).trans (KeepBut.of fun b o e => Heap.get?_push_of_some _ e)).trans (KeepBut.same hs')) (none_of_fresh hsz0) ?_ I'
    exact (hs'.2 _ (Nat.ne_of_gt (Nat.lt_of_lt_of_le hxlt hsz0))).trans (Heap.get?_push_size _ rfl)
  · intro y hy
    simp only [List.mem_cons, List.not_mem_nil, or_false] at hy
    rcases hy with rfl | rfl | rfl <;> rfl

theorem IsAcc.subTail' {value slice : PySem.Expr} {x d : Addr} {xs : Array Value} {i : Value} {Q : Value → Shared → Prop} (I : IsAcc P s.heap x xs d) (X : (hd.heap_1 P).In s.heap)
    (h : wpAny (model prog w) A (PySem.getItem (.ref x) i) Q E s) (hs : ∃ ops, subscripted slice false (.ref x) i = operate ops (PySem.getItem (.ref x) i)) :
    wpAny (model prog w) A (subscriptTail value slice (.ref x) i) Q E s := hs.elim fun ops e => I.subTail (ops := ops) X h e
theorem IsAcc.same {h h' : Heap} {x d L : Addr} {xs : Array Value} (I : IsAcc P h x xs d) (k : Heap.SameBut L h h') (hne : x ≠ L) : IsAcc P h' x xs d := let ⟨n, e⟩ := I.obj; ⟨n, (k.2 x hne).trans e⟩
noncomputable def cutTo (xs : Array Value) (lo : Int) : Array Value :=
  xs.extract 0 (sliceBounds (some lo) none none xs.size).1.toNat ++ #[] ++ xs.extract (max (sliceBounds (some lo) none none xs.size).1 (sliceBounds (some lo) none none xs.size).2.1).toNat xs.size
/-- popped = self[i:]; self[i:] = []; return popped -/
theorem code_pop {args : Args} {x d : Addr} {xs : Array Value} {lo : Int} {t : Tok} {R : Result → Shared → Prop} (B : Base w s.heap mg mb) (I : IsAcc w.params s.heap x xs d) (hsz : xs.size ≤ 1000) (hroom : A.depth < recursionLimit)
    (ha : args = ⟨[.ref x, .int lo t], []⟩ ∨ (args = ⟨[.ref x], []⟩ ∧ lo = 0))
    (h : ∀ h' tk p, KeepBut x s.heap h' → s.heap.get? p = none → h'.get? p = some (lObj (slicePick xs (some lo) none none).toList 0) → IsAcc w.params h' x (cutTo xs lo) d → R (.ok (.ret (.ref p))) { s with heap := h', toks := tk }) :
    codeAny (model prog w) A (.call (.ref aPop) args) R s := by
  have main : ∀ (t : Tok), (∀ fd, fdOf w.params aPop = some fd → BindsTo s fd args [("self", .ref x), ("i", .int lo t)]) → codeAny (model prog w) A (.call (.ref aPop) args) R s := by
    intro t hb
    refine enterM (binds := [("self", .ref x), ("i", .int lo t)]) B hroom rfl rfl rfl (hb _ rfl) (fun h₀ hn k B₀ => ?_) (by decide) ?_
    · have I₀ := I.keeps k
      have hxlt : x < s.heap.objs.size := let ⟨n, e⟩ := I.obj; Heap.lt_size e
      have hxL : x ≠ s.heap.objs.size := Nat.ne_of_lt hxlt
      -- popped = self[i:]
      refine _root_.PySem.wpAt_of_wpAny (wpAny_execs_cons (wpAny_Assign_Name ?_))
      refine Subscript_ (name_at hn rfl (wpAny_Slice (evalPart_some_step (name_at hn rfl (evalPart_none_step (evalPart_none_step ?_))))))
      dsimp only
      generalize hh1 : h₀.push { cls := .type "slice", data := .fields #[.int lo t, .none, .none] } = h1
      have k1 : Keep h₀ h1 := fun b o e => hh1 ▸ Heap.get?_push_of_some _ e
      have I1 := I₀.keeps k1
      have B1 := B₀.keeps k1
      have sl1 : h1.IsSliceOf h₀.objs.size (.int lo t) .none .none := hh1 ▸ Heap.IsSliceOf.new ..
      refine I1.subTail' B1.K (I1.getSlice B1.K sl1 (.int lo t) .none .none (by simp) hsz ?_) ⟨_, by with_unfolding_all rfl⟩
      dsimp only
      generalize hh2 : h1.push { cls := .type "list", data := .seq (slicePick xs (some lo) none none) } = h2
      have k2 : Keep h1 h2 := fun b o e => hh2 ▸ Heap.get?_push_of_some _ e
      have hp2 : h2.get? h1.objs.size = some (lObj (slicePick xs (some lo) none none).toList 0) := hh2 ▸ Heap.get?_push_size _ rfl
      have hn2 := (hn.keeps k1).keeps k2
      refine wpAny_storeName_local rfl hn2 (fun h3 hn3 hs3 => ?_) rfl
      have hLp : h1.objs.size ≠ s.heap.objs.size := Nat.ne_of_gt (Nat.lt_of_lt_of_le hn.lt (by rw [← hh1, Heap.size_push]; exact Nat.le_succ _))
      have hp3 : h3.get? h1.objs.size = some (lObj (slicePick xs (some lo) none none).toList 0) := (hs3.2 _ hLp).trans hp2
      have I3 := (I1.keeps k2).same hs3 hxL
      have hs3' : Keep s.heap h3 := fun b o e => (hs3.2 b (Nat.ne_of_lt (Heap.lt_size e))).trans (k2 b o (k1 b o (k b o e)))
      have B3 := B.keeps hs3'
      -- self[i:] = []
      refine wpAny_execs_cons (wpAny_Assign_Subscript (wpAny_List_spliced (spliced_nil ⟨by rw [sizeLine_eq]; exact Nat.le_of_ble_eq_true rfl, ?_⟩)))
      dsimp only
      generalize hh4 : h3.push { cls := .type "list", data := .seq ([] : List Value).toArray } = h4
      have k4 : Keep h3 h4 := fun b o e => hh4 ▸ Heap.get?_push_of_some _ e
      have hb4 : h4.IsList h3.objs.size #[] := hh4 ▸ ⟨_, Heap.get?_push_size _ rfl, rfl, 0, rfl⟩
      have hn4 := hn3.keeps k4
      refine name_at hn4 rfl (wpAny_Slice (evalPart_some_step (name_at hn4 rfl (evalPart_none_step (evalPart_none_step ?_)))))
      dsimp only
      generalize hh5 : h4.push { cls := .type "slice", data := .fields #[.int lo t, .none, .none] } = h5
      have k5 : Keep h4 h5 := fun b o e => hh5 ▸ Heap.get?_push_of_some _ e
      have sl5 : h5.IsSliceOf h4.objs.size (.int lo t) .none .none := hh5 ▸ Heap.IsSliceOf.new ..
      have I5 := (I3.keeps k4).keeps k5
      have B5 := (B3.keeps k4).keeps k5
      have hbx : h3.objs.size ≠ x := Nat.ne_of_gt (let ⟨n, e⟩ := I3.obj; Heap.lt_size e)
      refine I5.cutFrom (lo := some lo) B5.K sl5 (.int lo t) .none .none (let ⟨o, ho, r⟩ := hb4; ⟨o, k5 _ _ ho, r⟩) hbx hsz fun h6 I6 hs6 => ?_
      have hn6 := (hn4.keeps k5).sameBut hs6 (Ne.symm hxL)
      refine wpAny_execs_cons (wpAny_Return_some (name_at hn6 rfl ?_))
      refine h h6 _ h1.objs.size (((KeepBut.of hs3').trans (KeepBut.of fun b o e => k5 b o (k4 b o e))).trans (KeepBut.same hs6)) (none_of_fresh (Nat.le_trans (Nat.le_of_lt hn.lt) (by rw [← hh1, Heap.size_push]; exact Nat.le_succ _))) ?_ I6
      have hpx : h1.objs.size ≠ x := Nat.ne_of_gt (let ⟨n, e⟩ := I1.obj; Heap.lt_size e)
      exact (hs6.2 _ hpx).trans (k5 _ _ (k4 _ _ hp3))
    · intro y hy
      simp only [List.mem_cons, List.not_mem_nil, or_false] at hy
      rcases hy with rfl | rfl <;> rfl
  have e2 : some _ = fdOf w.params aPop := rfl
  rcases ha with rfl | ⟨rfl, rfl⟩
  · refine main t fun fd e => ?_
    have e3 := Option.some.inj (e2.trans e)
    subst e3
    exact kp_binds B.K fun S => rfl
  · refine main 243 fun fd e => ?_
    have e3 := Option.some.inj (e2.trans e)
    subst e3
    exact kp_binds B.K fun S => rfl
end
end Mine
end
/-! part E6 -/
section
open PySem PySem.Calls PySem.Spec PyProof.Rows PySem.W PySem.SeqAt
open Sem (wp)
set_option Elab.async false
set_option linter.unusedVariables false
set_option maxRecDepth 100000
set_option maxHeartbeats 1000000
namespace Mine
/-! ## part_count, __init__ -/
structure PgOk (prog : Program) : Prop where
  file : ((prog.main.file : Str) == ("/claim/cut.py" : Str)) = true
  top : (prog.main.scope.names.lookup ("super" : Str)).isSome = false
theorem acc_at107 (P : Params) : CA P = 107 := rfl
theorem acc_mroC (P : Params) : mroIn (hd.heap_1 P) 107 (.ref 107) = some true := rfl
theorem acc_cls107 (P : Params) : ∃ o cd, (hd.heap_1 P).lookup 107 = some o ∧ o.data = .cls cd ∧ cd.mro = [.ref 107, .type "list", .type "object"] := ⟨_, _, rfl, rfl, rfl⟩
theorem acc_cell (P : Params) : ∃ o, (hd.heap_1 P).lookup 32 = some o ∧ o.data = .cell (some (.ref 107)) := ⟨_, rfl, rfl⟩
section
variable {prog : Program} {w : World} {A : Around} {E : Value → Shared → Prop} {s : Shared} {mg mb : Str → Option Value}
theorem acc_node {body : List Stmt} {fd : FuncData} {L f cda : Addr} {p0 p1 : Pos} {attr : Str} {whole : Sem Value} {vs : Array Value} {tf : Tok} {oc ccl : Value} {od cdd : Option Addr} {osl ccs : Array (Option Value)} {x d : Addr} {xs : Array Value} {m : Str → Option Value} {Q : Value → Shared → Prop} {ar : Arg}
    (pg : PgOk prog) (B : Base w s.heap mg mb) (I : IsAcc w.params s.heap x xs d) (hn : s.heap.Ns L m) (hx : m "self" = some (.ref x))
    (hf : (hd.heap_1 w.params).lookup f = some ⟨oc, od, .func fd, osl⟩) (hp : (fd.params.posonlyargs ++ fd.params.args).head? = some ar) (har : ar.arg = "self") (hcl : fd.closure = [(("__class__" : Str), 32)]) (hcd : fd.code = .ref cda)
    (hcode : (hd.heap_1 w.params).lookup cda = some ⟨ccl, cdd, .fields vs, ccs⟩) (hvs : vs[2]? = some (.str "/claim/cut.py" tf)) (hgl : fd.globals = mainGlobals) (hbu : fd.builtins = builtinsNs)
    (hat : (attr == ("__class__" : Str)) = false) (hks : fd.scope.names.lookup ("super" : Str) = some .globalImplicit) (hkc : fd.scope.names.lookup ("__class__" : Str) = some .free) (hka : fd.scope.names.lookup ("self" : Str) = some .local) (hk : fd.scope.kind = .function)
    (h : ∀ h', Keep s.heap h' → h'.get? s.heap.objs.size = some (ks_superObj (CA w.params) x (CA w.params)) → Q (.ref s.heap.objs.size) { s with heap := h' }) :
    _root_.PySem.wpAt (model prog w) A (.func body (callEnv fd L f)) (attributeBase (.Call (.Name "super" p0) [] [] p1) attr (callEnv fd L f) whole) Q E s := by
  obtain ⟨oD, cdD, hD1, hD2, hmro⟩ := acc_cls107 w.params
  have X := B.K
  have hD1' := X _ _ hD1
  obtain ⟨oc32, h32, h32d⟩ := acc_cell w.params
  have hfr : (callEnv fd L f).func = some f := by unfold callEnv newEnv; rfl
  obtain ⟨hh, g, d', t, os⟩ := s
  refine ks_wpAt_super_base (env := callEnv fd L f) (ar := ar) hks hkc hat hfr (X _ _ hf) rfl hp hcd (X _ _ hcode) rfl hvs pg.file pg.top ?_
  have hG : hh.Ns (callEnv fd L f).globals mg := by show hh.Ns fd.globals mg; rw [hgl]; exact B.gl.gl
  have hBu : hh.Ns (callEnv fd L f).builtins mb := by show hh.Ns fd.builtins mb; rw [hbu]; exact B.gl.bu
  refine ks_loadName_global hk hks (loadGlobal_builtin hG (mg_none_of X B.gl.gl (acc_superno _)) hBu ((B.gl.boot _ (by decide)).trans (by rfl)) ⟨rfl, ?_⟩)
  refine wpAny_loadName_free hk hkc (c := 32) (v := .ref 107) (by show fd.closure.lookup _ = _; rw [hcl]; rfl) ⟨_, X _ _ h32, h32d⟩ ?_
  rw [har]
  refine wpAny_loadName_local hk hka hn hx ?_
  refine ks_wpAny_isType_cls hD1' hD2 ⟨rfl, ?_⟩
  obtain ⟨n, hxo⟩ := I.obj
  refine ks_wpAny_call_super (C := 107) hD1' hD2 hxo rfl (fun c e => by cases e) (looks_mroIn X (acc_mroC _)) (fun h' e k => h h' k e)

theorem acc_dropped (P : Params) : (([.ref (CA P), .type "list", .type "object"] : List Value).dropWhile (· != .ref (CA P))).drop 1 = [.type "list", .type "object"] := rfl
theorem acc_ne {h : Heap} {x d : Addr} {xs : Array Value} (B : Base w h mg mb) (I : IsAcc w.params h x xs d) : x ≠ CA w.params := by
  rintro rfl
  obtain ⟨o, cd, h1, h2, _⟩ := acc_cls107 w.params
  obtain ⟨n, e⟩ := I.obj
  have := B.K _ _ h1
  rw [show (107 : Addr) = CA w.params from rfl] at this
  rw [e] at this
  cases this
  cases h2
theorem looks_mroC {h : Heap} (X : (hd.heap_1 w.params).In h) : Looks (model prog w) h (mroOf (.ref (CA w.params))) [.ref (CA w.params), .type "list", .type "object"] := by
  obtain ⟨cd, h1, h2⟩ := acc_cls w.params
  rw [← h2]
  exact (looks_clsIn X h1).andThen .now
theorem code_count {x d : Addr} {xs : Array Value} {R : Result → Shared → Prop} (pg : PgOk prog) (B : Base w s.heap mg mb) (I : IsAcc w.params s.heap x xs d) (hroom : A.depth < recursionLimit)
    (h : ∀ h' tk t, Keep s.heap h' → R (.ok (.ret (.int xs.size t))) { s with heap := h', toks := tk }) :
    codeAny (model prog w) A (.call (.ref aCount) ⟨[.ref x], []⟩) R s := by
  refine enterM (binds := [("self", .ref x)]) B hroom rfl rfl rfl (BindsTo.of_eq rfl) (fun h₀ hn k B₀ => ?_) (by decide) ?_
  · have I₀ := I.keeps k
    refine ks_wpAt_execs_cons (ks_wpAt_Return_some (ks_wpAt_MethodCall (acc_node pg B₀ I₀ hn rfl rfl rfl rfl rfl rfl rfl rfl rfl rfl rfl rfl rfl rfl rfl fun h' k' hso => ?_)))
    have B' := B₀.keeps k'
    have I' := I₀.keeps k'
    refine getMethod_superB (l₀ := [.ref (CA w.params), .type "list", .type "object"]) hso (looks_opaque B'.K (acc_opaque _)) (looks_mroC B'.K) (acc_dropped _) B'.K (acc_superlen _) ty_len (I'.inst B'.K) ln_cut (acc_ne B₀ I₀) (by decide) ?_
    dsimp only
    have I2 := I'.keeps (h' := h'.push (mwObj "list.__len__" x)) fun b o e => Heap.get?_push_of_some _ e
    obtain ⟨n, hx⟩ := id I2.obj
    refine callWith_mw (id := "list.__len__") (b := Builtin.«list.__len__») (Heap.get?_push_size _ rfl) (by decide +kernel) (by unfold argsOk; kernel_rfl) (by decide +kernel) (entryFor_of_tree (by kernel_rfl)) ?_
    show wpAny _ _ (seqSize x >>= _) _ _ _
    unfold seqSize
    refine wpAny_bind (wpAny_bind (wpAny_loadPart hx (wpAny_pure ?_)))
    refine wpAny_bind (wpAny_mkInt (wpAny_pure ⟨_, rfl, h _ _ _ fun b o e => Heap.get?_push_of_some _ (k' b o (k b o e))⟩))
  · intro y hy
    simp only [List.mem_cons, List.not_mem_nil, or_false] at hy
    rcases hy with rfl
    rfl

theorem acc_setattr (P : Params) : findIn (hd.heap_1 P) (.ref (CA P)) "__setattr__" = some (some (.builtin "object.__setattr__")) := rfl
theorem acc_size0 (P : Params) : findIn (hd.heap_1 P) (.ref (CA P)) "_initial_size" = some none := rfl
theorem acc_hasDict (P : Params) : (clsIn (hd.heap_1 P) (CA P)).any (·.hasDict) = true := rfl
theorem acc_subobj (P : Params) : mroIn (hd.heap_1 P) (CA P) (.type "object") = some true := rfl
theorem refuse_list (self : Value) (C : Addr) : refuseLoop self "__setattr__" [.ref C, .type "list", .type "object"] = pure () := by
  rw [refuseLoop_ref]; kernel_rfl
noncomputable def mInit (t : Tok) (v : Value) : Str → Option Value := fun n => if n = "_initial_size" then some v else none
/-- self._initial_size = v, the dict empty before -/
theorem IsAcc.setSize {x d : Addr} {xs : Array Value} {v : Value} {Q : Unit → Shared → Prop} (B : Base w s.heap mg mb) (I : IsAcc w.params s.heap x xs d) (hd0 : s.heap.get? d = some emptyDict)
    (h : ∀ h' tk od', h'.get? d = some od' → (∀ h2 : Heap, h2.get? d = some od' → h2.Ns d (fun n => if n = "_initial_size" then some v else none)) → Heap.SameBut d s.heap h' → Q () { s with heap := h', toks := tk }) :
    wpAny (model prog w) A (setAttr (.ref x) "_initial_size" v) Q E s := by
  have X := B.K
  obtain ⟨n, hxo⟩ := id I.obj
  have IA : InstAt s.heap x _ (CA w.params) (some emptyDict) := ⟨hxo, rfl, rfl, hd0⟩
  refine set_plain X IA (acc_setattr _) ?_
  have SF := PySem.F.store_object
  have sub : Looks (model prog w) s.heap (isInstance (.ref x) (.type "object")) true := IA.type.andThen (looks_mroIn X (acc_subobj _))
  have ty : Looks (model prog w) s.heap (typeOf (.ref x)) (.ref (CA w.params)) := IA.type
  obtain ⟨hh, g, dr, t, os⟩ := s
  refine codeAny_call_builtin SF.slot.plain SF.entry (@check_slot (model prog w) _ _ _ "object.__setattr__" "object" "__setattr__" (.ref x) [.str "_initial_size" t, v] [] _ SF.kind SF.split sub (SF.args (.ref x) (.str "_initial_size" t) v) ?_)
  rw [osa_eq, refuse_eq]
  have hm : Looks (model prog w) hh (mroOf (.ref (CA w.params))) [.ref (CA w.params), .type "list", .type "object"] := looks_mroC X
  refine wpAny_bind (wpAny_bind (ty.at (wpAny_bind (hm.at ?_))))
  rw [refuse_list]
  refine wpAny_pure (wpAny_bind (ty.at (wpAny_bind ((looks_findIn X (acc_size0 _)).at ?_))))
  refine wpAny_bind (wpAny_pure ?_)
  dsimp only
  obtain ⟨cd, hc, hd'⟩ := any_some (acc_hasDict w.params)
  refine wpAny_bind (wpAny_pure (wpAny_bind (wpAny_bind (wpAny_loadPart hxo (wpAny_bind ((looks_clsIn X hc).at ?_))))))
  rw [hd']
  refine wpAny_pure (a := some d) (wpAny_bind (wpAny_pure (wpAny_bind ?_)))
  unfold nsSet
  refine wpAny_bind (wpAny_bind (wpAny_askSetting (wpAny_pure (wpAny_bind (wpAny_mkText (wpAny_bind (wpAny_loadPart hd0 ?_)))))))
  dsimp only
  rw [aRefKeyMayBeTheName_at, show ((!(#[] : Array DictEntry).any (·.key.isStr "_initial_size")) && (#[] : Array DictEntry).any (·.refKey)) = false by simp]
  refine wpAny_updatePart hd0 ?_
  have D' := Heap.get?_update_self (h := hh) (Obj.putName "_initial_size" (PyData.keyHash w.params "_initial_size") (.str "_initial_size" (t + 1)) v) hd0 rfl
  refine wpAny_bind (wpAny_lookBehind D' (pastItsLine_dict (by rw [sizeLine_eq]; exact Nat.le_of_ble_eq_true rfl)) ?_)
  refine wpAny_pure (h _ _ _ D' (fun h2 e2 => ?_) (Heap.SameBut.update ..))
  refine ⟨_, _, _, e2, rfl, ?_, fun name => ?_⟩
  · intro e he
    have he' := Array.mem_singleton.mp he
    rw [he']
    exact ⟨_, _, rfl⟩
  · show nsFind #[⟨_, .str "_initial_size" (t + 1), v⟩] name = (if name = "_initial_size" then some v else none)
    unfold nsFind findBy
    by_cases hq : name = "_initial_size"
    · subst hq
      rw [if_pos rfl]
      simp [Value.isStr]
    · rw [if_neg hq]
      have : (Value.str "_initial_size" (t + 1)).isStr name = false := by
        cases z : (Value.str "_initial_size" (t + 1)).isStr name with
        | false => rfl
        | true => exact absurd (show "_initial_size" = name from by simpa [Value.isStr] using z) (fun e => hq e.symm)
      simp [this]

theorem ks_wpAt_execs_nil' {env : Env} {c : Code} {Q : Flow → Shared → Prop} (h : Q .next s) : _root_.PySem.wpAt (model prog w) A c (execs [] env) Q E s := _root_.PySem.wpAt_of_wpAny (wpAny_execs_nil h)
/-- self._initial_size = initial_size; super().__init__() -/
theorem code_init {x d : Addr} {R : Result → Shared → Prop} (pg : PgOk prog) (B : Base w s.heap mg mb) (I : IsAcc w.params s.heap x #[] d) (hd0 : s.heap.get? d = some emptyDict) (hdx : d ≠ x) (hroom : A.depth < recursionLimit)
    (hB : ∀ h', (∀ b o, b ≠ x → b ≠ d → s.heap.get? b = some o → h'.get? b = some o) → Base w h' mg mb)
    (h : ∀ h' tk od', (∀ b o, b ≠ x → b ≠ d → s.heap.get? b = some o → h'.get? b = some o) → h'.get? d = some od' → (∀ h2 : Heap, h2.get? d = some od' → h2.Ns d (fun n => if n = "_initial_size" then some (.int 0 224) else none)) → IsAcc w.params h' x #[] d → R (.ok (.ret .none)) { s with heap := h', toks := tk }) :
    codeAny (model prog w) A (.call (.ref aInit) ⟨[.ref x], []⟩) R s := by
  refine enterM (binds := [("self", .ref x), ("initial_size", .int 0 224)]) B hroom rfl rfl rfl (kp_binds B.K fun S => rfl) (fun h₀ hn k B₀ => ?_) (by decide) ?_
  · have I₀ := I.keeps k
    have hdL : d ≠ s.heap.objs.size := Nat.ne_of_lt (Heap.lt_size hd0)
    refine ks_wpAt_execs_cons (ks_wpAt_Assign_Attr (_root_.PySem.wpAt_of_wpAny (name_at hn rfl (name_at hn rfl (I₀.setSize B₀ (k _ _ hd0) fun h1 tk1 od' hod hns hs1 => ?_)))))
    have hn1 := hn.sameBut hs1 (Ne.symm hdL)
    have I1 := I₀.same hs1 (Ne.symm hdx)
    have B1 : Base w h1 mg mb := hB h1 fun b o _ hb e => (hs1.2 b hb).trans (k b o e)
    refine ks_wpAt_execs_cons (ks_wpAt_Expr_any (ks_wpAt_MethodCall (acc_node pg B1 I1 hn1 rfl rfl rfl rfl rfl rfl rfl rfl rfl rfl rfl rfl rfl rfl rfl fun h' k' hso => ?_)))
    have B' := B1.keeps k'
    have I' := I1.keeps k'
    refine getMethod_superB (l₀ := [.ref (CA w.params), .type "list", .type "object"]) hso (looks_opaque B'.K (acc_opaque _)) (looks_mroC B'.K) (acc_dropped _) B'.K (acc_superinit _) ty_init (I'.inst B'.K) li_cut (acc_ne B₀ I₀) (by decide) ?_
    dsimp only
    have I2 := I'.keeps (h' := h'.push (mwObj "list.__init__" x)) fun b o e => Heap.get?_push_of_some _ e
    obtain ⟨n, hx⟩ := id I2.obj
    refine callWith_mw (id := "list.__init__") (b := Builtin.«list.__init__») (Heap.get?_push_size _ rfl) (by decide +kernel) (by unfold argsOk; kernel_rfl) (by decide +kernel) (entryFor_of_tree (by kernel_rfl)) ?_
    show wpAny _ _ (Builtin.List.listItems (.ref x) >>= _) _ _ _
    refine wpAny_bind (listItems_at hx rfl ?_)
    refine wpAny_bind (listUpdate_at hx rfl ?_ (by simp) (by simp))
    refine wpAny_bind (wpAny_letGo (wpAny_pure ⟨.none, rfl, ?_⟩))
    refine ks_wpAt_execs_nil' ?_
    have hs2 := Heap.SameBut.update (h := h'.push (mwObj "list.__init__" x)) x (Obj.mapSeq fun _ => #[])
    have hup : ∀ b o, h1.get? b = some o → (h'.push (mwObj "list.__init__" x)).get? b = some o := fun b o e => Heap.get?_push_of_some _ (k' b o e)
    refine h _ _ od' (fun b o hb hb' e => (hs2.2 b hb).trans (hup b o ((hs1.2 b hb').trans (k b o e)))) ((hs2.2 d hdx).trans (hup _ _ hod)) hns ?_
    exact acc_update I2 _
  · intro y hy
    simp only [List.mem_cons, List.not_mem_nil, or_false] at hy
    rcases hy with rfl | rfl <;> rfl
end
end Mine
end
/-! part E7 -/
section
open PySem PySem.Calls PySem.Spec PyProof.Rows PySem.W PySem.SeqAt
open Sem (wp)
set_option Elab.async false
set_option linter.unusedVariables false
set_option maxRecDepth 100000
set_option maxHeartbeats 1000000
namespace Mine
/-! ## the object as an own object of a frame -/
noncomputable def DictOk (d : Addr) (od : Obj) : Prop := ∀ h2 : Heap, h2.get? d = some od → h2.Ns d (fun n => if n = "_initial_size" then some (.int 0 224) else none)
noncomputable def accD (P : Params) (Ps : List DP) : OD where
  rep K a o := ∃ d od vs n, o = { cls := .ref (CA P), dict := some d, data := .seq vs.toArray n, slots := #[] } ∧ Al K Ps vs ∧ K d = some od ∧ DictOk d od
  mono := by
    intro K K' a o hk h
    obtain ⟨d, od, vs, n, e, al, h1, h2⟩ := h
    exact ⟨d, od, vs, n, e, al.mono hk, hk _ _ h1, h2⟩
  ncell := by
    intro K a o v h
    obtain ⟨d, od, vs, n, e, _⟩ := h
    rw [e]; intro q; cases q
structure ExtO (x : Addr) (s s' : Shared) (K K' : Kn) : Prop where
  rest : Rest s s'
  keep : KeepBut x s.heap s'.heap
  le : Kle K K'
  old : ∀ a o, s.heap.get? a = some o → K' a = K a
  kin : Kle K' (hk s'.heap)
section
variable {prog : Program} {w : World} {A : Around} {E : Value → Shared → Prop} {s s' : Shared} {mg mb : Str → Option Value} {F : Fm} {K K' X : Kn} {ρ ρ' : Ro prog w} {Φ : Out → Ro prog w → Prop}
theorem Sat.extO {y : Str} {x : Addr} {R R' : V prog w} (S : Sat F K X ρ s) (hy : ρ y = some R) (ho : R.own = true) (H : Holds F.env s.heap y (.ref x)) (e : ExtO x s s' K K') (hr : R'.rd K' (hk s'.heap) (.ref x)) (hoR : R'.own = true) : Sat F K' X (upd ρ y R') s' := by
  obtain ⟨u, g1, g2, g3⟩ := S.vars y R hy
  have hu := g1.inj H
  subst hu
  obtain ⟨a, ea, hka, hxa, hla⟩ := g3 ho
  cases ea
  obtain ⟨b, ob, hb, hG⟩ := V.own_ref g2 ho
  cases hb
  obtain ⟨b, ob', hb, hG'⟩ := V.own_ref hr hoR
  cases hb
  obtain ⟨m0, hn0⟩ := S.ns
  have hn1 : s'.heap.Ns F.env.locals m0 := hn0.at' fun o q => e.keep _ o (Ne.symm hla) q
  have cne : ∀ {c : Addr} {v : Option Value}, s.heap.IsCell c v → c ≠ x := fun {c v} hv q => by
    subst q
    obtain ⟨o, ho', hd⟩ := hv
    exact V.own_not_cell g2 ho (by exact ho') hd
  have hh : ∀ {z : Str} {u : Value}, Holds F.env s.heap z u → Holds F.env s'.heap z u := by
    rintro z u (⟨q, m, hn, hm⟩ | ⟨q, c, hc, hv⟩)
    · exact .inl ⟨q, m, hn.at' fun o q => e.keep _ o (Ne.symm hla) q, hm⟩
    · refine .inr ⟨q, c, hc, ?_⟩
      have hne := cne hv
      obtain ⟨o, ho', hd⟩ := hv
      exact ⟨o, e.keep c o hne ho', hd⟩
  have hk'x : K' x = none := (e.old _ _ hG).trans hka
  refine ⟨S.gk.trans e.le, e.kin, fun a o h => e.keep a o (by rintro rfl; rw [hxa] at h; cases h) (S.xin a o h), ⟨_, hn1⟩, ?_, S.xl, fun z hz => ?_, S.inj, fun z c hc => ?_, fun z V hz => ?_, fun z z' a Vx Vy hzz hz hz' ox oy H1 H2 => ?_⟩
  · obtain ⟨o, _, _, ho', _⟩ := hn0
    rw [e.old _ _ ho']; exact S.kl
  · obtain ⟨c, v, h1, h2, h3, h4, h5⟩ := S.cel z hz
    have hne := cne h3
    obtain ⟨o, ho', hd⟩ := h3
    exact ⟨c, v, h1, h2, ⟨o, e.keep c o hne ho', hd⟩, by rw [e.old _ _ ho']; exact h4, h5⟩
  · obtain ⟨o, ho'⟩ := S.live z c hc
    by_cases q : c = x
    · subst q; exact ⟨_, hG'⟩
    · exact ⟨o, e.keep c o q ho'⟩
  · by_cases hzy : z = y
    · subst hzy
      rw [upd_self] at hz; cases hz
      exact ⟨_, hh H, hr, fun _ => ⟨x, rfl, hk'x, hxa, hla⟩⟩
    · rw [upd_ne _ _ hzy] at hz
      obtain ⟨u, h1, h2, h3⟩ := S.vars z V hz
      have hux : V.own = true → u ≠ .ref x := fun oV q => by
        subst q
        exact S.sep z y x V R hzy hz hy oV ho h1 H
      refine ⟨u, hh h1, ?_, fun oV => ?_⟩
      · cases V with
        | frz P => exact P.mono e.le h2
        | lst Ps => obtain ⟨a, vs, n, rfl, q1, q2⟩ := h2; exact ⟨a, vs, n, rfl, e.keep a _ (fun q => hux rfl (by rw [q])) q1, q2.mono e.le⟩
        | sdc kvs => obtain ⟨a, o, rfl, q1, q2, q3⟩ := h2; exact ⟨a, o, rfl, e.keep a _ (fun q => hux rfl (by rw [q])) q1, q2, q3.mono e.le⟩
        | idc kvs => obtain ⟨a, o, rfl, q1, q2, q3⟩ := h2; exact ⟨a, o, rfl, e.keep a _ (fun q => hux rfl (by rw [q])) q1, q2, q3.mono e.le⟩
        | obj D => obtain ⟨a, o, rfl, q1, q2, q3⟩ := h2; exact ⟨a, o, rfl, e.keep a _ (fun q => hux rfl (by rw [q])) q1, q2, D.mono e.le q3⟩
      · obtain ⟨a, rfl, h4, h5, h6⟩ := h3 oV
        obtain ⟨b, o, hb, hG2⟩ := V.own_ref h2 oV
        cases hb
        exact ⟨a, rfl, by rw [e.old _ _ hG2]; exact h4, h5, h6⟩
  · have back : ∀ {z : Str} {V : V prog w} {a : Addr}, z ≠ y → ρ z = some V → Holds F.env s'.heap z (.ref a) → Holds F.env s.heap z (.ref a) := fun {z V a} hne hz H1 => by
      obtain ⟨u, h1, _⟩ := S.vars z V hz
      have e1 := (hh h1).inj H1
      subst e1; exact h1
    by_cases hzy : z = y
    · subst hzy
      have hz'y : z' ≠ z := fun q => hzz q.symm
      rw [upd_ne _ _ hz'y] at hz'
      have e1 := (hh H).inj H1
      cases e1
      exact S.sep z' z x Vy R hz'y hz' hy oy ho (back hz'y hz' H2) H
    · by_cases hz'y : z' = y
      · subst hz'y
        rw [upd_ne _ _ hzy] at hz
        have e1 := (hh H).inj H2
        cases e1
        exact S.sep z z' x Vx R hzy hz hy ox ho (back hzy hz H1) H
      · rw [upd_ne _ _ hzy] at hz
        rw [upd_ne _ _ hz'y] at hz'
        exact S.sep z z' a Vx Vy hzz hz hz' ox oy (back hzy hz H1) (back hz'y hz' H2)
theorem accD_is {Ps : List DP} {x : Addr} {o : Obj} {h : Heap} (hkin : Kle K (hk h)) (hx : h.get? x = some o) (hr : (accD w.params Ps).rep K x o) : ∃ d od vs, IsAcc w.params h x vs.toArray d ∧ Al K Ps vs ∧ K d = some od ∧ DictOk d od ∧ h.Ns d (fun n => if n = "_initial_size" then some (.int 0 224) else none) := by
  obtain ⟨d, od, vs, n, rfl, al, h1, h2⟩ := hr
  exact ⟨d, od, vs, ⟨n, hx⟩, al, h1, h2, h2 _ (hkin _ _ h1)⟩
theorem accD_of {Ps : List DP} {x d : Addr} {od : Obj} {vs : List Value} {h : Heap} (hsm : (x == sysModules) = false) (I : IsAcc w.params h x vs.toArray d) (al : Al K Ps vs) (h1 : K d = some od) (h2 : DictOk d od) : (V.obj (prog := prog) (w := w) (accD w.params Ps)).rd K (hk h) (.ref x) := by
  obtain ⟨n, e⟩ := I.obj
  exact ⟨x, _, rfl, e, hsm, d, od, vs, n, rfl, al, h1, h2⟩
/-- a new object becomes known -/
noncomputable def addK (K : Kn) (a : Addr) (o : Obj) : Kn := fun b => if b = a then some o else K b
theorem addK_le {a : Addr} {o : Obj} (h : K a = none) : Kle K (addK K a o) := fun b o' e => by
  show (if b = a then some o else K b) = _
  rw [if_neg]
  · exact e
  · rintro rfl; rw [h] at e; cases e
theorem addK_self {a : Addr} {o : Obj} : addK K a o a = some o := if_pos rfl
theorem addK_ne {a b : Addr} {o : Obj} (h : b ≠ a) : addK K a o b = K b := if_neg h
theorem addK_in {a : Addr} {o : Obj} {h : Heap} (hin : ∀ b o', b ≠ a → K b = some o' → h.get? b = some o') (ho : h.get? a = some o) : Kle (addK K a o) (hk h) := fun b o' e => by
  by_cases q : b = a
  · subst q; rw [addK_self] at e; cases e; exact ho
  · rw [addK_ne q] at e; exact hin b o' q e

/-- _Accumulator() -/
theorem code_make {R : Result → Shared → Prop} (pg : PgOk prog) (B : Base w s.heap mg mb) (hroom : A.depth + 1 < recursionLimit)
    (h : ∀ h' tk x d od, Keep s.heap h' → s.heap.get? x = none → s.heap.get? d = none → d ≠ x → h'.get? d = some od → DictOk d od → IsAcc w.params h' x #[] d → R (.ok (.ret (.ref x))) { s with heap := h', toks := tk }) :
    codeAny (model prog w) A (.call (.ref (CA w.params)) ⟨[], []⟩) R s := by
  obtain ⟨hh, g, dr, t, os⟩ := s
  refine make_L (makesL_of B.K (acc_makes _)) (looks_findIn B.K (mOf_init _)) (fun self => bind_fn B.K self rfl) ?_
  have k : Keep hh ((hh.push emptyDict).push (accObj (CA w.params) hh.objs.size)) := fun b o e => Heap.get?_push_of_some _ (Heap.get?_push_of_some _ e)
  have fx : hh.get? (hh.objs.size + 1) = none := none_of_fresh (s := ⟨hh, g, dr, t, os⟩) (Nat.le_succ _)
  have fd : hh.get? hh.objs.size = none := get_new hh
  have hdx : hh.objs.size ≠ hh.objs.size + 1 := Nat.ne_of_lt (Nat.lt_succ_self _)
  refine code_init (x := hh.objs.size + 1) (d := hh.objs.size) (s := ⟨(hh.push emptyDict).push (accObj (CA w.params) hh.objs.size), g, dr, t, os⟩) pg (B.keeps k) ⟨0, by heap_get⟩ (by heap_get) hdx hroom
    (fun h' hk' => B.keeps fun b o e => hk' b o (fun q => by subst q; rw [show (Shared.heap ⟨hh, g, dr, t, os⟩) = hh from rfl, fx] at e; cases e) (fun q => by subst q; rw [show (Shared.heap ⟨hh, g, dr, t, os⟩) = hh from rfl, fd] at e; cases e) (k b o e)) fun h' tk od' hk' hod hns I => ⟨rfl, ?_⟩
  exact h h' tk _ _ od' (fun b o e => hk' b o (fun q => by subst q; rw [show (Shared.heap ⟨hh, g, dr, t, os⟩) = hh from rfl, fx] at e; cases e) (fun q => by subst q; rw [show (Shared.heap ⟨hh, g, dr, t, os⟩) = hh from rfl, fd] at e; cases e) (k b o e)) fx fd hdx hod hns I
end
end Mine
end
/-! part E8 -/
section
open PySem PySem.Calls PySem.Spec PyProof.Rows PySem.W PySem.SeqAt
open Sem (wp)
set_option Elab.async false
set_option linter.unusedVariables false
set_option maxRecDepth 100000
set_option maxHeartbeats 1000000
namespace Mine
section
variable {prog : Program} {w : World} {A : Around} {E : Value → Shared → Prop} {s s' : Shared} {mg mb : Str → Option Value} {F : Fm} {K K' X : Kn} {ρ ρ' : Ro prog w} {Φ : Out → Ro prog w → Prop}
theorem fn_acc (P : Params) : ∃ o cd, (hd.heap_1 P).lookup (CA P) = some o ∧ o.data = .cls cd := ⟨_, _, rfl, rfl⟩
theorem callWith_acc {pos : Pos} {Q : Value → Shared → Prop} (X : (hd.heap_1 w.params).In s.heap) (h : wpAny (model prog w) A (call (.ref (CA w.params)) []) Q E s) :
    wpAny (model prog w) A (callWith pos (.ref (CA w.params)) [] [] []) Q E s := by
  obtain ⟨o, cd, h1, h2⟩ := fn_acc w.params
  unfold callWith
  refine wpAny_bind (wpAny_holding (PySem.evalArgs_none (wpAny_bind (wpAny_standAt ?_))))
  refine wpAny_bind (m := keeperOf (.ref (CA w.params))) ?_
  unfold keeperOf
  refine wpAny_bind (wpAny_load (X _ _ h1) ?_)
  rw [h2]
  dsimp only
  refine wpAny_bind ((looks_specialIn X (acc_call _)).here ?_)
  rw [if_pos (by decide)]
  refine wpAny_pure ?_
  exact wpAny_bind (wpAny_mono h (fun r s₂ hr => wpAny_bind (wpAny_holding (wpAny_point (wpAny_pure hr)))) fun _ _ x => x)
/-- _Accumulator() -/
theorem En.acc {n : Nat} {px pos : Pos} (pg : PgOk prog) (ok : Fok n F) (B : Base w F.g mg mb) (hv : mg "_Accumulator" = some (.ref (CA w.params))) (hroom : F.A.depth + 1 < recursionLimit)
    (hx : F.env.kindOf "_Accumulator" = some .globalImplicit := by rfl) : En F (.Call (.Name "_Accumulator" px) [] [] pos) ρ (.obj (accD w.params [])) := Wr.mk <| fun K X s Q E S k => by
  have Bs := B.keeps (hk_keeps S.gk S.kin)
  refine wpAny_Call_NameR (eval_glob ok B.gl S hx hv (callWith_acc Bs.K (wpAny_call (code_make pg Bs hroom fun h' tk x d od kp fx fd hdx hod hns I => ?_))) (by decide))
  have hKd : K d = none := kn_none S.kin fd
  have e1 : Ext s { s with heap := h', toks := tk } K (addK K d od) := ⟨⟨rfl, .refl _⟩, kp, addK_le hKd, fun a o q => addK_ne (fun z => by subst z; rw [fd] at q; cases q), addK_in (fun b o' _ q => kp _ _ (S.kin _ _ q)) hod⟩
  refine k _ _ x e1 (accD_of (not_mods ok S fx) I .nil addK_self hns) ?_ fx
  exact (addK_ne (Ne.symm hdx)).trans (kn_none S.kin fx)
/-- row.push(e1, e2) -/
theorem Ex.push {n : Nat} {y : Str} {e1 e2 : PySem.Expr} {px apos pos epos : Pos} {Ps : List DP} {P1 P2 : DP} (ok : Fok n F) (B : Base w F.g mg mb) (hroom : F.A.depth < recursionLimit) (hy : ρ y = some (.obj (accD w.params Ps))) (hsz : Ps.length ≤ 1000)
    (ha : Evl F ρ [e1, e2] [.frz P1, .frz P2]) (h : Φ .next (upd ρ y (.obj (accD w.params (Ps ++ [dTup [P1, P2]])))))
    (hbase : attributeBase (.Name y px) "push" F.env (eval (.Name y px) F.env) = eval (.Name y px) F.env := by rfl)
    {pl : Sem Bool} (he : eval (.Call (.Attribute (.Name y px) "push" apos) [e1, e2] [] pos) F.env = (do
      let ov ← attributeBase (.Name y px) "push" F.env (eval (.Name y px) F.env)
      standAt apos.atName
      let (f, first) ← holding [ov] (getMethod ov "push" pl)
      callWith pos f first (backTo pos (starEach [e1, e2] F.env)) []) := by rfl)
    (ht : backTo pos (starEach [e1, e2] F.env) = [e1, e2].map fun e => (false, eval e F.env) := by rfl)
    (hi : interactive F.env = false := by rfl) (hs : swapsWith (.Call (.Attribute (.Name y px) "push" apos) [e1, e2] [] pos) none epos.line F.env = pure false := by with_unfolding_all rfl)
    (hd : (y == ("__debug__" : Str)) = false := by decide) (hc : (y == ("__classdict__" : Str)) = false := by decide) :
    Ex F [.Expr (.Call (.Attribute (.Name y px) "push" apos) [e1, e2] [] pos) epos] ρ Φ := Ex.last fun K X s Q E S k => by
  refine wpAny_Expr (wpAny_MethodCall (load_own ok S hy (fun u H hu => ?_) hd hc) hbase he) hi hs
  obtain ⟨x, o, rfl, hxo, hsm, hrep⟩ := hu
  obtain ⟨d, od, vs, I, al, hKd, hns, hdn⟩ := accD_is S.kin hxo hrep
  have Bs := B.keeps (hk_keeps S.gk S.kin)
  refine I.method Bs.K (mOf_push _) rfl rfl hdn rfl ?_
  dsimp only
  refine callWith_function (evalArgs_of (by rw [ht]; exact ha.evs) (by rw [ht]; exact plain_trees) S fun K₁ s₁ us e₁ r => ⟨⟨Base.K (Bs.keeps e₁.keep) _ _ rfl, rfl⟩, ?_⟩)
  have S₁ := S.ext e₁
  have B₁ := Bs.keeps e₁.keep
  have al2 : Al K₁ [P1, P2] us := r.al (Ps := [P1, P2])
  cases al2 with
  | cons hu al3 =>
    cases al3 with
    | cons hv al4 =>
      cases al4
      rename_i u v
      have I₁ := I.keeps e₁.keep
      refine wpAny_call (code_push (xs := vs.toArray) B₁ I₁ (hdn.keeps e₁.keep) rfl (by rw [List.size_toArray, al.length]; exact hsz) hroom fun h' tk t m kb ft htt I' => ?_)
      have hKt : K₁ t = none := kn_none e₁.kin ft
      have hKx : K₁ x = none := by
        obtain ⟨u', h1, h2, h3⟩ := S.vars y _ hy
        have := H.inj h1
        obtain ⟨a, ea, h4, _⟩ := h3 rfl
        rw [← this] at ea
        cases ea
        exact (e₁.old _ _ hxo).trans h4
      have eo : ExtO x s₁ { s₁ with heap := h', toks := tk } K₁ (addK K₁ t (tObj [u, v] m)) := ⟨⟨rfl, .refl _⟩, kb, addK_le hKt, fun a o q => addK_ne (fun z => by subst z; rw [ft] at q; cases q),
        addK_in (fun b o' _ q => kb _ _ (fun z => by subst z; rw [hKx] at q; cases q) (e₁.kin _ _ q)) htt⟩
      have hle := eo.le
      have S₂ := S₁.extO hy rfl (H.keep e₁.keep) eo (R' := .obj (accD w.params (Ps ++ [dTup [P1, P2]]))) (accD_of (vs := vs ++ [.ref t]) hsm (by simpa using I') ((al.mono (e₁.le.trans hle)).append (Al.one ⟨t, [u, v], m, rfl, addK_self, .cons (P1.mono hle hu) (.cons (P2.mono hle hv) .nil)⟩)) (hle _ _ (e₁.le _ _ hKd)) hns) rfl
      exact k _ _ .next .next _ h rfl S₂ ((e₁.stp S.xin).trans ⟨eo.rest, hle, fun a o q => eo.old a o (S₁.xin a o q)⟩)
/-- row.part_count() -/
theorem Ez.count {n : Nat} {y : Str} {px apos pos : Pos} {Ps : List DP} (pg : PgOk prog) (ok : Fok n F) (B : Base w F.g mg mb) (hroom : F.A.depth < recursionLimit) (hy : ρ y = some (.obj (accD w.params Ps)))
    (hbase : attributeBase (.Name y px) "part_count" F.env (eval (.Name y px) F.env) = eval (.Name y px) F.env := by rfl)
    {pl : Sem Bool} (he : eval (.Call (.Attribute (.Name y px) "part_count" apos) [] [] pos) F.env = (do
      let ov ← attributeBase (.Name y px) "part_count" F.env (eval (.Name y px) F.env)
      standAt apos.atName
      let (f, first) ← holding [ov] (getMethod ov "part_count" pl)
      callWith pos f first (backTo pos (starEach [] F.env)) []) := by rfl)
    (hd : (y == ("__debug__" : Str)) = false := by decide) (hc : (y == ("__classdict__" : Str)) = false := by decide) :
    Ez F (.Call (.Attribute (.Name y px) "part_count" apos) [] [] pos) ρ (dInt Ps.length) := Wr.mk <| fun K X s Q E S k => by
  refine wpAny_MethodCall (load_own ok S hy (fun u H hu => ?_) hd hc) hbase he
  obtain ⟨x, o, rfl, hxo, hsm, hrep⟩ := hu
  obtain ⟨d, od, vs, I, al, hKd, hns, hdn⟩ := accD_is S.kin hxo hrep
  have Bs := B.keeps (hk_keeps S.gk S.kin)
  refine I.method Bs.K (mOf_count _) rfl rfl hdn rfl ?_
  dsimp only
  refine callWith_function (PySem.evalArgs_none ⟨⟨Bs.K _ _ rfl, rfl⟩, ?_⟩)
  refine wpAny_call (code_count pg Bs I hroom fun h' tk t kp => ?_)
  have e1 : Ext s { s with heap := h', toks := tk } K K := .grow S.kin kp
  exact k K _ _ e1 ⟨t, by rw [List.size_toArray, al.length]⟩
end
end Mine
end
/-! part E9 -/
section
open PySem PySem.Calls PySem.Spec PyProof.Rows PySem.W PySem.SeqAt
open Sem (wp)
set_option Elab.async false
set_option linter.unusedVariables false
set_option maxRecDepth 100000
set_option maxHeartbeats 1000000
namespace Mine
section
variable {prog : Program} {w : World} {A : Around} {E : Value → Shared → Prop} {s s' : Shared} {mg mb : Str → Option Value} {F : Fm} {K K' X : Kn} {ρ ρ' : Ro prog w} {Φ : Out → Ro prog w → Prop}
/-- for a, b in a list of pairs -/
theorem Ex.forPairs {n : Nat} {xa xb : Str} {pa pb pt pos : Pos} {x1 : Nat} {iter : PySem.Expr} {body : List Stmt} {prs : List (DP × DP)} (ok : Fok n F) (hka : Own1 F xa) (hkb : Own1 F xb) (hi : Ez F iter ρ (dList (prs.map fun p => dTup [p.1, p.2])))
    (Inv : Nat → Ro prog w → Prop) (h0 : Inv 0 ρ)
    (turn : ∀ i p ρ, prs[i]? = some p → Inv i ρ → Ex F body (upd (upd ρ xa (.frz p.1)) xb (.frz p.2)) (Turn (Inv (i + 1)) Φ))
    (done : ∀ ρ, Inv prs.length ρ → Φ .next ρ)
    (hs : ∀ x, foldedSetIterable iter F.env x = pure x := by intro _; with_unfolding_all rfl) (hm : F.A.mark none = F.A := by rfl) :
    Ex F [.For (.Tuple [.Name xa pa, .Name xb pb] x1 pt) iter body [] pos] ρ Φ := Ex.last fun K X s Q E S k => by
  refine wpAny_For (hi.out K X s _ E S fun K₁ s₁ v e₁ hv => ?_) hs
  have S₁ := S.ext e₁
  obtain ⟨a, vs, nn, rfl, ho, al⟩ := hv
  have hl : s₁.heap.IsList a vs.toArray := ⟨_, S₁.kin _ _ ho, rfl, nn, rfl⟩
  have hne : a ≠ s₁.heap.objs.size := Nat.ne_of_lt (Heap.lt_size (S₁.kin _ _ ho))
  refine wpAny_pyIter_list hl ?_
  have W := Walks.list (prog := prog) (w := w) ok.rm.hh s₁.heap.objs.size a hne vs.toArray
  have hlen : vs.length = prs.length := by rw [al.length, List.length_map]
  let I : Addr := s₁.heap.objs.size
  have hI : s₁.heap.get? I = none := get_new _
  generalize hh2 : s₁.heap.push _ = hp2
  have kp2 : Keep s₁.heap hp2 := fun b o q => hh2 ▸ Heap.get?_push_of_some _ q
  have hit0 : hp2.IsListIter I a 0 := hh2 ▸ ⟨_, Heap.get?_push_size _ rfl, rfl, rfl⟩
  have e₂ : Ext s₁ { s₁ with heap := hp2 } K₁ K₁ := .grow (tk := s₁.toks) S₁.kin kp2
  have off₂ : Off F K₁ X ρ { s₁ with heap := hp2 } I := (Off.fresh S₁ hI).ext S₁ hI e₂ (Off.fresh S₁ hI).k
  have S₂ := S₁.ext e₂
  have st₂ : Stp s { s₁ with heap := hp2 } K K₁ X := (e₁.trans e₂).stp S.xin
  have hl2 : ∀ {K' : Kn} {h : Heap}, Kle K₁ K' → Kle K' (hk h) → h.IsList a vs.toArray := fun le kin => ⟨_, kin _ _ (le _ _ ho), rfl, nn, rfl⟩
  refine codeAny_forLoop_any (fun m s' => ∃ K' ρ' i, Inv i ρ' ∧ Sat F K' X ρ' s' ∧ Off F K' X ρ' s' I ∧ Stp s s' K K' X ∧ Kle K₁ K' ∧ s'.heap.IsListIter I a i ∧ i ≤ prs.length ∧ m = prs.length + 1 - i) ?_ (prs.length + 1)
    ⟨K₁, ρ, 0, h0, S₂, off₂, st₂, .refl _, hit0, Nat.zero_le _, rfl⟩
  rintro m s' ⟨K', ρ', i, hInv, S', off', st', le', hit, hile, rfl⟩
  by_cases hlt : i < prs.length
  · refine W.item i s' _ _ (by simpa [hlen] using hlt) ⟨hit, hl2 le' S'.kin⟩ fun u h1 tk1 hP hst hk1 => ?_
    obtain ⟨hit1, hl1⟩ := hst
    have hP' : vs[i]? = some u := by simpa using hP
    obtain ⟨P, hPi, hu⟩ := al.get' hP'
    rw [List.getElem?_map] at hPi
    obtain ⟨p, hp, rfl⟩ := Option.map_eq_some_iff.mp hPi
    obtain ⟨t, ts, tn, rfl, hto, tal⟩ := hu
    obtain ⟨ua, ub, rfl, hua, hub⟩ : ∃ ua ub, ts = [ua, ub] ∧ p.1.p K₁ ua ∧ p.2.p K₁ ub := by
      cases tal with
      | cons h1 r =>
        cases r with
        | cons h2 r2 => cases r2; exact ⟨_, _, rfl, h1, h2⟩
    refine wpAny_letOwnedTupleGo_listiter hit1 ?_
    have htI : t ≠ I := fun q => by
      have := off₂.k
      rw [← q, hto] at this; cases this
    have ht1 : h1.IsTuple t #[ua, ub] := ⟨_, hk1 t _ (by simpa using htI) (S'.kin _ _ (le' _ _ hto)), rfl, tn, rfl⟩
    refine wpAny_assign_Tuple ok.rm.hh ht1 rfl rfl fun h2 hx2 => ?_
    replace hx2 : Heap.ExtBut h1.objs.size h1 h2 := hx2
    have keep2 : ∀ b o, b ∉ [I] → s'.heap.get? b = some o → h2.get? b = some o := fun b o hb q => hx2 b o (Nat.ne_of_lt (Heap.lt_size (hk1 b o hb q))) (hk1 b o hb q)
    have hit2 : h2.IsListIter I a (i + 1) := by
      obtain ⟨o, ho', r⟩ := hit1
      exact ⟨o, hx2 I o (Nat.ne_of_lt (Heap.lt_size ho')) ho', r⟩
    obtain ⟨S'', off''⟩ := S'.touch (tk := tk1) (wr := [I]) (h' := h2) (fun b hb => by rw [List.mem_singleton.mp hb]; exact off') fun b o hb q => keep2 b o hb q
    have SX := S''.addX off'' S''.xin
    show wpAny _ _ (do holding [ub] (PySem.assign (.Name xa pa) F.env ua); do holding [] (PySem.assign (.Name xb pb) F.env ub); pure ()) _ _ _
    refine wpAny_bind (wpAny_holding (wpAny_assign_Name (store_name ok SX hka (.frz (p.1.mono le' hua)) fun s₄ S₄ r₄ => ?_)))
    refine wpAny_bind (wpAny_holding (wpAny_assign_Name (store_name ok S₄ hkb (.frz (p.2.mono le' hub)) fun s₅ S₅ r₅ => wpAny_pure ?_)))
    refine (turn i p ρ' hp hInv).out K' _ s₅ _ _ S₅ fun K₆ s₆ fl oo ρ₆ hp6 hi₆ S₆ st₆ => ?_
    have hI6 : s₆.heap.get? I = h2.get? I := by
      obtain ⟨o, ho', _⟩ := hit2
      have : addX X [I] h2 I = some o := (addX_in (List.mem_singleton.mpr rfl)).trans ho'
      exact (S₆.xin I _ this).trans ho'.symm
    have hit6 : s₆.heap.IsListIter I a (i + 1) := by
      obtain ⟨o, ho', r⟩ := hit2
      exact ⟨o, hI6.trans ho', r⟩
    have le6 : Kle K₁ K₆ := le'.trans st₆.le
    have hXle : Kle X (addX X [I] h2) := fun a o e => by
      rw [addX_out (fun ha => by rw [List.mem_singleton.mp ha, off'.x] at e; cases e)]; exact e
    have off6 : Off F K₆ X ρ₆ s₆ I := by
      obtain ⟨o, ho', _⟩ := hit2
      refine Off.of_addX (List.mem_singleton.mpr rfl) S₆ ⟨_, ho'⟩ off'.x ?_ off'.c
      rw [st₆.old I _ ((addX_in (List.mem_singleton.mpr rfl)).trans ho')]; exact off'.k
    have S6 : Sat F K₆ X ρ₆ s₆ := S₆.lessX hXle
    have st6 : Stp s s₆ K K₆ X := st'.trans ⟨⟨((r₄.trans r₅).trans st₆.rest).os, ((r₄.trans r₅).trans st₆.rest).gens⟩, st₆.le, fun a o e => st₆.old a o (hXle a o e)⟩
    have go : ∀ ρ₇, ρ₇ = ρ₆ → Inv (i + 1) ρ₇ → ∃ m, m < prs.length + 1 - i ∧ ∃ K' ρ' i, Inv i ρ' ∧ Sat F K' X ρ' s₆ ∧ Off F K' X ρ' s₆ I ∧ Stp s s₆ K K' X ∧ Kle K₁ K' ∧ s₆.heap.IsListIter I a i ∧ i ≤ prs.length ∧ m = prs.length + 1 - i := by
      intro ρ₇ e7 hI'
      subst e7
      exact ⟨prs.length + 1 - (i + 1), by omega, K₆, _, i + 1, hI', S6, off6, st6, le6, hit6, hlt, rfl⟩
    cases oo with
    | next => cases hi₆; exact go ρ₆ rfl hp6
    | cont => cases hi₆; exact go ρ₆ rfl hp6
    | brk => cases hi₆; exact k K₆ s₆ .next .next ρ₆ hp6 rfl S6 st6
    | ret P => obtain ⟨v, rfl, hv⟩ := hi₆; exact k K₆ s₆ _ (.ret P) ρ₆ hp6 ⟨v, rfl, hv⟩ S6 st6
  · have hin : i = prs.length := by omega
    subst hin
    have hdone := W.done s' (fun r s₁ => match r with
      | none => wpAny (model prog w) F.A (execs [] F.env) (fun f s₃ => Q f s₃) (notedBy (model prog w) F.A F.env fun e s' => E e s') s₁
      | some _ => False)
    refine W.done s' _ _ (by have e : vs.toArray.size = prs.length := by simp [hlen]
                             rw [e]; exact ⟨hit, hl2 le' S'.kin⟩) fun h'' tk' hk' => ?_
    obtain ⟨S'', _⟩ := S'.touch (tk := tk') (wr := [I]) (h' := h'') (fun b hb => by rw [List.mem_singleton.mp hb]; exact off') hk'
    exact wpAny_execs_nil (k K' _ .next .next ρ' (done ρ' hInv) rfl S'' (st'.trans ⟨⟨rfl, .refl _⟩, .refl _, fun _ _ _ => rfl⟩))
end
end Mine
end
/-! part E10 -/
section
open PySem PySem.Calls PySem.Spec PyProof.Rows PySem.W PySem.SeqAt
open Sem (wp)
set_option Elab.async false
set_option linter.unusedVariables false
set_option maxRecDepth 100000
set_option maxHeartbeats 1000000
namespace Mine
/-! ## the object walked; __str__ -/
section
variable {prog : Program} {w : World} {A : Around} {E : Value → Shared → Prop} {s s' : Shared} {mg mb : Str → Option Value} {P : Params}
theorem acc_next_item {it x d : Addr} {i : Nat} {xs : Array Value} {v : Value} {Q : Option Value → Shared → Prop} (hit : s.heap.IsListIter it x i) (I : IsAcc P s.heap x xs d) (hx : xs[i]? = some v)
    (hQ : ∀ h', h'.IsListIter it x (i + 1) → Heap.SameBut it s.heap h' → Q (some v) { s with heap := h' }) : wpAny (model prog w) A (pyNext (.ref it)) Q E s := by
  obtain ⟨o, ho, hc, hd⟩ := id hit
  obtain ⟨nl, hol⟩ := I.obj
  unfold pyNext
  refine wpAny_bind (wpAny_attempt (wpAny_callSpecial?_slot (name := Str.ofString "__next__") hit.typeIs slot_listiter_next
    (wpAny_call_entry slot_listiter_next hit.typeIs entry_listiter_next ?_ (args_listiter_next _))))
  show wpAny _ _ (field (.ref it) 0 >>= _) _ _ s
  refine wpAny_bind (wpAny_field ho hd (x := .ref x) rfl ?_)
  show wpAny _ _ (if (Value.ref x == Value.none) = true then _ else _) _ _ s
  rw [if_neg (show ¬ ((Value.ref x == Value.none) = true) from Bool.false_ne_true)]
  show wpAny _ _ (field (.ref it) 1 >>= _) _ _ s
  refine wpAny_bind (wpAny_field ho hd (x := .int i 0) rfl ?_)
  show wpAny _ _ (seqItems? (.ref x) >>= _) _ _ s
  refine wpAny_bind (wpAny_seqItems hol rfl ?_)
  simp only [Int.toNat_natCast, hx]
  refine wpAny_bind (wpAny_setField ho hd (by simp) (wpAny_pure ⟨v, rfl, wpAny_pure (hQ _ ?_ (Heap.SameBut.update ..))⟩))
  exact ⟨_, Heap.get?_update_self _ ho (Obj.isFreed_of_fields (Obj.data_mapFields hd _)), (Obj.cls_mapFields ..).trans hc, by
    rw [Obj.data_mapFields hd]; simp [rawInt]⟩
theorem acc_next_end {it x d : Addr} {i : Nat} {xs : Array Value} {Q : Option Value → Shared → Prop} (hh : A.handled = none) (hit : s.heap.IsListIter it x i) (I : IsAcc P s.heap x xs d) (hx : xs[i]? = none)
    (hQ : ∀ h', Heap.ExtBut it s.heap h' → Q none { s with heap := h' }) : wpAny (model prog w) A (pyNext (.ref it)) Q E s := by
  obtain ⟨o, ho, hc, hd⟩ := id hit
  obtain ⟨nl, hol⟩ := I.obj
  unfold pyNext
  refine wpAny_bind (wpAny_attempt (wpAny_callSpecial?_slot (name := Str.ofString "__next__") hit.typeIs slot_listiter_next
    (wpAny_call_entry slot_listiter_next hit.typeIs entry_listiter_next ?_ (args_listiter_next _))))
  show wpAny _ _ (field (.ref it) 0 >>= _) _ _ s
  refine wpAny_bind (wpAny_field ho hd (x := .ref x) rfl ?_)
  show wpAny _ _ (if (Value.ref x == Value.none) = true then _ else _) _ _ s
  rw [if_neg (show ¬ ((Value.ref x == Value.none) = true) from Bool.false_ne_true)]
  show wpAny _ _ (field (.ref it) 1 >>= _) _ _ s
  refine wpAny_bind (wpAny_field ho hd (x := .int i 0) rfl ?_)
  show wpAny _ _ (seqItems? (.ref x) >>= _) _ _ s
  refine wpAny_bind (wpAny_seqItems hol rfl ?_)
  simp only [Int.toNat_natCast, hx]
  refine wpAny_bind (wpAny_rule (wpAny_bind (wpAny_setField ho hd (by simp) ?_)))
  show wpAny _ _ (newExc (.type "StopIteration") [] >>= _) _ _ _
  refine wpAny_bind ?_
  simp only [newExc, newTuple]
  refine wpAny_bind (wpAny_newObj_type ?_ (by size_fits))
  refine wpAny_bind (m := firstArgMember _ _) (wpAny_of_eq (a := Value.none) (by first | rfl | (simp only [firstArgMember]; rfl)) ?_)
  refine wpAny_newObj_type ?_ (by size_fits)
  simp only [raiseNew]
  refine wpAny_bind (wpAny_handled ?_)
  rw [show A.in1.handled = none from hh]
  refine wpAny_bind (wpAny_pure (wpAny_throw ?_))
  refine wpAny_bind (wpAny_isInstance (T := "StopIteration") (b := true) ⟨_, Heap.get?_push_size _ rfl, rfl⟩ isSubtype_stop ?_)
  exact wpAny_pure (hQ _ (((Heap.SameBut.update ..).extBut.push _).push _))
theorem IsAcc.at' {h h' : Heap} {x d : Addr} {xs : Array Value} (I : IsAcc P h x xs d) (k : ∀ o, h.get? x = some o → h'.get? x = some o) : IsAcc P h' x xs d := let ⟨n, e⟩ := I.obj; ⟨n, k _ e⟩
theorem walks_acc (hh : A.handled = none) (it x d : Addr) (hne : x ≠ it) (items : Array Value) (Ts : Nat → Addr) (vals : Nat → Array Value)
    (hit : ∀ j, j < items.size → items[j]? = some (.ref (Ts j))) (hTI : ∀ j, j < items.size → Ts j ≠ it) :
    WalksU prog w A it (it :: x :: (List.range items.size).map Ts) [it] items.size (fun j v => v = vals j)
      (fun j h => h.IsListIter it x j ∧ IsAcc P h x items d ∧ ∀ k, k < items.size → h.IsTuple (Ts k) (vals k))
      (fun j T h => (j < items.size ∧ T = Ts j) ∧ h.IsListIter it x (j + 1) ∧ IsAcc P h x items d ∧ ∀ k, k < items.size → h.IsTuple (Ts k) (vals k)) where
  sub := fun b hb => by simp at hb; simp [hb]
  frame := fun _ _ _ st hk => ⟨st.1.at fun o e => hk it (by simp) o e, st.2.1.at' fun o e => hk x (by simp) o e,
    fun k hk' => (st.2.2 k hk').at fun o e => hk (Ts k) (List.mem_cons_of_mem _ (List.mem_cons_of_mem _ (List.mem_map.mpr ⟨k, List.mem_range.mpr hk', rfl⟩))) o e⟩
  item := fun i s Q E hi st hQ => by
    refine acc_next_item st.1 st.2.1 (v := .ref (Ts i)) (hit i hi) fun h' hit' hs' => ?_
    have tup : ∀ k, k < items.size → h'.IsTuple (Ts k) (vals k) := fun k hk' => (st.2.2 k hk').extBut hs'.extBut (hTI k hk')
    exact hQ (Ts i) (vals i) h' s.toks rfl (tup i hi) ⟨⟨hi, rfl⟩, hit', st.2.1.same hs' hne, tup⟩ fun b o hb e => hs'.extBut b o (fun h => hb (by simp [h])) e
  go := fun _ _ _ _ _ s Q _ hm hQ => wpAny_letOwnedTupleGo_listiter hm.2.1 (hQ s.heap hm.2 fun _ _ _ e => e)
  apart := fun j T _ hm hmem => by
    rcases List.mem_cons.mp hmem with e | e
    · exact hTI j hm.1.1 (hm.1.2 ▸ e)
    · cases e
  done := fun s Q E st hQ => acc_next_end hh st.1 st.2.1 (by simp) fun h' he' => hQ h' s.toks fun b o hb e => he' b o (fun h => hb (by simp [h])) e
  self := fun _ _ _ _ st hQ => wpAny_pyIter_listiter st.1 hQ

theorem join_pair : ∀ i : Nat, Txt.join "" ["", ltr i] = ltr i := fun i => by
  match i with
  | 0 => rfl
  | 1 => rfl
  | 2 => rfl
  | n + 3 => rfl
theorem join_tup {T : Addr} {a b : Str} {ta tb t : Tok} {Q : Value → Shared → Prop} (hT : IsTup s.heap T #[.str a ta, .str b tb]) (hok : a.length + b.length ≤ 100) (h : ∀ t' k, Q (.str (Txt.join "" [a, b]) t') { s with toks := k }) :
    wpAny (model prog w) A (call (.builtin "str.join") [.str "" t, .ref T]) Q E s := by
  refine join_tupleW (x := "") hT (ys := [a, b]) (.cons _ _ (.cons _ _ .nil)) (by decide) ?_ h
  simp
  omega

theorem gext_of {g g' : Array GenState} {gs : GenState} (hb : gs.bare = true) (h : GenOnlyQ g.size (g.push gs) g') : GExt g g' := by
  rcases h with rfl | ⟨⟨hsz, hk⟩, hg⟩
  · exact ⟨[gs], by simp, fun y hy => by rw [List.mem_singleton.mp hy]; exact hb⟩
  · have hs : g'.size = g.size + 1 := by rw [hsz, Array.size_push]
    have hlt : g.size < g'.size := by omega
    refine ⟨[g'[g.size]], ?_, fun y hy => by rw [List.mem_singleton.mp hy]; exact hg _ (Array.getElem?_eq_getElem hlt)⟩
    apply List.ext_getElem?
    intro k
    rcases Nat.lt_trichotomy k g.size with h1 | h1 | h1
    · have := hk k (Nat.ne_of_lt h1)
      rw [List.getElem?_append_left (by simpa using h1)]
      simpa [Array.getElem?_push, Nat.ne_of_lt h1] using this
    · subst h1
      rw [List.getElem?_append_right (by simp)]
      simp [hlt]
    · rw [List.getElem?_eq_none (by simp; omega), List.getElem?_eq_none (by simp; omega)]
theorem passing_all (n : Nat) : passing (fun _ => true) n 0 = List.range n := by
  simp [passing]
theorem vals_l {l : List (Str × Tok)} {cs : List Nat} (h : ItemsOf (fun j y => ∃ i, (passing (fun _ => true) cs.length 0)[j]? = some i ∧ ∃ t, y = .str (ltr (cs.getD i 0)) t) (strValues l).toArray (passing (fun _ => true) cs.length 0).length) : l.map (·.1) = cs.map ltr := by
  rw [passing_all] at h
  obtain ⟨h1, h2⟩ := h
  have hl : l.length = cs.length := by simpa [strValues] using h1
  apply List.ext_getElem?
  intro j
  rw [List.getElem?_map, List.getElem?_map]
  by_cases hj : j < l.length
  · obtain ⟨i, hi, t, ht⟩ := h2 j (.str (l[j]).1 (l[j]).2) (by simp [strValues, hj])
    have hji : i = j := by
      rw [List.getElem?_range (by omega)] at hi
      exact (Option.some.inj hi).symm
    subst hji
    have hlt : i < cs.length := by omega
    injection ht with h3 h4
    rw [List.getElem?_eq_getElem hj, List.getElem?_eq_getElem hlt, Option.map_some, Option.map_some, h3]
    simp [List.getD_eq_getElem?_getD, hlt]
  · rw [List.getElem?_eq_none (by omega), List.getElem?_eq_none (by omega)]; rfl
end
end Mine
end
/-! part E11 -/
section
open PySem PySem.Calls PySem.Spec PyProof.Rows PySem.W PySem.SeqAt
open Sem (wp)
set_option Elab.async false
set_option linter.unusedVariables false
set_option maxRecDepth 100000
set_option maxHeartbeats 1000000
namespace Mine
theorem code_at80 (P : Params) : codeHdIn (hd.heap_1 P) 80 76 = true := by kernel_rfl
theorem glob_E {w : World} {g : Heap} {mg mb : Str → Option Value} (B : Base w g mg mb) : ∃ t, mg "EMPTYSTRING" = some (.str "" t) := ⟨_, B.at rfl⟩
section
variable {prog : Program} {w : World} {A : Around} {E : Value → Shared → Prop} {s s' : Shared} {mg mb : Str → Option Value} {P : Params}
theorem genexpr_both {M : Model} {env : Env} {c Pl : Addr} {ps : Array Value} {pos : Pos} {qualname : Str} {scope : Scope} {Q : Value → Shared → Prop} (hc : env.code = .ref c) (hok : s.heap.IsCode c Pl ps) (htab : s.heap.TableAt c Pl ps) (htr : TriplesOk ps.toList)
    (hQ : ∀ code h' tk more, Heap.ExtBut Pl s.heap h' → s.heap.objs.size ≤ h'.objs.size → h'.TableAt c Pl (ps ++ more) → TriplesOk (ps ++ more).toList → Q code { s with heap := h', toks := tk }) : wpAny M A (genexprCode env pos qualname scope) Q E s := by
  cases hf : codeAmong pos ps.toList with
  | some c' => exact wpAny_genexprCode_hit hc hok hf (hQ c' s.heap s.toks #[] (Heap.ExtBut.refl _ _) (Nat.le_refl _) (by simpa using htab) (by simpa using htr))
  | none => exact wpAny_genexprCodeX hc hok htab hf fun c' h₃ tk₃ hx₃ hge hlt hcode₃ _ htab₃ _ => hQ (.ref c') h₃ tk₃ _ hx₃ (Nat.le_trans hge (Nat.le_of_lt hlt)) htab₃ (by
      rw [Array.toList_append]
      exact TriplesOk_snoc _ _ _ _ htr)
theorem code_str {x d : Addr} {xs : Array Value} {cs : List Nat} {ps : Array Value} {bm : Addr} {ob : Obj} {R : Result → Shared → Prop} (B : Base w s.heap mg mb) (BM : BMod s.heap mainGlobals mg bm ob) (I : IsAcc w.params s.heap x xs d)
    (hlen : xs.size = cs.length) (hcs : cs.length ≤ 1000)
    (hit : ∀ j, j < cs.length → ∃ t ta tb n, xs[j]? = some (.ref t) ∧ s.heap.get? t = some (tObj [.str "" ta, .str (ltr (cs.getD j 0)) tb] n))
    (h76 : s.heap.get? 76 = some (tabObj ps)) (htr : TriplesOk ps.toList) (hh : A.handled = none) (hroom : A.depth + 3 < recursionLimit)
    (h : ∀ h' g' tk t more, KeepBut 76 s.heap h' → h'.get? 76 = some (tabObj (ps ++ more)) → TriplesOk (ps ++ more).toList → GExt s.gens g' → R (.ok (.ret (.str (Txt.join "" (cs.map ltr)) t))) ⟨h', g', s.drawn, tk, s.os⟩) :
    codeAny (model prog w) A (.call (.ref aStr) ⟨[.ref x], []⟩) R s := by
  obtain ⟨tE, hE⟩ := glob_E B
  have hit' : ∀ j : Nat, ∃ r : Addr × Tok × Tok × Nat, j < cs.length → xs[j]? = some (.ref r.1) ∧ s.heap.get? r.1 = some (tObj [.str "" r.2.1, .str (ltr (cs.getD j 0)) r.2.2.1] r.2.2.2) := fun j => by
    by_cases hj : j < cs.length
    · obtain ⟨t, ta, tb, n, h1, h2⟩ := hit j hj; exact ⟨(t, ta, tb, n), fun _ => ⟨h1, h2⟩⟩
    · exact ⟨default, fun h => absurd h hj⟩
  obtain ⟨r, hr⟩ := Classical.axiomOfChoice hit'
  refine enterM (binds := [("self", .ref x)]) B (by omega) rfl rfl rfl (BindsTo.of_eq rfl) (fun h₀ hn k B₀ => ?_) (by decide) ?_
  · have I₀ := I.keeps k
    refine _root_.PySem.wpAt_of_wpAny (wpAny_execs_cons (wpAny_Return_some ?_))
    refine wpAny_Call_method (T := "str") (id := "str.join") rfl rfl rfl PySem.F.plainAttrs_str PySem.F.slot_str_join PySem.F.type_str_join ?_
    refine Name_function_global rfl rfl (loadGlobal_global B₀.gl.gl hE ⟨typeIs_str _ _ _, (fun _ e => nomatch e), ?_⟩) (by decide)
    refine callWith_b1 ?_
    refine wpAny_GeneratorExp_walksQT hh rfl (cl := []) rfl (by decide) rfl rfl rfl (by decide) rfl ?_ (name_at hn rfl (I₀.iter B₀.K ⟨?_, ?_⟩)) (by intro _; with_unfolding_all rfl)
    · show A.depth + 1 < recursionLimit; omega
    · exact B₀.gl.lim.keeps fun b o e => Heap.get?_push_of_some _ e
    dsimp only
    let it : Addr := h₀.objs.size
    generalize hh1 : h₀.push { cls := .type "list_iterator", data := .fields #[.ref x, .int 0 0] } = h1
    have k1 : Keep h₀ h1 := fun b o e => hh1 ▸ Heap.get?_push_of_some _ e
    have hz1 : h1.objs.size = h₀.objs.size + 1 := by rw [← hh1, Heap.size_push]
    have k01 : Keep s.heap h1 := fun b o e => k1 b o (k b o e)
    have hit1 : h1.IsListIter it x 0 := hh1 ▸ ⟨_, Heap.get?_push_size _ rfl, rfl, rfl⟩
    have I1 := I.keeps k01
    have B1 := B.keeps k01
    have BM1 := BM.keeps k01
    have hP1 := k01 _ _ h76
    have CH := codeHd_of_K B1.K (code_at80 w.params)
    have hcode := CH.code hP1 htr
    have htab := CH.tab hP1
    have hL0 : s.heap.objs.size < h₀.objs.size := hn.lt
    have h76lt : 76 < s.heap.objs.size := Heap.lt_size h76
    refine genexpr_both rfl hcode htab htr fun code h₃ tk₃ more hx₃ hsz₃ htab₃ htr₃ => ?_
    have BM₃ := BM1.extBut htab hx₃
    refine wpAny_builtinsFor BM₃.ns BM₃.name BM₃.ne BM₃.obj BM₃.cls BM₃.dict BM₃.data ?_
    have ne76 : ∀ {b : Addr} {o : Obj}, h1.get? b = some o → o ≠ tabObj ps → b ≠ 76 := fun {b o} e hne q => by
      subst q; rw [hP1] at e; exact hne (Option.some.inj e).symm
    have k3 : ∀ {b : Addr} {o : Obj}, h1.get? b = some o → o ≠ tabObj ps → h₃.get? b = some o := fun {b o} e hne => hx₃ b o (ne76 e hne) e
    have I₃ : IsAcc w.params h₃ x xs d := by
      obtain ⟨n, e⟩ := I1.obj
      exact ⟨n, k3 e (fun q => by cases q)⟩
    have hit₃ : h₃.IsListIter it x 0 := by
      obtain ⟨o, e, hc, hd⟩ := hit1
      exact ⟨o, k3 e (fun q => by subst q; cases hc), hc, hd⟩
    have hmg₃ := BM₃.ns
    let Ts : Nat → Addr := fun j => (r j).1
    let vals : Nat → Array Value := fun j => #[.str "" (r j).2.1, .str (ltr (cs.getD j 0)) (r j).2.2.1]
    have hT₃ : ∀ j, j < xs.size → h₃.IsTuple (Ts j) (vals j) := fun j hj => by
      obtain ⟨_, h2⟩ := hr j (by omega)
      exact ⟨_, k3 (k01 _ _ h2) (fun q => by cases q), rfl, _, rfl⟩
    have hTlt : ∀ j, j < xs.size → Ts j < s.heap.objs.size := fun j hj => Heap.lt_size (hr j (by omega)).2
    have hxlt : x < s.heap.objs.size := let ⟨n, e⟩ := I.obj; Heap.lt_size e
    have hitlt : it < h₃.objs.size := Nat.lt_of_lt_of_le (by rw [hz1]; exact Nat.lt_succ_self _) hsz₃
    have hslt : s.heap.objs.size ≤ h₃.objs.size := Nat.le_trans (Nat.le_of_lt hL0) (Nat.le_of_lt hitlt)
    have hmgi : mainGlobals < h₃.objs.size := hmg₃.lt
    have hl₃ : h₃.NoLimit := B1.gl.lim.extBut hx₃ (by decide)
    have hmgit : mainGlobals ∉ [it] := fun hm => by
      have e := List.mem_singleton.mp hm
      have h2 : mainGlobals < s.heap.objs.size := B.gl.gl.lt
      rw [e] at h2
      exact absurd hL0 (Nat.not_lt_of_lt h2)
    have hcsit : cStatics ∉ [it] := fun hm => by
      have e := List.mem_singleton.mp hm
      obtain ⟨_, hcs', _⟩ := B.gl.lim
      have h2 := hcs'.lt
      rw [e] at h2
      exact absurd hL0 (Nat.not_lt_of_lt h2)
    refine ⟨it, it :: x :: (List.range xs.size).map Ts, [it], xs.size, fun j v => v = vals j, _, _, fun _ => true, fun i y => ∃ t, y = .str (ltr (cs.getD i 0)) t, rfl,
      fun A' hA => walks_acc hA it x d (Nat.ne_of_lt (Nat.lt_trans hxlt hL0)) xs Ts vals (fun j hj => (hr j (by omega)).1) (fun j hj => Nat.ne_of_lt (Nat.lt_trans (hTlt j hj) hL0)),
      fun i v hv => ⟨_, _, hv⟩, ⟨hit₃, I₃, hT₃⟩, ?_, hl₃, hcsit, ?_, ?_⟩
    · intro b hb
      rcases List.mem_cons.mp hb with rfl | hb
      · exact hitlt
      · rcases List.mem_cons.mp hb with rfl | hb
        · exact Nat.lt_of_lt_of_le hxlt hslt
        · obtain ⟨j, hj, rfl⟩ := List.mem_map.mp hb
          exact Nat.lt_of_lt_of_le (hTlt j (List.mem_range.mp hj)) hslt
    · intro href hhref
      refine ⟨fun A' E' i va vb s₂ m₂ hA' hP hn₂ hma hmb hkp => wpAny_tests_nil ⟨rfl, s₂.heap, s₂.toks, rfl, fun _ _ e => e⟩, fun A' E' i va vb s₂ m₂ hA' hP _ hn₂ hma hmb hkp => ?_⟩
      have hmg2 : s₂.heap.Ns mainGlobals mg := hmg₃.at' fun o e => hkp mainGlobals (List.mem_range.mpr hmgi) hmgit o (hhref _ _ e)
      have hva : va = .str "" (r i).2.1 := by have := congrArg (fun a : Array Value => a[0]?) hP; simpa [vals] using this
      have hvb : vb = .str (ltr (cs.getD i 0)) (r i).2.2.1 := by have := congrArg (fun a : Array Value => a[1]?) hP; simpa [vals] using this
      subst hva hvb
      refine wpAny_Call_method (T := "str") (id := "str.join") rfl rfl rfl PySem.F.plainAttrs_str PySem.F.slot_str_join PySem.F.type_str_join ?_
      refine Name_function_global rfl rfl (loadGlobal_global hmg2 hE ⟨typeIs_str _ _ _, (fun _ e => nomatch e), ?_⟩) (by decide)
      refine callWith_b1 (tup2 (name_at hn₂ hma (name_at hn₂ hmb ?_)))
      refine join_tup (T := s₂.heap.objs.size) ⟨_, Heap.get?_push_size _ rfl, rfl, _, rfl⟩ (by rw [ltr_len]; decide) fun t' k => ⟨⟨t', by rw [join_pair]⟩, _, _, rfl, fun b o e => Heap.get?_push_of_some _ e⟩
    · intro a h₅ tk gs hgb hag hsz₅ hk₅ W hat
      have hn : (passing (fun _ => true) xs.size 0).length = xs.size := by rw [passing_all, List.length_range]
      refine SC.joinGen W.in4_2 (fun i s' st => st.1.typeIs) hat ?_ List.mem_cons_self (fun i v hv => by obtain ⟨_, _, t, e⟩ := hv; exact ⟨_, _, e⟩) (fun s' l hm hacc => ?_) (by rw [hn, sizeLine_eq]; omega)
      · intro b hb
        show b < h₅.objs.size
        rw [hsz₅]
        rcases List.mem_cons.mp hb with rfl | hb
        · exact Nat.lt_succ_self _
        · rcases List.mem_cons.mp hb with rfl | hb
          · exact Nat.lt_succ_of_lt hag
          · exact Nat.lt_succ_of_lt (Nat.lt_trans (List.mem_range.mp hb) hag)
      · rw [hlen] at hacc
        have hl := vals_l hacc
        rw [hl]
        refine ⟨join_ok4 cs hcs, fun t' k => ?_⟩
        obtain ⟨hp', gg, dd, tt, oo⟩ := s'
        obtain ⟨m1, m2, m3, m4, m5⟩ := hm
        dsimp only at m1 m2 m3 m4 m5 ⊢
        subst m3 m4
        have hb : ∀ b o, s.heap.get? b = some o → b ∉ (h₃.objs.size :: [it]) := fun b o e hb => by
          have hlt := Heap.lt_size e
          rcases List.mem_cons.mp hb with rfl | hb
          · exact absurd hlt (Nat.not_lt_of_le hslt)
          · rw [List.mem_singleton.mp hb] at hlt
            exact absurd hL0 (Nat.not_lt_of_lt hlt)
        refine h hp' gg k t' more (fun b o hb76 e => m1 b o (hb b o e) (hk₅ _ _ (hx₃ b o hb76 (k01 _ _ e)))) (m1 76 _ (hb 76 _ h76) (hk₅ _ _ htab₃.2)) htr₃ (gext_of hgb m2)
  · intro y hy
    simp only [List.mem_cons, List.not_mem_nil, or_false] at hy
    rcases hy with rfl
    rfl
end
end Mine
end
/-! part E12 -/
section
open PySem PySem.Calls PySem.Spec PyProof.Rows PySem.W PySem.SeqAt
open Sem (wp)
set_option Elab.async false
set_option linter.unusedVariables false
set_option maxRecDepth 100000
set_option maxHeartbeats 1000000
namespace Mine
/-! ## rules for a generator's code -/
section
variable {M : Model} {A : Around} {R : GenEnd} {Y : Protocol} {n : Nat} {s₀ : Shared} {c : Code} {fs : List Frame} {s : Shared} {env : Env}
  {K : Flow → Sem Fin} {H : Value → Sem Fin} {gd : Bool → Bool} {lv : List Value → List Value}
theorem seg_bindw {α β : Type} {m : Sem α} {f : α → Sem β} {K : β → Sem Fin}
    (h : wpAny M (A.over c fs) m (fun a s' => Seg M A R Y n s₀ c ((f a).wrap K H gd lv) fs s') (fun x s' => Seg M A R Y n s₀ c (H x) fs s') s) :
    Seg M A R Y n s₀ c ((m >>= f).wrap K H gd lv) fs s := by
  rw [Sem.bind_eq_wrap', Sem.wrap_wrap]
  exact seg_wrap h
theorem seg_If {test : PySem.Expr} {body orelse : List Stmt} {pos : Pos}
    (h : wpAny M (A.over c fs) (isTrue test env (eval test env)) (fun b s' => (b = true → Seg M A R Y n s₀ c ((execs body env).wrap K H gd lv) fs s') ∧ (b = false → Seg M A R Y n s₀ c ((execs orelse env).wrap K H gd lv) fs s'))
      (fun x s' => Seg M A R Y n s₀ c (H x) fs s') s) :
    Seg M A R Y n s₀ c ((exec (.If test body orelse pos) env).wrap K H gd lv) fs s := by
  rw [arm_exec_If]
  refine seg_bindw (wpAny_standAt (seg_bindw (wpAny_mono h (fun b s' hb => ?_) fun _ _ x => x)))
  cases b with
  | true => exact hb.1 rfl
  | false => exact hb.2 rfl
theorem seg_For {target iter : PySem.Expr} {body orelse : List Stmt} {pos : Pos}
    (h : wpAny M (A.over c fs) (eval iter env) (fun v s₁ => wpAny M (A.over c fs) (pyIter v) (fun it s' => ∀ p, Seg M A R Y n s₀ (.forLoop target it body orelse env) (M.den (.forLoop target it body orelse env))
      (.ret (fun r => ((match r with | .ok f => (.pure f : Sem Flow) | .error e => .raise e).onRaise fun (x : Value) => do
        if (← field x 1) == Value.none then unsupported "frame.own-activation:exception-without-traceback"
        setFlight x env.frame).wrap K H gd lv) none (gd false) (lv []) c p [] :: fs) s') (fun x s' => Seg M A R Y n s₀ c (H x) fs s') s₁) (fun x s' => Seg M A R Y n s₀ c (H x) fs s') s)
    (hs : ∀ x, foldedSetIterable iter env x = pure x := by intro _; rfl) :
    Seg M A R Y n s₀ c ((exec (.For target iter body orelse pos) env).wrap K H gd lv) fs s := by
  rw [PySem.exec_For]
  refine seg_bindw (wpAny_standAt (seg_bindw (wpAny_mono h (fun v s₁ h₁ => ?_) fun _ _ x => x)))
  refine seg_bindw (wpAny_of_eq (hs v) (seg_bindw (wpAny_standAt (seg_bindw (wpAny_holding (wpAny_mono h₁ (fun it s' h' => ?_) fun _ _ x => x))))))
  exact seg_call h'
end
section
variable {prog : Program} {w : World} {A : Around} {R : GenEnd} {Y : Protocol} {n : Nat} {s₀ : Shared} {fs : List Frame} {s : Shared} {env : Env}
/-- how a loop's turn ends -/
noncomputable def KFor (target : PySem.Expr) (it : Value) (body orelse : List Stmt) (env : Env) : Flow → Sem Fin := fun f => match f with
  | .next | .cont => .pure (.again (.forLoop target it body orelse env))
  | .brk => .pure (.done .next)
  | .ret v => .pure (.done (.ret v))
noncomputable def HFor (env : Env) : Value → Sem Fin := fun e => (do noteFrame e env; theTreesLotGoes e : Sem Unit).bind fun _ => .raise e
theorem seg_forLoop {x : Str} {px : Pos} {it : Value} {body : List Stmt}
    (h : wpAny (model prog w) (A.over (.forLoop (.Name x px) it body [] env) fs) (pyNext it) (fun r s' => match r with
        | none => Seg (model prog w) A R Y n s₀ (.block [] env) (leafOf (.ok .next)) fs s'
        | some v => wpAny (model prog w) (A.over (.forLoop (.Name x px) it body [] env) fs) (storeName env x v) (fun _ s₂ => Seg (model prog w) A R Y n s₀ (.forLoop (.Name x px) it body [] env) ((execs body env).wrap (KFor (.Name x px) it body [] env) (HFor env) id id) fs s₂)
            (fun e s₂ => Seg (model prog w) A R Y n s₀ (.forLoop (.Name x px) it body [] env) (HFor env e) fs s₂) s')
      (fun e s' => Seg (model prog w) A R Y n s₀ (.forLoop (.Name x px) it body [] env) (HFor env e) fs s') s) :
    Seg (model prog w) A R Y n s₀ (.forLoop (.Name x px) it body [] env) ((model prog w).den (.forLoop (.Name x px) it body [] env)) fs s := by
  show Seg _ A R Y n s₀ _ ((forTurn (.Name x px) it body [] env).onRaise (fun x => do noteFrame x env; theTreesLotGoes x)) fs s
  rw [Sem.onRaise_eq_wrap]
  unfold forTurn
  refine seg_bindw (wpAny_standAt (seg_bindw (wpAny_onRaise (wpAny_mono h (fun r s' hr => ?_) fun e s' he => wpAny_standAt he))))
  cases r with
  | none =>
    refine seg_again (by rfl) ?_
    exact hr
  | some v =>
    refine seg_bindw (wpAny_pure ?_)
    refine seg_bindw (wpAny_assign_Name (wpAny_mono hr (fun _ s₂ h₂ => ?_) fun _ _ e => e))
    rw [Sem.bind_eq_wrap', Sem.wrap_wrap]
    refine Eq.mpr (congrArg (fun t => Seg _ A R Y n s₀ _ t fs s₂) ?_) h₂
    exact Sem.wrap_congr (execs body env) _ _ (fun f => by cases f <;> rfl) (fun e => rfl)
end
end Mine
end
/-! part E13 -/
section
open PySem PySem.Calls PySem.Spec PyProof.Rows PySem.W PySem.SeqAt
open Sem (wp)
set_option Elab.async false
set_option linter.unusedVariables false
set_option maxRecDepth 100000
set_option maxHeartbeats 1000000
namespace Mine
/-! ## _grouping_intervals -/
noncomputable abbrev aGen : Addr := 118
noncomputable def genFd (P : Params) : FuncData := match (hd.heap_1 P).lookup aGen with
  | some ⟨_, _, .func fd, _⟩ => fd
  | _ => default
noncomputable def genBody (P : Params) : List Stmt := match (genFd P).body with
  | .stmts b => b
  | _ => []
noncomputable def loopBody (P : Params) : List Stmt := match genBody P with
  | [_, .For _ _ b _ _] => b
  | _ => []
noncomputable def loopPx (P : Params) : Pos := match genBody P with
  | [_, .For (.Name _ p) _ _ _ _] => p
  | _ => default
noncomputable def gEnv (P : Params) (L : Addr) : Env := callEnv (genFd P) L aGen
noncomputable def Since (L I : Addr) (s₀ s : Shared) : Prop := ∃ h tk, s = { s₀ with heap := h, toks := tk } ∧ ∀ b o, b ≠ L → b ≠ I → s₀.heap.get? b = some o → h.get? b = some o
theorem Since.refl (L I : Addr) (s : Shared) : Since L I s s := ⟨_, _, rfl, fun _ _ _ _ e => e⟩
theorem Since.step {L I : Addr} {s₀ s : Shared} {h : Heap} {tk : Nat} (x : Since L I s₀ s) (k : ∀ b o, b ≠ L → b ≠ I → s.heap.get? b = some o → h.get? b = some o) : Since L I s₀ { s with heap := h, toks := tk } := by
  obtain ⟨h1, tk1, rfl, h2⟩ := x
  exact ⟨h, tk, rfl, fun b o h3 h4 e => k b o h3 h4 (h2 b o h3 h4 e)⟩
/-- what the generator holds, from first to last -/
structure GC (w : World) (mg mb : Str → Option Value) where
  g : Heap
  L : Addr
  I : Addr
  l : Addr
  items : Array Value
  B0 : Base w g mg mb
  L0 : g.get? L = none
  I0 : g.get? I = none
  LI : L ≠ I
  lL : l ≠ L
  lI : l ≠ I
structure GS {w : World} {mg mb : Str → Option Value} (C : GC w mg mb) (s₀ : Shared) (m : Str → Option Value) (i : Nat) (s : Shared) : Prop where
  kg : Keep C.g s.heap
  ns : s.heap.Ns C.L m
  it : s.heap.IsListIter C.I C.l i
  li : s.heap.IsList C.l C.items
  since : Since C.L C.I s₀ s
section
variable {prog : Program} {w : World} {A : Around} {E : Value → Shared → Prop} {s s' s₀ : Shared} {mg mb : Str → Option Value} {C : GC w mg mb} {m : Str → Option Value} {i : Nat}
theorem GS.B (x : GS C s₀ m i s) : Base w s.heap mg mb := C.B0.keeps x.kg
theorem GS.toks (x : GS C s₀ m i s) {tk : Nat} : GS C s₀ m i { s with toks := tk } := ⟨x.kg, x.ns, x.it, x.li, x.since.step fun _ _ _ _ e => e⟩
theorem GS.store (x : GS C s₀ m i s) {h' : Heap} {tk : Nat} {m' : Str → Option Value} (hn : h'.Ns C.L m') (hs : Heap.SameBut C.L s.heap h') : GS C s₀ m' i { s with heap := h', toks := tk } :=
  ⟨fun b o e => (hs.2 b (fun q => by rw [q, C.L0] at e; cases e)).trans (x.kg b o e), hn, x.it.at fun o e => (hs.2 _ (Ne.symm C.LI)).trans e, x.li.at fun o e => (hs.2 _ C.lL).trans e, x.since.step fun b o h1 _ e => (hs.2 b h1).trans e⟩
theorem GS.next (x : GS C s₀ m i s) {h' : Heap} {tk : Nat} {j : Nat} (hi : h'.IsListIter C.I C.l j) (hs : Heap.ExtBut C.I s.heap h') : GS C s₀ m j { s with heap := h', toks := tk } :=
  ⟨fun b o e => hs b o (fun q => by rw [q, C.I0] at e; cases e) (x.kg b o e), x.ns.extBut hs C.LI, hi, x.li.at fun o e => hs _ o C.lI e, x.since.step fun b o _ h1 e => hs b o h1 e⟩
/-- what the world outside may do between two items -/
noncomputable def Agr (C : GC w mg mb) (s s' : Shared) : Prop := Keep C.g s'.heap ∧ ∀ b, b = C.L ∨ b = C.I ∨ b = C.l → ∀ o, s.heap.get? b = some o → s'.heap.get? b = some o
theorem GS.agr (x : GS C s₀ m i s) (a : Agr C s s') : GS C s' m i s' :=
  ⟨a.1, x.ns.at' fun o e => a.2 _ (.inl rfl) o e, x.it.at fun o e => a.2 _ (.inr (.inl rfl)) o e, x.li.at fun o e => a.2 _ (.inr (.inr rfl)) o e, .refl _ _ _⟩
theorem gname {x : Str} {pos : Pos} {v : Value} {Q : Value → Shared → Prop} (G : GS C s₀ m i s) (hm : m x = some v) (h : Q v s) (hl : (gEnv w.params C.L).kindOf x = some .local := by rfl) (hd : (x == ("__debug__" : Str)) = false := by decide) :
    wpAny (model prog w) A (eval (.Name x pos) (gEnv w.params C.L)) Q E s := name_at G.ns hm h rfl rfl hl hd
theorem g_eq127 {p1 p2 p3 : Pos} {x : Int} {t : Tok} {whole : Sem Value} {Q : Bool → Shared → Prop} (G : GS C s₀ m i s) (hm : m "interval" = some (.int x t)) (h : Q (x == 127) s) :
    wpAny (model prog w) A (isTrue (.Compare (.Name "interval" p1) [.Eq] [.Name "CHAR_MAX" p2] p3) (gEnv w.params C.L) whole) Q E s := by
  refine wpAny_isTrue_Compare1 (gname G hm ?_)
  refine Name_function_global rfl rfl (loadGlobal_global (v := .int 127 _) G.B.gl.gl (G.B.at rfl) ?_)
  exact PySem.P.eq_int (wpAny_truthy_bool h)
theorem g_eq0 {p1 p2 p3 : Pos} {k : Nat} {x : Int} {t : Tok} {whole : Sem Value} {Q : Bool → Shared → Prop} (G : GS C s₀ m i s) (hm : m "interval" = some (.int x t)) (h : ∀ tk, Q (x == 0) { s with toks := tk }) :
    wpAny (model prog w) A (isTrue (.Compare (.Name "interval" p1) [.Eq] [.Constant (.int 0) k p2] p3) (gEnv w.params C.L) whole) Q E s := by
  refine wpAny_isTrue_Compare1 (gname G hm ?_)
  refine wpAny_Constant_int ?_
  exact PySem.P.eq_int (wpAny_truthy_bool (h _))
theorem g_isNone {p1 p2 p3 : Pos} {k : Nat} {v : Value} {whole : Sem Value} {Q : Bool → Shared → Prop} (G : GS C s₀ m i s) (hm : m "last_interval" = some v) (hv : plainIs v .none = true) (h : Q (v == .none) s) :
    wpAny (model prog w) A (isTrue (.Compare (.Name "last_interval" p1) [.Is] [.Constant .none k p2] p3) (gEnv w.params C.L) whole) Q E s := by
  refine wpAny_isTrue_Compare1 (gname G hm ?_)
  refine wpAny_of_eq (a := Value.none) rfl ?_
  exact wpAny_is_plain hv (wpAny_truthy_bool h)
end
/-! ### what it yields -/
noncomputable def gout : Nat → List Int → Option Int → List Int
  | 0, _, _ => []
  | _ + 1, [], _ => []
  | n + 1, x :: xs, last => if x = 127 then [] else if x = 0 then (match last with | none => [] | some v => List.replicate (n + 1) v) else x :: gout n xs (some x)
noncomputable def LastIs (m : Str → Option Value) (last : Option Int) : Prop := match last with
  | none => m "last_interval" = some .none
  | some v => ∃ t, m "last_interval" = some (.int v t)
section
variable {prog : Program} {w : World} {A : Around} {s s' s₀ : Shared} {mg mb : Str → Option Value} {C : GC w mg mb} {m : Str → Option Value} {i : Nat}
noncomputable def Two (C : GC w mg mb) (s : Shared) : Prop := (∃ o, s.heap.get? C.L = some o) ∧ ∃ o, s.heap.get? C.I = some o
theorem GS.two (x : GS C s₀ m i s) : Two C s := ⟨(let ⟨o, _, _, q, _⟩ := objN x.ns; ⟨o, q⟩), (let ⟨o, q, _⟩ := x.it; ⟨o, q⟩)⟩
noncomputable def Yg (C : GC w mg mb) (N : Nat) (out : List Int) : Protocol := fun n s₀ v s₁ kap => (∃ (x : Int) (t : Tok), out[N - 1 - n]? = some x ∧ v = Value.int x t) ∧ Since C.L C.I s₀ s₁ ∧ Two C s₁ ∧ (n ≠ 0 → ∀ s'', Agr C s₁ s'' → kap (.send .none) s'')
noncomputable def Rg (C : GC w mg mb) (N : Nat) (out : List Int) : GenEnd := fun n s₀ r s₁ => r = .ok (.ret .none) ∧ out.length ≤ N - n ∧ Since C.L C.I s₀ s₁
/-- while True: yield last_interval -/
theorem seg_forever {N : Nat} {out : List Int} {x : Int} {t : Tok} {fs : List Frame} {k : Nat} {p1 p2 p3 p4 : Pos} (hfs : splitAtGen fs = none) (hfg : fs.any Frame.guarded = false) :
    ∀ (n : Nat) (s₀ s : Shared), n + 1 ≤ N → out.drop (N - (n + 1)) = List.replicate (n + 1) x → GS C s₀ m i s → m "last_interval" = some (.int x t) →
    Seg (model prog w) A (Rg C N out) (Yg C N out) (n + 1) s₀ (.whileLoop (.Constant (.bool true) k p1) [.Expr (.Yield (some (.Name "last_interval" p2)) p3) p4] [] (gEnv w.params C.L))
      ((model prog w).den (.whileLoop (.Constant (.bool true) k p1) [.Expr (.Yield (some (.Name "last_interval" p2)) p3) p4] [] (gEnv w.params C.L))) fs s := by
  intro n
  induction n with
  | zero =>
    intro s₀ s hn ho G hm
    refine seg_whileLoop (wpAny_isTrue_value (wpAny_of_eq (a := Value.bool true) rfl (wpAny_truthy_bool ?_)))
    rw [if_pos rfl]
    refine seg_execs_cons (seg_Expr_Yield hfs rfl hfg (gname G hm fun kap hk => ⟨⟨x, t, ?_, rfl⟩, G.since, G.two, fun h => absurd rfl h⟩))
    have : out[N - 1 - 0]? = (out.drop (N - (0 + 1)))[0]? := by rw [List.getElem?_drop]; rfl
    rw [this, ho]; rfl
  | succ n ih =>
    intro s₀ s hn ho G hm
    refine seg_whileLoop (wpAny_isTrue_value (wpAny_of_eq (a := Value.bool true) rfl (wpAny_truthy_bool ?_)))
    rw [if_pos rfl]
    refine seg_execs_cons (seg_Expr_Yield hfs rfl hfg (gname G hm fun kap hk => ⟨⟨x, t, ?_, rfl⟩, G.since, G.two, fun _ s'' ha => hk .none s'' ?_⟩))
    · have : out[N - 1 - (n + 1)]? = (out.drop (N - (n + 1 + 1)))[0]? := by rw [List.getElem?_drop]; congr 1; omega
      rw [this, ho]; rfl
    · refine seg_execs_nil ?_
      refine seg_again (by rfl) ?_
      refine ih s'' s'' (by omega) ?_ (G.agr ha) hm
      have : out.drop (N - (n + 1)) = (out.drop (N - (n + 1 + 1))).drop 1 := by rw [List.drop_drop]; congr 1; omega
      rw [this, ho]; rfl
theorem seg_leaf' {R : GenEnd} {Y : Protocol} {n : Nat} {s₀ s : Shared} {k : Result → Sem Fin} {h g l c c₁ p₁ kp fs} (f : Flow) {M : Model} (hk : Seg M A R Y n s₀ c₁ (k (.ok f)) fs s) : Seg M A R Y n s₀ c (.pure (.done f)) (.ret k h g l c₁ p₁ kp :: fs) s :=
  seg_leaf (.ok f) hk
/-- the loop -/
theorem seg_loop {N : Nat} {out xs : List Int} {kf : Result → Sem Fin} {c₀ : Code} {p₀ : Pos}
    (hit : ∀ (j : Nat) (x : Int), xs[j]? = some x → ∃ t, C.items[j]? = some (Value.int x t)) (hlen : C.items.size = xs.length) (hh : A.handled = none)
    (hK : ∀ n s₀ s f, f = .next ∨ f = .ret .none → Rg C N out n s₀ (.ok (.ret .none)) s → Seg (model prog w) A (Rg C N out) (Yg C N out) n s₀ c₀ (kf (.ok f)) [] s) :
    ∀ (n i : Nat) (last : Option Int) (m : Str → Option Value) (s₀ s : Shared), n + 1 ≤ N → out.drop (N - (n + 1)) = gout (n + 1) (xs.drop i) last → GS C s₀ m i s → LastIs m last → (last = none → xs[i]? ≠ some 0) →
    Seg (model prog w) A (Rg C N out) (Yg C N out) (n + 1) s₀ (.forLoop (.Name "interval" (loopPx w.params)) (.ref C.I) (loopBody w.params) [] (gEnv w.params C.L))
      ((model prog w).den (.forLoop (.Name "interval" (loopPx w.params)) (.ref C.I) (loopBody w.params) [] (gEnv w.params C.L))) [.ret kf none false [] c₀ p₀ []] s := by
  intro n
  induction n using Nat.strongRecOn with
  | ind n ih =>
    intro i last m s₀ s hn ho G hl hz
    refine seg_forLoop ?_
    cases hx : xs[i]? with
    | none =>
      refine wpAny_pyNext_list_end hh G.it G.li ?_ fun h' hs => ?_
      · rw [Array.getElem?_eq_none_iff, hlen]; exact List.getElem?_eq_none_iff.mp hx
      · refine seg_leaf' .next (hK _ _ _ _ (.inl rfl) ⟨rfl, ?_, ?_⟩)
        · have : xs.drop i = [] := List.drop_eq_nil_iff.mpr (List.getElem?_eq_none_iff.mp hx)
          rw [this] at ho
          exact List.drop_eq_nil_iff.mp ho
        · exact G.since.step fun b o _ h1 e => hs b o h1 e
    | some x =>
      obtain ⟨t, ht⟩ := hit i x hx
      refine wpAny_pyNext_list_item G.it G.li ht fun h' hit' hs => ?_
      have G1 := G.next (tk := s.toks) hit' hs.extBut
      refine wpAny_storeName_local rfl G1.ns fun h2 hn2 hs2 => ?_
      have G2 := G1.store (tk := s.toks + 1) hn2 hs2
      have hmi : (fun y => if y = "interval" then some (Value.int x t) else m y) "interval" = some (.int x t) := if_pos rfl
      have hdrop : xs.drop i = x :: xs.drop (i + 1) := by
        obtain ⟨hlt, e⟩ := List.getElem?_eq_some_iff.mp hx
        rw [List.drop_eq_getElem_cons hlt, e]
      rw [hdrop] at ho
      refine seg_execs_cons (seg_If (g_eq127 G2 hmi ⟨fun h127 => ?_, fun h127 => ?_⟩))
      · have e : x = 127 := by simpa using h127
        subst e
        refine seg_execs_cons (seg_wrap (wpAny_Return_none ?_))
        refine seg_leaf' (.ret .none) (hK _ _ _ _ (.inr rfl) ⟨rfl, ?_, G2.since⟩)
        exact List.drop_eq_nil_iff.mp (by rw [ho]; rfl)
      have n127 : x ≠ 127 := by simpa using h127
      refine seg_execs_nil (seg_execs_cons (seg_If (g_eq0 G2 hmi fun tk => ⟨fun h0 => ?_, fun h0 => ?_⟩)))
      · have e : x = 0 := by simpa using h0
        subst e
        have G3 := G2.toks (tk := tk)
        cases last with
        | none => exact absurd hx (hz rfl)
        | some v =>
          obtain ⟨tv, hv⟩ := hl
          refine seg_execs_cons (seg_If (g_isNone G3 (v := .int v tv) hv rfl ⟨(fun q => nomatch q), fun _ => ?_⟩))
          refine seg_execs_nil (seg_execs_cons (seg_While fun p => ?_))
          refine seg_forever rfl rfl n s₀ _ hn ?_ G3 hv
          rw [ho]; rfl
      · have n0 : x ≠ 0 := by simpa using h0
        have G3 := G2.toks (tk := tk)
        have hout : gout (n + 1) (x :: xs.drop (i + 1)) last = x :: gout n (xs.drop (i + 1)) (some x) := by
          show (if x = 127 then _ else if x = 0 then _ else _) = _
          rw [if_neg n127, if_neg n0]
        rw [hout] at ho
        refine seg_execs_nil (seg_execs_cons (seg_Expr_Yield rfl rfl rfl (gname G3 hmi fun kap hk => ⟨⟨x, t, ?_, rfl⟩, G3.since, G3.two, fun hn0 s'' ha => hk .none s'' ?_⟩)))
        · have : out[N - 1 - n]? = (out.drop (N - (n + 1)))[0]? := by rw [List.getElem?_drop]; congr 1; omega
          rw [this, ho]; rfl
        obtain ⟨n', rfl⟩ : ∃ n', n = n' + 1 := ⟨n - 1, by omega⟩
        have G4 := G3.agr ha
        refine seg_execs_cons (seg_wrap (wpAny_Assign_Name (gname G4 hmi ?_)))
        refine wpAny_storeName_local rfl G4.ns fun h5 hn5 hs5 => ?_
        have G5 := G4.store (tk := s''.toks + 1) hn5 hs5
        refine seg_execs_nil (seg_again (by rfl) ?_)
        refine ih n' (Nat.lt_succ_self _) (i + 1) (some x) _ s'' _ (by omega) ?_ G5 ⟨t, if_pos rfl⟩ (fun q => nomatch q)
        have : out.drop (N - (n' + 1)) = (out.drop (N - (n' + 1 + 1))).drop 1 := by rw [List.drop_drop]; congr 1; omega
        rw [this, ho]; rfl
end
end Mine
end
/-! part E14 -/
section
open PySem PySem.Calls PySem.Spec PyProof.Rows PySem.W PySem.SeqAt
open Sem (wp)
set_option Elab.async false
set_option linter.unusedVariables false
set_option maxRecDepth 100000
set_option maxHeartbeats 1000000
namespace Mine
theorem value_not_stop : isSubtype (.type "ValueError") (.type "StopIteration") = pure false := by rw [isSubtype_type]; kernel_rfl
section
variable {prog : Program} {w : World} {A : Around} {E : Value → Shared → Prop} {s s' s₀ : Shared} {mg mb : Str → Option Value} {C : GC w mg mb} {m : Str → Option Value} {i : Nat}
theorem lambda_no {a : Addr} {g : Nat} {Q : Bool → Shared → Prop} (hg : s.heap.IsGen a g) (h : Q false s) : wpAny (model prog w) A (Builtin.Generator.madeByALambda (.ref a)) Q E s := by
  obtain ⟨o, nm, qn, ho, hc, hd, hsl⟩ := hg
  unfold Builtin.Generator.madeByALambda
  refine wpAny_bind (wpAny_load ho (wpAny_pure ?_))
  rw [hd]
  dsimp only
  rw [show (#[Value.int (g : Int) 0, nm, qn][3]? == some (Value.bool true)) = false from rfl, Bool.and_false]
  exact h
theorem next_gen {a : Addr} {g n : Nat} {gs : GenState} {R : GenEnd} {Y : Protocol} {Q : Option Value → Shared → Prop} (hh : A.handled = none)
    (hl : s.heap.NoLimit) (hroom : A.depth < recursionLimit)
    (hg : s.heap.IsGen a g) (hgs : s.gens[g]? = some gs)
    (hgo : gs.Goes (model prog w) A.in1 R Y n (.send .none) (s.setGen g .running))
    (hY : ∀ v s₁ gs', gs'.bare = true → Y (n - 1) (s.setGen g .running) v s₁ (fun r' s'' => match n with
        | 0 => False
        | m + 1 => gs'.Goes (model prog w) A.in1 R Y m r' s'') → Q (some v) (s₁.setGen g gs'))
    (hR : ∀ r s₁, R n (s.setGen g .running) r s₁ → (r = .ok (.ret .none) ∧ ∀ h', (∀ b o, s₁.heap.get? b = some o → h'.get? b = some o) → Q none { s₁.setGen g .finished with heap := h' }) ∨
      (∃ x eo, r = .error (.ref x) ∧ s₁.heap.get? x = some eo ∧ eo.cls = .type "ValueError" ∧ s₁.heap.IsGen a g ∧ E (.ref x) (s₁.setGen g .finished))) :
    wpAny (model prog w) A (pyNext (.ref a)) Q E s := by
  unfold pyNext
  refine wpAny_bind (wpAny_attempt (wpAny_callSpecial?_slot (name := Str.ofString "__next__") hg.typeIs slot_gen_next
    (wpAny_call_entry slot_gen_next hg.typeIs entry_gen_next ?_ (args_gen_next _))))
  show wpAny _ A.in1 (Builtin.Generator.genWake (.ref a) (.send .none)) _ _ s
  unfold Builtin.Generator.genWake
  refine wpAny_bind (wpAny_holding (wpAny_genNumber hg (wpAny_bind (wpAny_genState hgs ?_))))
  cases gs with
  | running => exact hgo.elim
  | finished => exact hgo.elim
  | _ =>
    refine wpAny_bind (wpAny_roomToWake hl hroom ?_)
    show wpAny _ A.in1 (.resume g (.send .none) [] _) _ _ s
    refine wpAny_resumeQ hgs hgo (fun x s₁ hx => ?_) (fun v s₁ gs' hb hv => ?_)
    · rcases hR x s₁ hx with ⟨rfl, hp⟩ | ⟨xa, eo, rfl, heo, hcls, hg1, hE⟩
      · show wpAny _ A.in1 (newExc (.type "StopIteration") [] >>= _) _ _ _
        refine wpAny_bind ?_
        simp only [newExc, newTuple]
        refine wpAny_bind (wpAny_newObj_type ?_ (by size_fits))
        refine wpAny_bind (m := firstArgMember _ _) (wpAny_of_eq (a := Value.none) (by first | rfl | (simp only [firstArgMember]; rfl)) ?_)
        refine wpAny_newObj_type ?_ (by size_fits)
        simp only [raiseNew]
        refine wpAny_bind (wpAny_bind (wpAny_handled ?_))
        first | rw [show A.in1.handled = none from hh] | rw [hh]
        refine wpAny_throw ?_
        refine wpAny_bind (wpAny_isInstance (T := "StopIteration") (b := true) ⟨_, Heap.get?_push_size _ rfl, rfl⟩ isSubtype_stop ?_)
        exact wpAny_pure (hp _ fun b o hb => Heap.get?_push_of_some _ (Heap.get?_push_of_some _ hb))
      · have hty : (s₁.setGen g .finished).TypeIs (.ref xa) "ValueError" := ⟨eo, heo, hcls⟩
        show wpAny _ A.in1 (Builtin.Generator.genLeft (.ref a) (.ref xa)) _ _ (s₁.setGen g .finished)
        unfold Builtin.Generator.genLeft
        refine wpAny_bind (lambda_no (s := s₁.setGen g .finished) (a := a) (g := g) hg1 ?_)
        refine wpAny_bind (wpAny_isInstance (T := "ValueError") (b := false) hty value_not_stop ?_)
        show wpAny _ A.in1 (Builtin.Generator.genEscaped (.ref xa)) _ _ (s₁.setGen g .finished)
        unfold Builtin.Generator.genEscaped
        refine wpAny_bind (wpAny_isInstance (T := "ValueError") (b := false) hty value_not_stop ?_)
        refine wpAny_throw ?_
        refine wpAny_bind (wpAny_isInstance (T := "ValueError") (b := false) hty value_not_stop ?_)
        exact wpAny_throw hE
    · exact wpAny_pure ⟨v, rfl, wpAny_pure (hY v s₁ gs' hb hv)⟩
end
end Mine
end
/-! part E15 -/
section
open PySem PySem.Calls PySem.Spec PyProof.Rows PySem.W PySem.SeqAt
open Sem (wp)
set_option Elab.async false
set_option linter.unusedVariables false
set_option maxRecDepth 100000
set_option maxHeartbeats 1000000
namespace Mine
section
variable {prog : Program} {w : World} {A : Around} {E : Value → Shared → Prop} {s s' s₀ : Shared} {mg mb : Str → Option Value} {C : GC w mg mb} {m : Str → Option Value} {i : Nat}
/-- the generator's start, no error ahead -/
theorem seg_start {n : Nat} {out xs : List Int} (hh : A.handled = none) (hn : s.heap.Ns C.L m) (hm : m "grouping" = some (.ref C.l)) (hI : C.I = s.heap.objs.size) (kg : Keep C.g s.heap) (li : s.heap.IsList C.l C.items)
    (hit : ∀ (j : Nat) (x : Int), xs[j]? = some x → ∃ t, C.items[j]? = some (Value.int x t)) (hlen : C.items.size = xs.length) (ho : out = gout (n + 1) xs none) (hz : xs[0]? ≠ some 0) :
    Seg (model prog w) A (Rg C (n + 1) out) (Yg C (n + 1) out) (n + 1) s (.func (genBody w.params) (gEnv w.params C.L)) ((model prog w).den (.func (genBody w.params) (gEnv w.params C.L))) [] s := by
  refine seg_func (seg_execs_cons (seg_wrap (wpAny_Assign_Name (wpAny_of_eq (a := Value.none) rfl ?_))))
  refine wpAny_storeName_local rfl hn fun h2 hn2 hs2 => ?_
  replace hs2 : Heap.SameBut C.L s.heap h2 := hs2
  replace hn2 : h2.Ns C.L _ := hn2
  have hIf : s.heap.get? C.I = none := by rw [hI]; exact get_new _
  have hsz : h2.objs.size = C.I := by rw [hs2.1, hI]
  have hm2 : (fun x => if x = "last_interval" then some Value.none else m x) "grouping" = some (.ref C.l) := by rw [← hm]; rfl
  have kg2 : Keep C.g h2 := fun b o e => (hs2.2 b (fun q => by rw [q, C.L0] at e; cases e)).trans (kg b o e)
  have li2 : h2.IsList C.l C.items := li.at fun o e => (hs2.2 _ C.lL).trans e
  refine seg_execs_cons (seg_For (name_at hn2 hm2 (wpAny_pyIter_list li2 fun p => ?_)))
  have hstep : ∀ {h' : Heap} {tk : Nat}, h' = h2.push { cls := .type "list_iterator", data := .fields #[.ref C.l, .int (0 : Nat) 0] } → GS C s (fun x => if x = "last_interval" then some Value.none else m x) 0 { s with heap := h', toks := tk } := by
    intro h' tk q
    subst q
    have kp : ∀ b o, h2.get? b = some o → (h2.push { cls := .type "list_iterator", data := .fields #[.ref C.l, .int (0 : Nat) 0] }).get? b = some o := fun b o e => Heap.get?_push_of_some _ e
    refine ⟨fun b o e => kp _ _ (kg2 b o e), hn2.keeps kp, ?_, li2.at fun o e => kp _ _ e, ⟨_, _, rfl, fun b o h1 _ e => kp _ _ ((hs2.2 b h1).trans e)⟩⟩
    exact ⟨_, by rw [← hsz]; exact Heap.get?_push_size _ rfl, rfl, rfl⟩
  dsimp only
  rw [hsz]
  refine seg_loop hit hlen hh (fun n' s₁ s₂ f hf hr => ?_) n 0 none _ s _ (Nat.le_refl _) ?_ (hstep rfl) rfl (fun _ => hz)
  · rcases hf with rfl | rfl
    · exact seg_end (.ok (.ret .none)) hr
    · exact seg_end (.ok (.ret .none)) hr
  · rw [Nat.sub_self]; exact ho
end
end Mine
end
/-! part E16 -/
section
open PySem PySem.Calls PySem.Spec PyProof.Rows PySem.W PySem.SeqAt
open Sem (wp)
set_option Elab.async false
set_option linter.unusedVariables false
set_option maxRecDepth 100000
set_option maxHeartbeats 1000000
namespace Mine
/-! ## the generator's error -/
section
variable {M : Model} {A : Around} {E : Value → Shared → Prop} {s : Shared}
theorem note_firstW {base : Heap} {env : Env} {outer : List Env} {L e : Addr} {oe : Obj} {vs : Array Value} {a0 : Value} {Q : Unit → Shared → Prop}
    (hfr : A.frames = some (env :: outer)) (hl : s.heap.FunFrames base (env :: outer)) (hf : env.frame = some L)
    (he : s.heap.get? e = some oe) (hkb : base.StaysIn s.heap) (hen : base.get? e = none) (hd : oe.data = .fields vs) (h1 : vs[1]? = some .none) (h0 : vs[0]? = some a0)
    (h : ∀ h', Heap.NotedW base (env :: outer) e oe.cls a0 (rawInt L) s.heap h' → Q () { s with heap := h' }) : wpAny M A (noteFrame (.ref e) env) Q E s := by
  unfold noteFrame
  simp only [hf]
  refine wpAny_bind (wpAny_field he hd h1 ?_)
  rw [if_neg (by decide)]
  exact wpAny_entryW hfr hl hf he hkb hen hd (Array.getElem?_eq_some_iff.mp h1).1 h0 h
theorem flight_heldW {base : Heap} {l : List Env} {e L : Addr} {cls a0 : Value} {Q : Unit → Shared → Prop} (R : Heap.HeldW base l e cls a0 L s.heap)
    (h : ∀ h', Heap.HeldW base l e cls a0 L h' → s.heap.UpToSlots h' → Q () { s with heap := h' }) : wpAny M A (setFlight (.ref e) (some L)) Q E s := by
  obtain ⟨hkb, hen, hl, oe, vs, T, oT, ts, he, hcls, hd, h1, hnT, hTe, hT, hdT, h3⟩ := R
  have hsz3 : 3 < ts.size := (Array.getElem?_eq_some_iff.mp h3).1
  have other : ∀ b, b ≠ T → (s.heap.update T (Obj.mapFields (·.setIfInBounds 3 ((some L).elim Value.none fun f => rawInt f)))).get? b = s.heap.get? b :=
    fun b hb => Heap.get?_update_other _ _ (Ne.symm hb)
  have noRecord : ∀ b o, s.heap.get? b = some o → (∀ vs, o.data ≠ .fields vs) → b ≠ T := fun b o hb hnf q => by
    rw [q, hT] at hb; injection hb with hb; subst hb; exact hnf ts hdT
  unfold setFlight
  refine wpAny_bind (wpAny_field he hd h1 ?_)
  rw [if_pos (show (Value.ref T != Value.none) = true from by simp)]
  refine wpAny_setField hT hdT hsz3 (h _ ⟨fun b o hbo => (other b fun q => by rw [q, hnT] at hbo; cases hbo).trans (hkb b o hbo), hen,
    hl.of_keeps fun b o hb hnf => ⟨o, (other b (noRecord b o hb hnf)).trans hb, rfl⟩, ?_⟩ fun b o hb hnf => ⟨o.slots, (other b (noRecord b o hb hnf)).trans hb⟩)
  exact ⟨oe, vs, T, _, _, (other e (Ne.symm hTe)).trans he, hcls, hd, h1, hnT, hTe, Heap.get?_update_self _ hT (Obj.isFreed_of_fields (Obj.data_mapFields hdT _)), Obj.data_mapFields hdT _, by simp [hsz3]⟩
/-- a function whose frame is in the list -/
noncomputable def FrOk (as : List Addr) (h : Heap) (env : Env) : Prop := env.scope.kind ≠ .module ∧ ∃ L m, env.frame = some L ∧ L ∈ as ∧ h.Ns L m
theorem funFrames_mk {as : List Addr} {h : Heap} : ∀ {l : List Env}, (∀ env ∈ l, FrOk as h env) → h.FunFrames (hideAll h as) l
  | [], _ => trivial
  | env :: r, hl => by
    obtain ⟨hk, L, m, hf, hin, o, es, ep, ho, hd, _⟩ := hl env List.mem_cons_self
    exact ⟨hk, ⟨L, o, hf, hideAll_none _ hin, ho, fun vs q => by rw [hd] at q; cases q⟩, funFrames_mk fun e he => hl e (List.mem_cons_of_mem _ he)⟩
end
section
variable {prog : Program} {w : World} {A : Around} {E : Value → Shared → Prop} {s s' s₀ : Shared} {mg mb : Str → Option Value} {C : GC w mg mb} {m : Str → Option Value} {i : Nat}
theorem raise_VE {env : Env} {msg : Str} {np cpos pos p : Pos} {k : Nat} {Q : Flow → Shared → Prop} (hh : A.handled = none) (B : Base w s.heap mg mb) (hk : env.scope.kind = .function) (hx : env.kindOf "ValueError" = some .globalImplicit) (hg : env.globals = mainGlobals) (hb : env.builtins = builtinsNs)
    (h : ∀ h' e tk t, Heap.MadeExc s.heap h' e "ValueError" [.str msg t] → E (.ref e) { s with heap := h', toks := tk }) :
    wpAny (model prog w) A (exec (.Raise (some (.Call (.Name "ValueError" np) [.Constant (.str msg) k p] [] cpos)) none pos) env) Q E s := by
  have ht : backTo cpos (starEach [.Constant (.str msg) k p] env) = [(false, eval (.Constant (.str msg) k p) env)] := by rfl
  refine wpAny_Raise_call PySem.F.excCall_ValueError PySem.F.excRaise_ValueError hh (by rw [ht]; rfl) ?_
  refine Name_function_global hk hx (loadGlobal_builtin (by rw [hg]; exact B.gl.gl) (B.no rfl) (by rw [hb]; exact B.gl.bu) ((B.gl.boot _ (by decide)).trans rfl) ⟨rfl, ?_⟩) (by decide)
  rw [ht]
  refine evalArgs_plain (spliced_cons (Constant_str ?_))
  refine spliced_nil ⟨rfl, by rw [sizeLine_eq]; exact Nat.le_of_ble_eq_true rfl, fun h4 e hme => h h4 e _ _ hme⟩
/-- the error has left the generator -/
noncomputable def Rerr (L : Addr) (outer : List Env) (as : List Addr) : GenEnd := fun _ s₀ r s₁ => ∃ x a0 h0, r = .error (.ref x) ∧ (∃ h tk, s₁ = { s₀ with heap := h, toks := tk }) ∧ (∀ b o, b ≠ L → s₀.heap.get? b = some o → h0.get? b = some o) ∧ h0.UpToSlots s₁.heap ∧
  Heap.FlyingW (hideAll h0 as) outer x (.type "ValueError") a0 s₁.heap
theorem seg_err {Y : Protocol} {n : Nat} {outer : List Env} {as : List Addr} {t : Tok} (hh : A.handled = none) (hfr : A.frames = some outer) (hF : ∀ env ∈ outer, FrOk as s.heap env) (hLo : ∀ env ∈ outer, ∀ L, env.frame = some L → L ≠ C.L) (hLas : C.L ∈ as)
    (hn : s.heap.Ns C.L m) (hm : m "grouping" = some (.ref C.l)) (hI : C.I = s.heap.objs.size) (kg : Keep C.g s.heap) (li : s.heap.IsList C.l C.items) (hz : C.items[0]? = some (.int 0 t)) :
    Seg (model prog w) A (Rerr C.L outer as) Y n s (.func (genBody w.params) (gEnv w.params C.L)) ((model prog w).den (.func (genBody w.params) (gEnv w.params C.L))) [] s := by
  refine seg_func (seg_execs_cons (seg_wrap (wpAny_Assign_Name (wpAny_of_eq (a := Value.none) rfl ?_))))
  refine wpAny_storeName_local rfl hn fun h2 hn2 hs2 => ?_
  replace hs2 : Heap.SameBut C.L s.heap h2 := hs2
  replace hn2 : h2.Ns C.L _ := hn2
  have hIf : s.heap.get? C.I = none := by rw [hI]; exact get_new _
  have hsz : h2.objs.size = C.I := by rw [hs2.1, hI]
  have hm2 : (fun x => if x = "last_interval" then some Value.none else m x) "grouping" = some (.ref C.l) := by rw [← hm]; rfl
  have kg2 : Keep C.g h2 := fun b o e => (hs2.2 b (fun q => by rw [q, C.L0] at e; cases e)).trans (kg b o e)
  have li2 : h2.IsList C.l C.items := li.at fun o e => (hs2.2 _ C.lL).trans e
  refine seg_execs_cons (seg_For (name_at hn2 hm2 (wpAny_pyIter_list li2 fun p => ?_)))
  have hstep : ∀ {h' : Heap} {tk : Nat}, h' = h2.push { cls := .type "list_iterator", data := .fields #[.ref C.l, .int (0 : Nat) 0] } → GS C s (fun x => if x = "last_interval" then some Value.none else m x) 0 { s with heap := h', toks := tk } := by
    intro h' tk q
    subst q
    have kp : ∀ b o, h2.get? b = some o → (h2.push { cls := .type "list_iterator", data := .fields #[.ref C.l, .int (0 : Nat) 0] }).get? b = some o := fun b o e => Heap.get?_push_of_some _ e
    refine ⟨fun b o e => kp _ _ (kg2 b o e), hn2.keeps kp, ?_, li2.at fun o e => kp _ _ e, ⟨_, _, rfl, fun b o h1 _ e => kp _ _ ((hs2.2 b h1).trans e)⟩⟩
    exact ⟨_, by rw [← hsz]; exact Heap.get?_push_size _ rfl, rfl, rfl⟩
  dsimp only
  rw [hsz]
  have G := hstep (tk := s.toks + 1) rfl
  refine seg_forLoop ?_
  refine wpAny_pyNext_list_item G.it G.li hz fun h' hit' hs => ?_
  have G1 := G.next (tk := s.toks + 1) hit' hs.extBut
  refine wpAny_storeName_local rfl G1.ns fun h3 hn3 hs3 => ?_
  have G2 := G1.store (tk := s.toks + 1 + 1) hn3 hs3
  have hmi : (fun y => if y = "interval" then some (Value.int 0 t) else if y = "last_interval" then some Value.none else m y) "interval" = some (.int 0 t) := if_pos rfl
  refine seg_execs_cons (seg_If (g_eq127 G2 hmi ⟨(fun q => nomatch q), fun _ => ?_⟩))
  refine seg_execs_nil (seg_execs_cons (seg_If (g_eq0 G2 hmi fun tk => ⟨fun _ => ?_, (fun q => nomatch q)⟩)))
  have G3 := G2.toks (tk := tk)
  refine seg_execs_cons (seg_If (g_isNone G3 (v := .none) (by rfl) rfl ⟨fun _ => ?_, (fun q => nomatch q)⟩))
  refine seg_execs_cons (seg_wrap ?_)
  refine raise_VE hh G3.B rfl rfl rfl rfl fun h4 e tk4 t4 hme => ?_
  replace hme : Heap.MadeExc h3 h4 e "ValueError" _ := hme
  obtain ⟨tt, he, htn, htt⟩ := hme.there
  have hkeep := hme.keeps
  have hs03 : ∀ b o, b ≠ C.L → s.heap.get? b = some o → h3.get? b = some o := by
    intro b o hb q
    obtain ⟨_, _, e1, h1⟩ := G3.since
    cases e1
    exact h1 b o hb (fun z => by rw [z, hIf] at q; cases q) q
  have hframes : (A.over (.forLoop (.Name "interval" (loopPx w.params)) (.ref C.I) (loopBody w.params) [] (gEnv w.params C.L)) [.ret (fun _ => .pure (.done .next)) none false [] (.func (genBody w.params) (gEnv w.params C.L)) p []]).frames = some (gEnv w.params C.L :: outer) := by
    unfold Around.over
    dsimp only
    rw [hfr]
    rfl
  have hFF : ∀ env ∈ gEnv w.params C.L :: outer, FrOk as h3 env := by
    intro env he
    rcases List.mem_cons.mp he with rfl | he
    · exact ⟨(fun q => nomatch q), C.L, _, rfl, hLas, G3.ns⟩
    · obtain ⟨h1, L, mm, h2', h3', h4'⟩ := hF env he
      exact ⟨h1, L, mm, h2', h3', h4'.at' fun o q => hs03 L o (hLo env he L h2') q⟩
  have hfun := funFrames_mk hFF
  have hst : (hideAll h3 as).StaysIn h4 := fun b o q => hkeep b o (of_hideAll _ q)
  have hen : (hideAll h3 as).get? e = none := by
    cases q : (hideAll h3 as).get? e with
    | none => rfl
    | some o => have := of_hideAll _ q; rw [hme.new] at this; cases this
  refine seg_bind (m := (do noteFrame (.ref e) (gEnv w.params C.L); theTreesLotGoes (.ref e) : Sem Unit)) (wpAny_bind (note_firstW (base := hideAll h3 as) (a0 := .ref tt) hframes (hfun.of_keeps fun b o ho _ => ⟨o, hkeep b o ho, rfl⟩) rfl he hst hen rfl rfl rfl fun h5 hN => ?_))
  obtain ⟨k1, k2, k3, k4⟩ := hN
  have hH : Heap.HeldW (hideAll h3 as) (gEnv w.params C.L :: outer) e (.type "ValueError") (.ref tt) C.L h5 := ⟨k1, hen, k2, k3⟩
  have hU : h3.UpToSlots h5 := (Heap.UpToSlots.of_keeps hkeep).trans k4
  refine wpAny_theTreesLotGoes ?_
  refine seg_leaf (.error (.ref e)) ?_
  refine seg_bindw (m := (do
        if (← field (.ref e) 1) == Value.none then unsupported "frame.own-activation:exception-without-traceback"
        setFlight (.ref e) (gEnv w.params C.L).frame : Sem Unit)) (f := fun _ => (.raise (.ref e) : Sem Flow)) ?_
  obtain ⟨oe, vs, T, oT, ts, q1, q2, q3, q4, _⟩ := id k3
  refine wpAny_bind (wpAny_field q1 q3 q4 ?_)
  rw [if_neg (show ¬ ((Value.ref T == Value.none) = true) from by simp)]
  refine flight_heldW hH fun h6 hH6 hU6 => ?_
  refine seg_wrap (m := leaving (gEnv w.params C.L) (.ref e)) ?_
  unfold leaving
  refine wpAny_bind (wpAny_noteFrame_againW rfl hH6.2.2.2 (wpAny_landsW hH6 fun h7 hfl hU7 => ?_))
  refine seg_end (.error (.ref e)) ⟨e, .ref tt, h3, rfl, ⟨h7, tk4, ?_⟩, hs03, hU.trans (hU6.trans hU7), ?_⟩
  · obtain ⟨_, _, e1, _⟩ := G3.since
    cases e1
    rfl
  · obtain ⟨f1, f2, ⟨_, _, f3⟩, f4⟩ := hfl
    exact ⟨f1, f2, f3, f4⟩
end
end Mine
end
/-! part E17 -/
section
open PySem PySem.Calls PySem.Spec PyProof.Rows PySem.W PySem.SeqAt
open Sem (wp)
set_option Elab.async false
set_option linter.unusedVariables false
set_option maxRecDepth 100000
set_option maxHeartbeats 1000000
namespace Mine
section
variable {prog : Program} {w : World} {A : Around} {E : Value → Shared → Prop} {s s' s₀ : Shared} {mg mb : Str → Option Value}
theorem gen_cells (P : Params) : ∀ x ∈ (genFd P).scope.names, x.2 ≠ .cell := by
  have h : (genFd P).scope.names.all (fun x => x.2 != .cell) = true := rfl
  intro x hx
  have := List.all_eq_true.mp h x hx
  simpa using this
/-- a new generator -/
structure NewGen (P : Params) (l : Addr) (s : Shared) (L a : Addr) (h' : Heap) : Prop where
  keep : Keep s.heap h'
  Lnew : s.heap.get? L = none
  ns : h'.Ns L (fun x => [(("grouping" : Str), Value.ref l)].reverse.lookup x)
  anew : s.heap.get? a = none
  La : a ≠ L
  gen : h'.IsGen a s.gens.size
theorem code_gen {l : Addr} {R : Result → Shared → Prop} (B : Base w s.heap mg mb) (hroom : A.depth < recursionLimit)
    (h : ∀ h' L a tk, NewGen w.params l s L a h' → R (.ok (.ret (.ref a))) { s with gens := s.gens.push (.fresh (.func (genBody w.params) (gEnv w.params L))), toks := tk, heap := h' }) :
    codeAny (model prog w) A (.call (.ref aGen) ⟨[.ref l], []⟩) R s := by
  refine codeAny_call_generator (fd := genFd w.params) (body := genBody w.params) hroom (B.K _ _ rfl) rfl rfl rfl rfl (codeRec_of B.K (by rfl)) ?_
  refine BindsTo.of_eq (binds := [("grouping", .ref l)]) rfl _ _ _ _ ?_
  refine wpAny_newFunctionEnv (gen_cells _) ?_ fun h' hn' hs' => ?_
  · intro y hy
    simp only [List.mem_cons, List.not_mem_nil, or_false] at hy
    rcases hy with rfl
    rfl
  have k1 : Keep s.heap h' := fun b o e => hs'.extBut b o (Nat.ne_of_lt (Heap.lt_size e)) (Heap.get?_push_of_some _ e)
  have hsz : h'.objs.size = s.heap.objs.size + 1 := by rw [hs'.1, Heap.size_push]
  refine ⟨B.gl.lim.keeps k1, ?_⟩
  refine h _ s.heap.objs.size h'.objs.size _ ⟨fun b o e => Heap.get?_push_of_some _ (k1 b o e), get_new _, hn'.push _, none_of_fresh (by rw [hsz]; exact Nat.le_succ _), by rw [hsz]; exact Nat.succ_ne_self _, ⟨_, _, _, Heap.get?_push_size _ rfl, rfl, rfl, rfl⟩⟩
end
end Mine
end
/-! part E18 -/
section
open PySem PySem.Calls PySem.Spec PyProof.Rows PySem.W PySem.SeqAt
open Sem (wp)
set_option Elab.async false
set_option linter.unusedVariables false
set_option maxRecDepth 100000
set_option maxHeartbeats 1000000
namespace Mine
/-- what pop_from leaves -/
noncomputable def cutL {α : Type} (l : List α) (lo : Int) : List α := l.take (sliceBounds (some lo) none none l.length).1.toNat ++ l.drop (max (sliceBounds (some lo) none none l.length).1 (sliceBounds (some lo) none none l.length).2.1).toNat
theorem Al.take {K : Kn} : ∀ {Ps : List DP} {vs : List Value} (n : Nat), Al K Ps vs → Al K (Ps.take n) (vs.take n)
  | _, _, 0, _ => by rw [List.take_zero, List.take_zero]; exact .nil
  | _, _, _ + 1, .nil => by rw [List.take_nil, List.take_nil]; exact .nil
  | _, _, n + 1, .cons a r => by rw [List.take_succ_cons, List.take_succ_cons]; exact .cons a (Al.take n r)
theorem Al.drop {K : Kn} : ∀ {Ps : List DP} {vs : List Value} (n : Nat), Al K Ps vs → Al K (Ps.drop n) (vs.drop n)
  | _, _, 0, h => h
  | _, _, _ + 1, .nil => by rw [List.drop_nil, List.drop_nil]; exact .nil
  | _, _, n + 1, .cons a r => by rw [List.drop_succ_cons, List.drop_succ_cons]; exact Al.drop n r
theorem Al.cutL {K : Kn} {Ps : List DP} {vs : List Value} (al : Al K Ps vs) (lo : Int) : ∃ ws : List Value, cutTo vs.toArray lo = ws.toArray ∧ Al K (cutL Ps lo) ws := by
  refine ⟨Mine.cutL vs lo, ?_, ?_⟩
  · unfold cutTo Mine.cutL
    rw [List.size_toArray]
    apply Array.toList_inj.mp
    simp [List.extract_eq_drop_take]
    rw [List.take_of_length_le]
    simp
  · unfold Mine.cutL
    rw [al.length]
    exact (al.take _).append (al.drop _)
section
variable {prog : Program} {w : World} {A : Around} {E : Value → Shared → Prop} {s s' : Shared} {mg mb : Str → Option Value} {F : Fm} {K K' X : Kn} {ρ ρ' : Ro prog w} {Φ : Out → Ro prog w → Prop}
/-- v = v + row.pop_from(e1) -/
theorem Ex.pop {n : Nat} {y v : Str} {e1 : PySem.Expr} {p0 p1 px apos pos bpos epos : Pos} {Ps Qs : List DP} {lo : Int} (ok : Fok n F) (B : Base w F.g mg mb) (hroom : F.A.depth < recursionLimit) (hy : ρ y = some (.obj (accD w.params Ps))) (hv : ρ v = some (.frz (dList Qs))) (hvo : Own1 F v) (hvy : v ≠ y)
    (hsz : Ps.length ≤ 1000) (hsz2 : Qs.length ≤ 1000) (ha : Evl F ρ [e1] [.frz (dInt lo)])
    (h : ∀ ρ' : Ro prog w, ρ' y = some (.obj (accD w.params (cutL Ps lo))) → ρ' v = some (.frz (dList (Qs ++ pickL Ps (some lo) none none))) → (∀ z, z ≠ y → z ≠ v → ρ' z = ρ z) → Φ .next ρ')
    (hbase : attributeBase (.Name y px) "pop_from" F.env (eval (.Name y px) F.env) = eval (.Name y px) F.env := by rfl)
    {pl : Sem Bool} (he : eval (.Call (.Attribute (.Name y px) "pop_from" apos) [e1] [] pos) F.env = (do
      let ov ← attributeBase (.Name y px) "pop_from" F.env (eval (.Name y px) F.env)
      standAt apos.atName
      let (f, first) ← holding [ov] (getMethod ov "pop_from" pl)
      callWith pos f first (backTo pos (starEach [e1] F.env)) []) := by rfl)
    (ht : backTo pos (starEach [e1] F.env) = [e1].map fun e => (false, eval e F.env) := by rfl)
    (hs : swapsWith (.BinOp (.Name v p1) .Add (.Call (.Attribute (.Name y px) "pop_from" apos) [e1] [] pos) bpos) (some (.Name v p0)) epos.line F.env = pure false := by with_unfolding_all rfl)
    (hd : (y == ("__debug__" : Str)) = false := by decide) (hc : (y == ("__classdict__" : Str)) = false := by decide) (hd' : (v == ("__debug__" : Str)) = false := by decide) (hc' : (v == ("__classdict__" : Str)) = false := by decide) :
    Ex F [.Assign [.Name v p0] (.BinOp (.Name v p1) .Add (.Call (.Attribute (.Name y px) "pop_from" apos) [e1] [] pos) bpos) epos] ρ Φ := Ex.last fun K X s Q E S k => by
  refine wpAny_Assign_Name (wpAny_BinOp ((Ev.name ok hv hd' hc').out K X s _ E S fun K₀ s₀ av e₀ hav => ?_)) hs
  have S₀ := S.ext e₀
  refine wpAny_MethodCall (load_own ok S₀ hy (fun u H hu => ?_) hd hc) hbase he
  obtain ⟨x, o, rfl, hxo, hsm, hrep⟩ := hu
  obtain ⟨d, od, vs, I, al, hKd, hns, hdn⟩ := accD_is S₀.kin hxo hrep
  have Bs := B.keeps (hk_keeps S₀.gk S₀.kin)
  refine I.method Bs.K (mOf_pop _) rfl rfl hdn rfl ?_
  dsimp only
  refine callWith_function (evalArgs_of (by rw [ht]; exact ha.evs) (by rw [ht]; exact plain_trees) S₀ fun K₁ s₁ us e₁ r => ⟨⟨Base.K (Bs.keeps e₁.keep) _ _ rfl, rfl⟩, ?_⟩)
  have S₁ := S₀.ext e₁
  have B₁ := Bs.keeps e₁.keep
  have al2 : Al K₁ [dInt lo] us := r.al (Ps := [dInt lo])
  cases al2 with
  | cons hu al3 =>
    cases al3
    obtain ⟨t, rfl⟩ := hu
    have I₁ := I.keeps e₁.keep
    refine wpAny_call (code_pop (xs := vs.toArray) B₁ I₁ (by rw [List.size_toArray, al.length]; exact hsz) hroom (.inl rfl) fun h' tk p kb ft hp I' => ?_)
    have hKx : K₁ x = none := by
      obtain ⟨u', h1, h2, h3⟩ := S₀.vars y _ hy
      have := H.inj h1
      obtain ⟨a, ea, h4, _⟩ := h3 rfl
      rw [← this] at ea
      cases ea
      exact (e₁.old _ _ hxo).trans h4
    have eo : ExtO x s₁ { s₁ with heap := h', toks := tk } K₁ K₁ := ⟨⟨rfl, .refl _⟩, kb, .refl _, fun _ _ _ => rfl, fun b o' q => kb b o' (fun z => by subst z; rw [hKx] at q; cases q) (S₁.kin b o' q)⟩
    obtain ⟨ws, hws, alw⟩ := (al.mono e₁.le).cutL lo
    rw [hws] at I'
    have S₂ := S₁.extO hy rfl (H.keep e₁.keep) eo (R' := .obj (accD w.params (cutL Ps lo))) (accD_of hsm I' alw (e₁.le _ _ hKd) hns) rfl
    refine bin_ladd (Ps := Qs) (Qs := pickL Ps (some lo) none none) ?_ K₁ _ av (.ref p) _ E S₂.kin (V.rd_of_cold (x := .lst Qs) S₂.kin ((dList Qs).mono e₁.le hav)) ⟨p, _, 0, rfl, hp, (al.mono e₁.le).pick (some lo) none none⟩ fun K₃ s₃ a e₃ hr hka hnew => ?_
    · have : (pickL Ps (some lo) none none).length ≤ 1000 := by
        have h1 := ((al.mono e₁.le).pick (some lo) none none).length
        have h2 := slicePick_size_le vs.toArray (some lo) none none
        have h3 : vs.toArray.size = Ps.length := by rw [List.size_toArray, al.length]
        rw [← h1]
        exact Nat.le_trans h2 (by rw [h3]; exact hsz)
      rw [sizeLine_eq]
      omega
    · have S₃ := S₂.ext e₃
      refine store_name ok S₃ hvo (fit_new S₂ e₃ hr hka hnew) fun s₄ S₄ r₄ => ?_
      obtain ⟨K₅, S₅, hle, hold⟩ := S₄.freeze (upd_self _ _ _)
      refine k K₅ s₄ .next .next _ (h _ ?_ ?_ ?_) rfl S₅ ?_
      · rw [upd_ne _ _ (Ne.symm hvy), upd_ne _ _ (Ne.symm hvy)]; exact upd_self _ _ _
      · exact upd_self _ _ _
      · intro z hz1 hz2
        rw [upd_ne _ _ hz2, upd_ne _ _ hz2, upd_ne _ _ hz1]
      · have st1 := (e₀.trans e₁).stp (X := X) S.xin
        refine st1.trans ⟨⟨?_, ?_⟩, (e₃.le).trans hle, fun b o' q => (hold b o' q).trans (e₃.old b o' (S₂.xin b o' q))⟩
        · exact (e₃.rest.trans r₄).os
        · exact (e₃.rest.trans r₄).gens
end
end Mine
end
/-! part E19 -/
section
open PySem PySem.Calls PySem.Spec PyProof.Rows PySem.W PySem.SeqAt
open Sem (wp)
set_option Elab.async false
set_option linter.unusedVariables false
set_option maxRecDepth 100000
set_option maxHeartbeats 1000000
namespace Mine
theorem GExt.size {g g' : Array GenState} (h : GExt g g') : g.size ≤ g'.size := by
  obtain ⟨l, e, _⟩ := h
  have := congrArg List.length e
  rw [List.length_append, Array.length_toList, Array.length_toList] at this
  omega
theorem GExt.get {g g' : Array GenState} (h : GExt g g') {i : Nat} {x : GenState} (e : g[i]? = some x) : g'[i]? = some x := by
  obtain ⟨l, e', _⟩ := h
  rw [← Array.getElem?_toList] at e ⊢
  rw [e', List.getElem?_append_left (by
    have := (List.getElem?_eq_some_iff.mp e).1
    exact this)]
  exact e
theorem GExt.push {g g' : Array GenState} (h : GExt g g') {x : GenState} (hb : x.bare = true) : GExt g (g'.push x) := by
  obtain ⟨l, e, b⟩ := h
  refine ⟨l ++ [x], by rw [Array.toList_push, e, List.append_assoc], fun y hy => ?_⟩
  rcases List.mem_append.mp hy with h1 | h1
  · exact b y h1
  · rw [List.mem_singleton.mp h1]; exact hb
theorem GExt.set {g g' : Array GenState} (h : GExt g g') {i : Nat} {x : GenState} (hi : g.size ≤ i) (hb : x.bare = true) : GExt g (g'.setIfInBounds i x) := by
  obtain ⟨l, e, b⟩ := h
  refine ⟨l.set (i - g.size) x, ?_, fun y hy => ?_⟩
  · rw [Array.toList_setIfInBounds, e, List.set_append_right _ _ (by rw [Array.length_toList]; exact hi), Array.length_toList]
  · rcases List.mem_or_eq_of_mem_set hy with h1 | h1
    · exact b y h1
    · rw [h1]; exact hb
section
variable {prog : Program} {w : World} {A : Around} {E : Value → Shared → Prop} {s s' : Shared} {mg mb : Str → Option Value} {F : Fm} {K K' X : Kn} {ρ ρ' : Ro prog w} {Φ : Out → Ro prog w → Prop}
theorem Sat.heapEq (S : Sat F K X ρ s) (e : s'.heap = s.heap) : Sat F K X ρ s' := by
  obtain ⟨h, g, d, t, os⟩ := s
  obtain ⟨h', g', d', t', os'⟩ := s'
  dsimp only at e
  subst e
  exact ⟨S.gk, S.kin, S.xin, S.ns, S.kl, S.xl, S.cel, S.inj, S.live, S.vars, S.sep⟩
theorem Off.heapEq {b : Addr} (f : Off F K X ρ s b) (e : s'.heap = s.heap) : Off F K X ρ s' b := by
  obtain ⟨h, g, d, t, os⟩ := s
  obtain ⟨h', g', d', t', os'⟩ := s'
  dsimp only at e
  subst e
  exact ⟨f.k, f.x, f.l, f.c, f.v⟩
/-- the generator, j items told -/
noncomputable def GA (prog : Program) (w : World) (A : Around) (mg mb : Str → Option Value) (Fg : Heap) (l : Addr) (items : Array Value) (N : Nat) (out : List Int) (L g j : Nat) (off : Addr → Prop) (s : Shared) : Prop :=
  (j = 0 ∧ s.gens[g]? = some (.fresh (.func (genBody w.params) (gEnv w.params L))) ∧ s.heap.Ns L (fun x => [(("grouping" : Str), Value.ref l)].reverse.lookup x)) ∨
  (∃ C : GC w mg mb, C.g = Fg ∧ C.L = L ∧ C.l = l ∧ C.items = items ∧ off C.I ∧ ∃ gs, s.gens[g]? = some gs ∧ ∀ s'', Agr C s s'' → gs.Goes (model prog w) A.in1 (Rg C (N + 1) out) (Yg C (N + 1) out) (N + 1 - j) (.send .none) s'')
theorem Agr.refl {C : GC w mg mb} (h : Keep C.g s.heap) (e : s'.heap = s.heap) : Agr C s s' := ⟨by rw [e]; exact h, fun b _ o q => by rw [e]; exact q⟩
theorem GA.goes {Fg : Heap} {l : Addr} {items : Array Value} {N : Nat} {out xs : List Int} {L g j : Nat} {off : Addr → Prop} (h : GA prog w A mg mb Fg l items N out L g j off s) (hh : A.handled = none) (B : Base w Fg mg mb) (kg : Keep Fg s.heap) (hL : Fg.get? L = none) (lL : l ≠ L)
    (li : s.heap.IsList l items) (hit : ∀ (j : Nat) (x : Int), xs[j]? = some x → ∃ t, items[j]? = some (Value.int x t)) (hlen : items.size = xs.length) (ho : out = gout (N + 1) xs none) (hz : xs[0]? ≠ some 0) (hj : j ≤ N) (hLs : ∃ o, s.heap.get? L = some o) :
    ∃ (C : GC w mg mb) (gs : GenState), C.g = Fg ∧ C.L = L ∧ C.l = l ∧ C.items = items ∧ (off C.I ∨ s.heap.get? C.I = none) ∧ s.gens[g]? = some gs ∧ gs.Goes (model prog w) A.in1 (Rg C (N + 1) out) (Yg C (N + 1) out) (N + 1 - j) (.send .none) (s.setGen g .running) := by
  rcases h with ⟨rfl, hg, hn⟩ | ⟨C, h1, h2, h3, h4, h5, gs, hg, hgo⟩
  · have hI : s.heap.get? s.heap.objs.size = none := get_new _
    have hI0 : Fg.get? s.heap.objs.size = none := by
      cases q : Fg.get? s.heap.objs.size with
      | none => rfl
      | some o => have := kg _ _ q; rw [hI] at this; cases this
    have hLI : L ≠ s.heap.objs.size := by rintro rfl; obtain ⟨o, e⟩ := hLs; rw [hI] at e; cases e
    have hlI : l ≠ s.heap.objs.size := by rintro rfl; obtain ⟨o, e, _⟩ := li; rw [hI] at e; cases e
    let C : GC w mg mb := ⟨Fg, L, s.heap.objs.size, l, items, B, hL, hI0, hLI, lL, hlI⟩
    refine ⟨C, _, rfl, rfl, rfl, rfl, .inr hI, hg, rfl, ?_⟩
    exact seg_start (C := C) (A := A.in1) (n := N) (out := out) (xs := xs) hh hn rfl rfl kg li hit hlen ho hz
  · exact ⟨C, gs, h1, h2, h3, h4, .inl h5, hg, hgo _ (Agr.refl (by rw [h1]; exact kg) rfl)⟩
theorem abs_wpG {M : Model} {α : Type} {m : Sem α} {Q : α → Shared → Prop} (h : ∀ Q' E', Q' = Q → E' = E → wpAny M A m Q' E' s) : wpAny M A m Q E s := h Q E rfl rfl
theorem abs_codeG {M : Model} {c : Code} {R : Result → Shared → Prop} (h : ∀ R', R' = R → codeAny M A c R' s) : codeAny M A c R s := h R rfl
/-- between two turns over the generator -/
structure GT (prog : Program) (w : World) (F : Fm) (mg mb : Str → Option Value) (K K₁ X : Kn) (s : Shared) (l : Addr) (items : Array Value) (N : Nat) (out : List Int) (L a : Addr) (g : Nat) (K' : Kn) (ρ' : Ro prog w) (j : Nat) (s' : Shared) : Prop where
  sat : Sat F K' X ρ' s'
  oL : Off F K' X ρ' s' L
  oa : Off F K' X ρ' s' a
  st : Stp s s' K K' X
  le : Kle K₁ K'
  gen : s'.heap.IsGen a g
  lo : ∃ o, s'.heap.get? L = some o
  ga : GA prog w F.A mg mb F.g l items N out L g j (fun I => Off F K' X ρ' s' I ∧ I ≠ a ∧ ∃ o, s'.heap.get? I = some o) s'
noncomputable def GInv (prog : Program) (w : World) (F : Fm) (mg mb : Str → Option Value) (K K₁ X : Kn) (s : Shared) (l : Addr) (items : Array Value) (N : Nat) (out : List Int) (L a : Addr) (g : Nat) (Inv : Nat → Ro prog w → Prop) (m : Nat) (s' : Shared) : Prop :=
  ∃ (K' : Kn) (ρ' : Ro prog w) (j : Nat), Inv j ρ' ∧ GT prog w F mg mb K K₁ X s l items N out L a g K' ρ' j s' ∧ m = N + 1 - j
/-- for x in _grouping_intervals(sizes), no error ahead -/
theorem Ex.genFor {n N : Nat} {x y : Str} {px pf py cpos pos : Pos} {body : List Stmt} {xs out : List Int} (ok : Fok n F) (B : Base w F.g mg mb) (hx : Own1 F x) (hy : ρ y = some (.frz (dList (xs.map dInt)))) (hz : xs[0]? ≠ some 0) (ho : out = gout (N + 1) xs none)
    (hfk : F.env.kindOf "_grouping_intervals" = some .globalImplicit) (hdy : (y == ("__debug__" : Str)) = false) (hcy : (y == ("__classdict__" : Str)) = false)
    (Inv : Nat → Ro prog w → Prop) (h0 : Inv 0 ρ) (bound : ∀ j ρ, Inv j ρ → j ≤ N)
    (turn : ∀ j v ρ, out[j]? = some v → Inv j ρ → Ex F body (upd ρ x (.frz (dInt v))) (Turn (Inv (j + 1)) Φ))
    (done : ∀ j ρ, Inv j ρ → out.length ≤ j → Φ .next ρ)
    (ht : backTo cpos (starEach [.Name y py] F.env) = [PySem.Expr.Name y py].map fun e => (false, eval e F.env) := by rfl)
    (hs : ∀ v, foldedSetIterable (.Call (.Name "_grouping_intervals" pf) [.Name y py] [] cpos) F.env v = pure v := by intro _; with_unfolding_all rfl) :
    Ex F [.For (.Name x px) (.Call (.Name "_grouping_intervals" pf) [.Name y py] [] cpos) body [] pos] ρ Φ := Ex.last fun K X s Q E S k => by
  have Bs := B.keeps (hk_keeps S.gk S.kin)
  refine wpAny_For (wpAny_Call_NameR (eval_glob ok B.gl S hfk (B.at rfl) (callWith_function (evalArgs_of (by rw [ht]; exact (Evl.one (Ev.name ok hy hdy hcy)).evs) (by rw [ht]; exact plain_trees) S fun K₁ s₁ us e₁ r => ⟨⟨Base.K (Bs.keeps e₁.keep) _ _ rfl, rfl⟩, ?_⟩)) (by decide))) hs
  have S₁ := S.ext e₁
  have B₁ := Bs.keeps e₁.keep
  have hus : ∃ l vs nn, us = [.ref l] ∧ K₁ l = some (lObj vs nn) ∧ Al K₁ (xs.map dInt) vs := by
    have al := r.al (Ps := [dList (xs.map dInt)])
    cases al with
    | cons h1 r1 =>
      cases r1
      obtain ⟨l, vs, nn, rfl, h2, h3⟩ := h1
      exact ⟨l, vs, nn, rfl, h2, h3⟩
  obtain ⟨l, vs, nn, rfl, hKl, all⟩ := hus
  have hll := S₁.kin _ _ hKl
  refine wpAny_call (code_gen B₁ ok.rm.lt fun h' L a tk NG => ?_)
  refine wpAny_pyIter_gen NG.gen ?_
  have e₂ : Ext s₁ { s₁ with gens := s₁.gens.push (.fresh (.func (genBody w.params) (gEnv w.params L))), toks := tk, heap := h' } K₁ K₁ :=
    ⟨⟨rfl, (GExt.refl _).push rfl⟩, NG.keep, .refl _, fun _ _ _ => rfl, fun b o q => NG.keep _ _ (S₁.kin b o q)⟩
  have S₂ := S₁.ext e₂
  have offL : Off F K₁ X ρ { s₁ with gens := s₁.gens.push (.fresh (.func (genBody w.params) (gEnv w.params L))), toks := tk, heap := h' } L := (Off.fresh S₁ NG.Lnew).ext S₁ NG.Lnew e₂ (Off.fresh S₁ NG.Lnew).k
  have offa : Off F K₁ X ρ { s₁ with gens := s₁.gens.push (.fresh (.func (genBody w.params) (gEnv w.params L))), toks := tk, heap := h' } a := (Off.fresh S₁ NG.anew).ext S₁ NG.anew e₂ (Off.fresh S₁ NG.anew).k
  have st₂ : Stp s { s₁ with gens := s₁.gens.push (.fresh (.func (genBody w.params) (gEnv w.params L))), toks := tk, heap := h' } K K₁ X := (e₁.trans e₂).stp S.xin
  have hFL : F.g.get? L = none := by
    cases q : F.g.get? L with
    | none => rfl
    | some o => have := S₁.kin _ _ (S₁.gk _ _ q); rw [show hk s₁.heap L = s₁.heap.get? L from rfl, NG.Lnew] at this; cases this
  have lL : l ≠ L := by rintro rfl; have := S₁.kin _ _ hKl; rw [show hk s₁.heap l = s₁.heap.get? l from rfl, NG.Lnew] at this; cases this
  have hgsz : s.gens.size ≤ s₁.gens.size := e₁.rest.gens.size
  have hits : ∀ (j : Nat) (x : Int), xs[j]? = some x → ∃ t, vs.toArray[j]? = some (Value.int x t) := by
    intro j x hj
    obtain ⟨u, h1, t, h2⟩ := all.get (i := j) (P := dInt x) (by rw [List.getElem?_map, hj]; rfl)
    exact ⟨t, by rw [List.getElem?_toArray, h1, h2]⟩
  have hlen : vs.toArray.size = xs.length := by rw [List.size_toArray, all.length, List.length_map]
  let g := s₁.gens.size
  refine abs_codeG fun R0 hR0 => ?_
  refine codeAny_forLoop (GInv prog w F mg mb K K₁ X s l vs.toArray N out L a g Inv) ?_ (N + 1)
    ⟨K₁, ρ, 0, h0, ⟨S₂, offL, offa, st₂, .refl _, NG.gen, (let ⟨o, _, _, q, _⟩ := objN NG.ns; ⟨o, q⟩), .inl ⟨rfl, Array.getElem?_push_size .., NG.ns⟩⟩, rfl⟩
  rintro m s' ⟨K', ρ', j, hI, ⟨S', oL, oa, st', le', hgen, hLo, hGA⟩, rfl⟩
  have hj := bound j ρ' hI
  have kg : Keep F.g s'.heap := hk_keeps S'.gk S'.kin
  have hll' : s'.heap.IsList l vs.toArray := ⟨_, S'.kin _ _ (le' _ _ hKl), rfl, nn, rfl⟩
  obtain ⟨C, gs, hC1, hC2, hC3, hC4, hoI, hgs, hgo⟩ := hGA.goes ok.rm.hh B kg hFL lL hll' hits hlen ho hz hj hLo
  subst hC2
  have oI : Off F K' X ρ' s' C.I := hoI.elim (fun z => z.1) (fun z => Off.fresh S' z)
  have hIa : C.I ≠ a := hoI.elim (fun z => z.2.1) (fun z => by rintro rfl; obtain ⟨o, _, _, q, _⟩ := hgen; rw [z] at q; cases q)
  obtain ⟨n', hn'⟩ : ∃ n', N + 1 - j = n' + 1 := ⟨N - j, by omega⟩
  rw [hn'] at hgo
  have hgg : s.gens.size ≤ g := hgsz
  refine abs_wpG fun Q1 E1 hQ1 hE1 => ?_
  refine next_gen ok.rm.hh ((B.keeps kg).gl.lim) ok.rm.lt hgen hgs hgo (fun v s₁' gs' hb hY => ?_) (fun r s₁' hR => .inl ⟨hR.1, fun h'' kh => ?_⟩)
  · obtain ⟨⟨xv, t, hxv, rfl⟩, ⟨h1, tk1, rfl, hk1⟩, ⟨⟨oLo, hoL⟩, ⟨oIo, hoI'⟩⟩, hkap⟩ := hY
    have hidx : N + 1 - 1 - (n' + 1 - 1) = j := by omega
    rw [hidx] at hxv
    have hwr : ∀ b ∈ [C.L, C.I, a], Off F K' X ρ' s' b := fun b hb => by
      rcases List.mem_cons.mp hb with rfl | hb
      · exact oL
      · rcases List.mem_cons.mp hb with rfl | hb
        · exact oI
        · rw [List.mem_singleton.mp hb]; exact oa
    obtain ⟨S1, O1⟩ := S'.touch (tk := tk1) (wr := [C.L, C.I, a]) (h' := h1) hwr (fun b o hb q => hk1 b o (fun z => hb (z ▸ List.mem_cons_self)) (fun z => hb (z ▸ List.mem_cons_of_mem _ List.mem_cons_self)) q)
    have haL : a ≠ C.L := NG.La
    have hgen1 : h1.IsGen a g := let ⟨o, nm, qn, q, r⟩ := hgen; ⟨o, nm, qn, hk1 a o haL (Ne.symm hIa) q, r⟩
    have hin : ∀ b ∈ [C.L, C.I, a], ∃ o, h1.get? b = some o := fun b hb => by
      rcases List.mem_cons.mp hb with rfl | hb
      · exact ⟨_, hoL⟩
      · rcases List.mem_cons.mp hb with rfl | hb
        · exact ⟨_, hoI'⟩
        · rw [List.mem_singleton.mp hb]; obtain ⟨o, _, _, q, _⟩ := hgen1; exact ⟨o, q⟩
    have SX := S1.addX O1 S1.xin
    rw [hQ1]
    refine wpAny_assign_Name (store_name ok (SX.heapEq (s' := (Shared.setGen { s'.setGen g .running with heap := h1, toks := tk1 } g gs')) rfl) hx (.frz (P := dInt xv) ⟨t, rfl⟩) fun s₃ S₃ r₃ => ?_)
    refine (turn j xv ρ' hxv hI).out K' _ s₃ _ _ S₃ fun K₄ s₄ fl o ρ₄ hp hi₄ S₄ st₄ => ?_
    have hX4 : ∀ b ∈ [C.L, C.I, a], s₄.heap.get? b = h1.get? b := fun b hb => by
      obtain ⟨o, q⟩ := hin b hb
      have := S₄.xin b o ((addX_in hb).trans q)
      exact (show s₄.heap.get? b = some o from this).trans q.symm
    have le4 : Kle K₁ K₄ := le'.trans st₄.le
    have hXle : Kle X (addX X [C.L, C.I, a] h1) := fun b o e => by
      rw [addX_out (fun hb => by rw [(hwr b hb).x] at e; cases e)]; exact e
    have off4 : ∀ b ∈ [C.L, C.I, a], Off F K₄ X ρ₄ s₄ b := fun b hb => by
      obtain ⟨o, q⟩ := hin b hb
      refine Off.of_addX hb S₄ ⟨_, q⟩ (hwr b hb).x ?_ (hwr b hb).c
      rw [st₄.old b _ ((addX_in hb).trans q)]; exact (hwr b hb).k
    have S4 : Sat F K₄ X ρ₄ s₄ := S₄.lessX hXle
    have r34 := r₃.trans st₄.rest
    have st4 : Stp s s₄ K K₄ X := ⟨⟨r34.os.trans st'.rest.os, ((st'.rest.gens.set hgg rfl).set hgg hb).trans r34.gens⟩, st'.le.trans st₄.le, fun b o q => (st₄.old b o (hXle b o q)).trans (st'.old b o q)⟩
    have hgen4 : s₄.heap.IsGen a g := let ⟨o, nm, qn, q, r⟩ := hgen1; ⟨o, nm, qn, (hX4 a (List.mem_cons_of_mem _ (List.mem_cons_of_mem _ List.mem_cons_self))).trans q, r⟩
    have go : Inv (j + 1) ρ₄ → ∃ m, m < N + 1 - j ∧ GInv prog w F mg mb K K₁ X s l vs.toArray N out C.L a g Inv m s₄ := by
      intro hI'
      have hj' := bound _ _ hI'
      refine ⟨N + 1 - (j + 1), by omega, K₄, ρ₄, j + 1, hI', ⟨S4, off4 _ List.mem_cons_self, off4 _ (List.mem_cons_of_mem _ (List.mem_cons_of_mem _ List.mem_cons_self)), st4, le4, hgen4, ⟨_, (hX4 _ List.mem_cons_self).trans hoL⟩, .inr ⟨C, hC1, rfl, hC3, hC4, ⟨off4 _ (List.mem_cons_of_mem _ List.mem_cons_self), hIa, ⟨_, (hX4 _ (List.mem_cons_of_mem _ List.mem_cons_self)).trans hoI'⟩⟩, gs', ?_, fun s'' ha => ?_⟩⟩, rfl⟩
      · exact r34.gens.get (setGen_self (gs := .running) (setGen_self hgs))
      · have hn2 : N + 1 - (j + 1) = n' := by omega
        rw [hn2]
        refine hkap (by omega) s'' ⟨ha.1, fun b hb o q => ha.2 b hb o ?_⟩
        rcases hb with rfl | rfl | rfl
        · exact (hX4 _ List.mem_cons_self).trans q
        · exact (hX4 _ (List.mem_cons_of_mem _ List.mem_cons_self)).trans q
        · rw [hC3] at q ⊢
          have q1 := S₄.kin _ _ (le4 _ _ hKl)
          have q2 := S1.kin _ _ (le' _ _ hKl)
          exact (show s₄.heap.get? l = some _ from q1).trans ((show h1.get? l = some _ from q2).symm.trans q)
    cases o with
    | next => cases hi₄; exact go hp
    | cont => cases hi₄; exact go hp
    | brk => cases hi₄; rw [hR0]; exact k K₄ s₄ .next .next ρ₄ hp rfl S4 st4
    | ret P => obtain ⟨v, rfl, hv⟩ := hi₄; rw [hR0]; exact k K₄ s₄ _ (.ret P) ρ₄ hp ⟨v, rfl, hv⟩ S4 st4
  · obtain ⟨_, hlen', ⟨h1, tk1, rfl, hk1⟩⟩ := hR
    obtain ⟨S1, O1⟩ := S'.touch (tk := tk1) (wr := [C.L, C.I]) (h' := h'') (fun b hb => by
      rcases List.mem_cons.mp hb with rfl | hb
      · exact oL
      · rw [List.mem_singleton.mp hb]; exact oI) (fun b o hb q => kh b o (hk1 b o (fun z => hb (z ▸ List.mem_cons_self)) (fun z => hb (z ▸ List.mem_cons_of_mem _ List.mem_cons_self)) q))
    rw [hQ1, hR0]
    exact wpAny_execs_nil (k K' _ .next .next ρ' (done j ρ' hI (by omega)) rfl (S1.heapEq rfl) ⟨⟨st'.rest.os, (st'.rest.gens.set hgg rfl).set hgg rfl⟩, st'.le, st'.old⟩)
end
end Mine
end
/-! part E20 -/
section
open PySem PySem.Calls PySem.Spec PyProof.Rows PySem.W PySem.SeqAt
open Sem (wp)
set_option Elab.async false
set_option linter.unusedVariables false
set_option maxRecDepth 100000
set_option maxHeartbeats 1000000
namespace Mine
/-- a card as a pair -/
noncomputable def prD (c : Nat) : DP := dTup [dStr "", dStr (ltr c)]
section
variable {prog : Program} {w : World} {A : Around} {E : Value → Shared → Prop} {s s' : Shared} {mg mb : Str → Option Value} {F : Fm} {K K' X : Kn} {ρ ρ' : Ro prog w} {Φ : Out → Ro prog w → Prop} {L : Addr} {P : DP}
/-- X tells a names' dict at L -/
noncomputable def NsX (X : Kn) (L : Addr) : Prop := ∃ (h0 : Heap) (m : Str → Option Value), h0.Ns L m ∧ X L = h0.get? L
theorem NsX.at_ (N : NsX X L) {h : Heap} (hx : Kle X (hk h)) : ∃ m, h.Ns L m := by
  obtain ⟨h0, m, hn, e⟩ := N
  exact ⟨m, hn.at' fun o q => hx _ _ (e.trans q)⟩
theorem NsX.some_ (N : NsX X L) : ∃ o, X L = some o := by
  obtain ⟨h0, m, hn, e⟩ := N
  obtain ⟨o, _, _, q, _⟩ := objN hn
  exact ⟨o, e.trans q⟩
theorem NsX.ne76 {ps : Array Value} (N : NsX X L) (T : TabAt X ps) : L ≠ 76 := by
  rintro rfl
  obtain ⟨h0, m, hn, e⟩ := N
  obtain ⟨o, _, _, q, hd⟩ := objN hn
  rw [← e, T.at_] at q
  cases q
  cases hd
/-- runs to a value; the object at L may be made ready, the table may grow -/
noncomputable def ExS (L : Addr) (F : Fm) (ss : List Stmt) (ρ : Ro prog w) (P : DP) : Prop :=
  Wr (∀ (K X : Kn) (s : Shared) (ps : Array Value) (Q : Flow → Shared → Prop) (E : Value → Shared → Prop), Sat F K X ρ s → TabAt X ps → K 76 = none → NsX X L → K L = none →
    (∀ K' X' s' v more, P.p K' v → Kle K' (hk s'.heap) → Kle X' (hk s'.heap) → TabAt X' (ps ++ more) → (∀ a, a ≠ 76 → a ≠ L → X' a = X a) → (∀ o, X L = some o → ∃ sl, X' L = some { o with slots := sl }) → Stp s s' K K' X → Q (.ret v) s') → wpAny (model prog w) F.A (execs ss F.env) Q E s)
theorem ExS.seq {st : Stmt} {rest : List Stmt} (h : Ex F [st] ρ fun o ρ' => o = .next ∧ ExS L F rest ρ' P) : ExS L F (st :: rest) ρ P := Wr.mk <| fun K X s ps Q E S T hK NL kL k => by
  have h1 := h.out K X s (fun f s' => match f with | .next => wpAny (model prog w) F.A (execs rest F.env) Q E s' | f => Q f s') E S fun K' s' fl o ρ' hp hi S' st => by
    obtain ⟨rfl, hp⟩ := hp
    cases hi
    exact hp.out K' X s' ps Q E S' T (ExT.none76 st T hK) NL (let ⟨o, q⟩ := NL.some_; (st.old _ o q).trans kL) fun K'' X'' s'' v more h1 h2 h3 h4 h5 h6 st' => k K'' X'' s'' v more h1 h2 h3 h4 h5 h6 (st.trans st')
  intro Γ p hΓ
  have h3 := h1 Γ p hΓ
  rw [execs_cons, Sem.wp_bind'] at h3 ⊢
  refine Sem.wp_mono _ Γ _ (fun f p' s' h' => ?_) (fun _ _ _ h' => h') _ _ h3
  cases f with
  | next =>
    rw [execs_nil] at h'
    exact (show wpAny (model prog w) F.A (execs rest F.env) Q E s' from h') Γ p' hΓ
  | brk => exact h'
  | cont => exact h'
  | ret v => exact h'
theorem ExS.freeze {ss : List Stmt} {x : Str} {R : V prog w} (hx : ρ x = some R) (h : ExS L F ss (upd ρ x (.frz R.cold)) P) : ExS L F ss ρ P := Wr.mk <| fun K X s ps Q E S T hK NL kL k => by
  obtain ⟨K', S', hle, hold⟩ := S.freeze hx
  exact h.out K' X s ps Q E S' T ((hold _ _ T.at_).trans hK) NL (let ⟨o, q⟩ := NL.some_; (hold _ o q).trans kL) fun K₂ X₂ s₂ v more h1 h2 h3 h4 h5 h6 st => k K₂ X₂ s₂ v more h1 h2 h3 h4 h5 h6 ⟨st.rest, hle.trans st.le, fun a o q => (st.old a o q).trans (hold a o q)⟩
theorem acc_isFn (P : Params) : isFn (hd.heap_1 P) (.ref aStr) = true := rfl
/-- return str(row) -/
theorem ExS.str {n : Nat} {y : Str} {px py cpos pos : Pos} {bm : Addr} {ob : Obj} {ds : List Nat} (ok : Fok n F) (B : Base w F.g mg mb) (BM : BMod F.g mainGlobals mg bm ob) (hy : ρ y = some (.obj (accD w.params (ds.map prD)))) (hds : ds.length = 4)
    (hx : F.env.kindOf "str" = some .globalImplicit := by rfl)
    (ht : backTo cpos (starEach [.Name y py] F.env) = [PySem.Expr.Name y py].map fun e => (false, eval e F.env) := by rfl)
    (hd : (y == ("__debug__" : Str)) = false := by decide) (hc : (y == ("__classdict__" : Str)) = false := by decide) :
    ExS L F [.Return (some (.Call (.Name "str" px) [.Name y py] [] cpos)) pos] ρ (dR ds) := Wr.mk <| fun K X s ps Q E S T hK NL kL k => by
  refine wpAny_execs_cons (wpAny_Return_some (wpAny_Call_NameR (eval_built ok B.gl S hx (B.no rfl) rfl (PySem.callWith_type (by rw [ht]; exact plain_trees) (evalArgs_of (by rw [ht]; exact (Evl.one (Ev.name ok hy hd hc)).evs) (by rw [ht]; exact plain_trees) S fun K₁ s₁ us e₁ r => ?_)) (by decide) (by decide))))
  have S₁ := S.ext e₁
  obtain ⟨x, o, rfl, hxo, hsm, hrep⟩ : ∃ x o, us = [.ref x] ∧ hk s₁.heap x = some o ∧ (x == sysModules) = false ∧ (accD w.params (ds.map prD)).rep K₁ x o := by
    cases r with
    | cons h1 r1 =>
      cases r1
      obtain ⟨x, o, rfl, h2, h3, h4⟩ := h1
      exact ⟨x, o, rfl, h2, h3, h4⟩
  obtain ⟨d, od, vs, I, al, hKd, hns, hdn⟩ := accD_is S₁.kin hxo hrep
  have kp := hk_keeps S₁.gk S₁.kin
  have Bs := B.keeps kp
  obtain ⟨nx, hxo'⟩ := id I.obj
  have IA : InstAt s₁.heap x _ (CA w.params) (some od) := ⟨hxo', rfl, rfl, S₁.kin _ _ hKd⟩
  have hl : vs.length = 4 := by rw [al.length, List.length_map, hds]
  have hd1 := ok.rm.depth
  have hu1 := ok.rm.units
  have hT76 : s₁.heap.get? 76 = some (tabObj ps) := S₁.xin _ _ T.at_
  refine kso_call (by have := ok.rm.units_lt; show F.A.units + _ + _ < cLine; omega) Bs.K IA (mOf_str _) (acc_isFn _) (wpAny_call (code_str (cs := ds) (ps := ps) Bs (BM.keeps kp) I (by rw [List.size_toArray, hl, hds]) (by omega) (fun j hj => ?_) hT76 T.ok ok.rm.hh ?_ fun h' g' tk t more kb htab htr hgx => ?_))
  · have hj' : (ds.map prD)[j]? = some (prD ds[j]) := by rw [List.getElem?_map, List.getElem?_eq_getElem hj]; rfl
    obtain ⟨v, hv, t, ts, tn, rfl, hto, tal⟩ := al.get hj'
    have : ∃ ta tb, ts = [.str "" ta, .str (ltr ds[j]) tb] := by
      cases tal with
      | cons h1 r1 =>
        cases r1 with
        | cons h2 r2 =>
          cases r2
          obtain ⟨ta, rfl⟩ := h1
          obtain ⟨tb, rfl⟩ := h2
          exact ⟨ta, tb, rfl⟩
    obtain ⟨ta, tb, rfl⟩ := this
    refine ⟨t, ta, tb, tn, by rw [List.getElem?_toArray]; exact hv, ?_⟩
    rw [show ds.getD j 0 = ds[j] by simp [List.getD_eq_getElem?_getD, List.getElem?_eq_getElem hj]]
    exact S₁.kin _ _ hto
  · show F.A.depth + 3 < 1000
    omega
  · let X' : Kn := fun a => if a = 76 then some (tabObj (ps ++ more)) else X a
    have hX' : ∀ a, a ≠ 76 → X' a = X a := fun a ha => if_neg ha
    have hK1 : K₁ 76 = none := (e₁.old _ _ (S.xin _ _ T.at_)).trans hK
    have hne : ∀ {b : Addr} {o : Obj}, K₁ b = some o → b ≠ 76 := fun q z => by subst z; rw [hK1] at q; cases q
    have hKin : Kle K₁ (hk h') := fun b o q => kb b o (hne q) (S₁.kin b o q)
    refine k K₁ X' _ _ more ⟨t, by rw [row_of hds]⟩ hKin (fun a o q => ?_) ⟨if_pos rfl, htr⟩ (fun a h1 _ => hX' a h1) (fun o q => ?_) ⟨⟨e₁.rest.os, e₁.rest.gens.trans hgx⟩, e₁.le, fun a o q => e₁.old a o (S.xin a o q)⟩
    · by_cases ha : a = 76
      · subst ha
        rw [show X' 76 = some (tabObj (ps ++ more)) from if_pos rfl] at q
        cases q
        exact htab
      · rw [hX' a ha] at q
        exact kb a o ha (S₁.xin a o q)
    · have ha := NL.ne76 T
      · exact ⟨o.slots, by rw [hX' L ha]; exact q⟩
end
end Mine
end
/-! part E21 -/
section
open PySem PySem.Calls PySem.Spec PyProof.Rows PySem.W PySem.SeqAt
open Sem (wp)
set_option Elab.async false
set_option linter.unusedVariables false
set_option maxRecDepth 100000
set_option maxHeartbeats 1000000
namespace Mine
section
variable {prog : Program} {w : World} {A : Around} {E : Value → Shared → Prop} {s s' : Shared} {mg mb : Str → Option Value} {F : Fm} {K K' X : Kn} {ρ ρ' : Ro prog w} {Φ : Out → Ro prog w → Prop} {L : Addr} {P : DP}
theorem load_raw {x : Str} {px : Pos} {R : V prog w} {Q : Value → Shared → Prop} (S : Sat F K X ρ s) (hk0 : F.env.scope.kind = .function) (hl : F.env.kindOf x = some .local) (hx : ρ x = some R) (h : ∀ u, Holds F.env s.heap x u → R.rd K (hk s.heap) u → Q u s)
    (hd : (x == ("__debug__" : Str)) = false := by decide) : wpAny (model prog w) A (eval (.Name x px) F.env) Q E s := by
  obtain ⟨u, h1, h2, _⟩ := S.vars x R hx
  rcases id h1 with ⟨_, m, hn, hm⟩ | ⟨q, _⟩
  · exact name_at hn hm (h u h1 h2) rfl hk0 hl hd
  · rw [hl] at q; rcases q with q | q <;> cases q
theorem Al.reverse {K : Kn} : ∀ {Ps : List DP} {vs : List Value}, Al K Ps vs → Al K Ps.reverse vs.reverse
  | _, _, .nil => .nil
  | _, _, .cons a r => by rw [List.reverse_cons, List.reverse_cons]; exact (Al.reverse r).append (Al.one a)
theorem reverse_raw {p : Addr} {vs : List Value} {n : Nat} {Q : Value → Shared → Prop} (hp : s.heap.get? p = some (lObj vs n)) (hsz : vs.length ≤ 1000)
    (h : ∀ h' tk m, Heap.SameBut p s.heap h' → h'.get? p = some (lObj vs.reverse m) → Q .none { s with heap := h', toks := tk }) : wpAny (model prog w) A (call (.builtin "list.reverse") [.ref p]) Q E s := by
  refine call_meets PySem.F.slot_list_reverse ⟨_, hp, rfl⟩ PySem.F.entry_list_reverse (PySem.F.args_list_reverse_1 _) (PySem.AutoSeq1.list_reverse_list_0 p vs.toArray n (by rw [List.size_toArray, sizeLine_eq]; omega)) ⟨hp, ?_⟩
  refine h _ _ n (Heap.SameBut.update ..) ?_
  rw [Heap.get?_update_self _ hp rfl]
  simp [lObj, Obj.mapSeq]
/-- taken = row.pop_from(); taken.reverse() : under an exception -/
theorem suite_raw {y v : Str} {p0 p1 px apos pos epos bpos cpos dpos : Pos} {Ps : List DP} {Q : Flow → Shared → Prop} (S : Sat F K X ρ s) (hk0 : F.env.scope.kind = .function) (hly : F.env.kindOf y = some .local) (hlv : F.env.kindOf v = some .local) (hvy : v ≠ y) (hcells : F.env.cells = [])
    (B : Base w F.g mg mb) (hroom : A.depth < recursionLimit) (hy : ρ y = some (.obj (accD w.params Ps))) (hsz : Ps.length ≤ 1000)
    (k : ∀ K' s' ρ', ρ' y = some (.obj (accD w.params (cutL Ps 0))) → ρ' v = some (.frz (dList (pickL Ps (some 0) none none).reverse)) → (∀ z, z ≠ y → z ≠ v → ρ' z = ρ z) → Sat F K' X ρ' s' → Stp s s' K K' X → Q .next s')
    (hbase : attributeBase (.Name y px) "pop_from" F.env (eval (.Name y px) F.env) = eval (.Name y px) F.env := by rfl)
    {pl : Sem Bool} (he : eval (.Call (.Attribute (.Name y px) "pop_from" apos) [] [] pos) F.env = (do
      let ov ← attributeBase (.Name y px) "pop_from" F.env (eval (.Name y px) F.env)
      standAt apos.atName
      let (f, first) ← holding [ov] (getMethod ov "pop_from" pl)
      callWith pos f first (backTo pos (starEach [] F.env)) []) := by rfl)
    (hs : swapsWith (.Call (.Attribute (.Name y px) "pop_from" apos) [] [] pos) (some (.Name v p0)) epos.line F.env = pure false := by with_unfolding_all rfl)
    (hbase2 : attributeBase (.Name v p1) "reverse" F.env (eval (.Name v p1) F.env) = eval (.Name v p1) F.env := by rfl)
    (hfew2 : ((backTo cpos (starEach [] F.env)).all (fun x => !x.1) && (backToKw cpos (keywordEach [] F.env)).all (fun x => x.1.isSome) && decide (([] : List PySem.Expr).length + ([] : List Keyword).length + (if ([] : List Keyword).isEmpty then 0 else 1) < 30)) = true := by rfl)
    (hline2 : (bpos.endLine == cpos.line) = true)
    (hi2 : interactive F.env = false := by rfl) (hs2 : swapsWith (.Call (.Attribute (.Name v p1) "reverse" bpos) [] [] cpos) none dpos.line F.env = pure false := by with_unfolding_all rfl)
    (hd : (y == ("__debug__" : Str)) = false := by decide) (hdv : (v == ("__debug__" : Str)) = false := by decide) :
    wpAny (model prog w) A (execs [.Assign [.Name v p0] (.Call (.Attribute (.Name y px) "pop_from" apos) [] [] pos) epos, .Expr (.Call (.Attribute (.Name v p1) "reverse" bpos) [] [] cpos) dpos] F.env) Q E s := by
  refine wpAny_execs_cons (wpAny_Assign_Name (wpAny_MethodCall (load_raw S hk0 hly hy (fun u H hu => ?_) hd) hbase he) hs)
  obtain ⟨x, o, rfl, hxo, hsm, hrep⟩ := hu
  obtain ⟨d, od, vs, I, al, hKd, hns, hdn⟩ := accD_is S.kin hxo hrep
  have Bs := B.keeps (hk_keeps S.gk S.kin)
  refine I.method Bs.K (mOf_pop _) rfl rfl hdn rfl ?_
  dsimp only
  refine callWith_function (PySem.evalArgs_none ⟨⟨Bs.K _ _ rfl, rfl⟩, ?_⟩)
  refine wpAny_call (code_pop (xs := vs.toArray) (lo := 0) (t := 0) Bs I (by rw [List.size_toArray, al.length]; exact hsz) hroom (.inr ⟨rfl, rfl⟩) fun h' tk p kb ft hp I' => ?_)
  have hKx : K x = none := by
    obtain ⟨u', h1, h2, h3⟩ := S.vars y _ hy
    have := H.inj h1
    obtain ⟨a, ea, h4, _⟩ := h3 rfl
    rw [← this] at ea
    cases ea
    exact h4
  have hxl : x ≠ F.env.locals := by
    obtain ⟨u', h1, h2, h3⟩ := S.vars y _ hy
    have := H.inj h1
    obtain ⟨a, ea, _, _, h4⟩ := h3 rfl
    rw [← this] at ea
    cases ea
    exact h4
  have eo : ExtO x s { s with heap := h', toks := tk } K K := ⟨⟨rfl, .refl _⟩, kb, .refl _, fun _ _ _ => rfl, fun b o' q => kb b o' (fun z => by subst z; rw [hKx] at q; cases q) (S.kin b o' q)⟩
  obtain ⟨ws, hws, alw⟩ := al.cutL 0
  rw [hws] at I'
  have S₂ := S.extO hy rfl H eo (R' := .obj (accD w.params (cutL Ps 0))) (accD_of hsm I' alw hKd hns) rfl
  have off := Off.fresh S ft
  have hpx : p ≠ x := by rintro rfl; have : s.heap.get? p = some o := hxo; rw [ft] at this; cases this
  have fwd : ∀ {z : Str} {u : Value}, Holds F.env s.heap z u → Holds F.env h' z u := by
    rintro z u (⟨q, m, hn, hm⟩ | ⟨_, c, hc, _⟩)
    · exact .inl ⟨q, m, hn.at' fun o q => kb _ o (Ne.symm hxl) q, hm⟩
    · rw [hcells] at hc; cases hc
  have fit : Fit F K X (upd ρ y (.obj (accD w.params (cutL Ps 0)))) { s with heap := h', toks := tk } v (.ref p) (.lst (pickL Ps (some 0) none none)) := by
    refine ⟨⟨p, _, 0, rfl, hp, al.pick (some 0) none none⟩, fun _ => ⟨p, rfl, off.k, off.x, off.l, fun z Vz hz hρ hoz Hz => ?_⟩⟩
    by_cases hzy : z = y
    · subst hzy
      have := (fwd H).inj Hz
      exact hpx (by injection this with q; exact q.symm)
    · rw [upd_ne _ _ hzy] at hρ
      obtain ⟨u, h1, _⟩ := S.vars z Vz hρ
      have := (fwd h1).inj Hz
      subst this
      exact off.v z Vz hρ hoz h1
  refine store_local0 (by rw [hk0]; rfl) S₂ hlv fit fun s₃ S₃ r₃ => ?_
  refine wpAny_execs_cons (wpAny_Expr (wpAny_Call_method (T := "list") (id := "list.reverse") hbase2 hfew2 hline2 PySem.F.plainAttrs_list PySem.F.slot_list_reverse PySem.F.type_list_reverse (load_raw S₃ hk0 hlv (upd_self _ _ _) (fun u H3 hu => ?_) hdv)) hi2 hs2)
  obtain ⟨p3, us, n3, rfl, hp3, al3⟩ := hu
  have hp3' : s₃.heap.get? p3 = some (lObj us n3) := hp3
  refine ⟨⟨_, hp3', rfl⟩, fun a e => ⟨_, by cases e; exact hp3', rfl⟩, ?_⟩
  refine callWith_builtin rfl (PySem.evalArgs_none ?_)
  have hpl : (pickL Ps (some 0) none none).length ≤ 1000 := by
    have h1 := (al.pick (some 0) none none).length
    have h2 := slicePick_size_le vs.toArray (some 0) none none
    have h3 : vs.toArray.size = Ps.length := by rw [List.size_toArray, al.length]
    rw [← h1]
    exact Nat.le_trans h2 (by rw [h3]; exact hsz)
  refine reverse_raw hp3' (by rw [al3.length]; exact hpl) fun h4 tk4 m4 hs4 hp4 => wpAny_execs_nil ?_
  have S₄ := S₃.change (h' := h4) (tk := tk4) (upd_self _ _ _) rfl H3 hs4 (R' := .lst (pickL Ps (some 0) none none).reverse) ⟨p3, _, m4, rfl, hp4, al3.reverse⟩ rfl
  obtain ⟨K₅, S₅, hle, hold⟩ := S₄.freeze (upd_self _ _ _)
  refine k K₅ _ _ ?_ (upd_self _ _ _) ?_ S₅ ?_
  · rw [upd_ne _ _ (Ne.symm hvy), upd_ne _ _ (Ne.symm hvy), upd_ne _ _ (Ne.symm hvy)]; exact upd_self _ _ _
  · intro z hz1 hz2
    rw [upd_ne _ _ hz2, upd_ne _ _ hz2, upd_ne _ _ hz2, upd_ne _ _ hz1]
  · exact ⟨⟨r₃.os, r₃.gens⟩, hle, fun b o' q => hold b o' q⟩
end
end Mine
end
/-! part E22 -/
section
open PySem PySem.Calls PySem.Spec PyProof.Rows PySem.W PySem.SeqAt
open Sem (wp)
set_option Elab.async false
set_option linter.unusedVariables false
set_option maxRecDepth 100000
set_option maxHeartbeats 1000000
namespace Mine
section
variable {prog : Program} {w : World} {A : Around} {E : Value → Shared → Prop} {s s' : Shared} {mg mb : Str → Option Value} {F : Fm} {K K' X : Kn} {ρ ρ' : Ro prog w} {Φ : Out → Ro prog w → Prop} {L : Addr} {P : DP}
/-- the objects of wr are written, of the frame's own names' dict the slots alone -/
theorem Sat.touchS {wr : List Addr} {h' : Heap} {tk : Nat} (S : Sat F K X ρ s) (f : ∀ b ∈ wr, Off F K X ρ s b) (hk' : ∀ b o, b ∉ wr → b ≠ F.env.locals → s.heap.get? b = some o → h'.get? b = some o)
    (hsl : ∀ o, s.heap.get? F.env.locals = some o → ∃ sl, h'.get? F.env.locals = some { o with slots := sl }) :
    Sat F K X ρ { s with heap := h', toks := tk } ∧ ∀ b ∈ wr, Off F K X ρ { s with heap := h', toks := tk } b := by
  obtain ⟨m0, hn0⟩ := S.ns
  have hn1 := ns_slots hsl hn0
  have hh : ∀ {x : Str} {u : Value}, Holds F.env s.heap x u → Holds F.env h' x u := by
    rintro x u (⟨e, m, hn, hm⟩ | ⟨e, c, hc, hv⟩)
    · exact .inl ⟨e, m, ns_slots hsl hn, hm⟩
    · have hne := cell_ne_ns hn0 hv
      obtain ⟨o, ho, hd⟩ := hv
      exact .inr ⟨e, c, hc, o, hk' c o (fun ha => (f _ ha).c x c hc rfl) hne ho, hd⟩
  refine ⟨⟨S.gk, fun a o e => ?_, fun a o e => ?_, ⟨_, hn1⟩, S.kl, S.xl, fun x hx => ?_, S.inj, fun x c hc => ?_, fun x V hx => ?_, ?_⟩, fun b hb => ⟨(f b hb).k, (f b hb).x, (f b hb).l, (f b hb).c, fun x V hx ho H => ?_⟩⟩
  · exact hk' a o (fun ha => by rw [(f a ha).k] at e; cases e) (by rintro rfl; rw [S.kl] at e; cases e) (S.kin a o e)
  · exact hk' a o (fun ha => by rw [(f a ha).x] at e; cases e) (by rintro rfl; rw [S.xl] at e; cases e) (S.xin a o e)
  · obtain ⟨c, v, h1, h2, hv, h4, h5⟩ := S.cel x hx
    have hne := cell_ne_ns hn0 hv
    obtain ⟨o, ho, hd⟩ := hv
    exact ⟨c, v, h1, h2, ⟨o, hk' c o (fun ha => (f _ ha).c x c h2 rfl) hne ho, hd⟩, h4, h5⟩
  · obtain ⟨o, ho⟩ := S.live x c hc
    by_cases q : c = F.env.locals
    · subst q; obtain ⟨sl, h1⟩ := hsl o ho; exact ⟨_, h1⟩
    · exact ⟨o, hk' c o (fun ha => (f _ ha).c x c hc rfl) q ho⟩
  · obtain ⟨u, h1, h2, h3⟩ := S.vars x V hx
    refine ⟨u, hh h1, ?_, h3⟩
    have ne : ∀ {a : Addr}, u = .ref a → V.own = true → a ≠ F.env.locals := fun e ho => by
      obtain ⟨a', e', _, _, hl⟩ := h3 ho
      rw [e] at e'; cases e'; exact hl
    cases V with
    | frz P => exact h2
    | lst Ps => obtain ⟨a, vs, n, e, q1, q2⟩ := h2; exact ⟨a, vs, n, e, hk' a _ (fun ha => (f _ ha).v x _ hx rfl (e ▸ h1)) (ne e rfl) q1, q2⟩
    | sdc kvs => obtain ⟨a, o, e, q1, q2, q3⟩ := h2; exact ⟨a, o, e, hk' a _ (fun ha => (f _ ha).v x _ hx rfl (e ▸ h1)) (ne e rfl) q1, q2, q3⟩
    | idc kvs => obtain ⟨a, o, e, q1, q2, q3⟩ := h2; exact ⟨a, o, e, hk' a _ (fun ha => (f _ ha).v x _ hx rfl (e ▸ h1)) (ne e rfl) q1, q2, q3⟩
    | obj D => obtain ⟨a, o, e, q1, q2, q3⟩ := h2; exact ⟨a, o, e, hk' a _ (fun ha => (f _ ha).v x _ hx rfl (e ▸ h1)) (ne e rfl) q1, q2, q3⟩
  · intro x y a Vx Vy hxy hx hy ox oy H1 H2
    obtain ⟨u, h1, _⟩ := S.vars x Vx hx
    obtain ⟨u', h1', _⟩ := S.vars y Vy hy
    have e1 := (hh h1).inj H1
    have e2 := (hh h1').inj H2
    subst e1 e2
    exact S.sep x y a Vx Vy hxy hx hy ox oy h1 h1'
  · obtain ⟨u, h1, _⟩ := S.vars x V hx
    have e1 := (hh h1).inj H
    subst e1
    exact (f b hb).v x V hx ho h1
end
end Mine
end
/-! part E23 -/
section
open PySem PySem.Calls PySem.Spec PyProof.Rows PySem.W PySem.SeqAt
open Sem (wp)
set_option Elab.async false
set_option linter.unusedVariables false
set_option maxRecDepth 100000
set_option maxHeartbeats 1000000
namespace Mine
section
variable {prog : Program} {w : World} {A : Around} {E : Value → Shared → Prop} {s s' : Shared} {mg mb : Str → Option Value} {F : Fm} {K K' X : Kn} {ρ ρ' : Ro prog w} {Φ : Out → Ro prog w → Prop} {L : Addr} {P : DP}
theorem abs_wp {M : Model} {α : Type} {m : Sem α} {Q : α → Shared → Prop} (h : ∀ Q' E', Q' = Q → E' = E → wpAny M A m Q' E' s) : wpAny M A m Q E s := h Q E rfl rfl
theorem ExS.tryErr {n : Nat} {lenv : Env} {xs : List Int} {Ps : List DP} {px pf py cpos fpos pv hpos tpos p0 p1 p2 apos pos epos bpos cpos2 dpos : Pos} {fbody rest : List Stmt} (ok : Fok n F) (B : Base w F.g mg mb)
    (hfr : F.A.frames = some [F.env, lenv]) (hfm : F.env.frame = some F.env.locals) (hlk : lenv.scope.kind = .function) (hlf : lenv.frame = some L) (hcells : F.env.cells = [])
    (hy : ρ "sizes" = some (.frz (dList ((0 :: xs).map dInt)))) (hrow : ρ "row" = some (.obj (accD w.params Ps))) (hsz : Ps.length ≤ 1000)
    (hk1 : F.env.kindOf "row" = some .local) (hk2 : F.env.kindOf "taken" = some .local) (hk3 : F.env.kindOf "_grouping_intervals" = some .globalImplicit) (hk4 : F.env.kindOf "ValueError" = some .globalImplicit)
    (hrest : ∀ ρ' : Ro prog w, ρ' "row" = some (.obj (accD w.params (cutL Ps 0))) → ρ' "taken" = some (.frz (dList (pickL Ps (some 0) none none).reverse)) → ExS L F rest ρ' P)
    (ht : backTo cpos (starEach [.Name "sizes" py] F.env) = [PySem.Expr.Name "sizes" py].map fun e => (false, eval e F.env) := by rfl)
    (hs : ∀ v, foldedSetIterable (.Call (.Name "_grouping_intervals" pf) [.Name "sizes" py] [] cpos) F.env v = pure v := by intro _; with_unfolding_all rfl)
    (hbase : attributeBase (.Name "row" p1) "pop_from" F.env (eval (.Name "row" p1) F.env) = eval (.Name "row" p1) F.env := by rfl)
    {pl : Sem Bool} (he : eval (.Call (.Attribute (.Name "row" p1) "pop_from" apos) [] [] pos) F.env = (do
      let ov ← attributeBase (.Name "row" p1) "pop_from" F.env (eval (.Name "row" p1) F.env)
      standAt apos.atName
      let (f, first) ← holding [ov] (getMethod ov "pop_from" pl)
      callWith pos f first (backTo pos (starEach [] F.env)) []) := by rfl)
    (hsw : swapsWith (.Call (.Attribute (.Name "row" p1) "pop_from" apos) [] [] pos) (some (.Name "taken" p0)) epos.line F.env = pure false := by with_unfolding_all rfl)
    (hbase2 : attributeBase (.Name "taken" p2) "reverse" F.env (eval (.Name "taken" p2) F.env) = eval (.Name "taken" p2) F.env := by rfl)
    (hfew2 : ((backTo cpos2 (starEach [] F.env)).all (fun x => !x.1) && (backToKw cpos2 (keywordEach [] F.env)).all (fun x => x.1.isSome) && decide (([] : List PySem.Expr).length + ([] : List Keyword).length + (if ([] : List Keyword).isEmpty then 0 else 1) < 30)) = true := by rfl)
    (hline2 : (bpos.endLine == cpos2.line) = true := by rfl)
    (hi2 : interactive F.env = false := by rfl) (hs2 : swapsWith (.Call (.Attribute (.Name "taken" p2) "reverse" bpos) [] [] cpos2) none dpos.line F.env = pure false := by with_unfolding_all rfl) :
    ExS L F (.Try [.For (.Name "size" px) (.Call (.Name "_grouping_intervals" pf) [.Name "sizes" py] [] cpos) fbody [] fpos]
      [.ExceptHandler (some (.Name "ValueError" pv)) none [.Assign [.Name "taken" p0] (.Call (.Attribute (.Name "row" p1) "pop_from" apos) [] [] pos) epos, .Expr (.Call (.Attribute (.Name "taken" p2) "reverse" bpos) [] [] cpos2) dpos] hpos] [] [] tpos :: rest) ρ P :=
  Wr.mk <| fun K X s ps Q E S T hK NL kL k => by
  have Bs := B.keeps (hk_keeps S.gk S.kin)
  refine wpAny_execs_cons (abs_wp fun Q0 E0 hQ0 hE0 => wpAny_Try_except (abs_wp fun Q1 E1 hQ1 hE1 => wpAny_execs_cons (wpAny_For (wpAny_Call_NameR (eval_glob ok B.gl S hk3 (B.at rfl) (callWith_function (evalArgs_of (by rw [ht]; exact (Evl.one (Ev.name ok hy)).evs) (by rw [ht]; exact plain_trees) S fun K₁ s₁ us e₁ r => ⟨⟨Base.K (Bs.keeps e₁.keep) _ _ rfl, rfl⟩, ?_⟩)) (by decide))) hs)))
  have S₁ := S.ext e₁
  have B₁ := Bs.keeps e₁.keep
  have hus : ∃ l vs nn, us = [.ref l] ∧ K₁ l = some (lObj vs nn) ∧ Al K₁ ((0 :: xs).map dInt) vs := by
    have al := r.al (Ps := [dList ((0 :: xs).map dInt)])
    cases al with
    | cons h1 r1 =>
      cases r1
      obtain ⟨l, vs, nn, rfl, h2, h3⟩ := h1
      exact ⟨l, vs, nn, rfl, h2, h3⟩
  obtain ⟨l, vs, nn, rfl, hKl, all⟩ := hus
  have hll := S₁.kin _ _ hKl
  refine wpAny_call (code_gen B₁ ok.rm.lt fun h' Lg a tk NG => ?_)
  refine wpAny_pyIter_gen NG.gen ?_
  have hFL : F.g.get? Lg = none := by
    cases q : F.g.get? Lg with
    | none => rfl
    | some o => have := S₁.kin _ _ (S₁.gk _ _ q); rw [show hk s₁.heap Lg = s₁.heap.get? Lg from rfl, NG.Lnew] at this; cases this
  have lL : l ≠ Lg := by rintro rfl; have := S₁.kin _ _ hKl; rw [show hk s₁.heap l = s₁.heap.get? l from rfl, NG.Lnew] at this; cases this
  have kg1 : Keep F.g h' := fun b o q => NG.keep _ _ (hk_keeps S₁.gk S₁.kin b o q)
  have hI : h'.get? h'.objs.size = none := get_new _
  have hI0 : F.g.get? h'.objs.size = none := by
    cases q : F.g.get? h'.objs.size with
    | none => rfl
    | some o => have := kg1 _ _ q; rw [hI] at this; cases this
  have hll' : h'.IsList l vs.toArray := ⟨_, NG.keep _ _ hll, rfl, nn, rfl⟩
  have hLI : Lg ≠ h'.objs.size := by rintro q; obtain ⟨o, _, _, e, _⟩ := objN NG.ns; rw [q, hI] at e; cases e
  have hlI : l ≠ h'.objs.size := by rintro q; obtain ⟨o, e, _⟩ := hll'; rw [q, hI] at e; cases e
  let C : GC w mg mb := ⟨F.g, Lg, h'.objs.size, l, vs.toArray, B, hFL, hI0, hLI, lL, hlI⟩
  have hz : ∃ t, vs.toArray[0]? = some (Value.int 0 t) := by
    obtain ⟨u, h1, t, h2⟩ := all.get (i := 0) (P := dInt 0) rfl
    exact ⟨t, by rw [List.getElem?_toArray, h1, h2]⟩
  obtain ⟨t0, hz⟩ := hz
  obtain ⟨md, hnd⟩ := S₁.ns
  obtain ⟨ml, hnl⟩ := NL.at_ S₁.xin
  have hdLg : F.env.locals ≠ Lg := by rintro q; obtain ⟨o, _, _, e, _⟩ := objN hnd; rw [q, NG.Lnew] at e; cases e
  have hlLg : L ≠ Lg := by rintro q; obtain ⟨o, _, _, e, _⟩ := objN hnl; rw [q, NG.Lnew] at e; cases e
  have hF : ∀ env ∈ [F.env, lenv], FrOk [Lg, F.env.locals, L] h' env := by
    intro env he
    rcases List.mem_cons.mp he with rfl | he
    · exact ⟨(by rw [ok.kind]; exact fun q => nomatch q), F.env.locals, md, hfm, by simp, hnd.keeps NG.keep⟩
    · rw [List.mem_singleton.mp he]
      exact ⟨(by rw [hlk]; exact fun q => nomatch q), L, ml, hlf, by simp, hnl.keeps NG.keep⟩
  refine codeAny_forLoop (fun m s' => s' = { s₁ with gens := s₁.gens.push (.fresh (.func (genBody w.params) (gEnv w.params Lg))), toks := tk, heap := h' }) ?_ 0 rfl
  rintro m s' rfl
  refine next_gen (n := 0) (R := Rerr Lg [F.env, lenv] [Lg, F.env.locals, L]) (Y := fun _ _ _ _ _ => False) (g := s₁.gens.size) ok.rm.hh (B₁.gl.lim.keeps NG.keep) ok.rm.lt NG.gen (Array.getElem?_push_size ..)
    ⟨rfl, seg_err (C := C) (A := F.A.in1) (t := t0) ok.rm.hh hfr hF (fun env he L' hL' => ?_) (by simp [C]) NG.ns rfl rfl kg1 hll' hz⟩ (fun _ _ _ _ h => h.elim) (fun r s₂ hR => .inr ?_)
  · rcases List.mem_cons.mp he with rfl | he
    · rw [hfm] at hL'; cases hL'; exact hdLg
    · rw [List.mem_singleton.mp he, hlf] at hL'; cases hL'; exact hlLg
  obtain ⟨x, a0, h0, rfl, ⟨h1, tk1, rfl⟩, hk0, hU, hfl⟩ := hR
  obtain ⟨eo, heo, hcls⟩ := hfl.there
  have haLg : a ≠ Lg := NG.La
  have had : a ≠ F.env.locals := by rintro q; obtain ⟨o, _, _, e, _⟩ := objN hnd; rw [← q, NG.anew] at e; cases e
  have haL : a ≠ L := by rintro q; obtain ⟨o, _, _, e, _⟩ := objN hnl; rw [← q, NG.anew] at e; cases e
  have hst : ∀ b o, b ≠ Lg → b ≠ F.env.locals → b ≠ L → h'.get? b = some o → h1.get? b = some o := fun b o q1 q2 q3 e => hfl.1 b o (hideAll_get _ (hk0 b o q1 e) (by simp [q1, q2, q3]))
  refine ⟨x, eo, rfl, heo, hcls, (let ⟨o, nm, qn, q, r⟩ := NG.gen; ⟨o, nm, qn, hst a o haLg had haL q, r⟩), ?_⟩
  refine wpAny_looks_onW hfr hfm hfl fun h4 hheld hsm => ?_
  obtain ⟨oe, ws, TT, oT, ts, q1, q2, q3, q4, _⟩ := id hheld.2.2.2
  show wpAny _ F.A (do
    if (← field (.ref x) 1) == .none then unsupported "frame.own-activation:exception-without-traceback"
    setFlight (.ref x) F.env.frame) _ _ _
  refine wpAny_bind (wpAny_field q1 q3 q4 ?_)
  rw [if_neg (show ¬ ((Value.ref TT == Value.none) = true) from by simp), hfm]
  refine flight_heldW hheld fun h5 hheld5 hsm5 => ?_
  rw [hE1]
  refine wpAny_noteFrame_againW hfm hheld5.2.2.2 (wpAny_landsW hheld5 fun h6 hfl6 hsm6 => ?_)
  have gL : F.g.get? L = none := by
    cases q : F.g.get? L with
    | none => rfl
    | some o => have := S.gk _ _ q; rw [kL] at this; cases this
  have gd : F.g.get? F.env.locals = none := by
    cases q : F.g.get? F.env.locals with
    | none => rfl
    | some o => have := S.gk _ _ q; rw [S.kl] at this; cases this
  have stay : ∀ {hh : Heap}, Heap.FlyingW (hideAll h0 [Lg, F.env.locals, L]) [F.env, lenv] x (.type "ValueError") a0 hh → ∀ b o, b ≠ Lg → b ≠ F.env.locals → b ≠ L → s₁.heap.get? b = some o → hh.get? b = some o := fun ff b o q1 q2 q3 e => ff.1 b o (hideAll_get _ (hk0 b o q1 (NG.keep _ _ e)) (by simp [q1, q2, q3]))
  have stayg : ∀ {hh : Heap}, Heap.FlyingW (hideAll h0 [Lg, F.env.locals, L]) [F.env, lenv] x (.type "ValueError") a0 hh → Keep F.g hh := fun ff b o e => stay ff b o (fun z => by rw [z, hFL] at e; cases e) (fun z => by rw [z, gd] at e; cases e) (fun z => by rw [z, gL] at e; cases e) (hk_keeps S₁.gk S₁.kin b o e)
  have B6 := B.keeps (stayg hfl6)
  obtain ⟨eo6, heo6, hcls6⟩ := hfl6.there
  refine wpAny_handleBy_builtin (X := "ValueError") (T := "ValueError") (b := true) PySem.F.isExc_ValueError PySem.F.notTuple_ValueError PySem.F.self_ValueError
    (Name_function_global ok.kind hk4 (loadGlobal_builtin (by rw [ok.glob]; exact B6.gl.gl) (B6.no rfl) (by rw [ok.bui]; exact B6.gl.bu) ((B6.gl.boot _ (by decide)).trans rfl) ⟨rfl, ⟨eo6, heo6, hcls6⟩, ?_⟩) (by decide))
  rw [if_pos rfl]
  refine lands_againW hfl6 fun h7 hfl7 hsm7 => ?_
  have hU7 : h0.UpToSlots h7 := hU.trans (hsm.trans (hsm5.trans (hsm6.trans hsm7)))
  have st7 := stay hfl7
  have slot7 : ∀ b, b ≠ Lg → (∀ o es n, s₁.heap.get? b = some o → o.data ≠ .fields es) → ∀ o, s₁.heap.get? b = some o → ∃ sl, h7.get? b = some { o with slots := sl } := fun b hb hd o e => hU7 b o (hk0 b o hb (NG.keep _ _ e)) fun vs => hd o vs 0 e
  have nsnf : ∀ {b : Addr} {mm : Str → Option Value}, s₁.heap.Ns b mm → ∀ o es (n : Nat), s₁.heap.get? b = some o → o.data ≠ .fields es := fun hn o es _ e q => by
    obtain ⟨o', es', ep', e', hd', _⟩ := hn
    rw [e] at e'; cases e'; rw [hd'] at q; cases q
  -- what is told, without L
  obtain ⟨oL, hXL⟩ := NL.some_
  have hLd : L ≠ F.env.locals := by rintro rfl; rw [S.xl] at hXL; cases hXL
  have kL1 : K₁ L = none := (e₁.old _ _ (S.xin _ _ hXL)).trans kL
  let Xm : Kn := fun b => if b = L then none else X b
  have hXm : ∀ b, b ≠ L → Xm b = X b := fun b hb => if_neg hb
  have Xmle : Kle Xm X := fun b o e => by
    by_cases hb : b = L
    · subst hb; rw [show Xm b = none from if_pos rfl] at e; cases e
    · rw [hXm b hb] at e; exact e
  have hcl : ∀ z c, F.env.cells.lookup z = some c → c ≠ L := fun z c hc => by rw [hcells] at hc; cases hc
  have offL : Off F K₁ Xm ρ s₁ L := Off.of_X hXL S₁ (if_pos rfl) kL1 hcl
  obtain ⟨S7, O7⟩ := (S₁.lessX Xmle).touchS (tk := tk1) (wr := [L]) (h' := h7) (fun b hb => by rw [List.mem_singleton.mp hb]; exact offL)
    (fun b o hb hbl e => st7 b o (fun z => by subst z; rw [NG.Lnew] at e; cases e) hbl (fun z => hb (by rw [z]; exact List.mem_singleton.mpr rfl)) e)
    (fun o e => slot7 _ hdLg (nsnf hnd) o e)
  have SX := S7.addX O7 S7.xin
  refine suite_raw (F := F) (A := F.A.mark (some (.ref x))) (SX.heapEq rfl) ok.kind hk1 hk2 (by decide) hcells B ok.rm.lt hrow hsz (fun K' s' ρ' h1 h2 h3 S' st' => ?_) hbase he hsw hbase2 hfew2 hline2 hi2 hs2
  have hgs : s.gens.size ≤ s₁.gens.size := e₁.rest.gens.size
  have hne := NL.ne76 T
  have hXA : ∀ b, b ≠ L → addX Xm [L] h7 b = X b := fun b hb => (addX_out (by simp [hb])).trans (hXm b hb)
  have hXAL : addX Xm [L] h7 L = h7.get? L := addX_in (List.mem_singleton.mpr rfl)
  have slL := slot7 L hlLg (nsnf hnl)
  have T' : TabAt (addX Xm [L] h7) ps := ⟨(hXA 76 (Ne.symm hne)).trans T.at_, T.ok⟩
  have NL' : NsX (addX Xm [L] h7) L := ⟨h7, ml, ns_slots slL hnl, hXAL⟩
  have hK1 : K₁ 76 = none := (e₁.old _ _ (S.xin _ _ T.at_)).trans hK
  rw [hQ0]
  show wpAny (model prog w) F.A (execs rest F.env) Q E s'
  refine (hrest ρ' h1 h2).out K' (addX Xm [L] h7) s' ps Q E S' T' ((st'.old _ _ T'.at_).trans hK1) NL' (let ⟨o, q⟩ := NL'.some_; (st'.old _ o q).trans kL1) fun K2 X2 s2 v more c1 c2 c3 c4 c5 c6 st2 => k K2 X2 s2 v more c1 c2 c3 c4 (fun b h1 h2 => (c5 b h1 h2).trans (hXA b h2)) (fun o q => ?_) ?_
  · obtain ⟨sl, h8⟩ := slL o (S₁.xin _ _ q)
    obtain ⟨sl2, h9⟩ := c6 _ (hXAL.trans h8)
    exact ⟨sl2, h9⟩
  · refine ⟨⟨(st'.rest.trans st2.rest).os.trans e₁.rest.os, ?_⟩, e₁.le.trans (st'.le.trans st2.le), fun b o q => ?_⟩
    · exact ((((e₁.rest.gens.push rfl).set hgs rfl).set hgs rfl).trans st'.rest.gens).trans st2.rest.gens
    · have hx : ∃ o', addX Xm [L] h7 b = some o' := by
        by_cases hb : b = L
        · subst hb
          obtain ⟨sl, h8⟩ := slL o (S₁.xin _ _ q)
          exact ⟨_, hXAL.trans h8⟩
        · exact ⟨o, (hXA b hb).trans q⟩
      obtain ⟨o', hx⟩ := hx
      exact (st2.old b o' hx).trans ((st'.old b o' hx).trans (e₁.old b o (S.xin b o q)))
end
end Mine
end
/-! part E24 -/
section
open PySem PySem.Calls PySem.Spec PyProof.Rows PySem.W PySem.SeqAt
set_option Elab.async false
set_option linter.unusedVariables false
set_option maxRecDepth 100000
set_option maxHeartbeats 1000000
namespace Mine
/-! ## the deal, on places -/
theorem cutL_map {α β : Type} (f : α → β) (l : List α) (lo : Int) : cutL (l.map f) lo = (cutL l lo).map f := by
  unfold cutL
  rw [List.length_map, List.map_append, List.map_take, List.map_drop]
noncomputable def dstep (p : List Int × List Int) (x : Int) : List Int × List Int := (cutL p.1 (-x), p.2 ++ pickL p.1 (some (-x)) none none)
noncomputable def dAt (out : List Int) (j : Nat) : List Int × List Int := (out.take j).foldl dstep ([0, 1, 2, 3], [])
theorem dAt_zero (out : List Int) : dAt out 0 = ([0, 1, 2, 3], []) := rfl
theorem dAt_succ {out : List Int} {j : Nat} {x : Int} (h : out[j]? = some x) : dAt out (j + 1) = dstep (dAt out j) x := by
  unfold dAt
  rw [List.take_add_one, h, List.foldl_append]
  rfl
theorem deal_facts : ∀ a b c : Fin 5, (szs a b c)[0]? ≠ some 0 → (4 < (gout 6 (szs a b c) none).length → (dAt (gout 6 (szs a b c) none) 4).1 = []) ∧
    ∀ j : Fin 5, (((gout 6 (szs a b c) none).length ≤ j ∨ (dAt (gout 6 (szs a b c) none) j).1 = []) → (dAt (gout 6 (szs a b c) none) j).1 ++ (dAt (gout 6 (szs a b c) none) j).2 = cutF (szs a b c)) ∧
      (dAt (gout 6 (szs a b c) none) j).1.length ≤ 4 ∧ (dAt (gout 6 (szs a b c) none) j).2.length ≤ 4 := by decide +kernel
theorem deal_zero : ∀ a b c : Fin 5, (szs a b c)[0]? = some 0 → cutF (szs a b c) = [3, 2, 1, 0] := by decide +kernel
theorem cutF_len : ∀ a b c : Fin 5, (cutF (szs a b c)).length = 4 := by decide +kernel
theorem zero_row : cutL ([0, 1, 2, 3] : List Int) 0 = [] ∧ (pickL ([0, 1, 2, 3] : List Int) (some 0) none none).reverse = [3, 2, 1, 0] := by decide +kernel
theorem app_four {cs : List Nat} (h : cs.length = 4) : app [0, 1, 2, 3] cs = cs := by
  match cs, h with
  | [a, b, c, d], _ => rfl
theorem app_append (m n : List Int) (cs : List Nat) : app (m ++ n) cs = app m cs ++ app n cs := List.map_append
theorem app_cut (m : List Int) (cs : List Nat) (lo : Int) : cutL ((app m cs).map prD) lo = (app (cutL m lo) cs).map prD := by
  rw [cutL_map]; unfold app; rw [cutL_map]
theorem app_pick (m : List Int) (cs : List Nat) (lo hi st : Option Int) : pickL ((app m cs).map prD) lo hi st = (app (pickL m lo hi st) cs).map prD := by
  rw [pickL_map]; unfold app; rw [pickL_map]
end Mine
end
/-! part E25 -/
section
open PySem PySem.Calls PySem.Spec PyProof.Rows PySem.W PySem.SeqAt
open Sem (wp)
set_option Elab.async false
set_option linter.unusedVariables false
set_option maxRecDepth 100000
set_option maxHeartbeats 2000000
namespace Mine
section
variable {prog : Program} {w : World} {g : Heap} {mg mb : Str → Option Value}
theorem SpecS.enter {n : Nat} {f : Addr} {o : Obj} {fd : FuncData} {body : List Stmt} {xs : List Str} {Ps : List DP} {P : DP} (G : Gl g mg mb) (hmods : ∃ o, g.get? sysModules = some o) (ho : g.get? f = some o) (hd : o.data = .func fd) (fo : FnOk g fd body xs)
    (hl : xs.length = Ps.length) (h : ∀ F L lenv, IsFrame g n fd F → F.A.frames = some [F.env, lenv] → lenv.scope.kind = .function → lenv.frame = some L → ExS L F body (parR xs Ps : Ro prog w) P) : SpecS prog w g (n + 1) f Ps P := fun A K s vs ps Q E lenv L m rm hfr hek hef hn kL T hK hgk hkin al k => by
  have kp := hk_keeps hgk hkin
  have hlen : vs.length = xs.length := al.length.trans hl.symm
  refine wpAny_call (codeAny_call_cells rm.lt (kp _ _ ho) hd (G.lim.keeps kp) (fo.code.keeps kp) fo.body (fo.bind vs hlen) fo.clo ?_ ?_ fo.co fo.gen fo.kind)
  · intro x hx
    have hx' : x.1 ∈ xs := by
      have := List.mem_map_of_mem (f := (·.1)) hx
      rwa [zip_keys _ _ hlen.symm] at this
    rcases fo.par _ hx' with h1 | h1
    · exact .inl h1
    · refine .inr ⟨h1, ?_⟩
      obtain ⟨c, hc, _⟩ := lookup_cellsFrom_in fd.scope.names (s.heap.objs.size + 1) [] (mem_cellNames h1)
      rw [hc]; rfl
  · intro s₁ x
    let F : Fm := ⟨callEnvC fd s.heap.objs.size f, A.deeper (callEnvC fd s.heap.objs.size f), g, cellNames fd.scope.names⟩
    have hF : IsFrame g n fd F := ⟨rfl, rfl, rfl, ⟨_, _, rfl⟩, ⟨fo.kind, fo.glob, fo.bui, rm.deeper _, hmods⟩⟩
    have hFr : F.A.frames = some [F.env, lenv] := Around.frames_deeper hfr
    obtain ⟨h₁, tk₁, rfl⟩ := x.toInCall.same
    have hfr : ∀ a, s.heap.objs.size ≤ a → s.heap.get? a = none := fun a => none_of_fresh
    have hkd : ∀ y, F.env.kindOf y = fd.scope.names.lookup y := fun _ => rfl
    have S : Sat F K (hk s.heap) (parR xs Ps : Ro prog w) { s with heap := h₁, toks := tk₁ } := by
      refine ⟨hgk, fun a o q => x.toInCall.keep a o (hkin a o q), fun a o q => x.toInCall.keep a o q, ⟨_, x.toInCall.ns⟩, kn_none hkin (hfr _ x.toInCall.fresh), hfr _ x.toInCall.fresh, ?_, ?_, ?_, ?_, ?_⟩
      · intro y hy
        obtain ⟨c, hc, hle⟩ := lookup_cellsFrom_in fd.scope.names (s.heap.objs.size + 1) [] hy
        have hc0 := hfr c (Nat.le_of_succ_le hle)
        exact ⟨c, _, (hkd y).trans (fo.cell y hy), hc, x.cell y c hc, kn_none hkin hc0, hc0⟩
      · intro y c _ hc z hz
        exact name_of_addr x.apart (mem_of_lookup hz) (mem_of_lookup hc)
      · intro y c hc
        obtain ⟨o', ho', _⟩ := x.cell y c hc
        exact ⟨o', ho'⟩
      · intro y V hy
        unfold parR at hy
        obtain ⟨P', hP', rfl⟩ := Option.map_eq_some_iff.mp hy
        obtain ⟨v, hm, hv⟩ := zip_al al hP'
        have hyx : y ∈ xs := by
          have := List.mem_map_of_mem (f := (·.1)) hm
          rwa [zip_keys _ _ hlen.symm] at this
        have hnd : ((xs.zip vs).map (·.1)).Nodup := by rw [zip_keys _ _ hlen.symm]; exact fo.nodup
        refine ⟨v, ?_, hv, fun e => nomatch e⟩
        rcases fo.par y hyx with h1 | h1
        · exact .inl ⟨(hkd y).trans h1, _, x.toInCall.ns, bindL_at _ _ _ _ hnd hm ((hkd y).trans h1)⟩
        · obtain ⟨c, hc, _⟩ := lookup_cellsFrom_in fd.scope.names (s.heap.objs.size + 1) [] (mem_cellNames h1)
          refine .inr ⟨.inl ((hkd y).trans h1), c, hc, ?_⟩
          have h2 := x.cell y c hc
          rwa [bindC_at _ _ _ _ hnd hm (by rw [hkd y |>.trans h1]; intro e; cases e)] at h2
      · intro y z a Vy Vz _ hy _ oy
        unfold parR at hy
        obtain ⟨P', _, rfl⟩ := Option.map_eq_some_iff.mp hy
        cases oy
    refine (h F L lenv hF hFr hek hef).out K (hk s.heap) _ ps _ _ S T hK ⟨s.heap, m, hn, rfl⟩ kL fun K' X' s' v more hv c1 c2 c3 c4 c5 st => ?_
    exact k K' s' v ⟨⟨st.rest.os, st.rest.gens⟩, fun b o h1 h2 q => c2 b o ((c4 b h2 h1).trans q), fun o q => let ⟨sl, z⟩ := c5 o q; ⟨sl, c2 _ _ z⟩, ⟨more, c2 _ _ c3.at_, c3.ok⟩, st.le, fun a o q => st.old a o q, c1⟩ hv
theorem Ex.tryOk {F : Fm} {ρ : Ro prog w} {Φ : Out → Ro prog w → Prop} {body : List Stmt} {h0 : ExceptHandler} {hs : List ExceptHandler} {pos : Pos} (h : Ex F body ρ Φ) : Ex F [.Try body (h0 :: hs) [] [] pos] ρ Φ := Ex.last fun K X s Q E S k =>
  wpAny_Try_except (h.out K X s _ _ S fun K' s' fl o ρ' hp hi S' st => by
    have := k K' s' fl o ρ' hp hi S' st
    cases fl with
    | next => exact wpAny_execs_nil this
    | brk => exact this
    | cont => exact this
    | ret v => exact this)
/-- the rest: the taken are pushed again, the row is told -/
theorem deal_tail {F : Fm} {ρ : Ro prog w} {L : Addr} {n : Nat} {bm : Addr} {ob : Obj} {rs ts : List Nat} {pa pb pt pi fpos px p1 p2 apos pos epos ps py cpos rpos : Pos} {x1 : Nat} (ok : Fok n F) (B : Base w F.g mg mb) (BM : BMod F.g mainGlobals mg bm ob)
    (hr : ρ "row" = some (.obj (accD w.params (rs.map prD)))) (htk : ρ "taken" = some (.frz (dList (ts.map prD)))) (hlen : (rs ++ ts).length = 4)
    (hka : Own1 F "ahead") (hkb : Own1 F "card") (hks : F.env.kindOf "str" = some .globalImplicit)
    (hs : ∀ x, foldedSetIterable (.Name "taken" pi) F.env x = pure x := by intro _; with_unfolding_all rfl) (hm : F.A.mark none = F.A := by rfl)
    (hbase : attributeBase (.Name "row" px) "push" F.env (eval (.Name "row" px) F.env) = eval (.Name "row" px) F.env := by rfl)
    {pl : Sem Bool} (he : eval (.Call (.Attribute (.Name "row" px) "push" apos) [.Name "ahead" p1, .Name "card" p2] [] pos) F.env = (do
      let ov ← attributeBase (.Name "row" px) "push" F.env (eval (.Name "row" px) F.env)
      standAt apos.atName
      let (f, first) ← holding [ov] (getMethod ov "push" pl)
      callWith pos f first (backTo pos (starEach [.Name "ahead" p1, .Name "card" p2] F.env)) []) := by rfl)
    (ht : backTo pos (starEach [.Name "ahead" p1, .Name "card" p2] F.env) = [PySem.Expr.Name "ahead" p1, .Name "card" p2].map fun e => (false, eval e F.env) := by rfl)
    (hi : interactive F.env = false := by rfl) (hsw : swapsWith (.Call (.Attribute (.Name "row" px) "push" apos) [.Name "ahead" p1, .Name "card" p2] [] pos) none epos.line F.env = pure false := by with_unfolding_all rfl)
    (ht2 : backTo cpos (starEach [.Name "row" py] F.env) = [PySem.Expr.Name "row" py].map fun e => (false, eval e F.env) := by rfl) :
    ExS L F [.For (.Tuple [.Name "ahead" pa, .Name "card" pb] x1 pt) (.Name "taken" pi) [.Expr (.Call (.Attribute (.Name "row" px) "push" apos) [.Name "ahead" p1, .Name "card" p2] [] pos) epos] [] fpos,
      .Return (some (.Call (.Name "str" ps) [.Name "row" py] [] cpos)) rpos] ρ (dR (rs ++ ts)) := by
  refine ExS.seq (Ex.forPairs (prs := ts.map fun c => (dStr "", dStr (ltr c))) ok hka hkb (Ev.name ok (by rw [List.map_map]; exact htk)) (fun i ρ => ρ "row" = some (.obj (accD w.params ((rs ++ ts.take i).map prD)))) (by simpa using hr) (fun i p ρ' hp hI => ?_) (fun ρ' hI => ⟨rfl, ?_⟩) hs hm)
  · rw [List.getElem?_map] at hp
    obtain ⟨c, hc, rfl⟩ := Option.map_eq_some_iff.mp hp
    have hil : i < ts.length := (List.getElem?_eq_some_iff.mp hc).1
    refine Ex.push ok B ok.rm.lt (Ps := (rs ++ ts.take i).map prD) ((upd_ne _ _ (by decide)).trans ((upd_ne _ _ (by decide)).trans hI)) ?_ (Evl.two (Ev.name ok ((upd_ne _ _ (by decide)).trans (upd_self _ _ _))) (Ev.name ok (upd_self _ _ _))) ?_ hbase he ht hi hsw
    · rw [List.length_map, List.length_append, List.length_take]
      rw [List.length_append] at hlen
      omega
    · show (upd _ "row" _) "row" = _
      rw [upd_self, List.take_add_one, hc]
      simp [prD]
  · rw [List.length_map] at hI
    refine ExS.str ok B BM (ds := rs ++ ts) (by rw [hI, List.take_length]) hlen hks ht2
end
end Mine
end
/-! part E26 -/
section
open PySem PySem.Calls PySem.Spec PyProof.Rows PySem.W PySem.SeqAt
open Sem (wp)
set_option Elab.async false
set_option linter.unusedVariables false
set_option maxRecDepth 100000
set_option maxHeartbeats 2000000
namespace Mine
section
variable {prog : Program} {w : World} {g : Heap} {mg mb : Str → Option Value}
theorem deal_ok {bm : Addr} {ob : Obj} (pg : PgOk prog) (B : Base w g mg mb) (BM : BMod g mainGlobals mg bm ob) (cs : List Nat) (a b c : Fin 5) (hcs : IsRow cs) :
    SpecS prog w g 5 (aOf w.params "_law_deal") [dR cs, dL (szs a b c)] (dR (app (cutF (szs a b c)) cs)) := by
  refine SpecS.enter (xs := ["cards", "sizes"]) B.gl B.mods (B.K _ _ rfl) rfl ⟨⟨_, _, _, _, rfl, B.K _ _ rfl, rfl, rfl⟩, rfl, bind2 rfl fun _ _ => rfl, rfl, rfl, rfl, by decide, by decide, by decide, rfl, rfl, rfl⟩ rfl fun F L lenv hF hfr hlk hlf => ?_
  obtain ⟨env, A, g', mine⟩ := F
  obtain ⟨-, rfl, rfl, ⟨Ld, f, rfl⟩, ok⟩ := hF
  have hh := ok.rm.hh
  have hroom1 : A.depth + 1 < recursionLimit := by have := ok.rm.depth; show _ < 1000; dsimp only at this; omega
  have itrC : Itr prog w A (.frz (dR cs)) (cs.map fun c => dStr (ltr c)) := by
    have := itr_str (A := A) (prog := prog) (w := w) (x := rowS cs) hh trivial
    rw [sgn_row, List.map_map] at this; exact this
  have hlen4 := hcs.len
  -- row = _Accumulator()
  refine ExS.seq (Ex.assignN ok (.inl rfl) (En.acc pg ok B (B.at rfl) hroom1) ⟨rfl, ?_⟩)
  -- for card in cards: row.push('', card)
  refine ExS.seq (Ex.for ok (.inl rfl) (Ev.name ok (R := .frz (dR cs)) (by passes_own)) itrC (fun i ρ => ρ "row" = some (.obj (accD w.params ((cs.take i).map prD))) ∧ ρ "sizes" = some (.frz (dL (szs a b c)))) ⟨upd_self _ _ _, by passes_own⟩ (fun i P ρ hP hI => ?_) (fun ρ hI => ⟨rfl, ?_⟩))
  · obtain ⟨h1, h2⟩ := hI
    rw [List.getElem?_map] at hP
    obtain ⟨cd, hc, rfl⟩ := Option.map_eq_some_iff.mp hP
    have hil : i < cs.length := (List.getElem?_eq_some_iff.mp hc).1
    refine Ex.push ok B ok.rm.lt (Ps := (cs.take i).map prD) (by passes_own) ?_ (Evl.two Ez.str (Ev.name ok (by passes_own))) ?_
    · rw [List.length_map, List.length_take]; omega
    · refine ⟨?_, by passes_own⟩
      rw [upd_self, List.take_add_one, hc]
      simp [prD]
  rw [List.length_map, List.take_length] at hI
  obtain ⟨h1, h2⟩ := hI
  -- taken = []
  refine ExS.seq (Ex.assignN ok (.inl rfl) (lstD (Ps := []) .nil (Nat.zero_le _)) ⟨rfl, ?_⟩)
  refine ExS.freeze (upd_self _ _ _) ?_
  have hrow : (upd (upd ρ "taken" (V.lst [])) "taken" (V.frz (V.cold (V.lst [] : V prog w)))) "row" = some (.obj (accD w.params (cs.map prD))) := by passes_own
  have hsizes : (upd (upd ρ "taken" (V.lst [])) "taken" (V.frz (V.cold (V.lst [] : V prog w)))) "sizes" = some (.frz (dL (szs a b c))) := by passes_own
  have htaken : (upd (upd ρ "taken" (V.lst [])) "taken" (V.frz (V.cold (V.lst [] : V prog w)))) "taken" = some (.frz (dList [])) := upd_self _ _ _
  generalize (upd (upd ρ "taken" (V.lst [])) "taken" (V.frz (V.cold (V.lst [] : V prog w)))) = ρ1 at hrow hsizes htaken ⊢
  clear h1 h2
  have happ0 : app [0, 1, 2, 3] cs = cs := app_four hlen4
  by_cases hz : (szs a b c)[0]? = some 0
  · have hc := deal_zero a b c hz
    have hx : szs a b c = 0 :: [szAt b, szAt c] := by
      have : szAt a = 0 := by simpa [szs] using hz
      unfold szs; rw [this]
    rw [hc]
    refine ExS.tryErr (xs := [szAt b, szAt c]) ok B hfr rfl hlk hlf rfl (by rw [hsizes, hx]; rfl) hrow (by rw [List.length_map]; omega) rfl rfl rfl rfl (fun ρ' hr ht => ?_)
    rw [← happ0, app_cut, zero_row.1] at hr
    rw [← happ0, app_pick, ← List.map_reverse, show (app (pickL [0, 1, 2, 3] (some 0) none none) cs).reverse = app [3, 2, 1, 0] cs by rw [← zero_row.2]; unfold app; rw [List.map_reverse]] at ht
    exact deal_tail (rs := []) (ts := app [3, 2, 1, 0] cs) ok B BM hr ht rfl (.inl rfl) (.inl rfl) rfl
  · obtain ⟨f1, f2⟩ := deal_facts a b c hz
    have hclen := cutF_len a b c
    generalize hout : gout 6 (szs a b c) none = out at f1 f2
    have fin : ∀ (j : Nat) (ρ2 : Ro prog w), j ≤ 4 → (out.length ≤ j ∨ (dAt out j).1 = []) → ρ2 "row" = some (.obj (accD w.params ((app (dAt out j).1 cs).map prD))) → ρ2 "taken" = some (.frz (dList ((app (dAt out j).2 cs).map prD))) → (dAt out j).1 ++ (dAt out j).2 = cutF (szs a b c) ∧ (app (dAt out j).1 cs ++ app (dAt out j).2 cs).length = 4 ∧ dR (app (cutF (szs a b c)) cs) = dR (app (dAt out j).1 cs ++ app (dAt out j).2 cs) := by
      intro j ρ2 hj hq _ _
      have e := (f2 ⟨j, by omega⟩).1 hq
      refine ⟨e, ?_, ?_⟩
      · rw [← app_append, e]; unfold app; rw [List.length_map]; exact hclen
      · rw [← app_append, e]
    refine ExS.seq (Ex.tryOk (Ex.genFor (N := 5) (xs := szs a b c) (out := out) ok B (.inl rfl) hsizes hz hout.symm rfl rfl rfl (fun j ρ => j ≤ 4 ∧ ρ "row" = some (.obj (accD w.params ((app (dAt out j).1 cs).map prD))) ∧ ρ "taken" = some (.frz (dList ((app (dAt out j).2 cs).map prD)))) ⟨by omega, by rw [dAt_zero, happ0]; exact hrow, htaken⟩ (fun j ρ h => Nat.le_succ_of_le h.1) (fun j v ρ2 hv hI => ?_) (fun j ρ2 hI hle => ⟨rfl, ?_⟩)))
    · obtain ⟨hj, hr, ht⟩ := hI
      have hl : (dAt out j).1.length ≤ 4 ∧ (dAt out j).2.length ≤ 4 := (f2 ⟨j, by omega⟩).2
      refine Ex.seq (Ex.ifc (b := ((((app (dAt out j).1 cs).map prD).length : Int) == 0)) (Eb.cmp (Ez.count pg ok B ok.rm.lt (by passes_own)) Ez.int cmp_eq) (fun h => Ex.brk ?_) (fun h => Ex.nil ?_))
      · have hnil : (dAt out j).1 = [] := by
          have : (dAt out j).1.length = 0 := by simpa [app] using h
          exact List.length_eq_zero_iff.mp this
        obtain ⟨e1, e2, e3⟩ := fin j ρ2 hj (.inr hnil) hr ht
        refine ⟨rfl, ?_⟩
        rw [e3]
        exact deal_tail ok B BM (by passes_own) (by passes_own) e2 (.inl rfl) (.inl rfl) rfl
      · have hne : (dAt out j).1 ≠ [] := fun q => by simp [q, app] at h
        have hj4 : j + 1 ≤ 4 := by
          by_cases q : j = 4
          · subst q
            exact absurd (f1 (by
              obtain ⟨hlt, _⟩ := List.getElem?_eq_some_iff.mp hv
              exact hlt)) hne
          · omega
        refine Ex.pop ok B ok.rm.lt (Ps := (app (dAt out j).1 cs).map prD) (Qs := (app (dAt out j).2 cs).map prD) (lo := -v) (by passes_own) (by passes_own) (.inl rfl) (by decide) (by simp only [app, List.length_map]; omega) (by simp only [app, List.length_map]; omega) (Evl.one (ez_neg (Ev.name ok (by passes_own)))) (fun ρ' h1 h2 _ => ⟨hj4, ?_, ?_⟩)
        · rw [h1, app_cut, dAt_succ hv]; rfl
        · rw [h2, app_pick, ← List.map_append, ← app_append, dAt_succ hv]; rfl
    · obtain ⟨hj, hr, ht⟩ := hI
      obtain ⟨e1, e2, e3⟩ := fin j ρ2 hj (.inl hle) hr ht
      rw [e3]
      exact deal_tail ok B BM hr ht e2 (.inl rfl) (.inl rfl) rfl
end
end Mine
end
/-! part G1 -/
section
open PySem PySem.Calls PySem.Spec PyProof.Rows PySem.W PySem.SeqAt
set_option Elab.async false
set_option linter.unusedVariables false
set_option maxRecDepth 100000
set_option maxHeartbeats 4000000
namespace Mine
theorem al_ints {K : Kn} {vs : List Value} {ns : List Int} (h : IntsAre vs ns) : Al K (ns.map dInt) vs := by
  induction h with
  | nil => exact .nil
  | cons n t _ ih => exact .cons ⟨t, rfl⟩ ih
theorem list_of_well {P : Params} {h : Heap} {a : Addr} {d : WData} {ys : List WData} {vs : List Value} (W : Well P h (.ref a) d) (hd : d = .list ys) (hL : h.IsList a vs.toArray) : h.get? a = some (lObj vs 0) := by
  subst hd
  cases W with
  | list hg _ =>
    obtain ⟨o, ho, _, n, hdat⟩ := hL
    rw [hg] at ho
    cases ho
    injection hdat with e1 e2
    rw [hg, e1]; rfl
theorem mods_of {h : Heap} (x : h.NoSeer) : ∃ o, h.get? sysModules = some o := by
  obtain ⟨m, ⟨o, _, _, ho, _⟩, _⟩ := x.mods
  exact ⟨o, ho⟩
/-- the start without the table -/
theorem hid_get {h : Heap} {a : Addr} {o : Obj} (e : h.get? a = some o) (ha : a ≠ 76) : (hideAll h [76]).get? a = some o := hideAll_get _ e (by simpa using ha)
theorem hid_none (h : Heap) : (hideAll h [76]).get? 76 = none := hideAll_none _ (by simp)
theorem hid_of {h : Heap} {a : Addr} {o : Obj} (e : (hideAll h [76]).get? a = some o) : h.get? a = some o := of_hideAll _ e
theorem hid_ns {h : Heap} {a : Addr} {m : Str → Option Value} (hn : h.Ns a m) (ha : a ≠ 76) : (hideAll h [76]).Ns a m := hn.at' fun o e => hid_get e ha
theorem frag_no76 (P : Params) : (hd.heap_1 P).lookup 76 = none := rfl
theorem base_hid {w : World} {h : Heap} {mg mb : Str → Option Value} (B : Base w h mg mb) : Base w (hideAll h [76]) mg mb := by
  refine ⟨⟨hid_ns B.gl.gl (by decide), hid_ns B.gl.bu (by decide), ?_, B.gl.boot⟩, fun a o e => ?_, ?_⟩
  · obtain ⟨m, hn, hm⟩ := B.gl.lim
    exact ⟨m, hid_ns hn (by decide), hm⟩
  · refine hid_get (B.K a o e) ?_
    rintro rfl
    rw [frag_no76] at e; cases e
  · obtain ⟨o, ho⟩ := B.mods
    exact ⟨o, hid_get ho (by decide)⟩
theorem bmod_hid {h : Heap} {mg : Str → Option Value} {bm : Addr} {ob : Obj} {ps : Array Value} (x : BMod h mainGlobals mg bm ob) (h76 : h.get? 76 = some (tabObj ps)) : BMod (hideAll h [76]) mainGlobals mg bm ob :=
  ⟨hid_ns x.ns (by decide), x.name, x.ne, hid_get x.obj (by
    rintro rfl
    have := x.obj
    rw [h76] at this
    cases this
    have := x.cls
    cases this), x.cls, x.dict, x.data⟩
theorem old_of {w : World} {h h' : Heap} (X : (hd.heap_1 w.params).In h) (h76 : h.get? 76 = some (tabObj #[])) (keep : ∀ b o, b ≠ 76 → h.get? b = some o → h'.get? b = some o) {more : Array Value} (t : h'.get? 76 = some (tabObj (#[] ++ more))) : OldK h h' := by
  have CH := codeHd_of_K X (code_at80 w.params)
  have ht := CH.tab h76
  obtain ⟨⟨o, vs, e, r⟩, _⟩ := id ht
  exact (OldK.refl h).step_table ht ht (more := more) ⟨⟨o, vs, keep _ _ (by decide) e, r⟩, t⟩ (fun b o hb e => keep b o hb e) (by decide)
theorem goal (hdealAll : ∀ (w : World) (g : Heap) (mg mb : Str → Option Value) (bm : Addr) (ob : Obj), Base w g mg mb → BMod g mainGlobals mg bm ob → DealOk PySem.Challenge.rw_xg0020_01.row.prog w g) : PySem.Challenge.rw_xg0020_01.Holds := hd (by
  k_fill
  intro dd kw9 dn9
  intro w s₀ s₁ mg mb G Y fa o pm cd doc dV kV ho hd hcd hD hmg hg args vals as hpre hlay hrd hwl hlo
  have KX := km_in_of Y
  have KT := km_tabs_of Y 76 (by simp)
  have low := Ground.low G
  have hT := G.T
  rw [dn9] at hmg
  clear hD hcd hd ho
  wrow_args hpre hlay hrd hwl hlo
  all_goals (
    first | refine callC_kw (enter_call ?_) | refine enter_call ?_ | refine callC_kw (enter_callW ?_) | refine enter_callW ?_ | w_how
    rename_i ns _ _ _ _ _ _ _ la lvs _ hL _ hW _ hI _ hlen _
    have B0 : Base w s₁.heap mg mb := ⟨⟨hT.g, hT.b, hT.nolimit, hT.builtins⟩, KX, mods_of (hT.seer (by decide +kernel))⟩
    obtain ⟨bm, ob, BM0⟩ := bmod_of_top hT
    have B := base_hid B0
    have BM := bmod_hid BM0 KT
    have efa : fa = aOf w.params "law" := by
      have h1 : mg "law" = some (.ref (aOf w.params "law")) := B.at rfl
      have h2 := hmg.symm.trans h1
      injection h2 with h3
      injection h3
    subst efa
    have hla := list_of_well hW rfl hL
    refine spec_law B (hdealAll w _ mg mb bm ob B BM) law_all ns (by omega) callerA (hk (hideAll s₁.heap [76])) s₁ [.ref la] #[] _ ⟨rfl, by decide, by decide⟩ rfl (fun _ _ h => h) (fun _ _ h => hid_of h) ⟨KT, trivial⟩ (hid_none _)
      (.cons ⟨_, _, _, rfl, hid_get hla (by rintro rfl; rw [KT] at hla; cases hla), al_ints hI⟩ .nil) fun K' s' v ext hv => ?_
    obtain rfl : v = .bool true := hv
    obtain ⟨more, ht⟩ := ext.tab
    refine ⟨.inl ⟨.bool true, .bool true, [], rfl, fun cls => ?_, .bool true, ?_, fun _ => ⟨.nil, (fun a ha => nomatch ha)⟩⟩, old_of KX KT ext.keep ht.at_, ext.rest.os, ?_⟩
    · rfl
    · first
        | with_unfolding_all rfl
        | kernel_rfl
    · obtain ⟨l, hl, hb⟩ := ext.rest.gens
      rw [hg] at hl
      intro y hy
      have : y ∈ s'.gens.toList := by simpa using hy
      rw [hl] at this
      exact hb y (by simpa using this)))
end Mine
end
/-! part G2 -/
section
open PySem PySem.Calls PySem.Spec PyProof.Rows PySem.W PySem.SeqAt
set_option Elab.async false
set_option linter.unusedVariables false
set_option maxRecDepth 100000
namespace Mine
theorem pgOk : PgOk PySem.Challenge.rw_xg0020_01.row.prog := ⟨by decide +kernel, by decide +kernel⟩
end Mine
end
theorem PySem.Challenge.cw_xg0020_01_holds : PySem.Challenge.rw_xg0020_01.Holds := by
  exact Mine.goal fun w g mg mb bm ob B BM cs a b c h => Mine.deal_ok Mine.pgOk B BM cs a b c h
