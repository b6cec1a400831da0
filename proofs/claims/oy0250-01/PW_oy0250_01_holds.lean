import PyProof.Rows.All
import Wide.All
import OpenK.AllK
import Wide.FinOn
import PySem.Challenge.RW_oy0250_01
open PySem PySem.W PyProof.Rows PySem.Calls PySem.Spec
set_option Elab.async false
set_option maxRecDepth 100000
set_option maxHeartbeats 4000000
set_option linter.unusedVariables false
namespace Mine
section
/-! ## The head: the top's run in one look of the kernel (the library's own fast forms of its words; no twins of the program's constants, which are stored large) -/
/-- of the program's text the law's own def alone is looked at -/
noncomputable def progH : Program := { PySem.Challenge.pw_oy0250_01 with main := { PySem.Challenge.pw_oy0250_01.main with body := PySem.Challenge.pw_oy0250_01.main.body.drop 17 } }
noncomputable def looseH : List Str := ["_wall", "Int2AP", "_NODE_OUT", "_NODE_DONE", "_NodeInfo", "CycleError", "TopologicalSorter", "sorted_list_difference", "_law_numbers", "_law_figures", "_law_beginnings", "_law_sorter", "_law_told"].map Str.ofString
theorem saidH : PySem.Challenge.rw_oy0250_01.wellSaid = true := by
  rw [PySem.W.Fast.te9446332074065402090]; kernel_rfl
local macro_rules | `(tactic| o_law) => `(tactic| refine holds_law saidH fun _ => ?_)
local macro_rules | `(tactic| o_head $H) => `(tactic| (
  refine holds_open (r := PySem.Challenge.rw_oy0250_01.row) (q := progH) (loose := looseH) (Xt := fun s => xlAt progH [] s && recOk (RowW.records (OpenRow.toRowW PySem.Challenge.rw_oy0250_01.row)) s) (XP := XL progH []) (Yf := Hook.obs $H) (Ya := Hook.val $H) (YP := Hook.says $H) (N := 2722) ?hl (Hook.of $H) (Hook.keeps $H)
    (fun s e => xl_of s (Bool.and_eq_true_iff.mp e).1) XL.keeps (by rfl) (by rfl) (by rfl) (fun s e => recFacts_of (Bool.and_eq_true_iff.mp e).2) rfl (by first | assumption | decide +kernel) (by decide +kernel) ⟨rfl, rfl, rfl, rfl, rfl, by decide +kernel⟩ ?hw ?hc
  (case hl =>
    intro w
    delta openEnds fencedOpening topFrom openGood
    rw [PySem.W.Fast.te4187177175401517315, PySem.W.Fast.te14364793385576792824, PySem.W.Fast.te5923862056798008813, PySem.W.Fast.te14082659384304107361, PySem.W.Fast.te10274390034422433532, PySem.W.Fast.te1435165496053646825, PySem.W.Fast.te14289696077712309145]
    kernel_rfl)))
open_top hd for PySem.Challenge.rw_oy0250_01
end
theorem fillAll : (fun (_ : OpenLaw) (_ : Params → Frag) => True) PySem.Challenge.rw_oy0250_01 hd.heap_1 := by k_fill; trivial
section

/-! ## The ledger: what the call has made and what is known of it -/
noncomputable abbrev Pr := Obj → Prop
noncomputable abbrev Led := List (Addr × Pr)

structure Stt (z s : Shared) (L : Led) : Prop where
  keep : ∀ b o, z.heap.get? b = some o → s.heap.get? b = some o
  own : ∀ p ∈ L, (∃ o, s.heap.get? p.1 = some o ∧ p.2 o) ∧ z.heap.get? p.1 = none
  nd : (L.map (·.1)).Nodup
  gens : s.gens = z.gens
  os : s.os = z.os

inductive Upd : Led → Addr → Pr → Pr → Led → Prop
  | head {L : Led} {a : Addr} {P P' : Pr} : Upd ((a, P) :: L) a P P' ((a, P') :: L)
  | tail {L L' : Led} {q : Addr × Pr} {a : Addr} {P P' : Pr} : Upd L a P P' L' → Upd (q :: L) a P P' (q :: L')

theorem Upd.split {L L' : Led} {a : Addr} {P P' : Pr} (u : Upd L a P P' L') : ∃ l1 l2, L = l1 ++ (a, P) :: l2 ∧ L' = l1 ++ (a, P') :: l2 := by
  induction u with
  | head => exact ⟨[], _, rfl, rfl⟩
  | @tail _ _ q _ _ _ _ ih =>
    obtain ⟨l1, l2, h1, h2⟩ := ih
    exact ⟨q :: l1, l2, by rw [h1]; rfl, by rw [h2]; rfl⟩
theorem Upd.mem {L L' : Led} {a : Addr} {P P' : Pr} (u : Upd L a P P' L') : (a, P) ∈ L := by
  obtain ⟨l1, l2, rfl, _⟩ := u.split
  simp

namespace Stt
variable {z s : Shared} {L L' : Led} {a : Addr} {P P' : Pr}
theorem get (H : Stt z s L) (hm : (a, P) ∈ L) : ∃ o, s.heap.get? a = some o ∧ P o := (H.own _ hm).1
theorem tok (H : Stt z s L) (t : Nat) : Stt z { s with toks := t } L := ⟨H.keep, H.own, H.nd, H.gens, H.os⟩
theorem ext (H : Stt z s L) {s' : Shared} (hk : ∀ b o, s.heap.get? b = some o → s'.heap.get? b = some o) (hg : s'.gens = s.gens) (ho : s'.os = s.os) : Stt z s' L :=
  ⟨fun b o e => hk b o (H.keep b o e), fun p hp => by
    obtain ⟨⟨o, h1, h2⟩, h3⟩ := H.own p hp
    exact ⟨⟨o, hk _ _ h1, h2⟩, h3⟩, H.nd, hg.trans H.gens, ho.trans H.os⟩
theorem fresh (H : Stt z s L) (hn : s.heap.get? a = none) : z.heap.get? a = none ∧ ∀ p ∈ L, p.1 ≠ a := by
  constructor
  · cases q : z.heap.get? a with
    | none => rfl
    | some o => rw [H.keep a o q] at hn; cases hn
  · intro p hp e
    obtain ⟨⟨o, h1, _⟩, _⟩ := H.own p hp
    rw [e, hn] at h1; cases h1
theorem cons (H : Stt z s L) {s' : Shared} {o : Obj} (hk : ∀ b o, s.heap.get? b = some o → s'.heap.get? b = some o) (hg : s'.gens = s.gens) (ho : s'.os = s.os)
    (hn : s.heap.get? a = none) (he : s'.heap.get? a = some o) (hp : P o) : Stt z s' ((a, P) :: L) := by
  have X := H.ext hk hg ho
  obtain ⟨f1, f2⟩ := H.fresh hn
  refine ⟨X.keep, fun p hp' => ?_, ?_, X.gens, X.os⟩
  · rcases List.mem_cons.mp hp' with rfl | hp'
    · exact ⟨⟨o, he, hp⟩, f1⟩
    · exact X.own p hp'
  · rw [List.map_cons, List.nodup_cons]
    refine ⟨fun hm => ?_, H.nd⟩
    obtain ⟨p, hp, e⟩ := List.mem_map.mp hm
    exact f2 p hp e
theorem alloc (H : Stt z s L) {o : Obj} {t : Nat} (hf : o.isFreed = false) (hp : P o) : Stt z { s with heap := s.heap.push o, toks := t } ((s.heap.objs.size, P) :: L) :=
  H.cons (fun _ _ e => Heap.get?_push_of_some o e) rfl rfl (Heap.get?_none_of_le (Nat.le_refl _)) (Heap.get?_push_size _ hf) hp
theorem upd (H : Stt z s L) (U : Upd L a P P' L') {h' : Heap} {t : Nat} (hs : Heap.SameBut a s.heap h') (hp : ∃ o', h'.get? a = some o' ∧ P' o') : Stt z { s with heap := h', toks := t } L' := by
  obtain ⟨l1, l2, rfl, rfl⟩ := U.split
  have nd := H.nd
  have hz := (H.own (a, P) (by simp)).2
  simp only [List.map_append, List.map_cons] at nd
  have ne1 : ∀ p ∈ l1, p.1 ≠ a := fun p hp e => by
    have := (List.nodup_append.mp nd).2.2 p.1 (List.mem_map_of_mem hp) a (by simp)
    exact this e
  have ne2 : ∀ p ∈ l2, p.1 ≠ a := fun p hp e => by
    have := (List.nodup_cons.mp (List.nodup_append.mp nd).2.1).1
    exact this (e ▸ List.mem_map_of_mem hp)
  refine ⟨fun b o e => ?_, fun p hp' => ?_, ?_, H.gens, H.os⟩
  · have : b ≠ a := fun q => by rw [q, hz] at e; cases e
    exact (hs.2 b this).trans (H.keep b o e)
  · rcases List.mem_append.mp hp' with q | q
    · obtain ⟨⟨o, h1, h2⟩, h3⟩ := H.own p (List.mem_append_left _ q)
      exact ⟨⟨o, (hs.2 _ (ne1 p q)).trans h1, h2⟩, h3⟩
    · rcases List.mem_cons.mp q with rfl | q
      · exact ⟨hp, hz⟩
      · obtain ⟨⟨o, h1, h2⟩, h3⟩ := H.own p (List.mem_append_right _ (.tail _ q))
        exact ⟨⟨o, (hs.2 _ (ne2 p q)).trans h1, h2⟩, h3⟩
  · simp only [List.map_append, List.map_cons]; exact nd
/-- drop and reorder -/
theorem sub (H : Stt z s L) {l : Led} (hp : l.Perm L') (hl : l.Sublist L) : Stt z s L' := by
  refine ⟨H.keep, fun p q => H.own p (hl.subset (hp.symm.subset q)), ?_, H.gens, H.os⟩
  have : (l.map (·.1)).Nodup := (hl.map _).nodup H.nd
  exact ((hp.map _).nodup_iff).mp this
theorem drop1 {q : Addr × Pr} (H : Stt z s (q :: L)) : Stt z s L := ⟨H.keep, fun p hp => H.own p (.tail _ hp), (List.nodup_cons.mp H.nd).2, H.gens, H.os⟩
theorem weak (H : Stt z s L) (U : Upd L a P P' L') (hi : ∀ o, P o → P' o) : Stt z s L' := by
  obtain ⟨o, h1, h2⟩ := H.get U.mem
  have := H.upd (t := s.toks) U (Heap.SameBut.refl a s.heap) ⟨o, h1, hi o h2⟩
  exact this
end Stt

/-! ## Frames -/
noncomputable def look : List Str → List (Option Value) → Str → Option Value
  | n :: ns, v :: vs, x => if x = n then v else look ns vs x
  | _, _, _ => none
/-- a namespace object: its names and what they hold -/
noncomputable def Fra (names : List Str) (vals : List (Option Value)) : Pr := fun o => ∃ es ep, o.data = .dict es ep ∧ StrKeys es ∧ ∀ x, nsFind es x = look names vals x
noncomputable def Cel (v : Option Value) : Pr := fun o => o.data = .cell v

inductive Loc : List Str → List (Option Value) → Str → Value → Prop
  | head {ns : List Str} {vs : List (Option Value)} {x : Str} {v : Value} : Loc (x :: ns) (some v :: vs) x v
  | tail {ns : List Str} {vs : List (Option Value)} {x y : Str} {v : Value} {u : Option Value} : Loc ns vs x v → Loc (y :: ns) (u :: vs) x v
inductive Put : List Str → List (Option Value) → Str → Value → List (Option Value) → Prop
  | head {ns : List Str} {vs : List (Option Value)} {x : Str} {v : Value} {u : Option Value} : Put (x :: ns) (u :: vs) x v (some v :: vs)
  | tail {ns : List Str} {vs vs' : List (Option Value)} {x y : Str} {v : Value} {u : Option Value} : Put ns vs x v vs' → Put (y :: ns) (u :: vs) x v (u :: vs')

theorem Loc.mem {ns : List Str} {vs : List (Option Value)} {x : Str} {v : Value} (l : Loc ns vs x v) : x ∈ ns := by
  induction l with
  | head => exact .head _
  | tail _ ih => exact .tail _ ih
theorem Put.mem {ns : List Str} {vs vs' : List (Option Value)} {x : Str} {v : Value} (l : Put ns vs x v vs') : x ∈ ns := by
  induction l with
  | head => exact .head _
  | tail _ ih => exact .tail _ ih
theorem Loc.look {ns : List Str} {vs : List (Option Value)} {x : Str} {v : Value} (l : Loc ns vs x v) (nd : ns.Nodup) : look ns vs x = some v := by
  induction l with
  | head => simp [Mine.look]
  | @tail ns vs x y v u l ih =>
    have hne : x ≠ y := fun e => (List.nodup_cons.mp nd).1 (e ▸ l.mem)
    simp only [Mine.look, if_neg hne]
    exact ih (List.nodup_cons.mp nd).2
theorem Put.look {ns : List Str} {vs vs' : List (Option Value)} {x : Str} {v : Value} (l : Put ns vs x v vs') (nd : ns.Nodup) (y : Str) : Mine.look ns vs' y = if y = x then some v else Mine.look ns vs y := by
  induction l with
  | head =>
    simp only [Mine.look]
    split <;> rfl
  | @tail ns vs vs' x z v u l ih =>
    have hne : x ≠ z := fun e => (List.nodup_cons.mp nd).1 (e ▸ l.mem)
    have := ih (List.nodup_cons.mp nd).2
    simp only [Mine.look]
    by_cases h : y = z
    · subst h
      rw [if_pos rfl, if_pos rfl, if_neg (fun e => hne e.symm)]
    · rw [if_neg h, if_neg h, this]

theorem Fra.ns {h : Heap} {a : Addr} {names : List Str} {vals : List (Option Value)} {o : Obj} (e : h.get? a = some o) (f : Fra names vals o) : h.Ns a (look names vals) := by
  obtain ⟨es, ep, h1, h2, h3⟩ := f
  exact ⟨o, es, ep, e, h1, h2, h3⟩
theorem Fra.of_ns {h : Heap} {a : Addr} {m : Str → Option Value} {names : List Str} {vals : List (Option Value)} (hn : h.Ns a m) (he : ∀ x, m x = look names vals x) : ∃ o, h.get? a = some o ∧ Fra names vals o := by
  obtain ⟨o, es, ep, e, h1, h2, h3⟩ := hn
  exact ⟨o, e, es, ep, h1, h2, fun x => (h3 x).trans (he x)⟩

/-- what is known of a block's environment -/
structure EnvIs (env : Env) (Lf : Addr) (ls gs : List Str) (cs : List (Str × Addr)) : Prop where
  locals : env.locals = Lf
  kind : env.scope.kind = .function
  nd : ls.Nodup
  loc : ∀ x ∈ ls, env.kindOf x = some .local
  glo : ∀ x ∈ gs, env.kindOf x = some .globalImplicit
  cel : ∀ p ∈ cs, env.kindOf p.1 = some .cell ∧ env.cells.lookup p.1 = some p.2
  globals : env.globals = mainGlobals
  builtins : env.builtins = builtinsNs

structure Gd (w : World) (mg mb : Str → Option Value) (h : Heap) : Prop where
  X : (hd.heap_1 w.params).In h
  g : h.Ns mainGlobals mg
  b : h.Ns builtinsNs mb
  bi : ∀ x : Str, x ≠ "__name__" → mb x = bootBuiltins x
  nl : h.NoLimit

section
variable {w : World} {mg mb : Str → Option Value} {prog : Program} {A : Around} {E : Value → Shared → Prop} {z s : Shared} {L L' : Led} {env : Env} {Lf : Addr} {ls gs : List Str} {cs : List (Str × Addr)} {vals vals' : List (Option Value)} {x : Str} {pos : Pos} {v : Value}

theorem n_local {Q : Value → Shared → Prop} (H : Stt z s L) (he : EnvIs env Lf ls gs cs) (hm : (Lf, Fra ls vals) ∈ L) (hl : Loc ls vals x v) (h : Q v s) (hd : (x == ("__debug__" : Str)) = false := by rfl) :
    wpAny (model prog w) A (eval (.Name x pos) env) Q E s := by
  obtain ⟨o, h1, h2⟩ := H.get hm
  refine wpAny_Name (wpAny_loadName_local he.kind (he.loc x hl.mem) ?_ (hl.look he.nd) h) hd
  rw [he.locals]; exact Fra.ns h1 h2
theorem n_glob {Q : Value → Shared → Prop} (H : Stt z s L) (he : EnvIs env Lf ls gs cs) (G : Gd w mg mb z.heap) (hx : x ∈ gs) (hv : mg x = some v) (h : Q v s) (hd : (x == ("__debug__" : Str)) = false := by rfl) :
    wpAny (model prog w) A (eval (.Name x pos) env) Q E s := by
  refine wpAny_Name ?_ hd
  have hk : env.kindOf x = some .globalImplicit := he.glo x hx
  have : loadName env x = loadGlobal env x := by
    unfold loadName Env.blockKind
    rw [hk, he.kind]; rfl
  rw [this]
  exact loadGlobal_global (by rw [he.globals]; exact G.g.keeps H.keep) hv h
theorem n_built {Q : Value → Shared → Prop} (H : Stt z s L) (he : EnvIs env Lf ls gs cs) (G : Gd w mg mb z.heap) (hx : x ∈ gs) (hm : mg x = none) (hv : bootBuiltins x = some v) (hn : x ≠ "__name__") (h : Q v s) (hd : (x == ("__debug__" : Str)) = false := by rfl) :
    wpAny (model prog w) A (eval (.Name x pos) env) Q E s := by
  refine wpAny_Name ?_ hd
  have hk : env.kindOf x = some .globalImplicit := he.glo x hx
  have : loadName env x = loadGlobal env x := by
    unfold loadName Env.blockKind
    rw [hk, he.kind]; rfl
  rw [this]
  exact loadGlobal_builtin (by rw [he.globals]; exact G.g.keeps H.keep) hm (by rw [he.builtins]; exact G.b.keeps H.keep) ((G.bi x hn).trans hv) h
theorem n_cell {Q : Value → Shared → Prop} {c : Addr} (H : Stt z s L) (he : EnvIs env Lf ls gs cs) (hx : (x, c) ∈ cs) (hm : (c, Cel (some v)) ∈ L) (h : Q v s) (hd : (x == ("__debug__" : Str)) = false := by rfl) :
    wpAny (model prog w) A (eval (.Name x pos) env) Q E s := by
  obtain ⟨o, h1, h2⟩ := H.get hm
  obtain ⟨c1, c2⟩ := he.cel (x, c) hx
  exact wpAny_Name (wpAny_loadName_cell he.kind c1 c2 ⟨o, h1, h2⟩ h) hd
theorem st_local {Q : Unit → Shared → Prop} (H : Stt z s L) (he : EnvIs env Lf ls gs cs) (U : Upd L Lf (Fra ls vals) (Fra ls vals') L') (hp : Put ls vals x v vals') (h : ∀ s', Stt z s' L' → Q () s') :
    wpAny (model prog w) A (storeName env x v) Q E s := by
  obtain ⟨o, h1, h2⟩ := H.get U.mem
  refine wpAny_storeName_local (m := look ls vals) (he.loc x hp.mem) (by rw [he.locals]; exact Fra.ns h1 h2) (fun h' hn hs => h _ (H.upd U (by rw [← he.locals]; exact hs) ?_)) (by rw [he.kind]; rfl)
  rw [he.locals] at hn
  exact Fra.of_ns hn fun y => (hp.look he.nd y).symm
theorem st_cell {Q : Unit → Shared → Prop} {c : Addr} {v₀ : Option Value} (H : Stt z s L) (he : EnvIs env Lf ls gs cs) (hx : (x, c) ∈ cs) (U : Upd L c (Cel v₀) (Cel (some v)) L') (h : ∀ s', Stt z s' L' → Q () s') :
    wpAny (model prog w) A (storeName env x v) Q E s := by
  obtain ⟨o, h1, h2⟩ := H.get U.mem
  obtain ⟨c1, c2⟩ := he.cel (x, c) hx
  exact wpAny_storeName_cell he.kind c1 c2 ⟨o, h1, h2⟩ (fun h' hn hs => h _ (H.upd (t := s.toks) U hs hn))
end

theorem look_binds : ∀ (ps : List Str) (args : List Value) (rest : List Str) (x : Str), ps.length = args.length → (ps ++ rest).Nodup →
    (ps.zip args).reverse.lookup x = look (ps ++ rest) (args.map some ++ rest.map fun _ => none) x
  | [], [], rest, x, _, _ => by
    show none = look rest (rest.map fun _ => none) x
    induction rest with
    | nil => rfl
    | cons r rs ih =>
      show none = (if x = r then none else look rs (rs.map fun _ => none) x)
      rw [← ih (List.nodup_cons.mp (by assumption)).2]; split <;> rfl
  | p :: ps, a :: args, rest, x, hl, hn => by
    have hn' : (ps ++ rest).Nodup := (List.nodup_cons.mp hn).2
    have hp : p ∉ ps ++ rest := (List.nodup_cons.mp hn).1
    have ih := look_binds ps args rest x (by simpa using hl) hn'
    simp only [List.zip_cons_cons, List.reverse_cons, List.cons_append, List.map_cons, look]
    rw [List.lookup_append]
    by_cases h : x = p
    · subst h
      have : (ps.zip args).reverse.lookup x = none := by
        rw [List.lookup_eq_none_iff]
        intro q hq
        have h2 := List.of_mem_zip (a := q.1) (b := q.2) (List.mem_reverse.mp hq)
        cases hb : x == q.1 with
        | false => simp [bne, hb]
        | true => exact absurd (List.mem_append_left _ (by rw [eq_of_beq hb]; exact h2.1)) hp
      rw [this, if_pos rfl]
      simp [List.lookup]
    · rw [if_neg h, ← ih]
      have : List.lookup x [(p, a)] = none := by
        rw [List.lookup_eq_none_iff]; intro q hq
        rw [List.mem_singleton] at hq; subst hq
        simpa using h
      rw [this]; simp
  | [], _ :: _, _, _, h, _ => by simp at h
  | _ :: _, [], _, _, h, _ => by simp at h

section
variable {w : World} {mg mb : Str → Option Value} {prog : Program} {A : Around} {z s : Shared} {L : Led}
/-- a call of a def of the text that takes plain arguments and has no cells -/
theorem call_fn {R : Result → Shared → Prop} {f : Addr} {fd : FuncData} {oc : Value} {od : Option Addr} {osl : Array (Option Value)} {body : List Stmt} (ps rest gs : List Str) {args : List Value} {names : List Str} {vals : List (Option Value)}
    (G : Gd w mg mb z.heap) (H : Stt z s L) (ho : (hd.heap_1 w.params).lookup f = some ⟨oc, od, .func fd, osl⟩) (hcd : codeIn (hd.heap_1 w.params) fd.code fd.qualname = true) (hroom : A.depth < recursionLimit)
    (hbody : fd.body = .stmts body) (hbind : BindsTo s fd ⟨args, []⟩ (ps.zip args)) (hlen : ps.length = args.length) (hn : ps ++ rest = names) (hv : args.map some ++ rest.map (fun _ => none) = vals) (hnd : names.Nodup)
    (hcell : ∀ x ∈ fd.scope.names, x.2 ≠ .cell) (hloc : ∀ x ∈ names, fd.scope.names.lookup x = some .local) (hglo : ∀ x ∈ gs, fd.scope.names.lookup x = some .globalImplicit)
    (hgl : fd.globals = mainGlobals) (hbi : fd.builtins = builtinsNs)
    (h : ∀ env Lf s', EnvIs env Lf names gs [] → env.frame = some Lf → Stt z s' ((Lf, Fra names vals) :: L) →
      wpAny (model prog w) (A.deeper env) (execs body env) (fun fl s' => R (.ok (.ret (match fl with | .ret v => v | _ => .none))) s') (fun _ _ => False) s')
    (hco : fd.scope.isCoroutine = false := by rfl) (hgen : fd.scope.isGenerator = false := by rfl) (hk : fd.scope.kind = .function := by rfl) :
    codeAny (model prog w) A (.call (.ref f) ⟨args, []⟩) R s := by
  subst hn hv
  refine codeAny_call_def hroom (H.keep _ _ (G.X _ _ ho)) rfl (G.nl.keeps H.keep) (codeRec_of (G.X.keeps H.keep) hcd) hbody hbind hcell ?_ (fun h₁ hn hk' => ?_) hco hgen hk
  · intro x hx
    have := List.of_mem_zip (a := x.1) (b := x.2) hx
    exact hloc _ (List.mem_append_left _ this.1)
  · have hE : EnvIs (callEnv fd s.heap.objs.size f) s.heap.objs.size (ps ++ rest) gs [] :=
      ⟨rfl, hk, hnd, hloc, hglo, fun _ hp => (nomatch hp), hgl, hbi⟩
    have hN : Heap.get? s.heap s.heap.objs.size = none := Heap.get?_none_of_le (Nat.le_refl _)
    obtain ⟨o, e1, e2⟩ := Fra.of_ns hn fun x => look_binds ps args rest x hlen hnd
    have HS : Stt z { s with heap := h₁, toks := s.toks + (ps.zip args).length } ((s.heap.objs.size, Fra (ps ++ rest) (args.map some ++ rest.map fun _ => none)) :: L) :=
      H.cons hk' rfl rfl hN e1 e2
    exact wpAny_mono (h _ _ _ hE rfl HS) (fun _ _ x => x) (fun _ _ x => x.elim)
theorem Gd.glob {x : Str} {v : Value} {h : Heap} (G : Gd w mg mb h) (e : nsIn (hd.heap_1 w.params) mainGlobals x = some (some v)) : mg x = some v := mg_of G.X G.g e
theorem Gd.noglob {x : Str} {h : Heap} (G : Gd w mg mb h) (e : nsIn (hd.heap_1 w.params) mainGlobals x = some none) : mg x = none := mg_none_of G.X G.g e
theorem all_mem {α : Type} {p : α → Prop} [DecidablePred p] {l : List α} (h : (l.all fun x => decide (p x)) = true) : ∀ x ∈ l, p x := fun x hx => of_decide_eq_true (List.all_eq_true.mp h x hx)
end

end
section
/-! ## Rules over the ledger -/
noncomputable def Lst (xs : List Value) : Pr := fun o => ∃ n, o = { cls := .type "list", data := .seq xs.toArray n }
noncomputable def Tup (xs : List Value) : Pr := fun o => ∃ n, o = { cls := .type "tuple", data := .seq xs.toArray n }
noncomputable def Slc (l u st : Value) : Pr := fun o => o.cls = .type "slice" ∧ o.data = .fields #[l, u, st]
/-- what is wanted behind an object newly made -/
noncomputable def AllocQ (o : Obj) (Q : Value → Shared → Prop) (s : Shared) : Prop := Q (.ref s.heap.objs.size) { s with heap := s.heap.push o }
section
variable {w : World} {mg mb : Str → Option Value} {prog : Program} {A : Around} {E : Value → Shared → Prop} {z s : Shared} {L L' : Led} {env : Env} {x : Str} {pos : Pos} {v : Value} {Q : Value → Shared → Prop} {a b : Int} {t u : Tok}
theorem allocQ {o : Obj} (P : Pr) (H : Stt z s L) (hp : P o) (hf : o.isFreed = false) (h : ∀ c s', Stt z s' ((c, P) :: L) → Q (.ref c) s') : AllocQ o Q s := h _ _ (H.alloc hf hp)
theorem isList (H : Stt z s L) {l : Addr} {xs : List Value} (hm : (l, Lst xs) ∈ L) : s.heap.IsList l xs.toArray := by
  obtain ⟨o, h1, n, rfl⟩ := H.get hm
  exact ⟨_, h1, rfl, n, rfl⟩
theorem plainList (H : Stt z s L) {l : Addr} {xs : List Value} (hm : (l, Lst xs) ∈ L) : s.heap.PlainList l xs.toArray := by
  obtain ⟨o, h1, n, rfl⟩ := H.get hm
  exact ⟨n, h1⟩
theorem isTuple (H : Stt z s L) {l : Addr} {xs : List Value} (hm : (l, Tup xs) ∈ L) : s.heap.IsTuple l xs.toArray := by
  obtain ⟨o, h1, n, rfl⟩ := H.get hm
  exact ⟨_, h1, rfl, n, rfl⟩
theorem isSlice (H : Stt z s L) {l : Addr} {p q r : Value} (hm : (l, Slc p q r) ∈ L) : s.heap.IsSliceOf l p q r := by
  obtain ⟨o, h1, h2, h3⟩ := H.get hm
  exact ⟨o, h1, h2, h3⟩
theorem al_slice {p q r : Value} (H : Stt z s L) (h : ∀ c s', Stt z s' ((c, Slc p q r) :: L) → Q (.ref c) s') : AllocQ { cls := .type "slice", data := .fields #[p, q, r] } Q s := allocQ _ H ⟨rfl, rfl⟩ rfl h
theorem al_list {xs : List Value} (H : Stt z s L) (h : ∀ c s', Stt z s' ((c, Lst xs) :: L) → Q (.ref c) s') : AllocQ { cls := .type "list", data := .seq xs.toArray } Q s := allocQ _ H ⟨_, rfl⟩ rfl h
theorem al_tuple {xs : List Value} (H : Stt z s L) (h : ∀ c s', Stt z s' ((c, Tup xs) :: L) → Q (.ref c) s') : AllocQ { cls := .type "tuple", data := .seq xs.toArray } Q s := allocQ _ H ⟨_, rfl⟩ rfl h
-- constants
theorem c_int {i : Int} {k : Nat} (H : Stt z s L) (h : ∀ s' t, Stt z s' L → Q (.int i t) s') : wpAny (model prog w) A (eval (.Constant (.int i) k pos) env) Q E s := wpAny_Constant_int (h _ _ (H.tok _))
theorem c_bytes {i : List UInt8} {k : Nat} (H : Stt z s L) (h : ∀ s' t, Stt z s' L → Q (.bytes i.toArray t) s') : wpAny (model prog w) A (eval (.Constant (.bytes i) k pos) env) Q E s := Constant_bytes (h _ _ (H.tok _))
-- ints
theorem i_add (H : Stt z s L) (h : ∀ s' t, Stt z s' L → Q (.int (a + b) t) s') : wpAny (model prog w) A (binaryOp .Add (.int a t) (.int b u)) Q E s := PyProof.Rows.add_int (h _ _ (H.tok _))
theorem i_mod (H : Stt z s L) (hb : b ≠ 0) (h : ∀ s' t, Stt z s' L → Q (.int (a.fmod b) t) s') : wpAny (model prog w) A (binaryOp .Mod (.int a t) (.int b u)) Q E s := PyProof.Rows.mod_int hb (h _ _ (H.tok _))
theorem i_fdiv (H : Stt z s L) (hb : b ≠ 0) (hp : Builtin.divisionGoesByPylong a b = false) (h : ∀ s' t, Stt z s' L → Q (.int (a.fdiv b) t) s') : wpAny (model prog w) A (binaryOp .FloorDiv (.int a t) (.int b u)) Q E s := floordiv_int hb (h _ _ (H.tok _)) (.inl hp)
theorem i_abs (H : Stt z s L) (h : ∀ s' t, Stt z s' L → Q (.int a.natAbs t) s') : wpAny (model prog w) A (call (.builtin "abs") [.int a t]) Q E s :=
  call_abs_int fun u tk => by
    have : (if a < 0 then -a else a) = (a.natAbs : Int) := by split <;> omega
    rw [this]; exact h _ _ (H.tok _)
theorem i_divmod (H : Stt z s L) (hb : b ≠ 0) (hp : Builtin.divisionGoesByPylong a b = false) (h : ∀ s' c t t', Stt z s' ((c, Tup [.int (a.fdiv b) t, .int (a.fmod b) t']) :: L) → Q (.ref c) s') :
    wpAny (model prog w) A (call (.builtin "divmod") [.int a t, .int b u]) Q E s :=
  divmod_int hb (h _ _ _ _ (H.alloc (P := Tup _) rfl ⟨_, rfl⟩)) (.inl hp)
-- displays
theorem x_List {elts : List Expr} (h : wpAny (model prog w) A (spliced (backTo pos (starEach elts env))) (fun vs s₁ => vs.length ≤ sizeLine ∧ AllocQ { cls := .type "list", data := .seq vs.toArray } Q s₁) E s) :
    wpAny (model prog w) A (eval (.List elts pos) env) Q E s := wpAny_List h
theorem x_Slice {lower upper step : Option Expr} (h : wpAny (model prog w) A (evalPart lower env) (fun l s₁ => wpAny (model prog w) A (evalPart upper env) (fun u s₂ => wpAny (model prog w) A (evalPart step env) (fun st s₃ =>
      AllocQ { cls := .type "slice", data := .fields #[l, u, st] } Q s₃) E s₂) E s₁) E s) : wpAny (model prog w) A (eval (.Slice lower upper step pos) env) Q E s := wpAny_Slice h
-- bytes
theorem b_add {b c : Array UInt8} (H : Stt z s L) (hsz : b.size + c.size ≤ 16777216) (h : ∀ s' t, Stt z s' L → Q (.bytes (b ++ c) t) s') : wpAny (model prog w) A (binaryOp .Add (.bytes b t) (.bytes c u)) Q E s :=
  KBy.add_bytes hsz fun _ _ => h _ _ (H.tok _)
theorem b_addl {b c : List UInt8} (H : Stt z s L) (hsz : b.length + c.length ≤ 16777216) (h : ∀ s' t, Stt z s' L → Q (.bytes (b ++ c).toArray t) s') : wpAny (model prog w) A (binaryOp .Add (.bytes b.toArray t) (.bytes c.toArray u)) Q E s :=
  b_add H (by simpa using hsz) fun s' t h' => by rw [List.append_toArray]; exact h s' t h'
theorem b_slice {b : Array UInt8} {value slice : Expr} {sl : Addr} {p q : Value} {lo hi : Option Int} (H : Stt z s L) (hm : (sl, Slc p q .none) ∈ L) (hl : IsPart p lo) (hu : IsPart q hi) (hz : b.size ≤ 16777216)
    {r : List UInt8} (hr : (b.toList.drop (lo.elim 0 (clipAt b.size))).take (hi.elim b.size (clipAt b.size) - lo.elim 0 (clipAt b.size)) = r) (h : ∀ s' t, Stt z s' L → Q (.bytes r.toArray t) s')
    (hs : subscripted slice false (.bytes b t) (.ref sl) = operate [.ref sl, .bytes b t] (getItem (.bytes b t) (.ref sl)) := by with_unfolding_all rfl)
    (ht : ∀ r, letTemporaryGo value (.bytes b t) r = pure () := by intro _; with_unfolding_all rfl) :
    wpAny (model prog w) A (subscriptTail value slice (.bytes b t) (.ref sl)) Q E s :=
  tail_of_ItemOn ⟨"bytes", _, FB.slot_bytes_getitem.lookup, typeIs_bytes _ _ _, getItem_meets (typeIs_bytes _ _ _) (by decide) FB.slot_bytes_getitem FB.entry_bytes_getitem (FB.args_bytes_getitem_2 _ _) (KBc.meets_slice2 b t _ hl hu)
    ⟨isSlice H hm, Nat.le_trans (KBc.size_picked_le b lo hi) (by rw [sizeLine_eq]; exact hz), fun t' k => by rw [KBc.picked_eq, hr]; exact h _ _ (H.tok _)⟩⟩ hs ht
-- storing
theorem as_tup {elts : List Expr} {k : Nat} {c : Addr} {xs : List Value} {Q : Unit → Shared → Prop} (H : Stt z s L) (hh : A.handled = none) (hm : (c, Tup xs) ∈ L) (hn : (assignEach elts env).length = xs.toArray.size) (hstar : (assignEach elts env).findIdx? (·.1) = none)
    (h : ∀ s', Stt z s' L → wpAny (model prog w) A (assignInOrder ((assignEach elts env).map (·.2)) xs) Q E s') : wpAny (model prog w) A (assign (.Tuple elts k pos) env (.ref c)) Q E s := by
  refine wpAny_assign_Tuple hh (isTuple H hm) hn hstar fun h' hx => h _ (H.ext (fun b o e => ?_) rfl rfl)
  exact hx b o (Nat.ne_of_lt (Heap.lt_size e)) e
theorem as_tup2 {x y : Str} {px py : Pos} {k : Nat} {c : Addr} {v1 v2 : Value} {Q : Unit → Shared → Prop} (H : Stt z s L) (hh : A.handled = none) (hm : (c, Tup [v1, v2]) ∈ L)
    (h : ∀ s', Stt z s' L → wpAny (model prog w) A (storeName env x v1) (fun _ s₁ => wpAny (model prog w) A (storeName env y v2) Q E s₁) E s') :
    wpAny (model prog w) A (assign (.Tuple [.Name x px, .Name y py] k pos) env (.ref c)) Q E s := by
  refine as_tup H hh hm rfl rfl fun s' H' => ?_
  show wpAny _ _ (assignInOrder [assign (.Name x px) env, assign (.Name y py) env] [v1, v2]) _ _ _
  refine wpAny_assignInOrder_more (wpAny_assign_Name (wpAny_mono (h s' H') (fun _ s₁ h₁ => ?_) fun _ _ x => x))
  exact wpAny_assignInOrder_more (wpAny_assign_Name (wpAny_mono h₁ (fun _ _ h₂ => wpAny_assignInOrder_none h₂) fun _ _ x => x))
end
/-! ## A post-condition behind a variable: the steps of a walk then carry the variable, not the text -/
section
variable {α : Type} {M : Model} {A : Around} {c : Sem α} {s : Shared} {Q : α → Shared → Prop} {E : Value → Shared → Prop}
theorem hide_q (h : ∀ Qn : α → Shared → Prop, (∀ v s, Q v s → Qn v s) → wpAny M A c Qn E s) : wpAny M A c Q E s := h Q fun _ _ x => x
theorem hide_e (h : ∀ En : Value → Shared → Prop, (∀ v s, E v s → En v s) → wpAny M A c Q En s) : wpAny M A c Q E s := h E fun _ _ x => x
theorem hide_r {cd : Code} {R : Result → Shared → Prop} (h : ∀ Rn : Result → Shared → Prop, (∀ r s, R r s → Rn r s) → codeAny M A cd Rn s) : codeAny M A cd R s := h R fun _ _ x => x
end

end
local macro_rules | `(tactic| walk_at "mem") => `(tactic| with_reducible first | exact List.mem_cons_self | (refine List.mem_cons_of_mem _ ?_; walk_at "mem"))
local macro_rules | `(tactic| walk_at "upd") => `(tactic| with_reducible first | exact Upd.head | (apply Upd.tail; walk_at "upd"))
local macro_rules | `(tactic| walk_at "loc") => `(tactic| with_reducible first | exact Loc.head | (apply Loc.tail; walk_at "loc"))
local macro_rules | `(tactic| walk_at "put") => `(tactic| with_reducible first | exact Put.head | (apply Put.tail; walk_at "put"))

section
/-! ## Words -/
noncomputable def figs (n : Nat) : List Nat := if h : n = 0 then [] else figs (n / 16) ++ [n % 16]
termination_by n
decreasing_by omega
theorem figs_zero : figs 0 = [] := by rw [figs]; rfl
theorem figs_pos {n : Nat} (h : n ≠ 0) : figs n = figs (n / 16) ++ [n % 16] := by rw [figs, dif_neg h]
theorem figs_lt {n : Nat} : ∀ d ∈ figs n, d < 16 := by
  induction n using Nat.strongRecOn with
  | _ n ih =>
    intro d hd
    by_cases h : n = 0
    · subst h; rw [figs_zero] at hd; cases hd
    · rw [figs_pos h] at hd
      rcases List.mem_append.mp hd with q | q
      · exact ih _ (by omega) d q
      · rw [List.mem_singleton] at q; omega
theorem figs_len {n : Nat} : ∀ k, n < 16 ^ k → (figs n).length ≤ k := by
  induction n using Nat.strongRecOn with
  | _ n ih =>
    intro k hk
    by_cases h : n = 0
    · subst h; rw [figs_zero]; exact Nat.zero_le _
    · rw [figs_pos h, List.length_append]
      cases k with
      | zero => simp at hk; omega
      | succ k =>
        have := ih (n / 16) (by omega) k (by rw [Nat.pow_succ] at hk; omega)
        simp; omega
noncomputable def wl (n : Nat) : List UInt8 := (figs n).map fun d => UInt8.ofNat (65 + d)
noncomputable def wd (n : Nat) : Array UInt8 := (wl n).toArray
theorem wl_zero : wl 0 = [] := by rw [wl, figs_zero]; rfl
theorem wl_pos {n : Nat} (h : n ≠ 0) : wl n = wl (n / 16) ++ [UInt8.ofNat (65 + n % 16)] := by rw [wl, figs_pos h, List.map_append]; rfl
theorem wl_len {n : Nat} (h : n < 65536) : (wl n).length ≤ 4 := by rw [wl, List.length_map]; exact figs_len 4 h
theorem ap_cut : ∀ d : Fin 16, (([65, 66, 67, 68, 69, 70, 71, 72, 73, 74, 75, 76, 77, 78, 79, 80] : List UInt8).drop (clipAt 16 ((d.val : Nat) : Int))).take (clipAt 16 (((d.val : Nat) : Int) + 1) - clipAt 16 ((d.val : Nat) : Int)) = [UInt8.ofNat (65 + d.val)] := by decide
theorem fdiv_nat (m k : Nat) : ((m : Int)).fdiv (k : Int) = ((m / k : Nat) : Int) := by
  rw [Int.fdiv_eq_ediv_of_nonneg _ (by omega)]; rfl
theorem fmod_nat (m k : Nat) : ((m : Int)).fmod (k : Int) = ((m % k : Nat) : Int) := by
  rw [Int.fmod_eq_emod_of_nonneg _ (by omega)]; rfl

theorem int2ap {w : World} {mg mb : Str → Option Value} {prog : Program} {A : Around} {z s : Shared} {L : Led} {R : Result → Shared → Prop} {n : Int} {t : Tok}
    (G : Gd w mg mb z.heap) (H : Stt z s L) (hA : A.depth ≤ 800) (hh : A.handled = none) (hn : n.natAbs < 65536)
    (h : ∀ s' t', Stt z s' L → R (.ok (.ret (.bytes (wd n.natAbs) t'))) s') :
    codeAny (model prog w) A (.call (.ref 28) ⟨[.int n t], []⟩) R s := by
  refine call_fn (ps := ["num"]) (rest := ["val", "AP", "mod"]) (names := ["num", "val", "AP", "mod"]) (vals := [some (.int n t), none, none, none]) (gs := ["int", "abs", "divmod"]) G H (by k_is) (by k_is) (by show _ < 1000; omega) rfl (BindsTo.of_eq rfl) rfl rfl rfl (by decide) (by decide) (all_mem rfl) (all_mem rfl) rfl rfl ?_
  clear H
  intro env Lf s he hfr H
  with_reducible refine wpAny_execs_cons ?_
  with_reducible refine wpAny_Assign_Name ?_ rfl
  (with_reducible rename Stt _ _ _ => hO); with_reducible refine c_bytes hO ?_; intro _ _ _; clear hO
  (with_reducible rename Stt _ _ _ => hO); refine st_local hO (by with_reducible assumption) (by walk_at "upd") (by walk_at "put") ?_; intro _ _; clear hO
  with_reducible refine wpAny_execs_cons ?_
  with_reducible refine wpAny_Assign_Name ?_ rfl
  (with_reducible rename Stt _ _ _ => hO); with_reducible refine c_bytes hO ?_; intro _ _ _; clear hO
  (with_reducible rename Stt _ _ _ => hO); refine st_local hO (by with_reducible assumption) (by walk_at "upd") (by walk_at "put") ?_; intro _ _; clear hO
  with_reducible refine wpAny_execs_cons ?_
  with_reducible refine wpAny_Assign_Name ?_ rfl
  with_reducible refine wpAny_Call_NameR ?_
  refine n_built (by with_reducible assumption) (by with_reducible assumption) (by with_reducible assumption) (by walk_at "mem") (Gd.noglob (by with_reducible assumption) (by k_is)) (by boot_by_name) (by decide) ?_
  with_reducible refine PyProof.Rows.callWith_type1 ?_ rfl rfl
  with_reducible refine spliced_more ?_ rfl
  with_reducible refine wpAny_Call_NameR ?_
  refine n_built (by with_reducible assumption) (by with_reducible assumption) (by with_reducible assumption) (by walk_at "mem") (Gd.noglob (by with_reducible assumption) (by k_is)) (by boot_by_name) (by decide) ?_
  with_reducible refine callWith_builtin1 ?_ rfl rfl
  with_reducible refine spliced_more ?_ rfl
  refine n_local (by with_reducible assumption) (by with_reducible assumption) (by walk_at "mem") (by walk_at "loc") ?_
  with_reducible refine spliced_none ?_
  (with_reducible rename Stt _ _ _ => hO); with_reducible refine i_abs hO ?_; intro _ _ _; clear hO
  with_reducible refine spliced_none ?_
  with_reducible refine call_int_int ?_
  (with_reducible rename Stt _ _ _ => hO); refine st_local hO (by with_reducible assumption) (by walk_at "upd") (by walk_at "put") ?_; intro _ _; clear hO
  with_reducible refine wpAny_execs_cons ?_
  rename_i H
  refine wpAny_While (codeAny_whileLoop (fun k s => ∃ (b : List UInt8) (u0 u1 u2 : Tok) (vm : Option Value), k < 65536 ∧ wl k ++ b = wl n.natAbs ∧
    Stt z s ((Lf, Fra ["num", "val", "AP", "mod"] [some (.int (k : Int) u0), some (.bytes b.toArray u2), some (.bytes #[65, 66, 67, 68, 69, 70, 71, 72, 73, 74, 75, 76, 77, 78, 79, 80] u1), vm]) :: L)) ?_ n.natAbs ⟨[], _, _, _, none, hn, by simp, H⟩)
  clear H
  intro k s ⟨b, u0, u1, u2, vm, hk, hw, H⟩
  have hlen : b.length ≤ 4 := by
    have := congrArg List.length hw
    rw [List.length_append] at this
    have := wl_len hn
    omega
  refine isTrue_plain ?_ rfl
  refine n_local (by with_reducible assumption) (by with_reducible assumption) (by walk_at "mem") (by walk_at "loc") ?_
  with_reducible refine PyProof.Rows.truthy_int ?_
  by_cases h0 : k = 0
  · subst h0
    rw [if_neg (by simp)]
    with_reducible refine wpAny_execs_nil ?_
    with_reducible refine wpAny_execs_cons ?_
    with_reducible refine wpAny_Return_some ?_
    refine n_local (by with_reducible assumption) (by with_reducible assumption) (by walk_at "mem") (by walk_at "loc") ?_
    have : b.toArray = wd n.natAbs := by rw [wd, ← hw, wl_zero]; rfl
    rw [this]
    exact h _ _ (Stt.drop1 (by assumption))
  · rw [if_pos (by simp; omega)]
    with_reducible refine wpAny_execs_cons ?_
    with_reducible refine Assign_Tuple ?_ rfl rfl
    with_reducible refine wpAny_Call_NameR ?_
    refine n_built (by with_reducible assumption) (by with_reducible assumption) (by with_reducible assumption) (by walk_at "mem") (Gd.noglob (by with_reducible assumption) (by k_is)) (by boot_by_name) (by decide) ?_
    with_reducible refine callWith_builtin1 ?_ rfl rfl
    with_reducible refine spliced_more ?_ rfl
    refine n_local (by with_reducible assumption) (by with_reducible assumption) (by walk_at "mem") (by walk_at "loc") ?_
    with_reducible refine spliced_more ?_ rfl
    (with_reducible rename Stt _ _ _ => hO); with_reducible refine c_int hO ?_; intro _ _ _; clear hO
    with_reducible refine spliced_none ?_
    refine i_divmod (by assumption) (by decide) (PyProof.noPylong_small (by decide)) ?_
    rw [show (16 : Int) = ((16 : Nat) : Int) from rfl, fdiv_nat, fmod_nat]
    intro _ _ _ _ _
    refine as_tup2 (by assumption) hh (by walk_at "mem") ?_
    intro _ _
    (with_reducible rename Stt _ _ _ => hO); refine st_local hO (by with_reducible assumption) (by walk_at "upd") (by walk_at "put") ?_; intro _ _; clear hO
    (with_reducible rename Stt _ _ _ => hO); refine st_local hO (by with_reducible assumption) (by walk_at "upd") (by walk_at "put") ?_; intro _ _; clear hO
    with_reducible refine wpAny_execs_cons ?_
    with_reducible refine wpAny_Assign_Name ?_ rfl
    with_reducible refine wpAny_BinOp ?_
    with_reducible refine Subscript_ ?_
    refine n_local (by with_reducible assumption) (by with_reducible assumption) (by walk_at "mem") (by walk_at "loc") ?_
    with_reducible refine x_Slice ?_
    with_reducible refine wpAny_evalPart_some ?_
    refine n_local (by with_reducible assumption) (by with_reducible assumption) (by walk_at "mem") (by walk_at "loc") ?_
    with_reducible refine wpAny_evalPart_some ?_
    with_reducible refine wpAny_BinOp ?_
    refine n_local (by with_reducible assumption) (by with_reducible assumption) (by walk_at "mem") (by walk_at "loc") ?_
    (with_reducible rename Stt _ _ _ => hO); with_reducible refine c_int hO ?_; intro _ _ _; clear hO
    (with_reducible rename Stt _ _ _ => hO); with_reducible refine i_add hO ?_; intro _ _ _; clear hO
    with_reducible refine wpAny_evalPart_none ?_
    (with_reducible rename Stt _ _ _ => hO); with_reducible refine al_slice hO ?_; intro _ _ _; clear hO
    refine b_slice (by assumption) (by walk_at "mem") (.int _ _) (.int _ _) (by decide) (ap_cut ⟨k % 16, by omega⟩) ?_
    intro _ _ _
    refine n_local (by with_reducible assumption) (by with_reducible assumption) (by walk_at "mem") (by walk_at "loc") ?_
    refine b_addl (by assumption) (by simp; omega) ?_
    intro _ _ _
    (with_reducible rename Stt _ _ _ => hO); refine st_local hO (by with_reducible assumption) (by walk_at "upd") (by walk_at "put") ?_; intro _ _; clear hO
    with_reducible refine wpAny_execs_nil ?_
    refine ⟨k / 16, by omega, UInt8.ofNat (65 + k % 16) :: b, _, _, _, _, by omega, ?_, Stt.drop1 (Stt.drop1 (by assumption))⟩
    rw [← hw, wl_pos h0, List.append_assoc]; rfl

end
section
/-! ## Lists: growing, walking -/
noncomputable def LIt (l : Addr) (i : Nat) : Pr := fun o => o.cls = .type "list_iterator" ∧ o.data = .fields #[.ref l, .int i 0]
section
variable {w : World} {prog : Program} {A : Around} {E : Value → Shared → Prop} {z s : Shared} {L L' : Led}
theorem l_append {l : Addr} {xs : List Value} {v : Value} {Q : Value → Shared → Prop} (H : Stt z s L) (U : Upd L l (Lst xs) (Lst (xs ++ [v])) L') (hz : xs.length ≤ sizeLine) (h : ∀ s', Stt z s' L' → Q .none s') :
    wpAny (model prog w) A (call (.builtin "list.append") [.ref l, v]) Q E s := by
  refine wpAny_list_append_plain (plainList H U.mem) (fun h' hp hs => h _ (H.upd (t := s.toks) U hs ?_)) (by simpa using hz)
  obtain ⟨n, e⟩ := hp
  exact ⟨_, e, n, by simp⟩
theorem it_list {l : Addr} {xs : List Value} {Q : Value → Shared → Prop} (H : Stt z s L) (hm : (l, Lst xs) ∈ L) (h : ∀ c s', Stt z s' ((c, LIt l 0) :: L) → Q (.ref c) s') :
    wpAny (model prog w) A (pyIter (.ref l)) Q E s := wpAny_pyIter_list (isList H hm) (h _ _ (H.alloc (t := s.toks) rfl ⟨rfl, rfl⟩))
theorem isLIt {c l : Addr} {i : Nat} (H : Stt z s L) (hm : (c, LIt l i) ∈ L) : s.heap.IsListIter c l i := by
  obtain ⟨o, h1, h2⟩ := H.get hm
  exact ⟨o, h1, h2⟩
theorem it_self {c l : Addr} {i : Nat} {Q : Value → Shared → Prop} (H : Stt z s L) (hm : (c, LIt l i) ∈ L) (h : Q (.ref c) s) : wpAny (model prog w) A (pyIter (.ref c)) Q E s :=
  wpAny_pyIter_listiter (isLIt H hm) h
theorem nx_list {c l : Addr} {i : Nat} {xs : List Value} {v : Value} {Q : Option Value → Shared → Prop} (H : Stt z s L) (U : Upd L c (LIt l i) (LIt l (i + 1)) L') (hl : (l, Lst xs) ∈ L) (hx : xs[i]? = some v)
    (h : ∀ s', Stt z s' L' → Q (some v) s') : wpAny (model prog w) A (pyNext (.ref c)) Q E s :=
  wpAny_pyNext_list_item (isLIt H U.mem) (isList H hl) (by simpa using hx) fun h' hp hs => h _ (H.upd (t := s.toks) U hs hp)
/-- what an object keeps when it is let go of -/
noncomputable abbrev Gone : Pr := fun _ => True
theorem Stt.extBut {c : Addr} {P : Pr} (H : Stt z s L) (hm : (c, P) ∈ L) {h' : Heap} (hx : Heap.ExtBut c s.heap h') : Stt z { s with heap := h' } (L.filter fun p => p.1 != c) := by
  have hz := (H.own _ hm).2
  refine ⟨fun b o e => hx b o ?_ (H.keep b o e), fun p hp => ?_, ?_, H.gens, H.os⟩
  · intro e'; rw [e', hz] at e; cases e
  · obtain ⟨hp1, hp2⟩ := List.mem_filter.mp hp
    obtain ⟨⟨o, h1, h2⟩, h3⟩ := H.own p hp1
    exact ⟨⟨o, hx _ _ (by simpa using hp2) h1, h2⟩, h3⟩
  · exact (List.Sublist.map _ List.filter_sublist).nodup H.nd
theorem filter_ne_self : ∀ {L : Led} {c : Addr}, (∀ p ∈ L, p.1 ≠ c) → (L.filter fun p => p.1 != c) = L
  | [], _, _ => rfl
  | p :: L, c, h => by
    have hp : (p.1 != c) = true := by simpa using h p List.mem_cons_self
    rw [List.filter_cons, if_pos hp, filter_ne_self fun q hq => h q (List.mem_cons_of_mem _ hq)]
inductive Out : Led → Addr → Pr → Led → Prop
  | head {L : Led} {a : Addr} {P : Pr} : Out ((a, P) :: L) a P L
  | tail {L L' : Led} {q : Addr × Pr} {a : Addr} {P : Pr} : Out L a P L' → Out (q :: L) a P (q :: L')
theorem Out.mem {L L' : Led} {a : Addr} {P : Pr} (u : Out L a P L') : (a, P) ∈ L := by
  induction u with
  | head => exact List.mem_cons_self
  | tail _ ih => exact List.mem_cons_of_mem _ ih
theorem Out.sub {L L' : Led} {a : Addr} {P : Pr} (u : Out L a P L') : L'.Sublist L := by
  induction u with
  | head => exact List.sublist_cons_self _ _
  | tail _ ih => exact ih.cons_cons _
theorem Out.ne {L L' : Led} {a : Addr} {P : Pr} (u : Out L a P L') (nd : (L.map (·.1)).Nodup) : (L.filter fun p => p.1 != a) = L' := by
  induction u with
  | head =>
    rw [List.map_cons, List.nodup_cons] at nd
    rw [List.filter_cons, if_neg (by simp)]
    exact filter_ne_self fun p hp e => nd.1 (List.mem_map.mpr ⟨p, hp, e⟩)
  | @tail L L' q a P u ih =>
    rw [List.map_cons, List.nodup_cons] at nd
    have hq : (q.1 != a) = true := by
      have : q.1 ≠ a := fun e => nd.1 (List.mem_map.mpr ⟨_, u.mem, e.symm⟩)
      simpa using this
    rw [List.filter_cons, if_pos hq, ih nd.2]
theorem Stt.out {c : Addr} {P : Pr} (H : Stt z s L) (u : Out L c P L') : Stt z s L' := by
  have := H.sub (l := L') (L' := L') (List.Perm.refl _) u.sub
  exact this
theorem nx_list_end {c l : Addr} {i : Nat} {xs : List Value} {Q : Option Value → Shared → Prop} (hh : A.handled = none) (H : Stt z s L) (U : Out L c (LIt l i) L') (hl : (l, Lst xs) ∈ L) (hx : xs[i]? = none)
    (h : ∀ s', Stt z s' L' → Q none s') : wpAny (model prog w) A (pyNext (.ref c)) Q E s := by
  refine wpAny_pyNext_list_end hh (isLIt H U.mem) (isList H hl) (by simpa using hx) fun h' hx' => h _ ?_
  have := H.extBut U.mem hx'
  rw [U.ne H.nd] at this
  exact this

/-! ## Comprehensions -/
structure Itr (prog : Program) (w : World) (A : Around) (z : Shared) (L : Led) (it : Addr) (P : Nat → Pr) (items : List Value) : Prop where
  next : ∀ {i : Nat} {v : Value} {c1 c2 : Addr × Pr} {s : Shared} {E : Value → Shared → Prop} {Q : Option Value → Shared → Prop}, Stt z s (c1 :: c2 :: (it, P i) :: L) → items[i]? = some v →
    (∀ s', Stt z s' (c1 :: c2 :: (it, P (i + 1)) :: L) → Q (some v) s') → wpAny (model prog w) A (pyNext (.ref it)) Q E s
  done : ∀ {c1 c2 : Addr × Pr} {s : Shared} {E : Value → Shared → Prop} {Q : Option Value → Shared → Prop}, Stt z s (c1 :: c2 :: (it, P items.length) :: L) →
    (∀ s', Stt z s' (c1 :: c2 :: L) → Q none s') → wpAny (model prog w) A (pyNext (.ref it)) Q E s
  self : ∀ {i : Nat} {c1 c2 : Addr × Pr} {s : Shared} {E : Value → Shared → Prop} {Q : Value → Shared → Prop}, Stt z s (c1 :: c2 :: (it, P i) :: L) → Q (.ref it) s → wpAny (model prog w) A (pyIter (.ref it)) Q E s
theorem itr_list {l it : Addr} {xs : List Value} (hh : A.handled = none) (hm : (l, Lst xs) ∈ L) : Itr prog w A z L it (LIt l) xs where
  next H hx h := nx_list H (.tail (.tail .head)) (List.mem_cons_of_mem _ (List.mem_cons_of_mem _ (List.mem_cons_of_mem _ hm))) hx h
  done H h := nx_list_end hh H (.tail (.tail .head)) (List.mem_cons_of_mem _ (List.mem_cons_of_mem _ (List.mem_cons_of_mem _ hm))) (by simp) h
  self H h := it_self H (List.mem_cons_of_mem _ (List.mem_cons_of_mem _ List.mem_cons_self)) h

noncomputable abbrev testsOf (ifs : List Expr) (cenv : Env) : Sem Bool := forIn ifs true fun c r => if r = true then do let ok ← isTrue c cenv (eval c cenv); pure (ForInStep.yield ok) else pure (ForInStep.yield r)
/-- one turn of a comprehension -/
noncomputable def CTurn (prog : Program) (w : World) (A : Around) (z : Shared) (L : Led) (it : Addr) (P : Nat → Pr) (items : List Value) (x : Str) (gs : List Str) (cs : List (Str × Addr)) (ifs : List Expr) (elt : Expr) (J : Nat → List Value → Prop) : Prop :=
  ∀ (cenv : Env) (C acc : Addr) (i : Nat) (v : Value) (ys : List Value) (s : Shared), EnvIs cenv C [x] gs cs → items[i]? = some v → J i ys → Stt z s ((C, Fra [x] [some v]) :: (acc, Lst ys) :: (it, P (i + 1)) :: L) →
    wpAny (model prog w) A (testsOf ifs cenv) (fun ok s' => if ok = true then wpAny (model prog w) A (eval elt cenv) (fun r s'' => Stt z s'' ((C, Fra [x] [some v]) :: (acc, Lst ys) :: (it, P (i + 1)) :: L) ∧ J (i + 1) (ys ++ [r])) (fun _ _ => False) s'
      else Stt z s' ((C, Fra [x] [some v]) :: (acc, Lst ys) :: (it, P (i + 1)) :: L) ∧ J (i + 1) ys) (fun _ _ => False) s

theorem comp_loop {elt iter : Expr} {x : Str} {px : Pos} {ifs : List Expr} {scope : Scope} {pos : Pos} {it acc C : Addr} {cenv : Env} {gs : List Str} {cs : List (Str × Addr)} {P : Nat → Pr} {items : List Value} {J : Nat → List Value → Prop} {R : Result → Shared → Prop}
    (he : EnvIs cenv C [x] gs cs) (I : Itr prog w A z L it P items) (hz : items.length ≤ sizeLine) (h0 : J 0 []) (ht : CTurn prog w A z L it P items x gs cs ifs elt J)
    (H : Stt z s ((C, Fra [x] [none]) :: (acc, Lst []) :: (it, P 0) :: L))
    (h : ∀ s' ys vx, J items.length ys → Stt z s' ((C, Fra [x] [vx]) :: (acc, Lst ys) :: L) → R (.ok .next) s') :
    codeAny (model prog w) A (.compStart (.ListComp elt [⟨.Name x px, iter, ifs, 0⟩] scope pos) 0 (.ref it) (.ref acc) cenv) R s := by
  have loop : ∀ s, Stt z s ((C, Fra [x] [none]) :: (acc, Lst []) :: (it, P 0) :: L) → codeAny (model prog w) A (.compLoop (.ListComp elt [⟨.Name x px, iter, ifs, 0⟩] scope pos) 0 (.ref it) (.ref acc) cenv) R s := by
    intro s H
    refine codeAny_compLoop_tests (fun k s => ∃ i ys vx, i + k = items.length ∧ J i ys ∧ ys.length ≤ i ∧ Stt z s ((C, Fra [x] [vx]) :: (acc, Lst ys) :: (it, P i) :: L)) ?_ items.length ⟨0, [], none, by omega, h0, Nat.le_refl _, H⟩
    intro k s ⟨i, ys, vx, hk, hJ, hys, H⟩
    by_cases hi : i = items.length
    · subst hi
      exact I.done H fun s' H' => h s' ys vx hJ H'
    · have hlt : i < items.length := by omega
      refine I.next H (List.getElem?_eq_getElem hlt) fun s₁ H₁ => ?_
      refine wpAny_assign_Name (st_local H₁ he .head .head fun s₂ H₂ => ?_)
      refine wpAny_mono (ht cenv C acc i _ ys s₂ he (List.getElem?_eq_getElem hlt) hJ H₂) (fun ok s₃ h₃ => ?_) fun _ _ f => f.elim
      cases ok with
      | true =>
        rw [if_pos rfl] at h₃ ⊢
        refine wpAny_mono h₃ (fun r s₄ h₄ => ?_) fun _ _ f => f.elim
        refine l_append h₄.1 (.tail .head) (by omega) fun s₅ H₅ => ?_
        exact ⟨k - 1, by omega, i + 1, _, _, by omega, h₄.2, by simp; omega, H₅⟩
      | false =>
        rw [if_neg Bool.false_ne_true] at h₃ ⊢
        exact ⟨k - 1, by omega, i + 1, _, _, by omega, h₃.2, by omega, h₃.1⟩
  exact codeAny_compStart_list (loop s H) (I.self H (loop s H))

/-- what is wanted of a comprehension behind its source -/
noncomputable def CompQ (prog : Program) (w : World) (A : Around) (z : Shared) (x : Str) (gs : List Str) (cs : List (Str × Addr)) (ifs : List Expr) (elt : Expr) (F : Addr → Led → List Value → Shared → Prop) (itv : Value) (s : Shared) : Prop :=
  ∃ (it : Addr) (L : Led) (P : Nat → Pr) (items : List Value) (J : Nat → List Value → Prop), itv = .ref it ∧ Stt z s ((it, P 0) :: L) ∧ Itr prog w A z L it P items ∧ items.length ≤ sizeLine ∧ J 0 [] ∧ CTurn prog w A z L it P items x gs cs ifs elt J ∧
    ∀ D ys s', J items.length ys → Stt z s' ((D, Lst ys) :: L) → F D L ys s'

theorem comp_list {elt iter : Expr} {x : Str} {px : Pos} {ifs : List Expr} {scope : Scope} {cl : List (Str × Addr)} {pos : Pos} {env : Env} {gs : List Str} {cs : List (Str × Addr)} {Q : Value → Shared → Prop}
    (hclos : closureFor scope env = pure cl) (hcell : ∀ y ∈ scope.names, y.2 ≠ .cell) (hkind : scope.kind = .function) (hnames : ∀ y ∈ scope.names, y.2 = .local → scope.names.lookup y.1 = some .local)
    (hE : ∀ C, EnvIs (compEnvC scope cl C env) C [x] gs cs)
    (h : wpAny (model prog w) A (eval iter env) (fun xv s₁ => wpAny (model prog w) A (pyIter xv) (CompQ prog w A z x gs cs ifs elt fun D _ _ s' => Q (.ref D) s') E s₁) E s)
    (hs : ∀ x, foldedSetIterable iter env x = pure x := by intro _; rfl) :
    wpAny (model prog w) A (eval (.ListComp elt [⟨.Name x px, iter, ifs, 0⟩] scope pos) env) Q E s := by
  rw [eval_ListComp]
  refine wpAny_comprehension_free (use := none) rfl hs hclos hkind hnames (wpAny_mono h (fun xv s₁ h₁ => wpAny_mono h₁ (fun itv s₂ h₂ => ?_) fun _ _ e => e) fun _ _ e => e)
  obtain ⟨it, L, P, items, J, rfl, H, I, hz, h0, ht, hF⟩ := h₂
  refine wpAny_newList ?_ (by simp)
  have H₁ := H.alloc (t := s₂.toks) (P := Lst []) (o := { cls := .type "list", data := .seq ([] : List Value).toArray }) rfl ⟨_, rfl⟩
  generalize hs3 : ({ s₂ with heap := s₂.heap.push { cls := .type "list", data := .seq ([] : List Value).toArray } } : Shared) = s₃ at H₁ ⊢
  refine wpAny_newFunctionEnv hcell (by intro y hy; simp at hy) (fun h' hn hsb => ?_) hkind
  have hN : Heap.get? s₃.heap s₃.heap.objs.size = none := Heap.get?_none_of_le (Nat.le_refl _)
  obtain ⟨o, e1, e2⟩ := Fra.of_ns (names := [x]) (vals := [none]) hn (fun y => by simp [look])
  have H₂ : Stt z { s₃ with heap := h', toks := s₃.toks + ([] : List (Str × Value)).length } ((s₃.heap.objs.size, Fra [x] [none]) :: (s₂.heap.objs.size, Lst []) :: (it, P 0) :: L) :=
    H₁.cons (fun b o e => hsb.extBut b o (Nat.ne_of_lt (Heap.lt_size e)) (Heap.get?_push_of_some _ e)) rfl rfl hN e1 e2
  refine comp_loop (hE _) I hz h0 ht H₂ fun s' ys vx hJ H' => ?_
  obtain ⟨o', h1, h2⟩ := H'.get List.mem_cons_self
  refine ⟨_, Fra.ns h1 h2, fun h'' hs'' => hF _ ys _ hJ ?_⟩
  have := H'.extBut List.mem_cons_self hs''.extBut
  rw [Out.head.ne H'.nd] at this
  exact this


noncomputable def StoreQ (z : Shared) (Lf : Addr) (ls : List Str) (y : Str) (Q : Flow → Shared → Prop) (D : Addr) (L : Led) (ys : List Value) (_ : Shared) : Prop :=
  ∃ vals vals' L', Upd L Lf (Fra ls vals) (Fra ls vals') L' ∧ Put ls vals y (.ref D) vals' ∧ ∀ s'', Stt z s'' ((D, Lst ys) :: L') → Q .next s''
theorem comp_assign {elt iter : Expr} {x y : Str} {px py : Pos} {ifs : List Expr} {scope : Scope} {cl : List (Str × Addr)} {pos spos : Pos} {env : Env} {Lf : Addr} {ls gs₀ gs : List Str} {cs₀ cs : List (Str × Addr)} {Q : Flow → Shared → Prop}
    (hsw : swapsWith (.ListComp elt [⟨.Name x px, iter, ifs, 0⟩] scope pos) (some (.Name y py)) spos.line env = pure true) (he : EnvIs env Lf ls gs₀ cs₀)
    (hclos : closureFor scope env = pure cl) (hcell : ∀ y ∈ scope.names, y.2 ≠ .cell) (hkind : scope.kind = .function) (hnames : ∀ y ∈ scope.names, y.2 = .local → scope.names.lookup y.1 = some .local)
    (hE : ∀ C, EnvIs (compEnvC scope cl C env) C [x] gs cs)
    (h : wpAny (model prog w) A (eval iter env) (fun xv s₁ => wpAny (model prog w) A (pyIter xv) (CompQ prog w A z x gs cs ifs elt (StoreQ z Lf ls y Q)) E s₁) E s)
    (hs : ∀ x, foldedSetIterable iter env x = pure x := by intro _; rfl) :
    wpAny (model prog w) A (exec (.Assign [.Name y py] (.ListComp elt [⟨.Name x px, iter, ifs, 0⟩] scope pos) spos) env) Q E s := by
  rw [exec_Assign_Name_used _ _ _ _ hsw]
  refine wpAny_bind (wpAny_standAt (wpAny_bind ?_))
  show wpAny _ A (do let _ ← comprehension (.ListComp elt [⟨.Name x px, iter, ifs, 0⟩] scope pos) scope env _ (newList []) false (eval iter env) (some (assign (.Name y py) env))) _ _ s
  refine wpAny_bind (wpAny_mono (wpAny_comprehension_free (use := some (assign (.Name y py) env)) (Q := fun _ s' => Q .next s') rfl hs hclos hkind hnames
    (wpAny_mono h (fun xv s₁ h₁ => wpAny_mono h₁ (fun itv s₂ h₂ => ?_) fun _ _ e => e) fun _ _ e => e)) (fun _ s' hq => wpAny_pure (wpAny_pure hq)) fun _ _ e => e)
  obtain ⟨it, L, P, items, J, rfl, H, I, hz, h0, ht, hF⟩ := h₂
  refine wpAny_newList ?_ (by simp)
  have H₁ := H.alloc (t := s₂.toks) (P := Lst []) (o := { cls := .type "list", data := .seq ([] : List Value).toArray }) rfl ⟨_, rfl⟩
  generalize hs3 : ({ s₂ with heap := s₂.heap.push { cls := .type "list", data := .seq ([] : List Value).toArray } } : Shared) = s₃ at H₁ ⊢
  refine wpAny_newFunctionEnv hcell (by intro y hy; simp at hy) (fun h' hn hsb => ?_) hkind
  have hN : Heap.get? s₃.heap s₃.heap.objs.size = none := Heap.get?_none_of_le (Nat.le_refl _)
  obtain ⟨o, e1, e2⟩ := Fra.of_ns (names := [x]) (vals := [none]) hn (fun y => by simp [look])
  have H₂ : Stt z { s₃ with heap := h', toks := s₃.toks + ([] : List (Str × Value)).length } ((s₃.heap.objs.size, Fra [x] [none]) :: (s₂.heap.objs.size, Lst []) :: (it, P 0) :: L) :=
    H₁.cons (fun b o e => hsb.extBut b o (Nat.ne_of_lt (Heap.lt_size e)) (Heap.get?_push_of_some _ e)) rfl rfl hN e1 e2
  refine comp_loop (hE _) I hz h0 ht H₂ fun s' ys vx hJ H' => ?_
  obtain ⟨vals, vals', L', U, hp, hQ⟩ := hF _ ys _ hJ H'.drop1
  show wpAny _ A (assign (.Name y py) env (.ref s₂.heap.objs.size)) _ _ _
  refine wpAny_assign_Name (st_local H' he (.tail (.tail U)) hp fun s'' H'' => ?_)
  obtain ⟨o', h1, h2⟩ := H''.get List.mem_cons_self
  refine ⟨_, Fra.ns h1 h2, fun h'' hs'' => hQ _ ?_⟩
  have := H''.extBut List.mem_cons_self hs''.extBut
  rw [Out.head.ne H''.nd] at this
  exact this
end

end
section
/-! ## Calls, list operations -/
section
variable {w : World} {mg mb : Str → Option Value} {prog : Program} {A : Around} {E : Value → Shared → Prop} {z s : Shared} {L L' : Led} {env : Env} {pos : Pos} {Q : Value → Shared → Prop}
theorem cw_fn {f : Value} {first : List Value} {e : Expr} {rest : List Expr} (G : Gd w mg mb z.heap) (hk : keepIn (hd.heap_1 w.params) f = true)
    (h : wpAny (model prog w) A (spliced (backTo pos (starEach (e :: rest) env))) (fun vs s₁ => (∃ L, Stt z s₁ L) ∧ wpAny (model prog w) A (call f (first ++ vs)) Q E s₁) E s)
    (he : starEach (e :: rest) env = (false, eval e env) :: starEach rest env := by rfl) (hplain : (backTo pos (starEach rest env)).any (·.1) = false := by rfl) :
    wpAny (model prog w) A (callWith pos f first (backTo pos (starEach (e :: rest) env)) []) Q E s :=
  callWith_K G.X hk (wpAny_mono h (fun vs s₁ ⟨⟨L, H⟩, h'⟩ => ⟨G.X.keeps H.keep, h'⟩) fun _ _ e => e) he hplain
theorem cw_fn0 {f : Value} {first : List Value} (G : Gd w mg mb z.heap) (H : Stt z s L) (hk : keepIn (hd.heap_1 w.params) f = true) (h : wpAny (model prog w) A (call f first) Q E s) :
    wpAny (model prog w) A (callWith pos f first (backTo pos (starEach [] env)) []) Q E s := callWith_K0 (G.X.keeps H.keep) hk (by rw [List.append_nil]; exact h)
theorem l_add {l b : Addr} {xs ys : List Value} (H : Stt z s L) (h1 : (l, Lst xs) ∈ L) (h2 : (b, Lst ys) ∈ L) (hz : xs.length + ys.length ≤ sizeLine) (h : ∀ c s', Stt z s' ((c, Lst (xs ++ ys)) :: L) → Q (.ref c) s') :
    wpAny (model prog w) A (binaryOp .Add (.ref l) (.ref b)) Q E s := by
  obtain ⟨n, e1⟩ := plainList H h1
  obtain ⟨k, e2⟩ := plainList H h2
  exact PySem.P.add_list e1 e2 (h _ _ (H.alloc (t := s.toks) rfl ⟨0, by simp⟩)) (by simpa using hz)
theorem l_len {l : Addr} {xs : List Value} (H : Stt z s L) (h1 : (l, Lst xs) ∈ L) (hz : xs.length ≤ 16777216) (h : ∀ s' t, Stt z s' L → Q (.int xs.length t) s') : wpAny (model prog w) A (call (.builtin "len") [.ref l]) Q E s :=
  call_len_list (isList H h1) (by simp; omega) (by
    have := h _ (s.toks + 1) (H.tok (s.toks + 1 + 1))
    simpa using this)
theorem b_len {b : Array UInt8} {t : Tok} (H : Stt z s L) (hz : b.size ≤ 16777216) (h : ∀ s' t, Stt z s' L → Q (.int b.size t) s') : wpAny (model prog w) A (call (.builtin "len") [.bytes b t]) Q E s :=
  KBw.len_K rfl (by rw [KBw.ints_length]; omega) (by rw [KBw.ints_length]; exact h _ _ (H.tok _))
theorem l_in {l : Addr} {xs : List Value} {ns : List Int} {k : Int} {t : Tok} (H : Stt z s L) (h1 : (l, Lst xs) ∈ L) (hi : IntsAre xs ns) (h : Q (.bool (ns.any (· == k))) s) : wpAny (model prog w) A (compareOp .In (.int k t) (.ref l)) Q E s :=
  in_list_ints (isList H h1) hi h
theorem l_notin {l : Addr} {xs : List Value} {ns : List Int} {k : Int} {t : Tok} (H : Stt z s L) (h1 : (l, Lst xs) ∈ L) (hi : IntsAre xs ns) (h : Q (.bool (!(ns.any (· == k)))) s) : wpAny (model prog w) A (compareOp .NotIn (.int k t) (.ref l)) Q E s :=
  notin_list_ints (isList H h1) hi h
/-- a list's own method -/
theorem gm_list {name : Str} {id : String} {l : Addr} {xs : List Value} {pl : Sem Bool} {Q : Value × List Value → Shared → Prop} (H : Stt z s L) (h1 : (l, Lst xs) ∈ L) (slot : Slot "list" name id) (hty : typeOf (.builtin id) = pure (.type "method_descriptor")) (h : Q (.builtin id, [.ref l]) s) :
    wpAny (model prog w) A (getMethod (.ref l) name pl) Q E s := by
  obtain ⟨n, e⟩ := plainList H h1
  exact getMethod_list_of slot hty (isList H h1) ⟨_, e, rfl⟩ h
theorem gm_append {l : Addr} {xs : List Value} {pl : Sem Bool} {Q : Value × List Value → Shared → Prop} (H : Stt z s L) (h1 : (l, Lst xs) ∈ L) (h : Q (.builtin "list.append", [.ref l]) s) :
    wpAny (model prog w) A (getMethod (.ref l) "append" pl) Q E s := by
  obtain ⟨n, e⟩ := plainList H h1
  exact Calls.getMethod_list_append e rfl rfl h
theorem x_Expr {e : Expr} {Lf : Addr} {ls gs : List Str} {cs : List (Str × Addr)} {Q : Flow → Shared → Prop} (he : EnvIs env Lf ls gs cs) (h : wpAny (model prog w) A (eval e env) (fun _ => Q .next) E s) (hs : swapsWith e none pos.line env = pure false) :
    wpAny (model prog w) A (exec (.Expr e pos) env) Q E s := wpAny_Expr_any h (by unfold interactive; rw [he.kind]; rfl) hs
end

theorem bindL_cons {k : Str → Option NameKind} {n : Str} {v : Value} {r : List (Str × Value)} {m : Str → Option Value} : bindL k ((n, v) :: r) m = bindL k r (if k n = some .local then fun y => if y = n then some v else m y else m) := rfl
theorem bindC_cons {k : Str → Option NameKind} {n : Str} {v : Value} {r : List (Str × Value)} {m : Str → Option Value} : bindC k ((n, v) :: r) m = bindC k r (if k n = some .local then m else fun y => if y = n then some v else m y) := rfl
theorem bindL_local (k : Str → Option NameKind) : ∀ (binds : List (Str × Value)) (m : Str → Option Value) (x : Str), (∀ b ∈ binds, k b.1 = some .local) → bindL k binds m x = (binds.reverse.lookup x).or (m x)
  | [], m, x, _ => rfl
  | (n, v) :: r, m, x, h => by
    rw [bindL_cons, if_pos (h (n, v) List.mem_cons_self), bindL_local k r _ x fun b hb => h b (List.mem_cons_of_mem _ hb), List.reverse_cons, List.lookup_append]
    by_cases hx : x = n
    · subst hx; simp [List.lookup]
    · have : List.lookup x [(n, v)] = none := by
        rw [List.lookup_eq_none_iff]; intro q hq
        rw [List.mem_singleton] at hq; subst hq; simpa using hx
      rw [this, if_neg hx, Option.or_none]
theorem Stt.add {z s : Shared} {L : Led} {a : Addr} {P : Pr} {o : Obj} (H : Stt z s L) (he : s.heap.get? a = some o) (hp : P o) (hz : z.heap.get? a = none) (hn : ∀ p ∈ L, p.1 ≠ a) : Stt z s ((a, P) :: L) := by
  refine ⟨H.keep, fun p hp' => ?_, ?_, H.gens, H.os⟩
  · rcases List.mem_cons.mp hp' with rfl | q
    · exact ⟨⟨o, he, hp⟩, hz⟩
    · exact H.own p q
  · rw [List.map_cons, List.nodup_cons]
    exact ⟨fun hm => by obtain ⟨p, hp, e⟩ := List.mem_map.mp hm; exact hn p hp e, H.nd⟩
section
variable {w : World} {mg mb : Str → Option Value} {prog : Program} {A : Around} {z s : Shared} {L : Led}
/-- a call of a def of the text that keeps one name of its own in a cell -/
theorem call_fnC1 {R : Result → Shared → Prop} {f : Addr} {fd : FuncData} {oc : Value} {od : Option Addr} {osl : Array (Option Value)} {body : List Stmt} (ps rest gs : List Str) (cn : Str) {args : List Value} {names : List Str} {vals : List (Option Value)}
    (G : Gd w mg mb z.heap) (H : Stt z s L) (ho : (hd.heap_1 w.params).lookup f = some ⟨oc, od, .func fd, osl⟩) (hcd : codeIn (hd.heap_1 w.params) fd.code fd.qualname = true) (hroom : A.depth < recursionLimit)
    (hbody : fd.body = .stmts body) (hbind : bindArgs fd ⟨args, []⟩ = pure (ps.zip args)) (hlen : ps.length = args.length) (hn : ps ++ rest = names) (hv : args.map some ++ rest.map (fun _ => none) = vals) (hnd : names.Nodup)
    (hcells : ∀ n, cellsFrom n fd.scope.names [] = [(cn, n)]) (hcn : fd.scope.names.lookup cn = some .cell) (hloc : ∀ x ∈ names, fd.scope.names.lookup x = some .local) (hglo : ∀ x ∈ gs, fd.scope.names.lookup x = some .globalImplicit)
    (hgl : fd.globals = mainGlobals) (hbi : fd.builtins = builtinsNs) (hclo : fd.closure = []) (hni : cn ∉ ps)
    (h : ∀ env Lf c s', EnvIs env Lf names gs [(cn, c)] → env.frame = some Lf → Stt z s' ((Lf, Fra names vals) :: (c, Cel none) :: L) →
      wpAny (model prog w) (A.deeper env) (execs body env) (fun fl s' => R (.ok (.ret (match fl with | .ret v => v | _ => .none))) s') (fun _ _ => False) s')
    (hco : fd.scope.isCoroutine = false := by rfl) (hgen : fd.scope.isGenerator = false := by rfl) (hk : fd.scope.kind = .function := by rfl) :
    codeAny (model prog w) A (.call (.ref f) ⟨args, []⟩) R s := by
  subst hn hv
  have hl2 : ∀ b ∈ ps.zip args, fd.scope.names.lookup b.1 = some .local := fun x hx => hloc _ (List.mem_append_left _ (List.of_mem_zip (a := x.1) (b := x.2) hx).1)
  refine codeAny_call_cells hroom (H.keep _ _ (G.X _ _ ho)) rfl (G.nl.keeps H.keep) (codeRec_of (G.X.keeps H.keep) hcd) hbody hbind hclo (fun x hx => .inl (hl2 x hx)) (fun s₁ X => ?_) hco hgen hk
  have hE : EnvIs (callEnvC fd s.heap.objs.size f) s.heap.objs.size (ps ++ rest) gs [(cn, s.heap.objs.size + 1)] := by
    refine ⟨rfl, hk, hnd, hloc, hglo, fun p hp => ?_, hgl, hbi⟩
    rw [List.mem_singleton] at hp; subst hp
    refine ⟨hcn, ?_⟩
    show (cellsFrom (s.heap.objs.size + 1) fd.scope.names []).lookup cn = _
    rw [hcells]; simp [List.lookup]
  obtain ⟨⟨⟨h₁, tk, rfl⟩, hns, hkeep, _⟩, hcell, _, _⟩ := X
  have hN : Heap.get? s.heap s.heap.objs.size = none := Heap.get?_none_of_le (Nat.le_refl _)
  have hN2 : Heap.get? s.heap (s.heap.objs.size + 1) = none := Heap.get?_none_of_le (Nat.le_succ _)
  obtain ⟨o, e1, e2⟩ := Fra.of_ns (names := ps ++ rest) (vals := args.map some ++ rest.map fun _ => none) hns fun x => by
    rw [bindL_local _ _ _ _ hl2, Option.or_none]; exact look_binds ps args rest x hlen hnd
  obtain ⟨oc', c1, c2⟩ := hcell cn (s.heap.objs.size + 1) (by show (cellsFrom (s.heap.objs.size + 1) fd.scope.names []).lookup cn = _; rw [hcells]; simp [List.lookup])
  have hcm : bindC (callEnvC fd s.heap.objs.size f).kindOf (ps.zip args) (fun _ => none) cn = none := by
    have : ∀ (binds : List (Str × Value)) (m : Str → Option Value), (∀ b ∈ binds, fd.scope.names.lookup b.1 = some .local) → bindC (callEnvC fd s.heap.objs.size f).kindOf binds m = m := by
      intro binds
      induction binds with
      | nil => intro m _; rfl
      | cons b r ih =>
        intro m hb
        obtain ⟨n, v⟩ := b
        rw [bindC_cons, if_pos (show (callEnvC fd s.heap.objs.size f).kindOf n = some .local from hb (n, v) List.mem_cons_self)]
        exact ih m fun b hb' => hb b (List.mem_cons_of_mem _ hb')
    rw [this _ _ hl2]
  rw [hcm] at c2
  have HC : Stt z { s with heap := h₁, toks := tk } ((s.heap.objs.size + 1, Cel none) :: L) := H.cons hkeep rfl rfl hN2 c1 c2
  have HS := HC.add e1 e2 (H.fresh hN).1 fun p hp => by
    rcases List.mem_cons.mp hp with rfl | q
    · exact Nat.succ_ne_self _
    · exact (H.fresh hN).2 p q
  exact wpAny_mono (h _ _ _ _ hE rfl HS) (fun _ _ x => x) (fun _ _ x => x.elim)
end

end
section
/-! ## The law's small helpers -/
noncomputable def iv (ns : List Nat) : List Int := ns.map fun n : Nat => (n : Int)
section
variable {w : World} {prog : Program} {A : Around} {E : Value → Shared → Prop} {z s : Shared} {L : Led} {Q : Value → Shared → Prop} {m : Nat} {t u : Tok}
theorem i_modN (k : Nat) {b : Int} (hb : b = (k : Int)) (hk : k ≠ 0) (H : Stt z s L) (h : ∀ s' t, Stt z s' L → Q (.int ((m % k : Nat) : Int) t) s') : wpAny (model prog w) A (binaryOp .Mod (.int (m : Int) t) (.int b u)) Q E s := by
  subst hb
  exact i_mod H (by omega) fun s' t H' => by rw [fmod_nat]; exact h s' t H'
theorem i_divN (k : Nat) {b : Int} (hb : b = (k : Int)) (hk : k ≠ 0) (hs : k < 1073741824) (H : Stt z s L) (h : ∀ s' t, Stt z s' L → Q (.int ((m / k : Nat) : Int) t) s') : wpAny (model prog w) A (binaryOp .FloorDiv (.int (m : Int) t) (.int b u)) Q E s := by
  subst hb
  exact i_fdiv H (by omega) (PyProof.noPylong_small (by omega)) fun s' t H' => by rw [fdiv_nat]; exact h s' t H'
end
theorem figures {w : World} {mg mb : Str → Option Value} {prog : Program} {A : Around} {z s : Shared} {L : Led} {R : Result → Shared → Prop} {n : Int} {t : Tok}
    (G : Gd w mg mb z.heap) (H : Stt z s L) (hA : A.depth ≤ 800) (hn : n.natAbs < 65536)
    (h : ∀ s' c vs, IntsAre vs (iv (figs n.natAbs)) → Stt z s' ((c, Lst vs) :: L) → R (.ok (.ret (.ref c))) s') :
    codeAny (model prog w) A (.call (.ref 167) ⟨[.int n t], []⟩) R s := by
  refine call_fn (ps := ["number"]) (rest := ["figures", "size"]) (names := ["number", "figures", "size"]) (vals := [some (.int n t), none, none]) (gs := ["abs"]) G H (by k_is) (by k_is) (by show _ < 1000; omega) rfl (BindsTo.of_eq rfl) rfl rfl rfl (by decide) (by decide) (all_mem rfl) (all_mem rfl) rfl rfl ?_
  clear H
  intro env Lf s he hfr H
  with_reducible refine wpAny_execs_cons ?_
  with_reducible refine wpAny_Assign_Name ?_ rfl
  with_reducible refine x_List ?_
  with_reducible refine spliced_none ?_
  refine ⟨by exact Nat.le_of_ble_eq_true rfl, ?_⟩
  (with_reducible rename Stt _ _ _ => hO); with_reducible refine al_list hO ?_; intro _ _ _; clear hO
  (with_reducible rename Stt _ _ _ => hO); refine st_local hO (by with_reducible assumption) (by walk_at "upd") (by walk_at "put") ?_; intro _ _; clear hO
  with_reducible refine wpAny_execs_cons ?_
  with_reducible refine wpAny_Assign_Name ?_ rfl
  with_reducible refine wpAny_Call_NameR ?_
  refine n_built (by with_reducible assumption) (by with_reducible assumption) (by with_reducible assumption) (by walk_at "mem") (Gd.noglob (by with_reducible assumption) (by k_is)) (by boot_by_name) (by decide) ?_
  with_reducible refine callWith_builtin1 ?_ rfl rfl
  with_reducible refine spliced_more ?_ rfl
  refine n_local (by with_reducible assumption) (by with_reducible assumption) (by walk_at "mem") (by walk_at "loc") ?_
  with_reducible refine spliced_none ?_
  (with_reducible rename Stt _ _ _ => hO); with_reducible refine i_abs hO ?_; intro _ _ _; clear hO
  (with_reducible rename Stt _ _ _ => hO); refine st_local hO (by with_reducible assumption) (by walk_at "upd") (by walk_at "put") ?_; intro _ _; clear hO
  with_reducible refine wpAny_execs_cons ?_
  rename_i H
  refine wpAny_While (codeAny_whileLoop (fun k s => ∃ (b : List Nat) (vs : List Value) (c : Addr) (u : Tok), k < 65536 ∧ figs k ++ b = figs n.natAbs ∧ IntsAre vs (iv b) ∧
    Stt z s ((c, Lst vs) :: (Lf, Fra ["number", "figures", "size"] [some (.int n t), some (.ref c), some (.int (k : Int) u)]) :: L)) ?_ n.natAbs ⟨[], [], _, _, hn, by simp, IntsAre.nil, H⟩)
  clear H
  intro k s ⟨b, vs, c, u, hk, hw, hi, H⟩
  have hlen : vs.length ≤ 4 := by
    have h1 := congrArg List.length hw
    rw [List.length_append] at h1
    have h2 := figs_len (n := n.natAbs) 4 hn
    have h3 := hi.length
    simp [iv] at h3
    omega
  with_reducible refine wpAny_isTrue_Compare1 ?_ (by with_unfolding_all rfl)
  refine n_local (by with_reducible assumption) (by with_reducible assumption) (by walk_at "mem") (by walk_at "loc") ?_
  (with_reducible rename Stt _ _ _ => hO); with_reducible refine c_int hO ?_; intro _ _ _; clear hO
  refine PyProof.Rows.gt_int ?_
  with_reducible refine wpAny_truthy_bool ?_
  by_cases h0 : k = 0
  · subst h0
    rw [if_neg (by simp)]
    with_reducible refine wpAny_execs_nil ?_
    with_reducible refine wpAny_execs_cons ?_
    with_reducible refine wpAny_Return_some ?_
    refine n_local (by with_reducible assumption) (by with_reducible assumption) (by walk_at "mem") (by walk_at "loc") ?_
    rw [figs_zero, List.nil_append] at hw
    subst hw
    exact h _ _ _ hi (Stt.out (by assumption) (.tail .head))
  · rw [if_pos (by simp; omega)]
    with_reducible refine wpAny_execs_cons ?_
    with_reducible refine wpAny_Assign_Name ?_ rfl
    with_reducible refine wpAny_BinOp ?_
    with_reducible refine x_List ?_
    with_reducible refine spliced_more ?_ rfl
    with_reducible refine wpAny_BinOp ?_
    refine n_local (by with_reducible assumption) (by with_reducible assumption) (by walk_at "mem") (by walk_at "loc") ?_
    (with_reducible rename Stt _ _ _ => hO); with_reducible refine c_int hO ?_; intro _ _ _; clear hO
    refine i_modN 16 rfl (by decide) (by assumption) ?_
    intro _ _ _
    with_reducible refine spliced_none ?_
    refine ⟨by exact Nat.le_of_ble_eq_true rfl, ?_⟩
    (with_reducible rename Stt _ _ _ => hO); with_reducible refine al_list hO ?_; intro _ _ _; clear hO
    refine n_local (by with_reducible assumption) (by with_reducible assumption) (by walk_at "mem") (by walk_at "loc") ?_
    refine l_add (by assumption) (by walk_at "mem") (by walk_at "mem") (by simp [sizeLine]; omega) ?_
    intro _ _ _
    (with_reducible rename Stt _ _ _ => hO); refine st_local hO (by with_reducible assumption) (by walk_at "upd") (by walk_at "put") ?_; intro _ _; clear hO
    with_reducible refine wpAny_execs_cons ?_
    with_reducible refine wpAny_Assign_Name ?_ rfl
    with_reducible refine wpAny_BinOp ?_
    refine n_local (by with_reducible assumption) (by with_reducible assumption) (by walk_at "mem") (by walk_at "loc") ?_
    (with_reducible rename Stt _ _ _ => hO); with_reducible refine c_int hO ?_; intro _ _ _; clear hO
    refine i_divN 16 rfl (by decide) (by decide) (by assumption) ?_
    intro _ _ _
    (with_reducible rename Stt _ _ _ => hO); refine st_local hO (by with_reducible assumption) (by walk_at "upd") (by walk_at "put") ?_; intro _ _; clear hO
    with_reducible refine wpAny_execs_nil ?_
    refine ⟨k / 16, by omega, k % 16 :: b, _, _, _, by omega, ?_, .cons _ _ hi, Stt.out (Stt.out (by assumption) (.tail .head)) (.tail .head)⟩
    rw [← hw, figs_pos h0, List.append_assoc]; rfl

end
section
/-! ## A comprehension's own names -/
theorem closure_go (env : Env) : ∀ (names : List (Str × NameKind)) (cs acc : List (Str × Addr)), (∀ p ∈ cs, env.cells.lookup p.1 = some p.2) → (names.filter (·.2 == .free)).map (·.1) = cs.map (·.1) →
    (forIn names acc fun (x : Str × NameKind) (r : List (Str × Addr)) => match x with
      | (name, kind) => if (kind == .free) = true then do let c ← cellOf env name; pure (ForInStep.yield ((name, c) :: r)) else pure (ForInStep.yield r) : Sem _) = pure (cs.reverse ++ acc)
  | [], cs, acc, _, h => by
    cases cs with
    | nil => rfl
    | cons c cs => simp at h
  | (n, k) :: names, cs, acc, hc, h => by
    rw [List.forIn_cons]
    by_cases hk : (k == .free) = true
    · rw [List.filter_cons, if_pos hk] at h
      cases cs with
      | nil => simp at h
      | cons c cs =>
        rw [List.map_cons, List.map_cons, List.cons.injEq] at h
        have hn : n = c.1 := h.1
        have hl := hc c List.mem_cons_self
        have : cellOf env n = pure c.2 := by unfold cellOf; rw [hn, hl]
        simp only [hk, if_true, this, pure_bind]
        rw [closure_go env names cs _ (fun p hp => hc p (List.mem_cons_of_mem _ hp)) h.2, List.reverse_cons, List.append_assoc]
        subst hn; rfl
    · rw [List.filter_cons, if_neg hk] at h
      simp only [hk, pure_bind]
      exact closure_go env names cs acc hc h
theorem closure_of {env : Env} {scope : Scope} (cs : List (Str × Addr)) (hc : ∀ p ∈ cs, env.cells.lookup p.1 = some p.2) (h : (scope.names.filter (·.2 == .free)).map (·.1) = cs.map (·.1)) : closureFor scope env = pure cs.reverse := by
  have := closure_go env scope.names cs [] hc h
  rw [List.append_nil] at this
  rw [← this]; unfold closureFor; dsimp only; rw [bind_pure]
theorem lookup_relabel {env : Env} : ∀ {names : List (Str × NameKind)} {x : Str} {k : NameKind}, names.lookup x = some k →
    (names.map fun (n, k) => if (k == NameKind.free && env.scope.kind == .function && env.kindOf n == some .cell) then (n, NameKind.cell) else (n, k)).lookup x = some (if (k == NameKind.free && env.scope.kind == .function && env.kindOf x == some .cell) = true then .cell else k)
  | [], _, _, h => by simp at h
  | (n, k') :: r, x, k, h => by
    have ih := @lookup_relabel env r x k
    show List.lookup x ((if (k' == NameKind.free && env.scope.kind == .function && env.kindOf n == some .cell) = true then (n, NameKind.cell) else (n, k')) :: _) = _
    cases hx : x == n with
    | true =>
      simp only [List.lookup_cons, hx] at h
      have hkk : k' = k := Option.some.inj h
      rw [hkk]
      have : x = n := by simpa using hx
      subst this
      by_cases hc : (k == NameKind.free && env.scope.kind == .function && env.kindOf x == some .cell) = true
      · rw [if_pos hc, if_pos hc]; simp only [List.lookup_cons, hx]
      · rw [if_neg hc, if_neg hc]; simp only [List.lookup_cons, hx]
    | false =>
      simp only [List.lookup_cons, hx] at h
      by_cases hc : (k' == NameKind.free && env.scope.kind == .function && env.kindOf n == some .cell) = true
      · rw [if_pos hc]; simp only [List.lookup_cons, hx]; exact ih h
      · rw [if_neg hc]; simp only [List.lookup_cons, hx]; exact ih h
theorem compE {env : Env} {Lf : Addr} {ls gs₀ : List Str} {cs₀ : List (Str × Addr)} (he : EnvIs env Lf ls gs₀ cs₀) {scope : Scope} {xs gs : List Str} {cs cl : List (Str × Addr)} (hk : scope.kind = .function) (hnd : xs.Nodup) (hx : ∀ x ∈ xs, scope.names.lookup x = some .local)
    (hg : ∀ y ∈ gs, scope.names.lookup y = some .globalImplicit) (hc : ∀ p ∈ cs, p ∈ cs₀ ∧ scope.names.lookup p.1 = some .free ∧ cl.lookup p.1 = some p.2) (C : Addr) : EnvIs (compEnvC scope cl C env) C xs gs cs where
  locals := rfl
  kind := hk
  nd := hnd
  loc x h := by show (relabel scope env).names.lookup x = _; exact lookup_relabel_local (hx x h)
  glo x h := by show (relabel scope env).names.lookup x = _; exact lookup_relabel (hg x h)
  cel p h := by
    obtain ⟨h1, h2, h3⟩ := hc p h
    refine ⟨?_, h3⟩
    show (relabel scope env).names.lookup p.1 = _
    refine (lookup_relabel h2).trans ?_
    rw [if_pos]
    rw [he.kind, (he.cel p h1).1]; rfl
  globals := he.globals
  builtins := he.builtins
theorem tests_nil {prog : Program} {w : World} {A : Around} {cenv : Env} {s : Shared} {Q : Bool → Shared → Prop} {E : Value → Shared → Prop} (h : Q true s) : wpAny (model prog w) A (testsOf [] cenv) Q E s := wpAny_pure h
theorem tests_one {prog : Program} {w : World} {A : Around} {cenv : Env} {s : Shared} {c : Expr} {Q : Bool → Shared → Prop} {E : Value → Shared → Prop} (h : wpAny (model prog w) A (isTrue c cenv (eval c cenv)) Q E s) : wpAny (model prog w) A (testsOf [c] cenv) Q E s := by
  unfold testsOf
  rw [List.forIn_cons, if_pos rfl]
  refine wpAny_bind (wpAny_bind (wpAny_mono h (fun b s' hb => wpAny_pure ?_) fun _ _ e => e))
  exact wpAny_pure hb
/-- the sizes that a number's size leads to -/
noncomputable def beg (n : Nat) : List Nat := if h : n = 0 then [] else n / 16 :: beg (n / 16)
termination_by n
decreasing_by omega
theorem beg_zero : beg 0 = [] := by rw [beg]; rfl
theorem beg_pos {n : Nat} (h : n ≠ 0) : beg n = n / 16 :: beg (n / 16) := by rw [beg, dif_neg h]
theorem beg_len {n : Nat} : ∀ k, n < 16 ^ k → (beg n).length ≤ k := by
  intro k
  induction k generalizing n with
  | zero => intro h; have : n = 0 := by omega
            subst this; simp [beg_zero]
  | succ k ih =>
    intro h
    by_cases h0 : n = 0
    · subst h0; simp [beg_zero]
    · rw [beg_pos h0, List.length_cons]
      have := ih (n := n / 16) (by rw [Nat.pow_succ] at h; omega)
      omega
theorem iv_any (l : List Nat) (m : Nat) : (iv l).any (· == (m : Int)) = l.contains m := by
  induction l with
  | nil => rfl
  | cons a l ih =>
    rw [iv, List.map_cons, List.any_cons, List.contains_cons, ← ih, iv]
    congr 1
    rw [Bool.eq_iff_iff]; simp; omega
theorem IntsAre.getI : ∀ {vs : List Value} {ns : List Int} {i : Nat} {v : Value}, IntsAre vs ns → vs[i]? = some v → ∃ n t, v = .int n t ∧ ns[i]? = some n
  | _, _, i, v, .nil, h => by simp at h
  | _, _, 0, v, .cons n t r, h => by simp at h; exact ⟨_, _, h.symm, rfl⟩
  | _, _, i + 1, v, .cons n t r, h => by simp at h; simpa using IntsAre.getI r h

theorem beginnings {w : World} {mg mb : Str → Option Value} {prog : Program} {A : Around} {z s : Shared} {L : Led} {R : Result → Shared → Prop} {n : Int} {t : Tok} {l : Addr} {xs : List Value} {ns : List Int}
    (G : Gd w mg mb z.heap) (H : Stt z s L) (hA : A.depth ≤ 800) (hh : A.handled = none) (hn : n.natAbs < 65536) (hm : (l, Lst xs) ∈ L) (hi : IntsAre xs ns) (hz : xs.length ≤ 100)
    (h : ∀ s' c vs, vs.length = (ns.filter fun m => (beg n.natAbs).contains m.natAbs).length → Stt z s' ((c, Lst vs) :: L) → R (.ok (.ret (.ref c))) s') :
    codeAny (model prog w) A (.call (.ref 172) ⟨[.int n t, .ref l], []⟩) R s := by
  refine call_fnC1 (ps := ["number", "numbers"]) (rest := ["size"]) (names := ["number", "numbers", "size"]) (vals := [some (.int n t), some (.ref l), none]) (gs := ["abs"]) (cn := "sizes") G H (by k_is) (by k_is) (by show _ < 1000; omega) rfl rfl rfl rfl rfl (by decide) (fun _ => rfl) rfl (all_mem rfl) (all_mem rfl) rfl rfl rfl (by decide) ?_
  clear H
  intro env Lf cS s he hfr H
  with_reducible refine wpAny_execs_cons ?_
  with_reducible refine wpAny_Assign_Name ?_ rfl
  with_reducible refine x_List ?_
  with_reducible refine spliced_none ?_
  refine ⟨by exact Nat.le_of_ble_eq_true rfl, ?_⟩
  (with_reducible rename Stt _ _ _ => hO); with_reducible refine al_list hO ?_; intro _ _ _; clear hO
  (with_reducible rename Stt _ _ _ => hO); refine st_cell hO (by with_reducible assumption) (by walk_at "mem") (by walk_at "upd") ?_; intro _ _; clear hO
  with_reducible refine wpAny_execs_cons ?_
  with_reducible refine wpAny_Assign_Name ?_ rfl
  with_reducible refine wpAny_Call_NameR ?_
  refine n_built (by with_reducible assumption) (by with_reducible assumption) (by with_reducible assumption) (by walk_at "mem") (Gd.noglob (by with_reducible assumption) (by k_is)) (by boot_by_name) (by decide) ?_
  with_reducible refine callWith_builtin1 ?_ rfl rfl
  with_reducible refine spliced_more ?_ rfl
  refine n_local (by with_reducible assumption) (by with_reducible assumption) (by walk_at "mem") (by walk_at "loc") ?_
  with_reducible refine spliced_none ?_
  (with_reducible rename Stt _ _ _ => hO); with_reducible refine i_abs hO ?_; intro _ _ _; clear hO
  (with_reducible rename Stt _ _ _ => hO); refine st_local hO (by with_reducible assumption) (by walk_at "upd") (by walk_at "put") ?_; intro _ _; clear hO
  with_reducible refine wpAny_execs_cons ?_
  rename_i H
  refine wpAny_While (codeAny_whileLoop (fun k s => ∃ (b : List Nat) (vs : List Value) (c : Addr) (u : Tok), k < 65536 ∧ b ++ beg k = beg n.natAbs ∧ IntsAre vs (iv b) ∧
    Stt z s ((c, Lst vs) :: (Lf, Fra ["number", "numbers", "size"] [some (.int n t), some (.ref l), some (.int (k : Int) u)]) :: (cS, Cel (some (.ref c))) :: L)) ?_ n.natAbs ⟨[], [], _, _, hn, by simp, IntsAre.nil, H⟩)
  clear H
  intro k s ⟨b, vs, c, u, hk, hw, hvi, H⟩
  have hlen : vs.length ≤ 4 := by
    have h1 := congrArg List.length hw
    rw [List.length_append] at h1
    have h2 := beg_len (n := n.natAbs) 4 hn
    have h3 := hvi.length
    simp [iv] at h3
    omega
  with_reducible refine wpAny_isTrue_Compare1 ?_ (by with_unfolding_all rfl)
  refine n_local (by with_reducible assumption) (by with_reducible assumption) (by walk_at "mem") (by walk_at "loc") ?_
  (with_reducible rename Stt _ _ _ => hO); with_reducible refine c_int hO ?_; intro _ _ _; clear hO
  refine PyProof.Rows.gt_int ?_
  with_reducible refine wpAny_truthy_bool ?_
  by_cases h0 : k = 0
  · subst h0
    rw [if_neg (by simp)]
    rw [beg_zero, List.append_nil] at hw
    subst hw
    with_reducible refine wpAny_execs_nil ?_
    with_reducible refine wpAny_execs_cons ?_
    with_reducible refine wpAny_Return_some ?_
    refine comp_list (z := z) (gs := ["abs"]) (cs := [("sizes", cS)]) (closure_of [("sizes", cS)] (fun p hp => (he.cel p hp).2) rfl) (by decide) rfl (by decide) (compE he rfl (by decide) (all_mem rfl) (all_mem rfl) ?_) ?_
    · intro p hp; rw [List.mem_singleton] at hp; subst hp; exact ⟨List.mem_cons_self, rfl, by simp [List.lookup]⟩
    refine n_local (by with_reducible assumption) (by with_reducible assumption) (by walk_at "mem") (by walk_at "loc") ?_
    rename_i H
    refine it_list H (List.mem_cons_of_mem _ (List.mem_cons_of_mem _ (List.mem_cons_of_mem _ hm))) ?_
    clear H
    intro it s H
    refine ⟨it, _, _, xs, fun i ys => ys.length = ((ns.take i).filter fun m => (beg n.natAbs).contains m.natAbs).length, rfl, H, itr_list hh (List.mem_cons_of_mem _ (List.mem_cons_of_mem _ (List.mem_cons_of_mem _ hm))), by simp [sizeLine]; omega, by simp, ?_, ?_⟩
    · intro cenv C acc i v ys s he' hx hJ H
      obtain ⟨m, tm, rfl, hm'⟩ := IntsAre.getI hi hx
      have hlt : i < ns.length := by
        rcases Nat.lt_or_ge i ns.length with q | q
        · exact q
        · rw [List.getElem?_eq_none q] at hm'; cases hm'
      have htk : ns.take (i + 1) = ns.take i ++ [m] := by rw [List.take_succ, hm']; rfl
      refine tests_one ?_
      with_reducible refine wpAny_isTrue_Compare1 ?_ (by with_unfolding_all rfl)
      with_reducible refine wpAny_Call_NameR ?_
      refine n_built (by with_reducible assumption) (by with_reducible assumption) (by with_reducible assumption) (by walk_at "mem") (Gd.noglob (by with_reducible assumption) (by k_is)) (by boot_by_name) (by decide) ?_
      with_reducible refine callWith_builtin1 ?_ rfl rfl
      with_reducible refine spliced_more ?_ rfl
      refine n_local (by with_reducible assumption) (by with_reducible assumption) (by walk_at "mem") (by walk_at "loc") ?_
      with_reducible refine spliced_none ?_
      (with_reducible rename Stt _ _ _ => hO); with_reducible refine i_abs hO ?_; intro _ _ _; clear hO
      refine n_cell (by with_reducible assumption) (by with_reducible assumption) (by walk_at "mem") (by walk_at "mem") ?_
      refine l_in (by assumption) (by walk_at "mem") hvi ?_
      with_reducible refine wpAny_truthy_bool ?_
      rw [iv_any]
      cases hc : (beg n.natAbs).contains m.natAbs with
      | true =>
        rw [if_pos rfl]
        refine n_local (by with_reducible assumption) (by with_reducible assumption) (by walk_at "mem") (by walk_at "loc") ?_
        refine ⟨by assumption, ?_⟩
        dsimp only
        rw [htk, List.filter_append, List.length_append, List.length_append, hJ, List.filter_cons, if_pos hc]; rfl
      | false =>
        rw [if_neg Bool.false_ne_true]
        refine ⟨by assumption, ?_⟩
        dsimp only
        rw [htk, List.filter_append, List.length_append, hJ, List.filter_cons, if_neg (by rw [hc]; exact Bool.false_ne_true)]; rfl
    · intro D ys s' hJ H
      rw [show xs.length = ns.length from hi.length, List.take_length] at hJ
      exact h _ _ _ hJ (Stt.out (Stt.out (Stt.out H (.tail .head)) (.tail .head)) (.tail .head))
  · rw [if_pos (by simp; omega)]
    with_reducible refine wpAny_execs_cons ?_
    with_reducible refine wpAny_Assign_Name ?_ rfl
    with_reducible refine wpAny_BinOp ?_
    refine n_local (by with_reducible assumption) (by with_reducible assumption) (by walk_at "mem") (by walk_at "loc") ?_
    (with_reducible rename Stt _ _ _ => hO); with_reducible refine c_int hO ?_; intro _ _ _; clear hO
    refine i_divN 16 rfl (by decide) (by decide) (by assumption) ?_
    intro _ _ _
    (with_reducible rename Stt _ _ _ => hO); refine st_local hO (by with_reducible assumption) (by walk_at "upd") (by walk_at "put") ?_; intro _ _; clear hO
    with_reducible refine wpAny_execs_cons ?_
    refine x_Expr (by with_reducible assumption) ?_ rfl
    refine MethodCall_ ?_ rfl
    refine n_cell (by with_reducible assumption) (by with_reducible assumption) (by walk_at "mem") (by walk_at "mem") ?_
    refine gm_append (by with_reducible assumption) (by walk_at "mem") ?_
    with_reducible refine callWith_method1 ?_ rfl rfl
    with_reducible refine spliced_more ?_ rfl
    refine n_local (by with_reducible assumption) (by with_reducible assumption) (by walk_at "mem") (by walk_at "loc") ?_
    with_reducible refine spliced_none ?_
    refine l_append (by assumption) (by walk_at "upd") (by simp [sizeLine]; omega) ?_
    intro _ _
    with_reducible refine wpAny_execs_nil ?_
    refine ⟨k / 16, by omega, b ++ [k / 16], _, _, _, by omega, ?_, ?_, by assumption⟩
    · rw [← hw, beg_pos h0, List.append_assoc]; rfl
    · simpa [iv] using hvi.append (IntsAre.cons _ _ IntsAre.nil)

end
section
/-! ## _law_numbers -/
structure Known (ds : List Int) : Prop where
  small : ∀ d ∈ ds, d.natAbs < 65536
  nd : (ds.map Int.natAbs).Nodup
  five : 5 ≤ ds.length
theorem known0 : Known [1, 26, 419, 7, 6715] := ⟨by decide, by decide, by decide⟩
theorem Known.snoc {ds : List Int} {x : Int} (h : Known ds) (h1 : x.natAbs < 65536) (h2 : ∀ d ∈ ds, d.natAbs ≠ x.natAbs) : Known (ds ++ [x]) := by
  refine ⟨fun d hd => ?_, ?_, by rw [List.length_append]; exact Nat.le_trans h.five (Nat.le_add_right _ _)⟩
  · rcases List.mem_append.mp hd with q | q
    · exact h.small d q
    · rw [List.mem_singleton] at q; subst q; exact h1
  · rw [List.map_append, List.nodup_append]
    refine ⟨h.nd, by simp, fun a ha b hb e => ?_⟩
    obtain ⟨d, hd, rfl⟩ := List.mem_map.mp ha
    simp at hb; subst hb
    exact h2 d hd e
theorem i_neg {w : World} {prog : Program} {A : Around} {E : Value → Shared → Prop} {z s : Shared} {L : Led} {Q : Value → Shared → Prop} {a : Int} {t : Tok} (H : Stt z s L) (h : ∀ s' t, Stt z s' L → Q (.int (-a) t) s') : wpAny (model prog w) A (unaryOp .USub (.int a t)) Q E s :=
  PyProof.Rows.neg_int (h _ _ (H.tok _))
theorem numbers {w : World} {mg mb : Str → Option Value} {prog : Program} {A : Around} {z s : Shared} {L : Led} {R : Result → Shared → Prop} {l : Addr} {xs : List Value} {ns : List Int}
    (G : Gd w mg mb z.heap) (H : Stt z s L) (hA : A.depth ≤ 800) (hh : A.handled = none) (hm : (l, Lst xs) ∈ L) (hi : IntsAre xs ns) (hz : xs.length ≤ 7)
    (h : ∀ s' c vs ds, IntsAre vs ds → Known ds → ds.length ≤ 12 → Stt z s' ((c, Lst vs) :: L) → R (.ok (.ret (.ref c))) s') :
    codeAny (model prog w) A (.call (.ref 160) ⟨[.ref l], []⟩) R s := by
  refine call_fn (ps := ["numbers"]) (rest := ["drawn", "x", "size"]) (names := ["numbers", "drawn", "x", "size"]) (vals := [some (.ref l), none, none, none]) (gs := ["abs"]) G H (by k_is) (by k_is) (by show _ < 1000; omega) rfl (BindsTo.of_eq rfl) rfl rfl rfl (by decide) (by decide) (all_mem rfl) (all_mem rfl) rfl rfl ?_
  clear H
  intro env Lf s he hfr H
  with_reducible refine wpAny_execs_cons ?_
  with_reducible refine wpAny_Assign_Name ?_ rfl
  with_reducible refine x_List ?_
  with_reducible refine spliced_more ?_ rfl
  (with_reducible rename Stt _ _ _ => hO); with_reducible refine c_int hO ?_; intro _ _ _; clear hO
  with_reducible refine spliced_more ?_ rfl
  (with_reducible rename Stt _ _ _ => hO); with_reducible refine c_int hO ?_; intro _ _ _; clear hO
  with_reducible refine spliced_more ?_ rfl
  (with_reducible rename Stt _ _ _ => hO); with_reducible refine c_int hO ?_; intro _ _ _; clear hO
  with_reducible refine spliced_more ?_ rfl
  (with_reducible rename Stt _ _ _ => hO); with_reducible refine c_int hO ?_; intro _ _ _; clear hO
  with_reducible refine spliced_more ?_ rfl
  (with_reducible rename Stt _ _ _ => hO); with_reducible refine c_int hO ?_; intro _ _ _; clear hO
  with_reducible refine spliced_none ?_
  refine ⟨by exact Nat.le_of_ble_eq_true rfl, ?_⟩
  (with_reducible rename Stt _ _ _ => hO); with_reducible refine al_list hO ?_; intro _ _ _; clear hO
  (with_reducible rename Stt _ _ _ => hO); refine st_local hO (by with_reducible assumption) (by walk_at "upd") (by walk_at "put") ?_; intro _ _; clear hO
  with_reducible refine wpAny_execs_cons ?_
  rename_i d _ s H
  refine wpAny_For ?_
  refine n_local (by with_reducible assumption) (by with_reducible assumption) (by walk_at "mem") (by walk_at "loc") ?_
  refine it_list H (List.mem_cons_of_mem _ (List.mem_cons_of_mem _ hm)) ?_
  clear H
  intro it s H
  refine codeAny_forLoop (fun k s => ∃ (i : Nat) (ds : List Int) (vs : List Value) (vx vz : Option Value), i + k = xs.length ∧ ds.length ≤ 5 + i ∧ IntsAre vs ds ∧ Known ds ∧
    Stt z s ((it, LIt l i) :: (d, Lst vs) :: (Lf, Fra ["numbers", "drawn", "x", "size"] [some (.ref l), some (.ref d), vx, vz]) :: L)) ?_ xs.length ⟨0, _, _, none, none, by omega, Nat.le_refl _, .cons _ _ (.cons _ _ (.cons _ _ (.cons _ _ (.cons _ _ .nil)))), known0, H⟩
  clear H
  intro k s ⟨i, ds, vs, vx, vz, hk, hd, hvi, hK, H⟩
  have hlv := hvi.length
  by_cases hlt : i < xs.length
  · obtain ⟨v, hv⟩ : ∃ v, xs[i]? = some v := ⟨_, List.getElem?_eq_getElem hlt⟩
    obtain ⟨m, tm, rfl, hm'⟩ := IntsAre.getI hi hv
    refine nx_list H .head (List.mem_cons_of_mem _ (List.mem_cons_of_mem _ (List.mem_cons_of_mem _ hm))) hv ?_
    clear H
    intro s H
    dsimp only
    with_reducible refine wpAny_assign_Name ?_
    (with_reducible rename Stt _ _ _ => hO); refine st_local hO (by with_reducible assumption) (by walk_at "upd") (by walk_at "put") ?_; intro _ _; clear hO
    with_reducible refine wpAny_execs_cons ?_
    with_reducible refine wpAny_Assign_Name ?_ rfl
    with_reducible refine wpAny_BinOp ?_
    with_reducible refine wpAny_Call_NameR ?_
    refine n_built (by with_reducible assumption) (by with_reducible assumption) (by with_reducible assumption) (by walk_at "mem") (Gd.noglob (by with_reducible assumption) (by k_is)) (by boot_by_name) (by decide) ?_
    with_reducible refine callWith_builtin1 ?_ rfl rfl
    with_reducible refine spliced_more ?_ rfl
    refine n_local (by with_reducible assumption) (by with_reducible assumption) (by walk_at "mem") (by walk_at "loc") ?_
    with_reducible refine spliced_none ?_
    (with_reducible rename Stt _ _ _ => hO); with_reducible refine i_abs hO ?_; intro _ _ _; clear hO
    (with_reducible rename Stt _ _ _ => hO); with_reducible refine c_int hO ?_; intro _ _ _; clear hO
    refine i_modN 65536 rfl (by decide) (by assumption) ?_
    intro _ _ _
    (with_reducible rename Stt _ _ _ => hO); refine st_local hO (by with_reducible assumption) (by walk_at "upd") (by walk_at "put") ?_; intro _ _; clear hO
    with_reducible refine wpAny_execs_cons ?_
    with_reducible refine wpAny_If ?_
    with_reducible refine wpAny_isTrue_Compare1 ?_ (by with_unfolding_all rfl)
    refine n_local (by with_reducible assumption) (by with_reducible assumption) (by walk_at "mem") (by walk_at "loc") ?_
    refine comp_list (z := z) (gs := ["abs"]) (cs := []) (closure_of [] (fun p hp => by simp at hp) rfl) (by decide) rfl (by decide) (compE he rfl (by decide) (all_mem rfl) (all_mem rfl) (fun p hp => by simp at hp)) ?_
    refine n_local (by with_reducible assumption) (by with_reducible assumption) (by walk_at "mem") (by walk_at "loc") ?_
    rename_i H
    refine it_list H (by walk_at "mem") ?_
    clear H
    intro it2 s H
    refine ⟨it2, _, _, vs, fun i ys => IntsAre ys (iv ((ds.take i).map Int.natAbs)), rfl, H, itr_list hh (by walk_at "mem"), by simp [sizeLine]; omega, by simpa [iv] using IntsAre.nil, ?_, ?_⟩
    · intro cenv C acc j v ys s he' hx hJ H
      obtain ⟨m, tm, rfl, hm'⟩ := IntsAre.getI hvi hx
      refine tests_nil ?_
      rw [if_pos rfl]
      with_reducible refine wpAny_Call_NameR ?_
      refine n_built (by with_reducible assumption) (by with_reducible assumption) (by with_reducible assumption) (by walk_at "mem") (Gd.noglob (by with_reducible assumption) (by k_is)) (by boot_by_name) (by decide) ?_
      with_reducible refine callWith_builtin1 ?_ rfl rfl
      with_reducible refine spliced_more ?_ rfl
      refine n_local (by with_reducible assumption) (by with_reducible assumption) (by walk_at "mem") (by walk_at "loc") ?_
      with_reducible refine spliced_none ?_
      (with_reducible rename Stt _ _ _ => hO); with_reducible refine i_abs hO ?_; intro _ _ _; clear hO
      refine ⟨by assumption, ?_⟩
      dsimp only
      rw [List.take_add_one, hm', List.map_append]
      simpa [iv] using hJ.append (IntsAre.cons _ _ IntsAre.nil)
    · clear H
      intro D ys s' hJ H
      rw [show vs.length = ds.length from hlv, List.take_length] at hJ
      refine l_notin (by assumption) (by walk_at "mem") hJ ?_
      rw [iv_any]
      with_reducible refine wpAny_truthy_bool ?_
      cases hc : (ds.map Int.natAbs).contains (m.natAbs % 65536) with
      | true =>
        rw [if_neg (by simp)]
        with_reducible refine wpAny_execs_nil ?_
        with_reducible refine wpAny_execs_nil ?_
        exact ⟨k - 1, by omega, i + 1, ds, vs, _, _, by omega, by omega, hvi, hK, Stt.out H .head⟩
      | false =>
        rw [if_pos (by simp)]
        have hne : ∀ d ∈ ds, d.natAbs ≠ m.natAbs % 65536 := by
          intro d hd' e
          have : (ds.map Int.natAbs).contains (m.natAbs % 65536) = true := by
            rw [List.contains_iff_mem]; exact List.mem_map.mpr ⟨d, hd', e⟩
          rw [hc] at this; cases this
        with_reducible refine wpAny_execs_cons ?_
        refine x_Expr (by with_reducible assumption) ?_ rfl
        refine MethodCall_ ?_ rfl
        refine n_local (by with_reducible assumption) (by with_reducible assumption) (by walk_at "mem") (by walk_at "loc") ?_
        refine gm_append (by with_reducible assumption) (by walk_at "mem") ?_
        with_reducible refine callWith_method1 ?_ rfl rfl
        with_reducible refine spliced_more ?_ rfl
        with_reducible refine IfExp_ ?_
        with_reducible refine wpAny_isTrue_Compare1 ?_ (by with_unfolding_all rfl)
        refine n_local (by with_reducible assumption) (by with_reducible assumption) (by walk_at "mem") (by walk_at "loc") ?_
        (with_reducible rename Stt _ _ _ => hO); with_reducible refine c_int hO ?_; intro _ _ _; clear hO
        refine PyProof.Rows.ge_int ?_
        with_reducible refine wpAny_truthy_bool ?_
        by_cases hp : (0 : Int) ≤ m
        · rw [if_pos (by simpa using hp)]
          refine n_local (by with_reducible assumption) (by with_reducible assumption) (by walk_at "mem") (by walk_at "loc") ?_
          with_reducible refine spliced_none ?_
          refine l_append (by assumption) (by walk_at "upd") (by simp [sizeLine]; omega) ?_
          intro _ _
          with_reducible refine wpAny_execs_nil ?_
          with_reducible refine wpAny_execs_nil ?_
          rename_i H
          refine ⟨k - 1, by omega, i + 1, ds ++ [((m.natAbs % 65536 : Nat) : Int)], _, _, _, by omega, ?_, hvi.append (.cons _ _ .nil), hK.snoc (by omega) (fun d hd e => hne d hd (by omega)), Stt.out H .head⟩
          rw [List.length_append, List.length_singleton]; omega
        · rw [if_neg (by simpa using hp)]
          with_reducible refine UnaryOp_ ?_
          refine n_local (by with_reducible assumption) (by with_reducible assumption) (by walk_at "mem") (by walk_at "loc") ?_
          refine i_neg (by assumption) ?_
          intro _ _ _
          with_reducible refine spliced_none ?_
          refine l_append (by assumption) (by walk_at "upd") (by simp [sizeLine]; omega) ?_
          intro _ _
          with_reducible refine wpAny_execs_nil ?_
          with_reducible refine wpAny_execs_nil ?_
          rename_i H
          refine ⟨k - 1, by omega, i + 1, ds ++ [-((m.natAbs % 65536 : Nat) : Int)], _, _, _, by omega, ?_, hvi.append (.cons _ _ .nil), hK.snoc (by omega) (fun d hd e => hne d hd (by omega)), Stt.out H .head⟩
          rw [List.length_append, List.length_singleton]; omega
  · refine nx_list_end hh H .head (List.mem_cons_of_mem _ (List.mem_cons_of_mem _ (List.mem_cons_of_mem _ hm))) (List.getElem?_eq_none (by omega)) ?_
    clear H
    intro s H
    dsimp only
    with_reducible refine wpAny_execs_nil ?_
    with_reducible refine wpAny_execs_cons ?_
    with_reducible refine wpAny_Return_some ?_
    refine n_local (by with_reducible assumption) (by with_reducible assumption) (by walk_at "mem") (by walk_at "loc") ?_
    exact h _ _ _ _ hvi hK (by omega) (Stt.out H (.tail .head))

end
section
/-! ## Instances and their attributes -/
noncomputable def Ins (C dx : Addr) (sl : Array (Option Value)) : Pr := fun o => o = ⟨.ref C, some dx, .plain, sl⟩
inductive AtrIs : List DictEntry → List (Str × Value) → Prop
  | nil : AtrIs [] []
  | cons {es : List DictEntry} {kv : List (Str × Value)} {h : Int} {n : Str} {t : Tok} {v : Value} : AtrIs es kv → AtrIs (⟨h, .str n t, v⟩ :: es) ((n, v) :: kv)
noncomputable def Atr (kv : List (Str × Value)) : Pr := fun o => ∃ es n, o = dictOf es n ∧ AtrIs es kv
noncomputable def kput (name : Str) (v : Value) : List (Str × Value) → List (Str × Value)
  | [] => [(name, v)]
  | (n, u) :: r => if n = name then (n, v) :: r else (n, u) :: kput name v r
theorem AtrIs.get {es : List DictEntry} {kv : List (Str × Value)} (h : AtrIs es kv) (name : Str) : getL name es = some (kv.lookup name) := by
  induction h with
  | nil => rfl
  | @cons es kv hh n t v h ih =>
    unfold getL at ih ⊢
    rw [List.find?_cons, List.lookup_cons]
    by_cases e : name = n
    · subst e; simp [Value.isStr]
    · have h1 : (Value.str n t).isStr name = false := by simp [Value.isStr, Ne.symm e]
      have h2 : (name == n) = false := by simp [e]
      simp only [h1, h2]
      exact ih
theorem AtrIs.put {es : List DictEntry} {kv : List (Str × Value)} (h : AtrIs es kv) (name : Str) (hsh : Int) (t : Tok) (v : Value) : AtrIs (putL name hsh (.str name t) v es) (kput name v kv) := by
  induction h with
  | nil => exact .cons .nil
  | @cons es kv hh n t v' h ih =>
    unfold putL kput
    by_cases e : n = name
    · subst e
      rw [if_pos (by simp [Value.isStr]), if_pos rfl]; exact .cons h
    · rw [if_neg (by simp [Value.isStr, e]), if_neg e]; exact .cons ih
theorem AtrIs.length {es : List DictEntry} {kv : List (Str × Value)} (h : AtrIs es kv) : es.length = kv.length := by
  induction h with
  | nil => rfl
  | cons _ ih => simp [ih]
theorem Stt.change {z s : Shared} {L L' : Led} {a : Addr} {P P' : Pr} {o : Obj} {f : Obj → Obj} {t : Nat} (H : Stt z s L) (U : Upd L a P P' L') (he : s.heap.get? a = some o) (hf : (f o).isFreed = false) (hp : P' (f o)) : Stt z { s with heap := s.heap.update a f, toks := t } L' :=
  H.upd U ⟨Heap.size_update _ _ _, fun b hb => Heap.get?_update_ne _ _ _ _ hb⟩ ⟨f o, Heap.get?_update_self _ he hf, hp⟩
section
variable {w : World} {mg mb : Str → Option Value} {prog : Program} {A : Around} {E : Value → Shared → Prop} {z s : Shared} {L L' : Led} {x C dx p : Addr} {sl : Array (Option Value)} {kv : List (Str × Value)} {name : Str} {v : Value}
theorem instAt (H : Stt z s L) (hx : (x, Ins C dx sl) ∈ L) (hdx : (dx, Atr kv) ∈ L) : ∃ es n, AtrIs es kv ∧ InstAt s.heap x ⟨.ref C, some dx, .plain, sl⟩ C (some (dictOf es n)) := by
  obtain ⟨o, h1, rfl⟩ := H.get hx
  obtain ⟨o', h2, es, n, rfl, h3⟩ := H.get hdx
  exact ⟨es, n, h3, h1, rfl, rfl, h2⟩
theorem Gd.now (G : Gd w mg mb z.heap) (H : Stt z s L) : (hd.heap_1 w.params).In s.heap := G.X.keeps H.keep
theorem ga_own {expr : Bool} {Q : Value → Shared → Prop} {attr : Option Value} (G : Gd w mg mb z.heap) (H : Stt z s L) (hx : (x, Ins C dx sl) ∈ L) (hdx : (dx, Atr kv) ∈ L) (hl : kv.lookup name = some v)
    (hg : plainGet (hd.heap_1 w.params) C name = true) (hh : hasDictIn (hd.heap_1 w.params) C = true) (ha : findIn (hd.heap_1 w.params) (.ref C) name = some attr) (hn : noGet (hd.heap_1 w.params) attr = true) (hv : handedIn v = true)
    (h : ∀ s', Stt z s' L → Q v s') : wpAny (model prog w) A (getAttr (.ref x) name expr) Q E s := by
  obtain ⟨es, n, h3, I⟩ := instAt H hx hdx
  exact get_value (G.now H) I (plainGet_of hg).1 (findObj_own hh ha hn (by rw [lookIn_dict, h3.get, hl])) hv (h _ (H.tok _))
theorem gm_inst {pl : Sem Bool} {Q : Value × List Value → Shared → Prop} {f : Addr} (G : Gd w mg mb z.heap) (H : Stt z s L) (hx : (x, Ins C dx sl) ∈ L) (hdx : (dx, Atr kv) ∈ L) (hl : kv.lookup name = none)
    (hg : plainGet (hd.heap_1 w.params) C name = true) (hf : findIn (hd.heap_1 w.params) (.ref C) name = some (some (.ref f))) (ht : isFn (hd.heap_1 w.params) (.ref f) = true) (h : Q (.ref f, [.ref x]) s) :
    wpAny (model prog w) A (getMethod (.ref x) name pl) Q E s := by
  obtain ⟨es, n, h3, I⟩ := instAt H hx hdx
  exact method_fn (G.now H) I (plainGet_of hg).1 (plainGet_of hg).2 hf (beq_iff_eq.mp ht) (by show (lookIn name (dictOf es n)).map _ = _; rw [lookIn_dict, h3.get, hl]; rfl) h
theorem ga_slot {expr : Bool} {Q : Value → Shared → Prop} {i : Nat} (G : Gd w mg mb z.heap) (H : Stt z s L) (hx : (x, Ins C dx sl) ∈ L) (hdx : (dx, Atr kv) ∈ L) (hv : (sl[i]?).join = some v)
    (hg : plainGet (hd.heap_1 w.params) C name = true) (hc : isClsIn (hd.heap_1 w.params) C = true)
    (ha : findIn (hd.heap_1 w.params) (.ref C) name = some (some (.ref p))) (hn : specialIn (hd.heap_1 w.params) (.ref p) "__get__" = some (some (.builtin "member_descriptor.__get__"))) (ht : takesIn (hd.heap_1 w.params) (.ref p) = some true) (hp : slotIn (hd.heap_1 w.params) p C = some i)
    (hh : handedIn v = true) (h : ∀ s', Stt z s' L → Q v s') : wpAny (model prog w) A (getAttr (.ref x) name expr) Q E s := by
  obtain ⟨es, n, h3, I⟩ := instAt H hx hdx
  have X := G.now H
  exact get_bind X I (plainGet_of hg).1 (findObj_data hc ha hn ht) (plainGet_of hg).2 (wpAny_call (slot_get (s := { s with toks := s.toks + 1 }) X I hp hv (handed_on hh (h _ (H.tok _)))))
theorem sa_own {Q : Unit → Shared → Prop} (G : Gd w mg mb z.heap) (H : Stt z s L) (hx : (x, Ins C dx sl) ∈ L) (U : Upd L dx (Atr kv) (Atr (kput name v kv)) L') (hz : kv.length ≤ 900)
    (hs : findIn (hd.heap_1 w.params) (.ref C) "__setattr__" = some (some (.builtin "object.__setattr__"))) (hp : plainOver (hd.heap_1 w.params) C = true) (ht : takerIn (hd.heap_1 w.params) C name = some none) (hh : hasDictIn (hd.heap_1 w.params) C = true)
    (h : ∀ s', Stt z s' L' → Q () s') : wpAny (model prog w) A (setAttr (.ref x) name v) Q E s := by
  obtain ⟨es, n, h3, I⟩ := instAt H hx U.mem
  have X := G.now H
  refine set_plain X I hs (osa_open (s := { s with toks := s.toks + 1 }) X I hp ht fun b => ?_)
  obtain ⟨cd, hc, hd'⟩ := any_some hh
  obtain ⟨hx', -, -, D⟩ := I
  dsimp only at D
  have hput := putName_dict name (PyData.keyHash w.params name) (.str name (s.toks + 1)) v es n
  have hA := h3.put name (PyData.keyHash w.params name) (s.toks + 1) v
  have hlen := hA.length
  have hle : (kput name v kv).length ≤ kv.length + 1 := by
    clear hA hlen h3 U D hx' hz h hput
    induction kv with
    | nil => simp [kput]
    | cons a r ih => obtain ⟨a1, a2⟩ := a; unfold kput; split <;> simp <;> omega
  have HU : Stt z { s with heap := s.heap.update dx (Obj.putName name (PyData.keyHash w.params name) (.str name (s.toks + 1)) v), toks := s.toks + 1 + 1 } L' := by
    refine H.change U D (by rw [hput]; rfl) ?_
    rw [hput]; exact ⟨_, _, rfl, hA⟩
  have D' : (s.heap.update dx (Obj.putName name (PyData.keyHash w.params name) (.str name (s.toks + 1)) v)).get? dx = some (dictOf (putL name (PyData.keyHash w.params name) (.str name (s.toks + 1)) v es) (putN name es n)) := by
    rw [← hput]; exact Heap.get?_update_self _ D (by rw [hput]; rfl)
  refine wpAny_bind (wpAny_pure (wpAny_bind (wpAny_bind (wpAny_loadPart hx' (wpAny_bind (Looks.here (s := { s with toks := s.toks + 1 }) (looks_clsIn X hc) ?_))))))
  rw [hd']
  refine wpAny_pure (a := some dx) (wpAny_bind (wpAny_pure (wpAny_bind ?_)))
  unfold nsSet
  refine wpAny_bind (wpAny_bind (wpAny_askSetting (wpAny_pure (wpAny_bind (wpAny_mkText (wpAny_bind (wpAny_loadPart D ?_)))))))
  dsimp only
  have href : es.any (·.refKey) = false := by
    clear HU D' hput hA hlen D hle U h hz
    induction h3 with
    | nil => rfl
    | cons _ ih => rw [List.any_cons, ih]; rfl
  have c : (!es.toArray.any (·.key.isStr name) && es.toArray.any (·.refKey)) = false := by
    rw [← Array.any_toList, ← Array.any_toList, List.toList_toArray, href, Bool.and_false]
  rw [aRefKeyMayBeTheName_at, c]
  refine wpAny_updatePart D ?_
  refine wpAny_bind (wpAny_lookBehind D' (by dsimp only; exact pastItsLine_dict (by rw [List.size_toArray, sizeLine_eq]; omega)) ?_)
  exact wpAny_pure (h _ HU)
open Builtin Builtin.ObjectAttr Builtin.Getset_descriptor in
theorem sa_slot {Q : Unit → Shared → Prop} {i : Nat} (G : Gd w mg mb z.heap) (H : Stt z s L) (hdx : (dx, Atr kv) ∈ L) (U : Upd L x (Ins C dx sl) (Ins C dx ((sl ++ Array.replicate (i + 1 - sl.size) none).setIfInBounds i (some v))) L')
    (hs : findIn (hd.heap_1 w.params) (.ref C) "__setattr__" = some (some (.builtin "object.__setattr__"))) (hp : plainOver (hd.heap_1 w.params) C = true) (ht : takerIn (hd.heap_1 w.params) C name = some (some (.ref p))) (hT : typeIn (hd.heap_1 w.params) (.ref p) = some (.type "member_descriptor"))
    (hi : slotIn (hd.heap_1 w.params) p C = some i) (hz : i < 1000) (h : ∀ s', Stt z s' L' → Q () s') : wpAny (model prog w) A (setAttr (.ref x) name v) Q E s := by
  obtain ⟨es, n, h3, I⟩ := instAt H U.mem hdx
  have X := G.now H
  refine set_plain X I hs (osa_descr (s := { s with toks := s.toks + 1 }) KF.slot_mset X I hp ht hT ?_)
  obtain ⟨n, tn, owner, behind, tb, d, sl', cd, ho, hc, hm, hb, rfl⟩ := slot_of X hi
  have HU : Stt z { s with heap := s.heap.update x (fun o => { o with slots := (o.slots ++ Array.replicate (cd.slotNames.length - 1 - behind.toNat + 1 - o.slots.size) none).setIfInBounds (cd.slotNames.length - 1 - behind.toNat) (some v) }), toks := s.toks + 1 } L' :=
    H.change U I.at_ rfl rfl
  obtain ⟨hh, g, dr, t, os⟩ := s
  have L0 := I.type (M := model prog w)
  have L1 := looks_mroIn (M := model prog w) X hm
  have L2 : Looks (model prog w) hh (Slots.slotNamesOf (.ref C)) cd.slotNames := (looks_clsIn X hc).andThen .now
  have hx := I.at_
  dsimp only at ho hx L0 L1
  have f0 := looks_field (M := model prog w) ho 0 (v := .str n tn) rfl
  have f1 := looks_field (M := model prog w) ho 1 (v := owner) rfl
  have f3 := looks_field (M := model prog w) ho 3 (v := .builtin "proto.slot#set") rfl
  have f4 := looks_field (M := model prog w) ho 4 (v := .int behind tb) rfl
  refine codeAny_call_builtin KF.slot_mset.plain KF.entry_mset (KF.slot_mset.check _ _ _ _ _ _ _ _ ⟨_, ho, rfl⟩ (KF.args_mset _ _ _) ?_)
  unfold Builtin.«member_descriptor.__set__» descrSet descrStoreThrough descrCheckInstance descrNameAndClass isInstance
  have f5 : Looks (model prog w) hh (descrItself (.ref p)) [.ref p] := ((Looks.ld (part := none) ho).andThen .now).andThen (Looks.of_pure (by kernel_rfl))
  repeat lk
  refine ⟨Code.quiet_builtin _ (by decide +kernel), codeAny_builtin KF.entry_slotset ?_⟩
  unfold Builtin.«proto.slot#set» Slots.target
  repeat lk
  rw [if_neg hb]
  refine wpAny_pure (wpAny_bind ?_)
  unfold setSlotAt
  dsimp only
  rw [if_neg (by rw [sizeLine_eq]; omega)]
  exact wpAny_updatePart hx (wpAny_pure (h _ HU))
/-- a new object of a class -/
theorem mk_inst {R : Result → Shared → Prop} {rest : List Value} {fI : Addr} (G : Gd w mg mb z.heap) (H : Stt z s L) (hm : makesIn (hd.heap_1 w.params) C = true)
    (hi : findIn (hd.heap_1 w.params) (.ref C) "__init__" = some (some (.ref fI))) (hf : typeIn (hd.heap_1 w.params) (.ref fI) = some (.type "function"))
    (h : ∀ x dx s', Stt z s' ((x, Ins C dx #[]) :: (dx, Atr []) :: L) → codeAny (model prog w) (A.under (.builtin "type.__call__" ⟨.ref C :: rest, []⟩)) (.call (.ref fI) ⟨.ref x :: rest, []⟩) (InitBack x R) s') :
    codeAny (model prog w) A (.call (.ref C) ⟨rest, []⟩) R s := by
  have X := G.now H
  have H1 := H.alloc (t := s.toks) (P := Atr []) (o := emptyDict) rfl ⟨[], 0, rfl, .nil⟩
  have H2 := H1.alloc (t := s.toks) (P := Ins C s.heap.objs.size #[]) (o := instObj C s.heap.objs.size) rfl rfl
  obtain ⟨hh, g, d, t, os⟩ := s
  refine make_core (makes_of X hm) (looks_findIn X hi) (fun self => bind_fn X self hf) (.inl rfl) ?_
  have e : (hh.push emptyDict).objs.size = hh.objs.size + 1 := Heap.size_push _ _
  have := h _ _ _ H2
  dsimp only at this
  rw [e] at this
  exact this
end

end
section
/-! ## Tables keyed by words; sets of words -/
noncomputable abbrev Wd := List UInt8
section
variable (prog : Program) (w : World)
noncomputable def Dct (kvs : List (Wd × Value)) : Pr := fun o => o.IsDictOf (bytesKind prog w) kvs
noncomputable def DctE (kvs : List (Wd × Value)) (ep : Nat) : Pr := fun o => ∃ es, o.ExactDict ∧ o.data = .dict es ep ∧ KeysOf (bytesKind prog w) es ∧ Pairs (bytesKind prog w) es.toList kvs ∧ (kvs.map (·.1)).Nodup
noncomputable def Sett (S : Wd → Bool) (n : Nat) : Pr := fun o => ∃ es ep t, o.ExactSet ∧ o.data = .set es ep t ∧ ElemsOf (bytesKind prog w) es.toList ∧ (∀ k, S k = true ↔ ∃ e ∈ es.toList, (bytesKind prog w).is k e.2 = true)
    ∧ es.size < scanBound ∧ t.fits es.size = true ∧ es.size = n
end
noncomputable def KIt (d : Addr) (n ep : Nat) (i : Nat) : Pr := fun o => o.cls = .type "dict_keyiterator" ∧ o.data = .fields #[.ref d, .int i 0, .int n 0, .int ep 0]
noncomputable def VIt (d : Addr) (n ep : Nat) (i : Nat) : Pr := fun o => o.cls = .type "dict_valueiterator" ∧ o.data = .fields #[.ref d, .int i 0, .int n 0, .int ep 0]
noncomputable def VVw (d : Addr) : Pr := fun o => o.cls = .type "dict_values" ∧ o.data = .fields #[.ref d]
section
variable {w : World} {mg mb : Str → Option Value} {prog : Program} {A : Around} {E : Value → Shared → Prop} {z s : Shared} {L L' : Led} {d : Addr} {kvs : List (Wd × Value)} {ep : Nat} {k : Wd} {t : Tok} {v : Value}
theorem wkey (prog : Program) (w : World) (k : Wd) (t : Tok) : (bytesKind prog w).is k (.bytes k.toArray t) = true := by simp [bytesKind, isBytes]
theorem dictOf1 (H : Stt z s L) (hm : (d, Dct prog w kvs) ∈ L) : s.heap.DictOf (bytesKind prog w) d kvs := by
  obtain ⟨o, h1, h2⟩ := H.get hm
  exact Heap.dictOf_iff.mpr ⟨o, h1, h2⟩
theorem dictAt1 (H : Stt z s L) (hm : (d, DctE prog w kvs ep) ∈ L) : s.heap.DictAt (bytesKind prog w) d kvs ep := by
  obtain ⟨o, h1, es, h2⟩ := H.get hm
  exact ⟨o, es, h1, h2⟩
theorem Stt.freeze (H : Stt z s L) (hm : (d, Dct prog w kvs) ∈ L) (hU : ∀ ep, ∃ L', Upd L d (Dct prog w kvs) (DctE prog w kvs ep) L') : ∃ ep L', Upd L d (Dct prog w kvs) (DctE prog w kvs ep) L' ∧ Stt z s L' := by
  obtain ⟨o, h1, es, ep, h2⟩ := H.get hm
  obtain ⟨L', U⟩ := hU ep
  exact ⟨ep, L', U, H.upd (t := s.toks) U (Heap.SameBut.refl d s.heap) ⟨o, h1, es, h2⟩⟩
theorem DctE.dct {o : Obj} (h : DctE prog w kvs ep o) : Dct prog w kvs o := by
  obtain ⟨es, h⟩ := h
  exact ⟨es, ep, h⟩
theorem size_pos (G : Gd w mg mb z.heap) (H : Stt z s L) : 3 < s.heap.objs.size := by
  obtain ⟨o, es, ep, h1, _⟩ := G.g
  exact Heap.lt_size (H.keep _ _ h1)
theorem d_new {env : Env} {pos : Pos} {Q : Value → Shared → Prop} (G : Gd w mg mb z.heap) (H : Stt z s L) (h : ∀ c s', (c == sysModules) = false → Stt z s' ((c, Dct prog w []) :: L) → Q (.ref c) s') : wpAny (model prog w) A (eval (.Dict [] [] pos) env) Q E s := by
  refine wpAny_Dict_empty (h _ _ ?_ (H.alloc (t := s.toks) rfl ?_))
  · have := size_pos G H
    have h1 : s.heap.objs.size ≠ sysModules := by unfold sysModules; intro e; rw [e] at this; exact absurd this (by decide)
    simpa using h1
  · exact ⟨#[], 0, ⟨rfl, rfl, rfl⟩, rfl, fun e he => by simp at he, .nil, by simp⟩
theorem d_item {Q : Value → Shared → Prop} (H : Stt z s L) (hd : s.heap.DictOf (bytesKind prog w) d kvs) (hv : valueAt kvs k = some v) (h : ∀ s', Stt z s' L → Q v s') : wpAny (model prog w) A (getItem (.ref d) (.bytes k.toArray t)) Q E s :=
  wpAny_getItem_of (wkey prog w k t) hd.mapOf hv (h _ (H.tok _))
theorem d_set {Q : Unit → Shared → Prop} (H : Stt z s L) (U : Upd L d (Dct prog w kvs) (Dct prog w (stored kvs k v)) L') (hz : kvs.length ≤ sizeLine) (h : ∀ s', Stt z s' L' → Q () s') : wpAny (model prog w) A (setItem (.ref d) (.bytes k.toArray t) v) Q E s := by
  refine wpAny_setItem_pairs (wkey prog w k t) (dictOf1 H U.mem) (fun h' hm hs => h _ (H.upd U hs ?_)) hz
  exact Heap.dictOf_iff.mp hm
theorem d_in {Q : Value → Shared → Prop} (H : Stt z s L) (hn : (d == sysModules) = false) (hd : s.heap.DictOf (bytesKind prog w) d kvs) (h : ∀ s', Stt z s' L → Q (.bool (valueAt kvs k).isSome) s') : wpAny (model prog w) A (compareOp .In (.bytes k.toArray t) (.ref d)) Q E s :=
  wpAny_in_of (wkey prog w k t) hn hd.mapOf (h _ (H.tok _))
theorem gm_dict {name : Str} {id : String} {pl : Sem Bool} {Q : Value × List Value → Shared → Prop} (hd : s.heap.DictOf (bytesKind prog w) d kvs) (slot : Slot "dict" name id) (hty : typeOf (.builtin id) = pure (.type "method_descriptor")) (h : Q (.builtin id, [.ref d]) s) :
    wpAny (model prog w) A (getMethod (.ref d) name pl) Q E s := getMethod_builtin hd.typeIs PySem.F.plainAttrs_dict slot hty hd.mapOf.noDict h
theorem d_get {Q : Value → Shared → Prop} (H : Stt z s L) (hn : (d == sysModules) = false) (hd : s.heap.DictOf (bytesKind prog w) d kvs) (h : ∀ s', Stt z s' L → Q ((valueAt kvs k).getD .none) s') : wpAny (model prog w) A (call (.builtin "dict.get") [.ref d, .bytes k.toArray t]) Q E s :=
  call_meetsIn PySem.F.slot_dict_get hd.typeIs PySem.F.entry_dict_get (PySem.F.args_dict_get_2 _ _) (meets_dict_get (bytesKind prog w) d (wkey prog w k t) hn) ⟨_, hd.mapOf, h _ (H.tok _)⟩
theorem d_del {Q : Unit → Shared → Prop} (H : Stt z s L) (U : Upd L d (Dct prog w kvs) (Dct prog w (without kvs k)) L') (hz : kvs.length ≤ sizeLine) (hs : (valueAt kvs k).isSome = true) (h : ∀ s', Stt z s' L' → Q () s') :
    wpAny (model prog w) A (delItem (.ref d) (.bytes k.toArray t)) Q E s := by
  have hD := dictOf1 H U.mem
  unfold delItem
  try with_reducible refine wpAny_holding ?_
  refine wpAny_bind (wpAny_sequenceKey hD.typeIs (by decide) ?_)
  refine wpAny_bind (wpAny_callSpecial?_slot (name := Str.ofString "__delitem__") hD.typeIs PySem.F.slot_dict_delitem
    (call_meetsIn PySem.F.slot_dict_delitem hD.typeIs PySem.F.entry_dict_delitem (PySem.F.args_dict_delitem_2 _ _) (meets_dict_delitem_pairs (bytesKind prog w) d (wkey prog w k t)) ⟨kvs, hD, hz, hs, fun h' hmm hs => ?_⟩))
  exact wpAny_pure (h _ (H.upd U hs (Heap.dictOf_iff.mp hmm)))
theorem it_dict {Q : Value → Shared → Prop} (H : Stt z s L) (hn : (d == sysModules) = false) (hm : (d, DctE prog w kvs ep) ∈ L) (h : ∀ c s', Stt z s' ((c, KIt d kvs.length ep 0) :: L) → Q (.ref c) s') : wpAny (model prog w) A (pyIter (.ref d)) Q E s :=
  wpAny_pyIter_dict hn (dictAt1 H hm) (h _ _ (H.alloc (t := s.toks) rfl ⟨rfl, rfl⟩))
theorem nx_dict {c : Addr} {i : Nat} {v : Value} {Q : Option Value → Shared → Prop} (H : Stt z s L) (U : Upd L c (KIt d kvs.length ep i) (KIt d kvs.length ep (i + 1)) L') (hm : (d, DctE prog w kvs ep) ∈ L) (hx : kvs[i]? = some (k, v))
    (h : ∀ s' t, Stt z s' L' → Q (some (.bytes k.toArray t)) s') : wpAny (model prog w) A (pyNext (.ref c)) Q E s := by
  obtain ⟨o, h1, h2⟩ := H.get U.mem
  refine wpAny_pyNext_dict_item ⟨o, h1, h2⟩ (dictAt1 H hm) hx fun key h' hk hi hs => ?_
  obtain ⟨t, rfl⟩ := isBytes_shape hk
  exact h _ _ (H.upd (t := s.toks) U hs hi)
theorem nx_dict_end {c : Addr} {i : Nat} {Q : Option Value → Shared → Prop} (hh : A.handled = none) (H : Stt z s L) (U : Out L c (KIt d kvs.length ep i) L') (hm : (d, DctE prog w kvs ep) ∈ L) (hx : kvs[i]? = none)
    (h : ∀ s', Stt z s' L' → Q none s') : wpAny (model prog w) A (pyNext (.ref c)) Q E s := by
  obtain ⟨o, h1, h2⟩ := H.get U.mem
  refine wpAny_pyNext_dict_end hh ⟨o, h1, h2⟩ (dictAt1 H hm) hx fun h' hx' => h _ ?_
  have := H.extBut U.mem hx'
  rw [U.ne H.nd] at this
  exact this
theorem d_values {Q : Value → Shared → Prop} (H : Stt z s L) (hn : (d == sysModules) = false) (hd : s.heap.DictOf (bytesKind prog w) d kvs) (h : ∀ c s', Stt z s' ((c, VVw d) :: L) → Q (.ref c) s') : wpAny (model prog w) A (call (.builtin "dict.values") [.ref d]) Q E s :=
  call_meetsIn PySem.F.slot_dict_values hd.typeIs PySem.F.entry_dict_values (PySem.F.args_dict_values_1 _) (meets_dict_values (bytesKind prog w) d hn) ⟨⟨_, hd⟩, h _ _ (H.alloc (t := s.toks) rfl ⟨rfl, rfl⟩)⟩
theorem it_values {c : Addr} {Q : Value → Shared → Prop} (H : Stt z s L) (hv : (c, VVw d) ∈ L) (hm : (d, DctE prog w kvs ep) ∈ L) (h : ∀ c s', Stt z s' ((c, VIt d kvs.length ep 0) :: L) → Q (.ref c) s') : wpAny (model prog w) A (pyIter (.ref c)) Q E s := by
  obtain ⟨o, h1, h2⟩ := H.get hv
  exact wpAny_pyIter_values ⟨o, h1, h2⟩ (dictAt1 H hm) (h _ _ (H.alloc (t := s.toks) rfl ⟨rfl, rfl⟩))
theorem nx_values {c : Addr} {i : Nat} {v : Value} {Q : Option Value → Shared → Prop} (H : Stt z s L) (U : Upd L c (VIt d kvs.length ep i) (VIt d kvs.length ep (i + 1)) L') (hm : (d, DctE prog w kvs ep) ∈ L) (hx : kvs[i]? = some (k, v))
    (h : ∀ s', Stt z s' L' → Q (some v) s') : wpAny (model prog w) A (pyNext (.ref c)) Q E s := by
  obtain ⟨o, h1, h2⟩ := H.get U.mem
  exact wpAny_pyNext_values_item ⟨o, h1, h2⟩ (dictAt1 H hm) hx fun h' hi hs => h _ (H.upd (t := s.toks) U hs hi)
theorem nx_values_end {c : Addr} {i : Nat} {Q : Option Value → Shared → Prop} (hh : A.handled = none) (H : Stt z s L) (U : Out L c (VIt d kvs.length ep i) L') (hm : (d, DctE prog w kvs ep) ∈ L) (hx : kvs[i]? = none)
    (h : ∀ s', Stt z s' L' → Q none s') : wpAny (model prog w) A (pyNext (.ref c)) Q E s := by
  obtain ⟨o, h1, h2⟩ := H.get U.mem
  refine wpAny_pyNext_values_end hh ⟨o, h1, h2⟩ (dictAt1 H hm) hx fun h' hx' => h _ ?_
  have := H.extBut U.mem hx'
  rw [U.ne H.nd] at this
  exact this
theorem it_vself {c : Addr} {n i : Nat} {Q : Value → Shared → Prop} (H : Stt z s L) (hm : (c, VIt d n ep i) ∈ L) (h : Q (.ref c) s) : wpAny (model prog w) A (pyIter (.ref c)) Q E s := by
  obtain ⟨o, h1, h2⟩ := H.get hm
  exact wpAny_pyIter_valiter ⟨o, h1, h2⟩ h
theorem itr_values {it : Addr} (hh : A.handled = none) (hm : (d, DctE prog w kvs ep) ∈ L) : Itr prog w A z L it (VIt d kvs.length ep) (kvs.map (·.2)) where
  next H hx h := by
    rw [List.getElem?_map, Option.map_eq_some_iff] at hx
    obtain ⟨⟨k, v'⟩, h1, rfl⟩ := hx
    exact nx_values H (.tail (.tail .head)) (List.mem_cons_of_mem _ (List.mem_cons_of_mem _ (List.mem_cons_of_mem _ hm))) h1 h
  done H h := nx_values_end hh H (.tail (.tail (by rw [List.length_map]; exact .head))) (List.mem_cons_of_mem _ (List.mem_cons_of_mem _ (List.mem_cons_of_mem _ hm))) (by simp) h
  self H h := it_vself H (List.mem_cons_of_mem _ (List.mem_cons_of_mem _ List.mem_cons_self)) h
variable {S : Wd → Bool} {n : Nat}
theorem setOf1 (H : Stt z s L) (hm : (d, Sett prog w S n) ∈ L) : s.heap.SetOf (bytesKind prog w) d S n := by
  obtain ⟨o, h1, es, ep, t, h2⟩ := H.get hm
  exact ⟨o, es, ep, t, h1, h2⟩
theorem s_in {Q : Value → Shared → Prop} (H : Stt z s L) (hm : (d, Sett prog w S n) ∈ L) (h : ∀ s', Stt z s' L → Q (.bool (S k)) s') : wpAny (model prog w) A (compareOp .In (.bytes k.toArray t) (.ref d)) Q E s :=
  wpAny_inSet_of (wkey prog w k t) rfl (setOf1 H hm) (h _ (H.tok _))
theorem gm_sadd {pl : Sem Bool} {Q : Value × List Value → Shared → Prop} (H : Stt z s L) (hm : (d, Sett prog w S n) ∈ L) (h : Q (.builtin "set.add", [.ref d]) s) : wpAny (model prog w) A (getMethod (.ref d) "add" pl) Q E s :=
  getMethod_set_add (setOf1 H hm) h
theorem s_add {Q : Value → Shared → Prop} (H : Stt z s L) (U : Upd L d (Sett prog w S n) (Sett prog w (fun k' => S k' || decide (k' = k)) (n + 1)) L') (hz : n < 1000) (hS : S k = false) (h : ∀ s', Stt z s' L' → Q .none s') :
    wpAny (model prog w) A (call (.builtin "set.add") [.ref d, .bytes k.toArray t]) Q E s := by
  refine call_set_add (wkey prog w k t) rfl (setOf1 H U.mem) (by unfold scanBound; omega) fun h' hs hS' => h _ (H.upd U hs ?_)
  rw [if_neg (by rw [hS]; exact Bool.false_ne_true)] at hS'
  obtain ⟨o, es, ep, t, h1, h2⟩ := hS'
  exact ⟨o, h1, es, ep, t, h2⟩
theorem s_new {Q : Value → Shared → Prop} (H : Stt z s L) (h : ∀ c s', Stt z s' ((c, Sett prog w (fun _ => false) 0) :: L) → Q (.ref c) s') : wpAny (model prog w) A (call (.type "set") []) Q E s := by
  refine call_set_0 fun led => h _ _ (H.alloc (t := s.toks) rfl ?_)
  refine ⟨#[], 0, _, ⟨rfl, rfl, rfl⟩, rfl, fun e he => by simp at he, fun k => by simp, by unfold scanBound; simp, ?_, rfl⟩
  cases led <;> rfl
end

end
section
/-! ## More calls, more small rules -/
inductive KPut : List (Str × Value) → Str → Value → List (Str × Value) → Prop
  | nil {n : Str} {v : Value} : KPut [] n v [(n, v)]
  | head {n : Str} {u v : Value} {r : List (Str × Value)} : KPut ((n, u) :: r) n v ((n, v) :: r)
  | tail {n m : Str} {u v : Value} {r r' : List (Str × Value)} : m ≠ n → KPut r n v r' → KPut ((m, u) :: r) n v ((m, u) :: r')
theorem KPut.eq {kv kv' : List (Str × Value)} {n : Str} {v : Value} (h : KPut kv n v kv') : kput n v kv = kv' := by
  induction h with
  | nil => rfl
  | head => simp [kput]
  | tail hne _ ih => rw [kput, if_neg hne, ih]
inductive KLoc : List (Str × Value) → Str → Value → Prop
  | head {n : Str} {v : Value} {r : List (Str × Value)} : KLoc ((n, v) :: r) n v
  | tail {n m : Str} {u v : Value} {r : List (Str × Value)} : n ≠ m → KLoc r n v → KLoc ((m, u) :: r) n v
theorem KLoc.eq {kv : List (Str × Value)} {n : Str} {v : Value} (h : KLoc kv n v) : kv.lookup n = some v := by
  induction h with
  | head => simp [List.lookup]
  | @tail n m u v r hne _ ih =>
    have : (n == m) = false := by simpa using hne
    simp only [List.lookup_cons, this]; exact ih
theorem Stt.perm {z s : Shared} {L L' : Led} (H : Stt z s L) (p : L.Perm L') : Stt z s L' := H.sub p (List.Sublist.refl _)
theorem ift {p q : Prop} (h : p) : if true = true then p else q := by rw [if_pos rfl]; exact h
theorem iff' {p q : Prop} (h : q) : if false = true then p else q := by rw [if_neg Bool.false_ne_true]; exact h
section
variable {w : World} {mg mb : Str → Option Value} {prog : Program} {A : Around} {E : Value → Shared → Prop} {z s : Shared} {L L' : Led} {x C dx p : Addr} {sl : Array (Option Value)} {kv kv' : List (Str × Value)} {name : Str} {v : Value} {pos : Pos} {env : Env}
theorem sa_own' {Q : Unit → Shared → Prop} (G : Gd w mg mb z.heap) (H : Stt z s L) (hx : (x, Ins C dx sl) ∈ L) (U : Upd L dx (Atr kv) (Atr kv') L') (hk : KPut kv name v kv') (hz : kv.length ≤ 900)
    (hs : findIn (hd.heap_1 w.params) (.ref C) "__setattr__" = some (some (.builtin "object.__setattr__"))) (hp : plainOver (hd.heap_1 w.params) C = true) (ht : takerIn (hd.heap_1 w.params) C name = some none) (hh : hasDictIn (hd.heap_1 w.params) C = true)
    (h : ∀ s', Stt z s' L' → Q () s') : wpAny (model prog w) A (setAttr (.ref x) name v) Q E s := by
  obtain rfl := hk.eq
  exact sa_own G H hx U hz hs hp ht hh h
theorem is_ref {Q : Value → Shared → Prop} {a : Addr} (h : Q (.bool false) s) : wpAny (model prog w) A (compareOp .Is (.ref a) .none) Q E s := is_none_ne nofun h
theorem is_nn {Q : Value → Shared → Prop} (h : Q (.bool true) s) : wpAny (model prog w) A (compareOp .Is .none .none) Q E s := is_none_none h
theorem isn_ref {Q : Value → Shared → Prop} {a : Addr} (h : Q (.bool true) s) : wpAny (model prog w) A (compareOp .IsNot (.ref a) .none) Q E s := isNot_none h
theorem isn_nn {Q : Value → Shared → Prop} (h : Q (.bool false) s) : wpAny (model prog w) A (compareOp .IsNot .none .none) Q E s := isNot_none h
theorem i_iadd {Q : Value → Shared → Prop} {a b : Int} {t u : Tok} (H : Stt z s L) (h : ∀ s' t, Stt z s' L → Q (.int (a + b) t) s') : wpAny (model prog w) A (inplaceOp .Add (.int a t) (.int b u)) Q E s := PyProof.Rows.iadd_int (h _ _ (H.tok _))
theorem i_isub {Q : Value → Shared → Prop} {a b : Int} {t u : Tok} (H : Stt z s L) (h : ∀ s' t, Stt z s' L → Q (.int (a - b) t) s') : wpAny (model prog w) A (inplaceOp .Sub (.int a t) (.int b u)) Q E s := PySem.P.isub_int (h _ _ (H.tok _))
theorem x_aug {y : Str} {pos' : Pos} {op : Operator} {value : Expr} {Q : Flow → Shared → Prop} (hd : (y == ("__debug__" : Str)) = false)
    (h : wpAny (model prog w) A (loadName env y) (fun old s₁ => wpAny (model prog w) A (eval value env) (fun v s₂ => wpAny (model prog w) A (inplaceOp op old v)
      (fun r s₃ => wpAny (model prog w) A (storeName env y r) (fun _ => Q .next) E s₃) E s₂) E s₁) E s) :
    wpAny (model prog w) A (exec (.AugAssign (.Name y pos') op value pos) env) Q E s := wpAny_AugAssign_Name h
theorem ld_local {Lf : Addr} {ls gs : List Str} {cs : List (Str × Addr)} {vals : List (Option Value)} {y : Str} {Q : Value → Shared → Prop} (H : Stt z s L) (he : EnvIs env Lf ls gs cs) (hm : (Lf, Fra ls vals) ∈ L) (hl : Loc ls vals y v) (h : Q v s) :
    wpAny (model prog w) A (loadName env y) Q E s := by
  obtain ⟨o, h1, h2⟩ := H.get hm
  refine wpAny_loadName_local he.kind (he.loc y hl.mem) ?_ (hl.look he.nd) h
  rw [he.locals]; exact Fra.ns h1 h2
theorem t_len {l : Addr} {xs : List Value} {Q : Value → Shared → Prop} (H : Stt z s L) (h1 : (l, Tup xs) ∈ L) (hz : xs.length ≤ 16777216) (h : ∀ s' t, Stt z s' L → Q (.int xs.length t) s') : wpAny (model prog w) A (call (.builtin "len") [.ref l]) Q E s := by
  obtain ⟨o, e, n, rfl⟩ := H.get h1
  refine call_function_entry kind_len plain_len entry_len (args_len1 _) (len_entry_tuple ⟨_, e, rfl, n, rfl⟩ (by simp; omega) ?_)
  have := h _ (s.toks + 1) (H.tok (s.toks + 1 + 1))
  simpa using this
theorem t_oflist {l : Addr} {xs : List Value} {Q : Value → Shared → Prop} (H : Stt z s L) (h1 : (l, Lst xs) ∈ L) (hz : xs.length ≤ sizeLine) (h : ∀ c s', Stt z s' ((c, Tup xs) :: L) → Q (.ref c) s') : wpAny (model prog w) A (call (.type "tuple") [.ref l]) Q E s :=
  call_tuple_list (isList H h1) (fun h' hk => h _ _ ((H.ext (s' := { s with heap := h' }) hk rfl rfl).alloc (t := s.toks) rfl ⟨_, rfl⟩)) (by simpa using hz)
theorem l_clear {l : Addr} {xs : List Value} {Q : Value → Shared → Prop} (H : Stt z s L) (U : Upd L l (Lst xs) (Lst []) L') (hz : xs.length ≤ sizeLine) (h : ∀ s', Stt z s' L' → Q .none s') : wpAny (model prog w) A (call (.builtin "list.clear") [.ref l]) Q E s := by
  obtain ⟨o, e, n, rfl⟩ := H.get U.mem
  exact call_meets PySem.F.slot_list_clear (isList H U.mem).typeIs PySem.F.entry_list_clear (PySem.F.args_list_clear_1 _) (PySem.AutoSeq1.list_clear_list_0 l _ n (by simpa using hz)) ⟨e, h _ (H.change U e rfl ⟨_, rfl⟩)⟩
theorem star_of {T : String} {a : Addr} {xs : List Value} {Q : List Value → Shared → Prop} (H : Stt z s L) (hT : T = "list" ∨ T = "tuple") (h1 : ∃ o n, s.heap.get? a = some o ∧ o.cls = .type T ∧ o.data = .seq xs.toArray n) (hz : xs.length ≤ sizeLine) (h : ∀ s', Stt z s' L → Q xs s') : StarOf (model prog w) A E (.ref a) Q s := by
  obtain ⟨o, n, D, hc, hd⟩ := h1
  have hT' : s.TypeIs (.ref a) T := ⟨o, D, hc⟩
  have y : wpAny (model prog w) A (collect (.ref a)) Q E s :=
    wpAny_collect_seq a hT D hc hd (fun h' hk => by have := h _ (H.ext (s' := { s with heap := h' }) hk rfl rfl); simpa using this) (by simpa using hz)
  unfold StarOf notIterableAtAll
  rcases hT with rfl | rfl
  · exact wpAny_bind (wpAny_specialOf hT' PySem.F.slot_list_iter.lookup (wpAny_pure ⟨rfl, y⟩))
  · exact wpAny_bind (wpAny_specialOf hT' PySem.F.slot_tuple_iter.lookup (wpAny_pure ⟨rfl, y⟩))
theorem star_list {a : Addr} {xs : List Value} {Q : List Value → Shared → Prop} (H : Stt z s L) (h1 : (a, Lst xs) ∈ L) (hz : xs.length ≤ sizeLine) (h : ∀ s', Stt z s' L → Q xs s') : StarOf (model prog w) A E (.ref a) Q s := by
  obtain ⟨o, e, n, rfl⟩ := H.get h1
  exact star_of H (.inl rfl) ⟨_, n, e, rfl, rfl⟩ hz h
theorem star_tup {a : Addr} {xs : List Value} {Q : List Value → Shared → Prop} (H : Stt z s L) (h1 : (a, Tup xs) ∈ L) (hz : xs.length ≤ sizeLine) (h : ∀ s', Stt z s' L → Q xs s') : StarOf (model prog w) A E (.ref a) Q s := by
  obtain ⟨o, e, n, rfl⟩ := H.get h1
  exact star_of H (.inr rfl) ⟨_, n, e, rfl, rfl⟩ hz h
theorem assign_attr {o : Expr} {attr : Str} {Q : Unit → Shared → Prop} (h : wpAny (model prog w) A (eval o env) (fun ov s₂ => wpAny (model prog w) A (setAttr ov attr v) (fun _ => Q ()) E s₂) E s) : wpAny (model prog w) A (assign (.Attribute o attr pos) env v) Q E s := by
  rw [assign_Attribute]
  exact wpAny_bind (wpAny_holding (wpAny_mono h (fun ov s₂ h₂ => wpAny_bind (wpAny_standAt (wpAny_bind (wpAny_holding (wpAny_mono h₂ (fun _ s₃ h₃ => wpAny_releaseD h₃) fun _ _ e => e))))) fun _ _ e => e))
theorem assign_sub {o i : Expr} {Q : Unit → Shared → Prop} (h : wpAny (model prog w) A (eval o env) (fun ov s₂ => wpAny (model prog w) A (eval i env) (fun iv s₃ => wpAny (model prog w) A (setItem ov iv v) (fun _ => Q ()) E s₃) E s₂) E s) : wpAny (model prog w) A (assign (.Subscript o i pos) env v) Q E s := by
  rw [assign_Subscript]
  exact wpAny_bind (wpAny_holding (wpAny_mono h (fun ov s₂ h₂ => wpAny_bind (wpAny_holding (wpAny_mono h₂ (fun iv s₃ h₃ => wpAny_bind (wpAny_standAt (wpAny_bind (wpAny_holding (wpAny_mono h₃ (fun _ s₄ h₄ => wpAny_releaseD h₄) fun _ _ e => e))))) fun _ _ e => e))) fun _ _ e => e))
/-- a call of a def with a star parameter -/
theorem call_fnV {R : Result → Shared → Prop} {f : Addr} {fd : FuncData} {oc : Value} {od : Option Addr} {osl : Array (Option Value)} {body : List Stmt} (ps : List Str) (va : Str) (rest gs : List Str) {args vs : List Value} {names : List Str}
    (G : Gd w mg mb z.heap) (H : Stt z s L) (ho : (hd.heap_1 w.params).lookup f = some ⟨oc, od, .func fd, osl⟩) (hcd : codeIn (hd.heap_1 w.params) fd.code fd.qualname = true) (hroom : A.depth < recursionLimit)
    (hbody : fd.body = .stmts body) (hbind : bindArgs fd ⟨args ++ vs, []⟩ = newTuple vs >>= fun t => pure (ps.zip args ++ [(va, t)])) (hlen : ps.length = args.length) (hn : ps ++ va :: rest = names) (hnd : names.Nodup) (hz : vs.length ≤ sizeLine)
    (hcell : ∀ x ∈ fd.scope.names, x.2 ≠ .cell) (hloc : ∀ x ∈ names, fd.scope.names.lookup x = some .local) (hglo : ∀ x ∈ gs, fd.scope.names.lookup x = some .globalImplicit)
    (hgl : fd.globals = mainGlobals) (hbi : fd.builtins = builtinsNs)
    (h : ∀ env Lf c s', EnvIs env Lf names gs [] → env.frame = some Lf → Stt z s' ((Lf, Fra names (args.map some ++ some (.ref c) :: rest.map (fun _ => none))) :: (c, Tup vs) :: L) →
      wpAny (model prog w) (A.deeper env) (execs body env) (fun fl s' => R (.ok (.ret (match fl with | .ret v => v | _ => .none))) s') (fun _ _ => False) s')
    (hco : fd.scope.isCoroutine = false := by rfl) (hgen : fd.scope.isGenerator = false := by rfl) (hk : fd.scope.kind = .function := by rfl) :
    codeAny (model prog w) A (.call (.ref f) ⟨args ++ vs, []⟩) R s := by
  subst hn
  refine codeAny_call_function hroom (H.keep _ _ (G.X _ _ ho)) rfl hco hgen hbody (codeRec_of (G.X.keeps H.keep) hcd) ?_
  rw [hbind]
  refine wpAny_bind (wpAny_newTuple (wpAny_pure ?_) hz)
  have HT := H.alloc (t := s.toks) (P := Tup vs) (o := { cls := .type "tuple", data := .seq vs.toArray }) rfl ⟨_, rfl⟩
  generalize hs1 : ({ s with heap := s.heap.push { cls := .type "tuple", data := .seq vs.toArray } } : Shared) = s₁ at HT ⊢
  generalize s.heap.objs.size = c at HT ⊢
  have ez : ps.zip args ++ [(va, Value.ref c)] = (ps ++ [va]).zip (args ++ [.ref c]) := by rw [List.zip_append hlen]; rfl
  rw [ez]
  refine wpAny_newFunctionEnv hcell (fun x hx => ?_) (fun h₀ hns₀ hsb₀ => ⟨(G.nl.keeps HT.keep).fresh _ hsb₀, codeAny_func ?_⟩) hk
  · have := List.of_mem_zip (a := x.1) (b := x.2) hx
    refine hloc _ ?_
    rcases List.mem_append.mp this.1 with q | q
    · exact List.mem_append_left _ q
    · rw [List.mem_singleton] at q; rw [q]; simp
  · have hE : EnvIs (callEnv fd s₁.heap.objs.size f) s₁.heap.objs.size (ps ++ va :: rest) gs [] :=
      ⟨rfl, hk, hnd, hloc, hglo, fun _ hp => (nomatch hp), hgl, hbi⟩
    have hN : Heap.get? s₁.heap s₁.heap.objs.size = none := Heap.get?_none_of_le (Nat.le_refl _)
    obtain ⟨o, e1, e2⟩ := Fra.of_ns (names := ps ++ va :: rest) (vals := args.map some ++ some (.ref c) :: rest.map (fun _ => none)) hns₀ fun x => by
      have e0 := look_binds (ps ++ [va]) (args ++ [Value.ref c]) rest x (by simp [hlen]) (by simpa using hnd)
      refine e0.trans ?_; simp
    have HS : Stt z { s₁ with heap := h₀, toks := s₁.toks + ((ps ++ [va]).zip (args ++ [.ref c])).length } ((s₁.heap.objs.size, Fra (ps ++ va :: rest) (args.map some ++ some (.ref c) :: rest.map fun _ => none)) :: (c, Tup vs) :: L) :=
      HT.cons (fun b o e => hsb₀.extBut b o (Nat.ne_of_lt (Heap.lt_size e)) (Heap.get?_push_of_some _ e)) rfl rfl hN e1 e2
    exact wpAny_mono (h _ _ _ _ hE rfl HS) (fun _ _ x => x) (fun _ _ x => x.elim)
theorem d_get_some {d : Addr} {kvs : List (Wd × Value)} {k : Wd} {t : Tok} {Q : Value → Shared → Prop} (H : Stt z s L) (hn : (d == sysModules) = false) (hd : s.heap.DictOf (bytesKind prog w) d kvs) (hv : valueAt kvs k = some v) (h : ∀ s', Stt z s' L → Q v s') : wpAny (model prog w) A (call (.builtin "dict.get") [.ref d, .bytes k.toArray t]) Q E s :=
  d_get H hn hd fun s' H' => by rw [hv]; exact h s' H'
theorem d_get_none {d : Addr} {kvs : List (Wd × Value)} {k : Wd} {t : Tok} {Q : Value → Shared → Prop} (H : Stt z s L) (hn : (d == sysModules) = false) (hd : s.heap.DictOf (bytesKind prog w) d kvs) (hv : valueAt kvs k = none) (h : ∀ s', Stt z s' L → Q .none s') : wpAny (model prog w) A (call (.builtin "dict.get") [.ref d, .bytes k.toArray t]) Q E s :=
  d_get H hn hd fun s' H' => by rw [hv]; exact h s' H'
end

end
local macro_rules | `(tactic| walk_at "kloc") => `(tactic| with_reducible first | exact KLoc.head | (apply KLoc.tail (by decide); walk_at "kloc"))
local macro_rules | `(tactic| walk_at "kput") => `(tactic| with_reducible first | exact KPut.nil | exact KPut.head | (apply KPut.tail (by decide); walk_at "kput"))
section
/-! ## _NodeInfo -/
section
variable {w : World} {mg mb : Str → Option Value} {prog : Program} {A : Around} {E : Value → Shared → Prop} {z s : Shared} {L L' : Led} {x dx : Addr} {kv : List (Str × Value)} {v : Value} {a b c : Option Value}
theorem ss_node {Q : Unit → Shared → Prop} (G : Gd w mg mb z.heap) (H : Stt z s L) (hdx : (dx, Atr kv) ∈ L) (U : Upd L x (Ins 47 dx #[]) (Ins 47 dx #[some v]) L') (h : ∀ s', Stt z s' L' → Q () s') : wpAny (model prog w) A (setAttr (.ref x) "node" v) Q E s :=
  sa_slot (i := 0) G H hdx U (by k_is) (by k_is) (by k_is) (by k_is) (by k_is) (by decide) h
theorem ss_np {Q : Unit → Shared → Prop} (G : Gd w mg mb z.heap) (H : Stt z s L) (hdx : (dx, Atr kv) ∈ L) (U : Upd L x (Ins 47 dx #[a]) (Ins 47 dx #[a, some v]) L') (h : ∀ s', Stt z s' L' → Q () s') : wpAny (model prog w) A (setAttr (.ref x) "npredecessors" v) Q E s :=
  sa_slot (i := 1) G H hdx U (by k_is) (by k_is) (by k_is) (by k_is) (by k_is) (by decide) h
theorem ss_suc {Q : Unit → Shared → Prop} (G : Gd w mg mb z.heap) (H : Stt z s L) (hdx : (dx, Atr kv) ∈ L) (U : Upd L x (Ins 47 dx #[a, b]) (Ins 47 dx #[a, b, some v]) L') (h : ∀ s', Stt z s' L' → Q () s') : wpAny (model prog w) A (setAttr (.ref x) "successors" v) Q E s :=
  sa_slot (i := 2) G H hdx U (by k_is) (by k_is) (by k_is) (by k_is) (by k_is) (by decide) h
theorem ss_np' {Q : Unit → Shared → Prop} (G : Gd w mg mb z.heap) (H : Stt z s L) (hdx : (dx, Atr kv) ∈ L) (U : Upd L x (Ins 47 dx #[a, b, c]) (Ins 47 dx #[a, some v, c]) L') (h : ∀ s', Stt z s' L' → Q () s') : wpAny (model prog w) A (setAttr (.ref x) "npredecessors" v) Q E s :=
  sa_slot (i := 1) G H hdx U (by k_is) (by k_is) (by k_is) (by k_is) (by k_is) (by decide) h
variable {e : Bool}
theorem gs_node {Q : Value → Shared → Prop} (G : Gd w mg mb z.heap) (H : Stt z s L) (hx : (x, Ins 47 dx #[some v, b, c]) ∈ L) (hdx : (dx, Atr kv) ∈ L) (hh : handedIn v = true) (h : ∀ s', Stt z s' L → Q v s') : wpAny (model prog w) A (getAttr (.ref x) "node" e) Q E s :=
  ga_slot (i := 0) G H hx hdx rfl (by k_is) (by k_is) (by k_is) (by k_is) (by k_is) (by k_is) hh h
theorem gs_np {Q : Value → Shared → Prop} (G : Gd w mg mb z.heap) (H : Stt z s L) (hx : (x, Ins 47 dx #[a, some v, c]) ∈ L) (hdx : (dx, Atr kv) ∈ L) (hh : handedIn v = true) (h : ∀ s', Stt z s' L → Q v s') : wpAny (model prog w) A (getAttr (.ref x) "npredecessors" e) Q E s :=
  ga_slot (i := 1) G H hx hdx rfl (by k_is) (by k_is) (by k_is) (by k_is) (by k_is) (by k_is) hh h
theorem gs_suc {Q : Value → Shared → Prop} (G : Gd w mg mb z.heap) (H : Stt z s L) (hx : (x, Ins 47 dx #[a, b, some v]) ∈ L) (hdx : (dx, Atr kv) ∈ L) (hh : handedIn v = true) (h : ∀ s', Stt z s' L → Q v s') : wpAny (model prog w) A (getAttr (.ref x) "successors" e) Q E s :=
  ga_slot (i := 2) G H hx hdx rfl (by k_is) (by k_is) (by k_is) (by k_is) (by k_is) (by k_is) hh h
end
theorem mk_node {w : World} {mg mb : Str → Option Value} {prog : Program} {A : Around} {z s : Shared} {L : Led} {R : Result → Shared → Prop} {v : Value}
    (G : Gd w mg mb z.heap) (H : Stt z s L) (hA : A.depth ≤ 800)
    (h : ∀ x dx ls tn s', Stt z s' ((x, Ins 47 dx #[some v, some (.int 0 tn), some (.ref ls)]) :: (dx, Atr []) :: (ls, Lst []) :: L) → R (.ok (.ret (.ref x))) s') :
    codeAny (model prog w) A (.call (.ref 47) ⟨[v], []⟩) R s := by
  refine mk_inst G H (by k_is) (by k_is) (by k_is) ?_
  clear H
  intro x dx s H
  refine call_fn (ps := ["self", "node"]) (rest := []) (names := ["self", "node"]) (vals := [some (.ref x), some v]) (gs := []) G H (by k_is) (by k_is) (by rw [depth_under_kw]; show _ < 1000; omega) rfl (BindsTo.of_eq rfl) rfl rfl rfl (by decide) (by decide) (all_mem rfl) (all_mem rfl) rfl rfl ?_
  clear H
  intro env Lf s he hfr H
  with_reducible refine wpAny_execs_cons ?_
  refine plainObj_wpAny_Assign_Attribute ?_ rfl
  refine n_local (by with_reducible assumption) (by with_reducible assumption) (by walk_at "mem") (by walk_at "loc") ?_
  refine n_local (by with_reducible assumption) (by with_reducible assumption) (by walk_at "mem") (by walk_at "loc") ?_
  refine ss_node G (by assumption) (by walk_at "mem") (by walk_at "upd") ?_
  intro _ _
  with_reducible refine wpAny_execs_cons ?_
  refine plainObj_wpAny_Assign_Attribute ?_ rfl
  (with_reducible rename Stt _ _ _ => hO); with_reducible refine c_int hO ?_; intro _ _ _; clear hO
  refine n_local (by with_reducible assumption) (by with_reducible assumption) (by walk_at "mem") (by walk_at "loc") ?_
  refine ss_np G (by assumption) (by walk_at "mem") (by walk_at "upd") ?_
  intro _ _
  with_reducible refine wpAny_execs_cons ?_
  refine plainObj_wpAny_Assign_Attribute ?_ rfl
  with_reducible refine x_List ?_
  with_reducible refine spliced_none ?_
  refine ⟨by exact Nat.le_of_ble_eq_true rfl, ?_⟩
  (with_reducible rename Stt _ _ _ => hO); with_reducible refine al_list hO ?_; intro _ _ _; clear hO
  refine n_local (by with_reducible assumption) (by with_reducible assumption) (by walk_at "mem") (by walk_at "loc") ?_
  refine ss_suc G (by assumption) (by walk_at "mem") (by walk_at "upd") ?_
  intro _ H
  with_reducible refine wpAny_execs_nil ?_
  exact ⟨rfl, h _ _ _ _ _ ((Stt.out H (.tail .head)).perm ((List.Perm.swap _ _ _).trans ((List.Perm.swap _ _ _).cons _)))⟩
/-! ## The sorter -/
structure Nd where
  wd : Wd
  tk : Tok
  x : Addr
  dx : Addr
  ls : Addr
  np : Int
  nt : Tok
  sc : List Value
noncomputable def ndL (n : Nd) : Led := [(n.x, Ins 47 n.dx #[some (.bytes n.wd.toArray n.tk), some (.int n.np n.nt), some (.ref n.ls)]), (n.dx, Atr []), (n.ls, Lst n.sc)]
noncomputable def nodesL : List Nd → Led
  | [] => []
  | n :: N => ndL n ++ nodesL N
noncomputable def tabOf (N : List Nd) : List (Wd × Value) := N.map fun n => (n.wd, .ref n.x)
noncomputable abbrev attrs (D : Addr) (rv : Value) (po : Int) (t1 : Tok) (nf : Int) (t2 : Tok) : List (Str × Value) := [("_node2info", .ref D), ("_ready_nodes", rv), ("_npassedout", .int po t1), ("_nfinished", .int nf t2)]
noncomputable abbrev srtL (prog : Program) (w : World) (S dS D : Addr) (rv : Value) (po : Int) (t1 : Tok) (nf : Int) (t2 : Tok) (N : List Nd) (L : Led) : Led :=
  (S, Ins 144 dS #[]) :: (dS, Atr (attrs D rv po t1 nf t2)) :: (D, Dct prog w (tabOf N)) :: (nodesL N ++ L)
theorem nodesL_append : ∀ (N M : List Nd), nodesL (N ++ M) = nodesL N ++ nodesL M
  | [], M => rfl
  | n :: N, M => by rw [List.cons_append, nodesL, nodesL, nodesL_append N M, List.append_assoc]
theorem Upd.append {L L' : Led} {a : Addr} {P P' : Pr} (u : Upd L a P P' L') : ∀ (M : Led), Upd (M ++ L) a P P' (M ++ L')
  | [] => u
  | _ :: M => .tail (Upd.append u M)
theorem Upd.appendR {L L' : Led} {a : Addr} {P P' : Pr} (u : Upd L a P P' L') (M : Led) : Upd (L ++ M) a P P' (L' ++ M) := by
  induction u with
  | head => exact .head
  | tail _ ih => exact .tail ih
section
variable {N1 N2 : List Nd} {n : Nd} {L : Led}
theorem node_split (n : Nd) (N1 N2 : List Nd) (L : Led) : nodesL (N1 ++ n :: N2) ++ L = nodesL N1 ++ (ndL n ++ (nodesL N2 ++ L)) := by rw [nodesL_append, nodesL, List.append_assoc, List.append_assoc]
theorem mem_node {p : Addr × Pr} (h : p ∈ ndL n) : p ∈ nodesL (N1 ++ n :: N2) ++ L := by
  rw [node_split]; exact List.mem_append_right _ (List.mem_append_left _ h)
theorem mem_x : (n.x, Ins 47 n.dx #[some (.bytes n.wd.toArray n.tk), some (.int n.np n.nt), some (.ref n.ls)]) ∈ nodesL (N1 ++ n :: N2) ++ L := mem_node List.mem_cons_self
theorem mem_dx : (n.dx, Atr []) ∈ nodesL (N1 ++ n :: N2) ++ L := mem_node (List.mem_cons_of_mem _ List.mem_cons_self)
theorem mem_ls : (n.ls, Lst n.sc) ∈ nodesL (N1 ++ n :: N2) ++ L := mem_node (List.mem_cons_of_mem _ (List.mem_cons_of_mem _ List.mem_cons_self))
theorem upd_np (k : Int) (t : Tok) : Upd (nodesL (N1 ++ n :: N2) ++ L) n.x (Ins 47 n.dx #[some (.bytes n.wd.toArray n.tk), some (.int n.np n.nt), some (.ref n.ls)]) (Ins 47 n.dx #[some (.bytes n.wd.toArray n.tk), some (.int k t), some (.ref n.ls)]) (nodesL (N1 ++ { n with np := k, nt := t } :: N2) ++ L) := by
  rw [node_split, node_split]; exact Upd.append (.head) _
theorem upd_sc (xs : List Value) : Upd (nodesL (N1 ++ n :: N2) ++ L) n.ls (Lst n.sc) (Lst xs) (nodesL (N1 ++ { n with sc := xs } :: N2) ++ L) := by
  rw [node_split, node_split]; exact Upd.append (.tail (.tail .head)) _
end

end
section
theorem tab_cases (N : List Nd) (k : Wd) : (∃ N1 n N2, N = N1 ++ n :: N2 ∧ n.wd = k ∧ valueAt (tabOf N) k = some (.ref n.x)) ∨ ((∀ m ∈ N, m.wd ≠ k) ∧ valueAt (tabOf N) k = none) := by
  induction N with
  | nil => exact .inr ⟨fun m hm => by simp at hm, rfl⟩
  | cons m N ih =>
    by_cases h : m.wd = k
    · exact .inl ⟨[], m, N, rfl, h, by simp [valueAt, tabOf, h]⟩
    · have e : valueAt (tabOf (m :: N)) k = valueAt (tabOf N) k := by simp [valueAt, tabOf, List.find?_cons, h]
      rcases ih with ⟨N1, n, N2, rfl, h1, h2⟩ | ⟨h1, h2⟩
      · exact .inl ⟨m :: N1, n, N2, rfl, h1, e.trans h2⟩
      · refine .inr ⟨fun q hq => ?_, e.trans h2⟩
        rcases List.mem_cons.mp hq with rfl | hq
        · exact h
        · exact h1 q hq
theorem tab_stored {N : List Nd} {n : Nd} (h : ∀ m ∈ N, m.wd ≠ n.wd) : stored (tabOf N) n.wd (.ref n.x) = tabOf (N ++ [n]) := by
  unfold stored
  rw [if_neg]
  · simp [tabOf]
  · simp only [tabOf, List.any_map, List.any_eq_true, Function.comp, decide_eq_true_eq, not_exists, not_and]
    exact h
theorem perm_new (n : Nd) (N : List Nd) (T L : Led) : (ndL n ++ (T ++ (nodesL N ++ L))).Perm (T ++ (nodesL (N ++ [n]) ++ L)) := by
  have e : nodesL (N ++ [n]) ++ L = nodesL N ++ (ndL n ++ L) := by rw [node_split]; rfl
  rw [e]
  exact (List.perm_append_comm_assoc _ _ _).trans (List.Perm.append_left _ (List.perm_append_comm_assoc _ _ _))
theorem get_nodeinfo {w : World} {mg mb : Str → Option Value} {prog : Program} {A : Around} {z s : Shared} {L : Led} {R : Result → Shared → Prop} {S dS D : Addr} {rv : Value} {po nf : Int} {t1 t2 t : Tok} {N : List Nd} {k : Wd}
    (G : Gd w mg mb z.heap) (hDs : (D == sysModules) = false) (H : Stt z s (srtL prog w S dS D rv po t1 nf t2 N L)) (hA : A.depth ≤ 700) (hz : N.length ≤ 100)
    (h1 : ∀ N1 n N2 s', N = N1 ++ n :: N2 → n.wd = k → Stt z s' (srtL prog w S dS D rv po t1 nf t2 N L) → R (.ok (.ret (.ref n.x))) s')
    (h2 : ∀ n s', (∀ m ∈ N, m.wd ≠ k) → n.wd = k → n.np = 0 → n.sc = [] → Stt z s' (srtL prog w S dS D rv po t1 nf t2 (N ++ [n]) L) → R (.ok (.ret (.ref n.x))) s') :
    codeAny (model prog w) A (.call (.ref 87) ⟨[.ref S, .bytes k.toArray t], []⟩) R s := by
  refine call_fn (ps := ["self", "node"]) (rest := ["result"]) (names := ["self", "node", "result"]) (vals := [some (.ref S), some (.bytes k.toArray t), none]) (gs := ["_NodeInfo"]) G H (by k_is) (by k_is) (by show _ < 1000; omega) rfl (BindsTo.of_eq rfl) rfl rfl rfl (by decide) (by decide) (all_mem rfl) (all_mem rfl) rfl rfl ?_
  clear H
  intro env Lf s he hfr H
  with_reducible refine wpAny_execs_cons ?_
  with_reducible refine wpAny_If ?_
  with_reducible refine wpAny_isTrue_Compare1 ?_ (by with_unfolding_all rfl)
  refine wpAny_NamedExpr ?_
  refine MethodCall_ ?_ rfl
  refine Attribute_any_ ?_
  refine n_local (by with_reducible assumption) (by with_reducible assumption) (by walk_at "mem") (by walk_at "loc") ?_
  (with_reducible rename Stt _ _ _ => hO); refine ga_own (by with_reducible assumption) hO (by walk_at "mem") (by walk_at "mem") (KLoc.eq (by walk_at "kloc")) (by k_is) (by k_is) (by k_is) (by k_is) rfl ?_; intro _ _; clear hO
  rename_i H
  refine gm_dict (dictOf1 H (by walk_at "mem")) PySem.F.slot_dict_get PySem.F.type_dict_get ?_
  with_reducible refine callWith_method1 ?_ rfl rfl
  with_reducible refine spliced_more ?_ rfl
  refine n_local (by with_reducible assumption) (by with_reducible assumption) (by walk_at "mem") (by walk_at "loc") ?_
  with_reducible refine spliced_none ?_
  rcases tab_cases N k with ⟨N1, n, N2, hN, hk, hv⟩ | ⟨hno, hv⟩
  · refine d_get_some H hDs (dictOf1 H (by walk_at "mem")) hv ?_
    clear H
    intro s H
    with_reducible refine wpAny_assign_Name ?_
    (with_reducible rename Stt _ _ _ => hO); refine st_local hO (by with_reducible assumption) (by walk_at "upd") (by walk_at "put") ?_; intro _ _; clear hO
    with_reducible refine Constant_none ?_
    with_reducible refine is_ref ?_
    with_reducible refine wpAny_truthy_bool ?_
    refine iff' ?_
    with_reducible refine wpAny_execs_nil ?_
    with_reducible refine wpAny_execs_cons ?_
    with_reducible refine wpAny_Return_some ?_
    refine n_local (by with_reducible assumption) (by with_reducible assumption) (by walk_at "mem") (by walk_at "loc") ?_
    rename_i H
    exact h1 _ _ _ _ hN hk (Stt.out H .head)
  · refine d_get_none H hDs (dictOf1 H (by walk_at "mem")) hv ?_
    clear H
    intro s H
    with_reducible refine wpAny_assign_Name ?_
    (with_reducible rename Stt _ _ _ => hO); refine st_local hO (by with_reducible assumption) (by walk_at "upd") (by walk_at "put") ?_; intro _ _; clear hO
    with_reducible refine Constant_none ?_
    with_reducible refine is_nn ?_
    with_reducible refine wpAny_truthy_bool ?_
    refine ift ?_
    with_reducible refine wpAny_execs_cons ?_
    refine wpAny_Assign_two ?_ rfl rfl
    with_reducible refine wpAny_Call_NameR ?_
    refine n_glob (by with_reducible assumption) (by with_reducible assumption) (by with_reducible assumption) (by walk_at "mem") (Gd.glob (by with_reducible assumption) (by k_is)) ?_
    refine cw_fn (by with_reducible assumption) (by k_is) ?_ rfl rfl
    with_reducible refine spliced_more ?_ rfl
    refine n_local (by with_reducible assumption) (by with_reducible assumption) (by walk_at "mem") (by walk_at "loc") ?_
    with_reducible refine spliced_none ?_
    refine ⟨⟨_, by with_reducible assumption⟩, ?_⟩
    rename_i H
    refine wpAny_call (mk_node G H (by show A.depth + 1 ≤ 800; omega) ?_)
    clear H
    intro x dx ls tn s H
    show wpAny _ _ _ _ _ _
    refine assign_sub ?_
    refine Attribute_any_ ?_
    refine n_local (by with_reducible assumption) (by with_reducible assumption) (by walk_at "mem") (by walk_at "loc") ?_
    (with_reducible rename Stt _ _ _ => hO); refine ga_own (by with_reducible assumption) hO (by walk_at "mem") (by walk_at "mem") (KLoc.eq (by walk_at "kloc")) (by k_is) (by k_is) (by k_is) (by k_is) rfl ?_; intro _ _; clear hO
    refine n_local (by with_reducible assumption) (by with_reducible assumption) (by walk_at "mem") (by walk_at "loc") ?_
    rename_i H
    refine d_set H (by walk_at "upd") (by simp [tabOf, sizeLine]; omega) ?_
    clear H
    intro s H
    with_reducible refine wpAny_assign_Name ?_
    (with_reducible rename Stt _ _ _ => hO); refine st_local hO (by with_reducible assumption) (by walk_at "upd") (by walk_at "put") ?_; intro _ _; clear hO
    with_reducible refine wpAny_execs_nil ?_
    with_reducible refine wpAny_execs_cons ?_
    with_reducible refine wpAny_Return_some ?_
    refine n_local (by with_reducible assumption) (by with_reducible assumption) (by walk_at "mem") (by walk_at "loc") ?_
    rename_i H
    have e := tab_stored (N := N) (n := ⟨k, t, x, dx, ls, 0, tn, []⟩) hno
    dsimp only at e
    rw [e] at H
    refine h2 ⟨k, t, x, dx, ls, 0, tn, []⟩ _ hno rfl rfl rfl (Stt.perm (Stt.out H (.tail (.tail (.tail .head)))) ?_)
    exact perm_new ⟨k, t, x, dx, ls, 0, tn, []⟩ N [(S, _), (dS, _), (D, _)] L

end
section
/-! ## The graph -/
inductive WsAre : List Value → List Wd → Prop
  | nil : WsAre [] []
  | cons (k : Wd) (t : Tok) {vs : List Value} {ks : List Wd} : WsAre vs ks → WsAre (.bytes k.toArray t :: vs) (k :: ks)
theorem WsAre.length {vs : List Value} {ks : List Wd} (h : WsAre vs ks) : vs.length = ks.length := by
  induction h with
  | nil => rfl
  | cons _ _ _ ih => simp [ih]
theorem WsAre.append {vs us : List Value} {ks ls : List Wd} (h : WsAre vs ks) (g : WsAre us ls) : WsAre (vs ++ us) (ks ++ ls) := by
  induction h with
  | nil => exact g
  | cons k t _ ih => exact .cons k t ih
theorem WsAre.get {vs : List Value} {ks : List Wd} {i : Nat} {v : Value} (h : WsAre vs ks) (hi : vs[i]? = some v) : ∃ k t, v = .bytes k.toArray t ∧ ks[i]? = some k := by
  induction h generalizing i with
  | nil => simp at hi
  | cons k t _ ih =>
    cases i with
    | zero => simp at hi; exact ⟨k, t, hi.symm, rfl⟩
    | succ i => simp at hi; simpa using ih hi
structure Ag where
  wd : Wd
  np : Int
  sc : List Wd
inductive NIs : List Nd → List Ag → Prop
  | nil : NIs [] []
  | cons {n : Nd} {a : Ag} {N : List Nd} {g : List Ag} : n.wd = a.wd → n.np = a.np → WsAre n.sc a.sc → NIs N g → NIs (n :: N) (a :: g)
noncomputable def ensure (g : List Ag) (k : Wd) : List Ag := if g.any (fun a => a.wd = k) then g else g ++ [⟨k, 0, []⟩]
noncomputable def bump (g : List Ag) (k : Wd) (d : Int) : List Ag := g.map fun a => if a.wd = k then { a with np := a.np + d } else a
noncomputable def addS (g : List Ag) (p k : Wd) : List Ag := g.map fun a => if a.wd = p then { a with sc := a.sc ++ [k] } else a
noncomputable def addG (g : List Ag) (k : Wd) (ps : List Wd) : List Ag := ps.foldl (fun g p => addS (ensure g p) p k) (bump (ensure g k) k ps.length)
theorem NIs.length {N : List Nd} {g : List Ag} (h : NIs N g) : N.length = g.length := by
  induction h with
  | nil => rfl
  | cons _ _ _ _ ih => simp [ih]
theorem NIs.words {N : List Nd} {g : List Ag} (h : NIs N g) : N.map (·.wd) = g.map (·.wd) := by
  induction h with
  | nil => rfl
  | cons h1 _ _ _ ih => simp [ih, h1]
theorem NIs.append {N M : List Nd} {g f : List Ag} (h : NIs N g) (k : NIs M f) : NIs (N ++ M) (g ++ f) := by
  induction h with
  | nil => exact k
  | cons h1 h2 h3 _ ih => exact .cons h1 h2 h3 ih
theorem NIs.split {N1 N2 : List Nd} {n : Nd} {g : List Ag} (h : NIs (N1 ++ n :: N2) g) : ∃ g1 a g2, g = g1 ++ a :: g2 ∧ NIs N1 g1 ∧ n.wd = a.wd ∧ n.np = a.np ∧ WsAre n.sc a.sc ∧ NIs N2 g2 := by
  induction N1 generalizing g with
  | nil => cases h with | cons h1 h2 h3 h4 => exact ⟨[], _, _, rfl, .nil, h1, h2, h3, h4⟩
  | cons m N1 ih =>
    cases h with | cons h1 h2 h3 h4 =>
    obtain ⟨g1, a, g2, rfl, q⟩ := ih h4
    exact ⟨_ :: g1, a, g2, rfl, .cons h1 h2 h3 q.1, q.2⟩
theorem map_other {g : List Ag} {k : Wd} {f : Ag → Ag} (h : ∀ a ∈ g, a.wd ≠ k) : (g.map fun a => if a.wd = k then f a else a) = g := by
  induction g with
  | nil => rfl
  | cons a g ih => rw [List.map_cons, if_neg (h a List.mem_cons_self), ih fun b hb => h b (List.mem_cons_of_mem _ hb)]
theorem map_mid {g1 g2 : List Ag} {a : Ag} {k : Wd} {f : Ag → Ag} (hk : a.wd = k) (nd : ((g1 ++ a :: g2).map (·.wd)).Nodup) : ((g1 ++ a :: g2).map fun a => if a.wd = k then f a else a) = g1 ++ f a :: g2 := by
  rw [List.map_append, List.map_cons, List.nodup_append] at nd
  rw [List.map_append, List.map_cons, if_pos hk, map_other, map_other]
  · intro b hb e
    exact (List.nodup_cons.mp nd.2.1).1 (by rw [hk, ← e]; exact List.mem_map_of_mem hb)
  · intro b hb e
    exact nd.2.2 b.wd (List.mem_map_of_mem hb) a.wd List.mem_cons_self (by rw [hk, ← e])
theorem NIs.bump {N1 N2 : List Nd} {n : Nd} {g : List Ag} {k : Wd} {d : Int} {t : Tok} (h : NIs (N1 ++ n :: N2) g) (hk : n.wd = k) (nd : ((N1 ++ n :: N2).map (·.wd)).Nodup) : NIs (N1 ++ { n with np := n.np + d, nt := t } :: N2) (bump g k d) := by
  rw [h.words] at nd
  obtain ⟨g1, a, g2, rfl, h1, h2, h3, h4, h5⟩ := h.split
  unfold Mine.bump
  rw [map_mid (h2.symm.trans hk) nd]
  exact h1.append (.cons h2 (by show _ + _ = _ + _; rw [h3]) h4 h5)
theorem NIs.addS {N1 N2 : List Nd} {n : Nd} {g : List Ag} {p k : Wd} {t : Tok} (h : NIs (N1 ++ n :: N2) g) (hk : n.wd = p) (nd : ((N1 ++ n :: N2).map (·.wd)).Nodup) : NIs (N1 ++ { n with sc := n.sc ++ [.bytes k.toArray t] } :: N2) (addS g p k) := by
  rw [h.words] at nd
  obtain ⟨g1, a, g2, rfl, h1, h2, h3, h4, h5⟩ := h.split
  unfold Mine.addS
  rw [map_mid (h2.symm.trans hk) nd]
  exact h1.append (.cons h2 h3 (h4.append (.cons k t .nil)) h5)
theorem NIs.any {N : List Nd} {g : List Ag} (h : NIs N g) (k : Wd) : g.any (fun a => a.wd = k) = true ↔ ∃ n ∈ N, n.wd = k := by
  induction h with
  | nil => simp
  | cons h1 _ _ _ ih => rw [List.any_cons, Bool.or_eq_true, ih, decide_eq_true_eq, ← h1]; simp
theorem perm_in (F T M L : Led) : (F ++ (T ++ (M ++ L))).Perm (T ++ (M ++ (F ++ L))) := (List.perm_append_comm_assoc _ _ _).trans (List.Perm.append_left _ (List.perm_append_comm_assoc _ _ _))
section
variable {w : World} {mg mb : Str → Option Value} {prog : Program} {A : Around} {E : Value → Shared → Prop} {z s : Shared} {L L' F : Led} {R : Result → Shared → Prop} {S dS D : Addr} {rv : Value} {po nf : Int} {t1 t2 t : Tok} {N : List Nd} {g : List Ag} {k : Wd}
theorem toIn (H : Stt z s (F ++ srtL prog w S dS D rv po t1 nf t2 N L)) : Stt z s (srtL prog w S dS D rv po t1 nf t2 N (F ++ L)) :=
  H.perm (perm_in F [(S, Ins 144 dS #[]), (dS, Atr (attrs D rv po t1 nf t2)), (D, Dct prog w (tabOf N))] (nodesL N) L)
theorem toOut (F : Led) (H : Stt z s (srtL prog w S dS D rv po t1 nf t2 N (F ++ L))) : Stt z s (F ++ srtL prog w S dS D rv po t1 nf t2 N L) :=
  H.perm (perm_in F [(S, Ins 144 dS #[]), (dS, Atr (attrs D rv po t1 nf t2)), (D, Dct prog w (tabOf N))] (nodesL N) L).symm
theorem nd_of {d : Addr} (H : Stt z s L) (hm : (d, Dct prog w (tabOf N)) ∈ L) : (N.map (·.wd)).Nodup := by
  obtain ⟨o, _, es, ep, _, _, _, _, h⟩ := H.get hm
  simpa [tabOf, Function.comp_def] using h
theorem get_node (G : Gd w mg mb z.heap) (hDs : (D == sysModules) = false) (H : Stt z s (srtL prog w S dS D rv po t1 nf t2 N L)) (hg : NIs N g) (hA : A.depth ≤ 700) (hz : N.length ≤ 100)
    (h : ∀ N1 n N2 s', NIs (N1 ++ n :: N2) (ensure g k) → n.wd = k → (N1 ++ n :: N2).length ≤ N.length + 1 → Stt z s' (srtL prog w S dS D rv po t1 nf t2 (N1 ++ n :: N2) L) → R (.ok (.ret (.ref n.x))) s') :
    codeAny (model prog w) A (.call (.ref 87) ⟨[.ref S, .bytes k.toArray t], []⟩) R s := by
  refine get_nodeinfo G hDs H hA hz (fun N1 n N2 s' e hk H' => ?_) (fun n s' hno hk h1 h2 H' => ?_)
  · subst e
    refine h N1 n N2 s' ?_ hk (by omega) H'
    unfold ensure
    rw [if_pos ((hg.any k).mpr ⟨n, by simp, hk⟩)]; exact hg
  · refine h N n [] s' ?_ hk (by simp) H'
    unfold ensure
    rw [if_neg]
    · exact hg.append (.cons hk h1 (by rw [h2]; exact .nil) .nil)
    · rw [hg.any k]; rintro ⟨m, hm, e⟩; exact hno m hm e
end
noncomputable def TIt (l : Addr) (i : Nat) : Pr := fun o => o.cls = .type "tuple_iterator" ∧ o.data = .fields #[.ref l, .int i 0]
section
variable {w : World} {prog : Program} {A : Around} {E : Value → Shared → Prop} {z s : Shared} {L L' : Led}
theorem it_tup {l : Addr} {xs : List Value} {Q : Value → Shared → Prop} (H : Stt z s L) (hm : (l, Tup xs) ∈ L) (h : ∀ c s', Stt z s' ((c, TIt l 0) :: L) → Q (.ref c) s') :
    wpAny (model prog w) A (pyIter (.ref l)) Q E s := wpAny_pyIter_tuple (isTuple H hm) (h _ _ (H.alloc (t := s.toks) rfl ⟨rfl, rfl⟩))
theorem nx_tup {c l : Addr} {i : Nat} {xs : List Value} {v : Value} {Q : Option Value → Shared → Prop} (H : Stt z s L) (U : Upd L c (TIt l i) (TIt l (i + 1)) L') (hl : (l, Tup xs) ∈ L) (hx : xs[i]? = some v)
    (h : ∀ s', Stt z s' L' → Q (some v) s') : wpAny (model prog w) A (pyNext (.ref c)) Q E s := by
  obtain ⟨o, h1, h2⟩ := H.get U.mem
  exact wpAny_pyNext_tuple_item ⟨o, h1, h2⟩ (isTuple H hl) (by simpa using hx) fun h' hp hs => h _ (H.upd (t := s.toks) U hs hp)
theorem nx_tup_end {c l : Addr} {i : Nat} {xs : List Value} {Q : Option Value → Shared → Prop} (hh : A.handled = none) (H : Stt z s L) (U : Out L c (TIt l i) L') (hl : (l, Tup xs) ∈ L) (hx : xs[i]? = none)
    (h : ∀ s', Stt z s' L' → Q none s') : wpAny (model prog w) A (pyNext (.ref c)) Q E s := by
  obtain ⟨o, h1, h2⟩ := H.get U.mem
  refine wpAny_pyNext_tuple_end hh ⟨o, h1, h2⟩ (isTuple H hl) (by simpa using hx) fun h' hx' => h _ ?_
  have := H.extBut U.mem hx'
  rw [U.ne H.nd] at this
  exact this
end

end
section
theorem star_binds {fd : FuncData} (pre : List Value) (ps : List Str) (va : Str) (vs : List Value) (h0 : bindArgs fd ⟨pre ++ [], []⟩ = newTuple [] >>= fun t => pure (ps.zip pre ++ [(va, t)]))
    (h1 : ∀ v r, bindArgs fd ⟨pre ++ v :: r, []⟩ = newTuple (v :: r) >>= fun t => pure (ps.zip pre ++ [(va, t)])) :
    bindArgs fd ⟨pre ++ vs, []⟩ = newTuple vs >>= fun t => pure (ps.zip pre ++ [(va, t)]) := by
  cases vs with
  | nil => exact h0
  | cons v r => exact h1 v r
noncomputable def scB (g : List Ag) (b : Nat) : Prop := ∀ a ∈ g, a.sc.length ≤ b
theorem scB.ensure {g : List Ag} {b : Nat} (h : scB g b) (k : Wd) : scB (ensure g k) b := by
  unfold Mine.ensure
  split
  · exact h
  · intro a ha
    rcases List.mem_append.mp ha with q | q
    · exact h a q
    · rw [List.mem_singleton] at q; subst q; simp
theorem scB.bump {g : List Ag} {b : Nat} (h : scB g b) (k : Wd) (d : Int) : scB (bump g k d) b := by
  intro a ha
  obtain ⟨a', h1, rfl⟩ := List.mem_map.mp ha
  have := h a' h1
  split <;> exact this
theorem scB.addS {g : List Ag} {b : Nat} (h : scB g b) (p k : Wd) : scB (addS g p k) (b + 1) := by
  intro a ha
  obtain ⟨a', h1, rfl⟩ := List.mem_map.mp ha
  have := h a' h1
  split
  · show (a'.sc ++ [k]).length ≤ _; simp; omega
  · omega
theorem scB.fold {b : Nat} {k : Wd} : ∀ (ps : List Wd) {g : List Ag}, scB g b → scB (ps.foldl (fun g p => Mine.addS (Mine.ensure g p) p k) g) (b + ps.length)
  | [], g, h => h
  | p :: ps, g, h => by
    have := scB.fold (k := k) ps (((h.ensure p).addS p k))
    rw [List.foldl_cons, List.length_cons]
    rw [show b + (ps.length + 1) = b + 1 + ps.length by omega]; exact this
theorem scB.addG {g : List Ag} {b : Nat} (h : scB g b) (k : Wd) (ps : List Wd) : scB (addG g k ps) (b + ps.length) := scB.fold ps ((h.ensure k).bump k _)
theorem NIs.sc {N1 N2 : List Nd} {n : Nd} {g : List Ag} {b : Nat} (h : NIs (N1 ++ n :: N2) g) (hb : scB g b) : n.sc.length ≤ b := by
  obtain ⟨g1, a, g2, rfl, h1, h2, h3, h4, h5⟩ := h.split
  rw [h4.length]; exact hb a (by simp)
theorem tab_np {N1 N2 : List Nd} {n : Nd} {a : Int} {b : Tok} : tabOf (N1 ++ n :: N2) = tabOf (N1 ++ { n with np := a, nt := b } :: N2) := by simp [tabOf]
theorem tab_sc {N1 N2 : List Nd} {n : Nd} {xs : List Value} : tabOf (N1 ++ n :: N2) = tabOf (N1 ++ { n with sc := xs } :: N2) := by simp [tabOf]
theorem s_addm {w : World} {mg mb : Str → Option Value} {prog : Program} {A : Around} {z s : Shared} {L : Led} {R : Result → Shared → Prop} {S dS D : Addr} {po nf : Int} {t1 t2 t : Tok} {N : List Nd} {g : List Ag} {k : Wd} {vs : List Value} {ps : List Wd}
    (G : Gd w mg mb z.heap) (hDs : (D == sysModules) = false) (H : Stt z s (srtL prog w S dS D .none po t1 nf t2 N L)) (hg : NIs N g) (hp : WsAre vs ps) (hA : A.depth ≤ 600) (hh : A.handled = none) (hz : N.length + vs.length ≤ 90) {b : Nat} (hb : scB g b) (hb9 : b ≤ 900)
    (h : ∀ N' s', NIs N' (addG g k ps) → Stt z s' (srtL prog w S dS D .none po t1 nf t2 N' L) → R (.ok (.ret .none)) s') :
    codeAny (model prog w) A (.call (.ref 94) ⟨[.ref S, .bytes k.toArray t] ++ vs, []⟩) R s := by
  refine call_fnV (ps := ["self", "node"]) (va := "predecessors") (rest := ["nodeinfo", "pred", "pred_info"]) (names := ["self", "node", "predecessors", "nodeinfo", "pred", "pred_info"]) (gs := ["ValueError", "len"]) G H (by k_is) (by k_is) (by show _ < 1000; omega) rfl (star_binds _ _ _ vs rfl (fun _ _ => rfl)) rfl rfl (by decide) (by simp [sizeLine]; omega) (by decide) (all_mem rfl) (all_mem rfl) rfl rfl ?_
  clear H
  intro env Lf c s he hfr H
  replace H : Stt z s ((Lf, Fra ["self", "node", "predecessors", "nodeinfo", "pred", "pred_info"] [some (.ref S), some (.bytes k.toArray t), some (.ref c), none, none, none]) :: (c, Tup vs) :: srtL prog w S dS D .none po t1 nf t2 N L) := H
  with_reducible refine wpAny_execs_cons ?_
  with_reducible refine wpAny_If ?_
  with_reducible refine wpAny_isTrue_Compare1 ?_ (by with_unfolding_all rfl)
  refine Attribute_any_ ?_
  refine n_local (by with_reducible assumption) (by with_reducible assumption) (by walk_at "mem") (by walk_at "loc") ?_
  (with_reducible rename Stt _ _ _ => hO); refine ga_own (by with_reducible assumption) hO (by walk_at "mem") (by walk_at "mem") (KLoc.eq (by walk_at "kloc")) (by k_is) (by k_is) (by k_is) (by k_is) rfl ?_; intro _ _; clear hO
  with_reducible refine Constant_none ?_
  with_reducible refine isn_nn ?_
  with_reducible refine wpAny_truthy_bool ?_
  refine iff' ?_
  with_reducible refine wpAny_execs_nil ?_
  with_reducible refine wpAny_execs_cons ?_
  with_reducible refine wpAny_Assign_Name ?_ rfl
  refine MethodCall_ ?_ rfl
  refine n_local (by with_reducible assumption) (by with_reducible assumption) (by walk_at "mem") (by walk_at "loc") ?_
  refine gm_inst (by with_reducible assumption) (by with_reducible assumption) (by walk_at "mem") (by walk_at "mem") rfl (by k_is) (by k_is) (by k_is) ?_
  refine cw_fn (by with_reducible assumption) (by k_is) ?_ rfl rfl
  with_reducible refine spliced_more ?_ rfl
  refine n_local (by with_reducible assumption) (by with_reducible assumption) (by walk_at "mem") (by walk_at "loc") ?_
  with_reducible refine spliced_none ?_
  refine ⟨⟨_, by with_reducible assumption⟩, ?_⟩
  rename_i H
  refine wpAny_call (get_node G hDs (toIn (F := [_, _]) H) hg (by show A.depth + 1 ≤ 700; omega) (by omega) ?_)
  clear H
  intro N1 n N2 s hg1 hk hlen H
  replace H : Stt z s ((Lf, _) :: (c, _) :: srtL prog w S dS D .none po t1 nf t2 (N1 ++ n :: N2) L) := toOut [_, _] H
  show wpAny _ _ _ _ _ _
  (with_reducible rename Stt _ _ _ => hO); refine st_local hO (by with_reducible assumption) (by walk_at "upd") (by walk_at "put") ?_; intro _ _; clear hO
  with_reducible refine wpAny_execs_cons ?_
  with_reducible refine wpAny_AugAssign_AttributeAny ?_
  refine n_local (by with_reducible assumption) (by with_reducible assumption) (by walk_at "mem") (by walk_at "loc") ?_
  rename_i H
  refine gs_np G H ((by (repeat apply List.mem_cons_of_mem); exact mem_x)) ((by (repeat apply List.mem_cons_of_mem); exact mem_dx)) rfl ?_
  clear H
  intro s H
  with_reducible refine wpAny_Call_NameR ?_
  refine n_built (by with_reducible assumption) (by with_reducible assumption) (by with_reducible assumption) (by walk_at "mem") (Gd.noglob (by with_reducible assumption) (by k_is)) (by boot_by_name) (by decide) ?_
  with_reducible refine callWith_builtin1 ?_ rfl rfl
  with_reducible refine spliced_more ?_ rfl
  refine n_local (by with_reducible assumption) (by with_reducible assumption) (by walk_at "mem") (by walk_at "loc") ?_
  with_reducible refine spliced_none ?_
  refine t_len H (by walk_at "mem") (by omega) ?_
  clear H
  intro s tl H
  (with_reducible rename Stt _ _ _ => hO); with_reducible refine i_iadd hO ?_; intro _ _ _; clear hO
  rename_i H
  refine ss_np' G H ((by (repeat apply List.mem_cons_of_mem); exact mem_dx)) (by (repeat apply Upd.tail); exact upd_np _ _) ?_
  clear H
  intro s H
  rename_i t3
  have nd0 : ((N1 ++ n :: N2).map (·.wd)).Nodup := nd_of H (by walk_at "mem")
  have hg2 := hg1.bump (d := (vs.length : Int)) (t := t3) hk nd0
  rw [tab_np (n := n) (a := n.np + (vs.length : Int)) (b := t3)] at H
  have hl1 : (N1 ++ { n with np := n.np + (vs.length : Int), nt := t3 } :: N2).length ≤ N.length + 1 := by simpa using hlen
  generalize N1 ++ { n with np := n.np + (vs.length : Int), nt := t3 } :: N2 = M at H hg2 hl1
  have hlp := hp.length
  rw [hlp] at hg2
  clear nd0 hg1 hlen
  with_reducible refine wpAny_execs_cons ?_
  rename_i H
  refine wpAny_For ?_
  refine n_local (by with_reducible assumption) (by with_reducible assumption) (by walk_at "mem") (by walk_at "loc") ?_
  refine it_tup H (by walk_at "mem") ?_
  clear H
  intro it s H
  refine codeAny_forLoop (fun kk s => ∃ (i : Nat) (N' : List Nd) (vp vi : Option Value), i + kk = vs.length ∧ N'.length ≤ N.length + 1 + i ∧ NIs N' ((ps.take i).foldl (fun g p => addS (ensure g p) p k) (bump (ensure g k) k ps.length)) ∧
    Stt z s ((it, TIt c i) :: (Lf, Fra ["self", "node", "predecessors", "nodeinfo", "pred", "pred_info"] [some (.ref S), some (.bytes k.toArray t), some (.ref c), some (.ref n.x), vp, vi]) :: (c, Tup vs) :: srtL prog w S dS D .none po t1 nf t2 N' L)) ?_ vs.length ⟨0, M, none, none, by omega, by omega, hg2, H⟩
  clear H hg2 hl1
  intro kk s ⟨i, N', vp, vi, hi, hl, hg3, H⟩
  by_cases hlt : i < vs.length
  · obtain ⟨v, hv⟩ : ∃ v, vs[i]? = some v := ⟨_, List.getElem?_eq_getElem hlt⟩
    obtain ⟨q, tq, rfl, hq⟩ := hp.get hv
    refine nx_tup H .head (by walk_at "mem") hv ?_
    clear H
    intro s H
    dsimp only
    with_reducible refine wpAny_assign_Name ?_
    (with_reducible rename Stt _ _ _ => hO); refine st_local hO (by with_reducible assumption) (by walk_at "upd") (by walk_at "put") ?_; intro _ _; clear hO
    with_reducible refine wpAny_execs_cons ?_
    with_reducible refine wpAny_Assign_Name ?_ rfl
    refine MethodCall_ ?_ rfl
    refine n_local (by with_reducible assumption) (by with_reducible assumption) (by walk_at "mem") (by walk_at "loc") ?_
    refine gm_inst (by with_reducible assumption) (by with_reducible assumption) (by walk_at "mem") (by walk_at "mem") rfl (by k_is) (by k_is) (by k_is) ?_
    refine cw_fn (by with_reducible assumption) (by k_is) ?_ rfl rfl
    with_reducible refine spliced_more ?_ rfl
    refine n_local (by with_reducible assumption) (by with_reducible assumption) (by walk_at "mem") (by walk_at "loc") ?_
    with_reducible refine spliced_none ?_
    refine ⟨⟨_, by with_reducible assumption⟩, ?_⟩
    rename_i H
    refine wpAny_call (get_node G hDs (toIn (F := [_, _, _]) H) hg3 (by show A.depth + 1 ≤ 700; omega) (by omega) ?_)
    clear H
    intro M1 m M2 s hg4 hk4 hlen4 H
    replace H : Stt z s ((it, _) :: (Lf, _) :: (c, _) :: srtL prog w S dS D .none po t1 nf t2 (M1 ++ m :: M2) L) := toOut [_, _, _] H
    have nd0 : ((M1 ++ m :: M2).map (·.wd)).Nodup := nd_of H (by walk_at "mem")
    show wpAny _ _ _ _ _ _
    (with_reducible rename Stt _ _ _ => hO); refine st_local hO (by with_reducible assumption) (by walk_at "upd") (by walk_at "put") ?_; intro _ _; clear hO
    with_reducible refine wpAny_execs_cons ?_
    refine x_Expr (by with_reducible assumption) ?_ rfl
    refine MethodCall_ ?_ rfl
    refine Attribute_any_ ?_
    refine n_local (by with_reducible assumption) (by with_reducible assumption) (by walk_at "mem") (by walk_at "loc") ?_
    rename_i H
    refine gs_suc G H ((by (repeat apply List.mem_cons_of_mem); exact mem_x)) ((by (repeat apply List.mem_cons_of_mem); exact mem_dx)) rfl ?_
    clear H
    intro s H
    refine gm_append H ((by (repeat apply List.mem_cons_of_mem); exact mem_ls)) ?_
    with_reducible refine callWith_method1 ?_ rfl rfl
    with_reducible refine spliced_more ?_ rfl
    refine n_local (by with_reducible assumption) (by with_reducible assumption) (by walk_at "mem") (by walk_at "loc") ?_
    with_reducible refine spliced_none ?_
    refine l_append H (by (repeat apply Upd.tail); exact upd_sc _) ?_ ?_
    · have := hg4.sc (((scB.fold (k := k) (ps.take i) ((hb.ensure k).bump k ps.length))).ensure q)
      have h2 := List.length_take_le i ps
      simp [sizeLine]; omega
    clear H
    intro s H
    with_reducible refine wpAny_execs_nil ?_
    rw [tab_sc (n := m) (xs := m.sc ++ [.bytes k.toArray t])] at H
    refine ⟨kk - 1, by omega, i + 1, _, _, _, by omega, ?_, ?_, H⟩
    · have : (M1 ++ { m with sc := m.sc ++ [Value.bytes (List.toArray k) t] } :: M2).length = (M1 ++ m :: M2).length := by simp
      omega
    · rw [List.take_add_one, hq, List.foldl_append]
      exact hg4.addS hk4 nd0
  · refine nx_tup_end hh H .head (by walk_at "mem") (List.getElem?_eq_none (by omega)) ?_
    clear H
    intro s H
    dsimp only
    with_reducible refine wpAny_execs_nil ?_
    with_reducible refine wpAny_execs_nil ?_
    refine h _ _ ?_ (Stt.out (Stt.out H .head) .head)
    rw [List.take_of_length_le (by omega)] at hg3
    exact hg3

end
section
/-! ## A new sorter -/
section
variable {w : World} {mg mb : Str → Option Value} {prog : Program} {A : Around} {z s : Shared} {L : Led}
theorem call_fnB {R : Result → Shared → Prop} {f : Addr} {fd : FuncData} {oc : Value} {od : Option Addr} {osl : Array (Option Value)} {body : List Stmt} (ps rest gs : List Str) {args bargs : List Value} {names : List Str} {vals : List (Option Value)}
    (G : Gd w mg mb z.heap) (H : Stt z s L) (ho : (hd.heap_1 w.params).lookup f = some ⟨oc, od, .func fd, osl⟩) (hcd : codeIn (hd.heap_1 w.params) fd.code fd.qualname = true) (hroom : A.depth < recursionLimit)
    (hbody : fd.body = .stmts body) (hbind : BindsTo s fd ⟨args, []⟩ (ps.zip bargs)) (hlen : ps.length = bargs.length) (hn : ps ++ rest = names) (hv : bargs.map some ++ rest.map (fun _ => none) = vals) (hnd : names.Nodup)
    (hcell : ∀ x ∈ fd.scope.names, x.2 ≠ .cell) (hloc : ∀ x ∈ names, fd.scope.names.lookup x = some .local) (hglo : ∀ x ∈ gs, fd.scope.names.lookup x = some .globalImplicit)
    (hgl : fd.globals = mainGlobals) (hbi : fd.builtins = builtinsNs)
    (h : ∀ env Lf s', EnvIs env Lf names gs [] → env.frame = some Lf → Stt z s' ((Lf, Fra names vals) :: L) →
      wpAny (model prog w) (A.deeper env) (execs body env) (fun fl s' => R (.ok (.ret (match fl with | .ret v => v | _ => .none))) s') (fun _ _ => False) s')
    (hco : fd.scope.isCoroutine = false := by rfl) (hgen : fd.scope.isGenerator = false := by rfl) (hk : fd.scope.kind = .function := by rfl) :
    codeAny (model prog w) A (.call (.ref f) ⟨args, []⟩) R s := by
  subst hn hv
  refine codeAny_call_def hroom (H.keep _ _ (G.X _ _ ho)) rfl (G.nl.keeps H.keep) (codeRec_of (G.X.keeps H.keep) hcd) hbody hbind hcell ?_ (fun h₁ hn hk' => ?_) hco hgen hk
  · intro x hx
    have := List.of_mem_zip (a := x.1) (b := x.2) hx
    exact hloc _ (List.mem_append_left _ this.1)
  · have hE : EnvIs (callEnv fd s.heap.objs.size f) s.heap.objs.size (ps ++ rest) gs [] :=
      ⟨rfl, hk, hnd, hloc, hglo, fun _ hp => (nomatch hp), hgl, hbi⟩
    have hN : Heap.get? s.heap s.heap.objs.size = none := Heap.get?_none_of_le (Nat.le_refl _)
    obtain ⟨o, e1, e2⟩ := Fra.of_ns hn fun x => look_binds ps bargs rest x hlen hnd
    have HS : Stt z { s with heap := h₁, toks := s.toks + (ps.zip bargs).length } ((s.heap.objs.size, Fra (ps ++ rest) (bargs.map some ++ rest.map fun _ => none)) :: L) :=
      H.cons hk' rfl rfl hN e1 e2
    exact wpAny_mono (h _ _ _ hE rfl HS) (fun _ _ x => x) (fun _ _ x => x.elim)
end
theorem mk_sorter {w : World} {mg mb : Str → Option Value} {prog : Program} {A : Around} {z s : Shared} {L : Led} {R : Result → Shared → Prop}
    (G : Gd w mg mb z.heap) (H : Stt z s L) (hA : A.depth ≤ 800)
    (h : ∀ S dS D t1 t2 s', (D == sysModules) = false → Stt z s' (srtL prog w S dS D .none 0 t1 0 t2 [] L) → R (.ok (.ret (.ref S))) s') :
    codeAny (model prog w) A (.call (.ref 144) ⟨[], []⟩) R s := by
  refine mk_inst G H (by k_is) (by k_is) (by k_is) ?_
  clear H
  intro x dx s H
  refine call_fnB (ps := ["self", "graph"]) (rest := ["node", "predecessors"]) (names := ["self", "graph", "node", "predecessors"]) (bargs := [.ref x, .none]) (vals := [some (.ref x), some .none, none, none]) (gs := []) G H (by k_is) (by k_is) (by rw [depth_under_kw]; show _ < 1000; omega) rfl (by exact binds_K (G.now H) rfl (by k_is) rfl rfl rfl) rfl rfl rfl (by decide) (by decide) (all_mem rfl) (all_mem rfl) rfl rfl ?_
  clear H
  intro env Lf s he hfr H
  with_reducible refine wpAny_execs_cons ?_
  refine plainObj_wpAny_Assign_Attribute ?_ rfl
  refine d_new G H ?_
  clear H
  intro D s hDs H
  refine n_local (by with_reducible assumption) (by with_reducible assumption) (by walk_at "mem") (by walk_at "loc") ?_
  (with_reducible rename Stt _ _ _ => hO); refine sa_own' (by with_reducible assumption) hO (by walk_at "mem") (by walk_at "upd") (by walk_at "kput") (by exact Nat.le_of_ble_eq_true rfl) (by k_is) (by k_is) (by k_is) (by k_is) ?_; intro _ _; clear hO
  with_reducible refine wpAny_execs_cons ?_
  refine plainObj_wpAny_Assign_Attribute ?_ rfl
  with_reducible refine Constant_none ?_
  refine n_local (by with_reducible assumption) (by with_reducible assumption) (by walk_at "mem") (by walk_at "loc") ?_
  (with_reducible rename Stt _ _ _ => hO); refine sa_own' (by with_reducible assumption) hO (by walk_at "mem") (by walk_at "upd") (by walk_at "kput") (by exact Nat.le_of_ble_eq_true rfl) (by k_is) (by k_is) (by k_is) (by k_is) ?_; intro _ _; clear hO
  with_reducible refine wpAny_execs_cons ?_
  refine plainObj_wpAny_Assign_Attribute ?_ rfl
  (with_reducible rename Stt _ _ _ => hO); with_reducible refine c_int hO ?_; intro _ _ _; clear hO
  refine n_local (by with_reducible assumption) (by with_reducible assumption) (by walk_at "mem") (by walk_at "loc") ?_
  (with_reducible rename Stt _ _ _ => hO); refine sa_own' (by with_reducible assumption) hO (by walk_at "mem") (by walk_at "upd") (by walk_at "kput") (by exact Nat.le_of_ble_eq_true rfl) (by k_is) (by k_is) (by k_is) (by k_is) ?_; intro _ _; clear hO
  with_reducible refine wpAny_execs_cons ?_
  refine plainObj_wpAny_Assign_Attribute ?_ rfl
  (with_reducible rename Stt _ _ _ => hO); with_reducible refine c_int hO ?_; intro _ _ _; clear hO
  refine n_local (by with_reducible assumption) (by with_reducible assumption) (by walk_at "mem") (by walk_at "loc") ?_
  (with_reducible rename Stt _ _ _ => hO); refine sa_own' (by with_reducible assumption) hO (by walk_at "mem") (by walk_at "upd") (by walk_at "kput") (by exact Nat.le_of_ble_eq_true rfl) (by k_is) (by k_is) (by k_is) (by k_is) ?_; intro _ _; clear hO
  with_reducible refine wpAny_execs_cons ?_
  with_reducible refine wpAny_If ?_
  with_reducible refine wpAny_isTrue_Compare1 ?_ (by with_unfolding_all rfl)
  refine n_local (by with_reducible assumption) (by with_reducible assumption) (by walk_at "mem") (by walk_at "loc") ?_
  with_reducible refine Constant_none ?_
  with_reducible refine isn_nn ?_
  with_reducible refine wpAny_truthy_bool ?_
  refine iff' ?_
  with_reducible refine wpAny_execs_nil ?_
  with_reducible refine wpAny_execs_nil ?_
  rename_i H
  exact ⟨rfl, h _ _ D _ _ _ hDs (Stt.perm (Stt.out H (.tail .head)) ((List.Perm.swap _ _ _).trans ((List.Perm.swap _ _ _).cons _)))⟩

end
section
/-! ## get_ready -/
noncomputable abbrev srtR (prog : Program) (w : World) (S dS D Rd : Addr) (rs : List Value) (po : Int) (t1 : Tok) (nf : Int) (t2 : Tok) (N : List Nd) (L : Led) : Led :=
  (S, Ins 144 dS #[]) :: (dS, Atr (attrs D (.ref Rd) po t1 nf t2)) :: (D, Dct prog w (tabOf N)) :: (Rd, Lst rs) :: (nodesL N ++ L)
noncomputable def setG (g : List Ag) (k : Wd) (v : Int) : List Ag := g.map fun a => if a.wd = k then { a with np := v } else a
theorem NIs.setG {N1 N2 : List Nd} {n : Nd} {g : List Ag} {k : Wd} {d : Int} {t : Tok} (h : NIs (N1 ++ n :: N2) g) (hk : n.wd = k) (nd : ((N1 ++ n :: N2).map (·.wd)).Nodup) : NIs (N1 ++ { n with np := d, nt := t } :: N2) (setG g k d) := by
  rw [h.words] at nd
  obtain ⟨g1, a, g2, rfl, h1, h2, h3, h4, h5⟩ := h.split
  unfold Mine.setG
  rw [map_mid (f := fun a => { a with np := d }) (h2.symm.trans hk) nd]
  exact h1.append (.cons h2 rfl h4 h5)
theorem tab_mem {N : List Nd} {k : Wd} (h : k ∈ N.map (·.wd)) : ∃ N1 n N2, N = N1 ++ n :: N2 ∧ n.wd = k ∧ valueAt (tabOf N) k = some (.ref n.x) := by
  rcases tab_cases N k with q | ⟨q, _⟩
  · exact q
  · obtain ⟨n, hn, e⟩ := List.mem_map.mp h
    exact absurd e (q n hn)
theorem words_np (N1 N2 : List Nd) (n : Nd) (a : Int) (b : Tok) : (N1 ++ { n with np := a, nt := b } :: N2).map (·.wd) = (N1 ++ n :: N2).map (·.wd) := by simp
section
variable {w : World} {prog : Program} {z s : Shared} {L F : Led} {S dS D Rd : Addr} {rs : List Value} {po nf : Int} {t1 t2 : Tok} {N : List Nd}
theorem toInR (H : Stt z s (F ++ srtR prog w S dS D Rd rs po t1 nf t2 N L)) : Stt z s (srtR prog w S dS D Rd rs po t1 nf t2 N (F ++ L)) :=
  H.perm (perm_in F [(S, Ins 144 dS #[]), (dS, Atr (attrs D (.ref Rd) po t1 nf t2)), (D, Dct prog w (tabOf N)), (Rd, Lst rs)] (nodesL N) L)
theorem toOutR (F : Led) (H : Stt z s (srtR prog w S dS D Rd rs po t1 nf t2 N (F ++ L))) : Stt z s (F ++ srtR prog w S dS D Rd rs po t1 nf t2 N L) :=
  H.perm (perm_in F [(S, Ins 144 dS #[]), (dS, Atr (attrs D (.ref Rd) po t1 nf t2)), (D, Dct prog w (tabOf N)), (Rd, Lst rs)] (nodesL N) L).symm
end
theorem d_sub {w : World} {prog : Program} {A : Around} {E : Value → Shared → Prop} {z s : Shared} {L : Led} {d : Addr} {kvs : List (Wd × Value)} {k : Wd} {t : Tok} {v : Value} {value slice : Expr} {Q : Value → Shared → Prop} (H : Stt z s L) (hd : s.heap.DictOf (bytesKind prog w) d kvs) (hv : valueAt kvs k = some v) (h : ∀ s', Stt z s' L → Q v s')
    (hs : subscripted slice false (.ref d) (.bytes k.toArray t) = operate [.ref d, .bytes k.toArray t] (getItem (.ref d) (.bytes k.toArray t)) := by with_unfolding_all rfl) (ht : ∀ r, letTemporaryGo value (.ref d) r = pure () := by intro _; with_unfolding_all rfl) :
    wpAny (model prog w) A (subscriptTail value slice (.ref d) (.bytes k.toArray t)) Q E s :=
  subscriptTail_builtin hd.typeIs slot_dict_getitem.lookup (d_item H hd hv h) hs ht
theorem s_get_ready {w : World} {mg mb : Str → Option Value} {prog : Program} {A : Around} {z s : Shared} {L : Led} {R : Result → Shared → Prop} {S dS D Rd : Addr} {rs : List Value} {ws : List Wd} {po nf : Int} {t1 t2 : Tok} {N : List Nd} {g : List Ag}
    (G : Gd w mg mb z.heap) (H : Stt z s (srtR prog w S dS D Rd rs po t1 nf t2 N L)) (hg : NIs N g) (hr : WsAre rs ws) (hm : ∀ k ∈ ws, k ∈ N.map (·.wd)) (hA : A.depth ≤ 700) (hh : A.handled = none) (hz : rs.length ≤ 1000)
    (h : ∀ N' c t1' s', NIs N' (ws.foldl (fun g k => setG g k (-1)) g) → N'.length = N.length → Stt z s' ((c, Tup rs) :: srtR prog w S dS D Rd [] (po + rs.length) t1' nf t2 N' L) → R (.ok (.ret (.ref c))) s') :
    codeAny (model prog w) A (.call (.ref 106) ⟨[.ref S], []⟩) R s := by
  refine call_fn (ps := ["self"]) (rest := ["result", "n2i", "node"]) (names := ["self", "result", "n2i", "node"]) (vals := [some (.ref S), none, none, none]) (gs := ["ValueError", "tuple", "_NODE_OUT", "len"]) G H (by k_is) (by k_is) (by show _ < 1000; omega) rfl (BindsTo.of_eq rfl) rfl rfl rfl (by decide) (by decide) (all_mem rfl) (all_mem rfl) rfl rfl ?_
  clear H
  intro env Lf s he hfr H
  with_reducible refine wpAny_execs_cons ?_
  with_reducible refine wpAny_If ?_
  with_reducible refine wpAny_isTrue_Compare1 ?_ (by with_unfolding_all rfl)
  refine Attribute_any_ ?_
  refine n_local (by with_reducible assumption) (by with_reducible assumption) (by walk_at "mem") (by walk_at "loc") ?_
  (with_reducible rename Stt _ _ _ => hO); refine ga_own (by with_reducible assumption) hO (by walk_at "mem") (by walk_at "mem") (KLoc.eq (by walk_at "kloc")) (by k_is) (by k_is) (by k_is) (by k_is) rfl ?_; intro _ _; clear hO
  with_reducible refine Constant_none ?_
  with_reducible refine is_ref ?_
  with_reducible refine wpAny_truthy_bool ?_
  refine iff' ?_
  with_reducible refine wpAny_execs_nil ?_
  with_reducible refine wpAny_execs_cons ?_
  with_reducible refine wpAny_Assign_Name ?_ rfl
  with_reducible refine wpAny_Call_NameR ?_
  refine n_built (by with_reducible assumption) (by with_reducible assumption) (by with_reducible assumption) (by walk_at "mem") (Gd.noglob (by with_reducible assumption) (by k_is)) (by boot_by_name) (by decide) ?_
  with_reducible refine PyProof.Rows.callWith_type1 ?_ rfl rfl
  with_reducible refine spliced_more ?_ rfl
  refine Attribute_any_ ?_
  refine n_local (by with_reducible assumption) (by with_reducible assumption) (by walk_at "mem") (by walk_at "loc") ?_
  (with_reducible rename Stt _ _ _ => hO); refine ga_own (by with_reducible assumption) hO (by walk_at "mem") (by walk_at "mem") (KLoc.eq (by walk_at "kloc")) (by k_is) (by k_is) (by k_is) (by k_is) rfl ?_; intro _ _; clear hO
  with_reducible refine spliced_none ?_
  rename_i H
  refine t_oflist H (by walk_at "mem") (by simp [sizeLine]; omega) ?_
  clear H
  intro c s H
  (with_reducible rename Stt _ _ _ => hO); refine st_local hO (by with_reducible assumption) (by walk_at "upd") (by walk_at "put") ?_; intro _ _; clear hO
  with_reducible refine wpAny_execs_cons ?_
  with_reducible refine wpAny_Assign_Name ?_ rfl
  refine Attribute_any_ ?_
  refine n_local (by with_reducible assumption) (by with_reducible assumption) (by walk_at "mem") (by walk_at "loc") ?_
  (with_reducible rename Stt _ _ _ => hO); refine ga_own (by with_reducible assumption) hO (by walk_at "mem") (by walk_at "mem") (KLoc.eq (by walk_at "kloc")) (by k_is) (by k_is) (by k_is) (by k_is) rfl ?_; intro _ _; clear hO
  (with_reducible rename Stt _ _ _ => hO); refine st_local hO (by with_reducible assumption) (by walk_at "upd") (by walk_at "put") ?_; intro _ _; clear hO
  with_reducible refine wpAny_execs_cons ?_
  rename_i H
  refine wpAny_For ?_
  refine n_local (by with_reducible assumption) (by with_reducible assumption) (by walk_at "mem") (by walk_at "loc") ?_
  refine it_tup H (by walk_at "mem") ?_
  clear H
  intro it s H
  refine codeAny_forLoop (fun kk s => ∃ (i : Nat) (N' : List Nd) (vp : Option Value), i + kk = rs.length ∧ N'.length = N.length ∧ N'.map (·.wd) = N.map (·.wd) ∧ NIs N' ((ws.take i).foldl (fun g k => setG g k (-1)) g) ∧
    Stt z s ((it, TIt c i) :: (c, Tup rs) :: (Lf, Fra ["self", "result", "n2i", "node"] [some (.ref S), some (.ref c), some (.ref D), vp]) :: srtR prog w S dS D Rd rs po t1 nf t2 N' L)) ?_ rs.length ⟨0, N, none, by omega, rfl, rfl, hg, H⟩
  clear H
  intro kk s ⟨i, N', vp, hi, hl, hwd, hg3, H⟩
  have hlr := hr.length
  by_cases hlt : i < rs.length
  · obtain ⟨v, hv⟩ : ∃ v, rs[i]? = some v := ⟨_, List.getElem?_eq_getElem hlt⟩
    obtain ⟨q, tq, rfl, hq⟩ := hr.get hv
    refine nx_tup H .head (by walk_at "mem") hv ?_
    clear H
    intro s H
    dsimp only
    with_reducible refine wpAny_assign_Name ?_
    (with_reducible rename Stt _ _ _ => hO); refine st_local hO (by with_reducible assumption) (by walk_at "upd") (by walk_at "put") ?_; intro _ _; clear hO
    with_reducible refine wpAny_execs_cons ?_
    refine plainObj_wpAny_Assign_Attribute ?_ rfl
    refine n_glob (by with_reducible assumption) (by with_reducible assumption) (by with_reducible assumption) (by walk_at "mem") (Gd.glob (by with_reducible assumption) (by k_is)) ?_
    with_reducible refine Subscript_ ?_
    refine n_local (by with_reducible assumption) (by with_reducible assumption) (by walk_at "mem") (by walk_at "loc") ?_
    refine n_local (by with_reducible assumption) (by with_reducible assumption) (by walk_at "mem") (by walk_at "loc") ?_
    rename_i H
    obtain ⟨N1, n, N2, rfl, hk, hva⟩ := tab_mem (N := N') (k := q) (by rw [hwd]; exact hm q (List.mem_of_getElem? hq))
    refine d_sub H (dictOf1 H (by walk_at "mem")) hva ?_
    clear H
    intro s H
    have nd0 : ((N1 ++ n :: N2).map (·.wd)).Nodup := nd_of H (by walk_at "mem")
    refine ss_np' G H ((by (repeat apply List.mem_cons_of_mem); exact mem_dx)) (by (repeat apply Upd.tail); exact upd_np _ _) ?_
    clear H
    intro s H
    with_reducible refine wpAny_execs_nil ?_
    rw [tab_np (n := n) (a := -1) (b := _)] at H
    refine ⟨kk - 1, by omega, i + 1, _, _, by omega, ?_, ?_, ?_, H⟩
    · rw [← hl]; simp
    · rw [words_np]; exact hwd
    · rw [List.take_add_one, hq, List.foldl_append]
      exact hg3.setG hk nd0
  · refine nx_tup_end hh H .head (by walk_at "mem") (List.getElem?_eq_none (by omega)) ?_
    clear H
    intro s H
    dsimp only
    with_reducible refine wpAny_execs_nil ?_
    with_reducible refine wpAny_execs_cons ?_
    refine x_Expr (by with_reducible assumption) ?_ rfl
    refine MethodCall_ ?_ rfl
    refine Attribute_any_ ?_
    refine n_local (by with_reducible assumption) (by with_reducible assumption) (by walk_at "mem") (by walk_at "loc") ?_
    (with_reducible rename Stt _ _ _ => hO); refine ga_own (by with_reducible assumption) hO (by walk_at "mem") (by walk_at "mem") (KLoc.eq (by walk_at "kloc")) (by k_is) (by k_is) (by k_is) (by k_is) rfl ?_; intro _ _; clear hO
    rename_i H
    refine gm_list H (by walk_at "mem") PySem.F.slot_list_clear PySem.F.type_list_clear ?_
    with_reducible refine callWith_method0 ?_
    refine l_clear H (by walk_at "upd") (by simp [sizeLine]; omega) ?_
    clear H
    intro s H
    with_reducible refine wpAny_execs_cons ?_
    with_reducible refine wpAny_AugAssign_AttributeAny ?_
    refine n_local (by with_reducible assumption) (by with_reducible assumption) (by walk_at "mem") (by walk_at "loc") ?_
    (with_reducible rename Stt _ _ _ => hO); refine ga_own (by with_reducible assumption) hO (by walk_at "mem") (by walk_at "mem") (KLoc.eq (by walk_at "kloc")) (by k_is) (by k_is) (by k_is) (by k_is) rfl ?_; intro _ _; clear hO
    with_reducible refine wpAny_Call_NameR ?_
    refine n_built (by with_reducible assumption) (by with_reducible assumption) (by with_reducible assumption) (by walk_at "mem") (Gd.noglob (by with_reducible assumption) (by k_is)) (by boot_by_name) (by decide) ?_
    with_reducible refine callWith_builtin1 ?_ rfl rfl
    with_reducible refine spliced_more ?_ rfl
    refine n_local (by with_reducible assumption) (by with_reducible assumption) (by walk_at "mem") (by walk_at "loc") ?_
    with_reducible refine spliced_none ?_
    rename_i H
    refine t_len H (by walk_at "mem") (by omega) ?_
    clear H
    intro s tl H
    (with_reducible rename Stt _ _ _ => hO); with_reducible refine i_iadd hO ?_; intro _ _ _; clear hO
    (with_reducible rename Stt _ _ _ => hO); refine sa_own' (by with_reducible assumption) hO (by walk_at "mem") (by walk_at "upd") (by walk_at "kput") (by exact Nat.le_of_ble_eq_true rfl) (by k_is) (by k_is) (by k_is) (by k_is) ?_; intro _ _; clear hO
    with_reducible refine wpAny_execs_cons ?_
    with_reducible refine wpAny_Return_some ?_
    refine n_local (by with_reducible assumption) (by with_reducible assumption) (by walk_at "mem") (by walk_at "loc") ?_
    rename_i H
    rw [List.take_of_length_le (by omega)] at hg3
    exact h _ _ _ _ hg3 hl (Stt.out H (.tail .head))

end
section
/-! ## done -/
noncomputable def npAt (g : List Ag) (u : Wd) : Int := ((g.find? fun a => a.wd = u).map (·.np)).getD 0
noncomputable def scAt (g : List Ag) (u : Wd) : List Wd := ((g.find? fun a => a.wd = u).map (·.sc)).getD []
noncomputable def sub1 (st : List Ag × List Wd) (u : Wd) : List Ag × List Wd := (bump st.1 u (-1), if npAt (bump st.1 u (-1)) u = 0 then st.2 ++ [u] else st.2)
noncomputable def done1 (st : List Ag × List Wd) (k : Wd) : List Ag × List Wd := (scAt st.1 k).foldl sub1 (setG st.1 k (-2), st.2)
noncomputable def shp (N : List Nd) : List (Wd × Addr × Addr × List Value) := N.map fun n => (n.wd, n.x, n.ls, n.sc)
theorem shp_words {N M : List Nd} (h : shp N = shp M) : N.map (·.wd) = M.map (·.wd) := by
  have := congrArg (List.map (·.1)) h
  simpa [shp, Function.comp_def] using this
theorem shp_len {N M : List Nd} (h : shp N = shp M) : N.length = M.length := by
  have := congrArg List.length h
  simpa [shp] using this
theorem shp_mem {N M : List Nd} (h : shp N = shp M) {n : Nd} (hn : n ∈ N) : ∃ m ∈ M, m.wd = n.wd ∧ m.x = n.x ∧ m.ls = n.ls ∧ m.sc = n.sc := by
  have : (n.wd, n.x, n.ls, n.sc) ∈ shp M := by rw [← h]; exact List.mem_map.mpr ⟨n, hn, rfl⟩
  obtain ⟨m, hm, e⟩ := List.mem_map.mp this
  simp only [Prod.mk.injEq] at e
  exact ⟨m, hm, e⟩
theorem shp_np {N1 N2 : List Nd} {n : Nd} {a : Int} {b : Tok} : shp (N1 ++ { n with np := a, nt := b } :: N2) = shp (N1 ++ n :: N2) := by simp [shp]
theorem mem_ls' {N : List Nd} {n : Nd} {L : Led} (hn : n ∈ N) : (n.ls, Lst n.sc) ∈ nodesL N ++ L := by
  obtain ⟨N1, N2, rfl⟩ := List.append_of_mem hn
  exact mem_ls
theorem find_mid {g1 g2 : List Ag} {a : Ag} (nd : ((g1 ++ a :: g2).map (·.wd)).Nodup) : (g1 ++ a :: g2).find? (fun b => b.wd = a.wd) = some a := by
  rw [List.find?_append]
  have : g1.find? (fun b => b.wd = a.wd) = none := by
    rw [List.find?_eq_none]
    intro b hb e
    rw [List.map_append, List.nodup_append] at nd
    exact nd.2.2 b.wd (List.mem_map_of_mem hb) a.wd (by simp) (by simpa using e)
  rw [this]; simp
theorem NIs.at {N1 N2 : List Nd} {n : Nd} {g : List Ag} (h : NIs (N1 ++ n :: N2) g) (nd : ((N1 ++ n :: N2).map (·.wd)).Nodup) : npAt g n.wd = n.np ∧ WsAre n.sc (scAt g n.wd) := by
  rw [h.words] at nd
  obtain ⟨g1, a, g2, rfl, h1, h2, h3, h4, h5⟩ := h.split
  unfold npAt scAt
  rw [h2, find_mid nd]
  exact ⟨h3.symm, h4⟩
theorem NIs.bumpEq {N1 N2 : List Nd} {n : Nd} {g : List Ag} {k : Wd} {d v : Int} {t : Tok} (h : NIs (N1 ++ n :: N2) g) (hk : n.wd = k) (nd : ((N1 ++ n :: N2).map (·.wd)).Nodup) (hv : v = n.np + d) : NIs (N1 ++ { n with np := v, nt := t } :: N2) (Mine.bump g k d) := by
  subst hv; exact h.bump hk nd
theorem s_done {w : World} {mg mb : Str → Option Value} {prog : Program} {A : Around} {z s : Shared} {L : Led} {R : Result → Shared → Prop} {S dS D Rd : Addr} {rs vs : List Value} {r ws : List Wd} {po nf : Int} {t1 t2 : Tok} {N : List Nd} {g : List Ag}
    (G : Gd w mg mb z.heap) (hDs : (D == sysModules) = false) (H : Stt z s (srtR prog w S dS D Rd rs po t1 nf t2 N L)) (hg : NIs N g) (hr : WsAre rs r) (hw : WsAre vs ws) (hm : ∀ k ∈ ws, k ∈ N.map (·.wd)) (hA : A.depth ≤ 700) (hh : A.handled = none) (hz : rs.length ≤ 1000) (hz2 : vs.length ≤ 100)
    (hsc : ∀ n ∈ N, n.sc.length ≤ 1000) (hcl : ∀ n ∈ N, ∀ us, WsAre n.sc us → ∀ u ∈ us, u ∈ N.map (·.wd)) (hok : ∀ i k, ws[i]? = some k → npAt ((ws.take i).foldl done1 (g, r)).1 k = -1)
    (h : ∀ N' rs' nf' t2' s', NIs N' (ws.foldl done1 (g, r)).1 → WsAre rs' (ws.foldl done1 (g, r)).2 → shp N' = shp N → nf' = nf + ws.length → Stt z s' (srtR prog w S dS D Rd rs' po t1 nf' t2' N' L) → R (.ok (.ret .none)) s') :
    codeAny (model prog w) A (.call (.ref 127) ⟨[.ref S] ++ vs, []⟩) R s := by
  refine call_fnV (ps := ["self"]) (va := "nodes") (rest := ["n2i", "node", "nodeinfo", "stat", "successor", "successor_info"]) (names := ["self", "nodes", "n2i", "node", "nodeinfo", "stat", "successor", "successor_info"]) (gs := ["ValueError", "_NODE_OUT", "_NODE_DONE"]) G H (by k_is) (by k_is) (by show _ < 1000; omega) rfl (star_binds _ _ _ vs rfl (fun _ _ => rfl)) rfl rfl (by decide) (by simp [sizeLine]; omega) (by decide) (all_mem rfl) (all_mem rfl) rfl rfl ?_
  clear H
  intro env Lf c s he hfr H
  replace H : Stt z s ((Lf, Fra ["self", "nodes", "n2i", "node", "nodeinfo", "stat", "successor", "successor_info"] [some (.ref S), some (.ref c), none, none, none, none, none, none]) :: (c, Tup vs) :: srtR prog w S dS D Rd rs po t1 nf t2 N L) := H
  with_reducible refine wpAny_execs_cons ?_
  with_reducible refine wpAny_If ?_
  with_reducible refine wpAny_isTrue_Compare1 ?_ (by with_unfolding_all rfl)
  refine Attribute_any_ ?_
  refine n_local (by with_reducible assumption) (by with_reducible assumption) (by walk_at "mem") (by walk_at "loc") ?_
  (with_reducible rename Stt _ _ _ => hO); refine ga_own (by with_reducible assumption) hO (by walk_at "mem") (by walk_at "mem") (KLoc.eq (by walk_at "kloc")) (by k_is) (by k_is) (by k_is) (by k_is) rfl ?_; intro _ _; clear hO
  with_reducible refine Constant_none ?_
  with_reducible refine is_ref ?_
  with_reducible refine wpAny_truthy_bool ?_
  refine iff' ?_
  with_reducible refine wpAny_execs_nil ?_
  with_reducible refine wpAny_execs_cons ?_
  with_reducible refine wpAny_Assign_Name ?_ rfl
  refine Attribute_any_ ?_
  refine n_local (by with_reducible assumption) (by with_reducible assumption) (by walk_at "mem") (by walk_at "loc") ?_
  (with_reducible rename Stt _ _ _ => hO); refine ga_own (by with_reducible assumption) hO (by walk_at "mem") (by walk_at "mem") (KLoc.eq (by walk_at "kloc")) (by k_is) (by k_is) (by k_is) (by k_is) rfl ?_; intro _ _; clear hO
  (with_reducible rename Stt _ _ _ => hO); refine st_local hO (by with_reducible assumption) (by walk_at "upd") (by walk_at "put") ?_; intro _ _; clear hO
  with_reducible refine wpAny_execs_cons ?_
  rename_i H
  refine wpAny_For ?_
  refine n_local (by with_reducible assumption) (by with_reducible assumption) (by walk_at "mem") (by walk_at "loc") ?_
  refine it_tup H (by walk_at "mem") ?_
  clear H
  intro it s H
  refine codeAny_forLoop (fun kk s => ∃ (i : Nat) (N' : List Nd) (rs' : List Value) (nf' : Int) (t2' : Tok) (v1 v2 v3 v4 v5 : Option Value), i + kk = vs.length ∧ shp N' = shp N ∧ NIs N' ((ws.take i).foldl done1 (g, r)).1 ∧ WsAre rs' ((ws.take i).foldl done1 (g, r)).2 ∧ rs'.length ≤ rs.length + i * 1000 ∧ nf' = nf + i ∧
    Stt z s ((it, TIt c i) :: (Lf, Fra ["self", "nodes", "n2i", "node", "nodeinfo", "stat", "successor", "successor_info"] [some (.ref S), some (.ref c), some (.ref D), v1, v2, v3, v4, v5]) :: (c, Tup vs) :: srtR prog w S dS D Rd rs' po t1 nf' t2' N' L)) ?_ vs.length ⟨0, N, rs, nf, t2, none, none, none, none, none, by omega, rfl, hg, hr, by omega, by simp, H⟩
  clear H
  intro kk s hI
  obtain ⟨i, N', rs', nf', t2', v1, v2, v3, v4, v5, hi, hs, hg3, hr3, hl3, hnf, H⟩ := hI
  have hlw := hw.length
  by_cases hlt : i < vs.length
  · obtain ⟨v, hv⟩ : ∃ v, vs[i]? = some v := ⟨_, List.getElem?_eq_getElem hlt⟩
    obtain ⟨q, tq, rfl, hq⟩ := hw.get hv
    refine nx_tup H .head (by walk_at "mem") hv ?_
    clear H
    intro s H
    dsimp only
    with_reducible refine wpAny_assign_Name ?_
    (with_reducible rename Stt _ _ _ => hO); refine st_local hO (by with_reducible assumption) (by walk_at "upd") (by walk_at "put") ?_; intro _ _; clear hO
    refine hide_q fun Qn hQ => hide_e fun En hE => ?_
    clear hE
    with_reducible refine wpAny_execs_cons ?_
    with_reducible refine wpAny_If ?_
    with_reducible refine wpAny_isTrue_Compare1 ?_ (by with_unfolding_all rfl)
    refine wpAny_NamedExpr ?_
    refine MethodCall_ ?_ rfl
    refine n_local (by with_reducible assumption) (by with_reducible assumption) (by walk_at "mem") (by walk_at "loc") ?_
    rename_i H
    obtain ⟨N1, n, N2, rfl, hk, hva⟩ := tab_mem (N := N') (k := q) (by rw [shp_words hs]; exact hm q (List.mem_of_getElem? hq))
    refine gm_dict (dictOf1 H (by walk_at "mem")) PySem.F.slot_dict_get PySem.F.type_dict_get ?_
    with_reducible refine callWith_method1 ?_ rfl rfl
    with_reducible refine spliced_more ?_ rfl
    refine n_local (by with_reducible assumption) (by with_reducible assumption) (by walk_at "mem") (by walk_at "loc") ?_
    with_reducible refine spliced_none ?_
    refine d_get_some H hDs (dictOf1 H (by walk_at "mem")) hva ?_
    clear H
    intro s H
    have nd0 : ((N1 ++ n :: N2).map (·.wd)).Nodup := nd_of H (by walk_at "mem")
    have hat := hg3.at nd0
    have hnp : n.np = -1 := by rw [← hat.1, hk]; exact hok i q hq
    with_reducible refine wpAny_assign_Name ?_
    (with_reducible rename Stt _ _ _ => hO); refine st_local hO (by with_reducible assumption) (by walk_at "upd") (by walk_at "put") ?_; intro _ _; clear hO
    with_reducible refine Constant_none ?_
    with_reducible refine is_ref ?_
    with_reducible refine wpAny_truthy_bool ?_
    refine iff' ?_
    with_reducible refine wpAny_execs_nil ?_
    with_reducible refine wpAny_execs_cons ?_
    with_reducible refine wpAny_Assign_Name ?_ rfl
    refine Attribute_any_ ?_
    refine n_local (by with_reducible assumption) (by with_reducible assumption) (by walk_at "mem") (by walk_at "loc") ?_
    rename_i H
    refine gs_np G H ((by (repeat apply List.mem_cons_of_mem); exact mem_x)) ((by (repeat apply List.mem_cons_of_mem); exact mem_dx)) rfl ?_
    clear H
    intro s H
    (with_reducible rename Stt _ _ _ => hO); refine st_local hO (by with_reducible assumption) (by walk_at "upd") (by walk_at "put") ?_; intro _ _; clear hO
    with_reducible refine wpAny_execs_cons ?_
    with_reducible refine wpAny_If ?_
    with_reducible refine wpAny_isTrue_Compare1 ?_ (by with_unfolding_all rfl)
    refine n_local (by with_reducible assumption) (by with_reducible assumption) (by walk_at "mem") (by walk_at "loc") ?_
    refine n_glob (by with_reducible assumption) (by with_reducible assumption) (by with_reducible assumption) (by walk_at "mem") (Gd.glob (by with_reducible assumption) (by k_is)) ?_
    refine PyProof.Rows.ne_int ?_
    with_reducible refine wpAny_truthy_bool ?_
    rw [if_neg (by rw [hnp]; decide)]
    with_reducible refine wpAny_execs_nil ?_
    with_reducible refine wpAny_execs_cons ?_
    refine plainObj_wpAny_Assign_Attribute ?_ rfl
    refine n_glob (by with_reducible assumption) (by with_reducible assumption) (by with_reducible assumption) (by walk_at "mem") (Gd.glob (by with_reducible assumption) (by k_is)) ?_
    refine n_local (by with_reducible assumption) (by with_reducible assumption) (by walk_at "mem") (by walk_at "loc") ?_
    rename_i H
    refine ss_np' G H ((by (repeat apply List.mem_cons_of_mem); exact mem_dx)) (by (repeat apply Upd.tail); exact upd_np _ _) ?_
    clear H
    intro s H
    with_reducible refine wpAny_execs_cons ?_
    have hg4 := hg3.setG (d := -2) (t := 212) hk nd0
    rw [tab_np (n := n) (a := -2) (b := 212)] at H
    have hs4 : shp (N1 ++ { n with np := -2, nt := 212 } :: N2) = shp N := by rw [shp_np]; exact hs
    obtain ⟨n0, hn0, e1, e2, e3, e4⟩ := shp_mem hs (n := n) (by simp)
    have hws := hat.2
    rw [hk] at hws
    have hlu := hws.length
    have hscn : n.sc.length ≤ 1000 := by rw [← e4]; exact hsc n0 hn0
    have hcln : ∀ u ∈ scAt ((ws.take i).foldl done1 (g, r)).1 q, u ∈ N.map (·.wd) := hcl n0 hn0 _ (by rw [e4]; exact hws)
    refine wpAny_For ?_
    refine Attribute_any_ ?_
    refine n_local (by with_reducible assumption) (by with_reducible assumption) (by walk_at "mem") (by walk_at "loc") ?_
    refine gs_suc G H ((by (repeat apply List.mem_cons_of_mem); exact mem_x)) ((by (repeat apply List.mem_cons_of_mem); exact mem_dx)) rfl ?_
    clear H
    intro s H
    refine it_list H ((by (repeat apply List.mem_cons_of_mem); exact mem_ls)) ?_
    clear H
    intro it2 s H
    refine codeAny_forLoop (fun mm s => ∃ (j : Nat) (M : List Nd) (rs2 : List Value) (w4 w5 : Option Value), j + mm = n.sc.length ∧ shp M = shp N ∧ NIs M (((scAt ((ws.take i).foldl done1 (g, r)).1 q).take j).foldl sub1 (setG ((ws.take i).foldl done1 (g, r)).1 q (-2), ((ws.take i).foldl done1 (g, r)).2)).1 ∧
      WsAre rs2 (((scAt ((ws.take i).foldl done1 (g, r)).1 q).take j).foldl sub1 (setG ((ws.take i).foldl done1 (g, r)).1 q (-2), ((ws.take i).foldl done1 (g, r)).2)).2 ∧ rs2.length ≤ rs.length + i * 1000 + j ∧
      Stt z s ((it2, LIt n.ls j) :: (it, TIt c (i + 1)) :: (Lf, Fra ["self", "nodes", "n2i", "node", "nodeinfo", "stat", "successor", "successor_info"] [some (.ref S), some (.ref c), some (.ref D), some (.bytes q.toArray tq), some (.ref n.x), some (.int n.np n.nt), w4, w5]) :: (c, Tup vs) :: srtR prog w S dS D Rd rs2 po t1 nf' t2' M L)) ?_ n.sc.length ⟨0, _, rs', v4, v5, by omega, hs4, hg4, hr3, by omega, H⟩
    clear H hg4 hs4
    intro mm s hI
    obtain ⟨j, M, rs2, w4, w5, hj, hsM, hgM, hrM, hlM, H⟩ := hI
    obtain ⟨m0, hm0, f1, f2, f3, f4⟩ := shp_mem (hs.trans hsM.symm) (n := n) (by simp)
    have hls : ∀ L', (n.ls, Lst n.sc) ∈ nodesL M ++ L' := fun L' => by rw [← f3, ← f4]; exact mem_ls' hm0
    by_cases hjl : j < n.sc.length
    · obtain ⟨v, hv⟩ : ∃ v, n.sc[j]? = some v := ⟨_, List.getElem?_eq_getElem hjl⟩
      obtain ⟨u, tu, rfl, hu⟩ := hws.get hv
      refine nx_list H .head ((by (repeat apply List.mem_cons_of_mem); exact hls L)) hv ?_
      clear H
      intro s H
      dsimp only
      with_reducible refine wpAny_assign_Name ?_
      (with_reducible rename Stt _ _ _ => hO); refine st_local hO (by with_reducible assumption) (by walk_at "upd") (by walk_at "put") ?_; intro _ _; clear hO
      clear hQ
      refine hide_q fun Qn hQ2 => hide_e fun En hE => ?_
      clear hE
      with_reducible refine wpAny_execs_cons ?_
      with_reducible refine wpAny_Assign_Name ?_ rfl
      with_reducible refine Subscript_ ?_
      refine n_local (by with_reducible assumption) (by with_reducible assumption) (by walk_at "mem") (by walk_at "loc") ?_
      refine n_local (by with_reducible assumption) (by with_reducible assumption) (by walk_at "mem") (by walk_at "loc") ?_
      rename_i H
      obtain ⟨M1, m, M2, rfl, hkm, hvm⟩ := tab_mem (N := M) (k := u) (by rw [shp_words hsM]; exact hcln u (List.mem_of_getElem? hu))
      refine d_sub H (dictOf1 H (by walk_at "mem")) hvm ?_
      clear H
      intro s H
      have ndM : ((M1 ++ m :: M2).map (·.wd)).Nodup := nd_of H (by walk_at "mem")
      (with_reducible rename Stt _ _ _ => hO); refine st_local hO (by with_reducible assumption) (by walk_at "upd") (by walk_at "put") ?_; intro _ _; clear hO
      with_reducible refine wpAny_execs_cons ?_
      with_reducible refine wpAny_AugAssign_AttributeAny ?_
      refine n_local (by with_reducible assumption) (by with_reducible assumption) (by walk_at "mem") (by walk_at "loc") ?_
      rename_i H
      refine gs_np G H ((by (repeat apply List.mem_cons_of_mem); exact mem_x)) ((by (repeat apply List.mem_cons_of_mem); exact mem_dx)) rfl ?_
      clear H
      intro s H
      (with_reducible rename Stt _ _ _ => hO); with_reducible refine c_int hO ?_; intro _ _ _; clear hO
      (with_reducible rename Stt _ _ _ => hO); with_reducible refine i_isub hO ?_; intro _ _ _; clear hO
      rename_i H
      refine ss_np' G H ((by (repeat apply List.mem_cons_of_mem); exact mem_dx)) (by (repeat apply Upd.tail); exact upd_np _ _) ?_
      clear H
      intro s H
      rename_i t9
      have hgB := hgM.bumpEq (d := -1) (v := m.np - 1) (t := t9) hkm ndM (by omega)
      rw [tab_np (n := m) (a := m.np - 1) (b := t9)] at H
      have hsB : shp (M1 ++ { m with np := m.np - 1, nt := t9 } :: M2) = shp N := by rw [shp_np]; exact hsM
      have hatB := (hgB.at (by rw [words_np]; exact ndM)).1
      dsimp only at hatB
      rw [hkm] at hatB
      with_reducible refine wpAny_execs_cons ?_
      with_reducible refine wpAny_If ?_
      with_reducible refine wpAny_isTrue_Compare1 ?_ (by with_unfolding_all rfl)
      refine Attribute_any_ ?_
      refine n_local (by with_reducible assumption) (by with_reducible assumption) (by walk_at "mem") (by walk_at "loc") ?_
      rename_i H
      refine gs_np G H ((by (repeat apply List.mem_cons_of_mem); exact mem_x)) ((by (repeat apply List.mem_cons_of_mem); exact mem_dx)) rfl ?_
      clear H
      intro s H
      (with_reducible rename Stt _ _ _ => hO); with_reducible refine c_int hO ?_; intro _ _ _; clear hO
      rename_i H
      refine PyProof.Rows.eq_int ?_
      with_reducible refine wpAny_truthy_bool ?_
      by_cases h0 : m.np - 1 = 0
      · rw [if_pos (by simpa using h0)]
        with_reducible refine wpAny_execs_cons ?_
        refine x_Expr (by with_reducible assumption) ?_ rfl
        refine MethodCall_ ?_ rfl
        refine Attribute_any_ ?_
        refine n_local (by with_reducible assumption) (by with_reducible assumption) (by walk_at "mem") (by walk_at "loc") ?_
        (with_reducible rename Stt _ _ _ => hO); refine ga_own (by with_reducible assumption) hO (by walk_at "mem") (by walk_at "mem") (KLoc.eq (by walk_at "kloc")) (by k_is) (by k_is) (by k_is) (by k_is) rfl ?_; intro _ _; clear hO
        refine gm_append (by with_reducible assumption) (by walk_at "mem") ?_
        with_reducible refine callWith_method1 ?_ rfl rfl
        with_reducible refine spliced_more ?_ rfl
        refine n_local (by with_reducible assumption) (by with_reducible assumption) (by walk_at "mem") (by walk_at "loc") ?_
        with_reducible refine spliced_none ?_
        rename_i H
        refine l_append H (by walk_at "upd") (by simp [sizeLine]; omega) ?_
        clear H
        intro s H
        with_reducible refine wpAny_execs_nil ?_
        with_reducible refine wpAny_execs_nil ?_
        refine hQ2 _ _ ?_
        refine ⟨mm - 1, by omega, j + 1, _, _, _, _, by omega, hsB, ?_, ?_, ?_, H⟩
        · rw [List.take_add_one, hu, List.foldl_append]; exact hgB
        · rw [List.take_add_one, hu, List.foldl_append]
          show WsAre _ (if _ then _ else _)
          rw [if_pos (by rw [hatB]; exact h0)]
          exact hrM.append (.cons _ _ .nil)
        · rw [List.length_append, List.length_singleton]; omega
      · rw [if_neg (by simpa using h0)]
        with_reducible refine wpAny_execs_nil ?_
        with_reducible refine wpAny_execs_nil ?_
        refine hQ2 _ _ ?_
        refine ⟨mm - 1, by omega, j + 1, _, _, _, _, by omega, hsB, ?_, ?_, by omega, H⟩
        · rw [List.take_add_one, hu, List.foldl_append]; exact hgB
        · rw [List.take_add_one, hu, List.foldl_append]
          show WsAre _ (if _ then _ else _)
          rw [if_neg (by rw [hatB]; exact h0)]
          exact hrM
    · refine nx_list_end hh H .head ((by (repeat apply List.mem_cons_of_mem); exact hls L)) (List.getElem?_eq_none (by omega)) ?_
      clear H
      intro s H
      dsimp only
      with_reducible refine wpAny_execs_nil ?_
      with_reducible refine wpAny_execs_cons ?_
      with_reducible refine wpAny_AugAssign_AttributeAny ?_
      refine n_local (by with_reducible assumption) (by with_reducible assumption) (by walk_at "mem") (by walk_at "loc") ?_
      (with_reducible rename Stt _ _ _ => hO); refine ga_own (by with_reducible assumption) hO (by walk_at "mem") (by walk_at "mem") (KLoc.eq (by walk_at "kloc")) (by k_is) (by k_is) (by k_is) (by k_is) rfl ?_; intro _ _; clear hO
      (with_reducible rename Stt _ _ _ => hO); with_reducible refine c_int hO ?_; intro _ _ _; clear hO
      (with_reducible rename Stt _ _ _ => hO); with_reducible refine i_iadd hO ?_; intro _ _ _; clear hO
      (with_reducible rename Stt _ _ _ => hO); refine sa_own' (by with_reducible assumption) hO (by walk_at "mem") (by walk_at "upd") (by walk_at "kput") (by exact Nat.le_of_ble_eq_true rfl) (by k_is) (by k_is) (by k_is) (by k_is) ?_; intro _ _; clear hO
      with_reducible refine wpAny_execs_nil ?_
      rename_i H
      have htk : (scAt ((ws.take i).foldl done1 (g, r)).1 q).take j = scAt ((ws.take i).foldl done1 (g, r)).1 q := List.take_of_length_le (by omega)
      rw [htk] at hgM hrM
      refine hQ _ _ ?_
      refine ⟨kk - 1, by omega, i + 1, _, _, _, _, _, _, _, _, _, by omega, hsM, ?_, ?_, by omega, ?_, H⟩
      · rw [List.take_add_one, hq, List.foldl_append]; exact hgM
      · rw [List.take_add_one, hq, List.foldl_append]; exact hrM
      · rw [hnf]; omega
  · refine nx_tup_end hh H .head (by walk_at "mem") (List.getElem?_eq_none (by omega)) ?_
    clear H
    intro s H
    dsimp only
    with_reducible refine wpAny_execs_nil ?_
    with_reducible refine wpAny_execs_nil ?_
    rw [List.take_of_length_le (by omega)] at hg3 hr3
    exact h _ _ _ _ _ hg3 hr3 hs (by rw [hnf]; congr 1; omega) (Stt.out (Stt.out H .head) .head)

end
section
/-! ## is_active -/
theorem meets_bool_list (l : Addr) : Meets (Builtin.«bool.__new__» ⟨[.type "bool", .ref l], []⟩) (fun _ R s => s.heap.IsList l #[] ∧ R (.ok (.ret (.bool false))) { s with toks := s.toks + 1 + 1 }) :=
  Meets.of_wp fun prog w A R s hs => by
    obtain ⟨hp, g, d, tk, os⟩ := s
    obtain ⟨h1, hs⟩ := hs
    have f1 := PySem.F.conv_sub_bool
    repeat (any_goals (first | assumption | (with_reducible refine wpAny_truthy_list h1 (by decide) ?_) | wp_step))
    all_goals first | exact ⟨_, rfl, hs⟩ | exact hs | skip
section
variable {w : World} {mg mb : Str → Option Value} {prog : Program} {A : Around} {E : Value → Shared → Prop} {z s : Shared} {L : Led} {R : Result → Shared → Prop}
theorem c_bool_nil {l : Addr} {Q : Value → Shared → Prop} (H : Stt z s L) (hm : (l, Lst []) ∈ L) (h : ∀ s', Stt z s' L → Q (.bool false) s') : wpAny (model prog w) A (call (.type "bool") [.ref l]) Q E s :=
  call_bool_1 (meets_bool_list l) ⟨isList H hm, show wants (fun obj s₁ => s₁.TypeIs obj "bool" ∧ Q obj s₁) E _ _ from ⟨rfl, h _ (H.tok _)⟩⟩
theorem s_is_active {S dS D Rd : Addr} {po : Int} {t1 t2 : Tok} {N : List Nd} (G : Gd w mg mb z.heap) (H : Stt z s (srtR prog w S dS D Rd [] po t1 po t2 N L)) (hA : A.depth ≤ 700)
    (h : ∀ s', Stt z s' (srtR prog w S dS D Rd [] po t1 po t2 N L) → R (.ok (.ret (.bool false))) s') : codeAny (model prog w) A (.call (.ref 113) ⟨[.ref S], []⟩) R s := by
  refine call_fn (ps := ["self"]) (rest := []) (names := ["self"]) (vals := [some (.ref S)]) (gs := ["ValueError", "bool"]) G H (by k_is) (by k_is) (by show _ < 1000; omega) rfl (BindsTo.of_eq rfl) rfl rfl rfl (by decide) (by decide) (all_mem rfl) (all_mem rfl) rfl rfl ?_
  clear H
  intro env Lf s he hfr H
  with_reducible refine wpAny_execs_cons ?_
  with_reducible refine wpAny_If ?_
  with_reducible refine wpAny_isTrue_Compare1 ?_ (by with_unfolding_all rfl)
  refine Attribute_any_ ?_
  refine n_local (by with_reducible assumption) (by with_reducible assumption) (by walk_at "mem") (by walk_at "loc") ?_
  (with_reducible rename Stt _ _ _ => hO); refine ga_own (by with_reducible assumption) hO (by walk_at "mem") (by walk_at "mem") (KLoc.eq (by walk_at "kloc")) (by k_is) (by k_is) (by k_is) (by k_is) rfl ?_; intro _ _; clear hO
  with_reducible refine Constant_none ?_
  with_reducible refine is_ref ?_
  with_reducible refine wpAny_truthy_bool ?_
  refine iff' ?_
  with_reducible refine wpAny_execs_nil ?_
  with_reducible refine wpAny_execs_cons ?_
  with_reducible refine wpAny_Return_some ?_
  refine BoolOp_or ?_
  with_reducible refine wpAny_Compare1 ?_ (by with_unfolding_all rfl)
  refine Attribute_any_ ?_
  refine n_local (by with_reducible assumption) (by with_reducible assumption) (by walk_at "mem") (by walk_at "loc") ?_
  (with_reducible rename Stt _ _ _ => hO); refine ga_own (by with_reducible assumption) hO (by walk_at "mem") (by walk_at "mem") (KLoc.eq (by walk_at "kloc")) (by k_is) (by k_is) (by k_is) (by k_is) rfl ?_; intro _ _; clear hO
  refine Attribute_any_ ?_
  refine n_local (by with_reducible assumption) (by with_reducible assumption) (by walk_at "mem") (by walk_at "loc") ?_
  (with_reducible rename Stt _ _ _ => hO); refine ga_own (by with_reducible assumption) hO (by walk_at "mem") (by walk_at "mem") (KLoc.eq (by walk_at "kloc")) (by k_is) (by k_is) (by k_is) (by k_is) rfl ?_; intro _ _; clear hO
  rename_i H
  refine PyProof.Rows.lt_int ?_
  with_reducible refine wpAny_truthy_bool ?_
  rw [if_neg (by simp)]
  refine BoolOp_one ?_
  with_reducible refine wpAny_Call_NameR ?_
  refine n_built (by with_reducible assumption) (by with_reducible assumption) (by with_reducible assumption) (by walk_at "mem") (Gd.noglob (by with_reducible assumption) (by k_is)) (by boot_by_name) (by decide) ?_
  with_reducible refine PyProof.Rows.callWith_type1 ?_ rfl rfl
  with_reducible refine spliced_more ?_ rfl
  refine Attribute_any_ ?_
  refine n_local (by with_reducible assumption) (by with_reducible assumption) (by walk_at "mem") (by walk_at "loc") ?_
  (with_reducible rename Stt _ _ _ => hO); refine ga_own (by with_reducible assumption) hO (by walk_at "mem") (by walk_at "mem") (KLoc.eq (by walk_at "kloc")) (by k_is) (by k_is) (by k_is) (by k_is) rfl ?_; intro _ _; clear hO
  with_reducible refine spliced_none ?_
  rename_i H
  refine c_bool_nil H (by walk_at "mem") ?_
  clear H
  intro s H
  exact h _ (Stt.out H .head)
end

end
section
/-! ## A bound __next__ -/
namespace LI
theorem lk_ga : typeLookup (.type "list_iterator") "__getattribute__" = pure (some (.builtin "object.__getattribute__")) := by rw [typeLookup_type, builtinLookup_eq_fast]; kernel_rfl
theorem slot_ga : Slot "list_iterator" "__getattribute__" "object.__getattribute__" :=
  .of (owner := "object") (n := "__getattribute__") (by rw [typeLookup_type, builtinLookup_eq_fast]; kernel_rfl) (by decide +kernel) (by decide +kernel) (by decide +kernel)
    (by first | exact .inl (by decide +kernel) | exact .inr (by decide +kernel)) (by rw [isSubtype_type]; kernel_rfl)
theorem entry_ga : entryFor table "object.__getattribute__" = some Builtin.«object.__getattribute__» := entryFor_of_tree (by kernel_rfl)
theorem args_ga (a b : Value) : argsOk "object.__getattribute__" ⟨[a, b], []⟩ := by unfold argsOk; kernel_rfl
theorem lk_hook : typeLookup (.type "list_iterator") "__getattr__" = pure none := by rw [typeLookup_type, builtinLookup_eq_fast]; kernel_rfl
theorem owner_next : (".".intercalate ("list_iterator.__next__".cutAt '.').dropLast) = "list_iterator" := by
  have e0 : "list_iterator.__next__".cutAt '.' = ["list_iterator", "__next__"] := by first | rfl | decide +kernel
  rw [e0]; decide +kernel
theorem sub_owner : isSubtype (.type "list_iterator") (.type (".".intercalate ("list_iterator.__next__".cutAt '.').dropLast)) = pure true := by
  rw [owner_next, isSubtype_type]; kernel_rfl
theorem type_next : typeOf (.builtin "list_iterator.__next__") = pure (.type "wrapper_descriptor") := by kernel_rfl
theorem slot_get : Slot "wrapper_descriptor" "__get__" "wrapper_descriptor.__get__" :=
  .of (owner := "wrapper_descriptor") (n := "__get__") (by rw [typeLookup_type, builtinLookup_eq_fast]; kernel_rfl) (by decide +kernel) (by decide +kernel) (by decide +kernel)
    (by first | exact .inl (by decide +kernel) | exact .inr (by decide +kernel)) (by rw [isSubtype_type]; kernel_rfl)
theorem no_set : typeLookup (.type "wrapper_descriptor") "__set__" = pure none := by rw [typeLookup_type, builtinLookup_eq_fast]; kernel_rfl
theorem no_del : typeLookup (.type "wrapper_descriptor") "__delete__" = pure none := by rw [typeLookup_type, builtinLookup_eq_fast]; kernel_rfl
theorem entry_get : entryFor table "wrapper_descriptor.__get__" = some Builtin.«wrapper_descriptor.__get__» := entryFor_of_tree (by kernel_rfl)
theorem args_get (a b c : Value) : argsOk "wrapper_descriptor.__get__" ⟨[a, b, c], []⟩ := by unfold argsOk; kernel_rfl
end LI
section
variable {prog : Program} {w : World} {A : Around} {E : Value → Shared → Prop} {h : Heap} {g : Array GenState} {d : Drawn} {t : Nat} {os : OsState} {a l : Addr} {i : Nat}
theorem nxt_get {R : Result → Shared → Prop} (hx : h.get? a = some { cls := .type "list_iterator", data := .fields #[.ref l, .int i 0] })
    (hq : R (.ok (.ret (.ref h.objs.size))) ⟨h.push { cls := .type "method-wrapper", data := .fields #[.builtin "list_iterator.__next__", .ref a] }, g, d, t, os⟩) :
    codeAny (model prog w) A (.call (.builtin "wrapper_descriptor.__get__") ⟨[.builtin "list_iterator.__next__", .ref a, .type "list_iterator"], []⟩) R ⟨h, g, d, t, os⟩ := by
  have hT : (⟨h, g, d, t, os⟩ : Shared).TypeIs (.ref a) "list_iterator" := ⟨_, hx, rfl⟩
  have hT5 : (⟨h, g, d, t, os⟩ : Shared).TypeIs (.builtin "list_iterator.__next__") "wrapper_descriptor" := LI.type_next
  have f1 := LI.sub_owner
  refine codeAny_call_builtin LI.slot_get.plain LI.entry_get (LI.slot_get.check _ _ _ _ _ _ _ _ hT5 (LI.args_get _ _ _) ?_)
  repeat (any_goals (first | assumption | wp_step))
theorem nxt_entry {tk : Tok} {Q : Fin → Shared → Prop} (hx : h.get? a = some { cls := .type "list_iterator", data := .fields #[.ref l, .int i 0] })
    (hq : Q (.done (.ret (.ref h.objs.size))) ⟨h.push { cls := .type "method-wrapper", data := .fields #[.builtin "list_iterator.__next__", .ref a] }, g, d, t, os⟩) :
    wpAny (model prog w) A (Builtin.«object.__getattribute__» ⟨[.ref a, .str "__next__" tk], []⟩) Q E ⟨h, g, d, t, os⟩ := by
  have hT : (⟨h, g, d, t, os⟩ : Shared).TypeIs (.ref a) "list_iterator" := ⟨_, hx, rfl⟩
  have hT5 : (⟨h, g, d, t, os⟩ : Shared).TypeIs (.builtin "list_iterator.__next__") "wrapper_descriptor" := LI.type_next
  have f4 := slot_listiter_next.lookup
  have f5 := LI.type_next
  have f6 := LI.slot_get.lookup
  have f7 := LI.no_set
  have f8 := LI.no_del
  have f9 := LI.lk_hook
  repeat (any_goals (first | assumption | wp_step))
  exact nxt_get hx (wpAny_pure hq)
theorem ga_next0 {Q : Value → Shared → Prop} (hx : h.get? a = some { cls := .type "list_iterator", data := .fields #[.ref l, .int i 0] })
    (hq : Q (.ref h.objs.size) ⟨h.push { cls := .type "method-wrapper", data := .fields #[.builtin "list_iterator.__next__", .ref a] }, g, d, t + 1, os⟩) :
    wpAny (model prog w) A (getAttr (.ref a) "__next__" true) Q E ⟨h, g, d, t, os⟩ := by
  have hT : (⟨h, g, d, t + 1, os⟩ : Shared).TypeIs (.ref a) "list_iterator" := ⟨_, hx, rfl⟩
  have f2 := LI.slot_ga.lookup
  have f3 := LI.slot_ga.bind (.ref a)
  unfold getAttr
  refine wpAny_bind (wpAny_mkText ?_)
  repeat (any_goals (first | assumption | wp_step))
  exact codeAny_call_builtin LI.slot_ga.plain LI.entry_ga (LI.slot_ga.check _ _ _ _ _ _ _ _ hT (LI.args_ga _ _) (nxt_entry hx (handed_on rfl hq)))
end

end
section
/-! ## Exceptions in flight -/
noncomputable def FrOk (envs : List Env) (L : Led) : Prop := ∀ env ∈ envs, env.scope.kind ≠ .module ∧ ∃ f names vals, env.frame = some f ∧ (f, Fra names vals) ∈ L
theorem FrOk.fn {z s : Shared} {L : Led} (H : Stt z s L) : ∀ {envs : List Env}, FrOk envs L → s.heap.FunFrames z.heap envs
  | [], _ => trivial
  | env :: rest, h => by
    obtain ⟨h1, f, names, vals, h2, h3⟩ := h env List.mem_cons_self
    obtain ⟨⟨o, h4, es, ep, h5, _⟩, h6⟩ := H.own _ h3
    exact ⟨h1, ⟨f, o, h2, h6, h4, fun vs e => by rw [h5] at e; cases e⟩, FrOk.fn H fun e he => h e (List.mem_cons_of_mem _ he)⟩
theorem nodup_same {L : Led} (nd : (L.map (·.1)).Nodup) {a : Addr} {P Q : Pr} (h1 : (a, P) ∈ L) (h2 : (a, Q) ∈ L) : P = Q := by
  induction L with
  | nil => simp at h1
  | cons q L ih =>
    rw [List.map_cons, List.nodup_cons] at nd
    rcases List.mem_cons.mp h1 with e1 | m1
    · rcases List.mem_cons.mp h2 with e2 | m2
      · rw [← e1] at e2; exact (Prod.mk.inj e2).2.symm
      · exact absurd (List.mem_map.mpr ⟨_, m2, by rw [← e1]⟩) nd.1
    · rcases List.mem_cons.mp h2 with e2 | m2
      · exact absurd (List.mem_map.mpr ⟨_, m1, by rw [← e2]⟩) nd.1
      · exact ih nd.2 m1 m2
theorem Stt.slots {z s : Shared} {L : Led} {envs : List Env} {h' : Heap} (H : Stt z s L) (hF : FrOk envs L) (hs : Heap.SlotsOnly (envs.filterMap (·.frame)) s.heap h') : Stt z { s with heap := h' } L := by
  have hm : ∀ b, b ∈ envs.filterMap (·.frame) → ∃ names vals, (b, Fra names vals) ∈ L := fun b hb => by
    obtain ⟨env, h1, h2⟩ := List.mem_filterMap.mp hb
    obtain ⟨_, f, names, vals, h3, h4⟩ := hF env h1
    rw [h3] at h2; cases h2
    exact ⟨names, vals, h4⟩
  refine ⟨fun b o e => ?_, fun p hp => ?_, H.nd, H.gens, H.os⟩
  · rw [hs.2.1 b fun hb => ?_]
    · exact H.keep b o e
    · obtain ⟨names, vals, h1⟩ := hm b hb
      rw [(H.own _ h1).2] at e; cases e
  · obtain ⟨⟨o, h1, h2⟩, h3⟩ := H.own p hp
    refine ⟨?_, h3⟩
    by_cases hb : p.1 ∈ envs.filterMap (·.frame)
    · obtain ⟨names, vals, h4⟩ := hm _ hb
      obtain ⟨sl, h5⟩ := hs.2.2 _ _ h1
      have e := nodup_same H.nd (a := p.1) (P := p.2) hp h4
      refine ⟨_, h5, ?_⟩
      rw [e] at h2 ⊢
      exact h2
    · exact ⟨o, (hs.2.1 _ hb).trans h1, h2⟩
noncomputable def Exn (cls : String) (tb ctx : Value) : Pr := fun o => o.cls = .type cls ∧ ∃ vs, o.data = .fields vs ∧ 2 < vs.size ∧ vs[1]? = some tb ∧ vs[2]? = some ctx
noncomputable def Tbk (f : Value) : Pr := fun o => ∃ ts, o.data = .fields ts ∧ 3 < ts.size ∧ ts[3]? = some f
section
variable {w : World} {prog : Program} {A : Around} {E : Value → Shared → Prop} {z s : Shared} {L L' : Led} {e tb Lf : Addr} {cls : String} {ctx x : Value} {env : Env} {outer : List Env}
theorem Stt.newExc {h' : Heap} {t : Nat} (H : Stt z s L) (hx : Heap.NewExc s.heap h' e cls) : Stt z { s with heap := h', toks := t } ((e, Exn cls .none .none) :: L) := by
  obtain ⟨ob, t0, h1, h2, h3⟩ := hx.there
  exact H.cons (s' := { s with heap := h', toks := t }) hx.keeps rfl rfl hx.new h1 ⟨h2, _, h3, by simp, rfl, rfl⟩
theorem note_new {Q : Unit → Shared → Prop} (H : Stt z s L) (hfr : A.frames = some (env :: outer)) (hF : FrOk (env :: outer) L) (hf : env.frame = some Lf) {L' : Addr → Led} (U : ∀ tb, Upd L e (Exn cls .none ctx) (Exn cls (.ref tb) ctx) (L' tb))
    (h : ∀ tb s', Stt z s' ((tb, Tbk (rawInt Lf)) :: L' tb) → Q () s') : wpAny (model prog w) A (noteFrame (.ref e) env) Q E s := by
  have hm := (U 0).mem
  obtain ⟨oe, he, hc, vs, hd, hsz, h1, h2⟩ := H.get hm
  unfold noteFrame
  simp only [hf]
  refine wpAny_bind (wpAny_field he hd h1 ?_)
  rw [if_neg (by simp)]
  refine wpAny_bind (wpAny_frameOf_fun hfr (hF.fn H) hf fun h₁ hs₁ => ?_)
  have H1 := H.slots hF hs₁
  obtain ⟨oe1, he1, hc1, vs1, hd1, hsz1, h11, h21⟩ := H1.get hm
  refine wpAny_bind (wpAny_entryPlaceOf fun pl hpl => ?_)
  unfold EntryCells.newEntry newFields
  refine wpAny_bind (wpAny_newObj_type ?_ (hpl.sizeOk5 _ _ _ _ _))
  have H2 := H1.alloc (t := s.toks) (P := Tbk (rawInt Lf)) (o := { cls := .type "traceback", dict := none, data := .fields ([.none, .ref Lf, .none, rawInt Lf, .none] ++ (if pl.isEmpty then List.replicate 6 Value.none else pl)).toArray }) rfl ⟨_, rfl, by simp only [List.size_toArray, List.length_append, List.length_cons, List.length_nil] <;> omega, by simp⟩
  obtain ⟨oe2, he2, hc2, vs2, hd2, hsz2, h12, h22⟩ := H2.get (List.mem_cons_of_mem _ hm)
  refine wpAny_setField he2 hd2 (by omega) (h h₁.objs.size _ ?_)
  have hd₃ := Obj.data_mapFields hd2 (·.setIfInBounds 1 (Value.ref h₁.objs.size))
  refine H2.change (.tail (U _)) he2 (Obj.isFreed_of_fields hd₃) ⟨?_, _, hd₃, by simpa using hsz2, by simp [show 1 < vs2.size by omega], ?_⟩
  · rw [Obj.cls_mapFields]; exact hc2
  · rw [Array.getElem?_setIfInBounds_ne (by decide)]; exact h22
theorem note_same {Q : Unit → Shared → Prop} (H : Stt z s L) (hf : env.frame = some Lf) (he : (e, Exn cls (.ref tb) ctx) ∈ L) (ht : (tb, Tbk (rawInt Lf)) ∈ L) (h : Q () s) : wpAny (model prog w) A (noteFrame (.ref e) env) Q E s := by
  obtain ⟨oe, he, hc, vs, hd, hsz, h1, h2⟩ := H.get he
  obtain ⟨ot, hte, ts, hdt, hst, h3⟩ := H.get ht
  exact wpAny_noteFrame_inFlight hf he hd h1 hte hdt h3 h
theorem flight {Q : Unit → Shared → Prop} {fr : Option Addr} (H : Stt z s L) (he : (e, Exn cls (.ref tb) ctx) ∈ L) (U : Upd L tb (Tbk x) (Tbk (fr.elim .none fun f => rawInt f)) L') (h : ∀ s', Stt z s' L' → Q () s') : wpAny (model prog w) A (setFlight (.ref e) fr) Q E s := by
  obtain ⟨oe, he, hc, vs, hd, hsz, h1, h2⟩ := H.get he
  obtain ⟨ot, hte, ts, hdt, hst, h3⟩ := H.get U.mem
  unfold setFlight
  refine wpAny_bind (wpAny_field he hd h1 ?_)
  rw [if_pos (by simp)]
  refine wpAny_setField hte hdt hst (h _ ?_)
  have hd₃ := Obj.data_mapFields hdt (·.setIfInBounds 3 (fr.elim .none fun f => rawInt f))
  exact H.change (t := s.toks) U hte (Obj.isFreed_of_fields hd₃) ⟨_, hd₃, by simpa using hst, by simp [hst]⟩
theorem came_back (H : Stt z s L) (hf : env.frame = some Lf) (he : (e, Exn cls (.ref tb) ctx) ∈ L) (U : Upd L tb (Tbk x) (Tbk (rawInt Lf)) L') (h : ∀ s', Stt z s' L' → E (.ref e) s') : cameBackBy (model prog w) A env E (.ref e) s := by
  obtain ⟨oe, he', hc, vs, hd, hsz, h1, h2⟩ := H.get he
  show wpAny _ _ _ _ _ _
  refine wpAny_bind (wpAny_field he' hd h1 ?_)
  rw [if_neg (by simp)]
  rw [hf]
  exact flight (fr := some Lf) H he U h
theorem pass_on {α : Type} {what : String} {Q : α → Shared → Prop} (H : Stt z s L) (hf : env.frame = some Lf) (he : (e, Exn cls (.ref tb) ctx) ∈ L) (U : Upd L tb (Tbk x) (Tbk (rawInt Lf)) L') (h : ∀ s', Stt z s' L' → E (.ref e) s') : wpAny (model prog w) A (passOn what (.ref e) env) Q E s := by
  obtain ⟨oe, he', hc, vs, hd, hsz, h1, h2⟩ := H.get he
  unfold PySem.passOn
  refine wpAny_bind (wpAny_field he' hd h1 ?_)
  rw [if_neg (by simp)]
  rw [hf]
  exact wpAny_bind (flight (fr := some Lf) H he U fun s' H' => wpAny_throw (h s' H'))
end

end
section
/-! ## List items, in range and out -/
section
variable {w : World} {prog : Program} {A : Around} {E : Value → Shared → Prop} {z s : Shared} {L L' : Led} {l h0 : Addr} {xs : List Value} {value slice : Expr} {Q : Value → Shared → Prop} {i : Nat} {t : Tok} {v : Value}
theorem l_item (H : Stt z s L) (hm : (l, Lst xs) ∈ L) (hx : xs[i]? = some v) (hz : xs.length ≤ 16777216) (h : Q v s)
    (hs : subscripted slice false (.ref l) (.int (i : Int) t) = operate [.ref l, .int (i : Int) t] (getItem (.ref l) (.int (i : Int) t)) := by with_unfolding_all rfl) (ht : ∀ r, letTemporaryGo value (.ref l) r = pure () := by intro _; with_unfolding_all rfl) :
    wpAny (model prog w) A (subscriptTail value slice (.ref l) (.int (i : Int) t)) Q E s := by
  have hlt : i < xs.length := by
    rcases Nat.lt_or_ge i xs.length with q | q
    · exact q
    · rw [List.getElem?_eq_none q] at hx; cases hx
  exact subscriptTail_builtin (isList H hm).typeIs PySem.slot_list_getitem.lookup (wpAny_getItem_list (isList H hm) (by omega) (by omega) (by simpa using hx) h) hs ht
theorem l_out (hh : A.handled = none) (H : Stt z s L) (hm : (l, Lst xs) ∈ L) (hx : xs.length ≤ i) (hz : i ≤ 16777216) (h : ∀ e s', Stt z s' ((e, Exn "IndexError" .none .none) :: L) → E (.ref e) s')
    (hs : subscripted slice false (.ref l) (.int (i : Int) t) = operate [.ref l, .int (i : Int) t] (getItem (.ref l) (.int (i : Int) t)) := by with_unfolding_all rfl) (ht : ∀ r, letTemporaryGo value (.ref l) r = pure () := by intro _; with_unfolding_all rfl) :
    wpAny (model prog w) A (subscriptTail value slice (.ref l) (.int (i : Int) t)) Q E s :=
  subscriptTail_builtin (isList H hm).typeIs PySem.slot_list_getitem.lookup (wpAny_getItem_list_out hh (isList H hm) (.inr (by simp; omega)) (by omega) (by omega) fun h' tk e hx => h e _ (H.newExc hx)) hs ht
theorem entry_unchain : entryFor table "proto.unchain" = some Builtin.«proto.unchain» := entryFor_of_tree (by kernel_rfl)
theorem raise_under {α : Type} {e : Addr} {cls cls0 : String} {tb0 : Value} {Q : α → Shared → Prop} (hh : A.handled = some (.ref h0)) (H : Stt z s ((e, Exn cls .none .none) :: L)) (hm : (h0, Exn cls0 tb0 .none) ∈ L) (h : ∀ s', Stt z s' ((e, Exn cls .none (.ref h0)) :: L) → E (.ref e) s') :
    wpAny (model prog w) A (raiseNew (.ref e) : Sem α) Q E s := by
  have hne : h0 ≠ e := fun q => by
    have nd := H.nd
    rw [List.map_cons, List.nodup_cons] at nd
    exact nd.1 (List.mem_map.mpr ⟨_, hm, q⟩)
  unfold raiseNew
  refine wpAny_bind (wpAny_handled ?_)
  rw [hh]
  dsimp only
  rw [if_pos (by simpa using hne)]
  obtain ⟨o0, g0, c0, vs0, d0, s0, q1, q2⟩ := H.get (List.mem_cons_of_mem _ hm)
  refine wpAny_bind (wpAny_holding (wpAny_runValue (codeAny_builtin entry_unchain ?_)))
  unfold Builtin.«proto.unchain»
  refine wpAny_bind (wpAny_field g0 d0 q2 ?_)
  rw [if_pos (by rfl)]
  refine wpAny_pure ?_
  show wpAny _ _ _ _ _ _
  obtain ⟨oe, ge, ce, vse, de, se, r1, r2⟩ := H.get List.mem_cons_self
  refine wpAny_bind ?_
  unfold updateField
  refine wpAny_bind (wpAny_load ge ?_)
  rw [de]
  dsimp only
  rw [if_pos (by omega)]
  refine wpAny_update ge (wpAny_throw (h _ ?_))
  have hd₃ := Obj.data_mapFields de (·.setIfInBounds 2 (Value.ref h0))
  refine H.change (t := s.toks) .head ge (Obj.isFreed_of_fields hd₃) ⟨?_, _, hd₃, by simpa using se, ?_, by simp [se]⟩
  · rw [Obj.cls_mapFields]; exact ce
  · rw [Array.getElem?_setIfInBounds_ne (by decide)]; exact r1
theorem words_under {α : Type} {cls0 : String} {tb0 : Value} {msg : String} {Q : α → Shared → Prop} (hh : A.handled = some (.ref h0)) (H : Stt z s L) (hm : (h0, Exn cls0 tb0 .none) ∈ L) (h : ∀ e s', Stt z s' ((e, Exn "IndexError" .none (.ref h0)) :: L) → E (.ref e) s') :
    wpAny (model prog w) A (raiseErrorWords "IndexError" msg : Sem α) Q E s := by
  unfold raiseErrorWords
  refine wpAny_bind (wpAny_mkText (wpAny_bind (wpAny_newExc_plain plainExc_IndexError (fun h' e hx => ?_) (by simp [sizeLine]))))
  exact raise_under hh ((H.tok (s.toks + 1)).newExc (t := s.toks + 1) hx.newExc) hm (h e)
theorem made_under {α : Type} {cls0 : String} {tb0 : Value} {msg : String} {Q : α → Shared → Prop} (hh : A.handled = some (.ref h0)) (H : Stt z s L) (hm : (h0, Exn cls0 tb0 .none) ∈ L) (hmsg : (msg : Str).length ≤ sizeLine) (h : ∀ e s', Stt z s' ((e, Exn "IndexError" .none (.ref h0)) :: L) → E (.ref e) s') :
    wpAny (model prog w) A (raiseErrorMade "IndexError" msg : Sem α) Q E s := by
  unfold raiseErrorMade
  refine wpAny_bind (wpAny_mkStr ?_ hmsg)
  refine wpAny_bind (wpAny_newExc_plain plainExc_IndexError (fun h' e hx => ?_) (by simp [sizeLine]))
  exact raise_under hh ((H.tok (s.toks + 1)).newExc (t := s.toks + 1) hx.newExc) hm (h e)
theorem l_out_under {cls0 : String} {tb0 : Value} (hh : A.handled = some (.ref h0)) (H : Stt z s L) (hm0 : (h0, Exn cls0 tb0 .none) ∈ L) (hm : (l, Lst xs) ∈ L) (hx : xs.length ≤ i) (hz : i ≤ 16777216) (h : ∀ e s', Stt z s' ((e, Exn "IndexError" .none (.ref h0)) :: L) → E (.ref e) s')
    (hs : subscripted slice false (.ref l) (.int (i : Int) t) = operate [.ref l, .int (i : Int) t] (getItem (.ref l) (.int (i : Int) t)) := by with_unfolding_all rfl) (ht : ∀ r, letTemporaryGo value (.ref l) r = pure () := by intro _; with_unfolding_all rfl) :
    wpAny (model prog w) A (subscriptTail value slice (.ref l) (.int (i : Int) t)) Q E s := by
  refine subscriptTail_builtin (isList H hm).typeIs PySem.slot_list_getitem.lookup ?_ hs ht
  have hl := isList H hm
  obtain ⟨o, ho, hc, ne, hd⟩ := id hl
  have hf1 : -(2 ^ 63) ≤ (Int.ofNat i) := by simp only [Int.ofNat_eq_natCast]; omega
  have hf2 : (Int.ofNat i) < 2 ^ 63 := by simp only [Int.ofNat_eq_natCast]; omega
  rw [show ((i : Nat) : Int) = Int.ofNat i from rfl]
  obtain ⟨k, hk⟩ : ∃ k, Int.ofNat i = k := ⟨_, rfl⟩
  rw [hk] at hf1 hf2 ⊢
  unfold getItem
  try with_reducible refine wpAny_holding ?_
  first | refine wpAny_bind (wpAny_pure ?_) | skip
  refine wpAny_bind (wpAny_sequenceKey hl.typeIs (by decide) ?_)
  refine wpAny_bind (wpAny_callSpecial?_slot (name := Str.ofString "__getitem__") hl.typeIs PySem.slot_list_getitem
    (wpAny_call_entry PySem.slot_list_getitem hl.typeIs PySem.entry_list_getitem ?_ (PySem.args_list_getitem _ _)))
  show wpAny _ _ (Builtin.List.listSubscript? (.int k t) >>= _) _ _ s
  refine wpAny_bind (wpAny_listSubscript_int (fitsIndex_both hf1 hf2) ?_)
  clear hf1 hf2
  subst hk
  have hx' : xs.toArray[i]? = none := by simpa using hx
  show wpAny _ _ ((seqItemAt l i >>= fun r => pure (r.map (i, ·))) >>= _) _ _ s
  refine wpAny_bind (wpAny_bind (wpAny_seqItemAt ho hd (wpAny_pure ?_)))
  rw [hx']
  first
    | exact wpAny_bind (wpAny_rule (words_under hh H hm0 h))
    | exact wpAny_bind (wpAny_rule (wpAny_bind (words_under hh H hm0 h)))
    | exact wpAny_bind (wpAny_bind (wpAny_rule (words_under hh H hm0 h)))
    | exact wpAny_rule (words_under hh H hm0 h)
    | exact wpAny_bind (wpAny_rule (made_under hh H hm0 (by size_fits) h))
    | exact wpAny_bind (wpAny_rule (wpAny_bind (made_under hh H hm0 (by size_fits) h)))
    | exact wpAny_bind (wpAny_bind (wpAny_rule (made_under hh H hm0 (by size_fits) h)))
    | exact wpAny_rule (made_under hh H hm0 (by size_fits) h)
end

end
section
/-! ## Words in order; slices; extend -/
noncomputable abbrev ord (a b : Wd) : Ordering := Builtin.Bytes.order a b
namespace BO
theorem slot_lt : Slot "bytes" (cmpInfo .Lt).2.1 "bytes.__lt__" :=
  .of (owner := "bytes") (n := "__lt__") (by rw [typeLookup_type, builtinLookup_eq_fast]; kernel_rfl) (by decide +kernel) (by decide +kernel) (by decide +kernel)
    (by first | exact .inl (by decide +kernel) | exact .inr (by decide +kernel)) (by rw [isSubtype_type]; kernel_rfl)
theorem entry_lt : entryFor table "bytes.__lt__" = some Builtin.«bytes.__lt__» := entryFor_of_tree (by kernel_rfl)
theorem args_lt (a b : Value) : argsOk "bytes.__lt__" ⟨[a, b], []⟩ := by unfold argsOk; kernel_rfl
theorem slot_gt : Slot "bytes" (cmpInfo .Gt).2.1 "bytes.__gt__" :=
  .of (owner := "bytes") (n := "__gt__") (by rw [typeLookup_type, builtinLookup_eq_fast]; kernel_rfl) (by decide +kernel) (by decide +kernel) (by decide +kernel)
    (by first | exact .inl (by decide +kernel) | exact .inr (by decide +kernel)) (by rw [isSubtype_type]; kernel_rfl)
theorem entry_gt : entryFor table "bytes.__gt__" = some Builtin.«bytes.__gt__» := entryFor_of_tree (by kernel_rfl)
theorem args_gt (a b : Value) : argsOk "bytes.__gt__" ⟨[a, b], []⟩ := by unfold argsOk; kernel_rfl
theorem gives_lt (b c : Array UInt8) (t u : Tok) : Gives (Builtin.«bytes.__lt__» ⟨[.bytes b t, .bytes c u], []⟩) (.val (.bool (ord b.toList c.toList == .lt))) := by
  refine .of_wp fun M A E s Q hq => ?_
  show wpAny M A (isInstance (.bytes c u) (.type "bytes") >>= fun r => _) _ E s
  refine wpAny_bind (wpAny_isInstance (typeIs_bytes s c u) PySem.F.sub_bytes_bytes ?_)
  exact wpAny_pure ⟨_, rfl, hq⟩
theorem gives_gt (b c : Array UInt8) (t u : Tok) : Gives (Builtin.«bytes.__gt__» ⟨[.bytes b t, .bytes c u], []⟩) (.val (.bool (ord b.toList c.toList == .gt))) := by
  refine .of_wp fun M A E s Q hq => ?_
  show wpAny M A (isInstance (.bytes c u) (.type "bytes") >>= fun r => _) _ E s
  refine wpAny_bind (wpAny_isInstance (typeIs_bytes s c u) PySem.F.sub_bytes_bytes ?_)
  exact wpAny_pure ⟨_, rfl, hq⟩
end BO
section
variable {w : World} {prog : Program} {A : Around} {E : Value → Shared → Prop} {z s : Shared} {L L' : Led} {Q : Value → Shared → Prop} {a b : Wd} {t u : Tok}
theorem w_lt (h : Q (.bool (ord a b == .lt)) s) : wpAny (model prog w) A (compareOp .Lt (.bytes a.toArray t) (.bytes b.toArray u)) Q E s :=
  compareOp_gives (op := .Lt) (typeIs_bytes s _ t) (typeIs_bytes s _ u) BO.slot_lt BO.entry_lt (BO.args_lt _ _) (BO.gives_lt a.toArray b.toArray t u) (fun e => nomatch e) h
theorem w_gt (h : Q (.bool (ord a b == .gt)) s) : wpAny (model prog w) A (compareOp .Gt (.bytes a.toArray t) (.bytes b.toArray u)) Q E s :=
  compareOp_gives (op := .Gt) (typeIs_bytes s _ t) (typeIs_bytes s _ u) BO.slot_gt BO.entry_gt (BO.args_gt _ _) (BO.gives_gt a.toArray b.toArray t u) (fun e => nomatch e) h
theorem w_eq (h : Q (.bool (a == b)) s) : wpAny (model prog w) A (compareOp .Eq (.bytes a.toArray t) (.bytes b.toArray u)) Q E s := eq_bytes (by simpa using h)
theorem l_extend {l b : Addr} {xs ys : List Value} (H : Stt z s L) (U : Upd L l (Lst xs) (Lst (xs ++ ys)) L') (hm : (b, Lst ys) ∈ L) (hz : xs.length + ys.length ≤ 16777216) (h : ∀ s', Stt z s' L' → Q .none s') : wpAny (model prog w) A (call (.builtin "list.extend") [.ref l, .ref b]) Q E s := by
  obtain ⟨o, e, n, rfl⟩ := H.get U.mem
  obtain ⟨o2, e2, n2, rfl⟩ := H.get hm
  refine call_meets PySem.F.slot_list_extend (isList H U.mem).typeIs PySem.F.entry_list_extend (PySem.F.args_list_extend_2 _ _) (PySem.AutoSeq1.list_extend_list_list_0 l _ n b _ n2 ?_ (by simp [sizeLine]; omega) (by simp [sizeLine]; omega)) ⟨e, e2, h _ (H.change U e rfl ⟨_, by simp [Obj.mapSeq]; rfl⟩)⟩
  simp [Builtin.List.listTooLong, sizeLine]; omega
theorem l_from {l sl : Addr} {xs : List Value} {value slice : Expr} {i : Nat} {tk : Tok} (H : Stt z s L) (hm : (l, Lst xs) ∈ L) (hs1 : (sl, Slc (.int (i : Int) tk) .none .none) ∈ L) (hz : xs.length ≤ 16777216) (h : ∀ c s', Stt z s' ((c, Lst (xs.drop i)) :: L) → Q (.ref c) s')
    (hs : subscripted slice false (.ref l) (.ref sl) = operate [.ref sl, .ref l] (getItem (.ref l) (.ref sl)) := by with_unfolding_all rfl) (ht : ∀ r, letTemporaryGo value (.ref l) r = pure () := by intro _; with_unfolding_all rfl) :
    wpAny (model prog w) A (subscriptTail value slice (.ref l) (.ref sl)) Q E s := by
  refine tail_of_ItemOn (M := model prog w) ⟨"list", _, PySem.slot_list_getitem.lookup, (isList H hm).typeIs, wpAny_getItem_list_slice (prog := prog) (w := w) (isList H hm) (isSlice H hs1) (.int _ _) .none .none (by simp) ?_ (by simpa [sizeLine] using hz)⟩ hs ht
  have := h _ _ (H.alloc (t := s.toks) (P := Lst (xs.drop i)) (o := { cls := .type "list", data := .seq (slicePick xs.toArray (some (i : Int)) none none) }) rfl ⟨_, by rw [slicePick_from' xs.toArray i]⟩)
  exact this
end
/-! ### the difference as a function -/
noncomputable def dif : List Wd → List Wd → List Wd × List Wd
  | [], A => ([], A)
  | e :: E, [] => (e :: E, [])
  | e :: E, a :: A =>
    if ord e a = .lt then (e :: (dif (E.dropWhile (· == e)) (a :: A)).1, (dif (E.dropWhile (· == e)) (a :: A)).2)
    else if ord e a = .gt then ((dif (e :: E) (A.dropWhile (· == a))).1, a :: (dif (e :: E) (A.dropWhile (· == a))).2)
    else dif (E.dropWhile (· == e)) (A.dropWhile (· == a))
termination_by E A => E.length + A.length
decreasing_by
  all_goals
    have h1 := (List.dropWhile_sublist (· == e) (l := E)).length_le
    have h2 := (List.dropWhile_sublist (· == a) (l := A)).length_le
    simp only [List.length_cons]
    omega

end
section
/-! ## Catching -/
section
variable {w : World} {mg mb : Str → Option Value} {prog : Program} {A : Around} {E : Value → Shared → Prop} {z s : Shared} {L : Led} {e tb Lf : Addr} {X : String} {ctx : Value} {env : Env} {outer : List Env} {K : Shared → Prop}
theorem caught_new (H : Stt z s ((e, Exn X .none ctx) :: L)) (hfr : A.frames = some (env :: outer)) (hF : FrOk (env :: outer) L) (hf : env.frame = some Lf)
    (h : ∀ tb s', Stt z s' ((tb, Tbk .none) :: (e, Exn X (.ref tb) ctx) :: L) → K s') : wpAny (model prog w) A (noteFrame (.ref e) env) (fun _ s₂ => wpAny (model prog w) A (setFlight (.ref e) none) (fun _ s₃ => K s₃) E s₂) E s := by
  refine note_new H hfr (fun q hq => ?_) hf (L' := fun tb => (e, Exn X (.ref tb) ctx) :: L) (fun tb => .head) fun tb s' H' => ?_
  · obtain ⟨h1, f, names, vals, h2, h3⟩ := hF q hq
    exact ⟨h1, f, names, vals, h2, List.mem_cons_of_mem _ h3⟩
  · exact flight (fr := none) H' (List.mem_cons_of_mem _ List.mem_cons_self) .head fun s'' H'' => h tb s'' H''
theorem caught_old (H : Stt z s ((tb, Tbk (rawInt Lf)) :: (e, Exn X (.ref tb) ctx) :: L)) (hf : env.frame = some Lf)
    (h : ∀ tb s', Stt z s' ((tb, Tbk .none) :: (e, Exn X (.ref tb) ctx) :: L) → K s') : wpAny (model prog w) A (noteFrame (.ref e) env) (fun _ s₂ => wpAny (model prog w) A (setFlight (.ref e) none) (fun _ s₃ => K s₃) E s₂) E s :=
  note_same H hf (List.mem_cons_of_mem _ List.mem_cons_self) List.mem_cons_self (flight (fr := none) H (List.mem_cons_of_mem _ List.mem_cons_self) .head fun s'' H'' => h tb s'' H'')
/-- an exception made in a loop of the block -/
theorem through_loop {A' : Around} (H : Stt z s ((e, Exn X .none ctx) :: L)) (hfr : A.frames = some (env :: outer)) (hF : FrOk (env :: outer) L) (hf : env.frame = some Lf)
    (h : ∀ tb s', Stt z s' ((tb, Tbk (rawInt Lf)) :: (e, Exn X (.ref tb) ctx) :: L) → E (.ref e) s') : notedBy (model prog w) A env (cameBackBy (model prog w) A' env E) (.ref e) s := by
  show wpAny _ _ _ _ _ _
  refine note_new H hfr (fun q hq => ?_) hf (L' := fun tb => (e, Exn X (.ref tb) ctx) :: L) (fun tb => .head) fun tb s' H' => ?_
  · obtain ⟨h1, f, names, vals, h2, h3⟩ := hF q hq
    exact ⟨h1, f, names, vals, h2, List.mem_cons_of_mem _ h3⟩
  · exact came_back H' hf (List.mem_cons_of_mem _ List.mem_cons_self) .head fun s'' H'' => h tb s'' H''
theorem through_again {A' : Around} (H : Stt z s ((tb, Tbk (rawInt Lf)) :: (e, Exn X (.ref tb) ctx) :: L)) (hf : env.frame = some Lf)
    (h : ∀ tb s', Stt z s' ((tb, Tbk (rawInt Lf)) :: (e, Exn X (.ref tb) ctx) :: L) → E (.ref e) s') : notedBy (model prog w) A env (cameBackBy (model prog w) A' env E) (.ref e) s :=
  note_same H hf (List.mem_cons_of_mem _ List.mem_cons_self) List.mem_cons_self (came_back H hf (List.mem_cons_of_mem _ List.mem_cons_self) .head fun s'' H'' => h tb s'' H'')
/-- the clause that takes it -/
theorem handle_by {T : String} {x : Str} {px pos : Pos} {b₀ : Stmt} {suite : List Stmt} {rest : List ExceptHandler} {Lf' : Addr} {ls gs : List Str} {cs : List (Str × Addr)} {Q : Flow → Shared → Prop}
    (hexc : isSubtype (.type T) (.type "BaseException") = pure true) (hnt : isSubtype (.type ((Manifest.find? T).elim "type" fun x => x.metatype)) (.type "tuple") = pure false) (hsub : isSubtype (.type T) (.type T) = pure true)
    (G : Gd w mg mb z.heap) (he : EnvIs env Lf' ls gs cs) (hx : x ∈ gs) (hg : mg x = none) (hv : bootBuiltins x = some (.type T)) (hn : x ≠ "__name__") (hd : (x == ("__debug__" : Str)) = false)
    (H : Stt z s ((tb, Tbk .none) :: (e, Exn T (.ref tb) ctx) :: L))
    (h : ∀ s', Stt z s' ((tb, Tbk .none) :: (e, Exn T (.ref tb) ctx) :: L) → wpAny (model prog w) (A.mark (some (.ref e))) (execs (b₀ :: suite) env) Q (notedBy (model prog w) (A.mark (some (.ref e))) env (cameBackBy (model prog w) A env E)) s') :
    wpAny (model prog w) A (handleBy (.ref e) env (.ExceptHandler (some (.Name x px)) none (b₀ :: suite) pos :: rest)) Q E s := by
  refine wpAny_handleBy_builtin (X := T) (T := T) (b := true) hexc hnt hsub ?_
  refine n_built H he G hx hg hv hn ?_ hd
  obtain ⟨oe, g1, g2, _⟩ := H.get (List.mem_cons_of_mem _ List.mem_cons_self)
  refine ⟨rfl, ⟨oe, g1, g2⟩, ?_⟩
  rw [if_pos rfl]
  exact flight (fr := none) H (List.mem_cons_of_mem _ List.mem_cons_self) .head fun s' H' => h s' H'
end
/-- what may leave the block is told once, by a variable; the clauses answer for it once -/
theorem try_cut {w : World} {prog : Program} {A : Around} {E : Value → Shared → Prop} {s : Shared} {env : Env} {body orelse : List Stmt} {h₀ : ExceptHandler} {hs : List ExceptHandler} {pos : Pos} {Q : Flow → Shared → Prop} (I : Value → Shared → Prop)
    (hI : ∀ e s, I e s → wpAny (model prog w) A (handleBy e env (h₀ :: hs)) Q E s)
    (h : ∀ K : Value → Shared → Prop, (∀ e s, I e s → K e s) → wpAny (model prog w) A (execs body env) (fun f s₁ => match f with | .next => wpAny (model prog w) A (execs orelse env) Q E s₁ | f => Q f s₁)
      (fun e s₁ => wpAny (model prog w) A (noteFrame e env) (fun _ s₂ => wpAny (model prog w) A (setFlight e none) (fun _ s₃ => K e s₃) E s₂) E s₁) s) :
    wpAny (model prog w) A (exec (.Try body (h₀ :: hs) orelse [] pos) env) Q E s :=
  wpAny_Try_except (wpAny_mono (h _ fun _ _ x => x) (fun _ _ x => x) fun _ _ x => wpAny_mono x (fun _ _ x => wpAny_mono x (fun _ _ x => hI _ _ x) fun _ _ x => x) fun _ _ x => x)

end
section
/-! ## sorted_list_difference: its inner loops -/
noncomputable abbrev sldN : List Str := ["expected", "actual", "i", "j", "missing", "unexpected", "e", "a"]
/-- what is being handled -/
noncomputable def Ctx (A : Around) (L : Led) (ctx : Value) : Prop := (A.handled = none ∧ ctx = .none) ∨ ∃ h0 cls tb0, A.handled = some (.ref h0) ∧ ctx = .ref h0 ∧ (h0, Exn cls tb0 .none) ∈ L
section
variable {w : World} {prog : Program} {A : Around} {E : Value → Shared → Prop} {z s : Shared} {L L' : Led} {l : Addr} {xs : List Value} {value slice : Expr} {Q : Value → Shared → Prop} {i : Nat} {t : Tok} {ctx : Value} {q : Addr × Pr}
theorem l_out_any (hctx : Ctx A L ctx) (H : Stt z s (q :: L)) (hm : (l, Lst xs) ∈ q :: L) (hx : xs.length ≤ i) (hz : i ≤ 16777216) (h : ∀ e s', Stt z s' ((e, Exn "IndexError" .none ctx) :: q :: L) → E (.ref e) s')
    (hs : subscripted slice false (.ref l) (.int (i : Int) t) = operate [.ref l, .int (i : Int) t] (getItem (.ref l) (.int (i : Int) t)) := by with_unfolding_all rfl) (ht : ∀ r, letTemporaryGo value (.ref l) r = pure () := by intro _; with_unfolding_all rfl) :
    wpAny (model prog w) A (subscriptTail value slice (.ref l) (.int (i : Int) t)) Q E s := by
  rcases hctx with ⟨h1, rfl⟩ | ⟨h0, cls, tb0, h1, rfl, h3⟩
  · exact l_out h1 H hm hx hz h hs ht
  · exact l_out_under h1 H (List.mem_cons_of_mem _ h3) hm hx hz h hs ht
theorem i_inc {u : Tok} (H : Stt z s L) (h : ∀ s' t, Stt z s' L → Q (.int ((i + 1 : Nat) : Int) t) s') : wpAny (model prog w) A (inplaceOp .Add (.int (i : Int) t) (.int 1 u)) Q E s := i_iadd H fun s' t H' => h s' t H'
end
theorem skip_i {w : World} {prog : Program} {A : Around} {E : Value → Shared → Prop} {z s : Shared} {L : Led} {env : Env} {outer : List Env} {Lf l : Addr} {xs : List Value} {ws : List Wd} {k : Wd} {tk t : Tok} {i : Nat} {v1 v2 v3 v4 v5 : Option Value} {ctx : Value} {p1 p2 p3 p4 p5 p6 p7 p8 p9 : Pos} {Q : Flow → Shared → Prop}
    (he : EnvIs env Lf sldN ["IndexError"] []) (hfr : A.frames = some (env :: outer)) (hF : FrOk (env :: outer) ((Lf, Fra sldN [some (.ref l), v1, some (.int (i : Int) t), v2, v3, v4, some (.bytes k.toArray tk), v5]) :: L)) (hf : env.frame = some Lf) (hctx : Ctx A L ctx)
    (H : Stt z s ((Lf, Fra sldN [some (.ref l), v1, some (.int (i : Int) t), v2, v3, v4, some (.bytes k.toArray tk), v5]) :: L)) (hm : (l, Lst xs) ∈ L) (hw : WsAre xs ws) (hz : xs.length ≤ 10000) (hi : i ≤ ws.length)
    (h1 : ∀ i' t' s', i ≤ i' → i' < ws.length → (ws.drop i).dropWhile (· == k) = ws.drop i' → Stt z s' ((Lf, Fra sldN [some (.ref l), v1, some (.int (i' : Int) t'), v2, v3, v4, some (.bytes k.toArray tk), v5]) :: L) → Q .next s')
    (h2 : ∀ e tb t' s', (ws.drop i).dropWhile (· == k) = [] → Stt z s' ((tb, Tbk (rawInt Lf)) :: (e, Exn "IndexError" (.ref tb) ctx) :: (Lf, Fra sldN [some (.ref l), v1, some (.int (ws.length : Int) t'), v2, v3, v4, some (.bytes k.toArray tk), v5]) :: L) → E (.ref e) s') :
    wpAny (model prog w) A (exec (.While (.Compare (.Subscript (.Name "expected" p1) (.Name "i" p2) p3) [.Eq] [.Name "e" p4] p5) [.AugAssign (.Name "i" p6) .Add (.Constant (.int 1) 0 p7) p8] [] p9) env) Q E s := by
  have hlw := hw.length
  refine wpAny_While (codeAny_whileLoop (fun n s => ∃ i' t', i ≤ i' ∧ i' ≤ ws.length ∧ n = ws.length - i' ∧ (ws.drop i).dropWhile (· == k) = (ws.drop i').dropWhile (· == k) ∧ Stt z s ((Lf, Fra sldN [some (.ref l), v1, some (.int (i' : Int) t'), v2, v3, v4, some (.bytes k.toArray tk), v5]) :: L)) ?_ (ws.length - i) ⟨i, t, Nat.le_refl _, hi, rfl, rfl, H⟩)
  clear H
  intro n s ⟨i', t', hi1, hi2, hn, hd, H⟩
  have hFm : ∀ v, FrOk (env :: outer) ((Lf, Fra sldN v) :: L) := fun v q hq => by
    obtain ⟨a1, f, names, vals, a2, a3⟩ := hF q hq
    rcases List.mem_cons.mp a3 with e | e
    · exact ⟨a1, Lf, sldN, v, by rw [a2]; exact congrArg some (Prod.mk.inj e).1, List.mem_cons_self⟩
    · exact ⟨a1, f, names, vals, a2, List.mem_cons_of_mem _ e⟩
  with_reducible refine wpAny_isTrue_Compare1 ?_ (by with_unfolding_all rfl)
  with_reducible refine Subscript_ ?_
  refine n_local (by with_reducible assumption) (by with_reducible assumption) (by walk_at "mem") (by walk_at "loc") ?_
  refine n_local (by with_reducible assumption) (by with_reducible assumption) (by walk_at "mem") (by walk_at "loc") ?_
  by_cases hlt : i' < ws.length
  · obtain ⟨v, hv⟩ : ∃ v, xs[i']? = some v := ⟨_, List.getElem?_eq_getElem (by omega)⟩
    obtain ⟨q, tq, rfl, hq⟩ := hw.get hv
    have hdr : ws.drop i' = q :: ws.drop (i' + 1) := by
      rw [List.drop_eq_getElem_cons hlt]
      rw [List.getElem?_eq_getElem hlt] at hq
      rw [Option.some.inj hq]
    refine l_item H (List.mem_cons_of_mem _ hm) hv (by omega) ?_
    refine n_local (by with_reducible assumption) (by with_reducible assumption) (by walk_at "mem") (by walk_at "loc") ?_
    refine w_eq ?_
    with_reducible refine wpAny_truthy_bool ?_
    by_cases hqk : q = k
    · subst hqk
      rw [if_pos (by simp)]
      with_reducible refine wpAny_execs_cons ?_
      refine x_aug rfl ?_
      refine ld_local (by with_reducible assumption) (by with_reducible assumption) (by walk_at "mem") (by walk_at "loc") ?_
      (with_reducible rename Stt _ _ _ => hO); with_reducible refine c_int hO ?_; intro _ _ _; clear hO
      (with_reducible rename Stt _ _ _ => hO); refine i_inc hO ?_; intro _ _ _; clear hO
      (with_reducible rename Stt _ _ _ => hO); refine st_local hO (by with_reducible assumption) (by walk_at "upd") (by walk_at "put") ?_; intro _ _; clear hO
      with_reducible refine wpAny_execs_nil ?_
      rename_i H
      refine ⟨ws.length - (i' + 1), by omega, i' + 1, _, by omega, by omega, rfl, ?_, H⟩
      rw [hd, hdr, List.dropWhile_cons_of_pos (by simp)]
    · rw [if_neg (by simpa using hqk)]
      with_reducible refine wpAny_execs_nil ?_
      refine h1 i' _ _ hi1 hlt ?_ H
      rw [hd, hdr, List.dropWhile_cons_of_neg (by simpa using hqk)]
  · have hil : i' = ws.length := by omega
    subst hil
    refine l_out_any hctx H (List.mem_cons_of_mem _ hm) (by omega) (by omega) ?_
    intro e s' H'
    refine through_loop H' hfr (hFm _) hf ?_
    intro tb s'' H''
    refine h2 e tb _ _ ?_ H''
    rw [hd]; simp
theorem skip_j {w : World} {prog : Program} {A : Around} {E : Value → Shared → Prop} {z s : Shared} {L : Led} {env : Env} {outer : List Env} {Lf l : Addr} {xs : List Value} {ws : List Wd} {k : Wd} {tk t : Tok} {i : Nat} {v1 v2 v3 v4 v5 : Option Value} {ctx : Value} {p1 p2 p3 p4 p5 p6 p7 p8 p9 : Pos} {Q : Flow → Shared → Prop}
    (he : EnvIs env Lf sldN ["IndexError"] []) (hfr : A.frames = some (env :: outer)) (hF : FrOk (env :: outer) ((Lf, Fra sldN [v1, some (.ref l), v2, some (.int (i : Int) t), v3, v4, v5, some (.bytes k.toArray tk)]) :: L)) (hf : env.frame = some Lf) (hctx : Ctx A L ctx)
    (H : Stt z s ((Lf, Fra sldN [v1, some (.ref l), v2, some (.int (i : Int) t), v3, v4, v5, some (.bytes k.toArray tk)]) :: L)) (hm : (l, Lst xs) ∈ L) (hw : WsAre xs ws) (hz : xs.length ≤ 10000) (hi : i ≤ ws.length)
    (h1 : ∀ i' t' s', i ≤ i' → i' < ws.length → (ws.drop i).dropWhile (· == k) = ws.drop i' → Stt z s' ((Lf, Fra sldN [v1, some (.ref l), v2, some (.int (i' : Int) t'), v3, v4, v5, some (.bytes k.toArray tk)]) :: L) → Q .next s')
    (h2 : ∀ e tb t' s', (ws.drop i).dropWhile (· == k) = [] → Stt z s' ((tb, Tbk (rawInt Lf)) :: (e, Exn "IndexError" (.ref tb) ctx) :: (Lf, Fra sldN [v1, some (.ref l), v2, some (.int (ws.length : Int) t'), v3, v4, v5, some (.bytes k.toArray tk)]) :: L) → E (.ref e) s') :
    wpAny (model prog w) A (exec (.While (.Compare (.Subscript (.Name "actual" p1) (.Name "j" p2) p3) [.Eq] [.Name "a" p4] p5) [.AugAssign (.Name "j" p6) .Add (.Constant (.int 1) 0 p7) p8] [] p9) env) Q E s := by
  have hlw := hw.length
  refine wpAny_While (codeAny_whileLoop (fun n s => ∃ i' t', i ≤ i' ∧ i' ≤ ws.length ∧ n = ws.length - i' ∧ (ws.drop i).dropWhile (· == k) = (ws.drop i').dropWhile (· == k) ∧ Stt z s ((Lf, Fra sldN [v1, some (.ref l), v2, some (.int (i' : Int) t'), v3, v4, v5, some (.bytes k.toArray tk)]) :: L)) ?_ (ws.length - i) ⟨i, t, Nat.le_refl _, hi, rfl, rfl, H⟩)
  clear H
  intro n s ⟨i', t', hi1, hi2, hn, hd, H⟩
  have hFm : ∀ v, FrOk (env :: outer) ((Lf, Fra sldN v) :: L) := fun v q hq => by
    obtain ⟨a1, f, names, vals, a2, a3⟩ := hF q hq
    rcases List.mem_cons.mp a3 with e | e
    · exact ⟨a1, Lf, sldN, v, by rw [a2]; exact congrArg some (Prod.mk.inj e).1, List.mem_cons_self⟩
    · exact ⟨a1, f, names, vals, a2, List.mem_cons_of_mem _ e⟩
  with_reducible refine wpAny_isTrue_Compare1 ?_ (by with_unfolding_all rfl)
  with_reducible refine Subscript_ ?_
  refine n_local (by with_reducible assumption) (by with_reducible assumption) (by walk_at "mem") (by walk_at "loc") ?_
  refine n_local (by with_reducible assumption) (by with_reducible assumption) (by walk_at "mem") (by walk_at "loc") ?_
  by_cases hlt : i' < ws.length
  · obtain ⟨v, hv⟩ : ∃ v, xs[i']? = some v := ⟨_, List.getElem?_eq_getElem (by omega)⟩
    obtain ⟨q, tq, rfl, hq⟩ := hw.get hv
    have hdr : ws.drop i' = q :: ws.drop (i' + 1) := by
      rw [List.drop_eq_getElem_cons hlt]
      rw [List.getElem?_eq_getElem hlt] at hq
      rw [Option.some.inj hq]
    refine l_item H (List.mem_cons_of_mem _ hm) hv (by omega) ?_
    refine n_local (by with_reducible assumption) (by with_reducible assumption) (by walk_at "mem") (by walk_at "loc") ?_
    refine w_eq ?_
    with_reducible refine wpAny_truthy_bool ?_
    by_cases hqk : q = k
    · subst hqk
      rw [if_pos (by simp)]
      with_reducible refine wpAny_execs_cons ?_
      refine x_aug rfl ?_
      refine ld_local (by with_reducible assumption) (by with_reducible assumption) (by walk_at "mem") (by walk_at "loc") ?_
      (with_reducible rename Stt _ _ _ => hO); with_reducible refine c_int hO ?_; intro _ _ _; clear hO
      (with_reducible rename Stt _ _ _ => hO); refine i_inc hO ?_; intro _ _ _; clear hO
      (with_reducible rename Stt _ _ _ => hO); refine st_local hO (by with_reducible assumption) (by walk_at "upd") (by walk_at "put") ?_; intro _ _; clear hO
      with_reducible refine wpAny_execs_nil ?_
      rename_i H
      refine ⟨ws.length - (i' + 1), by omega, i' + 1, _, by omega, by omega, rfl, ?_, H⟩
      rw [hd, hdr, List.dropWhile_cons_of_pos (by simp)]
    · rw [if_neg (by simpa using hqk)]
      with_reducible refine wpAny_execs_nil ?_
      refine h1 i' _ _ hi1 hlt ?_ H
      rw [hd, hdr, List.dropWhile_cons_of_neg (by simpa using hqk)]
  · have hil : i' = ws.length := by omega
    subst hil
    refine l_out_any hctx H (List.mem_cons_of_mem _ hm) (by omega) (by omega) ?_
    intro e s' H'
    refine through_loop H' hfr (hFm _) hf ?_
    intro tb s'' H''
    refine h2 e tb _ _ ?_ H''
    rw [hd]; simp


end
section
/-! ## sorted_list_difference -/
theorem ie_exc : isSubtype (.type "IndexError") (.type "BaseException") = pure true := by rw [isSubtype_type]; kernel_rfl
theorem ie_nt : isSubtype (.type ((Manifest.find? "IndexError").elim "type" fun x => x.metatype)) (.type "tuple") = pure false := by rw [isSubtype_type]; kernel_rfl
theorem ie_sub : isSubtype (.type "IndexError") (.type "IndexError") = pure true := by rw [isSubtype_type]; kernel_rfl
theorem perm3 {α : Type} (a b c : α) (L : List α) : (a :: b :: c :: L).Perm (c :: b :: a :: L) :=
  (List.Perm.swap b a _).trans (((List.Perm.swap c a _).cons b).trans (List.Perm.swap c b _))
theorem dif_nil_l (A : List Wd) : dif [] A = ([], A) := by rw [dif]
theorem dif_nil_r (E : List Wd) : dif E [] = (E, []) := by cases E <;> rw [dif]
theorem x_tuple2 {w : World} {prog : Program} {A : Around} {E : Value → Shared → Prop} {z s : Shared} {L : Led} {vs : List Value} {Q : Value → Shared → Prop} (H : Stt z s L) (hz : vs.length ≤ sizeLine) (h : ∀ c s', Stt z s' ((c, Tup vs) :: L) → Q (.ref c) s') :
    vs.length ≤ sizeLine ∧ Q (.ref s.heap.objs.size) { s with heap := s.heap.push { cls := .type "tuple", data := .seq vs.toArray } } := ⟨hz, h _ _ (H.alloc (t := s.toks) rfl ⟨_, rfl⟩)⟩
theorem WsAre.drop {vs : List Value} {ks : List Wd} (h : WsAre vs ks) : ∀ i, WsAre (vs.drop i) (ks.drop i) := by
  induction h with
  | nil => intro i; simp; exact .nil
  | cons k t h ih =>
    intro i
    cases i with
    | zero => exact .cons k t h
    | succ i => simpa using ih i
theorem sldiff {w : World} {mg mb : Str → Option Value} {prog : Program} {A : Around} {z s : Shared} {L : Led} {R : Result → Shared → Prop} {outer : List Env} {lE lA : Addr} {xE xA : List Value} {wE wA : List Wd}
    (G : Gd w mg mb z.heap) (H : Stt z s L) (hA : A.depth ≤ 700) (hh : A.handled = none) (hfr : A.frames = some outer) (hF : FrOk outer L) (hmE : (lE, Lst xE) ∈ L) (hwE : WsAre xE wE) (hmA : (lA, Lst xA) ∈ L) (hwA : WsAre xA wA) (hzE : xE.length ≤ 1000) (hzA : xA.length ≤ 1000)
    (h : ∀ c m u vm vu s', WsAre vm (dif wE wA).1 → WsAre vu (dif wE wA).2 → Stt z s' ((c, Tup [.ref m, .ref u]) :: (m, Lst vm) :: (u, Lst vu) :: L) → R (.ok (.ret (.ref c))) s') :
    codeAny (model prog w) A (.call (.ref 155) ⟨[.ref lE, .ref lA], []⟩) R s := by
  refine call_fn (ps := ["expected", "actual"]) (rest := ["i", "j", "missing", "unexpected", "e", "a"]) (names := sldN) (vals := [some (.ref lE), some (.ref lA), none, none, none, none, none, none]) (gs := ["IndexError"]) G H (by k_is) (by k_is) (by show _ < 1000; omega) rfl (BindsTo.of_eq rfl) rfl rfl rfl (by decide) (by decide) (all_mem rfl) (all_mem rfl) rfl rfl ?_
  clear H
  intro env Lf s he hf H
  have hlE := hwE.length
  have hlA := hwA.length
  have hfr2 : (A.deeper env).frames = some (env :: outer) := by show A.frames.map _ = _; rw [hfr]; rfl
  have hF2 : ∀ v F, (∀ p ∈ L, p ∈ F) → FrOk (env :: outer) ((Lf, Fra sldN v) :: F) := fun v F hs q hq => by
    rcases List.mem_cons.mp hq with rfl | hq
    · exact ⟨(by rw [he.kind]; exact (fun x => nomatch x)), Lf, sldN, v, hf, List.mem_cons_self⟩
    · obtain ⟨a1, f, names, vals, a2, a3⟩ := hF q hq
      exact ⟨a1, f, names, vals, a2, List.mem_cons_of_mem _ (hs _ a3)⟩
  have hh2 : (A.deeper env).handled = none := hh
  with_reducible refine wpAny_execs_cons ?_
  refine wpAny_Assign_two ?_ rfl rfl
  (with_reducible rename Stt _ _ _ => hO); with_reducible refine c_int hO ?_; intro _ _ _; clear hO
  with_reducible refine wpAny_assign_Name ?_
  (with_reducible rename Stt _ _ _ => hO); refine st_local hO (by with_reducible assumption) (by walk_at "upd") (by walk_at "put") ?_; intro _ _; clear hO
  with_reducible refine wpAny_assign_Name ?_
  (with_reducible rename Stt _ _ _ => hO); refine st_local hO (by with_reducible assumption) (by walk_at "upd") (by walk_at "put") ?_; intro _ _; clear hO
  with_reducible refine wpAny_execs_cons ?_
  with_reducible refine wpAny_Assign_Name ?_ rfl
  with_reducible refine x_List ?_
  with_reducible refine spliced_none ?_
  refine ⟨by exact Nat.le_of_ble_eq_true rfl, ?_⟩
  (with_reducible rename Stt _ _ _ => hO); with_reducible refine al_list hO ?_; intro _ _ _; clear hO
  (with_reducible rename Stt _ _ _ => hO); refine st_local hO (by with_reducible assumption) (by walk_at "upd") (by walk_at "put") ?_; intro _ _; clear hO
  with_reducible refine wpAny_execs_cons ?_
  with_reducible refine wpAny_Assign_Name ?_ rfl
  with_reducible refine x_List ?_
  with_reducible refine spliced_none ?_
  refine ⟨by exact Nat.le_of_ble_eq_true rfl, ?_⟩
  (with_reducible rename Stt _ _ _ => hO); with_reducible refine al_list hO ?_; intro _ _ _; clear hO
  (with_reducible rename Stt _ _ _ => hO); refine st_local hO (by with_reducible assumption) (by walk_at "upd") (by walk_at "put") ?_; intro _ _; clear hO
  with_reducible refine wpAny_execs_cons ?_
  rename_i m _ _ u _ s H
  replace H := H.perm (perm3 _ _ _ _)
  refine wpAny_While (codeAny_whileLoop (fun n s => ∃ (i j : Nat) (ti tj : Tok) (vm vu : List Value) (wm wu : List Wd) (ve va : Option Value), i ≤ wE.length ∧ j ≤ wA.length ∧ n = (wE.length - i) + (wA.length - j) ∧ WsAre vm wm ∧ WsAre vu wu ∧ vm.length ≤ i ∧ vu.length ≤ j ∧
    wm ++ (dif (wE.drop i) (wA.drop j)).1 = (dif wE wA).1 ∧ wu ++ (dif (wE.drop i) (wA.drop j)).2 = (dif wE wA).2 ∧
    Stt z s ((Lf, Fra sldN [some (.ref lE), some (.ref lA), some (.int (i : Int) ti), some (.int (j : Int) tj), some (.ref m), some (.ref u), ve, va]) :: (m, Lst vm) :: (u, Lst vu) :: L)) ?_ (wE.length + wA.length) ⟨0, 0, _, _, [], [], [], [], none, none, by omega, by omega, by omega, .nil, .nil, by simp, by simp, by simp, by simp, H⟩)
  clear H
  intro n s hI
  refine isTrue_plain ?_ rfl
  with_reducible refine Constant_bool ?_
  with_reducible refine wpAny_truthy_bool ?_
  refine ift ?_
  with_reducible refine wpAny_execs_cons ?_
  refine hide_q fun Qn hQ => hide_e fun En _ => ?_
  obtain ⟨i, j, ti, tj, vm, vu, wm, wu, ve, va, hi, hj, hn, hvm, hvu, hlm, hlu, hd1, hd2, H⟩ := hI
  refine try_cut (fun x s => ∃ (e tb : Addr) (cx : Value) (i j : Nat) (ti tj : Tok) (vm vu : List Value) (wm wu : List Wd) (ve va : Option Value), x = .ref e ∧ WsAre vm wm ∧ WsAre vu wu ∧ vm.length ≤ wE.length ∧ vu.length ≤ wA.length ∧
    wm ++ wE.drop i = (dif wE wA).1 ∧ wu ++ wA.drop j = (dif wE wA).2 ∧
    Stt z s ((tb, Tbk .none) :: (e, Exn "IndexError" (.ref tb) cx) :: (Lf, Fra sldN [some (.ref lE), some (.ref lA), some (.int (i : Int) ti), some (.int (j : Int) tj), some (.ref m), some (.ref u), ve, va]) :: (m, Lst vm) :: (u, Lst vu) :: L)) ?_ fun K hK => ?_
  · intro x s ⟨e, tb, cx, i, j, ti, tj, vm, vu, wm, wu, ve, va, hx, hvm, hvu, hlm, hlu, hE1, hE2, H⟩
    subst hx
    refine handle_by ie_exc ie_nt ie_sub G he (by walk_at "mem") (Gd.noglob G (by k_is)) (by boot_by_name) (by decide) rfl H ?_
    clear H; intro s H
    with_reducible refine wpAny_execs_cons ?_
    refine x_Expr (by with_reducible assumption) ?_ rfl
    refine MethodCall_ ?_ rfl
    refine n_local (by with_reducible assumption) (by with_reducible assumption) (by walk_at "mem") (by walk_at "loc") ?_
    refine gm_list H (by walk_at "mem") PySem.F.slot_list_extend PySem.F.type_list_extend ?_
    with_reducible refine callWith_method1 ?_ rfl rfl
    with_reducible refine spliced_more ?_ rfl
    with_reducible refine Subscript_ ?_
    refine n_local (by with_reducible assumption) (by with_reducible assumption) (by walk_at "mem") (by walk_at "loc") ?_
    with_reducible refine x_Slice ?_
    with_reducible refine wpAny_evalPart_some ?_
    refine n_local (by with_reducible assumption) (by with_reducible assumption) (by walk_at "mem") (by walk_at "loc") ?_
    with_reducible refine wpAny_evalPart_none ?_
    with_reducible refine wpAny_evalPart_none ?_
    (with_reducible rename Stt _ _ _ => hO); with_reducible refine al_slice hO ?_; intro _ _ _; clear hO
    rename_i H
    refine l_from H (by (repeat apply List.mem_cons_of_mem); exact hmE) (by walk_at "mem") (by omega) ?_
    clear H; intro c1 s H
    with_reducible refine spliced_none ?_
    refine l_extend H (by walk_at "upd") (by walk_at "mem") (by rw [List.length_drop]; omega) ?_
    clear H; intro s H
    with_reducible refine wpAny_execs_cons ?_
    refine x_Expr (by with_reducible assumption) ?_ rfl
    refine MethodCall_ ?_ rfl
    refine n_local (by with_reducible assumption) (by with_reducible assumption) (by walk_at "mem") (by walk_at "loc") ?_
    refine gm_list H (by walk_at "mem") PySem.F.slot_list_extend PySem.F.type_list_extend ?_
    with_reducible refine callWith_method1 ?_ rfl rfl
    with_reducible refine spliced_more ?_ rfl
    with_reducible refine Subscript_ ?_
    refine n_local (by with_reducible assumption) (by with_reducible assumption) (by walk_at "mem") (by walk_at "loc") ?_
    with_reducible refine x_Slice ?_
    with_reducible refine wpAny_evalPart_some ?_
    refine n_local (by with_reducible assumption) (by with_reducible assumption) (by walk_at "mem") (by walk_at "loc") ?_
    with_reducible refine wpAny_evalPart_none ?_
    with_reducible refine wpAny_evalPart_none ?_
    (with_reducible rename Stt _ _ _ => hO); with_reducible refine al_slice hO ?_; intro _ _ _; clear hO
    rename_i H
    refine l_from H (by (repeat apply List.mem_cons_of_mem); exact hmA) (by walk_at "mem") (by omega) ?_
    clear H; intro c2 s H
    with_reducible refine spliced_none ?_
    refine l_extend H (by walk_at "upd") (by walk_at "mem") (by rw [List.length_drop]; omega) ?_
    clear H; intro s H
    with_reducible refine wpAny_execs_cons ?_
    with_reducible refine wpAny_Break ?_
    refine hQ _ _ ?_
    with_reducible refine wpAny_execs_cons ?_
    with_reducible refine wpAny_Return_some ?_
    refine wpAny_Tuple ?_
    with_reducible refine spliced_more ?_ rfl
    refine n_local (by with_reducible assumption) (by with_reducible assumption) (by walk_at "mem") (by walk_at "loc") ?_
    with_reducible refine spliced_more ?_ rfl
    refine n_local (by with_reducible assumption) (by with_reducible assumption) (by walk_at "mem") (by walk_at "loc") ?_
    with_reducible refine spliced_none ?_
    refine ⟨by exact Nat.le_of_ble_eq_true rfl, ?_⟩
    refine h _ m u _ _ _ ?_ ?_ (H.drop1.drop1.drop1.drop1.drop1.drop1.drop1.alloc (t := s.toks) rfl ⟨_, rfl⟩)
    · rw [← hE1]; exact hvm.append (hwE.drop _)
    · rw [← hE2]; exact hvu.append (hwA.drop _)
  with_reducible refine wpAny_execs_cons ?_
  with_reducible refine wpAny_Assign_Name ?_ rfl
  with_reducible refine Subscript_ ?_
  refine n_local (by with_reducible assumption) (by with_reducible assumption) (by walk_at "mem") (by walk_at "loc") ?_
  refine n_local (by with_reducible assumption) (by with_reducible assumption) (by walk_at "mem") (by walk_at "loc") ?_
  by_cases hi2 : i < wE.length
  · obtain ⟨v, hv⟩ : ∃ v, xE[i]? = some v := ⟨_, List.getElem?_eq_getElem (by omega)⟩
    obtain ⟨ee, te, rfl, hq⟩ := hwE.get hv
    have hdE : wE.drop i = ee :: wE.drop (i + 1) := by
      rw [List.drop_eq_getElem_cons hi2]
      rw [List.getElem?_eq_getElem hi2] at hq
      rw [Option.some.inj hq]
    refine l_item H (by (repeat apply List.mem_cons_of_mem); exact hmE) hv (by omega) ?_
    (with_reducible rename Stt _ _ _ => hO); refine st_local hO (by with_reducible assumption) (by walk_at "upd") (by walk_at "put") ?_; intro _ _; clear hO
    with_reducible refine wpAny_execs_cons ?_
    with_reducible refine wpAny_Assign_Name ?_ rfl
    with_reducible refine Subscript_ ?_
    refine n_local (by with_reducible assumption) (by with_reducible assumption) (by walk_at "mem") (by walk_at "loc") ?_
    refine n_local (by with_reducible assumption) (by with_reducible assumption) (by walk_at "mem") (by walk_at "loc") ?_
    rename_i H
    by_cases hj2 : j < wA.length
    · obtain ⟨v, hv⟩ : ∃ v, xA[j]? = some v := ⟨_, List.getElem?_eq_getElem (by omega)⟩
      obtain ⟨aa, ta, rfl, hq⟩ := hwA.get hv
      have hdA : wA.drop j = aa :: wA.drop (j + 1) := by
        rw [List.drop_eq_getElem_cons hj2]
        rw [List.getElem?_eq_getElem hj2] at hq
        rw [Option.some.inj hq]
      refine l_item H (by (repeat apply List.mem_cons_of_mem); exact hmA) hv (by omega) ?_
      (with_reducible rename Stt _ _ _ => hO); refine st_local hO (by with_reducible assumption) (by walk_at "upd") (by walk_at "put") ?_; intro _ _; clear hO
      with_reducible refine wpAny_execs_cons ?_
      with_reducible refine wpAny_If ?_
      with_reducible refine wpAny_isTrue_Compare1 ?_ (by with_unfolding_all rfl)
      refine n_local (by with_reducible assumption) (by with_reducible assumption) (by walk_at "mem") (by walk_at "loc") ?_
      refine n_local (by with_reducible assumption) (by with_reducible assumption) (by walk_at "mem") (by walk_at "loc") ?_
      rename_i H
      refine w_lt ?_
      with_reducible refine wpAny_truthy_bool ?_
      by_cases hlt : ord ee aa = .lt
      · rw [if_pos (by rw [hlt]; rfl)]
        with_reducible refine wpAny_execs_cons ?_
        refine x_Expr (by with_reducible assumption) ?_ rfl
        refine MethodCall_ ?_ rfl
        refine n_local (by with_reducible assumption) (by with_reducible assumption) (by walk_at "mem") (by walk_at "loc") ?_
        refine gm_append (by with_reducible assumption) (by walk_at "mem") ?_
        with_reducible refine callWith_method1 ?_ rfl rfl
        with_reducible refine spliced_more ?_ rfl
        refine n_local (by with_reducible assumption) (by with_reducible assumption) (by walk_at "mem") (by walk_at "loc") ?_
        with_reducible refine spliced_none ?_
        refine l_append H (by walk_at "upd") (by simp [sizeLine]; omega) ?_
        clear H; intro s H
        with_reducible refine wpAny_execs_cons ?_
        refine x_aug rfl ?_
        refine ld_local (by with_reducible assumption) (by with_reducible assumption) (by walk_at "mem") (by walk_at "loc") ?_
        (with_reducible rename Stt _ _ _ => hO); with_reducible refine c_int hO ?_; intro _ _ _; clear hO
        (with_reducible rename Stt _ _ _ => hO); refine i_inc hO ?_; intro _ _ _; clear hO
        (with_reducible rename Stt _ _ _ => hO); refine st_local hO (by with_reducible assumption) (by walk_at "upd") (by walk_at "put") ?_; intro _ _; clear hO
        with_reducible refine wpAny_execs_cons ?_
        rename_i H
        have hvm' := hvm.append (.cons ee te .nil)
        have hl1 : (vm ++ [Value.bytes ee.toArray te]).length ≤ i + 1 := by simp; omega
        refine skip_i he hfr2 (hF2 _ _ (fun p hp => by (repeat apply List.mem_cons_of_mem); exact hp)) hf (.inl ⟨hh2, rfl⟩) H (by (repeat apply List.mem_cons_of_mem); exact hmE) hwE (by omega) (by omega) ?_ ?_
        · clear H; intro i' t' s h1 h2 h3 H
          with_reducible refine wpAny_execs_nil ?_
          with_reducible refine wpAny_execs_nil ?_
          with_reducible refine wpAny_execs_nil ?_
          refine hQ _ _ ?_
          with_reducible refine wpAny_execs_nil ?_
          refine ⟨_, ?_, i', j, _, _, _, _, wm ++ [ee], wu, _, _, by omega, hj, rfl, hvm', hvu, by omega, hlu, ?_, ?_, H⟩
          · omega
          · rw [← hd1, hdE, hdA, dif, if_pos hlt, ← h3]; simp
          · rw [← hd2, hdE, hdA, dif, if_pos hlt, ← h3]
        · clear H; intro e tb t' s h3 H
          have hE1 : (wm ++ [ee]) ++ wE.drop wE.length = (dif wE wA).1 := by rw [← hd1, hdE, hdA, dif, if_pos hlt, h3, dif_nil_l]; simp
          have hE2 : wu ++ wA.drop j = (dif wE wA).2 := by rw [← hd2, hdE, hdA, dif, if_pos hlt, h3, dif_nil_l]
          clear hvm; have hvm := hvm'
          refine caught_old H hf ?_
          clear H; intro tb s H
          exact hK _ _ ⟨_, _, _, _, _, _, _, _, _, _, _, _, _, rfl, hvm, hvu, by omega, by omega, hE1, hE2, H⟩
      · rw [if_neg (by simpa using hlt)]
        with_reducible refine wpAny_execs_cons ?_
        with_reducible refine wpAny_If ?_
        with_reducible refine wpAny_isTrue_Compare1 ?_ (by with_unfolding_all rfl)
        refine n_local (by with_reducible assumption) (by with_reducible assumption) (by walk_at "mem") (by walk_at "loc") ?_
        refine n_local (by with_reducible assumption) (by with_reducible assumption) (by walk_at "mem") (by walk_at "loc") ?_
        refine w_gt ?_
        with_reducible refine wpAny_truthy_bool ?_
        by_cases hgt : ord ee aa = .gt
        · rw [if_pos (by rw [hgt]; rfl)]
          with_reducible refine wpAny_execs_cons ?_
          refine x_Expr (by with_reducible assumption) ?_ rfl
          refine MethodCall_ ?_ rfl
          refine n_local (by with_reducible assumption) (by with_reducible assumption) (by walk_at "mem") (by walk_at "loc") ?_
          refine gm_append (by with_reducible assumption) (by walk_at "mem") ?_
          with_reducible refine callWith_method1 ?_ rfl rfl
          with_reducible refine spliced_more ?_ rfl
          refine n_local (by with_reducible assumption) (by with_reducible assumption) (by walk_at "mem") (by walk_at "loc") ?_
          with_reducible refine spliced_none ?_
          refine l_append H (by walk_at "upd") (by simp [sizeLine]; omega) ?_
          clear H; intro s H
          with_reducible refine wpAny_execs_cons ?_
          refine x_aug rfl ?_
          refine ld_local (by with_reducible assumption) (by with_reducible assumption) (by walk_at "mem") (by walk_at "loc") ?_
          (with_reducible rename Stt _ _ _ => hO); with_reducible refine c_int hO ?_; intro _ _ _; clear hO
          (with_reducible rename Stt _ _ _ => hO); refine i_inc hO ?_; intro _ _ _; clear hO
          (with_reducible rename Stt _ _ _ => hO); refine st_local hO (by with_reducible assumption) (by walk_at "upd") (by walk_at "put") ?_; intro _ _; clear hO
          with_reducible refine wpAny_execs_cons ?_
          rename_i H
          have hvu' := hvu.append (.cons aa ta .nil)
          have hl1 : (vu ++ [Value.bytes aa.toArray ta]).length ≤ j + 1 := by simp; omega
          refine skip_j he hfr2 (hF2 _ _ (fun p hp => by (repeat apply List.mem_cons_of_mem); exact hp)) hf (.inl ⟨hh2, rfl⟩) H (by (repeat apply List.mem_cons_of_mem); exact hmA) hwA (by omega) (by omega) ?_ ?_
          · clear H; intro j' t' s h1 h2 h3 H
            with_reducible refine wpAny_execs_nil ?_
            with_reducible refine wpAny_execs_nil ?_
            with_reducible refine wpAny_execs_nil ?_
            with_reducible refine wpAny_execs_nil ?_
            refine hQ _ _ ?_
            with_reducible refine wpAny_execs_nil ?_
            refine ⟨_, ?_, i, j', _, _, _, _, wm, wu ++ [aa], _, _, hi, by omega, rfl, hvm, hvu', hlm, by omega, ?_, ?_, H⟩
            · omega
            · rw [← hd1, hdE, hdA, dif, if_neg hlt, if_pos hgt, ← h3]
            · rw [← hd2, hdE, hdA, dif, if_neg hlt, if_pos hgt, ← h3]; simp
          · clear H; intro e tb t' s h3 H
            have hE1 : wm ++ wE.drop i = (dif wE wA).1 := by rw [← hd1, hdE, hdA, dif, if_neg hlt, if_pos hgt, h3, dif_nil_r]
            have hE2 : (wu ++ [aa]) ++ wA.drop wA.length = (dif wE wA).2 := by rw [← hd2, hdE, hdA, dif, if_neg hlt, if_pos hgt, h3, dif_nil_r]; simp
            clear hvu; have hvu := hvu'
            refine caught_old H hf ?_
            clear H; intro tb s H
            exact hK _ _ ⟨_, _, _, _, _, _, _, _, _, _, _, _, _, rfl, hvm, hvu, by omega, by omega, hE1, hE2, H⟩
        · rw [if_neg (by simpa using hgt)]
          with_reducible refine wpAny_execs_cons ?_
          refine x_aug rfl ?_
          refine ld_local (by with_reducible assumption) (by with_reducible assumption) (by walk_at "mem") (by walk_at "loc") ?_
          (with_reducible rename Stt _ _ _ => hO); with_reducible refine c_int hO ?_; intro _ _ _; clear hO
          (with_reducible rename Stt _ _ _ => hO); refine i_inc hO ?_; intro _ _ _; clear hO
          (with_reducible rename Stt _ _ _ => hO); refine st_local hO (by with_reducible assumption) (by walk_at "upd") (by walk_at "put") ?_; intro _ _; clear hO
          with_reducible refine wpAny_execs_cons ?_
          rename_i H
          refine wpAny_Try_finally ?_
          with_reducible refine wpAny_execs_cons ?_
          have hdd1 : wm ++ (dif ((wE.drop (i + 1)).dropWhile (· == ee)) ((wA.drop (j + 1)).dropWhile (· == aa))).1 = (dif wE wA).1 := by rw [← hd1, hdE, hdA, dif, if_neg hlt, if_neg hgt]
          have hdd2 : wu ++ (dif ((wE.drop (i + 1)).dropWhile (· == ee)) ((wA.drop (j + 1)).dropWhile (· == aa))).2 = (dif wE wA).2 := by rw [← hd2, hdE, hdA, dif, if_neg hlt, if_neg hgt]
          refine skip_i he hfr2 (hF2 _ _ (fun p hp => by (repeat apply List.mem_cons_of_mem); exact hp)) hf (.inl ⟨hh2, rfl⟩) H (by (repeat apply List.mem_cons_of_mem); exact hmE) hwE (by omega) (by omega) ?_ ?_
          · clear H; intro i' t' s h1 h2 h3 H
            rw [h3] at hdd1 hdd2
            with_reducible refine wpAny_execs_nil ?_
            with_reducible refine wpAny_execs_nil ?_
            with_reducible refine wpAny_execs_cons ?_
            refine x_aug rfl ?_
            refine ld_local (by with_reducible assumption) (by with_reducible assumption) (by walk_at "mem") (by walk_at "loc") ?_
            (with_reducible rename Stt _ _ _ => hO); with_reducible refine c_int hO ?_; intro _ _ _; clear hO
            (with_reducible rename Stt _ _ _ => hO); refine i_inc hO ?_; intro _ _ _; clear hO
            (with_reducible rename Stt _ _ _ => hO); refine st_local hO (by with_reducible assumption) (by walk_at "upd") (by walk_at "put") ?_; intro _ _; clear hO
            with_reducible refine wpAny_execs_cons ?_
            rename_i H
            refine skip_j he hfr2 (hF2 _ _ (fun p hp => by (repeat apply List.mem_cons_of_mem); exact hp)) hf (.inl ⟨hh2, rfl⟩) H (by (repeat apply List.mem_cons_of_mem); exact hmA) hwA (by omega) (by omega) ?_ ?_
            · clear H; intro j' t' s h4 h5 h6 H
              rw [h6] at hdd1 hdd2
              with_reducible refine wpAny_execs_nil ?_
              with_reducible refine wpAny_execs_nil ?_
              with_reducible refine wpAny_execs_nil ?_
              with_reducible refine wpAny_execs_nil ?_
              with_reducible refine wpAny_execs_nil ?_
              refine hQ _ _ ?_
              with_reducible refine wpAny_execs_nil ?_
              exact ⟨_, by omega, i', j', _, _, _, _, wm, wu, _, _, by omega, by omega, rfl, hvm, hvu, by omega, by omega, hdd1, hdd2, H⟩
            · clear H; intro e tb t' s h6 H
              rw [h6, dif_nil_r] at hdd1 hdd2
              have hE1 : wm ++ wE.drop i' = (dif wE wA).1 := hdd1
              have hE2 : wu ++ wA.drop wA.length = (dif wE wA).2 := by rw [← hdd2]; simp
              refine through_again H hf ?_
              clear H; intro tb s H
              refine caught_old H hf ?_
              clear H; intro tb s H
              exact hK _ _ ⟨_, _, _, _, _, _, _, _, _, _, _, _, _, rfl, hvm, hvu, by omega, by omega, hE1, hE2, H⟩
          · clear H; intro e tb t' s h3 H
            rw [h3, dif_nil_l] at hdd1 hdd2
            refine note_same H hf (List.mem_cons_of_mem _ List.mem_cons_self) List.mem_cons_self ?_
            refine ⟨by delta byPass; simp, ?_⟩
            refine caught_old H hf ?_
            clear H; intro tb s H
            replace H := H.perm (List.perm_middle (l₁ := [_, _]) (l₂ := _ :: _ :: L))
            replace H : Stt z s ((Lf, _) :: (tb, _) :: (e, _) :: (m, _) :: (u, _) :: L) := H
            with_reducible refine wpAny_execs_cons ?_
            refine x_aug rfl ?_
            refine ld_local (by with_reducible assumption) (by with_reducible assumption) (by walk_at "mem") (by walk_at "loc") ?_
            (with_reducible rename Stt _ _ _ => hO); with_reducible refine c_int hO ?_; intro _ _ _; clear hO
            (with_reducible rename Stt _ _ _ => hO); refine i_inc hO ?_; intro _ _ _; clear hO
            (with_reducible rename Stt _ _ _ => hO); refine st_local hO (by with_reducible assumption) (by walk_at "upd") (by walk_at "put") ?_; intro _ _; clear hO
            with_reducible refine wpAny_execs_cons ?_
            rename_i H
            refine skip_j (A := (A.deeper env).mark (some (.ref e))) he hfr2 (hF2 _ _ (fun p hp => by (repeat apply List.mem_cons_of_mem); exact hp)) hf (.inr ⟨e, "IndexError", .ref tb, rfl, rfl, List.mem_cons_of_mem _ List.mem_cons_self⟩) H (by (repeat apply List.mem_cons_of_mem); exact hmA) hwA (by omega) (by omega) ?_ ?_
            · clear H; intro j' t' s h4 h5 h6 H
              rw [h6] at hdd1 hdd2
              have hE1 : wm ++ wE.drop wE.length = (dif wE wA).1 := by rw [← hdd1]; simp
              have hE2 : wu ++ wA.drop j' = (dif wE wA).2 := hdd2
              with_reducible refine wpAny_execs_nil ?_
              refine pass_on H hf (List.mem_cons_of_mem _ (List.mem_cons_of_mem _ List.mem_cons_self)) (.tail .head) ?_
              clear H; intro s H
              replace H := H.perm (List.perm_middle (l₁ := [_, _]) (l₂ := _ :: _ :: L)).symm
              refine caught_old H hf ?_
              clear H; intro tb s H
              replace H : Stt z s ((tb, _) :: (e, _) :: (Lf, _) :: (m, _) :: (u, _) :: L) := H
              exact hK _ _ ⟨_, _, _, _, _, _, _, _, _, _, _, _, _, rfl, hvm, hvu, by omega, by omega, hE1, hE2, H⟩
            · clear H; intro e2 tb2 t' s h6 H
              rw [h6] at hdd1 hdd2
              have hE1 : wm ++ wE.drop wE.length = (dif wE wA).1 := by rw [← hdd1]; simp
              have hE2 : wu ++ wA.drop wA.length = (dif wE wA).2 := by rw [← hdd2]; simp
              refine through_again H hf ?_
              clear H; intro tb2 s H
              refine caught_old (L := (Lf, _) :: (m, _) :: (u, _) :: L) (Stt.out (Stt.out H (.tail (.tail (.tail .head)))) (.tail (.tail (.tail .head)))) hf ?_
              clear H; intro tb s H
              exact hK _ _ ⟨_, _, _, _, _, _, _, _, _, _, _, _, _, rfl, hvm, hvu, by omega, by omega, hE1, hE2, H⟩
    · have e0 : wA.drop j = [] := List.drop_of_length_le (by omega)
      have hE1 : wm ++ wE.drop i = (dif wE wA).1 := by rw [← hd1, e0, dif_nil_r]
      have hE2 : wu ++ wA.drop j = (dif wE wA).2 := by rw [← hd2, e0, dif_nil_r]
      refine l_out hh2 H (by (repeat apply List.mem_cons_of_mem); exact hmA) (by omega) (by omega) ?_
      clear H
      intro e s H
      refine caught_new H hfr2 (hF2 _ _ (fun p hp => by (repeat apply List.mem_cons_of_mem); exact hp)) hf ?_
      clear H
      intro tb s H
      exact hK _ _ ⟨_, _, _, _, _, _, _, _, _, _, _, _, _, rfl, hvm, hvu, by omega, by omega, hE1, hE2, H⟩
  · have e0 : wE.drop i = [] := List.drop_of_length_le (by omega)
    have hE1 : wm ++ wE.drop i = (dif wE wA).1 := by rw [← hd1, e0, dif_nil_l]
    have hE2 : wu ++ wA.drop j = (dif wE wA).2 := by rw [← hd2, e0, dif_nil_l]
    refine l_out hh2 H (by (repeat apply List.mem_cons_of_mem); exact hmE) (by omega) (by omega) ?_
    clear H
    intro e s H
    refine caught_new H hfr2 (hF2 _ _ (fun p hp => by (repeat apply List.mem_cons_of_mem); exact hp)) hf ?_
    clear H
    intro tb s H
    exact hK _ _ ⟨_, _, _, _, _, _, _, _, _, _, _, _, _, rfl, hvm, hvu, by omega, by omega, hE1, hE2, H⟩

end
section
/-! ## iter(list).__next__, kept and called -/
noncomputable def LIx (l : Addr) (i : Nat) : Pr := fun o => o = { cls := .type "list_iterator", data := .fields #[.ref l, .int i 0] }
noncomputable def MW (a : Addr) : Pr := fun o => o = { cls := .type "method-wrapper", data := .fields #[.builtin "list_iterator.__next__", .ref a] }
theorem LIx.weak {l : Addr} {i : Nat} {o : Obj} (h : LIx l i o) : LIt l i o := by rw [h]; exact ⟨rfl, rfl⟩
theorem bound_next (a : Addr) : checkBoundCall "list_iterator.__next__" ⟨[.ref a], []⟩ = pure () := by kernel_rfl
section
variable {w : World} {prog : Program} {A : Around} {E : Value → Shared → Prop} {z s : Shared} {L L' : Led} {l a p : Addr} {i : Nat} {xs : List Value} {v : Value} {Q : Value → Shared → Prop}
theorem c_iter (H : Stt z s L) (hm : (l, Lst xs) ∈ L) (h : ∀ c s', Stt z s' ((c, LIx l 0) :: L) → Q (.ref c) s') : wpAny (model prog w) A (call (.builtin "iter") [.ref l]) Q E s := by
  refine call_function_entry (by decide +kernel) (by decide +kernel) kdk_entry_iter (kdk_args_iter _) ?_
  unfold Builtin.«iter»
  refine wpAny_bind (m := someArgs "iter" 1 2 _) (wpAny_of_eq (a := [Value.ref l]) (by first | rfl | kernel_rfl!) ?_)
  show wpAny _ _ (pyIter (.ref l) >>= _) _ _ _
  refine wpAny_bind (wpAny_pyIter_list (isList H hm) ?_)
  exact wpAny_pure ⟨_, rfl, h _ _ (H.alloc (t := s.toks) rfl rfl)⟩
theorem ga_next (H : Stt z s L) (hm : (a, LIx l i) ∈ L) (h : ∀ c s', Stt z s' ((c, MW a) :: L) → Q (.ref c) s') : wpAny (model prog w) A (getAttr (.ref a) "__next__" true) Q E s := by
  obtain ⟨o, e, rfl⟩ := H.get hm
  obtain ⟨hp, g, d, t, os⟩ := s
  exact ga_next0 e (h _ _ (H.alloc (t := t + 1) rfl rfl))
theorem mw_call {R : Result → Shared → Prop} (H : Stt z s L) (hm : (p, MW a) ∈ L) (h : codeAny (model prog w) A (.builtin "list_iterator.__next__" ⟨[.ref a], []⟩) R s) : codeAny (model prog w) A (.call (.ref p) ⟨[], []⟩) R s := by
  obtain ⟨o, ho, rfl⟩ := H.get hm
  obtain ⟨hh, g, dr, t, os⟩ := s
  refine codeAny_of_tree ?_
  show wpAny _ _ (callAny (.ref p) _) _ _ _
  dsimp only at ho
  refine nd_load ho ?_
  refine wpAny_bind (wpAny_pure ?_)
  show wpAny _ _ (checkBoundCall "list_iterator.__next__" ⟨[.ref a], []⟩ >>= _) _ _ _
  refine wpAny_bind (wpAny_of_eq (bound_next a) ?_)
  exact wpAny_pure ⟨Code.quiet_builtin _ (by decide +kernel), h⟩
end

end
section
section
variable {w : World} {prog : Program} {A : Around} {z s : Shared} {L L' : Led} {l a : Addr} {i : Nat} {xs : List Value} {v : Value} {R : Result → Shared → Prop}
theorem nxt_item (H : Stt z s L) (U : Upd L a (LIt l i) (LIt l (i + 1)) L') (hl : (l, Lst xs) ∈ L) (hx : xs[i]? = some v) (h : ∀ s', Stt z s' L' → R (.ok (.ret v)) s') :
    codeAny (model prog w) A (.builtin "list_iterator.__next__" ⟨[.ref a], []⟩) R s := by
  obtain ⟨o, ho, hc, hd⟩ := H.get U.mem
  obtain ⟨ol, hol, _, nl, hdl⟩ := isList H hl
  refine codeAny_builtin entry_listiter_next ?_
  show wpAny _ _ (field (.ref a) 0 >>= _) _ _ s
  refine wpAny_bind (wpAny_field ho hd (x := .ref l) rfl ?_)
  show wpAny _ _ (if (Value.ref l == Value.none) = true then _ else _) _ _ s
  rw [if_neg (show ¬ ((Value.ref l == Value.none) = true) from Bool.false_ne_true)]
  show wpAny _ _ (field (.ref a) 1 >>= _) _ _ s
  refine wpAny_bind (wpAny_field ho hd (x := .int i 0) rfl ?_)
  show wpAny _ _ (seqItems? (.ref l) >>= _) _ _ s
  refine wpAny_bind (wpAny_seqItems hol hdl ?_)
  have hx' : xs.toArray[i]? = some v := by simpa using hx
  simp only [Int.toNat_natCast, hx']
  refine wpAny_bind (wpAny_setField ho hd (by simp) (wpAny_pure (h _ ?_)))
  have hd₃ := Obj.data_mapFields hd (·.setIfInBounds 1 (rawInt (i + 1)))
  exact H.change (t := s.toks) U ho (Obj.isFreed_of_fields hd₃) ⟨(Obj.cls_mapFields ..).trans hc, by rw [Obj.data_mapFields hd]; simp [rawInt]⟩
theorem nxt_stop (hh : A.handled = none) (H : Stt z s L) (U : Out L a (LIt l i) L') (hl : (l, Lst xs) ∈ L) (hx : xs[i]? = none) (h : ∀ e s', Stt z s' ((e, Exn "StopIteration" .none .none) :: L') → R (.error (.ref e)) s') :
    codeAny (model prog w) A (.builtin "list_iterator.__next__" ⟨[.ref a], []⟩) R s := by
  obtain ⟨o, ho, hc, hd⟩ := H.get U.mem
  obtain ⟨ol, hol, _, nl, hdl⟩ := isList H hl
  refine codeAny_builtin entry_listiter_next ?_
  show wpAny _ _ (field (.ref a) 0 >>= _) _ _ s
  refine wpAny_bind (wpAny_field ho hd (x := .ref l) rfl ?_)
  show wpAny _ _ (if (Value.ref l == Value.none) = true then _ else _) _ _ s
  rw [if_neg (show ¬ ((Value.ref l == Value.none) = true) from Bool.false_ne_true)]
  show wpAny _ _ (field (.ref a) 1 >>= _) _ _ s
  refine wpAny_bind (wpAny_field ho hd (x := .int i 0) rfl ?_)
  show wpAny _ _ (seqItems? (.ref l) >>= _) _ _ s
  refine wpAny_bind (wpAny_seqItems hol hdl ?_)
  have hx' : xs.toArray[i]? = none := by simpa using hx
  simp only [Int.toNat_natCast, hx']
  refine wpAny_bind (wpAny_rule (wpAny_bind (wpAny_setField ho hd (by simp) ?_)))
  have H1 := H.extBut U.mem (Heap.SameBut.update s.heap a (Obj.mapFields (·.setIfInBounds 0 Value.none))).extBut
  rw [U.ne H.nd] at H1
  show wpAny _ _ (newExc (.type "StopIteration") [] >>= _) _ _ _
  refine wpAny_bind ?_
  simp only [newExc, newTuple]
  refine wpAny_bind (wpAny_newObj_type ?_ (by size_fits))
  refine wpAny_bind (m := firstArgMember _ _) (wpAny_of_eq (a := Value.none) (by first | rfl | (simp only [firstArgMember]; rfl)) ?_)
  refine wpAny_newObj_type ?_ (by size_fits)
  simp only [raiseNew]
  refine wpAny_bind (wpAny_handled ?_)
  rw [show (A.under _).handled = none from hh]
  refine wpAny_bind (wpAny_pure (wpAny_throw ?_))
  have H2 := H1.alloc (t := s.toks) (P := Tup []) (o := { cls := .type "tuple", data := .seq #[] }) rfl ⟨_, rfl⟩
  exact h _ _ ((H2.alloc (t := s.toks) (P := Exn "StopIteration" .none .none) rfl ⟨rfl, _, rfl, by rw [Array.size_append]; show 2 < 6 + _; omega, by rw [Array.getElem?_append_left (by simp)]; rfl, by rw [Array.getElem?_append_left (by simp)]; rfl⟩).out (.tail .head))
end

end
section
/-! ## Rules for _find_cycle -/
section
variable {w : World} {prog : Program} {A : Around} {E : Value → Shared → Prop} {z s : Shared} {L L' : Led} {l a p : Addr} {xs : List Value} {v : Value} {Q : Value → Shared → Prop} {value slice : Expr} {t : Tok} {pos : Pos}
theorem cw_mw (H : Stt z s L) (hm : (p, MW a) ∈ L) (env : Env) (h : wpAny (model prog w) A (call (.ref p) []) Q E s) : wpAny (model prog w) A (callWith pos (.ref p) [] (backTo pos (starEach [] env)) []) Q E s := by
  obtain ⟨o, ho, ho2⟩ := H.get hm
  unfold MW at ho2
  subst ho2
  refine callWith_of (P := fun h => h.get? p = some { cls := .type "method-wrapper", data := .fields #[.builtin "list_iterator.__next__", .ref a] }) rfl (fun h e => ⟨.machine, .inr (.inl rfl), ?_⟩) (evalArgs_nil3 ⟨ho, h⟩)
  exact (Looks.ld (part := none) e).andThen .now
theorem l_last (H : Stt z s L) (hm : (l, Lst (xs ++ [v])) ∈ L) (hz : xs.length ≤ 16777216) (h : Q v s)
    (hs : subscripted slice false (.ref l) (.int (-1) t) = operate [.ref l, .int (-1) t] (getItem (.ref l) (.int (-1) t)) := by with_unfolding_all rfl) (ht : ∀ r, letTemporaryGo value (.ref l) r = pure () := by intro _; with_unfolding_all rfl) :
    wpAny (model prog w) A (subscriptTail value slice (.ref l) (.int (-1) t)) Q E s := by
  refine subscriptTail_builtin (isList H hm).typeIs PySem.slot_list_getitem.lookup (wpAny_getItem_list_neg (isList H hm) (by omega) (by simp; omega) (by omega) ?_ h) hs ht
  have e : ((-1 : Int) + (((xs ++ [v]).toArray.size : Nat) : Int)).toNat = xs.length := by simp; omega
  rw [e]
  simp
theorem l_pop (H : Stt z s L) (U : Upd L l (Lst (xs ++ [v])) (Lst xs) L') (hz : xs.length ≤ 1000000) (h : ∀ s', Stt z s' L' → Q v s') : wpAny (model prog w) A (call (.builtin "list.pop") [.ref l]) Q E s := by
  obtain ⟨o, e, n, rfl⟩ := H.get U.mem
  refine call_meets PySem.F.slot_list_pop (isList H U.mem).typeIs PySem.F.entry_list_pop (PySem.F.args_list_pop_1 _) (PySem.MeetsSeq.list_pop_last l _ n v (by simp) (by simp [sizeLine]; omega)) ⟨e, h _ (H.change U e rfl ⟨_, by simp [Obj.mapSeq]; exact ⟨by rw [List.eraseIdx_append_of_length_le (Nat.le_refl _)]; simp, rfl⟩⟩)⟩
theorem t_list {Q : Bool → Shared → Prop} (H : Stt z s L) (hm : (l, Lst xs) ∈ L) (hz : xs.length ≤ 16777216) (h : ∀ s', Stt z s' L → Q (!xs.isEmpty) s') : wpAny (model prog w) A (truthy (.ref l)) Q E s := by
  refine wpAny_truthy_list (isList H hm) (by simp; omega) ?_
  have := h _ (H.tok (s.toks + 1 + 1))
  simpa using this
end
section
variable {w : World} {prog : Program} {A : Around} {E : Value → Shared → Prop} {z s : Shared} {L L' : Led} {l a p : Addr} {i : Nat} {xs : List Value} {v : Value} {Q : Value → Shared → Prop}
theorem call_next (H : Stt z s L) (hp : (p, MW a) ∈ L) (U : Upd L a (LIt l i) (LIt l (i + 1)) L') (hl : (l, Lst xs) ∈ L) (hx : xs[i]? = some v) (h : ∀ s', Stt z s' L' → Q v s') : wpAny (model prog w) A (call (.ref p) []) Q E s :=
  wpAny_call (mw_call H hp (nxt_item H U hl hx h))
theorem call_stop (hh : A.handled = none) (H : Stt z s L) (hp : (p, MW a) ∈ L) (U : Out L a (LIt l i) L') (hl : (l, Lst xs) ∈ L) (hx : xs[i]? = none) (h : ∀ e s', Stt z s' ((e, Exn "StopIteration" .none .none) :: L') → E (.ref e) s') : wpAny (model prog w) A (call (.ref p) []) Q E s :=
  wpAny_call (mw_call H hp (nxt_stop hh H U hl hx h))
end

end
section
/-! ## _find_cycle: what is known between its steps -/
structure Fm where
  wd : Wd
  tk : Tok
  iv : Value
  mw : Addr
  it : Addr
  ls : Addr
  pos : Nat
  sc : List Value
noncomputable def fmsL : List Fm → Led
  | [] => []
  | f :: F => (f.mw, MW f.it) :: (f.it, LIt f.ls f.pos) :: fmsL F
noncomputable abbrev kvsF (F : List Fm) : List (Wd × Value) := F.reverse.map fun f => (f.wd, f.iv)
noncomputable abbrev isF (F : List Fm) : List Value := F.reverse.map fun f => .ref f.mw
noncomputable abbrev stF (F : List Fm) : List Value := F.reverse.map fun f => .bytes f.wd.toArray f.tk
theorem kvsF_cons (f : Fm) (F : List Fm) : kvsF (f :: F) = kvsF F ++ [(f.wd, f.iv)] := by simp [kvsF]
theorem isF_cons (f : Fm) (F : List Fm) : isF (f :: F) = isF F ++ [.ref f.mw] := by simp [isF]
theorem stF_cons (f : Fm) (F : List Fm) : stF (f :: F) = stF F ++ [.bytes f.wd.toArray f.tk] := by simp [stF]
noncomputable def wsum (c : Nd → Nat) (S : Wd → Bool) : List Nd → Nat
  | [] => 0
  | n :: N => (if S n.wd = true then 0 else c n) + wsum c S N
noncomputable def fsum : List Fm → Nat
  | [] => 0
  | f :: F => (f.sc.length - f.pos) + fsum F
noncomputable abbrev seenW (S : Wd → Bool) (k : Wd) : Wd → Bool := fun k' => S k' || decide (k' = k)
theorem wsum_other {c : Nd → Nat} {S : Wd → Bool} {k : Wd} : ∀ {N : List Nd}, (∀ m ∈ N, m.wd ≠ k) → wsum c (seenW S k) N = wsum c S N
  | [], _ => rfl
  | n :: N, h => by
    have h1 := h n List.mem_cons_self
    have h2 := wsum_other (c := c) (S := S) (k := k) (N := N) fun m hm => h m (List.mem_cons_of_mem _ hm)
    unfold wsum
    rw [h2]
    simp [seenW, h1]
theorem wsum_take {c : Nd → Nat} {S : Wd → Bool} {n : Nd} (hS : S n.wd = false) : ∀ {N : List Nd}, n ∈ N → (N.map (·.wd)).Nodup → wsum c S N = wsum c (seenW S n.wd) N + c n
  | [], h, _ => by simp at h
  | m :: N, h, nd => by
    rw [List.map_cons, List.nodup_cons] at nd
    rcases List.mem_cons.mp h with rfl | h
    · have : ∀ m ∈ N, m.wd ≠ n.wd := fun m hm e => nd.1 (e ▸ List.mem_map_of_mem hm)
      unfold wsum
      rw [wsum_other this]
      simp [seenW, hS]
      omega
    · have hne : m.wd ≠ n.wd := fun e => nd.1 (e ▸ List.mem_map_of_mem h)
      have ih := wsum_take (c := c) hS h nd.2
      unfold wsum
      rw [ih]
      simp [seenW, hne]
      omega
/-- the stack -/
structure FOk (N : List Nd) (F : List Fm) : Prop where
  up : F.Pairwise fun a b => b.wd.length < a.wd.length
  nod : ∀ f ∈ F, ∃ n ∈ N, n.wd = f.wd ∧ n.ls = f.ls ∧ n.sc = f.sc
theorem FOk.tail {N : List Nd} {f : Fm} {F : List Fm} (h : FOk N (f :: F)) : FOk N F := ⟨(List.pairwise_cons.mp h.up).2, fun g hg => h.nod g (List.mem_cons_of_mem _ hg)⟩
theorem FOk.nil (N : List Nd) : FOk N [] := ⟨List.Pairwise.nil, fun _ h => by simp at h⟩
theorem FOk.push {N : List Nd} {f : Fm} {F : List Fm} (h : FOk N F) (hl : ∀ g ∈ F, g.wd.length < f.wd.length) (hn : ∃ n ∈ N, n.wd = f.wd ∧ n.ls = f.ls ∧ n.sc = f.sc) : FOk N (f :: F) :=
  ⟨List.pairwise_cons.mpr ⟨hl, h.up⟩, fun g hg => by
    rcases List.mem_cons.mp hg with rfl | hg
    · exact hn
    · exact h.nod g hg⟩
theorem FOk.step {N : List Nd} {f : Fm} {F : List Fm} {i : Nat} (h : FOk N (f :: F)) : FOk N ({ f with pos := i } :: F) :=
  ⟨List.pairwise_cons.mpr (List.pairwise_cons.mp h.up), fun g hg => by
    rcases List.mem_cons.mp hg with rfl | hg
    · exact h.nod f List.mem_cons_self
    · exact h.nod g (List.mem_cons_of_mem _ hg)⟩
theorem FOk.below {N : List Nd} {f : Fm} {F : List Fm} (h : FOk N (f :: F)) : ∀ g ∈ f :: F, g.wd.length ≤ f.wd.length := fun g hg => by
  rcases List.mem_cons.mp hg with rfl | hg
  · exact Nat.le_refl _
  · exact Nat.le_of_lt ((List.pairwise_cons.mp h.up).1 g hg)
theorem at_none {F : List Fm} {v : Wd} (h : ∀ f ∈ F, f.wd.length < v.length) : valueAt (kvsF F) v = none := by
  unfold valueAt
  rw [List.find?_eq_none.mpr]
  · rfl
  · intro p hp e
    obtain ⟨f, hf, rfl⟩ := List.mem_map.mp hp
    have := h f (List.mem_reverse.mp hf)
    simp at e
    rw [e] at this
    exact Nat.lt_irrefl _ this
theorem store_new {F : List Fm} {v : Wd} {x : Value} (h : ∀ f ∈ F, f.wd.length < v.length) : stored (kvsF F) v x = kvsF F ++ [(v, x)] := by
  unfold stored
  rw [if_neg]
  intro e
  obtain ⟨p, hp, e⟩ := List.any_eq_true.mp e
  obtain ⟨f, hf, rfl⟩ := List.mem_map.mp hp
  have := h f (List.mem_reverse.mp hf)
  simp at e
  rw [e] at this
  exact Nat.lt_irrefl _ this
theorem drop_top {N : List Nd} {f : Fm} {F : List Fm} (h : FOk N (f :: F)) : without (kvsF (f :: F)) f.wd = kvsF F ∧ (valueAt (kvsF (f :: F)) f.wd).isSome = true := by
  rw [kvsF_cons]
  have hne : ∀ p ∈ kvsF F, p.1 ≠ f.wd := fun p hp e => by
    obtain ⟨g, hg, rfl⟩ := List.mem_map.mp hp
    have := (List.pairwise_cons.mp h.up).1 g (List.mem_reverse.mp hg)
    dsimp only at e
    rw [e] at this
    exact Nat.lt_irrefl _ this
  constructor
  · unfold without
    rw [List.filter_append, List.filter_eq_self.mpr fun p hp => by simpa using hne p hp]
    simp
  · unfold valueAt
    rw [Option.isSome_map, List.find?_isSome]
    exact ⟨(f.wd, f.iv), by simp, by simp⟩
theorem Stt.frozen {w : World} {prog : Program} {z s : Shared} {L : Led} {d : Addr} {kvs : List (Wd × Value)} {L' : Nat → Led} (H : Stt z s L) (U : ∀ ep, Upd L d (Dct prog w kvs) (DctE prog w kvs ep) (L' ep)) : ∃ ep, Stt z s (L' ep) := by
  obtain ⟨o, h1, es, ep, h2⟩ := H.get (U 0).mem
  exact ⟨ep, H.upd (t := s.toks) (U ep) (Heap.SameBut.refl d s.heap) ⟨o, h1, es, h2⟩⟩
theorem LIx.li {z s : Shared} {L L' : Led} {a l : Addr} (H : Stt z s L) (U : Upd L a (LIx l 0) (LIt l 0) L') : Stt z s L' := H.weak U fun _ => LIx.weak
theorem si_exc : isSubtype (.type "StopIteration") (.type "BaseException") = pure true := by rw [isSubtype_type]; kernel_rfl
theorem si_nt : isSubtype (.type ((Manifest.find? "StopIteration").elim "type" fun x => x.metatype)) (.type "tuple") = pure false := by rw [isSubtype_type]; kernel_rfl
theorem si_sub : isSubtype (.type "StopIteration") (.type "StopIteration") = pure true := by rw [isSubtype_type]; kernel_rfl
noncomputable abbrev fcN : List Str := ["self", "n2i", "stack", "itstack", "seen", "node2stacki", "node"]

end
section
/-! ## _find_cycle -/
theorem nodup_wd : ∀ {N : List Nd} {n m : Nd}, (N.map (·.wd)).Nodup → n ∈ N → m ∈ N → n.wd = m.wd → n = m
  | [], _, _, _, h, _, _ => by simp at h
  | a :: N, n, m, nd, h1, h2, e => by
    rw [List.map_cons, List.nodup_cons] at nd
    rcases List.mem_cons.mp h1 with e1 | m1
    · rcases List.mem_cons.mp h2 with e2 | m2
      · exact e1.trans e2.symm
      · exact absurd (List.mem_map.mpr ⟨m, m2, by rw [← e, e1]⟩) nd.1
    · rcases List.mem_cons.mp h2 with e2 | m2
      · exact absurd (List.mem_map.mpr ⟨n, m1, by rw [e, e2]⟩) nd.1
      · exact nodup_wd nd.2 m1 m2 e
noncomputable abbrev fcB (prog : Program) (w : World) (it0 nd se is st Lf S dS D Rd : Addr) (i ep Nn : Nat) (kvs : List (Wd × Value)) (sn : Wd → Bool) (k : Nat) (isv stv : List Value) (vals : List (Option Value)) (at' : List (Str × Value)) (kt : List (Wd × Value)) (rs : List Value) (Y : Led) : Led :=
  (it0, KIt D Nn ep i) :: (nd, Dct prog w kvs) :: (se, Sett prog w sn k) :: (is, Lst isv) :: (st, Lst stv) :: (Lf, Fra fcN vals) :: (S, Ins 144 dS #[]) :: (dS, Atr at') :: (D, DctE prog w kt ep) :: (Rd, Lst rs) :: Y
theorem s_find_cycle {w : World} {mg mb : Str → Option Value} {prog : Program} {A : Around} {z s : Shared} {L : Led} {R : Result → Shared → Prop} {outer : List Env} {S dS D Rd : Addr} {rs : List Value} {po nf : Int} {t1 t2 : Tok} {N : List Nd}
    (G : Gd w mg mb z.heap) (hDs : (D == sysModules) = false) (H : Stt z s (srtR prog w S dS D Rd rs po t1 nf t2 N L)) (hA : A.depth ≤ 700) (hh : A.handled = none) (hfr : A.frames = some outer) (hF : FrOk outer L) (hz : N.length ≤ 100)
    (hsc : ∀ n ∈ N, n.sc.length ≤ 1000) (hcl : ∀ n ∈ N, ∃ us, WsAre n.sc us ∧ ∀ u ∈ us, u ∈ N.map (·.wd) ∧ n.wd.length < u.length)
    (h : ∀ s', Stt z s' (srtR prog w S dS D Rd rs po t1 nf t2 N L) → R (.ok (.ret .none)) s') :
    codeAny (model prog w) A (.call (.ref 134) ⟨[.ref S], []⟩) R s := by
  refine call_fn (ps := ["self"]) (rest := ["n2i", "stack", "itstack", "seen", "node2stacki", "node"]) (names := fcN) (vals := [some (.ref S), none, none, none, none, none, none]) (gs := ["set", "iter", "len", "StopIteration"]) G H (by k_is) (by k_is) (by show _ < 1000; omega) rfl (BindsTo.of_eq rfl) rfl rfl rfl (by decide) (by decide) (all_mem rfl) (all_mem rfl) rfl rfl ?_
  clear H
  intro env Lf s he hf H
  have hfr2 : (A.deeper env).frames = some (env :: outer) := by show A.frames.map _ = _; rw [hfr]; rfl
  have hh2 : (A.deeper env).handled = none := hh
  have hF2 : ∀ v F, (Lf, Fra fcN v) ∈ F → (∀ p ∈ L, p ∈ F) → FrOk (env :: outer) F := fun v F hv hs q hq => by
    rcases List.mem_cons.mp hq with rfl | hq
    · exact ⟨(by rw [he.kind]; exact (fun x => nomatch x)), Lf, fcN, v, hf, hv⟩
    · obtain ⟨a1, f, names, vals, a2, a3⟩ := hF q hq
      exact ⟨a1, f, names, vals, a2, hs _ a3⟩
  replace H : Stt z s ((Lf, _) :: (S, _) :: (dS, _) :: (D, Dct prog w (tabOf N)) :: (Rd, Lst rs) :: (nodesL N ++ L)) := H
  have nd0 : (N.map (·.wd)).Nodup := nd_of H (by walk_at "mem")
  obtain ⟨ep, H⟩ := H.frozen (d := D) (kvs := tabOf N) (fun ep => .tail (.tail (.tail .head)))
  with_reducible refine wpAny_execs_cons ?_
  with_reducible refine wpAny_Assign_Name ?_ rfl
  refine Attribute_any_ ?_
  refine n_local (by with_reducible assumption) (by with_reducible assumption) (by walk_at "mem") (by walk_at "loc") ?_
  (with_reducible rename Stt _ _ _ => hO); refine ga_own (by with_reducible assumption) hO (by walk_at "mem") (by walk_at "mem") (KLoc.eq (by walk_at "kloc")) (by k_is) (by k_is) (by k_is) (by k_is) rfl ?_; intro _ _; clear hO
  (with_reducible rename Stt _ _ _ => hO); refine st_local hO (by with_reducible assumption) (by walk_at "upd") (by walk_at "put") ?_; intro _ _; clear hO
  with_reducible refine wpAny_execs_cons ?_
  with_reducible refine wpAny_Assign_Name ?_ rfl
  with_reducible refine x_List ?_
  with_reducible refine spliced_none ?_
  refine ⟨by exact Nat.le_of_ble_eq_true rfl, ?_⟩
  (with_reducible rename Stt _ _ _ => hO); with_reducible refine al_list hO ?_; intro _ _ _; clear hO
  (with_reducible rename Stt _ _ _ => hO); refine st_local hO (by with_reducible assumption) (by walk_at "upd") (by walk_at "put") ?_; intro _ _; clear hO
  with_reducible refine wpAny_execs_cons ?_
  with_reducible refine wpAny_Assign_Name ?_ rfl
  with_reducible refine x_List ?_
  with_reducible refine spliced_none ?_
  refine ⟨by exact Nat.le_of_ble_eq_true rfl, ?_⟩
  (with_reducible rename Stt _ _ _ => hO); with_reducible refine al_list hO ?_; intro _ _ _; clear hO
  (with_reducible rename Stt _ _ _ => hO); refine st_local hO (by with_reducible assumption) (by walk_at "upd") (by walk_at "put") ?_; intro _ _; clear hO
  with_reducible refine wpAny_execs_cons ?_
  with_reducible refine wpAny_Assign_Name ?_ rfl
  with_reducible refine wpAny_Call_NameR ?_
  refine n_built (by with_reducible assumption) (by with_reducible assumption) (by with_reducible assumption) (by walk_at "mem") (Gd.noglob (by with_reducible assumption) (by k_is)) (by boot_by_name) (by decide) ?_
  with_reducible refine PyProof.Rows.callWith_type0 ?_
  rename_i st _ _ is _ _ H
  refine s_new (prog := prog) (w := w) H ?_
  clear H
  intro se s H
  (with_reducible rename Stt _ _ _ => hO); refine st_local hO (by with_reducible assumption) (by walk_at "upd") (by walk_at "put") ?_; intro _ _; clear hO
  with_reducible refine wpAny_execs_cons ?_
  with_reducible refine wpAny_Assign_Name ?_ rfl
  rename_i H
  refine d_new G H ?_
  clear H
  intro nd s hnds H
  (with_reducible rename Stt _ _ _ => hO); refine st_local hO (by with_reducible assumption) (by walk_at "upd") (by walk_at "put") ?_; intro _ _; clear hO
  with_reducible refine wpAny_execs_cons ?_
  rename_i H
  refine wpAny_For ?_
  refine n_local (by with_reducible assumption) (by with_reducible assumption) (by walk_at "mem") (by walk_at "loc") ?_
  refine it_dict H hDs (by walk_at "mem") ?_
  clear H
  intro it0 s H
  have hlen : (tabOf N).length = N.length := by simp [tabOf]
  refine codeAny_forLoop (fun kk s => ∃ (i k : Nat) (sn : Wd → Bool) (vn : Option Value), i + kk = N.length ∧ k + wsum (fun _ => 1) sn N ≤ N.length ∧
    Stt z s (fcB prog w it0 nd se is st Lf S dS D Rd i ep (tabOf N).length [] sn k [] [] [some (.ref S), some (.ref D), some (.ref st), some (.ref is), some (.ref se), some (.ref nd), vn] (attrs D (.ref Rd) po t1 nf t2) (tabOf N) rs (nodesL N ++ L))) ?_ N.length ⟨0, 0, fun _ => false, none, by omega, ?_, H⟩
  rotate_left
  · have : ∀ M : List Nd, wsum (fun _ => 1) (fun _ => false) M = M.length := by
      intro M; induction M with
      | nil => rfl
      | cons m M ih => unfold wsum; rw [ih]; simp; omega
    rw [this]; omega
  clear H
  intro kk s hI
  obtain ⟨i, k, sn, vn, hi, hk, H⟩ := hI
  by_cases hlt : i < N.length
  · obtain ⟨n0, hn0⟩ : ∃ n, N[i]? = some n := ⟨_, List.getElem?_eq_getElem hlt⟩
    have hn0m : n0 ∈ N := List.mem_of_getElem? hn0
    refine nx_dict (kvs := tabOf N) (k := n0.wd) (v := .ref n0.x) H .head (by walk_at "mem") (by simp [tabOf, hn0]) ?_
    clear H
    intro s t0 H
    dsimp only
    with_reducible refine wpAny_assign_Name ?_
    (with_reducible rename Stt _ _ _ => hO); refine st_local hO (by with_reducible assumption) (by walk_at "upd") (by walk_at "put") ?_; intro _ _; clear hO
    refine hide_q fun Qn hQ => hide_e fun En hE => ?_
    clear hE
    with_reducible refine wpAny_execs_cons ?_
    with_reducible refine wpAny_If ?_
    with_reducible refine wpAny_isTrue_Compare1 ?_ (by with_unfolding_all rfl)
    refine n_local (by with_reducible assumption) (by with_reducible assumption) (by walk_at "mem") (by walk_at "loc") ?_
    refine n_local (by with_reducible assumption) (by with_reducible assumption) (by walk_at "mem") (by walk_at "loc") ?_
    refine s_in (prog := prog) (w := w) (by assumption) (by walk_at "mem") ?_
    clear H
    intro s H
    with_reducible refine wpAny_truthy_bool ?_
    rename_i H
    by_cases hs0 : sn n0.wd = true
    · rw [if_pos hs0]
      with_reducible refine wpAny_execs_cons ?_
      with_reducible refine wpAny_Continue ?_
      rename_i H
      refine hQ _ _ ?_
      exact ⟨kk - 1, by omega, i + 1, k, sn, _, by omega, hk, H⟩
    · rw [if_neg hs0]
      with_reducible refine wpAny_execs_nil ?_
      with_reducible refine wpAny_execs_cons ?_
      rename_i H
      refine wpAny_While (codeAny_whileLoop (fun m s => ∃ (F : List Fm) (k : Nat) (sn : Wd → Bool) (v : Wd) (tv : Tok), m = wsum (fun n => 1 + n.sc.length) sn N + fsum F ∧ FOk N F ∧ (∀ f ∈ F, f.wd.length < v.length) ∧ (∃ n ∈ N, n.wd = v) ∧ F.length ≤ k ∧ k + wsum (fun _ => 1) sn N ≤ N.length ∧
        Stt z s (fcB prog w it0 nd se is st Lf S dS D Rd (i + 1) ep (tabOf N).length (kvsF F) sn k (isF F) (stF F) [some (.ref S), some (.ref D), some (.ref st), some (.ref is), some (.ref se), some (.ref nd), some (.bytes v.toArray tv)] (attrs D (.ref Rd) po t1 nf t2) (tabOf N) rs (fmsL F ++ (nodesL N ++ L)))) ?_ _
        ⟨[], k, sn, n0.wd, t0, rfl, FOk.nil N, by simp, ⟨n0, hn0m, rfl⟩, by simp, hk, H⟩)
      clear H hk hs0
      intro m s hI
      obtain ⟨F, k, sn, v, tv, hm, hO, hlv, ⟨n, hnm, hnv⟩, hFk, hk, H⟩ := hI
      refine isTrue_plain ?_ rfl
      with_reducible refine Constant_bool ?_
      with_reducible refine wpAny_truthy_bool ?_
      refine ift ?_
      with_reducible refine wpAny_execs_cons ?_
      refine wpAny_mono (Q := fun (f : Flow) s => f = .next ∧ ∃ (F' : List Fm) (k' : Nat) (sn' : Wd → Bool) (vn : Option Value), wsum (fun n => 1 + n.sc.length) sn' N + fsum F' ≤ wsum (fun n => 1 + n.sc.length) sn N + fsum F ∧ FOk N F' ∧ F'.length ≤ k' ∧ k' + wsum (fun _ => 1) sn' N ≤ N.length ∧
        Stt z s (fcB prog w it0 nd se is st Lf S dS D Rd (i + 1) ep (tabOf N).length (kvsF F') sn' k' (isF F') (stF F') [some (.ref S), some (.ref D), some (.ref st), some (.ref is), some (.ref se), some (.ref nd), vn] (attrs D (.ref Rd) po t1 nf t2) (tabOf N) rs (fmsL F' ++ (nodesL N ++ L)))) (E := fun _ _ => False) ?_ ?_ (fun _ _ x => x.elim)
      · refine hide_q fun Qn hQ => hide_e fun En hE => ?_
        clear hE
        with_reducible refine wpAny_If ?_
        with_reducible refine wpAny_isTrue_Compare1 ?_ (by with_unfolding_all rfl)
        refine n_local (by with_reducible assumption) (by with_reducible assumption) (by walk_at "mem") (by walk_at "loc") ?_
        refine n_local (by with_reducible assumption) (by with_reducible assumption) (by walk_at "mem") (by walk_at "loc") ?_
        refine s_in (prog := prog) (w := w) H (by walk_at "mem") ?_
        clear H
        intro s H
        with_reducible refine wpAny_truthy_bool ?_
        rename_i H
        by_cases hs0 : sn v = true
        · rw [if_pos hs0]
          with_reducible refine wpAny_execs_cons ?_
          with_reducible refine wpAny_If ?_
          with_reducible refine wpAny_isTrue_Compare1 ?_ (by with_unfolding_all rfl)
          refine n_local (by with_reducible assumption) (by with_reducible assumption) (by walk_at "mem") (by walk_at "loc") ?_
          refine n_local (by with_reducible assumption) (by with_reducible assumption) (by walk_at "mem") (by walk_at "loc") ?_
          rename_i H
          refine d_in H hnds (dictOf1 H (by walk_at "mem")) ?_
          clear H
          intro s H
          rw [at_none hlv, Option.isSome_none]
          with_reducible refine wpAny_truthy_bool ?_
          refine iff' ?_
          with_reducible refine wpAny_execs_nil ?_
          with_reducible refine wpAny_execs_nil ?_
          rename_i H
          refine hQ _ _ ?_
          exact ⟨rfl, F, k, sn, _, Nat.le_refl _, hO, hFk, hk, H⟩
        · rw [if_neg hs0]
          have hs1 : sn v = false := by simpa using hs0
          have hw1 := wsum_take (c := fun _ => 1) (S := sn) (n := n) (by rw [hnv]; exact hs1) hnm nd0
          have hw2 := wsum_take (c := fun n => 1 + n.sc.length) (S := sn) (n := n) (by rw [hnv]; exact hs1) hnm nd0
          rw [hnv] at hw1 hw2
          obtain ⟨N1, n', N2, hN, hk', hva⟩ := tab_mem (N := N) (k := v) (List.mem_map.mpr ⟨n, hnm, hnv⟩)
          have hlsF : (isF F).length = F.length ∧ (stF F).length = F.length ∧ (kvsF F).length = F.length := by simp
          with_reducible refine wpAny_execs_cons ?_
          refine x_Expr (by with_reducible assumption) ?_ rfl
          refine MethodCall_ ?_ rfl
          refine n_local (by with_reducible assumption) (by with_reducible assumption) (by walk_at "mem") (by walk_at "loc") ?_
          rename_i H
          refine gm_sadd (prog := prog) (w := w) H (by walk_at "mem") ?_
          with_reducible refine callWith_method1 ?_ rfl rfl
          with_reducible refine spliced_more ?_ rfl
          refine n_local (by with_reducible assumption) (by with_reducible assumption) (by walk_at "mem") (by walk_at "loc") ?_
          with_reducible refine spliced_none ?_
          rename_i H
          refine s_add (prog := prog) (w := w) H (by walk_at "upd") (by omega) hs1 ?_
          clear H
          intro s H
          with_reducible refine wpAny_execs_cons ?_
          refine x_Expr (by with_reducible assumption) ?_ rfl
          refine MethodCall_ ?_ rfl
          refine n_local (by with_reducible assumption) (by with_reducible assumption) (by walk_at "mem") (by walk_at "loc") ?_
          refine gm_append (by with_reducible assumption) (by walk_at "mem") ?_
          with_reducible refine callWith_method1 ?_ rfl rfl
          with_reducible refine spliced_more ?_ rfl
          refine Attribute_any_ ?_
          with_reducible refine wpAny_Call_NameR ?_
          refine n_built (by with_reducible assumption) (by with_reducible assumption) (by with_reducible assumption) (by walk_at "mem") (Gd.noglob (by with_reducible assumption) (by k_is)) (by boot_by_name) (by decide) ?_
          with_reducible refine callWith_builtin1 ?_ rfl rfl
          with_reducible refine spliced_more ?_ rfl
          refine Attribute_any_ ?_
          with_reducible refine Subscript_ ?_
          refine n_local (by with_reducible assumption) (by with_reducible assumption) (by walk_at "mem") (by walk_at "loc") ?_
          refine n_local (by with_reducible assumption) (by with_reducible assumption) (by walk_at "mem") (by walk_at "loc") ?_
          rename_i H
          refine d_sub H ((dictAt1 H (by walk_at "mem")).dictOf) hva ?_
          clear H
          intro s H
          subst hN
          refine gs_suc G H ((by (repeat apply List.mem_cons_of_mem); exact List.mem_append_right _ mem_x)) ((by (repeat apply List.mem_cons_of_mem); exact List.mem_append_right _ mem_dx)) rfl ?_
          clear H
          intro s H
          with_reducible refine spliced_none ?_
          rename_i H
          refine c_iter H ((by (repeat apply List.mem_cons_of_mem); exact List.mem_append_right _ mem_ls)) ?_
          clear H
          intro it s H
          refine ga_next H List.mem_cons_self ?_
          clear H
          intro mw s H
          replace H := LIx.li H (.tail .head)
          with_reducible refine spliced_none ?_
          rename_i H
          refine l_append H (by walk_at "upd") (by simp [sizeLine]; omega) ?_
          clear H
          intro s H
          with_reducible refine wpAny_execs_cons ?_
          refine wpAny_Assign_Subscript ?_ rfl
          with_reducible refine wpAny_Call_NameR ?_
          refine n_built (by with_reducible assumption) (by with_reducible assumption) (by with_reducible assumption) (by walk_at "mem") (Gd.noglob (by with_reducible assumption) (by k_is)) (by boot_by_name) (by decide) ?_
          with_reducible refine callWith_builtin1 ?_ rfl rfl
          with_reducible refine spliced_more ?_ rfl
          refine n_local (by with_reducible assumption) (by with_reducible assumption) (by walk_at "mem") (by walk_at "loc") ?_
          with_reducible refine spliced_none ?_
          rename_i H
          refine l_len H (by walk_at "mem") (by omega) ?_
          clear H
          intro s tl H
          refine n_local (by with_reducible assumption) (by with_reducible assumption) (by walk_at "mem") (by walk_at "loc") ?_
          refine n_local (by with_reducible assumption) (by with_reducible assumption) (by walk_at "mem") (by walk_at "loc") ?_
          rename_i H
          refine d_set H (by walk_at "upd") (by simp [sizeLine]; omega) ?_
          clear H
          intro s H
          rw [store_new hlv] at H
          with_reducible refine wpAny_execs_cons ?_
          refine x_Expr (by with_reducible assumption) ?_ rfl
          refine MethodCall_ ?_ rfl
          refine n_local (by with_reducible assumption) (by with_reducible assumption) (by walk_at "mem") (by walk_at "loc") ?_
          refine gm_append (by with_reducible assumption) (by walk_at "mem") ?_
          with_reducible refine callWith_method1 ?_ rfl rfl
          with_reducible refine spliced_more ?_ rfl
          refine n_local (by with_reducible assumption) (by with_reducible assumption) (by walk_at "mem") (by walk_at "loc") ?_
          with_reducible refine spliced_none ?_
          rename_i H
          refine l_append H (by walk_at "upd") (by simp [sizeLine]; omega) ?_
          clear H
          intro s H
          with_reducible refine wpAny_execs_nil ?_
          refine hQ _ _ ?_
          refine ⟨rfl, ⟨v, tv, .int (stF F).length tl, mw, it, n'.ls, 0, n'.sc⟩ :: F, k + 1, seenW sn v, some (.bytes v.toArray tv), ?_, hO.push hlv ⟨n', by simp, hk', rfl, rfl⟩, by simp; omega, by omega, ?_⟩
          · have : n'.sc.length = n.sc.length := by
              have e : n = n' := nodup_wd nd0 hnm (by simp) (hnv.trans hk'.symm)
              rw [e]
            simp only [fsum]
            omega
          · rw [kvsF_cons, isF_cons, stF_cons]
            exact H.perm (List.perm_append_comm_assoc [(mw, _), (it, _)] [(it0, _), (nd, _), (se, _), (is, _), (st, _), (Lf, _), (S, _), (dS, _), (D, _), (Rd, _)] _)
      · clear H
        rintro _ s ⟨rfl, F', k', sn', vn, hle, hO', hFk', hk', H⟩
        dsimp only
        with_reducible refine wpAny_execs_cons ?_
        refine wpAny_While (codeAny_whileLoop (fun q s => ∃ (F2 : List Fm), q = F2.length ∧ fsum F2 ≤ fsum F' ∧ FOk N F2 ∧ F2.length ≤ k' ∧
          Stt z s (fcB prog w it0 nd se is st Lf S dS D Rd (i + 1) ep (tabOf N).length (kvsF F2) sn' k' (isF F2) (stF F2) [some (.ref S), some (.ref D), some (.ref st), some (.ref is), some (.ref se), some (.ref nd), vn] (attrs D (.ref Rd) po t1 nf t2) (tabOf N) rs (fmsL F2 ++ (nodesL N ++ L)))) ?_ _
          ⟨F', rfl, Nat.le_refl _, hO', hFk', H⟩)
        clear H hO' hFk'
        intro q s hI
        obtain ⟨F2, hq, hf2, hO2, hFk2, H⟩ := hI
        refine isTrue_plain ?_ rfl
        refine n_local (by with_reducible assumption) (by with_reducible assumption) (by walk_at "mem") (by walk_at "loc") ?_
        rename_i H
        refine t_list H (by walk_at "mem") (by simp; omega) ?_
        clear H
        intro s H
        cases F2 with
        | nil =>
          rw [if_neg (by simp)]
          with_reducible refine wpAny_execs_cons ?_
          with_reducible refine wpAny_Break ?_
          with_reducible refine wpAny_execs_nil ?_
          rename_i H
          refine hQ _ _ ?_
          exact ⟨kk - 1, by omega, i + 1, k', sn', _, by omega, hk', H⟩
        | cons f F2 =>
          rw [if_pos (by simp)]
          with_reducible refine wpAny_execs_cons ?_
          clear hQ
          refine hide_q fun Qn hQ2 => hide_e fun En hE => ?_
          clear hE
          refine wpAny_Try_except ?_
          with_reducible refine wpAny_execs_cons ?_
          with_reducible refine wpAny_Assign_Name ?_ rfl
          rename_i H
          obtain ⟨n, hnm, hw, hls, hsc2⟩ := hO2.nod f List.mem_cons_self
          obtain ⟨us, hus, hus2⟩ := hcl n hnm
          have hml : ∀ X, (f.ls, Lst f.sc) ∈ fmsL F2 ++ (nodesL N ++ X) := fun X => by
            rw [← hls, ← hsc2]; exact List.mem_append_right _ (mem_ls' hnm)
          rw [isF_cons, stF_cons] at H
          replace H : Stt z s ((it0, _) :: (nd, _) :: (se, _) :: (is, _) :: (st, _) :: (Lf, _) :: (S, _) :: (dS, _) :: (D, _) :: (Rd, _) :: (f.mw, MW f.it) :: (f.it, LIt f.ls f.pos) :: (fmsL F2 ++ (nodesL N ++ L))) := H
          have hFl : F2.length ≤ 100 := by simp at hFk2; omega
          have hsz : (isF F2).length ≤ 100 ∧ (stF F2).length ≤ 100 ∧ (kvsF (f :: F2)).length ≤ 101 := by simp; omega
          refine Call_ ?_
          with_reducible refine Subscript_ ?_
          refine n_local (by with_reducible assumption) (by with_reducible assumption) (by walk_at "mem") (by walk_at "loc") ?_
          with_reducible refine UnaryOp_ ?_
          (with_reducible rename Stt _ _ _ => hO); with_reducible refine c_int hO ?_; intro _ _ _; clear hO
          refine i_neg (by assumption) ?_
          clear H
          intro s u H
          refine l_last (xs := isF F2) H (by walk_at "mem") (by omega) ?_
          refine cw_mw (a := f.it) H (by walk_at "mem") env ?_
          by_cases hpos : f.pos < f.sc.length
          · obtain ⟨x, hx⟩ : ∃ x, f.sc[f.pos]? = some x := ⟨_, List.getElem?_eq_getElem hpos⟩
            obtain ⟨v, tv, rfl, hv⟩ := hus.get (by rw [hsc2]; exact hx)
            obtain ⟨hv1, hv2⟩ := hus2 v (List.mem_of_getElem? hv)
            refine call_next (i := f.pos) (l := f.ls) H (by walk_at "mem") (by walk_at "upd") ((by (repeat apply List.mem_cons_of_mem); exact hml L)) hx ?_
            clear H
            intro s H
            (with_reducible rename Stt _ _ _ => hO); refine st_local hO (by with_reducible assumption) (by walk_at "upd") (by walk_at "put") ?_; intro _ _; clear hO
            with_reducible refine wpAny_execs_cons ?_
            with_reducible refine wpAny_Break ?_
            rename_i H
            rw [kvsF_cons] at H
            refine hQ2 _ _ ?_
            with_reducible refine wpAny_execs_nil ?_
            refine ⟨_, ?_, { f with pos := f.pos + 1 } :: F2, k', sn', v, tv, rfl, hO2.step, ?_, ?_, hFk2, hk', by rw [kvsF_cons, isF_cons, stF_cons]; exact H⟩
            · simp only [fsum] at hf2 ⊢
              omega
            · intro g hg
              rcases List.mem_cons.mp hg with rfl | hg
              · show f.wd.length < _
                rw [← hw]; exact hv2
              · have := hO2.below g (List.mem_cons_of_mem _ hg)
                rw [← hw] at this
                omega
            · obtain ⟨m', hm1, hm2⟩ := List.mem_map.mp hv1
              exact ⟨m', hm1, hm2⟩
          · refine call_stop (i := f.pos) (l := f.ls) hh2 H (by walk_at "mem") (.tail (.tail (.tail (.tail (.tail (.tail (.tail (.tail (.tail (.tail (.tail .head))))))))))) ((by (repeat apply List.mem_cons_of_mem); exact hml L)) (List.getElem?_eq_none (by omega)) ?_
            clear H
            intro e s H
            refine caught_new H hfr2 (hF2 _ _ (by walk_at "mem") (fun p hp => by (repeat apply List.mem_cons_of_mem); exact List.mem_append_right _ (List.mem_append_right _ hp))) hf ?_
            clear H
            intro tb s H
            refine handle_by si_exc si_nt si_sub G he (by walk_at "mem") (Gd.noglob G (by k_is)) (by boot_by_name) (by decide) rfl H ?_
            clear H
            intro s H
            with_reducible refine wpAny_execs_cons ?_
            refine wpAny_Delete (wpAny_deleteEach_cons (delete_Subscript ?_))
            refine n_local (by with_reducible assumption) (by with_reducible assumption) (by walk_at "mem") (by walk_at "loc") ?_
            refine MethodCall_ ?_ rfl
            refine n_local (by with_reducible assumption) (by with_reducible assumption) (by walk_at "mem") (by walk_at "loc") ?_
            rename_i H
            refine gm_list H (by walk_at "mem") PySem.F.slot_list_pop PySem.F.type_list_pop ?_
            with_reducible refine callWith_method0 ?_
            refine l_pop (xs := stF F2) H (by walk_at "upd") (by omega) ?_
            clear H
            intro s H
            obtain ⟨hd1, hd2⟩ := drop_top hO2
            refine d_del (kvs := kvsF (f :: F2)) H (by walk_at "upd") (by simp [sizeLine]; omega) hd2 ?_
            clear H
            intro s H
            rw [hd1] at H
            refine wpAny_deleteEach_nil ?_
            with_reducible refine wpAny_execs_cons ?_
            refine x_Expr (by with_reducible assumption) ?_ rfl
            refine MethodCall_ ?_ rfl
            refine n_local (by with_reducible assumption) (by with_reducible assumption) (by walk_at "mem") (by walk_at "loc") ?_
            rename_i H
            refine gm_list H (by walk_at "mem") PySem.F.slot_list_pop PySem.F.type_list_pop ?_
            with_reducible refine callWith_method0 ?_
            refine l_pop (xs := isF F2) H (by walk_at "upd") (by omega) ?_
            clear H
            intro s H
            with_reducible refine wpAny_execs_nil ?_
            refine hQ2 _ _ ?_
            with_reducible refine wpAny_execs_nil ?_
            refine ⟨F2.length, by simp at hq; omega, F2, rfl, ?_, hO2.tail, by simp at hFk2; omega, ?_⟩
            · simp only [fsum] at hf2
              omega
            · exact (H.drop1.drop1).out (.tail (.tail (.tail (.tail (.tail (.tail (.tail (.tail (.tail (.tail .head))))))))))
  · refine nx_dict_end hh2 H .head (by walk_at "mem") (by simp [tabOf]; omega) ?_
    clear H
    intro s H
    dsimp only
    with_reducible refine wpAny_execs_nil ?_
    with_reducible refine wpAny_execs_cons ?_
    with_reducible refine wpAny_Return_some ?_
    with_reducible refine Constant_none ?_
    rename_i H
    refine h _ ?_
    have H2 := H.drop1.drop1.drop1.drop1.drop1
    exact H2.weak (.tail (.tail .head)) fun o => DctE.dct

end
section
/-! ## prepare -/
theorem mem_x' {N : List Nd} {n : Nd} {L : Led} (hn : n ∈ N) : (n.x, Ins 47 n.dx #[some (.bytes n.wd.toArray n.tk), some (.int n.np n.nt), some (.ref n.ls)]) ∈ nodesL N ++ L := by
  obtain ⟨N1, N2, rfl⟩ := List.append_of_mem hn
  exact mem_x
theorem mem_dx' {N : List Nd} {n : Nd} {L : Led} (hn : n ∈ N) : (n.dx, Atr []) ∈ nodesL N ++ L := by
  obtain ⟨N1, N2, rfl⟩ := List.append_of_mem hn
  exact mem_dx
theorem NIs.get {N : List Nd} {g : List Ag} {i : Nat} {n : Nd} (h : NIs N g) (hn : N[i]? = some n) : ∃ a, g[i]? = some a ∧ n.wd = a.wd ∧ n.np = a.np := by
  induction h generalizing i with
  | nil => simp at hn
  | cons h1 h2 h3 _ ih =>
    cases i with
    | zero => simp at hn; subst hn; exact ⟨_, rfl, h1, h2⟩
    | succ i => simp at hn; simpa using ih hn
theorem s_prepare {w : World} {mg mb : Str → Option Value} {prog : Program} {A : Around} {z s : Shared} {L : Led} {R : Result → Shared → Prop} {outer : List Env} {S dS D : Addr} {po nf : Int} {t1 t2 : Tok} {N : List Nd} {g : List Ag}
    (G : Gd w mg mb z.heap) (hDs : (D == sysModules) = false) (H : Stt z s (srtL prog w S dS D .none po t1 nf t2 N L)) (hg : NIs N g) (hA : A.depth ≤ 650) (hh : A.handled = none) (hfr : A.frames = some outer) (hF : FrOk outer L) (hz : N.length ≤ 100)
    (hsc : ∀ n ∈ N, n.sc.length ≤ 1000) (hcl : ∀ n ∈ N, ∃ us, WsAre n.sc us ∧ ∀ u ∈ us, u ∈ N.map (·.wd) ∧ n.wd.length < u.length)
    (h : ∀ Rd rs s', WsAre rs ((g.filter fun a => a.np = 0).map (·.wd)) → Stt z s' (srtR prog w S dS D Rd rs po t1 nf t2 N L) → R (.ok (.ret .none)) s') :
    codeAny (model prog w) A (.call (.ref 99) ⟨[.ref S], []⟩) R s := by
  refine call_fn (ps := ["self"]) (rest := ["cycle"]) (names := ["self", "cycle"]) (vals := [some (.ref S), none]) (gs := ["ValueError", "CycleError"]) G H (by k_is) (by k_is) (by show _ < 1000; omega) rfl (BindsTo.of_eq rfl) rfl rfl rfl (by decide) (by decide) (all_mem rfl) (all_mem rfl) rfl rfl ?_
  clear H
  intro env Lf s he hf H
  replace H : Stt z s ((Lf, _) :: (S, _) :: (dS, _) :: (D, Dct prog w (tabOf N)) :: (nodesL N ++ L)) := H
  obtain ⟨ep, H⟩ := H.frozen (d := D) (kvs := tabOf N) (fun ep => .tail (.tail (.tail .head)))
  with_reducible refine wpAny_execs_cons ?_
  with_reducible refine wpAny_If ?_
  with_reducible refine wpAny_isTrue_Compare1 ?_ (by with_unfolding_all rfl)
  refine Attribute_any_ ?_
  refine n_local (by with_reducible assumption) (by with_reducible assumption) (by walk_at "mem") (by walk_at "loc") ?_
  (with_reducible rename Stt _ _ _ => hO); refine ga_own (by with_reducible assumption) hO (by walk_at "mem") (by walk_at "mem") (KLoc.eq (by walk_at "kloc")) (by k_is) (by k_is) (by k_is) (by k_is) rfl ?_; intro _ _; clear hO
  with_reducible refine Constant_none ?_
  with_reducible refine isn_nn ?_
  with_reducible refine wpAny_truthy_bool ?_
  refine iff' ?_
  with_reducible refine wpAny_execs_nil ?_
  with_reducible refine wpAny_execs_cons ?_
  refine plainObj_wpAny_Assign_Attribute ?_ rfl
  refine comp_list (z := z) (gs := []) (cs := []) (closure_of [] (fun p hp => by simp at hp) rfl) (by decide) rfl (by decide) (compE he rfl (by decide) (all_mem rfl) (all_mem rfl) (fun p hp => by simp at hp)) ?_
  refine MethodCall_ ?_ rfl
  refine Attribute_any_ ?_
  refine n_local (by with_reducible assumption) (by with_reducible assumption) (by walk_at "mem") (by walk_at "loc") ?_
  (with_reducible rename Stt _ _ _ => hO); refine ga_own (by with_reducible assumption) hO (by walk_at "mem") (by walk_at "mem") (KLoc.eq (by walk_at "kloc")) (by k_is) (by k_is) (by k_is) (by k_is) rfl ?_; intro _ _; clear hO
  rename_i H
  have hh2 : (A.deeper env).handled = none := hh
  refine gm_dict ((dictAt1 H (by walk_at "mem")).dictOf) PySem.F.slot_dict_values PySem.F.type_dict_values ?_
  with_reducible refine callWith_method0 ?_
  refine d_values H hDs ((dictAt1 H (by walk_at "mem")).dictOf) ?_
  clear H
  intro vw s H
  refine it_values H List.mem_cons_self (by walk_at "mem") ?_
  clear H
  intro it s H
  replace H := H.out (.tail .head)
  refine ⟨it, _, VIt D (tabOf N).length ep, (tabOf N).map (·.2), fun i ys => WsAre ys (((g.take i).filter fun a => a.np = 0).map (·.wd)), rfl, H, itr_values hh2 (by walk_at "mem"), by simp [tabOf, sizeLine]; omega, by simpa using WsAre.nil, ?_, ?_⟩
  · clear H
    intro cenv C acc i v ys s he' hx hJ H
    obtain ⟨n, hn, rfl⟩ : ∃ n, N[i]? = some n ∧ v = .ref n.x := by
      simp [tabOf] at hx
      obtain ⟨n, h1, h2⟩ := hx
      exact ⟨n, h1, h2.symm⟩
    have hnm := List.mem_of_getElem? hn
    obtain ⟨a, ha, ha1, ha2⟩ := hg.get hn
    refine tests_one ?_
    with_reducible refine wpAny_isTrue_Compare1 ?_ (by with_unfolding_all rfl)
    refine Attribute_any_ ?_
    refine n_local (by with_reducible assumption) (by with_reducible assumption) (by walk_at "mem") (by walk_at "loc") ?_
    rename_i H
    refine gs_np G H ((by (repeat apply List.mem_cons_of_mem); exact mem_x' hnm)) ((by (repeat apply List.mem_cons_of_mem); exact mem_dx' hnm)) rfl ?_
    clear H
    intro s H
    (with_reducible rename Stt _ _ _ => hO); with_reducible refine c_int hO ?_; intro _ _ _; clear hO
    refine PyProof.Rows.eq_int ?_
    with_reducible refine wpAny_truthy_bool ?_
    rename_i H
    have htk : g.take (i + 1) = g.take i ++ [a] := by rw [List.take_add_one, ha]; rfl
    by_cases h0 : n.np = 0
    · rw [if_pos (by simpa using h0)]
      refine Attribute_any_ ?_
      refine n_local (by with_reducible assumption) (by with_reducible assumption) (by walk_at "mem") (by walk_at "loc") ?_
      refine gs_node G H ((by (repeat apply List.mem_cons_of_mem); exact mem_x' hnm)) ((by (repeat apply List.mem_cons_of_mem); exact mem_dx' hnm)) rfl ?_
      clear H
      intro s H
      refine ⟨H, ?_⟩
      show WsAre _ _
      rw [htk, List.filter_append, List.map_append, List.filter_cons, if_pos (by simpa using ha2.symm.trans h0)]
      exact hJ.append (by simp only [List.filter_nil, List.map_cons, List.map_nil]; rw [← ha1]; exact .cons _ _ .nil)
    · rw [if_neg (by simpa using h0)]
      refine ⟨H, ?_⟩
      show WsAre _ _
      rw [htk, List.filter_append, List.map_append, List.filter_cons, if_neg (by simp; rw [← ha2]; exact h0)]
      simpa using hJ
  · clear H
    intro Rd rs s hJ H
    have hgl := hg.length
    dsimp only
    rw [List.take_of_length_le (by simp [tabOf]; omega)] at hJ
    refine n_local (by with_reducible assumption) (by with_reducible assumption) (by walk_at "mem") (by walk_at "loc") ?_
    (with_reducible rename Stt _ _ _ => hO); refine sa_own' (by with_reducible assumption) hO (by walk_at "mem") (by walk_at "upd") (by walk_at "kput") (by exact Nat.le_of_ble_eq_true rfl) (by k_is) (by k_is) (by k_is) (by k_is) ?_; intro _ _; clear hO
    with_reducible refine wpAny_execs_cons ?_
    with_reducible refine wpAny_Assign_Name ?_ rfl
    refine MethodCall_ ?_ rfl
    refine n_local (by with_reducible assumption) (by with_reducible assumption) (by walk_at "mem") (by walk_at "loc") ?_
    refine gm_inst (by with_reducible assumption) (by with_reducible assumption) (by walk_at "mem") (by walk_at "mem") rfl (by k_is) (by k_is) (by k_is) ?_
    refine cw_fn0 (by with_reducible assumption) (by with_reducible assumption) (by k_is) ?_
    rename_i H
    replace H := H.weak (P' := Dct prog w (tabOf N)) (.tail (.tail (.tail (.tail .head)))) fun o => DctE.dct
    replace H := H.perm (List.perm_append_comm_assoc [(Rd, _)] [(Lf, _), (S, _), (dS, _), (D, _)] (nodesL N ++ L))
    replace H : Stt z _ ((Lf, _) :: (S, _) :: (dS, _) :: (D, Dct prog w (tabOf N)) :: (Rd, _) :: (nodesL N ++ L)) := H
    rename_i H
    refine wpAny_call (s_find_cycle (outer := env :: outer) G hDs (toInR (F := [_]) H) (by show A.depth + 1 ≤ 700; omega) hh2 (by show A.frames.map _ = _; rw [hfr]; rfl) ?_ hz hsc hcl ?_)
    · intro q hq
      rcases List.mem_cons.mp hq with rfl | hq
      · exact ⟨(by rw [he.kind]; exact (fun x => nomatch x)), Lf, _, _, hf, List.mem_cons_self⟩
      · obtain ⟨a1, f, names, vals, a2, a3⟩ := hF q hq
        exact ⟨a1, f, names, vals, a2, List.mem_cons_of_mem _ a3⟩
    · clear H
      intro s H
      replace H : Stt z s ((Lf, _) :: srtR prog w S dS D Rd rs po t1 nf t2 N L) := toOutR [_] H
      show wpAny _ _ _ _ _ _
      (with_reducible rename Stt _ _ _ => hO); refine st_local hO (by with_reducible assumption) (by walk_at "upd") (by walk_at "put") ?_; intro _ _; clear hO
      with_reducible refine wpAny_execs_cons ?_
      with_reducible refine wpAny_If ?_
      refine isTrue_plain ?_ rfl
      refine n_local (by with_reducible assumption) (by with_reducible assumption) (by walk_at "mem") (by walk_at "loc") ?_
      rename_i H
      refine truthy_none ?_
      refine iff' ?_
      with_reducible refine wpAny_execs_nil ?_
      with_reducible refine wpAny_execs_nil ?_
      exact h Rd rs _ hJ H.drop1

end
section
/-! ## The graph as functions -/
noncomputable def gr (ws : List Wd) (np : Wd → Int) (sc : Wd → List Wd) : List Ag := ws.map fun w => ⟨w, np w, sc w⟩
noncomputable def addW (ws : List Wd) (k : Wd) : List Wd := if k ∈ ws then ws else ws ++ [k]
theorem gr_congr {ws : List Wd} {np np' : Wd → Int} {sc sc' : Wd → List Wd} (h : ∀ x ∈ ws, np x = np' x ∧ sc x = sc' x) : gr ws np sc = gr ws np' sc' := by
  unfold gr
  refine List.map_congr_left fun x hx => ?_
  obtain ⟨h1, h2⟩ := h x hx
  rw [h1, h2]
theorem gr_words (ws : List Wd) (np : Wd → Int) (sc : Wd → List Wd) : (gr ws np sc).map (·.wd) = ws := by
  unfold gr; rw [List.map_map]; simp [Function.comp_def]
theorem gr_bump (ws : List Wd) (np : Wd → Int) (sc : Wd → List Wd) (k : Wd) (d : Int) : bump (gr ws np sc) k d = gr ws (fun x => if x = k then np x + d else np x) sc := by
  unfold bump gr
  rw [List.map_map]
  refine List.map_congr_left fun x hx => ?_
  simp only [Function.comp]
  split <;> rfl
theorem gr_set (ws : List Wd) (np : Wd → Int) (sc : Wd → List Wd) (k : Wd) (v : Int) : setG (gr ws np sc) k v = gr ws (fun x => if x = k then v else np x) sc := by
  unfold setG gr
  rw [List.map_map]
  refine List.map_congr_left fun x hx => ?_
  simp only [Function.comp]
  split <;> rfl
theorem gr_addS (ws : List Wd) (np : Wd → Int) (sc : Wd → List Wd) (p k : Wd) : addS (gr ws np sc) p k = gr ws np (fun x => if x = p then sc x ++ [k] else sc x) := by
  unfold addS gr
  rw [List.map_map]
  refine List.map_congr_left fun x hx => ?_
  simp only [Function.comp]
  split <;> rfl
theorem gr_any (ws : List Wd) (np : Wd → Int) (sc : Wd → List Wd) (k : Wd) : ((gr ws np sc).any fun a => a.wd = k) = decide (k ∈ ws) := by
  unfold gr
  rw [List.any_map, Bool.eq_iff_iff]
  simp
theorem gr_ensure {ws : List Wd} {np : Wd → Int} {sc : Wd → List Wd} {k : Wd} (h : k ∉ ws → np k = 0 ∧ sc k = []) : ensure (gr ws np sc) k = gr (addW ws k) np sc := by
  unfold ensure addW
  rw [gr_any]
  by_cases hk : k ∈ ws
  · rw [if_pos (by simpa using hk), if_pos hk]
  · rw [if_neg (by simpa using hk), if_neg hk]
    obtain ⟨h1, h2⟩ := h hk
    unfold gr
    rw [List.map_append, List.map_cons, List.map_nil, h1, h2]
theorem gr_find {ws : List Wd} {np : Wd → Int} {sc : Wd → List Wd} {k : Wd} (h : k ∈ ws) : (gr ws np sc).find? (fun a => a.wd = k) = some ⟨k, np k, sc k⟩ := by
  induction ws with
  | nil => simp at h
  | cons w ws ih =>
    show List.find? _ (⟨w, np w, sc w⟩ :: gr ws np sc) = _
    rw [List.find?_cons]
    by_cases e : w = k
    · subst e; simp
    · have hk : k ∈ ws := by
        rcases List.mem_cons.mp h with q | q
        · exact absurd q.symm e
        · exact q
      simp only [e, decide_false]
      exact ih hk
theorem gr_np {ws : List Wd} {np : Wd → Int} {sc : Wd → List Wd} {k : Wd} (h : k ∈ ws) : npAt (gr ws np sc) k = np k := by
  unfold npAt; rw [gr_find h]; rfl
theorem gr_sc {ws : List Wd} {np : Wd → Int} {sc : Wd → List Wd} {k : Wd} (h : k ∈ ws) : scAt (gr ws np sc) k = sc k := by
  unfold scAt; rw [gr_find h]; rfl
theorem addW_mem {ws : List Wd} {k x : Wd} : x ∈ addW ws k ↔ x ∈ ws ∨ x = k := by
  unfold addW
  split
  · constructor
    · exact .inl
    · rintro (h | rfl) <;> assumption
  · simp
theorem addW_nd {ws : List Wd} {k : Wd} (h : ws.Nodup) : (addW ws k).Nodup := by
  unfold addW
  split
  · exact h
  · rename_i hk
    rw [List.nodup_append]
    exact ⟨h, by simp, fun a ha b hb => by rw [List.mem_singleton] at hb; subst hb; exact fun e => hk (e ▸ ha)⟩
theorem addsW_mem : ∀ {ps ws : List Wd} {x : Wd}, x ∈ ps.foldl addW ws ↔ x ∈ ws ∨ x ∈ ps
  | [], ws, x => by simp
  | p :: ps, ws, x => by
    rw [List.foldl_cons, addsW_mem, addW_mem, List.mem_cons, or_assoc]
theorem addsW_nd : ∀ {ps ws : List Wd}, ws.Nodup → (ps.foldl addW ws).Nodup
  | [], _, h => h
  | p :: ps, ws, h => addsW_nd (ps := ps) (addW_nd h)
theorem gr_adds {k : Wd} : ∀ {ps : List Wd} {ws : List Wd} {np : Wd → Int} {sc : Wd → List Wd}, ps.Nodup → (∀ p ∈ ps, p ∉ ws → np p = 0 ∧ sc p = []) →
    ps.foldl (fun g p => addS (ensure g p) p k) (gr ws np sc) = gr (ps.foldl addW ws) np (fun x => if x ∈ ps then sc x ++ [k] else sc x)
  | [], ws, np, sc, _, _ => by simp
  | p :: ps, ws, np, sc, nd, h => by
    rw [List.nodup_cons] at nd
    rw [List.foldl_cons, List.foldl_cons, gr_ensure (h p List.mem_cons_self), gr_addS, gr_adds nd.2]
    · refine gr_congr fun x hx => ⟨rfl, ?_⟩
      by_cases e : x = p
      · subst e
        rw [if_neg nd.1, if_pos rfl, if_pos List.mem_cons_self]
      · by_cases hx' : x ∈ ps
        · rw [if_pos hx', if_neg e, if_pos (List.mem_cons_of_mem _ hx')]
        · rw [if_neg hx', if_neg e, if_neg (by simp [e, hx'])]
    · intro q hq hn
      rw [addW_mem] at hn
      have hqw : q ∉ ws := fun e => hn (.inl e)
      obtain ⟨h1, h2⟩ := h q (List.mem_cons_of_mem _ hq) hqw
      have hne : q ≠ p := fun e => nd.1 (e ▸ hq)
      exact ⟨h1, by rw [if_neg hne]; exact h2⟩
theorem gr_addG {ws : List Wd} {np : Wd → Int} {sc : Wd → List Wd} {k : Wd} {ps : List Wd} (h : ∀ x, x ∉ ws → np x = 0 ∧ sc x = []) (nd : ps.Nodup) (hk : k ∉ ps) :
    addG (gr ws np sc) k ps = gr (ps.foldl addW (addW ws k)) (fun x => if x = k then np x + ps.length else np x) (fun x => if x ∈ ps then sc x ++ [k] else sc x) := by
  unfold addG
  rw [gr_ensure (h k), gr_bump, gr_adds nd]
  intro p hp hn
  have hne : p ≠ k := fun e => hk (e ▸ hp)
  rw [addW_mem] at hn
  obtain ⟨h1, h2⟩ := h p fun e => hn (.inl e)
  exact ⟨by rw [if_neg hne]; exact h1, h2⟩
/-! ### prefixes -/
noncomputable def pfx (o k : Wd) : Bool := o != k && (k.take o.length == o)
noncomputable def pre (W : List Wd) (k : Wd) : List Wd := W.filter fun o => pfx o k
theorem pfx_iff {o k : Wd} : pfx o k = true ↔ o ≠ k ∧ k.take o.length = o := by simp [pfx]
theorem pfx_self (k : Wd) : pfx k k = false := by simp [pfx]
theorem pfx_lt {o k : Wd} (h : pfx o k = true) : o.length < k.length := by
  obtain ⟨h1, h2⟩ := pfx_iff.mp h
  rcases Nat.lt_or_ge o.length k.length with q | q
  · exact q
  · rw [List.take_of_length_le q] at h2; exact absurd h2.symm h1
theorem pfx_trans {a b c : Wd} (h1 : pfx a b = true) (h2 : pfx b c = true) : pfx a c = true := by
  have l1 := pfx_lt h1
  have l2 := pfx_lt h2
  obtain ⟨n1, e1⟩ := pfx_iff.mp h1
  obtain ⟨n2, e2⟩ := pfx_iff.mp h2
  refine pfx_iff.mpr ⟨fun e => by rw [e] at l1; omega, ?_⟩
  have : c.take a.length = (c.take b.length).take a.length := by rw [List.take_take]; congr 1; omega
  rw [this, e2, e1]
theorem pfx_total {a b c : Wd} (h1 : pfx a c = true) (h2 : pfx b c = true) (hne : a ≠ b) : pfx a b = true ∨ pfx b a = true := by
  obtain ⟨n1, e1⟩ := pfx_iff.mp h1
  obtain ⟨n2, e2⟩ := pfx_iff.mp h2
  rcases Nat.le_total a.length b.length with q | q
  · refine .inl (pfx_iff.mpr ⟨hne, ?_⟩)
    rw [← e2, List.take_take, Nat.min_eq_left q, e1]
  · refine .inr (pfx_iff.mpr ⟨hne.symm, ?_⟩)
    rw [← e1, List.take_take, Nat.min_eq_left q, e2]
theorem pre_mem {W : List Wd} {o k : Wd} : o ∈ pre W k ↔ o ∈ W ∧ pfx o k = true := by unfold pre; rw [List.mem_filter]
theorem pre_nd {W : List Wd} (h : W.Nodup) (k : Wd) : (pre W k).Nodup := h.sublist List.filter_sublist
theorem pre_self (W : List Wd) (k : Wd) : k ∉ pre W k := by rw [pre_mem, pfx_self]; simp
noncomputable def dep (W : List Wd) (k : Wd) : Nat := (pre W k).length
theorem nd_len : ∀ {l m : List Wd}, l.Nodup → (∀ x ∈ l, x ∈ m) → l.length ≤ m.length
  | [], m, _, _ => Nat.zero_le _
  | a :: l, m, nd, h => by
    rw [List.nodup_cons] at nd
    have ha := h a List.mem_cons_self
    have := nd_len (l := l) (m := m.erase a) nd.2 fun x hx => by
      have hne : x ≠ a := fun e => nd.1 (e ▸ hx)
      exact (List.mem_erase_of_ne hne).mpr (h x (List.mem_cons_of_mem _ hx))
    rw [List.length_erase_of_mem ha] at this
    have hp : 0 < m.length := List.length_pos_of_mem ha
    rw [List.length_cons]
    omega
theorem nd_len_lt {l m : List Wd} {a : Wd} (nd : l.Nodup) (h : ∀ x ∈ l, x ∈ m) (ha : a ∈ m) (hn : a ∉ l) : l.length < m.length := by
  have := nd_len (l := a :: l) (m := m) (List.nodup_cons.mpr ⟨hn, nd⟩) fun x hx => by
    rcases List.mem_cons.mp hx with rfl | hx
    · exact ha
    · exact h x hx
  rw [List.length_cons] at this
  exact this
theorem dep_lt {W : List Wd} (nd : W.Nodup) {k x : Wd} (h : k ∈ pre W x) : dep W k < dep W x := by
  obtain ⟨h1, h2⟩ := pre_mem.mp h
  refine nd_len_lt (pre_nd nd k) (fun y hy => ?_) h (pre_self W k)
  obtain ⟨h3, h4⟩ := pre_mem.mp hy
  exact pre_mem.mpr ⟨h3, pfx_trans h4 h2⟩
theorem dep_inj {W : List Wd} (nd : W.Nodup) {a b x : Wd} (ha : a ∈ pre W x) (hb : b ∈ pre W x) (h : dep W a = dep W b) : a = b := by
  by_cases e : a = b
  · exact e
  · obtain ⟨a1, a2⟩ := pre_mem.mp ha
    obtain ⟨b1, b2⟩ := pre_mem.mp hb
    rcases pfx_total a2 b2 e with q | q
    · have := dep_lt nd (pre_mem.mpr ⟨a1, q⟩); omega
    · have := dep_lt nd (pre_mem.mpr ⟨b1, q⟩); omega
theorem pigeon : ∀ (n : Nat) (l : List Nat), l.Nodup → l.length = n → (∀ x ∈ l, x < n) → ∀ t, t < n → t ∈ l
  | 0, _, _, _, _, t, h => by omega
  | n + 1, l, nd, hl, hb, t, ht => by
    by_cases hn : n ∈ l
    · by_cases e : t = n
      · rw [e]; exact hn
      · have := pigeon n (l.erase n) (nd.erase _) (by rw [List.length_erase_of_mem hn]; omega) (fun x hx => by
          have h1 := hb x (List.mem_of_mem_erase hx)
          have h2 : x ≠ n := fun q => by subst q; exact nd.not_mem_erase hx
          omega) t (by omega)
        exact List.mem_of_mem_erase this
    · exfalso
      -- all below n: too many
      have key : ∀ (m : Nat) (l : List Nat), l.Nodup → (∀ x ∈ l, x < m) → l.length ≤ m := by
        intro m
        induction m with
        | zero => intro l _ h; cases l with
          | nil => simp
          | cons a l => have := h a List.mem_cons_self; omega
        | succ m ih =>
          intro l nd h
          have := ih (l.erase m) (nd.erase _) fun x hx => by
            have h1 := h x (List.mem_of_mem_erase hx)
            have h2 : x ≠ m := fun q => by subst q; exact nd.not_mem_erase hx
            omega
          have h3 : l.length ≤ (l.erase m).length + 1 := by rw [List.length_erase]; split <;> omega
          omega
      have := key n l nd fun x hx => by
        have h1 := hb x hx
        have h2 : x ≠ n := fun q => hn (q ▸ hx)
        omega
      omega
theorem dep_some {W : List Wd} (nd : W.Nodup) {x : Wd} {t : Nat} (h : t < dep W x) : ∃ k ∈ pre W x, dep W k = t := by
  have := pigeon (dep W x) ((pre W x).map (dep W)) ?_ (by rw [List.length_map]; rfl) ?_ t h
  · obtain ⟨k, h1, h2⟩ := List.mem_map.mp this
    exact ⟨k, h1, h2⟩
  · have : ∀ l : List Wd, l.Nodup → (∀ a ∈ l, a ∈ pre W x) → (l.map (dep W)).Nodup := by
      intro l
      induction l with
      | nil => intro _ _; simp
      | cons a l ih =>
        intro nd' h'
        rw [List.nodup_cons] at nd'
        rw [List.map_cons, List.nodup_cons]
        refine ⟨fun hm => ?_, ih nd'.2 fun b hb => h' b (List.mem_cons_of_mem _ hb)⟩
        obtain ⟨b, hb, e⟩ := List.mem_map.mp hm
        have := dep_inj nd (h' b (List.mem_cons_of_mem _ hb)) (h' a List.mem_cons_self) e
        exact nd'.1 (this ▸ hb)
    exact this _ (pre_nd nd x) fun _ h => h
  · intro y hy
    obtain ⟨k, h1, rfl⟩ := List.mem_map.mp hy
    exact dep_lt nd h1
/-! ### building -/
noncomputable def wsB (W : List Wd) (Pd : List Wd) : List Wd := Pd.foldl (fun ws k => (pre W k).foldl addW (addW ws k)) []
noncomputable def npB (W Pd : List Wd) (x : Wd) : Int := if x ∈ Pd then ((dep W x : Nat) : Int) else 0
noncomputable def scB' (W Pd : List Wd) (x : Wd) : List Wd := Pd.filter fun q => decide (x ∈ pre W q)
noncomputable def buildG (W Pd : List Wd) : List Ag := Pd.foldl (fun g k => addG g k (pre W k)) []
theorem wsB_snoc (W Pd : List Wd) (k : Wd) : wsB W (Pd ++ [k]) = (pre W k).foldl addW (addW (wsB W Pd) k) := by unfold wsB; rw [List.foldl_append]; rfl
theorem wsB_mem {W : List Wd} : ∀ {Pd : List Wd} {x : Wd}, x ∈ wsB W Pd ↔ x ∈ Pd ∨ ∃ q ∈ Pd, x ∈ pre W q := by
  have : ∀ (Pd : List Wd) (n : Nat) (x : Wd), x ∈ wsB W (Pd.take n) ↔ x ∈ Pd.take n ∨ ∃ q ∈ Pd.take n, x ∈ pre W q := by
    intro Pd n
    induction n with
    | zero => intro x; simp [wsB]
    | succ n ih =>
      intro x
      rw [List.take_add_one]
      cases hq : Pd[n]? with
      | none => simpa using ih x
      | some k =>
        rw [Option.toList_some, wsB_snoc, addsW_mem, addW_mem, ih]
        simp only [List.mem_append, List.mem_singleton]
        constructor
        · rintro ((( h | ⟨q, h1, h2⟩) | h) | h)
          · exact .inl (.inl h)
          · exact .inr ⟨q, .inl h1, h2⟩
          · exact .inl (.inr h)
          · exact .inr ⟨k, .inr rfl, h⟩
        · rintro ((h | h) | ⟨q, (h1 | rfl), h2⟩)
          · exact .inl (.inl (.inl h))
          · exact .inl (.inr h)
          · exact .inl (.inl (.inr ⟨q, h1, h2⟩))
          · exact .inr h2
  intro Pd x
  have := this Pd Pd.length x
  rwa [List.take_length] at this
theorem wsB_nd (W : List Wd) (Pd : List Wd) : (wsB W Pd).Nodup := by
  have : ∀ (Pd ws : List Wd), ws.Nodup → (Pd.foldl (fun ws k => (pre W k).foldl addW (addW ws k)) ws).Nodup := by
    intro Pd
    induction Pd with
    | nil => intro ws h; exact h
    | cons k Pd ih => intro ws h; exact ih _ (addsW_nd (addW_nd h))
  exact this Pd [] (by simp)
theorem buildG_snoc (W Pd : List Wd) (k : Wd) : buildG W (Pd ++ [k]) = addG (buildG W Pd) k (pre W k) := by unfold buildG; rw [List.foldl_append]; rfl
theorem build_gr {W : List Wd} (nd : W.Nodup) : ∀ {Pd : List Wd}, Pd.Nodup → buildG W Pd = gr (wsB W Pd) (npB W Pd) (scB' W Pd) := by
  have : ∀ (Pd : List Wd) (n : Nat), Pd.Nodup → buildG W (Pd.take n) = gr (wsB W (Pd.take n)) (npB W (Pd.take n)) (scB' W (Pd.take n)) := by
    intro Pd n hn
    induction n with
    | zero => simp [buildG, wsB, gr]
    | succ n ih =>
      have ht : (Pd.take (n + 1)).Nodup := hn.sublist (List.take_sublist _ _)
      rw [List.take_add_one] at ht ⊢
      cases hq : Pd[n]? with
      | none => rw [Option.toList_none, List.append_nil]; exact ih
      | some k =>
        rw [hq, Option.toList_some] at ht
        have hk : k ∉ Pd.take n := fun h => by
          rw [List.nodup_append] at ht
          exact ht.2.2 k h k (by simp) rfl
        rw [Option.toList_some, buildG_snoc, ih, gr_addG _ (pre_nd nd k) (pre_self W k), ← wsB_snoc]
        · refine gr_congr fun x hx => ⟨?_, ?_⟩
          · unfold npB
            by_cases e : x = k
            · subst e
              rw [if_pos rfl, if_neg hk, if_pos (by simp)]
              unfold dep; omega
            · rw [if_neg e]
              by_cases h : x ∈ Pd.take n
              · rw [if_pos h, if_pos (by simp [h])]
              · rw [if_neg h, if_neg (by simp [h, e])]
          · unfold scB'
            rw [List.filter_append, List.filter_cons]
            by_cases h : x ∈ pre W k
            · rw [if_pos h, if_pos (by simpa using h)]; rfl
            · rw [if_neg h, if_neg (by simpa using h)]; simp
        · intro x hx
          rw [wsB_mem] at hx
          refine ⟨?_, ?_⟩
          · unfold npB; rw [if_neg fun h => hx (.inl h)]
          · unfold scB'
            rw [List.filter_eq_nil_iff]
            intro q h1 h2
            exact hx (.inr ⟨q, h1, by simpa using h2⟩)
  intro Pd h
  have := this Pd Pd.length h
  rwa [List.take_length] at this
/-- what prepare wants -/
theorem build_ok {W : List Wd} (nd : W.Nodup) {Pd : List Wd} (hp : Pd.Nodup) (hs : ∀ x ∈ Pd, x ∈ W) : ∀ a ∈ buildG W Pd, a.wd ∈ W ∧ ∀ u ∈ a.sc, u ∈ (buildG W Pd).map (·.wd) ∧ a.wd.length < u.length := by
  rw [build_gr nd hp, gr_words]
  intro a ha
  unfold gr at ha
  obtain ⟨x, hx, rfl⟩ := List.mem_map.mp ha
  refine ⟨?_, fun u hu => ?_⟩
  · rcases wsB_mem.mp hx with h | ⟨q, h1, h2⟩
    · exact hs x h
    · exact (pre_mem.mp h2).1
  · unfold scB' at hu
    obtain ⟨h1, h2⟩ := List.mem_filter.mp hu
    exact ⟨wsB_mem.mpr (.inl h1), pfx_lt (pre_mem.mp (by simpa using h2)).2⟩

end
section
/-! ## The rounds -/
theorem sub_fold {ws : List Wd} {sc : Wd → List Wd} : ∀ {us : List Wd} {np : Wd → Int} {r : List Wd}, us.Nodup → (∀ u ∈ us, u ∈ ws) →
    us.foldl sub1 (gr ws np sc, r) = (gr ws (fun x => if x ∈ us then np x - 1 else np x) sc, r ++ us.filter fun u => np u = 1)
  | [], np, r, _, _ => by simp
  | u :: us, np, r, nd, h => by
    rw [List.nodup_cons] at nd
    have hu := h u List.mem_cons_self
    have e : sub1 (gr ws np sc, r) u = (gr ws (fun x => if x = u then np x + -1 else np x) sc, if np u = 1 then r ++ [u] else r) := by
      unfold sub1
      dsimp only
      rw [gr_bump, gr_np hu, if_pos rfl]
      by_cases h1 : np u = 1
      · rw [if_pos (by omega), if_pos h1]
      · rw [if_neg (by omega), if_neg h1]
    rw [List.foldl_cons, e, sub_fold nd.2 fun v hv => h v (List.mem_cons_of_mem _ hv)]
    congr 1
    · refine gr_congr fun x hx => ⟨?_, rfl⟩
      by_cases e : x = u
      · subst e
        rw [if_neg nd.1, if_pos rfl, if_pos List.mem_cons_self]; omega
      · by_cases hx' : x ∈ us
        · rw [if_pos hx', if_neg e, if_pos (List.mem_cons_of_mem _ hx')]
        · rw [if_neg hx', if_neg e, if_neg (by simp [e, hx'])]
    · have e2 : (us.filter fun v => decide ((if v = u then np v + -1 else np v) = 1)) = us.filter fun v => decide (np v = 1) :=
        List.filter_congr fun v hv => by rw [if_neg fun e : v = u => nd.1 (e ▸ hv)]
      rw [e2, List.filter_cons]
      by_cases h1 : np u = 1
      · rw [if_pos h1, if_pos (by simpa using h1)]; simp
      · rw [if_neg h1, if_neg (by simpa using h1)]
theorem done1_gr {ws : List Wd} {sc : Wd → List Wd} {np : Wd → Int} {r : List Wd} {k : Wd} (hk : k ∈ ws) (nd : (sc k).Nodup) (h : ∀ u ∈ sc k, u ∈ ws) (hn : k ∉ sc k) :
    done1 (gr ws np sc, r) k = (gr ws (fun x => if x = k then -2 else if x ∈ sc k then np x - 1 else np x) sc, r ++ (sc k).filter fun u => np u = 1) := by
  unfold done1
  dsimp only
  rw [gr_sc hk, gr_set, sub_fold nd h]
  congr 1
  · refine gr_congr fun x hx => ⟨?_, rfl⟩
    by_cases e : x = k
    · subst e; rw [if_neg hn, if_pos rfl, if_pos rfl]
    · rw [if_neg e, if_neg e]
  · congr 1
    exact List.filter_congr fun v hv => by rw [if_neg fun e : v = k => hn (e ▸ hv)]
theorem done_fold {ws : List Wd} {sc : Wd → List Wd} : ∀ {ks : List Wd} {np : Wd → Int} {r : List Wd}, ks.Nodup → (∀ k ∈ ks, k ∈ ws ∧ (sc k).Nodup ∧ ∀ u ∈ sc k, u ∈ ws) → (∀ k ∈ ks, ∀ k' ∈ ks, k' ∉ sc k) → (∀ k ∈ ks, ∀ k' ∈ ks, ∀ u, u ∈ sc k → u ∈ sc k' → k = k') →
    ks.foldl done1 (gr ws np sc, r) = (gr ws (fun x => if x ∈ ks then -2 else if ∃ k ∈ ks, x ∈ sc k then np x - 1 else np x) sc, r ++ ks.flatMap fun k => (sc k).filter fun u => np u = 1)
  | [], np, r, _, _, _, _ => by simp
  | k :: ks, np, r, nd, h1, h2, h3 => by
    rw [List.nodup_cons] at nd
    obtain ⟨hk, hs, hu⟩ := h1 k List.mem_cons_self
    have hkk := h2 k List.mem_cons_self k List.mem_cons_self
    rw [List.foldl_cons, done1_gr hk hs hu hkk, done_fold nd.2 (fun q hq => h1 q (List.mem_cons_of_mem _ hq)) (fun q hq q' hq' => h2 q (List.mem_cons_of_mem _ hq) q' (List.mem_cons_of_mem _ hq')) fun q hq q' hq' => h3 q (List.mem_cons_of_mem _ hq) q' (List.mem_cons_of_mem _ hq')]
    congr 1
    · refine gr_congr fun x hx => ⟨?_, rfl⟩
      by_cases a : x ∈ ks
      · rw [if_pos a, if_pos (List.mem_cons_of_mem _ a)]
      · by_cases b : x = k
        · subst b
          rw [if_neg a, if_pos List.mem_cons_self, if_neg, if_pos rfl]
          rintro ⟨q, hq, hx'⟩
          exact h2 q (List.mem_cons_of_mem _ hq) x List.mem_cons_self hx'
        · rw [if_neg a, if_neg (show ¬ x ∈ k :: ks by simp [a, b])]
          by_cases c : ∃ q ∈ ks, x ∈ sc q
          · obtain ⟨q, hq, hx'⟩ := c
            rw [if_pos ⟨q, hq, hx'⟩, if_neg b, if_neg, if_pos ⟨q, List.mem_cons_of_mem _ hq, hx'⟩]
            intro hxk
            have := h3 k List.mem_cons_self q (List.mem_cons_of_mem _ hq) x hxk hx'
            exact nd.1 (this ▸ hq)
          · rw [if_neg c, if_neg b]
            by_cases d : x ∈ sc k
            · rw [if_pos d, if_pos ⟨k, List.mem_cons_self, d⟩]
            · rw [if_neg d, if_neg]
              rintro ⟨q, hq, hx'⟩
              rcases List.mem_cons.mp hq with rfl | hq
              · exact d hx'
              · exact c ⟨q, hq, hx'⟩
    · rw [List.flatMap_cons, List.append_assoc]
      congr 2
      have : ∀ l : List Wd, (∀ q ∈ l, q ∈ ks) → (l.flatMap fun q => (sc q).filter fun u => decide ((if u = k then (-2 : Int) else if u ∈ sc k then np u - 1 else np u) = 1)) = l.flatMap fun q => (sc q).filter fun u => decide (np u = 1) := by
        intro l
        induction l with
        | nil => intro _; rfl
        | cons q l ih =>
          intro hl
          have hq := hl q List.mem_cons_self
          rw [List.flatMap_cons, List.flatMap_cons, ih fun a ha => hl a (List.mem_cons_of_mem _ ha)]
          congr 1
          refine List.filter_congr fun u hu' => ?_
          rw [if_neg fun e : u = k => h2 q (List.mem_cons_of_mem _ hq) k List.mem_cons_self (e ▸ hu'), if_neg fun e : u ∈ sc k => nd.1 ((h3 k List.mem_cons_self q (List.mem_cons_of_mem _ hq) u e hu') ▸ hq)]
      exact this ks fun _ h => h
theorem set_fold {ws : List Wd} {sc : Wd → List Wd} {v : Int} : ∀ {r : List Wd} {np : Wd → Int}, r.foldl (fun g k => setG g k v) (gr ws np sc) = gr ws (fun x => if x ∈ r then v else np x) sc
  | [], np => by simp
  | k :: r, np => by
    rw [List.foldl_cons, gr_set, set_fold]
    refine gr_congr fun x hx => ⟨?_, rfl⟩
    by_cases a : x ∈ r
    · rw [if_pos a, if_pos (List.mem_cons_of_mem _ a)]
    · by_cases b : x = k
      · rw [if_neg a, if_pos b, if_pos (by simp [b])]
      · rw [if_neg a, if_neg b, if_neg (by simp [a, b])]
/-! ### round t -/
noncomputable abbrev wsW (W : List Wd) : List Wd := wsB W W.reverse
noncomputable abbrev scW (W : List Wd) : Wd → List Wd := scB' W W.reverse
noncomputable def npR (W : List Wd) (t : Nat) (x : Wd) : Int := if dep W x < t then -2 else (dep W x : Int) - t
noncomputable def grR (W : List Wd) (t : Nat) : List Ag := gr (wsW W) (npR W t) (scW W)
noncomputable def Rdy (W : List Wd) (t : Nat) (r : List Wd) : Prop := r.Nodup ∧ ∀ x, x ∈ r ↔ x ∈ W ∧ dep W x = t
theorem wsW_mem {W : List Wd} {x : Wd} : x ∈ wsW W ↔ x ∈ W := by
  rw [wsB_mem, List.mem_reverse]
  constructor
  · rintro (h | ⟨q, h1, h2⟩)
    · exact h
    · exact (pre_mem.mp h2).1
  · exact .inl
theorem scW_mem {W : List Wd} {k u : Wd} : u ∈ scW W k ↔ u ∈ W ∧ k ∈ pre W u := by
  unfold scW scB'
  rw [List.mem_filter, List.mem_reverse, decide_eq_true_eq]
theorem nd_rev {W : List Wd} (nd : W.Nodup) : W.reverse.Nodup := by
  exact (List.reverse_perm W).nodup_iff.mpr nd
theorem scW_nd {W : List Wd} (nd : W.Nodup) (k : Wd) : (scW W k).Nodup := (nd_rev nd).sublist List.filter_sublist
theorem build_start {W : List Wd} (nd : W.Nodup) : buildG W W.reverse = grR W 0 := by
  rw [build_gr nd (nd_rev nd)]
  unfold grR
  refine gr_congr fun x hx => ⟨?_, rfl⟩
  have := wsW_mem.mp hx
  unfold npB npR
  rw [if_pos (List.mem_reverse.mpr this), if_neg (by omega)]; omega
theorem ready_start {W : List Wd} (nd : W.Nodup) : Rdy W 0 (((grR W 0).filter fun a => a.np = 0).map (·.wd)) := by
  have e : ((grR W 0).filter fun a => a.np = 0).map (·.wd) = (wsW W).filter fun x => npR W 0 x = 0 := by
    unfold grR gr
    rw [List.filter_map, List.map_map]
    simp [Function.comp_def]
  rw [e]
  refine ⟨(wsB_nd W _).sublist List.filter_sublist, fun x => ?_⟩
  rw [List.mem_filter, wsW_mem]
  unfold npR
  rw [if_neg (by omega), decide_eq_true_eq]
  constructor <;> rintro ⟨h1, h2⟩ <;> exact ⟨h1, by omega⟩
section
variable {W : List Wd} {t : Nat} {r : List Wd}
theorem rdy_dep (hr : Rdy W t r) {k u : Wd} (hk : k ∈ r) (hu : u ∈ scW W k) (nd : W.Nodup) : t < dep W u := by
  have h1 := ((hr.2 k).mp hk).2
  have := dep_lt nd (scW_mem.mp hu).2
  omega
theorem rdy_facts (nd : W.Nodup) (hr : Rdy W t r) (l : List Wd) (hl : ∀ x ∈ l, x ∈ r) : (∀ k ∈ l, k ∈ wsW W ∧ (scW W k).Nodup ∧ ∀ u ∈ scW W k, u ∈ wsW W) ∧ (∀ k ∈ l, ∀ k' ∈ l, k' ∉ scW W k) ∧ (∀ k ∈ l, ∀ k' ∈ l, ∀ u, u ∈ scW W k → u ∈ scW W k' → k = k') := by
  refine ⟨fun k hk => ⟨wsW_mem.mpr ((hr.2 k).mp (hl k hk)).1, scW_nd nd k, fun u hu => wsW_mem.mpr (scW_mem.mp hu).1⟩, fun k hk k' hk' hm => ?_, fun k hk k' hk' u h1 h2 => ?_⟩
  · have := rdy_dep hr (hl k hk) hm nd
    have := ((hr.2 k').mp (hl k' hk')).2
    omega
  · exact dep_inj nd (scW_mem.mp h1).2 (scW_mem.mp h2).2 (((hr.2 k).mp (hl k hk)).2.trans ((hr.2 k').mp (hl k' hk')).2.symm)
noncomputable def npO (W : List Wd) (t : Nat) (r : List Wd) (x : Wd) : Int := if x ∈ r then -1 else npR W t x
theorem out_fold : r.foldl (fun g k => setG g k (-1)) (grR W t) = gr (wsW W) (npO W t r) (scW W) := by
  unfold grR; rw [set_fold]; rfl
theorem done_hok (nd : W.Nodup) (hr : Rdy W t r) : ∀ i k, r[i]? = some k → npAt ((r.take i).foldl done1 (gr (wsW W) (npO W t r) (scW W), [])).1 k = -1 := by
  intro i k hk
  have hkm : k ∈ r := List.mem_of_getElem? hk
  obtain ⟨f1, f2, f3⟩ := rdy_facts nd hr (r.take i) fun x hx => List.mem_of_mem_take hx
  rw [done_fold (hr.1.sublist (List.take_sublist _ _)) f1 f2 f3]
  dsimp only
  have hnk : k ∉ r.take i := fun hm => by
    have h1 : (r.take (i + 1)).Nodup := hr.1.sublist (List.take_sublist _ _)
    rw [List.take_add_one, hk, Option.toList_some, List.nodup_append] at h1
    exact h1.2.2 k hm k (by simp) rfl
  rw [gr_np (wsW_mem.mpr ((hr.2 k).mp hkm).1), if_neg hnk, if_neg]
  · unfold npO; rw [if_pos hkm]
  · rintro ⟨q, hq, h⟩
    have := rdy_dep hr (List.mem_of_mem_take hq) h nd
    have := ((hr.2 k).mp hkm).2
    omega
theorem done_round (nd : W.Nodup) (hr : Rdy W t r) : (r.foldl done1 (gr (wsW W) (npO W t r) (scW W), [])).1 = grR W (t + 1) ∧ Rdy W (t + 1) (r.foldl done1 (gr (wsW W) (npO W t r) (scW W), [])).2 := by
  obtain ⟨f1, f2, f3⟩ := rdy_facts nd hr r fun x hx => hx
  rw [done_fold hr.1 f1 f2 f3]
  dsimp only
  constructor
  · unfold grR
    refine gr_congr fun x hx => ⟨?_, rfl⟩
    have hxW := wsW_mem.mp hx
    by_cases a : x ∈ r
    · rw [if_pos a]
      have := ((hr.2 x).mp a).2
      unfold npR; rw [if_pos (by omega)]
    · rw [if_neg a]
      have hne : dep W x ≠ t := fun e => a ((hr.2 x).mpr ⟨hxW, e⟩)
      by_cases b : ∃ k ∈ r, x ∈ scW W k
      · obtain ⟨k, hk, hxk⟩ := b
        have := rdy_dep hr hk hxk nd
        rw [if_pos ⟨k, hk, hxk⟩]
        unfold npO npR
        rw [if_neg a, if_neg (by omega), if_neg (by omega)]; omega
      · rw [if_neg b]
        have hle : ¬ t < dep W x := fun hlt => by
          obtain ⟨k, hk, hkt⟩ := dep_some nd hlt
          exact b ⟨k, (hr.2 k).mpr ⟨(pre_mem.mp hk).1, hkt⟩, scW_mem.mpr ⟨hxW, hk⟩⟩
        unfold npO npR
        rw [if_neg a, if_pos (by omega), if_pos (by omega)]
  · rw [List.nil_append]
    constructor
    · rw [List.Nodup, List.pairwise_flatMap]
      refine ⟨fun k hk => (scW_nd nd k).sublist List.filter_sublist, ?_⟩
      refine hr.1.imp_of_mem fun {k k'} hk hk' hne x hx y hy e => ?_
      subst e
      exact hne (f3 k hk k' hk' x (List.mem_filter.mp hx).1 (List.mem_filter.mp hy).1)
    · intro x
      rw [List.mem_flatMap]
      constructor
      · rintro ⟨k, hk, hx⟩
        obtain ⟨h1, h2⟩ := List.mem_filter.mp hx
        have := rdy_dep hr hk h1 nd
        have hxr : x ∉ r := fun h => by have := ((hr.2 x).mp h).2; omega
        unfold npO npR at h2
        rw [if_neg hxr, if_neg (by omega), decide_eq_true_eq] at h2
        exact ⟨(scW_mem.mp h1).1, by omega⟩
      · rintro ⟨hx, hd⟩
        obtain ⟨k, hk, hkt⟩ := dep_some (t := t) nd (show t < dep W x by omega)
        refine ⟨k, (hr.2 k).mpr ⟨(pre_mem.mp hk).1, hkt⟩, List.mem_filter.mpr ⟨scW_mem.mpr ⟨hx, hk⟩, ?_⟩⟩
        have hxr : x ∉ r := fun h => by have := ((hr.2 x).mp h).2; omega
        unfold npO npR
        rw [if_neg hxr, if_neg (by omega), decide_eq_true_eq]; omega
end
theorem dep_bound {W : List Wd} (nd : W.Nodup) {x : Wd} (h : x ∈ W) : dep W x < W.length := nd_len_lt (pre_nd nd x) (fun y hy => (pre_mem.mp hy).1) h (pre_self W x)
theorem rdy_end {W : List Wd} (nd : W.Nodup) {r : List Wd} (hr : Rdy W W.length r) : r = [] := by
  cases r with
  | nil => rfl
  | cons x r =>
    have := (hr.2 x).mp List.mem_cons_self
    have := dep_bound nd this.1
    omega

end
section
/-! ## _law_sorter -/
theorem ord_self : ∀ a : Wd, ord a a = .eq
  | [] => rfl
  | x :: a => by
    show Builtin.Bytes.order (x :: a) (x :: a) = _
    unfold Builtin.Bytes.order
    rw [if_neg (UInt8.lt_irrefl x), if_neg (UInt8.lt_irrefl x)]; exact ord_self a
theorem ord_eq : ∀ {a b : Wd}, ord a b = .eq → a = b
  | [], [], _ => rfl
  | [], _ :: _, h => by cases h
  | _ :: _, [], h => by cases h
  | x :: a, y :: b, h => by
    change Builtin.Bytes.order (x :: a) (y :: b) = _ at h
    unfold Builtin.Bytes.order at h
    by_cases h1 : x < y
    · rw [if_pos h1] at h; cases h
    · rw [if_neg h1] at h
      by_cases h2 : x > y
      · rw [if_pos h2] at h; cases h
      · rw [if_neg h2] at h
        have e : x = y := UInt8.le_antisymm (UInt8.not_lt.mp h2) (UInt8.not_lt.mp h1)
        rw [e, ord_eq h]
namespace BO
theorem slot_ne : Slot "bytes" (cmpInfo .NotEq).2.1 "bytes.__ne__" :=
  .of (owner := "bytes") (n := "__ne__") (by rw [typeLookup_type, builtinLookup_eq_fast]; kernel_rfl) (by decide +kernel) (by decide +kernel) (by decide +kernel)
    (by first | exact .inl (by decide +kernel) | exact .inr (by decide +kernel)) (by rw [isSubtype_type]; kernel_rfl)
theorem entry_ne : entryFor table "bytes.__ne__" = some Builtin.«bytes.__ne__» := entryFor_of_tree (by kernel_rfl)
theorem args_ne (a b : Value) : argsOk "bytes.__ne__" ⟨[a, b], []⟩ := by unfold argsOk; kernel_rfl
theorem gives_ne (b c : Array UInt8) (t u : Tok) : Gives (Builtin.«bytes.__ne__» ⟨[.bytes b t, .bytes c u], []⟩) (.val (.bool (ord b.toList c.toList != .eq))) := by
  refine .of_wp fun M A E s Q hq => ?_
  show wpAny M A (isInstance (.bytes c u) (.type "bytes") >>= fun r => _) _ E s
  refine wpAny_bind (wpAny_isInstance (typeIs_bytes s c u) PySem.F.sub_bytes_bytes ?_)
  exact wpAny_pure ⟨_, rfl, hq⟩
end BO
section
variable {w : World} {mg mb : Str → Option Value} {prog : Program} {A : Around} {E : Value → Shared → Prop} {z s : Shared} {L L' : Led} {Q : Value → Shared → Prop} {a b : Wd} {t u : Tok} {pos p : Pos} {env : Env}
theorem w_ne (h : Q (.bool (a != b)) s) : wpAny (model prog w) A (compareOp .NotEq (.bytes a.toArray t) (.bytes b.toArray u)) Q E s := by
  refine compareOp_gives (op := .NotEq) (typeIs_bytes s _ t) (typeIs_bytes s _ u) BO.slot_ne BO.entry_ne (BO.args_ne _ _) (BO.gives_ne a.toArray b.toArray t u) (fun e => nomatch e) ?_
  have : (ord a b != .eq) = (a != b) := by
    by_cases e : a = b
    · subst e; rw [ord_self]; simp
    · have h1 : ord a b ≠ .eq := fun h => e (ord_eq h)
      rw [bne_iff_ne.mpr h1, bne_iff_ne.mpr e]
  show Q (.bool (ord a b != .eq)) s
  rw [this]; exact h
theorem l_rev {l sl : Addr} {xs : List Value} {value slice : Expr} {tk : Tok} (H : Stt z s L) (hm : (l, Lst xs) ∈ L) (hs1 : (sl, Slc .none .none (.int (-1) tk)) ∈ L) (hz : xs.length ≤ 16777216) (h : ∀ c s', Stt z s' ((c, Lst xs.reverse) :: L) → Q (.ref c) s')
    (hs : subscripted slice false (.ref l) (.ref sl) = operate [.ref l, .ref sl] (getItem (.ref l) (.ref sl)) := by with_unfolding_all rfl) (ht : ∀ r, letTemporaryGo value (.ref l) r = pure () := by intro _; with_unfolding_all rfl) :
    wpAny (model prog w) A (subscriptTail value slice (.ref l) (.ref sl)) Q E s := by
  refine tail_of_ItemOn (M := model prog w) ⟨"list", _, PySem.slot_list_getitem.lookup, (isList H hm).typeIs, wpAny_getItem_list_slice (prog := prog) (w := w) (isList H hm) (isSlice H hs1) .none .none (.int _ _) (by simp) ?_ (by simpa [sizeLine] using hz)⟩ hs ht
  have := h _ _ (H.alloc (t := s.toks) (P := Lst xs.reverse) (o := { cls := .type "list", data := .seq (slicePick xs.toArray none none (some (-1))) }) rfl ⟨_, by rw [krv_pick]⟩)
  exact this
end
/-! ### methods as values, star arguments -/
noncomputable def RetQ (Q : Value → Shared → Prop) (E : Value → Shared → Prop) : Result → Shared → Prop := fun r s' => match r with | .ok (.ret v) => Q v s' | .ok _ => False | .error e => E e s'
noncomputable def Mth (f self : Value) : Pr := fun o => o = methodObj f self
section
variable {w : World} {mg mb : Str → Option Value} {prog : Program} {A : Around} {E : Value → Shared → Prop} {z s : Shared} {L L' : Led} {Q : Value → Shared → Prop} {pos p : Pos} {env : Env} {x C dx f q : Addr} {sl : Array (Option Value)} {kv : List (Str × Value)} {name : Str} {self : Value}
theorem ga_bound {expr : Bool} (G : Gd w mg mb z.heap) (H : Stt z s L) (hx : (x, Ins C dx sl) ∈ L) (hdx : (dx, Atr kv) ∈ L) (hl : kv.lookup name = none)
    (hg : plainGet (hd.heap_1 w.params) C name = true) (hh : hasDictIn (hd.heap_1 w.params) C = true) (ha : findIn (hd.heap_1 w.params) (.ref C) name = some (some (.ref f))) (hf : isFn (hd.heap_1 w.params) (.ref f) = true)
    (hgf : specialIn (hd.heap_1 w.params) (.ref f) "__get__" = some (some (.builtin "function.__get__"))) (ht : takesIn (hd.heap_1 w.params) (.ref f) = some false) (hc : copiedNames.contains name = false)
    (h : ∀ q s', Stt z s' ((q, Mth (.ref f) (.ref x)) :: L) → Q (.ref q) s') : wpAny (model prog w) A (getAttr (.ref x) name expr) Q E s := by
  obtain ⟨es, n, h3, I⟩ := instAt H hx hdx
  have X := G.now H
  exact get_bind X I (plainGet_of hg).1 (findObj_fn hh ha hgf ht hc (by show lookIn name (dictOf es n) = _; rw [lookIn_dict, h3.get, hl])) (plainGet_of hg).2
    (wpAny_call (fn_get (s := { s with toks := s.toks + 1 }) X (beq_iff_eq.mp hf) (handed_on rfl (h _ _ (H.alloc (t := s.toks + 1) rfl rfl)))))
theorem MethodStar_ {o : Expr} {apos : Pos} {args : List Expr}
    (h : wpAny (model prog w) A (eval o env) (fun ov s₁ => wpAny (model prog w) A (getAttr ov name true) (fun f s₂ => wpAny (model prog w) A (callWith pos f [] (backTo pos (starEach args env)) []) Q E s₂) E s₁) E s)
    (he : eval (.Call (.Attribute o name apos) args [] pos) env = (do
      let ov ← eval o env
      standAt apos.atName
      let (f, first) ← holding [ov] (do pure (← getAttr ov name true, []))
      callWith pos f first (backTo pos (starEach args env)) []) := by rfl) :
    wpAny (model prog w) A (eval (.Call (.Attribute o name apos) args [] pos) env) Q E s := by
  rw [he]
  refine wpAny_bind (wpAny_mono h (fun ov s₁ h₁ => wpAny_bind (wpAny_standAt (wpAny_bind (wpAny_holding (wpAny_bind (wpAny_mono h₁ (fun fx s₂ h₂ => ?_) fun _ _ x => x)))))) fun _ _ x => x)
  exact wpAny_pure h₂
theorem mthP (G : Gd w mg mb z.heap) (H : Stt z s L) (hm : (q, Mth (.ref f) self) ∈ L) : MethP (hd.heap_1 w.params) q f self s.heap := by
  obtain ⟨o, ho, rfl⟩ := H.get hm
  exact ⟨ho, G.X.keeps H.keep⟩
theorem cw_star {e : Expr} {rest : List Expr} (self : Value) (G : Gd w mg mb z.heap) (hk : fnIn (hd.heap_1 w.params) f = true)
    (h : wpAny (model prog w) A (spliced (backTo pos (starEach (e :: rest) env))) (fun vs s₁ => ∃ L, Stt z s₁ L ∧ (q, Mth (.ref f) self) ∈ L ∧ codeAny (model prog w) A (.call (.ref f) ⟨self :: vs, []⟩) (RetQ Q E) s₁) E s)
    (he : starEach (e :: rest) env = (false, eval e env) :: starEach rest env := by rfl) (hst : (backTo pos (starEach rest env)).any (·.1) = true := by rfl) :
    wpAny (model prog w) A (callWith pos (.ref q) [] (backTo pos (starEach (e :: rest) env)) []) Q E s := by
  rw [he] at h ⊢
  refine ks_call (by show (false || (backTo pos (starEach rest env)).any (·.1)) = true; rw [hst]; rfl) (keeps_M (self := self) hk) (evalArgs_plain (wpAny_mono h (fun vs s₁ h₁ => ?_) fun _ _ e => e))
  obtain ⟨L, H, hm, hc⟩ := h₁
  have P := mthP G H hm
  exact ⟨P, wpAny_call (method_call P.1 hc)⟩
theorem cw_star1 {e : Expr} (self : Value) (G : Gd w mg mb z.heap) (hk : fnIn (hd.heap_1 w.params) f = true)
    (h : wpAny (model prog w) A (eval e env) (fun v s₁ => StarOf (model prog w) A E v (fun vs s₂ => ∃ L, Stt z s₂ L ∧ (q, Mth (.ref f) self) ∈ L ∧ codeAny (model prog w) A (.call (.ref f) ⟨self :: vs, []⟩) (RetQ Q E) s₂) s₁) E s)
    (he : starEach [.Starred e p] env = [(true, eval e env)] := by rfl) :
    wpAny (model prog w) A (callWith pos (.ref q) [] (backTo pos (starEach [.Starred e p] env)) []) Q E s := by
  rw [he]
  refine ks_call rfl (keeps_M (self := self) hk) (ks_lone (wpAny_mono h (fun v s₁ h₁ => ?_) fun _ _ e => e))
  unfold StarOf at h₁ ⊢
  refine wpAny_mono h₁ (fun b s₂ ⟨hb, h₂⟩ => ⟨hb, wpAny_mono h₂ (fun vs s₃ h₃ => ?_) fun _ _ e => e⟩) fun _ _ e => e
  obtain ⟨L, H, hm, hc⟩ := h₃
  have P := mthP G H hm
  exact ⟨P, wpAny_call (method_call P.1 hc)⟩
end
theorem WsAre.reverse {vs : List Value} {ks : List Wd} (h : WsAre vs ks) : WsAre vs.reverse ks.reverse := by
  induction h with
  | nil => exact .nil
  | cons k t _ ih =>
    rw [List.reverse_cons, List.reverse_cons]
    exact ih.append (.cons k t .nil)
theorem NIs.all {N : List Nd} {g : List Ag} (h : NIs N g) {P : Ag → Prop} (hp : ∀ a ∈ g, P a) : ∀ n ∈ N, ∃ a, n.wd = a.wd ∧ WsAre n.sc a.sc ∧ P a := by
  induction h with
  | nil => intro n hn; simp at hn
  | cons h1 h2 h3 _ ih =>
    intro n hn
    rcases List.mem_cons.mp hn with rfl | hn
    · exact ⟨_, h1, h3, hp _ List.mem_cons_self⟩
    · exact ih (fun a ha => hp a (List.mem_cons_of_mem _ ha)) n hn
theorem take_clip (b : Wd) (k : Nat) : (b.toArray.toList.drop (none.elim 0 (clipAt b.toArray.size))).take ((some (k : Int)).elim b.toArray.size (clipAt b.toArray.size) - none.elim 0 (clipAt b.toArray.size)) = b.take k := by
  simp only [Option.elim]
  have : clipAt b.toArray.size (k : Int) = min k b.length := by
    unfold clipAt
    rw [if_neg (by omega), List.size_toArray]
    omega
  rw [this]
  simp only [List.toList_toArray, List.drop_zero, Nat.sub_zero]
  rcases Nat.le_total k b.length with h | h
  · rw [Nat.min_eq_left h]
  · rw [Nat.min_eq_right h, List.take_of_length_le h, List.take_of_length_le (Nat.le_refl _)]

end
section
/-! ## _law_sorter: the walk -/
theorem build_len {W : List Wd} (nd : W.Nodup) {N : List Nd} {Pd : List Wd} (h : NIs N (buildG W Pd)) (hp : Pd.Nodup) (hs : ∀ x ∈ Pd, x ∈ W) : N.length ≤ W.length := by
  rw [h.length, build_gr nd hp]
  unfold gr
  rw [List.length_map]
  refine nd_len (wsB_nd W Pd) fun x hx => ?_
  rcases wsB_mem.mp hx with q | ⟨q, h1, h2⟩
  · exact hs x q
  · exact (pre_mem.mp h2).1
theorem build_sc {W : List Wd} (nd : W.Nodup) {Pd : List Wd} (hp : Pd.Nodup) : scB (buildG W Pd) Pd.length := by
  rw [build_gr nd hp]
  intro a ha
  unfold gr at ha
  obtain ⟨x, hx, rfl⟩ := List.mem_map.mp ha
  exact List.length_filter_le _ _
theorem s_law_sorter {w : World} {mg mb : Str → Option Value} {prog : Program} {A : Around} {z s : Shared} {L : Led} {R : Result → Shared → Prop} {outer : List Env} {l : Addr} {vs : List Value} {W : List Wd}
    (G : Gd w mg mb z.heap) (H : Stt z s L) (hA : A.depth ≤ 500) (hh : A.handled = none) (hfr : A.frames = some outer) (hF : FrOk outer L) (hm : (l, Lst vs) ∈ L) (hw : WsAre vs W) (nd : W.Nodup) (hz : W.length ≤ 20) (hz2 : ∀ x ∈ W, x.length ≤ 100)
    (h : ∀ S dS D Rd rs r t1 t2 N s', (D == sysModules) = false → NIs N (grR W 0) → WsAre rs r → Rdy W 0 r → Stt z s' (srtR prog w S dS D Rd rs 0 t1 0 t2 N L) → R (.ok (.ret (.ref S))) s') :
    codeAny (model prog w) A (.call (.ref 177) ⟨[.ref l], []⟩) R s := by
  refine call_fnC1 (ps := ["words"]) (rest := ["sorter"]) (names := ["words", "sorter"]) (vals := [some (.ref l), none]) (gs := ["TopologicalSorter"]) (cn := "word") G H (by k_is) (by k_is) (by show _ < 1000; omega) rfl rfl rfl rfl rfl (by decide) (fun _ => rfl) rfl (all_mem rfl) (all_mem rfl) rfl rfl rfl (by decide) ?_
  clear H
  intro env Lf cW s he hf H
  have hh2 : (A.deeper env).handled = none := hh
  have hlw := hw.length
  with_reducible refine wpAny_execs_cons ?_
  with_reducible refine wpAny_Assign_Name ?_ rfl
  with_reducible refine wpAny_Call_NameR ?_
  refine n_glob (by with_reducible assumption) (by with_reducible assumption) (by with_reducible assumption) (by walk_at "mem") (Gd.glob (by with_reducible assumption) (by k_is)) ?_
  refine cw_fn0 (by with_reducible assumption) (by with_reducible assumption) (by k_is) ?_
  rename_i H
  refine wpAny_call (mk_sorter G H (by show A.depth + 1 ≤ 800; omega) ?_)
  clear H
  intro S dS D t1 t2 s hDs H
  replace H : Stt z s ((Lf, _) :: (cW, _) :: srtL prog w S dS D .none 0 t1 0 t2 [] L) := toOut [_, _] (by exact H)
  show wpAny _ _ _ _ _ _
  (with_reducible rename Stt _ _ _ => hO); refine st_local hO (by with_reducible assumption) (by walk_at "upd") (by walk_at "put") ?_; intro _ _; clear hO
  with_reducible refine wpAny_execs_cons ?_
  refine wpAny_For ?_
  with_reducible refine Subscript_ ?_
  refine n_local (by with_reducible assumption) (by with_reducible assumption) (by walk_at "mem") (by walk_at "loc") ?_
  with_reducible refine x_Slice ?_
  with_reducible refine wpAny_evalPart_none ?_
  with_reducible refine wpAny_evalPart_none ?_
  with_reducible refine wpAny_evalPart_some ?_
  with_reducible refine UnaryOp_ ?_
  (with_reducible rename Stt _ _ _ => hO); with_reducible refine c_int hO ?_; intro _ _ _; clear hO
  refine i_neg (by assumption) ?_
  intro _ _ _
  (with_reducible rename Stt _ _ _ => hO); with_reducible refine al_slice hO ?_; intro _ _ _; clear hO
  rename_i H
  refine l_rev H ((by (repeat apply List.mem_cons_of_mem); exact List.mem_append_right _ hm)) (by walk_at "mem") (by omega) ?_
  clear H
  intro rv s H
  refine it_list H (by walk_at "mem") ?_
  clear H
  intro it s H
  replace H := H.out (.tail (.tail .head))
  have hwr := hw.reverse
  have ndr := nd_rev nd
  refine codeAny_forLoop (fun kk s => ∃ (i : Nat) (N : List Nd) (vw : Option Value), i + kk = W.length ∧ NIs N (buildG W (W.reverse.take i)) ∧
    Stt z s ((it, LIt rv i) :: (rv, Lst vs.reverse) :: (Lf, Fra ["words", "sorter"] [some (.ref l), some (.ref S)]) :: (cW, Cel vw) :: srtL prog w S dS D .none 0 t1 0 t2 N L)) ?_ W.length ⟨0, [], none, by omega, .nil, H⟩
  clear H
  intro kk s ⟨i, N, vw, hi, hg, H⟩
  have hpn : (W.reverse.take i).Nodup := ndr.sublist (List.take_sublist _ _)
  have hps : ∀ x ∈ W.reverse.take i, x ∈ W := fun x hx => List.mem_reverse.mp (List.mem_of_mem_take hx)
  by_cases hlt : i < W.length
  · obtain ⟨v, hv⟩ : ∃ v, vs.reverse[i]? = some v := ⟨_, List.getElem?_eq_getElem (by rw [List.length_reverse]; omega)⟩
    obtain ⟨k, tk, rfl, hk⟩ := hwr.get hv
    refine nx_list H .head (by walk_at "mem") hv ?_
    clear H
    intro s H
    dsimp only
    with_reducible refine wpAny_assign_Name ?_
    (with_reducible rename Stt _ _ _ => hO); refine st_cell hO (by with_reducible assumption) (by walk_at "mem") (by walk_at "upd") ?_; intro _ _; clear hO
    with_reducible refine wpAny_execs_cons ?_
    refine x_Expr (by with_reducible assumption) ?_ rfl
    refine MethodStar_ ?_
    refine n_local (by with_reducible assumption) (by with_reducible assumption) (by walk_at "mem") (by walk_at "loc") ?_
    rename_i H
    refine ga_bound G H (by walk_at "mem") (by walk_at "mem") rfl (by k_is) (by k_is) (by k_is) (by k_is) (by k_is) (by k_is) (by decide +kernel) ?_
    clear H
    intro q s H
    refine cw_star (f := 94) (.ref S) G (by k_is) ?_
    with_reducible refine spliced_more ?_ rfl
    refine n_cell (by with_reducible assumption) (by with_reducible assumption) (by walk_at "mem") (by walk_at "mem") ?_
    refine items_star ?_
    refine comp_list (z := z) (gs := ["len"]) (cs := [("word", cW)]) (closure_of [("word", cW)] (fun p hp => (he.cel p hp).2) rfl) (by decide) rfl (by decide) (compE he rfl (by decide) (all_mem rfl) (all_mem rfl) ?_) ?_
    · intro p hp; rw [List.mem_singleton] at hp; subst hp; exact ⟨List.mem_cons_self, rfl, by simp [List.lookup]⟩
    refine n_local (by with_reducible assumption) (by with_reducible assumption) (by walk_at "mem") (by walk_at "loc") ?_
    rename_i H
    refine it_list H ((by (repeat apply List.mem_cons_of_mem); exact List.mem_append_right _ hm)) ?_
    clear H
    intro it2 s H
    refine ⟨it2, _, _, vs, fun i ys => WsAre ys ((W.take i).filter fun o => pfx o k), rfl, H, itr_list hh2 ((by (repeat apply List.mem_cons_of_mem); exact List.mem_append_right _ hm)), by simp [sizeLine]; omega, by simpa using WsAre.nil, ?_, ?_⟩
    · clear H
      intro cenv C acc j v ys s he' hx hJ H
      obtain ⟨o, to, rfl, ho⟩ := hw.get hx
      have htk : W.take (j + 1) = W.take j ++ [o] := by rw [List.take_add_one, ho]; rfl
      refine tests_one ?_
      with_reducible refine isTrue_and ?_
      with_reducible refine wpAny_isTrue_Compare1 ?_ (by with_unfolding_all rfl)
      refine n_local (by with_reducible assumption) (by with_reducible assumption) (by walk_at "mem") (by walk_at "loc") ?_
      refine n_cell (by with_reducible assumption) (by with_reducible assumption) (by walk_at "mem") (by walk_at "mem") ?_
      refine w_ne ?_
      with_reducible refine wpAny_truthy_bool ?_
      by_cases hne : (o != k) = true
      · rw [if_pos hne]
        with_reducible refine isTrue_and ?_
        with_reducible refine wpAny_isTrue_Compare1 ?_ (by with_unfolding_all rfl)
        with_reducible refine Subscript_ ?_
        refine n_cell (by with_reducible assumption) (by with_reducible assumption) (by walk_at "mem") (by walk_at "mem") ?_
        with_reducible refine x_Slice ?_
        with_reducible refine wpAny_evalPart_none ?_
        with_reducible refine wpAny_evalPart_some ?_
        with_reducible refine wpAny_Call_NameR ?_
        refine n_built (by with_reducible assumption) (by with_reducible assumption) (by with_reducible assumption) (by walk_at "mem") (Gd.noglob (by with_reducible assumption) (by k_is)) (by boot_by_name) (by decide) ?_
        with_reducible refine callWith_builtin1 ?_ rfl rfl
        with_reducible refine spliced_more ?_ rfl
        refine n_local (by with_reducible assumption) (by with_reducible assumption) (by walk_at "mem") (by walk_at "loc") ?_
        with_reducible refine spliced_none ?_
        have hko : k.length ≤ 100 ∧ o.length ≤ 100 := ⟨hz2 k (List.mem_reverse.mp (List.mem_of_getElem? hk)), hz2 o (List.mem_of_getElem? ho)⟩
        refine b_len (by assumption) (by simp; omega) ?_
        intro _ _ _
        with_reducible refine wpAny_evalPart_none ?_
        (with_reducible rename Stt _ _ _ => hO); with_reducible refine al_slice hO ?_; intro _ _ _; clear hO
        refine b_slice (by assumption) (by walk_at "mem") .none (.int _ _) (by simp; omega) (r := k.take o.length) (by rw [take_clip]; simp) ?_
        intro _ _ _
        refine n_local (by with_reducible assumption) (by with_reducible assumption) (by walk_at "mem") (by walk_at "loc") ?_
        refine w_eq ?_
        with_reducible refine wpAny_truthy_bool ?_
        rename_i H
        by_cases he2 : (k.take o.length == o) = true
        · rw [if_pos he2]
          with_reducible refine isTrue_and_nil ?_
          refine ift ?_
          refine n_local (by with_reducible assumption) (by with_reducible assumption) (by walk_at "mem") (by walk_at "loc") ?_
          rename_i H
          refine ⟨H.drop1, ?_⟩
          show WsAre _ _
          rw [htk, List.filter_append, List.filter_cons, if_pos (by simp only [pfx, hne, he2, Bool.and_self])]
          exact hJ.append (.cons _ _ .nil)
        · rw [if_neg he2]
          refine iff' ?_
          rename_i H
          refine ⟨H.drop1, ?_⟩
          show WsAre _ _
          rw [htk, List.filter_append, List.filter_cons, if_neg (by simp only [pfx, hne, Bool.true_and]; exact he2)]
          simpa using hJ
      · rw [if_neg hne]
        rw [if_neg Bool.false_ne_true]
        rename_i H
        refine ⟨H, ?_⟩
        show WsAre _ _
        rw [htk, List.filter_append, List.filter_cons, if_neg (by simp [pfx]; intro h; exact absurd (by simpa using h) hne)]
        simpa using hJ
    · clear H
      intro acc ps s hJ H
      rw [show vs.length = W.length from hlw, List.take_length] at hJ
      refine star_list H (by walk_at "mem") (by have := hJ.length; have := List.length_filter_le (fun o => pfx o k) W; simp [sizeLine]; omega) ?_
      clear H
      intro s H
      with_reducible refine spliced_none ?_
      refine ⟨_, H, by walk_at "mem", ?_⟩
      dsimp only
      rw [List.append_nil]
      have hkW : k ∈ W := List.mem_reverse.mp (List.mem_of_getElem? hk)
      have hNl := build_len nd hg hpn hps
      have hpl : ps.length ≤ W.length := by rw [hJ.length]; exact List.length_filter_le _ _
      refine s_addm (ps := pre W k) G hDs (toIn (F := [_, _, _, _, _, _]) H) hg hJ (by show A.depth + 1 ≤ 600; omega) hh2 (by omega) (build_sc nd hpn) (by rw [List.length_take]; omega) ?_
      clear H
      intro N' s hg' H
      replace H : Stt z s ((acc, _) :: (q, _) :: (it, _) :: (rv, _) :: (Lf, _) :: (cW, _) :: srtL prog w S dS D .none 0 t1 0 t2 N' L) := toOut [_, _, _, _, _, _] H
      show RetQ _ _ _ _
      unfold RetQ
      dsimp only
      with_reducible refine wpAny_execs_nil ?_
      refine ⟨kk - 1, by omega, i + 1, N', _, by omega, ?_, H.drop1.drop1⟩
      rw [List.take_add_one, hk, Option.toList_some, buildG_snoc]
      exact hg'
  · refine nx_list_end hh2 H .head (by walk_at "mem") (List.getElem?_eq_none (by rw [List.length_reverse]; omega)) ?_
    clear H
    intro s H
    dsimp only
    with_reducible refine wpAny_execs_nil ?_
    with_reducible refine wpAny_execs_cons ?_
    refine x_Expr (by with_reducible assumption) ?_ rfl
    refine MethodCall_ ?_ rfl
    refine n_local (by with_reducible assumption) (by with_reducible assumption) (by walk_at "mem") (by walk_at "loc") ?_
    refine gm_inst (by with_reducible assumption) (by with_reducible assumption) (by walk_at "mem") (by walk_at "mem") rfl (by k_is) (by k_is) (by k_is) ?_
    refine cw_fn0 (by with_reducible assumption) (by with_reducible assumption) (by k_is) ?_
    rename_i H
    rw [List.take_of_length_le (by rw [List.length_reverse]; omega), build_start nd] at hg
    have hok := build_ok nd ndr fun x hx => List.mem_reverse.mp hx
    rw [build_start nd] at hok
    have hscB := build_sc nd ndr
    rw [build_start nd] at hscB
    have hwN := hg.words
    have hNl : N.length ≤ W.length := by
      refine build_len (Pd := W.reverse) nd ?_ ndr fun x hx => List.mem_reverse.mp hx
      rw [build_start nd]; exact hg
    refine wpAny_call (s_prepare (outer := env :: outer) G hDs (toIn (F := [_, _, _]) H) hg (by show A.depth + 1 ≤ 650; omega) hh2 (by show A.frames.map _ = _; rw [hfr]; rfl) ?_ (by omega) ?_ ?_ ?_)
    · intro p hp
      rcases List.mem_cons.mp hp with rfl | hp
      · exact ⟨(by rw [he.kind]; exact (fun x => nomatch x)), Lf, _, _, hf, List.mem_cons_of_mem _ List.mem_cons_self⟩
      · obtain ⟨a1, f, names, vals, a2, a3⟩ := hF p hp
        exact ⟨a1, f, names, vals, a2, by (repeat apply List.mem_cons_of_mem); exact a3⟩
    · intro n hn
      obtain ⟨a, h1, h2, h3⟩ := hg.all hscB n hn
      rw [h2.length]
      rw [List.length_reverse] at h3
      omega
    · intro n hn
      obtain ⟨a, h1, h2, h3⟩ := hg.all hok n hn
      refine ⟨a.sc, h2, fun u hu => ?_⟩
      rw [hwN, h1]
      exact h3.2 u hu
    · clear H
      intro Rd rs s hr H
      replace H : Stt z s ((rv, _) :: (Lf, _) :: (cW, _) :: srtR prog w S dS D Rd rs 0 t1 0 t2 N L) := toOutR [_, _, _] H
      show wpAny _ _ _ _ _ _
      with_reducible refine wpAny_execs_cons ?_
      with_reducible refine wpAny_Return_some ?_
      refine n_local (by with_reducible assumption) (by with_reducible assumption) (by walk_at "mem") (by walk_at "loc") ?_
      exact h S dS D Rd rs _ t1 t2 N _ hDs hg hr (ready_start nd) H.drop1.drop1.drop1

end
section
/-! ## Sorting words -/
noncomputable def nl (a : Wd) : List Nat := a.map UInt8.toNat
theorem nl_inj {a b : Wd} (h : nl a = nl b) : a = b := by
  unfold nl at h
  induction a generalizing b with
  | nil => cases b with
    | nil => rfl
    | cons y b => simp at h
  | cons x a ih => cases b with
    | nil => simp at h
    | cons y b =>
      rw [List.map_cons, List.map_cons, List.cons.injEq] at h
      rw [UInt8.toNat_inj.mp h.1, ih h.2]
theorem ord_nl : ∀ (a b : Wd), (ord a b == .lt) = decide (nl a < nl b) ∧ (ord a b == .gt) = decide (nl b < nl a)
  | [], [] => by constructor <;> rfl
  | [], y :: b => by constructor <;> rfl
  | x :: a, [] => by constructor <;> rfl
  | x :: a, y :: b => by
    have ih := ord_nl a b
    have e : ord (x :: a) (y :: b) = if x < y then .lt else if x > y then .gt else ord a b := by
      show Builtin.Bytes.order (x :: a) (y :: b) = _
      rw [Builtin.Bytes.order]
    rw [e]
    show _ = decide (x.toNat :: nl a < y.toNat :: nl b) ∧ _ = decide (y.toNat :: nl b < x.toNat :: nl a)
    have c1 : (x.toNat :: nl a < y.toNat :: nl b) ↔ x.toNat < y.toNat ∨ x.toNat = y.toNat ∧ nl a < nl b := List.cons_lt_cons_iff
    have c2 : (y.toNat :: nl b < x.toNat :: nl a) ↔ y.toNat < x.toNat ∨ y.toNat = x.toNat ∧ nl b < nl a := List.cons_lt_cons_iff
    rw [decide_eq_decide.mpr c1, decide_eq_decide.mpr c2]
    by_cases h1 : x < y
    · have := UInt8.lt_iff_toNat_lt.mp h1
      rw [if_pos h1]
      refine ⟨?_, ?_⟩
      · rw [decide_eq_true (.inl this)]; rfl
      · rw [decide_eq_false (by omega)]; rfl
    · rw [if_neg h1]
      by_cases h2 : x > y
      · have := UInt8.lt_iff_toNat_lt.mp h2
        rw [if_pos h2]
        refine ⟨?_, ?_⟩
        · rw [decide_eq_false (by omega)]; rfl
        · rw [decide_eq_true (.inl this)]; rfl
      · have h3 : x = y := UInt8.le_antisymm (UInt8.not_lt.mp h2) (UInt8.not_lt.mp h1)
        subst h3
        rw [if_neg h2, ih.1, ih.2]
        simp
noncomputable abbrev wle (a b : Wd) : Prop := ¬ nl b < nl a
theorem wle_antisymm {a b : Wd} (h1 : wle a b) (h2 : wle b a) : a = b := nl_inj (List.le_antisymm (List.not_lt.mp h1) (List.not_lt.mp h2))
theorem wlt_irrefl (a : Wd) : ¬ nl a < nl a := List.lt_irrefl _
theorem wlt_trans {a b c : Wd} (h1 : nl a < nl b) (h2 : nl b < nl c) : nl a < nl c := List.lt_trans h1 h2
theorem wlt_of_le {a b : Wd} (h1 : wle a b) (h2 : a ≠ b) : nl a < nl b := by
  by_cases h : nl a < nl b
  · exact h
  · exact absurd (wle_antisymm h1 h) h2
noncomputable abbrev wdKind : KeyKind where
  α := List Nat
  blt a b := decide (a < b)
  irrefl a := by simpa using List.lt_irrefl a
  trans a b c h1 h2 := by simp only [decide_eq_true_eq] at *; exact List.lt_trans h1 h2
  negTrans a b c h := by
    simp only [decide_eq_true_eq] at *
    by_cases hab : a < b
    · exact .inl hab
    · exact .inr (List.lt_of_le_of_lt (List.not_lt.mp hab) h)
  total a b h1 h2 := by simp only [decide_eq_false_iff_not] at *; exact List.le_antisymm (List.not_lt.mp h2) (List.not_lt.mp h1)
  keyOf v := match v with | .bytes x _ => some (nl x.toList) | _ => none
  dflt := []
theorem call_bytes_lt {prog : Program} {w : World} {A : Around} {E : Value → Shared → Prop} {s : Shared} {b c : Array UInt8} {t u : Tok} {Q : Value → Shared → Prop} (h : Q (.bool (decide (nl b.toList < nl c.toList))) s) :
    wpAny (model prog w) A (call (.builtin "bytes.__lt__") [.bytes b t, .bytes c u]) Q E s := by
  refine wpAny_call_entry BO.slot_lt (typeIs_bytes s b t) BO.entry_lt ?_ (BO.args_lt _ _)
  show wpAny _ _ (isInstance (.bytes c u) (.type "bytes") >>= fun r => _) _ _ s
  refine wpAny_bind (wpAny_isInstance (typeIs_bytes s c u) PySem.F.sub_bytes_bytes ?_)
  refine wpAny_pure ⟨_, rfl, ?_⟩
  rw [← (ord_nl b.toList c.toList).1] at h
  exact h
theorem wdKind_oneLt : wdKind.OneLt := by
  intro prog w A E s x y a b Q ha hb h
  cases x <;> simp only [wdKind, reduceCtorEq, Option.some.injEq] at ha
  cases y <;> simp only [wdKind, reduceCtorEq, Option.some.injEq] at hb
  cases ha; cases hb
  rw [oneLt'_eq]
  simp only [if_true]
  refine wpAny_bind (wpAny_cRoomFor_byValue rfl ?_)
  refine wpAny_bind (wpAny_callSpecialIfBound?_slot (typeIs_bytes s _ _) BO.slot_lt (call_bytes_lt ?_))
  exact wpAny_truthy_bool h
theorem mapM_firstW : ∀ {vs : List Value} {ks : List Wd}, WsAre vs ks → vs.mapM firstOfTuple' = pure (vs.map fun _ => none)
  | _, _, .nil => rfl
  | _, _, .cons k t h => by
    rw [List.mapM_cons, mapM_firstW h]
    rfl
theorem mapM_typeW : ∀ {vs : List Value} {ks : List Wd}, WsAre vs ks → vs.mapM typeOf = pure (vs.map fun _ => Value.type "bytes")
  | _, _, .nil => rfl
  | _, _, .cons k t h => by
    rw [List.mapM_cons, mapM_typeW h]
    rfl
theorem keyKindW {v₁ v₂ : Value} {vs : List Value} {ks : List Wd} (h : WsAre (v₁ :: v₂ :: vs) ks) : keyKind' (v₁ :: v₂ :: vs).toArray = pure oneType' := by
  rw [keyKind'_eq, List.mapM_toArray, mapM_firstW h]
  simp only [map_pure, pure_bind]
  rw [if_neg (by simp), if_neg (by simp)]
  rw [oneTypeOnly'_eq, List.mapM_toArray, mapM_typeW h]
  simp only [map_pure, pure_bind]
  have hall : ((List.map (fun _ => Value.type "bytes") (v₁ :: v₂ :: vs)).toArray.all fun x => x == Value.type "bytes") = true := by simp
  have h0 : (List.map (fun _ => Value.type "bytes") (v₁ :: v₂ :: vs)).toArray[0]? = some (Value.type "bytes") := by simp
  rw [h0]
  simp only [hall, if_true]
  rfl
theorem WsAre.mem {vs : List Value} {ks : List Wd} (h : WsAre vs ks) {v : Value} (hv : v ∈ vs) : ∃ (k : Wd) (t : Tok), v = .bytes k.toArray t := by
  induction h with
  | nil => simp at hv
  | cons k t _ ih =>
    rcases List.mem_cons.mp hv with rfl | hv
    · exact ⟨k, t, rfl⟩
    · exact ih hv
noncomputable def wof (v : Value) : Wd := match v with | .bytes b _ => b.toList | _ => []
theorem WsAre.eq {vs : List Value} {ks : List Wd} (h : WsAre vs ks) : ks = vs.map wof := by
  induction h with
  | nil => rfl
  | cons k t _ ih => rw [List.map_cons, ← ih]; simp [wof]
theorem WsAre.of_all : ∀ {vs : List Value}, (∀ v ∈ vs, ∃ (k : Wd) (t : Tok), v = .bytes k.toArray t) → WsAre vs (vs.map wof)
  | [], _ => .nil
  | v :: vs, h => by
    obtain ⟨k, t, rfl⟩ := h v List.mem_cons_self
    have e : wof (.bytes k.toArray t) = k := by simp [wof]
    rw [List.map_cons, e]
    exact .cons k t (WsAre.of_all fun u hu => h u (List.mem_cons_of_mem _ hu))
theorem sorted_outW {vs : List Value} {ks : List Wd} (hw : WsAre vs ks) {xs : Array Keyed} (hp : xs.Perm (pairsOf vs)) (hs : SortedToK wdKind xs (pairsOf vs).size) :
    WsAre (xs.map (·.2)).toList ((xs.map (·.2)).toList.map wof) ∧ ((xs.map (·.2)).toList.map wof).Perm ks ∧ ((xs.map (·.2)).toList.map wof).Pairwise wle := by
  have hpl := hp.toList
  have hpairs : ∀ p ∈ xs.toList, p.1 = p.2 ∧ p.2 ∈ vs := fun p hp' => by
    have := hpl.mem_iff.mp hp'
    simp [pairsOf] at this
    obtain ⟨h1, h2⟩ := List.of_mem_zip (a := p.1) (b := p.2) this
    have h3 : ∀ (l : List Value) (q : Value × Value), q ∈ l.zip l → q.1 = q.2 := by
      intro l
      induction l with
      | nil => intro q hq; simp at hq
      | cons a l ih =>
        intro q hq
        rw [List.zip_cons_cons] at hq
        rcases List.mem_cons.mp hq with rfl | hq
        · rfl
        · exact ih q hq
    exact ⟨h3 vs p this, h2⟩
  have hperm : ((xs.map (·.2)).toList).Perm vs := by
    rw [Array.toList_map]
    have := hpl.map (·.2)
    refine this.trans ?_
    simp only [pairsOf]
    have e : ∀ l : List Value, (l.zip l).map (·.2) = l := by
      intro l; induction l with
      | nil => rfl
      | cons a l ih => rw [List.zip_cons_cons, List.map_cons, ih]
    rw [show (vs.toArray.zip vs.toArray).toList = vs.zip vs by simp, e]
  refine ⟨WsAre.of_all fun v hv => hw.mem (hperm.mem_iff.mp hv), ?_, ?_⟩
  · rw [hw.eq]; exact hperm.map wof
  · rw [List.pairwise_iff_getElem]
    intro i j hi hj hij
    simp only [List.length_map, Array.length_toList, Array.size_map] at hi hj
    have hk : ∀ i (hi : i < xs.size), KK wdKind xs i = nl (wof xs[i].2) := fun i hi => by
      unfold KK
      rw [Array.getElem?_eq_getElem hi]
      obtain ⟨e1, e2⟩ := hpairs xs[i] (by simp)
      obtain ⟨k, t, e3⟩ := hw.mem e2
      dsimp only
      rw [e1, e3]
      simp [wof]
    have hsz : (pairsOf vs).size = xs.size := hp.size_eq.symm
    have := hs i j (Nat.le_of_lt hij) (by omega)
    rw [hk i hi, hk j hj] at this
    unfold KeyOrd.kle at this
    simpa using this
section
variable {w : World} {prog : Program} {A : Around} {E : Value → Shared → Prop} {z s : Shared} {L L' : Led} {Q : Value → Shared → Prop} {l : Addr} {vs : List Value} {ks : List Wd}
theorem srt_col {v : Value} (H : Stt z s L) (hcol : ∀ {A : Around} {Q : List Value → Shared → Prop} {E : Value → Shared → Prop}, (∀ s', Stt z s' L → Q vs s') → wpAny (model prog w) A (collect v) Q E s) (hw : WsAre vs ks) (hz : vs.length < 64)
    (h : ∀ c out ks' s', WsAre out ks' → ks'.Perm ks → ks'.Pairwise wle → Stt z s' ((c, Lst out) :: L) → Q (.ref c) s') : wpAny (model prog w) A (call (.builtin "sorted") [v]) Q E s := by
  refine Calls.call_function_entry kind_sorted plain_sorted entry_sorted (args_sorted1 _) ?_
  unfold Builtin.«sorted»
  refine wpAny_bind (m := checkCount "sorted" 1 1 _) (wpAny_pure ?_)
  refine wpAny_bind (hcol fun s₁ H₁ => ?_)
  refine wpAny_bind (wpAny_newList ?_ (by simp [sizeLine]; omega))
  have H₂ := H₁.alloc (t := s₁.toks) (P := fun o => o = seqObj "list" vs.toArray 0) (o := seqObj "list" vs.toArray 0) rfl rfl
  have ho : (s₁.heap.push (seqObj "list" vs.toArray 0)).get? s₁.heap.objs.size = some (seqObj "list" vs.toArray 0) := Heap.get?_push_size _ rfl
  show wpAny _ _ _ _ _ { s₁ with heap := s₁.heap.push (seqObj "list" vs.toArray 0) }
  refine wpAny_bind (wpAny_holding (wpAny_call_entry slot_list_sort ⟨_, ho, rfl⟩ entry_list_sort (list_sort_treeK wdKind_oneLt ho ?_ ?_ hz fun st' a1 a2 => ⟨_, rfl, ?_⟩) (args_list_sort _)))
  · intro p hp
    simp [pairsOf] at hp
    obtain ⟨h1, h2⟩ := List.of_mem_zip (a := p.1) (b := p.2) hp
    obtain ⟨k, t, e⟩ := hw.mem h1
    exact ⟨nl k, by rw [e]⟩
  · intro v₁ v₂ rest e
    rw [e] at hw
    exact keyKindW hw
  · obtain ⟨b1, b2, b3⟩ := sorted_outW hw a1 a2
    obtain ⟨e, he⟩ := sortedHeap_at (out := (arrOf st').map (·.2)) ho
    refine wpAny_pure ⟨_, rfl, h s₁.heap.objs.size ((arrOf st').map (·.2)).toList _ _ b1 b2 b3 ?_⟩
    refine H₁.cons (o := seqObj "list" ((arrOf st').map (·.2)) e) (fun b o e => ?_) rfl rfl (Heap.get?_none_of_le (Nat.le_refl _)) he ⟨e, by unfold seqObj; rw [Array.toArray_toList]⟩
    have hlt := Heap.lt_size e
    rw [sortedHeap_old (Nat.ne_of_lt hlt) (by rw [size_push']; exact Nat.lt_succ_of_lt hlt)]
    exact Heap.get?_push_of_some _ e
theorem srt_list (H : Stt z s L) (hm : (l, Lst vs) ∈ L) (hw : WsAre vs ks) (hz : vs.length < 64)
    (h : ∀ c out ks' s', WsAre out ks' → ks'.Perm ks → ks'.Pairwise wle → Stt z s' ((c, Lst out) :: L) → Q (.ref c) s') : wpAny (model prog w) A (call (.builtin "sorted") [.ref l]) Q E s := by
  refine srt_col H (fun {A Q E} hq => ?_) hw hz h
  obtain ⟨o, e, n, rfl⟩ := H.get hm
  exact wpAny_collect_seq l (.inl rfl) e rfl rfl (fun h' hk => by have := hq _ (H.ext (s' := { s with heap := h' }) hk rfl rfl); simpa using this) (by simp [sizeLine]; omega)
theorem srt_tup (H : Stt z s L) (hm : (l, Tup vs) ∈ L) (hw : WsAre vs ks) (hz : vs.length < 64)
    (h : ∀ c out ks' s', WsAre out ks' → ks'.Perm ks → ks'.Pairwise wle → Stt z s' ((c, Lst out) :: L) → Q (.ref c) s') : wpAny (model prog w) A (call (.builtin "sorted") [.ref l]) Q E s := by
  refine srt_col H (fun {A Q E} hq => ?_) hw hz h
  obtain ⟨o, e, n, rfl⟩ := H.get hm
  exact wpAny_collect_seq l (.inr rfl) e rfl rfl (fun h' hk => by have := hq _ (H.ext (s' := { s with heap := h' }) hk rfl rfl); simpa using this) (by simp [sizeLine]; omega)
end

end
section
/-! ## Ranges, tuples, comparisons of lists, max, two clauses -/
noncomputable def Rng (n : Int) : Pr := fun o => ∃ t u v, o = { cls := .type "range", data := .fields #[.int 0 t, .int n u, .int 1 v] }
noncomputable def RIt (n i : Nat) : Pr := fun o => o = { cls := .type "range_iterator", data := .fields #[rawInt (i : Int), rawInt ((n : Int) - (i : Int)), rawInt 1] }
section
variable {w : World} {prog : Program} {A : Around} {E : Value → Shared → Prop} {z s : Shared} {L L' : Led} {a b c l : Addr} {n i : Nat} {xs ys : List Value} {ks : List Wd}
theorem itr_tup {it : Addr} (hh : A.handled = none) (hm : (l, Tup xs) ∈ L) : Itr prog w A z L it (TIt l) xs where
  next H hx h := nx_tup H (.tail (.tail .head)) (List.mem_cons_of_mem _ (List.mem_cons_of_mem _ (List.mem_cons_of_mem _ hm))) hx h
  done H h := nx_tup_end hh H (.tail (.tail .head)) (List.mem_cons_of_mem _ (List.mem_cons_of_mem _ (List.mem_cons_of_mem _ hm))) (by simp) h
  self H h := by
    obtain ⟨o, h1, h2⟩ := H.get (List.mem_cons_of_mem _ (List.mem_cons_of_mem _ List.mem_cons_self))
    exact wpAny_pyIter_tupleiter ⟨o, h1, h2⟩ h
theorem c_range {n : Int} {t : Tok} {Q : Value → Shared → Prop} (H : Stt z s L) (h : ∀ c s', Stt z s' ((c, Rng n) :: L) → Q (.ref c) s') : wpAny (model prog w) A (call (.type "range") [.int n t]) Q E s :=
  call_range_1 (h _ _ (H.alloc (t := s.toks + 1 + 1) rfl ⟨_, _, _, rfl⟩))
theorem it_range {Q : Value → Shared → Prop} (H : Stt z s L) (hm : (a, Rng (n : Int)) ∈ L) (hn : n ≤ 1000000) (h : ∀ c s', Stt z s' ((c, RIt n 0) :: L) → Q (.ref c) s') : wpAny (model prog w) A (pyIter (.ref a)) Q E s := by
  obtain ⟨o, e, t, u, v, rfl⟩ := H.get hm
  refine wpAny_pyIter_range e (small_one (by decide) (by decide) (by omega) (by omega)) (h _ _ (H.alloc (t := s.toks) rfl ?_))
  unfold RIt
  have : Builtin.Range.rangeSize 0 (n : Int) 1 = (n : Int) - ((0 : Nat) : Int) := by rw [rangeSize_one]; split <;> omega
  rw [this]; rfl
theorem nx_range {Q : Option Value → Shared → Prop} (H : Stt z s L) (U : Upd L a (RIt n i) (RIt n (i + 1)) L') (hi : i < n) (h : ∀ s' t, Stt z s' L' → Q (some (.int (i : Int) t)) s') : wpAny (model prog w) A (pyNext (.ref a)) Q E s := by
  obtain ⟨o, e, rfl⟩ := H.get U.mem
  refine wpAny_pyNext_range_item e (by omega) fun h' hp hs => h _ _ (H.upd U hs ⟨_, hp, ?_⟩)
  unfold RIt
  have e1 : ((i + 1 : Nat) : Int) = (i : Int) + 1 := by omega
  have e2 : (n : Int) - ((i : Int) + 1) = (n : Int) - (i : Int) - 1 := by omega
  rw [e1, e2]
theorem nx_range_end {Q : Option Value → Shared → Prop} (hh : A.handled = none) (H : Stt z s L) (U : Out L a (RIt n i) L') (hi : n ≤ i) (h : ∀ s', Stt z s' L' → Q none s') : wpAny (model prog w) A (pyNext (.ref a)) Q E s := by
  obtain ⟨o, e, rfl⟩ := H.get U.mem
  refine wpAny_pyNext_range_end hh e (by omega) fun h' hx' => h _ ?_
  have := H.extBut U.mem hx'
  rw [U.ne H.nd] at this
  exact this
theorem it_rself {Q : Value → Shared → Prop} (H : Stt z s L) (hm : (a, RIt n i) ∈ L) (h : Q (.ref a) s) : wpAny (model prog w) A (pyIter (.ref a)) Q E s := by
  obtain ⟨o, e, rfl⟩ := H.get hm
  exact wpAny_pyIter_rangeiter e h
/-! ### equal lists -/
open PySem.SeqAt in
theorem eq_bytes_at (k : Wd) (t u : Tok) : EqAt A s (.bytes k.toArray t) (.bytes k.toArray u) true := fun prog w E Q h => by
  unfold eqBool
  refine wpAny_holding ?_
  refine wpAny_ite_split (fun _ => ?_) (fun _ => ?_)
  · exact wpAny_bind (wpAny_rule (wpAny_pure h))
  · refine wpAny_bind ?_
    exact w_eq (prog := prog) (w := w) (by rw [beq_self_eq_true]; exact wpAny_truthy_bool h)
open PySem.SeqAt in
theorem ws_at (hx : WsAre xs ks) (hy : WsAre ys ks) : ∀ j (h1 : j < xs.toArray.size) (h2 : j < ys.toArray.size), EqAt A s xs.toArray[j] ys.toArray[j] ((fun _ => true) j) := fun j h1 h2 => by
  obtain ⟨k, t, e1, e2⟩ := hx.get (i := j) (List.getElem?_eq_getElem (by simpa using h1))
  obtain ⟨k', t', e3, e4⟩ := hy.get (i := j) (List.getElem?_eq_getElem (by simpa using h2))
  rw [e2] at e4
  cases e4
  simp only [List.getElem_toArray]
  rw [e1, e3]
  exact eq_bytes_at k t t'
theorem ws_size (hx : WsAre xs ks) (hy : WsAre ys ks) : xs.toArray.size = ys.toArray.size := by simp [hx.length, hy.length]
theorem l_neq {Q : Value → Shared → Prop} (H : Stt z s L) (h1 : (a, Lst xs) ∈ L) (h2 : (b, Lst ys) ∈ L) (hx : WsAre xs ks) (hy : WsAre ys ks) (hu : A.units < 9000) (h : Q (.bool false) s) : wpAny (model prog w) A (compareOp .NotEq (.ref a) (.ref b)) Q E s := by
  refine PySem.SeqAt.RcNeAt.lists (e := fun _ => true) (isList H h1) (isList H h2) (ws_size hx hy) (by unfold cLine; omega) (ws_at hx hy) prog w E Q ?_
  rw [show (List.range xs.toArray.size).all (fun _ => true) = true by simp]; exact h
open PySem.SeqAt in
theorem eq_lists_at (H : Stt z s L) (h1 : (a, Lst xs) ∈ L) (h2 : (b, Lst ys) ∈ L) (hx : WsAre xs ks) (hy : WsAre ys ks) (hu : A.units < 9000) : EqAt A s (.ref a) (.ref b) true := by
  by_cases e : a = b
  · subst e; exact EqAt.same _
  · have := RcAt.lists (A := A) (e := fun _ => true) (isList H h1) (isList H h2) (ws_size hx hy) (by unfold cLine; omega) (ws_at hx hy)
    rw [show (List.range xs.toArray.size).all (fun _ => true) = true by simp] at this
    exact EqAt.of_refs e this
open PySem.SeqAt in
theorem eq_tup_at {m u m' u' : Value} (H : Stt z s L) (h1 : (a, Tup [m, u]) ∈ L) (h2 : (b, Tup [m', u']) ∈ L) (e1 : EqAt A.in1 s m m' true) (e2 : EqAt A.in1 s u u' true) (hu : A.units < 9000) : EqAt A s (.ref a) (.ref b) true := by
  by_cases e : a = b
  · subst e; exact EqAt.same _
  · refine EqAt.of_refs e (RcAt.tuples (A := A) (e := fun _ => true) (isTuple H h1) (isTuple H h2) (by unfold cLine; omega) fun j q1 q2 => ?_)
    match j, q1, q2 with
    | 0, _, _ => exact e1
    | 1, _, _ => exact e2
    | j + 2, q1, _ => simp at q1; omega
theorem l_neq2 {p q p' q' : Addr} {m1 u1 m2 u2 m3 u3 m4 u4 : Value} {Q : Value → Shared → Prop} (H : Stt z s L) (h1 : (a, Lst [.ref p, .ref q]) ∈ L) (h2 : (b, Lst [.ref p', .ref q']) ∈ L)
    (h3 : (p, Tup [m1, u1]) ∈ L) (h4 : (p', Tup [m2, u2]) ∈ L) (h5 : (q, Tup [m3, u3]) ∈ L) (h6 : (q', Tup [m4, u4]) ∈ L)
    (e1 : PySem.SeqAt.EqAt A.in1.in1 s m1 m2 true) (e2 : PySem.SeqAt.EqAt A.in1.in1 s u1 u2 true) (e3 : PySem.SeqAt.EqAt A.in1.in1 s m3 m4 true) (e4 : PySem.SeqAt.EqAt A.in1.in1 s u3 u4 true) (hu : A.units < 8000) (h : Q (.bool false) s) :
    wpAny (model prog w) A (compareOp .NotEq (.ref a) (.ref b)) Q E s := by
  refine PySem.SeqAt.RcNeAt.lists (e := fun _ => true) (isList H h1) (isList H h2) rfl (by unfold cLine; omega) (fun j q1 q2 => ?_) prog w E Q ?_
  · match j, q1, q2 with
    | 0, _, _ => exact eq_tup_at H h3 h4 e1 e2 (by simp; omega)
    | 1, _, _ => exact eq_tup_at H h5 h6 e3 e4 (by simp; omega)
    | j + 2, q1, _ => simp at q1; omega
  · exact h
/-! ### max -/
noncomputable def btW (ks : List Wd) (i j : Nat) : Bool := decide (nl (ks.getD j []) < nl (ks.getD i []))
theorem argBest_spec {ks : List Wd} (bt : Nat → Nat → Bool) (hb : ∀ i j (hi : i < ks.length) (hj : j < ks.length), bt i j = decide (nl ks[j] < nl ks[i])) : ∀ k (hk : k < ks.length), ∃ (h : argBest bt k < ks.length), ∀ j (hj : j < ks.length), j ≤ k → wle ks[j] ks[argBest bt k]
  | 0, hk => ⟨hk, fun j hj hjk => by
      have : j = 0 := by omega
      subst this
      exact wlt_irrefl _⟩
  | k + 1, hk => by
    obtain ⟨h1, h2⟩ := argBest_spec bt hb k (by omega)
    have hbk := hb (k + 1) (argBest bt k) hk h1
    by_cases hlt : nl ks[argBest bt k] < nl ks[k + 1]
    · have e : argBest bt (k + 1) = k + 1 := by
        show (if bt (k + 1) (argBest bt k) = true then k + 1 else argBest bt k) = k + 1
        rw [if_pos (by rw [hbk]; simpa using hlt)]
      have e2 : ∀ (m : Nat) (hm : m < ks.length), m = k + 1 → (∀ j (hj : j < ks.length), j ≤ k + 1 → wle ks[j] ks[m]) := by
        rintro m hm rfl j hj hjk
        by_cases hj2 : j = k + 1
        · subst hj2; exact wlt_irrefl _
        · have h3 := h2 j hj (by omega)
          intro h4
          exact h3 (wlt_trans hlt h4)
      exact ⟨by rw [e]; exact hk, e2 _ (by rw [e]; exact hk) e⟩
    · have e : argBest bt (k + 1) = argBest bt k := by
        show (if bt (k + 1) (argBest bt k) = true then k + 1 else argBest bt k) = _
        rw [if_neg (by rw [hbk]; simpa using hlt)]
      have e2 : ∀ (m : Nat) (hm : m < ks.length), m = argBest bt k → (∀ j (hj : j < ks.length), j ≤ k + 1 → wle ks[j] ks[m]) := by
        rintro m hm rfl j hj hjk
        by_cases hj2 : j = k + 1
        · subst hj2; exact hlt
        · exact h2 j hj (by omega)
      exact ⟨by rw [e]; exact h1, e2 _ (by rw [e]; exact h1) e⟩
theorem l_max {Q : Value → Shared → Prop} (hh : A.handled = none) (H : Stt z s L) (hm : (l, Lst xs) ∈ L) (hw : WsAre xs ks) (hne : 0 < ks.length)
    (h : ∀ m t s', m ∈ ks → (∀ k ∈ ks, wle k m) → Stt z s' L → Q (.bytes m.toArray t) s') : wpAny (model prog w) A (call (.builtin "max") [.ref l]) Q E s := by
  have hlen := hw.length
  refine call_max_walk (it_list H hm fun I s₂ H₂ => ?_)
  have hlI : l ≠ I := fun e => by
    have nd := H₂.nd
    rw [List.map_cons, List.nodup_cons] at nd
    exact nd.1 (List.mem_map.mpr ⟨_, hm, e⟩)
  refine ⟨I, _, _, _, _, _, btW ks, rfl, Walks.list (A := A.in1) hh I l hlI xs.toArray, ⟨isLIt H₂ List.mem_cons_self, isList H₂ (List.mem_cons_of_mem _ hm)⟩, ?_, by simp; omega, ?_, fun v h' tk hP hk => ?_⟩
  · intro b hb
    rcases List.mem_cons.mp hb with rfl | hb
    · obtain ⟨o, e, _⟩ := H₂.get (a := b) List.mem_cons_self
      exact Heap.lt_size e
    · rw [List.mem_singleton] at hb
      subst hb
      obtain ⟨o, e, _⟩ := H₂.get (List.mem_cons_of_mem _ hm)
      exact Heap.lt_size e
  · intro i j vi vj s Q E hi hj hq
    obtain ⟨ki, ti, rfl, e1⟩ := hw.get (by simpa using hi)
    obtain ⟨kj, tj, rfl, e2⟩ := hw.get (by simpa using hj)
    refine w_gt (prog := prog) (w := w) ?_
    rw [(ord_nl ki kj).2]
    unfold btW at hq
    rw [List.getD_eq_getElem?_getD, List.getD_eq_getElem?_getD, e1, e2] at hq
    exact hq
  · obtain ⟨k, t, rfl, e1⟩ := hw.get (by simpa using hP)
    have hspec := argBest_spec (ks := ks) (btW ks) (fun i j hi hj => by
      unfold btW
      rw [List.getD_eq_getElem?_getD, List.getD_eq_getElem?_getD, List.getElem?_eq_getElem hi, List.getElem?_eq_getElem hj]; rfl) (xs.length - 1) (by omega)
    obtain ⟨hs1, hs2⟩ := hspec
    rw [List.getElem?_eq_getElem hs1] at e1
    have e1 := Option.some.inj e1
    refine h k t _ (by rw [← e1]; exact List.getElem_mem _) (fun k' hk' => ?_) ?_
    · obtain ⟨j, hj, rfl⟩ := List.getElem_of_mem hk'
      rw [← e1]
      exact hs2 j hj (by omega)
    · have := (H₂.extBut List.mem_cons_self (h' := h') fun b o hb e => hk b o (by simpa using hb) e)
      rw [Out.head.ne H₂.nd] at this
      exact this.tok tk
end

end
section
/-! ## A comprehension of two clauses -/
section
variable {prog : Program} {w : World} {A : Around} {E : Value → Shared → Prop} {R : Result → Shared → Prop} {s : Shared} {elt t1 i1 t2 i2 : Expr} {ifs : List Expr} {scope : Scope} {pos : Pos} {it acc : Value} {env : Env}
noncomputable abbrev LC2 (elt t1 i1 : Expr) (ifs : List Expr) (t2 i2 : Expr) (scope : Scope) (pos : Pos) : Expr := .ListComp elt [⟨t1, i1, ifs, 0⟩, ⟨t2, i2, [], 0⟩] scope pos
theorem turn_in (elt t1 i1 : Expr) (ifs : List Expr) (t2 i2 : Expr) (scope : Scope) (pos : Pos) (it acc : Value) (env : Env) :
    compTurn (LC2 elt t1 i1 ifs t2 i2 scope pos) 1 it acc env = (standAt i2.pos >>= fun _ => pyNext it >>= fun r => match r with
      | none => pure (.done .next)
      | some v => letOwnedTupleGo t2 it v >>= fun _ => assign t2 env v >>= fun _ =>
        (eval elt env >>= fun x => call (.builtin "list.append") [acc, x] >>= fun _ => pure ()) >>= fun _ =>
          again (.compLoop (LC2 elt t1 i1 ifs t2 i2 scope pos) 1 it acc env)) := by rfl
theorem turn_out (elt t1 i1 : Expr) (ifs : List Expr) (t2 i2 : Expr) (scope : Scope) (pos : Pos) (it acc : Value) (env : Env) :
    compTurn (LC2 elt t1 i1 ifs t2 i2 scope pos) 0 it acc env = (do
      standAt i1.pos
      match ← pyNext it with
      | none => pure (.done .next)
      | some v =>
        letOwnedTupleGo t1 it v
        assign t1 env v
        let mut ok := true
        for c in ifs do
          if ok then ok ← isTrue c env (eval c env)
        if ok then
          let x ← eval i2 env
          standAt i2.pos
          let x ← foldedSetIterable i2 env x
          let _ ← runOwn (.compStart (LC2 elt t1 i1 ifs t2 i2 scope pos) 1 (← holding [x] (pyIter x)) acc env) env
        again (.compLoop (LC2 elt t1 i1 ifs t2 i2 scope pos) 0 it acc env)) := by rfl
theorem loop_in (I : Nat → Shared → Prop)
    (turn : ∀ n s, I n s → wpAny (model prog w) A (pyNext it) (fun r s₁ => match r with
      | none => R (.ok .next) s₁
      | some v => wpAny (model prog w) A (assign t2 env v) (fun _ s₂ => wpAny (model prog w) A (eval elt env) (fun x s₃ =>
          wpAny (model prog w) A (call (.builtin "list.append") [acc, x]) (fun _ s₄ => ∃ m, m < n ∧ I m s₄) (notedBy (model prog w) A env fun e s' => R (.error e) s') s₃)
          (notedBy (model prog w) A env fun e s' => R (.error e) s') s₂) (notedBy (model prog w) A env fun e s' => R (.error e) s') s₁) (notedBy (model prog w) A env fun e s' => R (.error e) s') s)
    (n : Nat) (h : I n s) (ht : ∀ v, letOwnedTupleGo t2 it v = pure () := by intro _; rfl) :
    codeAny (model prog w) A (.compLoop (LC2 elt t1 i1 ifs t2 i2 scope pos) 1 it acc env) R s := by
  refine codeAny_loop rfl I (fun n s hI => ?_) n h
  show wpAny _ _ ((compTurn (LC2 elt t1 i1 ifs t2 i2 scope pos) 1 it acc env).onRaise (fun x => do noteFrame x env; theTreesLotGoes x)) _ _ s
  refine wpAny_noted ?_
  rw [turn_in]
  refine wpAny_bind (wpAny_standAt (wpAny_bind (wpAny_mono (turn n s hI) (fun r s₁ h₁ => ?_) fun _ _ h' => h')))
  cases r with
  | none => exact wpAny_pure h₁
  | some v =>
    refine wpAny_bind (wpAny_of_eq (ht v) ?_)
    exact wpAny_bind (wpAny_mono h₁ (fun _ s₂ h₂ => wpAny_bind (wpAny_bind (wpAny_mono h₂ (fun x s₃ h₃ => wpAny_bind (wpAny_mono h₃
      (fun _ s₄ h₄ => wpAny_pure (wpAny_pure ⟨rfl, h₄⟩)) fun _ _ h' => h')) fun _ _ h' => h'))) fun _ _ h' => h')
theorem start_in
    (h0 : codeAny (model prog w) A (.compLoop (LC2 elt t1 i1 ifs t2 i2 scope pos) 1 it acc env) R s)
    (h : wpAny (model prog w) A (pyIter it) (fun it' s' => codeAny (model prog w) A (.compLoop (LC2 elt t1 i1 ifs t2 i2 scope pos) 1 it' acc env) R s')
      (notedBy (model prog w) A env fun x s' => R (.error x) s') s) :
    codeAny (model prog w) A (.compStart (LC2 elt t1 i1 ifs t2 i2 scope pos) 1 it acc env) R s := by
  refine codeAny_of_tree ?_
  show wpAny _ _ ((compStart (LC2 elt t1 i1 ifs t2 i2 scope pos) 1 it acc env).onRaise (fun x => do noteFrame x env; standAt theWindowsPlace)) _ _ s
  refine wpAny_notedAt ?_
  unfold compStart
  show wpAny _ _ (ask >>= _) _ _ s
  refine wpAny_bind (wpAny_askSetting (wpAny_ite ?_))
  split
  · first
      | exact wpAny_bind (wpAny_pure (wpAny_pure (And.intro rfl h0)))
      | exact wpAny_pure (And.intro rfl h0)
  · first
      | exact wpAny_bind (wpAny_rule (wpAny_bind (wpAny_standAt (wpAny_bind (wpAny_mono h (fun it' s' h' => wpAny_pure (And.intro rfl h')) fun _ _ x => x)))))
      | (refine wpAny_bind (wpAny_rule ?_); show wpAny _ _ (standAt i2.pos >>= _) _ _ s; exact wpAny_bind (wpAny_standAt (wpAny_bind (wpAny_mono h (fun it' s' h' => wpAny_pure (And.intro rfl h')) fun _ _ x => x))))
theorem loop_out (I : Nat → Shared → Prop)
    (turn : ∀ n s, I n s → wpAny (model prog w) A (pyNext it) (fun r s₁ => match r with
      | none => R (.ok .next) s₁
      | some v => wpAny (model prog w) A (assign t1 env v) (fun _ s₂ =>
          wpAny (model prog w) A (testsOf ifs env) (fun ok s₃ =>
            if ok = true then wpAny (model prog w) A (eval i2 env) (fun x s₄ => wpAny (model prog w) A (pyIter x) (fun it' s₅ =>
              codeAny (model prog w) A (.compStart (LC2 elt t1 i1 ifs t2 i2 scope pos) 1 it' acc env) (fun r s₆ => (∃ f, r = .ok f) ∧ ∃ m, m < n ∧ I m s₆) s₅) (fun _ _ => False) s₄) (fun _ _ => False) s₃
            else ∃ m, m < n ∧ I m s₃) (fun _ _ => False) s₂) (fun _ _ => False) s₁) (fun _ _ => False) s)
    (n : Nat) (h : I n s) (hs : ∀ x, foldedSetIterable i2 env x = pure x) (ht : ∀ v, letOwnedTupleGo t1 it v = pure () := by intro _; rfl) :
    codeAny (model prog w) A (.compLoop (LC2 elt t1 i1 ifs t2 i2 scope pos) 0 it acc env) R s := by
  refine codeAny_loop rfl I (fun n s hI => ?_) n h
  show wpAny _ A ((compTurn (LC2 elt t1 i1 ifs t2 i2 scope pos) 0 it acc env).onRaise (fun x => do noteFrame x env; theTreesLotGoes x)) _ _ s
  refine wpAny_noted ?_
  rw [turn_out]
  refine wpAny_bind (wpAny_standAt (wpAny_bind (wpAny_mono (turn n s hI) (fun r s₁ h₁ => ?_) fun _ _ h' => h'.elim)))
  cases r with
  | none => exact wpAny_pure h₁
  | some v =>
    refine wpAny_bind (wpAny_of_eq (ht v) ?_)
    refine wpAny_bind (wpAny_mono h₁ (fun _ s₂ h₂ => wpAny_bind (wpAny_mono h₂ (fun ok s₃ h₃ => ?_) fun _ _ h' => h'.elim)) fun _ _ h' => h'.elim)
    cases ok with
    | false => exact wpAny_pure ⟨rfl, h₃⟩
    | true =>
      rw [if_pos rfl] at h₃ ⊢
      refine wpAny_bind (wpAny_mono h₃ (fun x s₄ h₄ => ?_) fun _ _ h' => h'.elim)
      refine wpAny_bind (wpAny_standAt (wpAny_bind (wpAny_of_eq (hs x) ?_)))
      refine wpAny_bind (wpAny_holding (wpAny_mono h₄ (fun it' s₅ h₅ => ?_) fun _ _ h' => h'.elim))
      refine wpAny_bind (wpAny_runOwn (codeAny_mono h₅ fun r s₆ h₆ => ?_))
      obtain ⟨⟨f, rfl⟩, h₇⟩ := h₆
      exact wpAny_pure ⟨rfl, h₇⟩
theorem start_out
    (h0 : codeAny (model prog w) A (.compLoop (LC2 elt t1 i1 ifs t2 i2 scope pos) 0 it acc env) R s)
    (h : wpAny (model prog w) A (pyIter it) (fun it' s' => codeAny (model prog w) A (.compLoop (LC2 elt t1 i1 ifs t2 i2 scope pos) 0 it' acc env) R s')
      (notedBy (model prog w) A env fun x s' => R (.error x) s') s) :
    codeAny (model prog w) A (.compStart (LC2 elt t1 i1 ifs t2 i2 scope pos) 0 it acc env) R s := codeAny_compStart_list h0 h
end
section
variable {w : World} {prog : Program} {A : Around} {E : Value → Shared → Prop} {z s : Shared} {L L' : Led}
/-- one turn of the outer clause, whose inner clause runs over a range of m -/
noncomputable def CTurn2 (prog : Program) (w : World) (A : Around) (z : Shared) (L : Led) (it : Addr) (P : Nat → Pr) (items : List Value) (x y : Str) (gs : List Str) (cs : List (Str × Addr)) (ifs : List Expr) (i2 elt : Expr) (J : Nat → List Wd → Prop) : Prop :=
  ∀ (cenv : Env) (C acc : Addr) (i : Nat) (v : Value) (vy : Option Value) (ys : List Value) (ks : List Wd) (s : Shared), EnvIs cenv C [x, y] gs cs → items[i]? = some v → J i ks → WsAre ys ks → Stt z s ((C, Fra [x, y] [some v, vy]) :: (acc, Lst ys) :: (it, P (i + 1)) :: L) →
    wpAny (model prog w) A (testsOf ifs cenv) (fun ok s' => if ok = true then wpAny (model prog w) A (eval i2 cenv) (fun xv s₂ => ∃ (rg : Addr) (m : Nat) (k : Wd), xv = .ref rg ∧ m ≤ 2 ∧ Stt z s₂ ((rg, Rng (m : Int)) :: (C, Fra [x, y] [some v, vy]) :: (acc, Lst ys) :: (it, P (i + 1)) :: L) ∧ J (i + 1) (ks ++ List.replicate m k) ∧
        ∀ (vy : Option Value) (ri : Addr) (j : Nat) (us : List Value) (s₃ : Shared), Stt z s₃ ((ri, RIt m j) :: (C, Fra [x, y] [some v, vy]) :: (acc, Lst us) :: (it, P (i + 1)) :: L) →
          wpAny (model prog w) A (eval elt cenv) (fun r s₄ => (∃ t, r = .bytes k.toArray t) ∧ Stt z s₄ ((ri, RIt m j) :: (C, Fra [x, y] [some v, vy]) :: (acc, Lst us) :: (it, P (i + 1)) :: L)) (fun _ _ => False) s₃) (fun _ _ => False) s'
      else Stt z s' ((C, Fra [x, y] [some v, vy]) :: (acc, Lst ys) :: (it, P (i + 1)) :: L) ∧ J (i + 1) ks) (fun _ _ => False) s
theorem WsAre.snoc {vs : List Value} {ks : List Wd} (h : WsAre vs ks) (k : Wd) (t : Tok) : WsAre (vs ++ [.bytes k.toArray t]) (ks ++ [k]) := h.append (.cons k t .nil)
theorem comp_loop2 {elt i1 i2 : Expr} {x y : Str} {px py : Pos} {ifs : List Expr} {scope : Scope} {pos : Pos} {it acc C : Addr} {cenv : Env} {gs : List Str} {cs : List (Str × Addr)} {P : Nat → Pr} {items : List Value} {J : Nat → List Wd → Prop} {R : Result → Shared → Prop}
    (hh : A.handled = none) (he : EnvIs cenv C [x, y] gs cs) (I : Itr prog w A z L it P items) (hz : items.length ≤ 100) (h0 : J 0 []) (ht : CTurn2 prog w A z L it P items x y gs cs ifs i2 elt J)
    (hs : ∀ x, foldedSetIterable i2 cenv x = pure x)
    (H : Stt z s ((C, Fra [x, y] [none, none]) :: (acc, Lst []) :: (it, P 0) :: L))
    (h : ∀ s' ys ks vx vy, J items.length ks → WsAre ys ks → Stt z s' ((C, Fra [x, y] [vx, vy]) :: (acc, Lst ys) :: L) → R (.ok .next) s') :
    codeAny (model prog w) A (.compStart (LC2 elt (.Name x px) i1 ifs (.Name y py) i2 scope pos) 0 (.ref it) (.ref acc) cenv) R s := by
  have loop : ∀ s, Stt z s ((C, Fra [x, y] [none, none]) :: (acc, Lst []) :: (it, P 0) :: L) → codeAny (model prog w) A (.compLoop (LC2 elt (.Name x px) i1 ifs (.Name y py) i2 scope pos) 0 (.ref it) (.ref acc) cenv) R s := by
    intro s H
    refine loop_out (fun k s => ∃ i ys ks vx vy, i + k = items.length ∧ J i ks ∧ WsAre ys ks ∧ ys.length ≤ 2 * i ∧ Stt z s ((C, Fra [x, y] [vx, vy]) :: (acc, Lst ys) :: (it, P i) :: L)) ?_ items.length ⟨0, [], [], none, none, by omega, h0, .nil, Nat.le_refl _, H⟩ hs
    intro k s ⟨i, ys, ks, vx, vy, hk, hJ, hw, hys, H⟩
    by_cases hi : i = items.length
    · subst hi
      exact I.done H fun s' H' => h s' ys ks vx vy hJ hw H'
    · have hlt : i < items.length := by omega
      refine I.next H (List.getElem?_eq_getElem hlt) fun s₁ H₁ => ?_
      refine wpAny_assign_Name (st_local H₁ he .head .head fun s₂ H₂ => ?_)
      refine wpAny_mono (ht cenv C acc i _ vy ys ks s₂ he (List.getElem?_eq_getElem hlt) hJ hw H₂) (fun ok s₃ h₃ => ?_) fun _ _ f => f.elim
      cases ok with
      | true =>
        rw [if_pos rfl] at h₃ ⊢
        refine wpAny_mono h₃ (fun xv s₄ h₄ => ?_) fun _ _ f => f.elim
        obtain ⟨rg, m, kk, rfl, hm2, H₄, hJ', hel⟩ := h₄
        refine it_range H₄ List.mem_cons_self (by omega) fun ri s₅ H₅ => ?_
        replace H₅ := H₅.out (.tail .head)
        have inner : ∀ s, Stt z s ((ri, RIt m 0) :: (C, Fra [x, y] [some items[i], vy]) :: (acc, Lst ys) :: (it, P (i + 1)) :: L) → codeAny (model prog w) A (.compLoop (LC2 elt (.Name x px) i1 ifs (.Name y py) i2 scope pos) 1 (.ref ri) (.ref acc) cenv) (fun r s₆ => (∃ f, r = .ok f) ∧ ∃ m', m' < k ∧ ∃ i ys ks vx vy, i + m' = items.length ∧ J i ks ∧ WsAre ys ks ∧ ys.length ≤ 2 * i ∧ Stt z s₆ ((C, Fra [x, y] [vx, vy]) :: (acc, Lst ys) :: (it, P i) :: L)) s := by
          intro s H
          refine loop_in (fun q s => ∃ j us vy, j + q = m ∧ WsAre us (ks ++ List.replicate j kk) ∧ us.length = ys.length + j ∧ Stt z s ((ri, RIt m j) :: (C, Fra [x, y] [some items[i], vy]) :: (acc, Lst us) :: (it, P (i + 1)) :: L)) ?_ m ⟨0, ys, vy, by omega, by simpa using hw, by omega, H⟩
          intro q s ⟨j, us, vy', hq, hwu, hlu, H⟩
          by_cases hj : j < m
          · refine nx_range H .head hj fun s₁ tj H₁ => ?_
            refine wpAny_assign_Name (st_local H₁ he (.tail .head) (.tail .head) fun s₂ H₂ => ?_)
            refine wpAny_mono (hel _ ri (j + 1) us s₂ H₂) (fun r s₃ h₃ => ?_) fun _ _ f => f.elim
            obtain ⟨⟨t, rfl⟩, H₃⟩ := h₃
            refine l_append H₃ (.tail (.tail .head)) (by simp [sizeLine]; omega) fun s₄ H₄ => ?_
            refine ⟨q - 1, by omega, j + 1, _, _, by omega, ?_, by simp; omega, H₄⟩
            have := hwu.snoc kk t
            rw [List.append_assoc, ← List.replicate_succ'] at this
            exact this
          · have hjm : j = m := by omega
            subst hjm
            refine nx_range_end hh H .head (Nat.le_refl _) fun s₁ H₁ => ?_
            exact ⟨⟨_, rfl⟩, k - 1, by omega, i + 1, us, _, _, _, by omega, hJ', hwu, by omega, H₁⟩
        exact start_in (inner _ H₅) (it_rself H₅ List.mem_cons_self (inner _ H₅))
      | false =>
        rw [if_neg Bool.false_ne_true] at h₃ ⊢
        exact ⟨k - 1, by omega, i + 1, ys, ks, _, _, by omega, h₃.2, hw, by omega, h₃.1⟩
  exact start_out (loop s H) (I.self H (loop s H))
theorem comp_assign2 {elt i1 i2 : Expr} {x y r : Str} {px py pr : Pos} {ifs : List Expr} {scope : Scope} {cl : List (Str × Addr)} {pos spos : Pos} {env : Env} {Lf : Addr} {ls gs₀ gs : List Str} {cs₀ cs : List (Str × Addr)} {Q : Flow → Shared → Prop}
    (hh : A.handled = none) (hsw : swapsWith (LC2 elt (.Name x px) i1 ifs (.Name y py) i2 scope pos) (some (.Name r pr)) spos.line env = pure true) (he : EnvIs env Lf ls gs₀ cs₀)
    (hclos : closureFor scope env = pure cl) (hcell : ∀ y ∈ scope.names, y.2 ≠ .cell) (hkind : scope.kind = .function) (hnames : ∀ y ∈ scope.names, y.2 = .local → scope.names.lookup y.1 = some .local)
    (hE : ∀ C, EnvIs (compEnvC scope cl C env) C [x, y] gs cs) (hs : ∀ x, foldedSetIterable i1 env x = pure x) (hs2 : ∀ C x, foldedSetIterable i2 (compEnvC scope cl C env) x = pure x)
    (h : wpAny (model prog w) A (eval i1 env) (fun xv s₁ => wpAny (model prog w) A (pyIter xv) (fun itv s₂ => ∃ it L P items J, itv = .ref it ∧ Stt z s₂ ((it, P 0) :: L) ∧ Itr prog w A z L it P items ∧ items.length ≤ 100 ∧ J 0 [] ∧ CTurn2 prog w A z L it P items x y gs cs ifs i2 elt J ∧
      ∀ D ys ks s', J items.length ks → WsAre ys ks → Stt z s' ((D, Lst ys) :: L) → ∃ vals vals' L', Upd L Lf (Fra ls vals) (Fra ls vals') L' ∧ Put ls vals r (.ref D) vals' ∧ ∀ s'', Stt z s'' ((D, Lst ys) :: L') → Q .next s'') E s₁) E s) :
    wpAny (model prog w) A (exec (.Assign [.Name r pr] (LC2 elt (.Name x px) i1 ifs (.Name y py) i2 scope pos) spos) env) Q E s := by
  rw [exec_Assign_Name_used _ _ _ _ hsw]
  refine wpAny_bind (wpAny_standAt (wpAny_bind ?_))
  show wpAny _ A (do let _ ← comprehension (LC2 elt (.Name x px) i1 ifs (.Name y py) i2 scope pos) scope env _ (newList []) false (eval i1 env) (some (assign (.Name r pr) env))) _ _ s
  refine wpAny_bind (wpAny_mono (wpAny_comprehension_free (use := some (assign (.Name r pr) env)) (Q := fun _ s' => Q .next s') rfl hs hclos hkind hnames
    (wpAny_mono h (fun xv s₁ h₁ => wpAny_mono h₁ (fun itv s₂ h₂ => ?_) fun _ _ e => e) fun _ _ e => e)) (fun _ s' hq => wpAny_pure (wpAny_pure hq)) fun _ _ e => e)
  obtain ⟨it, L, P, items, J, rfl, H, I, hz, h0, ht, hF⟩ := h₂
  refine wpAny_newList ?_ (by simp)
  have H₁ := H.alloc (t := s₂.toks) (P := Lst []) (o := { cls := .type "list", data := .seq ([] : List Value).toArray }) rfl ⟨_, rfl⟩
  generalize hs3 : ({ s₂ with heap := s₂.heap.push { cls := .type "list", data := .seq ([] : List Value).toArray } } : Shared) = s₃ at H₁ ⊢
  refine wpAny_newFunctionEnv hcell (by intro y hy; simp at hy) (fun h' hn hsb => ?_) hkind
  have hN : Heap.get? s₃.heap s₃.heap.objs.size = none := Heap.get?_none_of_le (Nat.le_refl _)
  obtain ⟨o, e1, e2⟩ := Fra.of_ns (names := [x, y]) (vals := [none, none]) hn (fun y => by simp [look])
  have H₂ : Stt z { s₃ with heap := h', toks := s₃.toks + ([] : List (Str × Value)).length } ((s₃.heap.objs.size, Fra [x, y] [none, none]) :: (s₂.heap.objs.size, Lst []) :: (it, P 0) :: L) :=
    H₁.cons (fun b o e => hsb.extBut b o (Nat.ne_of_lt (Heap.lt_size e)) (Heap.get?_push_of_some _ e)) rfl rfl hN e1 e2
  refine comp_loop2 hh (hE _) I hz h0 ht (hs2 _) H₂ fun s' ys ks vx vy hJ hw H' => ?_
  obtain ⟨vals, vals', L', U, hp, hQ⟩ := hF _ ys ks _ hJ hw H'.drop1
  show wpAny _ A (assign (.Name r pr) env (.ref s₂.heap.objs.size)) _ _ _
  refine wpAny_assign_Name (st_local H' he (.tail (.tail U)) hp fun s'' H'' => ?_)
  obtain ⟨o', h1, h2⟩ := H''.get List.mem_cons_self
  refine ⟨_, Fra.ns h1 h2, fun h'' hs'' => hQ _ ?_⟩
  have := H''.extBut List.mem_cons_self hs''.extBut
  rw [Out.head.ne H''.nd] at this
  exact this
end

end
section
/-! ## What the rounds tell, in plain lists -/
theorem srt_same {l m : List Wd} (hp : l.Perm m) (h1 : l.Pairwise wle) (h2 : m.Pairwise wle) : l = m :=
  hp.eq_of_pairwise (fun a b _ _ => wle_antisymm) h1 h2
theorem srt_strict {S : List Wd} (nd : S.Nodup) (h : S.Pairwise wle) : S.Pairwise fun a b => nl a < nl b := by
  rw [List.Nodup] at nd
  exact (nd.and h).imp fun ⟨a, b⟩ => wlt_of_le b a
noncomputable def dbl (S : List Wd) : List Wd := S.flatMap fun w => [w, w]
theorem dbl_cons (w : Wd) (S : List Wd) : dbl (w :: S) = w :: w :: dbl S := rfl
theorem dbl_mem {S : List Wd} {x : Wd} : x ∈ dbl S ↔ x ∈ S := by unfold dbl; simp
theorem dbl_perm {S W : List Wd} (h : S.Perm W) : (dbl S).Perm (W ++ W) := by
  have e : ∀ S : List Wd, (dbl S).Perm (S ++ S) := by
    intro S
    induction S with
    | nil => exact List.Perm.refl _
    | cons w S ih =>
      rw [dbl_cons]
      have h1 : (w :: S ++ w :: S).Perm (w :: w :: (S ++ S)) := by
        rw [List.cons_append]
        exact (List.perm_middle).cons w
      exact ((ih.cons w).cons w).trans h1.symm
  exact (e S).trans (h.append h)
theorem dbl_sorted {S : List Wd} (h : S.Pairwise wle) : (dbl S).Pairwise wle := by
  induction S with
  | nil => exact List.Pairwise.nil
  | cons w S ih =>
    obtain ⟨h1, h2⟩ := List.pairwise_cons.mp h
    rw [dbl_cons]
    refine List.pairwise_cons.mpr ⟨fun x hx => ?_, List.pairwise_cons.mpr ⟨fun x hx => h1 x (dbl_mem.mp hx), ih h2⟩⟩
    rcases List.mem_cons.mp hx with rfl | hx
    · exact wlt_irrefl _
    · exact h1 x (dbl_mem.mp hx)
noncomputable def lft (p : Wd → Bool) : List Wd → List Wd
  | [] => []
  | w :: S => if p w = true then lft p S else (if S.any p = true then [w] else [w, w]) ++ lft p S
theorem lft_none {p : Wd → Bool} : ∀ {S : List Wd}, S.filter p = [] → lft p S = dbl S
  | [], _ => rfl
  | w :: S, h => by
    rw [List.filter_eq_nil_iff] at h
    have h1 := h w List.mem_cons_self
    have h2 : S.filter p = [] := List.filter_eq_nil_iff.mpr fun x hx => h x (List.mem_cons_of_mem _ hx)
    have h3 : S.any p = false := by
      rw [List.any_eq_false]
      exact fun x hx => h x (List.mem_cons_of_mem _ hx)
    unfold lft
    rw [if_neg h1, h3, if_neg Bool.false_ne_true, lft_none h2]
    rfl
theorem drop_self {w : Wd} {S : List Wd} (h : ∀ x ∈ S, x ≠ w) : S.dropWhile (· == w) = S := by
  cases S with
  | nil => rfl
  | cons x S => exact List.dropWhile_cons_of_neg (by simpa using h x List.mem_cons_self)
theorem ord_lt_of {a b : Wd} (h : nl a < nl b) : ord a b = .lt := by
  have := (ord_nl a b).1
  rw [decide_eq_true h] at this
  exact eq_of_beq this
theorem ord_gt_of {a b : Wd} (h : nl b < nl a) : ord a b = .gt := by
  have := (ord_nl a b).2
  rw [decide_eq_true h] at this
  exact eq_of_beq this
theorem dif_told (p : Wd → Bool) : ∀ {S : List Wd}, (S.Pairwise fun a b => nl a < nl b) → dif (dbl S) (S.filter p) = (lft p S, []) ∧ dif (S.filter p) (dbl S) = ([], lft p S)
  | [], _ => by
    show dif [] [] = _ ∧ dif [] [] = _
    rw [dif_nil_l]; exact ⟨rfl, rfl⟩
  | w :: S, h => by
    obtain ⟨h1, h2⟩ := List.pairwise_cons.mp h
    obtain ⟨ih1, ih2⟩ := dif_told p h2
    have hne : ∀ x ∈ S, x ≠ w := fun x hx e => wlt_irrefl w (by have := h1 x hx; rw [e] at this; exact this)
    have hd : (w :: dbl S).dropWhile (· == w) = dbl S := by
      rw [List.dropWhile_cons_of_pos (by simp)]
      exact drop_self fun x hx => hne x (dbl_mem.mp hx)
    have hf : (S.filter p).dropWhile (· == w) = S.filter p := drop_self fun x hx => hne x (List.mem_filter.mp hx).1
    rw [dbl_cons]
    by_cases hw : p w = true
    · have e : lft p (w :: S) = lft p S := by
        show (if p w = true then lft p S else (if S.any p = true then [w] else [w, w]) ++ lft p S) = _
        rw [if_pos hw]
      rw [List.filter_cons, if_pos hw, e]
      constructor
      · rw [dif, ord_self, if_neg (by decide), if_neg (by decide), hd, hf]; exact ih1
      · rw [dif, ord_self, if_neg (by decide), if_neg (by decide), hd, hf]; exact ih2
    · rw [List.filter_cons, if_neg hw]
      cases hF : S.filter p with
      | nil =>
        have e : lft p (w :: S) = w :: w :: dbl S := by
          have := lft_none (p := p) (S := w :: S) (by rw [List.filter_cons, if_neg hw]; exact hF)
          rw [this, dbl_cons]
        rw [dif_nil_r, dif_nil_l, e]
        exact ⟨rfl, rfl⟩
      | cons a F =>
        have ha : a ∈ S.filter p := by rw [hF]; exact List.mem_cons_self
        obtain ⟨ha1, ha2⟩ := List.mem_filter.mp ha
        have hany : S.any p = true := List.any_eq_true.mpr ⟨a, ha1, ha2⟩
        have hlt := h1 a ha1
        have e : lft p (w :: S) = w :: lft p S := by
          show (if p w = true then lft p S else (if S.any p = true then [w] else [w, w]) ++ lft p S) = _
          rw [if_neg hw, hany, if_pos rfl]; rfl
        rw [hF] at ih1 ih2
        rw [e]
        constructor
        · rw [dif, ord_lt_of hlt, if_pos rfl, hd, ih1]
        · rw [dif, ord_gt_of hlt, if_neg (by decide), if_pos rfl, hd, ih2]
noncomputable def lftM (M : Wd) (p : Wd → Bool) (w : Wd) : List Wd := if p w = true then [] else if nl M < nl w then [w, w] else [w]
theorem lft_max {p : Wd → Bool} {M : Wd} (hM : p M = true) : ∀ {S : List Wd}, (S.Pairwise fun a b => nl a < nl b) → (∀ u ∈ S, p u = true → wle u M) → (M ∈ S ∨ ∀ u ∈ S, nl M < nl u) → lft p S = S.flatMap (lftM M p)
  | [], _, _, _ => rfl
  | w :: S, h, hu, hm => by
    obtain ⟨h1, h2⟩ := List.pairwise_cons.mp h
    have hm' : M ∈ S ∨ ∀ u ∈ S, nl M < nl u := by
      rcases hm with q | q
      · rcases List.mem_cons.mp q with rfl | q
        · exact .inr h1
        · exact .inl q
      · exact .inr fun u hu' => q u (List.mem_cons_of_mem _ hu')
    have ih := lft_max hM h2 (fun u hu' => hu u (List.mem_cons_of_mem _ hu')) hm'
    rw [List.flatMap_cons]
    show (if p w = true then lft p S else (if S.any p = true then [w] else [w, w]) ++ lft p S) = lftM M p w ++ _
    rw [ih]
    unfold lftM
    by_cases hw : p w = true
    · rw [if_pos hw, if_pos hw]; rfl
    · rw [if_neg hw, if_neg hw]
      congr 1
      by_cases hlt : nl M < nl w
      · rw [if_pos hlt, if_neg]
        intro ha
        obtain ⟨u, hu1, hu2⟩ := List.any_eq_true.mp ha
        exact hu u (List.mem_cons_of_mem _ hu1) hu2 (wlt_trans hlt (h1 u hu1))
      · rw [if_neg hlt, if_pos]
        rcases hm with q | q
        · rcases List.mem_cons.mp q with rfl | q
          · exact absurd hM hw
          · exact List.any_eq_true.mpr ⟨M, q, hM⟩
        · exact absurd (q w List.mem_cons_self) hlt
/-! ### with depths -/
section
variable {W SW : List Wd} {t : Nat}
noncomputable abbrev pOut (W : List Wd) (t : Nat) (w : Wd) : Bool := decide (dep W w ≤ t)
theorem sorted_ready (nd : W.Nodup) (hp : SW.Perm W) (hs : SW.Pairwise wle) {r ks : List Wd} (hr : Rdy W t r) (hk : ks.Perm r) (hks : ks.Pairwise wle) : ks = SW.filter fun w => dep W w = t := by
  refine srt_same (hk.trans ?_) hks (hs.filter _)
  rw [List.perm_ext_iff_of_nodup hr.1 ((hp.nodup_iff.mpr nd).sublist List.filter_sublist)]
  intro x
  rw [hr.2 x, List.mem_filter, hp.mem_iff, decide_eq_true_eq]
noncomputable def Outd (W : List Wd) (t : Nat) (o : List Wd) : Prop := o.Nodup ∧ ∀ x, x ∈ o ↔ x ∈ W ∧ dep W x < t
theorem outd_next {o r : List Wd} (ho : Outd W t o) (hr : Rdy W t r) : Outd W (t + 1) (o ++ r) := by
  refine ⟨?_, fun x => ?_⟩
  · rw [List.nodup_append]
    refine ⟨ho.1, hr.1, fun a ha b hb e => ?_⟩
    subst e
    have h1 := ((ho.2 a).mp ha).2
    have h2 := ((hr.2 a).mp hb).2
    omega
  · rw [List.mem_append, ho.2, hr.2]
    constructor
    · rintro (⟨a, b⟩ | ⟨a, b⟩) <;> exact ⟨a, by omega⟩
    · rintro ⟨a, b⟩
      by_cases e : dep W x = t
      · exact .inr ⟨a, e⟩
      · exact .inl ⟨a, by omega⟩
theorem sorted_outd (nd : W.Nodup) (hp : SW.Perm W) (hs : SW.Pairwise wle) {o ks : List Wd} (ho : Outd W (t + 1) o) (hk : ks.Perm o) (hks : ks.Pairwise wle) : ks = SW.filter (pOut W t) := by
  refine srt_same (hk.trans ?_) hks (hs.filter _)
  rw [List.perm_ext_iff_of_nodup ho.1 ((hp.nodup_iff.mpr nd).sublist List.filter_sublist)]
  intro x
  rw [ho.2 x, List.mem_filter, hp.mem_iff, decide_eq_true_eq, Nat.lt_succ_iff]
theorem sorted_dbl (hp : SW.Perm W) (hs : SW.Pairwise wle) {ks : List Wd} (hk : ks.Perm (W ++ W)) (hks : ks.Pairwise wle) : ks = dbl SW :=
  srt_same (hk.trans (dbl_perm hp).symm) hks (dbl_sorted hs)
/-- some word is out behind the first round -/
theorem outd_some (nd : W.Nodup) (hn : 0 < W.length) {o : List Wd} (ho : Outd W (t + 1) o) : 0 < o.length := by
  have : ∃ x ∈ W, dep W x = 0 := by
    obtain ⟨x, hx⟩ := List.exists_mem_of_length_pos hn
    by_cases h : dep W x = 0
    · exact ⟨x, hx, h⟩
    · obtain ⟨k, hk, hk0⟩ := dep_some (t := 0) nd (x := x) (by omega)
      exact ⟨k, (pre_mem.mp hk).1, hk0⟩
  obtain ⟨x, hx, h0⟩ := this
  exact List.length_pos_of_mem ((ho.2 x).mpr ⟨hx, by omega⟩)
theorem left_is (nd : W.Nodup) (hp : SW.Perm W) (hs : SW.Pairwise wle) {o : List Wd} (ho : Outd W (t + 1) o) {M : Wd} (hM : M ∈ o) (hMx : ∀ k ∈ o, wle k M) : SW.flatMap (lftM M (pOut W t)) = lft (pOut W t) SW := by
  have hMo := (ho.2 M).mp hM
  refine (lft_max (by simpa [pOut] using Nat.lt_succ_iff.mp hMo.2) (srt_strict (hp.nodup_iff.mpr nd) hs) (fun u hu hpu => ?_) (.inl (hp.mem_iff.mpr hMo.1))).symm
  exact hMx u ((ho.2 u).mpr ⟨hp.mem_iff.mp hu, Nat.lt_succ_of_le (by simpa [pOut] using hpu)⟩)
end

end
section
/-! ## _law_told: its call -/
section
variable {w : World} {mg mb : Str → Option Value} {prog : Program} {A : Around} {z s : Shared} {L : Led}
theorem call_fnC4 {R : Result → Shared → Prop} {f : Addr} {fd : FuncData} {oc : Value} {od : Option Addr} {osl : Array (Option Value)} {body : List Stmt} {binds : List (Str × Value)} (names gs : List Str) (vals : List (Option Value)) (c1 c2 c3 c4 : Str) (v1 v2 v3 v4 : Option Value) {args : List Value}
    (G : Gd w mg mb z.heap) (H : Stt z s L) (ho : (hd.heap_1 w.params).lookup f = some ⟨oc, od, .func fd, osl⟩) (hcd : codeIn (hd.heap_1 w.params) fd.code fd.qualname = true) (hroom : A.depth < recursionLimit)
    (hbody : fd.body = .stmts body) (hbind : bindArgs fd ⟨args, []⟩ = pure binds) (hkind : ∀ b ∈ binds, fd.scope.names.lookup b.1 = some .local ∨ b.1 ∈ [c1, c2, c3, c4]) (hnd : names.Nodup)
    (hcells : ∀ n, cellsFrom n fd.scope.names [] = [(c4, n + 1 + 1 + 1), (c3, n + 1 + 1), (c2, n + 1), (c1, n)]) (hcd4 : [c4, c3, c2, c1].Nodup) (hcn : ∀ c ∈ [c1, c2, c3, c4], fd.scope.names.lookup c = some .cell)
    (hloc : ∀ x ∈ names, fd.scope.names.lookup x = some .local) (hglo : ∀ x ∈ gs, fd.scope.names.lookup x = some .globalImplicit)
    (hL : ∀ x, bindL (fun n => fd.scope.names.lookup n) binds (fun _ => none) x = look names vals x)
    (hC1 : bindC (fun n => fd.scope.names.lookup n) binds (fun _ => none) c1 = v1) (hC2 : bindC (fun n => fd.scope.names.lookup n) binds (fun _ => none) c2 = v2) (hC3 : bindC (fun n => fd.scope.names.lookup n) binds (fun _ => none) c3 = v3) (hC4 : bindC (fun n => fd.scope.names.lookup n) binds (fun _ => none) c4 = v4)
    (hgl : fd.globals = mainGlobals) (hbi : fd.builtins = builtinsNs) (hclo : fd.closure = [])
    (h : ∀ env Lf a1 a2 a3 a4 s', EnvIs env Lf names gs [(c1, a1), (c2, a2), (c3, a3), (c4, a4)] → env.frame = some Lf → Stt z s' ((Lf, Fra names vals) :: (a1, Cel v1) :: (a2, Cel v2) :: (a3, Cel v3) :: (a4, Cel v4) :: L) →
      wpAny (model prog w) (A.deeper env) (execs body env) (fun fl s' => R (.ok (.ret (match fl with | .ret v => v | _ => .none))) s') (fun _ _ => False) s')
    (hco : fd.scope.isCoroutine = false := by rfl) (hgen : fd.scope.isGenerator = false := by rfl) (hk : fd.scope.kind = .function := by rfl) :
    codeAny (model prog w) A (.call (.ref f) ⟨args, []⟩) R s := by
  obtain ⟨n34, n24, n23, n14, n13, n12⟩ : c4 ≠ c3 ∧ c4 ≠ c2 ∧ c3 ≠ c2 ∧ c4 ≠ c1 ∧ c3 ≠ c1 ∧ c2 ≠ c1 := by simp at hcd4; simp [hcd4]
  have look4 : ∀ n, (cellsFrom n fd.scope.names []).lookup c1 = some n ∧ (cellsFrom n fd.scope.names []).lookup c2 = some (n + 1) ∧ (cellsFrom n fd.scope.names []).lookup c3 = some (n + 1 + 1) ∧ (cellsFrom n fd.scope.names []).lookup c4 = some (n + 1 + 1 + 1) := by
    intro n
    rw [hcells]
    have b : ∀ {x y : Str}, x ≠ y → (x == y) = false := fun h => by simpa using h
    simp only [List.lookup_cons, beq_self_eq_true, b n34, b n34.symm, b n24, b n24.symm, b n23, b n23.symm, b n14, b n14.symm, b n13, b n13.symm, b n12, b n12.symm, and_self]
  refine codeAny_call_cells hroom (H.keep _ _ (G.X _ _ ho)) rfl (G.nl.keeps H.keep) (codeRec_of (G.X.keeps H.keep) hcd) hbody hbind hclo (fun x hx => ?_) (fun s₁ X => ?_) hco hgen hk
  · rcases hkind x hx with q | q
    · exact .inl q
    · refine .inr ⟨hcn _ q, ?_⟩
      obtain ⟨l1, l2, l3, l4⟩ := look4 (s.heap.objs.size + 1)
      simp only [List.mem_cons, List.not_mem_nil, or_false] at q
      rcases q with q | q | q | q <;> rw [q] <;> simp [l1, l2, l3, l4]
  · have hE : EnvIs (callEnvC fd s.heap.objs.size f) s.heap.objs.size names gs [(c1, s.heap.objs.size + 1), (c2, s.heap.objs.size + 1 + 1), (c3, s.heap.objs.size + 1 + 1 + 1), (c4, s.heap.objs.size + 1 + 1 + 1 + 1)] := by
      refine ⟨rfl, hk, hnd, hloc, hglo, fun p hp => ?_, hgl, hbi⟩
      obtain ⟨l1, l2, l3, l4⟩ := look4 (s.heap.objs.size + 1)
      simp only [List.mem_cons, List.not_mem_nil, or_false] at hp
      rcases hp with rfl | rfl | rfl | rfl
      · exact ⟨hcn _ (by simp), l1⟩
      · exact ⟨hcn _ (by simp), l2⟩
      · exact ⟨hcn _ (by simp), l3⟩
      · exact ⟨hcn _ (by simp), l4⟩
    obtain ⟨⟨⟨h₁, tk, rfl⟩, hns, hkeep, _⟩, hcell, _, _⟩ := X
    have hN : ∀ k, Heap.get? s.heap (s.heap.objs.size + k) = none := fun k => Heap.get?_none_of_le (Nat.le_add_right _ _)
    obtain ⟨l1, l2, l3, l4⟩ := look4 (s.heap.objs.size + 1)
    obtain ⟨o, e1, e2⟩ := Fra.of_ns (names := names) (vals := vals) hns hL
    obtain ⟨o1, p1, q1⟩ := hcell c1 _ l1
    obtain ⟨o2, p2, q2⟩ := hcell c2 _ l2
    obtain ⟨o3, p3, q3⟩ := hcell c3 _ l3
    obtain ⟨o4, p4, q4⟩ := hcell c4 _ l4
    have r1 : Cel v1 o1 := q1.trans (by rw [← hC1]; rfl)
    have r2 : Cel v2 o2 := q2.trans (by rw [← hC2]; rfl)
    have r3 : Cel v3 o3 := q3.trans (by rw [← hC3]; rfl)
    have r4 : Cel v4 o4 := q4.trans (by rw [← hC4]; rfl)
    have F0 : ∀ p ∈ L, p.1 < s.heap.objs.size := fun p hp => by
      obtain ⟨⟨o, e, _⟩, _⟩ := H.own p hp
      exact Heap.lt_size e
    have S4 : Stt z { s with heap := h₁, toks := tk } ((s.heap.objs.size + 1 + 1 + 1 + 1, Cel v4) :: L) := H.cons hkeep rfl rfl (hN 4) p4 r4
    have S3 := S4.add p3 r3 (H.fresh (hN 3)).1 fun p hp => by
      rcases List.mem_cons.mp hp with rfl | q
      · exact Nat.succ_ne_self _
      · exact Nat.ne_of_lt (Nat.lt_of_lt_of_le (F0 p q) (by omega))
    have S2 := S3.add p2 r2 (H.fresh (hN 2)).1 fun p hp => by
      rcases List.mem_cons.mp hp with rfl | hp
      · exact Nat.succ_ne_self _
      · rcases List.mem_cons.mp hp with rfl | q
        · exact Nat.ne_of_gt (by omega)
        · exact Nat.ne_of_lt (Nat.lt_of_lt_of_le (F0 p q) (by omega))
    have S1 := S2.add p1 r1 (H.fresh (hN 1)).1 fun p hp => by
      rcases List.mem_cons.mp hp with rfl | hp
      · exact Nat.succ_ne_self _
      · rcases List.mem_cons.mp hp with rfl | hp
        · exact Nat.ne_of_gt (by omega)
        · rcases List.mem_cons.mp hp with rfl | q
          · exact Nat.ne_of_gt (by omega)
          · exact Nat.ne_of_lt (Nat.lt_of_lt_of_le (F0 p q) (by omega))
    have S0 := S1.add e1 e2 (H.fresh (hN 0)).1 fun p hp => by
      have e0 : (callEnvC fd s.heap.objs.size f).locals = s.heap.objs.size := rfl
      rcases List.mem_cons.mp hp with rfl | hp
      · exact Nat.succ_ne_self _
      · rcases List.mem_cons.mp hp with rfl | hp
        · rw [e0]; exact Nat.ne_of_gt (by omega)
        · rcases List.mem_cons.mp hp with rfl | hp
          · rw [e0]; exact Nat.ne_of_gt (by omega)
          · rcases List.mem_cons.mp hp with rfl | q
            · rw [e0]; exact Nat.ne_of_gt (by omega)
            · rw [e0]; exact Nat.ne_of_lt (F0 p q)
    exact wpAny_mono (h _ _ _ _ _ _ _ hE rfl S0) (fun _ _ x => x) (fun _ _ x => x.elim)
theorem x_Tuple {E : Value → Shared → Prop} {Q : Value → Shared → Prop} {elts : List Expr} {k : Nat} {pos : Pos} {env : Env} (h : wpAny (model prog w) A (spliced (backTo pos (starEach elts env))) (fun vs s₁ => vs.length ≤ sizeLine ∧ AllocQ { cls := .type "tuple", data := .seq vs.toArray } Q s₁) E s) :
    wpAny (model prog w) A (eval (.Tuple elts k pos) env) Q E s := wpAny_Tuple h
end

end
section
/-! ## _law_told: the walk -/
theorem rdy_words {N : List Nd} {W : List Wd} {t : Nat} (h : NIs N (grR W t)) : N.map (·.wd) = wsW W := by rw [h.words]; exact gr_words _ _ _
theorem WsAre.uniq {vs : List Value} {ks ls : List Wd} (h : WsAre vs ks) (g : WsAre vs ls) : ks = ls := h.eq.trans g.eq.symm
theorem iv_get {p : List Nat} {i : Nat} {n : Int} (h : (iv p)[i]? = some n) : ∃ q, p[i]? = some q ∧ n = ((q : Nat) : Int) := by
  unfold iv at h
  rw [List.getElem?_map, Option.map_eq_some_iff] at h
  obtain ⟨q, h1, h2⟩ := h
  exact ⟨q, h1, h2.symm⟩
theorem IntsAre.at' : ∀ {vs : List Value} {ns : List Int} {i : Nat} {n : Int}, IntsAre vs ns → ns[i]? = some n → ∃ t, vs[i]? = some (.int n t)
  | _, _, i, n, .nil, h => by simp at h
  | _, _, 0, n, .cons m t r, h => by simp at h; subst h; exact ⟨t, rfl⟩
  | _, _, i + 1, n, .cons m t r, h => by simp at h; simpa using IntsAre.at' r h
theorem WsAre.at' {vs : List Value} {ks : List Wd} {i : Nat} {k : Wd} (h : WsAre vs ks) (hi : ks[i]? = some k) : ∃ t, vs[i]? = some (.bytes k.toArray t) := by
  induction h generalizing i with
  | nil => simp at hi
  | cons k' t _ ih =>
    cases i with
    | zero => simp at hi; subst hi; exact ⟨t, rfl⟩
    | succ i => simp at hi; simpa using ih hi
theorem toOutR1 {w : World} {prog : Program} {z s : Shared} {L : Led} {S dS D Rd : Addr} {rs : List Value} {po nf : Int} {t1 t2 : Tok} {N : List Nd} {q : Addr × Pr} (F : Led) (H : Stt z s (q :: srtR prog w S dS D Rd rs po t1 nf t2 N (F ++ L))) : Stt z s (q :: (F ++ srtR prog w S dS D Rd rs po t1 nf t2 N L)) :=
  H.perm ((perm_in F [(S, Ins 144 dS #[]), (dS, Atr (attrs D (.ref Rd) po t1 nf t2)), (D, Dct prog w (tabOf N)), (Rd, Lst rs)] (nodesL N) L).symm.cons q)
theorem swaps_of {env : Env} {Lf : Addr} {ls gs : List Str} {cs : List (Str × Addr)} {elt : Expr} {gens : List Comprehension} {scope : Scope} {pos py : Pos} {y : Str} {line : Nat} (he : EnvIs env Lf ls gs cs) (hy : y ∈ ls) (hl : (py.line == pos.line) = true) (hn : (scope.names.any fun (n, k) => n == y && (k == .local || k == .cell)) = false) :
    swapsWith (.ListComp elt gens scope pos) (some (.Name y py)) line env = pure true := by
  show (pure (env.blockKind == .function && env.kindOf y == some .local && py.line == pos.line && !(scope.names.any fun (n, k) => n == y && (k == .local || k == .cell))) : Sem Bool) = _
  have e1 : env.blockKind = .function := by unfold Env.blockKind; rw [he.kind]; rfl
  rw [e1, he.loc y hy, hl, hn]; rfl
theorem i_addb {w : World} {prog : Program} {A : Around} {E : Value → Shared → Prop} {z s : Shared} {L : Led} {Q : Value → Shared → Prop} {a : Int} {b : Bool} {t : Tok} (H : Stt z s L) (h : ∀ s' t, Stt z s' L → Q (.int (a + if b = true then (1 : Int) else 0) t) s') : wpAny (model prog w) A (binaryOp .Add (.int a t) (.bool b)) Q E s := add_int_bool (h _ _ (H.tok _))
theorem max_some {o : List Wd} (h : 0 < o.length) : ∃ M ∈ o, ∀ k ∈ o, wle k M := by
  obtain ⟨h1, h2⟩ := argBest_spec (ks := o) (btW o) (fun i j hi hj => by
    unfold btW
    rw [List.getD_eq_getElem?_getD, List.getD_eq_getElem?_getD, List.getElem?_eq_getElem hi, List.getElem?_eq_getElem hj]; rfl) (o.length - 1) (by omega)
  refine ⟨_, List.getElem_mem h1, fun k hk => ?_⟩
  obtain ⟨j, hj, rfl⟩ := List.getElem_of_mem hk
  exact h2 j hj (by omega)
theorem s_law_told {w : World} {mg mb : Str → Option Value} {prog : Program} {A : Around} {z s : Shared} {L : Led} {R : Result → Shared → Prop} {outer : List Env} {S dS D Rd lw ld lo : Addr} {rs vs dv ov : List Value} {r0 W SW : List Wd} {p : List Nat} {t1 t2 : Tok} {N : List Nd}
    (G : Gd w mg mb z.heap) (hDs : (D == sysModules) = false) (H : Stt z s (srtR prog w S dS D Rd rs 0 t1 0 t2 N L)) (hA : A.depth ≤ 400) (hU : A.units ≤ 1000) (hh : A.handled = none) (hfr : A.frames = some outer) (hF : FrOk outer L)
    (hg : NIs N (grR W 0)) (hr : WsAre rs r0) (hr0 : Rdy W 0 r0) (nd : W.Nodup) (hW0 : 0 < W.length) (hW : W.length ≤ 12)
    (hlw : (lw, Lst vs) ∈ L) (hw : WsAre vs W) (hld : (ld, Lst dv) ∈ L) (hd : IntsAre dv (W.map fun x => ((dep W x : Nat) : Int))) (hlo : (lo, Lst ov) ∈ L) (ho : IntsAre ov (iv p)) (hpl : ∀ i ∈ p, i < W.length) (hSW : p.map (fun i => W.getD i []) = SW) (hperm : SW.Perm W) (hsrt : SW.Pairwise wle)
    (h : ∀ s', Stt z s' L → R (.ok (.ret (.bool true))) s') :
    codeAny (model prog w) A (.call (.ref 182) ⟨[.ref S, .ref lw, .ref ld, .ref lo], []⟩) R s := by
  refine call_fnC4 (names := ["sorter", "order", "ready", "left"]) (gs := ["range", "len", "sorted", "sorted_list_difference"]) (vals := [some (.ref S), some (.ref lo), none, none]) (c1 := "words") (c2 := "depths") (c3 := "out") (c4 := "turn") (v1 := some (.ref lw)) (v2 := some (.ref ld)) (v3 := none) (v4 := none)
    (binds := [("sorter", .ref S), ("words", .ref lw), ("depths", .ref ld), ("order", .ref lo)]) G H (by k_is) (by k_is) (by show _ < 1000; omega) rfl rfl ?_ (by decide) (fun _ => rfl) (by decide) (all_mem rfl) (all_mem rfl) (all_mem rfl) (fun x => ?_) rfl rfl rfl rfl rfl rfl rfl ?_
  · intro b hb
    simp only [List.mem_cons, List.not_mem_nil, or_false] at hb
    rcases hb with rfl | rfl | rfl | rfl
    · exact .inl rfl
    · exact .inr (by simp)
    · exact .inr (by simp)
    · exact .inl rfl
  · show (if x = ("order" : Str) then some (Value.ref lo) else if x = ("sorter" : Str) then some (Value.ref S) else none) = _
    simp only [look]
    by_cases h1 : x = ("sorter" : Str)
    · subst h1; rfl
    · rw [if_neg h1, if_neg h1]
      by_cases h2 : x = ("order" : Str)
      · rw [if_pos h2, if_pos h2]
      · rw [if_neg h2, if_neg h2]; simp
  clear H
  intro env Lf cW cD cO cT s he hf H
  replace H : Stt z s ((Lf, _) :: (cW, _) :: (cD, _) :: (cO, _) :: (cT, _) :: srtR prog w S dS D Rd rs 0 t1 0 t2 N L) := H
  have hh2 : (A.deeper env).handled = none := hh
  have hfr2 : (A.deeper env).frames = some (env :: outer) := by show A.frames.map _ = _; rw [hfr]; rfl
  have hF2 : ∀ v F, (Lf, Fra ["sorter", "order", "ready", "left"] v) ∈ F → (∀ p ∈ L, p ∈ F) → FrOk (env :: outer) F := fun v F hv hs q hq => by
    rcases List.mem_cons.mp hq with rfl | hq
    · exact ⟨(by rw [he.kind]; exact (fun x => nomatch x)), Lf, _, v, hf, hv⟩
    · obtain ⟨a1, f, names, vals, a2, a3⟩ := hF q hq
      exact ⟨a1, f, names, vals, a2, hs _ a3⟩
  have hlw' := hw.length
  have hld' := hd.length
  have hlo' := ho.length
  rw [List.length_map] at hld'
  have hpW : p.length = W.length := by have := hperm.length_eq; rw [← hSW, List.length_map] at this; exact this
  have hlo2 : ov.length = W.length := by rw [hlo']; unfold iv; rw [List.length_map]; exact hpW
  with_reducible refine wpAny_execs_cons ?_
  with_reducible refine wpAny_Assign_Name ?_ rfl
  with_reducible refine x_List ?_
  with_reducible refine spliced_none ?_
  refine ⟨by exact Nat.le_of_ble_eq_true rfl, ?_⟩
  (with_reducible rename Stt _ _ _ => hO); with_reducible refine al_list hO ?_; intro _ _ _; clear hO
  (with_reducible rename Stt _ _ _ => hO); refine st_cell hO (by with_reducible assumption) (by walk_at "mem") (by walk_at "upd") ?_; intro _ _; clear hO
  with_reducible refine wpAny_execs_cons ?_
  refine wpAny_For ?_
  with_reducible refine wpAny_Call_NameR ?_
  refine n_built (by with_reducible assumption) (by with_reducible assumption) (by with_reducible assumption) (by walk_at "mem") (Gd.noglob (by with_reducible assumption) (by k_is)) (by boot_by_name) (by decide) ?_
  with_reducible refine PyProof.Rows.callWith_type1 ?_ rfl rfl
  with_reducible refine spliced_more ?_ rfl
  with_reducible refine wpAny_Call_NameR ?_
  refine n_built (by with_reducible assumption) (by with_reducible assumption) (by with_reducible assumption) (by walk_at "mem") (Gd.noglob (by with_reducible assumption) (by k_is)) (by boot_by_name) (by decide) ?_
  with_reducible refine callWith_builtin1 ?_ rfl rfl
  with_reducible refine spliced_more ?_ rfl
  refine n_cell (by with_reducible assumption) (by with_reducible assumption) (by walk_at "mem") (by walk_at "mem") ?_
  with_reducible refine spliced_none ?_
  rename_i H
  refine l_len H ((by (repeat apply List.mem_cons_of_mem); exact List.mem_append_right _ hlw)) (by omega) ?_
  clear H
  intro s tl H
  with_reducible refine spliced_none ?_
  refine c_range H ?_
  clear H
  intro rg s H
  rw [hlw'] at H
  refine it_range H List.mem_cons_self (by omega) ?_
  clear H
  intro it s H
  replace H := H.out (.tail .head)
  rename_i oa _ _ _ _ _
  refine codeAny_forLoop (fun kk s => ∃ (t : Nat) (N : List Nd) (rs os : List Value) (r o : List Wd) (oa : Addr) (po : Int) (t1 t2 : Tok) (vt vr vl : Option Value), t + kk = W.length ∧ NIs N (grR W t) ∧ WsAre rs r ∧ Rdy W t r ∧ WsAre os o ∧ Outd W t o ∧
    Stt z s ((it, RIt W.length t) :: (oa, Lst os) :: (Lf, Fra ["sorter", "order", "ready", "left"] [some (.ref S), some (.ref lo), vr, vl]) :: (cW, Cel (some (.ref lw))) :: (cD, Cel (some (.ref ld))) :: (cO, Cel (some (.ref oa))) :: (cT, Cel vt) :: srtR prog w S dS D Rd rs po t1 po t2 N L)) ?_ W.length
    ⟨0, N, rs, [], r0, [], _, 0, t1, t2, _, _, _, by omega, hg, hr, hr0, .nil, ⟨by simp, fun x => by simp⟩, H⟩
  clear H hg hr hr0
  intro kk s hI
  obtain ⟨t, N, rs, os, r, o, oa, po, t1, t2, vt, vr, vl, hk, hg, hr, hr0, hos, hO, H⟩ := hI
  by_cases hlt : t < W.length
  · refine nx_range H .head hlt ?_
    clear H
    intro s tt H
    dsimp only
    with_reducible refine wpAny_assign_Name ?_
    (with_reducible rename Stt _ _ _ => hO); refine st_cell hO (by with_reducible assumption) (by walk_at "mem") (by walk_at "upd") ?_; intro _ _; clear hO
    refine hide_q fun Qn hQ => hide_e fun En hE => ?_
    clear hE
    with_reducible refine wpAny_execs_cons ?_
    with_reducible refine wpAny_Assign_Name ?_ rfl
    refine MethodCall_ ?_ rfl
    refine n_local (by with_reducible assumption) (by with_reducible assumption) (by walk_at "mem") (by walk_at "loc") ?_
    refine gm_inst (by with_reducible assumption) (by with_reducible assumption) (by walk_at "mem") (by walk_at "mem") rfl (by k_is) (by k_is) (by k_is) ?_
    refine cw_fn0 (by with_reducible assumption) (by with_reducible assumption) (by k_is) ?_
    rename_i H
    have hwd := rdy_words hg
    have hrl : r.length ≤ W.length := nd_len hr0.1 fun x hx => ((hr0.2 x).mp hx).1
    have hrs := hr.length
    have hol : o.length ≤ W.length := nd_len hO.1 fun x hx => ((hO.2 x).mp hx).1
    have hosl := hos.length
    refine wpAny_call (s_get_ready (ws := r) G (toInR (F := [_, _, _, _, _, _, _]) H) hg hr (fun k hk => by rw [hwd]; exact wsW_mem.mpr ((hr0.2 k).mp hk).1) (by show A.depth + 1 ≤ 700; omega) hh2 (by omega) ?_)
    clear H
    intro N1 rd t1' s hg1 hNl H
    replace H : Stt z s ((rd, Tup rs) :: (it, _) :: (oa, _) :: (Lf, _) :: (cW, _) :: (cD, _) :: (cO, _) :: (cT, _) :: srtR prog w S dS D Rd [] (po + rs.length) t1' po t2 N1 L) := toOutR1 [_, _, _, _, _, _, _] H
    rw [out_fold] at hg1
    show wpAny _ _ _ _ _ _
    (with_reducible rename Stt _ _ _ => hO); refine st_local hO (by with_reducible assumption) (by walk_at "upd") (by walk_at "put") ?_; intro _ _; clear hO
    with_reducible refine wpAny_execs_cons ?_
    with_reducible refine wpAny_If ?_
    with_reducible refine wpAny_isTrue_Compare1 ?_ (by with_unfolding_all rfl)
    with_reducible refine wpAny_Call_NameR ?_
    refine n_built (by with_reducible assumption) (by with_reducible assumption) (by with_reducible assumption) (by walk_at "mem") (Gd.noglob (by with_reducible assumption) (by k_is)) (by boot_by_name) (by decide) ?_
    with_reducible refine callWith_builtin1 ?_ rfl rfl
    with_reducible refine spliced_more ?_ rfl
    refine n_local (by with_reducible assumption) (by with_reducible assumption) (by walk_at "mem") (by walk_at "loc") ?_
    with_reducible refine spliced_none ?_
    rename_i H
    refine srt_tup H (by walk_at "mem") hr (by omega) ?_
    clear H
    intro sr srv srk s hsr hsrp hsrs H
    have hsr2 := sorted_ready nd hperm hsrt hr0 hsrp hsrs
    subst hsr2
    refine comp_list (z := z) (gs := []) (cs := [("depths", cD), ("turn", cT), ("words", cW)]) (closure_of [("depths", cD), ("turn", cT), ("words", cW)] (fun p hp => ?_) rfl) (by decide) rfl (by decide) (compE he rfl (by decide) (all_mem rfl) (all_mem rfl) (fun p hp => ?_)) ?_
    · refine (he.cel p ?_).2
      simp only [List.mem_cons, List.not_mem_nil, or_false] at hp ⊢
      rcases hp with rfl | rfl | rfl <;> simp
    · simp only [List.mem_cons, List.not_mem_nil, or_false] at hp
      rcases hp with rfl | rfl | rfl
      · exact ⟨by simp, rfl, rfl⟩
      · exact ⟨by simp, rfl, rfl⟩
      · exact ⟨by simp, rfl, rfl⟩
    refine n_local (by with_reducible assumption) (by with_reducible assumption) (by walk_at "mem") (by walk_at "loc") ?_
    rename_i H
    refine it_list H ((by (repeat apply List.mem_cons_of_mem); exact List.mem_append_right _ hlo)) ?_
    clear H
    intro it2 s H
    refine ⟨it2, _, _, ov, fun i ys => WsAre ys (((p.take i).map fun i => W.getD i []).filter fun w => dep W w = t), rfl, H, itr_list hh2 ((by (repeat apply List.mem_cons_of_mem); exact List.mem_append_right _ hlo)), by simp [sizeLine]; omega, by simpa using WsAre.nil, ?_, ?_⟩
    · clear H
      intro cenv C acc i v ys s he' hx hJ H
      obtain ⟨n, tk, rfl, hn⟩ := IntsAre.getI ho hx
      obtain ⟨q, hq, rfl⟩ := iv_get hn
      have hqW := hpl q (List.mem_of_getElem? hq)
      have hWq : W[q]? = some (W.getD q []) := by rw [List.getD_eq_getElem?_getD, List.getElem?_eq_getElem hqW]; rfl
      obtain ⟨td, hdq⟩ := IntsAre.at' hd (i := q) (n := ((dep W (W.getD q []) : Nat) : Int)) (by rw [List.getElem?_map, hWq]; rfl)
      obtain ⟨tw, hwq⟩ := WsAre.at' hw hWq
      have htk : (p.take (i + 1)).map (fun i => W.getD i []) = (p.take i).map (fun i => W.getD i []) ++ [W.getD q []] := by rw [List.take_add_one, hq, List.map_append]; rfl
      refine tests_one ?_
      with_reducible refine wpAny_isTrue_Compare1 ?_ (by with_unfolding_all rfl)
      with_reducible refine Subscript_ ?_
      refine n_cell (by with_reducible assumption) (by with_reducible assumption) (by walk_at "mem") (by walk_at "mem") ?_
      refine n_local (by with_reducible assumption) (by with_reducible assumption) (by walk_at "mem") (by walk_at "loc") ?_
      rename_i H
      refine l_item H ((by (repeat apply List.mem_cons_of_mem); exact List.mem_append_right _ hld)) hdq (by omega) ?_
      refine n_cell (by with_reducible assumption) (by with_reducible assumption) (by walk_at "mem") (by walk_at "mem") ?_
      refine PyProof.Rows.eq_int ?_
      with_reducible refine wpAny_truthy_bool ?_
      rename_i H
      by_cases hdt : dep W (W.getD q []) = t
      · rw [if_pos (by rw [hdt]; simp)]
        with_reducible refine Subscript_ ?_
        refine n_cell (by with_reducible assumption) (by with_reducible assumption) (by walk_at "mem") (by walk_at "mem") ?_
        refine n_local (by with_reducible assumption) (by with_reducible assumption) (by walk_at "mem") (by walk_at "loc") ?_
        rename_i H
        refine l_item H ((by (repeat apply List.mem_cons_of_mem); exact List.mem_append_right _ hlw)) hwq (by omega) ?_
        refine ⟨H, ?_⟩
        show WsAre _ _
        rw [htk, List.filter_append, List.filter_cons, if_pos (by simpa using hdt)]
        exact hJ.append (.cons _ _ .nil)
      · rw [if_neg (by simp only [beq_iff_eq]; omega)]
        refine ⟨H, ?_⟩
        show WsAre _ _
        rw [htk, List.filter_append, List.filter_cons, if_neg (by simpa using hdt)]
        simpa using hJ
    · clear H
      intro acc ys s hJ H
      rw [show ov.length = p.length by omega, List.take_length, hSW] at hJ
      refine l_neq H (by walk_at "mem") (by walk_at "mem") hsr hJ (by show A.units + 3 < 9000; omega) ?_
      clear hJ hsr hsrp hsrs
      with_reducible refine wpAny_truthy_bool ?_
      refine iff' ?_
      with_reducible refine wpAny_execs_nil ?_
      with_reducible refine wpAny_execs_cons ?_
      with_reducible refine wpAny_Assign_Name ?_ rfl
      with_reducible refine wpAny_BinOp ?_
      refine n_cell (by with_reducible assumption) (by with_reducible assumption) (by walk_at "mem") (by walk_at "mem") ?_
      rename_i H
      refine comp_list (z := z) (gs := []) (cs := []) (closure_of [] (fun p hp => by simp at hp) rfl) (by decide) rfl (by decide) (compE he rfl (by decide) (all_mem rfl) (all_mem rfl) (fun p hp => by simp at hp)) ?_
      refine n_local (by with_reducible assumption) (by with_reducible assumption) (by walk_at "mem") (by walk_at "loc") ?_
      rename_i H
      refine it_tup H (by walk_at "mem") ?_
      clear H
      intro it3 s H
      refine ⟨it3, _, TIt rd, rs, fun i ys => WsAre ys (r.take i), rfl, H, itr_tup hh2 (by walk_at "mem"), by simp [sizeLine]; omega, by simpa using WsAre.nil, ?_, ?_⟩
      · clear H
        intro cenv C acc i v ys s he' hx hJ H
        obtain ⟨k, tk, rfl, hk'⟩ := hr.get hx
        refine tests_nil ?_
        rw [if_pos rfl]
        refine n_local (by with_reducible assumption) (by with_reducible assumption) (by walk_at "mem") (by walk_at "loc") ?_
        rename_i H
        refine ⟨H, ?_⟩
        show WsAre _ _
        rw [List.take_add_one, hk']
        exact hJ.append (.cons _ _ .nil)
      · clear H
        intro cp us s hJ H
        rw [show rs.length = r.length by omega, List.take_length] at hJ
        have hul := hJ.length
        refine l_add H (by walk_at "mem") (by walk_at "mem") (by simp [sizeLine]; omega) ?_
        clear H
        intro oa2 s H
        replace H := ((((H.out (.tail .head)).out (.tail .head)).out (.tail .head)).out (.tail (.tail (.tail .head))))
        have hO2 := outd_next hO hr0
        have hos2 := hos.append hJ
        have hosl2 := hos2.length
        have hol2 : (o ++ r).length ≤ W.length := nd_len hO2.1 fun x hx => ((hO2.2 x).mp hx).1
        generalize os ++ us = os2 at H hos2 hosl2
        generalize o ++ r = o2 at hO2 hos2 hosl2 hol2
        clear hO hos hJ hosl hol hul
        (with_reducible rename Stt _ _ _ => hO); refine st_cell hO (by with_reducible assumption) (by walk_at "mem") (by walk_at "upd") ?_; intro _ _; clear hO
        with_reducible refine wpAny_execs_cons ?_
        refine x_Expr (by with_reducible assumption) ?_ rfl
        refine MethodStar_ ?_
        refine n_local (by with_reducible assumption) (by with_reducible assumption) (by walk_at "mem") (by walk_at "loc") ?_
        rename_i H
        refine ga_bound G H (by walk_at "mem") (by walk_at "mem") rfl (by k_is) (by k_is) (by k_is) (by k_is) (by k_is) (by k_is) (by decide +kernel) ?_
        clear H
        intro q s H
        refine cw_star1 (f := 127) (.ref S) G (by k_is) ?_
        refine n_local (by with_reducible assumption) (by with_reducible assumption) (by walk_at "mem") (by walk_at "loc") ?_
        rename_i H
        have hN1 := hg1.words
        rw [gr_words] at hN1
        have hN1l : N1.length = W.length := by rw [hNl, ← List.length_map (f := (·.wd)) (as := N), hwd]; exact ((List.perm_ext_iff_of_nodup (wsB_nd W _) nd).mpr fun x => wsW_mem).length_eq
        have hscs : ∀ n ∈ N1, ∃ a : Ag, n.wd = a.wd ∧ WsAre n.sc a.sc ∧ ∃ k ∈ wsW W, a.sc = scW W k := hg1.all (P := fun a => ∃ k ∈ wsW W, a.sc = scW W k) fun a ha => by
          obtain ⟨k, hk, rfl⟩ := List.mem_map.mp ha
          exact ⟨k, hk, rfl⟩
        refine star_tup H (by walk_at "mem") (by simp [sizeLine]; omega) ?_
        clear H
        intro s H
        refine ⟨_, H, by walk_at "mem", ?_⟩
        refine s_done (rs := []) (r := []) (ws := r) (vs := rs) G hDs (toInR (F := [_, _, _, _, _, _, _, _, _]) H) hg1 .nil hr (fun k hk => by rw [hN1]; exact wsW_mem.mpr ((hr0.2 k).mp hk).1) (by show A.depth + 1 ≤ 700; omega) hh2 (by simp) (by omega) ?_ ?_ (done_hok nd hr0) ?_
        · intro n hn
          obtain ⟨a, h1, h2, k, h3, h4⟩ := hscs n hn
          rw [h2.length, h4]
          have := nd_len (scW_nd nd k) (m := W) fun x hx => (scW_mem.mp hx).1
          omega
        · intro n hn us hus u hu
          obtain ⟨a, h1, h2, k, h3, h4⟩ := hscs n hn
          rw [hus.uniq h2, h4] at hu
          rw [hN1]
          exact wsW_mem.mpr (scW_mem.mp hu).1
        clear H
        intro N2 rs2 nf2 t2' s hg2 hr2 hsh hnf H
        obtain ⟨hd1, hd2⟩ := done_round nd hr0
        rw [hd1] at hg2
        generalize (r.foldl done1 (gr (wsW W) (npO W t r) (scW W), [])).2 = r2 at hr2 hd2
        rw [← hrs] at hnf
        subst hnf
        replace H : Stt z s ((q, _) :: (oa2, _) :: (rd, _) :: (it, _) :: (Lf, _) :: (cW, _) :: (cD, _) :: (cO, _) :: (cT, _) :: srtR prog w S dS D Rd rs2 (po + rs.length) t1' (po + rs.length) t2' N2 L) := toOutR [_, _, _, _, _, _, _, _, _] H
        replace H := H.drop1
        show RetQ _ _ _ _
        unfold RetQ
        dsimp only
        clear hg1 hscs hN1 hN1l hd1 hsh
        with_reducible refine wpAny_execs_cons ?_
        rename_i H
        have ho2p := outd_some nd hW0 hO2
        obtain ⟨M, hM, hMx⟩ := max_some ho2p
        refine comp_assign2 (z := z) (gs := ["range", "max"]) (cs := [("depths", cD), ("out", cO), ("turn", cT), ("words", cW)]) hh2 (swaps_of he (by decide) rfl rfl) he (closure_of [("depths", cD), ("out", cO), ("turn", cT), ("words", cW)] (fun p hp => ?_) rfl) (by decide) rfl (by decide) (compE he rfl (by decide) (all_mem rfl) (all_mem rfl) (fun p hp => ?_)) (by intro _; rfl) (by intro _ _; rfl) ?_
        · refine (he.cel p ?_).2
          simp only [List.mem_cons, List.not_mem_nil, or_false] at hp ⊢
          rcases hp with rfl | rfl | rfl | rfl <;> simp
        · simp only [List.mem_cons, List.not_mem_nil, or_false] at hp
          rcases hp with rfl | rfl | rfl | rfl
          · exact ⟨by simp, rfl, rfl⟩
          · exact ⟨by simp, rfl, rfl⟩
          · exact ⟨by simp, rfl, rfl⟩
          · exact ⟨by simp, rfl, rfl⟩
        refine n_local (by with_reducible assumption) (by with_reducible assumption) (by walk_at "mem") (by walk_at "loc") ?_
        rename_i H
        refine it_list H ((by (repeat apply List.mem_cons_of_mem); exact List.mem_append_right _ hlo)) ?_
        clear H
        intro it4 s H
        refine ⟨it4, _, LIt lo, ov, fun i ks => ks = ((p.take i).map fun i => W.getD i []).flatMap (lftM M (pOut W t)), rfl, H, itr_list hh2 ((by (repeat apply List.mem_cons_of_mem); exact List.mem_append_right _ hlo)), by omega, rfl, ?_, ?_⟩
        · clear H
          intro cenv C acc i v vy ys ks s he' hx hJ hys H
          obtain ⟨n, tk, rfl, hn⟩ := IntsAre.getI ho hx
          obtain ⟨e, he2, rfl⟩ := iv_get hn
          have hqW := hpl e (List.mem_of_getElem? he2)
          have hWq : W[e]? = some (W.getD e []) := by rw [List.getD_eq_getElem?_getD, List.getElem?_eq_getElem hqW]; rfl
          obtain ⟨td, hdq⟩ := IntsAre.at' hd (i := e) (n := ((dep W (W.getD e []) : Nat) : Int)) (by rw [List.getElem?_map, hWq]; rfl)
          obtain ⟨tw, hwq⟩ := WsAre.at' hw hWq
          have htk : (p.take (i + 1)).map (fun i => W.getD i []) = (p.take i).map (fun i => W.getD i []) ++ [W.getD e []] := by rw [List.take_add_one, he2, List.map_append]; rfl
          refine tests_one ?_
          with_reducible refine wpAny_isTrue_Compare1 ?_ (by with_unfolding_all rfl)
          with_reducible refine Subscript_ ?_
          refine n_cell (by with_reducible assumption) (by with_reducible assumption) (by walk_at "mem") (by walk_at "mem") ?_
          refine n_local (by with_reducible assumption) (by with_reducible assumption) (by walk_at "mem") (by walk_at "loc") ?_
          rename_i H
          refine l_item H ((by (repeat apply List.mem_cons_of_mem); exact List.mem_append_right _ hld)) hdq (by omega) ?_
          refine n_cell (by with_reducible assumption) (by with_reducible assumption) (by walk_at "mem") (by walk_at "mem") ?_
          refine PyProof.Rows.gt_int ?_
          with_reducible refine wpAny_truthy_bool ?_
          rename_i H
          by_cases hdt : t < dep W (W.getD e [])
          · rw [if_pos (by simpa using hdt)]
            with_reducible refine wpAny_Call_NameR ?_
            refine n_built (by with_reducible assumption) (by with_reducible assumption) (by with_reducible assumption) (by walk_at "mem") (Gd.noglob (by with_reducible assumption) (by k_is)) (by boot_by_name) (by decide) ?_
            with_reducible refine PyProof.Rows.callWith_type1 ?_ rfl rfl
            with_reducible refine spliced_more ?_ rfl
            with_reducible refine wpAny_BinOp ?_
            (with_reducible rename Stt _ _ _ => hO); with_reducible refine c_int hO ?_; intro _ _ _; clear hO
            with_reducible refine wpAny_Compare1 ?_ (by with_unfolding_all rfl)
            with_reducible refine Subscript_ ?_
            refine n_cell (by with_reducible assumption) (by with_reducible assumption) (by walk_at "mem") (by walk_at "mem") ?_
            refine n_local (by with_reducible assumption) (by with_reducible assumption) (by walk_at "mem") (by walk_at "loc") ?_
            rename_i H
            refine l_item H ((by (repeat apply List.mem_cons_of_mem); exact List.mem_append_right _ hlw)) hwq (by omega) ?_
            with_reducible refine wpAny_Call_NameR ?_
            refine n_built (by with_reducible assumption) (by with_reducible assumption) (by with_reducible assumption) (by walk_at "mem") (Gd.noglob (by with_reducible assumption) (by k_is)) (by boot_by_name) (by decide) ?_
            with_reducible refine callWith_builtin1 ?_ rfl rfl
            with_reducible refine spliced_more ?_ rfl
            refine n_cell (by with_reducible assumption) (by with_reducible assumption) (by walk_at "mem") (by walk_at "mem") ?_
            with_reducible refine spliced_none ?_
            rename_i H
            refine l_max hh2 H (by walk_at "mem") hos2 (by omega) ?_
            clear H
            intro m tm s hm1 hm2 H
            obtain rfl : m = M := wle_antisymm (hMx m hm1) (hm2 M hM)
            refine w_gt ?_
            rw [(ord_nl _ _).2]
            refine i_addb H ?_
            clear H
            intro s ta H
            with_reducible refine spliced_none ?_
            obtain ⟨c, hc2, hc1, hcl⟩ : ∃ c : Nat, c ≤ 2 ∧ (1 + if decide (nl m < nl (W.getD e [])) = true then (1 : Int) else 0) = (c : Int) ∧ lftM m (pOut W t) (W.getD e []) = List.replicate c (W.getD e []) := by
              have hnp : ¬ pOut W t (W.getD e []) = true := by simpa [pOut] using hdt
              unfold lftM
              rw [if_neg hnp]
              by_cases hlt : nl m < nl (W.getD e [])
              · exact ⟨2, by omega, by rw [if_pos (by simpa using hlt)]; rfl, by rw [if_pos hlt]; rfl⟩
              · exact ⟨1, by omega, by rw [if_neg (by simpa using hlt)]; rfl, by rw [if_neg hlt]; rfl⟩
            rw [hc1]
            refine c_range H ?_
            clear H
            intro rg s H
            refine ⟨rg, c, W.getD e [], rfl, hc2, H, ?_, ?_⟩
            · show _ = _
              rw [htk, List.flatMap_append, ← hJ, ← hcl, List.flatMap_cons, List.flatMap_nil, List.append_nil]
            · clear H
              intro vy ri j us s H
              with_reducible refine Subscript_ ?_
              refine n_cell (by with_reducible assumption) (by with_reducible assumption) (by walk_at "mem") (by walk_at "mem") ?_
              refine n_local (by with_reducible assumption) (by with_reducible assumption) (by walk_at "mem") (by walk_at "loc") ?_
              rename_i H
              refine l_item H ((by (repeat apply List.mem_cons_of_mem); exact List.mem_append_right _ hlw)) hwq (by omega) ?_
              exact ⟨⟨tw, rfl⟩, H⟩
          · rw [if_neg (by simpa using hdt)]
            refine ⟨H, ?_⟩
            show _ = _
            rw [htk, List.flatMap_append, ← hJ]
            have : lftM M (pOut W t) (W.getD e []) = [] := by unfold lftM; rw [if_pos (by simpa [pOut] using hdt)]
            rw [List.flatMap_cons, this]; simp
        · clear H
          intro Dl lv lk s hJ hlv H
          rw [show ov.length = p.length by omega, List.take_length, hSW, left_is nd hperm hsrt hO2 hM hMx] at hJ
          subst hJ
          refine ⟨_, _, _, by walk_at "upd", by walk_at "put", ?_⟩
          clear H
          intro s H
          have hlvl := hlv.length
          replace H := (H.out (.tail (.tail .head)))
          with_reducible refine wpAny_execs_cons ?_
          with_reducible refine wpAny_If ?_
          with_reducible refine wpAny_isTrue_Compare1 ?_ (by with_unfolding_all rfl)
          with_reducible refine x_List ?_
          with_reducible refine spliced_more ?_ rfl
          with_reducible refine wpAny_Call_NameR ?_
          refine n_glob (by with_reducible assumption) (by with_reducible assumption) (by with_reducible assumption) (by walk_at "mem") (Gd.glob (by with_reducible assumption) (by k_is)) ?_
          refine cw_fn (by with_reducible assumption) (by k_is) ?_ rfl rfl
          with_reducible refine spliced_more ?_ rfl
          with_reducible refine wpAny_Call_NameR ?_
          refine n_built (by with_reducible assumption) (by with_reducible assumption) (by with_reducible assumption) (by walk_at "mem") (Gd.noglob (by with_reducible assumption) (by k_is)) (by boot_by_name) (by decide) ?_
          with_reducible refine callWith_builtin1 ?_ rfl rfl
          with_reducible refine spliced_more ?_ rfl
          with_reducible refine wpAny_BinOp ?_
          refine n_cell (by with_reducible assumption) (by with_reducible assumption) (by walk_at "mem") (by walk_at "mem") ?_
          refine n_cell (by with_reducible assumption) (by with_reducible assumption) (by walk_at "mem") (by walk_at "mem") ?_
          rename_i H
          refine l_add H ((by (repeat apply List.mem_cons_of_mem); exact List.mem_append_right _ hlw)) ((by (repeat apply List.mem_cons_of_mem); exact List.mem_append_right _ hlw)) (by simp [sizeLine]; omega) ?_
          clear H
          intro ww s H
          with_reducible refine spliced_none ?_
          rename_i H
          refine srt_list H (by walk_at "mem") (hw.append hw) (by rw [List.length_append]; omega) ?_
          clear H
          intro e1 e1v e1k s he1 he1p he1s H
          obtain rfl := sorted_dbl hperm hsrt he1p he1s
          replace H := H.out (.tail .head)
          with_reducible refine spliced_more ?_ rfl
          with_reducible refine wpAny_Call_NameR ?_
          refine n_built (by with_reducible assumption) (by with_reducible assumption) (by with_reducible assumption) (by walk_at "mem") (Gd.noglob (by with_reducible assumption) (by k_is)) (by boot_by_name) (by decide) ?_
          with_reducible refine callWith_builtin1 ?_ rfl rfl
          with_reducible refine spliced_more ?_ rfl
          refine n_cell (by with_reducible assumption) (by with_reducible assumption) (by walk_at "mem") (by walk_at "mem") ?_
          with_reducible refine spliced_none ?_
          rename_i H
          refine srt_list H (by walk_at "mem") hos2 (by omega) ?_
          clear H
          intro a1 a1v a1k s ha1 ha1p ha1s H
          obtain rfl := sorted_outd nd hperm hsrt hO2 ha1p ha1s
          with_reducible refine spliced_none ?_
          refine ⟨⟨_, by with_reducible assumption⟩, ?_⟩
          rename_i H
          have hz1 : e1v.length ≤ 24 := by have := he1p.length_eq; rw [he1.length, this, List.length_append]; omega
          have hz2 : a1v.length ≤ 12 := by have := ha1p.length_eq; rw [ha1.length, this]; omega
          obtain ⟨hdf1, hdf2⟩ := dif_told (pOut W t) (srt_strict (hperm.nodup_iff.mpr nd) hsrt)
          refine wpAny_call (sldiff (outer := env :: outer) G H (by show A.depth + 1 ≤ 700; omega) hh2 hfr2 (hF2 _ _ (by walk_at "mem") (fun p hp => by (repeat apply List.mem_cons_of_mem); exact List.mem_append_right _ hp)) (by walk_at "mem") he1 (by walk_at "mem") ha1 (by omega) (by omega) ?_)
          rw [hdf1]
          clear H
          intro c1 m1 u1 vm1 vu1 s hvm1 hvu1 H
          replace H := (H.out (.tail (.tail (.tail .head)))).out (.tail (.tail (.tail .head)))
          show wpAny _ _ _ _ _ _
          with_reducible refine spliced_more ?_ rfl
          with_reducible refine wpAny_Call_NameR ?_
          refine n_glob (by with_reducible assumption) (by with_reducible assumption) (by with_reducible assumption) (by walk_at "mem") (Gd.glob (by with_reducible assumption) (by k_is)) ?_
          refine cw_fn (by with_reducible assumption) (by k_is) ?_ rfl rfl
          with_reducible refine spliced_more ?_ rfl
          with_reducible refine wpAny_Call_NameR ?_
          refine n_built (by with_reducible assumption) (by with_reducible assumption) (by with_reducible assumption) (by walk_at "mem") (Gd.noglob (by with_reducible assumption) (by k_is)) (by boot_by_name) (by decide) ?_
          with_reducible refine callWith_builtin1 ?_ rfl rfl
          with_reducible refine spliced_more ?_ rfl
          refine n_cell (by with_reducible assumption) (by with_reducible assumption) (by walk_at "mem") (by walk_at "mem") ?_
          with_reducible refine spliced_none ?_
          rename_i H
          refine srt_list H (by walk_at "mem") hos2 (by omega) ?_
          clear H ha1 ha1p ha1s
          intro a2 a2v a2k s ha1 ha1p ha1s H
          obtain rfl := sorted_outd nd hperm hsrt hO2 ha1p ha1s
          with_reducible refine spliced_more ?_ rfl
          with_reducible refine wpAny_Call_NameR ?_
          refine n_built (by with_reducible assumption) (by with_reducible assumption) (by with_reducible assumption) (by walk_at "mem") (Gd.noglob (by with_reducible assumption) (by k_is)) (by boot_by_name) (by decide) ?_
          with_reducible refine callWith_builtin1 ?_ rfl rfl
          with_reducible refine spliced_more ?_ rfl
          with_reducible refine wpAny_BinOp ?_
          refine n_cell (by with_reducible assumption) (by with_reducible assumption) (by walk_at "mem") (by walk_at "mem") ?_
          refine n_cell (by with_reducible assumption) (by with_reducible assumption) (by walk_at "mem") (by walk_at "mem") ?_
          rename_i H
          refine l_add H ((by (repeat apply List.mem_cons_of_mem); exact List.mem_append_right _ hlw)) ((by (repeat apply List.mem_cons_of_mem); exact List.mem_append_right _ hlw)) (by simp [sizeLine]; omega) ?_
          clear H
          intro ww2 s H
          with_reducible refine spliced_none ?_
          rename_i H
          refine srt_list H (by walk_at "mem") (hw.append hw) (by rw [List.length_append]; omega) ?_
          clear H he1 he1p he1s
          intro e2 e2v e2k s he1 he1p he1s H
          obtain rfl := sorted_dbl hperm hsrt he1p he1s
          replace H := H.out (.tail .head)
          with_reducible refine spliced_none ?_
          refine ⟨⟨_, by with_reducible assumption⟩, ?_⟩
          rename_i H
          have hz3 : e2v.length ≤ 24 := by have := he1p.length_eq; rw [he1.length, this, List.length_append]; omega
          have hz4 : a2v.length ≤ 12 := by have := ha1p.length_eq; rw [ha1.length, this]; omega
          refine wpAny_call (sldiff (outer := env :: outer) G H (by show A.depth + 1 ≤ 700; omega) hh2 hfr2 (hF2 _ _ (by walk_at "mem") (fun p hp => by (repeat apply List.mem_cons_of_mem); exact List.mem_append_right _ hp)) (by walk_at "mem") ha1 (by walk_at "mem") he1 (by omega) (by omega) ?_)
          rw [hdf2]
          clear H
          intro c2 m2 u2 vm2 vu2 s hvm2 hvu2 H
          replace H := (H.out (.tail (.tail (.tail .head)))).out (.tail (.tail (.tail .head)))
          show wpAny _ _ _ _ _ _
          with_reducible refine spliced_none ?_
          refine ⟨by exact Nat.le_of_ble_eq_true rfl, ?_⟩
          (with_reducible rename Stt _ _ _ => hO); with_reducible refine al_list hO ?_; intro _ _ _; clear hO
          with_reducible refine x_List ?_
          with_reducible refine spliced_more ?_ rfl
          rename_i r1 _ H
          refine x_Tuple ?_
          with_reducible refine spliced_more ?_ rfl
          refine n_local (by with_reducible assumption) (by with_reducible assumption) (by walk_at "mem") (by walk_at "loc") ?_
          with_reducible refine spliced_more ?_ rfl
          with_reducible refine x_List ?_
          with_reducible refine spliced_none ?_
          refine ⟨by exact Nat.le_of_ble_eq_true rfl, ?_⟩
          (with_reducible rename Stt _ _ _ => hO); with_reducible refine al_list hO ?_; intro _ _ _; clear hO
          with_reducible refine spliced_none ?_
          refine ⟨by exact Nat.le_of_ble_eq_true rfl, ?_⟩
          rename_i n1 _ H
          refine al_tuple H ?_
          clear H
          intro tp1 s H
          with_reducible refine spliced_more ?_ rfl
          rename_i H
          refine x_Tuple ?_
          with_reducible refine spliced_more ?_ rfl
          with_reducible refine x_List ?_
          with_reducible refine spliced_none ?_
          refine ⟨by exact Nat.le_of_ble_eq_true rfl, ?_⟩
          (with_reducible rename Stt _ _ _ => hO); with_reducible refine al_list hO ?_; intro _ _ _; clear hO
          with_reducible refine spliced_more ?_ rfl
          refine n_local (by with_reducible assumption) (by with_reducible assumption) (by walk_at "mem") (by walk_at "loc") ?_
          with_reducible refine spliced_none ?_
          refine ⟨by exact Nat.le_of_ble_eq_true rfl, ?_⟩
          rename_i n2 _ H
          refine al_tuple H ?_
          clear H
          intro tp2 s H
          with_reducible refine spliced_none ?_
          refine ⟨by exact Nat.le_of_ble_eq_true rfl, ?_⟩
          (with_reducible rename Stt _ _ _ => hO); with_reducible refine al_list hO ?_; intro _ _ _; clear hO
          rename_i r2' _ H
          have hu2 : (A.deeper env).in1.in1.units < 9000 := by show A.units + 3 + 1 + 1 < 9000; omega
          refine l_neq2 H (by walk_at "mem") (by walk_at "mem") (by walk_at "mem") (by walk_at "mem") (by walk_at "mem") (by walk_at "mem") (eq_lists_at H (by walk_at "mem") (by walk_at "mem") hvm1 hlv hu2) (eq_lists_at H (by walk_at "mem") (by walk_at "mem") hvu1 .nil hu2) (eq_lists_at H (by walk_at "mem") (by walk_at "mem") hvm2 .nil hu2) (eq_lists_at H (by walk_at "mem") (by walk_at "mem") hvu2 hlv hu2) (by show A.units + 3 < 8000; omega) ?_
          with_reducible refine wpAny_truthy_bool ?_
          refine iff' ?_
          with_reducible refine wpAny_execs_nil ?_
          with_reducible refine wpAny_execs_nil ?_
          refine hQ _ _ ?_
          refine ⟨kk - 1, by omega, t + 1, N2, rs2, os2, r2, o2, oa2, po + rs.length, t1', t2', some (.int (t : Int) tt), some (.ref rd), some (.ref Dl), by omega, hg2, hr2, hd2, hos2, hO2, ?_⟩
          exact H.drop1.drop1.drop1.drop1.drop1.drop1.drop1.drop1.drop1.drop1.drop1.drop1.drop1.perm (List.Perm.swap _ _ _)
  · refine nx_range_end hh2 H .head (by omega) ?_
    clear H
    intro s H
    dsimp only
    with_reducible refine wpAny_execs_nil ?_
    with_reducible refine wpAny_execs_cons ?_
    with_reducible refine wpAny_Return_some ?_
    with_reducible refine UnaryOp_ ?_
    refine MethodCall_ ?_ rfl
    refine n_local (by with_reducible assumption) (by with_reducible assumption) (by walk_at "mem") (by walk_at "loc") ?_
    refine gm_inst (by with_reducible assumption) (by with_reducible assumption) (by walk_at "mem") (by walk_at "mem") rfl (by k_is) (by k_is) (by k_is) ?_
    refine cw_fn0 (by with_reducible assumption) (by with_reducible assumption) (by k_is) ?_
    rename_i H
    have htW : t = W.length := by omega
    subst htW
    have hr1 := rdy_end nd hr0
    subst hr1
    cases hr
    refine wpAny_call (s_is_active G (toInR (F := [_, _, _, _, _, _]) H) (by show A.depth + 1 ≤ 700; omega) ?_)
    clear H
    intro s H
    replace H : Stt z s ((oa, _) :: (Lf, _) :: (cW, _) :: (cD, _) :: (cO, _) :: (cT, _) :: srtR prog w S dS D Rd [] po t1 po t2 N L) := toOutR [_, _, _, _, _, _] H
    show wpAny _ _ _ _ _ _
    with_reducible refine not_of ?_
    with_reducible refine wpAny_truthy_bool ?_
    refine h _ ?_
    exact H.sub (l := L) (List.Perm.refl _) (by (repeat apply List.Sublist.cons); exact List.sublist_append_right _ _)

end
section
/-! ## The sort's questions answered by an order -/
section
variable {N : Nat} {key : Nat → List Nat}
noncomputable def Hold (N : Nat) (key : Nat → List Nat) {α : Type} (Q : α → Prop) : KasT α → Prop
  | .ret a => Q a
  | .ask i j k => i < N ∧ j < N ∧ Hold N key Q (k (decide (key i < key j)))
theorem hold_bind {α β : Type} {Q : β → Prop} {f : α → KasT β} : ∀ {t : KasT α}, Hold N key (fun a => Hold N key Q (f a)) t → Hold N key Q (t.bind f)
  | .ret a, h => h
  | .ask i j k, h => ⟨h.1, h.2.1, hold_bind h.2.2⟩
theorem hold_mono {α : Type} {Q Q' : α → Prop} (hq : ∀ a, Q a → Q' a) : ∀ {t : KasT α}, Hold N key Q t → Hold N key Q' t
  | .ret a, h => hq a h
  | .ask i j k, h => ⟨h.1, h.2.1, hold_mono hq h.2.2⟩
noncomputable abbrev gk (key : Nat → List Nat) (p : Array Nat) (i : Nat) : List Nat := key (p.getD i 0)
noncomputable def Asc (key : Nat → List Nat) (p : Array Nat) (k : Nat) : Prop := ∀ i j, i ≤ j → j < k → ¬ gk key p j < gk key p i
noncomputable def Dsc (key : Nat → List Nat) (p : Array Nat) (k : Nat) : Prop := ∀ i j, i ≤ j → j < k → ¬ gk key p i < gk key p j
noncomputable def Sma (N : Nat) (p : Array Nat) : Prop := ∀ i, p.getD i 0 < N
theorem getD_q (p : Array Nat) (i : Nat) : p.getD i 0 = (p[i]?).getD 0 := by simp [Array.getD_eq_getD_getElem?]
theorem rev_at {p : Array Nat} {i j : Nat} (hj : j ≤ p.size) (k : Nat) : (kas_rev p i j).getD k 0 = if i ≤ k ∧ k < j then p.getD (i + j - 1 - k) 0 else p.getD k 0 := by
  unfold kas_rev
  rw [getD_q, getElem?_mirror_all hj]
  split <;> rw [getD_q]
theorem bub_at {p : Array Nat} {k d : Nat} (hk : k < p.size) (hd : d ≤ k) (i : Nat) : (bubble p k d).getD i 0 = if i = k - d then p.getD k 0 else if k - d < i ∧ i ≤ k then p.getD (i - 1) 0 else p.getD i 0 := by
  rw [getD_q, getElem?_bubble hk d hd]
  by_cases h1 : i = k - d
  · rw [if_pos h1, if_pos h1, getD_q]
  · rw [if_neg h1, if_neg h1]
    by_cases h2 : k - d < i ∧ i ≤ k
    · rw [if_pos h2, if_pos h2, getD_q]
    · rw [if_neg h2, if_neg h2, getD_q]
theorem nlt_trans {a b c : List Nat} (h1 : ¬ b < a) (h2 : ¬ c < b) : ¬ c < a := by
  rw [List.not_lt] at *
  exact List.le_trans h1 h2
theorem Sma.rev {p : Array Nat} {i j : Nat} (h : Sma N p) (hj : j ≤ p.size) : Sma N (kas_rev p i j) := fun k => by
  rw [rev_at hj]; split <;> exact h _
theorem Sma.bub {p : Array Nat} {k d : Nat} (h : Sma N p) (hk : k < p.size) (hd : d ≤ k) : Sma N (bubble p k d) := fun i => by
  rw [bub_at hk hd]
  by_cases h1 : i = k - d
  · rw [if_pos h1]; exact h _
  · rw [if_neg h1]
    by_cases h2 : k - d < i ∧ i ≤ k
    · rw [if_pos h2]; exact h _
    · rw [if_neg h2]; exact h _
/-- a permutation of the places, of one size -/
structure Prm (N n : Nat) (p : Array Nat) : Prop where
  size : p.size = n
  sma : Sma N p
  perm : p.toList.Perm (List.range n)
theorem Prm.rev {n i j : Nat} {p : Array Nat} (h : Prm N n p) (hj : j ≤ n) : Prm N n (kas_rev p i j) where
  size := (mirror_size _ _ _ _).trans h.size
  sma := h.sma.rev (by rw [h.size]; exact hj)
  perm := ((mirror_perm p i j ((j - i) / 2)).toList).trans h.perm
theorem Prm.bub {n k d : Nat} {p : Array Nat} (h : Prm N n p) (hk : k < n) (hd : d ≤ k) : Prm N n (bubble p k d) where
  size := (bubble_size _ _ _).trans h.size
  sma := h.sma.bub (by rw [h.size]; exact hk) hd
  perm := ((bubble_perm p k d).toList).trans h.perm
theorem asc_snoc {p : Array Nat} {n : Nat} (h1 : 1 ≤ n) (h : Asc key p n) (hn : ¬ gk key p n < gk key p (n - 1)) : Asc key p (n + 1) := fun i j hij hj => by
  by_cases e : j = n
  · subst e
    by_cases e2 : i = j
    · subst e2; exact List.lt_irrefl _
    · exact nlt_trans (h i (j - 1) (by omega) (by omega)) hn
  · exact h i j hij (by omega)
theorem dsc_snoc {p : Array Nat} {n : Nat} (h1 : 1 ≤ n) (h : Dsc key p n) (hn : ¬ gk key p (n - 1) < gk key p n) : Dsc key p (n + 1) := fun i j hij hj => by
  by_cases e : j = n
  · subst e
    by_cases e2 : i = j
    · subst e2; exact List.lt_irrefl _
    · exact nlt_trans hn (h i (j - 1) (by omega) (by omega))
  · exact h i j hij (by omega)
theorem h_asc {p : Array Nat} {M : Nat} (hp : Sma N p) : ∀ (f n : Nat), 1 ≤ n → n + f = M → Asc key p n → Hold N key (fun m => n ≤ m ∧ m ≤ M ∧ Asc key p m ∧ (m = M ∨ gk key p m < gk key p (m - 1))) (kas_asc p f n)
  | 0, n, h1, h2, ha => ⟨Nat.le_refl _, by omega, ha, .inl (by omega)⟩
  | f + 1, n, h1, h2, ha => by
    refine ⟨hp _, hp _, ?_⟩
    by_cases h : key (p.getD n 0) < key (p.getD (n - 1) 0)
    · simp only [decide_eq_true h, if_true]
      exact ⟨Nat.le_refl _, by omega, ha, .inr h⟩
    · simp only [decide_eq_false h, Bool.false_eq_true, if_false]
      exact hold_mono (fun m hm => ⟨by omega, hm.2⟩) (h_asc hp f (n + 1) (by omega) (by omega) (asc_snoc h1 ha h))
theorem dsc_rev {p : Array Nat} {n : Nat} (hn : n ≤ p.size) (h : Dsc key p n) : Asc key (kas_rev p 0 n) n := fun i j hij hj => by
  show ¬ key _ < key _
  rw [rev_at hn, rev_at hn, if_pos ⟨by omega, by omega⟩, if_pos ⟨by omega, by omega⟩]
  exact h _ _ (by omega) (by omega)
/-- the last q + 1 keys ahead of n are equal -/
noncomputable def Eqs (key : Nat → List Nat) (p : Array Nat) (n q : Nat) : Prop := ∀ k, n - (q + 1) ≤ k → k < n → gk key p k = gk key p (n - 1)
theorem eqs_one (p : Array Nat) (n : Nat) : Eqs key p (n + 1) 0 := fun k h1 h2 => by
  have : k = n := by omega
  subst this; rfl
theorem rev_eqs {p : Array Nat} {n q : Nat} (hn : n ≤ p.size) (hq : q + 1 ≤ n) (h : Eqs key p n q) (k : Nat) : gk key (kas_rev p (n - (q + 1)) n) k = gk key p k := by
  show key _ = key _
  rw [rev_at hn]
  by_cases hk : n - (q + 1) ≤ k ∧ k < n
  · rw [if_pos hk]
    have e1 : key (p.getD (n - (q + 1) + n - 1 - k) 0) = _ := h _ (by omega) (by omega)
    have e2 : key (p.getD k 0) = _ := h k hk.1 hk.2
    rw [e1, e2]
  · rw [if_neg hk]
theorem dsc_congr {p p' : Array Nat} {n : Nat} (e : ∀ k, gk key p' k = gk key p k) (h : Dsc key p n) : Dsc key p' n := fun i j hij hj => by rw [e i, e j]; exact h i j hij hj
theorem h_desc {n0 M : Nat} : ∀ (f : Nat) (p : Array Nat) (n q : Nat), Prm N n0 p → 1 ≤ n → n + f = M → M ≤ n0 → q + 1 ≤ n → Dsc key p n → Eqs key p n q →
    Hold N key (fun r => Prm N n0 r.1 ∧ 1 ≤ r.2.1 ∧ r.2.1 ≤ M ∧ r.2.2 + 1 ≤ r.2.1 ∧ Dsc key r.1 r.2.1 ∧ Eqs key r.1 r.2.1 r.2.2) (kas_desc f p n q)
  | 0, p, n, q, hp, h1, h2, h3, hq, hd, he => ⟨hp, h1, by show n ≤ M; omega, hq, hd, he⟩
  | f + 1, p, n, q, hp, h1, h2, h3, hq, hd, he => by
    refine ⟨hp.sma _, hp.sma _, ?_⟩
    have e1 : ∀ p n, Eqs key p (n + 1) 0 := eqs_one
    by_cases h : key (p.getD n 0) < key (p.getD (n - 1) 0)
    · have hasym : ∀ {a b : List Nat}, a < b → ¬ b < a := fun h h' => List.lt_irrefl _ (List.lt_trans h h')
      simp only [decide_eq_true h, if_true]
      by_cases hq0 : q > 0
      · rw [if_pos hq0]
        have ee := rev_eqs (p := p) (by rw [hp.size]; omega) hq he
        refine h_desc f _ (n + 1) 0 (hp.rev (by omega)) (by omega) (by omega) h3 (by omega) (dsc_snoc h1 (dsc_congr ee hd) ?_) (e1 _ _)
        rw [ee, ee]
        exact hasym h
      · rw [if_neg hq0]
        exact h_desc f p (n + 1) 0 hp (by omega) (by omega) h3 (by omega) (dsc_snoc h1 hd (hasym h)) (e1 _ _)
    · simp only [decide_eq_false h, Bool.false_eq_true, if_false]
      refine ⟨hp.sma _, hp.sma _, ?_⟩
      by_cases h' : key (p.getD (n - 1) 0) < key (p.getD n 0)
      · simp only [decide_eq_true h', if_true]
        exact ⟨hp, h1, by show n ≤ M; omega, hq, hd, he⟩
      · simp only [decide_eq_false h', Bool.false_eq_true, if_false]
        have heq : gk key p n = gk key p (n - 1) := List.le_antisymm (List.not_lt.mp h') (List.not_lt.mp h)
        refine h_desc f p (n + 1) (q + 1) hp (by omega) (by omega) h3 (by omega) (dsc_snoc h1 hd h') fun k hk1 hk2 => ?_
        by_cases e : k = n
        · subst e; rfl
        · rw [he k (by omega) (by omega)]; exact heq.symm
theorem h_tail3 {n0 n : Nat} {p : Array Nat} (hp : Prm N n0 p) (h1 : 1 ≤ n) (hn : n ≤ n0) (hd : Dsc key p n) : Hold N key (fun r => Prm N n0 r.2 ∧ 1 ≤ r.1 ∧ r.1 ≤ n0 ∧ Asc key r.2 r.1) (kas_tail3 n n0 p) := by
  have hp' := hp.rev (i := 0) hn
  refine hold_bind (hold_mono (fun m hm => ?_) (h_asc (M := n0) hp'.sma (n0 - n) n h1 (by omega) (dsc_rev (by rw [hp.size]; exact hn) hd)))
  exact ⟨hp', by show 1 ≤ m; omega, hm.2.1, hm.2.2.1⟩
theorem h_descPart {n0 n : Nat} {p : Array Nat} (hp : Prm N n0 p) (h1 : 1 ≤ n) (hn : n + 1 ≤ n0) (hd : Dsc key p (n + 1)) : Hold N key (fun r => Prm N n0 r.2 ∧ 1 ≤ r.1 ∧ r.1 ≤ n0 ∧ Asc key r.2 r.1) (kas_descPart n n0 p) := by
  refine hold_bind (hold_mono (fun r hr => ?_) (h_desc (n0 - (n + 1)) p (n + 1) 0 hp (by omega) (by omega) (Nat.le_refl n0) (by omega) hd (eqs_one _ _)))
  obtain ⟨a1, a2, a3, a4, a5, a6⟩ := hr
  by_cases hq : r.2.2 > 0
  · rw [if_pos hq]
    exact h_tail3 (a1.rev a3) a2 a3 (dsc_congr (rev_eqs (by rw [a1.size]; exact a3) a4 a6) a5)
  · rw [if_neg hq]
    exact h_tail3 a1 a2 a3 a5
theorem h_count {n0 : Nat} {p : Array Nat} (hp : Prm N n0 p) (h2 : 2 ≤ n0) : Hold N key (fun r => Prm N n0 r.2 ∧ 1 ≤ r.1 ∧ r.1 ≤ n0 ∧ Asc key r.2 r.1) (kas_count n0 p) := by
  have hasym : ∀ {a b : List Nat}, a < b → ¬ b < a := fun h h' => List.lt_irrefl _ (List.lt_trans h h')
  refine hold_bind (hold_mono (fun n hn => ?_) (h_asc hp.sma (n0 - 1) 1 (Nat.le_refl _) (M := n0) (by omega) fun i j hij hj => by
    have : i = j := by omega
    subst this; exact List.lt_irrefl _))
  obtain ⟨a1, a2, a3, a4⟩ := hn
  by_cases e : n = n0
  · rw [if_pos (by simpa using e)]; exact ⟨hp, a1, a2, a3⟩
  · rw [if_neg (by simpa using e)]
    have hlt : gk key p n < gk key p (n - 1) := a4.resolve_left e
    by_cases hn1 : n > 1
    · rw [if_pos hn1]
      refine ⟨hp.sma _, hp.sma _, ?_⟩
      by_cases hc : key (p.getD 0 0) < key (p.getD (n - 1) 0)
      · simp only [decide_eq_true hc, if_true]; exact ⟨hp, a1, a2, a3⟩
      · simp only [decide_eq_false hc, Bool.false_eq_true, if_false]
        have heq : ∀ k, k < n → gk key p k = gk key p (n - 1) := fun k hk =>
          List.le_antisymm (List.not_lt.mp (a3 k (n - 1) (by omega) (by omega))) (List.not_lt.mp (nlt_trans hc (a3 0 k (by omega) hk)))
        have ee : ∀ k, gk key (kas_rev p 0 n) k = gk key p k := by
          have := rev_eqs (key := key) (p := p) (n := n) (q := n - 1) (by rw [hp.size]; omega) (by omega) fun k _ hk => heq k hk
          rwa [show n - (n - 1 + 1) = 0 by omega] at this
        refine h_descPart (hp.rev a2) a1 (by omega) (dsc_congr ee (dsc_snoc a1 (fun i j hij hj => ?_) (hasym hlt)))
        rw [heq i (by omega), heq j hj]; exact List.lt_irrefl _
    · rw [if_neg hn1]
      have : n = 1 := by omega
      subst this
      refine h_descPart hp (Nat.le_refl _) (by omega) (dsc_snoc (Nat.le_refl _) (fun i j hij hj => ?_) (hasym hlt))
      have : i = j := by omega
      subst this; exact List.lt_irrefl _
theorem h_place {p : Array Nat} {k : Nat} (hp : Sma N p) (ha : Asc key p k) : ∀ (f l r : Nat), l ≤ r → r ≤ k → r - l ≤ f → (∀ i, i < l → ¬ gk key p k < gk key p i) → (∀ i, r ≤ i → i < k → gk key p k < gk key p i) →
    Hold N key (fun m => m ≤ k ∧ (∀ i, i < m → ¬ gk key p k < gk key p i) ∧ ∀ i, m ≤ i → i < k → gk key p k < gk key p i) (kas_place p k f l r)
  | 0, l, r, h1, h2, h3, h4, h5 => ⟨by show l ≤ k; omega, h4, fun i a b => h5 i (by have : l ≤ i := a; omega) b⟩
  | f + 1, l, r, h1, h2, h3, h4, h5 => by
    unfold kas_place
    by_cases hlr : l ≥ r
    · rw [if_pos hlr]
      exact ⟨by show l ≤ k; omega, h4, fun i a b => h5 i (by have : l ≤ i := a; omega) b⟩
    · rw [if_neg hlr]
      refine ⟨hp _, hp _, ?_⟩
      by_cases hc : key (p.getD k 0) < key (p.getD ((l + r) / 2) 0)
      · simp only [decide_eq_true hc, if_true]
        refine h_place hp ha f l ((l + r) / 2) (by omega) (by omega) (by omega) h4 fun i a b => ?_
        have hh := ha ((l + r) / 2) i a b
        exact Classical.byContradiction fun hn => hh (List.lt_of_le_of_lt (List.not_lt.mp hn) hc)
      · simp only [decide_eq_false hc, Bool.false_eq_true, if_false]
        refine h_place hp ha f ((l + r) / 2 + 1) r (by omega) h2 (by omega) (fun i a => ?_) h5
        exact nlt_trans (ha i ((l + r) / 2) (by omega) (by omega)) hc
theorem h_bin {n0 : Nat} : ∀ (f : Nat) (p : Array Nat) (k : Nat), Prm N n0 p → 1 ≤ k → k + f = n0 → Asc key p k → Hold N key (fun q => Prm N n0 q ∧ Asc key q n0) (kas_bin f p k)
  | 0, p, k, hp, h1, h2, ha => ⟨hp, by rw [show n0 = k by omega]; exact ha⟩
  | f + 1, p, k, hp, h1, h2, ha => by
    refine hold_bind (hold_mono (fun m hm => ?_) (h_place hp.sma ha k 0 k (by omega) (Nat.le_refl _) (by omega) (fun i h => by omega) fun i h h' => by omega))
    obtain ⟨a1, a2, a3⟩ := hm
    have hb : ∀ i, (bubble p k (k - m)).getD i 0 = if i = m then p.getD k 0 else if m < i ∧ i ≤ k then p.getD (i - 1) 0 else p.getD i 0 := fun i => by
      rw [bub_at (by rw [hp.size]; omega) (by omega), show k - (k - m) = m by omega]
    refine h_bin f _ (k + 1) (hp.bub (by omega) (by omega)) (by omega) (by omega) fun i j hij hj => ?_
    have hasym : ∀ {a b : List Nat}, a < b → ¬ b < a := fun h h' => List.lt_irrefl _ (List.lt_trans h h')
    show ¬ key _ < key _
    rw [hb i, hb j]
    by_cases i1 : i = m
    · rw [if_pos i1]
      by_cases j1 : j = m
      · rw [if_pos j1]; exact List.lt_irrefl _
      · rw [if_neg j1, if_pos ⟨by omega, by omega⟩]
        exact hasym (a3 (j - 1) (by omega) (by omega))
    · rw [if_neg i1]
      by_cases i2 : m < i ∧ i ≤ k
      · rw [if_pos i2, if_neg (by omega), if_pos ⟨by omega, by omega⟩]
        exact ha _ _ (by omega) (by omega)
      · rw [if_neg i2]
        by_cases j1 : j = m
        · rw [if_pos j1]; exact a2 i (by omega)
        · rw [if_neg j1]
          by_cases j2 : m < j ∧ j ≤ k
          · rw [if_pos j2]; exact ha _ _ (by omega) (by omega)
          · rw [if_neg j2]; exact ha _ _ (by omega) (by omega)
theorem h_sort {n : Nat} (h2 : 2 ≤ n) : Hold n key (fun q => Prm n n q ∧ Asc key q n) (kas_sort n) := by
  have hp : Prm n n (List.toArray (List.range n)) := ⟨by simp, fun i => by
    rw [getD_q]
    by_cases h : i < n
    · simp [h]
    · simp [h]; omega, by simp⟩
  refine hold_bind (hold_mono (fun r hr => ?_) (h_count hp h2))
  obtain ⟨a1, a2, a3, a4⟩ := hr
  by_cases h : r.1 < n
  · rw [if_pos h, show max r.1 1 = r.1 by omega]
    exact h_bin _ _ _ a1 a2 (by omega) a4
  · rw [if_neg h]
    have : r.1 = n := by omega
    rw [this] at a4
    exact ⟨a1, a4⟩
end

end
section
/-! ## Lists of figures compared -/
theorem iv_at {xs : List Value} {ns : List Nat} {i : Nat} (hx : IntsAre xs (iv ns)) (hi : i < ns.length) : ∃ t, xs[i]? = some (.int ((ns[i] : Nat) : Int) t) :=
  IntsAre.at' hx (by unfold iv; rw [List.getElem?_map, List.getElem?_eq_getElem hi]; rfl)
theorem iv_len {xs : List Value} {ns : List Nat} (hx : IntsAre xs (iv ns)) : xs.length = ns.length := by rw [hx.length]; unfold iv; simp
open AutoSeq1 (wpAny_loadPart') in
open PySem.SeqAt PySem.MeetsSeq3 in
theorem lt_loop (l b : Addr) (xs ys : List Value) (ns ms : List Nat) (n n2 : Nat) (hx : IntsAre xs (iv ns)) (hy : IntsAre ys (iv ms)) (k : Nat) :
    ∀ i : Nat, ns.length - i = k → i ≤ ns.length → i ≤ ms.length → Meets (Builtin.«list.__eq__.loop» ⟨[.ref l, .ref b, rawInt i, rawInt 0], []⟩)
      (fun A R s => s.heap.get? l = some { cls := .type "list", data := .seq xs.toArray n } ∧ s.heap.get? b = some { cls := .type "list", data := .seq ys.toArray n2 } ∧ R (.ok (.ret (.bool (decide (ns.drop i < ms.drop i))))) s) := by
  have hxl := iv_len hx
  have hyl := iv_len hy
  induction k with
  | zero =>
    intro i hk hi hi2 prog w A R s h
    obtain ⟨hp, g, d, tk, os⟩ := s; obtain ⟨hl, hb, h⟩ := h
    wp_walk using wpAny_loadPart' hl, wpAny_loadPart' hb
    have h1 : xs.toArray[((i : Nat) : Int).toNat]? = none := by simp; omega
    rw [h1]
    wp_walk using wpAny_loadPart' hl, wpAny_loadPart' hb
    show R (.ok (.ret (.bool (decide (xs.toArray.size < ys.toArray.size))))) _
    have hin : i = ns.length := by omega
    have e : decide (ns.drop i < ms.drop i) = decide (xs.toArray.size < ys.toArray.size) := by
      rw [decide_eq_decide, hin, List.drop_length]
      simp only [List.size_toArray]
      cases hm : ms.drop ns.length with
      | nil =>
        have := congrArg List.length hm
        rw [List.length_drop, List.length_nil] at this
        constructor
        · intro h; exact absurd h (List.lt_irrefl _)
        · intro h; omega
      | cons a r =>
        have := congrArg List.length hm
        rw [List.length_drop, List.length_cons] at this
        constructor
        · intro _; omega
        · intro _; exact List.Lex.nil
    rw [← e]; exact h
  | succ k ih =>
    intro i hk hi hi2 prog w A R s h
    obtain ⟨hp, g, d, tk, os⟩ := s; obtain ⟨hl, hb, h⟩ := h
    have hlt : i < ns.length := by omega
    obtain ⟨tx, hx1⟩ := iv_at hx hlt
    have hx2 : xs.toArray[((i : Nat) : Int).toNat]? = some (.int ((ns[i] : Nat) : Int) tx) := by simpa using hx1
    have hdn : ns.drop i = ns[i] :: ns.drop (i + 1) := List.drop_eq_getElem_cons hlt
    by_cases hlt2 : i < ms.length
    · obtain ⟨ty, hy1⟩ := iv_at hy hlt2
      have hy2 : ys.toArray[((i : Nat) : Int).toNat]? = some (.int ((ms[i] : Nat) : Int) ty) := by simpa using hy1
      have hdm : ms.drop i = ms[i] :: ms.drop (i + 1) := List.drop_eq_getElem_cons hlt2
      have hc : ((i : Int) + 1) = ((i + 1 : Nat) : Int) := by push_cast; rfl
      wp_walk using wpAny_loadPart' hl, wpAny_loadPart' hb
      rw [hx2, hy2]
      refine wpAny_bind (EqAt.int_int (A := A.in1) (s := ⟨hp, g, d, tk, os⟩) _ tx _ ty prog w _ _ ?_)
      rw [hdn, hdm] at h
      by_cases he : ns[i] = ms[i]
      · have hb' : (((ns[i] : Nat) : Int) == ((ms[i] : Nat) : Int)) = true := by rw [he]; simp
        rw [hb']
        wp_walk
        rw [hc]
        refine ⟨plainId_quiet plain_eq_loop _, codeAny_builtin entry_eq_loop ?_⟩
        rw [Around.under_plainId plain_eq_loop _]
        refine ih (i + 1) (by omega) (by omega) (by omega) prog w A R _ ⟨hl, hb, ?_⟩
        have e : decide (ns[i] :: ns.drop (i + 1) < ms[i] :: ms.drop (i + 1)) = decide (ns.drop (i + 1) < ms.drop (i + 1)) := by
          rw [decide_eq_decide, List.cons_lt_cons_iff, he]
          simp
        rw [e] at h; exact h
      · have hb' : (((ns[i] : Nat) : Int) == ((ms[i] : Nat) : Int)) = false := by simp; omega
        rw [hb']
        wp_walk using wpAny_loadPart' hl, wpAny_loadPart' hb
        rw [hx2, hy2]
        refine wpAny_bind (PyProof.Rows.lt_int (prog := prog) (w := w) ?_)
        wp_walk
        have e : decide (ns[i] :: ns.drop (i + 1) < ms[i] :: ms.drop (i + 1)) = decide (((ns[i] : Nat) : Int) < ((ms[i] : Nat) : Int)) := by
          rw [decide_eq_decide, List.cons_lt_cons_iff]
          simp [he]
        rw [e] at h; exact h
    · have hy2 : ys.toArray[((i : Nat) : Int).toNat]? = none := by simp; omega
      wp_walk using wpAny_loadPart' hl, wpAny_loadPart' hb
      rw [hx2, hy2]
      wp_walk using wpAny_loadPart' hl, wpAny_loadPart' hb
      show R (.ok (.ret (.bool (decide (xs.toArray.size < ys.toArray.size))))) _
      have e : decide (ns.drop i < ms.drop i) = decide (xs.toArray.size < ys.toArray.size) := by
        rw [decide_eq_decide, show ms.drop i = [] from List.drop_of_length_le (by omega), hdn]
        simp only [List.size_toArray]
        constructor
        · intro h; exact absurd h (List.not_lt_nil _)
        · intro h; omega
      rw [← e]; exact h
open AutoSeq1 (wpAny_loadPart') in
open PySem.SeqAt PySem.MeetsSeq3 in
theorem list_lt (l b : Addr) (xs ys : List Value) (ns ms : List Nat) (n n2 : Nat) (hx : IntsAre xs (iv ns)) (hy : IntsAre ys (iv ms)) :
    Meets (Builtin.«list.__lt__» ⟨[.ref l, .ref b], []⟩)
      (fun A R s => s.heap.get? l = some { cls := .type "list", data := .seq xs.toArray n } ∧ s.heap.get? b = some { cls := .type "list", data := .seq ys.toArray n2 } ∧ R (.ok (.ret (.bool (decide (ns < ms))))) s) := by
  intro prog w A R s h
  obtain ⟨hp, g, d, tk, os⟩ := s; obtain ⟨hl, hb, h⟩ := h
  have f3 := AutoSeq1.sub_list_list
  wp_walk using wpAny_loadPart' hl, wpAny_loadPart' hb
  exact ⟨plainId_quiet plain_eq_loop _, codeAny_builtin entry_eq_loop (by
    rw [Around.under_plainId plain_eq_loop _]
    exact lt_loop l b xs ys ns ms n n2 hx hy _ 0 rfl (Nat.zero_le _) (Nat.zero_le _) prog w A R _ ⟨hl, hb, h⟩)⟩
theorem key_lt {w : World} {prog : Program} {A : Around} {z s : Shared} {L : Led} {E : Value → Shared → Prop} {Q : Bool → Shared → Prop} {l b : Addr} {xs ys : List Value} {ns ms : List Nat} (hu : A.units < 9000) (H : Stt z s L) (h1 : (l, Lst xs) ∈ L) (h2 : (b, Lst ys) ∈ L) (hx : IntsAre xs (iv ns)) (hy : IntsAre ys (iv ms))
    (h : Q (decide (ns < ms)) s) : wpAny (model prog w) A (keyLt' oneType' (.ref l) (.ref b)) Q E s := by
  obtain ⟨o, e1, n, rfl⟩ := H.get h1
  obtain ⟨o2, e2, n2, rfl⟩ := H.get h2
  rw [keyLt'_oneType, oneLt'_eq]
  simp only [if_true]
  refine wpAny_bind (wpAny_cRoomFor (by unfold cLine; omega) ?_)
  refine wpAny_bind (wpAny_callSpecialIfBound?_slot ⟨_, e1, rfl⟩ PySem.F.slot_list_lt (call_meets PySem.F.slot_list_lt ⟨_, e1, rfl⟩ PySem.F.entry_list_lt (PySem.F.args_list_lt_2 _ _) (list_lt l b xs ys ns ms n n2 hx hy) ⟨e1, e2, ?_⟩))
  exact wpAny_truthy_bool h

end
section
/-! ## sorted with a key, over a range -/
noncomputable def allN (h : Heap) (ex : List Addr) : List (Addr × Obj) := (List.range h.objs.size).filterMap fun b => if b ∈ ex then none else (h.get? b).map fun o => (b, o)
theorem mem_allN {h : Heap} {ex : List Addr} {p : Addr × Obj} : p ∈ allN h ex ↔ p.1 ∉ ex ∧ h.get? p.1 = some p.2 := by
  unfold allN
  rw [List.mem_filterMap]
  constructor
  · rintro ⟨b, hb, e⟩
    by_cases hx : b ∈ ex
    · rw [if_pos hx] at e; cases e
    · rw [if_neg hx, Option.map_eq_some_iff] at e
      obtain ⟨o, e1, rfl⟩ := e
      exact ⟨hx, e1⟩
  · rintro ⟨h1, h2⟩
    exact ⟨p.1, List.mem_range.mpr (Heap.lt_size h2), by rw [if_neg h1, h2]; rfl⟩
noncomputable abbrev noHeap : Heap := {}
theorem noHeap_get (b : Addr) : noHeap.get? b = none := Heap.get?_none_of_le (Nat.zero_le _)
section
variable {z s : Shared} {L : Led} {Lf a : Addr} {names : List Str} {vals : List (Option Value)} {P P' : Pr}
theorem Stt.fr (H : Stt z s L) (hm : (Lf, Fra names vals) ∈ L) : Fr noHeap Lf s.heap (look names vals) := by
  obtain ⟨o, e, f⟩ := H.get hm
  exact ⟨Fra.ns e f, fun b o e => (by rw [noHeap_get] at e; cases e), Nat.zero_le _⟩
theorem news_all (h : Heap) (Lf : Addr) (ex : List Addr) : News noHeap Lf h (allN h (Lf :: ex)) := fun p hp => by
  obtain ⟨h1, h2⟩ := mem_allN.mp hp
  exact ⟨h2, fun e => h1 (by rw [e]; exact List.mem_cons_self), noHeap_get _⟩
theorem Stt.back (H : Stt z s ((a, P) :: L)) (hm : (Lf, Fra names vals) ∈ L) {h' : Heap} {t : Nat} {o' : Obj} (F : Fr noHeap Lf h' (look names vals)) (N : News noHeap Lf h' ((a, o') :: allN s.heap [Lf, a])) (hp : P' o') : Stt z { s with heap := h', toks := t } ((a, P') :: L) := by
  have hz := (H.own _ List.mem_cons_self).2
  have hzL := (H.own _ (List.mem_cons_of_mem _ hm)).2
  have nd := H.nd
  rw [List.map_cons, List.nodup_cons] at nd
  have old : ∀ b o, b ≠ Lf → b ≠ a → s.heap.get? b = some o → h'.get? b = some o := fun b o h1 h2 e => (N (b, o) (List.mem_cons_of_mem _ (mem_allN.mpr ⟨by simp [h1, h2], e⟩))).1
  refine ⟨fun b o e => old b o (fun q => ?_) (fun q => ?_) (H.keep b o e), fun p hp' => ?_, H.nd, H.gens, H.os⟩
  · subst q; rw [hzL] at e; cases e
  · subst q; rw [hz] at e; cases e
  · rcases List.mem_cons.mp hp' with rfl | hp'
    · exact ⟨⟨o', (N _ List.mem_cons_self).1, hp⟩, hz⟩
    · have hne : p.1 ≠ a := fun q => nd.1 (List.mem_map.mpr ⟨p, hp', q⟩)
      obtain ⟨⟨o, h1, h2⟩, h3⟩ := H.own _ (List.mem_cons_of_mem _ hp')
      refine ⟨?_, h3⟩
      by_cases hL : p.1 = Lf
      · have e : p.2 = Fra names vals := nodup_same nd.2 (a := p.1) hp' (by rw [hL]; exact hm)
        obtain ⟨o2, q1, q2⟩ := Fra.of_ns F.ns (names := names) (vals := vals) fun _ => rfl
        exact ⟨o2, by rw [hL]; exact q1, by rw [e]; exact q2⟩
      · exact ⟨o, old _ _ hL hne h1, h2⟩
theorem Stt.start (H : Stt z s ((a, P) :: L)) (hm : (Lf, Fra names vals) ∈ L) {h' : Heap} {t : Nat} {o' o2 : Obj} {kS : Addr} {P2 : Pr} (F : Fr noHeap Lf h' (look names vals)) (N : News noHeap Lf h' ((kS, o2) :: (a, o') :: allN s.heap [Lf, a])) (hak : a < kS) (hk : ∀ q ∈ allN s.heap [Lf, a], q.1 < kS) (hp : P' o') (hp2 : P2 o2) :
    Stt z { s with heap := h', toks := t } ((kS, P2) :: (a, P') :: L) := by
  have H1 := H.back (t := t) hm F (fun p hp => N p (List.mem_cons_of_mem _ hp)) hp
  have nk := N _ List.mem_cons_self
  have hz := (H.own _ List.mem_cons_self).2
  have hzL := (H.own _ (List.mem_cons_of_mem _ hm)).2
  have below : ∀ b o, b ≠ Lf → s.heap.get? b = some o → b ≠ kS := fun b o h1 e q => by
    subst q
    by_cases h2 : b = a
    · subst h2; exact Nat.lt_irrefl _ hak
    · exact Nat.lt_irrefl _ (hk (b, o) (mem_allN.mpr ⟨by simp [h1, h2], e⟩))
  refine H1.add nk.1 hp2 ?_ fun p hp' => ?_
  · cases e : z.heap.get? kS with
    | none => rfl
    | some o => exact absurd rfl (below kS o nk.2.1 (H.keep _ _ e))
  · rcases List.mem_cons.mp hp' with rfl | hp'
    · exact Nat.ne_of_lt hak
    · by_cases hL : p.1 = Lf
      · rw [hL]; exact fun e => nk.2.1 e.symm
      · obtain ⟨⟨o, h1, _⟩, _⟩ := H.own _ (List.mem_cons_of_mem _ hp')
        exact below _ o hL h1
end
theorem hold_wp {N : Nat} {key : Nat → List Nat} {α : Type} {cmp : Nat → Nat → (Bool → Shared → Prop) → Shared → Prop} {Q : α → Prop} {G : α → Shared → Prop} {s : Shared} (hc : ∀ i j C, i < N → j < N → C (decide (key i < key j)) s → cmp i j C s) (hg : ∀ a, Q a → G a s) :
    ∀ {t : KasT α}, Hold N key Q t → t.kasWp cmp G s
  | .ret a, h => hg a h
  | .ask i j k, h => hc i j _ h.1 h.2.1 (hold_wp hc hg h.2.2)
structure Kt where
  c : Addr
  vs : List Value
  ns : List Nat
noncomputable abbrev ktL (kl : List Kt) : Led := kl.map fun k => (k.c, Lst k.vs)
noncomputable abbrev ktV (kl : List Kt) : List Value := kl.reverse.map fun k => .ref k.c
noncomputable abbrev Exo (o : Obj) : Pr := fun o' => o' = o
section
variable {w : World} {prog : Program} {A : Around} {z s : Shared} {L : Led} {Lf a : Addr} {names : List Str} {vals : List (Option Value)} {fg : Nat → List Nat}
theorem looks_list {M : Model} {l : Addr} {xs : List Value} (H : Stt z s L) (hm : (l, Lst xs) ∈ L) : Looks M s.heap (typeOf (.ref l)) (.type "list") := by
  obtain ⟨o, e, n, rfl⟩ := H.get hm
  exact (Looks.ld (part := none) e).andThen .now
/-- what calling the key does -/
noncomputable def KeyDoes (prog : Program) (w : World) (A : Around) (z : Shared) (L : Led) (f : Value) (fg : Nat → List Nat) (n : Nat) : Prop :=
  ∀ (i : Nat) (t : Tok) (M : Led) (s : Shared), i < n → Stt z s (M ++ L) → wpAny (model prog w) A (call f [.int (i : Int) t]) (fun k s' => ∃ c vs, k = .ref c ∧ IntsAre vs (iv (fg i)) ∧ Stt z s' ((c, Lst vs) :: (M ++ L))) (fun _ _ => False) s
theorem keys_run {n : Nat} {f : Value} {e1 : Nat} {kS : Addr} {Fin : List Value → Nat → Shared → Prop} (hm : (Lf, Fra names vals) ∈ L) (hkd : KeyDoes prog w A z L f fg n) :
    ∀ (r : List Value) (is : List Nat), IntsAre r (iv is) → (∀ i ∈ is, i < n) → ∀ (kl : List Kt) (e : Nat) (s : Shared), (∀ k ∈ kl, IntsAre k.vs (iv k.ns)) →
    Stt z s ((kS, Exo (seqObj "list" (ktV kl).toArray e)) :: (a, Exo (seqObj "list" #[] e1)) :: (ktL kl ++ L)) →
    (∀ (kl' : List Kt) (e' : Nat) (s' : Shared), (∀ k ∈ kl', IntsAre k.vs (iv k.ns)) → kl'.reverse.map (·.ns) = kl.reverse.map (·.ns) ++ is.map fg → Stt z s' ((kS, Exo (seqObj "list" (ktV kl').toArray e')) :: (a, Exo (seqObj "list" #[] e1)) :: (ktL kl' ++ L)) → Fin (ktV kl') e' s') →
    KatKeys prog w A noHeap Lf (look names vals) kS f Fin r (ktV kl) e s
  | [], [], _, _, kl, e, s, hk, H, h => KatKeys.nil (h kl e s hk (by simp) H)
  | [], i :: is, hr, _, _, _, _, _, _, _ => by have := iv_len hr; simp at this
  | v :: r, [], hr, _, _, _, _, _, _, _ => by have := iv_len hr; simp at this
  | v :: r, i :: is, hr, hi, kl, e, s, hk, H, h => by
    have hr' : IntsAre (v :: r) ((i : Int) :: iv is) := hr
    cases hr' with
    | cons m t hr2 =>
    refine KatKeys.cons (wpAny_mono (hkd i t ((kS, Exo (seqObj "list" (ktV kl).toArray e)) :: (a, Exo (seqObj "list" #[] e1)) :: ktL kl) s (hi i List.mem_cons_self) H) (fun k s' hk' => ?_) fun _ _ x => x)
    obtain ⟨c, vs, rfl, hvs, H'⟩ := hk'
    have H2 : Stt z s' ((kS, Exo (seqObj "list" (ktV kl).toArray e)) :: ((c, Lst vs) :: (a, Exo (seqObj "list" #[] e1)) :: (ktL kl ++ L))) := H'.perm (List.Perm.swap _ _ _)
    have hm2 : (Lf, Fra names vals) ∈ (c, Lst vs) :: (a, Exo (seqObj "list" #[] e1)) :: (ktL kl ++ L) := List.mem_cons_of_mem _ (List.mem_cons_of_mem _ (List.mem_append_right _ hm))
    obtain ⟨o, ho, rfl⟩ := H2.get (a := kS) List.mem_cons_self
    refine KatBack.intro (H2.fr (List.mem_cons_of_mem _ hm2)) (news := (kS, seqObj "list" (ktV kl).toArray e) :: allN s'.heap [Lf, kS]) (fun p hp => ?_) (UpdF.head fun p hp => ?_) fun h' c' F' N' => ?_
    · rcases List.mem_cons.mp hp with rfl | hp
      · refine ⟨ho, fun q => ?_, noHeap_get _⟩
        have nd := H2.nd
        rw [List.map_cons, List.nodup_cons] at nd
        exact nd.1 (List.mem_map.mpr ⟨_, hm2, q.symm⟩)
      · exact news_all _ _ _ p hp
    · intro q
      exact (mem_allN.mp hp).1 (by rw [q]; simp)
    · have H3 := H2.back (t := s'.toks) hm2 F' N' (P' := Exo (seqObj "list" (ktV kl ++ [Value.ref c]).toArray c')) rfl
      have ev : ktV (⟨c, vs, fg i⟩ :: kl) = ktV kl ++ [Value.ref c] := by simp [ktV]
      rw [← ev] at H3 ⊢
      refine keys_run hm hkd r is hr2 (fun j hj => hi j (List.mem_cons_of_mem _ hj)) (⟨c, vs, fg i⟩ :: kl) c' _ (fun k hk2 => ?_) (H3.perm ((List.Perm.swap _ _ _).cons _)) fun kl' e' s2 a1 a2 a3 => h kl' e' s2 a1 (a2.trans ?_) a3
      · rcases List.mem_cons.mp hk2 with rfl | hk2
        · exact hvs
        · exact hk k hk2
      · simp
theorem sort_key {n : Nat} {f : Value} {items : List Value} {e0 : Nat} {PP : PySem.Fin → Shared → Prop} {E : Value → Shared → Prop} (hU : A.units < 8000) (h2 : 2 ≤ n) (h64 : n < 64) (hm : (Lf, Fra names vals) ∈ L) (hkd : KeyDoes prog w A z L f fg n) (hi : IntsAre items (iv (List.range n)))
    (H : Stt z s ((a, Exo (seqObj "list" items.toArray e0)) :: L))
    (h : ∀ out p s', IntsAre out (iv p) → p.Perm (List.range n) → p.Pairwise (fun i j => ¬ fg j < fg i) → Stt z s' ((a, Lst out) :: L) → PP (.done (.ret .none)) s') :
    wpAny (model prog w) A (ksk_tree a f false) PP E s := by
  have hil : items.length = n := by rw [iv_len hi]; simp
  obtain ⟨o, ho, rfl⟩ := H.get List.mem_cons_self
  have haL : a ≠ Lf := fun q => by
    have nd := H.nd
    rw [List.map_cons, List.nodup_cons] at nd
    exact nd.1 (List.mem_map.mpr ⟨_, hm, q.symm⟩)
  refine kat_keyed (H.fr (List.mem_cons_of_mem _ hm)) (news_all s.heap Lf [a]) ho haL (noHeap_get _) (fun p hp q => (mem_allN.mp hp).1 (by rw [q]; simp)) (by omega) (by omega) fun kS e1 h' F' N' l0 l1 => ?_
  have H1 := H.start (t := s.toks) hm F' N' l0 l1 (P' := Exo (seqObj "list" #[] e1)) (P2 := Exo (seqObj "list" (ktV []).toArray 0)) rfl rfl
  refine keys_run hm hkd items (List.range n) hi (fun i hi => List.mem_range.mp hi) [] 0 _ (fun k hk => by simp at hk) H1 fun kl e' s1 hkl hns H2 => ?_
  have hns' : kl.reverse.map (·.ns) = (List.range n).map fg := by simpa using hns
  have hklen : kl.length = n := by have := congrArg List.length hns'; simpa using this
  have hkv : (ktV kl).length = n := by simp [ktV, hklen]
  -- the keys
  have hkey : ∀ i, i < n → ∃ k : Kt, kl.reverse[i]? = some k ∧ IntsAre k.vs (iv k.ns) ∧ k.ns = fg i ∧ (ktV kl).getD i Value.none = .ref k.c ∧ (k.c, Lst k.vs) ∈ ktL kl ++ L := fun i hi => by
    have hlt : i < kl.reverse.length := by simp; omega
    refine ⟨kl.reverse[i], List.getElem?_eq_getElem hlt, ?_, ?_, ?_, ?_⟩
    · exact hkl _ (List.mem_reverse.mp (List.getElem_mem hlt))
    · have := congrArg (fun l => l[i]?) hns'
      simp only [List.getElem?_map, List.getElem?_eq_getElem hlt] at this
      rw [List.getElem?_range hi] at this
      simpa using this
    · rw [List.getD_eq_getElem?_getD]
      unfold ktV
      rw [List.getElem?_map, List.getElem?_eq_getElem hlt]; rfl
    · exact List.mem_append_left _ (List.mem_map.mpr ⟨_, List.mem_reverse.mp (List.getElem_mem hlt), rfl⟩)
  have hrev : ∀ l : List Value, katRev false l = l := fun l => by unfold katRev; simp
  refine kas_kind (T := .type "list") (by omega) (fun v hv => ?_) (by decide) (by decide) ?_
  · obtain ⟨k, hk, rfl⟩ := List.mem_map.mp hv
    exact looks_list H2 (List.mem_cons_of_mem _ (List.mem_cons_of_mem _ (List.mem_append_left _ (List.mem_map.mpr ⟨k, List.mem_reverse.mp hk, rfl⟩))))
  rw [hil]
  refine hold_wp (N := n) (key := fg) (Q := fun p => Prm n n p ∧ Asc fg p n) (fun i j C hi hj hC => ?_) (fun p hp => ?_) (h_sort h2)
  · obtain ⟨ki, a1, a2, a3, a4, a5⟩ := hkey i hi
    obtain ⟨kj, b1, b2, b3, b4, b5⟩ := hkey j hj
    unfold kas_ask
    rw [hrev, a4, b4]
    exact key_lt (by omega) H2 (List.mem_cons_of_mem _ (List.mem_cons_of_mem _ a5)) (List.mem_cons_of_mem _ (List.mem_cons_of_mem _ b5)) a2 b2 (by rw [a3, b3]; exact hC)
  · obtain ⟨hp1, hp2⟩ := hp
    rw [hrev, hrev]
    have hm2 : (Lf, Fra names vals) ∈ (a, Exo (seqObj "list" #[] e1)) :: (ktL kl ++ L) := List.mem_cons_of_mem _ (List.mem_append_right _ hm)
    obtain ⟨o2, ho2, rfl⟩ := H2.get (a := kS) List.mem_cons_self
    refine KatFin.intro (H2.fr (List.mem_cons_of_mem _ hm2)) (news := (kS, seqObj "list" (ktV kl).toArray e') :: allN s1.heap [Lf, kS]) (fun p hp => ?_) (UpdF.head fun p hp => ?_) fun h2' c' F2 N2 => ?_
    · rcases List.mem_cons.mp hp with rfl | hp
      · refine ⟨ho2, fun q => ?_, noHeap_get _⟩
        have nd := H2.nd
        rw [List.map_cons, List.nodup_cons] at nd
        exact nd.1 (List.mem_map.mpr ⟨_, hm2, q.symm⟩)
      · exact news_all _ _ _ p hp
    · intro q
      exact (mem_allN.mp hp).1 (by rw [q]; simp)
    · have H3 := (H2.back (t := s1.toks) hm2 F2 N2 (P' := Exo (seqObj "list" #[] c')) rfl).drop1
      have hm3 : (Lf, Fra names vals) ∈ ktL kl ++ L := List.mem_append_right _ hm
      obtain ⟨o3, ho3, rfl⟩ := H3.get (a := a) List.mem_cons_self
      refine KasFin.intro (H3.fr (List.mem_cons_of_mem _ hm3)) (news := (a, seqObj "list" #[] e1) :: allN h2' [Lf, a]) (fun p hp => ?_) (UpdF.head fun p hp => ?_) fun h3' c3 F3 N3 => ?_
      · rcases List.mem_cons.mp hp with rfl | hp
        · exact ⟨ho3, haL, noHeap_get _⟩
        · exact news_all _ _ _ p hp
      · intro q
        exact (mem_allN.mp hp).1 (by rw [q]; simp)
      · have H4 := H3.back (t := s1.toks) hm3 F3 N3 (P' := Lst (p.toList.map fun i => items.getD i Value.none)) ⟨c3, rfl⟩
        refine h _ p.toList _ ?_ hp1.perm ?_ (H4.sub (l := (a, _) :: L) (List.Perm.refl _) ((List.sublist_append_right _ _).cons_cons _))
        · have : ∀ l : List Nat, (∀ i ∈ l, i < n) → IntsAre (l.map fun i => items.getD i Value.none) (iv l) := by
            intro l
            induction l with
            | nil => intro _; exact .nil
            | cons i l ih =>
              intro hl
              obtain ⟨t, ht⟩ := iv_at (i := i) hi (by simpa using hl i List.mem_cons_self)
              have e : items.getD i Value.none = .int (i : Int) t := by rw [List.getD_eq_getElem?_getD, ht]; simp
              rw [List.map_cons, e]
              exact .cons _ _ (ih fun j hj => hl j (List.mem_cons_of_mem _ hj))
          exact this _ fun i hi => List.mem_range.mp (hp1.perm.mem_iff.mp hi)
        · rw [List.pairwise_iff_getElem]
          intro i j hi hj hij
          have hsz := hp1.size
          simp only [Array.length_toList] at hi hj
          have := hp2 i j (Nat.le_of_lt hij) (by omega)
          unfold gk at this
          rw [getD_q, getD_q, Array.getElem?_eq_getElem hi, Array.getElem?_eq_getElem hj] at this
          simpa using this
end

end
section
/-! ## The key: a lambda -/
section
variable {w : World} {mg mb : Str → Option Value} {prog : Program} {A : Around} {E : Value → Shared → Prop} {z s : Shared} {L L' : Led} {rg : Addr} {n : Nat}
theorem col_range {Q : List Value → Shared → Prop} (hh : A.handled = none) (H : Stt z s L) (hm : (rg, Rng (n : Int)) ∈ L) (hn : n ≤ 1000) (h : ∀ items s', IntsAre items (iv (List.range n)) → Stt z s' L → Q items s') : wpAny (model prog w) A (collect (.ref rg)) Q E s := by
  unfold collect
  refine wpAny_bind (wpAny_runValue (codeAny_builtin F.entry_proto_collect ?_))
  rw [Around.under_plainId F.plain_proto_collect _]
  show wpAny _ A.in1 (newList [] >>= fun l => again (.builtin "list.__iadd__" ⟨[l, .ref rg], []⟩)) _ _ s
  refine wpAny_bind (wpAny_newObj_type ?_)
  refine wpAny_pure ⟨plainId_quiet F.plain_list_iadd _, codeAny_builtin F.entry_list_iadd ?_⟩
  rw [Around.under_plainId F.plain_list_iadd _]
  show wpAny _ A.in1 (Builtin.List.listExtendWith (.ref s.heap.objs.size) (.ref rg) (.ref s.heap.objs.size)) _ _ _
  have H1 := H.alloc (t := s.toks) (P := Exo (seqObj "list" #[] 0)) (o := seqObj "list" #[] 0) rfl rfl
  obtain ⟨o, e, t, u, v, rfl⟩ := H1.get (List.mem_cons_of_mem _ hm)
  have fin : ∀ (s'' : Shared), (∃ acc' c', s''.heap.get? s.heap.objs.size = some { cls := .type "list", data := .seq acc' c' } ∧ ItemsOf (fun i v => ∃ t, v = .int ((0 : Int) + (i : Nat) * 1) t) acc' n ∧ Stt z s'' L) → wpAny (model prog w) A (load s.heap.objs.size >>= fun o => match o.data with | .seq xs _ => pure xs.toList | _ => unsupported "internal:collect") Q E s'' := by
    rintro s'' ⟨acc', c', hS, hacc, H2⟩
    refine wpAny_bind (wpAny_load hS (wpAny_pure (h _ _ ?_ H2)))
    have key : ∀ (l : List Value) (k : Nat), (∀ (j : Nat) (v : Value), l[j]? = some v → ∃ t, v = .int ((k + j : Nat) : Int) t) → IntsAre l (iv (List.range' k l.length)) := by
      intro l
      induction l with
      | nil => intro k _; exact .nil
      | cons a l ih =>
        intro k hl
        obtain ⟨t, e⟩ := hl 0 a rfl
        rw [e, List.length_cons, List.range'_succ]
        refine .cons _ _ (ih (k + 1) fun j v hj => ?_)
        obtain ⟨t, e⟩ := hl (j + 1) v (by simpa using hj)
        exact ⟨t, by rw [e, show k + 1 + j = k + (j + 1) by omega]⟩
    have := key acc'.toList 0 fun j v hj => by
      obtain ⟨t, e⟩ := hacc.2 j v (by simpa using hj)
      exact ⟨t, by rw [e]; congr 1; omega⟩
    rw [Array.length_toList, hacc.1, ← List.range_eq_range'] at this
    exact this
  refine wpAny_mono (wpAny_extend_range (n := n) (R := fun r s'' => r = .ok (.ret (.ref s.heap.objs.size)) ∧ ∃ acc' c', s''.heap.get? s.heap.objs.size = some { cls := .type "list", data := .seq acc' c' } ∧ ItemsOf (fun i v => ∃ t, v = .int ((0 : Int) + (i : Nat) * 1) t) acc' n ∧ Stt z s'' L)
    hh e (small_one (by decide) (by decide) (by omega) (by omega)) (by rw [rangeSize_one]; split <;> omega) (by omega) s.heap.objs.size _ 0 (Heap.get?_push_size _ rfl) fun h' tk acc' c' hk hS hacc => ⟨rfl, acc', c', hS, hacc, ?_⟩) (fun fin' s'' hf => ?_) (fun e s'' hf => ?_)
  · exact H.ext (s' := { s with heap := h', toks := tk }) (fun b o e => hk b o (Nat.ne_of_lt (Heap.lt_size e)) (Heap.get?_push_of_some _ e)) rfl rfl
  · cases fin' with
    | done f =>
      obtain ⟨e1, e2⟩ := hf
      cases e1
      exact fin s'' e2
    | again c' =>
      refine ⟨hf.1, codeAny_mono hf.2 fun r s3 h3 => ?_⟩
      obtain ⟨rfl, e2⟩ := h3
      exact fin s3 e2
  · exact absurd hf.1 (fun x => nomatch x)
theorem srt_key {Q : Value → Shared → Prop} {f Lf : Addr} {fg : Nat → List Nat} {names : List Str} {vals : List (Option Value)} (hh : A.handled = none) (hU : A.units ≤ 5000) (h2 : 2 ≤ n) (h64 : n < 64) (H : Stt z s L) (hrg : (rg, Rng (n : Int)) ∈ L) (hm : (Lf, Fra names vals) ∈ L) (hkd : KeyDoes prog w A.in1.in1 z L (.ref f) fg n)
    (h : ∀ c out p s', IntsAre out (iv p) → p.Perm (List.range n) → p.Pairwise (fun i j => ¬ fg j < fg i) → Stt z s' ((c, Lst out) :: L) → Q (.ref c) s') : wpAny (model prog w) A (call (.builtin "sorted") [.ref rg] [(Str.ofString "key", .ref f)]) Q E s := by
  refine call_function_entry_kw kind_sorted plain_sorted entry_sorted (ksk_s1 _ _) ?_
  unfold Builtin.«sorted»
  refine wpAny_bind (m := checkCount "sorted" 1 1 _) (wpAny_pure ?_)
  refine wpAny_bind (col_range hh H hrg (by omega) fun items s₁ hi H₁ => ?_)
  have hil : items.length = n := by rw [iv_len hi]; simp
  refine wpAny_bind (wpAny_newList ?_ (by simp [sizeLine]; omega))
  have H₂ := H₁.alloc (t := s₁.toks) (P := Exo (seqObj "list" items.toArray 0)) (o := seqObj "list" items.toArray 0) rfl rfl
  have ho : (s₁.heap.push (seqObj "list" items.toArray 0)).get? s₁.heap.objs.size = some (seqObj "list" items.toArray 0) := Heap.get?_push_size _ rfl
  show wpAny _ _ _ _ _ { s₁ with heap := s₁.heap.push (seqObj "list" items.toArray 0) }
  refine wpAny_bind (wpAny_holding (wpAny_call_entry_kw slot_list_sort ⟨_, ho, rfl⟩ entry_list_sort ?_ (ksk_l1 _ _)))
  show wpAny (model prog w) A.in1.in1 (Builtin.«list.sort» ⟨[.ref s₁.heap.objs.size], [(Str.ofString "key", .ref f)]⟩) _ _ _
  rw [ksk_t1]
  refine sort_key (by show A.units + 1 + 1 < 8000; omega) h2 h64 hm hkd hi H₂ fun out p s' a1 a2 a3 H' => ?_
  exact ⟨_, rfl, wpAny_pure ⟨_, rfl, h _ out p _ a1 a2 a3 H'⟩⟩
/-! ### making it -/
noncomputable def FnL (qual : Str) (params : Arguments) (body : Expr) (scope : Scope) (clos : List (Str × Addr)) (c' : Addr) : Pr := fun o => ∃ pm ctv, o = kla_obj "<lambda>" qual params body scope clos pm c' ctv
noncomputable def CdL (qual : Str) : Pr := fun o => ∃ vs t, o.data = .fields vs ∧ vs[1]? = some (.str qual t)
noncomputable def Tab : Pr := fun o => ∃ ps, o = tabObj ps
theorem mk_lambda {Q : Value → Shared → Prop} {env : Env} {Lf c P : Addr} {ls gs : List Str} {cs : List (Str × Addr)} {params : Arguments} {body : Expr} {scope : Scope} {pos : Pos} {clos : List (Str × Addr)}
    (G : Gd w mg mb z.heap) (he : EnvIs env Lf ls gs cs) (H : Stt z s L) (hdef : defaultsOf params env = ([], [])) (hcl : closureFor scope env = pure clos) (hcode : env.code = .ref c) (hC : CodeHd z.heap c P) (hB : z.heap.BuiltinsAt mg P) (U : Upd L P (Exo (tabObj #[])) Tab L')
    (h : ∀ f c' s', Stt z s' ((f, FnL (env.qual ++ "<lambda>") params body scope clos c') :: (c', CdL (env.qual ++ "<lambda>")) :: L') → Q (.ref f) s') :
    wpAny (model prog w) A (eval (.Lambda params body scope pos) env) Q E s := by
  refine kla_eval hdef ?_
  obtain ⟨oP, hP, rfl⟩ := H.get U.mem
  have hzP := (H.own _ U.mem).2
  have hg := G.g.keeps H.keep
  have hgP : mainGlobals ≠ P := fun e => by
    obtain ⟨o, es, ep, e1, _⟩ := G.g
    rw [e, hzP] at e1; cases e1
  obtain ⟨bm, ob, b1, b2, b3, b4, b5, b6⟩ := hB
  refine kla_makeFunction (mg := mg) (ps := #[]) hcl he.globals hg hcode (hC.keeps H.keep) hP trivial rfl hgP ⟨bm, ob, b1, b2, b3, b4, H.keep _ _ b5, b6⟩ fun c' ctv h' tk hx hge hlt hrec htb => ?_
  obtain ⟨c₂, oc, vs, t, e2, hoc, hd, hv⟩ := hrec
  cases e2
  have H1 : Stt z { s with heap := h' } L' := by
    obtain ⟨l1, l2, rfl, rfl⟩ := U.split
    have nd := H.nd
    refine ⟨fun b o e => hx b o (fun q => by rw [q, hzP] at e; cases e) (H.keep b o e), fun p hp => ?_, by simpa using nd, H.gens, H.os⟩
    have hne : ∀ q ∈ l1 ++ l2, q.1 ≠ P := fun q hq e => by
      simp only [List.map_append, List.map_cons] at nd
      rw [List.nodup_append, List.nodup_cons] at nd
      rcases List.mem_append.mp hq with hq | hq
      · exact nd.2.2 q.1 (List.mem_map_of_mem hq) P List.mem_cons_self e
      · exact nd.2.1.1 (List.mem_map.mpr ⟨q, hq, e⟩)
    rcases List.mem_append.mp hp with q | q
    · obtain ⟨⟨o, h1, h2⟩, h3⟩ := H.own p (List.mem_append_left _ q)
      exact ⟨⟨o, hx _ _ (hne p (List.mem_append_left _ q)) h1, h2⟩, h3⟩
    · rcases List.mem_cons.mp q with rfl | q
      · exact ⟨⟨_, htb, _, rfl⟩, hzP⟩
      · obtain ⟨⟨o, h1, h2⟩, h3⟩ := H.own p (List.mem_append_right _ (.tail _ q))
        exact ⟨⟨o, hx _ _ (hne p (List.mem_append_right _ q)) h1, h2⟩, h3⟩
  have hfr : ∀ b, s.heap.objs.size ≤ b → s.heap.get? b = none := fun b hb => Heap.get?_none_of_le hb
  have fr := H.fresh (hfr c' hge)
  have H2 : Stt z { s with heap := h' } ((c', CdL (env.qual ++ "<lambda>")) :: L') := by
    refine H1.add hoc ⟨vs, t, hd, hv⟩ fr.1 fun p hp => ?_
    obtain ⟨l1, l2, rfl, rfl⟩ := U.split
    rcases List.mem_append.mp hp with q | q
    · exact fr.2 p (List.mem_append_left _ q)
    · rcases List.mem_cons.mp q with rfl | q
      · show P ≠ c'
        exact fr.2 (P, Exo (tabObj #[])) (List.mem_append_right _ List.mem_cons_self)
      · exact fr.2 p (List.mem_append_right _ (.tail _ q))
  have H3 := H2.alloc (t := tk) (P := FnL (env.qual ++ "<lambda>") params body scope clos c') (o := kla_obj "<lambda>" (env.qual ++ "<lambda>") params body scope clos ((mg "__name__").getD .none) c' ctv) rfl ⟨_, _, rfl⟩
  exact h _ c' _ H3
/-! ### calling it -/
theorem n_free {Q : Value → Shared → Prop} {env : Env} {x : Str} {c : Addr} {v : Value} {pos : Pos} (H : Stt z s L) (hk : env.scope.kind = .function) (hx : env.kindOf x = some .free) (hc : env.cells.lookup x = some c) (hm : (c, Cel (some v)) ∈ L) (h : Q v s) (hn : (x == ("__classdict__" : Str)) = false := by decide) (hd : (x == ("__debug__" : Str)) = false := by rfl) :
    wpAny (model prog w) A (eval (.Name x pos) env) Q E s := by
  obtain ⟨o, h1, h2⟩ := H.get hm
  exact wpAny_Name (wpAny_loadName_free hk hx hc ⟨o, h1, h2⟩ h hn) hd
theorem call_lambda {R : Result → Shared → Prop} {f c' : Addr} {qual : Str} {params : Arguments} {body : Expr} {scope : Scope} {clos : List (Str × Addr)} {args : List Value} {x : Str} {v : Value} (G : Gd w mg mb z.heap) (H : Stt z s L) (hf : (f, FnL qual params body scope clos c') ∈ L) (hc : (c', CdL qual) ∈ L) (hroom : A.depth < recursionLimit)
    (hbind : ∀ pm ctv, bindArgs (kla_fn "<lambda>" qual params body scope clos pm (.ref c') ctv) ⟨args, []⟩ = pure [(x, v)]) (hx : scope.names.lookup x = some .local) (hcell : ∀ y ∈ scope.names, y.2 ≠ .cell) (hco : scope.isCoroutine = false) (hgen : scope.isGenerator = false) (hk : scope.kind = .function)
    (h : ∀ env Lf s', env.scope = scope → env.locals = Lf → env.globals = mainGlobals → env.builtins = builtinsNs → env.cells = clos → env.frame = some Lf → Stt z s' ((Lf, Fra [x] [some v]) :: L) → wpAny (model prog w) (A.deeper env) (eval body env) (fun v s' => R (.ok (.ret v)) s') (fun _ _ => False) s') :
    codeAny (model prog w) A (.call (.ref f) ⟨args, []⟩) R s := by
  obtain ⟨o, ho, pm, ctv, rfl⟩ := H.get hf
  obtain ⟨oc, hoc, vs, t, hd, hv⟩ := H.get hc
  refine kla_callFunE hroom ho rfl hco hgen rfl ⟨c', oc, vs, t, rfl, hoc, hd, hv⟩ ?_
  rw [hbind]
  refine wpAny_pure (wpAny_newFunctionEnv hcell (fun y hy => ?_) (fun h₁ hns hsb => ⟨(G.nl.keeps H.keep).fresh _ hsb, ?_⟩) hk)
  · rw [List.mem_singleton] at hy; subst hy; exact hx
  · have hN : Heap.get? s.heap s.heap.objs.size = none := Heap.get?_none_of_le (Nat.le_refl _)
    obtain ⟨o, e1, e2⟩ := Fra.of_ns (names := [x]) (vals := [some v]) hns fun y => by
      show ([(x, v)].reverse).lookup y = _
      simp only [List.reverse_singleton, look, List.lookup_cons, List.lookup_nil]
      by_cases e : y = x
      · subst e; simp
      · have : (y == x) = false := by simpa using e
        rw [this, if_neg e]
    have HS : Stt z { s with heap := h₁, toks := s.toks + [(x, v)].length } ((s.heap.objs.size, Fra [x] [some v]) :: L) :=
      H.cons (fun b o e => hsb.extBut b o (Nat.ne_of_lt (Heap.lt_size e)) (Heap.get?_push_of_some _ e)) rfl rfl hN e1 e2
    exact kla_codeExpr (wpAny_mono (h _ _ _ rfl rfl rfl rfl rfl rfl HS) (fun _ _ x => x) fun _ _ x => x.elim)
end

end
section
/-! ## Words of numbers -/
theorem wl_nil {n : Nat} (h : wl n = []) : n = 0 := by
  by_cases h0 : n = 0
  · exact h0
  · rw [wl_pos h0] at h; simp at h
theorem wl_inj : ∀ {m n : Nat}, wl m = wl n → m = n := by
  intro m
  induction m using Nat.strongRecOn with
  | _ m ih =>
    intro n h
    by_cases hm : m = 0
    · subst hm; rw [wl_zero] at h; exact (wl_nil h.symm).symm
    · by_cases hn : n = 0
      · subst hn; rw [wl_zero] at h; exact wl_nil h
      · rw [wl_pos hm, wl_pos hn] at h
        obtain ⟨h1, h2⟩ := List.append_inj' h rfl
        have e1 := ih (m / 16) (by omega) h1
        have e2 : (UInt8.ofNat (65 + m % 16)).toNat = (UInt8.ofNat (65 + n % 16)).toNat := by rw [(List.cons.injEq _ _ _ _).mp h2 |>.1]
        rw [UInt8.toNat_ofNat_of_lt' (by show _ < 256; omega), UInt8.toNat_ofNat_of_lt' (by show _ < 256; omega)] at e2
        omega
theorem pfx_snoc {o l : Wd} {c : UInt8} : pfx o (l ++ [c]) = true ↔ o = l ∨ pfx o l = true := by
  constructor
  · intro h
    have hl := pfx_lt h
    rw [List.length_append, List.length_singleton] at hl
    obtain ⟨h1, h2⟩ := pfx_iff.mp h
    rw [List.take_append_of_le_length (by omega)] at h2
    by_cases e : o = l
    · exact .inl e
    · exact .inr (pfx_iff.mpr ⟨e, h2⟩)
  · rintro (rfl | h)
    · refine pfx_iff.mpr ⟨fun e => ?_, by simp⟩
      have := congrArg List.length e
      simp at this
    · have hl := pfx_lt h
      obtain ⟨h1, h2⟩ := pfx_iff.mp h
      refine pfx_iff.mpr ⟨fun e => ?_, by rw [List.take_append_of_le_length (by omega)]; exact h2⟩
      have := congrArg List.length e
      rw [List.length_append, List.length_singleton] at this
      omega
theorem pfx_wl {m : Nat} : ∀ {n : Nat}, pfx (wl m) (wl n) = (beg n).contains m := by
  intro n
  induction n using Nat.strongRecOn with
  | _ n ih =>
    by_cases hn : n = 0
    · subst hn
      rw [beg_zero, wl_zero]
      by_cases h : wl m = []
      · rw [h]; rfl
      · rw [Bool.eq_iff_iff, pfx_iff]; simp [h]
    · rw [beg_pos hn, wl_pos hn, Bool.eq_iff_iff, pfx_snoc, ih (n / 16) (by omega), List.contains_cons, Bool.or_eq_true, beq_iff_eq]
      exact or_congr ⟨wl_inj, fun e => by rw [e]⟩ Iff.rfl
noncomputable def wds (ds : List Int) : List Wd := ds.map fun d => wl d.natAbs
theorem wds_nd {ds : List Int} (h : (ds.map Int.natAbs).Nodup) : (wds ds).Nodup := by
  have e : wds ds = (ds.map Int.natAbs).map wl := by unfold wds; rw [List.map_map]; rfl
  rw [e]
  unfold List.Nodup at *
  rw [List.pairwise_map]
  exact h.imp fun hn e => hn (wl_inj e)
theorem dep_wds (ds : List Int) (n : Nat) : dep (wds ds) (wl n) = (ds.filter fun m => (beg n).contains m.natAbs).length := by
  unfold dep pre wds
  rw [List.filter_map, List.length_map]
  congr 1
  refine List.filter_congr fun x _ => ?_
  exact pfx_wl
theorem deps_wds (ds : List Int) : (wds ds).map (fun x => ((dep (wds ds) x : Nat) : Int)) = ds.map fun d => (((ds.filter fun m => (beg d.natAbs).contains m.natAbs).length : Nat) : Int) := by
  show (ds.map _).map _ = _
  rw [List.map_map]
  refine List.map_congr_left fun d _ => ?_
  show ((dep (wds ds) (wl d.natAbs) : Nat) : Int) = _
  rw [dep_wds]
theorem wds_getD (ds : List Int) (i : Nat) : (wds ds).getD i [] = wl (ds.getD i 0).natAbs := by
  unfold wds
  rw [List.getD_eq_getElem?_getD, List.getD_eq_getElem?_getD, List.getElem?_map]
  cases ds[i]? with
  | none => show [] = wl 0; rw [wl_zero]
  | some d => rfl
theorem nl_wl (n : Nat) : nl (wl n) = (figs n).map fun d => 65 + d := by
  unfold nl wl
  rw [List.map_map]
  refine List.map_congr_left fun d hd => ?_
  have := figs_lt d hd
  exact UInt8.toNat_ofNat_of_lt' (by show _ < 256; omega)
theorem up_lt : ∀ (a b : List Nat), (a.map fun d => 65 + d) < (b.map fun d => 65 + d) ↔ a < b
  | [], [] => by simp
  | [], y :: b => by simp
  | x :: a, [] => by simp
  | x :: a, y :: b => by
    rw [List.map_cons, List.map_cons, List.cons_lt_cons_iff, List.cons_lt_cons_iff, up_lt a b]
    exact or_congr (by show 65 + x < 65 + y ↔ _; omega) (and_congr (by show 65 + x = 65 + y ↔ _; omega) Iff.rfl)
theorem wl_lt (m n : Nat) : nl (wl m) < nl (wl n) ↔ figs m < figs n := by rw [nl_wl, nl_wl, up_lt]
theorem range_getD {α : Type} (W : List α) (d : α) : (List.range W.length).map (fun i => W.getD i d) = W := by
  refine List.ext_getElem (by simp) fun i h1 h2 => ?_
  rw [List.getElem_map, List.getElem_range, List.getD_eq_getElem?_getD, List.getElem?_eq_getElem h2]; rfl
theorem row_perm {ds : List Int} {p : List Nat} (hp : p.Perm (List.range ds.length)) : (p.map fun i => (wds ds).getD i []).Perm (wds ds) := by
  have := hp.map fun i => (wds ds).getD i []
  have e : ds.length = (wds ds).length := by unfold wds; rw [List.length_map]
  rw [e, range_getD] at this
  exact this
theorem row_srt {ds : List Int} {p : List Nat} (h : p.Pairwise fun i j => ¬ figs (ds.getD j 0).natAbs < figs (ds.getD i 0).natAbs) : (p.map fun i => (wds ds).getD i []).Pairwise wle := by
  rw [List.pairwise_map]
  refine h.imp fun {i j} hn e => hn ?_
  rw [wds_getD, wds_getD, wl_lt] at e
  exact e
theorem wds_len (ds : List Int) : (wds ds).length = ds.length := by unfold wds; rw [List.length_map]
theorem wds_short {ds : List Int} (h : ∀ d ∈ ds, d.natAbs < 65536) : ∀ k ∈ wds ds, k.length ≤ 100 := fun k hk => by
  obtain ⟨d, hd, rfl⟩ := List.mem_map.mp hk
  have := wl_len (h d hd)
  omega

end
section
/-! ## law: what its walk needs -/
section
variable {w : World} {mg mb : Str → Option Value} {prog : Program} {A : Around} {z s : Shared} {L : Led}
/-- a call of a def of the text that keeps one name of its own in a cell; its code is told -/
theorem call_fnC1c {R : Result → Shared → Prop} {f : Addr} {fd : FuncData} {oc : Value} {od : Option Addr} {osl : Array (Option Value)} {body : List Stmt} (ps rest gs : List Str) (cn : Str) {args : List Value} {names : List Str} {vals : List (Option Value)}
    (G : Gd w mg mb z.heap) (H : Stt z s L) (ho : (hd.heap_1 w.params).lookup f = some ⟨oc, od, .func fd, osl⟩) (hcd : codeIn (hd.heap_1 w.params) fd.code fd.qualname = true) (hroom : A.depth < recursionLimit)
    (hbody : fd.body = .stmts body) (hbind : bindArgs fd ⟨args, []⟩ = pure (ps.zip args)) (hlen : ps.length = args.length) (hn : ps ++ rest = names) (hv : args.map some ++ rest.map (fun _ => none) = vals) (hnd : names.Nodup)
    (hcells : ∀ n, cellsFrom n fd.scope.names [] = [(cn, n)]) (hcn : fd.scope.names.lookup cn = some .cell) (hloc : ∀ x ∈ names, fd.scope.names.lookup x = some .local) (hglo : ∀ x ∈ gs, fd.scope.names.lookup x = some .globalImplicit)
    (hgl : fd.globals = mainGlobals) (hbi : fd.builtins = builtinsNs) (hclo : fd.closure = []) (hni : cn ∉ ps)
    (h : ∀ env Lf c s', EnvIs env Lf names gs [(cn, c)] → env.frame = some Lf → env.code = fd.code → Stt z s' ((Lf, Fra names vals) :: (c, Cel none) :: L) →
      wpAny (model prog w) (A.deeper env) (execs body env) (fun fl s' => R (.ok (.ret (match fl with | .ret v => v | _ => .none))) s') (fun _ _ => False) s')
    (hco : fd.scope.isCoroutine = false := by rfl) (hgen : fd.scope.isGenerator = false := by rfl) (hk : fd.scope.kind = .function := by rfl) :
    codeAny (model prog w) A (.call (.ref f) ⟨args, []⟩) R s := by
  subst hn hv
  have hl2 : ∀ b ∈ ps.zip args, fd.scope.names.lookup b.1 = some .local := fun x hx => hloc _ (List.mem_append_left _ (List.of_mem_zip (a := x.1) (b := x.2) hx).1)
  refine codeAny_call_cells hroom (H.keep _ _ (G.X _ _ ho)) rfl (G.nl.keeps H.keep) (codeRec_of (G.X.keeps H.keep) hcd) hbody hbind hclo (fun x hx => .inl (hl2 x hx)) (fun s₁ X => ?_) hco hgen hk
  have hE : EnvIs (callEnvC fd s.heap.objs.size f) s.heap.objs.size (ps ++ rest) gs [(cn, s.heap.objs.size + 1)] := by
    refine ⟨rfl, hk, hnd, hloc, hglo, fun p hp => ?_, hgl, hbi⟩
    rw [List.mem_singleton] at hp; subst hp
    refine ⟨hcn, ?_⟩
    show (cellsFrom (s.heap.objs.size + 1) fd.scope.names []).lookup cn = _
    rw [hcells]; simp [List.lookup]
  obtain ⟨⟨⟨h₁, tk, rfl⟩, hns, hkeep, _⟩, hcell, _, _⟩ := X
  have hN : Heap.get? s.heap s.heap.objs.size = none := Heap.get?_none_of_le (Nat.le_refl _)
  have hN2 : Heap.get? s.heap (s.heap.objs.size + 1) = none := Heap.get?_none_of_le (Nat.le_succ _)
  obtain ⟨o, e1, e2⟩ := Fra.of_ns (names := ps ++ rest) (vals := args.map some ++ rest.map fun _ => none) hns fun x => by
    rw [bindL_local _ _ _ _ hl2, Option.or_none]; exact look_binds ps args rest x hlen hnd
  obtain ⟨oc', c1, c2⟩ := hcell cn (s.heap.objs.size + 1) (by show (cellsFrom (s.heap.objs.size + 1) fd.scope.names []).lookup cn = _; rw [hcells]; simp [List.lookup])
  have hcm : bindC (callEnvC fd s.heap.objs.size f).kindOf (ps.zip args) (fun _ => none) cn = none := by
    have : ∀ (binds : List (Str × Value)) (m : Str → Option Value), (∀ b ∈ binds, fd.scope.names.lookup b.1 = some .local) → bindC (callEnvC fd s.heap.objs.size f).kindOf binds m = m := by
      intro binds
      induction binds with
      | nil => intro m _; rfl
      | cons b r ih =>
        intro m hb
        obtain ⟨n, v⟩ := b
        rw [bindC_cons, if_pos (show (callEnvC fd s.heap.objs.size f).kindOf n = some .local from hb (n, v) List.mem_cons_self)]
        exact ih m fun b hb' => hb b (List.mem_cons_of_mem _ hb')
    rw [this _ _ hl2]
  rw [hcm] at c2
  have HC : Stt z { s with heap := h₁, toks := tk } ((s.heap.objs.size + 1, Cel none) :: L) := H.cons hkeep rfl rfl hN2 c1 c2
  have HS := HC.add e1 e2 (H.fresh hN).1 fun p hp => by
    rcases List.mem_cons.mp hp with rfl | q
    · exact Nat.succ_ne_self _
    · exact (H.fresh hN).2 p q
  exact wpAny_mono (h _ _ _ _ hE rfl rfl HS) (fun _ _ x => x) (fun _ _ x => x.elim)
variable {E : Value → Shared → Prop} {Q : Value → Shared → Prop}
/-- the first so many of an old list -/
theorem z_upto {l sl : Addr} {xs : List Value} {value slice : Expr} {i : Nat} {b : Int} {tk : Tok} (hb : b = (i : Int)) (H : Stt z s L) (hl : z.heap.IsList l xs.toArray) (hs1 : (sl, Slc .none (.int b tk) .none) ∈ L) (hz : xs.length ≤ 16777216) (h : ∀ c s', Stt z s' ((c, Lst (xs.take i)) :: L) → Q (.ref c) s')
    (hs : subscripted slice false (.ref l) (.ref sl) = operate [.ref sl, .ref l] (getItem (.ref l) (.ref sl)) := by with_unfolding_all rfl) (ht : ∀ r, letTemporaryGo value (.ref l) r = pure () := by intro _; with_unfolding_all rfl) :
    wpAny (model prog w) A (subscriptTail value slice (.ref l) (.ref sl)) Q E s := by
  subst hb
  have hl' : s.heap.IsList l xs.toArray := by
    obtain ⟨o, e, r⟩ := hl
    exact ⟨o, H.keep _ _ e, r⟩
  refine tail_of_ItemOn (M := model prog w) ⟨"list", _, PySem.slot_list_getitem.lookup, hl'.typeIs, wpAny_getItem_list_slice (prog := prog) (w := w) hl' (isSlice H hs1) .none (.int _ _) .none (by simp) ?_ (by simpa [sizeLine] using hz)⟩ hs ht
  have := h _ _ (H.alloc (t := s.toks) (P := Lst (xs.take i)) (o := { cls := .type "list", data := .seq (slicePick xs.toArray none (some (i : Int)) none) }) rfl ⟨_, by rw [slicePick_upto' xs.toArray i]⟩)
  exact this
theorem byteArr_figs (n : Nat) : byteArr (iv ((figs n).map fun d => 65 + d)) = wd n := by
  unfold byteArr iv wd wl
  congr 1
  rw [List.map_map, List.map_map]
  refine List.map_congr_left fun d hd => ?_
  rfl
theorem m_bytes {l : Addr} {vs : List Value} {n : Nat} (H : Stt z s L) (hm : (l, Lst vs) ∈ L) (hi : IntsAre vs (iv ((figs n).map fun d => 65 + d))) (hn : n < 65536) (hh : A.handled = none) (h : ∀ s' t, Stt z s' L → Q (.bytes (wd n) t) s') : wpAny (model prog w) A (call (.type "bytes") [.ref l]) Q E s := by
  refine call_bytes_ints (isList H hm) hi (fun m hm => ?_) ?_ hh fun h' t k hk => ?_
  · unfold iv at hm
    obtain ⟨q, hq, rfl⟩ := List.mem_map.mp hm
    obtain ⟨d, hd, rfl⟩ := List.mem_map.mp hq
    have := figs_lt d hd
    omega
  · have h1 := hi.length
    unfold iv at h1
    rw [List.length_map, List.length_map] at h1
    have := figs_len (n := n) 4 hn
    simp [sizeLine]; omega
  · rw [byteArr_figs]
    exact h _ _ (H.ext (s' := { s with heap := h', toks := k }) hk rfl rfl)
theorem IntsAre.snoc {ys : List Value} {ns : List Int} {n : Int} {t : Tok} (h : IntsAre ys ns) : IntsAre (ys ++ [.int n t]) (ns ++ [n]) := h.append (.cons _ _ .nil)
theorem take_snoc {α β : Type} {l : List α} {i : Nat} {x : α} (f : α → β) (h : l[i]? = some x) : (l.take (i + 1)).map f = (l.take i).map f ++ [f x] := by
  rw [List.take_add_one, h, List.map_append]; rfl
end

end
section
/-! ## law: the walk -/
theorem Stt.one {z s : Shared} {L : Led} {a : Addr} {P : Pr} (H : Stt z s L) (h : (a, P) ∈ L) : Stt z s [(a, P)] :=
  ⟨H.keep, fun p hp => by rw [List.mem_singleton] at hp; subst hp; exact H.own _ h, by simp, H.gens, H.os⟩
theorem s_law {w : World} {mg mb : Str → Option Value} {prog : Program} {A : Around} {z s : Shared} {R : Result → Shared → Prop} {outer : List Env} {l : Addr} {xs : List Value} {ns : List Int}
    (G : Gd w mg mb z.heap) (H : Stt z s [(184, Exo (tabObj #[]))]) (hC : CodeHd z.heap 186 184) (hB : z.heap.BuiltinsAt mg 184) (hA : A.depth ≤ 310) (hU : A.units ≤ 500) (hh : A.handled = none) (hfr : A.frames = some outer) (hF : FrOk outer [])
    (hl : z.heap.IsList l xs.toArray) (hi : IntsAre xs ns) (hz : xs.length ≤ 16777216) (h : ∀ s', Stt z s' [(184, Tab)] → R (.ok (.ret (.bool true))) s') :
    codeAny (model prog w) A (.call (.ref 187) ⟨[.ref l], []⟩) R s := by
  refine call_fnC1c (ps := ["script"]) (rest := ["words_of", "deep", "row"]) (names := ["script", "words_of", "deep", "row"]) (vals := [some (.ref l), none, none, none]) (gs := ["_law_numbers", "sorted", "range", "len", "_law_told", "_law_sorter"]) (cn := "known") G H (by k_is) (by k_is) (by show _ < 1000; omega) rfl rfl rfl rfl rfl (by decide) (fun _ => rfl) rfl (all_mem rfl) (all_mem rfl) rfl rfl rfl (by decide) ?_
  clear H
  intro env Lf cK s he hf hcode H
  have hh2 : (A.deeper env).handled = none := hh
  have hfr2 : (A.deeper env).frames = some (env :: outer) := by show A.frames.map _ = _; rw [hfr]; rfl
  have hF2 : ∀ v F, (Lf, Fra ["script", "words_of", "deep", "row"] v) ∈ F → FrOk (env :: outer) F := fun v F hv q hq => by
    rcases List.mem_cons.mp hq with rfl | hq
    · exact ⟨(by rw [he.kind]; exact (fun x => nomatch x)), Lf, _, v, hf, hv⟩
    · obtain ⟨a1, f, names, vals, a2, a3⟩ := hF q hq
      cases a3
  with_reducible refine wpAny_execs_cons ?_
  with_reducible refine wpAny_Assign_Name ?_ rfl
  with_reducible refine wpAny_Call_NameR ?_
  refine n_glob (by with_reducible assumption) (by with_reducible assumption) (by with_reducible assumption) (by walk_at "mem") (Gd.glob (by with_reducible assumption) (by k_is)) ?_
  refine cw_fn (by with_reducible assumption) (by k_is) ?_ rfl rfl
  with_reducible refine spliced_more ?_ rfl
  with_reducible refine Subscript_ ?_
  refine n_local (by with_reducible assumption) (by with_reducible assumption) (by walk_at "mem") (by walk_at "loc") ?_
  with_reducible refine x_Slice ?_
  with_reducible refine wpAny_evalPart_none ?_
  with_reducible refine wpAny_evalPart_some ?_
  (with_reducible rename Stt _ _ _ => hO); with_reducible refine c_int hO ?_; intro _ _ _; clear hO
  with_reducible refine wpAny_evalPart_none ?_
  (with_reducible rename Stt _ _ _ => hO); with_reducible refine al_slice hO ?_; intro _ _ _; clear hO
  rename_i H
  refine z_upto (i := 7) (b := 7) rfl H hl (by walk_at "mem") hz ?_
  clear H
  intro c7 s H
  with_reducible refine spliced_none ?_
  refine ⟨⟨_, by with_reducible assumption⟩, ?_⟩
  rename_i H
  refine wpAny_call (numbers G H (by show A.depth + 1 ≤ 800; omega) hh2 (by walk_at "mem") (hi.take 7) (by rw [List.length_take]; omega) ?_)
  clear H
  intro s lk vs ds hvi hK hds H
  have hlv := hvi.length
  show wpAny _ _ _ _ _ _
  replace H := (H.out (.tail .head)).out (.tail .head)
  (with_reducible rename Stt _ _ _ => hO); refine st_cell hO (by with_reducible assumption) (by walk_at "mem") (by walk_at "upd") ?_; intro _ _; clear hO
  with_reducible refine wpAny_execs_cons ?_
  -- the words
  refine comp_assign (z := z) (gs := ["Int2AP"]) (cs := []) (swaps_of he (by decide) rfl rfl) he (closure_of [] (fun p hp => by simp at hp) rfl) (by decide) rfl (by decide) (compE he rfl (by decide) (all_mem rfl) (all_mem rfl) (fun p hp => by simp at hp)) ?_
  refine n_cell (by with_reducible assumption) (by with_reducible assumption) (by walk_at "mem") (by walk_at "mem") ?_
  rename_i H
  refine it_list H (by walk_at "mem") ?_
  clear H
  intro it s H
  refine ⟨it, _, _, vs, fun i ys => WsAre ys ((ds.take i).map fun d => wl d.natAbs), rfl, H, itr_list hh2 (by walk_at "mem"), by simp [sizeLine]; omega, by simpa using WsAre.nil, ?_, ?_⟩
  · clear H
    intro cenv C acc i v ys s he' hx hJ H
    obtain ⟨m, tm, rfl, hm'⟩ := IntsAre.getI hvi hx
    refine tests_nil ?_
    rw [if_pos rfl]
    with_reducible refine wpAny_Call_NameR ?_
    refine n_glob (by with_reducible assumption) (by with_reducible assumption) (by with_reducible assumption) (by walk_at "mem") (Gd.glob (by with_reducible assumption) (by k_is)) ?_
    refine cw_fn (by with_reducible assumption) (by k_is) ?_ rfl rfl
    with_reducible refine spliced_more ?_ rfl
    refine n_local (by with_reducible assumption) (by with_reducible assumption) (by walk_at "mem") (by walk_at "loc") ?_
    with_reducible refine spliced_none ?_
    refine ⟨⟨_, by with_reducible assumption⟩, ?_⟩
    rename_i H
    refine wpAny_call (int2ap G H (by show A.depth + 1 ≤ 800; omega) hh2 (hK.small m (List.mem_of_getElem? hm')) ?_)
    clear H
    intro s t H
    refine ⟨H, ?_⟩
    show WsAre _ _
    rw [take_snoc _ hm']
    exact hJ.append (.cons _ _ .nil)
  clear H
  intro lw wv s hw H
  rw [show vs.length = ds.length from hlv, List.take_length] at hw
  replace hw : WsAre wv (wds ds) := hw
  refine ⟨_, _, _, by walk_at "upd", by walk_at "put", ?_⟩
  clear H
  intro s H
  with_reducible refine wpAny_execs_cons ?_
  with_reducible refine wpAny_If ?_
  with_reducible refine wpAny_isTrue_Compare1 ?_ (by with_unfolding_all rfl)
  refine n_local (by with_reducible assumption) (by with_reducible assumption) (by walk_at "mem") (by walk_at "loc") ?_
  -- the words again, figure by figure
  refine comp_list (z := z) (gs := ["bytes", "_law_figures"]) (cs := []) (closure_of [] (fun p hp => by simp at hp) rfl) (by decide) rfl (by decide) (compE he rfl (by decide) (all_mem rfl) (all_mem rfl) (fun p hp => by simp at hp)) ?_
  refine n_cell (by with_reducible assumption) (by with_reducible assumption) (by walk_at "mem") (by walk_at "mem") ?_
  rename_i H
  refine it_list H (by walk_at "mem") ?_
  clear H
  intro it s H
  refine ⟨it, _, _, vs, fun i ys => WsAre ys ((ds.take i).map fun d => wl d.natAbs), rfl, H, itr_list hh2 (by walk_at "mem"), by simp [sizeLine]; omega, by simpa using WsAre.nil, ?_, ?_⟩
  · clear H
    intro cenv C acc i v ys s he' hx hJ H
    obtain ⟨m, tm, rfl, hm'⟩ := IntsAre.getI hvi hx
    have hm65 := hK.small m (List.mem_of_getElem? hm')
    refine tests_nil ?_
    rw [if_pos rfl]
    with_reducible refine wpAny_Call_NameR ?_
    refine n_built (by with_reducible assumption) (by with_reducible assumption) (by with_reducible assumption) (by walk_at "mem") (Gd.noglob (by with_reducible assumption) (by k_is)) (by boot_by_name) (by decide) ?_
    with_reducible refine PyProof.Rows.callWith_type1 ?_ rfl rfl
    with_reducible refine spliced_more ?_ rfl
    refine comp_list (z := z) (gs := []) (cs := []) (closure_of [] (fun p hp => by simp at hp) rfl) (by decide) rfl (by decide) (compE he' rfl (by decide) (all_mem rfl) (all_mem rfl) (fun p hp => by simp at hp)) ?_
    with_reducible refine wpAny_Call_NameR ?_
    refine n_glob (by with_reducible assumption) (by with_reducible assumption) (by with_reducible assumption) (by walk_at "mem") (Gd.glob (by with_reducible assumption) (by k_is)) ?_
    refine cw_fn (by with_reducible assumption) (by k_is) ?_ rfl rfl
    with_reducible refine spliced_more ?_ rfl
    refine n_local (by with_reducible assumption) (by with_reducible assumption) (by walk_at "mem") (by walk_at "loc") ?_
    with_reducible refine spliced_none ?_
    refine ⟨⟨_, by with_reducible assumption⟩, ?_⟩
    rename_i H
    refine wpAny_call (figures G H (by show A.depth + 1 ≤ 800; omega) hm65 ?_)
    clear H
    intro s lf fv hfv H
    have hfl := hfv.length
    have hf4 := figs_len (n := m.natAbs) 4 hm65
    have hfl2 : fv.length ≤ 4 := by rw [hfl]; unfold iv; rw [List.length_map]; exact hf4
    show wpAny _ _ _ _ _ _
    refine it_list H List.mem_cons_self ?_
    clear H
    intro it2 s H
    refine ⟨it2, _, _, fv, fun i ys => IntsAre ys (iv (((figs m.natAbs).take i).map fun d => 65 + d)), rfl, H, itr_list hh2 List.mem_cons_self, by simp [sizeLine]; omega, by simpa [iv] using IntsAre.nil, ?_, ?_⟩
    · clear H
      intro cenv2 C2 acc2 i2 v2 ys2 s he2 hx2 hJ2 H
      obtain ⟨n2, tn, rfl, hn2⟩ := IntsAre.getI hfv hx2
      obtain ⟨q, hq, rfl⟩ := iv_get hn2
      refine tests_nil ?_
      rw [if_pos rfl]
      with_reducible refine wpAny_BinOp ?_
      (with_reducible rename Stt _ _ _ => hO); with_reducible refine c_int hO ?_; intro _ _ _; clear hO
      refine n_local (by with_reducible assumption) (by with_reducible assumption) (by walk_at "mem") (by walk_at "loc") ?_
      (with_reducible rename Stt _ _ _ => hO); with_reducible refine i_add hO ?_; intro _ _ _; clear hO
      rename_i H
      refine ⟨H, ?_⟩
      show IntsAre _ (iv _)
      rw [take_snoc _ hq]
      show IntsAre _ (List.map _ _)
      rw [List.map_append]
      exact hJ2.append (.cons _ _ .nil)
    · clear H
      intro D us s hJ2 H
      have e : fv.length = (figs m.natAbs).length := by rw [hfl]; unfold iv; rw [List.length_map]
      rw [e, List.take_length] at hJ2
      with_reducible refine spliced_none ?_
      rename_i H
      refine m_bytes H (by walk_at "mem") hJ2 hm65 hh2 ?_
      clear H
      intro s t H
      replace H := (H.out .head).out .head
      refine ⟨H, ?_⟩
      show WsAre _ _
      rw [take_snoc _ hm']
      exact hJ.append (.cons _ _ .nil)
  clear H
  intro lw2 wv2 s hw2 H
  rw [show vs.length = ds.length from hlv, List.take_length] at hw2
  replace hw2 : WsAre wv2 (wds ds) := hw2
  refine l_neq H (by walk_at "mem") (by walk_at "mem") hw hw2 (by show A.units + 3 < 9000; omega) ?_
  replace H := H.out .head
  clear hw2
  with_reducible refine wpAny_truthy_bool ?_
  refine iff' ?_
  with_reducible refine wpAny_execs_nil ?_
  with_reducible refine wpAny_execs_cons ?_
  -- how many beginnings
  refine comp_assign (z := z) (gs := ["len", "_law_beginnings"]) (cs := [("known", cK)]) (swaps_of he (by decide) rfl rfl) he (closure_of [("known", cK)] (fun p hp => (he.cel p hp).2) rfl) (by decide) rfl (by decide) (compE he rfl (by decide) (all_mem rfl) (all_mem rfl) (fun p hp => ?_)) ?_
  · rw [List.mem_singleton] at hp; subst hp; exact ⟨List.mem_cons_self, rfl, by simp [List.lookup]⟩
  refine n_cell (by with_reducible assumption) (by with_reducible assumption) (by walk_at "mem") (by walk_at "mem") ?_
  rename_i H
  refine it_list H (by walk_at "mem") ?_
  clear H
  intro it s H
  refine ⟨it, _, _, vs, fun i ys => IntsAre ys ((ds.take i).map fun d => (((ds.filter fun m => (beg d.natAbs).contains m.natAbs).length : Nat) : Int)), rfl, H, itr_list hh2 (by walk_at "mem"), by simp [sizeLine]; omega, by simpa using IntsAre.nil, ?_, ?_⟩
  · clear H
    intro cenv C acc i v ys s he' hx hJ H
    obtain ⟨m, tm, rfl, hm'⟩ := IntsAre.getI hvi hx
    refine tests_nil ?_
    rw [if_pos rfl]
    with_reducible refine wpAny_Call_NameR ?_
    refine n_built (by with_reducible assumption) (by with_reducible assumption) (by with_reducible assumption) (by walk_at "mem") (Gd.noglob (by with_reducible assumption) (by k_is)) (by boot_by_name) (by decide) ?_
    with_reducible refine callWith_builtin1 ?_ rfl rfl
    with_reducible refine spliced_more ?_ rfl
    with_reducible refine wpAny_Call_NameR ?_
    refine n_glob (by with_reducible assumption) (by with_reducible assumption) (by with_reducible assumption) (by walk_at "mem") (Gd.glob (by with_reducible assumption) (by k_is)) ?_
    refine cw_fn (by with_reducible assumption) (by k_is) ?_ rfl rfl
    with_reducible refine spliced_more ?_ rfl
    refine n_local (by with_reducible assumption) (by with_reducible assumption) (by walk_at "mem") (by walk_at "loc") ?_
    with_reducible refine spliced_more ?_ rfl
    refine n_cell (by with_reducible assumption) (by with_reducible assumption) (by walk_at "mem") (by walk_at "mem") ?_
    with_reducible refine spliced_none ?_
    refine ⟨⟨_, by with_reducible assumption⟩, ?_⟩
    rename_i H
    refine wpAny_call (beginnings G H (by show A.depth + 1 ≤ 800; omega) hh2 (hK.small m (List.mem_of_getElem? hm')) (by walk_at "mem") hvi (by omega) ?_)
    clear H
    intro s lb bv hbv H
    have hfl : (ds.filter fun k => (beg m.natAbs).contains k.natAbs).length ≤ ds.length := List.length_filter_le _ _
    show wpAny _ _ _ _ _ _
    with_reducible refine spliced_none ?_
    rename_i H
    refine l_len H List.mem_cons_self (by omega) ?_
    clear H
    intro s t H
    refine ⟨H.out .head, ?_⟩
    show IntsAre _ _
    rw [take_snoc _ hm', hbv]
    exact hJ.append (.cons _ _ .nil)
  clear H
  intro ld dv s hd H
  rw [show vs.length = ds.length from hlv, List.take_length, ← deps_wds] at hd
  refine ⟨_, _, _, by walk_at "upd", by walk_at "put", ?_⟩
  clear H
  intro s H
  with_reducible refine wpAny_execs_cons ?_
  with_reducible refine wpAny_Assign_Name ?_ rfl
  -- the row
  refine wpAny_Call_ofName ?_
  refine n_built (by with_reducible assumption) (by with_reducible assumption) (by with_reducible assumption) (by walk_at "mem") (Gd.noglob (by with_reducible assumption) (by k_is)) (by boot_by_name) (by decide) ?_
  refine callWith_kw ?_
  with_reducible refine spliced_more ?_ rfl
  with_reducible refine wpAny_Call_NameR ?_
  refine n_built (by with_reducible assumption) (by with_reducible assumption) (by with_reducible assumption) (by walk_at "mem") (Gd.noglob (by with_reducible assumption) (by k_is)) (by boot_by_name) (by decide) ?_
  with_reducible refine PyProof.Rows.callWith_type1 ?_ rfl rfl
  with_reducible refine spliced_more ?_ rfl
  with_reducible refine wpAny_Call_NameR ?_
  refine n_built (by with_reducible assumption) (by with_reducible assumption) (by with_reducible assumption) (by walk_at "mem") (Gd.noglob (by with_reducible assumption) (by k_is)) (by boot_by_name) (by decide) ?_
  with_reducible refine callWith_builtin1 ?_ rfl rfl
  with_reducible refine spliced_more ?_ rfl
  refine n_cell (by with_reducible assumption) (by with_reducible assumption) (by walk_at "mem") (by walk_at "mem") ?_
  with_reducible refine spliced_none ?_
  rename_i H
  refine l_len H (by walk_at "mem") (by omega) ?_
  clear H
  intro s tl H
  with_reducible refine spliced_none ?_
  rename_i H
  refine c_range H ?_
  clear H
  intro rg s H
  rw [hlv] at H
  with_reducible refine spliced_none ?_
  refine kws_cons ?_
  refine mk_lambda (clos := [("known", cK)]) G he H rfl (closure_of [("known", cK)] (fun p hp => (he.cel p hp).2) rfl) hcode hC hB (by walk_at "upd") ?_
  clear H
  intro f c' s H
  refine kws_nil ?_
  refine srt_key (rg := rg) (n := ds.length) (Lf := Lf) (fg := fun i => figs (ds.getD i 0).natAbs) hh2 (by show A.units + 3 ≤ 5000; omega) (by have := hK.five; omega) (by omega) H (by walk_at "mem") (by walk_at "mem") ?_ ?_
  · clear H
    intro i t M s hin H
    have hdi : ds[i]? = some (ds.getD i 0) := by rw [List.getD_eq_getElem?_getD, List.getElem?_eq_getElem hin]; rfl
    obtain ⟨ti, hvx⟩ := IntsAre.at' hvi hdi
    refine wpAny_call (call_lambda (f := f) (c' := c') (x := "p") (v := .int (i : Int) t) G H (List.mem_append_right _ (by walk_at "mem")) (List.mem_append_right _ (by walk_at "mem")) (by show _ < 1000; show A.depth + 1 < 1000; omega) (fun _ _ => rfl) rfl (by decide) rfl rfl rfl ?_)
    clear H
    intro env2 Lf2 s e1 e2 e3 e4 e5 e6 H
    have he2 : EnvIs env2 Lf2 ["p"] ["_law_figures"] [] := by
      refine ⟨e2, by rw [e1], by decide, fun x hx => ?_, fun x hx => ?_, (fun _ hp => nomatch hp), e3, e4⟩
      · rw [List.mem_singleton] at hx; subst hx
        show env2.scope.names.lookup _ = _; rw [e1]; rfl
      · rw [List.mem_singleton] at hx; subst hx
        show env2.scope.names.lookup _ = _; rw [e1]; rfl
    with_reducible refine wpAny_Call_NameR ?_
    refine n_glob (by with_reducible assumption) (by with_reducible assumption) (by with_reducible assumption) (by walk_at "mem") (Gd.glob (by with_reducible assumption) (by k_is)) ?_
    refine cw_fn (by with_reducible assumption) (by k_is) ?_ rfl rfl
    with_reducible refine spliced_more ?_ rfl
    with_reducible refine Subscript_ ?_
    rename_i H
    refine n_free (c := cK) (v := .ref lk) H he2.kind (by show env2.scope.names.lookup _ = _; rw [e1]; rfl) (by rw [e5]; rfl) (List.mem_cons_of_mem _ (List.mem_append_right _ (by walk_at "mem"))) ?_
    refine n_local (by with_reducible assumption) (by with_reducible assumption) (by walk_at "mem") (by walk_at "loc") ?_
    rename_i H
    refine l_item H (List.mem_cons_of_mem _ (List.mem_append_right _ (by walk_at "mem"))) hvx (by omega) ?_
    with_reducible refine spliced_none ?_
    refine ⟨⟨_, by with_reducible assumption⟩, ?_⟩
    rename_i H
    refine wpAny_call (figures G H (by show A.depth + 2 ≤ 800; omega) (hK.small _ (List.mem_of_getElem? hdi)) ?_)
    clear H
    intro s lf fv hfv H
    exact ⟨lf, fv, rfl, hfv, H.out (.tail .head)⟩
  clear H
  intro lo ov p s ho hp hps H
  (with_reducible rename Stt _ _ _ => hO); refine st_local hO (by with_reducible assumption) (by walk_at "upd") (by walk_at "put") ?_; intro _ _; clear hO
  with_reducible refine wpAny_execs_cons ?_
  with_reducible refine wpAny_Return_some ?_
  with_reducible refine wpAny_Call_NameR ?_
  refine n_glob (by with_reducible assumption) (by with_reducible assumption) (by with_reducible assumption) (by walk_at "mem") (Gd.glob (by with_reducible assumption) (by k_is)) ?_
  refine cw_fn (by with_reducible assumption) (by k_is) ?_ rfl rfl
  with_reducible refine spliced_more ?_ rfl
  with_reducible refine wpAny_Call_NameR ?_
  refine n_glob (by with_reducible assumption) (by with_reducible assumption) (by with_reducible assumption) (by walk_at "mem") (Gd.glob (by with_reducible assumption) (by k_is)) ?_
  refine cw_fn (by with_reducible assumption) (by k_is) ?_ rfl rfl
  with_reducible refine spliced_more ?_ rfl
  refine n_local (by with_reducible assumption) (by with_reducible assumption) (by walk_at "mem") (by walk_at "loc") ?_
  with_reducible refine spliced_none ?_
  refine ⟨⟨_, by with_reducible assumption⟩, ?_⟩
  rename_i H
  have nd : (wds ds).Nodup := wds_nd hK.nd
  have hwl := wds_len ds
  refine wpAny_call (s_law_sorter G H (by show A.depth + 1 ≤ 500; omega) hh2 hfr2 (hF2 _ _ (by walk_at "mem")) (by walk_at "mem") hw nd (by omega) (wds_short hK.small) ?_)
  clear H
  intro S dS D Rd rs r t1 t2 N s hDs hN hr hr0 H
  show wpAny _ _ _ _ _ _
  have H0 := H
  replace H : Stt z s ((lo, Lst ov) :: (f, _) :: (c', _) :: (rg, _) :: (ld, Lst dv) :: (lw, Lst wv) :: (lk, _) :: (Lf, _) :: (cK, _) :: (184, Tab) :: srtR prog w S dS D Rd rs 0 t1 0 t2 N []) := toOutR [_, _, _, _, _, _, _, _, _, _] H
  with_reducible refine spliced_more ?_ rfl
  refine n_local (by with_reducible assumption) (by with_reducible assumption) (by walk_at "mem") (by walk_at "loc") ?_
  with_reducible refine spliced_more ?_ rfl
  refine n_local (by with_reducible assumption) (by with_reducible assumption) (by walk_at "mem") (by walk_at "loc") ?_
  with_reducible refine spliced_more ?_ rfl
  refine n_local (by with_reducible assumption) (by with_reducible assumption) (by walk_at "mem") (by walk_at "loc") ?_
  with_reducible refine spliced_none ?_
  refine ⟨⟨_, by with_reducible assumption⟩, ?_⟩
  clear H
  refine wpAny_call (s_law_told (SW := p.map fun i => (wds ds).getD i []) G hDs H0 (by show A.depth + 1 ≤ 400; omega) (by show A.units + 3 ≤ 1000; omega) hh2 hfr2 (hF2 _ _ (by walk_at "mem")) hN hr hr0 nd (by have := hK.five; omega) (by omega) (by walk_at "mem") hw (by walk_at "mem") hd (by walk_at "mem") ho (fun i hi => ?_) rfl (row_perm hp) (row_srt hps) ?_)
  · have := (hp.mem_iff).mp hi
    rw [List.mem_range] at this; omega
  clear H0
  intro s H
  exact h _ (Stt.one H (by walk_at "mem"))

end
end Mine
set_option maxRecDepth 100000 in
set_option maxHeartbeats 8000000 in
theorem PySem.Challenge.cw_oy0250_01_holds : PySem.Challenge.rw_oy0250_01.Holds := by
  refine Mine.hd ?_
  k_fill
  intro w s₀ s₁ mg mb G Y fa o pm cd doc dV kV ho hd hcd hD hmg hg args vals as hpre hlay hrd hwl hlo
  clear hd hcd hD ho
  have X := km_in_of Y
  have hT8 := km_tabs_of Y
  clear Y
  refine Ground.open G ?_
  intro T B D TE TW
  clear B D TE TW
  have hfa : mg (PySem.Str.ofString "law") = some (.ref 187) := mg_of X T.g (by k_is)
  replace hmg : mg (PySem.Str.ofString "law") = some (.ref fa) := hmg
  rw [hfa] at hmg
  cases hmg
  clear G
  wrow_args hpre hlay hrd hwl hlo
  rename_i ns _ _ _ _ _ _ _ l xs _ hl _ _ _ hi _ hlen _
  refine enter_call ?_
  have hT9 : TabsAt [(186, 184)] s₁.heap := List.forall_mem_cons.mpr ⟨⟨codeHd_of_K (c := 186) (P := 184) X (by kernel_rfl), hT8 184 (by simp)⟩, fun _ h => nomatch h⟩
  refine kn_post hT9 (fun _ _ => rfl) ?_
  have T' := ghost_top hT9 T
  have hl' := ghost_list hT9 hl
  have hx : xs.length ≤ 16777216 := by
    have := hi.length
    omega
  have e184 := (hT9 (186, 184) List.mem_cons_self).2
  have n184 : (ghostOf s₁.heap [(186, 184)]).get? 184 = none := hideAll_none _ (by simp)
  refine Mine.s_law (z := { s₁ with heap := ghostOf s₁.heap [(186, 184)] }) (outer := []) (l := l) (xs := xs) (ns := ns)
    ⟨ghost_K hT9 X (by kernel_rfl), T'.g, T'.b, T'.builtins, T'.nolimit⟩ ⟨fun b o e => of_hideAll _ e, fun p hp => ?_, by simp, rfl, rfl⟩ (ghost_code hT9).1 ?_ (by decide) (by decide) rfl rfl (fun _ h => nomatch h) hl' hi hx fun s' H => ?_
  · rw [List.mem_singleton] at hp; subst hp
    exact ⟨⟨_, e184, rfl⟩, n184⟩
  · obtain ⟨bm, ob, b1, b2, b3, b4, b5, b6⟩ := T'.bmain
    refine ⟨bm, ob, b1, b2, fun q => ?_, fun q => ?_, b3, b4, b5, b6⟩
    · obtain ⟨o', es, ep, e, hd, _⟩ := T'.g
      rw [q, e] at b3; cases b3; rw [hd] at b6; cases b6
    · rw [q, n184] at b3; cases b3
  · obtain ⟨o2, g1, ps, rfl⟩ := H.get List.mem_cons_self
    refine ⟨⟨.inl ⟨_, _, [], rfl, fun _ => rfl, ReadsW.bool true, ?_, fun _ => ⟨List.nodup_nil, fun _ hm => (nomatch hm)⟩⟩, H.keep, H.os, ?_⟩, ⟨ps, g1⟩, trivial⟩
    · first | rfl | wrow_post
    · exact H.gens.trans hg
