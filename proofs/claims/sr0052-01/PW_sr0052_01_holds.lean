import PyProof.Rows.All
import Wide.All
import OpenK.AllK
import Wide.FinOn
import KE.BytesMake
import KE.BitLaws
import KE.KDictIter
import PySem.Challenge.RW_sr0052_01
set_option Elab.async false
section
-- part Hd
open PySem PySem.W PyProof.Rows
set_option Elab.async false
set_option maxRecDepth 100000
set_option maxHeartbeats 8000000
namespace Mine
noncomputable section
abbrev RW : RowW := PySem.Challenge.rw_sr0052_01.row.toRowW
def keepL : List Nat := [0, 1, 3, 4, 5, 6, 8, 10, 11, 12, 13, 14, 16, 17, 18, 20, 22, 23, 24, 25, 26, 27, 28, 29, 30, 31, 32]
def viewP : Program := { (RowW.prog RW) with main := { (RowW.prog RW).main with body := keepL.filterMap fun i => (RowW.prog RW).main.body[i]? } }
def looseL : List Str := [Str.ofString "_twin_re_1", Str.ofString "_twin_re_2", Str.ofString "tspecials", Str.ofString "_name_disallowed_re", Str.ofString "_value_disallowed_re", Str.ofString "_formatparam"]
def lawD : DefRec × List (Str × Expr) := (defOf viewP (Str.ofString "law")).getD (⟨Str.ofString "", default, [], default, default⟩, [])
theorem lawD_name : lawD.1.name = Str.ofString "law" := by kernel_rfl
theorem lawD_is : defOf viewP PySem.Challenge.rw_sr0052_01.row.name = some (lawD.1, lawD.2) := by kernel_rfl
theorem lawD_pr : PySem.Challenge.rw_sr0052_01.row.prog.theDef PySem.Challenge.rw_sr0052_01.row.name = some (lawD.1.params, lawD.1.body, lawD.1.scope) := by kernel_rfl
theorem lawD_kw : kwWritten? lawD.1.params.kwonlyargs lawD.1.params.kw_defaults = some lawD.2 := by kernel_rfl
theorem law_well : OpenLaw.wellSaid PySem.Challenge.rw_sr0052_01 = true := by
  rw [PySem.W.Fast.te9446332074065402090]
  kernel_rfl
theorem law_looks : (chainsOk viewP && opensWell PySem.Challenge.rw_sr0052_01.row.prog && (frees PySem.Challenge.rw_sr0052_01.row.toRowW && PySem.Challenge.rw_sr0052_01.row.within.isEmpty)) = true := by kernel_rfl
end
set_option hygiene false
local macro_rules | `(tactic| o_law) => `(tactic| refine holds_law law_well fun said => ?_)
local macro_rules | `(tactic| o_head $H) => `(tactic| (refine holds_open (q := viewP) (loose := looseL) (Xt := fun s => xlAt viewP [] s && recOk (RowW.records RW) s) (XP := XL viewP []) (Yf := Hook.obs $H) (Ya := Hook.val $H) (YP := Hook.says $H) (N := 3510) ?hl (Hook.of $H) (Hook.keeps $H) (fun s e => xl_of s (Bool.and_eq_true_iff.mp e).1) XL.keeps lawD_is lawD_pr lawD_kw (fun s e => recFacts_of (Bool.and_eq_true_iff.mp e).2) (by rfl) (by assumption) law_looks ⟨rfl, rfl, rfl, rfl, rfl, by decide +kernel⟩ ?hw ?hc; (case hl => (intro w; unfold openEnds fencedOpening topFrom staticsOk namesBound laidKept; rw [PySem.W.Fast.te10274390034422433532, PySem.W.Fast.te1435165496053646825, PySem.W.Fast.te8920871248978507458, PySem.W.Fast.te14082659384304107361, PySem.W.Fast.te14289696077712309145, PySem.W.Fast.te5923862056798008813, PySem.W.Fast.te14364793385576792824, PySem.W.Fast.te4187177175401517315]; kernel_rfl))))
open_top hd for PySem.Challenge.rw_sr0052_01
set_option hygiene true
end Mine
end
section
-- part R1
open PySem PySem.W PyProof.Rows PySem.Calls
set_option Elab.async false
set_option maxRecDepth 100000
set_option maxHeartbeats 4000000
namespace Mine

theorem Stay.refl (h : Heap) : h.StaysIn h := fun _ _ e => e
theorem Stay.trans {a b c : Heap} (x : a.StaysIn b) (y : b.StaysIn c) : a.StaysIn c := fun i o e => y i o (x i o e)

/-- what every activation counts on: room, and nothing being handled -/
structure Room (n : Nat) (A : Around) : Prop where
  depth : A.depth + n ≤ 990
  units : A.units + 8 * n ≤ 9800
  guards : A.guards = some []
  handled : A.handled = none

theorem Room.deeper {n : Nat} {A : Around} {env : Env} (r : Room (n + 1) A) : Room n (A.deeper env) :=
  ⟨by have := r.depth; show A.depth + 1 + n ≤ 990; omega, by have := r.units; show A.units + 3 + 8 * n ≤ 9800; omega, r.guards, r.handled⟩
theorem Room.less {n m : Nat} {A : Around} (r : Room n A) (h : m ≤ n) : Room m A :=
  ⟨by have := r.depth; omega, by have := r.units; omega, r.guards, r.handled⟩
theorem Room.in1 {n : Nat} {A : Around} (r : Room (n + 1) A) : Room n A.in1 :=
  ⟨by have := r.depth; show A.depth + n ≤ 990; omega, by have := r.units; show A.units + 1 + 8 * n ≤ 9800; omega, r.guards, r.handled⟩
theorem Room.lim {n : Nat} {A : Around} (r : Room n A) : A.depth < recursionLimit := by have := r.depth; show A.depth < 1000; omega
theorem Room.cline {n : Nat} {A : Around} (r : Room n A) : A.units < cLine := by have := r.units; show A.units < 9900; omega

/-- the written part and the top's names -/
structure Gnd (K : Frag) (p : Program) (loose : List Str) (h : Heap) : Prop where
  k : K.In h
  t : ∃ mg mb, TopRead p loose mg mb h
theorem Gnd.keeps {K : Frag} {p : Program} {loose : List Str} {h h' : Heap} (G : Gnd K p loose h) (k : h.StaysIn h') : Gnd K p loose h' :=
  ⟨G.k.keeps k, let ⟨mg, mb, T⟩ := G.t; ⟨mg, mb, T.keeps k⟩⟩

/-- a frame's names, as they read -/
structure Rd (env : Env) (m cm : Str → Option Value) (h : Heap) : Prop where
  ns : h.Ns env.locals m
  cell : ∀ n c, env.cells.lookup n = some c → h.IsCell c (cm n)
theorem Rd.keeps {env : Env} {m cm : Str → Option Value} {h h' : Heap} (R : Rd env m cm h) (k : h.StaysIn h') : Rd env m cm h' :=
  ⟨R.ns.keeps k, fun n c e => (R.cell n c e).keeps k⟩

/-- a frame of a def: B is what stood before (and all that will not turn), N what the frame itself turns -/
structure Fm (B : Heap) (env : Env) (m cm : Str → Option Value) (N : List (Addr × Obj)) (h : Heap) : Prop where
  rd : Rd env m cm h
  keep : B.StaysIn h
  off : B.get? env.locals = none
  look : ∀ x ∈ env.cells, env.cells.lookup x.1 = some x.2
  coff : ∀ x ∈ env.cells, B.get? x.2 = none ∧ x.2 ≠ env.locals
  apart : env.cells.Pairwise fun x y => x.2 ≠ y.2
  news : ∀ p ∈ N, h.get? p.1 = some p.2 ∧ B.get? p.1 = none ∧ p.1 ≠ env.locals ∧ ∀ x ∈ env.cells, p.1 ≠ x.2
  napart : N.Pairwise fun x y => x.1 ≠ y.1

variable {B h h' : Heap} {env : Env} {m cm : Str → Option Value} {N : List (Addr × Obj)}

theorem Fm.keeps (F : Fm B env m cm N h) (k : h.StaysIn h') : Fm B env m cm N h' :=
  ⟨F.rd.keeps k, Stay.trans F.keep k, F.off, F.look, F.coff, F.apart, fun p hp => ⟨k _ _ (F.news p hp).1, (F.news p hp).2⟩, F.napart⟩

theorem Ns.some {h : Heap} {a : Addr} {m : Str → Option Value} (x : h.Ns a m) : ∃ o, h.get? a = some o := let ⟨o, _, _, e, _⟩ := x; ⟨o, e⟩

/-- a new object that the frame may turn later -/
theorem Fm.push (F : Fm B env m cm N h) (k : h.StaysIn h') {a : Addr} {o : Obj} (hn : h.get? a = none) (ho : h'.get? a = some o) : Fm B env m cm ((a, o) :: N) h' := by
  have F' := F.keeps k
  refine ⟨F'.rd, F'.keep, F'.off, F'.look, F'.coff, F'.apart, fun p hp => ?_, ?_⟩
  · rcases List.mem_cons.mp hp with rfl | hp
    · refine ⟨ho, ?_, ?_, ?_⟩
      · cases e : B.get? a with
        | none => rfl
        | some o' => have := F.keep _ _ e; rw [hn] at this; cases this
      · intro e
        obtain ⟨o', e'⟩ := Ns.some F.rd.ns
        rw [← e] at e'; rw [hn] at e'; cases e'
      · intro x hx e
        obtain ⟨o', e', _⟩ := F.rd.cell _ _ (F.look x hx)
        rw [← e] at e'; rw [hn] at e'; cases e'
    · exact F'.news p hp
  · refine List.pairwise_cons.mpr ⟨fun y hy e => ?_, F.napart⟩
    have := (F.news y hy).1
    have e' : a = y.1 := e
    rw [← e', hn] at this; cases this

/-- the frame's own objects put aside -/
def aside (h : Heap) (env : Env) (N : List (Addr × Obj)) : Heap := hideAll h (env.locals :: (env.cells.map (·.2) ++ N.map (·.1)))

theorem aside_get {b : Addr} {o : Obj} (e : h.get? b = some o) (h1 : b ≠ env.locals) (h2 : ∀ x ∈ env.cells, b ≠ x.2) (h3 : ∀ p ∈ N, b ≠ p.1) : (aside h env N).get? b = some o := by
  refine hideAll_get _ e fun hm => ?_
  rcases List.mem_cons.mp hm with q | hm
  · exact h1 q
  rcases List.mem_append.mp hm with hm | hm
  · obtain ⟨x, hx, q⟩ := List.mem_map.mp hm
    exact h2 x hx q.symm
  · obtain ⟨x, hx, q⟩ := List.mem_map.mp hm
    exact h3 x hx q.symm

/-- all but what the frame turns becomes the ground -/
theorem Fm.rebase (F : Fm B env m cm N h) {N' : List (Addr × Obj)} (hs : N'.Sublist N) :
    Fm (aside h env N') env m cm N' h ∧ B.StaysIn (aside h env N') := by
  refine ⟨⟨F.rd, fun b o e => of_hideAll _ e, hideAll_none _ (.head _), F.look, fun x hx => ⟨hideAll_none _ (.tail _ (List.mem_append_left _ (List.mem_map_of_mem hx))), (F.coff x hx).2⟩, F.apart, fun p hp => ?_, F.napart.sublist hs⟩, fun b o e => ?_⟩
  · have q := F.news p (hs.subset hp)
    exact ⟨q.1, hideAll_none _ (.tail _ (List.mem_append_right _ (List.mem_map_of_mem hp))), q.2.2⟩
  · refine aside_get (F.keep _ _ e) ?_ ?_ ?_
    · rintro rfl; rw [F.off] at e; cases e
    · rintro x hx rfl; rw [(F.coff x hx).1] at e; cases e
    · rintro p hp rfl; rw [(F.news p (hs.subset hp)).2.1] at e; cases e

/-- what is new since h₀ stands in the ground too -/
theorem Fm.rebase_new (F : Fm B env m cm N h) (k : h.StaysIn h') :
    Fm (aside h' env N) env m cm N h' ∧ B.StaysIn (aside h' env N) ∧ ∀ b o, h.get? b = none → h'.get? b = some o → (aside h' env N).get? b = some o := by
  obtain ⟨F', kb⟩ := (F.keeps k).rebase (List.Sublist.refl N)
  refine ⟨F', kb, fun b o hn e => aside_get e ?_ ?_ ?_⟩
  · rintro rfl
    obtain ⟨o', e'⟩ := Ns.some F.rd.ns
    rw [hn] at e'; cases e'
  · rintro x hx rfl
    obtain ⟨o', e', _⟩ := F.rd.cell _ _ (F.look x hx)
    rw [hn] at e'; cases e'
  · rintro p hp rfl
    have := (F.news p hp).1
    rw [hn] at this; cases this

/-- one own object turned -/
theorem Fm.turn {pre post : List (Addr × Obj)} {a : Addr} {o o' : Obj} (F : Fm B env m cm (pre ++ (a, o) :: post) h) (hs : Heap.SameBut a h h') (ho : h'.get? a = some o') :
    Fm B env m cm (pre ++ (a, o') :: post) h' := by
  have q := F.news (a, o) (List.mem_append_right _ (.head _))
  have ap := List.pairwise_append.mp F.napart
  have ap2 := List.pairwise_cons.mp ap.2.1
  have ne : ∀ p, p ∈ pre ∨ p ∈ post → p.1 ≠ a := fun p hp => hp.elim (fun hp => ap.2.2 p hp (a, o) (.head _)) fun hp e => ap2.1 p hp e.symm
  refine ⟨⟨F.rd.ns.sameBut hs (Ne.symm q.2.2.1), fun n c e => (F.rd.cell n c e).sameBut hs fun e' => ?_⟩, fun b ob e => (hs.2 b fun e' => ?_).trans (F.keep b ob e), F.off, F.look, F.coff, F.apart, fun p hp => ?_, ?_⟩
  · exact q.2.2.2 _ (mem_of_lookup e) e'.symm
  · rw [e'] at e; rw [q.2.1] at e; cases e
  · rcases List.mem_append.mp hp with hp | hp
    · exact ⟨(hs.2 _ (ne p (.inl hp))).trans (F.news p (List.mem_append_left _ hp)).1, (F.news p (List.mem_append_left _ hp)).2⟩
    · rcases List.mem_cons.mp hp with rfl | hp
      · exact ⟨ho, q.2⟩
      · exact ⟨(hs.2 _ (ne p (.inr hp))).trans (F.news p (List.mem_append_right _ (.tail _ hp))).1, (F.news p (List.mem_append_right _ (.tail _ hp))).2⟩
  · refine List.pairwise_append.mpr ⟨ap.1, List.pairwise_cons.mpr ⟨fun y hy => ap2.1 y hy, ap2.2⟩, fun x hx y hy => ?_⟩
    rcases List.mem_cons.mp hy with rfl | hy
    · exact ap.2.2 x hx (a, o) (.head _)
    · exact ap.2.2 x hx y (.tail _ hy)

/-- a local stored -/
theorem Fm.set {x : Str} {v : Value} (F : Fm B env m cm N h) (hn : h'.Ns env.locals (fun y => if y = x then some v else m y)) (hs : Heap.SameBut env.locals h h') :
    Fm B env (fun y => if y = x then some v else m y) cm N h' := by
  refine ⟨⟨hn, fun n c e => (F.rd.cell n c e).sameBut hs (F.coff _ (mem_of_lookup e)).2⟩, fun b o e => (hs.2 b fun e' => ?_).trans (F.keep b o e), F.off, F.look, F.coff, F.apart, fun p hp => ⟨(hs.2 _ (F.news p hp).2.2.1).trans (F.news p hp).1, (F.news p hp).2⟩, F.napart⟩
  rw [e', F.off] at e; cases e
/-- a cell stored -/
theorem Fm.setCell {x : Str} {c : Addr} {v : Value} (F : Fm B env m cm N h) (hc : env.cells.lookup x = some c) (hv : h'.IsCell c (some v)) (hs : Heap.SameBut c h h') :
    Fm B env m (fun y => if y = x then some v else cm y) N h' := by
  have hm := mem_of_lookup hc
  have q := F.coff _ hm
  refine ⟨⟨F.rd.ns.sameBut hs (Ne.symm q.2), fun n c' e => ?_⟩, fun b o e => (hs.2 b fun e' => ?_).trans (F.keep b o e), F.off, F.look, F.coff, F.apart, fun p hp => ⟨(hs.2 _ ((F.news p hp).2.2.2 _ hm)).trans (F.news p hp).1, (F.news p hp).2⟩, F.napart⟩
  · by_cases hnx : n = x
    · subst hnx
      rw [hc] at e; cases e
      simpa using hv
    · rw [if_neg hnx]
      exact (F.rd.cell n c' e).sameBut hs fun e' => hnx (name_of_addr F.apart (mem_of_lookup e) (e' ▸ hm))
  · rw [e'] at e; rw [q.1] at e; cases e

section
variable {M : Model} {A : Around} {E : Value → Shared → Prop} {s : Shared}
variable {K : Frag} {p : Program} {loose : List Str}

theorem e_local {x : Str} {pos : Pos} {v : Value} {Q : Value → Shared → Prop} (R : Rd env m cm s.heap) (hv : m x = some v) (h : Q v s)
    (hk : env.scope.kind = .function := by rfl) (hl : env.kindOf x = some .local := by rfl) (hd : (x == ("__debug__" : Str)) = false := by rfl) :
    wpAny M A (eval (.Name x pos) env) Q E s := wpAny_Name (wpAny_loadName_local hk hl R.ns hv h) hd
theorem e_cell {x : Str} {pos : Pos} {c : Addr} {v : Value} {Q : Value → Shared → Prop} (R : Rd env m cm s.heap) (hv : cm x = some v) (h : Q v s)
    (hk : env.scope.kind = .function := by rfl) (hl : env.kindOf x = some .cell := by rfl) (hc : env.cells.lookup x = some c := by rfl) (hd : (x == ("__debug__" : Str)) = false := by rfl) :
    wpAny M A (eval (.Name x pos) env) Q E s := wpAny_Name (wpAny_loadName_cell hk hl hc (hv ▸ R.cell _ _ hc) h) hd
theorem e_free {x : Str} {pos : Pos} {c : Addr} {v : Value} {Q : Value → Shared → Prop} (R : Rd env m cm s.heap) (hv : cm x = some v) (h : Q v s)
    (hk : env.scope.kind = .function := by rfl) (hl : env.kindOf x = some .free := by rfl) (hc : env.cells.lookup x = some c := by rfl) (hd : (x == ("__debug__" : Str)) = false := by rfl) (hn : (x == ("__classdict__" : Str)) = false := by rfl) :
    wpAny M A (eval (.Name x pos) env) Q E s := wpAny_Name (wpAny_loadName_free hk hl hc (hv ▸ R.cell _ _ hc) h hn) hd
theorem e_glob {x : Str} {pos : Pos} {v : Value} {Q : Value → Shared → Prop} (G : Gnd K p loose s.heap) (hg : nsIn K mainGlobals x = some (some v)) (h : Q v s)
    (hk : env.scope.kind = .function := by rfl) (hx : env.kindOf x = some .globalImplicit := by rfl) (he : env.globals = mainGlobals := by rfl) (hd : (x == ("__debug__" : Str)) = false := by rfl) :
    wpAny M A (eval (.Name x pos) env) Q E s :=
  let ⟨_, _, T⟩ := G.t
  Name_function_global hk hx (loadGlobal_global (he ▸ T.g) (mg_of G.k T.g hg) h) hd
theorem e_builtin {x : Str} {pos : Pos} {v : Value} {Q : Value → Shared → Prop} (G : Gnd K p loose s.heap) (hg : nsIn K mainGlobals x = some none) (hv : bootBuiltins x = some v) (h : Q v s) (hn : x ≠ "__name__" := by decide)
    (hk : env.scope.kind = .function := by rfl) (hx : env.kindOf x = some .globalImplicit := by rfl) (he : env.globals = mainGlobals := by rfl) (hb : env.builtins = builtinsNs := by rfl) (hd : (x == ("__debug__" : Str)) = false := by rfl) :
    wpAny M A (eval (.Name x pos) env) Q E s :=
  let ⟨_, _, T⟩ := G.t
  Name_function_global hk hx (loadGlobal_builtin (he ▸ T.g) (mg_none_of G.k T.g hg) (hb ▸ T.b) ((T.builtins x hn).trans hv) h) hd

theorem s_local {x : Str} {v : Value} {Q : Unit → Shared → Prop} (F : Fm B env m cm N s.heap)
    (h : ∀ h', Fm B env (fun y => if y = x then some v else m y) cm N h' → Q () { s with heap := h', toks := s.toks + 1 })
    (hk : env.scope.kind = .function := by rfl) (hl : env.kindOf x = some .local := by rfl) : wpAny M A (storeName env x v) Q E s :=
  wpAny_storeName_local hl F.rd.ns (fun h' hn hs => h h' (F.set hn hs)) (by rw [hk]; rfl)
theorem s_cell {x : Str} {c : Addr} {v : Value} {Q : Unit → Shared → Prop} (F : Fm B env m cm N s.heap)
    (h : ∀ h', Fm B env m (fun y => if y = x then some v else cm y) N h' → Q () { s with heap := h' })
    (hk : env.scope.kind = .function := by rfl) (hl : env.kindOf x = some .cell := by rfl) (hc : env.cells.lookup x = some c := by rfl) : wpAny M A (storeName env x v) Q E s :=
  wpAny_storeName_cell hk hl hc (F.rd.cell _ _ hc) fun h' hv hs => h h' (F.setCell hc hv hs)
end

section
variable {prog : Program} {w : World} {A : Around} {s : Shared} {K : Frag} {p : Program} {loose : List Str}
theorem lookup_of_nodup : ∀ {l : List (Str × Addr)}, (l.map (·.1)).Nodup → ∀ x ∈ l, l.lookup x.1 = some x.2
  | y :: r, hn, x, hx => by
    rw [List.map_cons, List.nodup_cons] at hn
    rcases List.mem_cons.mp hx with rfl | hx
    · rw [List.lookup_cons]; simp
    · rw [List.lookup_cons]
      have : (x.1 == y.1) = false := beq_eq_false_iff_ne.mpr fun e => hn.1 (e ▸ List.mem_map_of_mem hx)
      rw [this]
      exact lookup_of_nodup hn.2 x hx

theorem cellsFrom_fst : ∀ (names : List (Str × NameKind)) (n n' : Nat) (acc acc' : List (Str × Addr)), acc.map (·.1) = acc'.map (·.1) → (cellsFrom n names acc).map (·.1) = (cellsFrom n' names acc').map (·.1)
  | [], _, _, _, _, h => h
  | (x, k) :: r, n, n', acc, acc', h => by
    unfold cellsFrom
    split
    · exact cellsFrom_fst r _ _ _ _ (by simp [h])
    · exact cellsFrom_fst r _ _ _ _ h

/-- a def of the text is entered -/
theorem enter {R : Result → Shared → Prop} {name qual : Str} {params : Arguments} {body : List Stmt} {scope : Scope} {dV kV doc pm cdv ct oc : Value} {an od : Option Addr} {osl : Array (Option Value)} {f : Addr} {vals : List Value} {binds : List (Str × Value)} {n : Nat}
    (G : Gnd K p loose s.heap) (r : Room (n + 1) A)
    (ho : K.lookup f = some ⟨oc, od, .func (fnOf name qual params body scope dV kV doc pm an cdv ct), osl⟩) (hcd : codeIn K cdv qual = true)
    (hbind : bindArgs (fnOf name qual params body scope dV kV doc pm an cdv ct) ⟨vals, []⟩ = pure binds)
    (hkind : (binds.all fun y => scope.names.lookup y.1 == some .local || scope.names.lookup y.1 == some .cell) = true)
    (hnd : ((cellsFrom 0 scope.names []).map (·.1)).Nodup)
    (h : ∀ L h₁ tk, s.heap.StaysIn h₁ → s.heap.get? L = none → Fm s.heap (envOfC qual scope L f cdv) (bindL (envOfC qual scope L f cdv).kindOf binds fun _ => none) (bindC (envOfC qual scope L f cdv).kindOf binds fun _ => none) [] h₁ →
      Room n (A.deeper (envOfC qual scope L f cdv)) →
      wpAny (model prog w) (A.deeper (envOfC qual scope L f cdv)) (execs body (envOfC qual scope L f cdv)) (fun fl s' => R (.ok (.ret (match fl with | .ret v => v | _ => .none))) s')
        (fun e s' => wpAny (model prog w) (A.deeper (envOfC qual scope L f cdv)) (leaving (envOfC qual scope L f cdv) e) (fun _ s'' => R (.error e) s'') (fun e' s'' => R (.error e') s'') s')
        { s with heap := h₁, toks := tk })
    (hco : scope.isCoroutine = false := by rfl) (hgen : scope.isGenerator = false := by rfl) (hk : scope.kind = .function := by rfl) :
    codeAny (model prog w) A (.call (.ref f) ⟨vals, []⟩) R s := by
  obtain ⟨mg, mb, T⟩ := G.t
  refine codeAny_call_cells (fd := fnOf name qual params body scope dV kV doc pm an cdv ct) r.lim (G.k _ _ ho) rfl T.nolimit (codeRec_of G.k hcd) rfl hbind rfl (kindsX hkind _) (fun s₁ x => ?_) hco hgen hk
  obtain ⟨h₁, tk, rfl⟩ := x.toInCall.same
  have hL : s.heap.get? s.heap.objs.size = none := by
    cases e : s.heap.get? s.heap.objs.size with
    | none => rfl
    | some o => exact absurd (Heap.lt_size e) (Nat.lt_irrefl _)
  have hfree : ∀ c, s.heap.objs.size ≤ c → s.heap.get? c = none := fun c hc => by
    cases e : s.heap.get? c with
    | none => rfl
    | some o => exact absurd (Nat.lt_of_lt_of_le (Heap.lt_size e) hc) (Nat.lt_irrefl _)
  exact h s.heap.objs.size h₁ tk x.toInCall.keep hL ⟨⟨x.toInCall.ns, x.cell⟩, x.toInCall.keep, hL, lookup_of_nodup (by show ((cellsFrom (s.heap.objs.size + 1) scope.names []).map (·.1)).Nodup; rw [cellsFrom_fst scope.names _ 0 [] [] rfl]; exact hnd), fun y hy => ⟨hfree _ (Nat.le_of_lt (x.above y.1 y.2 hy)), Nat.ne_of_gt (x.above y.1 y.2 hy)⟩, x.apart, fun _ hp => (nomatch hp), List.Pairwise.nil⟩ r.deeper
end
end Mine
end
section
-- part R2
open PySem PySem.W PyProof.Rows PySem.Calls
set_option Elab.async false
set_option maxRecDepth 100000
set_option maxHeartbeats 4000000
namespace Mine

section
variable {M : Model} {A : Around} {E : Value → Shared → Prop} {s : Shared} {env : Env} {pos : Pos}

def nostar (args : List Expr) : Bool := args.all fun e => !PySem.W.isStarred e
theorem starEach_plain {e : Expr} {rest : List Expr} {env : Env} (h : PySem.W.isStarred e = false) : starEach (e :: rest) env = (false, eval e env) :: starEach rest env := by
  cases e <;> first | rfl | cases h
theorem nostar_cons {e : Expr} {rest : List Expr} (h : nostar (e :: rest) = true) : PySem.W.isStarred e = false ∧ nostar rest = true := by
  unfold nostar at h
  rw [List.all_cons, Bool.and_eq_true, Bool.not_eq_true'] at h
  exact h
theorem starEach_any {env : Env} : ∀ {args : List Expr}, nostar args = true → (starEach args env).any (·.1) = false
  | [], _ => rfl
  | e :: rest, h => by
    obtain ⟨h1, h2⟩ := nostar_cons h
    rw [starEach_plain h1, List.any_cons, starEach_any h2]; rfl
theorem starEach_all {env : Env} : ∀ {args : List Expr}, nostar args = true → (backTo pos (starEach args env)).all (fun x => !x.1) = true
  | [], _ => rfl
  | e :: rest, h => by
    obtain ⟨h1, h2⟩ := nostar_cons h
    rw [starEach_plain h1]
    show (true && (backTo pos (starEach rest env)).all (fun x => !x.1)) = true
    rw [starEach_all h2]; rfl

theorem sp_nil {Q : List Value → Shared → Prop} (h : Q [] s) : wpAny M A (spliced (backTo pos (starEach [] env))) Q E s := spliced_nil h
theorem sp_cons {e : Expr} {rest : List Expr} {Q : List Value → Shared → Prop} (h : wpAny M A (eval e env) (fun v s₁ => wpAny M A (spliced (backTo pos (starEach rest env))) (fun vs s₂ => Q (v :: vs) s₂) E s₁) E s)
    (hst : PySem.W.isStarred e = false := by rfl) : wpAny M A (spliced (backTo pos (starEach (e :: rest) env))) Q E s := by
  rw [starEach_plain hst]
  exact spliced_cons h
theorem sp1 {e : Expr} {Q : List Value → Shared → Prop} (h : wpAny M A (eval e env) (fun v s₁ => Q [v] s₁) E s)
    (hst : PySem.W.isStarred e = false := by rfl) : wpAny M A (spliced (backTo pos (starEach [e] env))) Q E s :=
  sp_cons (wpAny_mono h (fun _ _ q => sp_nil q) fun _ _ q => q) hst
theorem sp2 {e f : Expr} {Q : List Value → Shared → Prop} (h : wpAny M A (eval e env) (fun v s₁ => wpAny M A (eval f env) (fun w s₂ => Q [v, w] s₂) E s₁) E s)
    (hst : PySem.W.isStarred e = false := by rfl) (hst' : PySem.W.isStarred f = false := by rfl) : wpAny M A (spliced (backTo pos (starEach [e, f] env))) Q E s :=
  sp_cons (wpAny_mono h (fun _ _ q => sp1 q hst') fun _ _ q => q) hst
theorem sp3 {e f g : Expr} {Q : List Value → Shared → Prop} (h : wpAny M A (eval e env) (fun v s₁ => wpAny M A (eval f env) (fun w s₂ => wpAny M A (eval g env) (fun x s₃ => Q [v, w, x] s₃) E s₂) E s₁) E s)
    (hst : PySem.W.isStarred e = false := by rfl) (hst' : PySem.W.isStarred f = false := by rfl) (hst'' : PySem.W.isStarred g = false := by rfl) : wpAny M A (spliced (backTo pos (starEach [e, f, g] env))) Q E s :=
  sp_cons (wpAny_mono h (fun _ _ q => sp2 q hst' hst'') fun _ _ q => q) hst

theorem plain_backTo : ∀ (l : List (Bool × Sem Value)), (backTo pos l).any (·.1) = l.any (·.1)
  | [] => rfl
  | x :: r => by
    show (x.1 || (backTo pos r).any (·.1)) = (x.1 || r.any (·.1))
    rw [plain_backTo r]

/-- a built-in called on some arguments -/
theorem cw_builtin {id : String} {first : List Value} {e : Expr} {rest : List Expr} {Q : Value → Shared → Prop}
    (h : wpAny M A (spliced (backTo pos (starEach (e :: rest) env))) (fun vs s₁ => wpAny M A (call (.builtin id) (first ++ vs)) Q E s₁) E s)
    (hst : nostar (e :: rest) = true := by rfl) :
    wpAny M A (callWith pos (.builtin id) first (backTo pos (starEach (e :: rest) env)) []) Q E s := by
  refine callWith_builtin ((plain_backTo _).trans (starEach_any hst)) ?_
  rw [starEach_plain (nostar_cons hst).1] at h ⊢
  exact evalArgs_plain h
theorem cw_builtin0 {id : String} {first : List Value} {Q : Value → Shared → Prop} (h : wpAny M A (call (.builtin id) (first ++ [])) Q E s) :
    wpAny M A (callWith pos (.builtin id) first (backTo pos (starEach [] env)) []) Q E s :=
  callWith_builtin rfl (evalArgs_nil3 h)

/-- eval of a call by name -/
theorem e_call {id : Str} {p : Pos} {args : List Expr} {Q : Value → Shared → Prop}
    (h : wpAny M A (eval (.Name id p) env) (fun f s₁ => wpAny M A (callWith pos f [] (backTo pos (starEach args env)) []) Q E s₁) E s) :
    wpAny M A (eval (.Call (.Name id p) args [] pos) env) Q E s := wpAny_Call_Name_kw h

/-- a method call, whatever the object -/
theorem e_meth {o : Expr} {name : Str} {apos : Pos} {args : List Expr} {Q : Value → Shared → Prop}
    (h : wpAny M A (eval o env) (fun ov s₁ => ∀ pl, wpAny M A (getMethod ov name pl) (fun fm s₂ => wpAny M A (callWith pos fm.1 fm.2 (backTo pos (starEach args env)) []) Q E s₂) E s₁) E s)
    (hbase : attributeBase o name env (eval o env) = eval o env := by rfl) (hline : (apos.endLine == pos.line) = true := by rfl)
    (hst : nostar args = true := by rfl) (hlen : decide (args.length < 30) = true := by rfl) :
    wpAny M A (eval (.Call (.Attribute o name apos) args [] pos) env) Q E s := by
  have hfew : methodCallForm (args.length + 0) (backTo pos (starEach args env)) (backToKw pos (keywordEach [] env)) = true := by
    unfold methodCallForm
    rw [starEach_all hst]
    exact hlen
  rw [arm_eval_Call, hbase]
  refine wpAny_bind (wpAny_mono h (fun ov s₁ h₁ => ?_) fun _ _ q => q)
  refine wpAny_bind (wpAny_standAt ?_)
  show wpAny M A (methodCall o name apos pos env ov (args.length + 0) (backTo pos (starEach args env)) (backToKw pos (keywordEach [] env))) Q E s₁
  unfold methodCall
  refine wpAny_bind (wpAny_holding ?_)
  unfold calleeOf
  rw [hfew, if_pos rfl]
  refine wpAny_mono (h₁ _) (fun fm s₂ h₂ => ?_) fun _ _ q => q
  have hpos : methodCallPos true o env apos pos = pure pos := by
    unfold methodCallPos
    rw [hline]; rfl
  rw [hpos]
  exact wpAny_bind (wpAny_pure h₂)

/-- the built-in method of a built-in type -/
theorem gm_builtin {v : Value} {name : Str} {T id : String} {pl : Sem Bool} {Q : Value × List Value → Shared → Prop} (pa : PlainAttrs T) (slot : Slot T name id) (hty : typeOf (.builtin id) = pure (.type "method_descriptor"))
    (hT : s.TypeIs v T) (hd : ∀ a, v = .ref a → ∃ ob, s.heap.get? a = some ob ∧ ob.dict = none) (h : Q (.builtin id, [v]) s) : wpAny M A (getMethod v name pl) Q E s := by
  obtain ⟨⟨g, hg, hc⟩, hn⟩ := pa
  unfold getMethod
  refine wpAny_bind (wpAny_specialOf hT hg ?_)
  show wpAny M A (if (Manifest.canonical g != "object.__getattribute__") = true then _ else _) Q E s
  rw [hc, if_neg Bool.false_ne_true]
  refine wpAny_bind (wpAny_specialOf hT hn ?_)
  show wpAny M A (if (none : Option Value).isSome = true then _ else _) Q E s
  rw [if_neg (show ¬ ((none : Option Value).isSome = true) from Bool.false_ne_true)]
  refine wpAny_bind (wpAny_specialOf hT slot.lookup ?_)
  refine wpAny_bind (wpAny_of_eq hty ?_)
  show wpAny M A (if (Value.type "method_descriptor" != Value.type "function" && Value.type "method_descriptor" != Value.type "method_descriptor" && Value.type "method_descriptor" != Value.type "wrapper_descriptor") = true then _ else _) Q E s
  rw [if_neg (by decide)]
  cases v with
  | ref a =>
    obtain ⟨ob, e, ed⟩ := hd a rfl
    refine wpAny_bind (wpAny_loadPart e ?_)
    rw [ed]
    exact wpAny_bind (wpAny_rule (wpAny_pure h))
  | _ => exact wpAny_bind (wpAny_rule (wpAny_pure h))
end

section
variable {prog : Program} {w : World} {A : Around} {E : Value → Shared → Prop} {s : Shared} {env : Env}

theorem t_str {value slice : Expr} {x : Str} {t u : Tok} {i : Int} {c : Nat} {Q : Value → Shared → Prop} (hr : (decide (i < -(2 ^ 63 : Int)) || decide (i ≥ 2 ^ 63)) = false) (hc : (seqIndex? i x.length).bind (x.cps[·]?) = some c)
    (h : Q (.str ⟨#[c]⟩ s.toks) { s with toks := s.toks + 1 })
    (hs : subscripted slice false (.str x t) (.int i u) = operate [.str x t, .int i u] (getItem (.str x t) (.int i u)) := by with_unfolding_all rfl) :
    wpAny (model prog w) A (subscriptTail value slice (.str x t) (.int i u)) Q E s :=
  tail_any (typeIs_str s x t) F.slot_str_getitem.lookup (P.getItem_str hr hc h) hs
theorem t_list {value slice : Expr} {l : Addr} {items : Array Value} {u : Tok} {i : Int} {v : Value} {Q : Value → Shared → Prop} (hl : s.heap.IsList l items) (h0 : 0 ≤ i) (hh : i < 2 ^ 63) (hx : items[i.toNat]? = some v)
    (h : Q v s)
    (hs : subscripted slice false (.ref l) (.int i u) = operate [.ref l, .int i u] (getItem (.ref l) (.int i u)) := by with_unfolding_all rfl) :
    wpAny (model prog w) A (subscriptTail value slice (.ref l) (.int i u)) Q E s :=
  tail_any hl.typeIs slot_list_getitem.lookup (wpAny_getItem_list hl h0 hh hx h) hs
end
end Mine
end
section
-- part Re1
set_option maxRecDepth 100000
set_option maxHeartbeats 4000000
namespace Mine
open PySem hiding Frame Outcome Kept
open PySem.Sre

def c2 : Array Nat := #[14, 9, 4, 1, 2, 16, 10, 16, 13, 0, 7, 7, 16, 13, 16, 10, 15, 18, 5, 16, 10, 15, 13, 11, 16, 13, 5, 5, 0, 16, 10, 1, 15, 2, 0, 1]
def c1 : Array Nat := #[14, 4, 0, 1, 1, 6, 1, 16, 46, 1]

def mk (code text : Array Nat) (ls start pc pos handed : Nat) (om : Bool) (fs : List Frame) (wt : Nat) (an : Option Bool) (seen : Seen) (oc : Option Outcome) : M :=
  { code, text, lim := text.size, start, lastStart := ls, pc, pos, handed, outermost := om, marks := #[], frames := fs, weight := wt, answer := an, seen, outcome := oc }

/-- n steps lead from m to m' and none before has ended -/
def Runs (m : M) (n : Nat) (m' : M) : Prop := ∀ k, M.runFor (n + k) m = M.runFor k m'
theorem Runs.refl (m : M) : Runs m 0 m := fun k => by rw [Nat.zero_add]
theorem Runs.trans {a b c : M} {n k : Nat} (x : Runs a n b) (y : Runs b k c) : Runs a (n + k) c := fun j => by
  rw [Nat.add_assoc, x, y]
theorem Runs.one {m : M} {m' : M} (h0 : m.outcome = none) (h : m.step = m') : Runs m 1 m' := fun k => by
  rw [Nat.add_comm, ← h]
  show (if m.outcome.isSome then m else M.runFor k m.step) = _
  rw [h0]; rfl

section
variable {code text : Array Nat} {ls start pc pos handed : Nat} {om : Bool} {fs : List Frame} {wt : Nat} {seen : Seen} {c : Nat}

theorem step_exec (hpc : pc < code.size) : (mk code text ls start pc pos handed om fs wt none seen none).step = (mk code text ls start pc pos handed om fs wt none seen none).exec := by
  show (if pc < code.size then M.exec (mk code text ls start pc pos handed om fs wt none seen none) else _) = _
  rw [if_pos hpc]
theorem word_at (k : Nat) : (mk code text ls start pc pos handed om fs wt none seen none).word k = code.getD (pc + k) 0 := rfl

theorem lit_exec (hpc : pc < code.size) (h0 : code.getD pc 0 = 16) (h1 : code.getD (pc + 1) 0 = c) :
    (mk code text ls start pc pos handed om fs wt none seen none).step =
      if pos ≥ text.size then mk code text ls start pc pos handed om fs wt (some false) (seen.add 16) none
      else if text.getD pos 0 == c then mk code text ls start (pc + 2) (pos + 1) handed om fs wt none (seen.add 16) none
      else mk code text ls start pc pos handed om fs wt (some false) (seen.add 16) none := by
  rw [step_exec hpc]
  have h2 : ops[code.getD pc 0]? = some Op.LITERAL := by rw [h0]; rfl
  unfold M.exec
  rw [word_at, Nat.add_zero, h0]
  show (if pos ≥ text.size then _ else match accepts code pc (text.getD pos 0) (seen.add 16) with | .error why => _ | .ok (false, seen) => _ | .ok (true, seen) => _) = _
  have ea : accepts code pc (text.getD pos 0) (seen.add 16) = .ok (text.getD pos 0 == c, seen.add 16) := by
    unfold accepts
    rw [h2]
    show Except.ok (text.getD pos 0 == code.getD (pc + 1) 0, _) = _
    rw [h1]
  have ew : itemWidth code pc = 2 := by unfold itemWidth; rw [h2]
  rw [ea]
  split
  · rfl
  · cases text.getD pos 0 == c
    · rfl
    · show ({ mk code text ls start pc pos handed om fs wt none seen none with seen := seen.add 16, pc := pc + itemWidth code pc, pos := pos + 1 } : M) = _
      rw [ew]; rfl

theorem lit_yes (hpc : pc < code.size) (h0 : code.getD pc 0 = 16) (h1 : code.getD (pc + 1) 0 = c) (hp : pos < text.size) (hc : text.getD pos 0 = c) :
    Runs (mk code text ls start pc pos handed om fs wt none seen none) 1 (mk code text ls start (pc + 2) (pos + 1) handed om fs wt none (seen.add 16) none) :=
  Runs.one rfl (by rw [lit_exec hpc h0 h1, if_neg (Nat.not_le.mpr hp), hc]; simp)
theorem lit_no (hpc : pc < code.size) (h0 : code.getD pc 0 = 16) (h1 : code.getD (pc + 1) 0 = c) (hc : ¬ (pos < text.size ∧ text.getD pos 0 = c)) :
    Runs (mk code text ls start pc pos handed om fs wt none seen none) 1 (mk code text ls start pc pos handed om fs wt (some false) (seen.add 16) none) :=
  Runs.one rfl (by
    rw [lit_exec hpc h0 h1]
    split
    · rfl
    · rename_i hp
      have : (text.getD pos 0 == c) = false := beq_eq_false_iff_ne.mpr fun e => hc ⟨Nat.lt_of_not_le hp, e⟩
      rw [this]; rfl)

theorem jump {d : Nat} (hpc : pc < code.size) (h0 : code.getD pc 0 = 15) (h1 : code.getD (pc + 1) 0 = d) :
    Runs (mk code text ls start pc pos handed om fs wt none seen none) 1 (mk code text ls start (pc + 1 + d) pos handed om fs wt none (seen.add 15) none) :=
  Runs.one rfl (by
    rw [step_exec hpc]
    unfold M.exec
    rw [word_at, Nat.add_zero, h0]
    show ({ mk code text ls start pc pos handed om fs wt none (seen.add 15) none with pc := pc + 1 + code.getD (pc + 1) 0 } : M) = _
    rw [h1]; rfl)

theorem success (hpc : pc < code.size) (h0 : code.getD pc 0 = 1) :
    Runs (mk code text ls start pc pos handed om fs wt none seen none) 1 (mk code text ls start pc pos pos om fs wt (some true) (seen.add 1) none) :=
  Runs.one rfl (by
    rw [step_exec hpc]
    unfold M.exec
    rw [word_at, Nat.add_zero, h0]
    show (if (om && ((false && pos != text.size) || (false && pos == start))) = true then _ else _) = _
    rw [if_neg (by simp)]
    rfl)

theorem at_line (hpc : pc < code.size) (h0 : code.getD pc 0 = 6) (h1 : code.getD (pc + 1) 0 = 1) (h : pos = 0 ∨ text.getD (pos - 1) 0 = 10) :
    Runs (mk code text ls start pc pos handed om fs wt none seen none) 1 (mk code text ls start (pc + 2) pos handed om fs wt none ((seen.add 6).add 44) none) :=
  Runs.one rfl (by
    rw [step_exec hpc]
    unfold M.exec
    rw [word_at, Nat.add_zero, h0]
    show (match (mk code text ls start pc pos handed om fs wt none (seen.add 6) none).isAt (code.getD (pc + 1) 0) with
      | .error why => _
      | .ok yes => if yes then ({ mk code text ls start pc pos handed om fs wt none ((seen.add 6).add (43 + code.getD (pc + 1) 0)) none with pc := pc + 2 } : M) else _) = _
    rw [h1]
    have : (mk code text ls start pc pos handed om fs wt none (seen.add 6) none).isAt 1 = .ok (pos == 0 || text.getD (pos - 1) 0 == 10) := rfl
    rw [this]
    have e : (pos == 0 || text.getD (pos - 1) 0 == 10) = true := by
      rcases h with h | h
      · simp [h]
      · rw [h]; simp
    rw [e]; rfl)
theorem at_line_no (hpc : pc < code.size) (h0 : code.getD pc 0 = 6) (h1 : code.getD (pc + 1) 0 = 1) (h : ¬ (pos = 0 ∨ text.getD (pos - 1) 0 = 10)) :
    Runs (mk code text ls start pc pos handed om fs wt none seen none) 1 (mk code text ls start pc pos handed om fs wt (some false) ((seen.add 6).add 44) none) :=
  Runs.one rfl (by
    rw [step_exec hpc]
    unfold M.exec
    rw [word_at, Nat.add_zero, h0]
    show (match (mk code text ls start pc pos handed om fs wt none (seen.add 6) none).isAt (code.getD (pc + 1) 0) with
      | .error why => _
      | .ok yes => if yes then _ else (mk code text ls start pc pos handed om fs wt none ((seen.add 6).add (43 + code.getD (pc + 1) 0)) none).say false) = _
    rw [h1]
    have : (mk code text ls start pc pos handed om fs wt none (seen.add 6) none).isAt 1 = .ok (pos == 0 || text.getD (pos - 1) 0 == 10) := rfl
    rw [this]
    have e : (pos == 0 || text.getD (pos - 1) 0 == 10) = false := by
      rw [Bool.or_eq_false_iff]
      exact ⟨beq_eq_false_iff_ne.mpr fun q => h (.inl q), beq_eq_false_iff_ne.mpr fun q => h (.inr q)⟩
    rw [e]; rfl)

def noKept : Kept := { lastmark := -1, lastindex := -1, whole := false, marks := #[] }

theorem branch {t : Nat} (hpc : pc < code.size) (h0 : code.getD pc 0 = 7) (ha : code.getD (pc + 1) 0 = t) (ht : t ≠ 0) (hw : wt < 1000) :
    Runs (mk code text ls start pc pos handed om fs wt none seen none) 1
      (mk code text ls start (pc + 1 + 1) pos pos om ({ wait := .nextBranch, pc := pc + 1, pos := pos, outermost := om, kept := noKept } :: fs) (wt + 1) none (seen.add 7) none) :=
  Runs.one rfl (by
    rw [step_exec hpc]
    unfold M.exec
    rw [word_at, Nat.add_zero, h0]
    show (if (code.getD (pc + 1) 0 == 0) = true then _ else M.attempt (mk code text ls start pc pos handed om fs wt none (seen.add 7) none)
      { wait := .nextBranch, pc := pc + 1, pos := pos, outermost := om, kept := noKept } (pc + 1 + 1) pos om) = _
    rw [ha, if_neg (by simpa using ht)]
    unfold M.attempt
    rw [if_neg (by show ¬ (wt + 1 + 0 > 16777216); omega)]
    rfl)

theorem branch_next {t : Nat} {fpos : Nat} {fom : Bool} {bpc : Nat} (ht : code.getD (bpc + code.getD bpc 0) 0 = t) (h0 : t ≠ 0) (hw : wt < 1000) :
    Runs (mk code text ls start pc pos handed om ({ wait := .nextBranch, pc := bpc, pos := fpos, outermost := fom, kept := noKept } :: fs) (wt + 1) (some false) seen none) 1
      (mk code text ls start (bpc + code.getD bpc 0 + 1) fpos fpos fom ({ wait := .nextBranch, pc := bpc + code.getD bpc 0, pos := fpos, outermost := fom, kept := noKept } :: fs) (wt + 1) none seen none) :=
  Runs.one rfl (by
    show (if (code.getD (bpc + code.getD bpc 0) 0 == 0) = true then _ else M.attempt (mk code text ls start bpc fpos handed fom fs wt none seen none)
      { wait := .nextBranch, pc := bpc + code.getD bpc 0, pos := fpos, outermost := fom, kept := noKept } (bpc + code.getD bpc 0 + 1) fpos fom) = _
    rw [ht, if_neg (by simpa using h0)]
    unfold M.attempt
    rw [if_neg (by show ¬ (wt + 1 + 0 > 16777216); omega)]
    rfl)
theorem branch_done {fpos : Nat} {fom : Bool} {bpc : Nat} :
    Runs (mk code text ls start pc pos handed om ({ wait := .nextBranch, pc := bpc, pos := fpos, outermost := fom, kept := noKept } :: fs) (wt + 1) (some true) seen none) 1
      (mk code text ls start bpc fpos handed fom fs wt (some true) seen none) := Runs.one rfl rfl
theorem start_done {fpos : Nat} {fom : Bool} {bpc : Nat} :
    Runs (mk code text ls start pc pos handed om [{ wait := .nextStart, pc := bpc, pos := fpos, outermost := fom }] (wt + 1) (some true) seen none) 2
      (mk code text ls start bpc fpos handed fom [] wt (some true) seen (some .matched)) :=
  (Runs.one rfl rfl : Runs _ 1 (mk code text ls start bpc fpos handed fom [] wt (some true) seen none)).trans (Runs.one rfl rfl)

theorem assert_not (hpc : pc < code.size) (h0 : code.getD pc 0 = 5) (h2 : code.getD (pc + 2) 0 = 0) (hw : wt < 1000) :
    Runs (mk code text ls start pc pos handed om fs wt none seen none) 1
      (mk code text ls start (pc + 3) pos pos false ({ wait := .lookNot, pc := pc, pos := pos, outermost := om, kept := noKept } :: fs) (wt + 1) none (seen.add 5) none) :=
  Runs.one rfl (by
    rw [step_exec hpc]
    unfold M.exec
    rw [word_at, Nat.add_zero, h0]
    show (if pos < code.getD (pc + 2) 0 then _ else M.attempt (mk code text ls start pc pos handed om fs wt none (seen.add 5) none)
      { wait := .lookNot, pc := pc, pos := pos, outermost := om, kept := noKept } (pc + 3) (pos - code.getD (pc + 2) 0) false) = _
    rw [h2, if_neg (Nat.not_lt_zero _)]
    unfold M.attempt
    rw [if_neg (by show ¬ (wt + 1 + 0 > 16777216); omega)]
    rfl)
theorem not_seen {fpos : Nat} {fom : Bool} {bpc d : Nat} (h1 : code.getD (bpc + 1) 0 = d) :
    Runs (mk code text ls start pc pos handed om ({ wait := .lookNot, pc := bpc, pos := fpos, outermost := fom, kept := noKept } :: fs) (wt + 1) (some false) seen none) 1
      (mk code text ls start (bpc + 1 + d) fpos handed fom fs wt none seen none) :=
  Runs.one rfl (by
    show ({ mk code text ls start bpc fpos handed fom fs wt none seen none with pc := bpc + 1 + code.getD (bpc + 1) 0 } : M) = _
    rw [h1]; rfl)
end

/-- it ends within n steps so, having begun at st and handed on hd -/
def Ends (m : M) (n : Nat) (oc : Outcome) (st hd : Nat) : Prop := ∃ m', Runs m n m' ∧ m'.outcome = some oc ∧ m'.start = st ∧ m'.handed = hd
theorem Ends.after {a b : M} {n k : Nat} {oc : Outcome} {st hd : Nat} (x : Runs a n b) (y : Ends b k oc st hd) : Ends a (n + k) oc st hd :=
  let ⟨m', r, e⟩ := y; ⟨m', x.trans r, e⟩

section
variable {text : Array Nat} {ls s : Nat} {om : Bool} {seen : Seen}

/-- pattern 2 begins at s -/
def at2 (text : Array Nat) (ls s : Nat) (om : Bool) (seen : Seen) : M := mk c2 text ls s 10 s s om [{ wait := .nextStart, pc := 10, pos := s, outermost := om }] 1 none seen none
theorem c2_size : c2.size = 36 := rfl

theorem at2_crlf (h0 : s < text.size) (e0 : text.getD s 0 = 13) (h1 : s + 1 < text.size) (e1 : text.getD (s + 1) 0 = 10) : ∃ n, n ≤ 20 ∧ Ends (at2 text ls s om seen) n .matched s (s + 2) := by
  refine ⟨_, ?_, Ends.after (branch (by decide) rfl rfl (by decide : (7 : Nat) ≠ 0) (by decide)) (Ends.after (lit_yes (c := 13) (by decide) rfl rfl h0 e0)
    (Ends.after (lit_yes (c := 10) (by decide) rfl rfl h1 e1) (Ends.after (jump (d := 18) (by decide) rfl rfl) (Ends.after (success (by decide) rfl) (Ends.after branch_done ⟨_, start_done, rfl, rfl, rfl⟩)))))⟩
  decide
theorem at2_lf (h0 : s < text.size) (e0 : text.getD s 0 = 10) : ∃ n, n ≤ 20 ∧ Ends (at2 text ls s om seen) n .matched s (s + 1) := by
  refine ⟨_, ?_, Ends.after (branch (by decide) rfl rfl (by decide : (7 : Nat) ≠ 0) (by decide)) (Ends.after (lit_no (c := 13) (by decide) rfl rfl (fun q => by rw [e0] at q; exact absurd q.2 (by decide)))
    (Ends.after (branch_next (t := 5) rfl (by decide) (by decide)) (Ends.after (lit_yes (c := 10) (by decide) rfl rfl h0 e0) (Ends.after (jump (d := 13) (by decide) rfl rfl) (Ends.after (success (by decide) rfl) (Ends.after branch_done ⟨_, start_done, rfl, rfl, rfl⟩))))))⟩
  decide
theorem at2_cr (h0 : s < text.size) (e0 : text.getD s 0 = 13) (h1 : ¬ (s + 1 < text.size ∧ text.getD (s + 1) 0 = 10)) : ∃ n, n ≤ 20 ∧ Ends (at2 text ls s om seen) n .matched s (s + 1) := by
  refine ⟨_, ?_, Ends.after (branch (by decide) rfl rfl (by decide : (7 : Nat) ≠ 0) (by decide)) (Ends.after (lit_yes (c := 13) (by decide) rfl rfl h0 e0)
    (Ends.after (lit_no (c := 10) (by decide) rfl rfl h1)
    (Ends.after (branch_next (t := 5) rfl (by decide) (by decide)) (Ends.after (lit_no (c := 10) (by decide) rfl rfl (fun q => by rw [e0] at q; exact absurd q.2 (by decide)))
    (Ends.after (branch_next (t := 11) rfl (by decide) (by decide)) (Ends.after (lit_yes (c := 13) (by decide) rfl rfl h0 e0)
    (Ends.after (assert_not (by decide) rfl rfl (by decide)) (Ends.after (lit_no (c := 10) (by decide) rfl rfl h1) (Ends.after (not_seen (d := 5) rfl)
    (Ends.after (jump (d := 2) (by decide) rfl rfl) (Ends.after (success (by decide) rfl) (Ends.after branch_done ⟨_, start_done, rfl, rfl, rfl⟩))))))))))))⟩
  decide

theorem inSet2 (c : Nat) (seen : Seen) : ∃ seen', inSet c2 c c2.size 5 true seen = .ok (c == 10 || c == 13, seen') := by
  by_cases h1 : c = 10
  · subst h1; exact ⟨_, rfl⟩
  · by_cases h2 : c = 13
    · subst h2; exact ⟨_, rfl⟩
    · have e1 : (c == 10) = false := beq_eq_false_iff_ne.mpr h1
      have e2 : (c == 13) = false := beq_eq_false_iff_ne.mpr h2
      refine ⟨((seen.add 16).add 16).add 0, ?_⟩
      show (if (c == 10) = true then _ else (if (c == 13) = true then _ else Except.ok (!true, ((seen.add 16).add 16).add 0))) = _
      rw [e1, e2]; rfl

/-- the first newline sign from s on -/
def nl (c : Nat) : Bool := c == 10 || c == 13

theorem admitted2_some {m : M} (hc : m.code = c2) : ∀ (fuel s i : Nat) (seen : Seen), s ≤ i → i < m.lim → (∀ j, s ≤ j → j < i → nl (m.text.getD j 0) = false) → nl (m.text.getD i 0) = true → i + 1 - s ≤ fuel →
    ∃ seen', M.admitted m fuel s seen = .ok (some i, seen')
  | 0, s, i, seen, h1, _, _, _, hf => by omega
  | fuel + 1, s, i, seen, h1, h2, h3, h4, hf => by
    unfold M.admitted
    rw [if_neg (by omega), hc]
    obtain ⟨seen₁, e⟩ := inSet2 (m.text.getD s 0) seen
    rw [e]
    by_cases hsi : s = i
    · subst hsi
      have : (m.text.getD s 0 == 10 || m.text.getD s 0 == 13) = true := h4
      rw [this]; exact ⟨_, rfl⟩
    · have : (m.text.getD s 0 == 10 || m.text.getD s 0 == 13) = false := h3 s (Nat.le_refl _) (by omega)
      rw [this]
      exact admitted2_some hc fuel (s + 1) i seen₁ (by omega) h2 (fun j a b => h3 j (by omega) b) h4 (by omega)
theorem admitted2_none {m : M} (hc : m.code = c2) : ∀ (fuel s : Nat) (seen : Seen), (∀ j, s ≤ j → j < m.lim → nl (m.text.getD j 0) = false) →
    ∃ seen', M.admitted m fuel s seen = .ok (none, seen')
  | 0, s, seen, _ => ⟨_, rfl⟩
  | fuel + 1, s, seen, h => by
    unfold M.admitted
    split
    · exact ⟨_, rfl⟩
    · rename_i hs
      rw [hc]
      obtain ⟨seen₁, e⟩ := inSet2 (m.text.getD s 0) seen
      rw [e]
      have : (m.text.getD s 0 == 10 || m.text.getD s 0 == 13) = false := h s (Nat.le_refl _) (by omega)
      rw [this]
      exact admitted2_none hc fuel (s + 1) seen₁ fun j a b => h j (by omega) b

theorem search2_eq (pos : Nat) (h : pos < text.size) : Sre.forSearch c2 text 0 pos text.size false =
    (match M.admitted (mk c2 text text.size pos 10 pos pos true [] 0 none (({} : Seen).add 14) none) (text.size + 1 - pos) pos (({} : Seen).add 14) with
    | .ok (some s, seen) => at2 text text.size s true seen
    | .ok (none, seen) => (mk c2 text text.size pos 10 pos pos true [] 0 (some false) seen none)
    | .error why => (mk c2 text text.size pos 10 pos pos true [] 0 none (({} : Seen).add 14) none).stick why) := by
  have e : Sre.forSearch c2 text 0 pos text.size false = if (decide (pos > text.size) || decide (text.size - pos < 1)) = true then (mk c2 text 0 pos 10 pos pos true [] 0 (some false) (({} : Seen).add 14) none)
    else M.attemptFrom (mk c2 text text.size pos 10 pos pos true [] 0 none (({} : Seen).add 14) none) pos true := rfl
  rw [e, if_neg (by simp; omega)]
  show (match M.admitted (mk c2 text text.size pos 10 pos pos true [] 0 none (({} : Seen).add 14) none) (text.size + 1 - pos) pos (({} : Seen).add 14) with
    | .ok (some s, seen) => _ | .ok (none, seen) => _ | .error why => _) = _
  rfl
theorem failed_ends {code : Array Nat} {start pc pos handed : Nat} : Ends (mk code text ls start pc pos handed om [] 0 (some false) seen none) 1 .failed start handed :=
  ⟨_, Runs.one rfl rfl, rfl, rfl, rfl⟩

/-- how far a newline at i reaches -/
def nlEnd (text : Array Nat) (i : Nat) : Nat := if text.getD i 0 = 13 ∧ i + 1 < text.size ∧ text.getD (i + 1) 0 = 10 then i + 2 else i + 1

theorem search2_some {pos i : Nat} (h1 : pos ≤ i) (h2 : i < text.size) (h3 : ∀ j, pos ≤ j → j < i → nl (text.getD j 0) = false) (h4 : nl (text.getD i 0) = true) :
    ∃ n, n ≤ 20 ∧ Ends (Sre.forSearch c2 text 0 pos text.size false) n .matched i (nlEnd text i) := by
  rw [search2_eq pos (by omega)]
  obtain ⟨seen', e⟩ := admitted2_some (m := mk c2 text text.size pos 10 pos pos true [] 0 none (({} : Seen).add 14) none) rfl (text.size + 1 - pos) pos i (({} : Seen).add 14) h1 h2 h3 h4 (by omega)
  rw [e]
  show ∃ n, n ≤ 20 ∧ Ends (at2 text text.size i true seen') n .matched i (nlEnd text i)
  unfold nlEnd
  rcases Bool.or_eq_true_iff.mp h4 with q | q
  · have q' : text.getD i 0 = 10 := by simpa using q
    rw [if_neg (by rw [q']; intro z; exact absurd z.1 (by decide))]
    exact at2_lf h2 q'
  · have q' : text.getD i 0 = 13 := by simpa using q
    by_cases z : i + 1 < text.size ∧ text.getD (i + 1) 0 = 10
    · rw [if_pos ⟨q', z⟩]; exact at2_crlf h2 q' z.1 z.2
    · rw [if_neg (fun y => z y.2)]; exact at2_cr h2 q' z
theorem search2_none {pos : Nat} (h3 : ∀ j, pos ≤ j → j < text.size → nl (text.getD j 0) = false) : ∃ n st hd, n ≤ 20 ∧ Ends (Sre.forSearch c2 text 0 pos text.size false) n .failed st hd := by
  by_cases hp : pos < text.size
  · rw [search2_eq pos hp]
    obtain ⟨seen', e⟩ := admitted2_none (m := mk c2 text text.size pos 10 pos pos true [] 0 none (({} : Seen).add 14) none) rfl (text.size + 1 - pos) pos (({} : Seen).add 14) h3
    rw [e]
    exact ⟨1, pos, pos, by decide, failed_ends⟩
  · have e : Sre.forSearch c2 text 0 pos text.size false = if (decide (pos > text.size) || decide (text.size - pos < 1)) = true then (mk c2 text 0 pos 10 pos pos true [] 0 (some false) (({} : Seen).add 14) none)
      else M.attemptFrom (mk c2 text text.size pos 10 pos pos true [] 0 none (({} : Seen).add 14) none) pos true := rfl
    rw [e, if_pos (by simp; omega)]
    exact ⟨1, pos, pos, by decide, failed_ends⟩

/-- pattern 1 begins at s -/
def at1 (text : Array Nat) (s : Nat) (om : Bool) (seen : Seen) : M := mk c1 text text.size s 5 s s om [{ wait := .nextStart, pc := 5, pos := s, outermost := om }] 1 none seen none
def dotAt (text : Array Nat) (s : Nat) : Prop := s < text.size ∧ text.getD s 0 = 46 ∧ (s = 0 ∨ text.getD (s - 1) 0 = 10)

theorem at1_yes (h : dotAt text s) : Ends (at1 text s om seen) 5 .matched s (s + 1) :=
  Ends.after (at_line (by decide) rfl rfl h.2.2) (Ends.after (lit_yes (c := 46) (by decide) rfl rfl h.1 h.2.1) (Ends.after (success (by decide) rfl) ⟨_, start_done, rfl, rfl, rfl⟩))
theorem start_next {fpos : Nat} {fom : Bool} {pc pos handed start : Nat} :
    Runs (mk c1 text text.size start pc pos handed om [{ wait := .nextStart, pc := 5, pos := fpos, outermost := fom }] 1 (some false) seen none) 1
      (if fpos < text.size then at1 text (fpos + 1) false seen else mk c1 text text.size start 5 fpos handed fom [] 0 (some false) seen none) := Runs.one rfl rfl
theorem at1_no (h : ¬ dotAt text s) : ∃ n seen' st hd om', n ≤ 3 ∧ Runs (at1 text s om seen) n (if s < text.size then at1 text (s + 1) false seen' else mk c1 text text.size st 5 s hd om' [] 0 (some false) seen' none) := by
  by_cases h1 : s = 0 ∨ text.getD (s - 1) 0 = 10
  · exact ⟨_, _, _, _, _, by decide, (at_line (by decide) rfl rfl h1).trans ((lit_no (c := 46) (by decide) rfl rfl fun q => h ⟨q.1, q.2, h1⟩).trans start_next)⟩
  · exact ⟨_, _, _, _, _, by decide, (at_line_no (by decide) rfl rfl h1).trans start_next⟩

theorem search1_eq (pos : Nat) (h : pos < text.size) : Sre.forSearch c1 text 0 pos text.size false = at1 text pos true (({} : Seen).add 14) := by
  have e : Sre.forSearch c1 text 0 pos text.size false = if (decide (pos > text.size) || decide (text.size - pos < 1)) = true then (mk c1 text 0 pos 5 pos pos true [] 0 (some false) (({} : Seen).add 14) none)
    else at1 text pos true (({} : Seen).add 14) := rfl
  rw [e, if_neg (by simp; omega)]
theorem at1_some : ∀ (k s i : Nat) (om : Bool) (seen : Seen), i = s + k → (∀ j, s ≤ j → j < i → ¬ dotAt text j) → dotAt text i → ∃ n, n ≤ 3 * k + 5 ∧ Ends (at1 text s om seen) n .matched i (i + 1)
  | 0, s, i, om, seen, e, _, h => by
    obtain rfl : i = s := e
    exact ⟨5, by decide, at1_yes h⟩
  | k + 1, s, i, om, seen, e, hn, h => by
    obtain ⟨n, seen', st, hd, om', hle, r⟩ := at1_no (om := om) (seen := seen) (hn s (Nat.le_refl _) (by omega))
    rw [if_pos (by have := h.1; omega)] at r
    obtain ⟨n', hle', y⟩ := at1_some k (s + 1) i false seen' (by omega) (fun j a b => hn j (by omega) b) h
    exact ⟨n + n', by omega, Ends.after r y⟩
theorem at1_none : ∀ (k s : Nat) (om : Bool) (seen : Seen), text.size = s + k → (∀ j, s ≤ j → ¬ dotAt text j) → ∃ n st hd, n ≤ 3 * k + 5 ∧ Ends (at1 text s om seen) n .failed st hd
  | 0, s, om, seen, e, hn => by
    obtain ⟨n, seen', st, hd, om', hle, r⟩ := at1_no (om := om) (seen := seen) (hn s (Nat.le_refl _))
    rw [if_neg (by omega)] at r
    exact ⟨n + 1, st, hd, by omega, Ends.after r failed_ends⟩
  | k + 1, s, om, seen, e, hn => by
    obtain ⟨n, seen', st, hd, om', hle, r⟩ := at1_no (om := om) (seen := seen) (hn s (Nat.le_refl _))
    rw [if_pos (by omega)] at r
    obtain ⟨n', st', hd', hle', y⟩ := at1_none k (s + 1) false seen' (by omega) (fun j a => hn j (by omega))
    exact ⟨n + n', st', hd', by omega, Ends.after r y⟩
theorem search1_some {pos i : Nat} (h1 : pos ≤ i) (h3 : ∀ j, pos ≤ j → j < i → ¬ dotAt text j) (h4 : dotAt text i) :
    ∃ n, n ≤ 3 * text.size + 8 ∧ Ends (Sre.forSearch c1 text 0 pos text.size false) n .matched i (i + 1) := by
  have := h4.1
  rw [search1_eq pos (by omega)]
  obtain ⟨n, hle, y⟩ := at1_some (i - pos) pos i true (({} : Seen).add 14) (by omega) h3 h4
  exact ⟨n, by omega, y⟩
theorem search1_none {pos : Nat} (h3 : ∀ j, pos ≤ j → ¬ dotAt text j) : ∃ n st hd, n ≤ 3 * text.size + 8 ∧ Ends (Sre.forSearch c1 text 0 pos text.size false) n .failed st hd := by
  by_cases hp : pos < text.size
  · rw [search1_eq pos hp]
    obtain ⟨n, st, hd, hle, y⟩ := at1_none (text.size - pos) pos true (({} : Seen).add 14) (by omega) h3
    exact ⟨n, st, hd, by omega, y⟩
  · have e : Sre.forSearch c1 text 0 pos text.size false = if (decide (pos > text.size) || decide (text.size - pos < 1)) = true then (mk c1 text 0 pos 5 pos pos true [] 0 (some false) (({} : Seen).add 14) none)
      else at1 text pos true (({} : Seen).add 14) := rfl
    rw [e, if_pos (by simp; omega)]
    exact ⟨1, pos, pos, by omega, failed_ends⟩
end

/-- the names' pattern: [\x00-\x1F\x7F] -/
def c3 : Array Nat := #[14, 10, 4, 1, 1, 22, 0, 31, 16, 127, 0, 13, 7, 22, 0, 31, 16, 127, 0, 1]
/-- the values' pattern: [\x00-\x08\x0A-\x1F\x7F] -/
def c4 : Array Nat := #[14, 14, 4, 1, 1, 9, 4294966783, 0, 0, 2147483648, 0, 0, 0, 0, 0, 13, 11, 9, 4294966783, 0, 0, 2147483648, 0, 0, 0, 0, 0, 1]

section
variable {code text : Array Nat} {s : Nat} {om : Bool} {seen : Seen} {bad : Nat → Bool}
theorem inSet3 (c : Nat) (seen : Seen) (i : Nat) (hi : i = 5 ∨ i = 13) : ∃ seen', inSet c3 c c3.size i true seen = .ok (decide (c ≤ 31) || c == 127, seen') := by
  have key : ∀ i, (i = 5 ∨ i = 13) → inSet c3 c c3.size i true seen = (if (decide (0 ≤ c) && decide (c ≤ 31)) = true then Except.ok (true, seen.add 22) else (if (c == 127) = true then Except.ok (true, (seen.add 22).add 16) else Except.ok (!true, ((seen.add 22).add 16).add 0))) := by
    rintro i (rfl | rfl) <;> rfl
  rw [key i hi]
  by_cases h1 : c ≤ 31
  · simp [h1]
  · by_cases h2 : c = 127
    · subst h2; simp
    · have e2 : (c == 127) = false := beq_eq_false_iff_ne.mpr h2
      simp [h1, e2]

theorem admitted_some {m : M} {bad : Nat → Bool} (hb : ∀ c seen, ∃ seen', inSet m.code c m.code.size 5 true seen = .ok (bad c, seen')) : ∀ (fuel s i : Nat) (seen : Seen), s ≤ i → i < m.lim → (∀ j, s ≤ j → j < i → bad (m.text.getD j 0) = false) → bad (m.text.getD i 0) = true → i + 1 - s ≤ fuel →
    ∃ seen', M.admitted m fuel s seen = .ok (some i, seen')
  | 0, s, i, seen, h1, _, _, _, hf => by omega
  | fuel + 1, s, i, seen, h1, h2, h3, h4, hf => by
    unfold M.admitted
    rw [if_neg (by omega)]
    obtain ⟨seen₁, e⟩ := hb (m.text.getD s 0) seen
    rw [e]
    by_cases hsi : s = i
    · subst hsi
      rw [h4]; exact ⟨_, rfl⟩
    · rw [h3 s (Nat.le_refl _) (by omega)]
      exact admitted_some hb fuel (s + 1) i seen₁ (by omega) h2 (fun j a b => h3 j (by omega) b) h4 (by omega)
theorem admitted_none {m : M} {bad : Nat → Bool} (hb : ∀ c seen, ∃ seen', inSet m.code c m.code.size 5 true seen = .ok (bad c, seen')) : ∀ (fuel s : Nat) (seen : Seen), (∀ j, s ≤ j → j < m.lim → bad (m.text.getD j 0) = false) →
    ∃ seen', M.admitted m fuel s seen = .ok (none, seen')
  | 0, s, seen, _ => ⟨_, rfl⟩
  | fuel + 1, s, seen, h => by
    unfold M.admitted
    split
    · exact ⟨_, rfl⟩
    · rename_i hs
      obtain ⟨seen₁, e⟩ := hb (m.text.getD s 0) seen
      rw [e, h s (Nat.le_refl _) (by omega)]
      exact admitted_none hb fuel (s + 1) seen₁ fun j a b => h j (by omega) b

theorem search3_eq (h : 0 < text.size) : Sre.forSearch c3 text 0 0 text.size false =
    (match M.admitted (mk c3 text text.size 0 11 0 0 true [] 0 none (({} : Seen).add 14) none) (text.size + 1 - 0) 0 (({} : Seen).add 14) with
    | .ok (some s, seen) => mk c3 text text.size s 11 s s true [{ wait := .nextStart, pc := 11, pos := s, outermost := true }] 1 none seen none
    | .ok (none, seen) => (mk c3 text text.size 0 11 0 0 true [] 0 (some false) seen none)
    | .error why => (mk c3 text text.size 0 11 0 0 true [] 0 none (({} : Seen).add 14) none).stick why) := by
  have e : Sre.forSearch c3 text 0 0 text.size false = if (decide (0 > text.size) || decide (text.size - 0 < 1)) = true then (mk c3 text 0 0 11 0 0 true [] 0 (some false) (({} : Seen).add 14) none)
    else M.attemptFrom (mk c3 text text.size 0 11 0 0 true [] 0 none (({} : Seen).add 14) none) 0 true := rfl
  rw [e, if_neg (by rw [Bool.or_eq_true, decide_eq_true_eq, decide_eq_true_eq]; omega)]
  show (match M.admitted (mk c3 text text.size 0 11 0 0 true [] 0 none (({} : Seen).add 14) none) (text.size + 1 - 0) 0 (({} : Seen).add 14) with
    | .ok (some s, seen) => _ | .ok (none, seen) => _ | .error why => _) = _
  rfl
theorem search3_none (h3 : ∀ j, j < text.size → (decide (text.getD j 0 ≤ 31) || text.getD j 0 == 127) = false) : ∃ n st hd, n ≤ 20 ∧ Ends (Sre.forSearch c3 text 0 0 text.size false) n .failed st hd := by
  by_cases hp : 0 < text.size
  · rw [search3_eq hp]
    obtain ⟨seen', e⟩ := admitted_none (m := mk c3 text text.size 0 11 0 0 true [] 0 none (({} : Seen).add 14) none) (bad := fun c => decide (c ≤ 31) || c == 127) (fun c seen => inSet3 c seen 5 (.inl rfl)) (text.size + 1 - 0) 0 (({} : Seen).add 14) (fun j _ b => h3 j b)
    rw [e]
    exact ⟨1, 0, 0, by decide, failed_ends⟩
  · have e : Sre.forSearch c3 text 0 0 text.size false = if (decide (0 > text.size) || decide (text.size - 0 < 1)) = true then (mk c3 text 0 0 11 0 0 true [] 0 (some false) (({} : Seen).add 14) none)
      else M.attemptFrom (mk c3 text text.size 0 11 0 0 true [] 0 none (({} : Seen).add 14) none) 0 true := rfl
    rw [e, if_pos (by rw [Bool.or_eq_true, decide_eq_true_eq, decide_eq_true_eq]; omega)]
    exact ⟨1, 0, 0, by decide, failed_ends⟩
theorem in3_yes (hp : s < text.size) (hc : (decide (text.getD s 0 ≤ 31) || text.getD s 0 == 127) = true) :
    ∃ seen', Runs (mk c3 text text.size s 11 s s true [{ wait := .nextStart, pc := 11, pos := s, outermost := true }] 1 none seen none) 1 (mk c3 text text.size s 19 (s + 1) s true [{ wait := .nextStart, pc := 11, pos := s, outermost := true }] 1 none seen' none) := by
  obtain ⟨seen₁, e⟩ := inSet3 (text.getD s 0) (seen.add 13) 13 (.inr rfl)
  refine ⟨seen₁, Runs.one rfl ?_⟩
  rw [step_exec (by decide)]
  unfold M.exec
  rw [word_at]
  show (if s ≥ text.size then _ else match inSet c3 (text.getD s 0) c3.size 13 true (seen.add 13) with | .error why => _ | .ok (false, seen) => _ | .ok (true, seen) => _) = _
  rw [if_neg (Nat.not_le.mpr hp), e, hc]
  rfl
theorem search3_some {i : Nat} (h2 : i < text.size) (h3 : ∀ j, j < i → (decide (text.getD j 0 ≤ 31) || text.getD j 0 == 127) = false) (h4 : (decide (text.getD i 0 ≤ 31) || text.getD i 0 == 127) = true) :
    ∃ n, n ≤ 20 ∧ Ends (Sre.forSearch c3 text 0 0 text.size false) n .matched i (i + 1) := by
  rw [search3_eq (by omega)]
  obtain ⟨seen', e⟩ := admitted_some (m := mk c3 text text.size 0 11 0 0 true [] 0 none (({} : Seen).add 14) none) (bad := fun c => decide (c ≤ 31) || c == 127) (fun c seen => inSet3 c seen 5 (.inl rfl)) (text.size + 1 - 0) 0 i (({} : Seen).add 14) (Nat.zero_le _) h2 (fun j _ b => h3 j b) h4 (by omega)
  rw [e]
  obtain ⟨seen₂, r⟩ := in3_yes (seen := seen') h2 h4
  exact ⟨4, by decide, Ends.after r (Ends.after (success (by decide) rfl) ⟨_, start_done, rfl, rfl, rfl⟩)⟩
end
end Mine
end
section
-- part Re2
open PySem PySem.W PyProof.Rows PySem.Calls
set_option Elab.async false
set_option maxRecDepth 100000
set_option maxHeartbeats 4000000
namespace Mine
open PySem.Sre PySem.Builtin PySem.Builtin.Re

theorem runFor_done {m : M} (h : m.outcome.isSome = true) : ∀ n, M.runFor n m = m
  | 0 => rfl
  | n + 1 => by
    show (if m.outcome.isSome then m else M.runFor n m.step) = m
    rw [h]; rfl
theorem runFor_add : ∀ (a b : Nat) (m : M), M.runFor (a + b) m = M.runFor b (M.runFor a m)
  | 0, b, m => by rw [Nat.zero_add]; rfl
  | a + 1, b, m => by
    rw [Nat.add_right_comm]
    show (if m.outcome.isSome then m else M.runFor (a + b) m.step) = M.runFor b (if m.outcome.isSome then m else M.runFor a m.step)
    cases h : m.outcome.isSome with
    | true => simp only [if_true]; rw [runFor_done h]
    | false => simp only [Bool.false_eq_true, if_false]; exact runFor_add a b m.step

section
variable {prog : Program} {w : World} {A : Around} {E : Value → Shared → Prop} {s : Shared}

theorem drive {oc : Sre.Outcome} {st hd : Nat} {Q : M → Shared → Prop} (hQ : ∀ m', m'.outcome = some oc → m'.start = st → m'.handed = hd → Q m' s) :
    ∀ (turns n : Nat) (m : M), Ends m n oc st hd → n < 4 * turns → wpAny (model prog w) A (reDrive turns m) Q E s
  | 0, n, m, _, hn => by omega
  | turns + 1, n, m, x, hn => by
    obtain ⟨m', r, e1, e2, e3⟩ := x
    have hs : m'.outcome.isSome = true := by rw [e1]; rfl
    show wpAny _ _ (if (M.runFor 4 m).outcome.isSome = true then pure (M.runFor 4 m) else (do rule "sre.turn"; reDrive turns (M.runFor 4 m))) Q E s
    by_cases h : (M.runFor 4 m).outcome.isSome = true
    · rw [if_pos h]
      have q : M.runFor 4 m = m' := by
        have a := r 4
        rw [Nat.add_comm, runFor_add, runFor_done h] at a
        rw [a, runFor_done hs]
      exact wpAny_pure (q ▸ hQ m' e1 e2 e3)
    · rw [if_neg h]
      have h4 : 4 ≤ n := by
        apply Classical.byContradiction; intro hlt
        have a := r (4 - n)
        rw [show n + (4 - n) = 4 by omega, runFor_done hs] at a
        exact h (a ▸ hs)
      refine wpAny_bind (wpAny_rule (drive hQ turns (n - 4) (M.runFor 4 m) ⟨m', fun k => ?_, e1, e2, e3⟩ (by omega)))
      rw [← runFor_add, show 4 + (n - 4 + k) = n + k by omega]
      exact r k

theorem run_matched {m : M} {n st hd : Nat} {Q : Option M → Shared → Prop} (x : Ends m n .matched st hd) (hn : n < 2 ^ 60) (hQ : ∀ m', m'.start = st → m'.handed = hd → Q (some m') s) :
    wpAny (model prog w) A (reRunToEnd m) Q E s := by
  unfold reRunToEnd
  refine wpAny_bind (drive (oc := .matched) (st := st) (hd := hd) (fun m' e1 e2 e3 => ?_) _ n m x (by omega))
  refine wpAny_bind (wpAny_forIn_list _ (fun _ _ s' => s' = s) _ (fun i rest b s' hs => ?_) (fun b s' hs => ?_) _ _ rfl)
  · split
    · exact wpAny_bind (wpAny_rule (wpAny_pure hs))
    · exact wpAny_pure hs
  · subst hs
    rw [e1]
    exact wpAny_pure (hQ m' e2 e3)
theorem run_failed {m : M} {n st hd : Nat} {Q : Option M → Shared → Prop} (x : Ends m n .failed st hd) (hn : n < 2 ^ 60) (hQ : Q none s) :
    wpAny (model prog w) A (reRunToEnd m) Q E s := by
  unfold reRunToEnd
  refine wpAny_bind (drive (oc := .failed) (st := st) (hd := hd) (fun m' e1 e2 e3 => ?_) _ n m x (by omega))
  refine wpAny_bind (wpAny_forIn_list _ (fun _ _ s' => s' = s) _ (fun i rest b s' hs => ?_) (fun b s' hs => ?_) _ _ rfl)
  · split
    · exact wpAny_bind (wpAny_rule (wpAny_pure hs))
    · exact wpAny_pure hs
  · subst hs
    rw [e1]
    exact wpAny_pure hQ

/-- a compiled pattern of texts, its code written out -/
def IsPat (h : Heap) (a : Addr) (code : Array Nat) : Prop :=
  ∃ o f0 f1 ct oc vs n, h.get? a = some o ∧ o.cls = .type "re.Pattern" ∧ o.dict = none ∧ o.data = .fields #[f0, f1, .int 0 0, .none, .none, .ref ct, .int 0 0] ∧
    h.get? ct = some oc ∧ oc.cls = .type "tuple" ∧ oc.data = .seq vs n ∧ (vs.map reRawOf).map (·.toNat) = code
theorem IsPat.keeps {h h' : Heap} {a : Addr} {code : Array Nat} (x : IsPat h a code) (k : h.StaysIn h') : IsPat h' a code :=
  let ⟨o, f0, f1, ct, oc, vs, n, e1, e2, e3, e4, e5, r⟩ := x; ⟨o, f0, f1, ct, oc, vs, n, k _ _ e1, e2, e3, e4, k _ _ e5, r⟩

theorem whole_target {a : Addr} {code : Array Nat} {x : Str} {u : Tok} {Q : ReTarget → Shared → Prop} (P : IsPat s.heap a code)
    (hQ : Q { pattern := .ref a, string := .str x u, code, text := x.cps, kind := 0, groups := 0, pos := 0, lim := x.cps.size } s) : wpAny (model prog w) A (reWholeTarget (.ref a) (.str x u)) Q E s := by
  obtain ⟨o, f0, f1, ct, oc, vs, n, e1, e2, e3, e4, e5, _, e6, e7⟩ := P
  unfold reWholeTarget
  refine wpAny_bind (wpAny_fieldsOf e1 e4 ?_)
  refine wpAny_bind (m := reTextOf (.str x u)) (wpAny_of_eq (a := (x.cps, 0)) rfl ?_)
  show wpAny _ _ (reRawItems (.ref ct) >>= _) _ _ _
  refine wpAny_bind ?_
  unfold reRawItems
  refine wpAny_bind (wpAny_seqItems e5 e6 (wpAny_pure ?_))
  refine wpAny_pure ?_
  show Q { pattern := .ref a, string := .str x u, code := (vs.map reRawOf).map (·.toNat), text := x.cps, kind := 0, groups := 0, pos := 0, lim := x.cps.size } s
  rw [e7]; exact hQ
end

/-- what a pattern finds, and what its sub makes of the rest from p on -/
def Finds (code : Array Nat) (text : Array Nat) (repl : List Nat) (F : Nat → List Nat) : Prop :=
  ∀ p, p ≤ text.size → (∃ n st hd, n < 2 ^ 60 ∧ Ends (Sre.forSearch code text 0 p text.size false) n .failed st hd ∧ F p = text.toList.drop p) ∨
    (∃ n i j, n < 2 ^ 60 ∧ p ≤ i ∧ i < j ∧ j ≤ text.size ∧ Ends (Sre.forSearch code text 0 p text.size false) n .matched i j ∧ F p = (text.toList.drop p).take (i - p) ++ repl ++ F j)

theorem entry_sub_loop : entryFor table "re.Pattern.sub.loop" = some Builtin.«re.Pattern.sub.loop» := entryFor_of_tree (by kernel_rfl)
theorem entry_sub : entryFor table "re.Pattern.sub" = some Builtin.«re.Pattern.sub» := entryFor_of_tree (by kernel_rfl)
theorem slot_sub : Slot "re.Pattern" "sub" "re.Pattern.sub" :=
  .of (owner := "re.Pattern") (n := "sub") (by rw [typeLookup_type, builtinLookup_eq_fast]; kernel_rfl) (by decide +kernel) (by decide +kernel) (by decide +kernel)
    (by first | exact .inl (by decide +kernel) | exact .inr (by decide +kernel)) (by rw [isSubtype_type]; kernel_rfl)
theorem args_sub (a b c : Value) : argsOk "re.Pattern.sub" ⟨[a, b, c], []⟩ := by unfold argsOk; kernel_rfl
theorem type_sub : typeOf (.builtin "re.Pattern.sub") = pure (.type "method_descriptor") := by show builtinType _ = _; rw [builtinType_eq_fast]; kernel_rfl
theorem plain_pat : PlainAttrs "re.Pattern" :=
  ⟨⟨"object.__getattribute__", by rw [typeLookup_type, builtinLookup_eq_fast]; kernel_rfl, by decide +kernel⟩, by rw [typeLookup_type, builtinLookup_eq_fast]; kernel_rfl⟩
theorem no_call_str : typeLookup (.type "str") "__call__" = pure none := by rw [typeLookup_type, builtinLookup_eq_fast]; kernel_rfl

def flat (ys : List Str) : List Nat := ys.flatMap (·.cps.toList)
theorem flat_append (xs ys : List Str) : flat (xs ++ ys) = flat xs ++ flat ys := by simp [flat]
theorem join_empty : ∀ ys : List Str, (Str.join (Str.mk #[]) ys).cps.toList = flat ys
  | [] => rfl
  | [y] => by simp [Str.join, flat]
  | y :: z :: r => by
    have ih := join_empty (z :: r)
    show (y ++ Str.mk #[] ++ Str.join (Str.mk #[]) (z :: r)).cps.toList = _
    rw [show flat (y :: z :: r) = y.cps.toList ++ flat (z :: r) from rfl, ← ih]
    show ((y.cps ++ #[]) ++ (Str.join (Str.mk #[]) (z :: r)).cps).toList = _
    simp

theorem IsPat.ext {h h' : Heap} {a D : Addr} {code : Array Nat} {items : Array Value} (x : IsPat h a code) (hs : Heap.ExtBut D h h') (hD : h.PlainList D items) : IsPat h' a code := by
  obtain ⟨o, f0, f1, ct, oc, vs, n, e1, e2, e3, e4, e5, e6, e7, e8⟩ := x
  obtain ⟨m, eD⟩ := hD
  refine ⟨o, f0, f1, ct, oc, vs, n, hs _ _ ?_ e1, e2, e3, e4, hs _ _ ?_ e5, e6, e7, e8⟩
  · rintro rfl; rw [eD] at e1; cases e1; exact absurd (Value.type.inj e2) (by decide)
  · rintro rfl; rw [eD] at e5; cases e5; exact absurd (Value.type.inj e6) (by decide)

section
variable {prog : Program} {w : World} {A : Around} {E : Value → Shared → Prop} {s : Shared}

theorem push_plain {D : Addr} {items : Array Value} {v : Value} {Q : Unit → Shared → Prop} (hD : s.heap.PlainList D items) (hz : items.size ≤ sizeLine)
    (h : ∀ h', h'.PlainList D (items.push v) → Heap.SameBut D s.heap h' → Q () { s with heap := h' }) : wpAny (model prog w) A (updateSeq D (·.push v)) Q E s := by
  obtain ⟨n, e⟩ := hD
  exact wpAny_updateSeq e rfl (h _ ⟨if (items.push v).size == items.size then n else n + 1, Heap.get?_update_self _ e rfl⟩ (Heap.SameBut.update ..)) hz (by rw [Array.size_push]; omega)

theorem StrsAre.snoc {vs : List Value} {ys : List Str} (x : StrsAre vs ys) (y : Str) (t : Tok) : StrsAre (vs ++ [.str y t]) (ys ++ [y]) := StrsAre.append' x (by constructor; constructor)

theorem length_flat_le (ys : List Str) : (flat ys).length = (ys.map (·.length)).sum := by
  induction ys with
  | nil => rfl
  | cons y r ih => simp [flat] at ih ⊢; rw [ih]; rfl

theorem ret_join {D : Addr} {items : Array Value} {ys : List Str} {k : Value → Sem Fin} {Q : Fin → Shared → Prop} (hD : s.heap.PlainList D items) (hi : StrsAre items.toList ys) (hz : (ys.map (·.length)).sum ≤ 16777216)
    (h : ∀ t tk, wpAny (model prog w) A (k (.str (Str.mk (flat ys).toArray) t)) Q E { s with toks := tk }) :
    wpAny (model prog w) A (do
      let joiner ← mkStr (Str.mk #[])
      let text ← if ((← seqItems? (.ref D)).getD #[]).isEmpty then pure joiner else call (.builtin (if (0 : Nat) == 0 then "str.join" else "bytes.join")) [joiner, .ref D]
      k text) Q E s := by
  refine wpAny_bind (wpAny_mkStr ?_ (Nat.zero_le _))
  obtain ⟨n, e⟩ := id hD
  refine wpAny_bind (m := seqItems? (.ref D)) (wpAny_seqItems (s := { s with toks := s.toks + 1 }) e rfl ?_)
  show wpAny (model prog w) A (if items.isEmpty = true then pure (Value.str (Str.mk #[]) s.toks) >>= k else call (.builtin "str.join") [.str (Str.mk #[]) s.toks, .ref D] >>= k) Q E { s with toks := s.toks + 1 }
  by_cases he : items.isEmpty = true
  · rw [if_pos he]
    refine wpAny_bind (wpAny_pure ?_)
    have : items.toList = [] := by simpa using he
    rw [this] at hi
    have hy : ys = [] := by cases hi; rfl
    subst hy
    exact h s.toks _
  · rw [if_neg he]
    refine wpAny_bind (join_list (s := { s with toks := s.toks + 1 }) hD.isList hi (by show (ys.map (·.length)).sum + ys.length * 0 ≤ _; omega) fun t' k' => ?_)
    have ej : Txt.join (Str.mk #[]) ys = Str.mk (flat ys).toArray := by
      show PySem.Builtin.Str.glued (Str.mk #[]) ys = _
      rw [StrLaws.glued_eq_join]
      have := join_empty ys
      cases hq : Str.join (Str.mk #[]) ys with
      | mk c => rw [hq] at this; simp at this; rw [← this]
    rw [ej]
    exact h t' _
end
section
variable {prog : Program} {w : World} {A : Around} {E : Value → Shared → Prop} {s : Shared}

abbrev loopArgs (pat D : Addr) (repl x : Str) (t u : Tok) (n : Int) (p : Nat) : Args :=
  ⟨[.ref pat, .str x u, .str repl t, rawInt 0, rawInt 0, rawInt n, rawInt p, rawInt p, .bool false, .ref D, .bool false], []⟩

theorem slice_list (a : Array Nat) (p i : Nat) : (a.extract p i).toList = (a.toList.drop p).take (i - p) := by
  simp [List.extract]
theorem flat_one (y : Str) : flat [y] = y.cps.toList := by simp [flat]

theorem quiet_loop (args : Args) : (Code.builtin "re.Pattern.sub.loop" args).quiet = true := plainId_quiet (by decide +kernel) args

theorem sub_loop {pat D : Addr} {repl x : Str} {t u : Tok} {code : Array Nat} {F : Nat → List Nat} {R : Result → Shared → Prop} (hF : Finds code x.cps repl.cps.toList F) (hx : x.cps.size ≤ 1000000) (hr : repl.cps.size ≤ 4) :
    ∀ (k p : Nat) (n : Int) (ys : List Str) (items : Array Value) (s : Shared), x.cps.size - p < k → p ≤ x.cps.size → IsPat s.heap pat code → s.heap.PlainList D items → StrsAre items.toList ys →
      ys.length ≤ 2 * p → (ys.map (·.length)).sum ≤ 5 * p →
      (∀ h' t' tk, Heap.ExtBut D s.heap h' → R (.ok (.ret (.str (Str.mk (flat ys ++ F p).toArray) t'))) { s with heap := h', toks := tk }) →
      codeAny (model prog w) A (.builtin "re.Pattern.sub.loop" (loopArgs pat D repl x t u n p)) R s := by
  intro k
  induction k with
  | zero => intro p n ys items s hk; exact absurd hk (Nat.not_lt_zero _)
  | succ k ih =>
    intro p n ys items s hk hp hP hD hi hl hsum hR
    have hsz : items.size = ys.length := by
      have := StrsAre.len_eq hi
      simpa using this
    have hline : sizeLine = 16777216 := sizeLine_eq
    refine codeAny_builtin entry_sub_loop ?_
    unfold Builtin.«re.Pattern.sub.loop»
    refine wpAny_bind (whole_target hP ?_)
    show wpAny _ _ (ite _ _ _) _ _ _
    rw [if_pos (show ((0 : Int) == 0) = true from rfl)]
    refine wpAny_bind (m := reLiteralCannotBeTurned (.str repl t)) (wpAny_of_eq (a := ()) rfl ?_)
    show wpAny _ _ (bind (ite _ _ _) _) _ _ _
    refine wpAny_bind ?_
    rw [if_neg (by simp)]
    show wpAny _ _ (reRunToEnd (Sre.forSearch code x.cps 0 p x.cps.size false)) _ _ _
    rcases hF p hp with ⟨n', st, hd, hn, x', e⟩ | ⟨n', i, j, hn, hpi, hij, hjs, x', e⟩
    · refine run_failed x' hn ?_
      show wpAny _ _ (ite _ _ _) _ _ _
      have fin : ∀ (ys' : List Str) (items' : Array Value) (s' : Shared), s'.heap.PlainList D items' → StrsAre items'.toList ys' → (ys'.map (·.length)).sum ≤ 16777216 → (∃ h' tk, s' = { s with heap := h', toks := tk } ∧ Heap.ExtBut D s.heap h') →
          flat ys' = flat ys ++ F p → wpAny (model prog w) (A.under (.builtin "re.Pattern.sub.loop" (loopArgs pat D repl x t u n p))) (do
            let joiner ← mkStr (Str.mk (x.cps.extract 0 0))
            let text ← if ((← seqItems? (.ref D)).getD #[]).isEmpty then pure joiner else call (.builtin (if (0 : Nat) == 0 then "str.join" else "bytes.join")) [joiner, .ref D]
            ret text) (fun fin s' => match fin with | .done f => R (.ok f) s' | .again c' => c'.quiet = true ∧ codeAny (model prog w) A c' R s') (fun e s' => R (.error e) s') s' := by
        intro ys' items' s' hD' hi' hs' hsame hfl
        have e0 : x.cps.extract 0 0 = #[] := by simp
        rw [e0]
        obtain ⟨h', tk, rfl, hext⟩ := hsame
        refine ret_join hD' hi' hs' fun t' tk' => wpAny_pure ?_
        show R _ _
        rw [hfl]
        exact hR h' t' tk' hext
      by_cases hlt : p < x.cps.size
      · rw [if_pos (show (((p : Int)).toNat < x.cps.size) from hlt)]
        have hlen : (Str.mk (x.cps.extract p x.cps.size)).length ≤ 1000000 := by
          show (x.cps.extract p x.cps.size).size ≤ _
          rw [Array.size_extract]; omega
        refine wpAny_bind (m := mkStr (Str.mk (x.cps.extract p x.cps.size))) (wpAny_mkStr ?_ (by omega))
        refine wpAny_bind (push_plain (s := { s with toks := s.toks + 1 }) hD (by omega) fun h' hD' hs' => ?_)
        refine fin (ys ++ [Str.mk (x.cps.extract p x.cps.size)]) _ _ hD' (by rw [Array.toList_push]; exact StrsAre.snoc hi _ _) ?_ ⟨h', _, rfl, hs'.extBut⟩ ?_
        · rw [List.map_append, List.sum_append]
          simp only [List.map_cons, List.map_nil, List.sum_cons, List.sum_nil]
          omega
        · rw [flat_append, flat_one, slice_list, e, List.take_of_length_le (by simp)]
      · rw [if_neg (show ¬ (((p : Int)).toNat < x.cps.size) from hlt)]
        refine fin ys items s hD hi (by omega) ⟨s.heap, s.toks, rfl, fun _ _ _ q => q⟩ ?_
        rw [e, List.drop_eq_nil_of_le (by simp; omega), List.append_nil]
    · refine run_matched x' hn fun m' e2 e3 => ?_
      show wpAny _ _ (ite _ _ _) _ _ _
      have again_ : ∀ (ys' : List Str) (items' : Array Value) (s' : Shared), s'.heap.PlainList D items' → StrsAre items'.toList ys' → items'.size ≤ 2 * j - 1 → (ys'.map (·.length)).sum + 4 ≤ 5 * j → (∃ h' tk, s' = { s with heap := h', toks := tk } ∧ Heap.ExtBut D s.heap h') →
          flat ys' ++ repl.cps.toList ++ F j = flat ys ++ F p → wpAny (model prog w) (A.under (.builtin "re.Pattern.sub.loop" (loopArgs pat D repl x t u n p))) (do
            updateSeq D (·.push (.str repl t))
            again (.builtin "re.Pattern.sub.loop" ⟨[.ref pat, .str x u, .str repl t, rawInt 0, rawInt 0, rawInt (n + 1), rawInt m'.handed, rawInt m'.handed, .bool (m'.handed == i), .ref D, .bool false], []⟩))
            (fun fin s' => match fin with | .done f => R (.ok f) s' | .again c' => c'.quiet = true ∧ codeAny (model prog w) A c' R s') (fun e s' => R (.error e) s') s' := by
        intro ys' items' s' hD' hi' hz' hs' hsame hfl
        obtain ⟨h', tk, rfl, hext⟩ := hsame
        have hsz' : items'.size = ys'.length := by simpa using StrsAre.len_eq hi'
        refine wpAny_bind (push_plain (s := { s with heap := h', toks := tk }) hD' (by omega) fun h₂ hD₂ hs₂ => wpAny_pure ?_)
        refine ⟨quiet_loop _, ?_⟩
        rw [e3, show (j == i) = false from beq_eq_false_iff_ne.mpr (by omega)]
        have ext₂ : Heap.ExtBut D s.heap h₂ := fun b o hb q => hs₂.extBut b o hb (hext b o hb q)
        refine ih j (n + 1) (ys' ++ [repl]) _ { s with heap := h₂, toks := tk } (by omega) hjs (hP.ext ext₂ hD) hD₂ (by rw [Array.toList_push]; exact StrsAre.snoc hi' _ _) ?_ ?_ fun h₃ t₃ tk₃ hx₃ => ?_
        · rw [List.length_append, List.length_singleton]; omega
        · rw [List.map_append, List.sum_append]
          simp only [List.map_cons, List.map_nil, List.sum_cons, List.sum_nil]
          have : repl.length ≤ 4 := hr
          omega
        · rw [flat_append, flat_one, hfl]
          exact hR h₃ t₃ tk₃ fun b o hb q => hx₃ b o hb (ext₂ b o hb q)
      rw [e2]
      by_cases hlt : p < i
      · rw [if_pos (show (((p : Int)).toNat < i) from hlt)]
        have hlen : (Str.mk (x.cps.extract p i)).length = i - p := by
          show (x.cps.extract p i).size = _
          rw [Array.size_extract]; omega
        refine wpAny_bind (m := mkStr (Str.mk (x.cps.extract p i))) (wpAny_mkStr ?_ (by omega))
        refine wpAny_bind (push_plain (s := { s with toks := s.toks + 1 }) hD (by omega) fun h' hD' hs' => ?_)
        show wpAny _ _ (ite _ _ _) _ _ _
        rw [if_pos (show ((0 : Int) == 0) = true from rfl)]
        refine wpAny_bind (wpAny_pure ?_)
        show wpAny _ _ (ite _ _ _) _ _ _
        rw [if_pos (show (Value.str repl t != Value.none) = true by simp)]
        refine again_ (ys ++ [Str.mk (x.cps.extract p i)]) _ _ hD' (by rw [Array.toList_push]; exact StrsAre.snoc hi _ _) ?_ ?_ ⟨h', _, rfl, hs'.extBut⟩ ?_
        · rw [Array.size_push]; omega
        · rw [List.map_append, List.sum_append]
          simp only [List.map_cons, List.map_nil, List.sum_cons, List.sum_nil]
          omega
        · rw [flat_append, flat_one, slice_list, e]
          simp only [List.append_assoc]
      · rw [if_neg (show ¬ (((p : Int)).toNat < i) from hlt)]
        show wpAny _ _ (ite _ _ _) _ _ _
        rw [if_pos (show ((0 : Int) == 0) = true from rfl)]
        refine wpAny_bind (wpAny_pure ?_)
        show wpAny _ _ (ite _ _ _) _ _ _
        rw [if_pos (show (Value.str repl t != Value.none) = true by simp)]
        refine again_ ys items s hD hi ?_ ?_ ⟨s.heap, s.toks, rfl, fun _ _ _ q => q⟩ ?_
        · omega
        · omega
        · rw [e, show i - p = 0 by omega, List.take_zero, List.nil_append, List.append_assoc]
end
section
variable {prog : Program} {w : World} {A : Around} {E : Value → Shared → Prop} {s : Shared}

theorem named_sub (a b : Value) : reNamed "re.Pattern.sub" "sub" ["repl", "string", "count"] 2 [a, b] [] = pure [some a, some b, none] := by rfl

theorem sub_call {pat : Addr} {repl x : Str} {t u : Tok} {code : Array Nat} {F : Nat → List Nat} {Q : Value → Shared → Prop} (hF : Finds code x.cps repl.cps.toList F) (hx : x.cps.size ≤ 1000000) (hr : repl.cps.size ≤ 4)
    (hb : repl.cps.contains 92 = false) (P : IsPat s.heap pat code)
    (h : ∀ h' t' tk, s.heap.StaysIn h' → Q (.str (Str.mk (F 0).toArray) t') { s with heap := h', toks := tk }) :
    wpAny (model prog w) A (call (.builtin "re.Pattern.sub") [.ref pat, .str repl t, .str x u]) Q E s := by
  have hT : s.TypeIs (.ref pat) "re.Pattern" := let ⟨o, _, _, _, _, _, _, e1, e2, _⟩ := P; ⟨o, e1, e2⟩
  refine wpAny_call (codeAny_call_builtin slot_sub.plain entry_sub (slot_sub.check _ _ _ _ _ _ _ _ hT (args_sub _ _ _) ?_))
  show wpAny _ _ (reSubstitute "re.Pattern.sub" "sub" false ⟨[.ref pat, .str repl t, .str x u], []⟩) _ _ _
  unfold reSubstitute
  show wpAny _ _ (reNamed "re.Pattern.sub" "sub" ["repl", "string", "count"] 2 [.str repl t, .str x u] [] >>= _) _ _ _
  rw [named_sub]
  refine wpAny_bind (wpAny_pure ?_)
  show wpAny _ _ (pure 0 >>= _) _ _ _
  refine wpAny_bind (wpAny_pure ?_)
  refine wpAny_bind (wpAny_specialOf (typeIs_str s repl t) no_call_str ?_)
  show wpAny _ _ (ite _ _ _) _ _ _
  rw [if_neg (show ¬ ((none : Option Value).isSome = true) from Bool.false_ne_true)]
  refine wpAny_bind (m := asStr? (.str repl t)) (wpAny_of_eq (a := some repl) rfl ?_)
  show wpAny _ _ (pure _ >>= _) _ _ _
  refine wpAny_bind (wpAny_pure ?_)
  show wpAny _ _ (ite _ _ _) _ _ _
  rw [if_neg (show ¬ ((none : Option Value).isSome = true) from Bool.false_ne_true), hb]
  show wpAny _ _ (ite _ _ _) _ _ _
  rw [if_pos (show (!false) = true from rfl)]
  refine wpAny_bind (wpAny_pure ?_)
  show wpAny _ _ (holding [.str repl t] (reWholeTarget (.ref pat) (.str x u)) >>= _) _ _ _
  refine wpAny_bind (wpAny_holding (whole_target P ?_))
  show wpAny _ _ (ite _ _ _) _ _ _
  rw [if_neg (show ¬ (((0 : Int) == 1) = true) from Bool.false_ne_true)]
  refine wpAny_bind (m := newList []) (wpAny_newObj_type ?_ (Nat.zero_le _))
  refine wpAny_pure ⟨quiet_loop _, ?_⟩
  have hfree : s.heap.get? s.heap.objs.size = none := by
    cases e : s.heap.get? s.heap.objs.size with
    | none => rfl
    | some o => exact absurd (Heap.lt_size e) (Nat.lt_irrefl _)
  have st : s.heap.StaysIn (s.heap.push { cls := .type "list", data := .seq ([] : List Value).toArray }) := fun b o e => Heap.get?_push_of_some _ e
  refine sub_loop (s := { s with heap := s.heap.push { cls := .type "list", data := .seq ([] : List Value).toArray } }) hF hx hr (x.cps.size + 1) 0 0 [] #[] (by omega) (Nat.zero_le _) (P.keeps st) ⟨0, Heap.get?_push_size _ rfl⟩ (by constructor) (by simp) (by simp) fun h' t' tk hx' => ?_
  refine h h' t' tk fun b o e => hx' b o (fun q => ?_) (st b o e)
  rw [q, hfree] at e; cases e
end
end Mine
end
section
-- part Re3
open PySem PySem.W PyProof.Rows PySem.Calls
set_option Elab.async false
set_option maxRecDepth 100000
set_option maxHeartbeats 4000000
namespace Mine
open PySem.Sre PySem.Builtin PySem.Builtin.Re

theorem entry_search : entryFor table "re.Pattern.search" = some Builtin.«re.Pattern.search» := entryFor_of_tree (by kernel_rfl)
theorem slot_search : Slot "re.Pattern" "search" "re.Pattern.search" :=
  .of (owner := "re.Pattern") (n := "search") (by rw [typeLookup_type, builtinLookup_eq_fast]; kernel_rfl) (by decide +kernel) (by decide +kernel) (by decide +kernel)
    (by first | exact .inl (by decide +kernel) | exact .inr (by decide +kernel)) (by rw [isSubtype_type]; kernel_rfl)
theorem args_search (a b : Value) : argsOk "re.Pattern.search" ⟨[a, b], []⟩ := by unfold argsOk; kernel_rfl
theorem type_search : typeOf (.builtin "re.Pattern.search") = pure (.type "method_descriptor") := by show builtinType _ = _; rw [builtinType_eq_fast]; kernel_rfl
theorem named_search (a : Value) : reNamed "re.Pattern.search" "search" ["string", "pos", "endpos"] 1 [a] [] = pure [some a, none, none] := by rfl

section
variable {prog : Program} {w : World} {A : Around} {E : Value → Shared → Prop} {s : Shared}

theorem search_target {a : Addr} {code : Array Nat} {x : Str} {u : Tok} {Q : ReTarget → Shared → Prop} (P : IsPat s.heap a code) (hx : x.cps.size ≤ 1000000)
    (hQ : Q { pattern := .ref a, string := .str x u, code, text := x.cps, kind := 0, groups := 0, pos := 0, lim := x.cps.size } s) : wpAny (model prog w) A (reTarget "re.Pattern.search" "search" ⟨[.ref a, .str x u], []⟩) Q E s := by
  obtain ⟨o, f0, f1, ct, oc, vs, n, e1, e2, e3, e4, e5, _, e6, e7⟩ := P
  unfold reTarget
  show wpAny _ _ (reNamed "re.Pattern.search" "search" ["string", "pos", "endpos"] 1 [.str x u] [] >>= _) _ _ _
  rw [named_search]
  refine wpAny_bind (wpAny_pure ?_)
  show wpAny _ _ (pure 0 >>= _) _ _ _
  refine wpAny_bind (wpAny_pure ?_)
  show wpAny _ _ (pure _ >>= _) _ _ _
  refine wpAny_bind (wpAny_pure ?_)
  refine wpAny_bind (wpAny_fieldsOf e1 e4 ?_)
  refine wpAny_bind (m := reTextOf (.str x u)) (wpAny_of_eq (a := (x.cps, 0)) rfl ?_)
  show wpAny _ _ (reRawItems (.ref ct) >>= _) _ _ _
  refine wpAny_bind ?_
  unfold reRawItems
  refine wpAny_bind (wpAny_seqItems e5 e6 (wpAny_pure ?_))
  refine wpAny_pure ?_
  have em : min ((2 ^ 63 - 1 : Int).toNat) x.cps.size = x.cps.size := by omega
  have hQ' : Q { pattern := .ref a, string := .str x u, code := (vs.map reRawOf).map (·.toNat), text := x.cps, kind := 0, groups := 0, pos := min (0 : Int).toNat x.cps.size, lim := min ((2 ^ 63 - 1 : Int).toNat) x.cps.size } s := by
    rw [em, e7, show min (0 : Int).toNat x.cps.size = 0 from Nat.zero_min _]; exact hQ
  exact hQ'

theorem search_none {pat : Addr} {x : Str} {u : Tok} {code : Array Nat} {n st hd : Nat} {Q : Value → Shared → Prop} (P : IsPat s.heap pat code) (hx : x.cps.size ≤ 1000000)
    (x' : Ends (Sre.forSearch code x.cps 0 0 x.cps.size false) n .failed st hd) (hn : n < 2 ^ 60) (h : Q .none s) : wpAny (model prog w) A (call (.builtin "re.Pattern.search") [.ref pat, .str x u]) Q E s := by
  have hT : s.TypeIs (.ref pat) "re.Pattern" := let ⟨o, _, _, _, _, _, _, e1, e2, _⟩ := P; ⟨o, e1, e2⟩
  refine wpAny_call_entry slot_search hT entry_search ?_ (args_search _ _)
  unfold Builtin.«re.Pattern.search»
  refine wpAny_bind (search_target P hx ?_)
  unfold reAnswer
  refine wpAny_bind (run_failed x' hn ?_)
  exact wpAny_pure ⟨_, rfl, h⟩

def isMatch (h : Heap) (a : Addr) : Prop := ∃ vs, h.get? a = some { cls := .type "re.Match", data := .fields vs }
theorem search_some {pat : Addr} {x : Str} {u : Tok} {code : Array Nat} {n st hd : Nat} {Q : Value → Shared → Prop} (P : IsPat s.heap pat code) (hx : x.cps.size ≤ 1000000)
    (x' : Ends (Sre.forSearch code x.cps 0 0 x.cps.size false) n .matched st hd) (hn : n < 2 ^ 60)
    (h : ∀ a h', s.heap.StaysIn h' → isMatch h' a → Q (.ref a) { s with heap := h' }) : wpAny (model prog w) A (call (.builtin "re.Pattern.search") [.ref pat, .str x u]) Q E s := by
  have hT : s.TypeIs (.ref pat) "re.Pattern" := let ⟨o, _, _, _, _, _, _, e1, e2, _⟩ := P; ⟨o, e1, e2⟩
  refine wpAny_call_entry slot_search hT entry_search ?_ (args_search _ _)
  unfold Builtin.«re.Pattern.search»
  refine wpAny_bind (search_target P hx ?_)
  unfold reAnswer
  refine wpAny_bind (run_matched x' hn fun m' _ _ => ?_)
  show wpAny _ _ (reNewMatch (.ref pat) (.str x u) 0 0 x.cps.size m' >>= _) _ _ _
  refine wpAny_bind ?_
  unfold reNewMatch
  show wpAny _ _ (newTuple [rawInt m'.start, rawInt m'.handed] >>= _) _ _ _
  refine wpAny_bind (m := newTuple [rawInt m'.start, rawInt m'.handed]) (wpAny_newObj_type ?_ (by size_fits))
  refine wpAny_newObj_type (wpAny_pure ⟨_, rfl, h _ _ (fun b o e => ?_) ⟨_, Heap.get?_push_size _ rfl⟩⟩) (by size_fits)
  exact Heap.get?_push_of_some _ (Heap.get?_push_of_some _ e)
end

theorem set4 (c : Nat) (h1 : 65 ≤ c) (h2 : c ≤ 122) (seen : Sre.Seen) : ∃ seen', inSet c4 c c4.size 5 true seen = .ok (false, seen') := by
  have key : inSet c4 c c4.size 5 true seen = (if (decide (c < 256) && (c4.getD (5 + (1 + c / 32)) 0).testBit (c % 32)) = true then Except.ok (true, seen.add 9) else Except.ok (!true, (seen.add 9).add 0)) := rfl
  have tb : ∀ c, c < 123 → 65 ≤ c → (c4.getD (5 + (1 + c / 32)) 0).testBit (c % 32) = false := by decide
  rw [key, tb c (by omega) h1]
  exact ⟨(seen.add 9).add 0, by simp⟩

theorem search4_none {text : Array Nat} (h3 : ∀ j, j < text.size → 65 ≤ text.getD j 0 ∧ text.getD j 0 ≤ 122) : ∃ n st hd, n < 2 ^ 60 ∧ Ends (Sre.forSearch c4 text 0 0 text.size false) n .failed st hd := by
  have e : Sre.forSearch c4 text 0 0 text.size false = if (decide (0 > text.size) || decide (text.size - 0 < 1)) = true then (mk c4 text 0 0 15 0 0 true [] 0 (some false) (({} : Sre.Seen).add 14) none)
      else M.attemptFrom (mk c4 text text.size 0 15 0 0 true [] 0 none (({} : Sre.Seen).add 14) none) 0 true := rfl
  by_cases hp : 0 < text.size
  · rw [e, if_neg (by rw [Bool.or_eq_true, decide_eq_true_eq, decide_eq_true_eq]; omega)]
    show ∃ n st hd, n < 2 ^ 60 ∧ Ends (match M.admitted (mk c4 text text.size 0 15 0 0 true [] 0 none (({} : Sre.Seen).add 14) none) (text.size + 1 - 0) 0 (({} : Sre.Seen).add 14) with
      | .ok (some s, seen) => _ | .ok (none, seen) => (mk c4 text text.size 0 15 0 0 true [] 0 (some false) seen none) | .error why => _) n .failed st hd
    have loop : ∀ (m : M), m.code = c4 → m.text = text → m.lim = text.size → ∀ (fuel s : Nat) (seen : Sre.Seen), ∃ seen', M.admitted m fuel s seen = .ok (none, seen') := by
      intro m hc ht hl fuel
      induction fuel with
      | zero => intro s seen; exact ⟨_, rfl⟩
      | succ fuel ih =>
        intro s seen
        unfold M.admitted
        rw [hl]
        by_cases hs : s ≥ text.size
        · rw [if_pos hs]; exact ⟨_, rfl⟩
        · rw [if_neg hs, hc, ht]
          obtain ⟨seen₁, e₁⟩ := set4 (text.getD s 0) (h3 s (by omega)).1 (h3 s (by omega)).2 seen
          rw [e₁]
          exact ih (s + 1) seen₁
    obtain ⟨seen', e'⟩ := loop (mk c4 text text.size 0 15 0 0 true [] 0 none (({} : Sre.Seen).add 14) none) rfl rfl rfl (text.size + 1 - 0) 0 (({} : Sre.Seen).add 14)
    rw [e']
    exact ⟨1, 0, 0, by decide, failed_ends⟩
  · rw [e, if_pos (by rw [Bool.or_eq_true, decide_eq_true_eq, decide_eq_true_eq]; omega)]
    exact ⟨1, 0, 0, by decide, failed_ends⟩
end Mine
end
section
-- part Re4
set_option maxRecDepth 100000
set_option maxHeartbeats 4000000
namespace Mine
open PySem hiding Frame Outcome Kept
open PySem.Sre

def crlf : List Nat → List Nat
  | [] => []
  | 13 :: 10 :: r => 13 :: 10 :: crlf r
  | c :: r => if nl c = true then 13 :: 10 :: crlf r else c :: crlf r
def dots : Bool → List Nat → List Nat
  | _, [] => []
  | b, c :: r => if (b && c == 46) = true then 46 :: 46 :: dots (c == 10) r else c :: dots (c == 10) r

theorem drop_at {text : Array Nat} {p : Nat} (h : p < text.size) : text.toList.drop p = text.getD p 0 :: text.toList.drop (p + 1) := by
  rw [List.drop_eq_getElem_cons (by simpa using h)]
  congr 1
  simp [Array.getD, h]

theorem crlf_plain {c : Nat} {r : List Nat} (h : nl c = false) : crlf (c :: r) = c :: crlf r := by
  have h13 : c ≠ 13 := by rintro rfl; simp [nl] at h
  conv => lhs; unfold crlf
  split
  · rename_i e; cases e
  · rename_i e; cases e; exact absurd rfl h13
  · rename_i c' r' _ e; cases e; rw [if_neg (by simp [h])]

theorem crlf_two (r : List Nat) : crlf (13 :: 10 :: r) = 13 :: 10 :: crlf r := by rw [crlf]
theorem crlf_one {c : Nat} {r : List Nat} (h : nl c = true) (hn : ¬ (c = 13 ∧ ∃ r', r = 10 :: r')) : crlf (c :: r) = 13 :: 10 :: crlf r := by
  conv => lhs; unfold crlf
  split
  · rename_i e; cases e
  · rename_i r' e; cases e; exact absurd ⟨rfl, _, rfl⟩ hn
  · rename_i c' r' _ e; cases e; rw [if_pos h]

def F2 (text : Array Nat) (p : Nat) : List Nat := crlf (text.toList.drop p)
def F1 (text : Array Nat) (p : Nat) : List Nat := dots (p == 0 || text.getD (p - 1) 0 == 10) (text.toList.drop p)

theorem F2_at {text : Array Nat} {p : Nat} (h : p < text.size) (hn : nl (text.getD p 0) = true) : p < nlEnd text p ∧ nlEnd text p ≤ text.size ∧ F2 text p = [13, 10] ++ F2 text (nlEnd text p) := by
  unfold F2
  rw [drop_at h]
  unfold nlEnd
  by_cases q : text.getD p 0 = 13 ∧ p + 1 < text.size ∧ text.getD (p + 1) 0 = 10
  · rw [if_pos q]
    refine ⟨by omega, by omega, ?_⟩
    rw [drop_at q.2.1, q.1, q.2.2, crlf_two]; rfl
  · rw [if_neg q]
    refine ⟨by omega, by omega, ?_⟩
    rw [crlf_one hn ?_]; · rfl
    rintro ⟨e, r', er⟩
    refine q ⟨e, ?_⟩
    by_cases hlt : p + 1 < text.size
    · rw [drop_at hlt] at er
      exact ⟨hlt, (List.cons.inj er).1⟩
    · rw [List.drop_eq_nil_of_le (by simp; omega)] at er
      cases er

theorem F2_find (text : Array Nat) : ∀ (k p : Nat), text.size - p = k → p ≤ text.size →
    ((∀ j, p ≤ j → j < text.size → nl (text.getD j 0) = false) ∧ F2 text p = text.toList.drop p) ∨
    (∃ i, p ≤ i ∧ i < text.size ∧ (∀ j, p ≤ j → j < i → nl (text.getD j 0) = false) ∧ nl (text.getD i 0) = true ∧ F2 text p = (text.toList.drop p).take (i - p) ++ [13, 10] ++ F2 text (nlEnd text i))
  | 0, p, hk, hp => by
    refine .inl ⟨fun j a b => by omega, ?_⟩
    unfold F2
    rw [List.drop_eq_nil_of_le (by simp; omega)]; rfl
  | k + 1, p, hk, hp => by
    have hlt : p < text.size := by omega
    cases hn : nl (text.getD p 0) with
    | true =>
      refine .inr ⟨p, Nat.le_refl _, hlt, fun j a b => by omega, hn, ?_⟩
      rw [Nat.sub_self, List.take_zero, List.nil_append]
      exact (F2_at hlt hn).2.2
    | false =>
      have e : F2 text p = text.getD p 0 :: F2 text (p + 1) := by
        unfold F2; rw [drop_at hlt, crlf_plain hn]
      rcases F2_find text k (p + 1) (by omega) hlt with ⟨h1, h2⟩ | ⟨i, h1, h2, h3, h4, h5⟩
      · refine .inl ⟨fun j a b => ?_, by rw [e, h2, ← drop_at hlt]⟩
        rcases Nat.eq_or_lt_of_le a with rfl | a
        · exact hn
        · exact h1 j a b
      · refine .inr ⟨i, by omega, h2, fun j a b => ?_, h4, ?_⟩
        · rcases Nat.eq_or_lt_of_le a with rfl | a
          · exact hn
          · exact h3 j a b
        · rw [e, h5, drop_at hlt, show i - p = (i - (p + 1)) + 1 by omega, List.take_succ_cons]; rfl

theorem F1_find (text : Array Nat) : ∀ (k p : Nat), text.size - p = k → p ≤ text.size →
    ((∀ j, p ≤ j → ¬ dotAt text j) ∧ F1 text p = text.toList.drop p) ∨
    (∃ i, p ≤ i ∧ (∀ j, p ≤ j → j < i → ¬ dotAt text j) ∧ dotAt text i ∧ F1 text p = (text.toList.drop p).take (i - p) ++ [46, 46] ++ F1 text (i + 1))
  | 0, p, hk, hp => by
    refine .inl ⟨fun j a b => by have := b.1; omega, ?_⟩
    unfold F1
    rw [List.drop_eq_nil_of_le (by simp; omega)]; rfl
  | k + 1, p, hk, hp => by
    have hlt : p < text.size := by omega
    have step : F1 text p = if ((p == 0 || text.getD (p - 1) 0 == 10) && text.getD p 0 == 46) = true then 46 :: 46 :: F1 text (p + 1) else text.getD p 0 :: F1 text (p + 1) := by
      unfold F1
      rw [drop_at hlt, dots]
      have : (p + 1 == 0 || text.getD (p + 1 - 1) 0 == 10) = (text.getD p 0 == 10) := by simp
      rw [this]
    by_cases hd : dotAt text p
    · refine .inr ⟨p, Nat.le_refl _, fun j a b => by omega, hd, ?_⟩
      rw [Nat.sub_self, List.take_zero, List.nil_append, step, if_pos]
      · rfl
      · obtain ⟨_, h1, h2⟩ := hd
        rw [h1]
        rcases h2 with h2 | h2
        · simp [h2]
        · simp only [h2]; simp
    · have e : F1 text p = text.getD p 0 :: F1 text (p + 1) := by
        rw [step, if_neg]
        intro q
        rw [Bool.and_eq_true, Bool.or_eq_true] at q
        refine hd ⟨hlt, by simpa using q.2, ?_⟩
        rcases q.1 with q | q
        · exact .inl (by simpa using q)
        · exact .inr (by simpa using q)
      rcases F1_find text k (p + 1) (by omega) hlt with ⟨h1, h2⟩ | ⟨i, h1, h3, h4, h5⟩
      · refine .inl ⟨fun j a => ?_, by rw [e, h2, ← drop_at hlt]⟩
        rcases Nat.eq_or_lt_of_le a with rfl | a
        · exact hd
        · exact h1 j a
      · refine .inr ⟨i, by omega, fun j a b => ?_, h4, ?_⟩
        · rcases Nat.eq_or_lt_of_le a with rfl | a
          · exact hd
          · exact h3 j a b
        · rw [e, h5, drop_at hlt, show i - p = (i - (p + 1)) + 1 by omega, List.take_succ_cons]; rfl
end Mine
end
section
-- part R3
open PySem PySem.W PyProof.Rows PySem.Calls
set_option Elab.async false
set_option maxRecDepth 100000
set_option maxHeartbeats 4000000
set_option linter.unusedVariables false
namespace Mine
theorem free_size (h : Heap) : h.get? h.objs.size = none := by
  cases e : h.get? h.objs.size with
  | none => rfl
  | some o => exact absurd (Heap.lt_size e) (Nat.lt_irrefl _)
theorem stay_push (h : Heap) (o : Obj) : h.StaysIn (h.push o) := fun _ _ e => Heap.get?_push_of_some _ e
theorem fresh_back {h h' : Heap} {a : Addr} (k : h.StaysIn h') (hn : h'.get? a = none) : h.get? a = none := by
  cases e : h.get? a with
  | none => rfl
  | some o => have := k _ _ e; rw [hn] at this; cases this
theorem plain_of {h : Heap} {l : Addr} {items : Array Value} (e : h.get? l = some { cls := .type "list", data := .seq items }) : h.PlainList l items := ⟨_, e⟩

section
variable {M : Model} {A : Around} {E : Value → Shared → Prop} {hp : Heap} {g : Array GenState} {d : Drawn} {tk : Nat} {o : OsState} {env : Env} {pos : Pos}
theorem c_int {i : Int} {k : Nat} {Q : Value → Shared → Prop} (h : ∀ t tk', Q (.int i t) ⟨hp, g, d, tk', o⟩) : wpAny M A (eval (.Constant (.int i) k pos) env) Q E ⟨hp, g, d, tk, o⟩ := wpAny_Constant_int (h _ _)
theorem c_str {x : Str} {k : Nat} {Q : Value → Shared → Prop} (h : ∀ t tk', Q (.str x t) ⟨hp, g, d, tk', o⟩) : wpAny M A (eval (.Constant (.str x) k pos) env) Q E ⟨hp, g, d, tk, o⟩ := Constant_str (h _ _)

theorem mk_list {vs : List Value} {Q : Value → Shared → Prop} (hsz : vs.length ≤ 1000000)
    (h : ∀ l h', hp.StaysIn h' → hp.get? l = none → h'.get? l = some { cls := .type "list", data := .seq vs.toArray } → Q (.ref l) ⟨h', g, d, tk, o⟩) : wpAny M A (newList vs) Q E ⟨hp, g, d, tk, o⟩ :=
  wpAny_newObj_type (s := ⟨hp, g, d, tk, o⟩) (h _ _ (stay_push _ _) (free_size _) (Heap.get?_push_size _ rfl)) (by show vs.toArray.size ≤ sizeLine; rw [List.size_toArray, sizeLine_eq]; omega)
theorem mk_tuple {vs : List Value} {Q : Value → Shared → Prop} (hsz : vs.length ≤ 1000000)
    (h : ∀ l h', hp.StaysIn h' → hp.get? l = none → h'.get? l = some { cls := .type "tuple", data := .seq vs.toArray } → Q (.ref l) ⟨h', g, d, tk, o⟩) : wpAny M A (newTuple vs) Q E ⟨hp, g, d, tk, o⟩ :=
  wpAny_newObj_type (s := ⟨hp, g, d, tk, o⟩) (h _ _ (stay_push _ _) (free_size _) (Heap.get?_push_size _ rfl)) (by show vs.toArray.size ≤ sizeLine; rw [List.size_toArray, sizeLine_eq]; omega)

theorem st_local {B : Heap} {m cm : Str → Option Value} {N : List (Addr × Obj)} {x : Str} {v : Value} {Q : Unit → Shared → Prop} (F : Fm B env m cm N hp)
    (h : ∀ h' tk', Fm B env (fun y => if y = x then some v else m y) cm N h' → (∀ b o, b ≠ env.locals → hp.get? b = some o → h'.get? b = some o) → Q () ⟨h', g, d, tk', o⟩)
    (hk : env.scope.kind = .function := by rfl) (hl : env.kindOf x = some .local := by rfl) : wpAny M A (storeName env x v) Q E ⟨hp, g, d, tk, o⟩ :=
  wpAny_storeName_local (s := ⟨hp, g, d, tk, o⟩) hl F.rd.ns (fun h' hn hs => h h' _ (F.set hn hs) (fun b o hb e => (hs.2 b hb).trans e)) (by rw [hk]; rfl)
theorem st_cell {B : Heap} {m cm : Str → Option Value} {N : List (Addr × Obj)} {x : Str} {c : Addr} {v : Value} {Q : Unit → Shared → Prop} (F : Fm B env m cm N hp)
    (h : ∀ h' tk', Fm B env m (fun y => if y = x then some v else cm y) N h' → (∀ b o, b ≠ c → hp.get? b = some o → h'.get? b = some o) → Q () ⟨h', g, d, tk', o⟩)
    (hk : env.scope.kind = .function := by rfl) (hl : env.kindOf x = some .cell := by rfl) (hc : env.cells.lookup x = some c := by rfl) : wpAny M A (storeName env x v) Q E ⟨hp, g, d, tk, o⟩ :=
  wpAny_storeName_cell (s := ⟨hp, g, d, tk, o⟩) hk hl hc (F.rd.cell _ _ hc) fun h' hv hs => h h' _ (F.setCell hc hv hs) (fun b o hb e => (hs.2 b hb).trans e)
end

section
variable {M : Model} {A : Around} {E : Value → Shared → Prop} {s : Shared} {env : Env} {pos : Pos}
theorem e_list {elts : List Expr} {Q : Value → Shared → Prop}
    (h : wpAny M A (spliced (backTo pos (starEach elts env))) (fun vs s₁ => wpAny M A (newList vs) Q E s₁) E s) :
    wpAny M A (eval (.List elts pos) env) Q E s := List_ h
theorem e_tuple {elts : List Expr} {k : Nat} {Q : Value → Shared → Prop}
    (h : wpAny M A (spliced (backTo pos (starEach elts env))) (fun vs s₁ => wpAny M A (newTuple vs) Q E s₁) E s) :
    wpAny M A (eval (.Tuple elts k pos) env) Q E s := Tuple_ h

/-- a def of the text called, not by a keyword -/
theorem cw_def {K : Frag} {p : Program} {loose : List Str} {a : Addr} {first : List Value} {e : Expr} {rest : List Expr} {Q : Value → Shared → Prop} (G : Gnd K p loose s.heap) (hk : keepIn K (.ref a) = true)
    (h : wpAny M A (spliced (backTo pos (starEach (e :: rest) env))) (fun vs s₁ => K.In s₁.heap ∧ wpAny M A (call (.ref a) (first ++ vs)) Q E s₁) E s)
    (he : nostar (e :: rest) = true := by rfl) :
    wpAny M A (callWith pos (.ref a) first (backTo pos (starEach (e :: rest) env)) []) Q E s := callWith_K G.k hk h (starEach_plain (nostar_cons he).1) ((plain_backTo _).trans (starEach_any (nostar_cons he).2))
theorem cw_def0 {K : Frag} {p : Program} {loose : List Str} {a : Addr} {first : List Value} {Q : Value → Shared → Prop} (G : Gnd K p loose s.heap) (hk : keepIn K (.ref a) = true)
    (h : wpAny M A (call (.ref a) (first ++ [])) Q E s) :
    wpAny M A (callWith pos (.ref a) first (backTo pos (starEach [] env)) []) Q E s := callWith_K0 G.k hk h

theorem seq_next {st : Stmt} {rest : List Stmt} {Q : Flow → Shared → Prop}
    (h : wpAny M A (exec st env) (fun f s' => f = .next ∧ wpAny M A (execs rest env) Q E s') E s) : wpAny M A (execs (st :: rest) env) Q E s :=
  wpAny_execs_cons (wpAny_mono h (fun f s' q => by obtain ⟨rfl, q⟩ := q; exact q) fun _ _ q => q)
theorem seq_ret {e : Expr} {p : Pos} {rest : List Stmt} {Q : Flow → Shared → Prop}
    (h : wpAny M A (eval e env) (fun v s' => Q (.ret v) s') E s) : wpAny M A (execs (.Return (some e) p :: rest) env) Q E s :=
  wpAny_execs_cons (wpAny_Return_some h)
/-- name = value -/
theorem seq_set {x : Str} {p' p : Pos} {e : Expr} {rest : List Stmt} {Q : Flow → Shared → Prop}
    (h : wpAny M A (eval e env) (fun v s₁ => wpAny M A (storeName env x v) (fun _ s₂ => wpAny M A (execs rest env) Q E s₂) E s₁) E s)
    (hs : swapsWith e (some (.Name x p')) p.line env = pure false := by rfl) :
    wpAny M A (execs (.Assign [.Name x p'] e p :: rest) env) Q E s := by
  refine seq_next (wpAny_Assign_Name (wpAny_mono h (fun v s₁ q => ?_) fun _ _ q => q) hs)
  exact wpAny_mono q (fun _ _ q => ⟨rfl, q⟩) fun _ _ q => q
theorem seq_if {test : Expr} {body orelse rest : List Stmt} {p : Pos} {Q : Flow → Shared → Prop}
    (h : wpAny M A (isTrue test env (eval test env)) (fun b s₂ => if b then wpAny M A (execs body env) (fun f s' => match f with | .next => wpAny M A (execs rest env) Q E s' | f => Q f s') E s₂
      else wpAny M A (execs orelse env) (fun f s' => match f with | .next => wpAny M A (execs rest env) Q E s' | f => Q f s') E s₂) E s) :
    wpAny M A (execs (.If test body orelse p :: rest) env) Q E s := wpAny_execs_cons (wpAny_If h)
end

section
variable {prog : Program} {w : World} {A : Around} {E : Value → Shared → Prop} {hp : Heap} {g : Array GenState} {d : Drawn} {tk : Nat} {o : OsState} {env : Env} {pos : Pos} {a b : Int} {t u : Tok} {Q : Value → Shared → Prop}
theorem o_add (h : ∀ t tk', Q (.int (a + b) t) ⟨hp, g, d, tk', o⟩) : wpAny (model prog w) A (binaryOp .Add (.int a t) (.int b u)) Q E ⟨hp, g, d, tk, o⟩ := add_int (h _ _)
theorem o_sub (h : ∀ t tk', Q (.int (a - b) t) ⟨hp, g, d, tk', o⟩) : wpAny (model prog w) A (binaryOp .Sub (.int a t) (.int b u)) Q E ⟨hp, g, d, tk, o⟩ := sub_int (h _ _)
theorem o_mul (hm : IntMulOk a b) (h : ∀ t tk', Q (.int (a * b) t) ⟨hp, g, d, tk', o⟩) : wpAny (model prog w) A (binaryOp .Mult (.int a t) (.int b u)) Q E ⟨hp, g, d, tk, o⟩ := mul_int (h _ _) hm
theorem o_mod (hb : b ≠ 0) (h : ∀ t tk', Q (.int (a.fmod b) t) ⟨hp, g, d, tk', o⟩) : wpAny (model prog w) A (binaryOp .Mod (.int a t) (.int b u)) Q E ⟨hp, g, d, tk, o⟩ := IsLeap.wpAny_mod_int hb (h _ _)
theorem o_neg (h : ∀ t tk', Q (.int (-a) t) ⟨hp, g, d, tk', o⟩) : wpAny (model prog w) A (unaryOp .USub (.int a t)) Q E ⟨hp, g, d, tk, o⟩ := neg_int (h _ _)
theorem o_cat {x y : Str} (hsz : x.length + y.length ≤ 1000000) (h : ∀ t tk', Q (.str (x ++ y) t) ⟨hp, g, d, tk', o⟩) : wpAny (model prog w) A (binaryOp .Add (.str x t) (.str y u)) Q E ⟨hp, g, d, tk, o⟩ :=
  add_str h (by rw [sizeLine_eq]; omega)
theorem i_str {value slice : Expr} {x : Str} {i : Int} {c : Nat} (hr : (decide (i < -(2 ^ 63 : Int)) || decide (i ≥ 2 ^ 63)) = false) (hc : (seqIndex? i x.length).bind (x.cps[·]?) = some c)
    (h : ∀ t tk', Q (.str ⟨#[c]⟩ t) ⟨hp, g, d, tk', o⟩)
    (hs : subscripted slice false (.str x t) (.int i u) = operate [.str x t, .int i u] (getItem (.str x t) (.int i u)) := by with_unfolding_all rfl) :
    wpAny (model prog w) A (subscriptTail value slice (.str x t) (.int i u)) Q E ⟨hp, g, d, tk, o⟩ :=
  t_str hr hc (h _ _) hs

theorem sub_call' {pat : Addr} {repl x : Str} {t u : Tok} {code : Array Nat} {F : Nat → List Nat} (hF : Finds code x.cps repl.cps.toList F) (hx : x.cps.size ≤ 1000000) (hr : repl.cps.size ≤ 4)
    (hb : repl.cps.contains 92 = false) (P : IsPat hp pat code)
    (h : ∀ h' t' tk', hp.StaysIn h' → Q (.str (Str.mk (F 0).toArray) t') ⟨h', g, d, tk', o⟩) :
    wpAny (model prog w) A (call (.builtin "re.Pattern.sub") [.ref pat, .str repl t, .str x u]) Q E ⟨hp, g, d, tk, o⟩ := sub_call hF hx hr hb P h
theorem search_none' {pat : Addr} {x : Str} {u : Tok} {code : Array Nat} (P : IsPat hp pat code) (hx : x.cps.size ≤ 1000000)
    (x' : ∃ n st hd, n < 2 ^ 60 ∧ Ends (Sre.forSearch code x.cps 0 0 x.cps.size false) n .failed st hd) (h : Q .none ⟨hp, g, d, tk, o⟩) : wpAny (model prog w) A (call (.builtin "re.Pattern.search") [.ref pat, .str x u]) Q E ⟨hp, g, d, tk, o⟩ :=
  let ⟨_, _, _, hn, x'⟩ := x'; search_none P hx x' hn h
theorem search_some' {pat : Addr} {x : Str} {u : Tok} {code : Array Nat} {n st hd : Nat} (P : IsPat hp pat code) (hx : x.cps.size ≤ 1000000)
    (x' : Ends (Sre.forSearch code x.cps 0 0 x.cps.size false) n .matched st hd) (hn : n < 2 ^ 60)
    (h : ∀ a h', hp.StaysIn h' → isMatch h' a → Q (.ref a) ⟨h', g, d, tk, o⟩) : wpAny (model prog w) A (call (.builtin "re.Pattern.search") [.ref pat, .str x u]) Q E ⟨hp, g, d, tk, o⟩ :=
  search_some P hx x' hn h
end

section
variable {prog : Program} {w : World} {A : Around} {K : Frag} {p : Program} {loose : List Str} {hp : Heap} {g : Array GenState} {d : Drawn} {tk : Nat} {o : OsState}
theorem enter' {R : Result → Shared → Prop} {name qual : Str} {params : Arguments} {body : List Stmt} {scope : Scope} {dV kV doc pm cdv ct oc : Value} {an od : Option Addr} {osl : Array (Option Value)} {f : Addr} {vals : List Value} {binds : List (Str × Value)} {n : Nat}
    (G : Gnd K p loose hp) (r : Room (n + 1) A)
    (ho : K.lookup f = some ⟨oc, od, .func (fnOf name qual params body scope dV kV doc pm an cdv ct), osl⟩) (hcd : codeIn K cdv qual = true)
    (hbind : bindArgs (fnOf name qual params body scope dV kV doc pm an cdv ct) ⟨vals, []⟩ = pure binds)
    (hkind : (binds.all fun y => scope.names.lookup y.1 == some .local || scope.names.lookup y.1 == some .cell) = true)
    (hnd : ((cellsFrom 0 scope.names []).map (·.1)).Nodup)
    (h : ∀ L h₁ tk, hp.StaysIn h₁ → hp.get? L = none → Fm hp (envOfC qual scope L f cdv) (bindL (envOfC qual scope L f cdv).kindOf binds fun _ => none) (bindC (envOfC qual scope L f cdv).kindOf binds fun _ => none) [] h₁ →
      Room n (A.deeper (envOfC qual scope L f cdv)) → ∀ E,
      wpAny (model prog w) (A.deeper (envOfC qual scope L f cdv)) (execs body (envOfC qual scope L f cdv)) (fun fl s' => R (.ok (.ret (match fl with | .ret v => v | _ => .none))) s') E
        ⟨h₁, g, d, tk, o⟩)
    (hco : scope.isCoroutine = false) (hgen : scope.isGenerator = false) (hk : scope.kind = .function) :
    codeAny (model prog w) A (.call (.ref f) ⟨vals, []⟩) R ⟨hp, g, d, tk, o⟩ :=
  enter (s := ⟨hp, g, d, tk, o⟩) G r ho hcd hbind hkind hnd (fun L h₁ tk st hL F r' => h L h₁ tk st hL F r' _) hco hgen hk

/-- a call that hands a value back -/
theorem call_ok {E : Value → Shared → Prop} {a : Addr} {vs : List Value} {Q : Value → Shared → Prop} {s : Shared} (h : codeAny (model prog w) A (.call (.ref a) ⟨vs, []⟩) (fun r s' => match r with | .ok (.ret v) => Q v s' | .ok _ => False | .error e => E e s') s) :
    wpAny (model prog w) A (call (.ref a) vs) Q E s := wpAny_call h
end
end Mine
end
section
-- part W1
open PySem PySem.W PyProof.Rows PySem.Calls
set_option Elab.async false
set_option maxRecDepth 100000
set_option maxHeartbeats 4000000
set_option linter.unusedVariables false
namespace Mine

/-- wpAny, sealed -/
@[irreducible] def Wp {α : Type} (M : Model) (A : Around) (t : Sem α) (Q : α → Shared → Prop) (E : Value → Shared → Prop) (s : Shared) : Prop := wpAny M A t Q E s
theorem Wp_iff {α : Type} {M : Model} {A : Around} {t : Sem α} {Q : α → Shared → Prop} {E : Value → Shared → Prop} {s : Shared} : Wp M A t Q E s ↔ wpAny M A t Q E s := by unfold Wp; exact Iff.rfl
theorem Wp.of {α : Type} {M : Model} {A : Around} {t : Sem α} {Q : α → Shared → Prop} {E : Value → Shared → Prop} {s : Shared} (h : wpAny M A t Q E s) : Wp M A t Q E s := Wp_iff.mpr h
theorem Wp.to {α : Type} {M : Model} {A : Around} {t : Sem α} {Q : α → Shared → Prop} {E : Value → Shared → Prop} {s : Shared} (h : Wp M A t Q E s) : wpAny M A t Q E s := Wp_iff.mp h
theorem Wp.mono {α : Type} {M : Model} {A : Around} {t : Sem α} {Q Q' : α → Shared → Prop} {E : Value → Shared → Prop} {s : Shared} (h : Wp M A t Q E s) (hq : ∀ a s, Q a s → Q' a s) : Wp M A t Q' E s := .of (wpAny_mono h.to hq fun _ _ x => x)

section
variable {M : Model} {A : Around} {E : Value → Shared → Prop} {s : Shared} {env : Env} {pos : Pos} {K : Frag} {p : Program} {loose : List Str} {m cm : Str → Option Value}

theorem w_local {x : Str} {v : Value} {Q : Value → Shared → Prop} (R : Rd env m cm s.heap) (hv : m x = some v) (h : Q v s)
    (hk : env.scope.kind = .function := by rfl) (hl : env.kindOf x = some .local := by rfl) (hd : (x == ("__debug__" : Str)) = false := by rfl) : Wp M A (eval (.Name x pos) env) Q E s := .of (e_local R hv h hk hl hd)
theorem w_cell {x : Str} {c : Addr} {v : Value} {Q : Value → Shared → Prop} (R : Rd env m cm s.heap) (hv : cm x = some v) (h : Q v s)
    (hk : env.scope.kind = .function := by rfl) (hl : env.kindOf x = some .cell := by rfl) (hc : env.cells.lookup x = some c := by rfl) (hd : (x == ("__debug__" : Str)) = false := by rfl) : Wp M A (eval (.Name x pos) env) Q E s := .of (e_cell R hv h hk hl hc hd)
theorem w_free {x : Str} {c : Addr} {v : Value} {Q : Value → Shared → Prop} (R : Rd env m cm s.heap) (hv : cm x = some v) (h : Q v s)
    (hk : env.scope.kind = .function := by rfl) (hl : env.kindOf x = some .free := by rfl) (hc : env.cells.lookup x = some c := by rfl) (hd : (x == ("__debug__" : Str)) = false := by rfl) (hn : (x == ("__classdict__" : Str)) = false := by rfl) : Wp M A (eval (.Name x pos) env) Q E s := .of (e_free R hv h hk hl hc hd hn)
theorem w_glob {x : Str} {v : Value} {Q : Value → Shared → Prop} (G : Gnd K p loose s.heap) (hg : nsIn K mainGlobals x = some (some v)) (h : Q v s)
    (hk : env.scope.kind = .function := by rfl) (hx : env.kindOf x = some .globalImplicit := by rfl) (he : env.globals = mainGlobals := by rfl) (hd : (x == ("__debug__" : Str)) = false := by rfl) : Wp M A (eval (.Name x pos) env) Q E s := .of (e_glob G hg h hk hx he hd)
theorem w_bname {x : Str} {v : Value} {Q : Value → Shared → Prop} (G : Gnd K p loose s.heap) (hg : nsIn K mainGlobals x = some none) (hv : bootBuiltins x = some v) (h : Q v s) (hn : x ≠ "__name__" := by decide)
    (hk : env.scope.kind = .function := by rfl) (hx : env.kindOf x = some .globalImplicit := by rfl) (he : env.globals = mainGlobals := by rfl) (hb : env.builtins = builtinsNs := by rfl) (hd : (x == ("__debug__" : Str)) = false := by rfl) : Wp M A (eval (.Name x pos) env) Q E s :=
  .of (e_builtin G hg hv h hn hk hx he hb hd)
theorem w_bool {b : Bool} {k : Nat} {Q : Value → Shared → Prop} (h : Q (.bool b) s) : Wp M A (eval (.Constant (.bool b) k pos) env) Q E s := .of (wpAny_Constant_bool h)
theorem w_none {k : Nat} {Q : Value → Shared → Prop} (h : Q .none s) : Wp M A (eval (.Constant .none k pos) env) Q E s := .of fun _ _ _ => h

theorem w_binop {l r : Expr} {op : Operator} {Q : Value → Shared → Prop}
    (h : Wp M A (eval l env) (fun a s₁ => Wp M A (eval r env) (fun b s₂ => Wp M A (binaryOp op a b) Q E s₂) E s₁) E s) : Wp M A (eval (.BinOp l op r pos) env) Q E s :=
  .of (wpAny_BinOp (h.mono fun _ _ q => (q.mono fun _ _ q => q.to).to).to)
theorem w_unop {x : Expr} {op : UnaryOp} {Q : Value → Shared → Prop}
    (h : Wp M A (eval x env) (fun a s₁ => Wp M A (unaryOp op a) Q E s₁) E s) : Wp M A (eval (.UnaryOp op x pos) env) Q E s :=
  .of (wpAny_UnaryOp (h.mono fun _ _ q => q.to).to)
theorem w_cmp {l r : Expr} {op : CmpOp} {Q : Value → Shared → Prop}
    (h : Wp M A (eval l env) (fun a s₁ => Wp M A (eval r env) (fun b s₂ => Wp M A (compareOp op a b) Q E s₂) E s₁) E s) (hm : behindInMarks op r = false := by rfl) : Wp M A (eval (.Compare l [op] [r] pos) env) Q E s :=
  .of (wpAny_Compare1 (h.mono fun _ _ q => (q.mono fun _ _ q => q.to).to).to hm)
theorem w_ifexp {test body orelse : Expr} {Q : Value → Shared → Prop}
    (h : Wp M A (isTrue test env (eval test env)) (fun b s₁ => (b = true → Wp M A (eval body env) Q E s₁) ∧ (b = false → Wp M A (eval orelse env) Q E s₁)) E s) : Wp M A (eval (.IfExp test body orelse pos) env) Q E s :=
  .of (wpAny_IfExp (h.mono fun b _ q => by cases b; exact (q.2 rfl).to; exact (q.1 rfl).to).to)
theorem w_sub {value slice : Expr} {Q : Value → Shared → Prop}
    (h : Wp M A (eval value env) (fun o s₁ => Wp M A (eval slice env) (fun i s₂ => Wp M A (subscriptTail value slice o i) Q E s₂) E s₁) E s) : Wp M A (eval (.Subscript value slice pos) env) Q E s :=
  .of (Subscript_ (h.mono fun _ _ q => (q.mono fun _ _ q => q.to).to).to)
theorem w_list {elts : List Expr} {Q : Value → Shared → Prop}
    (h : Wp M A (spliced (backTo pos (starEach elts env))) (fun vs s₁ => Wp M A (newList vs) Q E s₁) E s) : Wp M A (eval (.List elts pos) env) Q E s := .of (List_ (h.mono fun _ _ q => q.to).to)
theorem w_tuple {elts : List Expr} {k : Nat} {Q : Value → Shared → Prop}
    (h : Wp M A (spliced (backTo pos (starEach elts env))) (fun vs s₁ => Wp M A (newTuple vs) Q E s₁) E s) : Wp M A (eval (.Tuple elts k pos) env) Q E s := .of (Tuple_ (h.mono fun _ _ q => q.to).to)
theorem w_sp0 {Q : List Value → Shared → Prop} (h : Q [] s) : Wp M A (spliced (backTo pos (starEach [] env))) Q E s := .of (sp_nil h)
theorem w_sp {e : Expr} {rest : List Expr} {Q : List Value → Shared → Prop} (h : Wp M A (eval e env) (fun v s₁ => Wp M A (spliced (backTo pos (starEach rest env))) (fun vs s₂ => Q (v :: vs) s₂) E s₁) E s)
    (hst : PySem.W.isStarred e = false := by rfl) : Wp M A (spliced (backTo pos (starEach (e :: rest) env))) Q E s := .of (sp_cons (h.mono fun _ _ q => q.to).to hst)
theorem w_sp1 {e : Expr} {Q : List Value → Shared → Prop} (h : Wp M A (eval e env) (fun v s₁ => Q [v] s₁) E s)
    (hst : PySem.W.isStarred e = false := by rfl) : Wp M A (spliced (backTo pos (starEach [e] env))) Q E s := .of (sp1 h.to hst)
theorem w_sp2 {e f : Expr} {Q : List Value → Shared → Prop} (h : Wp M A (eval e env) (fun v s₁ => Wp M A (eval f env) (fun w s₂ => Q [v, w] s₂) E s₁) E s)
    (hst : PySem.W.isStarred e = false := by rfl) (hst' : PySem.W.isStarred f = false := by rfl) : Wp M A (spliced (backTo pos (starEach [e, f] env))) Q E s := .of (sp2 (h.mono fun _ _ q => q.to).to hst hst')
theorem w_sp3 {e f g : Expr} {Q : List Value → Shared → Prop} (h : Wp M A (eval e env) (fun v s₁ => Wp M A (eval f env) (fun w s₂ => Wp M A (eval g env) (fun x s₃ => Q [v, w, x] s₃) E s₂) E s₁) E s)
    (hst : PySem.W.isStarred e = false := by rfl) (hst' : PySem.W.isStarred f = false := by rfl) (hst'' : PySem.W.isStarred g = false := by rfl) : Wp M A (spliced (backTo pos (starEach [e, f, g] env))) Q E s :=
  .of (sp3 (h.mono fun _ _ q => (q.mono fun _ _ q => q.to).to).to hst hst' hst'')

theorem w_call {id : Str} {p : Pos} {args : List Expr} {Q : Value → Shared → Prop}
    (h : Wp M A (eval (.Name id p) env) (fun f s₁ => Wp M A (callWith pos f [] (backTo pos (starEach args env)) []) Q E s₁) E s) : Wp M A (eval (.Call (.Name id p) args [] pos) env) Q E s :=
  .of (e_call (h.mono fun _ _ q => q.to).to)
theorem w_meth {o : Expr} {name : Str} {apos : Pos} {args : List Expr} {Q : Value → Shared → Prop}
    (h : Wp M A (eval o env) (fun ov s₁ => ∀ pl, Wp M A (getMethod ov name pl) (fun fm s₂ => Wp M A (callWith pos fm.1 fm.2 (backTo pos (starEach args env)) []) Q E s₂) E s₁) E s)
    (hbase : attributeBase o name env (eval o env) = eval o env := by rfl) (hline : (apos.endLine == pos.line) = true := by rfl)
    (hst : nostar args = true := by rfl) (hlen : decide (args.length < 30) = true := by rfl) :
    Wp M A (eval (.Call (.Attribute o name apos) args [] pos) env) Q E s :=
  .of (e_meth (h.mono fun _ _ q pl => ((q pl).mono fun _ _ q => q.to).to).to hbase hline hst hlen)
theorem w_cwb {id : String} {first : List Value} {e : Expr} {rest : List Expr} {Q : Value → Shared → Prop}
    (h : Wp M A (spliced (backTo pos (starEach (e :: rest) env))) (fun vs s₁ => Wp M A (call (.builtin id) (first ++ vs)) Q E s₁) E s)
    (hst : nostar (e :: rest) = true := by rfl) : Wp M A (callWith pos (.builtin id) first (backTo pos (starEach (e :: rest) env)) []) Q E s := .of (cw_builtin (h.mono fun _ _ q => q.to).to hst)
theorem w_cwb0 {id : String} {first : List Value} {Q : Value → Shared → Prop} (h : Wp M A (call (.builtin id) (first ++ [])) Q E s) :
    Wp M A (callWith pos (.builtin id) first (backTo pos (starEach [] env)) []) Q E s := .of (cw_builtin0 h.to)
theorem w_cwd {a : Addr} {first : List Value} {e : Expr} {rest : List Expr} {Q : Value → Shared → Prop} (G : Gnd K p loose s.heap) (hk : keepIn K (.ref a) = true)
    (h : Wp M A (spliced (backTo pos (starEach (e :: rest) env))) (fun vs s₁ => K.In s₁.heap ∧ Wp M A (call (.ref a) (first ++ vs)) Q E s₁) E s) (he : nostar (e :: rest) = true := by rfl) :
    Wp M A (callWith pos (.ref a) first (backTo pos (starEach (e :: rest) env)) []) Q E s := .of (cw_def G hk (h.mono fun _ _ q => ⟨q.1, q.2.to⟩).to he)
theorem w_cwd0 {a : Addr} {first : List Value} {Q : Value → Shared → Prop} (G : Gnd K p loose s.heap) (hk : keepIn K (.ref a) = true) (h : Wp M A (call (.ref a) (first ++ [])) Q E s) :
    Wp M A (callWith pos (.ref a) first (backTo pos (starEach [] env)) []) Q E s := .of (cw_def0 G hk h.to)
theorem w_gmb {v : Value} {name : Str} {T id : String} {pl : Sem Bool} {Q : Value × List Value → Shared → Prop} (pa : PlainAttrs T) (slot : Slot T name id) (hty : typeOf (.builtin id) = pure (.type "method_descriptor"))
    (hT : s.TypeIs v T) (hd : ∀ a, v = .ref a → ∃ ob, s.heap.get? a = some ob ∧ ob.dict = none) (h : Q (.builtin id, [v]) s) : Wp M A (getMethod v name pl) Q E s := .of (gm_builtin pa slot hty hT hd h)

theorem w_true {e : Expr} {whole : Sem Value} {Q : Bool → Shared → Prop} (h : Wp M A whole (fun v s₁ => Wp M A (truthy v) Q E s₁) E s)
    (he : isTrue e env whole = (do let v ← whole; standAt e.pos; holding [v] (truthy v)) := by rfl) : Wp M A (isTrue e env whole) Q E s := .of (wpAny_isTrue_value (h.mono fun _ _ q => q.to).to he)
theorem w_tcmp {l r : Expr} {op : CmpOp} {whole : Sem Value} {Q : Bool → Shared → Prop}
    (h : Wp M A (eval l env) (fun a s₁ => Wp M A (eval r env) (fun b s₂ => Wp M A (compareOp op a b) (fun c s₃ => Wp M A (truthy c) Q E s₃) E s₂) E s₁) E s) (hm : behindInMarks op r = false := by rfl) :
    Wp M A (isTrue (.Compare l [op] [r] pos) env whole) Q E s := .of (wpAny_isTrue_Compare1 (h.mono fun _ _ q => (q.mono fun _ _ q => (q.mono fun _ _ q => q.to).to).to).to hm)
theorem w_tnot {x : Expr} {whole : Sem Value} {Q : Bool → Shared → Prop} (h : Wp M A (isTrue x env (eval x env)) (fun b s₁ => Q (!b) s₁) E s) : Wp M A (isTrue (.UnaryOp .Not x pos) env whole) Q E s := .of (wpAny_isTrue_Not h.to)
theorem w_tor2 {x y : Expr} {whole : Sem Value} {Q : Bool → Shared → Prop} (h : Wp M A (isTrue x env (eval x env)) (fun b s₁ => (b = true → Q true s₁) ∧ (b = false → Wp M A (isTrue y env (eval y env)) Q E s₁)) E s) :
    Wp M A (isTrue (.BoolOp .Or [x, y] pos) env whole) Q E s := by
  refine .of (wpAny_isTrue_BoolOp (wpAny_allTrue_Or_cons (h.mono fun b s₁ q => ?_).to))
  cases b with
  | true => exact q.1 rfl
  | false =>
    refine wpAny_allTrue_Or_cons (((q.2 rfl).mono fun c s₂ q' => ?_).to)
    cases c with
    | true => exact q'
    | false => exact wpAny_allTrue_Or_nil q'
theorem w_tand2 {x y : Expr} {whole : Sem Value} {Q : Bool → Shared → Prop} (h : Wp M A (isTrue x env (eval x env)) (fun b s₁ => (b = false → Q false s₁) ∧ (b = true → Wp M A (isTrue y env (eval y env)) Q E s₁)) E s) :
    Wp M A (isTrue (.BoolOp .And [x, y] pos) env whole) Q E s := by
  refine .of (wpAny_isTrue_BoolOp (wpAny_allTrue_And_cons (h.mono fun b s₁ q => ?_).to))
  cases b with
  | false => exact q.1 rfl
  | true =>
    refine wpAny_allTrue_And_cons (((q.2 rfl).mono fun c s₂ q' => ?_).to)
    cases c with
    | false => exact q'
    | true => exact wpAny_allTrue_And_nil q'
theorem w_truthy {b : Bool} {Q : Bool → Shared → Prop} (h : Q b s) : Wp M A (truthy (.bool b)) Q E s := .of (wpAny_truthy_bool h)

theorem w_nil {Q : Flow → Shared → Prop} (h : Q .next s) : Wp M A (execs [] env) Q E s := .of (wpAny_execs_nil h)
theorem w_ret {e : Expr} {p : Pos} {rest : List Stmt} {Q : Flow → Shared → Prop} (h : Wp M A (eval e env) (fun v s' => Q (.ret v) s') E s) : Wp M A (execs (.Return (some e) p :: rest) env) Q E s := .of (seq_ret h.to)
theorem w_set {x : Str} {p' p : Pos} {e : Expr} {rest : List Stmt} {Q : Flow → Shared → Prop}
    (h : Wp M A (eval e env) (fun v s₁ => Wp M A (storeName env x v) (fun _ s₂ => Wp M A (execs rest env) Q E s₂) E s₁) E s)
    (hs : swapsWith e (some (.Name x p')) p.line env = pure false := by rfl) : Wp M A (execs (.Assign [.Name x p'] e p :: rest) env) Q E s :=
  .of (seq_set (h.mono fun _ _ q => (q.mono fun _ _ q => q.to).to).to hs)
/-- what follows a statement -/
def Then (M : Model) (A : Around) (E : Value → Shared → Prop) (rest : List Stmt) (env : Env) (Q : Flow → Shared → Prop) : Flow → Shared → Prop :=
  fun f s' => match f with | .next => Wp M A (execs rest env) Q E s' | f => Q f s'
theorem w_if {test : Expr} {body orelse rest : List Stmt} {p : Pos} {Q : Flow → Shared → Prop}
    (h : Wp M A (isTrue test env (eval test env)) (fun b s₂ => (b = true → Wp M A (execs body env) (Then M A E rest env Q) E s₂) ∧ (b = false → Wp M A (execs orelse env) (Then M A E rest env Q) E s₂)) E s) :
    Wp M A (execs (.If test body orelse p :: rest) env) Q E s := by
  refine .of (seq_if (h.mono fun b s₁ q => ?_).to)
  have key : ∀ f s', Then M A E rest env Q f s' → (match f with | .next => wpAny M A (execs rest env) Q E s' | f => Q f s') := fun f s' q => by
    cases f <;> first | exact Wp.to q | exact q
  cases b with
  | true => exact ((q.1 rfl).mono key).to
  | false => exact ((q.2 rfl).mono key).to
theorem then_next {rest : List Stmt} {Q : Flow → Shared → Prop} (h : Wp M A (execs rest env) Q E s) : Then M A E rest env Q .next s := h
end

section
variable {M : Model} {A : Around} {E : Value → Shared → Prop} {hp : Heap} {g : Array GenState} {d : Drawn} {tk : Nat} {o : OsState} {env : Env} {pos : Pos}
theorem w_int {i : Int} {k : Nat} {Q : Value → Shared → Prop} (h : ∀ t tk', Q (.int i t) ⟨hp, g, d, tk', o⟩) : Wp M A (eval (.Constant (.int i) k pos) env) Q E ⟨hp, g, d, tk, o⟩ := .of (c_int h)
theorem w_str {x : Str} {k : Nat} {Q : Value → Shared → Prop} (h : ∀ t tk', Q (.str x t) ⟨hp, g, d, tk', o⟩) : Wp M A (eval (.Constant (.str x) k pos) env) Q E ⟨hp, g, d, tk, o⟩ := .of (c_str h)
theorem w_newlist {vs : List Value} {Q : Value → Shared → Prop} (hsz : vs.length ≤ 1000000)
    (h : ∀ l h', hp.StaysIn h' → hp.get? l = none → h'.get? l = some { cls := .type "list", data := .seq vs.toArray } → Q (.ref l) ⟨h', g, d, tk, o⟩) : Wp M A (newList vs) Q E ⟨hp, g, d, tk, o⟩ := .of (mk_list hsz h)
theorem w_newtuple {vs : List Value} {Q : Value → Shared → Prop} (hsz : vs.length ≤ 1000000)
    (h : ∀ l h', hp.StaysIn h' → hp.get? l = none → h'.get? l = some { cls := .type "tuple", data := .seq vs.toArray } → Q (.ref l) ⟨h', g, d, tk, o⟩) : Wp M A (newTuple vs) Q E ⟨hp, g, d, tk, o⟩ := .of (mk_tuple hsz h)
theorem w_stl {B : Heap} {m cm : Str → Option Value} {N : List (Addr × Obj)} {x : Str} {v : Value} {Q : Unit → Shared → Prop} (F : Fm B env m cm N hp)
    (h : ∀ h' tk', Fm B env (fun y => if y = x then some v else m y) cm N h' → (∀ b o, b ≠ env.locals → hp.get? b = some o → h'.get? b = some o) → Q () ⟨h', g, d, tk', o⟩)
    (hk : env.scope.kind = .function := by rfl) (hl : env.kindOf x = some .local := by rfl) : Wp M A (storeName env x v) Q E ⟨hp, g, d, tk, o⟩ := .of (st_local F h hk hl)
theorem w_stc {B : Heap} {m cm : Str → Option Value} {N : List (Addr × Obj)} {x : Str} {c : Addr} {v : Value} {Q : Unit → Shared → Prop} (F : Fm B env m cm N hp)
    (h : ∀ h' tk', Fm B env m (fun y => if y = x then some v else cm y) N h' → (∀ b o, b ≠ c → hp.get? b = some o → h'.get? b = some o) → Q () ⟨h', g, d, tk', o⟩)
    (hk : env.scope.kind = .function := by rfl) (hl : env.kindOf x = some .cell := by rfl) (hc : env.cells.lookup x = some c := by rfl) : Wp M A (storeName env x v) Q E ⟨hp, g, d, tk, o⟩ := .of (st_cell F h hk hl hc)
end

section
variable {prog : Program} {w : World} {A : Around} {E : Value → Shared → Prop} {hp : Heap} {g : Array GenState} {d : Drawn} {tk : Nat} {o : OsState} {env : Env} {pos : Pos} {a b : Int} {t u : Tok} {Q : Value → Shared → Prop}
theorem w_add (h : ∀ t tk', Q (.int (a + b) t) ⟨hp, g, d, tk', o⟩) : Wp (model prog w) A (binaryOp .Add (.int a t) (.int b u)) Q E ⟨hp, g, d, tk, o⟩ := .of (o_add h)
theorem w_subi (h : ∀ t tk', Q (.int (a - b) t) ⟨hp, g, d, tk', o⟩) : Wp (model prog w) A (binaryOp .Sub (.int a t) (.int b u)) Q E ⟨hp, g, d, tk, o⟩ := .of (o_sub h)
theorem w_mul (hm : IntMulOk a b) (h : ∀ t tk', Q (.int (a * b) t) ⟨hp, g, d, tk', o⟩) : Wp (model prog w) A (binaryOp .Mult (.int a t) (.int b u)) Q E ⟨hp, g, d, tk, o⟩ := .of (o_mul hm h)
theorem w_mod (hb : b ≠ 0) (h : ∀ t tk', Q (.int (a.fmod b) t) ⟨hp, g, d, tk', o⟩) : Wp (model prog w) A (binaryOp .Mod (.int a t) (.int b u)) Q E ⟨hp, g, d, tk, o⟩ := .of (o_mod hb h)
theorem w_div (hb : b ≠ 0) (hp' : Builtin.divisionGoesByPylong a b = false) (h : ∀ t tk', Q (.int (a.fdiv b) t) ⟨hp, g, d, tk', o⟩) : Wp (model prog w) A (binaryOp .FloorDiv (.int a t) (.int b u)) Q E ⟨hp, g, d, tk, o⟩ := .of (floordiv_int hb (h _ _) (.inl hp'))
theorem w_neg (h : ∀ t tk', Q (.int (-a) t) ⟨hp, g, d, tk', o⟩) : Wp (model prog w) A (unaryOp .USub (.int a t)) Q E ⟨hp, g, d, tk, o⟩ := .of (o_neg h)
theorem w_and (h : ∀ t tk', Q (.int (Builtin.bitAnd a b) t) ⟨hp, g, d, tk', o⟩) : Wp (model prog w) A (binaryOp .BitAnd (.int a t) (.int b u)) Q E ⟨hp, g, d, tk, o⟩ := .of (and_int (h _ _))
theorem w_cat {x y : Str} (hsz : x.length + y.length ≤ 1000000) (h : ∀ t tk', Q (.str (x ++ y) t) ⟨hp, g, d, tk', o⟩) : Wp (model prog w) A (binaryOp .Add (.str x t) (.str y u)) Q E ⟨hp, g, d, tk, o⟩ := .of (o_cat hsz h)
theorem w_istr {value slice : Expr} {x : Str} {i : Int} {c : Nat} (hr : (decide (i < -(2 ^ 63 : Int)) || decide (i ≥ 2 ^ 63)) = false) (hc : (seqIndex? i x.length).bind (x.cps[·]?) = some c)
    (h : ∀ t tk', Q (.str ⟨#[c]⟩ t) ⟨hp, g, d, tk', o⟩)
    (hs : subscripted slice false (.str x t) (.int i u) = operate [.str x t, .int i u] (getItem (.str x t) (.int i u)) := by with_unfolding_all rfl) :
    Wp (model prog w) A (subscriptTail value slice (.str x t) (.int i u)) Q E ⟨hp, g, d, tk, o⟩ := .of (i_str hr hc h hs)
theorem w_ilist {value slice : Expr} {l : Addr} {items : Array Value} {i : Int} {v : Value} {s : Shared} (hl : s.heap.IsList l items) (h0 : 0 ≤ i) (hh : i < 2 ^ 63) (hx : items[i.toNat]? = some v) (h : Q v s)
    (hs : subscripted slice false (.ref l) (.int i u) = operate [.ref l, .int i u] (getItem (.ref l) (.int i u)) := by with_unfolding_all rfl) :
    Wp (model prog w) A (subscriptTail value slice (.ref l) (.int i u)) Q E s := .of (t_list hl h0 hh hx h hs)
theorem w_lt {s : Shared} (h : Q (.bool (decide (a < b))) s) : Wp (model prog w) A (compareOp .Lt (.int a t) (.int b u)) Q E s := .of (lt_int h)
theorem w_ge {s : Shared} (h : Q (.bool (decide (b ≤ a))) s) : Wp (model prog w) A (compareOp .GtE (.int a t) (.int b u)) Q E s := .of (ge_int h)
theorem w_eqi {s : Shared} (h : Q (.bool (a == b)) s) : Wp (model prog w) A (compareOp .Eq (.int a t) (.int b u)) Q E s := .of (eq_int h)
theorem w_nei {s : Shared} (h : Q (.bool (a != b)) s) : Wp (model prog w) A (compareOp .NotEq (.int a t) (.int b u)) Q E s := .of (ne_int h)
theorem w_eqs {s : Shared} {x y : Str} (h : Q (.bool (x == y)) s) : Wp (model prog w) A (compareOp .Eq (.str x t) (.str y u)) Q E s := .of (eq_str h)
theorem w_resub {pat : Addr} {repl x : Str} {code : Array Nat} {F : Nat → List Nat} (hF : Finds code x.cps repl.cps.toList F) (hx : x.cps.size ≤ 1000000) (hr : repl.cps.size ≤ 4)
    (hb : repl.cps.contains 92 = false) (P : IsPat hp pat code)
    (h : ∀ h' t' tk', hp.StaysIn h' → Q (.str (Str.mk (F 0).toArray) t') ⟨h', g, d, tk', o⟩) :
    Wp (model prog w) A (call (.builtin "re.Pattern.sub") [.ref pat, .str repl t, .str x u]) Q E ⟨hp, g, d, tk, o⟩ := .of (sub_call hF hx hr hb P h)
theorem w_research0 {pat : Addr} {x : Str} {code : Array Nat} (P : IsPat hp pat code) (hx : x.cps.size ≤ 1000000)
    (x' : ∃ n st hd, n < 2 ^ 60 ∧ Ends (Sre.forSearch code x.cps 0 0 x.cps.size false) n .failed st hd) (h : Q .none ⟨hp, g, d, tk, o⟩) : Wp (model prog w) A (call (.builtin "re.Pattern.search") [.ref pat, .str x u]) Q E ⟨hp, g, d, tk, o⟩ := .of (search_none' P hx x' h)
theorem w_research1 {pat : Addr} {x : Str} {code : Array Nat} {n st hd : Nat} (P : IsPat hp pat code) (hx : x.cps.size ≤ 1000000)
    (x' : Ends (Sre.forSearch code x.cps 0 0 x.cps.size false) n .matched st hd) (hn : n < 2 ^ 60)
    (h : ∀ a h', hp.StaysIn h' → isMatch h' a → Q (.ref a) ⟨h', g, d, tk, o⟩) : Wp (model prog w) A (call (.builtin "re.Pattern.search") [.ref pat, .str x u]) Q E ⟨hp, g, d, tk, o⟩ := .of (search_some P hx x' hn h)
end

section
variable {prog : Program} {w : World} {A : Around} {K : Frag} {p : Program} {loose : List Str} {hp : Heap} {g : Array GenState} {d : Drawn} {tk : Nat} {o : OsState}
theorem w_enter {R : Result → Shared → Prop} {name qual : Str} {params : Arguments} {body : List Stmt} {scope : Scope} {dV kV doc pm cdv ct oc : Value} {an od : Option Addr} {osl : Array (Option Value)} {f : Addr} {vals : List Value} {binds : List (Str × Value)} {n : Nat}
    (G : Gnd K p loose hp) (r : Room (n + 1) A)
    (ho : K.lookup f = some ⟨oc, od, .func (fnOf name qual params body scope dV kV doc pm an cdv ct), osl⟩) (hcd : codeIn K cdv qual = true)
    (hbind : bindArgs (fnOf name qual params body scope dV kV doc pm an cdv ct) ⟨vals, []⟩ = pure binds)
    (hkind : (binds.all fun y => scope.names.lookup y.1 == some .local || scope.names.lookup y.1 == some .cell) = true)
    (hnd : ((cellsFrom 0 scope.names []).map (·.1)).Nodup)
    (h : ∀ L h₁ tk, hp.StaysIn h₁ → hp.get? L = none → Fm hp (envOfC qual scope L f cdv) (bindL (envOfC qual scope L f cdv).kindOf binds fun _ => none) (bindC (envOfC qual scope L f cdv).kindOf binds fun _ => none) [] h₁ →
      Room n (A.deeper (envOfC qual scope L f cdv)) → ∀ E,
      Wp (model prog w) (A.deeper (envOfC qual scope L f cdv)) (execs body (envOfC qual scope L f cdv)) (fun fl s' => R (.ok (.ret (match fl with | .ret v => v | _ => .none))) s') E
        ⟨h₁, g, d, tk, o⟩)
    (hco : scope.isCoroutine = false) (hgen : scope.isGenerator = false) (hk : scope.kind = .function) :
    codeAny (model prog w) A (.call (.ref f) ⟨vals, []⟩) R ⟨hp, g, d, tk, o⟩ :=
  enter' G r ho hcd hbind hkind hnd (fun L h₁ tk st hL F r' E => (h L h₁ tk st hL F r' E).to) hco hgen hk
theorem w_fn {E : Value → Shared → Prop} {a : Addr} {vs : List Value} {Q : Value → Shared → Prop} {s : Shared} (h : codeAny (model prog w) A (.call (.ref a) ⟨vs, []⟩) (fun r s' => match r with | .ok (.ret v) => Q v s' | .ok _ => False | .error e => E e s') s) :
    Wp (model prog w) A (call (.ref a) vs) Q E s := .of (wpAny_call h)
end
end Mine
end
section
-- part F1
open PySem PySem.W PyProof.Rows PySem.Calls
set_option Elab.async false
set_option maxRecDepth 100000
set_option maxHeartbeats 4000000
set_option linter.unusedVariables false
namespace Mine

/-- all but one object stays -/
def But (a : Addr) (h h' : Heap) : Prop := ∀ b o, b ≠ a → h.get? b = some o → h'.get? b = some o
theorem But.of {a : Addr} {h h' : Heap} (x : Heap.SameBut a h h') : But a h h' := fun b o hb e => (x.2 b hb).trans e
theorem But.stay {a : Addr} {h h' : Heap} (x : h.StaysIn h') : But a h h' := fun b o _ e => x b o e
theorem But.trans {a : Addr} {h h' h'' : Heap} (x : But a h h') (y : But a h' h'') : But a h h'' := fun b o hb e => y b o hb (x b o hb e)

/-- the frame of a comprehension: own cells apart from those of the text around -/
structure Fx (B : Heap) (env : Env) (own : List (Str × Addr)) (m cm : Str → Option Value) (N : List (Addr × Obj)) (h : Heap) : Prop where
  rd : Rd env m cm h
  keep : B.StaysIn h
  off : B.get? env.locals = none
  look : ∀ x ∈ own, env.cells.lookup x.1 = some x.2
  coff : ∀ x ∈ own, B.get? x.2 = none ∧ x.2 ≠ env.locals
  apart : own.Pairwise fun x y => x.2 ≠ y.2
  clos : ∀ n c, env.cells.lookup n = some c → (n, c) ∈ own ∨ ∃ o, B.get? c = some o
  news : ∀ p ∈ N, h.get? p.1 = some p.2 ∧ B.get? p.1 = none ∧ p.1 ≠ env.locals ∧ ∀ x ∈ own, p.1 ≠ x.2
  napart : N.Pairwise fun x y => x.1 ≠ y.1

variable {B h h' : Heap} {env : Env} {own : List (Str × Addr)} {m cm : Str → Option Value} {N : List (Addr × Obj)}

theorem Rd.at' {h h' : Heap} (R : Rd env m cm h) (e0 : ∀ o, h.get? env.locals = some o → h'.get? env.locals = some o) (ec : ∀ n c, env.cells.lookup n = some c → ∀ o, h.get? c = some o → h'.get? c = some o) : Rd env m cm h' :=
  ⟨R.ns.at' e0, fun n c e => let ⟨o, ho, r⟩ := R.cell n c e; ⟨o, ec n c e o ho, r⟩⟩

theorem Fm.fx (F : Fm B env m cm N h) : Fx B env env.cells m cm N h :=
  ⟨F.rd, F.keep, F.off, F.look, F.coff, F.apart, fun _ _ e => .inl (mem_of_lookup e), F.news, F.napart⟩
theorem Fx.fm (F : Fx B env env.cells m cm N h) : Fm B env m cm N h :=
  ⟨F.rd, F.keep, F.off, F.look, F.coff, F.apart, F.news, F.napart⟩

theorem Fx.keeps (F : Fx B env own m cm N h) (k : h.StaysIn h') : Fx B env own m cm N h' :=
  ⟨F.rd.keeps k, Stay.trans F.keep k, F.off, F.look, F.coff, F.apart, F.clos, fun p hp => ⟨k _ _ (F.news p hp).1, (F.news p hp).2⟩, F.napart⟩

theorem Fx.push (F : Fx B env own m cm N h) (k : h.StaysIn h') {a : Addr} {o : Obj} (hn : h.get? a = none) (ho : h'.get? a = some o) : Fx B env own m cm ((a, o) :: N) h' := by
  have F' := F.keeps k
  refine ⟨F'.rd, F'.keep, F'.off, F'.look, F'.coff, F'.apart, F'.clos, fun p hp => ?_, ?_⟩
  · rcases List.mem_cons.mp hp with rfl | hp
    · refine ⟨ho, ?_, ?_, ?_⟩
      · cases e : B.get? a with
        | none => rfl
        | some o' => have := F.keep _ _ e; rw [hn] at this; cases this
      · intro e
        obtain ⟨o', e'⟩ := Ns.some F.rd.ns
        rw [← e] at e'; rw [hn] at e'; cases e'
      · intro x hx e
        obtain ⟨o', e', _⟩ := F.rd.cell _ _ (F.look x hx)
        rw [← e] at e'; rw [hn] at e'; cases e'
    · exact F'.news p hp
  · refine List.pairwise_cons.mpr ⟨fun y hy e => ?_, F.napart⟩
    have := (F.news y hy).1
    have e' : a = y.1 := e
    rw [← e', hn] at this; cases this

theorem Fx.turn {pre post : List (Addr × Obj)} {a : Addr} {o o' : Obj} (F : Fx B env own m cm (pre ++ (a, o) :: post) h) (hs : But a h h') (ho : h'.get? a = some o') :
    Fx B env own m cm (pre ++ (a, o') :: post) h' := by
  have q := F.news (a, o) (List.mem_append_right _ (.head _))
  have ap := List.pairwise_append.mp F.napart
  have ap2 := List.pairwise_cons.mp ap.2.1
  have ne : ∀ p, p ∈ pre ∨ p ∈ post → p.1 ≠ a := fun p hp => hp.elim (fun hp => ap.2.2 p hp (a, o) (.head _)) fun hp e => ap2.1 p hp e.symm
  refine ⟨F.rd.at' (fun o e => hs _ o (Ne.symm q.2.2.1) e) (fun n c e o eo => hs c o (fun e' => ?_) eo), fun b ob e => hs b ob (fun e' => ?_) (F.keep b ob e), F.off, F.look, F.coff, F.apart, F.clos, fun p hp => ?_, ?_⟩
  · rcases F.clos n c e with hm | ⟨oc, hc⟩
    · exact q.2.2.2 _ hm e'.symm
    · rw [e'] at hc; have := q.2.1; rw [hc] at this; cases this
  · rw [e'] at e; rw [q.2.1] at e; cases e
  · rcases List.mem_append.mp hp with hp | hp
    · exact ⟨hs _ _ (ne p (.inl hp)) (F.news p (List.mem_append_left _ hp)).1, (F.news p (List.mem_append_left _ hp)).2⟩
    · rcases List.mem_cons.mp hp with rfl | hp
      · exact ⟨ho, q.2⟩
      · exact ⟨hs _ _ (ne p (.inr hp)) (F.news p (List.mem_append_right _ (.tail _ hp))).1, (F.news p (List.mem_append_right _ (.tail _ hp))).2⟩
  · refine List.pairwise_append.mpr ⟨ap.1, List.pairwise_cons.mpr ⟨fun y hy => ap2.1 y hy, ap2.2⟩, fun x hx y hy => ?_⟩
    rcases List.mem_cons.mp hy with rfl | hy
    · exact ap.2.2 x hx (a, o) (.head _)
    · exact ap.2.2 x hx y (.tail _ hy)
theorem Fm.turnB {pre post : List (Addr × Obj)} {a : Addr} {o o' : Obj} (F : Fm B env m cm (pre ++ (a, o) :: post) h) (hs : But a h h') (ho : h'.get? a = some o') :
    Fm B env m cm (pre ++ (a, o') :: post) h' := (F.fx.turn hs ho).fm
theorem Fm.turn0 {post : List (Addr × Obj)} {a : Addr} {o o' : Obj} (F : Fm B env m cm ((a, o) :: post) h) (hs : But a h h') (ho : h'.get? a = some o') :
    Fm B env m cm ((a, o') :: post) h' := Fm.turnB (pre := []) F hs ho
theorem Fm.turn1 {post : List (Addr × Obj)} {p : Addr × Obj} {a : Addr} {o o' : Obj} (F : Fm B env m cm (p :: (a, o) :: post) h) (hs : But a h h') (ho : h'.get? a = some o') :
    Fm B env m cm (p :: (a, o') :: post) h' := Fm.turnB (pre := [p]) F hs ho
theorem Fx.drop {N' : List (Addr × Obj)} (F : Fx B env own m cm N h) (hs : N'.Sublist N) : Fx B env own m cm N' h :=
  ⟨F.rd, F.keep, F.off, F.look, F.coff, F.apart, F.clos, fun p hp => F.news p (hs.subset hp), F.napart.sublist hs⟩
theorem Fm.drop {N' : List (Addr × Obj)} (F : Fm B env m cm N h) (hs : N'.Sublist N) : Fm B env m cm N' h := (F.fx.drop hs).fm

theorem Fx.set {x : Str} {v : Value} (F : Fx B env own m cm N h) (hn : h'.Ns env.locals (fun y => if y = x then some v else m y)) (hs : Heap.SameBut env.locals h h') :
    Fx B env own (fun y => if y = x then some v else m y) cm N h' := by
  refine ⟨⟨hn, fun n c e => (F.rd.cell n c e).sameBut hs ?_⟩, fun b o e => (hs.2 b fun e' => ?_).trans (F.keep b o e), F.off, F.look, F.coff, F.apart, F.clos, fun p hp => ⟨(hs.2 _ (F.news p hp).2.2.1).trans (F.news p hp).1, (F.news p hp).2⟩, F.napart⟩
  · rcases F.clos n c e with hm | ⟨oc, hc⟩
    · exact (F.coff _ hm).2
    · rintro rfl; rw [F.off] at hc; cases hc
  · rw [e', F.off] at e; cases e
theorem Fx.setCell {x : Str} {c : Addr} {v : Value} (F : Fx B env own m cm N h) (hm : (x, c) ∈ own) (hv : h'.IsCell c (some v)) (hs : Heap.SameBut c h h') :
    Fx B env own m (fun y => if y = x then some v else cm y) N h' := by
  have hc := F.look _ hm
  have q := F.coff _ hm
  refine ⟨⟨F.rd.ns.sameBut hs (Ne.symm q.2), fun n c' e => ?_⟩, fun b o e => (hs.2 b fun e' => ?_).trans (F.keep b o e), F.off, F.look, F.coff, F.apart, F.clos, fun p hp => ⟨(hs.2 _ ((F.news p hp).2.2.2 _ hm)).trans (F.news p hp).1, (F.news p hp).2⟩, F.napart⟩
  · by_cases hnx : n = x
    · subst hnx
      rw [hc] at e; cases e
      simpa using hv
    · rw [if_neg hnx]
      refine (F.rd.cell n c' e).sameBut hs fun e' => ?_
      rcases F.clos n c' e with hm' | ⟨oc, hc'⟩
      · exact hnx (name_of_addr F.apart hm' (e' ▸ hm))
      · rw [e'] at hc'; rw [q.1] at hc'; cases hc'
  · rw [e'] at e; rw [q.1] at e; cases e

def asideX (h : Heap) (env : Env) (own : List (Str × Addr)) (N : List (Addr × Obj)) : Heap := hideAll h (env.locals :: (own.map (·.2) ++ N.map (·.1)))
theorem asideX_get {b : Addr} {o : Obj} (e : h.get? b = some o) (h1 : b ≠ env.locals) (h2 : ∀ x ∈ own, b ≠ x.2) (h3 : ∀ p ∈ N, b ≠ p.1) : (asideX h env own N).get? b = some o := by
  refine hideAll_get _ e fun hm => ?_
  rcases List.mem_cons.mp hm with q | hm
  · exact h1 q
  rcases List.mem_append.mp hm with hm | hm
  · obtain ⟨x, hx, q⟩ := List.mem_map.mp hm
    exact h2 x hx q.symm
  · obtain ⟨x, hx, q⟩ := List.mem_map.mp hm
    exact h3 x hx q.symm
theorem Fx.rebase (F : Fx B env own m cm N h) : Fx (asideX h env own N) env own m cm N h ∧ B.StaysIn (asideX h env own N) := by
  have st : B.StaysIn (asideX h env own N) := fun b o e => by
    refine asideX_get (F.keep _ _ e) ?_ ?_ ?_
    · rintro rfl; rw [F.off] at e; cases e
    · rintro x hx rfl; rw [(F.coff x hx).1] at e; cases e
    · rintro p hp rfl; rw [(F.news p hp).2.1] at e; cases e
  refine ⟨⟨F.rd, fun b o e => of_hideAll _ e, hideAll_none _ (.head _), F.look, fun x hx => ⟨hideAll_none _ (.tail _ (List.mem_append_left _ (List.mem_map_of_mem hx))), (F.coff x hx).2⟩, F.apart, fun n c e => ?_, fun p hp => ?_, F.napart⟩, st⟩
  · rcases F.clos n c e with hm | ⟨o, hc⟩
    · exact .inl hm
    · exact .inr ⟨o, st _ _ hc⟩
  · exact ⟨(F.news p hp).1, hideAll_none _ (.tail _ (List.mem_append_right _ (List.mem_map_of_mem hp))), (F.news p hp).2.2⟩
theorem Fx.rebase_new (F : Fx B env own m cm N h) (k : h.StaysIn h') :
    Fx (asideX h' env own N) env own m cm N h' ∧ B.StaysIn (asideX h' env own N) ∧ ∀ b o, h.get? b = none → h'.get? b = some o → (asideX h' env own N).get? b = some o := by
  obtain ⟨F', kb⟩ := (F.keeps k).rebase
  refine ⟨F', kb, fun b o hn e => asideX_get e ?_ ?_ ?_⟩
  · rintro rfl
    obtain ⟨o', e'⟩ := Ns.some F.rd.ns
    rw [hn] at e'; cases e'
  · rintro x hx rfl
    obtain ⟨o', e', _⟩ := F.rd.cell _ _ (F.look x hx)
    rw [hn] at e'; cases e'
  · rintro p hp rfl
    have := (F.news p hp).1
    rw [hn] at this; cases this

/-- the source of a walk: I walks along xs -/
structure Src {α : Type} (prog : Program) (w : World) (A : Around) (B : Heap) (I : Addr) (xs : List α) (PA : α → Value → Prop) (St : Nat → Obj → Prop) : Prop where
  item : ∀ i a (s : Shared) (o : Obj) (Q : Option Value → Shared → Prop) (E : Value → Shared → Prop), xs[i]? = some a → B.StaysIn s.heap → s.heap.get? I = some o → St i o →
    (∀ v h' tk o', PA a v → St (i + 1) o' → h'.get? I = some o' → But I s.heap h' → Q (some v) { s with heap := h', toks := tk }) → wpAny (model prog w) A (pyNext (.ref I)) Q E s
  done : ∀ (s : Shared) (o : Obj) (Q : Option Value → Shared → Prop) (E : Value → Shared → Prop), B.StaysIn s.heap → s.heap.get? I = some o → St xs.length o →
    (∀ h' tk, But I s.heap h' → Q none { s with heap := h', toks := tk }) → wpAny (model prog w) A (pyNext (.ref I)) Q E s
  self : ∀ i (s : Shared) (o : Obj) (Q : Value → Shared → Prop) (E : Value → Shared → Prop), B.StaysIn s.heap → s.heap.get? I = some o → St i o → Q (.ref I) s → wpAny (model prog w) A (pyIter (.ref I)) Q E s

/-- a value that feeds a walk, from B on -/
def Feed {α : Type} (prog : Program) (w : World) (B : Heap) (xv : Value) (xs : List α) (PA : α → Value → Prop) : Prop :=
  ∀ (s : Shared) (A : Around) (E : Value → Shared → Prop) (Q : Value → Shared → Prop), B.StaysIn s.heap →
    (∀ I o h' St, (∀ A' : Around, A'.handled = none → Src prog w A' B I xs PA St) → s.heap.StaysIn h' → s.heap.get? I = none → h'.get? I = some o → St 0 o → Q (.ref I) { s with heap := h' }) →
    wpAny (model prog w) A (pyIter xv) Q E s

theorem Src.of {α : Type} {prog : Program} {w : World} {A : Around} {B : Heap} {I : Addr} {fp : List Addr} {n : Nat} {P : Nat → Value → Prop} {St : Nat → Heap → Prop} (W : Walks prog w A I fp [I] n P St)
    (hfp : ∀ b ∈ fp, b = I ∨ ∃ o, B.get? b = some o) (hst : ∀ i h, St i h → ∃ o, h.get? I = some o) {xs : List α} {PA : α → Value → Prop} (hn : xs.length = n) (hP : ∀ i a v, xs[i]? = some a → P i v → PA a v) :
    Src prog w A B I xs PA (fun i o => ∀ h, B.StaysIn h → h.get? I = some o → St i h) := by
  refine ⟨fun i a s o Q E ha hb ho hs hQ => ?_, fun s o Q E hb ho hs hQ => ?_, fun i s o Q E hb ho hs hQ => W.self i s Q E (hs _ hb ho) hQ⟩
  · have hi : i < n := by rw [← hn]; exact (List.getElem?_eq_some_iff.mp ha).1
    refine W.item i s Q E hi (hs _ hb ho) fun v h' tk hv st hk => ?_
    obtain ⟨o', ho'⟩ := hst _ _ st
    refine hQ v h' tk o' (hP i a v ha hv) (fun h₂ hb₂ e₂ => ?_) ho' (fun b ob hne e => hk b ob (fun hm => hne (List.mem_singleton.mp hm)) e)
    refine W.frame _ _ _ st fun b hbm ob e => ?_
    rcases hfp b hbm with rfl | ⟨o₃, e₃⟩
    · rw [ho'] at e; cases e; exact e₂
    · by_cases hbI : b = I
      · subst hbI; rw [ho'] at e; cases e; exact e₂
      · have e₄ := hk b o₃ (fun hm => hbI (List.mem_singleton.mp hm)) (hb _ _ e₃)
        rw [e₄] at e; cases e
        exact hb₂ _ _ e₃
  · refine W.done s Q E (hn ▸ hs _ hb ho) fun h' tk hk => ?_
    exact hQ h' tk (fun b ob hne e => hk b ob (fun hm => hne (List.mem_singleton.mp hm)) e)

theorem Fx.gone {pre post : List (Addr × Obj)} {a : Addr} {o : Obj} (F : Fx B env own m cm (pre ++ (a, o) :: post) h) (hs : But a h h') :
    Fx B env own m cm (pre ++ post) h' := by
  have q := F.news (a, o) (List.mem_append_right _ (.head _))
  have ap := List.pairwise_append.mp F.napart
  have ap2 := List.pairwise_cons.mp ap.2.1
  have ne : ∀ p, p ∈ pre ∨ p ∈ post → p.1 ≠ a := fun p hp => hp.elim (fun hp => ap.2.2 p hp (a, o) (.head _)) fun hp e => ap2.1 p hp e.symm
  have sub : (pre ++ post).Sublist (pre ++ (a, o) :: post) := List.Sublist.append_left (List.sublist_cons_self _ _) _
  refine ⟨F.rd.at' (fun o e => hs _ o (Ne.symm q.2.2.1) e) (fun n c e o eo => hs c o (fun e' => ?_) eo), fun b ob e => hs b ob (fun e' => ?_) (F.keep b ob e), F.off, F.look, F.coff, F.apart, F.clos, fun p hp => ?_, F.napart.sublist sub⟩
  · rcases F.clos n c e with hm | ⟨oc, hc⟩
    · exact q.2.2.2 _ hm e'.symm
    · rw [e'] at hc; have := q.2.1; rw [hc] at this; cases this
  · rw [e'] at e; rw [q.2.1] at e; cases e
  · have hm := List.mem_append.mp hp
    exact ⟨hs _ _ (ne p hm) (F.news p (sub.subset hp)).1, (F.news p (sub.subset hp)).2⟩
theorem Fm.gone0 {post : List (Addr × Obj)} {a : Addr} {o : Obj} (F : Fm B env m cm ((a, o) :: post) h) (hs : But a h h') : Fm B env m cm post h' := (Fx.gone (pre := []) F.fx hs).fm

theorem paired_get {α β : Type} {F : α → β → Prop} : ∀ {l₁ : List α} {l₂ : List β}, Paired F l₁ l₂ → ∀ {i : Nat} {a : α} {b : β}, l₁[i]? = some a → l₂[i]? = some b → F a b
  | _, _, .nil, _, _, _, h, _ => by simp at h
  | _, _, .cons x t, 0, _, _, h1, h2 => by simp at h1 h2; subst h1; subst h2; exact x
  | _, _, .cons x t, i + 1, _, _, h1, h2 => paired_get t (i := i) (by simpa using h1) (by simpa using h2)
theorem paired_mono {α β : Type} {F G : α → β → Prop} (hi : ∀ a b, F a b → G a b) : ∀ {l₁ : List α} {l₂ : List β}, Paired F l₁ l₂ → Paired G l₁ l₂
  | _, _, .nil => .nil
  | _, _, .cons x t => .cons (hi _ _ x) (paired_mono hi t)

section
variable {prog : Program} {w : World}
theorem feed_list {α : Type} {B : Heap} {l : Addr} {items : Array Value} {xs : List α} {PA : α → Value → Prop} (hl : B.IsList l items) (hp : Paired PA xs items.toList) : Feed prog w B (.ref l) xs PA := by
  intro s A E Q hb hQ
  have hl' : s.heap.IsList l items := hl.at fun o e => hb _ _ e
  refine wpAny_pyIter_list hl' (hQ _ _ _ (fun i o => ∀ h, B.StaysIn h → h.get? s.heap.objs.size = some o → (h.IsListIter s.heap.objs.size l i ∧ h.IsList l items)) (fun A' hA => ?_) (stay_push _ _) (free_size _) (Heap.get?_push_size _ rfl) ?_)
  · have hne : l ≠ s.heap.objs.size := by
      obtain ⟨o, e, _⟩ := hl'
      rintro rfl; rw [free_size] at e; cases e
    refine Src.of (Walks.list hA _ l hne items) (fun b hb => ?_) (fun i h x => let ⟨⟨o, e, _⟩, _⟩ := x; ⟨o, e⟩) (by rw [hp.length]; simp) fun i a v ha hv => paired_get hp ha (by simpa using hv)
    · rcases List.mem_cons.mp hb with rfl | hb
      · exact .inl rfl
      · rw [List.mem_singleton.mp hb]; obtain ⟨o, e, _⟩ := hl; exact .inr ⟨o, e⟩
  · exact fun h hbh e => ⟨⟨_, e, rfl, rfl⟩, hl.at fun o e => hbh _ _ e⟩
theorem feed_range {B : Heap} {r : Addr} {n : Nat} {t u v : Tok} (hr : IsRange B r 0 n 1 t u v) (hn : n ≤ 1000000) : Feed prog w B (.ref r) (List.range n) (fun i v => ∃ t, v = .int i t) := by
  intro s A E Q hb hQ
  have hr' : IsRange s.heap r 0 n 1 t u v := hb _ _ hr
  have hsz : Builtin.Range.rangeSize 0 n 1 = n := by
    unfold Builtin.Range.rangeSize; simp; omega
  have hsm : Builtin.Range.small 0 n 1 = true := by
    unfold Builtin.Range.small; rw [hsz]; unfold Builtin.Range.rangeFitsLong; simp; omega
  refine wpAny_pyIter_range hr' hsm (hQ _ _ _ (fun i o => ∀ h, B.StaysIn h → h.get? s.heap.objs.size = some o → (IsRangeIter h s.heap.objs.size (0 + (i : Nat) * 1) ((n : Int) - (i : Nat)) 1)) (fun A' hA => ?_) (stay_push _ _) (free_size _) (Heap.get?_push_size _ rfl) ?_)
  · refine Src.of (Walks.range hA _ 0 1 n) (fun b hb => .inl (List.mem_singleton.mp hb)) (fun i h x => ⟨_, x⟩) (by simp) fun i a v ha hv => ?_
    have : a = i := by rw [List.getElem?_range (by have := (List.getElem?_eq_some_iff.mp ha).1; simpa using this)] at ha; cases ha; rfl
    subst this
    obtain ⟨t, e⟩ := hv
    exact ⟨t, by rw [e, Int.mul_one, Int.zero_add]⟩
  · intro h hbh e
    show h.get? _ = _
    rw [e, hsz]
    simp only [Int.mul_one, Int.zero_add, Int.natCast_zero, Int.sub_zero]
theorem feed_str {B : Heap} {x : Str} {t : Tok} : Feed prog w B (.str x t) x.cps.toList (fun c v => ∃ t, v = .str ⟨#[c]⟩ t) := by
  intro s A E Q hb hQ
  refine wpAny_pyIter_strU (hQ _ _ _ (fun i o => ∀ h, B.StaysIn h → h.get? s.heap.objs.size = some o → (h.IsStrIter s.heap.objs.size (strIterType x) x t i)) (fun A' hA => ?_) (stay_push _ _) (free_size _) (Heap.get?_push_size _ rfl) ?_)
  · have key : ∀ i a v, x.cps.toList[i]? = some a → SignAt x i v → ∃ t, v = .str ⟨#[a]⟩ t := fun i a v ha ⟨c, u, hc, e⟩ => ⟨u, by
      rw [e]; congr 2; rw [Array.getElem?_toList] at ha; rw [ha] at hc; cases hc; rfl⟩
    unfold strIterType
    split
    · exact Src.of (Walks.strAscii hA _ x t) (fun b hb => .inl (List.mem_singleton.mp hb)) (fun i h x => let ⟨o, e, _⟩ := x; ⟨o, e⟩) (by simp) key
    · exact Src.of (Walks.strWide hA _ x t) (fun b hb => .inl (List.mem_singleton.mp hb)) (fun i h x => let ⟨o, e, _⟩ := x; ⟨o, e⟩) (by simp) key
  · exact fun h hbh e => ⟨_, e, rfl, rfl⟩
end
end Mine
end
section
-- part F2
open PySem PySem.W PyProof.Rows PySem.Calls
set_option Elab.async false
set_option maxRecDepth 100000
set_option maxHeartbeats 4000000
set_option linter.unusedVariables false
namespace Mine

theorem set_ne {x y : Str} {v r ob : Option Value} (h : ob = r) (hne : (y == x) = false := by rfl) : (if y = x then v else ob) = r := by
  rw [if_neg (by intro e; rw [e] at hne; simp at hne)]; exact h
theorem set_eq {x : Str} {v ob : Option Value} : (if x = x then v else ob) = v := if_pos rfl

section
variable {prog : Program} {w : World} {A : Around} {E : Value → Shared → Prop} {hp : Heap} {g : Array GenState} {d : Drawn} {tk : Nat} {o : OsState} {env : Env} {pos : Pos}

/-- a turn of a loop is done -/
inductive TurnOk (g : Array GenState) (d : Drawn) (o : OsState) (env : Env) (B : Heap) (p : Addr × Obj) (J : Heap → (Str → Option Value) → (Str → Option Value) → List (Addr × Obj) → Prop) (f : Flow) (s : Shared) : Prop
  | mk (hf : f = .next ∨ f = .cont) (B' : Heap) (m' cm' : Str → Option Value) (N' : List (Addr × Obj)) (h' : Heap) (tk' : Nat) (e : s = ⟨h', g, d, tk', o⟩) (kB : B.StaysIn B') (F : Fm B' env m' cm' (p :: N') h') (j : J B' m' cm' N')
inductive ForGo {α : Type} (prog : Program) (w : World) (A : Around) (E : Value → Shared → Prop) (g : Array GenState) (d : Drawn) (o : OsState) (env : Env) (x : Str) (body rest : List Stmt) (Q : Flow → Shared → Prop) (xs : List α) (PA : α → Value → Prop)
    (J : Nat → Heap → (Str → Option Value) → (Str → Option Value) → List (Addr × Obj) → Prop) (xv : Value) (s₁ : Shared) : Prop
  | mk (h₁ : Heap) (tk₁ : Nat) (B₁ : Heap) (m cm : Str → Option Value) (N : List (Addr × Obj)) (e : s₁ = ⟨h₁, g, d, tk₁, o⟩) (feed : Feed prog w B₁ xv xs PA) (F : Fm B₁ env m cm N h₁) (j0 : J 0 B₁ m cm N)
    (turn : ∀ i a v B m cm N I oI h tk (Q' : Flow → Shared → Prop) E', xs[i]? = some a → PA a v → B₁.StaysIn B → Fm B env (fun y => if y = x then some v else m y) cm ((I, oI) :: N) h → J i B m cm N → (∀ f s, TurnOk g d o env B (I, oI) (J (i + 1)) f s → Q' f s) →
        Wp (model prog w) A (execs body env) Q' E' ⟨h, g, d, tk, o⟩)
    (fin : ∀ B m cm N h tk, B₁.StaysIn B → Fm B env m cm N h → J xs.length B m cm N → Wp (model prog w) A (execs rest env) Q E ⟨h, g, d, tk, o⟩)
inductive TurnW (g : Array GenState) (d : Drawn) (o : OsState) (env : Env) (n : Nat) (B : Heap) (J : Nat → Heap → (Str → Option Value) → (Str → Option Value) → List (Addr × Obj) → Prop) (f : Flow) (s : Shared) : Prop
  | mk (hf : f = .next ∨ f = .cont) (B' : Heap) (m' cm' : Str → Option Value) (N' : List (Addr × Obj)) (h' : Heap) (tk' : Nat) (n' : Nat) (hn : n' < n) (e : s = ⟨h', g, d, tk', o⟩) (kB : B.StaysIn B') (F : Fm B' env m' cm' N' h') (j : J n' B' m' cm' N')
inductive EndW (g : Array GenState) (d : Drawn) (o : OsState) (env : Env) (B : Heap) (J : Heap → (Str → Option Value) → (Str → Option Value) → List (Addr × Obj) → Prop) (s : Shared) : Prop
  | mk (B' : Heap) (m' cm' : Str → Option Value) (N' : List (Addr × Obj)) (h' : Heap) (tk' : Nat) (e : s = ⟨h', g, d, tk', o⟩) (kB : B.StaysIn B') (F : Fm B' env m' cm' N' h') (j : J B' m' cm' N')

/-- a for loop over what feeds xs -/
theorem w_for {α : Type} {x : Str} {px p : Pos} {iter : Expr} {body rest : List Stmt} {Q : Flow → Shared → Prop} (xs : List α) (PA : α → Value → Prop)
    (J : Nat → Heap → (Str → Option Value) → (Str → Option Value) → List (Addr × Obj) → Prop) (hh : A.handled = none)
    (h : Wp (model prog w) A (eval iter env) (ForGo prog w A E g d o env x body rest Q xs PA J) E ⟨hp, g, d, tk, o⟩)
    (hk : env.scope.kind = .function := by rfl) (hl : env.kindOf x = some .local := by rfl)
    (hs : ∀ x, foldedSetIterable iter env x = pure x := by intro _; rfl) :
    Wp (model prog w) A (execs (.For (.Name x px) iter body [] p :: rest) env) Q E ⟨hp, g, d, tk, o⟩ := by
  refine .of (wpAny_execs_cons (wpAny_For ?_ hs))
  refine (h.mono fun xv s₁ q => ?_).to
  obtain ⟨h₁, tk₁, B₁, m, cm, N, rfl, feed, F, j0, step, fin⟩ := q
  refine feed _ A E _ F.keep fun I oI h₂ St S st hn hI h0 => ?_
  have F₂ := F.push st hn hI
  refine codeAny_forLoop_any (fun n s => ∃ i B m cm N oI h tk, n + i = xs.length ∧ i ≤ xs.length ∧ s = ⟨h, g, d, tk, o⟩ ∧ B₁.StaysIn B ∧ Fm B env m cm ((I, oI) :: N) h ∧ St i oI ∧ J i B m cm N) ?_ xs.length
    ⟨0, B₁, m, cm, N, oI, h₂, tk₁, rfl, Nat.zero_le _, rfl, Stay.refl _, F₂, h0, j0⟩
  rintro n s ⟨i, B, m, cm, N, oI, h, tk, hi, hle, rfl, hB, F, hst, j⟩
  have q := F.news _ (.head _)
  have SA := S A hh
  have kB : B₁.StaysIn h := Stay.trans hB F.keep
  cases ha : xs[i]? with
  | none =>
    have hlen : i = xs.length := Nat.le_antisymm hle (List.getElem?_eq_none_iff.mp ha)
    refine SA.done _ oI _ _ kB q.1 (hlen ▸ hst) fun h' tk' hbut => ?_
    have F' : Fm B env m cm N h' := F.gone0 hbut
    show wpAny _ _ (execs [] env) _ _ _
    exact wpAny_execs_nil (Wp.to (fin B m cm N h' tk' hB F' (hlen ▸ j)))
  | some a =>
    refine SA.item i a _ oI _ _ ha kB q.1 hst fun v h' tk' oI' hv hst' hI' hbut => ?_
    have F' : Fm B env m cm ((I, oI') :: N) h' := F.turn0 hbut hI'
    refine wpAny_pure ?_
    refine wpAny_assign_Name (st_local F' (fun h₃ tk₃ F₃ _ => ?_) hk hl)
    refine ((step i a v B m cm N I oI' h₃ tk₃ _ _ ha hv hB F₃ j fun _ _ q => q).mono ?_).to
    rintro f s₃ ⟨hf, B', m', cm', N', h₄, tk₄, rfl, hB', F₄, j'⟩
    have hil : i < xs.length := (List.getElem?_eq_some_iff.mp ha).1
    have : ∃ k, k < n ∧ ∃ i B m cm N oI h tk, k + i = xs.length ∧ i ≤ xs.length ∧ (⟨h₄, g, d, tk₄, o⟩ : Shared) = ⟨h, g, d, tk, o⟩ ∧ B₁.StaysIn B ∧ Fm B env m cm ((I, oI) :: N) h ∧ St i oI ∧ J i B m cm N :=
      ⟨n - 1, by omega, i + 1, B', m', cm', N', oI', h₄, tk₄, by omega, by omega, rfl, Stay.trans hB hB', F₄, hst', j'⟩
    rcases hf with rfl | rfl <;> exact this

/-- a while loop; n goes down -/
theorem w_while {test : Expr} {p : Pos} {body rest : List Stmt} {Q : Flow → Shared → Prop} {B : Heap} {m cm : Str → Option Value} {N : List (Addr × Obj)}
    (J : Nat → Heap → (Str → Option Value) → (Str → Option Value) → List (Addr × Obj) → Prop) (JE : Heap → (Str → Option Value) → (Str → Option Value) → List (Addr × Obj) → Prop)
    (n : Nat) (F : Fm B env m cm N hp) (j0 : J n B m cm N)
    (step : ∀ n B m cm N h tk (Q' : Flow → Shared → Prop) (P' : Shared → Prop) E', Fm B env m cm N h → J n B m cm N → (∀ f s, TurnW g d o env n B J f s → Q' f s) → (∀ s, EndW g d o env B JE s → P' s) → Wp (model prog w) A (isTrue test env (eval test env)) (fun b s₂ =>
      (b = true → Wp (model prog w) A (execs body env) Q' E' s₂) ∧
      (b = false → P' s₂)) E' ⟨h, g, d, tk, o⟩)
    (fin : ∀ B' m cm N h tk, B.StaysIn B' → Fm B' env m cm N h → JE B' m cm N → Wp (model prog w) A (execs rest env) Q E ⟨h, g, d, tk, o⟩) :
    Wp (model prog w) A (execs (.While test body [] p :: rest) env) Q E ⟨hp, g, d, tk, o⟩ := by
  refine .of (wpAny_execs_cons (wpAny_While ?_))
  refine codeAny_whileLoop (fun n s => ∃ B' m cm N h tk, s = ⟨h, g, d, tk, o⟩ ∧ B.StaysIn B' ∧ Fm B' env m cm N h ∧ J n B' m cm N) ?_ n ⟨B, m, cm, N, hp, tk, rfl, Stay.refl _, F, j0⟩
  rintro n s ⟨B', m, cm, N, h, tk, rfl, hB, F, j⟩
  refine ((step n B' m cm N h tk _ _ _ F j (fun _ _ q => q) fun _ q => q).mono fun b s₂ q => ?_).to
  cases b with
  | true =>
    refine ((q.1 rfl).mono ?_).to
    rintro f s₃ ⟨hf, B₂, m', cm', N', h', tk', n', hn, rfl, hB', F', j'⟩
    have : ∃ k, k < n ∧ ∃ B' m cm N h tk, (⟨h', g, d, tk', o⟩ : Shared) = ⟨h, g, d, tk, o⟩ ∧ B.StaysIn B' ∧ Fm B' env m cm N h ∧ J k B' m cm N :=
      ⟨n', hn, B₂, m', cm', N', h', tk', rfl, Stay.trans hB hB', F', j'⟩
    rcases hf with rfl | rfl <;> exact this
  | false =>
    obtain ⟨B₂, m', cm', N', h', tk', rfl, hB', F', j'⟩ := q.2 rfl
    show wpAny _ _ (execs [] env) _ _ _
    exact wpAny_execs_nil (fin B₂ m' cm' N' h' tk' (Stay.trans hB hB') F' j').to
end

/-! comprehensions -/
def bindX (loc : Bool) (x : Str) (v : Value) (m : Str → Option Value) : Str → Option Value := match loc with
  | true => fun y => if y = x then some v else m y
  | false => m
def KX (loc : Bool) (cenv : Env) (x : Str) (own : List (Str × Addr)) : Prop := match loc with
  | true => cenv.kindOf x = some .local
  | false => cenv.kindOf x = some .cell ∧ ∃ c, (x, c) ∈ own
theorem bindX_two {loc : Bool} {x : Str} {v v' : Value} {m : Str → Option Value} : bindX loc x v (bindX loc x v' m) = bindX loc x v m := by
  cases loc with
  | false => rfl
  | true => funext y; show (if y = x then _ else if y = x then _ else _) = (if y = x then _ else _); split <;> rfl

section
variable {prog : Program} {w : World} {A : Around} {E : Value → Shared → Prop} {hp : Heap} {g : Array GenState} {d : Drawn} {tk : Nat} {o : OsState} {env : Env} {pos : Pos}

theorem cl_store {cenv : Env} {own : List (Str × Addr)} {B : Heap} {m cm : Str → Option Value} {N : List (Addr × Obj)} {x : Str} {px : Pos} {v : Value} {loc : Bool} {Q : Unit → Shared → Prop}
    (F : Fx B cenv own m cm N hp) (hk : cenv.scope.kind = .function) (hx : KX loc cenv x own)
    (h : ∀ h' tk', Fx B cenv own (bindX loc x v m) (bindX (!loc) x v cm) N h' → Q () ⟨h', g, d, tk', o⟩) : wpAny (model prog w) A (assign (.Name x px) cenv v) Q E ⟨hp, g, d, tk, o⟩ := by
  cases loc with
  | true => exact wpAny_assign_Name (wpAny_storeName_local (s := ⟨hp, g, d, tk, o⟩) hx F.rd.ns (fun h' hn hs => h h' _ (F.set hn hs)) (by rw [hk]; rfl))
  | false =>
    obtain ⟨hc, c, hm⟩ := hx
    have hl := F.look _ hm
    exact wpAny_assign_Name (wpAny_storeName_cell (s := ⟨hp, g, d, tk, o⟩) hk hc hl (F.rd.cell _ _ hl) fun h' hv hs => h h' _ (F.setCell hm hv hs))

/-- one clause's loop, whatever it does at a turn -/
theorem cl_loop {α : Type} {e : Expr} {dp : Nat} {x : Str} {px ip : Pos} {ifs : List Expr} {cenv : Env} {own : List (Str × Addr)} {acc : Value} {act : Sem PySem.Fin} {I : Addr} {xs : List α} {PA : α → Value → Prop} {St : Nat → Obj → Prop}
    {B : Heap} {m cm : Str → Option Value} {N : List (Addr × Obj)} {oI : Obj} {R : Result → Shared → Prop} (loc : Bool)
    (hq : (Code.compLoop e dp (.ref I) acc cenv).quiet = true) (hnf : (Code.compLoop e dp (.ref I) acc cenv).isFrame = false) (hu : A.under (Code.compLoop e dp (.ref I) acc cenv) = A)
    (heq : compTurn e dp (.ref I) acc cenv = (do
      standAt ip
      match ← pyNext (.ref I) with
      | none => pure (.done .next)
      | some v =>
        letOwnedTupleGo (.Name x px) (.ref I) v
        assign (.Name x px) cenv v
        let mut ok := true
        for c in ifs do
          if ok then ok ← isTrue c cenv (eval c cenv)
        if ok then act else again (.compLoop e dp (.ref I) acc cenv)))
    (hk : cenv.scope.kind = .function) (hx : KX loc cenv x own)
    (S : Src prog w A B I xs PA St) (J : Nat → Heap → (Str → Option Value) → (Str → Option Value) → List (Addr × Obj) → Prop)
    (F : Fx B cenv own m cm ((I, oI) :: N) hp) (h0 : St 0 oI) (j0 : J 0 B m cm N)
    (step : ∀ i a v B' m cm N oI h tk E', xs[i]? = some a → PA a v → B.StaysIn B' → Fx B' cenv own (bindX loc x v m) (bindX (!loc) x v cm) ((I, oI) :: N) h → J i B' m cm N →
      wpAny (model prog w) A (forIn ifs true fun c r => if r = true then do let ok ← isTrue c cenv (eval c cenv); pure (ForInStep.yield ok) else pure (ForInStep.yield r)) (fun ok s₃ =>
        if ok = true then wpAny (model prog w) A act (fun fin s₄ => fin = .again (.compLoop e dp (.ref I) acc cenv) ∧ ∃ B₂ m' cm' N' h' tk', s₄ = ⟨h', g, d, tk', o⟩ ∧ B'.StaysIn B₂ ∧ Fx B₂ cenv own m' cm' ((I, oI) :: N') h' ∧ J (i + 1) B₂ m' cm' N') E' s₃
        else ∃ B₂ m' cm' N' h' tk', s₃ = ⟨h', g, d, tk', o⟩ ∧ B'.StaysIn B₂ ∧ Fx B₂ cenv own m' cm' ((I, oI) :: N') h' ∧ J (i + 1) B₂ m' cm' N') E' ⟨h, g, d, tk, o⟩)
    (fin : ∀ B' m cm N h tk, B.StaysIn B' → Fx B' cenv own m cm N h → J xs.length B' m cm N → R (.ok .next) ⟨h, g, d, tk, o⟩) :
    codeAny (model prog w) A (.compLoop e dp (.ref I) acc cenv) R ⟨hp, g, d, tk, o⟩ := by
  refine codeAny_loop hq (fun n s => ∃ i B' m cm N oI h tk, n + i = xs.length ∧ i ≤ xs.length ∧ s = ⟨h, g, d, tk, o⟩ ∧ B.StaysIn B' ∧ Fx B' cenv own m cm ((I, oI) :: N) h ∧ St i oI ∧ J i B' m cm N) ?_ xs.length
    ⟨0, B, m, cm, N, oI, hp, tk, rfl, Nat.zero_le _, rfl, Stay.refl _, F, h0, j0⟩
  rintro n s ⟨i, B', m, cm, N, oI, h, tk, hi, hle, rfl, hB, F, hst, j⟩
  show wpAny _ _ (if (Code.compLoop e dp (.ref I) acc cenv).isFrame then (compTurn e dp (.ref I) acc cenv).onRaise (leaving cenv) else (compTurn e dp (.ref I) acc cenv).onRaise (fun x => do noteFrame x cenv; theTreesLotGoes x)) _ _ _
  rw [hnf, if_neg Bool.false_ne_true, heq, hu]
  refine wpAny_noted ?_
  have q : h.get? I = some oI := (F.news _ (.head _)).1
  have kB : B.StaysIn h := Stay.trans hB F.keep
  refine wpAny_bind (wpAny_standAt (wpAny_bind ?_))
  cases ha : xs[i]? with
  | none =>
    have hlen : i = xs.length := Nat.le_antisymm hle (List.getElem?_eq_none_iff.mp ha)
    refine S.done ⟨h, g, d, tk, o⟩ oI _ _ kB q (hlen ▸ hst) fun h' tk' hbut => ?_
    have F' : Fx B' cenv own m cm N h' := Fx.gone (pre := []) F hbut
    exact wpAny_pure (fin B' m cm N h' tk' hB F' (hlen ▸ j))
  | some a =>
    refine S.item i a ⟨h, g, d, tk, o⟩ oI _ _ ha kB q hst fun v h' tk' oI' hv hst' hI' hbut => ?_
    have F' : Fx B' cenv own m cm ((I, oI') :: N) h' := Fx.turn (pre := []) F hbut hI'
    have hil : i < xs.length := (List.getElem?_eq_some_iff.mp ha).1
    refine wpAny_bind (wpAny_pure (wpAny_bind (cl_store F' hk hx fun h₃ tk₃ F₃ => ?_)))
    refine wpAny_bind (wpAny_mono (step i a v B' m cm N oI' h₃ tk₃ _ ha hv hB F₃ j) (fun ok s₃ q => ?_) fun _ _ x => x)
    have key : ∀ s₄, (∃ B₂ m' cm' N' h' tk', s₄ = (⟨h', g, d, tk', o⟩ : Shared) ∧ B'.StaysIn B₂ ∧ Fx B₂ cenv own m' cm' ((I, oI') :: N') h' ∧ J (i + 1) B₂ m' cm' N') →
        ∃ k, k < n ∧ ∃ i B' m cm N oI h tk, k + i = xs.length ∧ i ≤ xs.length ∧ s₄ = (⟨h, g, d, tk, o⟩ : Shared) ∧ B.StaysIn B' ∧ Fx B' cenv own m cm ((I, oI) :: N) h ∧ St i oI ∧ J i B' m cm N := by
      rintro s₄ ⟨B₂, m', cm', N', h₄, tk₄, rfl, hB', F₄, j'⟩
      exact ⟨n - 1, by omega, i + 1, B₂, m', cm', N', oI', h₄, tk₄, by omega, by omega, rfl, Stay.trans hB hB', F₄, hst', j'⟩
    cases ok with
    | false => exact wpAny_pure ⟨rfl, key _ q⟩
    | true =>
      refine wpAny_mono q (fun fin s₄ q' => ?_) fun _ _ x => x
      obtain ⟨rfl, q'⟩ := q'
      exact ⟨rfl, key _ q'⟩

theorem codeAny_start0 {elt target iter : Expr} {ifs : List Expr} {rest : List Comprehension} {scope : Scope} {pos : Pos} {it acc : Value} {cenv : Env} {R : Result → Shared → Prop} {s : Shared} (h0 : codeAny (model prog w) A (.compLoop (.ListComp elt (⟨target, iter, ifs, 0⟩ :: rest) scope pos) 0 it acc cenv) R s)
    (h : ∀ E', wpAny (model prog w) A (pyIter it) (fun it' s' => codeAny (model prog w) A (.compLoop (.ListComp elt (⟨target, iter, ifs, 0⟩ :: rest) scope pos) 0 it' acc cenv) R s') E' s) :
    codeAny (model prog w) A (.compStart (.ListComp elt (⟨target, iter, ifs, 0⟩ :: rest) scope pos) 0 it acc cenv) R s := codeAny_compStart_list h0 (h _)
theorem codeAny_start1 {elt target iter : Expr} {ifs : List Expr} {g₀ : Comprehension} {rest : List Comprehension} {scope : Scope} {pos : Pos} {it acc : Value} {env : Env} {R : Result → Shared → Prop} {s : Shared}
    (h0 : codeAny (model prog w) A (.compLoop (.ListComp elt (g₀ :: ⟨target, iter, ifs, 0⟩ :: rest) scope pos) 1 it acc env) R s)
    (h : wpAny (model prog w) A (pyIter it) (fun it' s' => codeAny (model prog w) A (.compLoop (.ListComp elt (g₀ :: ⟨target, iter, ifs, 0⟩ :: rest) scope pos) 1 it' acc env) R s')
      (notedBy (model prog w) A env fun x s' => R (.error x) s') s) :
    codeAny (model prog w) A (.compStart (.ListComp elt (g₀ :: ⟨target, iter, ifs, 0⟩ :: rest) scope pos) 1 it acc env) R s := by
  refine codeAny_of_tree ?_
  show wpAny _ _ ((compStart (.ListComp elt (g₀ :: ⟨target, iter, ifs, 0⟩ :: rest) scope pos) 1 it acc env).onRaise (fun x => do noteFrame x env; standAt theWindowsPlace)) _ _ s
  refine wpAny_notedAt ?_
  unfold compStart
  show wpAny _ _ (ask >>= _) _ _ s
  refine wpAny_bind (wpAny_askSetting (wpAny_ite ?_))
  split
  · first
      | exact wpAny_bind (wpAny_pure (wpAny_pure (And.intro rfl h0)))
      | exact wpAny_pure (And.intro rfl h0)
  · first
      | exact wpAny_bind (wpAny_rule (wpAny_bind (wpAny_standAt (wpAny_bind (wpAny_mono h (fun it' s' h' => wpAny_pure (And.intro rfl h')) fun _ _ x => x)))))
      | (refine wpAny_bind (wpAny_rule ?_); show wpAny _ _ (standAt iter.pos >>= _) _ _ s; exact wpAny_bind (wpAny_standAt (wpAny_bind (wpAny_mono h (fun it' s' h' => wpAny_pure (And.intro rfl h')) fun _ _ x => x))))
theorem turn_two {elt target iter : Expr} {ifs : List Expr} {t₂ i₂ : Expr} {ifs₂ : List Expr} {scope : Scope} {pos : Pos} {it acc : Value} {env : Env} :
    compTurn (.ListComp elt [⟨target, iter, ifs, 0⟩, ⟨t₂, i₂, ifs₂, 0⟩] scope pos) 0 it acc env = (do
      standAt iter.pos
      match ← pyNext it with
      | none => pure (.done .next)
      | some v =>
        letOwnedTupleGo target it v
        assign target env v
        let mut ok := true
        for c in ifs do
          if ok then ok ← isTrue c env (eval c env)
        if ok then (do
          let x ← eval i₂ env
          standAt i₂.pos
          let x ← foldedSetIterable i₂ env x
          let _ ← runOwn (.compStart (.ListComp elt [⟨target, iter, ifs, 0⟩, ⟨t₂, i₂, ifs₂, 0⟩] scope pos) 1 (← holding [x] (pyIter x)) acc env) env
          again (.compLoop (.ListComp elt [⟨target, iter, ifs, 0⟩, ⟨t₂, i₂, ifs₂, 0⟩] scope pos) 0 it acc env))
        else again (.compLoop (.ListComp elt [⟨target, iter, ifs, 0⟩, ⟨t₂, i₂, ifs₂, 0⟩] scope pos) 0 it acc env)) := by rfl
theorem turn_two1 {elt target iter : Expr} {ifs : List Expr} {t₂ i₂ : Expr} {ifs₂ : List Expr} {scope : Scope} {pos : Pos} {it acc : Value} {env : Env} :
    compTurn (.ListComp elt [⟨target, iter, ifs, 0⟩, ⟨t₂, i₂, ifs₂, 0⟩] scope pos) 1 it acc env = (do
      standAt i₂.pos
      match ← pyNext it with
      | none => pure (.done .next)
      | some v =>
        letOwnedTupleGo t₂ it v
        assign t₂ env v
        let mut ok := true
        for c in ifs₂ do
          if ok then ok ← isTrue c env (eval c env)
        if ok then
          ((do let _ ← call (.builtin "list.append") [acc, ← eval elt env]) >>= fun _ => again (.compLoop (.ListComp elt [⟨target, iter, ifs, 0⟩, ⟨t₂, i₂, ifs₂, 0⟩] scope pos) 1 it acc env))
        else again (.compLoop (.ListComp elt [⟨target, iter, ifs, 0⟩, ⟨t₂, i₂, ifs₂, 0⟩] scope pos) 1 it acc env)) := by rfl
theorem turn_one {elt target iter : Expr} {ifs : List Expr} {scope : Scope} {pos : Pos} {it acc : Value} {env : Env} :
    compTurn (.ListComp elt [⟨target, iter, ifs, 0⟩] scope pos) 0 it acc env = (do
      standAt iter.pos
      match ← pyNext it with
      | none => pure (.done .next)
      | some v =>
        letOwnedTupleGo target it v
        assign target env v
        let mut ok := true
        for c in ifs do
          if ok then ok ← isTrue c env (eval c env)
        if ok then
          ((do let _ ← call (.builtin "list.append") [acc, ← eval elt env]) >>= fun _ => again (.compLoop (.ListComp elt [⟨target, iter, ifs, 0⟩] scope pos) 0 it acc env))
        else again (.compLoop (.ListComp elt [⟨target, iter, ifs, 0⟩] scope pos) 0 it acc env)) := by rfl
end
end Mine
end
section
-- part F3
open PySem PySem.W PyProof.Rows PySem.Calls
set_option Elab.async false
set_option maxRecDepth 100000
set_option maxHeartbeats 4000000
set_option linter.unusedVariables false
namespace Mine

theorem cellsFrom_acc : ∀ (names : List (Str × NameKind)) (n : Nat) (acc acc' : List (Str × Addr)), cellsFrom n names (acc ++ acc') = cellsFrom n names acc ++ acc'
  | [], _, _, _ => rfl
  | (x, k) :: r, n, acc, acc' => by
    unfold cellsFrom
    split
    · exact cellsFrom_acc r (n + 1) ((x, n) :: acc) acc'
    · exact cellsFrom_acc r n acc acc'

def compCells (n : Nat) (scope : Scope) (cl : List (Str × Addr)) : List (Str × Addr) := cellsFrom n scope.names cl
def isOwn (scope : Scope) (x : Str) : Bool := ((cellsFrom 0 scope.names []).map (·.1)).contains x
/-- what a comprehension's cells hold at first -/
def cm0 (scope : Scope) (cm : Str → Option Value) : Str → Option Value := fun x => if isOwn scope x = true then none else cm x

theorem own_names (names : List (Str × NameKind)) (n n' : Nat) : (cellsFrom n names []).map (·.1) = (cellsFrom n' names []).map (·.1) := cellsFrom_fst names n n' [] [] rfl

section
variable {prog : Program} {w : World} {A : Around} {E : Value → Shared → Prop} {hp : Heap} {g : Array GenState} {d : Drawn} {tk : Nat} {o : OsState} {env : Env} {pos : Pos}

theorem comp_env {scope : Scope} {cl : List (Str × Addr)} {m cm : Str → Option Value} {Q : Env → Shared → Prop} (R : Rd env m cm hp) (hk : scope.kind = .function)
    (hcl : (cl.all fun p => env.cells.lookup p.1 == some p.2) = true) (hnd : ((cellsFrom 0 scope.names []).map (·.1)).Nodup)
    (h : ∀ C n h', hp.StaysIn h' → hp.get? C = none →
      Fx hp (compEnvC scope (compCells n scope cl) C env) (compCells n scope []) (fun _ => none) (cm0 scope cm) [] h' →
      Q { scope := scope, locals := C, globals := env.globals, cells := compCells n scope cl, qual := env.qual, func := none, code := env.code, frame := env.frame, builtins := env.builtins } ⟨h', g, d, tk, o⟩) :
    wpAny (model prog w) A (newFunctionEnv scope env.globals cl [] env.qual none .none (some env)) Q E ⟨hp, g, d, tk, o⟩ := by
  unfold newFunctionEnv
  simp only [Option.isSome_some, if_true]
  refine wpAny_bind (wpAny_alloc ?_)
  refine wpAny_bind (wpAny_layCells _ (fun name kind cells => by cases kind == NameKind.cell <;> simp) _ _ _ _ ?_)
  have ok := cellsFrom_ok scope.names (hp.push { cls := .type "dict", data := .dict #[] }) (hp.objs.size + 1) [] ⟨fun _ _ hm => (nomatch hm), List.Pairwise.nil⟩ (by rw [Heap.size_push]; exact Nat.le_refl _)
  rw [Heap.size_push] at ok
  rw [show (⟨hp.push { cls := .type "dict", data := .dict #[] }, g, d, tk, o⟩ : Shared).heap.objs.size = hp.objs.size + 1 from Heap.size_push ..]
  rw [List.forIn_nil]
  refine wpAny_bind (wpAny_pure (wpAny_pure ?_))
  have hC : hp.get? hp.objs.size = none := free_size hp
  have hfree : ∀ c, hp.objs.size ≤ c → hp.get? c = none := fun c hc => by
    cases e : hp.get? c with
    | none => rfl
    | some o => exact absurd (Nat.lt_of_lt_of_le (Heap.lt_size e) hc) (Nat.lt_irrefl _)
  have stay : hp.StaysIn (pushCells (hp.push { cls := .type "dict", data := .dict #[] }) scope.names) := fun b o e => pushCells_keeps _ _ b o (Heap.get?_push_of_some _ e)
  have happ : compCells (hp.objs.size + 1) scope cl = compCells (hp.objs.size + 1) scope [] ++ cl := by
    unfold compCells; rw [show cl = [] ++ cl from rfl, cellsFrom_acc, List.nil_append]
  have hlookup : ∀ x ∈ compCells (hp.objs.size + 1) scope [], (compCells (hp.objs.size + 1) scope []).lookup x.1 = some x.2 :=
    lookup_of_nodup (by unfold compCells; rw [own_names _ _ 0]; exact hnd)
  have hclook : ∀ n c, cl.lookup n = some c → env.cells.lookup n = some c := fun n c e => by
    have := List.all_eq_true.mp hcl _ (mem_of_lookup e)
    simpa using this
  have hown : ∀ n c, (n, c) ∈ compCells (hp.objs.size + 1) scope [] → isOwn scope n = true := fun n c hm => by
    unfold isOwn
    rw [own_names _ 0 (hp.objs.size + 1)]
    exact List.contains_iff_mem.mpr (List.mem_map.mpr ⟨_, hm, rfl⟩)
  have hnown : ∀ n, (compCells (hp.objs.size + 1) scope []).lookup n = none → isOwn scope n = false := fun n e => by
    cases hb : isOwn scope n with
    | false => rfl
    | true =>
      unfold isOwn at hb
      rw [own_names _ 0 (hp.objs.size + 1)] at hb
      obtain ⟨y, hy, rfl⟩ := List.mem_map.mp (List.contains_iff_mem.mp hb)
      have := hlookup y hy
      rw [e] at this; cases this
  have hsplit : ∀ n c, (compCells (hp.objs.size + 1) scope cl).lookup n = some c → (n, c) ∈ compCells (hp.objs.size + 1) scope [] ∨ (cl.lookup n = some c ∧ isOwn scope n = false) := fun n c e => by
    rw [happ, List.lookup_append] at e
    cases h1 : (compCells (hp.objs.size + 1) scope []).lookup n with
    | some c' => rw [h1] at e; cases e; exact .inl (mem_of_lookup h1)
    | none => rw [h1] at e; exact .inr ⟨e, hnown n h1⟩
  refine h hp.objs.size (hp.objs.size + 1) _ stay hC ⟨⟨(Heap.Ns.new hp (.type "dict")).keeps (pushCells_keeps _ _), fun n c e => ?_⟩, stay, hC, fun x hx => ?_, fun x hx => ?_, ok.apart, fun n c e => ?_, fun _ hp => (nomatch hp), List.Pairwise.nil⟩
  · rcases hsplit n c e with hm | ⟨e', hno⟩
    · have q := (ok.empty n c hm).1
      unfold cm0
      rw [hown n c hm, if_pos rfl]; exact q
    · unfold cm0
      rw [hno, if_neg Bool.false_ne_true]
      exact (R.cell n c (hclook n c e')).keeps stay
  · show (compCells (hp.objs.size + 1) scope cl).lookup x.1 = _
    rw [happ, List.lookup_append, hlookup x hx]; rfl
  · have q := (ok.empty x.1 x.2 hx).2
    exact ⟨hfree _ (Nat.le_of_lt q), Nat.ne_of_gt q⟩
  · rcases hsplit n c e with hm | ⟨e', hno⟩
    · exact .inl hm
    · obtain ⟨oc, eo, _⟩ := R.cell n c (hclook n c e')
      exact .inr ⟨oc, eo⟩
end

section
variable {prog : Program} {w : World} {A : Around} {E : Value → Shared → Prop} {hp : Heap} {g : Array GenState} {d : Drawn} {tk : Nat} {o : OsState} {env : Env} {pos : Pos}

abbrev lobj (ys : Array Value) (k : Nat) : Obj := { cls := .type "list", data := .seq ys k }
theorem Fx.lower {B B' h : Heap} {env : Env} {own : List (Str × Addr)} {m cm : Str → Option Value} (F : Fx B env own m cm [] h) (hs : B'.StaysIn B) (hc : ∀ n c, env.cells.lookup n = some c → (n, c) ∈ own ∨ ∃ o, B'.get? c = some o) : Fx B' env own m cm [] h :=
  ⟨F.rd, Stay.trans hs F.keep, fresh_back hs F.off, F.look, fun x hx => ⟨fresh_back hs (F.coff x hx).1, (F.coff x hx).2⟩, F.apart, hc, fun _ hp => (nomatch hp), List.Pairwise.nil⟩
theorem Fx.take1 {B h : Heap} {env : Env} {own : List (Str × Addr)} {m cm : Str → Option Value} {N : List (Addr × Obj)} {a : Addr} {o : Obj} (F : Fx B env own m cm N h) (e : h.get? a = some o) (hb : B.get? a = none) (h1 : a ≠ env.locals) (h2 : ∀ x ∈ own, a ≠ x.2) (h3 : ∀ p ∈ N, a ≠ p.1) :
    Fx B env own m cm ((a, o) :: N) h :=
  ⟨F.rd, F.keep, F.off, F.look, F.coff, F.apart, F.clos, fun p hp => by
    rcases List.mem_cons.mp hp with rfl | hp
    · exact ⟨e, hb, h1, h2⟩
    · exact F.news p hp, List.pairwise_cons.mpr ⟨fun y hy => h3 y hy, F.napart⟩⟩

/-- what the last clause of a list comprehension does -/
theorem cl_append {cenv : Env} {own : List (Str × Addr)} {B : Heap} {m cm : Str → Option Value} {N : List (Addr × Obj)} {D : Addr} {ys : Array Value} {k : Nat} {elt : Expr} {c : Code} {Q : PySem.Fin → Shared → Prop}
    (pre : List (Addr × Obj)) (F : Fx B cenv own m cm (pre ++ (D, lobj ys k) :: N) hp) (hsz : ys.size ≤ 1000000)
    (h : Wp (model prog w) A (eval elt cenv) (fun y s' => ∃ h' tk', s' = ⟨h', g, d, tk', o⟩ ∧ hp.StaysIn h' ∧
      ∀ B₂ h₂, B.StaysIn B₂ → (∀ a ob, hp.get? a = none → h'.get? a = some ob → B₂.get? a = some ob) → ∀ k', Fx B₂ cenv own m cm (pre ++ (D, lobj (ys.push y) k') :: N) h₂ → Q (.again c) ⟨h₂, g, d, tk', o⟩) E ⟨hp, g, d, tk, o⟩) :
    wpAny (model prog w) A ((do let _ ← call (.builtin "list.append") [.ref D, ← eval elt cenv]) >>= fun _ => again c) Q E ⟨hp, g, d, tk, o⟩ := by
  refine wpAny_bind (wpAny_bind (h.mono fun y s' q => ?_).to)
  obtain ⟨h', tk', rfl, st, hQ⟩ := q
  obtain ⟨F', kB, new⟩ := F.rebase_new st
  have hD := (F'.news (D, lobj ys k) (List.mem_append_right _ (.head _))).1
  refine wpAny_bind (wpAny_list_append_plain (s := ⟨h', g, d, tk', o⟩) ⟨k, hD⟩ (fun h₂ hl hs => ?_) (by rw [sizeLine_eq]; omega))
  obtain ⟨k', hl⟩ := hl
  exact wpAny_pure (wpAny_pure (hQ _ h₂ kB new k' (F'.turn (But.of hs) hl)))

/-- the outer setting of a comprehension, without what its loop does -/
theorem comp_open {α : Type} {elt iter : Expr} {x : Str} {px : Pos} {ifs : List Expr} {rest : List Comprehension} {scope : Scope} {cl : List (Str × Addr)} {Q : Value → Shared → Prop} {s : Shared} {pos' : Pos} {use : Option (Value → Sem Unit)} (xs : List α) (PA : α → Value → Prop)
    (hh : A.handled = none)
    (hclos : closureFor scope env = pure cl) (hkind : scope.kind = .function) (hcl : (cl.all fun p => env.cells.lookup p.1 == some p.2) = true) (hnd : ((cellsFrom 0 scope.names []).map (·.1)).Nodup)
    (hnames : ∀ y ∈ scope.names, y.2 = .local → scope.names.lookup y.1 = some .local)
    (h : Wp (model prog w) A (eval iter env) (fun xv s₁ => ∃ h₁ tk₁ m cm, s₁ = ⟨h₁, g, d, tk₁, o⟩ ∧ Rd env m cm h₁ ∧ Feed prog w h₁ xv xs PA ∧
      ∀ C n I oI D St h₄, (∀ A', A'.handled = none → Src prog w A' h₁ I xs PA St) → h₁.get? D = none → D ≠ C →
        Fx h₁ (compEnvC scope (compCells n scope cl) C env) (compCells n scope []) (fun _ => none) (cm0 scope cm) [(I, oI), (D, lobj #[] 0)] h₄ → St 0 oI →
        codeAny (model prog w) A (.compLoop (.ListComp elt (⟨.Name x px, iter, ifs, 0⟩ :: rest) scope pos) 0 (.ref I) (.ref D) (compEnvC scope (compCells n scope cl) C env)) (compPost (model prog w) A E use Q (.ref D) C) ⟨h₄, g, d, tk₁, o⟩) E s)
    (hs : ∀ x, foldedSetIterable iter env x = pure x := by intro _; rfl) :
    wpAny (model prog w) A (comprehension (.ListComp elt (⟨.Name x px, iter, ifs, 0⟩ :: rest) scope pos) scope env pos' (newList []) false (eval iter env) use) Q E s := by
  refine wpAny_comprehension_free (use := use) rfl hs hclos hkind hnames ((h.mono fun xv s₁ q => ?_).to)
  obtain ⟨h₁, tk₁, m, cm, rfl, R, feed, hgo⟩ := q
  refine feed _ A E _ (Stay.refl _) fun I oI h₂ St S st₂ hnI hI h0 => ?_
  refine mk_list (by simp) fun D h₃ st₃ hnD hD => ?_
  have st13 := Stay.trans st₂ st₃
  refine comp_env (R.keeps st13) hkind hcl hnd fun C n h₄ st₄ hnC F => ?_
  have hI₄ : h₄.get? I = some oI := st₄ _ _ (st₃ _ _ hI)
  have hD₄ : h₄.get? D = some (lobj #[] 0) := st₄ _ _ hD
  have hDne : I ≠ D := by rintro rfl; rw [hI] at hnD; cases hnD
  have hCI : ∀ {a : Addr} {oo : Obj}, h₃.get? a = some oo → a ≠ C := fun {a oo} e e' => by rw [e', hnC] at e; cases e
  have hcI : ∀ {a : Addr} {oo : Obj}, h₃.get? a = some oo → ∀ y ∈ compCells n scope [], a ≠ y.2 := fun {a oo} e y hy e' => by have := (F.coff y hy).1; rw [← e', e] at this; cases this
  have F1 := F.lower (B' := h₁) st13 (fun nm c e => by
    rcases F.clos nm c e with hm | ⟨oc, hc⟩
    · exact .inl hm
    · by_cases hm : (nm, c) ∈ compCells n scope []
      · exact .inl hm
      · have happ : compCells n scope cl = compCells n scope [] ++ cl := by unfold compCells; rw [show cl = [] ++ cl from rfl, cellsFrom_acc, List.nil_append]
        have e' : (compCells n scope cl).lookup nm = some c := e
        rw [happ, List.lookup_append] at e'
        cases h1 : (compCells n scope []).lookup nm with
        | some c' => rw [h1] at e'; cases e'; exact absurd (mem_of_lookup h1) hm
        | none =>
          rw [h1] at e'
          have hcl' : env.cells.lookup nm = some c := by simpa using List.all_eq_true.mp hcl _ (mem_of_lookup e')
          obtain ⟨oc', eo, _⟩ := R.cell nm c hcl'
          exact .inr ⟨oc', eo⟩)
  have F2 := (F1.take1 hD₄ (fresh_back st₂ hnD) (hCI hD) (hcI hD) (fun _ hp => (nomatch hp))).take1 hI₄ hnI (hCI (st₃ _ _ hI)) (hcI (st₃ _ _ hI)) (fun q hq => by rw [List.mem_singleton.mp hq]; exact hDne)
  have loop := hgo C n I oI D St h₄ S (fresh_back st₂ hnD) (hCI hD) F2 h0
  refine codeAny_start0 loop fun E' => S A hh |>.self 0 ⟨h₄, g, d, tk₁, o⟩ oI _ _ (Stay.trans st13 st₄) hI₄ h0 loop

theorem comp_main {α β : Type} {elt iter : Expr} {x : Str} {px : Pos} {ifs : List Expr} {scope : Scope} {cl : List (Str × Addr)} {Q : Value → Shared → Prop} {s : Shared} {pos' : Pos} {use : Option (Value → Sem Unit)} (xs : List α) (PA : α → Value → Prop) (p : α → Bool) (f : α → β)
    (O : β → Value → Heap → Prop) (loc : Bool) (hO : ∀ b y H H', O b y H → H.StaysIn H' → O b y H') (hh : A.handled = none)
    (hclos : closureFor scope env = pure cl) (hkind : scope.kind = .function) (hcl : (cl.all fun p => env.cells.lookup p.1 == some p.2) = true) (hnd : ((cellsFrom 0 scope.names []).map (·.1)).Nodup)
    (hnames : ∀ y ∈ scope.names, y.2 = .local → scope.names.lookup y.1 = some .local)
    (hx : ∀ n C, KX loc (compEnvC scope (compCells n scope cl) C env) x (compCells n scope []))
    (h : Wp (model prog w) A (eval iter env) (fun xv s₁ => ∃ h₁ tk₁ m cm, s₁ = ⟨h₁, g, d, tk₁, o⟩ ∧ Rd env m cm h₁ ∧ Feed prog w h₁ xv xs PA ∧ xs.length ≤ 1000000 ∧
      (∀ C n a v h tk E', a ∈ xs → PA a v → h₁.StaysIn h → Rd (compEnvC scope (compCells n scope cl) C env) (bindX loc x v fun _ => none) (bindX (!loc) x v (cm0 scope cm)) h →
        wpAny (model prog w) A (forIn ifs true fun c r => if r = true then do let ok ← isTrue c (compEnvC scope (compCells n scope cl) C env) (eval c (compEnvC scope (compCells n scope cl) C env)); pure (ForInStep.yield ok) else pure (ForInStep.yield r))
          (fun ok s' => ∃ h' tk', s' = ⟨h', g, d, tk', o⟩ ∧ h.StaysIn h' ∧ ok = p a) E' ⟨h, g, d, tk, o⟩) ∧
      (∀ C n a v h tk E', a ∈ xs → p a = true → PA a v → h₁.StaysIn h → Rd (compEnvC scope (compCells n scope cl) C env) (bindX loc x v fun _ => none) (bindX (!loc) x v (cm0 scope cm)) h →
        Wp (model prog w) A (eval elt (compEnvC scope (compCells n scope cl) C env)) (fun y s' => ∃ h' tk', s' = ⟨h', g, d, tk', o⟩ ∧ h.StaysIn h' ∧
          ∀ H, h₁.StaysIn H → (∀ a ob, h.get? a = none → h'.get? a = some ob → H.get? a = some ob) → O (f a) y H) E' ⟨h, g, d, tk, o⟩) ∧
      (∀ D C B' m' h' tk' ys k, h₁.StaysIn B' → B'.StaysIn h' → B'.get? C = none → D ≠ C → h₁.get? D = none → h'.Ns C m' → h'.get? D = some (lobj ys k) → (∀ H, B'.StaysIn H → Paired (fun b y => O b y H) ((xs.filter p).map f) ys.toList) → compPost (model prog w) A E use Q (.ref D) C (.ok .next) ⟨h', g, d, tk', o⟩)) E s)
    (hs : ∀ x, foldedSetIterable iter env x = pure x := by intro _; rfl) :
    wpAny (model prog w) A (comprehension (.ListComp elt [⟨.Name x px, iter, ifs, 0⟩] scope pos) scope env pos' (newList []) false (eval iter env) use) Q E s := by
  refine comp_open (g := g) (d := d) (o := o) xs PA hh hclos hkind hcl hnd hnames (h.mono fun xv s₁ q => ?_) hs
  obtain ⟨h₁, tk₁, m, cm, rfl, R, feed, hlen, htests, helt, hfin⟩ := q
  refine ⟨h₁, tk₁, m, cm, rfl, R, feed, fun C n I oI D St h₄ S hnD hDC F2 h0 => ?_⟩
  have hrk : (compEnvC scope (compCells n scope cl) C env).scope.kind = .function := hkind
  refine cl_loop (x := x) (px := px) (ip := iter.pos) (ifs := ifs) loc rfl rfl rfl turn_one hrk (hx n C) (S A hh)
    (fun i B m' cm' N => (∀ v, bindX loc x v m' = bindX loc x v (fun _ => none) ∧ bindX (!loc) x v cm' = bindX (!loc) x v (cm0 scope cm)) ∧ ∃ ys k, N = [(D, lobj ys k)] ∧ Paired (fun b y => O b y B) (((xs.take i).filter p).map f) ys.toList)
    F2 h0 ⟨fun v => ⟨rfl, rfl⟩, #[], 0, rfl, by simpa using Paired.nil⟩ ?_ ?_
  · rintro i a v B' m' cm' N oI' h tk E₂ ha hv hB F' ⟨hm, ys, k, rfl, hp⟩
    have hmem : a ∈ xs := List.mem_of_getElem? ha
    have hm' := hm v
    have kh : h₁.StaysIn h := Stay.trans hB F'.keep
    rw [hm'.1, hm'.2] at F'
    have htake : xs.take (i + 1) = xs.take i ++ [a] := by rw [List.take_add_one, ha]; rfl
    have hsize : ys.size ≤ 1000000 := by
      have e1 := hp.length
      have e2 : ((xs.take i).filter p).length ≤ (xs.take i).length := List.length_filter_le _ _
      have e3 : (xs.take i).length ≤ xs.length := by rw [List.length_take]; exact Nat.min_le_right _ _
      have e4 : ys.toList.length = ys.size := by simp
      rw [List.length_map] at e1
      omega
    refine wpAny_mono (htests C n a v h tk E₂ hmem hv kh F'.rd) (fun ok s' q => ?_) fun _ _ x => x
    obtain ⟨h', tk', rfl, st', rfl⟩ := q
    have F'' := F'.keeps st'
    cases hpa : p a with
    | false =>
      rw [if_neg Bool.false_ne_true]
      refine ⟨B', _, _, _, h', tk', rfl, Stay.refl _, F'', fun v' => ⟨bindX_two, bindX_two⟩, ys, k, rfl, ?_⟩
      rw [htake, List.filter_append]; simpa [hpa] using hp
    | true =>
      rw [if_pos rfl]
      refine cl_append [(I, oI')] F'' hsize ((helt C n a v h' tk' E₂ hmem hpa hv (Stay.trans kh st') F''.rd).mono ?_)
      rintro y s₃ ⟨h₅, tk₅, rfl, st₅, hy⟩
      refine ⟨h₅, tk₅, rfl, st₅, fun B₂ h₆ hB₂ new k' F₆ => ⟨rfl, B₂, _, _, _, h₆, tk₅, rfl, hB₂, F₆, fun v' => ⟨bindX_two, bindX_two⟩, ys.push y, k', rfl, ?_⟩⟩
      have e : ((xs.take (i + 1)).filter p).map f = ((xs.take i).filter p).map f ++ [f a] := by rw [htake, List.filter_append]; simp [hpa]
      rw [e, Array.toList_push]
      exact Paired.snoc (paired_mono (fun b y q => hO b y _ _ q hB₂) hp) (hy B₂ (Stay.trans hB hB₂) new)
  · rintro B' m' cm' N h tk hB F' ⟨_, ys, k, rfl, hp⟩
    rw [List.take_length] at hp
    exact hfin D C B' m' h tk ys k hB F'.keep F'.off hDC hnD F'.rd.ns (F'.news (D, lobj ys k) (.head _)).1 fun H hH => paired_mono (fun b y q => hO b y _ _ q hH) hp

def clOf (scope : Scope) (env : Env) : List (Str × Addr) := scope.names.foldl (fun cs x => if x.2 == .free then (x.1, (env.cells.lookup x.1).getD 0) :: cs else cs) []

theorem comp_two {α β : Type} {elt iter c : Expr} {x y ystr : Str} {px py cp : Pos} {kk : Nat} {scope : Scope} {cl : List (Str × Addr)} {Q : Value → Shared → Prop} {s : Shared} {pos' : Pos} {use : Option (Value → Sem Unit)} (xs : List α) (PA : α → Value → Prop) (p : α → Nat → Bool) (f : α → Nat → β)
    (O : β → Value → Prop) (hh : A.handled = none) (hlen : (xs.length + 1) * ystr.cps.toList.length ≤ 1000000)
    (hclos : closureFor scope env = pure cl) (hkind : scope.kind = .function) (hcl : (cl.all fun p => env.cells.lookup p.1 == some p.2) = true) (hnd : ((cellsFrom 0 scope.names []).map (·.1)).Nodup)
    (hnames : ∀ y ∈ scope.names, y.2 = .local → scope.names.lookup y.1 = some .local)
    (hx : ∀ n C, KX true (compEnvC scope (compCells n scope cl) C env) x (compCells n scope [])) (hy : ∀ n C, KX true (compEnvC scope (compCells n scope cl) C env) y (compCells n scope [])) (hxy : x ≠ y)
    (h : Wp (model prog w) A (eval iter env) (fun xv s₁ => ∃ h₁ tk₁ m cm, s₁ = ⟨h₁, g, d, tk₁, o⟩ ∧ Rd env m cm h₁ ∧ Feed prog w h₁ xv xs PA ∧
      (∀ C n a v u t m' h tk E', a ∈ xs → PA a v → u ∈ ystr.cps.toList → h₁.StaysIn h → Rd (compEnvC scope (compCells n scope cl) C env) m' (cm0 scope cm) h → m' x = some v → m' y = some (.str ⟨#[u]⟩ t) →
        Wp (model prog w) A (isTrue c (compEnvC scope (compCells n scope cl) C env) (eval c (compEnvC scope (compCells n scope cl) C env)))
          (fun ok s' => ∃ h' tk', s' = ⟨h', g, d, tk', o⟩ ∧ h.StaysIn h' ∧ ok = p a u) E' ⟨h, g, d, tk, o⟩) ∧
      (∀ C n a v u t m' h tk E', a ∈ xs → PA a v → u ∈ ystr.cps.toList → p a u = true → h₁.StaysIn h → Rd (compEnvC scope (compCells n scope cl) C env) m' (cm0 scope cm) h → m' x = some v → m' y = some (.str ⟨#[u]⟩ t) →
        Wp (model prog w) A (eval elt (compEnvC scope (compCells n scope cl) C env)) (fun z s' => ∃ h' tk', s' = ⟨h', g, d, tk', o⟩ ∧ h.StaysIn h' ∧ O (f a u) z) E' ⟨h, g, d, tk, o⟩) ∧
      (∀ D C B' m' h' tk' ys k, h₁.StaysIn B' → B'.StaysIn h' → B'.get? C = none → D ≠ C → h₁.get? D = none → h'.Ns C m' → h'.get? D = some (lobj ys k) → Paired O (xs.flatMap fun a => (ystr.cps.toList.filter (p a)).map (f a)) ys.toList → compPost (model prog w) A E use Q (.ref D) C (.ok .next) ⟨h', g, d, tk', o⟩)) E s)
    (hs : ∀ x, foldedSetIterable iter env x = pure x := by intro _; rfl) :
    wpAny (model prog w) A (comprehension (.ListComp elt [⟨.Name x px, iter, [], 0⟩, ⟨.Name y py, .Constant (.str ystr) kk cp, [c], 0⟩] scope pos) scope env pos' (newList []) false (eval iter env) use) Q E s := by
  refine comp_open (g := g) (d := d) (o := o) xs PA hh hclos hkind hcl hnd hnames (h.mono fun xv s₁ q => ?_) hs
  obtain ⟨h₁, tk₁, m, cm, rfl, R, feed, htests, helt, hfin⟩ := q
  refine ⟨h₁, tk₁, m, cm, rfl, R, feed, fun C n I oI D St h₄ S hnD hDC F h0 => ?_⟩
  have hrk : (compEnvC scope (compCells n scope cl) C env).scope.kind = .function := hkind
  have hAm : A.mark none = A := by cases A; rfl
  have bound : ∀ (l : List α), (l.flatMap fun a => (ystr.cps.toList.filter (p a)).map (f a)).length ≤ l.length * ystr.cps.toList.length := fun l => by
    induction l with
    | nil => simp
    | cons a l ih =>
      rw [List.flatMap_cons, List.length_append, List.length_map, List.length_cons, Nat.succ_mul]
      have := List.length_filter_le (p a) ystr.cps.toList
      omega
  refine cl_loop (x := x) (px := px) (ip := iter.pos) (ifs := []) true rfl rfl rfl turn_two hrk (hx n C) (S A hh)
    (fun i B m' cm' N => cm' = cm0 scope cm ∧ ∃ ys k, N = [(D, lobj ys k)] ∧ Paired O ((xs.take i).flatMap fun a => (ystr.cps.toList.filter (p a)).map (f a)) ys.toList)
    F h0 ⟨rfl, #[], 0, rfl, by simpa using Paired.nil⟩ ?_ ?_
  · rintro i a v B' m' cm' N oI' h tk E₂ ha hv hB F' ⟨rfl, ys, k, rfl, hp⟩
    have hmem : a ∈ xs := List.mem_of_getElem? ha
    have htake : xs.take (i + 1) = xs.take i ++ [a] := by rw [List.take_add_one, ha]; rfl
    refine wpAny_tests_nil ?_
    rw [if_pos rfl]
    refine wpAny_bind (c_str fun t tk₂ => ?_)
    refine wpAny_bind (wpAny_standAt (wpAny_bind (wpAny_pure (wpAny_bind (wpAny_holding ?_)))))
    refine feed_str (B := B') ⟨h, g, d, tk₂, o⟩ A _ _ F'.keep fun I₂ oI₂ h₅ St₂ S₂ st₅ hnI₂ hI₂ h0₂ => ?_
    have F₅ := F'.push st₅ hnI₂ hI₂
    have inner : ∀ R : Result → Shared → Prop, (∀ B₃ m₃ N₃ h₃ tk₃, B'.StaysIn B₃ → Fx B₃ (compEnvC scope (compCells n scope cl) C env) (compCells n scope []) m₃ (cm0 scope cm) N₃ h₃ →
        (∃ ys k, N₃ = [(I, oI'), (D, lobj ys k)] ∧ Paired O ((xs.take (i + 1)).flatMap fun a => (ystr.cps.toList.filter (p a)).map (f a)) ys.toList) → R (.ok .next) ⟨h₃, g, d, tk₃, o⟩) →
        codeAny (model prog w) A (.compLoop (.ListComp elt [⟨.Name x px, iter, [], 0⟩, ⟨.Name y py, .Constant (.str ystr) kk cp, [c], 0⟩] scope pos) 1 (.ref I₂) (.ref D) (compEnvC scope (compCells n scope cl) C env)) R ⟨h₅, g, d, tk₂, o⟩ := by
      intro RR hRR
      refine cl_loop (x := y) (px := py) (ip := cp) (ifs := [c]) true rfl rfl rfl turn_two1 hrk (hy n C) (S₂ A hh)
        (fun j B m' cm' N => cm' = cm0 scope cm ∧ m' x = some v ∧ ∃ ys k, N = [(I, oI'), (D, lobj ys k)] ∧ Paired O (((xs.take i).flatMap fun a => (ystr.cps.toList.filter (p a)).map (f a)) ++ ((ystr.cps.toList.take j).filter (p a)).map (f a)) ys.toList)
        F₅ h0₂ ⟨rfl, set_eq, ys, k, rfl, by simpa using hp⟩ ?_ ?_
      · rintro j u vu B₃ m₃ cm₃ N₃ oI₃ h₃ tk₃ E₃ hu ⟨t, rfl⟩ hB₃ F₃ ⟨rfl, hmx, ys, k, rfl, hp⟩
        have hmu : u ∈ ystr.cps.toList := List.mem_of_getElem? hu
        have hm1 : bindX true y (.str ⟨#[u]⟩ t) m₃ x = some v := by show (if x = y then _ else m₃ x) = _; rw [if_neg hxy]; exact hmx
        have hm2 : bindX true y (.str ⟨#[u]⟩ t) m₃ y = some (.str ⟨#[u]⟩ t) := if_pos rfl
        have kh : h₁.StaysIn h₃ := Stay.trans hB (Stay.trans hB₃ F₃.keep)
        have htk : ystr.cps.toList.take (j + 1) = ystr.cps.toList.take j ++ [u] := by rw [List.take_add_one, hu]; rfl
        refine wpAny_tests_one (wpAny_mono (htests C n a v u t _ h₃ tk₃ E₃ hmem hv hmu kh F₃.rd hm1 hm2).to (fun ok s' q => ?_) fun _ _ x => x)
        obtain ⟨h', tk', rfl, st', rfl⟩ := q
        have F'' := F₃.keeps st'
        cases hpa : p a u with
        | false =>
          rw [if_neg Bool.false_ne_true]
          refine ⟨B₃, _, _, _, h', tk', rfl, Stay.refl _, F'', rfl, hm1, ys, k, rfl, ?_⟩
          rw [htk, List.filter_append]; simpa [hpa] using hp
        | true =>
          rw [if_pos rfl]
          have hsize : ys.size ≤ 1000000 := by
            have e1 := hp.length
            have e4 : ys.toList.length = ys.size := by simp
            rw [List.length_append, List.length_map] at e1
            have b1 := bound (xs.take i)
            have b2 := List.length_filter_le (p a) (ystr.cps.toList.take j)
            have b3 : (ystr.cps.toList.take j).length ≤ ystr.cps.toList.length := by rw [List.length_take]; exact Nat.min_le_right _ _
            have b4 : (xs.take i).length ≤ xs.length := by rw [List.length_take]; exact Nat.min_le_right _ _
            have b5 := Nat.mul_le_mul_right ystr.cps.toList.length b4
            rw [Nat.succ_mul] at hlen
            omega
          refine cl_append [(I₂, oI₃), (I, oI')] F'' hsize ((helt C n a v u t _ h' tk' E₃ hmem hv hmu hpa (Stay.trans kh st') F''.rd hm1 hm2).mono ?_)
          rintro z s₃ ⟨h₅, tk₅, rfl, st₅, hz⟩
          refine ⟨h₅, tk₅, rfl, st₅, fun B₂ h₆ hB₂ new k' F₆ => ⟨rfl, B₂, _, _, _, h₆, tk₅, rfl, hB₂, F₆, rfl, hm1, ys.push z, k', rfl, ?_⟩⟩
          have e : ((ystr.cps.toList.take (j + 1)).filter (p a)).map (f a) = ((ystr.cps.toList.take j).filter (p a)).map (f a) ++ [f a u] := by rw [htk, List.filter_append]; simp [hpa]
          rw [e, Array.toList_push, ← List.append_assoc]
          exact Paired.snoc hp hz
      · rintro B₃ m₃ cm₃ N₃ h₃ tk₃ hB₃ F₃ ⟨rfl, _, ys, k, rfl, hp⟩
        refine hRR B₃ m₃ _ h₃ tk₃ hB₃ F₃ ⟨ys, k, rfl, ?_⟩
        rw [List.take_length] at hp
        rw [htake, List.flatMap_append]
        simpa using hp
    refine wpAny_bind (wpAny_runOwn ?_)
    rw [hAm]
    have fin : ∀ B₃ m₃ N₃ h₃ tk₃, B'.StaysIn B₃ → Fx B₃ (compEnvC scope (compCells n scope cl) C env) (compCells n scope []) m₃ (cm0 scope cm) N₃ h₃ →
        (∃ ys k, N₃ = [(I, oI'), (D, lobj ys k)] ∧ Paired O ((xs.take (i + 1)).flatMap fun a => (ystr.cps.toList.filter (p a)).map (f a)) ys.toList) →
        wpAny (model prog w) A (again (.compLoop (.ListComp elt [⟨.Name x px, iter, [], 0⟩, ⟨.Name y py, .Constant (.str ystr) kk cp, [c], 0⟩] scope pos) 0 (.ref I) (.ref D) (compEnvC scope (compCells n scope cl) C env)))
          (fun fin s₄ => fin = .again (.compLoop (.ListComp elt [⟨.Name x px, iter, [], 0⟩, ⟨.Name y py, .Constant (.str ystr) kk cp, [c], 0⟩] scope pos) 0 (.ref I) (.ref D) (compEnvC scope (compCells n scope cl) C env)) ∧
            ∃ B₂ m' cm' N' h' tk', s₄ = (⟨h', g, d, tk', o⟩ : Shared) ∧ B'.StaysIn B₂ ∧ Fx B₂ (compEnvC scope (compCells n scope cl) C env) (compCells n scope []) m' cm' ((I, oI') :: N') h' ∧
              cm' = cm0 scope cm ∧ ∃ ys k, N' = [(D, lobj ys k)] ∧ Paired O ((xs.take (i + 1)).flatMap fun a => (ystr.cps.toList.filter (p a)).map (f a)) ys.toList) E₂ ⟨h₃, g, d, tk₃, o⟩ := by
      rintro B₃ m₃ N₃ h₃ tk₃ hB₃ F₃ ⟨ys, k, rfl, hp⟩
      exact wpAny_pure ⟨rfl, B₃, m₃, _, [(D, lobj ys k)], h₃, tk₃, rfl, hB₃, F₃, rfl, ys, k, rfl, hp⟩
    refine codeAny_start1 (inner _ fin) ?_
    exact S₂ A hh |>.self 0 ⟨h₅, g, d, tk₂, o⟩ oI₂ _ _ (Stay.trans F'.keep st₅) hI₂ h0₂ (inner _ fin)
  · rintro B' m' cm' N h tk hB F' ⟨_, ys, k, rfl, hp⟩
    rw [List.take_length] at hp
    exact hfin D C B' m' h tk ys k hB F'.keep F'.off hDC hnD F'.rd.ns (F'.news (D, lobj ys k) (.head _)).1 hp

/-- what is left behind a comprehension that is a value -/
theorem post_none {Q : Value → Shared → Prop} {D C : Addr} {B' h' : Heap} {m' : Str → Option Value} {tk' : Nat} (hC : B'.get? C = none) (hb : B'.StaysIn h') (hn : h'.Ns C m')
    (h : ∀ h'', B'.StaysIn h'' → (∀ b o, b ≠ C → h'.get? b = some o → h''.get? b = some o) → Q (.ref D) ⟨h'', g, d, tk', o⟩) : compPost (model prog w) A E none Q (.ref D) C (.ok .next) ⟨h', g, d, tk', o⟩ := by
  refine ⟨m', hn, fun h'' hs'' => h h'' (fun b ob e => ?_) fun b ob hne e => (hs''.2 b hne).trans e⟩
  exact (hs''.2 b (by rintro rfl; rw [hC] at e; cases e)).trans (hb _ _ e)
/-- what is left behind a comprehension put into a local -/
theorem post_set {Q : Value → Shared → Prop} {D C : Addr} {B B' h₁ h' : Heap} {m m' cm : Str → Option Value} {N : List (Addr × Obj)} {tk' : Nat} {y : Str} {py : Pos} (F : Fm B env m cm N h₁) (hB : h₁.StaysIn B') (hC : B'.get? C = none) (hb : B'.StaysIn h') (hn : h'.Ns C m')
    (hk : env.scope.kind = .function) (hl : env.kindOf y = some .local) (hD : h₁.get? D = none) (hDC : D ≠ C)
    (h : ∀ h'' tk'', Fm B env (fun z => if z = y then some (.ref D) else m z) cm N h'' → (∀ b o, b ≠ C → b ≠ env.locals → h'.get? b = some o → h''.get? b = some o) → Q .none ⟨h'', g, d, tk'', o⟩) : compPost (model prog w) A E (some (assign (.Name y py) env)) Q (.ref D) C (.ok .next) ⟨h', g, d, tk', o⟩ := by
  show wpAny _ _ (assign (.Name y py) env (.ref D)) _ _ _
  have F' := F.keeps (Stay.trans hB hb)
  refine wpAny_assign_Name (st_local F' (fun h₂ tk₂ F₂ kp => ?_) hk hl)
  have hCl : C ≠ env.locals := by
    rintro rfl
    obtain ⟨ob, e⟩ := Ns.some F.rd.ns
    rw [hB _ _ e] at hC; cases hC
  refine ⟨m', hn.at' fun ob e => kp _ ob hCl e, fun h'' hs'' => ?_⟩
  have hbut : ∀ b ob, b ≠ C → h₂.get? b = some ob → h''.get? b = some ob := fun b ob hne e => (hs''.2 b hne).trans e
  have hnin : ∀ b, (∃ ob, h₁.get? b = some ob) → b ≠ C := by
    rintro b ⟨ob, e⟩ rfl
    rw [hB _ _ e] at hC; cases hC
  refine h h'' tk₂ ?_ fun b ob h1 h2 e => hbut b ob h1 (kp b ob h2 e)
  refine ⟨F₂.rd.at' (fun ob e => hbut _ ob (Ne.symm hCl) e) (fun n c e ob eo => hbut c ob ?_ eo), fun b ob e => hbut b ob (hnin b ⟨ob, F.keep _ _ e⟩) (F₂.keep _ _ e), F₂.off, F₂.look, F₂.coff, F₂.apart, fun p hp => ⟨hbut _ _ (hnin _ ⟨_, (F.news p hp).1⟩) (F₂.news p hp).1, (F₂.news p hp).2⟩, F₂.napart⟩
  obtain ⟨oc, ho, _⟩ := F.rd.cell n c e
  exact hnin c ⟨oc, ho⟩
theorem clOf_all {scope : Scope} {env : Env} (h : (scope.names.all fun x => !(x.2 == .free) || (env.cells.lookup x.1).isSome) = true) : ((clOf scope env).all fun p => env.cells.lookup p.1 == some p.2) = true := by
  unfold clOf
  have key : ∀ (l : List (Str × NameKind)) (acc : List (Str × Addr)), (l.all fun x => !(x.2 == .free) || (env.cells.lookup x.1).isSome) = true → (acc.all fun p => env.cells.lookup p.1 == some p.2) = true →
      ((l.foldl (fun cs x => if x.2 == .free then (x.1, (env.cells.lookup x.1).getD 0) :: cs else cs) acc).all fun p => env.cells.lookup p.1 == some p.2) = true := by
    intro l
    induction l with
    | nil => intro acc _ h; exact h
    | cons x l ih =>
      intro acc hl ha
      rw [List.all_cons, Bool.and_eq_true] at hl
      rw [List.foldl_cons]
      refine ih _ hl.2 ?_
      by_cases hf : (x.2 == NameKind.free) = true
      · rw [if_pos hf, List.all_cons, Bool.and_eq_true]
        refine ⟨?_, ha⟩
        have h1 := hl.1
        rw [hf] at h1
        cases hlk : env.cells.lookup x.1 with
        | none => rw [hlk] at h1; cases h1
        | some c => simp
      · rw [if_neg hf]; exact ha
  exact key _ _ h rfl
/-- an element is made -/
inductive EltOk (g : Array GenState) (d : Drawn) (o : OsState) (h₁ h : Heap) (O : Value → Heap → Prop) (y : Value) (s' : Shared) : Prop
  | mk (h' : Heap) (tk' : Nat) (e : s' = ⟨h', g, d, tk', o⟩) (st : h.StaysIn h') (out : ∀ H, h₁.StaysIn H → (∀ a ob, h.get? a = none → h'.get? a = some ob → H.get? a = some ob) → O y H)
inductive TestOk (g : Array GenState) (d : Drawn) (o : OsState) (h : Heap) (r : Bool) (ok : Bool) (s' : Shared) : Prop
  | mk (h' : Heap) (tk' : Nat) (e : s' = ⟨h', g, d, tk', o⟩) (st : h.StaysIn h') (eq : ok = r)
inductive Elt2Ok (g : Array GenState) (d : Drawn) (o : OsState) (h : Heap) (O : Value → Prop) (z : Value) (s' : Shared) : Prop
  | mk (h' : Heap) (tk' : Nat) (e : s' = ⟨h', g, d, tk', o⟩) (st : h.StaysIn h') (out : O z)
theorem EltOk.ex {g : Array GenState} {d : Drawn} {o : OsState} {h₁ h : Heap} {O : Value → Heap → Prop} {y : Value} {s' : Shared} (q : EltOk g d o h₁ h O y s') :
    ∃ h' tk', s' = ⟨h', g, d, tk', o⟩ ∧ h.StaysIn h' ∧ ∀ H, h₁.StaysIn H → (∀ a ob, h.get? a = none → h'.get? a = some ob → H.get? a = some ob) → O y H := let ⟨a, b, c, d, e⟩ := q; ⟨a, b, c, d, e⟩
theorem TestOk.ex {g : Array GenState} {d : Drawn} {o : OsState} {h : Heap} {r ok : Bool} {s' : Shared} (q : TestOk g d o h r ok s') : ∃ h' tk', s' = ⟨h', g, d, tk', o⟩ ∧ h.StaysIn h' ∧ ok = r := let ⟨a, b, c, d, e⟩ := q; ⟨a, b, c, d, e⟩
theorem Elt2Ok.ex {g : Array GenState} {d : Drawn} {o : OsState} {h : Heap} {O : Value → Prop} {z : Value} {s' : Shared} (q : Elt2Ok g d o h O z s') : ∃ h' tk', s' = ⟨h', g, d, tk', o⟩ ∧ h.StaysIn h' ∧ O z := let ⟨a, b, c, d, e⟩ := q; ⟨a, b, c, d, e⟩
/-- the inner frame of a comprehension -/
abbrev inn (scope : Scope) (env : Env) (n : Nat) (C : Addr) : Env := compEnvC scope (compCells n scope (clOf scope env)) C env
section
variable {α β : Type} (prog : Program) (w : World) (A : Around) (g : Array GenState) (d : Drawn) (o : OsState) (env : Env) (scope : Scope) (x : Str) (xs : List α) (PA : α → Value → Prop)
inductive CompGo (elt : Expr) (f : α → β) (O : β → Value → Heap → Prop) (Q : Value → Shared → Prop) (xv : Value) (s₁ : Shared) : Prop
  | mk (h₁ : Heap) (tk₁ : Nat) (m cm : Str → Option Value) (e : s₁ = ⟨h₁, g, d, tk₁, o⟩) (R : Rd env m cm h₁) (feed : Feed prog w h₁ xv xs PA) (len : xs.length ≤ 1000000)
    (elts : ∀ C n a v h tk E', a ∈ xs → PA a v → h₁.StaysIn h → Rd (inn scope env n C) (fun y => if y = x then some v else none) (cm0 scope cm) h →
        Wp (model prog w) A (eval elt (inn scope env n C)) (EltOk g d o h₁ h (O (f a))) E' ⟨h, g, d, tk, o⟩)
    (fin : ∀ D h' tk' ys k, h₁.StaysIn h' → h₁.get? D = none → h'.get? D = some (lobj ys k) → Paired (fun b y => O b y h') (xs.map f) ys.toList → Q (.ref D) ⟨h', g, d, tk', o⟩)
inductive CompGoO (elt : Expr) (f : α → β) (O : β → Value → Heap → Prop) (Q : Value → Shared → Prop) (xv : Value) (s₁ : Shared) : Prop
  | mk (h₁ : Heap) (tk₁ : Nat) (m cm : Str → Option Value) (e : s₁ = ⟨h₁, g, d, tk₁, o⟩) (R : Rd env m cm h₁) (feed : Feed prog w h₁ xv xs PA) (len : xs.length ≤ 1000000)
    (elts : ∀ C n a v h tk E', a ∈ xs → PA a v → h₁.StaysIn h → Rd (inn scope env n C) (fun _ => none) (fun y => if y = x then some v else cm0 scope cm y) h →
        Wp (model prog w) A (eval elt (inn scope env n C)) (EltOk g d o h₁ h (O (f a))) E' ⟨h, g, d, tk, o⟩)
    (fin : ∀ D h' tk' ys k, h₁.StaysIn h' → h₁.get? D = none → h'.get? D = some (lobj ys k) → Paired (fun b y => O b y h') (xs.map f) ys.toList → Q (.ref D) ⟨h', g, d, tk', o⟩)
inductive CompGoF (elt c : Expr) (p : α → Bool) (f : α → β) (O : β → Value → Heap → Prop) (Q : Value → Shared → Prop) (xv : Value) (s₁ : Shared) : Prop
  | mk (h₁ : Heap) (tk₁ : Nat) (m cm : Str → Option Value) (e : s₁ = ⟨h₁, g, d, tk₁, o⟩) (R : Rd env m cm h₁) (feed : Feed prog w h₁ xv xs PA) (len : xs.length ≤ 1000000)
    (tests : ∀ C n a v h tk E', a ∈ xs → PA a v → h₁.StaysIn h → Rd (inn scope env n C) (fun y => if y = x then some v else none) (cm0 scope cm) h →
        Wp (model prog w) A (isTrue c (inn scope env n C) (eval c (inn scope env n C))) (TestOk g d o h (p a)) E' ⟨h, g, d, tk, o⟩)
    (elts : ∀ C n a v h tk E', a ∈ xs → p a = true → PA a v → h₁.StaysIn h → Rd (inn scope env n C) (fun y => if y = x then some v else none) (cm0 scope cm) h →
        Wp (model prog w) A (eval elt (inn scope env n C)) (EltOk g d o h₁ h (O (f a))) E' ⟨h, g, d, tk, o⟩)
    (fin : ∀ D h' tk' ys k, h₁.StaysIn h' → h₁.get? D = none → h'.get? D = some (lobj ys k) → Paired (fun b y => O b y h') ((xs.filter p).map f) ys.toList → Q (.ref D) ⟨h', g, d, tk', o⟩)
inductive SetGoO (E : Value → Shared → Prop) (elt : Expr) (z : Str) (rest : List Stmt) (f : α → β) (O : β → Value → Heap → Prop) (Q : Flow → Shared → Prop) (xv : Value) (s₁ : Shared) : Prop
  | mk (h₁ : Heap) (tk₁ : Nat) (B : Heap) (m cm : Str → Option Value) (N : List (Addr × Obj)) (e : s₁ = ⟨h₁, g, d, tk₁, o⟩) (F : Fm B env m cm N h₁) (feed : Feed prog w h₁ xv xs PA) (len : xs.length ≤ 1000000)
    (elts : ∀ C n a v h tk E', a ∈ xs → PA a v → h₁.StaysIn h → Rd (inn scope env n C) (fun _ => none) (fun y => if y = x then some v else cm0 scope cm y) h →
        Wp (model prog w) A (eval elt (inn scope env n C)) (EltOk g d o h₁ h (O (f a))) E' ⟨h, g, d, tk, o⟩)
    (fin : ∀ D h' tk' ys k, Fm B env (fun q => if q = z then some (.ref D) else m q) cm N h' → (∀ b o, b ≠ env.locals → h₁.get? b = some o → h'.get? b = some o) → h₁.get? D = none → h'.get? D = some (lobj ys k) → (∃ H, Paired (fun b y => O b y H) (xs.map f) ys.toList) →
        Wp (model prog w) A (execs rest env) Q E ⟨h', g, d, tk', o⟩)
variable (y : Str) (us : List Nat)
inductive CompGo2 (elt c : Expr) (p : α → Nat → Bool) (f : α → Nat → β) (O : β → Value → Prop) (Q : Value → Shared → Prop) (xv : Value) (s₁ : Shared) : Prop
  | mk (h₁ : Heap) (tk₁ : Nat) (m cm : Str → Option Value) (e : s₁ = ⟨h₁, g, d, tk₁, o⟩) (R : Rd env m cm h₁) (feed : Feed prog w h₁ xv xs PA)
    (tests : ∀ C n a v u t m' h tk E', a ∈ xs → PA a v → u ∈ us → h₁.StaysIn h → Rd (inn scope env n C) m' (cm0 scope cm) h → m' x = some v → m' y = some (.str ⟨#[u]⟩ t) →
        Wp (model prog w) A (isTrue c (inn scope env n C) (eval c (inn scope env n C))) (TestOk g d o h (p a u)) E' ⟨h, g, d, tk, o⟩)
    (elts : ∀ C n a v u t m' h tk E', a ∈ xs → PA a v → u ∈ us → p a u = true → h₁.StaysIn h → Rd (inn scope env n C) m' (cm0 scope cm) h → m' x = some v → m' y = some (.str ⟨#[u]⟩ t) →
        Wp (model prog w) A (eval elt (inn scope env n C)) (Elt2Ok g d o h (O (f a u))) E' ⟨h, g, d, tk, o⟩)
    (fin : ∀ D h' tk' ys k, h₁.StaysIn h' → h₁.get? D = none → h'.get? D = some (lobj ys k) → Paired O (xs.flatMap fun a => (us.filter (p a)).map (f a)) ys.toList → Q (.ref D) ⟨h', g, d, tk', o⟩)
inductive SetGo2 (E : Value → Shared → Prop) (elt c : Expr) (z : Str) (rest : List Stmt) (p : α → Nat → Bool) (f : α → Nat → β) (O : β → Value → Prop) (Q : Flow → Shared → Prop) (xv : Value) (s₁ : Shared) : Prop
  | mk (h₁ : Heap) (tk₁ : Nat) (B : Heap) (m cm : Str → Option Value) (N : List (Addr × Obj)) (e : s₁ = ⟨h₁, g, d, tk₁, o⟩) (F : Fm B env m cm N h₁) (feed : Feed prog w h₁ xv xs PA)
    (tests : ∀ C n a v u t m' h tk E', a ∈ xs → PA a v → u ∈ us → h₁.StaysIn h → Rd (inn scope env n C) m' (cm0 scope cm) h → m' x = some v → m' y = some (.str ⟨#[u]⟩ t) →
        Wp (model prog w) A (isTrue c (inn scope env n C) (eval c (inn scope env n C))) (TestOk g d o h (p a u)) E' ⟨h, g, d, tk, o⟩)
    (elts : ∀ C n a v u t m' h tk E', a ∈ xs → PA a v → u ∈ us → p a u = true → h₁.StaysIn h → Rd (inn scope env n C) m' (cm0 scope cm) h → m' x = some v → m' y = some (.str ⟨#[u]⟩ t) →
        Wp (model prog w) A (eval elt (inn scope env n C)) (Elt2Ok g d o h (O (f a u))) E' ⟨h, g, d, tk, o⟩)
    (fin : ∀ D h' tk' ys k, Fm B env (fun q => if q = z then some (.ref D) else m q) cm N h' → (∀ b o, b ≠ env.locals → h₁.get? b = some o → h'.get? b = some o) → h₁.get? D = none → h'.get? D = some (lobj ys k) → Paired O (xs.flatMap fun a => (us.filter (p a)).map (f a)) ys.toList →
        Wp (model prog w) A (execs rest env) Q E ⟨h', g, d, tk', o⟩)
end
theorem w_comp {α β : Type} {elt iter : Expr} {x : Str} {px : Pos} {scope : Scope} {Q : Value → Shared → Prop} (xs : List α) (PA : α → Value → Prop) (f : α → β)
    (O : β → Value → Heap → Prop) (hO : ∀ b y H H', O b y H → H.StaysIn H' → O b y H') (hh : A.handled = none)
    (h : Wp (model prog w) A (eval iter env) (CompGo prog w A g d o env scope x xs PA elt f O Q) E ⟨hp, g, d, tk, o⟩)
    (hclos : closureFor scope env = pure (clOf scope env) := by rfl) (hkind : scope.kind = .function := by rfl) (hfr : (scope.names.all fun x => !(x.2 == .free) || (env.cells.lookup x.1).isSome) = true := by rfl) (hnd : ((cellsFrom 0 scope.names []).map (·.1)).Nodup := by decide +kernel)
    (hnames : ∀ y ∈ scope.names, y.2 = .local → scope.names.lookup y.1 = some .local := by decide +kernel)
    (hx : ∀ n C, KX true (compEnvC scope (compCells n scope (clOf scope env)) C env) x (compCells n scope []) := by intro _ _; exact rfl)
    (hs : ∀ x, foldedSetIterable iter env x = pure x := by intro _; rfl) :
    Wp (model prog w) A (eval (.ListComp elt [⟨.Name x px, iter, [], 0⟩] scope pos) env) Q E ⟨hp, g, d, tk, o⟩ := by
  refine .of ?_
  rw [eval_ListComp]
  refine comp_main (g := g) (d := d) (o := o) xs PA (fun _ => true) f O true hO hh hclos hkind (clOf_all hfr) hnd hnames hx (h.mono fun xv s₁ q => ?_) hs
  obtain ⟨h₁, tk₁, m, cm, rfl, R, feed, hlen, helt, hfin⟩ := q
  refine ⟨h₁, tk₁, m, cm, rfl, R, feed, hlen, fun C n a v h tk E' ha hv st R' => wpAny_tests_nil ⟨h, tk, rfl, Stay.refl _, rfl⟩, fun C n a v h tk E' ha _ hv st R' => (helt C n a v h tk E' ha hv st R').mono fun _ _ q => q.ex, fun D C B' m' h' tk' ys k hB hb hC hDC hnD hn hD hp => post_none hC hb hn fun h'' hb' hkk => hfin D h'' tk' ys k (Stay.trans hB hb') hnD (hkk _ _ hDC hD) ?_⟩
  have hp := hp _ hb'
  rwa [List.filter_eq_self.mpr (fun _ _ => rfl)] at hp

theorem w_compf {α β : Type} {elt iter c : Expr} {x : Str} {px : Pos} {scope : Scope} {Q : Value → Shared → Prop} (xs : List α) (PA : α → Value → Prop) (p : α → Bool) (f : α → β)
    (O : β → Value → Heap → Prop) (hO : ∀ b y H H', O b y H → H.StaysIn H' → O b y H') (hh : A.handled = none)
    (h : Wp (model prog w) A (eval iter env) (CompGoF prog w A g d o env scope x xs PA elt c p f O Q) E ⟨hp, g, d, tk, o⟩)
    (hclos : closureFor scope env = pure (clOf scope env) := by rfl) (hkind : scope.kind = .function := by rfl) (hfr : (scope.names.all fun x => !(x.2 == .free) || (env.cells.lookup x.1).isSome) = true := by rfl) (hnd : ((cellsFrom 0 scope.names []).map (·.1)).Nodup := by decide +kernel)
    (hnames : ∀ y ∈ scope.names, y.2 = .local → scope.names.lookup y.1 = some .local := by decide +kernel)
    (hx : ∀ n C, KX true (compEnvC scope (compCells n scope (clOf scope env)) C env) x (compCells n scope []) := by intro _ _; exact rfl)
    (hs : ∀ x, foldedSetIterable iter env x = pure x := by intro _; rfl) :
    Wp (model prog w) A (eval (.ListComp elt [⟨.Name x px, iter, [c], 0⟩] scope pos) env) Q E ⟨hp, g, d, tk, o⟩ := by
  refine .of ?_
  rw [eval_ListComp]
  refine comp_main (g := g) (d := d) (o := o) xs PA p f O true hO hh hclos hkind (clOf_all hfr) hnd hnames hx (h.mono fun xv s₁ q => ?_) hs
  obtain ⟨h₁, tk₁, m, cm, rfl, R, feed, hlen, htests, helt, hfin⟩ := q
  exact ⟨h₁, tk₁, m, cm, rfl, R, feed, hlen, fun C n a v h tk E' ha hv st R' => wpAny_tests_one ((htests C n a v h tk E' ha hv st R').mono fun _ _ q => q.ex).to, fun C n a v h tk E' h1 h2 h3 h4 h5 => (helt C n a v h tk E' h1 h2 h3 h4 h5).mono fun _ _ q => q.ex, fun D C B' m' h' tk' ys k hB hb hC hDC hnD hn hD hp =>
    post_none hC hb hn fun h'' hb' hkk => hfin D h'' tk' ys k (Stay.trans hB hb') hnD (hkk _ _ hDC hD) (hp _ hb')⟩

theorem w_compo {α β : Type} {elt iter : Expr} {x : Str} {px : Pos} {scope : Scope} {Q : Value → Shared → Prop} (xs : List α) (PA : α → Value → Prop) (f : α → β)
    (O : β → Value → Heap → Prop) (hO : ∀ b y H H', O b y H → H.StaysIn H' → O b y H') (hh : A.handled = none)
    (h : Wp (model prog w) A (eval iter env) (CompGoO prog w A g d o env scope x xs PA elt f O Q) E ⟨hp, g, d, tk, o⟩)
    (hclos : closureFor scope env = pure (clOf scope env) := by rfl) (hkind : scope.kind = .function := by rfl) (hfr : (scope.names.all fun x => !(x.2 == .free) || (env.cells.lookup x.1).isSome) = true := by rfl) (hnd : ((cellsFrom 0 scope.names []).map (·.1)).Nodup := by decide +kernel)
    (hnames : ∀ y ∈ scope.names, y.2 = .local → scope.names.lookup y.1 = some .local := by decide +kernel)
    (hx : ∀ n C, KX false (compEnvC scope (compCells n scope (clOf scope env)) C env) x (compCells n scope []) := by intro n _; exact ⟨rfl, n, List.Mem.head _⟩)
    (hs : ∀ x, foldedSetIterable iter env x = pure x := by intro _; rfl) :
    Wp (model prog w) A (eval (.ListComp elt [⟨.Name x px, iter, [], 0⟩] scope pos) env) Q E ⟨hp, g, d, tk, o⟩ := by
  refine .of ?_
  rw [eval_ListComp]
  refine comp_main (g := g) (d := d) (o := o) xs PA (fun _ => true) f O false hO hh hclos hkind (clOf_all hfr) hnd hnames hx (h.mono fun xv s₁ q => ?_) hs
  obtain ⟨h₁, tk₁, m, cm, rfl, R, feed, hlen, helt, hfin⟩ := q
  refine ⟨h₁, tk₁, m, cm, rfl, R, feed, hlen, fun C n a v h tk E' ha hv st R' => wpAny_tests_nil ⟨h, tk, rfl, Stay.refl _, rfl⟩, fun C n a v h tk E' ha _ hv st R' => (helt C n a v h tk E' ha hv st R').mono fun _ _ q => q.ex, fun D C B' m' h' tk' ys k hB hb hC hDC hnD hn hD hp => post_none hC hb hn fun h'' hb' hkk => hfin D h'' tk' ys k (Stay.trans hB hb') hnD (hkk _ _ hDC hD) ?_⟩
  have hp := hp _ hb'
  rwa [List.filter_eq_self.mpr (fun _ _ => rfl)] at hp

theorem w_comp2 {α β : Type} {elt iter c : Expr} {x y ystr : Str} {px py cp : Pos} {kk : Nat} {scope : Scope} {Q : Value → Shared → Prop} (xs : List α) (PA : α → Value → Prop) (p : α → Nat → Bool) (f : α → Nat → β)
    (O : β → Value → Prop) (hh : A.handled = none) (hlen : (xs.length + 1) * ystr.cps.toList.length ≤ 1000000)
    (h : Wp (model prog w) A (eval iter env) (CompGo2 prog w A g d o env scope x xs PA y ystr.cps.toList elt c p f O Q) E ⟨hp, g, d, tk, o⟩)
    (hclos : closureFor scope env = pure (clOf scope env) := by rfl) (hkind : scope.kind = .function := by rfl) (hfr : (scope.names.all fun x => !(x.2 == .free) || (env.cells.lookup x.1).isSome) = true := by rfl) (hnd : ((cellsFrom 0 scope.names []).map (·.1)).Nodup := by decide +kernel)
    (hnames : ∀ y ∈ scope.names, y.2 = .local → scope.names.lookup y.1 = some .local := by decide +kernel)
    (hx : ∀ n C, KX true (compEnvC scope (compCells n scope (clOf scope env)) C env) x (compCells n scope []) := by intro _ _; exact rfl)
    (hs : ∀ x, foldedSetIterable iter env x = pure x := by intro _; rfl)
    (hy : ∀ n C, KX true (compEnvC scope (compCells n scope (clOf scope env)) C env) y (compCells n scope []) := by intro _ _; exact rfl) (hxy : x ≠ y := by decide) :
    Wp (model prog w) A (eval (.ListComp elt [⟨.Name x px, iter, [], 0⟩, ⟨.Name y py, .Constant (.str ystr) kk cp, [c], 0⟩] scope pos) env) Q E ⟨hp, g, d, tk, o⟩ :=
  .of (by
    rw [eval_ListComp]
    refine comp_two (g := g) (d := d) (o := o) xs PA p f O hh hlen hclos hkind (clOf_all hfr) hnd hnames hx hy hxy (h.mono fun xv s₁ q => ?_) hs
    obtain ⟨h₁, tk₁, m, cm, rfl, R, feed, htests, helt, hfin⟩ := q
    exact ⟨h₁, tk₁, m, cm, rfl, R, feed, fun C n a v u t m' h tk E' h1 h2 h3 h4 h5 h6 h7 => (htests C n a v u t m' h tk E' h1 h2 h3 h4 h5 h6 h7).mono fun _ _ q => q.ex, fun C n a v u t m' h tk E' h1 h2 h3 h4 h5 h6 h7 h8 => (helt C n a v u t m' h tk E' h1 h2 h3 h4 h5 h6 h7 h8).mono fun _ _ q => q.ex, fun D C B' m' h' tk' ys k hB hb hC hDC hnD hn hD hp => post_none hC hb hn fun h'' hb' hkk => hfin D h'' tk' ys k (Stay.trans hB hb') hnD (hkk _ _ hDC hD) hp⟩)

theorem w_setcomp2 {α β : Type} {elt iter c : Expr} {x y z ystr : Str} {px py pz cp spos : Pos} {kk : Nat} {scope : Scope} {rest : List Stmt} {Q : Flow → Shared → Prop} (xs : List α) (PA : α → Value → Prop) (p : α → Nat → Bool) (f : α → Nat → β)
    (O : β → Value → Prop) (hh : A.handled = none) (hlen : (xs.length + 1) * ystr.cps.toList.length ≤ 1000000)
    (h : Wp (model prog w) A (eval iter env) (SetGo2 prog w A g d o env scope x xs PA y ystr.cps.toList E elt c z rest p f O Q) E ⟨hp, g, d, tk, o⟩)
    (hclos : closureFor scope env = pure (clOf scope env) := by rfl) (hkind : scope.kind = .function := by rfl) (hfr : (scope.names.all fun x => !(x.2 == .free) || (env.cells.lookup x.1).isSome) = true := by rfl) (hnd : ((cellsFrom 0 scope.names []).map (·.1)).Nodup := by decide +kernel)
    (hnames : ∀ y ∈ scope.names, y.2 = .local → scope.names.lookup y.1 = some .local := by decide +kernel)
    (hx : ∀ n C, KX true (compEnvC scope (compCells n scope (clOf scope env)) C env) x (compCells n scope []) := by intro _ _; exact rfl)
    (hs : ∀ x, foldedSetIterable iter env x = pure x := by intro _; rfl)
    (hy : ∀ n C, KX true (compEnvC scope (compCells n scope (clOf scope env)) C env) y (compCells n scope []) := by intro _ _; exact rfl) (hxy : x ≠ y := by decide)
    (hek : env.scope.kind = .function := by rfl) (hzl : env.kindOf z = some .local := by rfl)
    (hsw : swapsWith (.ListComp elt [⟨.Name x px, iter, [], 0⟩, ⟨.Name y py, .Constant (.str ystr) kk cp, [c], 0⟩] scope pos) (some (.Name z pz)) spos.line env = pure true := by rfl) :
    Wp (model prog w) A (execs (.Assign [.Name z pz] (.ListComp elt [⟨.Name x px, iter, [], 0⟩, ⟨.Name y py, .Constant (.str ystr) kk cp, [c], 0⟩] scope pos) spos :: rest) env) Q E ⟨hp, g, d, tk, o⟩ := by
  refine .of (seq_next ?_)
  rw [exec_Assign_Name_used _ _ _ _ hsw]
  refine wpAny_bind (wpAny_standAt (wpAny_bind ?_))
  show wpAny _ A (do let _ ← comprehension (.ListComp elt [⟨.Name x px, iter, [], 0⟩, ⟨.Name y py, .Constant (.str ystr) kk cp, [c], 0⟩] scope pos) scope env _ (newList []) false (eval iter env) (some (assign (.Name z pz) env))) _ _ _
  refine wpAny_bind (wpAny_mono (Q := fun _ s' => Wp (model prog w) A (execs rest env) Q E s') ?_ (fun _ s' hq => wpAny_pure (wpAny_pure ⟨rfl, hq.to⟩)) fun _ _ e => e)
  refine comp_two (g := g) (d := d) (o := o) xs PA p f O hh hlen hclos hkind (clOf_all hfr) hnd hnames hx hy hxy (h.mono fun xv s₁ q => ?_) hs
  obtain ⟨h₁, tk₁, B, m, cm, N, rfl, F, feed, htests, helt, hfin⟩ := q
  refine ⟨h₁, tk₁, m, cm, rfl, F.rd, feed, fun C n a v u t m' h tk E' h1 h2 h3 h4 h5 h6 h7 => (htests C n a v u t m' h tk E' h1 h2 h3 h4 h5 h6 h7).mono fun _ _ q => q.ex, fun C n a v u t m' h tk E' h1 h2 h3 h4 h5 h6 h7 h8 => (helt C n a v u t m' h tk E' h1 h2 h3 h4 h5 h6 h7 h8).mono fun _ _ q => q.ex, fun D C B' m' h' tk' ys k hB hb hC hDC hnD hn hD hp => ?_⟩
  have hDl : D ≠ env.locals := by
    rintro rfl
    obtain ⟨ob, e⟩ := Ns.some F.rd.ns
    rw [hnD] at e; cases e
  refine post_set F hB hC hb hn hek hzl hnD hDC fun h'' tk'' F'' hkk => hfin D h'' tk'' ys k F'' (fun b ob hne e => hkk b ob ?_ hne (hb _ _ (hB _ _ e))) hnD (hkk _ _ hDC hDl hD) hp
  rintro rfl
  rw [hB _ _ e] at hC; cases hC

theorem w_setcompo {α β : Type} {elt iter : Expr} {x z : Str} {px pz spos : Pos} {scope : Scope} {rest : List Stmt} {Q : Flow → Shared → Prop} (xs : List α) (PA : α → Value → Prop) (f : α → β)
    (O : β → Value → Heap → Prop) (hO : ∀ b y H H', O b y H → H.StaysIn H' → O b y H') (hh : A.handled = none)
    (h : Wp (model prog w) A (eval iter env) (SetGoO prog w A g d o env scope x xs PA E elt z rest f O Q) E ⟨hp, g, d, tk, o⟩)
    (hclos : closureFor scope env = pure (clOf scope env) := by rfl) (hkind : scope.kind = .function := by rfl) (hfr : (scope.names.all fun x => !(x.2 == .free) || (env.cells.lookup x.1).isSome) = true := by rfl) (hnd : ((cellsFrom 0 scope.names []).map (·.1)).Nodup := by decide +kernel)
    (hnames : ∀ y ∈ scope.names, y.2 = .local → scope.names.lookup y.1 = some .local := by decide +kernel)
    (hx : ∀ n C, KX false (compEnvC scope (compCells n scope (clOf scope env)) C env) x (compCells n scope []) := by intro n _; exact ⟨rfl, n, List.Mem.head _⟩)
    (hs : ∀ x, foldedSetIterable iter env x = pure x := by intro _; rfl)
    (hek : env.scope.kind = .function := by rfl) (hzl : env.kindOf z = some .local := by rfl)
    (hsw : swapsWith (.ListComp elt [⟨.Name x px, iter, [], 0⟩] scope pos) (some (.Name z pz)) spos.line env = pure true := by rfl) :
    Wp (model prog w) A (execs (.Assign [.Name z pz] (.ListComp elt [⟨.Name x px, iter, [], 0⟩] scope pos) spos :: rest) env) Q E ⟨hp, g, d, tk, o⟩ := by
  refine .of (seq_next ?_)
  rw [exec_Assign_Name_used _ _ _ _ hsw]
  refine wpAny_bind (wpAny_standAt (wpAny_bind ?_))
  show wpAny _ A (do let _ ← comprehension (.ListComp elt [⟨.Name x px, iter, [], 0⟩] scope pos) scope env _ (newList []) false (eval iter env) (some (assign (.Name z pz) env))) _ _ _
  refine wpAny_bind (wpAny_mono (Q := fun _ s' => Wp (model prog w) A (execs rest env) Q E s') ?_ (fun _ s' hq => wpAny_pure (wpAny_pure ⟨rfl, hq.to⟩)) fun _ _ e => e)
  refine comp_main (g := g) (d := d) (o := o) xs PA (fun _ => true) f O false hO hh hclos hkind (clOf_all hfr) hnd hnames hx (h.mono fun xv s₁ q => ?_) hs
  obtain ⟨h₁, tk₁, B, m, cm, N, rfl, F, feed, hlen, helt, hfin⟩ := q
  refine ⟨h₁, tk₁, m, cm, rfl, F.rd, feed, hlen, fun C n a v h tk E' ha hv st R' => wpAny_tests_nil ⟨h, tk, rfl, Stay.refl _, rfl⟩, fun C n a v h tk E' ha _ hv st R' => (helt C n a v h tk E' ha hv st R').mono fun _ _ q => q.ex, fun D C B' m' h' tk' ys k hB hb hC hDC hnD hn hD hp => ?_⟩
  have hDl : D ≠ env.locals := by
    rintro rfl
    obtain ⟨ob, e⟩ := Ns.some F.rd.ns
    rw [hnD] at e; cases e
  have hp := hp h' hb
  rw [List.filter_eq_self.mpr (fun _ _ => rfl)] at hp
  refine post_set F hB hC hb hn hek hzl hnD hDC fun h'' tk'' F'' hkk => hfin D h'' tk'' ys k F'' (fun b ob hne e => hkk b ob ?_ hne (hb _ _ (hB _ _ e))) hnD (hkk _ _ hDC hDl hD) ⟨_, hp⟩
  rintro rfl
  rw [hB _ _ e] at hC; cases hC
end
end Mine
end
section
-- part W2
open PySem PySem.W PyProof.Rows PySem.Calls
set_option Elab.async false
set_option maxRecDepth 100000
set_option maxHeartbeats 4000000
set_option linter.unusedVariables false
namespace Mine
section
variable {M : Model} {A : Around} {E : Value → Shared → Prop} {s : Shared} {env : Env} {pos : Pos}
theorem w_cwt {T : String} {e : Expr} {rest : List Expr} {Q : Value → Shared → Prop} (h : Wp M A (spliced (backTo pos (starEach (e :: rest) env))) (fun vs s₁ => Wp M A (call (.type T) vs) Q E s₁) E s)
    (hst : nostar (e :: rest) = true := by rfl) : Wp M A (callWith pos (.type T) [] (backTo pos (starEach (e :: rest) env)) []) Q E s :=
  .of (PyProof.Rows.callWith_type1 (h.mono fun _ _ q => q.to).to (starEach_plain (nostar_cons hst).1) ((plain_backTo _).trans (starEach_any (nostar_cons hst).2)))
theorem w_setsub {o i value : Expr} {pos' p : Pos} {rest : List Stmt} {Q : Flow → Shared → Prop}
    (h : Wp M A (eval value env) (fun v s₁ => Wp M A (eval o env) (fun ov s₂ => Wp M A (eval i env) (fun iv s₃ => Wp M A (setItem ov iv v) (fun _ s₄ => Wp M A (execs rest env) Q E s₄) E s₃) E s₂) E s₁) E s)
    (hs : swapsWith value (some (.Subscript o i pos')) p.line env = pure false := by rfl) : Wp M A (execs (.Assign [.Subscript o i pos'] value p :: rest) env) Q E s :=
  .of (seq_next (wpAny_Assign_Subscript (h.mono fun v s₁ q => (q.mono fun ov s₂ q => (q.mono fun iv s₃ q => wpAny_mono q.to (fun _ s₄ q => ⟨rfl, q.to⟩) fun _ _ x => x).to).to).to hs))
theorem w_aug {x : Str} {pos' p : Pos} {op : Operator} {value : Expr} {rest : List Stmt} {Q : Flow → Shared → Prop}
    (h : Wp M A (eval (.Name x pos') env) (fun old s₁ => Wp M A (eval value env) (fun v s₂ => Wp M A (inplaceOp op old v) (fun r s₃ => Wp M A (storeName env x r) (fun _ s₄ => Wp M A (execs rest env) Q E s₄) E s₃) E s₂) E s₁) E s)
    (hl : ∀ (Q' : Value → Shared → Prop), wpAny M A (eval (.Name x pos') env) Q' E s → wpAny M A (loadName env x) Q' E s) :
    Wp M A (execs (.AugAssign (.Name x pos') op value p :: rest) env) Q E s :=
  .of (seq_next (wpAny_AugAssign_Name (hl _ (h.mono fun v s₁ q => (q.mono fun ov s₂ q => (q.mono fun iv s₃ q => wpAny_mono q.to (fun _ s₄ q => ⟨rfl, q.to⟩) fun _ _ x => x).to).to).to)))
theorem w_expr {e : Expr} {p : Pos} {rest : List Stmt} {Q : Flow → Shared → Prop} (h : Wp M A (eval e env) (fun _ s₁ => Wp M A (execs rest env) Q E s₁) E s)
    (hx : ∀ (Q' : Flow → Shared → Prop), wpAny M A (eval e env) (fun _ s' => Q' .next s') E s → wpAny M A (exec (.Expr e p) env) Q' E s) : Wp M A (execs (.Expr e p :: rest) env) Q E s :=
  .of (seq_next (hx _ (h.mono fun _ _ q => ⟨rfl, q.to⟩).to))
end
section
variable {prog : Program} {w : World} {A : Around} {E : Value → Shared → Prop} {hp : Heap} {g : Array GenState} {d : Drawn} {tk : Nat} {o : OsState} {env : Env} {pos : Pos} {a b : Int} {t u : Tok} {Q : Value → Shared → Prop}
theorem w_divs (hb : b ≠ 0) (hs : b.natAbs < 1073741824) (h : ∀ t tk', Q (.int (a.fdiv b) t) ⟨hp, g, d, tk', o⟩) : Wp (model prog w) A (binaryOp .FloorDiv (.int a t) (.int b u)) Q E ⟨hp, g, d, tk, o⟩ := w_div hb (PyProof.noPylong_small hs) h
theorem w_pow (hb : 0 ≤ b) (hb' : b ≤ 1000000) (ha : a.natAbs < 2 ^ 64) (h : ∀ t tk', Q (.int (a ^ b.toNat) t) ⟨hp, g, d, tk', o⟩) : Wp (model prog w) A (binaryOp .Pow (.int a t) (.int b u)) Q E ⟨hp, g, d, tk, o⟩ :=
  .of (pow_int_small hb hb' ha (h _ _))
theorem w_len {l : Addr} {items : Array Value} (hl : hp.IsList l items) (hfit : items.size ≤ 1000000) (h : ∀ t tk', Q (.int items.size t) ⟨hp, g, d, tk', o⟩) : Wp (model prog w) A (call (.builtin "len") [.ref l]) Q E ⟨hp, g, d, tk, o⟩ :=
  .of (call_len_list (s := ⟨hp, g, d, tk, o⟩) hl (by omega) (h _ _))
theorem w_min (hh : A.handled = none) (h : ∀ t h' tk', hp.StaysIn h' → Q (.int (if b < a then b else a) t) ⟨h', g, d, tk', o⟩) : Wp (model prog w) A (call (.builtin "min") [.int a t, .int b u]) Q E ⟨hp, g, d, tk, o⟩ := by
  refine .of (min_two_ints hh fun h' tk' hk => ?_)
  by_cases hc : b < a
  · rw [if_pos hc]; have := h u h' tk' hk; rwa [if_pos hc] at this
  · rw [if_neg hc]; have := h t h' tk' hk; rwa [if_neg hc] at this
theorem w_range (h : ∀ r h' tk' t₁ u₁ v₁, hp.StaysIn h' → hp.get? r = none → IsRange h' r 0 a 1 t₁ u₁ v₁ → Q (.ref r) ⟨h', g, d, tk', o⟩) : Wp (model prog w) A (call (.type "range") [.int a t]) Q E ⟨hp, g, d, tk, o⟩ :=
  .of (call_range_1 (s := ⟨hp, g, d, tk, o⟩) (h _ _ _ _ _ _ (stay_push _ _) (free_size _) (Heap.get?_push_size _ rfl)))
theorem isList_obj {h : Heap} {l : Addr} {ys : Array Value} {k : Nat} (e : h.get? l = some (lobj ys k)) : h.IsList l ys := ⟨_, e, rfl, k, rfl⟩
def IsL (ob : Obj) (ys : Array Value) : Prop := ob.cls = .type "list" ∧ ∃ n, ob.data = .seq ys n
theorem isL_list {h : Heap} {l : Addr} {ob : Obj} {ys : Array Value} (e : h.get? l = some ob) (x : IsL ob ys) : h.IsList l ys := ⟨ob, e, x.1, x.2⟩
theorem isL_lobj {ys : Array Value} {k : Nat} : IsL (lobj ys k) ys := ⟨rfl, k, rfl⟩
theorem w_setl {l : Addr} {items : Array Value} {i : Int} {v : Value} {Q : Unit → Shared → Prop} (hl : hp.IsList l items) (h0 : 0 ≤ i) (hn : i < items.size) (hsz : items.size ≤ 1000000)
    (h : ∀ h' ob, h'.get? l = some ob → IsL ob (items.setIfInBounds i.toNat v) → But l hp h' → Q () ⟨h', g, d, tk, o⟩) : Wp (model prog w) A (setItem (.ref l) (.int i t) v) Q E ⟨hp, g, d, tk, o⟩ :=
  .of (wpAny_setItem_list (s := ⟨hp, g, d, tk, o⟩) hl h0 (by omega) hn fun h' ⟨ob, e, e1, e2⟩ hs => h h' ob e ⟨e1, e2⟩ (But.of hs))
end
abbrev IntIs (i : Int) (v : Value) : Prop := ∃ t, v = Value.int i t
abbrev StrIs (x : Str) (v : Value) : Prop := ∃ t, v = Value.str x t
theorem paired_right {α β : Type} {F : α → β → Prop} : ∀ {l₁ : List α} {l₂ : List β}, Paired F l₁ l₂ → ∀ {i : Nat} {b : β}, l₂[i]? = some b → ∃ a, l₁[i]? = some a ∧ F a b
  | _, _, .nil, _, _, h => by simp at h
  | _, _, .cons x t, 0, _, h => by simp at h; subst h; exact ⟨_, rfl, x⟩
  | _, _, .cons x t, i + 1, _, h => by obtain ⟨a, e, q⟩ := paired_right t (i := i) (by simpa using h); exact ⟨a, by simpa using e, q⟩
theorem paired_left {α β : Type} {F : α → β → Prop} : ∀ {l₁ : List α} {l₂ : List β}, Paired F l₁ l₂ → ∀ {i : Nat} {a : α}, l₁[i]? = some a → ∃ b, l₂[i]? = some b ∧ F a b
  | _, _, .nil, _, _, h => by simp at h
  | _, _, .cons x t, 0, _, h => by simp at h; subst h; exact ⟨_, rfl, x⟩
  | _, _, .cons x t, i + 1, _, h => by obtain ⟨a, e, q⟩ := paired_left t (i := i) (by simpa using h); exact ⟨a, by simpa using e, q⟩
theorem paired_set {α β : Type} {F : α → β → Prop} {a : α} {b : β} : ∀ {l₁ : List α} {l₂ : List β}, Paired F l₁ l₂ → ∀ (i : Nat), F a b → Paired F (l₁.set i a) (l₂.set i b)
  | _, _, .nil, _, h => .nil
  | _, _, .cons x t, 0, h => .cons h t
  | _, _, .cons x t, i + 1, h => .cons x (paired_set t i h)
theorem paired_app {α β : Type} {F : α → β → Prop} : ∀ {l₁ : List α} {l₂ : List β} {r₁ : List α} {r₂ : List β}, Paired F l₁ l₂ → Paired F r₁ r₂ → Paired F (l₁ ++ r₁) (l₂ ++ r₂)
  | _, _, _, _, .nil, y => y
  | _, _, _, _, .cons x t, y => .cons x (paired_app t y)
theorem paired_size {α : Type} {F : α → Value → Prop} {l : List α} {ys : Array Value} (p : Paired F l ys.toList) : ys.size = l.length := by rw [p.length]; simp
/-- the i-th of paired lists, as an array has it -/
theorem paired_arr {α : Type} {F : α → Value → Prop} {l : List α} {ys : Array Value} (p : Paired F l ys.toList) {i : Nat} {a : α} (h : l[i]? = some a) : ∃ v, ys[i]? = some v ∧ F a v := by
  obtain ⟨b, e, q⟩ := paired_left p h
  exact ⟨b, by simpa using e, q⟩
end Mine
end
section
-- part W3
open PySem PySem.W PyProof.Rows PySem.Calls PySem.SeqAt
open PySem.Spec
set_option Elab.async false
set_option maxRecDepth 100000
set_option maxHeartbeats 4000000
set_option linter.unusedVariables false
namespace Mine
theorem strsAre_of {ys : List Str} : ∀ {vs : List Value}, Paired StrIs ys vs → StrsAre vs ys := by
  induction ys with
  | nil => intro vs p; cases p; exact .nil
  | cons y r ih => intro vs p; cases p with | cons x t => obtain ⟨tt, rfl⟩ := x; exact .cons y tt (ih t)
theorem paired_strs : ∀ {vs : List Value} {ys : List Str}, StrsAre vs ys → Paired StrIs ys vs
  | _, _, .nil => .nil
  | _, _, .cons y t r => .cons ⟨t, rfl⟩ (paired_strs r)

theorem paired_numbered : ∀ l : List (Str × Tok), Paired StrIs (l.map (·.1)) (strValues l)
  | [] => .nil
  | p :: r => .cons ⟨p.2, rfl⟩ (paired_numbered r)
theorem intItems_of : ∀ {ns : List Int} {items : Array Value}, Paired IntIs ns items.toList → ∃ xs : Array (Int × Tok), items = intItems xs ∧ xs.toList.map (·.1) = ns := by
  intro ns items h
  have key : ∀ {ns : List Int} {vs : List Value}, Paired IntIs ns vs → ∃ xs : List (Int × Tok), vs = xs.map (fun x => Value.int x.1 x.2) ∧ xs.map (·.1) = ns := by
    intro ns vs h
    induction h with
    | nil => exact ⟨[], rfl, rfl⟩
    | cons x t ih =>
      obtain ⟨tt, rfl⟩ := x
      obtain ⟨xs, rfl, rfl⟩ := ih
      exact ⟨(_, tt) :: xs, rfl, rfl⟩
  obtain ⟨xs, e, rfl⟩ := key h
  refine ⟨xs.toArray, ?_, rfl⟩
  apply Array.toList_inj.mp
  rw [e]
  unfold intItems
  simp
section
variable {M : Model} {A : Around} {E : Value → Shared → Prop} {s : Shared} {env : Env} {pos : Pos} {a b : Value} {Q : Value → Shared → Prop}
theorem w_is (hp : plainIs a b = true) (h : Q (.bool (a == b)) s) : Wp M A (compareOp .Is a b) Q E s := .of (wpAny_is_plain hp h)
theorem w_isnot (hp : plainIs a b = true) (h : Q (.bool (!(a == b))) s) : Wp M A (compareOp .IsNot a b) Q E s := .of (wpAny_isNot_plain hp h)
end
section
variable {prog : Program} {w : World} {A : Around} {E : Value → Shared → Prop} {hp : Heap} {g : Array GenState} {d : Drawn} {tk : Nat} {o : OsState} {env : Env} {pos : Pos} {a b : Int} {t u : Tok} {x y : Str} {Q : Value → Shared → Prop}
theorem w_or (h : ∀ t tk', Q (.int (Builtin.bitOr a b) t) ⟨hp, g, d, tk', o⟩) : Wp (model prog w) A (inplaceOp .BitOr (.int a t) (.int b u)) Q E ⟨hp, g, d, tk, o⟩ := .of (ior_int (h _ _))
theorem w_shl (hn : 0 ≤ b) (hn2 : b ≤ 1000000) (ha : a.natAbs < 2 ^ 64) (h : ∀ t tk', Q (.int (a * 2 ^ b.toNat) t) ⟨hp, g, d, tk', o⟩) : Wp (model prog w) A (inplaceOp .LShift (.int a t) (.int b u)) Q E ⟨hp, g, d, tk, o⟩ := .of (ilshift_int_small hn hn2 ha (h _ _))
theorem w_addl {l l' : Addr} {xs ys : Array Value} (hl : hp.IsList l xs) (hl' : hp.IsList l' ys) (hsz : xs.size + ys.size ≤ 1000000)
    (h : ∀ r h', hp.StaysIn h' → hp.get? r = none → h'.get? r = some (lobj (xs ++ ys) 0) → Q (.ref r) ⟨h', g, d, tk, o⟩) : Wp (model prog w) A (binaryOp .Add (.ref l) (.ref l')) Q E ⟨hp, g, d, tk, o⟩ := by
  obtain ⟨o1, e1, c1, n1, d1⟩ := hl
  obtain ⟨o2, e2, c2, n2, d2⟩ := hl'
  obtain ⟨cls, dd, data, sl⟩ := o1
  obtain ⟨cls2, dd2, data2, sl2⟩ := o2
  simp only at c1 d1 c2 d2
  subst c1 d1 c2 d2
  exact .of (concat_meets (s := ⟨hp, g, d, tk, o⟩) ⟨_, e1, rfl⟩ ⟨_, e2, rfl⟩ noFill_list_add seq_list_add PySem.F.slot_list_add PySem.F.entry_list_add (PySem.F.args_list_add_2 _ _) (list_addW l l' xs ys n1 n2 dd dd2 sl sl2 (by rw [sizeLine_eq]; omega))
    ⟨e1, e2, h _ _ (stay_push _ _) (free_size _) (Heap.get?_push_size _ rfl)⟩)
theorem w_geti {value slice : Expr} {l : Addr} {items : Array Value} {i : Int} {v : Value} {s : Shared} (hl : s.heap.IsList l items) (h0 : i < 0) (h1 : -(items.size : Int) ≤ i) (hf : -(2 ^ 63) ≤ i) (hx : items[(i + items.size).toNat]? = some v) (h : Q v s)
    (hs : subscripted slice false (.ref l) (.int i u) = operate [.ref l, .int i u] (getItem (.ref l) (.int i u)) := by with_unfolding_all rfl) :
    Wp (model prog w) A (subscriptTail value slice (.ref l) (.int i u)) Q E s := .of (tail_any hl.typeIs slot_list_getitem.lookup (wpAny_getItem_list_neg hl h0 h1 hf hx h) hs)
theorem w_sum {l : Addr} {items : Array Value} {ns : List Int} (hh : A.handled = none) (hl : hp.IsList l items) (hi : Paired IntIs ns items.toList)
    (h : ∀ t h' tk', hp.StaysIn h' → Q (.int ns.sum t) ⟨h', g, d, tk', o⟩) : Wp (model prog w) A (call (.builtin "sum") [.ref l]) Q E ⟨hp, g, d, tk, o⟩ := by
  obtain ⟨xs, rfl, hx⟩ := intItems_of hi
  refine .of (sum_intListG (s := ⟨hp, g, d, tk, o⟩) hh hl fun h' tk' t' hk => ?_)
  have := h t' h' tk' hk
  rw [preSum_eq, List.take_of_length_le (by simp), hx]; exact this
theorem w_chr (h0 : 0 ≤ a) (h1 : a ≤ 1114111) (h : ∀ t tk', Q (.str ⟨#[a.toNat]⟩ t) ⟨hp, g, d, tk', o⟩) : Wp (model prog w) A (call (.builtin "chr") [.int a t]) Q E ⟨hp, g, d, tk, o⟩ := .of (chr_of_range h0 h1 (h _ _))
theorem w_gupper {pl : Sem Bool} {Q : Value × List Value → Shared → Prop} {s : Shared} (h : Q (.builtin "str.upper", [.str x t]) s) : Wp (model prog w) A (getMethod (.str x t) "upper" pl) Q E s := .of (GM.upper h)
theorem w_glower {pl : Sem Bool} {Q : Value × List Value → Shared → Prop} {s : Shared} (h : Q (.builtin "str.lower", [.str x t]) s) : Wp (model prog w) A (getMethod (.str x t) "lower" pl) Q E s := .of (GM.lower h)
theorem w_glstrip {pl : Sem Bool} {Q : Value × List Value → Shared → Prop} {s : Shared} (h : Q (.builtin "str.lstrip", [.str x t]) s) : Wp (model prog w) A (getMethod (.str x t) "lstrip" pl) Q E s := .of (GM.lstrip h)
theorem w_gsplit {pl : Sem Bool} {Q : Value × List Value → Shared → Prop} {s : Shared} (h : Q (.builtin "str.split", [.str x t]) s) : Wp (model prog w) A (getMethod (.str x t) "split" pl) Q E s := .of (GM.split h)
theorem w_gjoin {pl : Sem Bool} {Q : Value × List Value → Shared → Prop} {s : Shared} (h : Q (.builtin "str.join", [.str x t]) s) : Wp (model prog w) A (getMethod (.str x t) "join" pl) Q E s := .of (GM.join h)
theorem w_upper (hf : x.length ≤ 1000000) (h : ∀ t tk', Q (.str (Txt.upper x) t) ⟨hp, g, d, tk', o⟩) : Wp (model prog w) A (call (.builtin "str.upper") [.str x t]) Q E ⟨hp, g, d, tk, o⟩ := .of (SCL.upper (by omega) fun _ => h _ _)
theorem w_lower (hf : x.length ≤ 1000000) (h : ∀ t tk', Q (.str (Txt.lower x) t) ⟨hp, g, d, tk', o⟩) : Wp (model prog w) A (call (.builtin "str.lower") [.str x t]) Q E ⟨hp, g, d, tk, o⟩ := .of (SCL.lower (by omega) fun _ => h _ _)
theorem w_lstripc (hf : x.length ≤ 1000000) (h : ∀ t tk', Q (.str (Txt.lstripChars x y) t) ⟨hp, g, d, tk', o⟩) : Wp (model prog w) A (call (.builtin "str.lstrip") [.str x t, .str y u]) Q E ⟨hp, g, d, tk, o⟩ :=
  .of (SCL.lstripChars (fun _ _ _ => h _ _) (by rw [sizeLine_eq]; omega))
theorem w_join {l : Addr} {items : Array Value} {ys : List Str} (hl : hp.IsList l items) (hi : Paired StrIs ys items.toList) (hok : (ys.map (·.length)).sum + ys.length * x.length ≤ 1000000)
    (h : ∀ t tk', Q (.str (Txt.join x ys) t) ⟨hp, g, d, tk', o⟩) : Wp (model prog w) A (call (.builtin "str.join") [.str x t, .ref l]) Q E ⟨hp, g, d, tk, o⟩ := .of (join_list hl (strsAre_of hi) (by omega) fun _ _ => h _ _)
theorem w_ins {s : Shared} (h : Q (.bool !(Builtin.Str.occurrences x y 0 x.length 1).isEmpty) s) : Wp (model prog w) A (compareOp .In (.str y u) (.str x t)) Q E s := .of (PyProof.Rows.in_str h)
theorem w_nins {s : Shared} (h : Q (.bool (!(!(Builtin.Str.occurrences x y 0 x.length 1).isEmpty))) s) : Wp (model prog w) A (compareOp .NotIn (.str y u) (.str x t)) Q E s := .of (PyProof.Rows.notIn_str h)
theorem w_inl {s : Shared} {l : Addr} {items : Array Value} {ys : List Str} (hl : s.heap.IsList l items) (hi : Paired StrIs ys items.toList) (h : Q (.bool (ys.any (· == x))) s) : Wp (model prog w) A (compareOp .In (.str x t) (.ref l)) Q E s :=
  .of (in_list_strs (vs := items.toList) (by simpa using hl) (strsAre_of hi) h)
theorem w_nel {s : Shared} {va vb : Value} {da db : PyData} {as bs : List Addr} (ra : Reads s.heap va da as) (rb : Reads s.heap vb db bs) (ha : shaped da = true) (hb : shaped db = true) (hu : A.units + 64 < cLine) (hm : noMix da db = true)
    (h : Q (.bool (!Spec.same da db)) s) : Wp (model prog w) A (compareOp .NotEq va vb) Q E s := .of (ne_dataH_same ra rb ha hb hu hm h)
theorem w_strl {l : Addr} {dd : PyData} {as : List Addr} (r : Reads hp (.ref l) dd as) (hs : dd.showable = true) (hd : dd.hasDict = false) (hg : A.guards = some []) (hu : A.units + (dd.depth + 3) < cLine) (hsz : dd.shown.length ≤ 1000000)
    (h : ∀ h' t tk', hp.StaysIn h' → Q (.str dd.shown t) ⟨h', g, d, tk', o⟩) : Wp (model prog w) A (call (.type "str") [.ref l]) Q E ⟨hp, g, d, tk, o⟩ :=
  .of (str_of_reads (s := ⟨hp, g, d, tk, o⟩) r hs (fun e => by rw [hd] at e; cases e) hg hu (fun _ _ e => e) (fun h' t tk' hk => h h' t tk' hk) (by rw [sizeLine_eq]; omega))
theorem w_type {s : Shared} {v : Value} {T : String} (hv : s.TypeIs v T) (hn : (Value.type T == Value.type "builtin_function_or_method") = false) (h : Q (.type T) s) : Wp (model prog w) A (call (.type "type") [v]) Q E s := .of (call_type_of hv hn h)
theorem w_split (hy : (y.length == 0) = false) (hsz : x.length ≤ 900000)
    (h : ∀ l h' tk' ts, hp.StaysIn h' → hp.get? l = none → h'.get? l = some (lobj ts 0) → Paired StrIs (Txt.split x y) ts.toList → Q (.ref l) ⟨h', g, d, tk', o⟩) : Wp (model prog w) A (call (.builtin "str.split") [.str x t, .str y u]) Q E ⟨hp, g, d, tk, o⟩ := by
  have hn : (Builtin.Str.partsBetween x (Builtin.Str.occurrences x y 0 x.length (x.length + 1)) y.length).length ≤ sizeLine := by
    have e1 := StrLaws.occ_length_le x y 0 x.length (x.length + 1)
    rw [length_partsBetween, sizeLine_eq]; omega
  have hsl : x.length + 2 ≤ sizeLine := by rw [sizeLine_eq]; omega
  have fin : ∀ (l : List (Str × Tok)) tk', l.map (·.1) = Txt.split x y → Q (.ref hp.objs.size) ⟨hp.push { cls := .type "list", data := .seq (strValues l).toArray }, g, d, tk', o⟩ := fun l tk' e =>
    h _ _ tk' _ (stay_push _ _) (free_size _) (Heap.get?_push_size _ rfl) (by rw [← e]; exact paired_numbered l)
  refine .of ?_
  cases h1 : (decide (x.length < y.length) || decide (Builtin.Str.strKind x < Builtin.Str.strKind y))
  · cases hf : (Builtin.Str.occurrences x y 0 x.length (x.length + 1)).isEmpty
    · refine call_meets F.slot_str_split (typeIs_str _ _ _) F.entry_str_split (F.args_str_split_2 _ _) (meets_str_split_sep x y t u h1 hy hf (by omega) hn) ?_
      show wants Q E _ (Shared.mk (hp.push { cls := .type "list", data := .seq (strsFrom tk (Builtin.Str.partsBetween x (Builtin.Str.occurrences x y 0 x.length (x.length + 1)) y.length)).toArray }) g d _ o)
      rw [strsFrom_eq]
      exact fin (numbered tk _) _ ((numbered_texts _ _).trans ((if_neg (ne_true_of_eq_false h1)).trans (if_neg (ne_true_of_eq_false hf))).symm)
    · exact call_meets F.slot_str_split (typeIs_str _ _ _) F.entry_str_split (F.args_str_split_2 _ _) (meets_str_split_not_found x y t u h1 hy hf)
        (fin [(x, t)] tk ((if_neg (ne_true_of_eq_false h1)).trans (if_pos hf)).symm)
  · exact call_meets F.slot_str_split (typeIs_str _ _ _) F.entry_str_split (F.args_str_split_2 _ _) (meets_str_split_cannot_occur x y t u h1)
      (fin [(x, t)] tk (if_pos h1).symm)
theorem w_append {l : Addr} {items : Array Value} {k : Nat} {v : Value} (hl : hp.get? l = some (lobj items k)) (hsz : items.size ≤ 1000000)
    (h : ∀ h' k', h'.get? l = some (lobj (items.push v) k') → But l hp h' → Q .none ⟨h', g, d, tk, o⟩) : Wp (model prog w) A (call (.builtin "list.append") [.ref l, v]) Q E ⟨hp, g, d, tk, o⟩ :=
  .of (wpAny_list_append_plain (s := ⟨hp, g, d, tk, o⟩) ⟨k, hl⟩ (fun h' ⟨k', e⟩ hs => h h' k' e (But.of hs)) (by rw [sizeLine_eq]; omega))
theorem w_gappend {l : Addr} {items : Array Value} {k : Nat} {pl : Sem Bool} {Q : Value × List Value → Shared → Prop} {s : Shared} (hl : s.heap.get? l = some (lobj items k)) (h : Q (.builtin "list.append", [.ref l]) s) : Wp (model prog w) A (getMethod (.ref l) "append" pl) Q E s :=
  w_gmb F.plainAttrs_list slot_list_append type_list_append ⟨_, hl, rfl⟩ (fun a e => by cases e; exact ⟨_, hl, rfl⟩) h
end
end Mine
end
section
-- part W4
open PySem PySem.W PyProof.Rows PySem.Calls
set_option Elab.async false
set_option maxRecDepth 100000
set_option maxHeartbeats 4000000
set_option linter.unusedVariables false
namespace Mine
section
variable {prog : Program} {w : World} {A : Around} {K : Frag} {p : Program} {loose : List Str} {hp : Heap} {g : Array GenState} {d : Drawn} {tk : Nat} {o : OsState}
theorem enterG {R : Result → Shared → Prop} {name qual : Str} {params : Arguments} {body : List Stmt} {scope : Scope} {dV kV doc pm cdv ct oc : Value} {an od : Option Addr} {osl : Array (Option Value)} {f : Addr} {args : Args} {n : Nat}
    (G : Gnd K p loose hp) (r : Room (n + 1) A)
    (ho : K.lookup f = some ⟨oc, od, .func (fnOf name qual params body scope dV kV doc pm an cdv ct), osl⟩) (hcd : codeIn K cdv qual = true)
    (hnd : ((cellsFrom 0 scope.names []).map (·.1)).Nodup)
    (h : wpAny (model prog w) A.in1 (bindArgs (fnOf name qual params body scope dV kV doc pm an cdv ct) args) (fun binds s' => ∃ hp' tk', s' = ⟨hp', g, d, tk', o⟩ ∧ hp.StaysIn hp' ∧
      (binds.all fun y => scope.names.lookup y.1 == some .local || scope.names.lookup y.1 == some .cell) = true ∧
      ∀ L h₁ tk, hp'.StaysIn h₁ → hp'.get? L = none → Fm hp' (envOfC qual scope L f cdv) (bindL (envOfC qual scope L f cdv).kindOf binds fun _ => none) (bindC (envOfC qual scope L f cdv).kindOf binds fun _ => none) [] h₁ →
        Room n (A.deeper (envOfC qual scope L f cdv)) →
        Wp (model prog w) (A.deeper (envOfC qual scope L f cdv)) (execs body (envOfC qual scope L f cdv)) (fun fl s' => R (.ok (.ret (match fl with | .ret v => v | _ => .none))) s')
          (fun e s' => wpAny (model prog w) (A.deeper (envOfC qual scope L f cdv)) (leaving (envOfC qual scope L f cdv) e) (fun _ s'' => R (.error e) s'') (fun e' s'' => R (.error e') s'') s')
          ⟨h₁, g, d, tk, o⟩) (fun _ _ => False) ⟨hp, g, d, tk, o⟩)
    (hco : scope.isCoroutine = false) (hgen : scope.isGenerator = false) (hk : scope.kind = .function) :
    codeAny (model prog w) A (.call (.ref f) args) R ⟨hp, g, d, tk, o⟩ := by
  obtain ⟨mg, mb, T⟩ := G.t
  refine codeAny_call_function (s := ⟨hp, g, d, tk, o⟩) (fd := fnOf name qual params body scope dV kV doc pm an cdv ct) r.lim (G.k _ _ ho) rfl hco hgen rfl (codeRec_of G.k hcd) ?_
  refine wpAny_mono h (fun binds s' q => ?_) fun _ _ f => f.elim
  obtain ⟨hp', tk', rfl, st, hkind, h⟩ := q
  refine wpAny_newFunctionEnv_cells hk (kindsX hkind _) fun env he s' x => ?_
  subst he
  refine ⟨(T.nolimit.keeps st).keeps x.toInCall.keep, codeAny_func ?_⟩
  obtain ⟨h₁, tk, rfl⟩ := x.toInCall.same
  have hL : hp'.get? hp'.objs.size = none := free_size _
  have hfree : ∀ c, hp'.objs.size ≤ c → hp'.get? c = none := fun c hc => by
    cases e : hp'.get? c with
    | none => rfl
    | some o => exact absurd (Nat.lt_of_lt_of_le (Heap.lt_size e) hc) (Nat.lt_irrefl _)
  exact (h hp'.objs.size h₁ tk x.toInCall.keep hL ⟨⟨x.toInCall.ns, x.cell⟩, x.toInCall.keep, hL, lookup_of_nodup (by show ((cellsFrom (hp'.objs.size + 1) scope.names []).map (·.1)).Nodup; rw [cellsFrom_fst scope.names _ 0 [] [] rfl]; exact hnd), fun y hy => ⟨hfree _ (Nat.le_of_lt (x.above y.1 y.2 hy)), Nat.ne_of_gt (x.above y.1 y.2 hy)⟩, x.apart, fun _ hp => (nomatch hp), List.Pairwise.nil⟩ r.deeper).to
/-- a def entered, the arguments some way given, its raising kept in sight -/
theorem w_enterE {R : Result → Shared → Prop} {name qual : Str} {params : Arguments} {body : List Stmt} {scope : Scope} {dV kV doc pm cdv ct oc : Value} {an od : Option Addr} {osl : Array (Option Value)} {f : Addr} {args : Args} {binds : List (Str × Value)} {n : Nat}
    (G : Gnd K p loose hp) (r : Room (n + 1) A)
    (ho : K.lookup f = some ⟨oc, od, .func (fnOf name qual params body scope dV kV doc pm an cdv ct), osl⟩) (hcd : codeIn K cdv qual = true)
    (hbind : bindArgs (fnOf name qual params body scope dV kV doc pm an cdv ct) args = pure binds)
    (hkind : (binds.all fun y => scope.names.lookup y.1 == some .local || scope.names.lookup y.1 == some .cell) = true)
    (hnd : ((cellsFrom 0 scope.names []).map (·.1)).Nodup)
    (h : ∀ L h₁ tk, hp.StaysIn h₁ → hp.get? L = none → Fm hp (envOfC qual scope L f cdv) (bindL (envOfC qual scope L f cdv).kindOf binds fun _ => none) (bindC (envOfC qual scope L f cdv).kindOf binds fun _ => none) [] h₁ →
        Room n (A.deeper (envOfC qual scope L f cdv)) →
        Wp (model prog w) (A.deeper (envOfC qual scope L f cdv)) (execs body (envOfC qual scope L f cdv)) (fun fl s' => R (.ok (.ret (match fl with | .ret v => v | _ => .none))) s')
          (fun e s' => wpAny (model prog w) (A.deeper (envOfC qual scope L f cdv)) (leaving (envOfC qual scope L f cdv) e) (fun _ s'' => R (.error e) s'') (fun e' s'' => R (.error e') s'') s')
          ⟨h₁, g, d, tk, o⟩)
    (hco : scope.isCoroutine = false) (hgen : scope.isGenerator = false) (hk : scope.kind = .function) :
    codeAny (model prog w) A (.call (.ref f) args) R ⟨hp, g, d, tk, o⟩ :=
  enterG G r ho hcd hnd (by rw [hbind]; exact wpAny_pure ⟨hp, tk, rfl, Stay.refl _, hkind, h⟩) hco hgen hk
/-- a def entered, all that stands around it put under names of one sign -/
theorem w_enterQ {R : Result → Shared → Prop} {name qual : Str} {params : Arguments} {body : List Stmt} {scope : Scope} {dV kV doc pm cdv ct oc : Value} {an od : Option Addr} {osl : Array (Option Value)} {f : Addr} {args : Args} {binds : List (Str × Value)} {n : Nat}
    (G : Gnd K p loose hp) (r : Room (n + 1) A)
    (ho : K.lookup f = some ⟨oc, od, .func (fnOf name qual params body scope dV kV doc pm an cdv ct), osl⟩) (hcd : codeIn K cdv qual = true)
    (hbind : bindArgs (fnOf name qual params body scope dV kV doc pm an cdv ct) args = pure binds)
    (hkind : (binds.all fun y => scope.names.lookup y.1 == some .local || scope.names.lookup y.1 == some .cell) = true)
    (hnd : ((cellsFrom 0 scope.names []).map (·.1)).Nodup)
    (h : ∀ L h₁ tk A' Q E, hp.StaysIn h₁ → hp.get? L = none → Fm hp (envOfC qual scope L f cdv) (bindL (envOfC qual scope L f cdv).kindOf binds fun _ => none) (bindC (envOfC qual scope L f cdv).kindOf binds fun _ => none) [] h₁ →
        Room n A' → A' = A.deeper (envOfC qual scope L f cdv) → (∀ v s', R (.ok (.ret v)) s' → Q (.ret v) s') →
        Wp (model prog w) A' (execs body (envOfC qual scope L f cdv)) Q E ⟨h₁, g, d, tk, o⟩)
    (hco : scope.isCoroutine = false) (hgen : scope.isGenerator = false) (hk : scope.kind = .function) :
    codeAny (model prog w) A (.call (.ref f) args) R ⟨hp, g, d, tk, o⟩ :=
  w_enterE G r ho hcd hbind hkind hnd (fun L h₁ tk st hL F r' => h L h₁ tk _ _ _ st hL F r' rfl fun _ _ q => q) hco hgen hk
end

section
variable {M : Model} {A : Around} {E : Value → Shared → Prop} {s : Shared} {env : Env} {pos : Pos}
/-- a method call with one keyword -/
theorem w_methk {ob : Expr} {name kn : Str} {apos kp : Pos} {args : List Expr} {kv : Expr} {Q : Value → Shared → Prop}
    (h : Wp M A (eval ob env) (fun ov s₁ => ∀ pl, Wp M A (getMethod ov name pl) (fun fm s₂ => Wp M A (callWith pos fm.1 fm.2 (backTo pos (starEach args env)) (backToKw pos (keywordEach [⟨some kn, kv, kp⟩] env))) Q E s₂) E s₁) E s)
    (hbase : attributeBase ob name env (eval ob env) = eval ob env := by rfl) (hline : (apos.endLine == pos.line) = true := by rfl)
    (hst : nostar args = true := by rfl) (hlen : decide (args.length + 1 + 1 < 30) = true := by rfl) :
    Wp M A (eval (.Call (.Attribute ob name apos) args [⟨some kn, kv, kp⟩] pos) env) Q E s := by
  refine .of ?_
  have hfew : methodCallForm (args.length + 1) (backTo pos (starEach args env)) (backToKw pos (keywordEach [⟨some kn, kv, kp⟩] env)) = true := by
    unfold methodCallForm
    rw [starEach_all hst]
    exact hlen
  rw [arm_eval_Call, hbase]
  refine wpAny_bind (wpAny_mono h.to (fun ov s₁ h₁ => ?_) fun _ _ q => q)
  refine wpAny_bind (wpAny_standAt ?_)
  show wpAny M A (methodCall ob name apos pos env ov (args.length + 1) (backTo pos (starEach args env)) (backToKw pos (keywordEach [⟨some kn, kv, kp⟩] env))) Q E s₁
  unfold methodCall
  refine wpAny_bind (wpAny_holding ?_)
  unfold calleeOf
  rw [hfew, if_pos rfl]
  refine wpAny_mono (h₁ _).to (fun fm s₂ h₂ => ?_) fun _ _ q => q
  have hpos : methodCallPos true ob env apos pos = pure pos := by
    unfold methodCallPos
    rw [hline]; rfl
  rw [hpos]
  exact wpAny_bind (wpAny_pure h₂.to)
/-- a def of the text called with one keyword -/
theorem w_cwk {K : Frag} {p : Program} {loose : List Str} {a : Addr} {first : List Value} {e : Expr} {rest : List Expr} {kn : Str} {kv : Expr} {kp : Pos} {Q : Value → Shared → Prop} (G : Gnd K p loose s.heap) (hk : fnIn K a = true)
    (h : Wp M A (spliced (backTo pos (starEach (e :: rest) env))) (fun vs s₁ => Wp M A (eval kv env) (fun k s₂ => K.In s₂.heap ∧ Wp M A (call (.ref a) (first ++ vs) [(kn, k)]) Q E s₂) E s₁) E s) (he : nostar (e :: rest) = true := by rfl) :
    Wp M A (callWith pos (.ref a) first (backTo pos (starEach (e :: rest) env)) (backToKw pos (keywordEach [⟨some kn, kv, kp⟩] env))) Q E s := by
  have hex : ∃ oc od fd osl, K.lookup a = some ⟨oc, od, .func fd, osl⟩ := by
    unfold fnIn at hk
    split at hk
    · rename_i e; exact ⟨_, _, _, _, e⟩
    · cases hk
  obtain ⟨oc, od, fd, osl, ho⟩ := hex
  refine .of (callWith_function_kw (o := ⟨oc, od, .func fd, osl⟩) (fd := fd) (evalArgs_kw2 rfl ?_ (starEach_plain (nostar_cons he).1)))
  refine (h.mono fun vs s₁ q => kwAll_cons (q.mono fun k s₂ q => kwAll_nil ⟨⟨q.1 _ _ ho, rfl⟩, q.2.to⟩).to).to
theorem w_attr {x attr : Str} {xp p : Pos} {Q : Value → Shared → Prop} (h : Wp M A (eval (.Name x xp) env) (fun ov s₁ => Wp M A (getAttr ov attr true) Q E s₁) E s)
    (he : eval (.Attribute (.Name x xp) attr p) env = (do
      let o ← eval (.Name x xp) env
      standAt p.atName
      let r ← holding [o] (getAttr o attr true)
      letTemporaryGo (.Name x xp) o r
      pure r) := by with_unfolding_all rfl) : Wp M A (eval (.Attribute (.Name x xp) attr p) env) Q E s := .of (Attribute_Name_ (h.mono fun _ _ q => q.to).to he)
theorem w_setattr {ob value : Expr} {attr : Str} {pos' p : Pos} {rest : List Stmt} {Q : Flow → Shared → Prop}
    (h : Wp M A (eval value env) (fun v s₁ => Wp M A (eval ob env) (fun ov s₂ => Wp M A (setAttr ov attr v) (fun _ s₃ => Wp M A (execs rest env) Q E s₃) E s₂) E s₁) E s)
    (hs : swapsWith value (some (.Attribute ob attr pos')) p.line env = pure false := by rfl) : Wp M A (execs (.Assign [.Attribute ob attr pos'] value p :: rest) env) Q E s :=
  .of (seq_next (plainObj_wpAny_Assign_Attribute (h.mono fun v s₁ q => (q.mono fun ov s₂ q => wpAny_mono q.to (fun _ _ q => ⟨rfl, q.to⟩) fun _ _ x => x).to).to hs))
end
section
variable {prog : Program} {w : World} {A : Around} {E : Value → Shared → Prop} {hp : Heap} {g : Array GenState} {d : Drawn} {tk : Nat} {o : OsState}
theorem w_fnk {a : Addr} {vs : List Value} {kw : List (Str × Value)} {Q : Value → Shared → Prop} {s : Shared} (h : codeAny (model prog w) A (.call (.ref a) ⟨vs, kw⟩) (fun r s' => match r with | .ok (.ret v) => Q v s' | .ok _ => False | .error e => E e s') s) :
    Wp (model prog w) A (call (.ref a) vs kw) Q E s := .of (wpAny_call h)
theorem w_getown {K : Frag} {x C : Addr} {ox od : Obj} {name : Str} {expr : Bool} {v : Value} {Q : Value → Shared → Prop} {attr : Option Value} (X : K.In hp) (I : InstAt hp x ox C (some od)) (hg : plainGet K C name = true) (hh : hasDictIn K C = true)
    (ha : findIn K (.ref C) name = some attr) (hn : noGet K attr = true) (hl : lookIn name od = some (some v)) (hv : handedIn v = true) (h : ∀ tk', Q v ⟨hp, g, d, tk', o⟩) : Wp (model prog w) A (getAttr (.ref x) name expr) Q E ⟨hp, g, d, tk, o⟩ :=
  .of (get_value (s := ⟨hp, g, d, tk, o⟩) X I (plainGet_of hg).1 (findObj_own hh ha hn hl) hv (h _))
theorem w_gmown {K : Frag} {x C f : Addr} {ox od : Obj} {name : Str} {pl : Sem Bool} {Q : Value × List Value → Shared → Prop} {s : Shared} (X : K.In s.heap) (I : InstAt s.heap x ox C (some od)) (hg : plainGet K C name = true)
    (hf : findIn K (.ref C) name = some (some (.ref f))) (ht : typeIn K (.ref f) = some (.type "function")) (hs : shadowIn (some od) name = some false) (h : Q (.ref f, [.ref x]) s) : Wp (model prog w) A (getMethod (.ref x) name pl) Q E s :=
  .of (method_fn X I (plainGet_of hg).1 (plainGet_of hg).2 hf ht hs h)
end
end Mine
namespace Mine
section
variable {prog : Program} {w : World} {A : Around} {E : Value → Shared → Prop} {hp : Heap} {g : Array GenState} {d : Drawn} {tk : Nat} {o : OsState}
abbrev tobj (ys : Array Value) : Obj := { cls := .type "tuple", data := .seq ys }
/-- a pair of strs in a tuple -/
def TupOf (h : Heap) (p : Str × Str) (v : Value) : Prop := ∃ a t u, v = .ref a ∧ h.get? a = some (tobj #[.str p.1 t, .str p.2 u])
theorem TupOf.keeps {h h' : Heap} {p : Str × Str} {v : Value} (x : TupOf h p v) (k : h.StaysIn h') : TupOf h' p v := let ⟨a, t, u, e, q⟩ := x; ⟨a, t, u, e, k _ _ q⟩
end
end Mine
namespace Mine
section
variable {prog : Program} {w : World} {A : Around} {E : Value → Shared → Prop} {hp : Heap} {g : Array GenState} {d : Drawn} {tk : Nat} {o : OsState}
theorem w_ituple {value slice : Expr} {l : Addr} {items : Array Value} {i : Int} {u : Tok} {v : Value} {s : Shared} {Q : Value → Shared → Prop} (hl : s.heap.get? l = some (tobj items)) (h0 : 0 ≤ i) (h1 : i < items.size) (hh : i < 2 ^ 63) (hx : items[i.toNat]? = some v) (h : Q v s)
    (hs : subscripted slice false (.ref l) (.int i u) = operate [.ref l, .int i u] (getItem (.ref l) (.int i u)) := by with_unfolding_all rfl) :
    Wp (model prog w) A (subscriptTail value slice (.ref l) (.int i u)) Q E s := by
  have ht : IsTup s.heap l items := ⟨_, hl, rfl, 0, rfl⟩
  exact .of (tail_any ht.typeIs slot_tuple_getitem.lookup (getItem_tuple (j := i.toNat) ht (by omega) hh (by unfold seqIndex?; simp only [if_neg (Int.not_lt.mpr h0)]; rw [if_pos (by simp only [Bool.and_eq_true, decide_eq_true_eq]; omega)]) hx h) hs)
end
end Mine
end
section
-- part W5
open PySem PySem.W PyProof.Rows PySem.Calls
set_option Elab.async false
set_option maxRecDepth 100000
set_option maxHeartbeats 4000000
set_option linter.unusedVariables false
namespace Mine
theorem Fm.lower {B B' h : Heap} {env : Env} {m cm : Str → Option Value} (F : Fm B env m cm [] h) (hs : B'.StaysIn B) : Fm B' env m cm [] h :=
  (F.fx.lower hs fun _ _ e => .inl (mem_of_lookup e)).fm
theorem Fm.take1 {B h : Heap} {env : Env} {m cm : Str → Option Value} {N : List (Addr × Obj)} {a : Addr} {o : Obj} (F : Fm B env m cm N h) (e : h.get? a = some o) (hb : B.get? a = none) (h1 : a ≠ env.locals) (h2 : ∀ x ∈ env.cells, a ≠ x.2) (h3 : ∀ p ∈ N, a ≠ p.1) :
    Fm B env m cm ((a, o) :: N) h := (F.fx.take1 e hb h1 h2 h3).fm
/-- an object of the ground is taken out of it, to be turned -/
theorem Fm.take {B h : Heap} {env : Env} {m cm : Str → Option Value} {a : Addr} {o : Obj} (F : Fm B env m cm [] h) (e : B.get? a = some o) : Fm (hideAll B [a]) env m cm [(a, o)] h := by
  refine (F.lower fun b o e => of_hideAll _ e).take1 (F.keep _ _ e) (hideAll_none _ (.head _)) ?_ ?_ (fun _ hp => (nomatch hp))
  · rintro rfl; rw [F.off] at e; cases e
  · rintro x hx rfl; rw [(F.coff x hx).1] at e; cases e
theorem hide1 {B : Heap} {a b : Addr} {o : Obj} (e : B.get? b = some o) (hne : b ≠ a) : (hideAll B [a]).get? b = some o := hideAll_get _ e fun hm => hne (List.mem_singleton.mp hm)
theorem Fm.locals {B h h' : Heap} {env : Env} {m m' cm : Str → Option Value} {N : List (Addr × Obj)} (F : Fm B env m cm N h) (hn : h'.Ns env.locals m') (hk : ∀ b o, b ≠ env.locals → h.get? b = some o → h'.get? b = some o) : Fm B env m' cm N h' := by
  refine ⟨⟨hn, fun n c e => ?_⟩, fun b o e => hk b o (by rintro rfl; rw [F.off] at e; cases e) (F.keep _ _ e), F.off, F.look, F.coff, F.apart, fun p hp => ⟨hk _ _ (F.news p hp).2.2.1 (F.news p hp).1, (F.news p hp).2⟩, F.napart⟩
  obtain ⟨oc, ho, r⟩ := F.rd.cell n c e
  exact ⟨oc, hk c oc (F.coff _ (mem_of_lookup e)).2 ho, r⟩

section
variable {prog : Program} {w : World} {A : Around} {E : Value → Shared → Prop} {hp : Heap} {g : Array GenState} {d : Drawn} {tk : Nat} {o : OsState} {env : Env} {pos : Pos}
theorem w_slice0 {p : Pos} {Q : Value → Shared → Prop} (h : ∀ tk', Q (.ref hp.objs.size) ⟨hp.push { cls := .type "slice", data := .fields #[.none, .none, .none] }, g, d, tk', o⟩) :
    Wp (model prog w) A (eval (.Slice none none none p) env) Q E ⟨hp, g, d, tk, o⟩ :=
  .of (wpAny_Slice (wpAny_pure (wpAny_pure (wpAny_pure (h _)))))
theorem w_islice {value slice : Expr} {l : Addr} {items : Array Value} {Q : Value → Shared → Prop} (hl : hp.IsList l items) (hsz : items.size ≤ 1000000)
    (h : ∀ r h', hp.StaysIn h' → hp.get? r = none → h'.get? r = some (lobj items 0) → Q (.ref r) ⟨h', g, d, tk, o⟩)
    (hs : subscripted slice false (.ref l) (.ref hp.objs.size) = operate [.ref hp.objs.size, .ref l] (getItem (.ref l) (.ref hp.objs.size)) := by with_unfolding_all rfl) :
    Wp (model prog w) A (subscriptTail value slice (.ref l) (.ref hp.objs.size)) Q E ⟨hp.push { cls := .type "slice", data := .fields #[.none, .none, .none] }, g, d, tk, o⟩ := by
  have hl' : (hp.push { cls := .type "slice", data := .fields #[.none, .none, .none] }).IsList l items := hl.push _
  refine .of (tail_any (Heap.IsList.typeIs (s := ⟨hp.push { cls := .type "slice", data := .fields #[.none, .none, .none] }, g, d, tk, o⟩) hl') list_getitem_lookup
    (wpAny_getItem_list_slice (s := ⟨hp.push { cls := .type "slice", data := .fields #[.none, .none, .none] }, g, d, tk, o⟩) hl' (Heap.IsSliceOf.new ..) .none .none .none (by simp) ?_ (by rw [sizeLine_eq]; omega)) hs)
  rw [slicePick_all]
  refine h _ _ (Stay.trans (stay_push _ _) (stay_push _ _)) (fresh_back (stay_push _ _) (free_size _)) (Heap.get?_push_size _ rfl)
theorem w_exprs {e : Expr} {p : Pos} {rest : List Stmt} {Q : Flow → Shared → Prop} {s : Shared} (h : Wp (model prog w) A (eval e env) (fun _ s₁ => Wp (model prog w) A (execs rest env) Q E s₁) E s)
    (hi : interactive env = false := by rfl) (hs : swapsWith e none p.line env = pure false := by rfl) : Wp (model prog w) A (execs (.Expr e p :: rest) env) Q E s :=
  .of (seq_next (wpAny_Expr_any (h.mono fun _ _ q => ⟨rfl, q.to⟩).to hi hs))
theorem bind_kw {fd : FuncData} {args : Args} {kwn : Str} {Q : List (Str × Value) → Shared → Prop} (pre : List (Str × Value)) (e : bindArgs fd args = (alloc emptyDict >>= fun d => pure (pre ++ [(kwn, .ref d)])))
    (h : Q (pre ++ [(kwn, .ref hp.objs.size)]) ⟨hp.push emptyDict, g, d, tk, o⟩) : wpAny (model prog w) A (bindArgs fd args) Q E ⟨hp, g, d, tk, o⟩ := by
  rw [e]
  exact wpAny_bind (wpAny_alloc (wpAny_pure h))
/-- for k, v in d.items() over an empty dict -/
theorem w_foritems0 {xk xv : Str} {pk pv pt p apos cpos : Pos} {x1} {ob : Expr} {body rest : List Stmt} {dd : Addr} {m cm : Str → Option Value} {B : Heap} {N : List (Addr × Obj)} {Q : Flow → Shared → Prop}
    (hh : A.handled = none) (F : Fm B env m cm N hp) (hdL : dd ≠ env.locals) (hdS : (dd == sysModules) = false) (hd : hp.get? dd = some emptyDict)
    (ho : ∀ E (Q' : Value → Shared → Prop), Q' (.ref dd) ⟨hp, g, d, tk, o⟩ → wpAny (model prog w) A (eval ob env) Q' E ⟨hp, g, d, tk, o⟩)
    (hQ : ∀ h' tk', Fm B env m cm N h' → (∀ b o, b ≠ env.locals → hp.get? b = some o → h'.get? b = some o) → Wp (model prog w) A (execs rest env) Q E ⟨h', g, d, tk', o⟩)
    (hxk : env.kindOf xk = some .local := by rfl) (hxv : env.kindOf xv = some .local := by rfl)
    (hk : env.scope.kind = .function := by rfl)
    (hbase : attributeBase ob "items" env (eval ob env) = eval ob env := by rfl) (hline : (apos.endLine == cpos.line) = true := by rfl)
    (hs : ∀ x, foldedSetIterable (.Call (.Attribute ob "items" apos) [] [] cpos) env x = pure x := by intro _; rfl) :
    Wp (model prog w) A (execs (.For (.Tuple [.Name xk pk, .Name xv pv] x1 pt) (.Call (.Attribute ob "items" apos) [] [] cpos) body [] p :: rest) env) Q E ⟨hp, g, d, tk, o⟩ := by
  refine .of (seq_next ?_)
  have hm : hp.DictAt (PySem.strKind prog w) dd ([] : List (Str × Value)) 0 := ⟨_, #[], hd, ⟨rfl, rfl, rfl⟩, rfl, fun e he => by simp at he, .nil, List.nodup_nil⟩
  refine wpAny_mono (E := fun _ _ => False) ?_ (fun _ _ q => q) fun _ _ f => f.elim
  refine wpAny_For_items_locals (knd := PySem.strKind prog w) (s := ⟨hp, g, d, tk, o⟩) (m := m) hh hxk hxv (by rw [hk]; rfl) hdL hdS hm F.rd.ns hbase hline (ho _) (fun _ m' => m' = m) rfl (fun i k v key m₁ s₁ e => by simp at e) (fun h' tk' m' hn hm' hkk => ?_) hs PassesOwn.never
  subst hm'
  exact ⟨rfl, (hQ h' tk' (F.locals hn hkk) hkk).to⟩
end
end Mine
end
section
-- part W6
open PySem PySem.W PyProof.Rows PySem.Calls
set_option Elab.async false
set_option maxRecDepth 100000
set_option maxHeartbeats 4000000
set_option linter.unusedVariables false
namespace Mine
section
variable {prog : Program} {w : World} {A : Around} {E : Value → Shared → Prop} {s : Shared} {K : Frag} {C x : Addr} {R : Result → Shared → Prop}
theorem osa_dict1 {ox od od' : Obj} {dx : Addr} {name : Str} {tk : Tok} {v : Value} {es : List DictEntry} {n : Nat} (X : K.In s.heap)
    (I : InstAt s.heap x ox C (some od)) (hd : ox.dict = some dx) (hp : plainOver K C = true) (ht : takerIn K C name = some none) (hh : (clsIn K C).any (·.hasDict) = true)
    (hl : (lookIn name od).isSome = true)
    (e : Obj.putName name (PyData.keyHash w.params name) (.str name s.toks) v od = od') (e' : od'.data = .dict es.toArray n) (hz : es.length ≤ 1000)
    (h : ∀ h', But dx s.heap h' → h'.get? dx = some od' → R (.ok (.ret .none)) { s with heap := h', toks := s.toks + 1 }) :
    codeAny (model prog w) A (.call (.builtin "object.__setattr__") ⟨[.ref x, .str name tk, v], []⟩) R s := by
  refine osa_open X I hp ht fun b => ?_
  obtain ⟨cd, hc, hd'⟩ := any_some hh
  have D : s.heap.get? dx = some od := by have := I.dict; rw [hd] at this; exact this
  have D' : (s.heap.update dx (Obj.putName name (PyData.keyHash w.params name) (.str name s.toks) v)).get? dx = some od' := by
    rw [Heap.get?_update_self _ D (by rw [e]; obtain ⟨_, _, dd, _⟩ := od'; cases e'; rfl), e]
  have U : But dx s.heap (s.heap.update dx (Obj.putName name (PyData.keyHash w.params name) (.str name s.toks) v)) := But.of (Heap.SameBut.update ..)
  obtain ⟨hx, hcl, hn, -⟩ := I
  obtain ⟨oc, odi, oda, osl⟩ := ox
  dsimp only at hcl hd
  subst hcl hd
  refine wpAny_bind (wpAny_pure (wpAny_bind (wpAny_bind (wpAny_loadPart hx (wpAny_bind ((looks_clsIn X hc).here ?_))))))
  rw [hd']
  refine wpAny_pure (a := some dx) (wpAny_bind (wpAny_pure (wpAny_bind ?_)))
  unfold nsSet
  refine wpAny_bind (wpAny_bind (wpAny_askSetting (wpAny_pure (wpAny_bind (wpAny_mkText (wpAny_bind (wpAny_loadPart D ?_)))))))
  unfold lookIn at hl
  split at hl
  · rename_i es₀ n₀ q
    rw [q]
    dsimp only
    have c : (!es₀.any (·.key.isStr name) && es₀.any (·.refKey)) = false := by
      rw [← Array.any_toList, ← Array.any_toList]
      split at hl
      · rename_i en he
        rw [List.any_eq_true.mpr ⟨en, List.mem_of_find?_eq_some he, List.find?_some he⟩]; rfl
      · split at hl
        · cases hl
        · rename_i z; rw [Bool.not_eq_true] at z; rw [z, Bool.and_false]
    rw [aRefKeyMayBeTheName_at, c]
    refine wpAny_updatePart D ?_
    refine wpAny_bind (wpAny_lookBehind D' (by rw [e']; exact pastItsLine_dict (by rw [List.size_toArray, sizeLine_eq]; omega)) ?_)
    exact wpAny_pure (h _ U D')
  · cases hl
theorem w_setattr1 {ox od : Obj} {dx : Addr} {name : Str} {v : Value} {Q : Unit → Shared → Prop} {hp : Heap} {g : Array GenState} {d : Drawn} {tk : Nat} {o : OsState} (X : K.In hp)
    (I : InstAt hp x ox C (some od)) (hd : ox.dict = some dx) (hs : findIn K (.ref C) "__setattr__" = some (some (.builtin "object.__setattr__"))) (hpl : plainOver K C = true) (ht : takerIn K C name = some none) (hh : hasDictIn K C = true)
    (hl : (lookIn name od).isSome = true) (he : ∀ t, ∃ es n, (Obj.putName name (PyData.keyHash w.params name) (.str name t) v od).data = .dict es n ∧ es.size ≤ 1000)
    (h : ∀ h' t tk', But dx hp h' → h'.get? dx = some (Obj.putName name (PyData.keyHash w.params name) (.str name t) v od) → Q () ⟨h', g, d, tk', o⟩) :
    Wp (model prog w) A (setAttr (.ref x) name v) Q E ⟨hp, g, d, tk, o⟩ := by
  refine .of (set_plain (s := ⟨hp, g, d, tk, o⟩) X I hs ?_)
  obtain ⟨es, n, e1, e2⟩ := he (tk + 1)
  exact osa_dict1 (s := ⟨hp, g, d, tk + 1, o⟩) (es := es.toList) (n := n) X I hd hpl ht hh hl rfl (by rw [e1]) (by simpa using e2) fun h' hb hg => h h' _ _ hb hg
theorem Room.make {n : Nat} (r : Room (n + 1) A) : Room n (A.under (.builtin "type.__call__" ⟨[.ref C], []⟩)) :=
  ⟨by have := r.depth; show A.depth + 1 + n ≤ 990; omega, by have := r.units; show A.units + 1 + 8 * n ≤ 9800; omega, by
    have hg : (Code.builtin "type.__call__" ⟨[.ref C], []⟩).guards = [] := by
      unfold Code.guards
      have e : (Code.builtin "type.__call__" ⟨[.ref C], []⟩).isGuard = false := by
        show guardIds.contains "type.__call__" = false
        decide +kernel
      rw [e]; rfl
    unfold Around.under
    rw [hg, r.guards]; rfl, r.handled⟩
/-- a class of the text called, no argument -/
theorem code_cls0 {hp : Heap} {g : Array GenState} {d : Drawn} {tk : Nat} {o : OsState} {fI : Addr} (X : K.In hp) (hm : makesIn K C = true)
    (hi : findIn K (.ref C) "__init__" = some (some (.ref fI))) (hf : typeIn K (.ref fI) = some (.type "function"))
    (h : ∀ x dx h', hp.StaysIn h' → hp.get? x = none → hp.get? dx = none → x ≠ dx → h'.get? x = some (instObj C dx) → h'.get? dx = some emptyDict →
      codeAny (model prog w) (A.under (.builtin "type.__call__" ⟨[.ref C], []⟩)) (.call (.ref fI) ⟨[.ref x], []⟩) (InitBack x R) ⟨h', g, d, tk, o⟩) :
    codeAny (model prog w) A (.call (.ref C) ⟨[], []⟩) R ⟨hp, g, d, tk, o⟩ := by
  refine make_core (makes_of X hm) (looks_findIn X hi) (fun self => bind_fn X self hf) (.inl rfl) ?_
  have e1 : ((hp.push emptyDict).push (instObj C hp.objs.size)).get? (hp.objs.size + 1) = some (instObj C hp.objs.size) := by
    have := Heap.get?_push_size (hp.push emptyDict) (o := instObj C hp.objs.size) rfl
    rwa [Heap.size_push] at this
  refine h (hp.objs.size + 1) hp.objs.size _ (Stay.trans (stay_push _ _) (stay_push _ _)) ?_ (free_size _) (Nat.succ_ne_self _) e1 (stay_push _ _ _ _ (Heap.get?_push_size _ rfl))
  cases e : hp.get? (hp.objs.size + 1) with
  | none => rfl
  | some ob => exact absurd (Nat.lt_of_succ_lt (Heap.lt_size e)) (Nat.lt_irrefl _)
end
section
variable {prog : Program} {w : World} {A : Around} {E : Value → Shared → Prop} {hp : Heap} {g : Array GenState} {d : Drawn} {tk : Nat} {o : OsState} {env : Env} {pos : Pos}
/-- a for loop over an empty list -/
theorem w_for0 {target iter : Expr} {p : Pos} {body rest : List Stmt} {Q : Flow → Shared → Prop} (hh : A.handled = none)
    (h : Wp (model prog w) A (eval iter env) (fun xv s₁ => ∃ h₁ tk₁ l, xv = .ref l ∧ s₁ = ⟨h₁, g, d, tk₁, o⟩ ∧ h₁.IsList l #[] ∧
      (∀ h' tk', h₁.StaysIn h' → Wp (model prog w) A (execs rest env) Q E ⟨h', g, d, tk', o⟩)) E ⟨hp, g, d, tk, o⟩)
    (hs : ∀ x, foldedSetIterable iter env x = pure x := by intro _; rfl) :
    Wp (model prog w) A (execs (.For target iter body [] p :: rest) env) Q E ⟨hp, g, d, tk, o⟩ := by
  refine .of (wpAny_execs_cons (wpAny_For ?_ hs))
  refine (h.mono fun xv s₁ q => ?_).to
  obtain ⟨h₁, tk₁, l, rfl, rfl, hl, fin⟩ := q
  refine (feed_list (α := Unit) (PA := fun _ _ => True) (xs := []) (B := h₁) hl .nil) ⟨h₁, g, d, tk₁, o⟩ A E _ (Stay.refl _) fun I oI h₂ St S st hn hI h0 => ?_
  refine codeAny_forLoop_any (fun _ s => s = ⟨h₂, g, d, tk₁, o⟩) ?_ 0 rfl
  rintro n s rfl
  refine (S A hh).done ⟨h₂, g, d, tk₁, o⟩ oI _ _ st hI h0 fun h' tk' hbut => ?_
  show wpAny _ _ (execs [] env) _ _ _
  exact wpAny_execs_nil (fin h' tk' fun b ob e => hbut b ob (by rintro rfl; rw [hn] at e; cases e) (st _ _ e)).to
/-- `if __debug__` -/
theorem w_debug {M : Model} {p : Pos} {whole : Sem Value} {Q : Bool → Shared → Prop} {s : Shared} (h : Q true s) : Wp M A (isTrue (.Name "__debug__" p) env (eval (.Name "__debug__" p) env)) Q E s := by
  refine w_true ?_
  refine .of ?_
  rw [arm_eval_Name]
  refine wpAny_bind (wpAny_standAt ?_)
  rw [if_pos (by simp)]
  unfold debugConstant
  exact wpAny_bind (wpAny_rule (wpAny_pure (w_truthy h)))
end
end Mine
end
section
-- part W7
open PySem PySem.W PyProof.Rows PySem.Calls
set_option Elab.async false
set_option maxRecDepth 100000
set_option maxHeartbeats 4000000
set_option linter.unusedVariables false
namespace Mine
abbrev NatIs (c : Nat) (v : Value) : Prop := IntIs (c : Int) v
theorem intsAre_of : ∀ {cs : List Nat} {vs : List Value}, Paired NatIs cs vs → IntsAre vs (cs.map fun c : Nat => (c : Int))
  | _, _, .nil => .nil
  | _, _, .cons ⟨t, e⟩ r => by subst e; exact .cons _ t (intsAre_of r)
theorem byteArr_nat : ∀ (cs : List Nat), (∀ c ∈ cs, c < 256) → (byteArr (cs.map fun c : Nat => (c : Int))).toList.map (·.toNat) = cs := by
  intro cs h
  unfold byteArr
  rw [List.map_map]
  show List.map _ (List.map _ cs) = cs
  rw [List.map_map]
  conv => rhs; rw [← List.map_id cs]
  refine List.map_congr_left fun c hc => ?_
  show ((c : Int).toNat.toUInt8).toNat = c
  rw [Int.toNat_natCast]
  have := h c hc
  show c % 256 = c
  omega
section
variable {prog : Program} {w : World} {A : Around} {E : Value → Shared → Prop} {hp : Heap} {g : Array GenState} {d : Drawn} {tk : Nat} {o : OsState} {Q : Value → Shared → Prop}
theorem w_bytes {l : Addr} {items : Array Value} {cs : List Nat} (hh : A.handled = none) (hl : hp.IsList l items) (hc : ∀ c ∈ cs, c < 256) (hi : Paired NatIs cs items.toList) (hsz : cs.length ≤ 100000)
    (h : ∀ arr t h' tk', hp.StaysIn h' → arr.toList.map (·.toNat) = cs → Q (.bytes arr t) ⟨h', g, d, tk', o⟩) : Wp (model prog w) A (call (.type "bytes") [.ref l]) Q E ⟨hp, g, d, tk, o⟩ := by
  refine .of (call_bytes_ints (s := ⟨hp, g, d, tk, o⟩) (vs := items.toList) (by simpa using hl) (intsAre_of hi) (fun n hn => ?_) (by rw [← hi.length, sizeLine_eq]; omega) hh fun h' t k hk => h _ t h' k hk (byteArr_nat cs hc))
  obtain ⟨c, hcm, rfl⟩ := List.mem_map.mp hn
  have := hc c hcm
  omega
end
end Mine
end
section
-- part W8
open PySem PySem.W PyProof.Rows PySem.Calls
set_option Elab.async false
set_option maxRecDepth 100000
set_option maxHeartbeats 4000000
set_option linter.unusedVariables false
namespace Mine
theorem bit64 (b : Nat) : Builtin.bitAnd (b : Int) 64 = if b / 64 % 2 = 1 then 64 else 0 := by
  show ((((b : Int).toNat &&& (64 : Int).toNat : Nat)) : Int) = _
  have e : (b : Int).toNat &&& (64 : Int).toNat = b &&& 64 := rfl
  have e2 : b &&& 64 = (b % 128) &&& 64 := by
    have h : b &&& (2 ^ 7 - 1) = b % 2 ^ 7 := Nat.and_two_pow_sub_one_eq_mod b 7
    have h2 : (2 ^ 7 - 1) &&& 64 = 64 := by decide
    calc b &&& 64 = b &&& ((2 ^ 7 - 1) &&& 64) := by rw [h2]
      _ = (b &&& (2 ^ 7 - 1)) &&& 64 := by rw [Nat.and_assoc]
      _ = (b % 128) &&& 64 := by rw [h]
  have e3 : ∀ x, x < 128 → x &&& 64 = if x / 64 % 2 = 1 then 64 else 0 := by decide
  rw [e, e2, e3 _ (Nat.mod_lt _ (by omega))]
  have e4 : b % 128 / 64 % 2 = b / 64 % 2 := by omega
  rw [e4]
  split <;> rfl
theorem bit63 (b : Nat) : Builtin.bitAnd (b : Int) 63 = ((b % 64 : Nat) : Int) := by rw [bitAnd_m6]; omega
theorem or64 (a c : Nat) (hc : c < 64) : Builtin.bitOr ((a : Int) * 64) (c : Int) = ((a * 64 + c : Nat) : Int) := by
  rw [bitOr_and]
  have e : Builtin.bitAnd ((a : Int) * 64) (c : Int) = 0 := by
    have h0 : ((a : Int) * 64) = ((a * 64 : Nat) : Int) := by omega
    rw [h0]
    show ((((a * 64 : Nat) : Int).toNat &&& (c : Int).toNat : Nat) : Int) = 0
    have h1 : (a * 64) &&& c = 0 := by
      have h2 : c &&& (2 ^ 6 - 1) = c := by rw [Nat.and_two_pow_sub_one_eq_mod]; omega
      have h3 : (a * 64) &&& (2 ^ 6 - 1) = 0 := by rw [Nat.and_two_pow_sub_one_eq_mod]; omega
      rw [← h2, Nat.and_comm c, ← Nat.and_assoc, h3, Nat.zero_and]
    have : ((a * 64 : Nat) : Int).toNat &&& (c : Int).toNat = 0 := h1
    rw [this]; rfl
  rw [e]; omega

theorem fresh_over {it x : Addr} {h h' : Heap} (k : But it h h') (hit : ∃ o, h'.get? it = some o) (hx : h'.objs.size ≤ x) : h.get? x = none := by
  cases e : h.get? x with
  | none => rfl
  | some ob =>
    exfalso
    by_cases hne : x = it
    · subst hne; obtain ⟨o, e'⟩ := hit; exact Nat.lt_irrefl _ (Nat.lt_of_lt_of_le (Heap.lt_size e') hx)
    · exact Nat.lt_irrefl _ (Nat.lt_of_lt_of_le (Heap.lt_size (k _ _ hne e)) hx)
theorem owner_bytes_iterator : Manifest.owners.lookup (String.ofList ['r', 'o', 't', 'a', 'r', 'e', 't', 'i', '_', 's', 'e', 't', 'y', 'b'].reverse) = some Manifest.sig_bytes_iterator := by kernel_rfl
theorem slot_bi_next : Slot "bytes_iterator" "__next__" "bytes_iterator.__next__" :=
  .of (owner := "bytes_iterator") (n := "__next__") (by rw [typeLookup_type, builtinLookup_eq_fast]; kernel_rfl) (by decide +kernel) (by decide +kernel) (by decide +kernel)
    (by first | exact .inl (by decide +kernel) | exact .inr (by decide +kernel)) (by rw [isSubtype_type]; kernel_rfl)
theorem entry_bi_next : entryFor table "bytes_iterator.__next__" = some Builtin.«bytes_iterator.__next__» := entryFor_of_tree (by kernel_rfl)
theorem args_bi_next (a : Value) : argsOk "bytes_iterator.__next__" ⟨[a], []⟩ := by
  unfold argsOk; rw [signature?_of (id := "bytes_iterator.__next__") (n := ['_', '_', 't', 'x', 'e', 'n', '_', '_']) (o := ['r', 'o', 't', 'a', 'r', 'e', 't', 'i', '_', 's', 'e', 't', 'y', 'b']) (by kernel_rfl) owner_bytes_iterator]; kernel_rfl
def biter (b : Array UInt8) (t : Tok) (i : Nat) : Obj := { cls := .type "bytes_iterator", data := .fields #[.bytes b t, .int i 0] }
section
variable {prog : Program} {w : World} {A : Around} {E : Value → Shared → Prop} {hp : Heap} {g : Array GenState} {d : Drawn} {tk : Nat} {o : OsState} {Q : Value → Shared → Prop} {b : Array UInt8} {t : Tok}
theorem w_iterb (h : ∀ I h', hp.StaysIn h' → hp.get? I = none → h'.get? I = some (biter b t 0) → Q (.ref I) ⟨h', g, d, tk, o⟩) : Wp (model prog w) A (call (.builtin "iter") [.bytes b t]) Q E ⟨hp, g, d, tk, o⟩ := by
  refine .of (call_function_entry (by decide +kernel) (by decide +kernel) kdk_entry_iter (kdk_args_iter _) ?_)
  unfold Builtin.«iter»
  refine wpAny_bind (m := someArgs "iter" 1 2 _) (wpAny_of_eq (a := [Value.bytes b t]) (by first | rfl | kernel_rfl!) ?_)
  show wpAny _ _ (pyIter (.bytes b t) >>= _) _ _ _
  have hT : (⟨hp, g, d, tk, o⟩ : Shared).TypeIs (.bytes b t) "bytes" := PySem.W.typeIs_bytes _ _ _
  refine wpAny_bind (wpAny_pyIter_slot (T := "bytes") (id := "bytes.__iter__") hT PySem.W.FB.slot_bytes_iter (wpAny_call_entry PySem.W.FB.slot_bytes_iter hT PySem.W.FB.entry_bytes_iter ?_ (PySem.W.FB.args_bytes_iter_1 _)))
  show wpAny _ _ (do ret (← newFields "bytes_iterator" [.bytes b t, rawInt 0])) _ _ _
  exact wpAny_bind (wpAny_newObj_type (s := ⟨hp, g, d, tk, o⟩) (wpAny_pure ⟨_, rfl, "bytes_iterator", _, ⟨_, Heap.get?_push_size _ rfl, rfl⟩, slot_bi_next.lookup, wpAny_pure ⟨_, rfl, h _ _ (stay_push _ _) (free_size _) (Heap.get?_push_size _ rfl)⟩⟩))
theorem w_next1 {it : Addr} {i : Nat} {c : UInt8} (hit : hp.get? it = some (biter b t i)) (hc : b[i]? = some c)
    (h : ∀ h' tt tk', But it hp h' → h'.get? it = some (biter b t (i + 1)) → Q (.int (c.toNat : Int) tt) ⟨h', g, d, tk', o⟩) : Wp (model prog w) A (call (.builtin "next") [.ref it]) Q E ⟨hp, g, d, tk, o⟩ := by
  refine .of (call_function_entry (by decide +kernel) (by decide +kernel) kdk_entry_next (kdk_args_next _) ?_)
  unfold Builtin.«next»
  refine wpAny_bind (m := someArgs "next" 1 2 _) (wpAny_of_eq (a := [Value.ref it]) (by first | rfl | kernel_rfl!) ?_)
  dsimp only
  have hT : (⟨hp, g, d, tk, o⟩ : Shared).TypeIs (.ref it) "bytes_iterator" := ⟨_, hit, rfl⟩
  refine wpAny_bind (wpAny_specialOf (name := Str.ofString "__next__") hT slot_bi_next.lookup ?_)
  refine wpAny_ite_split (fun hab => absurd hab (by decide)) (fun _ => ?_)
  refine wpAny_bind (wpAny_callSpecial?_slot (name := Str.ofString "__next__") hT slot_bi_next (wpAny_call_entry slot_bi_next hT entry_bi_next ?_ (args_bi_next _)))
  show wpAny _ _ (field (.ref it) 0 >>= _) _ _ _
  refine wpAny_bind (wpAny_field hit rfl (x := .bytes b t) rfl ?_)
  refine bm_if_false (by rfl) ?_
  show wpAny _ _ (field (.ref it) 1 >>= _) _ _ _
  refine wpAny_bind (wpAny_field hit rfl (x := .int i 0) rfl ?_)
  show wpAny _ _ (pure b >>= _) _ _ _
  refine wpAny_bind (wpAny_pure ?_)
  simp only [Int.toNat_natCast, hc]
  have e2 : (hp.update it (Obj.mapFields (·.setIfInBounds 1 (rawInt ((i : Int) + 1))))).get? it = some (biter b t (i + 1)) := by
    rw [Heap.get?_update_self _ hit (by rfl)]; rfl
  refine wpAny_bind (wpAny_setField hit rfl (by simp) (wpAny_bind (wpAny_mkInt (wpAny_pure ⟨_, rfl, ?_⟩))))
  exact wpAny_pure ⟨_, rfl, h _ _ _ (But.of (Heap.SameBut.update ..)) e2⟩
theorem w_next0 {it : Addr} {i : Nat} (hh : A.handled = none) (hit : hp.get? it = some (biter b t i)) (hc : b[i]? = none)
    (hE : ∀ h' e ob vs a0, But it hp h' → hp.get? e = none → h'.get? e = some ob → ob.cls = .type "StopIteration" → ob.data = .fields vs → vs[1]? = some .none → vs[0]? = some a0 → E (.ref e) ⟨h', g, d, tk, o⟩) :
    Wp (model prog w) A (call (.builtin "next") [.ref it]) Q E ⟨hp, g, d, tk, o⟩ := by
  refine .of (call_function_entry (by decide +kernel) (by decide +kernel) kdk_entry_next (kdk_args_next _) ?_)
  unfold Builtin.«next»
  refine wpAny_bind (m := someArgs "next" 1 2 _) (wpAny_of_eq (a := [Value.ref it]) (by first | rfl | kernel_rfl!) ?_)
  dsimp only
  have hT : (⟨hp, g, d, tk, o⟩ : Shared).TypeIs (.ref it) "bytes_iterator" := ⟨_, hit, rfl⟩
  refine wpAny_bind (wpAny_specialOf (name := Str.ofString "__next__") hT slot_bi_next.lookup ?_)
  refine wpAny_ite_split (fun hab => absurd hab (by decide)) (fun _ => ?_)
  refine wpAny_bind (wpAny_callSpecial?_slot (name := Str.ofString "__next__") hT slot_bi_next (wpAny_call_entry slot_bi_next hT entry_bi_next ?_ (args_bi_next _)))
  show wpAny _ _ (field (.ref it) 0 >>= _) _ _ _
  refine wpAny_bind (wpAny_field hit rfl (x := .bytes b t) rfl ?_)
  refine bm_if_false (by rfl) ?_
  show wpAny _ _ (field (.ref it) 1 >>= _) _ _ _
  refine wpAny_bind (wpAny_field hit rfl (x := .int i 0) rfl ?_)
  show wpAny _ _ (pure b >>= _) _ _ _
  refine wpAny_bind (wpAny_pure ?_)
  simp only [Int.toNat_natCast, hc]
  refine wpAny_bind (wpAny_rule (wpAny_bind (wpAny_setField hit rfl (by simp) ?_)))
  show wpAny _ _ (newExc (.type "StopIteration") [] >>= _) _ _ _
  refine wpAny_bind ?_
  simp only [newExc, newTuple]
  refine wpAny_bind (wpAny_newObj_type ?_ (by size_fits))
  refine wpAny_bind (m := firstArgMember _ _) (wpAny_of_eq (a := Value.none) (by first | rfl | (simp only [firstArgMember]; rfl)) ?_)
  refine wpAny_newObj_type ?_ (by size_fits)
  simp only [raiseNew]
  refine wpAny_bind (wpAny_handled ?_)
  first | rw [show A.in1.handled = none from hh] | rw [hh]
  refine wpAny_bind (wpAny_pure (wpAny_throw ?_))
  have k1 : But it hp (hp.update it (Obj.mapFields (·.setIfInBounds 0 Value.none))) := But.of (Heap.SameBut.update ..)
  have e2 : (hp.update it (Obj.mapFields (·.setIfInBounds 0 Value.none))).get? it = some { cls := .type "bytes_iterator", data := .fields #[.none, .int i 0] } := by
    rw [Heap.get?_update_self _ hit (by rfl)]; rfl
  refine hE _ _ _ _ (.ref (hp.update it (Obj.mapFields (·.setIfInBounds 0 Value.none))).objs.size) (But.trans k1 (But.stay (Stay.trans (stay_push _ _) (stay_push _ _)))) ?_ (Heap.get?_push_size _ rfl) rfl rfl ?_ ?_
  · rw [Heap.size_push]
    exact fresh_over k1 ⟨_, e2⟩ (Nat.le_succ _)
  · first | rfl | simp
  · first | rfl | simp
end

section
variable {M : Model} {A : Around} {E : Value → Shared → Prop} {s : Shared} {env : Env}
theorem w_augl {x : Str} {pos' p : Pos} {op : Operator} {value : Expr} {rest : List Stmt} {m cm : Str → Option Value} {old : Value} {Q : Flow → Shared → Prop} (R : Rd env m cm s.heap) (hv : m x = some old)
    (h : Wp M A (eval value env) (fun v s₂ => Wp M A (inplaceOp op old v) (fun r s₃ => Wp M A (storeName env x r) (fun _ s₄ => Wp M A (execs rest env) Q E s₄) E s₃) E s₂) E s)
    (hk : env.scope.kind = .function := by rfl) (hl : env.kindOf x = some .local := by rfl) :
    Wp M A (execs (.AugAssign (.Name x pos') op value p :: rest) env) Q E s :=
  .of (seq_next (wpAny_AugAssign_Name (wpAny_loadName_local hk hl R.ns hv (h.mono fun ov s₂ q => (q.mono fun iv s₃ q => wpAny_mono q.to (fun _ s₄ q => ⟨rfl, q.to⟩) fun _ _ x => x).to).to)))
theorem w_tint {prog : Program} {w : World} {a : Int} {t : Tok} {Q : Bool → Shared → Prop} (h : Q (a != 0) s) : Wp (model prog w) A (truthy (.int a t)) Q E s := .of (PyProof.Rows.truthy_int h)
end
end Mine
end
section
-- part W9
open PySem PySem.W PyProof.Rows PySem.Calls
set_option Elab.async false
set_option maxRecDepth 100000
set_option maxHeartbeats 4000000
set_option linter.unusedVariables false
namespace Mine
section
variable {prog : Program} {w : World} {A : Around} {E : Value → Shared → Prop} {h : Heap} {g : Array GenState} {d : Drawn} {tk : Nat} {o : OsState} {env : Env} {outer : List Env} {P : Heap} {e L : Addr} {a0 : Value} {X T' : String} {K : Frag} {p : Program} {loose : List Str} {x : Str} {np pos : Pos} {b₀ : Stmt} {suite : List Stmt} {rest : List ExceptHandler} {Q : Flow → Shared → Prop}
theorem caught_M (hfr : A.frames = some (env :: outer)) (hL : env.frame = some L) (hfl : Heap.FlyingW P (env :: outer) e (.type X) a0 h) (G : Gnd K p loose P)
    (hg : nsIn K mainGlobals x = some none) (hv : bootBuiltins x = some (.type T'))
    (hexc : isSubtype (.type T') (.type "BaseException") = pure true) (hnt : isSubtype (.type ((Manifest.find? T').elim "type" fun y => y.metatype)) (.type "tuple") = pure false) (hsub : isSubtype (.type X) (.type T') = pure true)
    (k : ∀ h', P.StaysIn h' → h.UpToSlots h' → wpAny (model prog w) (A.mark (some (.ref e))) (execs (b₀ :: suite) env) Q E ⟨h', g, d, tk, o⟩)
    (hE : PassesOwnAt (model prog w) (A.mark (some (.ref e))) A env E)
    (hn : x ≠ "__name__" := by decide)
    (hk : env.scope.kind = .function := by rfl) (hx : env.kindOf x = some .globalImplicit := by rfl) (he : env.globals = mainGlobals := by rfl) (hb : env.builtins = builtinsNs := by rfl) (hd : (x == ("__debug__" : Str)) = false := by rfl) :
    wpAny (model prog w) A (noteFrame (.ref e) env) (fun _ s₂ => wpAny (model prog w) A (setFlight (.ref e) none) (fun _ s₃ =>
      wpAny (model prog w) A (handleBy (.ref e) env (.ExceptHandler (some (.Name x np)) none (b₀ :: suite) pos :: rest)) Q E s₃) E s₂) E ⟨h, g, d, tk, o⟩ := by
  refine wpAny_looks_onW (s := ⟨h, g, d, tk, o⟩) hfr hL hfl fun h₄ hheld₄ hsm₄ => ?_
  refine wpAny_landsW (s := ⟨h₄, g, d, tk, o⟩) hheld₄ fun h₅ hheld hsm₅' => ?_
  have hsm₅ := hsm₄.trans hsm₅'
  obtain ⟨ob, hob, hobc⟩ := hheld.there
  have G₅ := G.keeps hheld.1
  refine wpAny_handleBy_builtin (X := X) (T := T') (b := true) hexc hnt hsub (e_builtin (s := ⟨h₅, g, d, tk, o⟩) G₅ hg hv ⟨rfl, ⟨ob, hob, hobc⟩, ?_⟩ hn hk hx he hb hd)
  refine lands_againW (s := ⟨h₅, g, d, tk, o⟩) hheld fun h₆ hfl₆ hsm₆ => ?_
  exact wpAny_passesOwnAt hE (k h₆ hfl₆.1 (hsm₅.trans hsm₆))
end

theorem noBool_match : typeLookup (.type "re.Match") "__bool__" = pure none := by rw [typeLookup_type, builtinLookup_eq_fast]; kernel_rfl
theorem noLen_match : typeLookup (.type "re.Match") "__len__" = pure none := by rw [typeLookup_type, builtinLookup_eq_fast]; kernel_rfl
section
variable {prog : Program} {w : World} {A : Around} {E : Value → Shared → Prop} {s : Shared}
theorem w_tmatch {a : Addr} {Q : Bool → Shared → Prop} (hm : isMatch s.heap a) (h : Q true s) : Wp (model prog w) A (truthy (.ref a)) Q E s := by
  refine .of ?_
  obtain ⟨vs, e⟩ := hm
  have hT : s.TypeIs (.ref a) "re.Match" := ⟨_, e, rfl⟩
  unfold truthy
  first
    | refine wpAny_bind (wpAny_callSpecial?_none (name := Str.ofString "__bool__") hT noBool_match ?_)
    | refine wpAny_bind (wpAny_pure (wpAny_bind (wpAny_callSpecial?_none (name := Str.ofString "__bool__") hT noBool_match ?_)))
  first
    | refine wpAny_bind (wpAny_specialOf (name := Str.ofString "__len__") hT noLen_match ?_)
    | refine wpAny_bind (wpAny_pure (wpAny_bind (wpAny_specialOf (name := Str.ofString "__len__") hT noLen_match ?_)))
  first
    | exact wpAny_pure h
    | exact wpAny_bind (wpAny_pure (wpAny_pure h))
    | (rw [if_pos rfl]; exact wpAny_pure h)
end
end Mine
end
section
-- part Base
open PySem PySem.W PyProof.Rows PySem.Calls
set_option Elab.async false
set_option maxRecDepth 100000
set_option maxHeartbeats 8000000
namespace Mine
noncomputable abbrev PR : PySem.Program := PySem.Challenge.pw_sr0052_01
noncomputable abbrev LW : List Str := looseW viewP looseL
abbrev Gn (w : World) (h : Heap) : Prop := Gnd (hd.heap_1 w.params) viewP LW h
end Mine
end
section
open PySem PySem.W PyProof.Rows PySem.Calls
local macro_rules | `(tactic| walk_at "fn") => `(tactic| ((case G => assumption); (case r => assumption); (case ho => k_is); (case hcd => k_is); (case hb => exact rfl); (case hk => exact rfl); (case hnd => decide +kernel); (case c1 => exact rfl); (case c2 => exact rfl); (case c3 => exact rfl)))
local macro_rules | `(tactic| walk_at "fill") => `(tactic| ((have fillNow : (PySem.Challenge.rw_sr0052_01, Mine.hd.heap_1) = (PySem.Challenge.rw_sr0052_01, Mine.hd.heap_1) := by (k_fill; rfl)); clear fillNow))
section
-- part Fq
open PySem PySem.W PyProof.Rows PySem.Calls
set_option Elab.async false
set_option maxRecDepth 100000
set_option maxHeartbeats 8000000
namespace Mine
theorem finds2 (text : Array Nat) (_ : text.size ≤ 1000000) : Finds c2 text [13, 10] (F2 text) := fun p hp => by
  rcases F2_find text _ p rfl hp with ⟨h1, h2⟩ | ⟨i, h1, h2, h3, h4, h5⟩
  · obtain ⟨n, st, hd, hn, x⟩ := search2_none h1
    exact .inl ⟨n, st, hd, by omega, x, h2⟩
  · obtain ⟨n, hn, x⟩ := search2_some h1 h2 h3 h4
    have q := F2_at h2 h4
    exact .inr ⟨n, i, _, by omega, h1, q.1, q.2.1, x, h5⟩
theorem finds1 (text : Array Nat) (hs : text.size ≤ 1000000) : Finds c1 text [46, 46] (F1 text) := fun p hp => by
  rcases F1_find text _ p rfl hp with ⟨h1, h2⟩ | ⟨i, h1, h3, h4, h5⟩
  · obtain ⟨n, st, hd, hn, x⟩ := search1_none h1
    exact .inl ⟨n, st, hd, by omega, x, h2⟩
  · obtain ⟨n, hn, x⟩ := search1_some h1 h3 h4
    exact .inr ⟨n, i, _, by omega, h1, Nat.lt_succ_self _, h4.1, x, h5⟩

def quote (x : List Nat) : List Nat := dots true (crlf x)
theorem crlf_length : ∀ (k : Nat) (x : List Nat), x.length ≤ k → (crlf x).length ≤ 2 * x.length
  | _, [], _ => by simp [crlf]
  | 0, c :: r, h => by simp at h
  | k + 1, [c], _ => by
    cases hn : nl c with
    | true => rw [crlf_one hn (by rintro ⟨_, _, e⟩; cases e)]; simp [crlf]
    | false => rw [crlf_plain hn]; simp [crlf]
  | k + 1, c :: d :: r, h => by
    have h' : (d :: r).length ≤ k := by simp at h ⊢; omega
    have ih := crlf_length k (d :: r) h'
    have ih2 := crlf_length k r (by simp at h'; omega)
    cases hn : nl c with
    | true =>
      by_cases q : c = 13 ∧ ∃ r', d :: r = 10 :: r'
      · obtain ⟨rfl, r', e⟩ := q
        cases e
        rw [crlf_two]; simp at ih2 ⊢; omega
      · rw [crlf_one hn q]; simp at ih ⊢; omega
    | false => rw [crlf_plain hn]; simp at ih ⊢; omega

theorem isPat_of {K : Frag} {h : Heap} {a ct : Addr} {o oc : Obj} {f0 f1 : Value} {vs : Array Value} {n : Nat} {code : Array Nat} (X : K.In h) (h1 : K.lookup a = some o) (h2 : o.cls = .type "re.Pattern") (h3 : o.dict = none)
    (h4 : o.data = .fields #[f0, f1, .int 0 0, .none, .none, .ref ct, .int 0 0]) (h5 : K.lookup ct = some oc) (h6 : oc.cls = .type "tuple") (h7 : oc.data = .seq vs n) (h8 : (vs.map PySem.Builtin.Re.reRawOf).map (·.toNat) = code) : IsPat h a code :=
  ⟨o, f0, f1, ct, oc, vs, n, X _ _ h1, h2, h3, h4, X _ _ h5, h6, h7, h8⟩
local macro_rules | `(tactic| walk_at "pat") => `(tactic| (walk_at "fill"; (refine' isPat_of (Gnd.k ‹_›) ?h1 ?h2 ?h3 ?h4 ?h5 ?h6 ?h7 ?h8); (case h1 => k_is); (case h2 => exact rfl); (case h3 => exact rfl); (case h4 => exact rfl); (case h5 => k_is); (case h6 => exact rfl); (case h7 => exact rfl); (case h8 => decide +kernel)))
theorem pat1 {w : World} {h : Heap} (G : Gn w h) : IsPat h 43 c1 := by walk_at "pat"
theorem pat2 {w : World} {h : Heap} (G : Gn w h) : IsPat h 48 c2 := by walk_at "pat"
theorem pat3 {w : World} {h : Heap} (G : Gn w h) : IsPat h 93 c3 := by walk_at "pat"
theorem pat4 {w : World} {h : Heap} (G : Gn w h) : IsPat h 98 c4 := by walk_at "pat"

section
variable {w : World} {A : Around} {hp : Heap} {g : Array GenState} {d : Drawn} {tk : Nat} {o : OsState} {R : Result → Shared → Prop}
theorem quotedata_fn {x : Str} {u : Tok} (hx : x.cps.size ≤ 400000) (G : Gn w hp) (r : Room 5 A)
    (hR : ∀ h' t' tk', hp.StaysIn h' → R (.ok (.ret (.str (Str.mk (quote x.cps.toList).toArray) t'))) ⟨h', g, d, tk', o⟩) :
    codeAny (model PR w) A (.call (.ref 55) ⟨[.str x u], []⟩) R ⟨hp, g, d, tk, o⟩ := by
  walk_at "fill"
  refine' w_enterQ (n := 4) (binds := [(Str.ofString "data", .str x u)]) ?G ?r ?ho ?hcd ?hb ?hk ?hnd ?_ ?c1 ?c2 ?c3
  walk_at "fn"
  intro L h₁ tk A₉ Q₉ E₉ st hL F r' hA₉ hQ₉
  have G' := G.keeps st
  refine w_ret ?_
  refine w_meth ?_
  refine' w_glob G' ?hg ?_
  case hg => k_is
  intro pl
  have P1 := pat1 G'
  have P2 := pat2 G'
  refine w_gmb plain_pat slot_sub type_sub (let ⟨o, _, _, _, _, _, _, e1, e2, _⟩ := P1; ⟨o, e1, e2⟩) (fun a e => by cases e; exact (let ⟨o, _, _, _, _, _, _, e1, _, e3, _⟩ := P1; ⟨o, e1, e3⟩)) ?_
  refine w_cwb ?_
  refine w_sp2 ?_
  refine w_str fun t₁ tk₁ => ?_
  refine w_meth ?_
  refine' w_glob G' ?hg ?_
  case hg => k_is
  intro pl
  refine w_gmb plain_pat slot_sub type_sub (let ⟨o, _, _, _, _, _, _, e1, e2, _⟩ := P2; ⟨o, e1, e2⟩) (fun a e => by cases e; exact (let ⟨o, _, _, _, _, _, _, e1, _, e3, _⟩ := P2; ⟨o, e1, e3⟩)) ?_
  refine w_cwb ?_
  refine w_sp2 ?_
  refine' w_glob G' ?hg ?_
  case hg => k_is
  refine w_local F.rd rfl ?_
  refine w_resub (F := F2 x.cps) (finds2 x.cps (by omega)) (by omega) (by decide +kernel) (by decide +kernel) P2 fun h₂ t₂ tk₂ st₂ => ?_
  have hlen := crlf_length _ x.cps.toList (Nat.le_refl _)
  have hlen' : (crlf x.cps.toList).length ≤ 800000 := by
    have : x.cps.toList.length = x.cps.size := by simp
    omega
  refine w_resub (F := F1 (F2 x.cps 0).toArray) (finds1 _ ?_) ?_ (by decide +kernel) (by decide +kernel) (P1.keeps st₂) fun h₃ t₃ tk₃ st₃ => ?_
  · show (crlf x.cps.toList).toArray.size ≤ _
    rw [List.size_toArray]; omega
  · show (crlf x.cps.toList).toArray.size ≤ _
    rw [List.size_toArray]; omega
  · have e : F1 (F2 x.cps 0).toArray 0 = quote x.cps.toList := rfl
    rw [e]
    exact hQ₉ _ _ (hR h₃ t₃ tk₃ (Stay.trans st (Stay.trans st₂ st₃)))

def gamesS : List Str := [Str.ofString "ab", Str.ofString "ac", Str.ofString "ad", Str.ofString "ae", Str.ofString "bc", Str.ofString "bd", Str.ofString "be", Str.ofString "cd", Str.ofString "ce", Str.ofString "de"]
theorem games_fn (G : Gn w hp) (r : Room 2 A)
    (hR : ∀ l ts h' tk', hp.StaysIn h' → hp.get? l = none → h'.get? l = some { cls := .type "list", data := .seq ts } → StrsAre ts.toList gamesS → R (.ok (.ret (.ref l))) ⟨h', g, d, tk', o⟩) :
    codeAny (model PR w) A (.call (.ref 238) ⟨[], []⟩) R ⟨hp, g, d, tk, o⟩ := by
  walk_at "fill"
  refine' w_enterQ (n := 1) (binds := []) ?G ?r ?ho ?hcd ?hb ?hk ?hnd ?_ ?c1 ?c2 ?c3
  walk_at "fn"
  intro L h₁ tk A₉ Q₉ E₉ st hL F r' hA₉ hQ₉
  refine w_ret ?_
  refine w_list ?_
  iterate 10 (refine w_sp ?_; refine w_str fun t tk' => ?_)
  refine w_sp0 ?_
  refine w_newlist (by simp only [List.length_cons, List.length_nil]; omega) fun l h' st' hn ho => ?_
  refine hQ₉ _ _ (hR l _ h' _ (Stay.trans st st') (fresh_back st hn) ho ?_)
  unfold gamesS
  repeat constructor

theorem isterm_fn {v : Int} {t : Tok} (G : Gn w hp) (r : Room 2 A)
    (hR : ∀ h' tk', hp.StaysIn h' → R (.ok (.ret (.bool (decide (v < 256))))) ⟨h', g, d, tk', o⟩) :
    codeAny (model PR w) A (.call (.ref 69) ⟨[.int v t], []⟩) R ⟨hp, g, d, tk, o⟩ := by
  walk_at "fill"
  refine' w_enterQ (n := 1) (binds := [(Str.ofString "x", .int v t)]) ?G ?r ?ho ?hcd ?hb ?hk ?hnd ?_ ?c1 ?c2 ?c3
  walk_at "fn"
  intro L h₁ tk A₉ Q₉ E₉ st hL F r' hA₉ hQ₉
  refine w_ret ?_
  refine w_cmp ?_
  refine w_local F.rd rfl ?_
  refine' w_glob (G.keeps st) ?hg ?_
  case hg => k_is
  refine w_lt ?_
  exact hQ₉ _ _ (hR _ _ st)
theorem isnon_fn {v : Int} {t : Tok} (G : Gn w hp) (r : Room 2 A)
    (hR : ∀ h' tk', hp.StaysIn h' → R (.ok (.ret (.bool (decide (256 ≤ v))))) ⟨h', g, d, tk', o⟩) :
    codeAny (model PR w) A (.call (.ref 76) ⟨[.int v t], []⟩) R ⟨hp, g, d, tk, o⟩ := by
  walk_at "fill"
  refine' w_enterQ (n := 1) (binds := [(Str.ofString "x", .int v t)]) ?G ?r ?ho ?hcd ?hb ?hk ?hnd ?_ ?c1 ?c2 ?c3
  walk_at "fn"
  intro L h₁ tk A₉ Q₉ E₉ st hL F r' hA₉ hQ₉
  refine w_ret ?_
  refine w_cmp ?_
  refine w_local F.rd rfl ?_
  refine' w_glob (G.keeps st) ?hg ?_
  case hg => k_is
  refine w_ge ?_
  exact hQ₉ _ _ (hR _ _ st)
theorem iseof_fn {v : Int} {t : Tok} (G : Gn w hp) (r : Room 2 A)
    (hR : ∀ h' tk', hp.StaysIn h' → R (.ok (.ret (.bool (v == 0)))) ⟨h', g, d, tk', o⟩) :
    codeAny (model PR w) A (.call (.ref 83) ⟨[.int v t], []⟩) R ⟨hp, g, d, tk, o⟩ := by
  walk_at "fill"
  refine' w_enterQ (n := 1) (binds := [(Str.ofString "x", .int v t)]) ?G ?r ?ho ?hcd ?hb ?hk ?hnd ?_ ?c1 ?c2 ?c3
  walk_at "fn"
  intro L h₁ tk A₉ Q₉ E₉ st hL F r' hA₉ hQ₉
  refine w_ret ?_
  refine w_cmp ?_
  refine w_local F.rd rfl ?_
  refine' w_glob (G.keeps st) ?hg ?_
  case hg => k_is
  refine w_eqi ?_
  exact hQ₉ _ _ (hR _ _ st)
end
end Mine
end
section
-- part Fnum
open PySem PySem.W PyProof.Rows PySem.Calls
set_option Elab.async false
set_option maxRecDepth 100000
set_option maxHeartbeats 8000000
namespace Mine
section
variable {w : World} {A : Around} {hp : Heap} {g : Array GenState} {d : Drawn} {tk : Nat} {o : OsState} {R : Result → Shared → Prop}

def toldOf (n : Int) : Int := if n.fmod 3 = 0 then n.fdiv 3 + 1 else if n.fmod 3 = 1 then 255 - (n.fdiv 3).fmod 255 else 256 + (n.fdiv 3).fmod 4000

theorem numbers_fn {lst : Addr} {items : Array Value} {script : List Int} (hl : hp.IsList lst items) (hsz : script.length ≤ 63) (hint : Paired IntIs script items.toList) (G : Gn w hp) (r : Room 5 A)
    (hR : ∀ l ts k h' tk' (told : List Int), hp.StaysIn h' → hp.get? l = none → h'.get? l = some (lobj ts k) → told.length = 10 → (∀ v ∈ told, 1 ≤ v ∧ v ≤ 400000) → Paired IntIs told ts.toList →
      R (.ok (.ret (.ref l))) ⟨h', g, d, tk', o⟩) :
    codeAny (model PR w) A (.call (.ref 243) ⟨[.ref lst], []⟩) R ⟨hp, g, d, tk, o⟩ := by
  walk_at "fill"
  have hsize : items.size = script.length := paired_size hint
  refine' w_enterQ (n := 4) (binds := [(Str.ofString "script", .ref lst)]) ?G ?r ?ho ?hcd ?hb ?hk ?hnd ?_ ?c1 ?c2 ?c3
  walk_at "fn"
  intro L h₁ tk A₉ Q₉ E₉ st hL F r' hA₉ hQ₉
  have G₁ := G.keeps st
  refine w_set ?_
  refine w_list ?_
  iterate 10 (refine w_sp ?_; refine w_int fun t tk' => ?_)
  refine w_sp0 ?_
  refine w_newlist (by simp only [List.length_cons, List.length_nil]; omega) fun l h₂ st₂ hn ho => ?_
  have F₂ := F.push st₂ hn ho
  refine w_stl F₂ fun h₃ tk₃ F₃ _ => ?_
  have G₃ := G.keeps F₃.keep
  refine w_for (List.range (min 60 items.size)) (fun i v => ∃ t, v = Value.int i t)
    (fun i B m cm N => ∃ ob ys nums, N = [(l, ob)] ∧ IsL ob ys ∧ Paired IntIs nums ys.toList ∧ nums.length = 10 ∧ (∀ v ∈ nums, 0 ≤ v ∧ v < 1000000) ∧ m "drawn" = some (.ref l) ∧ m "script" = some (.ref lst)) r'.handled ?_
  refine w_call ?_
  refine' w_bname G₃ ?hg rfl ?_
  case hg => k_is
  refine w_cwt ?_
  refine w_sp1 ?_
  refine w_call ?_
  refine' w_bname G₃ ?hg rfl ?_
  case hg => k_is
  refine w_cwb ?_
  refine w_sp2 ?_
  refine w_int fun t tk' => ?_
  refine w_call ?_
  refine' w_bname G₃ ?hg rfl ?_
  case hg => k_is
  refine w_cwb ?_
  refine w_sp1 ?_
  refine w_local F₃.rd rfl ?_
  refine w_len (hl.at fun o e => F₃.keep _ _ e) (by omega) fun t tk' => ?_
  refine w_min r'.handled fun t h₄ tk₄ st₄ => ?_
  have e1 : (if (items.size : Int) < 60 then (items.size : Int) else 60) = ((min 60 items.size : Nat) : Int) := by omega
  rw [e1]
  have F₄ := F₃.keeps st₄
  refine w_range fun rg h₅ tk₅ t₁ u₁ v₁ st₅ hnr hr => ?_
  obtain ⟨F₅, kB, new⟩ := F₄.rebase_new st₅
  refine ⟨h₅, tk₅, _, _, _, _, rfl, feed_range (new _ _ hnr hr) (by omega), F₅, ⟨_, _, [2, 767, 11522, 1, 765, 786429, 5, 8, 2, 14], rfl, isL_lobj, ?_, rfl, by decide, rfl, rfl⟩, ?_, ?_⟩
  · repeat first | exact .nil | refine .cons ⟨_, rfl⟩ ?_
  · rintro i a v B m cm N I oI h tk Qt E' ha ⟨ti, rfl⟩ hB F ⟨ob, ys, nums, rfl, hob, hp', hlen, hbd, hmd, hms⟩ hT
    have hil : a = i ∧ i < min 60 items.size := by
      have h1 := (List.getElem?_eq_some_iff.mp ha).1
      rw [List.length_range] at h1
      rw [List.getElem?_range h1] at ha
      cases ha; exact ⟨rfl, h1⟩
    obtain ⟨rfl, hil⟩ := hil
    have hys : ys.size = 10 := by rw [paired_size hp', hlen]
    have hfm : ((a : Int).fmod 10) = ((a % 10 : Nat) : Int) := by rw [Int.fmod_eq_emod_of_nonneg _ (by omega)]; omega
    have h10 : a % 10 < 10 := Nat.mod_lt _ (by omega)
    obtain ⟨x, hx⟩ : ∃ x, nums[a % 10]? = some x := ⟨nums[a % 10]'(by omega), List.getElem?_eq_getElem (by omega)⟩
    obtain ⟨xv, hxv, tx, rfl⟩ := paired_arr hp' hx
    obtain ⟨y, hy⟩ : ∃ y, script[a]? = some y := ⟨script[a]'(by omega), List.getElem?_eq_getElem (by omega)⟩
    obtain ⟨yv, hyv, ty, rfl⟩ := paired_arr hint hy
    have hl' : h.IsList l ys := isL_list (F.news _ (.tail _ (.head _))).1 hob
    have hs' : h.IsList lst items := hl.at fun o e => F.keep _ _ (hB _ _ (kB _ _ e))
    refine w_setsub ?_
    refine w_binop ?_
    refine w_binop ?_
    refine w_sub ?_
    refine w_local F.rd (set_ne hmd) ?_
    refine w_binop ?_
    refine w_local F.rd set_eq ?_
    refine w_int fun t tk' => ?_
    refine w_mod (by decide) fun t tk' => ?_
    rw [hfm]
    refine w_ilist hl' (by omega) (by omega) (by rw [Int.toNat_natCast]; exact hxv) ?_
    refine w_sub ?_
    refine w_local F.rd (set_ne hms) ?_
    refine w_local F.rd set_eq ?_
    refine w_ilist hs' (by omega) (by omega) (by rw [Int.toNat_natCast]; exact hyv) ?_
    refine w_add fun t tk' => ?_
    refine w_binop ?_
    refine w_int fun t tk' => ?_
    refine w_int fun t tk' => ?_
    refine w_pow (by decide) (by decide) (by decide) fun t tk' => ?_
    refine w_mod (by decide) fun t tk' => ?_
    refine w_local F.rd (set_ne hmd) ?_
    refine w_binop ?_
    refine w_local F.rd set_eq ?_
    refine w_int fun t tk' => ?_
    refine w_mod (by decide) fun t tk' => ?_
    rw [hfm]
    refine w_setl hl' (by omega) (by omega) (by omega) fun h' ob' hob1 hob2 hbut => ?_
    refine w_nil ?_
    refine hT _ _ ⟨.inl rfl, B, _, _, _, h', _, rfl, Stay.refl _, F.turn1 hbut hob1, ob', _, nums.set (a % 10) ((x + y).fmod (10 ^ (6 : Int).toNat)), rfl, hob2, ?_, by rw [List.length_set]; exact hlen, ?_, set_ne hmd, set_ne hms⟩
    · rw [Array.toList_setIfInBounds]
      exact paired_set hp' _ ⟨_, rfl⟩
    · intro v hv
      rcases List.mem_or_eq_of_mem_set hv with hv | rfl
      · exact hbd v hv
      · rw [Int.fmod_eq_emod_of_nonneg _ (by decide)]
        have : ((10 : Int) ^ (6 : Int).toNat) = 1000000 := by decide
        rw [this]; omega
  · rintro B m cm N h tk hB F ⟨ob, ys, nums, rfl, hob, hp', hlen, hbd, hmd, hms⟩
    refine w_ret ?_
    refine w_comp nums IntIs toldOf (fun b y _ => IntIs b y) (fun _ _ _ _ q _ => q) r'.handled ?_
    refine w_local F.rd hmd ?_
    have hl' : h.IsList l ys := isL_list (F.news _ (.head _)).1 hob
    refine ⟨h, tk, _, _, rfl, F.rd, feed_list hl' hp', by omega, ?_, ?_⟩
    · rintro C n a v h tk E' ha ⟨ta, rfl⟩ st R'
      refine w_sub ?_
      refine w_list ?_
      refine w_sp3 ?_
      refine w_binop ?_
      refine w_binop ?_
      refine w_local R' rfl ?_
      refine w_int fun t tk' => ?_
      refine w_divs (by decide) (by decide) fun t tk' => ?_
      refine w_int fun t tk' => ?_
      refine w_add fun t tk' => ?_
      refine w_binop ?_
      refine w_int fun t tk' => ?_
      refine w_binop ?_
      refine w_binop ?_
      refine w_local R' rfl ?_
      refine w_int fun t tk' => ?_
      refine w_divs (by decide) (by decide) fun t tk' => ?_
      refine w_int fun t tk' => ?_
      refine w_mod (by decide) fun t tk' => ?_
      refine w_subi fun t tk' => ?_
      refine w_binop ?_
      refine w_int fun t tk' => ?_
      refine w_binop ?_
      refine w_binop ?_
      refine w_local R' rfl ?_
      refine w_int fun t tk' => ?_
      refine w_divs (by decide) (by decide) fun t tk' => ?_
      refine w_int fun t tk' => ?_
      refine w_mod (by decide) fun t tk' => ?_
      refine w_add fun t tk' => ?_
      refine w_newlist (by simp only [List.length_cons, List.length_nil]; omega) fun l₂ h₂ st₂ hn₂ ho₂ => ?_
      refine w_binop ?_
      refine w_local (R'.keeps st₂) rfl ?_
      refine w_int fun t tk' => ?_
      refine w_mod (by decide) fun t tk' => ?_
      have h3 : a.fmod 3 = 0 ∨ a.fmod 3 = 1 ∨ a.fmod 3 = 2 := by rw [Int.fmod_eq_emod_of_nonneg _ (by decide)]; omega
      have hlist := isList_obj ho₂
      rcases h3 with e | e | e
      · rw [e]
        refine w_ilist hlist (by decide) (by decide) rfl ⟨h₂, _, rfl, st₂, fun H _ _ => by unfold toldOf; rw [if_pos e]; exact ⟨_, rfl⟩⟩
      · rw [e]
        refine w_ilist hlist (by decide) (by decide) rfl ⟨h₂, _, rfl, st₂, fun H _ _ => by unfold toldOf; rw [if_neg (by omega), if_pos e]; exact ⟨_, rfl⟩⟩
      · rw [e]
        refine w_ilist hlist (by decide) (by decide) rfl ⟨h₂, _, rfl, st₂, fun H _ _ => by unfold toldOf; rw [if_neg (by omega), if_neg (by omega)]; exact ⟨_, rfl⟩⟩
    · intro D h' tk' zs k st' hnD hD hp
      refine hQ₉ _ _ (hR D zs k h' tk' (nums.map toldOf) (Stay.trans (Stay.trans kB (Stay.trans hB F.keep)) st') ?_ hD (by rw [List.length_map]; exact hlen) ?_ hp)
      · exact fresh_back (Stay.trans kB (Stay.trans hB F.keep)) hnD
      · intro v hv
        obtain ⟨n, hn, rfl⟩ := List.mem_map.mp hv
        have hb := hbd n hn
        unfold toldOf
        rw [Int.fmod_eq_emod_of_nonneg _ (by decide), Int.fmod_eq_emod_of_nonneg _ (by decide), Int.fmod_eq_emod_of_nonneg _ (by decide), Int.fdiv_eq_ediv_of_nonneg _ (by decide)]
        split
        · omega
        split <;> omega
end
end Mine
end
section
-- part Ftab
open PySem PySem.W PyProof.Rows PySem.Calls
set_option Elab.async false
set_option maxRecDepth 100000
set_option maxHeartbeats 8000000
set_option linter.unusedVariables false
namespace Mine
theorem w_tnone {M : Model} {A : Around} {E : Value → Shared → Prop} {s : Shared} {Q : Bool → Shared → Prop} (h : Q false s) : Wp M A (truthy .none) Q E s := .of (truthy_none h)
section
variable {w : World} {A : Around} {hp : Heap} {g : Array GenState} {d : Drawn} {tk : Nat} {o : OsState} {R : Result → Shared → Prop}
/-- a str that both patterns let pass -/
def Fine (x : Str) : Prop := x.cps.size ≤ 1000000 ∧ ∀ j, j < x.cps.size → 65 ≤ x.cps.getD j 0 ∧ x.cps.getD j 0 ≤ 122
theorem Fine.s3 {x : Str} (f : Fine x) : ∃ n st hd, n < 2 ^ 60 ∧ Ends (Sre.forSearch c3 x.cps 0 0 x.cps.size false) n .failed st hd := by
  obtain ⟨n, st, hd, hn, x'⟩ := search3_none (text := x.cps) fun j hj => by
    have := f.2 j hj
    rw [Bool.or_eq_false_iff]
    exact ⟨decide_eq_false (by omega), beq_eq_false_iff_ne.mpr (by omega)⟩
  exact ⟨n, st, hd, by omega, x'⟩
theorem convert_fn {self : Value} {x : Str} {u : Tok} {b : Bool} (hx : Fine x) (G : Gn w hp) (r : Room 3 A)
    (hR : ∀ h' tk', hp.StaysIn h' → R (.ok (.ret (.str x u))) ⟨h', g, d, tk', o⟩) :
    codeAny (model PR w) A (.call (.ref 128) ⟨[self, .str x u], [(Str.ofString "name", .bool b)]⟩) R ⟨hp, g, d, tk, o⟩ := by
  walk_at "fill"
  refine' w_enterQ (n := 2) (binds := [(Str.ofString "self", self), (Str.ofString "value", .str x u), (Str.ofString "name", .bool b)]) ?G ?r ?ho ?hcd ?hb ?hk ?hnd ?_ ?c1 ?c2 ?c3
  walk_at "fn"
  intro L h₁ tk A₉ Q₉ E₉ st hL F r' hA₉ hQ₉
  have G₁ := G.keeps st
  refine w_if ?_
  refine w_tcmp ?_
  refine w_call ?_
  refine' w_bname G₁ ?hg rfl ?_
  case hg => k_is
  refine w_cwt ?_
  refine w_sp1 ?_
  refine w_local F.rd rfl ?_
  refine w_type (typeIs_str _ _ _) rfl ?_
  refine' w_bname G₁ ?hg rfl ?_
  case hg => k_is
  refine w_is rfl ?_
  refine w_truthy ?_
  refine ⟨fun _ => ?_, fun e => by cases e⟩
  refine w_set ?_
  refine w_ifexp ?_
  refine w_true ?_
  refine w_local F.rd rfl ?_
  refine w_truthy ?_
  refine ⟨fun hb => ?ga, fun hb => ?gb⟩
  case' ga =>
    refine' w_glob G₁ ?hg ?_
    case hg => k_is
    have P := pat3 G
    have N := hx.s3
  case' gb =>
    refine' w_glob G₁ ?hg ?_
    case hg => k_is
    have P := pat4 G
    have N := search4_none hx.2
  all_goals
    refine w_stl F fun h₂ tk₂ F₂ kp => ?_
    have P₂ := P.keeps F₂.keep
    refine w_if ?_
    refine w_true ?_
    refine w_meth ?_
    refine w_local F₂.rd set_eq ?_
    intro pl
    refine w_gmb plain_pat slot_search type_search (let ⟨o, _, _, _, _, _, _, e1, e2, _⟩ := P₂; ⟨o, e1, e2⟩) (fun a e => by cases e; exact (let ⟨o, _, _, _, _, _, _, e1, _, e3, _⟩ := P₂; ⟨o, e1, e3⟩)) ?_
    refine w_cwb ?_
    refine w_sp1 ?_
    refine w_local F₂.rd rfl ?_
    refine w_research0 P₂ hx.1 N ?_
    refine w_tnone ?_
    refine ⟨fun e => (nomatch e), fun _ => ?_⟩
    refine w_nil ?_
    refine then_next ?_
    refine w_ret ?_
    refine w_local F₂.rd rfl ?_
    exact hQ₉ _ _ (hR _ _ F₂.keep)

/-- a table whose list is L -/
def Tab (h : Heap) (x L : Addr) : Prop := ∃ dx od, h.get? x = some (instObj 227 dx) ∧ h.get? dx = some od ∧ lookIn "_headers" od = some (some (.ref L)) ∧
  lookIn "_convert_string_type" od = some none ∧ lookIn "get_all" od = some none ∧ lookIn "items" od = some none ∧ lookIn "add_header" od = some none
theorem Tab.keeps {h h' : Heap} {x L : Addr} (t : Tab h x L) (k : h.StaysIn h') : Tab h' x L := let ⟨dx, od, e1, e2, r⟩ := t; ⟨dx, od, k _ _ e1, k _ _ e2, r⟩
theorem Tab.inst {h : Heap} {x L : Addr} (t : Tab h x L) : ∃ dx od, InstAt h x (instObj 227 dx) 227 (some od) ∧ lookIn "_headers" od = some (some (.ref L)) ∧
  lookIn "_convert_string_type" od = some none ∧ lookIn "get_all" od = some none ∧ lookIn "items" od = some none ∧ lookIn "add_header" od = some none :=
  let ⟨dx, od, e1, e2, r⟩ := t; ⟨dx, od, ⟨e1, rfl, rfl, e2⟩, r⟩
def RowsOf (h : Heap) (L : Addr) (ps : List (Str × Str)) : Prop := ∃ ys k, h.get? L = some (lobj ys k) ∧ Paired (TupOf h) ps ys.toList
theorem RowsOf.keeps {h h' : Heap} {L : Addr} {ps : List (Str × Str)} (t : RowsOf h L ps) (k : h.StaysIn h') : RowsOf h' L ps := let ⟨ys, n, e, p⟩ := t; ⟨ys, n, k _ _ e, paired_mono (fun _ _ q => q.keeps k) p⟩

/-- the table's own method, looked up -/
theorem gm_tab {A : Around} {E : Value → Shared → Prop} {h : Heap} {x : Addr} {name : Str} {f : Addr} {pl : Sem Bool} {Q : Value × List Value → Shared → Prop} {g : Array GenState} {d : Drawn} {tk : Nat} {o : OsState} (G : Gn w h)
    (t : ∃ od dx, InstAt h x (instObj 227 dx) 227 (some od) ∧ lookIn name od = some none)
    (hg : plainGet (hd.heap_1 w.params) 227 name = true) (hf : findIn (hd.heap_1 w.params) (.ref 227) name = some (some (.ref f))) (ht : typeIn (hd.heap_1 w.params) (.ref f) = some (.type "function"))
    (hQ : Q (.ref f, [.ref x]) ⟨h, g, d, tk, o⟩) : Wp (model PR w) A (getMethod (.ref x) name pl) Q E ⟨h, g, d, tk, o⟩ := by
  obtain ⟨od, dx, I, hl⟩ := t
  exact w_gmown (s := ⟨h, g, d, tk, o⟩) G.k I hg hf ht (by show (lookIn name od).map (·.isSome) = some false; rw [hl]; rfl) hQ

theorem getall_fn {x L : Addr} {n : Str} {u : Tok} {ps : List (Str × Str)} (T : Tab hp x L) (RW : RowsOf hp L ps) (hps : ps.length ≤ 1000 ∧ ∀ p ∈ ps, p.1.length ≤ 10) (hn : n.length ≤ 10) (hx : Fine (Txt.lower n)) (G : Gn w hp) (r : Room 6 A)
    (hR : ∀ D h' tk' ys k, hp.StaysIn h' → hp.get? D = none → h'.get? D = some (lobj ys k) → Paired StrIs ((ps.filter fun p => Txt.lower p.1 == Txt.lower n).map (·.2)) ys.toList → R (.ok (.ret (.ref D))) ⟨h', g, d, tk', o⟩) :
    codeAny (model PR w) A (.call (.ref 166) ⟨[.ref x, .str n u], []⟩) R ⟨hp, g, d, tk, o⟩ := by
  walk_at "fill"
  refine' w_enterQ (n := 5) (binds := [(Str.ofString "self", .ref x), (Str.ofString "name", .str n u)]) ?G ?r ?ho ?hcd ?hb ?hk ?hnd ?_ ?c1 ?c2 ?c3
  walk_at "fn"
  intro L₁ h₁ tk A₉ Q₉ E₉ st hL F r' hA₉ hQ₉
  have G₁ := G.keeps st
  obtain ⟨dx, od, I, l1, l2, l3, l4, l5⟩ := (T.keeps st).inst
  refine w_set ?_
  refine w_methk ?_
  refine w_local F.rd rfl ?_
  intro pl
  refine' gm_tab (f := 128) G₁ ⟨od, dx, I, l2⟩ ?h1 ?h2 ?h3 ?_
  case h1 => k_is
  case h2 => k_is
  case h3 => k_is
  refine' w_cwk G₁ ?ho ?_
  case ho => k_is
  refine w_sp1 ?_
  refine w_meth ?_
  refine w_cell F.rd rfl ?_
  intro pl
  refine w_glower ?_
  refine w_cwb0 ?_
  refine w_lower (by omega) fun t₁ tk₁ => ?_
  refine w_bool ?_
  refine ⟨G₁.k, ?_⟩
  refine w_fnk ?_
  refine convert_fn hx G₁ (r'.less (by decide)) fun h₂ tk₂ st₂ => ?_
  have F₂ := F.keeps st₂
  refine w_stc F₂ fun h₃ tk₃ F₃ kp => ?_
  refine w_ret ?_
  obtain ⟨ys, k, hL, hp'⟩ := RW.keeps F₃.keep
  refine w_compf ps (TupOf h₃) (fun p => Txt.lower p.1 == Txt.lower n) (fun p => p.2) (fun b y _ => StrIs b y) (fun _ _ _ _ q _ => q) r'.handled ?_
  refine w_attr ?_
  refine w_local F₃.rd rfl ?_
  obtain ⟨dx, od, I, l1, l2, l3, l4, l5⟩ := (T.keeps F₃.keep).inst
  refine' w_getown (G.keeps F₃.keep).k I ?h1 ?h2 ?h3 ?h4 l1 rfl ?_
  case h1 => k_is
  case h2 => k_is
  case h3 => k_is
  case h4 => k_is
  intro tk₄
  refine ⟨h₃, _, _, _, rfl, F₃.rd, feed_list (isList_obj hL) hp', by omega, ?_, ?_, ?_⟩
  · rintro C nn p v h tk E' hpm ⟨a, t, u', rfl, ha⟩ st' R'
    refine w_tcmp ?_
    refine w_meth ?_
    refine w_sub ?_
    refine w_local R' rfl ?_
    refine w_int fun t tk' => ?_
    refine w_ituple (st' _ _ ha) (by decide) (by simp) (by decide) rfl ?_
    intro pl
    refine w_glower ?_
    refine w_cwb0 ?_
    refine w_lower (by have := hps.2 p hpm; omega) fun t tk' => ?_
    refine w_cell R' rfl ?_
    refine w_eqs ?_
    refine w_truthy ⟨h, _, rfl, Stay.refl _, rfl⟩
  · rintro C nn p v h tk E' hpm _ ⟨a, t, u', rfl, ha⟩ st' R'
    refine w_sub ?_
    refine w_local R' rfl ?_
    refine w_int fun t tk' => ?_
    refine w_ituple (st' _ _ ha) (by decide) (by simp) (by decide) rfl ?_
    exact ⟨h, _, rfl, Stay.refl _, fun H _ _ => ⟨_, rfl⟩⟩
  · intro D h' tk' zs kk st' hnD hD hpz
    exact hQ₉ _ _ (hR D h' tk' zs kk (Stay.trans F₃.keep st') (fresh_back F₃.keep hnD) hD hpz)
end
end Mine
end
section
-- part Ftab2
open PySem PySem.W PyProof.Rows PySem.Calls
set_option Elab.async false
set_option maxRecDepth 100000
set_option maxHeartbeats 8000000
set_option linter.unusedVariables false
namespace Mine
theorem join_one (x v : Str) : Txt.join x [v] = v := rfl
theorem lt_of_k {K : Frag} {h : Heap} {a : Addr} (X : K.In h) (e : fnIn K a = true) : a < h.objs.size := by
  unfold fnIn at e
  split at e
  · rename_i q; exact Heap.lt_size (X _ _ q)
  · cases e
theorem big_heap {w : World} {h : Heap} (G : Gn w h) : 224 < h.objs.size := by
  walk_at "fill"
  refine' lt_of_k G.k ?e
  k_is
section
variable {w : World} {A : Around} {hp : Heap} {g : Array GenState} {d : Drawn} {tk : Nat} {o : OsState} {R : Result → Shared → Prop}
theorem items_fn {x L : Addr} {ys : Array Value} (T : Tab hp x L) (hl : hp.IsList L ys) (hsz : ys.size ≤ 1000) (G : Gn w hp) (r : Room 3 A)
    (hR : ∀ D h' tk', hp.StaysIn h' → hp.get? D = none → h'.get? D = some (lobj ys 0) → R (.ok (.ret (.ref D))) ⟨h', g, d, tk', o⟩) :
    codeAny (model PR w) A (.call (.ref 191) ⟨[.ref x], []⟩) R ⟨hp, g, d, tk, o⟩ := by
  walk_at "fill"
  refine' w_enterQ (n := 2) (binds := [(Str.ofString "self", .ref x)]) ?G ?r ?ho ?hcd ?hb ?hk ?hnd ?_ ?c1 ?c2 ?c3
  walk_at "fn"
  intro L₁ h₁ tk A₉ Q₉ E₉ st hL F r' hA₉ hQ₉
  have G₁ := G.keeps st
  obtain ⟨dx, od, I, l1, l2, l3, l4, l5⟩ := (T.keeps st).inst
  refine w_ret ?_
  refine w_sub ?_
  refine w_attr ?_
  refine w_local F.rd rfl ?_
  refine' w_getown G₁.k I ?h1 ?h2 ?h3 ?h4 l1 rfl ?_
  case h1 => k_is
  case h2 => k_is
  case h3 => k_is
  case h4 => k_is
  intro tk₁
  refine w_slice0 fun tk₂ => ?_
  refine w_islice (hl.at fun o e => st _ _ e) (by omega) fun D h' st' hn hD => ?_
  exact hQ₉ _ _ (hR D h' _ (Stay.trans st st') (fresh_back st hn) hD)

/-- adding a row to a table that is still being made -/
theorem addheader_fn {B : Heap} {x L : Addr} {n v : Str} {u u' : Tok} {ys : Array Value} {k : Nat} (GB : Gn w B) (hB : B.StaysIn hp) (hBL : B.get? L = none) (T : Tab B x L) (hl : hp.get? L = some (lobj ys k)) (hsz : ys.size ≤ 1000)
    (hn : Fine n) (hv : Fine v) (hvl : v.length ≤ 10) (r : Room 6 A)
    (hR : ∀ h' tk' tp k', But L hp h' → hp.get? tp = none → h'.get? L = some (lobj (ys.push (.ref tp)) k') → (∃ t t', h'.get? tp = some (tobj #[.str n t, .str v t'])) → R (.ok (.ret .none)) ⟨h', g, d, tk', o⟩) :
    codeAny (model PR w) A (.call (.ref 224) ⟨[.ref x, .str n u, .str v u'], []⟩) R ⟨hp, g, d, tk, o⟩ := by
  walk_at "fill"
  have G := GB.keeps hB
  refine' enterG (n := 5) ?G ?r ?ho ?hcd ?hnd ?_ ?c1 ?c2 ?c3
  (case G => assumption); (case r => assumption); (case ho => k_is); (case hcd => k_is); (case hnd => decide +kernel); (case c1 => exact rfl); (case c2 => exact rfl); (case c3 => exact rfl)
  refine' bind_kw [(Str.ofString "self", .ref x), (Str.ofString "_name", .str n u), (Str.ofString "_value", .str v u')] (kwn := Str.ofString "_params") ?e ?_
  case e => exact rfl
  refine ⟨hp.push emptyDict, tk, rfl, stay_push _ _, rfl, fun L₁ h₁ tk₁ st hL F r' => ?_⟩
  have hdd : (hp.push emptyDict).get? hp.objs.size = some emptyDict := Heap.get?_push_size _ rfl
  have hLp : (hp.push emptyDict).get? L = some (lobj ys k) := stay_push _ _ _ _ hl
  have hneL : hp.objs.size ≠ L := by rintro rfl; rw [free_size] at hl; cases hl
  have F₀ := F.take hLp
  have kB : B.StaysIn (hideAll (hp.push emptyDict) [L]) := fun b ob e => hide1 (stay_push _ _ _ _ (hB _ _ e)) (by rintro rfl; rw [hBL] at e; cases e)
  have hdd' : (hideAll (hp.push emptyDict) [L]).get? hp.objs.size = some emptyDict := hide1 hdd hneL
  have st₁ : hp.StaysIn h₁ := Stay.trans (stay_push _ _) st
  -- parts = []
  refine w_set ?_
  refine w_list ?_
  refine w_sp0 ?_
  refine w_newlist (by simp) fun pa h₂ st₂ hnp hop => ?_
  have F₂ := F₀.push st₂ hnp hop
  refine w_stl F₂ fun h₃ tk₃ F₃ _ => ?_
  -- if _value is not None
  refine w_if ?_
  refine w_tcmp ?_
  refine w_local F₃.rd rfl ?_
  refine w_none ?_
  refine w_isnot rfl ?_
  refine w_truthy ?_
  refine ⟨fun _ => ?_, fun e => by cases e⟩
  have G₃ := GB.keeps (Stay.trans kB F₃.keep)
  obtain ⟨dx, od, I, l1, l2, l3, l4, l5⟩ := (T.keeps (Stay.trans kB F₃.keep)).inst
  refine w_set ?_
  refine w_methk ?_
  refine w_local F₃.rd rfl ?_
  intro pl
  refine' gm_tab (f := 128) G₃ ⟨od, dx, I, l2⟩ ?h1 ?h2 ?h3 ?_
  case h1 => k_is
  case h2 => k_is
  case h3 => k_is
  refine' w_cwk G₃ ?ho ?_
  case ho => k_is
  refine w_sp1 ?_
  refine w_local F₃.rd rfl ?_
  refine w_bool ?_
  refine ⟨G₃.k, ?_⟩
  refine w_fnk ?_
  refine convert_fn hv G₃ (r'.less (by decide)) fun h₄ tk₄ st₄ => ?_
  have F₄ := F₃.keeps st₄
  refine w_stl F₄ fun h₅ tk₅ F₅ _ => ?_
  refine w_exprs ?_
  refine w_meth ?_
  refine w_local F₅.rd rfl ?_
  intro pl
  refine w_gappend (F₅.news _ (.head _)).1 ?_
  refine w_cwb ?_
  refine w_sp1 ?_
  refine w_local F₅.rd rfl ?_
  refine w_append (F₅.news _ (.head _)).1 (by simp) fun h₆ k₆ hpa hbut => ?_
  have F₆ := F₅.turn0 hbut hpa
  refine w_nil ?_
  refine then_next ?_
  -- for k, v in _params.items()
  have hdd₆ : h₆.get? hp.objs.size = some emptyDict := F₆.keep _ _ hdd'
  refine w_foritems0 r'.handled F₆ ?_ (beq_eq_false_iff_ne.mpr fun e => by have := big_heap G; rw [e] at this; revert this; decide) hdd₆ (fun E' Q' hQ' => e_local F₆.rd rfl hQ') fun h₇ tk₇ F₇ _ => ?_
  · intro e; have := F₆.off; rw [← e, hdd'] at this; cases this
  -- self._headers.append((.., ..))
  have G₇ := GB.keeps (Stay.trans kB F₇.keep)
  obtain ⟨dx', od', I', m1, m2, m3, m4, m5⟩ := (T.keeps (Stay.trans kB F₇.keep)).inst
  have hL₇ : h₇.get? L = some (lobj ys k) := (F₇.news _ (.tail _ (.head _))).1
  refine w_exprs ?_
  refine w_meth ?_
  refine w_attr ?_
  refine w_local F₇.rd rfl ?_
  refine' w_getown G₇.k I' ?h1 ?h2 ?h3 ?h4 m1 rfl ?_
  case h1 => k_is
  case h2 => k_is
  case h3 => k_is
  case h4 => k_is
  intro tk₈ pl
  refine w_gappend hL₇ ?_
  refine w_cwb ?_
  refine w_sp1 ?_
  refine w_tuple ?_
  refine w_sp2 ?_
  refine w_methk ?_
  refine w_local F₇.rd rfl ?_
  intro pl
  refine' gm_tab (f := 128) G₇ ⟨od', dx', I', m2⟩ ?h1 ?h2 ?h3 ?_
  case h1 => k_is
  case h2 => k_is
  case h3 => k_is
  refine' w_cwk G₇ ?ho ?_
  case ho => k_is
  refine w_sp1 ?_
  refine w_local F₇.rd rfl ?_
  refine w_bool ?_
  refine ⟨G₇.k, ?_⟩
  refine w_fnk ?_
  refine convert_fn hn G₇ (r'.less (by decide)) fun h₈ tk₉ st₈ => ?_
  have F₈ := F₇.keeps st₈
  refine w_meth ?_
  refine w_str fun t₁ tk₁₀ => ?_
  intro pl
  refine w_gjoin ?_
  refine w_cwb ?_
  refine w_sp1 ?_
  refine w_local F₈.rd rfl ?_
  refine w_join (ys := [v]) (isList_obj (F₈.news _ (.head _)).1) (.cons ⟨_, rfl⟩ .nil) ?_ fun t₂ tk₁₁ => ?_
  · have : (Str.ofString "; ").length = 2 := by decide
    simp only [List.map_cons, List.map_nil, List.sum_cons, List.sum_nil, List.length_cons, List.length_nil]; omega
  refine w_newtuple (by simp) fun tp h₉ st₉ hntp htp => ?_
  have F₉ := F₈.keeps st₉
  have hL₉ := (F₉.news _ (.tail _ (.head _))).1
  refine w_append hL₉ (by omega) fun h₁₀ k₁₀ hL₁₀ hbut₁₀ => ?_
  have F₁₀ := F₉.turn1 hbut₁₀ hL₁₀
  refine w_nil ?_
  have hback : ∀ a, h₈.get? a = none → hp.get? a = none := fun a e => by
    cases q : hp.get? a with
    | none => rfl
    | some ob =>
      by_cases hne : a = L
      · subst hne; have := (F₈.news _ (.tail _ (.head _))).1; rw [e] at this; cases this
      · have := F₈.keep _ _ (hide1 (stay_push _ _ _ _ q) hne); rw [e] at this; cases this
  have htpL : tp ≠ L := by rintro rfl; have := (F₈.news _ (.tail _ (.head _))).1; rw [hntp] at this; cases this
  refine hR h₁₀ _ tp k₁₀ (fun b ob hb e => F₁₀.keep _ _ (hide1 (stay_push _ _ _ _ e) hb)) (hback _ hntp) hL₁₀ ⟨u, t₂, ?_⟩
  have e := hbut₁₀ _ _ htpL htp
  have hj : Txt.join (Str.ofString "; ") [v] = v := join_one _ _
  rw [hj] at e
  exact e
end
end Mine
end
section
-- part Ftab3
open PySem PySem.W PyProof.Rows PySem.Calls
set_option Elab.async false
set_option maxRecDepth 100000
set_option maxHeartbeats 8000000
set_option linter.unusedVariables false
namespace Mine
section
variable {w : World} {A : Around} {hp : Heap} {g : Array GenState} {d : Drawn} {tk : Nat} {o : OsState} {R : Result → Shared → Prop}
theorem init_fn {x dx : Addr} (hx : hp.get? x = some (instObj 227 dx)) (hdx : hp.get? dx = some emptyDict) (hne : x ≠ dx) {B : Heap} (GB : Gn w B) (hB : B.StaysIn hp) (hBd : B.get? dx = none) (r : Room 3 A)
    (hR : ∀ h' tk' L, But dx hp h' → hp.get? L = none → h'.get? L = some (lobj #[] 0) → Tab h' x L → R (.ok (.ret .none)) ⟨h', g, d, tk', o⟩) :
    codeAny (model PR w) A (.call (.ref 121) ⟨[.ref x], []⟩) R ⟨hp, g, d, tk, o⟩ := by
  walk_at "fill"
  have G := GB.keeps hB
  refine' enterG (n := 2) ?G ?r ?ho ?hcd ?hnd ?_ ?c1 ?c2 ?c3
  (case G => assumption); (case r => assumption); (case ho => k_is); (case hcd => k_is); (case hnd => decide +kernel); (case c1 => exact rfl); (case c2 => exact rfl); (case c3 => exact rfl)
  refine' binds_K (s := ⟨hp, g, d, tk, o⟩) (binds := [(Str.ofString "self", .ref x), (Str.ofString "headers", .none)]) G.k rfl ?k1 ?k2 ?k3 ?k4 _ _ _ _ ?_
  case k1 => k_is
  case k2 => exact rfl
  case k3 => exact rfl
  case k4 => exact rfl
  refine ⟨hp, tk, rfl, Stay.refl _, rfl, fun L₁ h₁ tk₁ st hL F r' => ?_⟩
  have F₀ := F.take hdx
  have kB : B.StaysIn (hideAll hp [dx]) := fun b ob e => hide1 (hB _ _ e) (by rintro rfl; rw [hBd] at e; cases e)
  have hx' : (hideAll hp [dx]).get? x = some (instObj 227 dx) := hide1 hx hne
  refine w_set ?_
  refine w_ifexp ?_
  refine w_tcmp ?_
  refine w_local F₀.rd rfl ?_
  refine w_none ?_
  refine w_isnot rfl ?_
  refine w_truthy ?_
  refine ⟨fun e => (nomatch e), fun _ => ?_⟩
  refine w_list ?_
  refine w_sp0 ?_
  refine w_newlist (by simp) fun L h₂ st₂ hnL hoL => ?_
  have F₂ := F₀.keeps st₂
  refine w_stl F₂ fun h₃ tk₃ F₃ kp => ?_
  have hL₃ : h₃.get? L = some (lobj #[] 0) := kp _ _ (by rintro rfl; obtain ⟨ob, e⟩ := Ns.some F₀.rd.ns; exact absurd ((show h₁.get? _ = some ob from e).symm.trans hnL) (by simp)) hoL
  have G₃ := GB.keeps (Stay.trans kB F₃.keep)
  refine w_if ?_
  refine w_tcmp ?_
  refine w_call ?_
  refine' w_bname G₃ ?hg rfl ?_
  case hg => k_is
  refine w_cwt ?_
  refine w_sp1 ?_
  refine w_local F₃.rd rfl ?_
  refine w_type ⟨_, hL₃, rfl⟩ rfl ?_
  refine' w_bname G₃ ?hg rfl ?_
  case hg => k_is
  refine w_isnot rfl ?_
  refine w_truthy ?_
  refine ⟨fun e => (nomatch e), fun _ => ?_⟩
  refine w_nil ?_
  refine then_next ?_
  refine w_setattr ?_
  refine w_local F₃.rd rfl ?_
  refine w_local F₃.rd rfl ?_
  have I : W.InstAt h₃ x (instObj 227 dx) 227 (some emptyDict) := ⟨F₃.keep _ _ hx', rfl, rfl, (F₃.news _ (.head _)).1⟩
  refine' w_setattr1 G₃.k I rfl ?h1 ?h2 ?h3 ?h4 ?h5 ?h6 ?_
  case h1 => k_is
  case h2 => k_is
  case h3 => k_is
  case h4 => k_is
  case h5 => exact rfl
  case h6 => exact fun t => ⟨_, _, rfl, by show 1 ≤ 1000; omega⟩
  intro h₄ t₄ tk₄ hbut hdx₄
  have F₄ := F₃.turn0 hbut hdx₄
  have hLdx : L ≠ dx := by rintro rfl; have := (F₀.news _ (.head _)).1; rw [hnL] at this; cases this
  have hL₄ := hbut _ _ hLdx hL₃
  refine w_if ?_
  refine w_true ?_
  refine w_bool ?_
  refine w_truthy ?_
  refine ⟨fun _ => ?_, fun e => (nomatch e)⟩
  refine w_for0 r'.handled ?_
  refine w_local F₄.rd rfl ?_
  refine ⟨h₄, tk₄, L, rfl, rfl, isList_obj hL₄, fun h₅ tk₅ st₅ => ?_⟩
  refine w_nil ?_
  refine then_next ?_
  refine w_nil ?_
  have hback : hp.get? L = none := by
    cases q : hp.get? L with
    | none => rfl
    | some ob => have := st _ _ q; rw [hnL] at this; cases this
  refine hR h₅ tk₅ L (fun b ob hb e => st₅ _ _ (F₄.keep _ _ (hide1 e hb))) hback (st₅ _ _ hL₄) ⟨dx, _, st₅ _ _ (F₄.keep _ _ hx'), st₅ _ _ hdx₄, ?_, ?_, ?_, ?_, ?_⟩
  all_goals (first | rfl | decide | skip)
end
end Mine
end
section
-- part Ftab4
open PySem PySem.W PyProof.Rows PySem.Calls
set_option Elab.async false
set_option maxRecDepth 100000
set_option maxHeartbeats 8000000
set_option linter.unusedVariables false
namespace Mine
theorem Fm.new {B h h' : Heap} {env : Env} {m cm : Str → Option Value} {N : List (Addr × Obj)} (F : Fm B env m cm N h) (k : h.StaysIn h') :
    ∃ B₂, Fm B₂ env m cm N h' ∧ B.StaysIn B₂ ∧ ∀ b o, h.get? b = none → h'.get? b = some o → B₂.get? b = some o := ⟨_, F.rebase_new k⟩
theorem Fm.whole {B h : Heap} {env : Env} {m cm : Str → Option Value} {N : List (Addr × Obj)} (F : Fm B env m cm N h) :
    ∃ B', Fm B' env m cm N h ∧ B.StaysIn B' ∧ ∀ b ob, h.get? b = some ob → b ≠ env.locals → (∀ x ∈ env.cells, b ≠ x.2) → (∀ p ∈ N, b ≠ p.1) → B'.get? b = some ob :=
  let ⟨F', kb⟩ := F.rebase (List.Sublist.refl _)
  ⟨_, F', kb, fun b ob e h1 h2 h3 => aside_get e h1 h2 h3⟩
theorem Fm.fresh {B h : Heap} {env : Env} {m cm : Str → Option Value} {N : List (Addr × Obj)} (F : Fm B env m cm N h) {a : Addr} (hn : h.get? a = none) : a ≠ env.locals ∧ (∀ x ∈ env.cells, a ≠ x.2) ∧ ∀ p ∈ N, a ≠ p.1 := by
  refine ⟨?_, ?_, ?_⟩
  · rintro rfl
    obtain ⟨o', e'⟩ := Ns.some F.rd.ns
    rw [hn] at e'; cases e'
  · rintro x hx rfl
    obtain ⟨o', e', _⟩ := F.rd.cell _ _ (F.look x hx)
    rw [hn] at e'; cases e'
  · rintro p hp rfl
    have := (F.news p hp).1
    rw [hn] at this; cases this
theorem odd_of {a : Nat} (h : ((a : Int).fmod 2 == 1) = true) : a % 2 = 1 := by
  rw [Int.fmod_eq_emod_of_nonneg _ (by decide)] at h
  have := eq_of_beq h; omega
theorem even_of {a : Nat} (h : ((a : Int).fmod 2 == 1) = false) : ¬ a % 2 = 1 := by
  rw [Int.fmod_eq_emod_of_nonneg _ (by decide)] at h
  have := beq_eq_false_iff_ne.mp h; omega
theorem Fm.push_new {B h h' : Heap} {env : Env} {m cm : Str → Option Value} {N : List (Addr × Obj)} (F : Fm B env m cm N h) (k : h.StaysIn h') {a : Addr} {o : Obj} (hn : h.get? a = none) (ho : h'.get? a = some o) :
    ∃ B₂, Fm B₂ env m cm ((a, o) :: N) h' ∧ B.StaysIn B₂ ∧ ∀ b ob, b ≠ a → h.get? b = none → h'.get? b = some ob → B₂.get? b = some ob := by
  obtain ⟨F', kb⟩ := (F.push k hn ho).rebase (List.Sublist.refl _)
  refine ⟨_, F', kb, fun b ob hne hb e => aside_get e ?_ ?_ ?_⟩
  · rintro rfl
    obtain ⟨o', e'⟩ := Ns.some F.rd.ns
    rw [hb] at e'; cases e'
  · rintro x hx rfl
    obtain ⟨o', e', _⟩ := F.rd.cell _ _ (F.look x hx)
    rw [hb] at e'; cases e'
  · intro p hp
    rcases List.mem_cons.mp hp with rfl | hp
    · exact hne
    · rintro rfl
      have := (F.news p hp).1
      rw [hb] at this; cases this

def TabAt (h : Heap) (x dx L : Addr) : Prop := ∃ od, h.get? x = some (instObj 227 dx) ∧ h.get? dx = some od ∧ lookIn "_headers" od = some (some (.ref L)) ∧
  lookIn "_convert_string_type" od = some none ∧ lookIn "get_all" od = some none ∧ lookIn "items" od = some none ∧ lookIn "add_header" od = some none
theorem TabAt.tab {h : Heap} {x dx L : Addr} (t : TabAt h x dx L) : Tab h x L := let ⟨od, r⟩ := t; ⟨dx, od, r⟩
theorem tab_inst {h : Heap} {x dx : Addr} {dx' : Addr} (e : h.get? x = some (instObj 227 dx)) (e' : h.get? x = some (instObj 227 dx')) : dx = dx' := by
  rw [e] at e'
  exact Option.some.inj (congrArg Obj.dict (Option.some.inj e'))

def rowOf (k : Nat) (b : Bool) : Str × Str :=
  let g := gamesS.getD k (Str.ofString "")
  let c0 := g.cps.getD 0 0
  let c1 := g.cps.getD 1 0
  let wn : Str := ⟨#[if b then c0 else c1]⟩
  (if k % 2 = 1 then Txt.upper wn else wn, ⟨#[if b then c1 else c0]⟩)
def fineB (x : Str) : Bool := decide (x.cps.size ≤ 10) && x.cps.toList.all fun c => decide (65 ≤ c) && decide (c ≤ 122)
theorem fine_of {x : Str} (h : fineB x = true) : Fine x ∧ x.length ≤ 10 := by
  unfold fineB at h
  rw [Bool.and_eq_true] at h
  have h1 := of_decide_eq_true h.1
  refine ⟨⟨by omega, fun j hj => ?_⟩, h1⟩
  have := List.all_eq_true.mp h.2 (x.cps.getD j 0) (by
    have e : x.cps.getD j 0 = x.cps[j] := by simp [hj]
    rw [e]; exact Array.getElem_mem_toList hj)
  rw [Bool.and_eq_true] at this
  exact ⟨of_decide_eq_true this.1, of_decide_eq_true this.2⟩
theorem game_at : ∀ k, k < 10 → ∃ c0 c1, gamesS[k]? = some ⟨#[c0, c1]⟩ ∧ rowOf k true = (if k % 2 = 1 then Txt.upper ⟨#[c0]⟩ else ⟨#[c0]⟩, ⟨#[c1]⟩) ∧ rowOf k false = (if k % 2 = 1 then Txt.upper ⟨#[c1]⟩ else ⟨#[c1]⟩, ⟨#[c0]⟩) := by
  intro k hk
  match k, hk with
  | 0, _ => exact ⟨_, _, rfl, rfl, rfl⟩
  | 1, _ => exact ⟨_, _, rfl, rfl, rfl⟩
  | 2, _ => exact ⟨_, _, rfl, rfl, rfl⟩
  | 3, _ => exact ⟨_, _, rfl, rfl, rfl⟩
  | 4, _ => exact ⟨_, _, rfl, rfl, rfl⟩
  | 5, _ => exact ⟨_, _, rfl, rfl, rfl⟩
  | 6, _ => exact ⟨_, _, rfl, rfl, rfl⟩
  | 7, _ => exact ⟨_, _, rfl, rfl, rfl⟩
  | 8, _ => exact ⟨_, _, rfl, rfl, rfl⟩
  | 9, _ => exact ⟨_, _, rfl, rfl, rfl⟩
theorem row_fine : ∀ k, k < 10 → ∀ b, fineB (rowOf k b).1 = true ∧ fineB (rowOf k b).2 = true := by
  intro k hk b
  have : (List.range 10).all (fun k => [true, false].all fun b => fineB (rowOf k b).1 && fineB (rowOf k b).2) = true := by decide +kernel
  have h := List.all_eq_true.mp (List.all_eq_true.mp this k (List.mem_range.mpr hk)) b (by cases b <;> simp)
  rwa [Bool.and_eq_true] at h

section
variable {w : World} {A : Around} {hp : Heap} {g : Array GenState} {d : Drawn} {tk : Nat} {o : OsState} {R : Result → Shared → Prop}
theorem headers_fn (G : Gn w hp) (r : Room 5 A)
    (hR : ∀ h' tk' x dx L, hp.StaysIn h' → hp.get? x = none → hp.get? dx = none → hp.get? L = none → x ≠ L → dx ≠ L → h'.get? L = some (lobj #[] 0) → TabAt h' x dx L → R (.ok (.ret (.ref x))) ⟨h', g, d, tk', o⟩) :
    codeAny (model PR w) A (.call (.ref 227) ⟨[], []⟩) R ⟨hp, g, d, tk, o⟩ := by
  walk_at "fill"
  refine' code_cls0 (fI := 121) G.k ?h1 ?h2 ?h3 ?_
  case h1 => k_is
  case h2 => k_is
  case h3 => k_is
  intro x dx h₁ st hx hdx hne e1 e2
  refine init_fn e1 e2 hne G st hdx ((r.less (Nat.le_succ 4)).make) fun h' tk' L hbut hL hLo T => ⟨rfl, ?_⟩
  obtain ⟨dx', od, t1, t2, t3⟩ := T
  have ex := hbut _ _ hne e1
  obtain rfl : dx = dx' := tab_inst ex t1
  have hL' : hp.get? L = none := fresh_back st hL
  refine hR h' tk' x dx L (fun b ob e => hbut b ob (by rintro rfl; rw [hdx] at e; cases e) (st _ _ e)) hx hdx hL' ?_ ?_ hLo ⟨od, t1, t2, t3⟩
  · rintro rfl; rw [hLo] at t1; cases t1
  · rintro rfl; rw [hLo] at t2; cases t2; have := t3.1; cases this

theorem table_fn {rd : Addr} {items : Array Value} {nums : List Int} (hl : hp.IsList rd items) (hi : Paired IntIs nums items.toList) (hlen : 10 ≤ nums.length ∧ nums.length ≤ 100) (G : Gn w hp) (r : Room 9 A)
    (hR : ∀ h' tk' x dx L, hp.StaysIn h' → hp.get? x = none → hp.get? dx = none → hp.get? L = none → TabAt h' x dx L → RowsOf h' L ((List.range 10).map fun k => rowOf k (decide (256 ≤ nums.getD k 0))) → R (.ok (.ret (.ref x))) ⟨h', g, d, tk', o⟩) :
    codeAny (model PR w) A (.call (.ref 269) ⟨[.ref rd], []⟩) R ⟨hp, g, d, tk, o⟩ := by
  walk_at "fill"
  refine' w_enterQ (n := 8) (binds := [(Str.ofString "read", .ref rd)]) ?G ?r ?ho ?hcd ?hb ?hk ?hnd ?_ ?c1 ?c2 ?c3
  walk_at "fn"
  intro L₁ h₁ tk A₉ Q₉ E₉ st hL F r' hA₉ hQ₉
  have G₁ := G.keeps st
  refine w_set ?_
  refine w_call ?_
  refine' w_glob G₁ ?hg ?_
  case hg => k_is
  refine' w_cwd0 G₁ ?h1 ?_
  case h1 => k_is
  refine w_fn ?_
  refine games_fn G₁ (r'.less (by decide)) fun gl ts h₂ tk₂ st₂ hng hgo hgs => ?_
  obtain ⟨B₂, F₂, kB₂, new₂⟩ := F.new st₂
  refine w_stl F₂ fun h₃ tk₃ F₃ _ => ?_
  have hgl₂ : B₂.get? gl = some { cls := .type "list", data := .seq ts } := new₂ _ _ hng hgo
  have hgl := F₃.keep _ _ hgl₂
  have G₂ := G.keeps kB₂
  have G₃ := G₂.keeps F₃.keep
  refine w_set ?_
  refine w_call ?_
  refine' w_glob G₃ ?hg ?_
  case hg => k_is
  refine' w_cwd0 G₃ ?h1 ?_
  case h1 => k_is
  refine w_fn ?_
  refine headers_fn G₃ (r'.less (by decide)) fun h₄ tk₄ x dx L st₄ hnx hndx hnL hxL hdxL hLo TA => ?_
  obtain ⟨B₄, F₄, kB₄, new⟩ := F₃.push_new st₄ hnL hLo
  have TB : TabAt B₄ x dx L := by
    obtain ⟨od, t1, t2, t3⟩ := TA
    exact ⟨od, new _ _ hxL hnx t1, new _ _ hdxL hndx t2, t3⟩
  have hglB := kB₄ _ _ hgl₂
  have kB := Stay.trans kB₂ kB₄
  have GB := G.keeps kB
  have pgs := paired_strs hgs
  refine w_stl F₄ fun h₅ tk₅ F₅ _ => ?_
  refine w_for (List.range 10) (fun i v => ∃ t, v = Value.int i t)
    (fun i B m cm N => ∃ ys k, N = [(L, lobj ys k)] ∧ Paired (TupOf B) (((List.range 10).take i).map fun k => rowOf k (decide (256 ≤ nums.getD k 0))) ys.toList ∧ m "games" = some (.ref gl) ∧ m "table" = some (.ref x) ∧ m "read" = some (.ref rd)) r'.handled ?_
  refine w_call ?_
  refine' w_bname (GB.keeps F₅.keep) ?hg rfl ?_
  case hg => k_is
  refine w_cwt ?_
  refine w_sp1 ?_
  refine w_int fun t tk' => ?_
  refine w_range fun rg h₆ tk₆ t₁ u₁ v₁ st₆ hnr hr => ?_
  obtain ⟨B₆, F₆, kB₆, new₆⟩ := F₅.new st₆
  refine ⟨h₆, tk₆, _, _, _, _, rfl, feed_range (new₆ _ _ hnr hr) (by omega), F₆, ⟨#[], 0, rfl, .nil, rfl, rfl, rfl⟩, ?_, ?_⟩
  · rintro i a v B m cm N I oI h tk Qt E' ha ⟨ti, rfl⟩ hB F ⟨ys, k, rfl, hp', hmg, hmt, hmr⟩ hT
    have hil : a = i ∧ i < 10 := by
      have h1 := (List.getElem?_eq_some_iff.mp ha).1
      rw [List.length_range] at h1
      rw [List.getElem?_range h1] at ha
      cases ha; exact ⟨rfl, h1⟩
    obtain ⟨rfl, hil⟩ := hil
    have hBB := Stay.trans kB₆ hB
    have GBB := GB.keeps hBB
    have GH := GBB.keeps F.keep
    have TBB : Tab B x L := (TB.tab).keeps hBB
    have hBL : B.get? L = none := (F.news _ (.tail _ (.head _))).2.1
    have hL : h.get? L = some (lobj ys k) := (F.news _ (.tail _ (.head _))).1
    have hysz : ys.size ≤ 1000 := by
      rw [paired_size hp', List.length_map, List.length_take, List.length_range]; omega
    obtain ⟨c0, c1, hg1, hr1, hr2⟩ := game_at a hil
    obtain ⟨gv, hgv, tg, rfl⟩ := paired_arr pgs hg1
    have hglh : h.IsList gl ts := isL_list (F.keep _ _ (hBB _ _ hglB)) ⟨rfl, 0, rfl⟩
    obtain ⟨y, hy⟩ : ∃ y, nums[a]? = some y := ⟨nums[a]'(by omega), List.getElem?_eq_getElem (by omega)⟩
    obtain ⟨yv, hyv, ty, rfl⟩ := paired_arr hi hy
    have hrd : h.IsList rd items := hl.at fun o e => F.keep _ _ (hBB _ _ (kB _ _ e))
    have hgetD : nums.getD a 0 = y := by rw [List.getD_eq_getElem?_getD, hy]; rfl
    have htake : ((List.range 10).take (a + 1)).map (fun k => rowOf k (decide (256 ≤ nums.getD k 0))) = ((List.range 10).take a).map (fun k => rowOf k (decide (256 ≤ nums.getD k 0))) ++ [rowOf a (decide (256 ≤ y))] := by
      rw [List.take_add_one, ha, List.map_append, ← hgetD]; rfl
    refine w_if ?_
    refine w_true ?_
    refine w_call ?_
    refine' w_glob GH ?hg ?_
    case hg => k_is
    refine' w_cwd GH ?h1 ?_
    case h1 => k_is
    refine w_sp1 ?_
    refine w_sub ?_
    refine w_local F.rd (set_ne hmr) ?_
    refine w_local F.rd set_eq ?_
    refine w_ilist hrd (by omega) (by omega) (by rw [Int.toNat_natCast]; exact hyv) ?_
    refine ⟨GH.k, ?_⟩
    refine w_fn ?_
    refine isnon_fn GH (r'.less (by decide)) fun h₇ tk₇ st₇ => ?_
    refine w_truthy ?_
    have hglF : ∀ {hh : Heap}, B.StaysIn hh → hh.IsList gl ts := fun st => isL_list (st _ _ (hBB _ _ hglB)) ⟨rfl, 0, rfl⟩
    have hrdF : ∀ {hh : Heap}, B.StaysIn hh → hh.IsList rd items := fun st => hl.at fun o e => st _ _ (hBB _ _ (kB _ _ e))
    have F₇ := F.keeps st₇
    refine ⟨fun hb => ?_, fun hb => ?_⟩
    · refine w_exprs ?_
      refine w_meth ?_
      refine w_local F₇.rd (set_ne hmt) ?_
      have GF₇ := GBB.keeps F₇.keep
      have hLF₇ : _ = some (lobj ys k) := (F₇.news _ (.tail _ (.head _))).1
      have hglF₇ := hglF F₇.keep
      obtain ⟨dxx, od, I', l1, l2, l3, l4, l5⟩ := (TBB.keeps F₇.keep).inst
      intro pl
      refine' gm_tab (f := 224) GF₇ ⟨od, dxx, I', l5⟩ ?h1 ?h2 ?h3 ?_
      case h1 => k_is
      case h2 => k_is
      case h3 => k_is
      refine' w_cwd GF₇ ?h1 ?_
      case h1 => k_is
      refine w_sp2 ?_
      refine w_ifexp ?_
      refine w_tcmp ?_
      refine w_binop ?_
      refine w_local F₇.rd set_eq ?_
      refine w_int fun t tk' => ?_
      refine w_mod (by decide) fun t tk' => ?_
      refine w_int fun t tk' => ?_
      refine w_eqi ?_
      refine w_truthy ?_
      refine ⟨fun ho => ?ga, fun ho => ?gb⟩
      case' ga =>
        have hrow : rowOf a true = (Txt.upper ⟨#[c0]⟩, ⟨#[c1]⟩) := by rw [hr1, if_pos (odd_of ho)]
        refine w_meth ?_
        refine w_sub ?_
        refine w_sub ?_
        refine w_local F₇.rd (set_ne hmg) ?_
        refine w_local F₇.rd set_eq ?_
        refine w_ilist hglF₇ (by omega) (by omega) (by rw [Int.toNat_natCast]; exact hgv) ?_
        refine w_int fun t tk' => ?_
        refine w_istr (by decide) rfl fun t tk' => ?_
        intro pl
        refine w_gupper ?_
        refine w_cwb0 ?_
        refine w_upper (by show 1 ≤ 1000000; omega) fun t tk' => ?_
      case' gb =>
        have hrow : rowOf a true = (⟨#[c0]⟩, ⟨#[c1]⟩) := by rw [hr1, if_neg (even_of ho)]
        refine w_sub ?_
        refine w_sub ?_
        refine w_local F₇.rd (set_ne hmg) ?_
        refine w_local F₇.rd set_eq ?_
        refine w_ilist hglF₇ (by omega) (by omega) (by rw [Int.toNat_natCast]; exact hgv) ?_
        refine w_int fun t tk' => ?_
        refine w_istr (by decide) rfl fun t tk' => ?_
      all_goals
        refine w_sub ?_
        refine w_sub ?_
        refine w_local F₇.rd (set_ne hmg) ?_
        refine w_local F₇.rd set_eq ?_
        refine w_ilist hglF₇ (by omega) (by omega) (by rw [Int.toNat_natCast]; exact hgv) ?_
        refine w_int fun t tk' => ?_
        refine w_istr (by decide) rfl fun t tk' => ?_
        refine ⟨GF₇.k, ?_⟩
        refine w_fn ?_
        have hf := row_fine a hil true
        rw [hrow] at hf
        refine addheader_fn GBB F₇.keep hBL TBB hLF₇ hysz (fine_of hf.1).1 (fine_of hf.2).1 (fine_of hf.2).2 (r'.less (by decide)) fun hA tkA tp kA hbutA htpA hLA hexA => ?_
        obtain ⟨ta, tb, htpo⟩ := hexA
        have FA := F₇.turn1 hbutA hLA
        refine w_nil ?_
        refine then_next ?_
        have GA := GBB.keeps FA.keep
        have hrdFA := hrdF FA.keep
        refine w_if ?_
        refine w_true ?_
        refine w_call ?_
        refine' w_glob GA ?hg ?_
        case hg => k_is
        refine' w_cwd GA ?h1 ?_
        case h1 => k_is
        refine w_sp1 ?_
        refine w_sub ?_
        refine w_local FA.rd (set_ne hmr) ?_
        refine w_local FA.rd set_eq ?_
        refine w_ilist hrdFA (by omega) (by omega) (by rw [Int.toNat_natCast]; exact hyv) ?_
        refine ⟨GA.k, ?_⟩
        refine w_fn ?_
        refine isterm_fn GA (r'.less (by decide)) fun hZ tkZ stZ => ?_
        refine w_truthy ?_
        have hy' := of_decide_eq_true hb
        refine ⟨fun e => absurd (of_decide_eq_true e) (by omega), fun _ => ?_⟩
        refine w_nil ?_
        refine then_next ?_
        refine w_nil ?_
        have FZ := FA.keeps stZ
        have HB : decide (256 ≤ y) = true := hb
        have hfr := F₇.fresh htpA
        obtain ⟨B', FB, kB', whole⟩ := FZ.whole
        have htpB := whole tp _ (stZ _ _ htpo) hfr.1 hfr.2.1 (fun p hp => by
          rcases List.mem_cons.mp hp with rfl | hp
          · exact hfr.2.2 _ (.head _)
          · rw [List.mem_singleton.mp hp]; exact hfr.2.2 (L, lobj ys k) (.tail _ (.head _)))
        refine hT _ _ ⟨.inl rfl, B', _, _, _, _, _, rfl, kB', FB, _, kA, rfl, ?_, set_ne hmg, set_ne hmt, set_ne hmr⟩
        rw [htake, Array.toList_push, HB, hrow]
        exact Paired.snoc (paired_mono (fun _ _ q => q.keeps kB') hp') ⟨tp, ta, tb, rfl, htpB⟩
    · refine w_nil ?_
      refine then_next ?_
      have GH₇ := GBB.keeps F₇.keep
      have hrdF₇ := hrdF F₇.keep
      refine w_if ?_
      refine w_true ?_
      refine w_call ?_
      refine' w_glob GH₇ ?hg ?_
      case hg => k_is
      refine' w_cwd GH₇ ?h1 ?_
      case h1 => k_is
      refine w_sp1 ?_
      refine w_sub ?_
      refine w_local F₇.rd (set_ne hmr) ?_
      refine w_local F₇.rd set_eq ?_
      refine w_ilist hrdF₇ (by omega) (by omega) (by rw [Int.toNat_natCast]; exact hyv) ?_
      refine ⟨GH₇.k, ?_⟩
      refine w_fn ?_
      refine isterm_fn GH₇ (r'.less (by decide)) fun h₈ tk₈ st₈ => ?_
      refine w_truthy ?_
      have hy' := of_decide_eq_false hb
      refine ⟨fun _ => ?_, fun e => absurd (of_decide_eq_false e) (by omega)⟩
      have F₈ := F₇.keeps st₈
      refine w_exprs ?_
      refine w_meth ?_
      refine w_local F₈.rd (set_ne hmt) ?_
      have GF₈ := GBB.keeps F₈.keep
      have hLF₈ : _ = some (lobj ys k) := (F₈.news _ (.tail _ (.head _))).1
      have hglF₈ := hglF F₈.keep
      obtain ⟨dxx, od, I', l1, l2, l3, l4, l5⟩ := (TBB.keeps F₈.keep).inst
      intro pl
      refine' gm_tab (f := 224) GF₈ ⟨od, dxx, I', l5⟩ ?h1 ?h2 ?h3 ?_
      case h1 => k_is
      case h2 => k_is
      case h3 => k_is
      refine' w_cwd GF₈ ?h1 ?_
      case h1 => k_is
      refine w_sp2 ?_
      refine w_ifexp ?_
      refine w_tcmp ?_
      refine w_binop ?_
      refine w_local F₈.rd set_eq ?_
      refine w_int fun t tk' => ?_
      refine w_mod (by decide) fun t tk' => ?_
      refine w_int fun t tk' => ?_
      refine w_eqi ?_
      refine w_truthy ?_
      refine ⟨fun ho => ?gc, fun ho => ?gd⟩
      case' gc =>
        have hrow : rowOf a false = (Txt.upper ⟨#[c1]⟩, ⟨#[c0]⟩) := by rw [hr2, if_pos (odd_of ho)]
        refine w_meth ?_
        refine w_sub ?_
        refine w_sub ?_
        refine w_local F₈.rd (set_ne hmg) ?_
        refine w_local F₈.rd set_eq ?_
        refine w_ilist hglF₈ (by omega) (by omega) (by rw [Int.toNat_natCast]; exact hgv) ?_
        refine w_int fun t tk' => ?_
        refine w_istr (by decide) rfl fun t tk' => ?_
        intro pl
        refine w_gupper ?_
        refine w_cwb0 ?_
        refine w_upper (by show 1 ≤ 1000000; omega) fun t tk' => ?_
      case' gd =>
        have hrow : rowOf a false = (⟨#[c1]⟩, ⟨#[c0]⟩) := by rw [hr2, if_neg (even_of ho)]
        refine w_sub ?_
        refine w_sub ?_
        refine w_local F₈.rd (set_ne hmg) ?_
        refine w_local F₈.rd set_eq ?_
        refine w_ilist hglF₈ (by omega) (by omega) (by rw [Int.toNat_natCast]; exact hgv) ?_
        refine w_int fun t tk' => ?_
        refine w_istr (by decide) rfl fun t tk' => ?_
      all_goals
        refine w_sub ?_
        refine w_sub ?_
        refine w_local F₈.rd (set_ne hmg) ?_
        refine w_local F₈.rd set_eq ?_
        refine w_ilist hglF₈ (by omega) (by omega) (by rw [Int.toNat_natCast]; exact hgv) ?_
        refine w_int fun t tk' => ?_
        refine w_istr (by decide) rfl fun t tk' => ?_
        refine ⟨GF₈.k, ?_⟩
        refine w_fn ?_
        have hf := row_fine a hil false
        rw [hrow] at hf
        refine addheader_fn GBB F₈.keep hBL TBB hLF₈ hysz (fine_of hf.1).1 (fine_of hf.2).1 (fine_of hf.2).2 (r'.less (by decide)) fun hA tkA tp kA hbutA htpA hLA hexA => ?_
        obtain ⟨ta, tb, htpo⟩ := hexA
        have FA := F₈.turn1 hbutA hLA
        refine w_nil ?_
        refine then_next ?_
        refine w_nil ?_
        have FZ := FA
        have stZ := Stay.refl hA
        have HB : decide (256 ≤ y) = false := hb
        have hfr := F₈.fresh htpA
        obtain ⟨B', FB, kB', whole⟩ := FZ.whole
        have htpB := whole tp _ (stZ _ _ htpo) hfr.1 hfr.2.1 (fun p hp => by
          rcases List.mem_cons.mp hp with rfl | hp
          · exact hfr.2.2 _ (.head _)
          · rw [List.mem_singleton.mp hp]; exact hfr.2.2 (L, lobj ys k) (.tail _ (.head _)))
        refine hT _ _ ⟨.inl rfl, B', _, _, _, _, _, rfl, kB', FB, _, kA, rfl, ?_, set_ne hmg, set_ne hmt, set_ne hmr⟩
        rw [htake, Array.toList_push, HB, hrow]
        exact Paired.snoc (paired_mono (fun _ _ q => q.keeps kB') hp') ⟨tp, ta, tb, rfl, htpB⟩
  · rintro B m cm N h tk hB F ⟨ys, k, rfl, hp', hmg, hmt, hmr⟩
    refine w_ret ?_
    refine w_local F.rd hmt ?_
    have k3 := Stay.trans kB₂ F₃.keep
    have k9 := Stay.trans kB₆ (Stay.trans hB F.keep)
    refine hQ₉ _ _ (hR h _ x dx L (Stay.trans kB (Stay.trans kB₆ (Stay.trans hB F.keep))) (fresh_back k3 hnx) (fresh_back k3 hndx) (fresh_back k3 hnL) (let ⟨od, t1, t2, t3⟩ := TB; ⟨od, k9 _ _ t1, k9 _ _ t2, t3⟩) ⟨ys, k, (F.news _ (.head _)).1, ?_⟩)
    rw [List.length_range, show (List.range 10).take 10 = List.range 10 from rfl] at hp'
    exact paired_mono (fun _ _ q => q.keeps F.keep) hp'
end
end Mine
end
section
-- part Fhome
open PySem PySem.W PyProof.Rows PySem.Calls
set_option Elab.async false
set_option maxRecDepth 100000
set_option maxHeartbeats 8000000
set_option linter.unusedVariables false
namespace Mine
/-- the values of the rows of that name -/
def winsOf (ps : List (Str × Str)) (n : Str) : List Str := (ps.filter fun p => Txt.lower p.1 == Txt.lower n).map (·.2)
def dotS : Str := Str.ofString "."
def firstS (x : Str) : Str := ⟨#[(Txt.lstripChars x dotS).cps.getD 0 0]⟩
def lastS (x : Str) : Str := ⟨#[x.cps.getD (x.cps.size - 1) 0]⟩
/-- a letter: not too long, a player last -/
def Letter (x : Str) : Prop := 1 ≤ x.cps.size ∧ x.cps.size ≤ 10000 ∧ 97 ≤ x.cps.getD (x.cps.size - 1) 0 ∧ x.cps.getD (x.cps.size - 1) 0 ≤ 101
theorem fine_low (c : Nat) (h1 : 97 ≤ c) (h2 : c ≤ 101) : Fine (Txt.lower ⟨#[c]⟩) ∧ Fine (Txt.lower (Txt.upper ⟨#[c]⟩)) ∧ (Txt.upper ⟨#[c]⟩).length ≤ 10 := by
  have : ([97, 98, 99, 100, 101].all fun c => fineB (Txt.lower ⟨#[c]⟩) && fineB (Txt.lower (Txt.upper ⟨#[c]⟩)) && decide ((Txt.upper ⟨#[c]⟩).length ≤ 10)) = true := by decide +kernel
  have h := List.all_eq_true.mp this c (by simp; omega)
  rw [Bool.and_eq_true, Bool.and_eq_true] at h
  exact ⟨(fine_of h.1.1).1, (fine_of h.1.2).1, of_decide_eq_true h.2⟩
section
variable {w : World} {A : Around} {hp : Heap} {g : Array GenState} {d : Drawn} {tk : Nat} {o : OsState} {R : Result → Shared → Prop}
theorem last_at {x : Str} (h : Letter x) : (seqIndex? (-1) x.length).bind (x.cps[·]?) = some (x.cps.getD (x.cps.size - 1) 0) := by
  obtain ⟨h1, _⟩ := h
  have e : seqIndex? (-1) x.length = some (x.cps.size - 1) := by
    have := seqIndex_neg (k := -1) (n := x.length) (by decide) (by show -(x.cps.size : Int) ≤ -1; omega)
    rw [this]; congr 1
    show ((-1 : Int) + (x.cps.size : Int)).toNat = _
    omega
  rw [e]
  show x.cps[x.cps.size - 1]? = _
  rw [Array.getD_eq_getD_getElem?, Array.getElem?_eq_getElem (by omega)]; rfl

theorem first_at {z : Str} (h : 1 ≤ z.cps.size) : (seqIndex? 0 z.length).bind (z.cps[·]?) = some (z.cps.getD 0 0) := by
  have e : seqIndex? 0 z.length = some 0 := by
    unfold seqIndex?
    simp only [if_neg (show ¬ ((0 : Int) < 0) by decide)]
    rw [if_pos (by simp only [Bool.and_eq_true, decide_eq_true_eq]; exact ⟨by decide, by show (0 : Int) < (z.cps.size : Int); omega⟩)]; rfl
  rw [e]
  show z.cps[0]? = _
  rw [Array.getD_eq_getD_getElem?, Array.getElem?_eq_getElem (by omega)]; rfl
theorem home_fn {x L l : Addr} {ps : List (Str × Str)} {items : Array Value} {ls : List Str} (T : Tab hp x L) (RW : RowsOf hp L ps) (hps : ps.length ≤ 1000 ∧ ∀ p ∈ ps, p.1.length ≤ 10)
    (hl : hp.IsList l items) (hi : Paired StrIs ls items.toList) (hls : ls.length ≤ 1000000) (hlet : ∀ x ∈ ls, Letter x ∧ 1 ≤ (Txt.lstripChars x dotS).cps.size) (G : Gn w hp) (r : Room 9 A)
    (hR : ∀ h' tk' t, hp.StaysIn h' → R (.ok (.ret (.int (ls.filter fun x => (winsOf ps (lastS x)).any (· == firstS x)).length t))) ⟨h', g, d, tk', o⟩) :
    codeAny (model PR w) A (.call (.ref 281) ⟨[.ref x, .ref l], []⟩) R ⟨hp, g, d, tk, o⟩ := by
  walk_at "fill"
  refine' w_enterQ (n := 8) (binds := [(Str.ofString "table", .ref x), (Str.ofString "letters", .ref l)]) ?G ?r ?ho ?hcd ?hb ?hk ?hnd ?_ ?c1 ?c2 ?c3
  walk_at "fn"
  intro L₁ h₁ tk A₉ Q₉ E₉ st hL F r' hA₉ hQ₉
  have G₁ := G.keeps st
  refine w_ret ?_
  refine w_call ?_
  refine' w_bname G₁ ?hg rfl ?_
  case hg => k_is
  refine w_cwb ?_
  refine w_sp1 ?_
  refine w_compf ls StrIs (fun x => (winsOf ps (lastS x)).any (· == firstS x)) (fun _ => (1 : Int)) (fun b y _ => IntIs b y) (fun _ _ _ _ q _ => q) r'.handled ?_
  refine w_local F.rd rfl ?_
  refine ⟨h₁, tk, _, _, rfl, F.rd, feed_list (hl.at fun o e => st _ _ e) hi, hls, ?_, ?_, ?_⟩
  · rintro C n y v h tk E' hy ⟨ty, rfl⟩ st' R'
    obtain ⟨hlt, hf1⟩ := hlet y hy
    have hlast := last_at hlt
    refine w_tcmp ?_
    refine w_sub ?_
    refine w_meth ?_
    refine w_local R' rfl ?_
    intro pl
    refine w_glstrip ?_
    refine w_cwb ?_
    refine w_sp1 ?_
    refine w_str fun t tk' => ?_
    refine w_lstripc (by have := hlt.2.1; show y.cps.size ≤ _; omega) fun t tk' => ?_
    refine w_int fun t tk' => ?_
    refine w_istr (c := (Txt.lstripChars y dotS).cps.getD 0 0) (by decide) ?_ fun t tk' => ?_
    · exact first_at hf1
    refine w_meth ?_
    refine w_cell R' rfl ?_
    intro pl
    have st₂ := Stay.trans st st'
    have G₂ := G.keeps st₂
    obtain ⟨dx, od, I, l1, l2, l3, l4, l5⟩ := (T.keeps st₂).inst
    refine' gm_tab (f := 166) G₂ ⟨od, dx, I, l3⟩ ?h1 ?h2 ?h3 ?_
    case h1 => k_is
    case h2 => k_is
    case h3 => k_is
    refine' w_cwd G₂ ?h1 ?_
    case h1 => k_is
    refine w_sp1 ?_
    refine w_sub ?_
    refine w_local R' rfl ?_
    refine w_unop ?_
    refine w_int fun t tk' => ?_
    refine w_neg fun t tk' => ?_
    refine w_istr (by decide) hlast fun t tk' => ?_
    refine ⟨G₂.k, ?_⟩
    refine w_fn ?_
    refine getall_fn (T.keeps st₂) (RW.keeps st₂) hps (by show 1 ≤ 10; omega) (fine_low _ hlt.2.2.1 hlt.2.2.2).1 G₂ (r'.less (by decide)) fun D h₂ tk₂ ys k st₃ hnD hD hpD => ?_
    refine w_inl (isList_obj hD) hpD ?_
    refine w_truthy ?_
    exact ⟨h₂, _, rfl, st₃, rfl⟩
  · rintro C n y v h tk E' hy _ _ st' R'
    exact w_int fun t tk' => ⟨h, tk', rfl, Stay.refl _, fun _ _ _ => ⟨_, rfl⟩⟩
  · intro D h' tk' ys k st' hnD hD hpD
    have hsz : ys.size = (ls.filter fun x => (winsOf ps (lastS x)).any (· == firstS x)).length := by rw [paired_size hpD, List.length_map]
    refine w_len (isList_obj hD) (by rw [hsz]; exact Nat.le_trans (List.length_filter_le _ _) hls) fun t tk' => ?_
    rw [hsz]
    exact hQ₉ _ _ (hR _ _ _ (Stay.trans st st'))

def inS (r l : Str) : Bool := !(Builtin.Str.occurrences l r 0 l.length 1).isEmpty
def sep4 : Str := Str.ofString "\r\n\r\n"
/-- what a round makes of one letter -/
def grown (ps : List (Str × Str)) (e : Str) (l : Str) : List Str := ((winsOf ps (Txt.upper (lastS l))).filter fun r => !inS r l).map fun r => l ++ e ++ dotS ++ r
def sentS (e : Str) (ls : List Str) : Str := ⟨(quote (Txt.join (e ++ e) ls).cps.toList).toArray⟩
theorem round_fn {x L l : Addr} {e : Str} {te : Tok} {ps : List (Str × Str)} {items : Array Value} {ls : List Str} (T : Tab hp x L) (RW : RowsOf hp L ps) (hps : ps.length ≤ 1000 ∧ ∀ p ∈ ps, p.1.length ≤ 10 ∧ p.2.length ≤ 10)
    (hl : hp.IsList l items) (hi : Paired StrIs ls items.toList) (he : e.length ≤ 10) (hls : (ls.map (·.length)).sum + ls.length * (e ++ e).length ≤ 400000) (hj : (Txt.join (e ++ e) ls).cps.size ≤ 400000) (hsz : (sentS e ls).length ≤ 900000)
    (hlet : ∀ x ∈ Txt.split (sentS e ls) sep4, Letter x) (hn : ((Txt.split (sentS e ls) sep4).flatMap (grown ps e)).length ≤ 100000) (G : Gn w hp) (r : Room 9 A)
    (hR : ∀ D h' tk' ys k, hp.StaysIn h' → hp.get? D = none → h'.get? D = some (lobj ys k) → Paired StrIs ((Txt.split (sentS e ls) sep4).flatMap (grown ps e)) ys.toList → R (.ok (.ret (.ref D))) ⟨h', g, d, tk', o⟩) :
    codeAny (model PR w) A (.call (.ref 276) ⟨[.ref x, .ref l, .str e te], []⟩) R ⟨hp, g, d, tk, o⟩ := by
  walk_at "fill"
  refine' w_enterQ (n := 8) (binds := [(Str.ofString "table", .ref x), (Str.ofString "letters", .ref l), (Str.ofString "end", .str e te)]) ?G ?r ?ho ?hcd ?hb ?hk ?hnd ?_ ?c1 ?c2 ?c3
  walk_at "fn"
  intro L₁ h₁ tk A₉ Q₉ E₉ st hL F r' hA₉ hQ₉
  have G₁ := G.keeps st
  refine w_set ?_
  refine w_call ?_
  refine' w_glob G₁ ?hg ?_
  case hg => k_is
  refine' w_cwd G₁ ?h1 ?_
  case h1 => k_is
  refine w_sp1 ?_
  refine w_meth ?_
  refine w_binop ?_
  refine w_local F.rd rfl ?_
  refine w_local F.rd rfl ?_
  refine w_cat (by omega) fun t tk' => ?_
  intro pl
  refine w_gjoin ?_
  refine w_cwb ?_
  refine w_sp1 ?_
  refine w_local F.rd rfl ?_
  refine w_join (hl.at fun o e => st _ _ e) hi (by omega) fun t tk' => ?_
  refine ⟨G₁.k, ?_⟩
  refine w_fn ?_
  refine quotedata_fn hj G₁ (r'.less (by decide)) fun h₂ t₂ tk₂ st₂ => ?_
  have F₂ := F.keeps st₂
  refine w_stl F₂ fun h₃ tk₃ F₃ _ => ?_
  refine w_set ?_
  refine w_list ?_
  refine w_sp0 ?_
  refine w_newlist (by simp) fun lg h₄ st₄ hnlg hlgo => ?_
  have F₄ := F₃.push st₄ hnlg hlgo
  refine w_stl F₄ fun h₅ tk₅ F₅ _ => ?_
  refine w_for (Txt.split (sentS e ls) sep4) StrIs
    (fun i B m cm N => ∃ ys k, N = [(lg, lobj ys k)] ∧ Paired StrIs (((Txt.split (sentS e ls) sep4).take i).flatMap (grown ps e)) ys.toList ∧ m "table" = some (.ref x) ∧ m "end" = some (.str e te) ∧ m "longer" = some (.ref lg)) r'.handled ?_
  refine w_meth ?_
  refine w_local F₅.rd rfl ?_
  intro pl
  refine w_gsplit ?_
  refine w_cwb ?_
  refine w_sp1 ?_
  refine w_str fun t tk' => ?_
  refine w_split (x := sentS e ls) (by decide) hsz fun pl h₆ tk₆ pts st₆ hnpl hpl hpts => ?_
  obtain ⟨B₆, F₆, kB₆, new₆⟩ := F₅.new st₆
  refine ⟨h₆, tk₆, _, _, _, _, rfl, feed_list (isList_obj (new₆ _ _ hnpl hpl)) hpts, F₆, ⟨#[], 0, rfl, .nil, rfl, rfl, rfl⟩, ?_, ?_⟩
  · rintro i y v B m cm N I oI h tk Qt E' hy ⟨ty, rfl⟩ hB F ⟨ys, k, rfl, hp', hmt, hme, hml⟩ hT
    have hym : y ∈ Txt.split (sentS e ls) sep4 := List.mem_of_getElem? hy
    have hlt := hlet y hym
    have hlast := last_at hlt
    have hBB := Stay.trans kB₆ hB
    have stF := Stay.trans hBB F.keep
    have GH := G.keeps stF
    have htake : (Txt.split (sentS e ls) sep4).take (i + 1) = (Txt.split (sentS e ls) sep4).take i ++ [y] := by rw [List.take_add_one, hy]; rfl
    refine w_for (winsOf ps (Txt.upper (lastS y))) StrIs
      (fun j B' m cm N => ∃ ys' k', N = [(I, oI), (lg, lobj ys' k')] ∧ Paired StrIs (((Txt.split (sentS e ls) sep4).take i).flatMap (grown ps e) ++ (((winsOf ps (Txt.upper (lastS y))).take j).filter fun r => !inS r y).map fun r => y ++ e ++ dotS ++ r) ys'.toList ∧
        m "table" = some (.ref x) ∧ m "end" = some (.str e te) ∧ m "longer" = some (.ref lg) ∧ m "letter" = some (.str y ty)) r'.handled ?_
    refine w_meth ?_
    refine w_local F.rd (set_ne hmt) ?_
    intro pl
    obtain ⟨dx, od, I', l1, l2, l3, l4, l5⟩ := (T.keeps stF).inst
    refine' gm_tab (f := 166) GH ⟨od, dx, I', l3⟩ ?h1 ?h2 ?h3 ?_
    case h1 => k_is
    case h2 => k_is
    case h3 => k_is
    refine' w_cwd GH ?h1 ?_
    case h1 => k_is
    refine w_sp1 ?_
    refine w_meth ?_
    refine w_sub ?_
    refine w_local F.rd set_eq ?_
    refine w_unop ?_
    refine w_int fun t tk' => ?_
    refine w_neg fun t tk' => ?_
    refine w_istr (by decide) hlast fun t tk' => ?_
    intro pl
    refine w_gupper ?_
    refine w_cwb0 ?_
    refine w_upper (by show 1 ≤ 1000000; omega) fun t tk' => ?_
    refine ⟨GH.k, ?_⟩
    refine w_fn ?_
    have hfl := fine_low _ hlt.2.2.1 hlt.2.2.2
    refine getall_fn (T.keeps stF) (RW.keeps stF) ⟨hps.1, fun p hp => (hps.2 p hp).1⟩ hfl.2.2 hfl.2.1 GH (r'.less (by decide)) fun D h₂ tk₂ zs kz st₃ hnD hD hpD => ?_
    obtain ⟨B₇, F₇, kB₇, new₇⟩ := F.new st₃
    refine ⟨h₂, tk₂, _, _, _, _, rfl, feed_list (isList_obj (new₇ _ _ hnD hD)) hpD, F₇, ⟨ys, k, rfl, by simpa using hp', set_ne hmt, set_ne hme, set_ne hml, set_eq⟩, ?_, ?_⟩
    · rintro j rv v B' m' cm' N I₂ oI₂ h tk Qt₂ E'' hrv ⟨tr, rfl⟩ hB' F ⟨ys', k', rfl, hp₂, hmt, hme, hml, hmy⟩ hT₂
      have hrm : rv ∈ winsOf ps (Txt.upper (lastS y)) := List.mem_of_getElem? hrv
      have hrl : rv.length ≤ 10 := by
        obtain ⟨p, hp, rfl⟩ := List.mem_map.mp hrm
        exact (hps.2 p (List.mem_filter.mp hp).1).2
      have htake₂ : (winsOf ps (Txt.upper (lastS y))).take (j + 1) = (winsOf ps (Txt.upper (lastS y))).take j ++ [rv] := by rw [List.take_add_one, hrv]; rfl
      refine w_if ?_
      refine w_tcmp ?_
      refine w_local F.rd set_eq ?_
      refine w_local F.rd (set_ne hmy) ?_
      refine w_nins ?_
      refine w_truthy ?_
      refine ⟨fun hb => ?_, fun hb => ?_⟩
      · refine w_exprs ?_
        refine w_meth ?_
        refine w_local F.rd (set_ne hml) ?_
        intro pl
        have hlg := (F.news _ (.tail _ (.tail _ (.head _)))).1
        refine w_gappend hlg ?_
        refine w_cwb ?_
        refine w_sp1 ?_
        refine w_binop ?_
        refine w_binop ?_
        refine w_binop ?_
        refine w_local F.rd (set_ne hmy) ?_
        refine w_local F.rd (set_ne hme) ?_
        have hyl : y.length ≤ 10000 := hlt.2.1
        refine w_cat (by omega) fun t tk' => ?_
        refine w_str fun t tk' => ?_
        refine w_cat (by rw [Str.length_append]; have : (Str.ofString ".").length = 1 := by decide
                         omega) fun t tk' => ?_
        refine w_local F.rd set_eq ?_
        refine w_cat (by rw [Str.length_append, Str.length_append]; have : (Str.ofString ".").length = 1 := by decide
                         omega) fun t tk' => ?_
        refine w_append hlg ?_ fun h' k'' hl' hbut => ?_
        · rw [paired_size hp₂]
          have e1 : ((Txt.split (sentS e ls) sep4).flatMap (grown ps e)).length ≥ ((((Txt.split (sentS e ls) sep4).take (i + 1)).flatMap (grown ps e))).length := by
            conv => lhs; rw [← List.take_append_drop (i + 1) (Txt.split (sentS e ls) sep4)]
            rw [List.flatMap_append, List.length_append]; omega
          rw [htake, List.flatMap_append, List.length_append] at e1
          have e2 : (((winsOf ps (Txt.upper (lastS y))).take j).filter fun r => !inS r y).length ≤ ((winsOf ps (Txt.upper (lastS y))).filter fun r => !inS r y).length := by
            conv => rhs; rw [← List.take_append_drop j (winsOf ps (Txt.upper (lastS y)))]
            rw [List.filter_append, List.length_append]; omega
          have e3 : ([y].flatMap (grown ps e)).length = ((winsOf ps (Txt.upper (lastS y))).filter fun r => !inS r y).length := by
            rw [List.flatMap_cons, List.flatMap_nil, List.append_nil]; unfold grown; rw [List.length_map]
          rw [List.length_append, List.length_map]
          omega
        have F' := Fm.turnB (pre := [(I₂, oI₂), (I, oI)]) F hbut hl'
        refine w_nil ?_
        refine then_next ?_
        refine w_nil ?_
        refine hT₂ _ _ ⟨.inl rfl, B', _, _, _, h', _, rfl, Stay.refl _, F', _, k'', rfl, ?_, set_ne hmt, set_ne hme, set_ne hml, set_ne hmy⟩
        rw [htake₂, List.filter_append, List.map_append, ← List.append_assoc, Array.toList_push]
        have hb' : (!inS rv y) = true := hb
        have e1 : ([rv].filter fun r => !inS r y) = [rv] := by simp only [List.filter]; rw [hb']
        rw [e1]
        exact Paired.snoc hp₂ ⟨_, rfl⟩
      · refine w_nil ?_
        refine then_next ?_
        refine w_nil ?_
        refine hT₂ _ _ ⟨.inl rfl, B', _, _, _, h, _, rfl, Stay.refl _, F, ys', k', rfl, ?_, set_ne hmt, set_ne hme, set_ne hml, set_ne hmy⟩
        rw [htake₂, List.filter_append, List.map_append, ← List.append_assoc]
        have hb' : (!inS rv y) = false := hb
        have e1 : ([rv].filter fun r => !inS r y) = [] := by simp only [List.filter]; rw [hb']
        rw [e1]
        simpa using hp₂
    · rintro B' m' cm' N h tk hB' F ⟨ys', k', rfl, hp₂, hmt, hme, hml, hmy⟩
      refine w_nil ?_
      refine hT _ _ ⟨.inl rfl, B', _, _, _, h, _, rfl, Stay.trans kB₇ hB', F, ys', k', rfl, ?_, hmt, hme, hml⟩
      rw [htake, List.flatMap_append]
      rw [List.take_length] at hp₂
      simpa [grown] using hp₂
  · rintro B m cm N h tk hB F ⟨ys, k, rfl, hp', hmt, hme, hml⟩
    refine w_ret ?_
    refine w_local F.rd hml ?_
    rw [List.take_length] at hp'
    exact hQ₉ _ _ (hR lg h _ ys k (Stay.trans kB₆ (Stay.trans hB F.keep)) (fresh_back F₃.keep hnlg) (F.news _ (.head _)).1 hp')
end
end Mine
end
section
-- part Ford
open PySem PySem.W PyProof.Rows PySem.Calls
set_option Elab.async false
set_option maxRecDepth 100000
set_option maxHeartbeats 8000000
set_option linter.unusedVariables false
namespace Mine
def abc : List Nat := [97, 98, 99, 100, 101]
def one (c : Nat) : Str := ⟨#[c]⟩
def pairsS (bs : List Str) : List Str := abc.flatMap fun p => (abc.filter fun q => bs.any (· == one p ++ one q)).map fun q => one p ++ one q
def stepS (bs ps : List Str) : List Str := ps.flatMap fun p => (abc.filter fun q => bs.any (· == lastS p ++ one q) && !inS (one q) p).map fun q => p ++ one q
section
variable {w : World} {A : Around} {hp : Heap} {g : Array GenState} {d : Drawn} {tk : Nat} {o : OsState} {R : Result → Shared → Prop}
theorem last_at' {x : Str} (h1 : 1 ≤ x.cps.size) : (seqIndex? (-1) x.length).bind (x.cps[·]?) = some (x.cps.getD (x.cps.size - 1) 0) := by
  have e : seqIndex? (-1) x.length = some (x.cps.size - 1) := by
    have := seqIndex_neg (k := -1) (n := x.length) (by decide) (by show -(x.cps.size : Int) ≤ -1; omega)
    rw [this]; congr 1
    show ((-1 : Int) + (x.cps.size : Int)).toNat = _
    omega
  rw [e]
  show x.cps[x.cps.size - 1]? = _
  rw [Array.getD_eq_getD_getElem?, Array.getElem?_eq_getElem (by omega)]; rfl
def Small (ls : List Str) (n : Nat) : Prop := ls.length ≤ n ∧ ∀ x ∈ ls, 1 ≤ x.cps.size ∧ x.cps.size ≤ 10
theorem orders_fn {l : Addr} {items : Array Value} {bs : List Str} (hl : hp.IsList l items) (hi : Paired StrIs bs items.toList)
    (h1 : Small (pairsS bs) 1000) (h2 : Small (stepS bs (pairsS bs)) 1000) (h3 : Small (stepS bs (stepS bs (pairsS bs))) 1000) (G : Gn w hp) (r : Room 4 A)
    (hR : ∀ D h' tk' ys k, hp.StaysIn h' → hp.get? D = none → h'.get? D = some (lobj ys k) → Paired StrIs (stepS bs (stepS bs (stepS bs (pairsS bs)))) ys.toList → R (.ok (.ret (.ref D))) ⟨h', g, d, tk', o⟩) :
    codeAny (model PR w) A (.call (.ref 293) ⟨[.ref l], []⟩) R ⟨hp, g, d, tk, o⟩ := by
  walk_at "fill"
  refine' w_enterQ (n := 3) (binds := [(Str.ofString "beats", .ref l)]) ?G ?r ?ho ?hcd ?hb ?hk ?hnd ?_ ?c1 ?c2 ?c3
  walk_at "fn"
  intro L₁ h₁ tk A₉ Q₉ E₉ st hL F r' hA₉ hQ₉
  have hl₁ : h₁.IsList l items := hl.at fun o e => st _ _ e
  -- pairs
  refine w_setcomp2 (Str.ofString "abcde").cps.toList (fun c v => ∃ t, v = Value.str ⟨#[c]⟩ t) (fun p q => bs.any (· == one p ++ one q)) (fun p q => one p ++ one q) StrIs r'.handled (by decide) ?_
  refine w_str fun t tk' => ?_
  refine ⟨h₁, tk', _, _, _, _, rfl, F, feed_str, ?_, ?_, ?_⟩
  · rintro C n a v u t m' h tk E' ha ⟨ta, rfl⟩ hu st' R' hm1 hm2
    refine w_tcmp ?_
    refine w_binop ?_
    refine w_local R' hm1 ?_
    refine w_local R' hm2 ?_
    refine w_cat (by show 1 + 1 ≤ 1000000; omega) fun t tk' => ?_
    refine w_cell R' rfl ?_
    refine w_inl (hl₁.at fun o e => st' _ _ e) hi ?_
    exact w_truthy ⟨h, tk', rfl, Stay.refl _, rfl⟩
  · rintro C n a v u t m' h tk E' ha ⟨ta, rfl⟩ hu _ st' R' hm1 hm2
    refine w_binop ?_
    refine w_local R' hm1 ?_
    refine w_local R' hm2 ?_
    exact w_cat (by show 1 + 1 ≤ 1000000; omega) fun t tk' => ⟨h, tk', rfl, Stay.refl _, _, rfl⟩
  intro D₁ h₂ tk₂ ys₁ k₁ F₂ kp₂ hnD₁ hD₁ hp₁
  have fr₁ := F.fresh hnD₁
  obtain ⟨B₂, F₂', kB₂, wh₂⟩ := F₂.whole
  have hDB₁ := wh₂ _ _ hD₁ fr₁.1 fr₁.2.1 (fun p hp => by cases hp)
  have nl : h₁.get? L₁ ≠ none := by obtain ⟨ob, e⟩ := Ns.some F.rd.ns; intro e'; rw [show h₁.get? L₁ = some ob from e] at e'; cases e'
  have hlL : l ≠ L₁ := by rintro rfl; obtain ⟨ob, e, _⟩ := hl; rw [hL] at e; cases e
  have hl₂ : h₂.IsList l items := hl₁.at fun o e => kp₂ l o hlL e
  -- threes
  refine w_setcomp2 (pairsS bs) StrIs (fun p q => bs.any (· == lastS p ++ one q) && !inS (one q) p) (fun p q => p ++ one q) StrIs r'.handled (by have := h1.1; show (_ + 1) * 5 ≤ _; omega) ?_
  refine w_local F₂'.rd rfl ?_
  refine ⟨h₂, tk₂, _, _, _, _, rfl, F₂', feed_list (isList_obj hD₁) hp₁, ?_, ?_, ?_⟩
  · rintro C n a v u t m' h tk E' ha ⟨ta, rfl⟩ hu st' R' hm1 hm2
    have hsa := h1.2 a ha
    refine w_tand2 ?_
    refine w_tcmp ?_
    refine w_binop ?_
    refine w_sub ?_
    refine w_local R' hm1 ?_
    refine w_unop ?_
    refine w_int fun t tk' => ?_
    refine w_neg fun t tk' => ?_
    refine w_istr (by decide) (last_at' hsa.1) fun t tk' => ?_
    refine w_local R' hm2 ?_
    refine w_cat (by show 1 + 1 ≤ 1000000; omega) fun t tk' => ?_
    refine w_cell R' rfl ?_
    refine w_inl (hl₂.at fun o e => st' _ _ e) hi ?_
    refine w_truthy ?_
    have e0 : (⟨#[a.cps.getD (a.cps.size - 1) 0]⟩ ++ ⟨#[u]⟩ : Str) = lastS a ++ one u := rfl
    rw [e0]
    refine ⟨fun hb => ⟨h, _, rfl, Stay.refl _, ?_⟩, fun hb => ?_⟩
    · show false = (bs.any (· == lastS a ++ one u) && !inS (one u) a)
      rw [hb]; rfl
    refine w_tcmp ?_
    refine w_local R' hm2 ?_
    refine w_local R' hm1 ?_
    refine w_nins ?_
    refine w_truthy ⟨h, _, rfl, Stay.refl _, ?_⟩
    show (!inS (one u) a) = (bs.any (· == lastS a ++ one u) && !inS (one u) a)
    rw [hb]; rfl
  · rintro C n a v u t m' h tk E' ha ⟨ta, rfl⟩ hu _ st' R' hm1 hm2
    have hsa := h1.2 a ha
    refine w_binop ?_
    refine w_local R' hm1 ?_
    refine w_local R' hm2 ?_
    exact w_cat (by show a.cps.size + 1 ≤ 1000000; omega) fun t tk' => ⟨h, _, rfl, Stay.refl _, _, rfl⟩
  intro D₂ h₃ tk₃ ys₂ k₂ F₃ kp₃ hnD₂ hD₂ hp₂
  have fr₂ := F₂'.fresh hnD₂
  obtain ⟨B₃, F₃', kB₃, wh₃⟩ := F₃.whole
  have hDB₂ := wh₃ _ _ hD₂ fr₂.1 fr₂.2.1 (fun p hp => by cases hp)
  have hl₃ : h₃.IsList l items := hl₂.at fun o e => kp₃ l o hlL e
  -- fours
  refine w_setcomp2 (stepS bs (pairsS bs)) StrIs (fun p q => bs.any (· == lastS p ++ one q) && !inS (one q) p) (fun p q => p ++ one q) StrIs r'.handled (by have := h2.1; show (_ + 1) * 5 ≤ _; omega) ?_
  refine w_local F₃'.rd rfl ?_
  refine ⟨h₃, tk₃, _, _, _, _, rfl, F₃', feed_list (isList_obj hD₂) hp₂, ?_, ?_, ?_⟩
  · rintro C n a v u t m' h tk E' ha ⟨ta, rfl⟩ hu st' R' hm1 hm2
    have hsa := h2.2 a ha
    refine w_tand2 ?_
    refine w_tcmp ?_
    refine w_binop ?_
    refine w_sub ?_
    refine w_local R' hm1 ?_
    refine w_unop ?_
    refine w_int fun t tk' => ?_
    refine w_neg fun t tk' => ?_
    refine w_istr (by decide) (last_at' hsa.1) fun t tk' => ?_
    refine w_local R' hm2 ?_
    refine w_cat (by show 1 + 1 ≤ 1000000; omega) fun t tk' => ?_
    refine w_cell R' rfl ?_
    refine w_inl (hl₃.at fun o e => st' _ _ e) hi ?_
    refine w_truthy ?_
    have e0 : (⟨#[a.cps.getD (a.cps.size - 1) 0]⟩ ++ ⟨#[u]⟩ : Str) = lastS a ++ one u := rfl
    rw [e0]
    refine ⟨fun hb => ⟨h, _, rfl, Stay.refl _, ?_⟩, fun hb => ?_⟩
    · show false = (bs.any (· == lastS a ++ one u) && !inS (one u) a)
      rw [hb]; rfl
    refine w_tcmp ?_
    refine w_local R' hm2 ?_
    refine w_local R' hm1 ?_
    refine w_nins ?_
    refine w_truthy ⟨h, _, rfl, Stay.refl _, ?_⟩
    show (!inS (one u) a) = (bs.any (· == lastS a ++ one u) && !inS (one u) a)
    rw [hb]; rfl
  · rintro C n a v u t m' h tk E' ha ⟨ta, rfl⟩ hu _ st' R' hm1 hm2
    have hsa := h2.2 a ha
    refine w_binop ?_
    refine w_local R' hm1 ?_
    refine w_local R' hm2 ?_
    exact w_cat (by show a.cps.size + 1 ≤ 1000000; omega) fun t tk' => ⟨h, _, rfl, Stay.refl _, _, rfl⟩
  intro D₃ h₄ tk₄ ys₃ k₃ F₄ kp₄ hnD₃ hD₃ hp₃
  have hl₄ : h₄.IsList l items := hl₃.at fun o e => kp₄ l o hlL e
  refine w_ret ?_
  refine w_comp2 (stepS bs (stepS bs (pairsS bs))) StrIs (fun p q => bs.any (· == lastS p ++ one q) && !inS (one q) p) (fun p q => p ++ one q) StrIs r'.handled (by have := h3.1; show (_ + 1) * 5 ≤ _; omega) ?_
  refine w_local F₄.rd rfl ?_
  refine ⟨h₄, tk₄, _, _, rfl, F₄.rd, feed_list (isList_obj hD₃) hp₃, ?_, ?_, ?_⟩
  · rintro C n a v u t m' h tk E' ha ⟨ta, rfl⟩ hu st' R' hm1 hm2
    have hsa := h3.2 a ha
    refine w_tand2 ?_
    refine w_tcmp ?_
    refine w_binop ?_
    refine w_sub ?_
    refine w_local R' hm1 ?_
    refine w_unop ?_
    refine w_int fun t tk' => ?_
    refine w_neg fun t tk' => ?_
    refine w_istr (by decide) (last_at' hsa.1) fun t tk' => ?_
    refine w_local R' hm2 ?_
    refine w_cat (by show 1 + 1 ≤ 1000000; omega) fun t tk' => ?_
    refine w_cell R' rfl ?_
    refine w_inl (hl₄.at fun o e => st' _ _ e) hi ?_
    refine w_truthy ?_
    have e0 : (⟨#[a.cps.getD (a.cps.size - 1) 0]⟩ ++ ⟨#[u]⟩ : Str) = lastS a ++ one u := rfl
    rw [e0]
    refine ⟨fun hb => ⟨h, _, rfl, Stay.refl _, ?_⟩, fun hb => ?_⟩
    · show false = (bs.any (· == lastS a ++ one u) && !inS (one u) a)
      rw [hb]; rfl
    refine w_tcmp ?_
    refine w_local R' hm2 ?_
    refine w_local R' hm1 ?_
    refine w_nins ?_
    refine w_truthy ⟨h, _, rfl, Stay.refl _, ?_⟩
    show (!inS (one u) a) = (bs.any (· == lastS a ++ one u) && !inS (one u) a)
    rw [hb]; rfl
  · rintro C n a v u t m' h tk E' ha ⟨ta, rfl⟩ hu _ st' R' hm1 hm2
    have hsa := h3.2 a ha
    refine w_binop ?_
    refine w_local R' hm1 ?_
    refine w_local R' hm2 ?_
    exact w_cat (by show a.cps.size + 1 ≤ 1000000; omega) fun t tk' => ⟨h, _, rfl, Stay.refl _, _, rfl⟩
  intro D h' tk' zs kz st' hnD hD hpz
  have kk := Stay.trans kB₂ (Stay.trans kB₃ F₄.keep)
  exact hQ₉ _ _ (hR D h' tk' zs kz (Stay.trans kk st') (fresh_back kk hnD) hD hpz)
end
end Mine
end
section
-- part Ftape
open PySem PySem.W PyProof.Rows PySem.Calls
set_option Elab.async false
set_option maxRecDepth 100000
set_option maxHeartbeats 8000000
set_option linter.unusedVariables false
namespace Mine
/-- a number read from octets: the one value, and what is left -/
def dec : Nat → List Nat → Option (Nat × List Nat)
  | _, [] => none
  | acc, b :: r => if b / 64 % 2 = 1 then dec (acc * 64 + b % 64) r else some (acc * 64 + b % 64, r)
def RD (n : Nat) (ds : List Nat) : Prop := (∀ c ∈ ds, c < 256) ∧ ds.length ≤ 20 ∧ ∀ rest, dec 0 (ds ++ rest) = some (n, rest)
inductive Tape : List Int → List Nat → Prop
  | nil : Tape [] []
  | cons {n : Int} {r : List Int} {ds bs : List Nat} : RD n.toNat ds → Tape r bs → Tape (n :: r) (ds ++ bs)
theorem Tape.snoc {n : Int} {ds : List Nat} (h : RD n.toNat ds) : ∀ {r : List Int} {bs : List Nat}, Tape r bs → Tape (r ++ [n]) (bs ++ ds)
  | _, _, .nil => by simpa using Tape.cons h .nil
  | _, _, .cons h' t => by
    have := Tape.cons h' (Tape.snoc h t)
    simpa [List.append_assoc] using this
theorem Tape.bound : ∀ {r : List Int} {bs : List Nat}, Tape r bs → bs.length ≤ 20 * r.length ∧ ∀ c ∈ bs, c < 256
  | _, _, .nil => ⟨Nat.le_refl _, fun _ h => by cases h⟩
  | _, _, .cons h t => by
    have ih := t.bound
    refine ⟨?_, fun c hc => ?_⟩
    · rw [List.length_append, List.length_cons]; have := h.2.1; omega
    · rcases List.mem_append.mp hc with hc | hc
      · exact h.1 c hc
      · exact ih.2 c hc
/-- digits under way: v's own first -/
structure DG (n v : Nat) (ds : List Nat) : Prop where
  hd : ∃ x r, ds = x :: r ∧ x < 128 ∧ ∀ c ∈ r, c < 256
  len : v * 64 ^ (ds.length - 1) ≤ n
  rd : ∀ rest, dec (v / 64) (ds ++ rest) = some (n, rest)
theorem DG.first (n : Nat) : DG n n [n % 64] := by
  refine ⟨⟨_, [], rfl, by omega, fun _ h => by cases h⟩, by simp, fun rest => ?_⟩
  show (if n % 64 / 64 % 2 = 1 then _ else some (n / 64 * 64 + n % 64 % 64, rest)) = _
  rw [if_neg (by omega)]
  congr 2; omega
theorem DG.next {n v : Nat} {ds : List Nat} (h : DG n v ds) (hv : 64 ≤ v) : DG n (v / 64) ((64 + v / 64 % 64) :: ds) := by
  obtain ⟨⟨x, r, rfl, hx, hr⟩, hl, hrd⟩ := h
  refine ⟨⟨_, _, rfl, by omega, fun c hc => ?_⟩, ?_, fun rest => ?_⟩
  · rcases List.mem_cons.mp hc with rfl | hc
    · omega
    · exact hr c hc
  · have e : ((64 + v / 64 % 64) :: x :: r).length - 1 = (x :: r).length - 1 + 1 := by simp
    rw [e, Nat.pow_succ]
    refine Nat.le_trans ?_ hl
    have : v / 64 * 64 ≤ v := by omega
    calc v / 64 * (64 ^ ((x :: r).length - 1) * 64) = (v / 64 * 64) * 64 ^ ((x :: r).length - 1) := by rw [Nat.mul_assoc, Nat.mul_comm 64]
      _ ≤ v * 64 ^ ((x :: r).length - 1) := Nat.mul_le_mul_right _ this
  · show (if (64 + v / 64 % 64) / 64 % 2 = 1 then dec (v / 64 / 64 * 64 + (64 + v / 64 % 64) % 64) (x :: r ++ rest) else _) = _
    rw [if_pos (by omega)]
    have e : v / 64 / 64 * 64 + (64 + v / 64 % 64) % 64 = v / 64 := by omega
    rw [e]; exact hrd rest
theorem DG.last {n v b x : Nat} {r : List Nat} (h : DG n v (x :: r)) (hv : v < 64) (h1 : 1 ≤ v) (hn : n ≤ 400000) (hb : b ≤ 1) : RD n ((x + 128 * b) :: r) := by
  obtain ⟨⟨x', r', e, hx, hr⟩, hl, hrd⟩ := h
  cases e
  refine ⟨fun c hc => ?_, ?_, fun rest => ?_⟩
  · rcases List.mem_cons.mp hc with rfl | hc
    · omega
    · exact hr c hc
  · have e1 : (x :: r).length - 1 = r.length := by simp
    rw [e1] at hl
    by_cases hlt : r.length ≤ 10
    · simp; omega
    · exfalso
      have : 64 ^ 11 ≤ 64 ^ r.length := Nat.pow_le_pow_right (by omega) (by omega)
      have h3 : 1 * 64 ^ r.length ≤ v * 64 ^ r.length := Nat.mul_le_mul_right _ h1
      have : (64 : Nat) ^ 11 > 400000 := by decide
      omega
  · have := hrd rest
    rw [Nat.div_eq_of_lt hv] at this
    rw [← this]
    show (if (x + 128 * b) / 64 % 2 = 1 then dec (0 * 64 + (x + 128 * b) % 64) (r ++ rest) else _) = (if x / 64 % 2 = 1 then dec (0 * 64 + x % 64) (r ++ rest) else _)
    have e1 : (x + 128 * b) / 64 % 2 = x / 64 % 2 := by omega
    have e2 : (x + 128 * b) % 64 = x % 64 := by omega
    rw [e1, e2]

theorem isList_obj' {h : Heap} {l : Addr} {ob : Obj} {ys : Array Value} (e : h.get? l = some ob) (x : IsL ob ys) : h.IsList l ys := ⟨ob, e, x.1, x.2⟩
section
variable {w : World} {A : Around} {hp : Heap} {g : Array GenState} {d : Drawn} {tk : Nat} {o : OsState} {R : Result → Shared → Prop}
theorem tape_fn {l : Addr} {items : Array Value} {told : List Int} (hl : hp.IsList l items) (hi : Paired IntIs told items.toList) (hlen : told.length = 10) (hb : ∀ v ∈ told, 1 ≤ v ∧ v ≤ 400000) (G : Gn w hp) (r : Room 4 A)
    (hR : ∀ arr t h' tk' bs, hp.StaysIn h' → Tape told bs → arr.toList.map (·.toNat) = bs ++ [0, 64] → R (.ok (.ret (.bytes arr t))) ⟨h', g, d, tk', o⟩) :
    codeAny (model PR w) A (.call (.ref 250) ⟨[.ref l], []⟩) R ⟨hp, g, d, tk, o⟩ := by
  walk_at "fill"
  refine' w_enterQ (n := 3) (binds := [(Str.ofString "told", .ref l)]) ?G ?r ?ho ?hcd ?hb ?hk ?hnd ?_ ?c1 ?c2 ?c3
  walk_at "fn"
  intro L₁ h₁ tk A₉ Q₉ E₉ st hL F r' hA₉ hQ₉
  have G₁ := G.keeps st
  refine w_set ?_
  refine w_list ?_
  refine w_sp0 ?_
  refine w_newlist (by simp) fun oc h₂ st₂ hnoc hoco => ?_
  obtain ⟨B₂, F₂, kB₂, new₂⟩ := F.new st₂
  have hoc₂ := new₂ _ _ hnoc hoco
  refine w_stl F₂ fun h₃ tk₃ F₃ _ => ?_
  refine w_for told IntIs (fun i B m cm N => ∃ oc ys cs, N = [] ∧ B.IsList oc ys ∧ Paired NatIs cs ys.toList ∧ Tape (told.take i) cs ∧ m "octets" = some (.ref oc) ∧ m "told" = some (.ref l)) r'.handled ?_
  refine w_local F₃.rd rfl ?_
  refine ⟨h₃, tk₃, B₂, _, _, _, rfl, feed_list (hl.at fun o e => kB₂ _ _ e) hi, F₃, ⟨oc, #[], [], rfl, isList_obj hoc₂, .nil, .nil, rfl, rfl⟩, ?_, ?_⟩
  · rintro i n v B m cm N I oI h tk Qt E' hn ⟨ti, rfl⟩ hB F ⟨oc, ys, cs, rfl, hoc, hcs, htp, hmo, hmt⟩ hT
    have hnm : n ∈ told := List.mem_of_getElem? hn
    obtain ⟨hn1, hn2⟩ := hb n hnm
    obtain ⟨N0, rfl⟩ : ∃ k : Nat, n = k := ⟨n.toNat, by omega⟩
    have hil : i < 10 := by rw [← hlen]; exact (List.getElem?_eq_some_iff.mp hn).1
    have htb := htp.bound
    have hysz : ys.size ≤ 200 := by
      rw [paired_size hcs]
      have : (told.take i).length ≤ 10 := by rw [List.length_take, hlen]; exact Nat.min_le_right _ _
      omega
    have htake : told.take (i + 1) = told.take i ++ [(N0 : Int)] := by rw [List.take_add_one, hn]; rfl
    -- digits = [v % 64]
    refine w_set ?_
    refine w_list ?_
    refine w_sp1 ?_
    refine w_binop ?_
    refine w_local F.rd set_eq ?_
    refine w_int fun t tk' => ?_
    refine w_mod (by decide) fun t tk' => ?_
    refine w_newlist (by simp) fun dg h₄ st₄ hndg hdgo => ?_
    have F₄ := F.push st₄ hndg hdgo
    refine w_stl F₄ fun h₅ tk₅ F₅ _ => ?_
    have hfm : ((N0 : Int).fmod 64) = ((N0 % 64 : Nat) : Int) := by rw [Int.fmod_eq_emod_of_nonneg _ (by omega)]; omega
    -- while v >= 64
    refine w_while (fun nn B' m cm N => ∃ dg zs ds t, N = [(dg, lobj zs 0), (I, oI)] ∧ Paired NatIs ds zs.toList ∧ DG N0 nn ds ∧ nn ≤ N0 ∧ 1 ≤ nn ∧ m "v" = some (.int (nn : Int) t) ∧ m "digits" = some (.ref dg) ∧ m "octets" = some (.ref oc) ∧ m "told" = some (.ref l))
      (fun B' m cm N => ∃ nn dg zs ds, nn < 64 ∧ N = [(dg, lobj zs 0), (I, oI)] ∧ Paired NatIs ds zs.toList ∧ DG N0 nn ds ∧ nn ≤ N0 ∧ 1 ≤ nn ∧ m "digits" = some (.ref dg) ∧ m "octets" = some (.ref oc) ∧ m "told" = some (.ref l))
      N0 F₅ ⟨dg, _, [N0 % 64], ti, rfl, .cons ⟨_, by rw [hfm]⟩ .nil, DG.first N0, Nat.le_refl _, by omega, set_ne set_eq, set_eq, set_ne (set_ne hmo), set_ne (set_ne hmt)⟩ ?_ ?_
    · intro nn B' m cm N h tk Qw Pw E'' F hJ hTw hPw
      obtain ⟨dg, zs, ds, tv, rfl, hds, dgp, hle, h1n, hmv, hmd, hmo, hmt⟩ := hJ
      refine w_tcmp ?_
      refine w_local F.rd hmv ?_
      refine w_int fun t tk' => ?_
      refine w_ge ?_
      refine w_truthy ?_
      refine ⟨fun hb => ?_, fun hb => ?_⟩
      · have h64 : 64 ≤ nn := by have := of_decide_eq_true hb; omega
        refine w_set ?_
        refine w_binop ?_
        refine w_local F.rd hmv ?_
        refine w_int fun t tk' => ?_
        refine w_divs (by decide) (by decide) fun t tk' => ?_
        have e1 : ((nn : Int).fdiv 64) = ((nn / 64 : Nat) : Int) := by rw [Int.fdiv_eq_ediv_of_nonneg _ (by decide)]; omega
        rw [e1]
        refine w_stl F fun h₆ tk₆ F₆ _ => ?_
        refine w_set ?_
        refine w_binop ?_
        refine w_list ?_
        refine w_sp1 ?_
        refine w_binop ?_
        refine w_int fun t tk' => ?_
        refine w_binop ?_
        refine w_local F₆.rd set_eq ?_
        refine w_int fun t tk' => ?_
        refine w_mod (by decide) fun t tk' => ?_
        refine w_add fun t tk' => ?_
        refine w_newlist (by simp) fun nl h₇ st₇ hnnl hnlo => ?_
        have F₇ := F₆.keeps st₇
        refine w_local F₇.rd (set_ne hmd) ?_
        have hdl : ds.length ≤ 20 := by
          by_cases hlt : ds.length ≤ 20
          · exact hlt
          · exfalso
            have h1 := dgp.len
            have h2 : 64 ^ 20 ≤ 64 ^ (ds.length - 1) := Nat.pow_le_pow_right (by omega) (by omega)
            have h3 : 1 * 64 ^ (ds.length - 1) ≤ nn * 64 ^ (ds.length - 1) := Nat.mul_le_mul_right _ h1n
            have h4 : (64 : Nat) ^ 20 > 400000 := by decide
            omega
        refine w_addl (isList_obj hnlo) (isList_obj (F₇.news _ (.head _)).1) (by rw [paired_size hds]; show 1 + _ ≤ _; omega) fun r h₈ st₈ hnr hro => ?_
        have F₈ := (F₇.drop (List.sublist_cons_self _ _)).push st₈ hnr hro
        refine w_stl F₈ fun h₉ tk₉ F₉ _ => ?_
        refine w_nil ?_
        have e2 : (64 + ((nn / 64 : Nat) : Int).fmod 64) = ((64 + nn / 64 % 64 : Nat) : Int) := by rw [Int.fmod_eq_emod_of_nonneg _ (by omega)]; omega
        refine hTw _ _ ⟨.inl rfl, B', _, _, _, h₉, tk₉, nn / 64, by omega, rfl, Stay.refl _, F₉, r, _, _, _, rfl, ?_, dgp.next h64, by omega, by omega, set_ne set_eq, set_eq, set_ne (set_ne hmo), set_ne (set_ne hmt)⟩
        rw [e2, Array.toList_append]
        exact Paired.cons ⟨_, rfl⟩ hds
      · have h64 : nn < 64 := by have := of_decide_eq_false hb; omega
        exact hPw _ ⟨B', _, _, _, h, _, rfl, Stay.refl _, F, nn, dg, zs, ds, h64, rfl, hds, dgp, hle, h1n, hmd, hmo, hmt⟩
    · rintro B' m cm N h tk hB' F ⟨nn, dg, zs, ds, h64, rfl, hds, dgp, hle, h1n, hmd, hmo, hmt⟩
      obtain ⟨⟨x, rr, rfl, hx, hrr⟩, hlen', hrd⟩ := id dgp
      have hoc' : h.IsList oc ys := hoc.at fun o e => F.keep _ _ (hB' _ _ e)
      have hdgl := (F.news _ (.head _)).1
      obtain ⟨xv, hxv, tx, rfl⟩ := paired_arr hds (i := 0) rfl
      have hzs : 1 ≤ zs.size := by rw [paired_size hds]; simp
      -- digits[0] = digits[0] + 128 * (len(octets) % 2)
      refine w_setsub ?_
      refine w_binop ?_
      refine w_sub ?_
      refine w_local F.rd hmd ?_
      refine w_int fun t tk' => ?_
      refine w_ilist (isList_obj hdgl) (by decide) (by decide) hxv ?_
      refine w_binop ?_
      refine w_int fun t tk' => ?_
      refine w_binop ?_
      refine w_call ?_
      refine' w_bname (G.keeps (Stay.trans kB₂ (Stay.trans hB (Stay.trans hB' F.keep)))) ?hg rfl ?_
      case hg => k_is
      refine w_cwb ?_
      refine w_sp1 ?_
      refine w_local F.rd hmo ?_
      refine w_len hoc' (by omega) fun t tk' => ?_
      refine w_int fun t tk' => ?_
      refine w_mod (by decide) fun t tk' => ?_
      refine w_mul (IntMulOk.of_left (by decide)) fun t tk' => ?_
      refine w_add fun t₉ tk' => ?_
      refine w_local F.rd hmd ?_
      refine w_int fun t tk' => ?_
      refine w_setl (isList_obj hdgl) (by decide) (by omega) (by rw [paired_size hds]; have := (dgp.last h64 h1n (by omega) (Nat.zero_le 1)).2.1; simp at this ⊢; omega) fun h₆ ob' hob1 hob2 hbut => ?_
      have F₆ := F.turn0 hbut hob1
      have e3 : ((x : Int) + 128 * ((ys.size : Int).fmod 2)) = ((x + 128 * (ys.size % 2) : Nat) : Int) := by rw [Int.fmod_eq_emod_of_nonneg _ (by omega)]; omega
      have hrdn := dgp.last h64 h1n (by omega) (show ys.size % 2 ≤ 1 by omega)
      -- octets = octets + digits
      have hoc₆ : h₆.IsList oc ys := hoc.at fun o e => F₆.keep _ _ (hB' _ _ e)
      refine w_set ?_
      refine w_binop ?_
      refine w_local F₆.rd hmo ?_
      refine w_local F₆.rd hmd ?_
      refine w_addl hoc₆ (isList_obj' hob1 hob2) (by
        rw [Array.size_setIfInBounds, paired_size hds]; have := hrdn.2.1; simp at this ⊢; omega) fun r h₇ st₇ hnr hro => ?_
      have F₇ := F₆.keeps st₇
      obtain ⟨B₈, F₈, kB₈, new₈⟩ := (F₆.drop (List.sublist_cons_self _ _)).new st₇
      have hr₈ := new₈ _ _ hnr hro
      refine w_stl F₈ fun h₉ tk₉ F₉ _ => ?_
      refine w_nil ?_
      refine hT _ _ ⟨.inl rfl, B₈, _, _, [], h₉, tk₉, rfl, Stay.trans hB' kB₈, F₉, r, _, cs ++ (x + 128 * (ys.size % 2)) :: rr, rfl, isList_obj hr₈, ?_, ?_, set_eq, set_ne hmt⟩
      · rw [Array.toList_append, Array.toList_setIfInBounds]
        refine paired_app hcs ?_
        have := paired_set hds 0 (a := x + 128 * (ys.size % 2)) (b := Value.int ((x : Int) + 128 * ((ys.size : Int).fmod 2)) t₉) ⟨t₉, by rw [e3]⟩
        simpa using this
      · rw [htake]
        exact Tape.snoc (n := (N0 : Int)) (show RD (N0 : Int).toNat _ from hrdn) htp
  · rintro B m cm N h tk hB F ⟨oc, ys, cs, rfl, hoc, hcs, htp, hmo, hmt⟩
    rw [List.take_length] at htp
    have htb := htp.bound
    refine w_ret ?_
    refine w_call ?_
    refine' w_bname (G.keeps (Stay.trans kB₂ (Stay.trans hB F.keep))) ?hg rfl ?_
    case hg => k_is
    refine w_cwt ?_
    refine w_sp1 ?_
    refine w_binop ?_
    refine w_local F.rd hmo ?_
    refine w_list ?_
    refine w_sp2 ?_
    refine w_int fun t tk' => ?_
    refine w_int fun t tk' => ?_
    refine w_newlist (by simp) fun nl h₂ st₂ hnnl hnlo => ?_
    have hoc₂ : h₂.IsList oc ys := hoc.at fun o e => st₂ _ _ (F.keep _ _ e)
    refine w_addl hoc₂ (isList_obj hnlo) (by rw [paired_size hcs]; show _ + 2 ≤ _; omega) fun r h₃ st₃ hnr hro => ?_
    refine w_bytes (cs := cs ++ [0, 64]) r'.handled (isList_obj hro) ?_ ?_ (by rw [List.length_append]; show _ + 2 ≤ _; omega) fun arr t h₄ tk₄ st₄ harr => ?_
    · intro c hc
      rcases List.mem_append.mp hc with hc | hc
      · exact htb.2 c hc
      · simp at hc; omega
    · rw [Array.toList_append]
      exact paired_app hcs (.cons ⟨_, rfl⟩ (.cons ⟨_, rfl⟩ .nil))
    · exact hQ₉ _ _ (hR arr t h₄ tk₄ cs (Stay.trans kB₂ (Stay.trans hB (Stay.trans F.keep (Stay.trans st₂ (Stay.trans st₃ st₄))))) htp harr)
end
end Mine
end
section
-- part Fkind
open PySem PySem.W PyProof.Rows PySem.Calls
set_option Elab.async false
set_option maxRecDepth 100000
set_option maxHeartbeats 8000000
set_option linter.unusedVariables false
namespace Mine
def trip (v : Int) : PyData := .tuple [.bool (decide (v < 256)), .bool (decide (256 ≤ v)), .bool (v == 0)]
theorem trips : ∀ vs : List Int, PyData.showableAll (vs.map trip) = true ∧ PyData.hasDictAll (vs.map trip) = false ∧ PyData.depthAll (vs.map trip) ≤ 1 ∧ PyData.leavesShortAll 8 (vs.map trip) = true ∧ PyData.weightAll (vs.map trip) = 4 * vs.length
  | [] => ⟨rfl, rfl, Nat.zero_le _, rfl, rfl⟩
  | v :: r => by
    obtain ⟨h1, h2, h3, h4, h5⟩ := trips r
    refine ⟨?_, ?_, ?_, ?_, ?_⟩
    · show (true && (true && (true && true)) && _) = true
      simpa using h1
    · show (false || (false || (false || false)) || _) = false
      simpa using h2
    · show max (max 0 (max 0 (max 0 0)) + 1) _ ≤ 1
      omega
    · show (true && (true && (true && true)) && _) = true
      simpa using h4
    · show (0 + 1 + (0 + 1 + (0 + 1 + 0))) + 1 + _ = _
      rw [List.length_cons]
      have : PyData.weightAll (List.map trip r) = 4 * r.length := h5
      omega
def TripOf (v : Int) (y : Value) (H : Heap) : Prop := ∃ a, y = .ref a ∧ H.get? a = some (tobj #[.bool (decide (v < 256)), .bool (decide (256 ≤ v)), .bool (v == 0)])
theorem reads_trips {h : Heap} : ∀ {vs : List Int} {ys : List Value}, Paired (fun v y => TripOf v y h) vs ys → ∃ as, ReadsAll h ys (vs.map trip) as
  | _, _, .nil => ⟨[], .nil⟩
  | _, _, .cons (a := v) x t => by
    obtain ⟨as, ih⟩ := reads_trips t
    obtain ⟨a, rfl, e⟩ := x
    exact ⟨_, .cons (.tuple e rfl rfl (.cons (.bool _) (.cons (.bool _) (.cons (.bool _) .nil)))) ih⟩
section
variable {w : World} {A : Around} {hp : Heap} {g : Array GenState} {d : Drawn} {tk : Nat} {o : OsState} {R : Result → Shared → Prop}
theorem str_trips {prog : Program} {E : Value → Shared → Prop} {Q : Value → Shared → Prop} {D : Addr} {ys : Array Value} {k : Nat} {vs : List Int} {n : Nat} (r : Room n A) (hD : hp.get? D = some (lobj ys k)) (hp' : Paired (fun v y => TripOf v y hp) vs ys.toList) (hlen : vs.length ≤ 1000)
    (h : ∀ h' t tk', hp.StaysIn h' → Q (.str (PyData.list (vs.map trip)).shown t) ⟨h', g, d, tk', o⟩) : Wp (model prog w) A (call (.type "str") [.ref D]) Q E ⟨hp, g, d, tk, o⟩ := by
  obtain ⟨as, ra⟩ := reads_trips hp'
  obtain ⟨h1, h2, h3, h4, h5⟩ := trips vs
  have hd : PyData.depth (.list (vs.map trip)) ≤ 2 := by show PyData.depthAll _ + 1 ≤ 2; omega
  have hs := PyData.shown_le 8 (by decide) (.list (vs.map trip)) h4
  have hw : PyData.weight (.list (vs.map trip)) = 4 * vs.length := h5
  rw [hw] at hs
  exact w_strl (.list hD rfl rfl ra) h1 h2 r.guards (by have := r.units; show A.units + _ < 9900; omega) (by omega) h

theorem kinds_fn {l : Addr} {items : Array Value} {told : List Int} (hl : hp.IsList l items) (hi : Paired IntIs told items.toList) (hlen : told.length = 10) (G : Gn w hp) (r : Room 5 A)
    (hR : ∀ h' tk', hp.StaysIn h' → R (.ok (.ret (.bool true))) ⟨h', g, d, tk', o⟩) :
    codeAny (model PR w) A (.call (.ref 262) ⟨[.ref l], []⟩) R ⟨hp, g, d, tk, o⟩ := by
  walk_at "fill"
  refine' w_enterQ (n := 4) (binds := [(Str.ofString "told", .ref l)]) ?G ?r ?ho ?hcd ?hb ?hk ?hnd ?_ ?c1 ?c2 ?c3
  walk_at "fn"
  intro L₁ h₁ tk A₉ Q₉ E₉ st hL F r' hA₉ hQ₉
  have hl₁ : h₁.IsList l items := hl.at fun o e => st _ _ e
  refine w_set ?_
  refine w_binop ?_
  refine w_binop ?_
  refine w_local F.rd rfl ?_
  refine w_list ?_
  refine w_sp1 ?_
  refine w_int fun t tk' => ?_
  refine w_newlist (by simp) fun nl h₂ st₂ hnnl hnlo => ?_
  refine w_addl (hl₁.at fun o e => st₂ _ _ e) (isList_obj hnlo) (by rw [paired_size hi]; show _ + 1 ≤ _; omega) fun r₁ h₃ st₃ hnr₁ hr₁ => ?_
  have F₃ := (F.keeps st₂).keeps st₃
  refine w_comp told IntIs (fun v => -v) (fun b y _ => IntIs b y) (fun _ _ _ _ q _ => q) r'.handled ?_
  refine w_local F₃.rd rfl ?_
  refine ⟨h₃, _, _, _, rfl, F₃.rd, feed_list ((hl₁.at fun o e => st₂ _ _ e).at fun o e => st₃ _ _ e) hi, by omega, ?_, ?_⟩
  · rintro C n a v h tk E' ha ⟨ta, rfl⟩ st' R'
    refine w_unop ?_
    refine w_local R' rfl ?_
    exact w_neg fun t tk' => ⟨h, _, rfl, Stay.refl _, fun _ _ _ => ⟨_, rfl⟩⟩
  intro D h₄ tk₄ zs kz st₄ hnD hD hpz
  refine w_addl (isList_obj (st₄ _ _ hr₁)) (isList_obj hD) (by rw [paired_size hpz, Array.size_append, paired_size hi, List.length_map]; show _ + 1 + _ ≤ _; omega) fun r₂ h₅ st₅ hnr₂ hr₂ => ?_
  have hask : Paired IntIs ((told ++ [0]) ++ told.map fun v => -v) ((items ++ #[Value.int 0 t]) ++ zs).toList := by
    rw [Array.toList_append, Array.toList_append]
    exact paired_app (paired_app hi (.cons ⟨_, rfl⟩ .nil)) hpz
  generalize hvs : (told ++ [0]) ++ (told.map fun v => -v) = vs at hask
  have hvl : vs.length = 21 := by rw [← hvs]; simp [hlen]
  obtain ⟨B₅, F₅, kB₅, new₅⟩ := (F.keeps st₂).new (Stay.trans st₃ (Stay.trans st₄ st₅))
  have fb : h₂.get? r₂ = none := fresh_back st₃ (fresh_back st₄ hnr₂)
  have hrB := new₅ _ _ fb hr₂
  refine w_stl F₅ fun h₆ tk₆ F₆ _ => ?_
  have G₆ := G.keeps (Stay.trans kB₅ F₆.keep)
  refine w_ret ?_
  refine w_cmp ?_
  refine w_call ?_
  refine' w_bname G₆ ?hg rfl ?_
  case hg => k_is
  refine w_cwt ?_
  refine w_sp1 ?_
  refine w_comp vs IntIs (fun v => v) TripOf (fun b y H H' q k => let ⟨a, e, q⟩ := q; ⟨a, e, k _ _ q⟩) r'.handled ?_
  refine w_local F₆.rd rfl ?_
  refine ⟨h₆, _, _, _, rfl, F₆.rd, feed_list (isList_obj (F₆.keep _ _ hrB)) hask, by omega, ?_, ?_⟩
  · rintro C n a v h tk E' ha ⟨ta, rfl⟩ st' R'
    have GH := G₆.keeps st'
    refine w_tuple ?_
    refine w_sp3 ?_
    refine w_call ?_
    refine' w_glob GH ?hg ?_
    case hg => k_is
    refine' w_cwd GH ?h1 ?_
    case h1 => k_is
    refine w_sp1 ?_
    refine w_local R' rfl ?_
    refine ⟨GH.k, ?_⟩
    refine w_fn ?_
    refine isterm_fn GH (r'.less (by decide)) fun h₇ tk₇ st₇ => ?_
    have GH₇ := GH.keeps st₇
    have R₇ := R'.keeps st₇
    refine w_call ?_
    refine' w_glob GH₇ ?hg ?_
    case hg => k_is
    refine' w_cwd GH₇ ?h1 ?_
    case h1 => k_is
    refine w_sp1 ?_
    refine w_local R₇ rfl ?_
    refine ⟨GH₇.k, ?_⟩
    refine w_fn ?_
    refine isnon_fn GH₇ (r'.less (by decide)) fun h₈ tk₈ st₈ => ?_
    have GH₈ := GH₇.keeps st₈
    have R₈ := R₇.keeps st₈
    refine w_call ?_
    refine' w_glob GH₈ ?hg ?_
    case hg => k_is
    refine' w_cwd GH₈ ?h1 ?_
    case h1 => k_is
    refine w_sp1 ?_
    refine w_local R₈ rfl ?_
    refine ⟨GH₈.k, ?_⟩
    refine w_fn ?_
    refine iseof_fn GH₈ (r'.less (by decide)) fun h₉ tk₉ st₉ => ?_
    refine w_newtuple (by simp) fun tp hX stX hntp htp => ?_
    have sts := Stay.trans st₇ (Stay.trans st₈ st₉)
    exact ⟨hX, _, rfl, Stay.trans sts stX, fun H _ hnew => ⟨tp, rfl, hnew _ _ (fresh_back sts hntp) htp⟩⟩
  intro D₁ h₇ tk₇ y₁ k₁ st₇ hnD₁ hD₁ hp₁
  rw [List.map_id'] at hp₁
  refine str_trips r' hD₁ hp₁ (by omega) fun h₈ t₈ tk₈ st₈ => ?_
  have F₈ := (F₆.keeps st₇).keeps st₈
  have G₈ := G.keeps (Stay.trans kB₅ F₈.keep)
  refine w_call ?_
  refine' w_bname G₈ ?hg rfl ?_
  case hg => k_is
  refine w_cwt ?_
  refine w_sp1 ?_
  refine w_comp vs IntIs (fun v => v) TripOf (fun b y H H' q k => let ⟨a, e, q⟩ := q; ⟨a, e, k _ _ q⟩) r'.handled ?_
  refine w_local F₈.rd rfl ?_
  refine ⟨h₈, _, _, _, rfl, F₈.rd, feed_list (isList_obj (F₈.keep _ _ hrB)) hask, by omega, ?_, ?_⟩
  · rintro C n a v h tk E' ha ⟨ta, rfl⟩ st' R'
    refine w_tuple ?_
    refine w_sp3 ?_
    refine w_cmp ?_
    refine w_local R' rfl ?_
    refine w_int fun t tk' => ?_
    refine w_lt ?_
    refine w_cmp ?_
    refine w_local R' rfl ?_
    refine w_int fun t tk' => ?_
    refine w_ge ?_
    refine w_cmp ?_
    refine w_local R' rfl ?_
    refine w_int fun t tk' => ?_
    refine w_eqi ?_
    refine w_newtuple (by simp) fun tp hX stX hntp htp => ?_
    exact ⟨hX, _, rfl, stX, fun H _ hnew => ⟨tp, rfl, hnew _ _ hntp htp⟩⟩
  intro D₂ h₉ tk₉ y₂ k₂ st₉ hnD₂ hD₂ hp₂
  rw [List.map_id'] at hp₂
  refine str_trips r' hD₂ hp₂ (by omega) fun hX tX tkX stX => ?_
  refine w_eqs ?_
  rw [beq_self_eq_true]
  exact hQ₉ _ _ (hR hX _ (Stay.trans kB₅ (Stay.trans F₈.keep (Stay.trans st₉ stX))))
end
end Mine
end
section
-- part Fread
open PySem PySem.W PyProof.Rows PySem.Calls
set_option Elab.async false
set_option maxRecDepth 100000
set_option maxHeartbeats 8000000
set_option linter.unusedVariables false
namespace Mine
theorem dec_ge : ∀ (l : List Nat) (acc n : Nat) (rest : List Nat), dec acc l = some (n, rest) → acc ≤ n
  | [], _, _, _, h => by cases h
  | c :: r, acc, n, rest, h => by
    unfold dec at h
    split at h
    · have := dec_ge r _ _ _ h; omega
    · cases h; omega
/-- the reading under way, an octet c just taken in -/
def Mid (acc c : Nat) (l : List Nat) (n : Nat) (rest : List Nat) : Prop := (if c / 64 % 2 = 1 then dec acc l else some (acc, l)) = some (n, rest)
theorem Mid.ge {acc c n : Nat} {l rest : List Nat} (h : Mid acc c l n rest) : acc ≤ n := by
  unfold Mid at h
  split at h
  · exact dec_ge _ _ _ _ h
  · cases h; omega
section
variable {w : World} {A : Around} {hp : Heap} {g : Array GenState} {d : Drawn} {tk : Nat} {o : OsState} {R : Result → Shared → Prop}
theorem bdrop_at {b : Array UInt8} {i c : Nat} {l : List Nat} (h : (b.toList.map (·.toNat)).drop i = c :: l) : ∃ u : UInt8, b[i]? = some u ∧ u.toNat = c ∧ (b.toList.map (·.toNat)).drop (i + 1) = l := by
  have h1 : (b.toList.map (·.toNat))[i]? = some c := by
    have := congrArg (·[0]?) h
    simpa [List.getElem?_drop] using this
  rw [List.getElem?_map] at h1
  obtain ⟨u, hu, e⟩ := Option.map_eq_some_iff.mp h1
  refine ⟨u, by simpa using hu, e, ?_⟩
  rw [← List.drop_drop, h]; rfl
theorem parse_fn {it : Addr} {b : Array UInt8} {t : Tok} {i n : Nat} {rest : List Nat} (hit : hp.get? it = some (biter b t i)) (hd : dec 0 ((b.toList.map (·.toNat)).drop i) = some (n, rest)) (hn : n ≤ 400000) {B : Heap} (GB : Gn w B) (hB : B.StaysIn hp) (hBi : B.get? it = none) (r : Room 3 A)
    (hR : ∀ h' tk' t' j, But it hp h' → h'.get? it = some (biter b t j) → (b.toList.map (·.toNat)).drop j = rest → R (.ok (.ret (.int (n : Int) t'))) ⟨h', g, d, tk', o⟩) :
    codeAny (model PR w) A (.call (.ref 62) ⟨[.ref it], []⟩) R ⟨hp, g, d, tk, o⟩ := by
  walk_at "fill"
  have G := GB.keeps hB
  refine' w_enterQ (n := 2) (binds := [(Str.ofString "iterator", .ref it)]) ?G ?r ?ho ?hcd ?hb ?hk ?hnd ?_ ?c1 ?c2 ?c3
  walk_at "fn"
  intro L₁ h₁ tk A₉ Q₉ E₉ st hL F r' hA₉ hQ₉
  have F₀ := F.take hit
  have kB : B.StaysIn (hideAll hp [it]) := fun b ob e => hide1 (hB _ _ e) (by rintro rfl; rw [hBi] at e; cases e)
  cases hl : (b.toList.map (·.toNat)).drop i with
  | nil => rw [hl] at hd; cases hd
  | cons c l =>
  rw [hl] at hd
  obtain ⟨u, hu, huc, hl'⟩ := bdrop_at hl
  refine w_set ?_
  refine w_call ?_
  refine' w_bname (GB.keeps (Stay.trans kB F₀.keep)) ?hg rfl ?_
  case hg => k_is
  refine w_cwb ?_
  refine w_sp1 ?_
  refine w_local F₀.rd rfl ?_
  refine w_next1 (F₀.news _ (.head _)).1 hu fun h₂ t₂ tk₂ hbut hi₂ => ?_
  rw [huc]
  have F₂ := F₀.turn0 hbut hi₂
  refine w_stl F₂ fun h₃ tk₃ F₃ _ => ?_
  refine w_set ?_
  refine w_binop ?_
  refine w_local F₃.rd rfl ?_
  refine w_int fun tq tk' => ?_
  refine w_and fun tq tk' => ?_
  rw [bit63]
  refine w_stl F₃ fun h₄ tk₄ F₄ _ => ?_
  have hmid : Mid (c % 64) c l n rest := by
    unfold Mid
    unfold dec at hd
    rw [Nat.zero_mul, Nat.zero_add] at hd; exact hd
  refine w_while (fun k B' m cm N => B.StaysIn B' ∧ ∃ c acc l j tb tv, k = l.length ∧ N = [(it, biter b t j)] ∧ (b.toList.map (·.toNat)).drop j = l ∧ Mid acc c l n rest ∧ m "b" = some (.int (c : Int) tb) ∧ m "val" = some (.int (acc : Int) tv) ∧ m "iterator" = some (.ref it))
    (fun B' m cm N => ∃ j tv, N = [(it, biter b t j)] ∧ (b.toList.map (·.toNat)).drop j = rest ∧ m "val" = some (.int (n : Int) tv))
    l.length F₄ ⟨kB, c, c % 64, l, i + 1, _, _, rfl, rfl, hl', hmid, rfl, rfl, rfl⟩ ?_ ?_
  · rintro k B' m cm N h tk Qt Pt E' F ⟨kBB, c, acc, l, j, tb, tv, rfl, rfl, hl, hm, hmb, hmv, hmi⟩ hT hP
    refine w_true ?_
    refine w_binop ?_
    refine w_local F.rd hmb ?_
    refine w_int fun tq tk' => ?_
    refine w_and fun tq tk' => ?_
    rw [bit64]
    refine w_tint ?_
    refine ⟨fun hb => ?_, fun hb => ?_⟩
    · have hc : c / 64 % 2 = 1 := by
        by_cases q : c / 64 % 2 = 1
        · exact q
        · rw [if_neg q] at hb; exact absurd hb (by decide)
      unfold Mid at hm
      rw [if_pos hc] at hm
      cases l with
      | nil => cases hm
      | cons c' l' =>
      obtain ⟨u, hu, huc, hl'⟩ := bdrop_at hl
      have hge := dec_ge _ _ _ _ hm
      refine w_augl F.rd hmv ?_
      refine w_int fun tq tk' => ?_
      refine w_shl (by decide) (by decide) (by rw [Int.natAbs_natCast]; have : (400000 : Nat) < 2 ^ 64 := by decide
                                               omega) fun tq tk' => ?_
      have e64 : ((acc : Int) * 2 ^ (6 : Int).toNat) = (acc : Int) * 64 := rfl
      rw [e64]
      refine w_stl F fun h₅ tk₅ F₅ _ => ?_
      refine w_set ?_
      refine w_call ?_
      refine' w_bname (GB.keeps (Stay.trans kBB F₅.keep)) ?hg rfl ?_
      case hg => k_is
      refine w_cwb ?_
      refine w_sp1 ?_
      refine w_local F₅.rd (set_ne hmi) ?_
      refine w_next1 (F₅.news _ (.head _)).1 hu fun h₆ t₆ tk₆ hbut hi₆ => ?_
      rw [huc]
      have F₆ := F₅.turn0 hbut hi₆
      refine w_stl F₆ fun h₇ tk₇ F₇ _ => ?_
      refine w_augl F₇.rd (set_ne set_eq) ?_
      refine w_binop ?_
      refine w_local F₇.rd set_eq ?_
      refine w_int fun tq tk' => ?_
      refine w_and fun tq tk' => ?_
      rw [bit63]
      refine w_or fun tq tk' => ?_
      rw [or64 acc (c' % 64) (Nat.mod_lt _ (by omega))]
      refine w_stl F₇ fun h₈ tk₈ F₈ _ => ?_
      refine w_nil ?_
      exact hT _ _ ⟨.inl rfl, B', _, _, _, h₈, _, l'.length, by simp, rfl, Stay.refl _, F₈, kBB, c', acc * 64 + c' % 64, l', j + 1, _, _, rfl, rfl, hl', hm, set_ne set_eq, set_eq, set_ne (set_ne (set_ne hmi))⟩
    · have hc : ¬ c / 64 % 2 = 1 := by
        intro q; rw [if_pos q] at hb; exact absurd hb (by decide)
      unfold Mid at hm
      rw [if_neg hc] at hm
      cases hm
      exact hP _ ⟨B', _, _, _, h, _, rfl, Stay.refl _, F, j, tv, rfl, hl, hmv⟩
  · rintro B' m cm N h tk hB' F ⟨j, tv, rfl, hl, hmv⟩
    refine w_ret ?_
    refine w_local F.rd hmv ?_
    exact hQ₉ _ _ (hR h _ tv j (fun b ob hb e => F.keep _ _ (hB' _ _ (hide1 e hb))) (F.news _ (.head _)).1 hl)
end
end Mine
end
section
-- part Fexc
open PySem PySem.W PyProof.Rows PySem.Calls
set_option Elab.async false
set_option maxRecDepth 100000
set_option maxHeartbeats 8000000
set_option linter.unusedVariables false
namespace Mine
theorem upto_but {a : Addr} {h h' : Heap} {o : Obj} {vs : Array Value} (k : But a h h') (ha : h.get? a = some o) (hf : o.data = .fields vs) : h.UpToSlots h' := fun b ob e hn => by
  have hne : b ≠ a := by
    rintro rfl
    rw [ha] at e; cases e
    exact hn _ hf
  exact ⟨ob.slots, k b ob hne e⟩
theorem upto_stay {h h' : Heap} (k : h.StaysIn h') : h.UpToSlots h' := fun b ob e _ => ⟨ob.slots, k b ob e⟩
theorem ff_upto {h h' P : Heap} {l : List Env} (k : h.UpToSlots h') (x : h.FunFrames P l) : h'.FunFrames P l :=
  x.of_keeps fun b o e hn => let ⟨sl, e'⟩ := k b o e hn; ⟨_, e', rfl⟩
section
variable {w : World} {A : Around} {hp : Heap} {g : Array GenState} {d : Drawn} {tk : Nat} {o : OsState} {R : Result → Shared → Prop}
theorem parse_raise {it : Addr} {b : Array UInt8} {t : Tok} {i : Nat} (hit : hp.get? it = some (biter b t i)) (hd : (b.toList.map (·.toNat)).drop i = [64]) {B : Heap} (GB : Gn w B) (hB : B.StaysIn hp) (hBi : B.get? it = none) (r : Room 3 A)
    {outer : List Env} {P : Heap} (hfr : A.frames = some outer) (hff : hp.FunFrames P outer) (hP : P.StaysIn hp) (hPi : P.get? it = none)
    (hR : ∀ h' tk' e a0, Heap.FlyingW P outer e (.type "StopIteration") a0 h' → hp.UpToSlots h' → R (.error (.ref e)) ⟨h', g, d, tk', o⟩) :
    codeAny (model PR w) A (.call (.ref 62) ⟨[.ref it], []⟩) R ⟨hp, g, d, tk, o⟩ := by
  walk_at "fill"
  have G := GB.keeps hB
  refine' w_enterE (n := 2) (binds := [(Str.ofString "iterator", .ref it)]) ?G ?r ?ho ?hcd ?hb ?hk ?hnd ?_ ?c1 ?c2 ?c3
  walk_at "fn"
  intro L₁ h₁ tk st hL F r'
  have F₀ := F.take hit
  have kB : B.StaysIn (hideAll hp [it]) := fun b ob e => hide1 (hB _ _ e) (by rintro rfl; rw [hBi] at e; cases e)
  have kP : P.StaysIn (hideAll hp [it]) := fun b ob e => hide1 (hP _ _ e) (by rintro rfl; rw [hPi] at e; cases e)
  obtain ⟨u, hu, huc, hl'⟩ := bdrop_at hd
  refine w_set ?_
  refine w_call ?_
  refine' w_bname (GB.keeps (Stay.trans kB F₀.keep)) ?hg rfl ?_
  case hg => k_is
  refine w_cwb ?_
  refine w_sp1 ?_
  refine w_local F₀.rd rfl ?_
  refine w_next1 (F₀.news _ (.head _)).1 hu fun h₂ t₂ tk₂ hbut hi₂ => ?_
  rw [huc]
  have F₂ := F₀.turn0 hbut hi₂
  refine w_stl F₂ fun h₃ tk₃ F₃ _ => ?_
  refine w_set ?_
  refine w_binop ?_
  refine w_local F₃.rd rfl ?_
  refine w_int fun tq tk' => ?_
  refine w_and fun tq tk' => ?_
  refine w_stl F₃ fun h₄ tk₄ F₄ _ => ?_
  refine .of (wpAny_execs_cons (wpAny_While (codeAny_whileLoop (fun _ s => s = ⟨h₄, g, d, tk₄, o⟩) ?_ 0 rfl)))
  rintro n s rfl
  refine Wp.to ?_
  refine w_true ?_
  refine w_binop ?_
  refine w_local F₄.rd rfl ?_
  refine w_int fun tq tk' => ?_
  refine w_and fun tq tk' => ?_
  refine w_tint ?_
  refine Wp.to ?_
  refine w_augl F₄.rd rfl ?_
  refine w_int fun tq tk' => ?_
  refine w_shl (by decide) (by decide) (by decide) fun tq tk' => ?_
  refine w_stl F₄ fun h₅ tk₅ F₅ _ => ?_
  refine w_set ?_
  refine w_call ?_
  refine' w_bname (GB.keeps (Stay.trans kB F₅.keep)) ?hg rfl ?_
  case hg => k_is
  refine w_cwb ?_
  refine w_sp1 ?_
  refine w_local F₅.rd rfl ?_
  have hnone : b[i + 1]? = none := by
    have hlen := congrArg List.length hl'
    rw [List.length_drop, List.length_map, List.length_nil] at hlen
    have hs : b.toList.length = b.size := by simp
    exact Array.getElem?_eq_none (by omega)
  refine w_next0 r'.handled (F₅.news _ (.head _)).1 hnone fun h₆ e ob vs a0 hbut₆ hne he hcls hdat hv1 hv0 => ?_
  refine PassesOwn.leaving _ _ ?_
  have hb5 : But it hp h₅ := fun b ob hb e => F₅.keep _ _ (hide1 e hb)
  have hb6 := But.trans hb5 hbut₆
  have up6 : hp.UpToSlots h₆ := upto_but hb6 hit rfl
  have hLit : L₁ ≠ it := by rintro rfl; rw [hL] at hit; cases hit
  have hPL : P.get? L₁ = none := fresh_back hP hL
  have ns6 : h₆.Ns L₁ _ := F₅.rd.ns.at' fun o e => hbut₆ _ o hLit e
  have kP6 : P.StaysIn h₆ := fun b ob e => hb6 b ob (by rintro rfl; rw [hPi] at e; cases e) (hP _ _ e)
  have hPe : P.get? e = none := by
    cases q : P.get? e with
    | none => rfl
    | some ob' =>
      have q5 := F₅.keep _ _ (kP _ _ q)
      rw [hne] at q5; cases q5
  refine' wpAny_leaving_firstW (base := P) (outer := outer) (L := L₁) (Around.frames_deeper hfr) ?ff rfl he kP6 hPe hdat hv1 hv0 ?_
  case ff => exact Heap.FunFrames.cons (fun q => by cases q) rfl ns6 hPL (ff_upto up6 hff)
  intro h₇ hLw
  obtain ⟨k1, ⟨_, _, k2⟩, k3, k4⟩ := hLw
  exact hR h₇ _ e a0 ⟨k1, hPe, k2, by rw [← hcls]; exact k3⟩ (up6.trans k4)
end
end Mine
end
section
-- part Frd
open PySem PySem.W PyProof.Rows PySem.Calls
set_option Elab.async false
set_option maxRecDepth 100000
set_option maxHeartbeats 8000000
set_option linter.unusedVariables false
namespace Mine
section
variable {w : World} {A : Around} {hp : Heap} {g : Array GenState} {d : Drawn} {tk : Nat} {o : OsState} {R : Result → Shared → Prop}
theorem rd_zero : RD (0 : Int).toNat [0] := ⟨fun c hc => by simp at hc; omega, by simp, fun rest => rfl⟩
theorem Tape.uncons {n : Int} {r : List Int} {bs : List Nat} (h : Tape (n :: r) bs) : ∃ ds bs', bs = ds ++ bs' ∧ RD n.toNat ds ∧ Tape r bs' := by
  cases h with
  | cons h1 h2 => exact ⟨_, _, rfl, h1, h2⟩
theorem read_fn {b : Array UInt8} {t : Tok} {told : List Int} {bs : List Nat} (htp : Tape told bs) (hb : b.toList.map (·.toNat) = bs ++ [0, 64]) (hlen : told.length = 10) (hbd : ∀ v ∈ told, 1 ≤ v ∧ v ≤ 400000) (G : Gn w hp) (r : Room 5 A)
    {outer : List Env} {P0 : Heap} (hfr : A.frames = some outer) (hff : hp.FunFrames P0 outer) (GP : Gn w P0) (hP0 : P0.StaysIn hp)
    (hR : ∀ D h' tk' ys k, (∀ c ob, c ∉ outer.filterMap (·.frame) → hp.get? c = some ob → h'.get? c = some ob) → hp.UpToSlots h' → hp.get? D = none → h'.get? D = some (lobj ys k) → Paired IntIs (told ++ [0]) ys.toList → R (.ok (.ret (.ref D))) ⟨h', g, d, tk', o⟩) :
    codeAny (model PR w) A (.call (.ref 257) ⟨[.bytes b t], []⟩) R ⟨hp, g, d, tk, o⟩ := by
  walk_at "fill"
  refine' w_enterE (n := 4) (binds := [(Str.ofString "tape", .bytes b t)]) ?G ?r ?ho ?hcd ?hb ?hk ?hnd ?_ ?c1 ?c2 ?c3
  walk_at "fn"
  intro L₁ h₁ tk st hL F r'
  have G₁ := G.keeps st
  have hall : Tape (told ++ [0]) (bs ++ [0]) := Tape.snoc rd_zero htp
  have hb' : (b.toList.map (·.toNat)) = (bs ++ [0]) ++ [64] := by rw [hb]; simp
  obtain ⟨n0, told', rfl⟩ : ∃ n r, told = n :: r := by cases told with | nil => cases hlen | cons n r => exact ⟨n, r, rfl⟩
  generalize hal : (n0 :: told') ++ [0] = al at hall hR
  have hal11 : al.length = 11 := by rw [← hal, List.length_append, hlen]; rfl
  have hali : ∀ i, i < 10 → ∃ v, al[i]? = some v ∧ 1 ≤ v ∧ v ≤ 400000 := fun i hi => by
    have : (n0 :: told')[i]? = some ((n0 :: told')[i]'(by omega)) := List.getElem?_eq_getElem _
    refine ⟨_, by rw [← hal, List.getElem?_append_left (by omega)]; exact this, hbd _ (List.getElem_mem _)⟩
  have hal10 : al[10]? = some 0 := by rw [← hal, List.getElem?_append_right (by omega), hlen]; rfl
  -- octets = iter(tape)
  refine w_set ?_
  refine w_call ?_
  refine' w_bname G₁ ?hg rfl ?_
  case hg => k_is
  refine w_cwb ?_
  refine w_sp1 ?_
  refine w_local F.rd rfl ?_
  refine w_iterb fun it h₂ st₂ hnit hito => ?_
  have F₂ := F.push st₂ hnit hito
  refine w_stl F₂ fun h₃ tk₃ F₃ _ => ?_
  have hBi : hp.get? it = none := fresh_back st hnit
  have hBi0 := hBi
  have hdec : ∀ (i : Nat) (v : Int) (bsr : List Nat) (j : Nat), al[i]? = some v → v ≤ 400000 → Tape (al.drop i) bsr → (b.toList.map (·.toNat)).drop j = bsr ++ [64] →
      ∃ bs', dec 0 ((b.toList.map (·.toNat)).drop j) = some (v.toNat, bs' ++ [64]) ∧ Tape (al.drop (i + 1)) bs' := fun i v bsr j hv hv2 ht hj => by
    have hi : i < al.length := (List.getElem?_eq_some_iff.mp hv).1
    have e : al.drop i = v :: al.drop (i + 1) := by
      rw [List.drop_eq_getElem_cons hi]
      rw [List.getElem?_eq_getElem hi] at hv; cases hv; rfl
    rw [e] at ht
    obtain ⟨ds, bs', rfl, h1, h2⟩ := ht.uncons
    refine ⟨bs', ?_, h2⟩
    rw [hj, List.append_assoc]; exact h1.2.2 _
  -- read = [_parse_varint(octets)]
  obtain ⟨v0, hv0, hv01, hv02⟩ := hali 0 (by omega)
  obtain ⟨bs₁, hd₁, ht₁⟩ := hdec 0 v0 _ 0 hv0 hv02 hall hb'
  refine w_set ?_
  refine w_list ?_
  refine w_sp1 ?_
  refine w_call ?_
  have G₃ := G.keeps F₃.keep
  refine' w_glob G₃ ?hg ?_
  case hg => k_is
  refine' w_cwd G₃ ?h1 ?_
  case h1 => k_is
  refine w_sp1 ?_
  refine w_local F₃.rd rfl ?_
  refine ⟨G₃.k, ?_⟩
  refine w_fn ?_
  refine parse_fn (F₃.news _ (.head _)).1 hd₁ (by omega) G F₃.keep hBi (r'.less (by decide)) fun h₄ tk₄ t₄ j₄ hbut₄ hi₄ hr₄ => ?_
  have F₄ := F₃.turn0 hbut₄ hi₄
  refine w_newlist (by simp) fun rd h₅ st₅ hnrd hrdo => ?_
  have F₅ := F₄.push st₅ hnrd hrdo
  refine w_stl F₅ fun h₆ tk₆ F₆ _ => ?_
  have hrdh : hp.get? rd = none := by
    cases q : hp.get? rd with
    | none => rfl
    | some ob => have := F₄.keep _ _ q; rw [hnrd] at this; cases this
  refine w_while (fun k B' m cm N => hp.StaysIn B' ∧ B'.get? it = none ∧ B'.get? rd = none ∧ ∃ i j ys kk bsr, k = 12 - i ∧ 1 ≤ i ∧ i ≤ 11 ∧ N = [(rd, lobj ys kk), (it, biter b t j)] ∧ Paired IntIs (al.take i) ys.toList ∧ Tape (al.drop i) bsr ∧ (b.toList.map (·.toNat)).drop j = bsr ++ [64] ∧ m "octets" = some (.ref it) ∧ m "read" = some (.ref rd))
    (fun B' m cm N => hp.StaysIn B' ∧ B'.get? it = none ∧ B'.get? rd = none ∧ ∃ j ys kk, N = [(rd, lobj ys kk), (it, biter b t j)] ∧ Paired IntIs al ys.toList ∧ (b.toList.map (·.toNat)).drop j = [64] ∧ m "octets" = some (.ref it) ∧ m "read" = some (.ref rd))
    11 F₆ ⟨Stay.refl _, hBi, hrdh, 1, j₄, _, 0, bs₁, rfl, by omega, by omega, rfl, ?_, ht₁, hr₄, rfl, rfl⟩ ?_ ?_
  · have e1 : al.take 1 = [v0] := by
      have hi : 0 < al.length := by omega
      rw [List.getElem?_eq_getElem hi] at hv0
      cases al with
      | nil => cases hi
      | cons a r => simp at hv0; subst hv0; rfl
    rw [e1]
    exact .cons ⟨t₄, by congr 1; omega⟩ .nil
  · rintro k B' m cm N h tk Qt Pt E' F ⟨kB, hBi, hBr, i, j, ys, kk, bsr, rfl, hi1, hi2, rfl, hp', ht, hj, hmo, hmr⟩ hT hP
    have hys : ys.size = i := by rw [paired_size hp', List.length_take]; omega
    obtain ⟨last, hlast⟩ : ∃ v, al[i - 1]? = some v := ⟨_, List.getElem?_eq_getElem (by omega)⟩
    have hlt : (al.take i)[i - 1]? = some last := by rw [List.getElem?_take_of_lt (by omega)]; exact hlast
    obtain ⟨lv, hlv, tl, rfl⟩ := paired_arr hp' hlt
    have hrdl := (F.news _ (.head _)).1
    have hitl := (F.news _ (.tail _ (.head _))).1
    have GH := G.keeps (Stay.trans kB F.keep)
    refine w_tcmp ?_
    refine w_call ?_
    refine' w_glob GH ?hg ?_
    case hg => k_is
    refine' w_cwd GH ?h1 ?_
    case h1 => k_is
    refine w_sp1 ?_
    refine w_sub ?_
    refine w_local F.rd hmr ?_
    refine w_unop ?_
    refine w_int fun tq tk' => ?_
    refine w_neg fun tq tk' => ?_
    have hidx : ys[((-1 : Int) + (ys.size : Int)).toNat]? = some (.int last tl) := by
      rw [hys]
      have e : ((-1 : Int) + (i : Int)).toNat = i - 1 := by omega
      rw [e]; exact hlv
    refine w_geti (i := -1) (isList_obj hrdl) (by decide) (by omega) (by decide) hidx ?_
    refine ⟨GH.k, ?_⟩
    refine w_fn ?_
    refine iseof_fn GH (r'.less (by decide)) fun h₇ tk₇ st₇ => ?_
    have F₇ := F.keeps st₇
    refine w_bool ?_
    refine w_is rfl ?_
    refine w_truthy ?_
    refine ⟨fun hb => ?_, fun hb => ?_⟩
    · have hne : last ≠ 0 := by
        rintro rfl; exact absurd hb (by decide)
      have hi10 : i ≤ 10 := by
        by_cases q : i = 11
        · subst q; rw [hal10] at hlast; cases hlast; exact absurd rfl hne
        · omega
      obtain ⟨v, hv, hv1, hv2⟩ : ∃ v, al[i]? = some v ∧ 0 ≤ v ∧ v ≤ 400000 := by
        by_cases q : i = 10
        · subst q; exact ⟨0, hal10, by omega, by omega⟩
        · obtain ⟨v, e, a1, a2⟩ := hali i (by omega); exact ⟨v, e, by omega, a2⟩
      obtain ⟨bs', hd', ht'⟩ := hdec i v bsr j hv hv2 ht hj
      have GH₇ := GH.keeps st₇
      refine w_exprs ?_
      refine w_meth ?_
      refine w_local F₇.rd hmr ?_
      intro pl
      refine w_gappend (F₇.news _ (.head _)).1 ?_
      refine w_cwb ?_
      refine w_sp1 ?_
      refine w_call ?_
      refine' w_glob GH₇ ?hg ?_
      case hg => k_is
      refine' w_cwd GH₇ ?h1 ?_
      case h1 => k_is
      refine w_sp1 ?_
      refine w_local F₇.rd hmo ?_
      refine ⟨GH₇.k, ?_⟩
      refine w_fn ?_
      refine parse_fn (F₇.news _ (.tail _ (.head _))).1 hd' (by omega) (G.keeps kB) F₇.keep hBi (r'.less (by decide)) fun h₈ tk₈ t₈ j₈ hbut₈ hi₈ hr₈ => ?_
      have F₈ := F₇.turn1 hbut₈ hi₈
      refine w_append (F₈.news _ (.head _)).1 (by omega) fun h₉ k₉ hl₉ hbut₉ => ?_
      have F₉ := F₈.turn0 hbut₉ hl₉
      refine w_nil ?_
      have etk : al.take (i + 1) = al.take i ++ [v] := by rw [List.take_add_one, hv]; rfl
      refine hT _ _ ⟨.inl rfl, B', _, _, _, h₉, _, 12 - (i + 1), by omega, rfl, Stay.refl _, F₉, kB, hBi, hBr, i + 1, j₈, _, k₉, bs', rfl, by omega, by omega, rfl, ?_, ht', hr₈, hmo, hmr⟩
      rw [etk, Array.toList_push]
      exact Paired.snoc hp' ⟨t₈, by congr 1; omega⟩
    · have hz : last = 0 := by
        by_cases q : last = 0
        · exact q
        · exfalso
          have : (last == 0) = false := beq_eq_false_iff_ne.mpr q
          rw [this] at hb; exact absurd hb (by decide)
      have hi11 : i = 11 := by
        by_cases q : i = 11
        · exact q
        · obtain ⟨v, e, a1, _⟩ := hali (i - 1) (by omega)
          rw [hlast] at e; cases e; omega
      subst hi11
      have et : al.take 11 = al := List.take_of_length_le (by omega)
      have ed : al.drop 11 = [] := List.drop_of_length_le (by omega)
      rw [et] at hp'
      rw [ed] at ht
      cases ht
      exact hP _ ⟨B', _, _, _, h₇, _, rfl, Stay.refl _, F₇, kB, hBi, hBr, j, ys, kk, rfl, hp', hj, hmo, hmr⟩
  · rintro B' m cm N h tk hB F ⟨kB, hBi, hBr, j, ys, kk, rfl, hp', hj, hmo, hmr⟩
    have hrdl := (F.news _ (.head _)).1
    have hitl := (F.news _ (.tail _ (.head _))).1
    have sth : hp.StaysIn h := Stay.trans kB F.keep
    have GH := G.keeps sth
    refine .of (wpAny_execs_cons (wpAny_Try_except ?_))
    refine Wp.to ?_
    refine w_exprs ?_
    refine w_meth ?_
    refine w_local F.rd hmr ?_
    intro pl
    refine w_gappend hrdl ?_
    refine w_cwb ?_
    refine w_sp1 ?_
    refine w_call ?_
    refine' w_glob GH ?hg ?_
    case hg => k_is
    refine' w_cwd GH ?h1 ?_
    case h1 => k_is
    refine w_sp1 ?_
    refine w_local F.rd hmo ?_
    refine ⟨GH.k, ?_⟩
    refine w_fn ?_
    have hLh : h.get? L₁ ≠ none := by obtain ⟨ob, e⟩ := Ns.some F.rd.ns; intro q; rw [show h.get? L₁ = some ob from e] at q; cases q
    have ffh : h.FunFrames P0 outer := ff_upto (upto_stay sth) hff
    have hmemo : ∀ c, c ∈ outer.filterMap (·.frame) → P0.get? c = none ∧ ∃ ob, hp.get? c = some ob := fun c hc => let ⟨a, ob, b, _⟩ := hff.mem hc; ⟨a, ob, b⟩
    have hP0it : P0.get? it = none := fresh_back hP0 hBi0
    have hPget : ∀ (c : Addr) (ob : Obj), h.get? c = some ob → c ≠ it → c ≠ L₁ → c ∉ outer.filterMap (·.frame) → (hideAll h (it :: L₁ :: outer.filterMap (·.frame))).get? c = some ob := fun c ob e h1 h2 h3 =>
      hideAll_get _ e fun hm => by
        rcases List.mem_cons.mp hm with q | hm
        · exact h1 q
        rcases List.mem_cons.mp hm with q | hm
        · exact h2 q
        · exact h3 hm
    have kP : P0.StaysIn (hideAll h (it :: L₁ :: outer.filterMap (·.frame))) := fun c ob e => hPget c ob (sth _ _ (hP0 _ _ e)) (by rintro rfl; rw [hP0it] at e; cases e) (by rintro rfl; have := hP0 _ _ e; rw [hL] at this; cases this) (fun hm => by rw [(hmemo _ hm).1] at e; cases e)
    have GPP := GP.keeps kP
    have ffP := funFrames_hide (as := it :: L₁ :: outer.filterMap (·.frame)) ffh (fun env he a ha => .tail _ (.tail _ (List.mem_filterMap.mpr ⟨env, he, ha⟩)))
    refine' parse_raise (P := hideAll h (it :: L₁ :: outer.filterMap (·.frame))) hitl hj (G.keeps kB) F.keep hBi (r'.less (by decide)) (Around.frames_deeper hfr) ?ff (fun _ _ e => of_hideAll _ e) (hideAll_none _ (.head _)) ?_
    case ff => exact Heap.FunFrames.cons (fun q => by cases q) rfl F.rd.ns (hideAll_none _ (.tail _ (.head _))) ffP
    intro h₆ tk₆ e a0 hfl up6
    refine' caught_M (Around.frames_deeper hfr) rfl hfl GPP ?hg2 rfl ?s1 ?s2 ?s3 ?_ ?hE
    case hg2 => k_is
    case s1 => rw [isSubtype_type]; kernel_rfl
    case s2 => rw [isSubtype_type]; kernel_rfl
    case s3 => rw [isSubtype_type]; kernel_rfl
    case hE => exact PassesOwnAt.leaving
    intro h₇ kP7 up7
    have up := (upto_stay sth).trans (up6.trans up7)
    have ns7 := (up6.trans up7).ns F.rd.ns
    refine Wp.to ?_
    refine w_ret ?_
    refine w_local (cm := cm) ⟨ns7, fun n c e => by cases e⟩ hmr ?_
    have hrdf : rd ∉ outer.filterMap (·.frame) := fun hm => by obtain ⟨_, ob, e⟩ := hmemo _ hm; rw [hrdh] at e; cases e
    have hrit : rd ≠ it := by rintro rfl; have := F.napart; rw [List.pairwise_cons] at this; exact this.1 _ (.head _) rfl
    have hrL : rd ≠ L₁ := (F.news _ (.head _)).2.2.1
    refine hR rd h₇ _ ys kk (fun c ob hc e => kP7 _ _ (hPget c ob (sth _ _ e) (by rintro rfl; rw [hBi0] at e; cases e) (by rintro rfl; rw [hL] at e; cases e) hc)) up hrdh (kP7 _ _ (hPget _ _ hrdl hrit hrL hrdf)) hp'
end
end Mine
end
section
-- part Fref
open PySem PySem.W PyProof.Rows PySem.Calls
set_option Elab.async false
set_option maxRecDepth 100000
set_option maxHeartbeats 8000000
set_option linter.unusedVariables false
namespace Mine
section
variable {w : World} {A : Around} {hp : Heap} {g : Array GenState} {d : Drawn} {tk : Nat} {o : OsState} {R : Result → Shared → Prop}
/-- a name with a control sign second -/
def Bad (x : Str) : Prop := x.cps.size = 2 ∧ (decide (x.cps.getD 0 0 ≤ 31) || x.cps.getD 0 0 == 127) = false ∧ (decide (x.cps.getD 1 0 ≤ 31) || x.cps.getD 1 0 == 127) = true
theorem convert_raise {self : Value} {x : Str} {u : Tok} (hx : Bad x) (G : Gn w hp) (r : Room 3 A)
    {outer : List Env} {P : Heap} (hfr : A.frames = some outer) (hff : hp.FunFrames P outer) (hP : P.StaysIn hp)
    (hR : ∀ h' tk' e a0, Heap.FlyingW P outer e (.type "ValueError") a0 h' → hp.UpToSlots h' → R (.error (.ref e)) ⟨h', g, d, tk', o⟩) :
    codeAny (model PR w) A (.call (.ref 128) ⟨[self, .str x u], [(Str.ofString "name", .bool true)]⟩) R ⟨hp, g, d, tk, o⟩ := by
  walk_at "fill"
  refine' w_enterE (n := 2) (binds := [(Str.ofString "self", self), (Str.ofString "value", .str x u), (Str.ofString "name", .bool true)]) ?G ?r ?ho ?hcd ?hb ?hk ?hnd ?_ ?c1 ?c2 ?c3
  walk_at "fn"
  intro L h₁ tk st hL F r'
  have G₁ := G.keeps st
  refine w_if ?_
  refine w_tcmp ?_
  refine w_call ?_
  refine' w_bname G₁ ?hg rfl ?_
  case hg => k_is
  refine w_cwt ?_
  refine w_sp1 ?_
  refine w_local F.rd rfl ?_
  refine w_type (typeIs_str _ _ _) rfl ?_
  refine' w_bname G₁ ?hg rfl ?_
  case hg => k_is
  refine w_is rfl ?_
  refine w_truthy ?_
  refine ⟨fun _ => ?_, fun e => by cases e⟩
  refine w_set ?_
  refine w_ifexp ?_
  refine w_true ?_
  refine w_local F.rd rfl ?_
  refine w_truthy ?_
  refine ⟨fun hb => ?_, fun hb => by cases hb⟩
  refine' w_glob G₁ ?hg ?_
  case hg => k_is
  refine w_stl F fun h₂ tk₂ F₂ kp => ?_
  have P₂ := (pat3 G).keeps F₂.keep
  obtain ⟨n, hn, x'⟩ := search3_some (text := x.cps) (i := 1) (by rw [hx.1]; omega) (fun j hj => by
    have : j = 0 := by omega
    subst this; exact hx.2.1) hx.2.2
  refine w_if ?_
  refine w_true ?_
  refine w_meth ?_
  refine w_local F₂.rd set_eq ?_
  intro pl
  refine w_gmb plain_pat slot_search type_search (let ⟨o, _, _, _, _, _, _, e1, e2, _⟩ := P₂; ⟨o, e1, e2⟩) (fun a e => by cases e; exact (let ⟨o, _, _, _, _, _, _, e1, _, e3, _⟩ := P₂; ⟨o, e1, e3⟩)) ?_
  refine w_cwb ?_
  refine w_sp1 ?_
  refine w_local F₂.rd rfl ?_
  refine w_research1 P₂ (by rw [hx.1]; omega) x' (by omega) fun ma h₃ st₃ hma => ?_
  refine w_tmatch hma ?_
  refine ⟨fun _ => ?_, fun e => by cases e⟩
  have F₃ := F₂.keeps st₃
  refine .of (wpAny_execs_cons (Raise_madeB PySem.F.excCall_ValueError PySem.F.excRaise_ValueError r'.handled ?_))
  refine Wp.to ?_
  refine' w_bname (G.keeps F₃.keep) ?hg rfl ?_
  case hg => k_is
  refine ⟨rfl, ?_⟩
  refine Wp.to ?_
  refine w_sp1 ?_
  refine w_str fun tq tk₄ => ?_
  refine ⟨by rw [sizeLine_eq]; show 1 ≤ 16777216; omega, fun h₄ e hme => ?_⟩
  have st₄ : h₃.StaysIn h₄ := hme.keeps
  obtain ⟨ta, he, _, _⟩ := hme.there
  have F₄ := F₃.keeps st₄
  have hPL : P.get? L = none := fresh_back hP hL
  have hPe : P.get? e = none := by
    cases q : P.get? e with
    | none => rfl
    | some ob' => have := F₃.keep _ _ (hP _ _ q); rw [hme.new] at this; cases this
  have up := upto_stay F₄.keep
  refine' wpAny_leaving_firstW (base := P) (outer := outer) (L := L) (Around.frames_deeper hfr) ?ff rfl he (Stay.trans hP F₄.keep) hPe rfl rfl rfl ?_
  case ff => exact Heap.FunFrames.cons (fun q => by cases q) rfl F₄.rd.ns hPL (ff_upto up hff)
  intro h₇ hLw
  obtain ⟨k1, ⟨_, _, k2⟩, k3, k4⟩ := hLw
  exact hR h₇ _ e _ ⟨k1, hPe, k2, k3⟩ (up.trans k4)
theorem getall_raise {x L : Addr} {n : Str} {u : Tok} (T : Tab hp x L) (hn : n.length ≤ 10) (hx : Bad (Txt.lower n)) (G : Gn w hp) (r : Room 6 A)
    {outer : List Env} {P : Heap} (hfr : A.frames = some outer) (hff : hp.FunFrames P outer) (hP : P.StaysIn hp)
    (hR : ∀ h' tk' e a0, Heap.FlyingW P outer e (.type "ValueError") a0 h' → hp.UpToSlots h' → R (.error (.ref e)) ⟨h', g, d, tk', o⟩) :
    codeAny (model PR w) A (.call (.ref 166) ⟨[.ref x, .str n u], []⟩) R ⟨hp, g, d, tk, o⟩ := by
  walk_at "fill"
  refine' w_enterE (n := 5) (binds := [(Str.ofString "self", .ref x), (Str.ofString "name", .str n u)]) ?G ?r ?ho ?hcd ?hb ?hk ?hnd ?_ ?c1 ?c2 ?c3
  walk_at "fn"
  intro L₁ h₁ tk st hL F r'
  have G₁ := G.keeps st
  obtain ⟨dx, od, I, l1, l2, l3, l4, l5⟩ := (T.keeps st).inst
  refine w_set ?_
  refine w_methk ?_
  refine w_local F.rd rfl ?_
  intro pl
  refine' gm_tab (f := 128) G₁ ⟨od, dx, I, l2⟩ ?h1 ?h2 ?h3 ?_
  case h1 => k_is
  case h2 => k_is
  case h3 => k_is
  refine' w_cwk G₁ ?ho ?_
  case ho => k_is
  refine w_sp1 ?_
  refine w_meth ?_
  refine w_cell F.rd rfl ?_
  intro pl
  refine w_glower ?_
  refine w_cwb0 ?_
  refine w_lower (by omega) fun t₁ tk₁ => ?_
  refine w_bool ?_
  refine ⟨G₁.k, ?_⟩
  refine w_fnk ?_
  have up₁ := upto_stay st
  refine' convert_raise hx G₁ (r'.less (by decide)) (Around.frames_deeper hfr) ?ff (Stay.trans hP st) ?_
  case ff => exact Heap.FunFrames.cons (fun q => by cases q) rfl F.rd.ns (fresh_back hP hL) (ff_upto up₁ hff)
  intro h₂ tk₂ e a0 hfl up₂
  refine wpAny_leaves_onW (Around.frames_deeper hfr) rfl hfl fun h₃ hfl₃ up₃ => ?_
  exact hR h₃ _ e a0 hfl₃ (up₁.trans (up₂.trans up₃))
theorem bad_low : ∀ k : Nat, k < 33 → Bad (Txt.lower (⟨#[97]⟩ ++ ⟨#[if k < 32 then k else 127]⟩)) := by
  intro k hk
  have : (List.range 33).all (fun k => let x := Txt.lower (⟨#[97]⟩ ++ ⟨#[if k < 32 then k else 127]⟩); x.cps.size == 2 && !(decide (x.cps.getD 0 0 ≤ 31) || x.cps.getD 0 0 == 127) && (decide (x.cps.getD 1 0 ≤ 31) || x.cps.getD 1 0 == 127)) = true := by decide +kernel
  have h := List.all_eq_true.mp this k (List.mem_range.mpr hk)
  simp only [Bool.and_eq_true, Bool.not_eq_true', beq_iff_eq] at h
  exact ⟨h.1.1, h.1.2, h.2⟩
theorem refused_fn {x L : Addr} {k : Nat} {t : Tok} (T : Tab hp x L) (hk33 : k < 33) (G : Gn w hp) (r : Room 8 A)
    {outer : List Env} {P0 : Heap} (hfr : A.frames = some outer) (hff : hp.FunFrames P0 outer) (GP : Gn w P0) (hP0 : P0.StaysIn hp)
    (hR : ∀ h' tk', (∀ c ob, c ∉ outer.filterMap (·.frame) → hp.get? c = some ob → h'.get? c = some ob) → hp.UpToSlots h' → R (.ok (.ret (.bool true))) ⟨h', g, d, tk', o⟩) :
    codeAny (model PR w) A (.call (.ref 288) ⟨[.ref x, .int (k : Int) t], []⟩) R ⟨hp, g, d, tk, o⟩ := by
  walk_at "fill"
  refine' w_enterE (n := 7) (binds := [(Str.ofString "table", .ref x), (Str.ofString "number", .int (k : Int) t)]) ?G ?r ?ho ?hcd ?hb ?hk ?hnd ?_ ?c1 ?c2 ?c3
  walk_at "fn"
  intro L₁ h₁ tk st hL F r'
  have G₁ := G.keeps st
  obtain ⟨dx, od, I, l1, l2, l3, l4, l5⟩ := (T.keeps st).inst
  refine .of (wpAny_execs_cons (wpAny_Try_except ?_))
  refine Wp.to ?_
  refine w_exprs ?_
  refine w_meth ?_
  refine w_local F.rd rfl ?_
  intro pl
  refine' gm_tab (f := 166) G₁ ⟨od, dx, I, l3⟩ ?h1 ?h2 ?h3 ?_
  case h1 => k_is
  case h2 => k_is
  case h3 => k_is
  refine' w_cwd G₁ ?h1 ?_
  case h1 => k_is
  refine w_sp1 ?_
  refine w_binop ?_
  refine w_str fun tq tk₁ => ?_
  refine w_call ?_
  refine' w_bname G₁ ?hg rfl ?_
  case hg => k_is
  refine w_cwb ?_
  refine w_sp1 ?_
  refine w_ifexp ?_
  refine w_tcmp ?_
  refine w_local F.rd rfl ?_
  refine w_int fun tq tk₁ => ?_
  refine w_lt ?_
  refine w_truthy ?_
  have ffo : h₁.FunFrames P0 outer := ff_upto (upto_stay st) hff
  have hmemo : ∀ c, c ∈ outer.filterMap (·.frame) → P0.get? c = none ∧ ∃ ob, hp.get? c = some ob := fun c hc => let ⟨a, ob, b, _⟩ := hff.mem hc; ⟨a, ob, b⟩
  have hPget : ∀ (c : Addr) (ob : Obj), h₁.get? c = some ob → c ≠ L₁ → c ∉ outer.filterMap (·.frame) → (hideAll h₁ (L₁ :: outer.filterMap (·.frame))).get? c = some ob := fun c ob e h2 h3 =>
    hideAll_get _ e fun hm => by
      rcases List.mem_cons.mp hm with q | hm
      · exact h2 q
      · exact h3 hm
  have kP : P0.StaysIn (hideAll h₁ (L₁ :: outer.filterMap (·.frame))) := fun c ob e => hPget c ob (st _ _ (hP0 _ _ e)) (by rintro rfl; have := hP0 _ _ e; rw [hL] at this; cases this) (fun hm => by rw [(hmemo _ hm).1] at e; cases e)
  have GPP := GP.keeps kP
  have ffP := funFrames_hide (as := L₁ :: outer.filterMap (·.frame)) ffo (fun env he a ha => .tail _ (List.mem_filterMap.mpr ⟨env, he, ha⟩))
  have hlow := bad_low k hk33
  refine ⟨fun hb => ?ra, fun hb => ?rb⟩
  case' ra =>
    have h32 : k < 32 := by have := of_decide_eq_true hb; omega
    rw [if_pos h32] at hlow
    refine w_local F.rd rfl ?_
    refine w_chr (by omega) (by omega) fun tq tk₁ => ?_
  case' rb =>
    have h32 : ¬ k < 32 := by have := of_decide_eq_false hb; omega
    rw [if_neg h32] at hlow
    refine w_int fun tq tk₁ => ?_
    refine w_chr (by decide) (by decide) fun tq tk₁ => ?_
  all_goals
    refine w_cat (by show 1 + 1 ≤ 1000000; omega) fun tq tk₂ => ?_
    refine ⟨G₁.k, ?_⟩
    refine w_fn ?_
    refine' getall_raise (P := hideAll h₁ (L₁ :: outer.filterMap (·.frame))) (T.keeps st) (by show 1 + 1 ≤ 10; omega) hlow G₁ (r'.less (by decide)) (Around.frames_deeper hfr) ?_ (fun _ _ e => of_hideAll _ e) ?_
    · exact Heap.FunFrames.cons (fun q => by cases q) rfl F.rd.ns (hideAll_none _ (.head _)) ffP
    intro h₆ tk₆ e a0 hfl up6
    refine' caught_M (Around.frames_deeper hfr) rfl hfl GPP ?_ rfl ?_ ?_ ?_ ?_ ?_
    · k_is
    · rw [isSubtype_type]; kernel_rfl
    · rw [isSubtype_type]; kernel_rfl
    · rw [isSubtype_type]; kernel_rfl
    · intro h₇ kP7 up7
      refine Wp.to ?_
      refine w_ret ?_
      refine w_bool ?_
      exact hR h₇ _ (fun c ob hc e => kP7 _ _ (hPget c ob (st _ _ e) (by rintro rfl; rw [hL] at e; cases e) hc)) ((upto_stay st).trans (up6.trans up7))
    · exact PassesOwnAt.leaving
end
end Mine
end
section
-- part W10
open PySem PySem.W PyProof.Rows PySem.Calls PySem.SeqAt
set_option Elab.async false
set_option maxRecDepth 100000
set_option maxHeartbeats 4000000
set_option linter.unusedVariables false
namespace Mine
def strD (x : Str) : PyData := .str x
def tupD (p : Str × Str) : PyData := .tuple [.str p.1, .str p.2]
theorem reads_ints {h : Heap} : ∀ {ns : List Int} {ys : List Value}, Paired IntIs ns ys → ∃ as, ReadsAll h ys (ns.map PyData.int) as
  | _, _, .nil => ⟨_, .nil⟩
  | _, _, .cons x t => by
    obtain ⟨as, ih⟩ := reads_ints t
    obtain ⟨u, rfl⟩ := x
    exact ⟨_, .cons (.int _ _) ih⟩
theorem reads_strs {h : Heap} : ∀ {ns : List Str} {ys : List Value}, Paired StrIs ns ys → ∃ as, ReadsAll h ys (ns.map strD) as
  | _, _, .nil => ⟨_, .nil⟩
  | _, _, .cons x t => by
    obtain ⟨as, ih⟩ := reads_strs t
    obtain ⟨u, rfl⟩ := x
    exact ⟨_, .cons (.str _ _) ih⟩
theorem reads_tups {h : Heap} : ∀ {ps : List (Str × Str)} {ys : List Value}, Paired (TupOf h) ps ys → ∃ as, ReadsAll h ys (ps.map tupD) as
  | _, _, .nil => ⟨_, .nil⟩
  | _, _, .cons x t => by
    obtain ⟨as, ih⟩ := reads_tups t
    obtain ⟨a, u, v, rfl, e⟩ := x
    exact ⟨_, .cons (.tuple e rfl rfl (.cons (.str _ _) (.cons (.str _ _) .nil))) ih⟩
theorem shaped_of {α : Type} {f : α → PyData} (h2 : ∀ x, (f x).depth ≤ 1) (xs : List α) (h1 : ∀ x ∈ xs, (f x).canLay0 = true) : shaped (.list (xs.map f)) = true := by
  have a : ∀ xs : List α, (∀ x ∈ xs, (f x).canLay0 = true) → PyData.canLayAll0 (xs.map f) = true := fun xs h1 => by
    induction xs with
    | nil => rfl
    | cons x r ih =>
      simp only [List.map_cons, PyData.canLayAll0, h1 x (.head _), ih (fun y hy => h1 y (.tail _ hy))]; rfl
  have b : ∀ xs : List α, PyData.depthAll (xs.map f) ≤ 1 := fun xs => by
    induction xs with
    | nil => exact Nat.zero_le _
    | cons x r ih => simp only [List.map_cons, PyData.depthAll]; have := h2 x; omega
  have c := b xs
  unfold shaped
  rw [PyData.canLay0, a xs h1, PyData.depth, Bool.true_and]
  exact decide_eq_true (by omega)
theorem noMix_list {α : Type} {f : α → PyData} {S : Spec.Shape} (hS : plainShape S = true) (h : ∀ x, S.has (f x) = true) (xs : List α) : noMix (.list (xs.map f)) (.list (xs.map f)) = true :=
  noMix_of_shape (.list S) (by simpa [plainShape] using hS) _ _ (list_map_has h) (list_map_has h)
section
variable {prog : Program} {w : World} {A : Around} {E : Value → Shared → Prop} {Q : Value → Shared → Prop}
theorem nel_list {α : Type} {f : α → PyData} {xs : List α} {a b : Addr} {oa ob : Obj} {va vb : Array Value} {na nb : Nat} {s : Shared} {S : Spec.Shape} (ha : s.heap.get? a = some oa) (ca : oa.cls = .type "list") (da : oa.data = .seq va na)
    (hb : s.heap.get? b = some ob) (cb : ob.cls = .type "list") (db : ob.data = .seq vb nb)
    (ra : ∃ as, ReadsAll s.heap va.toList (xs.map f) as) (rb : ∃ as, ReadsAll s.heap vb.toList (xs.map f) as) (h1 : ∀ x ∈ xs, (f x).canLay0 = true) (h2 : ∀ x, (f x).depth ≤ 1) (hS : plainShape S = true) (h3 : ∀ x, S.has (f x) = true)
    (hu : A.units + 64 < cLine) (h : Q (.bool false) s) : Wp (model prog w) A (compareOp .NotEq (.ref a) (.ref b)) Q E s := by
  obtain ⟨as, ra⟩ := ra
  obtain ⟨bs, rb⟩ := rb
  refine w_nel (.list ha ca da ra) (.list hb cb db rb) (shaped_of h2 xs h1) (shaped_of h2 xs h1) hu (noMix_list hS h3 xs) ?_
  rw [PyProof.Rows.same_refl]
  exact h
theorem isList_out {s : Heap} {a : Addr} {va : Array Value} (h : s.IsList a va) : ∃ oa na, s.get? a = some oa ∧ oa.cls = .type "list" ∧ oa.data = .seq va na := by
  obtain ⟨o1, e1, c1, n1, d1⟩ := h
  exact ⟨o1, n1, e1, c1, d1⟩
theorem nel_ints {xs : List Int} {a b : Addr} {va vb : Array Value} {s : Shared} (ha : s.heap.IsList a va) (hb : s.heap.IsList b vb) (pa : Paired IntIs xs va.toList) (pb : Paired IntIs xs vb.toList)
    (hu : A.units + 64 < cLine) (h : Q (.bool false) s) : Wp (model prog w) A (compareOp .NotEq (.ref a) (.ref b)) Q E s := by
  obtain ⟨oa, na, e1, e2, e3⟩ := isList_out ha
  obtain ⟨ob, nb, e4, e5, e6⟩ := isList_out hb
  exact nel_list (f := PyData.int) (S := .int) e1 e2 e3 e4 e5 e6 (reads_ints pa) (reads_ints pb) (fun _ _ => rfl) (fun _ => Nat.zero_le _) rfl (fun _ => rfl) hu h
theorem nel_strs {xs : List Str} {a b : Addr} {va vb : Array Value} {s : Shared} (ha : s.heap.IsList a va) (hb : s.heap.IsList b vb) (pa : Paired StrIs xs va.toList) (pb : Paired StrIs xs vb.toList) (hok : ∀ x ∈ xs, PyData.strOk x = true)
    (hu : A.units + 64 < cLine) (h : Q (.bool false) s) : Wp (model prog w) A (compareOp .NotEq (.ref a) (.ref b)) Q E s := by
  obtain ⟨oa, na, e1, e2, e3⟩ := isList_out ha
  obtain ⟨ob, nb, e4, e5, e6⟩ := isList_out hb
  exact nel_list (f := strD) (S := .str) e1 e2 e3 e4 e5 e6 (reads_strs pa) (reads_strs pb) (fun x hx => by unfold strD; rw [PyData.canLay0]; exact hok x hx) (fun _ => Nat.zero_le _) rfl (fun _ => rfl) hu h
theorem nel_tups {xs : List (Str × Str)} {a b : Addr} {va vb : Array Value} {s : Shared} (ha : s.heap.IsList a va) (hb : s.heap.IsList b vb) (pa : Paired (TupOf s.heap) xs va.toList) (pb : Paired (TupOf s.heap) xs vb.toList) (hok : ∀ x ∈ xs, PyData.strOk x.1 = true ∧ PyData.strOk x.2 = true)
    (hu : A.units + 64 < cLine) (h : Q (.bool false) s) : Wp (model prog w) A (compareOp .NotEq (.ref a) (.ref b)) Q E s := by
  obtain ⟨oa, na, e1, e2, e3⟩ := isList_out ha
  obtain ⟨ob, nb, e4, e5, e6⟩ := isList_out hb
  exact nel_list (f := tupD) (S := .tuple [.str, .str]) e1 e2 e3 e4 e5 e6 (reads_tups pa) (reads_tups pb) (fun x hx => by unfold tupD; simp only [PyData.canLay0, PyData.canLayAll0, (hok x hx).1, (hok x hx).2, Bool.and_true]) (fun x => by show max 0 (max 0 0) + 1 ≤ 1; omega) rfl (fun _ => rfl) hu h
theorem w_muls {x : Str} {n : Int} {t u : Tok} {hp : Heap} {g : Array GenState} {d : Drawn} {tk : Nat} {o : OsState} (h0 : 0 ≤ n) (hn : n < 1000) (hx : x.length ≤ 1) (h : ∀ t tk', Q (.str (Txt.mul x n) t) ⟨hp, g, d, tk', o⟩) :
    Wp (model prog w) A (binaryOp .Mult (.str x t) (.int n u)) Q E ⟨hp, g, d, tk, o⟩ := by
  refine .of (SB.mul ⟨?_, fun h1 h2 h3 => ?_, fun h1 h2 => ?_⟩ fun _ _ => h _ _)
  · simp only [Bool.or_eq_false_iff, decide_eq_false_iff_not]; omega
  · have : (1 : Int) ≤ (2 ^ 63 - 1) / n := Int.le_ediv_of_mul_le (by omega) (by omega)
    omega
  · have : x.length * n.toNat ≤ 1 * 1000 := Nat.mul_le_mul hx (by omega)
    simp only [Builtin.Str.tooLong, sizeLine_eq, decide_eq_false_iff_not]
    omega
end
theorem Fm.shaken {B h h' : Heap} {env : Env} {m cm : Str → Option Value} {N : List (Addr × Obj)} (F : Fm B env m cm N h) (hf : env.frame = some env.locals)
    (hb : ∀ c ob, c ∉ [env].filterMap (·.frame) → h.get? c = some ob → h'.get? c = some ob) (hu : h.UpToSlots h') : Fm B env m cm N h' := by
  have hb' : ∀ c ob, c ≠ env.locals → h.get? c = some ob → h'.get? c = some ob := fun c ob hc => hb c ob (by
    simp only [List.filterMap_cons, hf, List.filterMap_nil, List.mem_singleton]; exact hc)
  refine ⟨⟨Heap.UpToSlots.ns hu F.rd.ns, fun n c e => ?_⟩, fun b o e => hb' b o ?_ (F.keep b o e), F.off, F.look, F.coff, F.apart, fun p hp => ⟨hb' _ _ (F.news p hp).2.2.1 (F.news p hp).1, (F.news p hp).2⟩, F.napart⟩
  · have hc := (F.coff _ (mem_of_lookup e)).2
    obtain ⟨oc, e1, e2⟩ := F.rd.cell n c e
    exact ⟨oc, hb' c oc hc e1, e2⟩
  · rintro rfl; rw [F.off] at e; cases e
end Mine
end
section
-- part Pdef
open PySem PySem.W PyProof.Rows PySem.Calls
set_option Elab.async false
set_option maxRecDepth 100000
set_option maxHeartbeats 4000000
set_option linter.unusedVariables false
namespace Mine
def bitT (told : List Int) (k : Nat) : Bool := decide (256 ≤ told.getD k 0)
def rowsT (told : List Int) : List (Str × Str) := (List.range 10).map fun k => rowOf k (bitT told k)
def swapS (x : Str) : Str := one (x.cps.getD 1 0) ++ one (x.cps.getD 0 0)
def beatS (k : Nat) (b : Bool) : Str := if b then gamesS.getD k (Str.ofString "") else swapS (gamesS.getD k (Str.ofString ""))
def beatsT (told : List Int) : List Str := (List.range 10).map fun k => beatS k (bitT told k)
def endsL : List Str := [Str.ofString "\n", Str.ofString "\r", Str.ofString "\r\n"]
def endS (i : Nat) : Str := endsL.getD i (Str.ofString "")
/-- a round's place among the ends -/
def endAt (told : List Int) (k : Nat) : Nat := (told.sum + k).toNat % 3
def roundS (ps : List (Str × Str)) (e : Str) (ls : List Str) : List Str := (Txt.split (sentS e ls) sep4).flatMap (grown ps e)
def lets0 : List Str := [Str.ofString ".a", Str.ofString ".b", Str.ofString ".c", Str.ofString ".d", Str.ofString ".e"]
def letsS (told : List Int) : Nat → List Str
  | 0 => lets0
  | k + 1 => roundS (rowsT told) (endS (endAt told k)) (letsS told k)
def homeS (ps : List (Str × Str)) (ls : List Str) : Nat := (ls.filter fun x => (winsOf ps (lastS x)).any (· == firstS x)).length
structure RoundOk (ps : List (Str × Str)) (e : Str) (ls : List Str) : Prop where
  sum : (ls.map (·.length)).sum + ls.length * (e ++ e).length ≤ 400000
  join : (Txt.join (e ++ e) ls).cps.size ≤ 400000
  sent : (sentS e ls).length ≤ 900000
  parts : ∀ x ∈ Txt.split (sentS e ls) sep4, Letter x
  next : ((Txt.split (sentS e ls) sep4).flatMap (grown ps e)).length ≤ 100000
structure HomeOk (ls : List Str) : Prop where
  len : ls.length ≤ 1000000
  each : ∀ x ∈ ls, Letter x ∧ 1 ≤ (Txt.lstripChars x dotS).cps.size
def ordS (told : List Int) : List Str := stepS (beatsT told) (stepS (beatsT told) (stepS (beatsT told) (pairsS (beatsT told))))
def fullOf (x : Str) : Str := Txt.join (Str.ofString "\r\n") ((List.range 5).map fun (i : Nat) => Txt.mul (Str.ofString ".") (6 - (i : Int)) ++ one (x.cps.getD i 0))
def wonT (told : List Int) (c : Nat) : Nat := ((beatsT told).filter fun x => one (x.cps.getD 0 0) == one c).length
def ringsT (told : List Int) : Int := 10 - (abc.map fun c => ((wonT told c : Int) * ((wonT told c : Int) - 1)).fdiv 2).sum
structure LawOk (told : List Int) : Prop where
  rows : (rowsT told).length ≤ 1000 ∧ ∀ p ∈ rowsT told, p.1.length ≤ 10 ∧ p.2.length ≤ 10
  rowsok : ∀ p ∈ rowsT told, PyData.strOk p.1 = true ∧ PyData.strOk p.2 = true
  rnd : ∀ k, k < 4 → RoundOk (rowsT told) (endS (endAt told k)) (letsS told k)
  last : RoundOk (rowsT told) (Str.ofString "\n") (letsS told 4)
  home2 : HomeOk (letsS told 2)
  home4 : HomeOk (letsS told 4)
  small1 : Small (pairsS (beatsT told)) 1000
  small2 : Small (stepS (beatsT told) (pairsS (beatsT told))) 1000
  small3 : Small (stepS (beatsT told) (stepS (beatsT told) (pairsS (beatsT told)))) 1000
  small4 : (ordS told).length ≤ 1000 ∧ ∀ x ∈ ordS told, x.cps.size = 5
  full : Txt.split (sentS (Str.ofString "\n") (letsS told 4)) sep4 = (ordS told).map fullOf
  fullok : ∀ x ∈ (ordS told).map fullOf, PyData.strOk x = true
  threes : (homeS (rowsT told) (letsS told 2) : Int) = 3 * ringsT told
  fives : 5 * (((ordS told).length : Int) - 1 - 2 * ringsT told) = 2 * (homeS (rowsT told) (letsS told 4) : Int)
  won : ∀ c ∈ abc, wonT told c ≤ 10
end Mine
end
section
-- part Flaw
open PySem PySem.W PyProof.Rows PySem.Calls
set_option Elab.async false
set_option maxRecDepth 100000
set_option maxHeartbeats 8000000
set_option linter.unusedVariables false
namespace Mine
theorem cm0_of {scope : Scope} {cm : Str → Option Value} {x : Str} {v : Option Value} (h : cm x = v) (hn : isOwn scope x = false := by rfl) : cm0 scope cm x = v := by
  unfold cm0; rw [if_neg (by rw [hn]; exact Bool.false_ne_true)]; exact h
theorem Fm.seq_apart {B h : Heap} {env : Env} {m cm : Str → Option Value} {N : List (Addr × Obj)} (F : Fm B env m cm N h) {b : Addr} {ob : Obj} {ys : Array Value} {k : Nat} (e : h.get? b = some ob) (hd : ob.data = .seq ys k) :
    b ≠ env.locals ∧ ∀ x ∈ env.cells, b ≠ x.2 := by
  refine ⟨?_, fun x hx => ?_⟩
  · rintro rfl
    obtain ⟨o, es, ep, e1, e2, _⟩ := F.rd.ns
    rw [e] at e1; cases e1
    rw [hd] at e2; cases e2
  · rintro rfl
    obtain ⟨o, e1, e2⟩ := F.rd.cell _ _ (F.look x hx)
    rw [e] at e1; cases e1
    rw [hd] at e2; cases e2
theorem beat_at (k : Nat) (hk : k < 10) (b : Bool) : ∃ c0 c1, beatS k b = ⟨#[c0, c1]⟩ ∧ rowOf k b = (if k % 2 = 1 then Txt.upper ⟨#[c0]⟩ else ⟨#[c0]⟩, ⟨#[c1]⟩) := by
  obtain ⟨c0, c1, hgk, hr1, hr2⟩ := game_at k hk
  have hgd : gamesS.getD k (Str.ofString "") = ⟨#[c0, c1]⟩ := by rw [List.getD_eq_getElem?_getD, hgk]; rfl
  cases b with
  | true => exact ⟨c0, c1, by unfold beatS; rw [hgd]; rfl, hr1⟩
  | false => exact ⟨c1, c0, by unfold beatS; rw [hgd]; rfl, hr2⟩
theorem List.sum_nonneg_of {l : List Int} (h : ∀ v ∈ l, 1 ≤ v ∧ v ≤ 400000) : 0 ≤ l.sum := by
  induction l with
  | nil => exact Int.le_refl _
  | cons a r ih =>
    rw [List.sum_cons]
    have := (h a (.head _)).1
    have := ih fun v hv => h v (.tail _ hv)
    omega
theorem end_len (i : Nat) : (endS i).length ≤ 10 := by
  unfold endS endsL
  match i with
  | 0 => decide
  | 1 => decide
  | 2 => decide
  | _ + 3 => exact Nat.zero_le _
theorem nth_at {x : Str} {i : Nat} (h : i < x.cps.size) : (seqIndex? (i : Int) x.length).bind (x.cps[·]?) = some (x.cps.getD i 0) := by
  have e : seqIndex? (i : Int) x.length = some i := by
    unfold seqIndex?
    simp only [if_neg (show ¬ ((i : Int) < 0) by omega)]
    rw [if_pos (by simp only [Bool.and_eq_true, decide_eq_true_eq]; exact ⟨by omega, by show (i : Int) < (x.cps.size : Int); omega⟩)]
    congr 1
  rw [e]
  show x.cps[i]? = _
  rw [Array.getD_eq_getD_getElem?, Array.getElem?_eq_getElem h]; rfl
theorem mul_len {b : Nat} (hb : b < 5) : (Txt.mul (Str.ofString ".") (6 - (b : Int))).length = 6 - b := by
  match b, hb with
  | 0, _ => decide
  | 1, _ => decide
  | 2, _ => decide
  | 3, _ => decide
  | 4, _ => decide
theorem full_fit (a : Str) : ((((List.range 5).map fun (i : Nat) => Txt.mul (Str.ofString ".") (6 - (i : Int)) ++ one (a.cps.getD i 0))).map (·.length)).sum + ((List.range 5).map fun (i : Nat) => Txt.mul (Str.ofString ".") (6 - (i : Int)) ++ one (a.cps.getD i 0)).length * (Str.ofString "\r\n").length ≤ 1000000 := by
  have : ∀ l : List Nat, (∀ b ∈ l, b < 5) → ((l.map fun (i : Nat) => Txt.mul (Str.ofString ".") (6 - (i : Int)) ++ one (a.cps.getD i 0)).map (·.length)).sum ≤ 7 * l.length := fun l => by
    induction l with
    | nil => intro _; exact Nat.zero_le _
    | cons b r ih =>
      intro h
      have h1 := ih fun c hc => h c (.tail _ hc)
      simp only [List.map_cons, List.sum_cons, List.length_cons, Str.length_append]
      have h2 := mul_len (h b (.head _))
      have h3 : (one (a.cps.getD b 0)).length = 1 := rfl
      omega
  have h1 := this (List.range 5) fun b hb => List.mem_range.mp hb
  have h2 : (Str.ofString "\r\n").length = 2 := by decide
  rw [List.length_map, List.length_range] at *
  omega
section
variable {w : World} {A : Around} {hp : Heap} {g : Array GenState} {d : Drawn} {tk : Nat} {o : OsState} {R : Result → Shared → Prop}
theorem law_fn (LAW : ∀ told : List Int, told.length = 10 → (∀ v ∈ told, 1 ≤ v ∧ v ≤ 400000) → LawOk told) {lst : Addr} {items : Array Value} {script : List Int} (hl : hp.IsList lst items) (hsz : script.length ≤ 63) (hint : Paired IntIs script items.toList) (G : Gn w hp) (r : Room 20 A) (hfr : A.frames = some [])
    (hR : ∀ h' tk', hp.StaysIn h' → R (.ok (.ret (.bool true))) ⟨h', g, d, tk', o⟩) :
    codeAny (model PR w) A (.call (.ref 298) ⟨[.ref lst], []⟩) R ⟨hp, g, d, tk, o⟩ := by
  walk_at "fill"
  refine' w_enterQ (n := 19) (binds := [(Str.ofString "script", .ref lst)]) ?G ?r ?ho ?hcd ?hb ?hk ?hnd ?_ ?c1 ?c2 ?c3
  walk_at "fn"
  intro L₁ h₁ tk A₉ Q₉ E₉ st hL F r' hA₉ hQ₉
  have G₁ := G.keeps st
  have hl₁ : h₁.IsList lst items := hl.at fun o e => st _ _ e
  -- told
  refine w_set ?_
  refine w_call ?_
  refine' w_glob G₁ ?hg ?_
  case hg => k_is
  refine' w_cwd G₁ ?h1 ?_
  case h1 => k_is
  refine w_sp1 ?_
  refine w_local F.rd rfl ?_
  refine ⟨G₁.k, ?_⟩
  refine w_fn ?_
  refine numbers_fn hl₁ hsz hint G₁ (r'.less (by decide)) fun tl ts kt h₂ tk₂ told st₂ hntl htl hlen hbd hpt => ?_
  have OK := LAW told hlen hbd
  obtain ⟨B₂, F₂, kB₂, new₂⟩ := F.new st₂
  have tB₂ := new₂ _ _ hntl htl
  refine w_stc F₂ fun h₃ tk₃ F₃ _ => ?_
  -- read
  have G₃ := G.keeps (Stay.trans kB₂ F₃.keep)
  refine w_set ?_
  refine w_call ?_
  refine' w_glob G₃ ?hg ?_
  case hg => k_is
  refine' w_cwd G₃ ?h1 ?_
  case h1 => k_is
  refine w_sp1 ?_
  refine w_call ?_
  refine' w_glob G₃ ?hg ?_
  case hg => k_is
  refine' w_cwd G₃ ?h1 ?_
  case h1 => k_is
  refine w_sp1 ?_
  refine w_cell F₃.rd set_eq ?_
  refine ⟨G₃.k, ?_⟩
  refine w_fn ?_
  refine tape_fn (isList_obj (F₃.keep _ _ tB₂)) hpt hlen hbd G₃ (r'.less (by decide)) fun arr ta h₄ tk₄ bs st₄ htp harr => ?_
  have F₄ := F₃.keeps st₄
  have G₄ := G₃.keeps st₄
  refine ⟨G₄.k, ?_⟩
  refine w_fn ?_
  refine read_fn htp harr hlen hbd G₄ (r'.less (by decide)) (outer := [_]) (P0 := hp) (by rw [hA₉]; show A.frames.map _ = _; rw [hfr]; rfl) ?ff G (Stay.trans kB₂ F₄.keep) fun rd h₅ tk₅ ys₅ k₅ hbut₅ hup₅ hnrd hrd hpr => ?_
  case ff => exact Heap.FunFrames.cons (fun q => by cases q) rfl F₄.rd.ns hL trivial
  have F₅ := F₄.shaken rfl hbut₅ hup₅
  have fr₅ := F₄.fresh hnrd
  obtain ⟨B₅, F₅', kB₅, wh₅⟩ := F₅.whole
  have rB₅ := wh₅ _ _ hrd fr₅.1 fr₅.2.1 (fun p hp => by cases hp)
  have tB₅ := kB₅ _ _ tB₂
  refine w_stl F₅' fun h₆ tk₆ F₆ _ => ?_
  have GB₅ := G.keeps (Stay.trans kB₂ kB₅)
  have G₆ := GB₅.keeps F₆.keep
  -- if read != told + [0] or not ..
  refine w_if ?_
  refine w_tor2 ?_
  refine w_tcmp ?_
  refine w_local F₆.rd set_eq ?_
  refine w_binop ?_
  refine w_cell F₆.rd set_eq ?_
  refine w_list ?_
  refine w_sp1 ?_
  refine w_int fun t tk' => ?_
  refine w_newlist (by simp) fun nl h₇ st₇ hnnl hnlo => ?_
  refine w_addl (isList_obj (st₇ _ _ (F₆.keep _ _ tB₅))) (isList_obj hnlo) (by rw [paired_size hpt, hlen]; show 10 + 1 ≤ _; omega) fun r₁ h₈ st₈ hnr₁ hr₁ => ?_
  have F₈ := (F₆.keeps st₇).keeps st₈
  refine nel_ints (isList_obj (F₈.keep _ _ rB₅)) (isList_obj hr₁) hpr (by rw [Array.toList_append]; exact paired_app hpt (.cons ⟨_, rfl⟩ .nil)) (by have := r'.units; show _ + 64 < 9900; omega) ?_
  refine w_truthy ?_
  refine ⟨fun e => (nomatch e), fun _ => ?_⟩
  have G₈ := GB₅.keeps F₈.keep
  refine w_tnot ?_
  refine w_true ?_
  refine w_call ?_
  refine' w_glob G₈ ?hg ?_
  case hg => k_is
  refine' w_cwd G₈ ?h1 ?_
  case h1 => k_is
  refine w_sp1 ?_
  refine w_cell F₈.rd set_eq ?_
  refine ⟨G₈.k, ?_⟩
  refine w_fn ?_
  refine kinds_fn (isList_obj (F₈.keep _ _ tB₅)) hpt hlen G₈ (r'.less (by decide)) fun h₉ tk₉ st₉ => ?_
  have F₉ := F₈.keeps st₉
  have G₉ := GB₅.keeps F₉.keep
  refine w_truthy ?_
  refine ⟨fun e => (nomatch e), fun _ => ?_⟩
  refine w_nil ?_
  refine then_next ?_
  -- games
  refine w_set ?_
  refine w_call ?_
  refine' w_glob G₉ ?hg ?_
  case hg => k_is
  refine' w_cwd0 G₉ ?h1 ?_
  case h1 => k_is
  refine w_fn ?_
  refine games_fn G₉ (r'.less (by decide)) fun gl gts h₁₀ tk₁₀ st₁₀ hngl hglo hgs => ?_
  obtain ⟨B₁₀, F₁₀, kB₁₀, new₁₀⟩ := F₉.new st₁₀
  have gB₁₀ := new₁₀ _ _ hngl hglo
  have tB₁₀ := kB₁₀ _ _ tB₅
  have rB₁₀ := kB₁₀ _ _ rB₅
  refine w_stc F₁₀ fun h₁₁ tk₁₁ F₁₁ _ => ?_
  have GB₁₀ := GB₅.keeps kB₁₀
  have G₁₁ := GB₁₀.keeps F₁₁.keep
  have hpg := paired_strs hgs
  -- beats
  refine w_set ?_
  refine w_comp (List.range 10) (fun i v => ∃ t, v = .int (i : Int) t) (fun k => beatS k (bitT told k)) (fun b y _ => StrIs b y) (fun _ _ _ _ q _ => q) r'.handled ?_
  refine w_call ?_
  refine' w_bname G₁₁ ?hg rfl ?_
  case hg => k_is
  refine w_cwt ?_
  refine w_sp1 ?_
  refine w_int fun t tk' => ?_
  refine w_range fun rg h₁₂ tk₁₂ t1 t2 t3 st₁₂ hnrg hrg => ?_
  have F₁₂ := F₁₁.keeps st₁₂
  refine ⟨h₁₂, _, _, _, rfl, F₁₂.rd, feed_range hrg (by omega), by decide, ?_, ?_⟩
  · rintro C n a v h tk E' ha ⟨ta, rfl⟩ st' R'
    have ha10 : a < 10 := List.mem_range.mp ha
    have st'' := Stay.trans F₁₂.keep st'
    obtain ⟨c0, c1, hgk, hr1, hr2⟩ := game_at a ha10
    obtain ⟨gv, hgv, tg, rfl⟩ := paired_arr hpg hgk
    have hal : a < told.length := by omega
    obtain ⟨tv, htv, tt, rfl⟩ := paired_arr hpt (List.getElem?_eq_getElem hal)
    have hbit : bitT told a = decide (256 ≤ told[a]) := by unfold bitT; rw [List.getD_eq_getElem?_getD, List.getElem?_eq_getElem hal]; rfl
    have hgd : gamesS.getD a (Str.ofString "") = ⟨#[c0, c1]⟩ := by rw [List.getD_eq_getElem?_getD, hgk]; rfl
    refine w_ifexp ?_
    refine w_tcmp ?_
    refine w_sub ?_
    refine w_cell R' (cm0_of (set_ne set_eq)) ?_
    refine w_local R' set_eq ?_
    refine w_ilist (isList_obj (st'' _ _ tB₁₀)) (by omega) (by omega) (by rw [Int.toNat_natCast]; exact htv) ?_
    refine w_int fun t tk' => ?_
    refine w_ge ?_
    refine w_truthy ?_
    refine ⟨fun hb => ?_, fun hb => ?_⟩
    · refine w_sub ?_
      refine w_cell R' (cm0_of set_eq) ?_
      refine w_local R' set_eq ?_
      refine w_ilist (isList_obj (st'' _ _ gB₁₀)) (by omega) (by omega) (by rw [Int.toNat_natCast]; exact hgv) ?_
      exact ⟨h, _, rfl, Stay.refl _, fun _ _ _ => ⟨_, by rw [hbit, hb]; show _ = Value.str (gamesS.getD a (Str.ofString "")) _; rw [hgd]⟩⟩
    · refine w_binop ?_
      refine w_sub ?_
      refine w_sub ?_
      refine w_cell R' (cm0_of set_eq) ?_
      refine w_local R' set_eq ?_
      refine w_ilist (isList_obj (st'' _ _ gB₁₀)) (by omega) (by omega) (by rw [Int.toNat_natCast]; exact hgv) ?_
      refine w_int fun t tk' => ?_
      refine w_istr (c := c1) (by decide) rfl fun t tk' => ?_
      refine w_sub ?_
      refine w_sub ?_
      refine w_cell R' (cm0_of set_eq) ?_
      refine w_local R' set_eq ?_
      refine w_ilist (isList_obj (st'' _ _ gB₁₀)) (by omega) (by omega) (by rw [Int.toNat_natCast]; exact hgv) ?_
      refine w_int fun t tk' => ?_
      refine w_istr (c := c0) (by decide) rfl fun t tk' => ?_
      refine w_cat (by show 1 + 1 ≤ 1000000; omega) fun t tk' => ?_
      exact ⟨h, _, rfl, Stay.refl _, fun _ _ _ => ⟨_, by rw [hbit, hb]; show _ = Value.str (swapS (gamesS.getD a (Str.ofString ""))) _; rw [hgd]; rfl⟩⟩
  intro bl h₁₃ tk₁₃ ysb kb st₁₃ hnbl hblo hpb
  change Paired StrIs (beatsT told) ysb.toList at hpb
  obtain ⟨B₁₃, F₁₃, kB₁₃, new₁₃⟩ := F₁₂.new st₁₃
  have bB₁₃ := new₁₃ _ _ hnbl hblo
  have tB₁₃ := kB₁₃ _ _ tB₁₀
  have rB₁₃ := kB₁₃ _ _ rB₁₀
  refine w_stc F₁₃ fun h₁₄ tk₁₄ F₁₄ _ => ?_
  have GB₁₃ := GB₁₀.keeps kB₁₃
  have G₁₄ := GB₁₃.keeps F₁₄.keep
  -- table
  refine w_set ?_
  refine w_call ?_
  refine' w_glob G₁₄ ?hg ?_
  case hg => k_is
  refine' w_cwd G₁₄ ?h1 ?_
  case h1 => k_is
  refine w_sp1 ?_
  refine w_local F₁₄.rd set_eq ?_
  refine ⟨G₁₄.k, ?_⟩
  refine w_fn ?_
  refine table_fn (isList_obj (F₁₄.keep _ _ rB₁₃)) hpr (by rw [List.length_append, hlen]; decide) G₁₄ (r'.less (by decide)) fun h₁₅ tk₁₅ x dx L st₁₅ hnx hndx hnL TA RW => ?_
  have FX := F₁₄.keeps st₁₅
  obtain ⟨B₁₅, F₁₅, kB₁₅, wh₁₅⟩ := FX.whole
  have frx := F₁₄.fresh hnx
  have frd := F₁₄.fresh hndx
  have frL := F₁₄.fresh hnL
  have TB : Tab B₁₅ x L := by
    obtain ⟨od, t1, t2, t3⟩ := TA
    exact ⟨dx, od, wh₁₅ _ _ t1 frx.1 frx.2.1 (fun _ hp => by cases hp), wh₁₅ _ _ t2 frd.1 frd.2.1 (fun _ hp => by cases hp), t3⟩
  have RB : RowsOf B₁₅ L (rowsT told) := by
    obtain ⟨ysr, kr, e1, e2⟩ := RW
    refine ⟨ysr, kr, wh₁₅ _ _ e1 frL.1 frL.2.1 (fun _ hp => by cases hp), ?_⟩
    have : ((List.range 10).map fun k => rowOf k (decide (256 ≤ (told ++ [0]).getD k 0))) = rowsT told := by
      refine List.map_congr_left fun k hk => ?_
      have hk' := List.mem_range.mp hk
      unfold bitT
      rw [List.getD_eq_getElem?_getD, List.getD_eq_getElem?_getD, List.getElem?_append_left (by omega)]
    rw [this] at e2
    refine paired_mono (fun p v q => ?_) e2
    obtain ⟨a, t, u, rfl, e⟩ := q
    have ap := FX.seq_apart e rfl
    exact ⟨a, t, u, rfl, wh₁₅ _ _ e ap.1 ap.2 (fun _ hp => by cases hp)⟩
  have tB₁₅ := kB₁₅ _ _ tB₁₃
  have bB₁₅ := kB₁₅ _ _ bB₁₃
  refine w_stl F₁₅ fun h₁₆ tk₁₆ F₁₆ _ => ?_
  have GB₁₅ := GB₁₃.keeps kB₁₅
  have G₁₆ := GB₁₅.keeps F₁₆.keep
  -- if table.items() != ..
  refine w_if ?_
  refine w_tcmp ?_
  refine w_meth ?_
  refine w_local F₁₆.rd set_eq ?_
  intro pl
  have T₁₆ := TB.keeps F₁₆.keep
  have R₁₆ := RB.keeps F₁₆.keep
  obtain ⟨dx', od, I, l1, l2, l3, l4, l5⟩ := T₁₆.inst
  refine' gm_tab (f := 191) G₁₆ ⟨od, dx', I, l4⟩ ?h1 ?h2 ?h3 ?_
  case h1 => k_is
  case h2 => k_is
  case h3 => k_is
  refine' w_cwd0 G₁₆ ?h1 ?_
  case h1 => k_is
  refine w_fn ?_
  obtain ⟨ysr, kr, hLo, hpR⟩ := R₁₆
  have hrl : ysr.size = 10 := by rw [paired_size hpR]; unfold rowsT; rw [List.length_map, List.length_range]
  refine items_fn T₁₆ (isList_obj hLo) (by omega) G₁₆ (r'.less (by decide)) fun itl h₁₇ tk₁₇ st₁₇ hnitl hitl => ?_
  have F₁₇ := F₁₆.keeps st₁₇
  have G₁₇ := G₁₆.keeps st₁₇
  refine w_comp (List.range 10) (fun i v => ∃ t, v = .int (i : Int) t) (fun k => rowOf k (bitT told k)) (fun b y H => TupOf H b y) (fun b y H H' q k => q.keeps k) r'.handled ?_
  refine w_call ?_
  refine' w_bname G₁₇ ?hg rfl ?_
  case hg => k_is
  refine w_cwt ?_
  refine w_sp1 ?_
  refine w_int fun t tk' => ?_
  refine w_range fun rg h₁₈ tk₁₈ t1 t2 t3 st₁₈ hnrg hrg => ?_
  have F₁₈ := F₁₇.keeps st₁₈
  refine ⟨h₁₈, _, _, _, rfl, F₁₈.rd, feed_range hrg (by omega), by decide, ?_, ?_⟩
  · rintro C n a v h tk E' ha ⟨ta, rfl⟩ st' R'
    have ha10 : a < 10 := List.mem_range.mp ha
    have st'' := Stay.trans F₁₈.keep st'
    obtain ⟨c0, c1, hbk, hrk⟩ := beat_at a ha10 (bitT told a)
    have hbk' : (beatsT told)[a]? = some ⟨#[c0, c1]⟩ := by
      unfold beatsT; rw [List.getElem?_map, List.getElem?_range ha10]; exact congrArg some hbk
    obtain ⟨bv, hbv, tb, rfl⟩ := paired_arr hpb hbk'
    refine w_tuple ?_
    refine w_sp2 ?_
    refine w_ifexp ?_
    refine w_tcmp ?_
    refine w_binop ?_
    refine w_local R' set_eq ?_
    refine w_int fun t tk' => ?_
    refine w_mod (by decide) fun t tk' => ?_
    refine w_int fun t tk' => ?_
    refine w_eqi ?_
    refine w_truthy ?_
    refine ⟨fun ho => ?gc, fun ho => ?gd⟩
    case' gc =>
      have hrow : rowOf a (bitT told a) = (Txt.upper ⟨#[c0]⟩, ⟨#[c1]⟩) := by rw [hrk, if_pos (odd_of ho)]
      refine w_meth ?_
      refine w_sub ?_
      refine w_sub ?_
      refine w_cell R' (cm0_of set_eq) ?_
      refine w_local R' set_eq ?_
      refine w_ilist (isList_obj (st'' _ _ bB₁₅)) (by omega) (by omega) (by rw [Int.toNat_natCast]; exact hbv) ?_
      refine w_int fun t tk' => ?_
      refine w_istr (c := c0) (by decide) rfl fun t tk' => ?_
      intro pl
      refine w_gupper ?_
      refine w_cwb0 ?_
      refine w_upper (by show 1 ≤ 1000000; omega) fun t tk' => ?_
    case' gd =>
      have hrow : rowOf a (bitT told a) = (⟨#[c0]⟩, ⟨#[c1]⟩) := by rw [hrk, if_neg (even_of ho)]
      refine w_sub ?_
      refine w_sub ?_
      refine w_cell R' (cm0_of set_eq) ?_
      refine w_local R' set_eq ?_
      refine w_ilist (isList_obj (st'' _ _ bB₁₅)) (by omega) (by omega) (by rw [Int.toNat_natCast]; exact hbv) ?_
      refine w_int fun t tk' => ?_
      refine w_istr (c := c0) (by decide) rfl fun t tk' => ?_
    all_goals
      refine w_sub ?_
      refine w_sub ?_
      refine w_cell R' (cm0_of set_eq) ?_
      refine w_local R' set_eq ?_
      refine w_ilist (isList_obj (st'' _ _ bB₁₅)) (by omega) (by omega) (by rw [Int.toNat_natCast]; exact hbv) ?_
      refine w_int fun t tk' => ?_
      refine w_istr (c := c1) (by decide) rfl fun t tk' => ?_
      refine w_newtuple (by simp) fun tp hX stX hntp htp => ?_
      refine ⟨hX, _, rfl, stX, fun H _ hnew => ?_⟩
      rw [hrow]
      exact ⟨tp, _, _, rfl, hnew _ _ hntp htp⟩
  intro cl h₁₉ tk₁₉ ysc kc st₁₉ hncl hclo hpc
  refine nel_tups (xs := rowsT told) (isList_obj (st₁₉ _ _ (st₁₈ _ _ hitl))) (isList_obj hclo) (paired_mono (fun _ _ q => q.keeps (Stay.trans st₁₇ (Stay.trans st₁₈ st₁₉))) hpR) hpc OK.rowsok (by have := r'.units; show _ + 64 < 9900; omega) ?_
  refine w_truthy ?_
  refine ⟨fun e => (nomatch e), fun _ => ?_⟩
  refine w_nil ?_
  refine then_next ?_
  have F₁₉ := F₁₈.keeps st₁₉
  have G₁₉ := GB₁₅.keeps F₁₉.keep
  -- letters, ends, threes
  refine w_set ?_
  refine w_list ?_
  refine w_sp ?_
  refine w_str fun la tk' => ?_
  refine w_sp ?_
  refine w_str fun lb tk' => ?_
  refine w_sp ?_
  refine w_str fun lc tk' => ?_
  refine w_sp ?_
  refine w_str fun ld tk' => ?_
  refine w_sp ?_
  refine w_str fun le tk' => ?_
  refine w_sp0 ?_
  refine w_newlist (by simp only [List.length_cons, List.length_nil]; omega) fun ll h₂₀ st₂₀ hnll hllo => ?_
  obtain ⟨B₂₀, F₂₀, kB₂₀, new₂₀⟩ := F₁₉.new st₂₀
  have lB₂₀ := new₂₀ _ _ hnll hllo
  refine w_stl F₂₀ fun h₂₁ tk₂₁ F₂₁ _ => ?_
  refine w_set ?_
  refine w_list ?_
  refine w_sp ?_
  refine w_str fun ea tk' => ?_
  refine w_sp ?_
  refine w_str fun eb tk' => ?_
  refine w_sp ?_
  refine w_str fun ec tk' => ?_
  refine w_sp0 ?_
  refine w_newlist (by simp only [List.length_cons, List.length_nil]; omega) fun el h₂₂ st₂₂ hnel helo => ?_
  obtain ⟨B₂₂, F₂₂, kB₂₂, new₂₂⟩ := F₂₁.new st₂₂
  have eB₂₂ := new₂₂ _ _ hnel helo
  have lB₂₂ := kB₂₂ _ _ lB₂₀
  refine w_stl F₂₂ fun h₂₃ tk₂₃ F₂₃ _ => ?_
  refine w_set ?_
  refine w_int fun tz tk' => ?_
  refine w_stl F₂₃ fun h₂₄ tk₂₄ F₂₄ _ => ?_
  have k15 := Stay.trans kB₂₀ kB₂₂
  have GB₂₂ := GB₁₅.keeps k15
  have hpe : Paired StrIs endsL [Value.str (Str.ofString "\n") ea, .str (Str.ofString "\r") eb, .str (Str.ofString "\r\n") ec] := .cons ⟨_, rfl⟩ (.cons ⟨_, rfl⟩ (.cons ⟨_, rfl⟩ .nil))
  have hsum : 0 ≤ told.sum := List.sum_nonneg_of hbd
  have hrows1 : (rowsT told).length ≤ 1000 ∧ ∀ p ∈ rowsT told, p.1.length ≤ 10 := ⟨OK.rows.1, fun p hp => (OK.rows.2 p hp).1⟩
  -- the four rounds
  refine w_for (List.range 4) (fun i v => ∃ t, v = Value.int i t)
    (fun i B m cm N => N = [] ∧ cm "told" = some (.ref tl) ∧ cm "beats" = some (.ref bl) ∧ m "table" = some (.ref x) ∧ m "ends" = some (.ref el) ∧
      (∃ l ys k, m "letters" = some (.ref l) ∧ B.get? l = some (lobj ys k) ∧ Paired StrIs (letsS told i) ys.toList) ∧ (2 ≤ i → ∃ t, m "threes" = some (.int (homeS (rowsT told) (letsS told 2)) t))) r'.handled ?_
  refine w_call ?_
  refine' w_bname (GB₂₂.keeps F₂₄.keep) ?hg rfl ?_
  case hg => k_is
  refine w_cwt ?_
  refine w_sp1 ?_
  refine w_int fun t tk' => ?_
  refine w_range fun rg h₂₅ tk₂₅ t₁ u₁ v₁ st₂₅ hnr hr => ?_
  obtain ⟨B₂₅, F₂₅, kB₂₅, new₂₅⟩ := F₂₄.new st₂₅
  refine ⟨h₂₅, tk₂₅, _, _, _, _, rfl, feed_range (new₂₅ _ _ hnr hr) (by omega), F₂₅, ⟨rfl, ?_, ?_, ?_, ?_, ⟨ll, _, _, ?_, kB₂₅ _ _ lB₂₂, ?_⟩, fun h => by omega⟩, ?_, ?_⟩
  · exact set_ne (set_ne set_eq)
  · exact set_eq
  · exact set_ne (set_ne (set_ne set_eq))
  · exact set_ne set_eq
  · exact set_ne (set_ne set_eq)
  · exact .cons ⟨_, rfl⟩ (.cons ⟨_, rfl⟩ (.cons ⟨_, rfl⟩ (.cons ⟨_, rfl⟩ (.cons ⟨_, rfl⟩ .nil))))
  · rintro i a v B m cm N I oI h tk Qt E' ha ⟨ti, rfl⟩ hB F ⟨rfl, hmt, hmb, hmx, hme, ⟨l, ys, k, hml, hlB, hpl⟩, hmth⟩ hT
    have hil : a = i ∧ i < 4 := by
      have h1 := (List.getElem?_eq_some_iff.mp ha).1
      rw [List.length_range] at h1
      rw [List.getElem?_range h1] at ha
      cases ha; exact ⟨rfl, h1⟩
    obtain ⟨rfl, hil⟩ := hil
    have kBB := Stay.trans kB₂₅ hB
    have kB15 := Stay.trans k15 kBB
    have GH := (GB₂₂.keeps kBB).keeps F.keep
    have tBB := kB15 _ _ tB₁₅
    have eBB := kBB _ _ eB₂₂
    have TBB := TB.keeps kB15
    have RBB := RB.keeps kB15
    refine w_set ?_
    refine w_call ?_
    refine' w_glob GH ?hg ?_
    case hg => k_is
    refine' w_cwd GH ?h1 ?_
    case h1 => k_is
    refine w_sp3 ?_
    refine w_local F.rd (set_ne hmx) ?_
    refine w_local F.rd (set_ne hml) ?_
    refine w_sub ?_
    refine w_local F.rd (set_ne hme) ?_
    refine w_binop ?_
    refine w_binop ?_
    refine w_call ?_
    refine' w_bname GH ?hg rfl ?_
    case hg => k_is
    refine w_cwb ?_
    refine w_sp1 ?_
    refine w_cell F.rd hmt ?_
    refine w_sum r'.handled (isList_obj (F.keep _ _ tBB)) hpt fun t h₂₆ tk₂₆ st₂₆ => ?_
    have F₂₆ := F.keeps st₂₆
    refine w_local F₂₆.rd set_eq ?_
    refine w_add fun t tk' => ?_
    refine w_int fun t tk' => ?_
    refine w_mod (by decide) fun t tk' => ?_
    have hfm : (told.sum + (a : Int)).fmod 3 = (endAt told a : Nat) := by
      unfold endAt
      rw [Int.fmod_eq_emod_of_nonneg _ (by decide)]
      omega
    rw [hfm]
    have hlt3 : endAt told a < 3 := Nat.mod_lt _ (by decide)
    have heat : endsL[endAt told a]? = some (endS (endAt told a)) := by
      unfold endS
      rw [List.getD_eq_getElem?_getD, List.getElem?_eq_getElem (by exact hlt3)]; rfl
    obtain ⟨ev, hev, te, rfl⟩ := paired_arr (ys := #[Value.str (Str.ofString "\n") ea, .str (Str.ofString "\r") eb, .str (Str.ofString "\r\n") ec]) hpe heat
    refine w_ilist (isList_obj (F₂₆.keep _ _ eBB)) (by omega) (by omega) (by rw [Int.toNat_natCast]; exact hev) ?_
    have G₂₆ := GH.keeps st₂₆
    refine ⟨G₂₆.k, ?_⟩
    refine w_fn ?_
    have RD := OK.rnd a hil
    refine round_fn (TBB.keeps F₂₆.keep) (RBB.keeps F₂₆.keep) OK.rows (isList_obj (F₂₆.keep _ _ hlB)) hpl (end_len _) RD.sum RD.join RD.sent RD.parts RD.next G₂₆ (r'.less (by decide)) fun D h₂₇ tk₂₇ yn kn st₂₇ hnD hDo hpD => ?_
    obtain ⟨B₂₇, F₂₇, kB₂₇, new₂₇⟩ := F₂₆.new st₂₇
    have dB₂₇ := new₂₇ _ _ hnD hDo
    refine w_stl F₂₇ fun h₂₈ tk₂₈ F₂₈ _ => ?_
    refine w_if ?_
    refine w_tcmp ?_
    refine w_local F₂₈.rd (set_ne set_eq) ?_
    refine w_int fun t tk' => ?_
    refine w_eqi ?_
    refine w_truthy ?_
    refine ⟨fun hk1 => ?_, fun hk1 => ?_⟩
    · have ha1 : a = 1 := by have := eq_of_beq hk1; omega
      subst ha1
      have G₂₈ := ((GB₂₂.keeps kBB).keeps kB₂₇).keeps F₂₈.keep
      refine w_set ?_
      refine w_call ?_
      refine' w_glob G₂₈ ?hg ?_
      case hg => k_is
      refine' w_cwd G₂₈ ?h1 ?_
      case h1 => k_is
      refine w_sp2 ?_
      refine w_local F₂₈.rd (set_ne (set_ne hmx)) ?_
      refine w_local F₂₈.rd set_eq ?_
      refine ⟨G₂₈.k, ?_⟩
      refine w_fn ?_
      refine home_fn ((TBB.keeps kB₂₇).keeps F₂₈.keep) ((RBB.keeps kB₂₇).keeps F₂₈.keep) hrows1 (isList_obj (F₂₈.keep _ _ dB₂₇)) hpD OK.home2.len OK.home2.each G₂₈ (r'.less (by decide)) fun h₂₉ tk₂₉ t₂₉ st₂₉ => ?_
      have F₂₉ := F₂₈.keeps st₂₉
      refine w_stl F₂₉ fun h₃₀ tk₃₀ F₃₀ _ => ?_
      refine w_nil ?_
      refine then_next ?_
      refine w_nil ?_
      exact hT _ _ ⟨.inl rfl, B₂₇, _, _, _, _, _, rfl, kB₂₇, F₃₀, rfl, hmt, hmb, set_ne (set_ne (set_ne hmx)), set_ne (set_ne (set_ne hme)), ⟨D, _, _, set_ne set_eq, dB₂₇, hpD⟩, fun _ => ⟨_, set_eq⟩⟩
    · refine w_nil ?_
      refine then_next ?_
      refine w_nil ?_
      refine hT _ _ ⟨.inl rfl, B₂₇, _, _, _, _, _, rfl, kB₂₇, F₂₈, rfl, hmt, hmb, set_ne (set_ne hmx), set_ne (set_ne hme), ⟨D, _, _, set_eq, dB₂₇, hpD⟩, fun h2 => ?_⟩
      have hne : a ≠ 1 := by rintro rfl; cases hk1
      obtain ⟨t, e⟩ := hmth (by omega)
      exact ⟨t, set_ne (set_ne e)⟩
  rintro B m cm N h tk hB F ⟨rfl, hmt, hmb, hmx, hme, ⟨l, ys, k, hml, hlB, hpl⟩, hmth⟩
  have kB15 := Stay.trans k15 (Stay.trans kB₂₅ hB)
  have GB := GB₁₅.keeps kB15
  have GH := GB.keeps F.keep
  have tB := kB15 _ _ tB₁₅
  have bB := kB15 _ _ bB₁₅
  have TBB := TB.keeps kB15
  have RBB := RB.keeps kB15
  obtain ⟨tth, hmth⟩ := hmth (by decide)
  rw [show (List.range 4).length = 4 from rfl] at hpl
  -- fives
  refine w_set ?_
  refine w_call ?_
  refine' w_glob GH ?hg ?_
  case hg => k_is
  refine' w_cwd GH ?h1 ?_
  case h1 => k_is
  refine w_sp2 ?_
  refine w_local F.rd hmx ?_
  refine w_local F.rd hml ?_
  refine ⟨GH.k, ?_⟩
  refine w_fn ?_
  refine home_fn (TBB.keeps F.keep) (RBB.keeps F.keep) hrows1 (isList_obj (F.keep _ _ hlB)) hpl OK.home4.len OK.home4.each GH (r'.less (by decide)) fun h₂₉ tk₂₉ tfv st₂₉ => ?_
  have F₂₉ := F.keeps st₂₉
  refine w_stl F₂₉ fun h₃₀ tk₃₀ F₃₀ _ => ?_
  have G₃₀ := GB.keeps F₃₀.keep
  -- full
  have hnn : Str.ofString "\n" ++ Str.ofString "\n" = Str.ofString "\n\n" := by decide +kernel
  have LS := OK.last
  have LSsum := LS.sum
  have LSjoin := LS.join
  rw [hnn] at LSsum LSjoin
  refine w_set ?_
  refine w_meth ?_
  refine w_call ?_
  refine' w_glob G₃₀ ?hg ?_
  case hg => k_is
  refine' w_cwd G₃₀ ?h1 ?_
  case h1 => k_is
  refine w_sp1 ?_
  refine w_meth ?_
  refine w_str fun t tk' => ?_
  intro pl
  refine w_gjoin ?_
  refine w_cwb ?_
  refine w_sp1 ?_
  refine w_local F₃₀.rd (set_ne hml) ?_
  refine w_join (isList_obj (F₃₀.keep _ _ hlB)) hpl (by omega) fun t tk' => ?_
  refine ⟨G₃₀.k, ?_⟩
  refine w_fn ?_
  refine quotedata_fn LSjoin G₃₀ (r'.less (by decide)) fun h₃₁ t₃₁ tk₃₁ st₃₁ => ?_
  have F₃₁ := F₃₀.keeps st₃₁
  intro pl
  refine w_gsplit ?_
  refine w_cwb ?_
  refine w_sp1 ?_
  refine w_str fun t tk' => ?_
  have hse : (Str.mk (quote (Txt.join (Str.ofString "\n\n") (letsS told 4)).cps.toList).toArray) = sentS (Str.ofString "\n") (letsS told 4) := by unfold sentS; rw [hnn]
  rw [hse]
  refine w_split (by decide) LS.sent fun fl h₃₂ tk₃₂ fs st₃₂ hnfl hflo hpf => ?_
  change Paired StrIs (Txt.split (sentS (Str.ofString "\n") (letsS told 4)) sep4) fs.toList at hpf
  rw [OK.full] at hpf
  obtain ⟨B₃₂, F₃₂, kB₃₂, new₃₂⟩ := F₃₁.new st₃₂
  have fB₃₂ := new₃₂ _ _ hnfl hflo
  have tB₃₂ := kB₃₂ _ _ tB
  have bB₃₂ := kB₃₂ _ _ bB
  refine w_stl F₃₂ fun h₃₃ tk₃₃ F₃₃ _ => ?_
  have GB₃₂ := GB.keeps kB₃₂
  have G₃₃ := GB₃₂.keeps F₃₃.keep
  have hfs : fs.size = (ordS told).length := by rw [paired_size hpf, List.length_map]
  -- if full != ..
  refine w_if ?_
  refine w_tcmp ?_
  refine w_local F₃₃.rd set_eq ?_
  refine w_compo (ordS told) StrIs fullOf (fun b y _ => StrIs b y) (fun _ _ _ _ q _ => q) r'.handled ?_
  refine w_call ?_
  refine' w_glob G₃₃ ?hg ?_
  case hg => k_is
  refine' w_cwd G₃₃ ?h1 ?_
  case h1 => k_is
  refine w_sp1 ?_
  refine w_cell F₃₃.rd hmb ?_
  refine ⟨G₃₃.k, ?_⟩
  refine w_fn ?_
  refine orders_fn (isList_obj (F₃₃.keep _ _ bB₃₂)) hpb OK.small1 OK.small2 OK.small3 G₃₃ (r'.less (by decide)) fun ol h₃₄ tk₃₄ yso ko st₃₄ hnol holo hpo => ?_
  change Paired StrIs (ordS told) yso.toList at hpo
  have F₃₄ := F₃₃.keeps st₃₄
  have G₃₄ := G₃₃.keeps st₃₄
  refine ⟨h₃₄, _, _, _, rfl, F₃₄.rd, feed_list (isList_obj holo) hpo, by have := OK.small4.1; omega, ?_, ?_⟩
  · rintro C n a v h tk E' ha ⟨ta, rfl⟩ st' R'
    have GX := G₃₄.keeps st'
    have ha5 := OK.small4.2 a ha
    refine w_meth ?_
    refine w_str fun t tk' => ?_
    intro pl
    refine w_gjoin ?_
    refine w_cwb ?_
    refine w_sp1 ?_
    refine w_comp (List.range 5) (fun i v => ∃ t, v = .int (i : Int) t) (fun (i : Nat) => Txt.mul (Str.ofString ".") (6 - (i : Int)) ++ one (a.cps.getD i 0)) (fun b y _ => StrIs b y) (fun _ _ _ _ q _ => q) r'.handled ?_
    refine w_call ?_
    refine' w_bname GX ?hg rfl ?_
    case hg => k_is
    refine w_cwt ?_
    refine w_sp1 ?_
    refine w_int fun t tk' => ?_
    refine w_range fun rg h₃₅ tk₃₅ t1 t2 t3 st₃₅ hnrg hrg => ?_
    have R₃₅ := R'.keeps st₃₅
    refine ⟨h₃₅, _, _, _, rfl, R₃₅, feed_range hrg (by omega), by decide, ?_, ?_⟩
    · rintro C n b v h tk E' hb ⟨tb, rfl⟩ st'' R''
      have hb5 : b < 5 := List.mem_range.mp hb
      refine w_binop ?_
      refine w_binop ?_
      refine w_str fun t tk' => ?_
      refine w_binop ?_
      refine w_int fun t tk' => ?_
      refine w_local R'' set_eq ?_
      refine w_subi fun t tk' => ?_
      refine w_muls (by omega) (by omega) (by decide) fun t tk' => ?_
      refine w_sub ?_
      refine w_cell R'' (cm0_of set_eq) ?_
      refine w_local R'' set_eq ?_
      refine w_istr (c := a.cps.getD b 0) (by simp only [Bool.or_eq_false_iff, decide_eq_false_iff_not]; omega) (nth_at (by omega)) fun t tk' => ?_
      refine w_cat (by rw [mul_len hb5]; show 6 - b + 1 ≤ 1000000; omega) fun t tk' => ?_
      exact ⟨h, _, rfl, Stay.refl _, fun _ _ _ => ⟨_, rfl⟩⟩
    intro D h₃₆ tk₃₆ ysd kd st₃₆ hnD hDo hpD
    refine w_join (isList_obj hDo) hpD (full_fit a) fun t tk' => ?_
    exact ⟨h₃₆, _, rfl, Stay.trans st₃₅ st₃₆, fun _ _ _ => ⟨_, rfl⟩⟩
  intro D h₃₅ tk₃₅ ysd kd st₃₅ hnD hDo hpD
  have F₃₅ := F₃₄.keeps st₃₅
  refine nel_strs (isList_obj (F₃₅.keep _ _ fB₃₂)) (isList_obj hDo) hpf hpD OK.fullok (by have := r'.units; show _ + 64 < 9900; omega) ?_
  refine w_truthy ?_
  refine ⟨fun e => (nomatch e), fun _ => ?_⟩
  refine w_nil ?_
  refine then_next ?_
  -- won
  have G₃₅ := GB₃₂.keeps F₃₅.keep
  have bh₃₅ : h₃₅.get? bl = some (lobj ysb kb) := F₃₅.keep _ _ bB₃₂
  refine w_setcompo abc (fun c v => ∃ t, v = Value.str ⟨#[c]⟩ t) (fun c => (wonT told c : Int)) (fun b y _ => IntIs b y) (fun _ _ _ _ q _ => q) r'.handled ?_
  refine w_str fun t tk' => ?_
  refine ⟨h₃₅, _, _, _, _, _, rfl, F₃₅, feed_str (x := Str.ofString "abcde"), by decide, ?_, ?_⟩
  · rintro C n a v h tk E' ha ⟨ta, rfl⟩ st' R'
    have GX := G₃₅.keeps st'
    refine w_call ?_
    refine' w_bname GX ?hg rfl ?_
    case hg => k_is
    refine w_cwb ?_
    refine w_sp1 ?_
    refine w_compf (beatsT told) StrIs (fun x => one (x.cps.getD 0 0) == one a) (fun _ => (1 : Int)) (fun b y _ => IntIs b y) (fun _ _ _ _ q _ => q) r'.handled ?_
    refine w_cell R' (set_ne (cm0_of hmb)) ?_
    refine ⟨h, _, _, _, rfl, R', feed_list (isList_obj (st' _ _ bh₃₅)) hpb, by unfold beatsT; rw [List.length_map, List.length_range]; omega, ?_, ?_, ?_⟩
    · rintro C n y v h tk E' hy ⟨ty, rfl⟩ st'' R''
      have hy1 : 1 ≤ y.cps.size := by
        obtain ⟨k, hk, rfl⟩ := List.mem_map.mp hy
        obtain ⟨c0, c1, hbk, _⟩ := beat_at k (List.mem_range.mp hk) (bitT told k)
        rw [hbk]; exact Nat.le_add_left 1 1
      refine w_tcmp ?_
      refine w_sub ?_
      refine w_local R'' set_eq ?_
      refine w_int fun t tk' => ?_
      refine w_istr (c := y.cps.getD 0 0) (by decide) (first_at hy1) fun t tk' => ?_
      refine w_cell R'' (cm0_of set_eq) ?_
      refine w_eqs ?_
      exact w_truthy ⟨h, _, rfl, Stay.refl _, rfl⟩
    · rintro C n y v h tk E' hy _ _ st'' R''
      exact w_int fun t tk' => ⟨h, tk', rfl, Stay.refl _, fun _ _ _ => ⟨_, rfl⟩⟩
    intro D h' tk' ys k st'' hnD hD hpD
    have hsz : ys.size = wonT told a := by rw [paired_size hpD, List.length_map]; rfl
    refine w_len (isList_obj hD) (by have := OK.won a ha; omega) fun t tk' => ?_
    rw [hsz]
    exact ⟨h', _, rfl, st'', fun _ _ _ => ⟨_, rfl⟩⟩
  intro wl h₃₆ tk₃₆ ysw kw F₃₆ kp₃₆ hnwl hwlo ⟨_, hpw⟩
  have fr₃₆ := F₃₅.fresh hnwl
  obtain ⟨B₃₆, F₃₆', kB₃₆, wh₃₆⟩ := F₃₆.whole
  have wB₃₆ := wh₃₆ _ _ hwlo fr₃₆.1 fr₃₆.2.1 (fun _ hp => by cases hp)
  have tB₃₆ := kB₃₆ _ _ tB₃₂
  have GB₃₆ := GB₃₂.keeps kB₃₆
  have G₃₆ := GB₃₆.keeps F₃₆'.keep
  -- rings
  refine w_set ?_
  refine w_binop ?_
  refine w_int fun t tk' => ?_
  refine w_call ?_
  refine' w_bname G₃₆ ?hg rfl ?_
  case hg => k_is
  refine w_cwb ?_
  refine w_sp1 ?_
  refine w_comp (abc.map fun c => (wonT told c : Int)) IntIs (fun v => (v * (v - 1)).fdiv 2) (fun b y _ => IntIs b y) (fun _ _ _ _ q _ => q) r'.handled ?_
  refine w_local F₃₆'.rd set_eq ?_
  refine ⟨h₃₆, _, _, _, rfl, F₃₆'.rd, feed_list (isList_obj (F₃₆'.keep _ _ wB₃₆)) hpw, by rw [List.length_map]; decide, ?_, ?_⟩
  · rintro C n a v h tk E' ha ⟨ta, rfl⟩ st' R'
    have hb64 : Builtin.Int.intBits a ≤ 64 := by
      obtain ⟨c, hc, rfl⟩ := List.mem_map.mp ha
      have := OK.won c hc
      have key : ∀ n : Nat, n ≤ 10 → Builtin.Int.intBits (n : Int) ≤ 64 := by decide
      exact key _ this
    refine w_binop ?_
    refine w_binop ?_
    refine w_local R' set_eq ?_
    refine w_binop ?_
    refine w_local R' set_eq ?_
    refine w_int fun t tk' => ?_
    refine w_subi fun t tk' => ?_
    refine w_mul (IntMulOk.of_left hb64) fun t tk' => ?_
    refine w_int fun t tk' => ?_
    refine w_divs (by decide) (by decide) fun t tk' => ?_
    exact ⟨h, _, rfl, Stay.refl _, fun _ _ _ => ⟨_, rfl⟩⟩
  intro D h₃₇ tk₃₇ ysd kd st₃₇ hnD hDo hpD
  refine w_sum r'.handled (isList_obj hDo) hpD fun t h₃₈ tk₃₈ st₃₈ => ?_
  have F₃₈ := (F₃₆'.keeps st₃₇).keeps st₃₈
  refine w_subi fun trg tk' => ?_
  have hrings : (10 : Int) - ((abc.map fun c => (wonT told c : Int)).map fun v => (v * (v - 1)).fdiv 2).sum = ringsT told := by
    unfold ringsT; rw [List.map_map]; rfl
  rw [hrings]
  refine w_stl F₃₈ fun h₃₉ tk₃₉ F₃₉ _ => ?_
  have G₃₉ := GB₃₆.keeps F₃₉.keep
  -- if threes != 3 * rings or not _law_refused(..)
  refine w_if ?_
  refine w_tor2 ?_
  refine w_tcmp ?_
  refine w_local F₃₉.rd (set_ne (set_ne (set_ne (set_ne hmth)))) ?_
  refine w_binop ?_
  refine w_int fun t tk' => ?_
  refine w_local F₃₉.rd set_eq ?_
  refine w_mul (IntMulOk.of_left (by decide)) fun t tk' => ?_
  refine w_nei ?_
  rw [OK.threes, bne_self_eq_false]
  refine w_truthy ?_
  refine ⟨fun e => (nomatch e), fun _ => ?_⟩
  refine w_tnot ?_
  refine w_true ?_
  refine w_call ?_
  refine' w_glob G₃₉ ?hg ?_
  case hg => k_is
  refine' w_cwd G₃₉ ?h1 ?_
  case h1 => k_is
  refine w_sp2 ?_
  refine w_local F₃₉.rd (set_ne (set_ne (set_ne (set_ne hmx)))) ?_
  refine w_binop ?_
  refine w_call ?_
  refine' w_bname G₃₉ ?hg rfl ?_
  case hg => k_is
  refine w_cwb ?_
  refine w_sp1 ?_
  refine w_cell F₃₉.rd hmt ?_
  refine w_sum r'.handled (isList_obj (F₃₉.keep _ _ tB₃₆)) hpt fun t h₄₀ tk₄₀ st₄₀ => ?_
  have F₄₀ := F₃₉.keeps st₄₀
  refine w_int fun t tk' => ?_
  refine w_mod (by decide) fun t tk' => ?_
  have hm33 : told.sum.fmod 33 = ((told.sum.fmod 33).toNat : Int) ∧ (told.sum.fmod 33).toNat < 33 := by
    rw [Int.fmod_eq_emod_of_nonneg _ (by decide)]
    omega
  rw [hm33.1]
  have G₄₀ := G₃₉.keeps st₄₀
  refine ⟨G₄₀.k, ?_⟩
  refine w_fn ?_
  have TX := ((TBB.keeps kB₃₂).keeps kB₃₆).keeps F₄₀.keep
  have hpB : hp.StaysIn B₃₆ := Stay.trans kB₂ (Stay.trans kB₅ (Stay.trans kB₁₀ (Stay.trans kB₁₃ (Stay.trans kB₁₅ (Stay.trans kB15 (Stay.trans kB₃₂ kB₃₆))))))
  refine refused_fn TX hm33.2 G₄₀ (r'.less (by decide)) (outer := [_]) (P0 := hp) (by rw [hA₉]; show A.frames.map _ = _; rw [hfr]; rfl) ?ff G (Stay.trans hpB F₄₀.keep) fun h₄₁ tk₄₁ hbut hup => ?_
  case ff => exact Heap.FunFrames.cons (fun q => by cases q) rfl F₄₀.rd.ns hL trivial
  have F₄₁ := F₄₀.shaken rfl hbut hup
  have G₄₁ := GB₃₆.keeps F₄₁.keep
  refine w_truthy ?_
  refine ⟨fun e => (nomatch e), fun _ => ?_⟩
  refine w_nil ?_
  refine then_next ?_
  -- the end
  refine w_ret ?_
  refine w_cmp ?_
  refine w_binop ?_
  refine w_int fun t tk' => ?_
  refine w_binop ?_
  refine w_binop ?_
  refine w_call ?_
  refine' w_bname G₄₁ ?hg rfl ?_
  case hg => k_is
  refine w_cwb ?_
  refine w_sp1 ?_
  refine w_local F₄₁.rd (set_ne (set_ne set_eq)) ?_
  refine w_len (isList_obj (F₄₁.keep _ _ (kB₃₆ _ _ fB₃₂))) (by have := OK.small4.1; omega) fun t tk' => ?_
  refine w_int fun t tk' => ?_
  refine w_subi fun t tk' => ?_
  refine w_binop ?_
  refine w_int fun t tk' => ?_
  refine w_local F₄₁.rd set_eq ?_
  refine w_mul (IntMulOk.of_left (by decide)) fun t tk' => ?_
  refine w_subi fun t tk' => ?_
  refine w_mul (IntMulOk.of_left (by decide)) fun t tk' => ?_
  refine w_binop ?_
  refine w_int fun t tk' => ?_
  refine w_local F₄₁.rd (set_ne (set_ne (set_ne set_eq))) ?_
  refine w_mul (IntMulOk.of_left (by decide)) fun t tk' => ?_
  refine w_eqi ?_
  have e5 := OK.fives
  unfold homeS at e5
  rw [hfs, e5, beq_self_eq_true]
  exact hQ₉ _ _ (hR h₄₁ _ (Stay.trans hpB F₄₁.keep))
end
end Mine
end
section
-- part PN
open PySem PySem.W PyProof.Rows PySem.StrLaws
set_option Elab.async false
set_option maxRecDepth 100000
set_option maxHeartbeats 4000000
set_option linter.unusedVariables false
namespace Mine
/-- a letter that was sent -/
def SN : List Nat → List Nat
  | [] => []
  | [p] => [46, 46, p]
  | p :: q :: r => List.replicate (r.length + 3) 46 ++ (p :: 13 :: 10 :: SN (q :: r))
/-- a letter not yet sent, its last row just put behind the end e -/
def UN (e : List Nat) : List Nat → List Nat
  | [] => []
  | [p] => [46, p]
  | p :: q :: r => List.replicate (r.length + 2) 46 ++ (p :: ((if r.isEmpty then e else [13, 10]) ++ UN e (q :: r)))
theorem SN_UN (e : List Nat) (x : Nat) : ∀ l : List Nat, l ≠ [] → SN l ++ e ++ [46, x] = UN e (l ++ [x])
  | [], h => absurd rfl h
  | [p], _ => by simp [SN, UN]
  | p :: q :: r, _ => by
    have ih := SN_UN e x (q :: r) (by simp)
    have e1 : UN e (p :: q :: r ++ [x]) = List.replicate ((r ++ [x]).length + 2) 46 ++ (p :: ((if (r ++ [x]).isEmpty then e else [13, 10]) ++ UN e (q :: (r ++ [x])))) := rfl
    have e2 : (r ++ [x]).isEmpty = false := by simp
    rw [e1, e2, show q :: (r ++ [x]) = (q :: r) ++ [x] from rfl, ← ih]
    simp [SN]
def joinN (sep : List Nat) : List (List Nat) → List Nat
  | [] => []
  | [x] => x
  | x :: y :: r => x ++ sep ++ joinN sep (y :: r)
def Pl (p : Nat) : Prop := 97 ≤ p ∧ p ≤ 101
def IsEnd (e : List Nat) : Prop := e = [10] ∨ e = [13] ∨ e = [13, 10]
theorem nl_pl {p : Nat} (h : Pl p) : nl p = false := by
  unfold nl; simp only [Bool.or_eq_false_iff, beq_eq_false_iff_ne]; have := h.1; omega
theorem crlf_dots (z : List Nat) : ∀ n, crlf (List.replicate n 46 ++ z) = List.replicate n 46 ++ crlf z
  | 0 => rfl
  | n + 1 => by rw [List.replicate_succ, List.cons_append, crlf_plain (by decide), crlf_dots z n]; rfl
theorem crlf_end {e z : List Nat} (he : IsEnd e) (h : ∀ r, z ≠ 10 :: r) : crlf (e ++ z) = 13 :: 10 :: crlf z := by
  rcases he with rfl | rfl | rfl
  · exact crlf_one (by decide) (fun h => absurd h.1 (by decide))
  · exact crlf_one (by decide) (fun ⟨_, r, e⟩ => h r e)
  · exact crlf_two z
theorem dots_off (z : List Nat) : ∀ n, dots false (List.replicate n 46 ++ z) = List.replicate n 46 ++ dots false z
  | 0 => rfl
  | n + 1 => by
    rw [List.replicate_succ, List.cons_append]
    show 46 :: dots false (List.replicate n 46 ++ z) = _
    rw [dots_off z n]; rfl
theorem dots_on (z : List Nat) (n : Nat) : dots true (List.replicate (n + 1) 46 ++ z) = List.replicate (n + 2) 46 ++ dots false z := by
  rw [List.replicate_succ, List.cons_append]
  show 46 :: 46 :: dots false (List.replicate n 46 ++ z) = _
  rw [dots_off z n]; rfl
theorem dots_pl {p : Nat} (h : Pl p) (z : List Nat) : dots false (p :: z) = p :: dots false z := by
  rw [dots]
  have : (p == 10) = false := beq_eq_false_iff_ne.mpr (by have := h.1; omega)
  rw [this]; rfl
theorem dots_nl (b : Bool) (z : List Nat) : dots b (13 :: 10 :: z) = 13 :: 10 :: dots true z := by
  cases b <;> rfl
theorem UN_head (e : List Nat) : ∀ l : List Nat, l ≠ [] → ∃ t, UN e l = 46 :: t
  | [], h => absurd rfl h
  | [p], _ => ⟨_, rfl⟩
  | p :: q :: r, _ => ⟨_, by rw [UN, List.replicate_succ, List.cons_append]⟩
theorem SN_head : ∀ l : List Nat, l ≠ [] → ∃ t, SN l = 46 :: t
  | [], h => absurd rfl h
  | [p], _ => ⟨_, rfl⟩
  | p :: q :: r, _ => ⟨_, by rw [SN, List.replicate_succ, List.cons_append]⟩
theorem quote_UN {e : List Nat} (he : IsEnd e) (z : List Nat) : ∀ l : List Nat, l ≠ [] → (∀ p ∈ l, Pl p) → dots true (crlf (UN e l ++ z)) = SN l ++ dots false (crlf z)
  | [], h, _ => absurd rfl h
  | [p], _, hp => by
    have h := hp p (.head _)
    show dots true (crlf (46 :: p :: z)) = 46 :: 46 :: p :: dots false (crlf z)
    rw [crlf_plain (by decide), crlf_plain (nl_pl h)]
    show 46 :: 46 :: dots false (p :: crlf z) = _
    rw [dots_pl h]
  | p :: q :: r, _, hp => by
    have h := hp p (.head _)
    have ih := quote_UN he z (q :: r) (by simp) fun y hy => hp y (.tail _ hy)
    obtain ⟨t, ht⟩ := UN_head e (q :: r) (by simp)
    have hE : IsEnd (if r.isEmpty then e else [13, 10]) := by
      split
      · exact he
      · exact .inr (.inr rfl)
    rw [UN, List.append_assoc, List.cons_append, List.append_assoc, crlf_dots, crlf_plain (nl_pl h), crlf_end hE (by rw [ht]; intro _ q; cases q), dots_on, dots_pl h, dots_nl, ih, SN]
    simp
theorem quote_join {e e' : List Nat} (he : IsEnd e) (he' : IsEnd e') : ∀ ls : List (List Nat), (∀ l ∈ ls, l ≠ [] ∧ ∀ p ∈ l, Pl p) → dots true (crlf (joinN (e' ++ e') (ls.map (UN e)))) = joinN [13, 10, 13, 10] (ls.map SN)
  | [], _ => rfl
  | [l], h => by
    have hl := h l (.head _)
    have := quote_UN he [] l hl.1 hl.2
    rw [List.append_nil] at this
    show dots true (crlf (UN e l)) = SN l
    rw [this]
    show SN l ++ [] = SN l
    exact List.append_nil _
  | l :: m :: r, h => by
    have hl := h l (.head _)
    have hm := h m (.tail _ (.head _))
    have ih := quote_join he he' (m :: r) fun y hy => h y (.tail _ hy)
    obtain ⟨t, ht⟩ : ∃ t, joinN (e' ++ e') ((m :: r).map (UN e)) = 46 :: t := by
      obtain ⟨t, ht⟩ := UN_head e m hm.1
      cases r with
      | nil => exact ⟨t, ht⟩
      | cons n r => exact ⟨_, by show UN e m ++ (e' ++ e') ++ _ = _; rw [ht]; rfl⟩
    have hz : crlf (e' ++ (e' ++ joinN (e' ++ e') ((m :: r).map (UN e)))) = 13 :: 10 :: 13 :: 10 :: crlf (joinN (e' ++ e') ((m :: r).map (UN e))) := by
      rcases he' with rfl | rfl | rfl
      · rw [← crlf_end (z := joinN _ _) (e := [10]) (.inl rfl) (by rw [ht]; intro _ q; cases q)]
        exact crlf_one (by decide) (fun h => absurd h.1 (by decide))
      · rw [crlf_end (.inr (.inl rfl)) (by intro _ q; cases q), crlf_end (.inr (.inl rfl)) (by rw [ht]; intro _ q; cases q)]
      · exact (crlf_two _).trans (congrArg (fun z => 13 :: 10 :: z) (crlf_two _))
    show dots true (crlf (UN e l ++ (e' ++ e') ++ joinN (e' ++ e') ((m :: r).map (UN e)))) = SN l ++ [13, 10, 13, 10] ++ joinN [13, 10, 13, 10] ((m :: r).map SN)
    rw [List.append_assoc, List.append_assoc, quote_UN he _ l hl.1 hl.2, hz, dots_nl, dots_nl, ih]
    simp
/-- no parting sign begins within p, whatever follows -/
def Cl : List Nat → List Nat → Prop
  | [], _ => True
  | c :: r, z => (c :: (r ++ z)).take 4 ≠ [13, 10, 13, 10] ∧ Cl r z
theorem cl_dots {z w : List Nat} : ∀ n, Cl z w → Cl (List.replicate n 46 ++ z) w
  | 0, h => h
  | n + 1, h => by
    rw [List.replicate_succ, List.cons_append]
    refine ⟨fun e => ?_, cl_dots n h⟩
    rw [List.take_succ_cons] at e
    exact absurd (List.cons.inj e).1 (by decide)
theorem cl_SN (w : List Nat) : ∀ l : List Nat, (∀ p ∈ l, Pl p) → Cl (SN l) w
  | [], _ => trivial
  | [p], h => by
    have hp := (h p (.head _)).1
    refine ⟨fun e => ?_, fun e => ?_, fun e => ?_, trivial⟩ <;> rw [List.take_succ_cons] at e <;> have := (List.cons.inj e).1 <;> omega
  | p :: q :: r, h => by
    have hp := (h p (.head _)).1
    have ih := cl_SN w (q :: r) fun y hy => h y (.tail _ hy)
    obtain ⟨t, ht⟩ := SN_head (q :: r) (by simp)
    rw [SN]
    refine cl_dots _ ⟨fun e => ?_, fun e => ?_, fun e => ?_, ih⟩
    · rw [List.take_succ_cons] at e; have := (List.cons.inj e).1; omega
    · rw [ht] at e
      simp only [List.cons_append, List.take_succ_cons] at e
      have := (List.cons.inj (List.cons.inj (List.cons.inj e).2).2).1; omega
    · rw [List.take_succ_cons] at e; have := (List.cons.inj e).1; omega
theorem cl_at : ∀ (p z : List Nat), Cl p z → ∀ i, i < p.length → ((p ++ z).drop i).take 4 ≠ [13, 10, 13, 10]
  | [], _, _, i, hi => absurd hi (Nat.not_lt_zero _)
  | c :: r, z, h, 0, _ => h.1
  | c :: r, z, h, i + 1, hi => by
    rw [List.cons_append, List.drop_succ_cons]
    exact cl_at r z h.2 i (by simpa using hi)
end Mine
end
section
-- part PC
open PySem PySem.W PyProof.Rows PySem.StrLaws PySem.Builtin.Str
set_option Elab.async false
set_option maxRecDepth 100000
set_option maxHeartbeats 4000000
set_option linter.unusedVariables false
namespace Mine
def sN (l : List Nat) : Str := ⟨l.toArray⟩
theorem sN_list (l : List Nat) : (sN l).cps.toList = l := rfl
theorem sN_len (l : List Nat) : (sN l).length = l.length := by show l.toArray.size = _; simp
theorem sN_eq {x : Str} {l : List Nat} (h : x.cps.toList = l) : x = sN l := by
  apply Str.ext'; apply Array.toList_inj.mp; rw [h]; rfl
theorem sN_inj {a b : List Nat} (h : sN a = sN b) : a = b := by
  have := congrArg (fun x : Str => x.cps.toList) h; exact this
theorem sN_app (a b : List Nat) : sN a ++ sN b = sN (a ++ b) := sN_eq (by rw [Str.cps_append, Array.toList_append]; rfl)
theorem join_sN (sep : List Nat) : ∀ ls : List (List Nat), Txt.join (sN sep) (ls.map sN) = sN (joinN sep ls) := fun ls => by
  unfold Txt.join
  rw [glued_eq_join]
  induction ls with
  | nil => rfl
  | cons x r ih =>
    cases r with
    | nil => rfl
    | cons y r =>
      show sN x ++ sN sep ++ Str.join (sN sep) (sN y :: r.map sN) = _
      have : Str.join (sN sep) (sN y :: r.map sN) = sN (joinN sep (y :: r)) := ih
      rw [this, sN_app, sN_app]; rfl
theorem sep4_eq : sep4 = sN [13, 10, 13, 10] := by decide +kernel
theorem at_iff {x : Str} {i : Nat} : At x sep4 x.length i ↔ (x.cps.toList.drop i).take 4 = [13, 10, 13, 10] := by
  have h4 : sep4.length = 4 := by decide
  unfold At
  rw [subAt_eq, h4]
  constructor
  · rintro ⟨_, h⟩
    have := eq_of_beq h
    rw [this]; rw [sep4_eq]; rfl
  · intro h
    refine ⟨?_, ?_⟩
    · have := congrArg List.length h
      simp at this
      show i + 4 ≤ x.cps.size
      omega
    · rw [h, sep4_eq]; exact beq_self_eq_true _
theorem parts_of (x : Str) : ∀ (ps : List (List Nat)) (cuts : List Nat) (a f : Nat), ps ≠ [] → (∀ p ∈ ps, ∀ w, Cl p w) → x.cps.toList.drop a = joinN [13, 10, 13, 10] ps → a ≤ x.length →
    ChainG x sep4 x.length a cuts f → (∀ k, f ≤ k → ¬ At x sep4 x.length k) → partsFrom x sep4.length a cuts = ps.map sN
  | [], _, _, _, h, _, _, _, _, _ => absurd rfl h
  | [p], cuts, a, f, _, hcl, hd, ha, hG, hn => by
    have hd' : x.cps.toList.drop a = p := hd
    have no : ∀ k, a ≤ k → ¬ At x sep4 x.length k := fun k hk hA => by
      have h1 := at_iff.mp hA
      have e : x.cps.toList.drop k = p.drop (k - a) := by rw [← hd', List.drop_drop]; congr 1; omega
      rw [e] at h1
      have h2 := cl_at p [] (hcl p (.head _) []) (k - a) (by
        have := congrArg List.length h1
        simp at this; omega)
      rw [List.append_nil] at h2
      exact h2 h1
    cases cuts with
    | cons c r => exact absurd hG.2.1 (no c hG.1)
    | nil =>
      show [strSub x a x.length] = [sN p]
      congr 1
      refine sN_eq ?_
      rw [strSub_toList, hd']
      refine List.take_of_length_le ?_
      rw [← hd', List.length_drop]
      exact Nat.le_refl _
  | p :: q :: r, cuts, a, f, _, hcl, hd, ha, hG, hn => by
    have hd' : x.cps.toList.drop a = p ++ ([13, 10, 13, 10] ++ joinN [13, 10, 13, 10] (q :: r)) := hd.trans (List.append_assoc ..)
    have h4 : sep4.length = 4 := by decide
    have hat : At x sep4 x.length (a + p.length) := at_iff.mpr (by
      rw [← List.drop_drop, hd', List.drop_left]; rfl)
    have no : ∀ k, a ≤ k → k < a + p.length → ¬ At x sep4 x.length k := fun k hk hk' hA => by
      have h1 := at_iff.mp hA
      have e : x.cps.toList.drop k = (p ++ ([13, 10, 13, 10] ++ joinN [13, 10, 13, 10] (q :: r))).drop (k - a) := by rw [← hd', List.drop_drop]; congr 1; omega
      rw [e] at h1
      exact cl_at p _ (hcl p (.head _) _) (k - a) (by omega) h1
    cases cuts with
    | nil =>
      have e : f = a := hG
      exact absurd hat (hn _ (by omega))
    | cons c cs =>
      obtain ⟨h1, h2, h3, h5⟩ := hG
      have hc : c = a + p.length := by
        by_cases q1 : c < a + p.length
        · exact absurd h2 (no c h1 q1)
        · by_cases q2 : c = a + p.length
          · exact q2
          · exact absurd hat (h3 _ (by omega) (by omega))
      subst hc
      rw [h4] at h5
      have hb := h2.1
      rw [h4] at hb
      have ih := parts_of x (q :: r) cs (a + p.length + 4) f (by simp) (fun y hy => hcl y (.tail _ hy)) (by
        rw [show a + p.length + 4 = a + (p.length + 4) by omega, ← List.drop_drop, hd', ← List.drop_drop, List.drop_left]; rfl) hb h5 hn
      show strSub x a (a + p.length) :: partsFrom x sep4.length (a + p.length + sep4.length) cs = sN p :: (q :: r).map sN
      rw [h4] at ih ⊢
      rw [ih]
      congr 1
      refine sN_eq ?_
      rw [strSub_toList, hd', Nat.add_sub_cancel_left]
      exact List.take_left
theorem split_join {ps : List (List Nat)} (h : ps ≠ []) (hcl : ∀ p ∈ ps, ∀ w, Cl p w) : Txt.split (sN (joinN [13, 10, 13, 10] ps)) sep4 = ps.map sN := by
  obtain ⟨f, hG, hn⟩ := occ_tight (sN (joinN [13, 10, 13, 10] ps)) sep4 (by decide)
  have key := parts_of (sN (joinN [13, 10, 13, 10] ps)) ps _ 0 f h hcl (by rw [List.drop_zero]; rfl) (Nat.zero_le _) hG hn
  unfold Txt.split
  split
  · rename_i hc
    have hlt : (sN (joinN [13, 10, 13, 10] ps)).length < sep4.length := by
      rw [Bool.or_eq_true, decide_eq_true_eq, decide_eq_true_eq] at hc
      rcases hc with hc | hc
      · exact hc
      · exfalso
        have h1 : Builtin.Str.strKind sep4 = 1 := by decide +kernel
        rw [h1] at hc
        unfold Builtin.Str.strKind at hc
        split at hc
        · omega
        · split at hc <;> omega
    match ps, h with
    | [p], _ => rfl
    | p :: q :: r, _ =>
      exfalso
      rw [sN_len] at hlt
      have : sep4.length = 4 := by decide
      rw [this] at hlt
      simp [joinN] at hlt
      omega
  · split
    · rename_i he
      have e0 := List.isEmpty_iff.mp he
      rw [e0] at key
      rw [← key]
      show _ = [strSub _ 0 _]
      rw [sub_whole]
    · rw [partsBetween_eq]; exact key
end Mine
end
section
-- part PB
open PySem PySem.W
set_option Elab.async false
set_option maxRecDepth 100000
set_option maxHeartbeats 4000000
set_option linter.unusedVariables false
namespace Mine
noncomputable section
def iff' {α : Type} (b : Bool) (x y : α) : α := @Bool.rec (fun _ => α) y x b
abbrev Gm := Nat × Nat
def winsN (B : List Gm) (c : Nat) : List Nat := @List.rec Gm (fun _ => List Nat) [] (fun q _ ih => @Bool.rec (fun _ => List Nat) ih (q.2 :: ih) (Nat.beq q.1 c)) B
def pickN (B : List Gm) (c : Nat) : List Nat :=
  @Bool.rec (fun _ => List Nat) (@Bool.rec (fun _ => List Nat) (@Bool.rec (fun _ => List Nat) (@Bool.rec (fun _ => List Nat) (@Bool.rec (fun _ => List Nat) (winsN B c) (winsN B 101) (Nat.beq c 101)) (winsN B 100) (Nat.beq c 100)) (winsN B 99) (Nat.beq c 99)) (winsN B 98) (Nat.beq c 98)) (winsN B 97) (Nat.beq c 97)
def hasN (r : Nat) (l : List Nat) : Bool := @List.rec Nat (fun _ => Bool) false (fun a _ ih => @Bool.rec (fun _ => Bool) ih true (Nat.beq a r)) l
def sumG (h : Nat → Nat) (l : List Nat) (ws : List Nat) : Nat := @List.rec Nat (fun _ => Nat) 0 (fun r _ ih => @Bool.rec (fun _ => Nat) (Nat.add (h r) ih) ih (hasN r l)) ws
def headN (l : List Nat) : Nat := @List.rec Nat (fun _ => Nat) 0 (fun a _ _ => a) l
def goN (B : List Gm) (f : List Nat → Nat) (k : Nat) : List Nat → Nat :=
  @Nat.rec (fun _ => List Nat → Nat) f (fun _ ih l => sumG (fun r => ih (r :: l)) l (pickN B (headN l))) k
def cntN (B : List Gm) (k : Nat) (s : Nat) : Nat := goN B (fun _ => 1) k [s]
def hmN (B : List Gm) (k : Nat) (s : Nat) : Nat := goN B (fun l => @Bool.rec (fun _ => Nat) 0 1 (hasN s (pickN B (headN l)))) k [s]
def over (f : Nat → Nat) : Nat := Nat.add (f 97) (Nat.add (f 98) (Nat.add (f 99) (Nat.add (f 100) (f 101))))
def lenN (l : List Nat) : Nat := @List.rec Nat (fun _ => Nat) 0 (fun _ _ ih => Nat.succ ih) l
def tri (w : Nat) : Nat := Nat.div (Nat.mul w (Nat.sub w 1)) 2
def triN (B : List Gm) : Nat := over fun c => tri (lenN (winsN B c))
def eqN (x : List Nat) : List Nat → Bool := @List.rec Nat (fun _ => List Nat → Bool) (fun y => @List.rec Nat (fun _ => Bool) true (fun _ _ _ => false) y)
  (fun a _ ih y => @List.rec Nat (fun _ => Bool) false (fun b t _ => @Bool.rec (fun _ => Bool) false (ih t) (Nat.beq a b)) y) x
def anyN (c q : Nat) (B : List Gm) : Bool := @List.rec Gm (fun _ => Bool) false (fun p _ ih => @Bool.rec (fun _ => Bool) ih (@Bool.rec (fun _ => Bool) ih true (Nat.beq p.2 q)) (Nat.beq p.1 c)) B
def pickA (B : List Gm) (c : Nat) (l : List Nat) : List Nat := @List.rec Nat (fun _ => List Nat) [] (fun q _ ih => @Bool.rec (fun _ => List Nat) ih (q :: ih) (anyN c q B)) l
def andB (x y : Bool) : Bool := @Bool.rec (fun _ => Bool) false y x
def allN (f : Nat → Bool) : Bool := andB (f 97) (andB (f 98) (andB (f 99) (andB (f 100) (f 101))))
def ckW (B : List Gm) : Bool := allN fun c => andB (eqN (winsN B c) (pickA B c [97, 98, 99, 100, 101])) (@Bool.rec (fun _ => Bool) true false (hasN c (winsN B c)))
def ckC (B : List Gm) : Bool := andB (Nat.beq (Nat.add (over (hmN B 2)) (Nat.mul 3 (triN B))) 30) (Nat.beq (Nat.add (Nat.mul 5 (over (cntN B 4))) (Nat.mul 10 (triN B))) (Nat.add (Nat.mul 2 (over (hmN B 4))) 105))
def allG (f : List Gm → Bool) (gs : List Gm) : List Gm → Bool :=
  @List.rec Gm (fun _ => List Gm → Bool) f (fun g _ ih B => andB (ih (g :: B)) (ih ((g.2, g.1) :: B))) gs
def gamesR : List Gm := [(100, 101), (99, 101), (99, 100), (98, 101), (98, 100), (98, 99), (97, 101), (97, 100), (97, 99), (97, 98)]
theorem all_ckW : allG ckW gamesR [] = true := by decide +kernel
theorem all_ckC : allG ckC gamesR [] = true := by decide +kernel
end
end Mine
end
section
-- part PB2
open PySem PySem.W
set_option Elab.async false
set_option maxRecDepth 100000
set_option maxHeartbeats 4000000
set_option linter.unusedVariables false
namespace Mine
noncomputable section
def pairN (g : Gm) (b : Bool) : Gm := @Bool.rec (fun _ => Gm) (g.2, g.1) g b
def gamesN : List Gm := [(97, 98), (97, 99), (97, 100), (97, 101), (98, 99), (98, 100), (98, 101), (99, 100), (99, 101), (100, 101)]
def beatsN (bt : Nat → Bool) : List Gm := [pairN (97, 98) (bt 0), pairN (97, 99) (bt 1), pairN (97, 100) (bt 2), pairN (97, 101) (bt 3), pairN (98, 99) (bt 4), pairN (98, 100) (bt 5), pairN (98, 101) (bt 6), pairN (99, 100) (bt 7), pairN (99, 101) (bt 8), pairN (100, 101) (bt 9)]
theorem andB_true {x y : Bool} (h : andB x y = true) : x = true ∧ y = true := by cases x <;> cases y <;> first | exact ⟨rfl, rfl⟩ | cases h
theorem allG_step {f : List Gm → Bool} {g : Gm} {gs B : List Gm} (h : allG f (g :: gs) B = true) (b : Bool) : allG f gs (pairN g b :: B) = true := by
  have h' : andB (allG f gs (g :: B)) (allG f gs ((g.2, g.1) :: B)) = true := h
  cases b
  · exact (andB_true h').2
  · exact (andB_true h').1
theorem allG_at {f : List Gm → Bool} (h : allG f gamesR [] = true) (bt : Nat → Bool) : f (beatsN bt) = true :=
  allG_step (allG_step (allG_step (allG_step (allG_step (allG_step (allG_step (allG_step (allG_step (allG_step h (bt 9)) (bt 8)) (bt 7)) (bt 6)) (bt 5)) (bt 4)) (bt 3)) (bt 2)) (bt 1)) (bt 0)
theorem winsN_cons (q : Gm) (t : List Gm) (c : Nat) : winsN (q :: t) c = if q.1 == c then q.2 :: winsN t c else winsN t c := by
  show @Bool.rec (fun _ => List Nat) (winsN t c) (q.2 :: winsN t c) (Nat.beq q.1 c) = _
  cases h : Nat.beq q.1 c with
  | true => rw [if_pos (by rw [beq_iff_eq]; exact Nat.eq_of_beq_eq_true h)]
  | false => rw [if_neg (by rw [beq_iff_eq]; exact Nat.ne_of_beq_eq_false h)]
theorem winsN_eq (B : List Gm) (c : Nat) : winsN B c = (B.filter fun q => q.1 == c).map (·.2) := by
  induction B with
  | nil => rfl
  | cons q t ih =>
    rw [winsN_cons, List.filter_cons, ih]
    split <;> rfl
theorem pickN_eq (B : List Gm) (c : Nat) : pickN B c = winsN B c := by
  unfold pickN
  cases h1 : Nat.beq c 97 with
  | true => rw [Nat.eq_of_beq_eq_true h1]
  | false =>
  cases h2 : Nat.beq c 98 with
  | true => rw [Nat.eq_of_beq_eq_true h2]
  | false =>
  cases h3 : Nat.beq c 99 with
  | true => rw [Nat.eq_of_beq_eq_true h3]
  | false =>
  cases h4 : Nat.beq c 100 with
  | true => rw [Nat.eq_of_beq_eq_true h4]
  | false =>
  cases h5 : Nat.beq c 101 with
  | true => rw [Nat.eq_of_beq_eq_true h5]
  | false => rfl
theorem hasN_eq (r : Nat) (l : List Nat) : hasN r l = decide (r ∈ l) := by
  induction l with
  | nil => simp [hasN]
  | cons a t ih =>
    show @Bool.rec (fun _ => Bool) (hasN r t) true (Nat.beq a r) = _
    cases h : Nat.beq a r with
    | true => have := Nat.eq_of_beq_eq_true h; subst this; simp
    | false =>
      have := Nat.ne_of_beq_eq_false h
      show hasN r t = _
      rw [ih]
      simp [Ne.symm this]
theorem sumG_eq (h : Nat → Nat) (l ws : List Nat) : sumG h l ws = ((ws.filter fun r => !decide (r ∈ l)).map h).sum := by
  induction ws with
  | nil => rfl
  | cons r t ih =>
    show @Bool.rec (fun _ => Nat) (Nat.add (h r) (sumG h l t)) (sumG h l t) (hasN r l) = _
    rw [hasN_eq, List.filter_cons]
    cases q : decide (r ∈ l) with
    | true => rw [if_neg (by simp)]; exact ih
    | false => rw [if_pos (by simp), List.map_cons, List.sum_cons, ← ih]; rfl
def lastN (l : List Nat) : Nat := headN l.reverse
theorem lastN_snoc (l : List Nat) (x : Nat) : lastN (l ++ [x]) = x := by unfold lastN; rw [List.reverse_append]; rfl
theorem lastN_mem : ∀ l : List Nat, l ≠ [] → lastN l ∈ l := fun l h => by
  unfold lastN
  cases e : l.reverse with
  | nil => exact absurd (List.reverse_eq_nil_iff.mp e) h
  | cons a t =>
    show a ∈ l
    have : a ∈ l.reverse := by rw [e]; exact .head _
    exact List.mem_reverse.mp this
def growN (B : List Gm) (l : List Nat) : List (List Nat) := ((winsN B (lastN l)).filter fun r => !decide (r ∈ l)).map fun r => l ++ [r]
def L0 : List (List Nat) := [[97], [98], [99], [100], [101]]
def LN (B : List Gm) : Nat → List (List Nat)
  | 0 => L0
  | k + 1 => (LN B k).flatMap (growN B)
def homeN (B : List Gm) (ls : List (List Nat)) : Nat := (ls.filter fun l => decide (headN l ∈ winsN B (lastN l))).length
def gS (B : List Gm) : Nat → List Nat → List (List Nat)
  | 0, l => [l]
  | k + 1, l => (growN B l).flatMap (gS B k)
theorem gS_snoc (B : List Gm) : ∀ (k : Nat) (l : List Nat), (gS B k l).flatMap (growN B) = gS B (k + 1) l
  | 0, l => by
    show [l].flatMap (growN B) = (growN B l).flatMap fun l => [l]
    simp
  | k + 1, l => by
    show ((growN B l).flatMap (gS B k)).flatMap (growN B) = (growN B l).flatMap (gS B (k + 1))
    rw [List.flatMap_assoc]
    congr 1
    funext m
    exact gS_snoc B k m
theorem LN_eq (B : List Gm) : ∀ k, LN B k = L0.flatMap (gS B k)
  | 0 => by show L0 = L0.flatMap fun l => [l]; simp
  | k + 1 => by
    show (LN B k).flatMap (growN B) = _
    rw [LN_eq B k, List.flatMap_assoc]
    congr 1
    funext m
    exact gS_snoc B k m
theorem sum_flatMap {α β : Type} (g : α → List β) (F : β → Nat) (xs : List α) : ((xs.flatMap g).map F).sum = (xs.map fun x => ((g x).map F).sum).sum := by
  induction xs with
  | nil => rfl
  | cons x r ih => rw [List.flatMap_cons, List.map_append, List.sum_append, ih, List.map_cons, List.sum_cons]
theorem goN_eq (B : List Gm) (f : List Nat → Nat) : ∀ (k : Nat) (l : List Nat), goN B f k l.reverse = ((gS B k l).map fun m => f m.reverse).sum
  | 0, l => by
    show f l.reverse = (f l.reverse) + 0
    rfl
  | k + 1, l => by
    show sumG (fun r => goN B f k (r :: l.reverse)) l.reverse (pickN B (headN l.reverse)) = (((growN B l).flatMap (gS B k)).map fun m => f m.reverse).sum
    rw [sumG_eq, pickN_eq, sum_flatMap]
    unfold growN
    rw [List.map_map]
    have e : (fun r => !decide (r ∈ l.reverse)) = fun r => !decide (r ∈ l) := by funext r; simp
    rw [e]
    show _ = (((winsN B (headN l.reverse)).filter fun r => !decide (r ∈ l)).map _).sum
    congr 2
    funext r
    have := goN_eq B f k (l ++ [r])
    rw [List.reverse_append] at this
    exact this
theorem gS_head (B : List Gm) : ∀ (k : Nat) (l m : List Nat), l ≠ [] → m ∈ gS B k l → headN m = headN l
  | 0, l, m, _, hm => by
    rw [List.mem_singleton.mp hm]
  | k + 1, l, m, hl, hm => by
    obtain ⟨x, hx, hm'⟩ := List.mem_flatMap.mp hm
    obtain ⟨r, _, rfl⟩ := List.mem_map.mp hx
    rw [gS_head B k _ m (by simp) hm']
    cases l with
    | nil => exact absurd rfl hl
    | cons a t => rfl
theorem cnt_len (B : List Gm) (k : Nat) : (LN B k).length = over (cntN B k) := by
  have key : ∀ s, (gS B k [s]).length = cntN B k s := fun s => by
    unfold cntN
    have := goN_eq B (fun _ => 1) k [s]
    rw [show ([s] : List Nat).reverse = [s] from rfl] at this
    rw [this]
    generalize gS B k [s] = xs
    induction xs with
    | nil => rfl
    | cons a t ih => rw [List.map_cons, List.sum_cons, ← ih, List.length_cons]; omega
  rw [LN_eq]
  show ((gS B k [97]) ++ ((gS B k [98]) ++ ((gS B k [99]) ++ ((gS B k [100]) ++ ((gS B k [101]) ++ []))))).length = _
  simp only [List.length_append, key, List.length_nil]
  unfold over
  simp only [Nat.add_eq]
  omega
theorem home_cnt (B : List Gm) (k : Nat) : homeN B (LN B k) = over (hmN B k) := by
  have key : ∀ s, homeN B (gS B k [s]) = hmN B k s := fun s => by
    unfold hmN homeN
    have h := goN_eq B (fun l => @Bool.rec (fun _ => Nat) 0 1 (hasN s (pickN B (headN l)))) k [s]
    rw [show ([s] : List Nat).reverse = [s] from rfl] at h
    rw [h]
    have hh : ∀ m ∈ gS B k [s], headN m = s := fun m hm => gS_head B k [s] m (by simp) hm
    generalize gS B k [s] = xs at hh
    induction xs with
    | nil => rfl
    | cons a t ih =>
      have ih' := ih fun m hm => hh m (.tail _ hm)
      have ha := hh a (.head _)
      rw [List.map_cons, List.sum_cons, ← ih', List.filter_cons, hasN_eq, pickN_eq, ha]
      have hl : headN a.reverse = lastN a := rfl
      rw [hl]
      cases decide (s ∈ winsN B (lastN a)) with
      | true => rw [if_pos rfl, List.length_cons]; exact Nat.add_comm _ _
      | false => rw [if_neg (by simp)]; exact (Nat.zero_add _).symm
  rw [LN_eq]
  show homeN B ((gS B k [97]) ++ ((gS B k [98]) ++ ((gS B k [99]) ++ ((gS B k [100]) ++ ((gS B k [101]) ++ []))))) = _
  have app : ∀ x y, homeN B (x ++ y) = homeN B x + homeN B y := fun x y => by unfold homeN; rw [List.filter_append, List.length_append]
  simp only [app, key]
  unfold over
  simp only [Nat.add_eq]
  show _ + (_ + (_ + (_ + (_ + 0)))) = _
  omega
theorem lenN_eq (l : List Nat) : lenN l = l.length := by
  induction l with
  | nil => rfl
  | cons a t ih => show Nat.succ (lenN t) = _; rw [ih]; rfl
theorem eqN_eq : ∀ x y : List Nat, eqN x y = true → x = y
  | [], [], _ => rfl
  | [], _ :: _, h => by cases h
  | _ :: _, [], h => by cases h
  | a :: r, b :: t, h => by
    have h' : @Bool.rec (fun _ => Bool) false (eqN r t) (Nat.beq a b) = true := h
    cases q : Nat.beq a b with
    | false => rw [q] at h'; cases h'
    | true =>
      rw [q] at h'
      rw [Nat.eq_of_beq_eq_true q, eqN_eq r t h']
theorem anyN_eq (c q : Nat) (B : List Gm) : anyN c q B = B.any fun p => p == (c, q) := by
  induction B with
  | nil => rfl
  | cons p t ih =>
    show @Bool.rec (fun _ => Bool) (anyN c q t) (@Bool.rec (fun _ => Bool) (anyN c q t) true (Nat.beq p.2 q)) (Nat.beq p.1 c) = _
    rw [List.any_cons, ← ih]
    obtain ⟨x, y⟩ := p
    cases h1 : Nat.beq x c with
    | false =>
      have : ((x, y) == (c, q)) = false := by
        rw [beq_eq_false_iff_ne]; intro e; cases e; exact Nat.ne_of_beq_eq_false h1 rfl
      rw [this]; rfl
    | true =>
      cases h2 : Nat.beq y q with
      | false =>
        have : ((x, y) == (c, q)) = false := by
          rw [beq_eq_false_iff_ne]; intro e; cases e; exact Nat.ne_of_beq_eq_false h2 rfl
        rw [this]; rfl
      | true =>
        have : ((x, y) == (c, q)) = true := by
          rw [beq_iff_eq, Nat.eq_of_beq_eq_true h1, Nat.eq_of_beq_eq_true h2]
        rw [this]; rfl
theorem pickA_eq (B : List Gm) (c : Nat) (l : List Nat) : pickA B c l = l.filter fun q => B.any fun p => p == (c, q) := by
  induction l with
  | nil => rfl
  | cons q t ih =>
    show @Bool.rec (fun _ => List Nat) (pickA B c t) (q :: pickA B c t) (anyN c q B) = _
    rw [anyN_eq, List.filter_cons, ih]
    cases B.any fun p => p == (c, q) <;> rfl
theorem allN_at {f : Nat → Bool} (h : allN f = true) : ∀ c, Pl c → f c = true := by
  obtain ⟨h1, h⟩ := andB_true h
  obtain ⟨h2, h⟩ := andB_true h
  obtain ⟨h3, h⟩ := andB_true h
  obtain ⟨h4, h5⟩ := andB_true h
  intro c hc
  have : c = 97 ∨ c = 98 ∨ c = 99 ∨ c = 100 ∨ c = 101 := by have := hc.1; have := hc.2; omega
  rcases this with rfl | rfl | rfl | rfl | rfl <;> assumption
/-- what the 1024 tables show -/
theorem wins_abc (bt : Nat → Bool) (c : Nat) (hc : Pl c) : winsN (beatsN bt) c = (abc.filter fun q => (beatsN bt).any fun p => p == (c, q)) ∧ c ∉ winsN (beatsN bt) c := by
  obtain ⟨h1, h2⟩ := andB_true (allN_at (allG_at all_ckW bt) c hc)
  refine ⟨(eqN_eq _ _ h1).trans (pickA_eq _ _ _), fun hm => ?_⟩
  rw [hasN_eq, decide_eq_true hm] at h2
  cases h2
theorem counts (bt : Nat → Bool) : homeN (beatsN bt) (LN (beatsN bt) 2) + 3 * triN (beatsN bt) = 30 ∧ 5 * (LN (beatsN bt) 4).length + 10 * triN (beatsN bt) = 2 * homeN (beatsN bt) (LN (beatsN bt) 4) + 105 := by
  obtain ⟨h1, h2⟩ := andB_true (allG_at all_ckC bt)
  rw [home_cnt, home_cnt, cnt_len]
  exact ⟨Nat.eq_of_beq_eq_true h1, Nat.eq_of_beq_eq_true h2⟩
end
end Mine
end
section
-- part PS
open PySem PySem.W PyProof.Rows PySem.StrLaws
set_option Elab.async false
set_option maxRecDepth 100000
set_option maxHeartbeats 4000000
set_option linter.unusedVariables false
namespace Mine
noncomputable section
theorem lastN_cons (p q : Nat) (r : List Nat) : lastN (p :: q :: r) = lastN (q :: r) := by
  unfold lastN
  rw [List.reverse_cons]
  cases e : (q :: r).reverse with
  | nil => exact absurd (List.reverse_eq_nil_iff.mp e) (by simp)
  | cons a t => rfl
theorem SN_last : ∀ l : List Nat, l ≠ [] → ∃ y, SN l = y ++ [lastN l]
  | [], h => absurd rfl h
  | [p], _ => ⟨[46, 46], rfl⟩
  | p :: q :: r, _ => by
    obtain ⟨y, h⟩ := SN_last (q :: r) (by simp)
    exact ⟨List.replicate (r.length + 3) 46 ++ (p :: 13 :: 10 :: y), by rw [SN, h, lastN_cons]; simp⟩
theorem UN_last (e : List Nat) : ∀ l : List Nat, l ≠ [] → ∃ y, UN e l = y ++ [lastN l]
  | [], h => absurd rfl h
  | [p], _ => ⟨[46], rfl⟩
  | p :: q :: r, _ => by
    obtain ⟨y, h⟩ := UN_last e (q :: r) (by simp)
    exact ⟨List.replicate (r.length + 2) 46 ++ (p :: ((if r.isEmpty then e else [13, 10]) ++ y)), by rw [UN, h, lastN_cons]; simp⟩
theorem UN_first (e : List Nat) : ∀ l : List Nat, l ≠ [] → ∃ n y, UN e l = List.replicate n 46 ++ (headN l :: y)
  | [], h => absurd rfl h
  | [p], _ => ⟨1, [], rfl⟩
  | p :: q :: r, _ => ⟨r.length + 2, _, rfl⟩
theorem SN_len : ∀ l : List Nat, l.length ≤ 6 → (SN l).length ≤ 10 * l.length
  | [], _ => Nat.le_refl _
  | [p], _ => by show 3 ≤ 10; decide
  | p :: q :: r, h => by
    have ih := SN_len (q :: r) (by simp at h ⊢; omega)
    simp only [SN, List.length_append, List.length_replicate, List.length_cons] at h ih ⊢
    omega
theorem UN_len {e : List Nat} (he : IsEnd e) : ∀ l : List Nat, l.length ≤ 6 → (UN e l).length ≤ 10 * l.length
  | [], _ => Nat.le_refl _
  | [p], _ => by show 2 ≤ 10; decide
  | p :: q :: r, h => by
    have ih := UN_len he (q :: r) (by simp at h ⊢; omega)
    have hE : (if r.isEmpty then e else [13, 10]).length ≤ 2 := by
      split
      · rcases he with rfl | rfl | rfl <;> decide
      · decide
    simp only [UN, List.length_append, List.length_replicate, List.length_cons] at h ih ⊢
    omega
theorem mem_SN {c : Nat} : ∀ l : List Nat, c ∈ SN l → c = 46 ∨ c = 13 ∨ c = 10 ∨ c ∈ l
  | [], h => by simp [SN] at h
  | [p], h => by simp [SN] at h ⊢; omega
  | p :: q :: r, h => by
    rw [SN] at h
    simp only [List.mem_append, List.mem_cons, List.mem_replicate] at h
    rcases h with h | h | h | h | h
    · exact .inl h.2
    · exact .inr (.inr (.inr (by simp [h])))
    · exact .inr (.inl h)
    · exact .inr (.inr (.inl h))
    · rcases mem_SN (q :: r) h with h | h | h | h
      · exact .inl h
      · exact .inr (.inl h)
      · exact .inr (.inr (.inl h))
      · exact .inr (.inr (.inr (.tail _ h)))
theorem mem_SN' {c : Nat} : ∀ l : List Nat, c ∈ l → c ∈ SN l
  | [], h => by cases h
  | [p], h => by rw [List.mem_singleton.mp h]; simp [SN]
  | p :: q :: r, h => by
    rw [SN]
    simp only [List.mem_append, List.mem_cons]
    rcases List.mem_cons.mp h with rfl | h
    · exact .inr (.inl rfl)
    · exact .inr (.inr (.inr (.inr (mem_SN' (q :: r) h))))
theorem last_sN {x : Str} {y : List Nat} {c : Nat} (h : x.cps.toList = y ++ [c]) : x.cps.getD (x.cps.size - 1) 0 = c := by
  have hs : x.cps.size = y.length + 1 := by
    have := congrArg List.length h
    simpa using this
  rw [← getD_list, h, hs]
  simp
theorem lastS_SN {l : List Nat} (h : l ≠ []) : lastS (sN (SN l)) = sN [lastN l] := by
  obtain ⟨y, e⟩ := SN_last l h
  unfold lastS
  rw [last_sN (show (sN (SN l)).cps.toList = y ++ [lastN l] from e)]; rfl
theorem lastS_UN {e l : List Nat} (h : l ≠ []) : lastS (sN (UN e l)) = sN [lastN l] := by
  obtain ⟨y, e⟩ := UN_last e l h
  unfold lastS
  rw [last_sN (show (sN (UN _ l)).cps.toList = y ++ [lastN l] from e)]; rfl
theorem lastS_sN {l : List Nat} (h : l ≠ []) : lastS (sN l) = sN [lastN l] := by
  have : ∃ y, l = y ++ [lastN l] := by
    unfold lastN
    cases e : l.reverse with
    | nil => exact absurd (List.reverse_eq_nil_iff.mp e) h
    | cons a t => exact ⟨t.reverse, by rw [← List.reverse_reverse l, e]; simp [headN]⟩
  obtain ⟨y, e⟩ := this
  unfold lastS
  rw [last_sN (show (sN l).cps.toList = y ++ [lastN l] from e)]; rfl
theorem inS_sN (c : Nat) (t : List Nat) : inS (sN [c]) (sN t) = decide (c ∈ t) := found_one (sN t) c
theorem inS_SN {c : Nat} (hc : Pl c) (l : List Nat) : inS (sN [c]) (sN (SN l)) = decide (c ∈ l) := by
  rw [inS_sN]
  congr 1
  refine propext ⟨fun h => ?_, mem_SN' l⟩
  have := hc.1
  rcases mem_SN l h with h | h | h | h
  · omega
  · omega
  · omega
  · exact h
theorem dotS_eq : dotS = sN [46] := by decide +kernel
theorem lstrip_dots {c n : Nat} {y : List Nat} (hc : Pl c) : Txt.lstripChars (sN (List.replicate n 46 ++ (c :: y))) dotS = sN (c :: y) := by
  unfold Txt.lstripChars
  rw [PyProof.Rows.stripBy_eq]
  have hlo : stripLo dotS.cps.contains true (sN (List.replicate n 46 ++ (c :: y))) = n := by
    unfold stripLo
    rw [if_pos rfl]
    show (List.takeWhile dotS.cps.contains (List.replicate n 46 ++ (c :: y))).length = n
    have h1 : dotS.cps.contains 46 = true := by rw [dotS_eq]; show (#[46] : Array Nat).contains 46 = true; simp
    have h2 : dotS.cps.contains c = false := by
      rw [dotS_eq]
      show (#[46] : Array Nat).contains c = false
      have := hc.1
      simp; omega
    induction n with
    | zero => rw [List.replicate_zero, List.nil_append, List.takeWhile_cons, h2]; rfl
    | succ n ih => rw [List.replicate_succ, List.cons_append, List.takeWhile_cons, h1, if_pos rfl, List.length_cons, ih]
  rw [hlo]
  refine sN_eq ?_
  rw [strSub_toList]
  show List.take (stripHi dotS.cps.contains false (sN (List.replicate n 46 ++ (c :: y))) n - n) (List.drop n (List.replicate n 46 ++ (c :: y))) = c :: y
  have hd : List.drop n (List.replicate n 46 ++ (c :: y)) = c :: y := List.drop_left' (by simp)
  rw [hd]
  refine List.take_of_length_le ?_
  unfold stripHi
  rw [if_neg (by simp), sN_len]
  simp
theorem firstS_UN {e l : List Nat} (h : l ≠ []) (hp : ∀ p ∈ l, Pl p) : firstS (sN (UN e l)) = sN [headN l] ∧ 1 ≤ (Txt.lstripChars (sN (UN e l)) dotS).cps.size := by
  obtain ⟨n, y, e1⟩ := UN_first e l h
  have hh : Pl (headN l) := by
    cases l with
    | nil => exact absurd rfl h
    | cons a t => exact hp a (.head _)
  unfold firstS
  rw [e1, lstrip_dots hh]
  exact ⟨rfl, by show 1 ≤ (headN l :: y).toArray.size; simp⟩
/-- the rows of the table, as pairs of players -/
def lowS (p : Str × Str) : Str × Str := (Txt.lower p.1, p.2)
def pairS (q : Gm) : Str × Str := (sN [q.1], sN [q.2])
theorem row_pair (k : Nat) (hk : k < 10) (b : Bool) : lowS (rowOf k b) = pairS (pairN (gamesN.getD k (0, 0)) b) := by
  have : (List.range 10).all (fun k => [true, false].all fun b => decide (lowS (rowOf k b) = pairS (pairN (gamesN.getD k (0, 0)) b))) = true := by decide +kernel
  have h := List.all_eq_true.mp (List.all_eq_true.mp this k (List.mem_range.mpr hk)) b (by cases b <;> simp)
  exact of_decide_eq_true h
theorem rows_pairs (told : List Int) : (rowsT told).map lowS = (beatsN (bitT told)).map pairS := by
  have e : (rowsT told).map lowS = (List.range 10).map fun k => pairS (pairN (gamesN.getD k (0, 0)) (bitT told k)) := by
    unfold rowsT
    rw [List.map_map]
    exact List.map_congr_left fun k hk => row_pair k (List.mem_range.mp hk) _
  rw [e]; rfl
theorem beat_pair (k : Nat) (hk : k < 10) (b : Bool) : beatS k b = sN [(pairN (gamesN.getD k (0, 0)) b).1, (pairN (gamesN.getD k (0, 0)) b).2] := by
  have : (List.range 10).all (fun k => [true, false].all fun b => decide (beatS k b = sN [(pairN (gamesN.getD k (0, 0)) b).1, (pairN (gamesN.getD k (0, 0)) b).2])) = true := by decide +kernel
  have h := List.all_eq_true.mp (List.all_eq_true.mp this k (List.mem_range.mpr hk)) b (by cases b <;> simp)
  exact of_decide_eq_true h
def duoS (q : Gm) : Str := sN [q.1, q.2]
theorem beats_pairs (told : List Int) : beatsT told = (beatsN (bitT told)).map duoS := by
  have e : beatsT told = (List.range 10).map fun k => duoS (pairN (gamesN.getD k (0, 0)) (bitT told k)) :=
    List.map_congr_left fun k hk => beat_pair k (List.mem_range.mp hk) _
  rw [e]; rfl
theorem sN1_beq (a b : Nat) : (sN [a] == sN [b]) = (a == b) := by
  rw [Bool.eq_iff_iff, beq_iff_eq, beq_iff_eq]
  exact ⟨fun h => (List.cons.inj (sN_inj h)).1, fun h => by rw [h]⟩
theorem duo_beq (p : Gm) (c q : Nat) : (duoS p == sN [c, q]) = (p == (c, q)) := by
  obtain ⟨x, y⟩ := p
  rw [Bool.eq_iff_iff, beq_iff_eq, beq_iff_eq]
  refine ⟨fun h => ?_, fun h => by cases h; rfl⟩
  have := sN_inj h
  simp at this
  rw [this.1, this.2]
theorem winsOf_eq {ps : List (Str × Str)} {B : List Gm} (h : ps.map lowS = B.map pairS) {n : Str} {c : Nat} (hn : Txt.lower n = sN [c]) : winsOf ps n = (winsN B c).map fun r => sN [r] := by
  have e1 : winsOf ps n = ((ps.map lowS).filter fun p => p.1 == sN [c]).map (·.2) := by
    unfold winsOf
    rw [List.filter_map, List.map_map, hn]; rfl
  rw [e1, h, List.filter_map, List.map_map, winsN_eq, List.map_map]
  have e2 : ((fun p : Str × Str => p.1 == sN [c]) ∘ pairS) = fun q : Gm => q.1 == c := by
    funext q; exact sN1_beq q.1 c
  rw [e2]; rfl
theorem low_pl {c : Nat} (hc : Pl c) : Txt.lower (sN [c]) = sN [c] ∧ Txt.lower (Txt.upper (sN [c])) = sN [c] := by
  have : ([97, 98, 99, 100, 101].all fun c => decide (Txt.lower (sN [c]) = sN [c]) && decide (Txt.lower (Txt.upper (sN [c])) = sN [c])) = true := by decide +kernel
  have h := List.all_eq_true.mp this c (by have := hc.1; have := hc.2; simp; omega)
  rw [Bool.and_eq_true] at h
  exact ⟨of_decide_eq_true h.1, of_decide_eq_true h.2⟩
end
end Mine
end
section
-- part PL
open PySem PySem.W PyProof.Rows PySem.StrLaws
set_option Elab.async false
set_option maxRecDepth 100000
set_option maxHeartbeats 4000000
set_option linter.unusedVariables false
namespace Mine
noncomputable section
def endN (i : Nat) : List Nat := match i with | 0 => [10] | 1 => [13] | 2 => [13, 10] | _ => []
theorem endS_eq {i : Nat} (h : i < 3) : endS i = sN (endN i) ∧ IsEnd (endN i) := by
  match i, h with
  | 0, _ => exact ⟨by decide +kernel, .inl rfl⟩
  | 1, _ => exact ⟨by decide +kernel, .inr (.inl rfl)⟩
  | 2, _ => exact ⟨by decide +kernel, .inr (.inr rfl)⟩
/-- letters of n players -/
structure Good (n : Nat) (l : List Nat) : Prop where
  len : l.length = n
  pl : ∀ p ∈ l, Pl p
theorem Good.ne {n : Nat} {l : List Nat} (g : Good (n + 1) l) : l ≠ [] := by rintro rfl; cases g.len
theorem Good.last {n : Nat} {l : List Nat} (g : Good (n + 1) l) : Pl (lastN l) := g.pl _ (lastN_mem l g.ne)
theorem mem_abc {q : Nat} (h : q ∈ abc) : Pl q := by
  have : q = 97 ∨ q = 98 ∨ q = 99 ∨ q = 100 ∨ q = 101 := by simpa [abc] using h
  show 97 ≤ q ∧ q ≤ 101
  omega
theorem wins_pl {bt : Nat → Bool} {c r : Nat} (hc : Pl c) (h : r ∈ winsN (beatsN bt) c) : Pl r := by
  rw [(wins_abc bt c hc).1] at h
  exact mem_abc (List.mem_filter.mp h).1
theorem wins_five {bt : Nat → Bool} {c : Nat} (hc : Pl c) : (winsN (beatsN bt) c).length ≤ 5 := by
  rw [(wins_abc bt c hc).1]
  exact List.length_filter_le _ abc
theorem grow_good {bt : Nat → Bool} {n : Nat} {l m : List Nat} (g : Good (n + 1) l) (h : m ∈ growN (beatsN bt) l) : Good (n + 2) m := by
  obtain ⟨r, hr, rfl⟩ := List.mem_map.mp h
  have hw := wins_pl g.last (List.mem_filter.mp hr).1
  refine ⟨by rw [List.length_append, g.len]; rfl, fun p hp => ?_⟩
  rcases List.mem_append.mp hp with hp | hp
  · exact g.pl p hp
  · rw [List.mem_singleton.mp hp]; exact hw
theorem LN_good (bt : Nat → Bool) : ∀ k, ∀ l ∈ LN (beatsN bt) k, Good (k + 1) l
  | 0, l, h => by
    have : l = [97] ∨ l = [98] ∨ l = [99] ∨ l = [100] ∨ l = [101] := by simpa [LN, L0] using h
    rcases this with rfl | rfl | rfl | rfl | rfl <;> exact ⟨rfl, fun p hp => by rw [List.mem_singleton.mp hp]; exact ⟨by decide, by decide⟩⟩
  | k + 1, m, h => by
    obtain ⟨l, hl, hm⟩ := List.mem_flatMap.mp h
    exact grow_good (LN_good bt k l hl) hm
theorem flat_congr {α β : Type} {f g : α → List β} : ∀ {xs : List α}, (∀ x ∈ xs, f x = g x) → xs.flatMap f = xs.flatMap g
  | [], _ => rfl
  | x :: r, h => by rw [List.flatMap_cons, List.flatMap_cons, h x (.head _), flat_congr fun y hy => h y (.tail _ hy)]
theorem flat_len {α β : Type} {f : α → List β} {n : Nat} : ∀ {xs : List α}, (∀ x ∈ xs, (f x).length ≤ n) → (xs.flatMap f).length ≤ xs.length * n
  | [], _ => by simp
  | x :: r, h => by
    rw [List.flatMap_cons, List.length_append, List.length_cons, Nat.succ_mul]
    have := h x (.head _)
    have := flat_len (xs := r) fun y hy => h y (.tail _ hy)
    omega
theorem LN_len (bt : Nat → Bool) : ∀ k, (LN (beatsN bt) k).length ≤ 5 ^ (k + 1)
  | 0 => by show 5 ≤ 5; decide
  | k + 1 => by
    have h1 := LN_len bt k
    have h2 : ((LN (beatsN bt) k).flatMap (growN (beatsN bt))).length ≤ (LN (beatsN bt) k).length * 5 := flat_len fun l hl => by
      unfold growN
      rw [List.length_map]
      exact Nat.le_trans (List.length_filter_le _ _) (wins_five (LN_good bt k l hl).last)
    show ((LN (beatsN bt) k).flatMap (growN (beatsN bt))).length ≤ 5 ^ (k + 1) * 5
    omega
theorem LN4_len (bt : Nat → Bool) : 1 ≤ (LN (beatsN bt) 4).length ∧ (LN (beatsN bt) 4).length ≤ 35 := by
  obtain ⟨h1, h2⟩ := counts bt
  have h3 : homeN (beatsN bt) (LN (beatsN bt) 4) ≤ (LN (beatsN bt) 4).length := List.length_filter_le _ _
  omega
theorem LN_ne (bt : Nat → Bool) : ∀ k, k ≤ 4 → LN (beatsN bt) k ≠ [] := by
  have h4 : LN (beatsN bt) 4 ≠ [] := by intro e; have := (LN4_len bt).1; rw [e] at this; cases this
  have back : ∀ k, LN (beatsN bt) (k + 1) ≠ [] → LN (beatsN bt) k ≠ [] := fun k h e => h (by show (LN (beatsN bt) k).flatMap _ = []; rw [e]; rfl)
  intro k hk
  match k, hk with
  | 4, _ => exact h4
  | 3, _ => exact back 3 h4
  | 2, _ => exact back 2 (back 3 h4)
  | 1, _ => exact back 1 (back 2 (back 3 h4))
  | 0, _ => exact back 0 (back 1 (back 2 (back 3 h4)))
theorem PSlen (l : List Nat) : (sN l).length = l.length := by show l.toArray.size = _; simp
/-- the letters of a round, not yet sent -/
def U (e : List Nat) (l : List Nat) : Str := sN (UN e l)
def S (l : List Nat) : Str := sN (SN l)
section
variable {told : List Int} {e e' : List Nat} {Ls : List (List Nat)} {n : Nat}
theorem sent_eq (he : IsEnd e) (he' : IsEnd e') (hg : ∀ l ∈ Ls, Good (n + 1) l) : sentS (sN e') (Ls.map (U e)) = sN (joinN [13, 10, 13, 10] (Ls.map SN)) := by
  unfold sentS
  rw [sN_app, show Ls.map (U e) = (Ls.map (UN e)).map sN by rw [List.map_map]; rfl, join_sN]
  show (⟨(dots true (crlf (joinN (e' ++ e') (Ls.map (UN e))))).toArray⟩ : Str) = _
  rw [quote_join he he' Ls fun l hl => ⟨(hg l hl).ne, (hg l hl).pl⟩]; rfl
theorem split_eq (he : IsEnd e) (he' : IsEnd e') (hg : ∀ l ∈ Ls, Good (n + 1) l) (hne : Ls ≠ []) : Txt.split (sentS (sN e') (Ls.map (U e))) sep4 = Ls.map S := by
  rw [sent_eq he he' hg, split_join (by simpa using hne) fun p hp w => by
    obtain ⟨l, hl, rfl⟩ := List.mem_map.mp hp
    exact cl_SN w l (hg l hl).pl]
  rw [List.map_map]; rfl
theorem grown_eq {l : List Nat} (g : Good (n + 1) l) (e' : List Nat) : grown (rowsT told) (sN e') (S l) = (growN (beatsN (bitT told)) l).map (U e') := by
  have hc := g.last
  unfold grown S
  rw [lastS_SN g.ne, winsOf_eq (rows_pairs told) (low_pl hc).2, List.filter_map, List.map_map]
  unfold growN
  rw [List.map_map]
  have e1 : (winsN (beatsN (bitT told)) (lastN l)).filter ((fun r => !inS r (sN (SN l))) ∘ fun r => sN [r]) = (winsN (beatsN (bitT told)) (lastN l)).filter fun r => !decide (r ∈ l) :=
    List.filter_congr fun r hr => by
      show (!inS (sN [r]) (sN (SN l))) = _
      rw [inS_SN (wins_pl hc hr)]
  rw [e1]
  refine List.map_congr_left fun r _ => ?_
  show sN (SN l) ++ sN e' ++ dotS ++ sN [r] = sN (UN e' (l ++ [r]))
  rw [dotS_eq, sN_app, sN_app, sN_app, ← SN_UN e' r l g.ne]
  simp
theorem round_eq (he : IsEnd e) (he' : IsEnd e') (hg : ∀ l ∈ Ls, Good (n + 1) l) (hne : Ls ≠ []) :
    (Txt.split (sentS (sN e') (Ls.map (U e))) sep4).flatMap (grown (rowsT told) (sN e')) = (Ls.flatMap (growN (beatsN (bitT told)))).map (U e') := by
  rw [split_eq he he' hg hne, List.flatMap_map, List.map_flatMap]
  exact flat_congr fun l hl => grown_eq (hg l hl) e'
end
def enK (told : List Int) : Nat → List Nat
  | 0 => [10]
  | k + 1 => endN (endAt told k)
theorem endAt_lt (told : List Int) (k : Nat) : endAt told k < 3 := Nat.mod_lt _ (by decide)
theorem enK_end (told : List Int) : ∀ k, IsEnd (enK told k)
  | 0 => .inl rfl
  | k + 1 => (endS_eq (endAt_lt told k)).2
theorem lets_eq (told : List Int) : ∀ k, k ≤ 4 → letsS told k = (LN (beatsN (bitT told)) k).map (U (enK told k))
  | 0, _ => by
    show lets0 = L0.map (U [10])
    decide +kernel
  | k + 1, h => by
    show roundS (rowsT told) (endS (endAt told k)) (letsS told k) = _
    obtain ⟨e1, e2⟩ := endS_eq (endAt_lt told k)
    unfold roundS
    rw [lets_eq told k (by omega), e1, round_eq (enK_end told k) e2 (LN_good _ k) (LN_ne _ k (by omega))]; rfl
section
variable {told : List Int} {e e' : List Nat} {Ls : List (List Nat)} {n : Nat}
theorem U_len (he : IsEnd e) {l : List Nat} (g : Good (n + 1) l) (hn : n ≤ 4) : (U e l).length ≤ 50 := by
  show (sN (UN e l)).length ≤ 50
  rw [PSlen]
  have := UN_len he l (by rw [g.len]; omega)
  rw [g.len] at this
  omega
theorem S_len {l : List Nat} (g : Good (n + 1) l) (hn : n ≤ 4) : (S l).length ≤ 50 := by
  show (sN (SN l)).length ≤ 50
  rw [PSlen]
  have := SN_len l (by rw [g.len]; omega)
  rw [g.len] at this
  omega
theorem end_two (he : IsEnd e) : e.length ≤ 2 := by rcases he with rfl | rfl | rfl <;> decide
theorem join_len {sep : Str} {ls : List Str} {b : Nat} (h : ∀ x ∈ ls, x.length ≤ b) (hs : sep.length ≤ 4) : (ls.map (·.length)).sum + ls.length * sep.length ≤ ls.length * (b + 4) ∧ (Txt.join sep ls).length ≤ ls.length * (b + 4) := by
  have h1 := sumLen_le ls h
  have h2 : ls.length * sep.length ≤ ls.length * 4 := Nat.mul_le_mul_left _ hs
  have h3 := PySem.StrLaws.join_length_le sep ls
  have h4 : (Txt.join sep ls).length = (Str.join sep ls).length := by unfold Txt.join; rw [glued_eq_join]
  rw [h4, Nat.mul_add]
  omega
theorem letter_S {l : List Nat} (g : Good (n + 1) l) (hn : n ≤ 4) : Letter (S l) := by
  have hl := g.last
  obtain ⟨y, e⟩ := SN_last l g.ne
  have h1 : (S l).cps.getD ((S l).cps.size - 1) 0 = lastN l := last_sN (show (sN (SN l)).cps.toList = y ++ [lastN l] from e)
  have h2 : (S l).cps.size ≤ 50 := S_len g hn
  have h3 : 1 ≤ (S l).cps.size := by
    show 1 ≤ (SN l).toArray.size
    rw [e]; simp
  refine ⟨h3, by omega, ?_, ?_⟩
  · rw [h1]; exact hl.1
  · rw [h1]; exact hl.2
theorem letter_U {l : List Nat} (he : IsEnd e) (g : Good (n + 1) l) (hn : n ≤ 4) : Letter (U e l) := by
  have hl := g.last
  obtain ⟨y, e1⟩ := UN_last e l g.ne
  have h1 : (U e l).cps.getD ((U e l).cps.size - 1) 0 = lastN l := last_sN (show (sN (UN e l)).cps.toList = y ++ [lastN l] from e1)
  have h2 : (U e l).cps.size ≤ 50 := U_len he g hn
  have h3 : 1 ≤ (U e l).cps.size := by
    show 1 ≤ (UN e l).toArray.size
    rw [e1]; simp
  refine ⟨h3, by omega, ?_, ?_⟩
  · rw [h1]; exact hl.1
  · rw [h1]; exact hl.2
theorem round_ok (he : IsEnd e) (he' : IsEnd e') (hn : n ≤ 4) (hg : ∀ l ∈ Ls, Good (n + 1) l) (hne : Ls ≠ []) (hlen : Ls.length ≤ 3125) : RoundOk (rowsT told) (sN e') (Ls.map (U e)) := by
  have hE : (sN e' ++ sN e').length ≤ 4 := by
    rw [Str.length_append, PSlen]
    have := end_two he'; omega
  have hU : ∀ x ∈ Ls.map (U e), x.length ≤ 50 := fun x hx => by
    obtain ⟨l, hl, rfl⟩ := List.mem_map.mp hx
    exact U_len he (hg l hl) hn
  have hj := join_len hU hE
  rw [List.length_map] at hj
  have hS : ∀ x ∈ Ls.map S, x.length ≤ 50 := fun x hx => by
    obtain ⟨l, hl, rfl⟩ := List.mem_map.mp hx
    exact S_len (hg l hl) hn
  have hj' := (join_len (sep := sN [13, 10, 13, 10]) hS (by decide)).2
  rw [List.length_map, show Ls.map S = (Ls.map SN).map sN by rw [List.map_map]; rfl, join_sN] at hj'
  refine ⟨?_, ?_, ?_, ?_, ?_⟩
  · rw [List.length_map]; omega
  · have : (Txt.join (sN e' ++ sN e') (Ls.map (U e))).length ≤ 400000 := by omega
    exact this
  · rw [sent_eq he he' hg]; omega
  · rw [split_eq he he' hg hne]
    intro x hx
    obtain ⟨l, hl, rfl⟩ := List.mem_map.mp hx
    exact letter_S (hg l hl) hn
  · rw [round_eq he he' hg hne, List.length_map]
    have : (Ls.flatMap (growN (beatsN (bitT told)))).length ≤ Ls.length * 5 := flat_len fun l hl => by
      unfold growN
      rw [List.length_map]
      exact Nat.le_trans (List.length_filter_le _ _) (wins_five (hg l hl).last)
    omega
theorem home_ok (he : IsEnd e) (hn : n ≤ 4) (hg : ∀ l ∈ Ls, Good (n + 1) l) (hlen : Ls.length ≤ 3125) : HomeOk (Ls.map (U e)) := by
  refine ⟨by rw [List.length_map]; omega, fun x hx => ?_⟩
  obtain ⟨l, hl, rfl⟩ := List.mem_map.mp hx
  exact ⟨letter_U he (hg l hl) hn, (firstS_UN (hg l hl).ne (hg l hl).pl).2⟩
theorem home_eq (hg : ∀ l ∈ Ls, Good (n + 1) l) : homeS (rowsT told) (Ls.map (U e)) = homeN (beatsN (bitT told)) Ls := by
  unfold homeS homeN
  rw [List.filter_map, List.length_map]
  congr 1
  refine List.filter_congr fun l hl => ?_
  have g := hg l hl
  show ((winsOf (rowsT told) (lastS (U e l))).any fun x => x == firstS (U e l)) = _
  unfold U
  rw [lastS_UN g.ne, (firstS_UN g.ne g.pl).1, winsOf_eq (rows_pairs told) (low_pl g.last).1, List.any_map]
  generalize winsN (beatsN (bitT told)) (lastN l) = ws
  induction ws with
  | nil => rfl
  | cons a t ih =>
    rw [List.any_cons, ih]
    show ((sN [a] == sN [headN l]) || _) = _
    rw [sN1_beq, Bool.eq_iff_iff, Bool.or_eq_true, beq_iff_eq, decide_eq_true_eq, decide_eq_true_eq, List.mem_cons]
    exact ⟨fun h => h.elim (fun h => .inl h.symm) .inr, fun h => h.elim (fun h => .inl h.symm) .inr⟩
end
end
end Mine
end
section
-- part PF
open PySem PySem.W PyProof.Rows PySem.StrLaws
set_option Elab.async false
set_option maxRecDepth 100000
set_option maxHeartbeats 4000000
set_option linter.unusedVariables false
namespace Mine
noncomputable section
section
variable {told : List Int} {Ls : List (List Nat)} {n : Nat}
theorem any_duo (c q : Nat) : ((beatsT told).any fun x => x == sN [c, q]) = (beatsN (bitT told)).any fun p => p == (c, q) := by
  rw [beats_pairs, List.any_map]
  congr 1
  funext p
  exact duo_beq p c q
theorem one_eq (c : Nat) : one c = sN [c] := rfl
theorem step_eq (hg : ∀ l ∈ Ls, Good (n + 1) l) : stepS (beatsT told) (Ls.map sN) = (Ls.flatMap (growN (beatsN (bitT told)))).map sN := by
  unfold stepS
  rw [List.flatMap_map, List.map_flatMap]
  refine flat_congr fun l hl => ?_
  have g := hg l hl
  unfold growN
  rw [List.map_map, (wins_abc (bitT told) _ g.last).1, List.filter_filter]
  have e1 : (abc.filter fun q => (beatsT told).any (· == lastS (sN l) ++ one q) && !inS (one q) (sN l)) = abc.filter fun q => (!decide (q ∈ l)) && (beatsN (bitT told)).any fun p => p == (lastN l, q) :=
    List.filter_congr fun q hq => by
      rw [one_eq, inS_sN, lastS_sN g.ne, sN_app]
      show (((beatsT told).any fun x => x == sN [lastN l, q]) && _) = _
      rw [any_duo, Bool.and_comm]
  rw [e1]
  refine List.map_congr_left fun q _ => ?_
  show sN l ++ sN [q] = sN (l ++ [q])
  exact sN_app _ _
theorem pairs_eq : pairsS (beatsT told) = (LN (beatsN (bitT told)) 1).map sN := by
  show _ = (L0.flatMap (growN (beatsN (bitT told)))).map sN
  unfold pairsS
  rw [List.map_flatMap, show L0 = abc.map fun p => [p] from rfl, List.flatMap_map]
  refine flat_congr fun p hp => ?_
  have hw := wins_abc (bitT told) p (mem_abc hp)
  unfold growN
  rw [List.map_map, show lastN [p] = p from rfl]
  have e0 : ((winsN (beatsN (bitT told)) p).filter fun r => !decide (r ∈ [p])) = winsN (beatsN (bitT told)) p := by
    rw [List.filter_eq_self]
    intro r hr
    have : r ≠ p := by rintro rfl; exact hw.2 hr
    simp [this]
  rw [e0, hw.1]
  have e1 : (abc.filter fun q => (beatsT told).any (· == one p ++ one q)) = abc.filter fun q => (beatsN (bitT told)).any fun r => r == (p, q) :=
    List.filter_congr fun q hq => by
      rw [one_eq, one_eq, sN_app]
      exact any_duo p q
  rw [e1]
  refine List.map_congr_left fun q _ => ?_
  show sN [p] ++ sN [q] = sN ([p] ++ [q])
  exact sN_app _ _
theorem steps_eq (k : Nat) : stepS (beatsT told) ((LN (beatsN (bitT told)) k).map sN) = (LN (beatsN (bitT told)) (k + 1)).map sN := step_eq (LN_good _ k)
theorem ord_eq : ordS told = (LN (beatsN (bitT told)) 4).map sN := by
  unfold ordS
  rw [pairs_eq, steps_eq, steps_eq, steps_eq]
theorem small_of (k : Nat) (hk : k ≤ 3) : Small ((LN (beatsN (bitT told)) k).map sN) 1000 := by
  refine ⟨?_, fun x hx => ?_⟩
  · rw [List.length_map]
    have h1 := LN_len (bitT told) k
    have h2 : 5 ^ (k + 1) ≤ 5 ^ 4 := Nat.pow_le_pow_right (by decide) (by omega)
    omega
  · obtain ⟨l, hl, rfl⟩ := List.mem_map.mp hx
    have g := LN_good (bitT told) k l hl
    have : (sN l).cps.size = l.length := PSlen l
    rw [this, g.len]
    omega
theorem full_eq {l : List Nat} (g : Good 5 l) : fullOf (sN l) = S l := by
  obtain ⟨hl, _⟩ := g
  match l, hl with
  | [a, b, c, d, e], _ =>
    have m : ∀ i : Nat, i < 5 → Txt.mul (Str.ofString ".") (6 - (i : Int)) = sN (List.replicate (6 - i) 46) := by decide +kernel
    unfold fullOf
    have e1 : ((List.range 5).map fun (i : Nat) => Txt.mul (Str.ofString ".") (6 - (i : Int)) ++ one ((sN [a, b, c, d, e]).cps.getD i 0)) =
        ([List.replicate 6 46 ++ [a], List.replicate 5 46 ++ [b], List.replicate 4 46 ++ [c], List.replicate 3 46 ++ [d], List.replicate 2 46 ++ [e]] : List (List Nat)).map sN := by
      have e2 : ((List.range 5).map fun (i : Nat) => Txt.mul (Str.ofString ".") (6 - (i : Int)) ++ one ((sN [a, b, c, d, e]).cps.getD i 0)) =
          (List.range 5).map fun (i : Nat) => sN (List.replicate (6 - i) 46 ++ [[a, b, c, d, e].getD i 0]) := by
        refine List.map_congr_left fun i hi => ?_
        rw [m i (List.mem_range.mp hi), one_eq, sN_app, ← PyProof.Rows.getD_list]; rfl
      rw [e2]; rfl
    rw [e1, show Str.ofString "\r\n" = sN [13, 10] by decide +kernel, join_sN]
    rfl
theorem ok_S {l : List Nat} (hp : ∀ p ∈ l, Pl p) : PyData.strOk (S l) = true := by
  show (SN l).toArray.all (· < 0x110000) = true
  rw [← Array.all_toList]
  refine List.all_eq_true.mpr fun c hc => decide_eq_true ?_
  rcases mem_SN l hc with h | h | h | h
  · omega
  · omega
  · omega
  · have := (hp c h).2; omega
theorem won_eq (c : Nat) : wonT told c = (winsN (beatsN (bitT told)) c).length := by
  unfold wonT
  rw [beats_pairs, List.filter_map, List.length_map, winsN_eq, List.length_map]
  congr 1
  refine List.filter_congr fun q _ => ?_
  show (sN [q.1] == sN [c]) = _
  rw [sN1_beq]
theorem tri_eq : ∀ w : Nat, w ≤ 10 → ((w : Int) * ((w : Int) - 1)).fdiv 2 = (tri w : Nat) := by decide
theorem won_ten (c : Nat) : wonT told c ≤ 10 := by
  unfold wonT
  refine Nat.le_trans (List.length_filter_le _ _) ?_
  unfold beatsT
  rw [List.length_map, List.length_range]; exact Nat.le_refl _
theorem rings_eq : ringsT told = 10 - (triN (beatsN (bitT told)) : Int) := by
  unfold ringsT
  congr 1
  have e : ∀ c, ((wonT told c : Int) * ((wonT told c : Int) - 1)).fdiv 2 = (tri (lenN (winsN (beatsN (bitT told)) c)) : Nat) := fun c => by
    rw [tri_eq _ (won_ten c), won_eq, lenN_eq]
  have e' : (abc.map fun c => ((wonT told c : Int) * ((wonT told c : Int) - 1)).fdiv 2) = abc.map fun c => ((tri (lenN (winsN (beatsN (bitT told)) c)) : Nat) : Int) := List.map_congr_left fun c _ => e c
  rw [e']
  show (tri (lenN (winsN (beatsN (bitT told)) 97)) : Int) + ((tri (lenN (winsN (beatsN (bitT told)) 98)) : Int) + ((tri (lenN (winsN (beatsN (bitT told)) 99)) : Int) + ((tri (lenN (winsN (beatsN (bitT told)) 100)) : Int) + ((tri (lenN (winsN (beatsN (bitT told)) 101)) : Int) + (0 : Int))))) = _
  unfold triN over
  simp only [Nat.add_eq]
  omega
theorem row_ok (k : Nat) (hk : k < 10) (b : Bool) : (rowOf k b).1.length ≤ 10 ∧ (rowOf k b).2.length ≤ 10 ∧ PyData.strOk (rowOf k b).1 = true ∧ PyData.strOk (rowOf k b).2 = true := by
  have : (List.range 10).all (fun k => [true, false].all fun b => decide ((rowOf k b).1.length ≤ 10) && decide ((rowOf k b).2.length ≤ 10) && PyData.strOk (rowOf k b).1 && PyData.strOk (rowOf k b).2) = true := by decide +kernel
  have h := List.all_eq_true.mp (List.all_eq_true.mp this k (List.mem_range.mpr hk)) b (by cases b <;> simp)
  rw [Bool.and_eq_true, Bool.and_eq_true, Bool.and_eq_true, decide_eq_true_eq, decide_eq_true_eq] at h
  exact ⟨h.1.1.1, h.1.1.2, h.1.2, h.2⟩
end
theorem law_ok (told : List Int) (_ : told.length = 10) (_ : ∀ v ∈ told, 1 ≤ v ∧ v ≤ 400000) : LawOk told := by
  have len : ∀ k, k ≤ 4 → (LN (beatsN (bitT told)) k).length ≤ 3125 := fun k hk => by
    have h1 := LN_len (bitT told) k
    have h2 : 5 ^ (k + 1) ≤ 5 ^ 5 := Nat.pow_le_pow_right (by decide) (by omega)
    omega
  have hnl : Str.ofString "\n" = sN [10] := by decide +kernel
  obtain ⟨c1, c2⟩ := counts (bitT told)
  have h4 := LN4_len (bitT told)
  have hord : ∀ x ∈ rowsT told, ∃ k b, k < 10 ∧ x = rowOf k b := fun x hx => by
    obtain ⟨k, hk, rfl⟩ := List.mem_map.mp hx
    exact ⟨k, _, List.mem_range.mp hk, rfl⟩
  refine { rows := ⟨by unfold rowsT; rw [List.length_map, List.length_range]; omega, ?_⟩, rowsok := ?_, rnd := ?_, last := ?_, home2 := ?_, home4 := ?_, small1 := ?_, small2 := ?_, small3 := ?_, small4 := ?_, full := ?_, fullok := ?_, threes := ?_, fives := ?_, won := fun c _ => won_ten c }
  · intro p hp
    obtain ⟨k, b, hk, rfl⟩ := hord p hp
    exact ⟨(row_ok k hk b).1, (row_ok k hk b).2.1⟩
  · intro p hp
    obtain ⟨k, b, hk, rfl⟩ := hord p hp
    exact ⟨(row_ok k hk b).2.2.1, (row_ok k hk b).2.2.2⟩
  · intro k hk
    obtain ⟨e1, e2⟩ := endS_eq (endAt_lt told k)
    rw [e1, lets_eq told k (by omega)]
    exact round_ok (enK_end told k) e2 (by omega) (LN_good _ k) (LN_ne _ k (by omega)) (len k (by omega))
  · rw [hnl, lets_eq told 4 (by omega)]
    exact round_ok (enK_end told 4) (.inl rfl) (by omega) (LN_good _ 4) (LN_ne _ 4 (by omega)) (len 4 (by omega))
  · rw [lets_eq told 2 (by omega)]
    exact home_ok (enK_end told 2) (by omega) (LN_good _ 2) (len 2 (by omega))
  · rw [lets_eq told 4 (by omega)]
    exact home_ok (enK_end told 4) (by omega) (LN_good _ 4) (len 4 (by omega))
  · rw [pairs_eq]; exact small_of 1 (by omega)
  · rw [pairs_eq, steps_eq]; exact small_of 2 (by omega)
  · rw [pairs_eq, steps_eq, steps_eq]; exact small_of 3 (by omega)
  · rw [ord_eq, List.length_map]
    refine ⟨by omega, fun x hx => ?_⟩
    obtain ⟨l, hl, rfl⟩ := List.mem_map.mp hx
    have : (sN l).cps.size = l.length := PSlen l
    rw [this, (LN_good _ 4 l hl).len]
  · rw [hnl, lets_eq told 4 (by omega), split_eq (enK_end told 4) (.inl rfl) (LN_good _ 4) (LN_ne _ 4 (by omega)), ord_eq, List.map_map]
    exact List.map_congr_left fun l hl => (full_eq (LN_good _ 4 l hl)).symm
  · rw [ord_eq, List.map_map]
    intro x hx
    obtain ⟨l, hl, rfl⟩ := List.mem_map.mp hx
    have g := LN_good _ 4 l hl
    show PyData.strOk (fullOf (sN l)) = true
    rw [full_eq g]
    exact ok_S g.pl
  · rw [lets_eq told 2 (by omega), home_eq (LN_good _ 2), rings_eq]
    omega
  · rw [ord_eq, List.length_map, lets_eq told 4 (by omega), home_eq (LN_good _ 4), rings_eq]
    omega
end
end Mine
end
section
-- part Top
open PySem PySem.W PyProof.Rows PySem.Calls
set_option Elab.async false
set_option maxRecDepth 100000
set_option maxHeartbeats 8000000
set_option linter.unusedVariables false
namespace Mine

theorem paired_ints {vs : List Value} {ns : List Int} (h : IntsAre vs ns) : Paired IntIs ns vs := by
  induction h with
  | nil => exact .nil
  | cons n t _ ih => exact .cons ⟨t, rfl⟩ ih
theorem law_good {w : World} {s₁ : Shared} {l : Addr} {vs : List Value} {ns : List Int} {cl : Str → Option Addr} {mean : ExcName → Option Value}
    (KX : (hd.heap_1 w.params).In s₁.heap) {mg mb : Str → Option Value} (T : TopRead viewP LW mg mb s₁.heap) (hl : s₁.heap.IsList l vs.toArray) (hI : IntsAre vs ns) (hsz : ¬ ((63 : Nat) : Int) < ((ns.length : Nat) : Int)) (hg : s₁.gens = #[]) :
    codeAny (model PR w) callerA (.call (.ref 298) ⟨[.ref l], []⟩) (GoodW PySem.Challenge.rw_sr0052_01.row.claim cl mean [ofPy (PyData.list (ns.map .int))] s₁) s₁ := by
  obtain ⟨hp, g, d, tk, o⟩ := s₁
  refine law_fn law_ok hl (script := ns) (by omega) (paired_ints hI) ⟨KX, _, _, T⟩ ⟨by decide, by decide, rfl, rfl⟩ rfl fun h' tk' st => ⟨.inl ⟨_, .bool true, [], rfl, raisesW_false (by wrow_none_raised), .bool true, by wrow_post, fun _ => ⟨List.nodup_nil, fun _ h => nomatch h⟩⟩, st, rfl, hg⟩
theorem t1 : PySem.Challenge.rw_sr0052_01.Holds := 
  hd (by k_fill
         intro w s₀ s₁ mg mb G Y fa o pm cd doc dV kV ho hd hcd hD hmg hg args vals as hpre hlay hrd hwl hlo
         have KX := kIn_of Y
         refine Ground.open G ?_
         intro T B D TE TW
         have hfa : mg (Str.ofString "law") = some (.ref 298) := mg_of KX T.g (by k_is)
         rw [lawD_name] at hmg
         have hfa' : some (Value.ref fa) = some (.ref 298) := hmg.symm.trans hfa
         have hfa' : fa = 298 := by cases hfa'; rfl
         clear ho hd hcd hD
         wrow_args hpre hlay hrd hwl hlo
         all_goals (
           first | refine callC_kw (enter_call ?_) | refine enter_call ?_ | refine callC_kw (enter_callW ?_) | refine enter_callW ?_ 
           refine codeAny_mono ?_ (fun _ _ g => GoodW.toG g)
           rw [hfa']
           exact law_good KX (topRead_of T) (by assumption) (by assumption) (by assumption) hg))
end Mine
end
end
theorem PySem.Challenge.cw_sr0052_01_holds : PySem.Challenge.rw_sr0052_01.Holds :=
  Mine.t1
