import PyProof.Rows.All
import Wide.All
import OpenK.AllK
import Wide.FinOn
import PySem.Challenge.RW_rl0093_01
set_option Elab.async false
set_option maxRecDepth 100000
set_option compiler.extract_closed false
namespace Mine
section
open PySem PySem.W PyProof.Rows
set_option maxHeartbeats 8000000
noncomputable def hdB : { l : List Stmt // l = [0, 2, 8, 9, 10, 11, 12, 14, 15, 16, 17, 18, 19].filterMap fun i => PySem.Challenge.pw_rl0093_01.main.body[i]? } := ⟨[_, _, _, _, _, _, _, _, _, _, _, _, _], rfl⟩
noncomputable def hdV : Program := { PySem.Challenge.pw_rl0093_01 with main := { PySem.Challenge.pw_rl0093_01.main with body := hdB.1 } }
theorem hdSaid0 : PySem.Challenge.rw_rl0093_01.row.wellSaid = true := by
  try rw [Fast.te17960256430627541270]
  kernel_rfl
theorem hdSaid : PySem.Challenge.rw_rl0093_01.wellSaid = true := by
  unfold OpenLaw.wellSaid
  rw [hdSaid0]
  kernel_rfl
section
local macro_rules | `(tactic| o_head $_) => `(tactic| assumption)
theorem hz (h : PySem.Challenge.rw_rl0093_01.row.Holds) : PySem.Challenge.rw_rl0093_01.row.Holds := by
  k_head
end
noncomputable abbrev hdK : Hook := kmHook hz.heap_1 [2, 3, 15, 17, 18, 20, 21, 32, 34, 35, 37, 38, 39, 41, 42, 44, 45, 46, 48, 49, 51, 52, 53, 55, 56, 58, 59, 60, 62, 63, 65, 66, 67, 69, 70, 72, 73, 74, 76, 77, 79, 80, 81, 82, 83, 84, 85, 88, 89, 90, 92, 93, 95, 96, 97, 98, 99, 101, 102, 104, 105, 106, 107, 108, 110, 111, 113, 114, 115, 117, 118, 120, 121, 122, 124, 125, 127, 128, 129, 131, 132, 134, 135, 136, 138, 139, 141, 142, 143, 145, 146, 148, 149, 150, 152, 153, 155, 156, 157, 159, 160, 162, 163, 164, 167, 168, 169, 172, 173] (fun _ => by kernel_rfl) [137, 170]
abbrev hdL : List Str := [Str.ofString "Whitespace", Str.ofString "insort_right", Str.ofString "bisect_right", Str.ofString "bisect_left"]
noncomputable abbrev hdX (s : Shared) : Bool := xlAt hdV [] s && recOk (RowW.records (OpenRow.toRowW (OpenLaw.row PySem.Challenge.rw_rl0093_01))) s
abbrev hdP : Program := PySem.Challenge.rw_rl0093_01.row.prog
noncomputable abbrev hdSee (s : Shared) := (openSeen hdV hdL (importedModules hdP.main.body) hdX true s, hdK.obs s)
theorem hdBoot (w : World) : (fencedOpening treeTable hdP w 2078).map (fun s => (s.heap, s.gens, s.drawn, s.toks)) = some (boot_heap w.params, Array.mk [], boot_drawn, boot_toks) := boot_open (by kernel_rfl) (by kernel_rfl) (fun _ => by kernel_rfl) w
noncomputable abbrev hdS (w : World) (os : OsState) : Shared := ⟨boot_heap w.params, Array.mk [], boot_drawn, boot_toks, os⟩
theorem hdRun0 (w : World) (os : OsState) : (topFrom treeTable hdP (w.withFollow "special-get-raises" false) 2078 (hdS (w.withFollow "special-get-raises" false) os)).map hdSee = some (openGood hdV hdL, hdK.val (w.withFollow "special-get-raises" false)) := by
  unfold hdSee topFrom
  try rw [Fast.te14082659384304107361, Fast.te14364793385576792824, Fast.te4187177175401517315]
  kernel_rfl
theorem hdRun1 (w : World) (os : OsState) : (topFrom treeTable hdP (w.withFollow "special-get-raises" true) 2078 (hdS (w.withFollow "special-get-raises" true) os)).map hdSee = some (openGood hdV hdL, hdK.val (w.withFollow "special-get-raises" true)) := by
  unfold hdSee topFrom
  try rw [Fast.te14082659384304107361, Fast.te14364793385576792824, Fast.te4187177175401517315]
  kernel_rfl
theorem hdLeft : LeftO hdP hdV hdL hdX hdK.obs hdK.val 2078 := fun w => by
  obtain ⟨⟨h, gs, d, k, os⟩, e, e'⟩ := Option.map_eq_some_iff.mp (hdBoot w)
  simp only [Prod.mk.injEq] at e'
  obtain ⟨rfl, rfl, rfl, rfl⟩ := e'
  unfold openEnds
  rw [e, Option.bind_some]
  exact byRow2 "special-get-raises" (P := fun w => ∀ os, (topFrom treeTable hdP w 2078 (hdS w os)).map hdSee = some (openGood hdV hdL, hdK.val w)) hdRun0 hdRun1 w os
end
open PySem PySem.W PySem.Calls PyProof.Rows
noncomputable abbrev KK (w : World) : Frag := Mine.hz.heap_1 w.params
noncomputable abbrev MM (w : World) : Model := model PySem.Challenge.rw_rl0093_01.row.prog w
abbrev NoE : Value → Shared → Prop := fun _ _ => False

structure Gd (w : World) (g : Heap) : Prop where
  K : (KK w).In g
  top : ∃ mg mb, g.Ns mainGlobals mg ∧ g.Ns builtinsNs mb ∧ g.NoLimit ∧ (∀ x : Str, x ≠ "__name__" → mb x = bootBuiltins x)
  bmod : ∃ mg bm ob, g.Ns mainGlobals mg ∧ mg "__builtins__" = some (.ref bm) ∧ bm ≠ builtinsNs ∧ g.get? bm = some ob ∧ ob.cls = .type "module" ∧ ob.dict = some builtinsNs ∧ ob.data = .plain
theorem Gd.keeps {w : World} {g g' : Heap} (G : Gd w g) (k : g.StaysIn g') : Gd w g' :=
  ⟨G.K.keeps k, let ⟨mg, mb, a, b, c, d⟩ := G.top; ⟨mg, mb, a.keeps k, b.keeps k, c.keeps k, d⟩, let ⟨mg, bm, ob, a, b, c, d, e⟩ := G.bmod; ⟨mg, bm, ob, a.keeps k, b, c, k _ _ d, e⟩⟩

structure Ok (w : World) (os : OsState) (s : Shared) : Prop where
  gd : Gd w s.heap
  hos : s.os = os
  hgens : s.gens = #[]

structure Ar (A : Around) (n : Nat) : Prop where
  handled : A.handled = none
  depth : A.depth + n ≤ 900
  units : A.units + 8 * n ≤ 9000
theorem Ar.le {A : Around} {n k : Nat} (x : Ar A n) (h : k ≤ n) : Ar A k := ⟨x.handled, by have := x.depth; lia, by have := x.units; lia⟩
theorem Ar.deeper {A : Around} {n : Nat} {env : Env} (x : Ar A (n + 1)) : Ar (A.deeper env) n :=
  ⟨x.handled, by have := x.depth; show A.depth + 1 + n ≤ 900; lia, by have := x.units; show A.units + 3 + 8 * n ≤ 9000; lia⟩
theorem Ar.room {A : Around} {n : Nat} (x : Ar A n) : A.depth < recursionLimit := by have := x.depth; show A.depth < 1000; lia
theorem Ar.cl {A : Around} {n : Nat} (x : Ar A n) : A.units < cLine := by have := x.units; show A.units < 9900; lia

noncomputable def At (h : Heap) (a : Addr) (P : Obj → Prop) : Prop := ∃ o, h.get? a = some o ∧ P o
theorem At.keeps {h h' : Heap} {a : Addr} {P : Obj → Prop} (x : At h a P) (k : ∀ o, h.get? a = some o → h'.get? a = some o) : At h' a P :=
  let ⟨o, e, p⟩ := x; ⟨o, k o e, p⟩
theorem At.lt {h : Heap} {a : Addr} {P : Obj → Prop} (x : At h a P) : a < h.objs.size := let ⟨_, e, _⟩ := x; Heap.lt_size e

abbrev Nw := List (Addr × (Obj → Prop))
/-- a frame's names, as far as told -/
abbrev Fm := List (Str × Option Value)
structure NsF (h : Heap) (L : Addr) (fr : Fm) : Prop where
  ex : ∃ m, h.Ns L m ∧ ∀ p ∈ fr, m p.1 = p.2
  nd : (fr.map (·.1)).Nodup
theorem NsF.lt {h : Heap} {L : Addr} {fr : Fm} (x : NsF h L fr) : L < h.objs.size := let ⟨_, n, _⟩ := x.ex; n.lt
theorem NsF.keeps {h h' : Heap} {L : Addr} {fr : Fm} (x : NsF h L fr) (k : ∀ b o, h.get? b = some o → h'.get? b = some o) : NsF h' L fr :=
  ⟨let ⟨m, n, q⟩ := x.ex; ⟨m, n.keeps k, q⟩, x.nd⟩
theorem NsF.extBut {h h' : Heap} {L b : Addr} {fr : Fm} (x : NsF h L fr) (k : Heap.ExtBut b h h') (e : L ≠ b) : NsF h' L fr :=
  ⟨let ⟨m, n, q⟩ := x.ex; ⟨m, n.extBut k e, q⟩, x.nd⟩
/-- one entry of a list turns -/
inductive UpdF : Fm → Str → Value → Fm → Prop
  | head {x : Str} {o : Option Value} {v : Value} {r : Fm} : UpdF ((x, o) :: r) x v ((x, some v) :: r)
  | tail {x : Str} {v : Value} {p : Str × Option Value} {r r' : Fm} : UpdF r x v r' → UpdF (p :: r) x v (p :: r')
theorem UpdF.keys {fr fr' : Fm} {x : Str} {v : Value} (u : UpdF fr x v fr') : fr'.map (·.1) = fr.map (·.1) := by
  induction u with
  | head => rfl
  | tail _ ih => rw [List.map_cons, List.map_cons, ih]
theorem UpdF.mem {fr fr' : Fm} {x : Str} {v : Value} (u : UpdF fr x v fr') : x ∈ fr.map (·.1) := by
  induction u with
  | head => exact .head _
  | tail _ ih => exact .tail _ ih
theorem UpdF.told {fr fr' : Fm} {x : Str} {v : Value} {m : Str → Option Value} (u : UpdF fr x v fr') (nd : (fr.map (·.1)).Nodup) (q : ∀ p ∈ fr, m p.1 = p.2) : ∀ p ∈ fr', (if p.1 = x then some v else m p.1) = p.2 := by
  induction u with
  | head =>
    rename_i x o v r
    intro p hp
    rw [List.map_cons, List.nodup_cons] at nd
    rcases List.mem_cons.mp hp with rfl | hp
    · exact if_pos rfl
    · have hne : p.1 ≠ x := fun z => nd.1 (List.mem_map.mpr ⟨p, hp, z⟩)
      rw [if_neg hne]
      exact q p (.tail _ hp)
  | tail u ih =>
    rename_i x v p' r r'
    intro p hp
    rw [List.map_cons, List.nodup_cons] at nd
    rcases List.mem_cons.mp hp with rfl | hp
    · have hne : p.1 ≠ x := fun z => nd.1 (by rw [z]; exact u.mem)
      rw [if_neg hne]
      exact q p (.head _)
    · exact ih nd.2 (fun p hp => q p (.tail _ hp)) p hp
theorem NsF.set {h h' : Heap} {L : Addr} {fr fr' : Fm} {x : Str} {v : Value} (n : NsF h L fr) (u : UpdF fr x v fr') (k : ∀ m, h.Ns L m → h'.Ns L fun y => if y = x then some v else m y) : NsF h' L fr' :=
  ⟨let ⟨m, n', q⟩ := n.ex; ⟨_, k m n', u.told n.nd q⟩, by rw [u.keys]; exact n.nd⟩

structure St (w : World) (os : OsState) (g : Heap) (L : Addr) (fr : Fm) (nw : Nw) (s : Shared) : Prop where
  gd : Gd w g
  keep : g.StaysIn s.heap
  ns : NsF s.heap L fr
  gL : g.get? L = none
  new : ∀ p ∈ nw, At s.heap p.1 p.2 ∧ g.get? p.1 = none ∧ p.1 ≠ L
  nd : (nw.map (·.1)).Nodup
  hos : s.os = os
  hgens : s.gens = #[]

section
variable {w : World} {os : OsState} {g : Heap} {L : Addr} {fr : Fm} {nw : Nw} {s s' : Shared}

theorem St.ok (S : St w os g L fr nw s) : Ok w os s := ⟨S.gd.keeps S.keep, S.hos, S.hgens⟩
theorem St.at (S : St w os g L fr nw s) (i : Nat) {a : Addr} {P : Obj → Prop} (h : nw[i]? = some (a, P)) : At s.heap a P :=
  (S.new (a, P) (List.mem_of_getElem? h)).1

/-- a step that leaves the whole heap as it was, but for new things -/
theorem St.more (S : St w os g L fr nw s) (k : s.heap.StaysIn s'.heap) (ho : s'.os = s.os) (hg : s'.gens = s.gens) : St w os g L fr nw s' :=
  ⟨S.gd, fun b o e => k b o (S.keep b o e), S.ns.keeps k, S.gL, fun p hp => ⟨(S.new p hp).1.keeps (k p.1), (S.new p hp).2⟩, S.nd, ho.trans S.hos, hg.trans S.hgens⟩
theorem St.call (S : St w os g L fr nw s) (k : s.heap.StaysIn s'.heap) (O : Ok w os s') : St w os g L fr nw s' :=
  S.more k (O.hos.trans S.hos.symm) (O.hgens.trans S.hgens.symm)
/-- the frame's map turns -/
theorem St.set (S : St w os g L fr nw s) {fr' : Fm} (hn : NsF s'.heap L fr') (hs : Heap.ExtBut L s.heap s'.heap) (ho : s'.os = s.os) (hg : s'.gens = s.gens) : St w os g L fr' nw s' :=
  ⟨S.gd, fun b o e => hs b o (fun q => by rw [q, S.gL] at e; cases e) (S.keep b o e), hn, S.gL,
    fun p hp => ⟨(S.new p hp).1.keeps fun o e => hs _ _ (S.new p hp).2.2 e, (S.new p hp).2⟩, S.nd, ho.trans S.hos, hg.trans S.hgens⟩
/-- one of the ledger's objects turns -/
theorem St.mut (S : St w os g L fr nw s) (i : Nat) {a : Addr} {P P' : Obj → Prop} (h : nw[i]? = some (a, P)) (ha : At s'.heap a P') (hs : Heap.ExtBut a s.heap s'.heap) (ho : s'.os = s.os) (hg : s'.gens = s.gens) :
    St w os g L fr (nw.set i (a, P')) s' := by
  have hm := List.mem_of_getElem? h
  have q := S.new (a, P) hm
  have hmap : (nw.set i (a, P')).map (·.1) = nw.map (·.1) := by
    rw [List.map_set]
    exact X.set_same (by rw [List.getElem?_map, h]; rfl)
  refine ⟨S.gd, fun b o e => hs b o (fun z => by rw [z, q.2.1] at e; cases e) (S.keep b o e), S.ns.extBut hs (Ne.symm q.2.2), S.gL, fun p hp => ?_, by rw [hmap]; exact S.nd, ho.trans S.hos, hg.trans S.hgens⟩
  obtain ⟨j, hj, e⟩ := List.mem_iff_getElem.mp hp
  rw [List.getElem_set] at e
  split at e
  · subst e; exact ⟨ha, q.2⟩
  · rename_i hne
    have hj' : j < nw.length := by rw [List.length_set] at hj; exact hj
    have hp' : nw[j] ∈ nw := List.getElem_mem hj'
    have r := S.new _ hp'
    rw [e] at r
    refine ⟨r.1.keeps fun o z => hs _ _ (fun z' => hne ?_) z, r.2⟩
    have nd := S.nd
    obtain ⟨hi, ei⟩ := List.getElem?_eq_some_iff.mp h
    have hinj : (nw.map (fun p => p.1))[i]? = (nw.map (fun p => p.1))[j]? := by
      rw [List.getElem?_map, List.getElem?_map, h, List.getElem?_eq_getElem hj', e]; simp [z']
    exact (List.getElem?_inj (by simpa using hi) nd).mp hinj
/-- a new object, of which the ledger bears a word -/
theorem St.alloc (S : St w os g L fr nw s) {o : Obj} {P : Obj → Prop} (hf : o.isFreed = false) (hP : P o) (hh : s'.heap = s.heap.push o) (ho : s'.os = s.os) (hg : s'.gens = s.gens) :
    St w os g L fr ((s.heap.objs.size, P) :: nw) s' := by
  have k : s.heap.StaysIn s'.heap := fun b o' e => by rw [hh]; exact Heap.get?_push_of_some _ e
  have S' := S.more k ho hg
  refine ⟨S'.gd, S'.keep, S'.ns, S'.gL, fun p hp => ?_, ?_, S'.hos, S'.hgens⟩
  · rcases List.mem_cons.mp hp with rfl | hp
    · refine ⟨⟨o, by rw [hh]; exact Heap.get?_push_size _ hf, hP⟩, ?_, Nat.ne_of_gt S.ns.lt⟩
      cases q : g.get? s.heap.objs.size with
      | none => rfl
      | some o' => exact absurd (Heap.lt_size (S.keep _ _ q)) (Nat.lt_irrefl _)
    · exact S'.new p hp
  · rw [List.map_cons, List.nodup_cons]
    refine ⟨fun hm => ?_, S.nd⟩
    obtain ⟨p, hp, e⟩ := List.mem_map.mp hm
    exact absurd (S.new p hp).1.lt (by rw [e]; exact Nat.lt_irrefl _)
/-- the base is grown: all that is neither the frame nor in the ledger goes into it -/
theorem St.rebase (S : St w os g L fr nw s) : ∃ g', g.StaysIn g' ∧ (∀ b o, s.heap.get? b = some o → b ≠ L → b ∉ nw.map (·.1) → g'.get? b = some o) ∧ g'.StaysIn s.heap ∧ St w os g' L fr nw s := by
  have hin : ∀ b o, s.heap.get? b = some o → b ≠ L → b ∉ nw.map (·.1) → (hideAll s.heap (L :: nw.map (·.1))).get? b = some o :=
    fun b o e h1 h2 => hideAll_get _ e fun q => (List.mem_cons.mp q).elim h1 h2
  have k : g.StaysIn (hideAll s.heap (L :: nw.map (·.1))) := fun b o e => hin b o (S.keep b o e) (fun q => by rw [q, S.gL] at e; cases e) fun q => by
    obtain ⟨p, hp, z⟩ := List.mem_map.mp q
    rw [← z, (S.new p hp).2.1] at e; cases e
  refine ⟨_, k, hin, fun b o e => of_hideAll _ e, ⟨S.gd.keeps k, fun b o e => of_hideAll _ e, S.ns, hideAll_none _ (.head _), fun p hp => ⟨(S.new p hp).1, hideAll_none _ (.tail _ (List.mem_map_of_mem hp)), (S.new p hp).2.2⟩, S.nd, S.hos, S.hgens⟩⟩
/-- the first of the ledger goes into the base -/
theorem St.freeze {a : Addr} {P : Obj → Prop} (S : St w os g L fr ((a, P) :: nw) s) : ∃ g', g.StaysIn g' ∧ At g' a P ∧ St w os g' L fr nw s := by
  have q := S.new (a, P) (.head _)
  have nd := S.nd
  rw [List.map_cons, List.nodup_cons] at nd
  have S₁ : St w os g L fr nw s := ⟨S.gd, S.keep, S.ns, S.gL, fun p hp => S.new p (.tail _ hp), nd.2, S.hos, S.hgens⟩
  obtain ⟨g', k, hin, _, S'⟩ := S₁.rebase
  obtain ⟨o, e, p⟩ := q.1
  exact ⟨g', k, ⟨o, hin a o e q.2.2 nd.1, p⟩, S'⟩
/-- the first of the ledger is forgotten -/
theorem St.drop {p : Addr × (Obj → Prop)} (S : St w os g L fr (p :: nw) s) : St w os g L fr nw s := by
  have nd := S.nd
  rw [List.map_cons, List.nodup_cons] at nd
  exact ⟨S.gd, S.keep, S.ns, S.gL, fun p hp => S.new p (.tail _ hp), nd.2, S.hos, S.hgens⟩
end
/-- a frame's environment, kept shut -/
noncomputable def EnvIs (env : Env) (qual : Str) (scope : Scope) (L f : Addr) (cd : Value) : Prop := env = envOf qual scope L f cd
structure EnvF (env : Env) (L : Addr) : Prop where
  locals : env.locals = L
  kind : env.scope.kind = .function
  globals : env.globals = mainGlobals
  builtins : env.builtins = builtinsNs
  inter : interactive env = false
theorem EnvIs.facts {env : Env} {qual : Str} {scope : Scope} {L f : Addr} {cd : Value} (h : EnvIs env qual scope L f cd) (hk : scope.kind = .function) (hi : interactive (envOf qual scope L f cd) = false) : EnvF env L := by
  cases h; exact ⟨rfl, hk, rfl, rfl, hi⟩
theorem EnvF.store {env : Env} {L : Addr} (h : EnvF env L) : (env.scope.kind == .class || (env.scope.kind == .module && env.locals != env.globals)) = false := by rw [h.kind]; rfl
noncomputable def retV (fl : Flow) : Value := match fl with | .ret v => v | _ => .none

section
variable {w : World} {os : OsState} {g : Heap} {L f : Addr} {fr : Fm} {nw : Nw} {s : Shared} {A : Around} {n : Nat} {qual : Str} {scope : Scope} {cd : Value}

theorem enter {args : Args} {binds : List (Str × Value)} {name : Str} {params : Arguments} {body : List Stmt} {dV kV doc pm cdv ct oc : Value} {an od : Option Addr} {osl : Array (Option Value)} {R : Result → Shared → Prop}
    (hA : Ar A (n + 1)) (O : Ok w os s)
    (ho : (KK w).lookup f = some ⟨oc, od, .func (fnOf name qual params body scope dV kV doc pm an cdv ct), osl⟩) (hcd : codeIn (KK w) cdv qual = true)
    (hbind : BindsTo s (fnOf name qual params body scope dV kV doc pm an cdv ct) args binds) (hloc : ∀ y ∈ binds, scope.names.lookup y.1 = some .local)
    (hcell : ∀ x ∈ scope.names, x.2 ≠ .cell) (hco : scope.isCoroutine = false) (hgen : scope.isGenerator = false) (hk : scope.kind = .function)
    (hfr : ∀ p ∈ fr, binds.reverse.lookup p.1 = p.2) (hnd : (fr.map (·.1)).Nodup)
    (h : ∀ L s' A' env, EnvIs env qual scope L f cdv → St w os s.heap L fr [] s' → Ar A' n → wpAny (MM w) A' (execs body env) (fun fl s'' => R (.ok (.ret (retV fl))) s'') NoE s') :
    codeAny (MM w) A (.call (.ref f) args) R s := by
  obtain ⟨mg, mb, _, _, hlim, _⟩ := O.gd.top
  refine codeAny_call_def (fd := fnOf name qual params body scope dV kV doc pm an cdv ct) (body := body) (binds := binds) hA.room (O.gd.K _ _ ho) rfl hlim (codeRec_of O.gd.K hcd) rfl hbind hcell hloc (fun h₀ hns hk₀ => ?_) hco hgen hk
  have hn : s.heap.get? s.heap.objs.size = none := by
    cases q : s.heap.get? s.heap.objs.size with
    | none => rfl
    | some o => exact absurd (Heap.lt_size q) (Nat.lt_irrefl _)
  have := h s.heap.objs.size { s with heap := h₀, toks := s.toks + binds.length } (A.deeper (envOf qual scope s.heap.objs.size f cdv)) _ rfl ⟨O.gd, hk₀, ⟨⟨_, hns, hfr⟩, hnd⟩, hn, (fun _ hp => nomatch hp), List.nodup_nil, O.hos, O.hgens⟩ hA.deeper
  exact wpAny_mono this (fun fl _ x => by cases fl <;> exact x) fun _ _ x => x.elim

/-- a name of the frame's -/
structure NmL (env : Env) (x : Str) : Prop where
  k : env.kindOf x = some .local
  d : (x == ("__debug__" : Str)) = false
theorem r_ldn {env : Env} {x : Str} {v : Value} {Q : Value → Shared → Prop} (e : EnvF env L) (S : St w os g L fr nw s) (hv : (x, some v) ∈ fr) (h : Q v s) (hl : NmL env x) :
    wpAny (MM w) A (loadName env x) Q NoE s := let ⟨_, n, q⟩ := S.ns.ex; wpAny_loadName_local e.kind hl.k (by rw [e.locals]; exact n) (q _ hv) h
theorem r_ld {env : Env} {x : Str} {v : Value} {pos : Pos} {Q : Value → Shared → Prop} (e : EnvF env L) (S : St w os g L fr nw s) (hv : (x, some v) ∈ fr) (h : Q v s) (hl : NmL env x) :
    wpAny (MM w) A (eval (.Name x pos) env) Q NoE s := wpAny_Name (r_ldn e S hv h hl) hl.d
theorem r_st {env : Env} {x : Str} {v : Value} {fr' : Fm} {Q : Unit → Shared → Prop} (e : EnvF env L) (S : St w os g L fr nw s) (u : UpdF fr x v fr')
    (h : ∀ s', St w os g L fr' nw s' → Q () s') (hl : NmL env x) :
    wpAny (MM w) A (storeName env x v) Q NoE s := by
  obtain ⟨m, n, q⟩ := S.ns.ex
  have hL := e.locals
  exact wpAny_storeName_local hl.k (by rw [hL]; exact n) (fun h' hn hs => h _ (S.set (s' := { s with heap := h', toks := s.toks + 1 }) ⟨⟨_, by rw [hL] at hn; exact hn, u.told S.ns.nd q⟩, by rw [u.keys]; exact S.ns.nd⟩ (by rw [hL] at hs; exact hs.extBut) rfl rfl)) e.store

theorem mg_none {K : Frag} {h : Heap} {mg : Str → Option Value} {n : Str} (X : K.In h) (G : h.Ns mainGlobals mg) (e : nsIn K mainGlobals n = some none) : mg n = none := by
  obtain ⟨o, es, ep, ho, hd, _, hf⟩ := G
  unfold nsIn at e
  split at e
  · rename_i c d es' n' sl q
    have := X _ _ q
    rw [ho] at this
    cases this
    cases hd
    split at e
    · cases e
    · rename_i hnf
      have := hf n
      rw [← this]
      unfold nsFind findBy
      rw [← Array.find?_toList]
      have hh : es.toList.find? (fun e => e.key.isStr n) = none := hnf
      simp [hh]
  · cases e

theorem r_expr {env : Env} {ex : Expr} {pos : Pos} {Q : Flow → Shared → Prop} (e : EnvF env L) (h : wpAny (MM w) A (eval ex env) (fun v s' => match v with | .ref _ => False | _ => Q .next s') NoE s)
    (hs : swapsWith ex none pos.line env = pure false := by rfl) : wpAny (MM w) A (exec (.Expr ex pos) env) Q NoE s := wpAny_Expr h e.inter hs

/-- a name of the module's or a built-in, by its value -/
noncomputable def NmV (w : World) (env : Env) (x : Str) (v : Value) : Prop := ∀ (A : Around) (pos : Pos) (s : Shared) (Q : Value → Shared → Prop), Gd w s.heap → Q v s → wpAny (MM w) A (eval (.Name x pos) env) Q NoE s
theorem nm_glob {env : Env} {x : Str} {v : Value} (e : EnvF env L) (hl : env.kindOf x = some .globalImplicit) (hv : nsIn (KK w) mainGlobals x = some (some v)) (hd : (x == ("__debug__" : Str)) = false) : NmV w env x v := by
  intro A pos s Q G h
  obtain ⟨mg, mb, hmg, hb, _, _⟩ := G.top
  exact Name_function_global e.kind hl (loadGlobal_global (by rw [e.globals]; exact hmg) (mg_of G.K hmg hv) h) hd
theorem nm_bi {env : Env} {x : Str} {v : Value} (e : EnvF env L) (hl : env.kindOf x = some .globalImplicit) (hn : nsIn (KK w) mainGlobals x = some none) (hv : bootBuiltins x = some v) (hx : x ≠ "__name__") (hd : (x == ("__debug__" : Str)) = false) : NmV w env x v := by
  intro A pos s Q G h
  obtain ⟨mg, mb, hmg, hb, _, hbb⟩ := G.top
  exact Name_function_global e.kind hl (loadGlobal_builtin (by rw [e.globals]; exact hmg) (mg_none G.K hmg hn) (by rw [e.builtins]; exact hb) ((hbb x hx).trans hv) h) hd
theorem r_nm {env : Env} {x : Str} {v : Value} {pos : Pos} {Q : Value → Shared → Prop} (n : NmV w env x v) (S : St w os g L fr nw s) (h : Q v s) : wpAny (MM w) A (eval (.Name x pos) env) Q NoE s := n A pos s Q S.ok.gd h
theorem r_int {i : Int} {k : Nat} {pos : Pos} {env : Env} {Q : Value → Shared → Prop} (S : St w os g L fr nw s) (h : ∀ t s', St w os g L fr nw s' → Q (.int i t) s') :
    wpAny (MM w) A (eval (.Constant (.int i) k pos) env) Q NoE s := wpAny_Constant_int (h _ _ (S.more (fun _ _ e => e) rfl rfl))
theorem r_str {x : Str} {k : Nat} {pos : Pos} {env : Env} {Q : Value → Shared → Prop} (S : St w os g L fr nw s) (h : ∀ t s', St w os g L fr nw s' → Q (.str x t) s') :
    wpAny (MM w) A (eval (.Constant (.str x) k pos) env) Q NoE s := wpAny_Constant_str (h _ _ (S.more (fun _ _ e => e) rfl rfl))
end
/-- a plain list, a plain tuple; a list of which its class and items are told -/
noncomputable def ListO (vs : List Value) : Obj → Prop := fun o => ∃ n, o = { cls := .type "list", data := .seq vs.toArray n }
noncomputable def TupO (vs : List Value) : Obj → Prop := fun o => ∃ n, o = { cls := .type "tuple", data := .seq vs.toArray n }
noncomputable def ListW (vs : List Value) : Obj → Prop := fun o => o.cls = .type "list" ∧ ∃ n, o.data = .seq vs.toArray n
theorem At.isList {h : Heap} {l : Addr} {vs : List Value} (x : At h l (ListO vs)) : h.IsList l vs.toArray := let ⟨_, e, n, z⟩ := x; ⟨_, e, by rw [z], n, by rw [z]⟩
theorem At.isListW {h : Heap} {l : Addr} {vs : List Value} (x : At h l (ListW vs)) : h.IsList l vs.toArray := x
theorem At.isTuple {h : Heap} {l : Addr} {vs : List Value} (x : At h l (TupO vs)) : h.IsTuple l vs.toArray := let ⟨_, e, n, z⟩ := x; ⟨_, e, by rw [z], n, by rw [z]⟩
theorem At.isTup {h : Heap} {l : Addr} {vs : List Value} (x : At h l (TupO vs)) : IsTup h l vs.toArray := x.isTuple
theorem At.isL {h : Heap} {l : Addr} {vs : List Value} (x : At h l (ListO vs)) : ∃ n, IsL h l vs.toArray n := let ⟨_, e, n, z⟩ := x; ⟨n, by rw [z] at e; exact e⟩

section
variable {w : World} {os : OsState} {g : Heap} {L f : Addr} {fr : Fm} {nw : Nw} {s : Shared} {A : Around} {n : Nat} {qual : Str} {scope : Scope} {cd : Value}
  {Q : Value → Shared → Prop} {a b : Int} {t u : Tok}

theorem St.tok (S : St w os g L fr nw s) {k : Nat} : St w os g L fr nw { s with toks := k } := S.more (fun _ _ e => e) rfl rfl

theorem r_add (S : St w os g L fr nw s) (h : ∀ t s', St w os g L fr nw s' → Q (.int (a + b) t) s') : wpAny (MM w) A (binaryOp .Add (.int a t) (.int b u)) Q NoE s := add_int (h _ _ S.tok)
theorem r_iadd (S : St w os g L fr nw s) (h : ∀ t s', St w os g L fr nw s' → Q (.int (a + b) t) s') : wpAny (MM w) A (inplaceOp .Add (.int a t) (.int b u)) Q NoE s := iadd_int (h _ _ S.tok)
theorem r_sub (S : St w os g L fr nw s) (h : ∀ t s', St w os g L fr nw s' → Q (.int (a - b) t) s') : wpAny (MM w) A (binaryOp .Sub (.int a t) (.int b u)) Q NoE s := sub_int' (h _ _ S.tok)
theorem r_mul (S : St w os g L fr nw s) (hm : IntMulOk a b) (h : ∀ t s', St w os g L fr nw s' → Q (.int (a * b) t) s') : wpAny (MM w) A (binaryOp .Mult (.int a t) (.int b u)) Q NoE s := mul_int (h _ _ S.tok) hm
theorem r_fdiv (S : St w os g L fr nw s) (hb : 0 < b) (hs : b < 1073741824) (h : ∀ t s', St w os g L fr nw s' → Q (.int (a / b) t) s') : wpAny (MM w) A (binaryOp .FloorDiv (.int a t) (.int b u)) Q NoE s :=
  floordiv_int (by lia) (by rw [Int.fdiv_eq_ediv_of_nonneg _ (by lia)]; exact h _ _ S.tok) (Or.inl (PyProof.noPylong_small (by lia)))
theorem r_mod (S : St w os g L fr nw s) (hb : 0 < b) (h : ∀ t s', St w os g L fr nw s' → Q (.int (a % b) t) s') : wpAny (MM w) A (binaryOp .Mod (.int a t) (.int b u)) Q NoE s :=
  mod_int' (by lia) (by rw [Int.fmod_eq_emod_of_nonneg _ (by lia)]; exact h _ _ S.tok)

theorem r_neg (S : St w os g L fr nw s) (h : ∀ t s', St w os g L fr nw s' → Q (.int (-a) t) s') : wpAny (MM w) A (unaryOp .USub (.int a t)) Q NoE s := PyProof.Rows.neg_int (h _ _ S.tok)
theorem r_tup {items : List Value} (S : St w os g L fr nw s) (hsz : items.length ≤ sizeLine) (h : ∀ p s', St w os g L fr ((p, TupO items) :: nw) s' → Q (.ref p) s') : wpAny (MM w) A (newTuple items) Q NoE s :=
  wpAny_newTuple (h _ _ (S.alloc (s' := { s with heap := _ }) rfl ⟨_, rfl⟩ rfl rfl rfl)) hsz
theorem r_list {items : List Value} (S : St w os g L fr nw s) (hsz : items.length ≤ sizeLine) (h : ∀ p s', St w os g L fr ((p, ListO items) :: nw) s' → Q (.ref p) s') : wpAny (MM w) A (newList items) Q NoE s :=
  wpAny_newList (h _ _ (S.alloc (s' := { s with heap := _ }) rfl ⟨_, rfl⟩ rfl rfl rfl)) hsz

theorem StaysIn.at {h h' : Heap} {a : Addr} {P : Obj → Prop} (x : At h a P) (k : h.StaysIn h') : At h' a P := x.keeps fun o e => k a o e
theorem St.old {a : Addr} {P : Obj → Prop} (S : St w os g L fr nw s) (x : At g a P) : At s.heap a P := x.keeps fun o e => S.keep a o e
theorem St.mem {a : Addr} {P : Obj → Prop} (S : St w os g L fr nw s) (h : (a, P) ∈ nw) : At s.heap a P := (S.new _ h).1
/-- unpacking a tuple -/
theorem r_untup {elts : List Expr} {x1 : Nat} {pos : Pos} {p : Addr} {items : List Value} {env : Env} {Q : Unit → Shared → Prop} (hA : Ar A n) (S : St w os g L fr nw s) (ht : At s.heap p (TupO items))
    (hn : (assignEach elts env).length = items.length) (hstar : (assignEach elts env).findIdx? (·.1) = none)
    (h : ∀ s', St w os g L fr nw s' → wpAny (MM w) A (assignInOrder ((assignEach elts env).map (·.2)) items) Q NoE s') :
    wpAny (MM w) A (assign (.Tuple elts x1 pos) env (.ref p)) Q NoE s :=
  wpAny_assign_Tuple hA.handled ht.isTuple (by rw [List.size_toArray]; exact hn) hstar fun h' hx =>
    have k : s.heap.StaysIn h' := fun b o e => hx b o (Nat.ne_of_lt (Heap.lt_size e)) e
    h _ (S.more (s' := { s with heap := h' }) k rfl rfl)
end

/-- values told -/
noncomputable def VI (v : Value) (k : Int) : Prop := ∃ t, v = .int k t
noncomputable def VO (v : Value) (o : Option Int) : Prop := match o with | none => v = .none | some b => VI v b
noncomputable def VS (v : Value) (x : List Nat) : Prop := ∃ t, v = .str ⟨x.toArray⟩ t

theorem At.imp {h : Heap} {a : Addr} {P P' : Obj → Prop} (x : At h a P) (i : ∀ o, P o → P' o) : At h a P' := let ⟨o, e, p⟩ := x; ⟨o, e, i o p⟩

theorem sN {a m M : Nat} (h : a ≤ m) (b : Nat.ble m M = true) : a ≤ M := Nat.le_trans h (Nat.le_of_ble_eq_true b)
local macro_rules | `(tactic| walk_at "ar") => `(tactic| first | with_reducible exact Int.natCast_nonneg _ | with_reducible assumption | exact Nat.le_of_ble_eq_true rfl | (refine sN ?h ?b; (case h => with_reducible assumption); (case b => exact rfl)) | lia)
local macro_rules | `(tactic| walk_at "m_mem") => `(tactic| first | with_reducible assumption | with_reducible exact List.mem_cons_self | (refine List.mem_cons_of_mem _ ?_; walk_at "m_mem"))
local macro_rules | `(tactic| walk_at "m_upd") => `(tactic| first | with_reducible exact UpdF.head | (apply UpdF.tail; walk_at "m_upd"))
local macro_rules | `(tactic| walk_at "m_all") => `(tactic| first | exact List.forall_mem_nil _ | (refine List.forall_mem_cons.mpr ⟨rfl, ?_⟩; walk_at "m_all"))
local macro_rules | `(tactic| walk_at "m_nd") => `(tactic| (simp only [List.map_cons, List.map_nil]; decide))
local macro_rules | `(tactic| walk_at "unaryOp USub int") => `(tactic| (refine' r_neg ?S ?_; (case S => with_reducible assumption); intro t' s' S'))
local macro_rules | `(tactic| walk_at "eval Name") => `(tactic| (refine' r_nm ?l ?S ?_; (case l => with_reducible assumption); (case S => with_reducible assumption)))
local macro_rules | `(tactic| walk_at "eval Name") => `(tactic| (refine' r_ld ?e ?S ?v ?_ ?l; (case l => with_reducible assumption); (case e => with_reducible assumption); (case S => with_reducible assumption); (case v => walk_at "m_mem")))
local macro_rules | `(tactic| walk_at "storeName") => `(tactic| (refine' r_st ?e ?S ?u ?_ ?l; (case l => with_reducible assumption); (case e => with_reducible assumption); (case S => with_reducible assumption); (case u => k_dflt (walk_at "m_upd")); intro s' S'))
local macro_rules | `(tactic| walk_at "loadName") => `(tactic| (refine' r_ldn ?e ?S ?v ?_ ?l; (case l => with_reducible assumption); (case e => with_reducible assumption); (case S => with_reducible assumption); (case v => k_dflt (walk_at "m_mem"))))
local macro_rules | `(tactic| walk_at "exec Expr") => `(tactic| (refine' r_expr ?e ?_ ?hs; (case e => with_reducible assumption); (case hs => k_dflt (exact rfl))))
local macro_rules | `(tactic| walk_at "binaryOp Add int int") => `(tactic| (refine' r_add ?S ?_; (case S => with_reducible assumption); intro t' s' S'))
local macro_rules | `(tactic| walk_at "inplaceOp Add int int") => `(tactic| (refine' r_iadd ?S ?_; (case S => with_reducible assumption); intro t' s' S'))
local macro_rules | `(tactic| walk_at "binaryOp Sub int int") => `(tactic| (refine' r_sub ?S ?_; (case S => with_reducible assumption); intro t' s' S'))
local macro_rules | `(tactic| walk_at "binaryOp Mod int int") => `(tactic| (refine' r_mod ?S ?b ?_; (case S => with_reducible assumption); (case b => k_dflt (walk_at "ar")); intro t' s' S'))
local macro_rules | `(tactic| walk_at "binaryOp FloorDiv int int") => `(tactic| (refine' r_fdiv ?S ?b ?c ?_; (case S => with_reducible assumption); (case b => k_dflt (walk_at "ar")); (case c => k_dflt (walk_at "ar")); intro t' s' S'))
local macro_rules | `(tactic| walk_at "binaryOp Mult int int") => `(tactic| (refine' r_mul ?S ?m ?_; (case S => with_reducible assumption); (case m => k_dflt (first | exact IntMulOk.of_right (intBits_le_64 (by lia) (by lia)) | exact IntMulOk.of_left (intBits_le_64 (by lia) (by lia)))); intro t' s' S'))
local macro_rules | `(tactic| walk_at "eval Constant int") => `(tactic| (refine' r_int ?S ?_; (case S => with_reducible assumption); intro t' s' S'))
local macro_rules | `(tactic| walk_at "eval Constant str") => `(tactic| (refine' r_str ?S ?_; (case S => with_reducible assumption); intro t' s' S'))
local macro_rules | `(tactic| walk_at "newList") => `(tactic| (refine' r_list ?S ?z ?_; (case S => with_reducible assumption); (case z => k_dflt (exact Nat.le_of_ble_eq_true rfl)); intro p' s' S'))
local macro_rules | `(tactic| walk_at "newTuple") => `(tactic| (refine' r_tup ?S ?z ?_; (case S => with_reducible assumption); (case z => k_dflt (exact Nat.le_of_ble_eq_true rfl)); intro p' s' S'))
local macro_rules | `(tactic| walk_at "m_at") => `(tactic| first
  | (refine' St.old ?S ?x; (case S => assumption); (case x => assumption))
  | (refine' St.mem ?S ?x; (case S => assumption); (case x => walk_at "m_mem"))
  | assumption)
local macro_rules | `(tactic| walk_at "assign Tuple") => `(tactic| (refine' r_untup ?A ?S ?x ?h1 ?h2 ?_; (case A => with_reducible assumption); (case S => with_reducible assumption); (case x => k_dflt (walk_at "m_at")); (case h1 => k_dflt (rfl)); (case h2 => k_dflt (rfl)); intro s' S'))
/-- one entry of the ledger turns -/
inductive UpdN : Nw → Addr → (Obj → Prop) → (Obj → Prop) → Nw → Prop
  | head {a : Addr} {P P' : Obj → Prop} {r : Nw} : UpdN ((a, P) :: r) a P P' ((a, P') :: r)
  | tail {a : Addr} {P P' : Obj → Prop} {q : Addr × (Obj → Prop)} {r r' : Nw} : UpdN r a P P' r' → UpdN (q :: r) a P P' (q :: r')
theorem UpdN.is {nw nw' : Nw} {a : Addr} {P P' : Obj → Prop} (u : UpdN nw a P P' nw') : ∃ i, nw[i]? = some (a, P) ∧ nw' = nw.set i (a, P') := by
  induction u with
  | head => exact ⟨0, rfl, rfl⟩
  | tail _ ih => obtain ⟨i, h1, h2⟩ := ih; exact ⟨i + 1, by simpa using h1, by rw [h2]; rfl⟩
/-- one entry of the ledger goes -/
inductive DelN : Nw → Addr → (Obj → Prop) → Nw → Prop
  | head {a : Addr} {P : Obj → Prop} {r : Nw} : DelN ((a, P) :: r) a P r
  | tail {a : Addr} {P : Obj → Prop} {q : Addr × (Obj → Prop)} {r r' : Nw} : DelN r a P r' → DelN (q :: r) a P (q :: r')
theorem DelN.mem {nw nw' : Nw} {a : Addr} {P : Obj → Prop} (u : DelN nw a P nw') : (a, P) ∈ nw := by
  induction u with
  | head => exact .head _
  | tail _ ih => exact .tail _ ih
theorem DelN.sub {nw nw' : Nw} {a : Addr} {P : Obj → Prop} (u : DelN nw a P nw') : nw'.Sublist nw := by
  induction u with
  | head => exact List.sublist_cons_self _ _
  | tail _ ih => exact ih.cons_cons _
theorem DelN.ne {nw nw' : Nw} {a : Addr} {P : Obj → Prop} (u : DelN nw a P nw') (nd : (nw.map (·.1)).Nodup) : ∀ p ∈ nw', p.1 ≠ a := by
  induction u with
  | head =>
    rw [List.map_cons, List.nodup_cons] at nd
    exact fun p hp e => nd.1 (List.mem_map.mpr ⟨p, hp, e⟩)
  | tail u ih =>
    rw [List.map_cons, List.nodup_cons] at nd
    intro p hp
    rcases List.mem_cons.mp hp with rfl | hp
    · exact fun e => nd.1 (List.mem_map.mpr ⟨_, u.mem, e.symm⟩)
    · exact ih nd.2 p hp

structure Hold (P : Prop) : Prop where
  out : P
structure CutEnd (f : Flow) (P : Prop) : Prop where
  eq : f = .next
  out : P
section
variable {w : World} {os : OsState} {g : Heap} {L f : Addr} {fr : Fm} {nw nw' : Nw} {s s' : Shared} {A : Around} {n : Nat} {env : Env}

theorem St.upd (S : St w os g L fr nw s) {a : Addr} {P P' : Obj → Prop} (u : UpdN nw a P P' nw') (ha : At s'.heap a P') (hs : Heap.ExtBut a s.heap s'.heap) (ho : s'.os = s.os) (hg : s'.gens = s.gens) :
    St w os g L fr nw' s' := by
  obtain ⟨i, h1, h2⟩ := u.is
  rw [h2]; exact S.mut i h1 ha hs ho hg
theorem St.lose (S : St w os g L fr nw s) {a : Addr} {P : Obj → Prop} (u : DelN nw a P nw') (hs : Heap.ExtBut a s.heap s'.heap) (ho : s'.os = s.os) (hg : s'.gens = s.gens) :
    St w os g L fr nw' s' := by
  have q := S.new _ u.mem
  refine ⟨S.gd, fun b o e => hs b o (fun z => by rw [z, q.2.1] at e; cases e) (S.keep b o e), S.ns.extBut hs (Ne.symm q.2.2), S.gL, fun p hp => ?_, S.nd.sublist (u.sub.map _), ho.trans S.hos, hg.trans S.hgens⟩
  have r := S.new p (u.sub.subset hp)
  exact ⟨r.1.keeps fun o z => hs _ _ (u.ne S.nd p hp) z, r.2⟩
theorem St.del (S : St w os g L fr nw s) {a : Addr} {P : Obj → Prop} (u : DelN nw a P nw') : St w os g L fr nw' s := S.lose u (fun _ _ _ e => e) rfl rfl
theorem St.imp (S : St w os g L fr nw s) {a : Addr} {P P' : Obj → Prop} (u : UpdN nw a P P' nw') (i : ∀ o, P o → P' o) : St w os g L fr nw' s := by
  obtain ⟨j, h1, h2⟩ := u.is
  exact S.upd u ((S.at j h1).imp i) (fun _ _ _ e => e) rfl rfl

theorem m_for {target : Expr} {it : Value} {body : List Stmt} {R : Result → Shared → Prop} (N : Nat) (I : Nat → Shared → Prop) (F : Shared → Prop)
    (turn : ∀ i s, i < N → I i s → ∀ Ct Bt : Shared → Prop, (∀ s', I (i + 1) s' → Ct s') → (∀ s', F s' → Bt s') → wpAny (MM w) A (pyNext it) (fun r s₁ => match r with
      | none => False
      | some v => wpAny (MM w) A (assign target env v) (fun _ s₂ => wpAny (MM w) A (execs body env) (fun f s₃ => match f with
          | .next | .cont => Hold (Ct s₃)
          | .brk => Hold (Bt s₃)
          | .ret v => R (.ok (.ret v)) s₃) NoE s₂) NoE s₁) NoE s)
    (last : ∀ s, I N s → wpAny (MM w) A (pyNext it) (fun r s₁ => match r with | none => Hold (F s₁) | some _ => False) NoE s)
    (fin : ∀ s, F s → R (.ok .next) s)
    (i : Nat) (hi : i ≤ N) (h : I i s) (ht : ∀ v, letOwnedTupleGo target it v = pure () := by intro _; rfl) : codeAny (MM w) A (.forLoop target it body [] env) R s := by
  refine codeAny_forLoop (fun n s => ∃ i, i ≤ N ∧ n = N - i ∧ I i s) ?_ (N - i) ⟨i, hi, rfl, h⟩ ht
  rintro n s ⟨i, hi, rfl, hI⟩
  by_cases e : i = N
  · subst e
    refine wpAny_mono (last s hI) (fun r s₁ hr => ?_) fun _ _ x => x.elim
    cases r with
    | none => exact wpAny_execs_nil (fin _ hr.out)
    | some v => exact hr.elim
  · refine wpAny_mono (turn i s (by lia) hI _ _ (fun _ x => x) (fun _ x => x)) (fun r s₁ hr => ?_) fun _ _ x => x.elim
    cases r with
    | none => exact hr.elim
    | some v =>
      refine wpAny_mono hr (fun _ s₂ h₂ => wpAny_mono h₂ (fun fl s₃ h₃ => ?_) fun _ _ x => x.elim) fun _ _ x => x.elim
      cases fl with
      | next => exact ⟨N - (i + 1), by lia, i + 1, by lia, rfl, h₃.out⟩
      | cont => exact ⟨N - (i + 1), by lia, i + 1, by lia, rfl, h₃.out⟩
      | brk => exact fin _ h₃.out
      | ret v => exact h₃

/-- a statement, then what it leaves, then the rest -/
theorem m_cut {st : Stmt} {rest : List Stmt} {Q : Flow → Shared → Prop} (P : Shared → Prop) (h1 : ∀ P' : Shared → Prop, (∀ s', P s' → P' s') → wpAny (MM w) A (exec st env) (fun f s' => CutEnd f (P' s')) NoE s)
    (h2 : ∀ s', P s' → wpAny (MM w) A (execs rest env) Q NoE s') : wpAny (MM w) A (execs (st :: rest) env) Q NoE s :=
  wpAny_execs_cons (wpAny_mono (h1 P fun _ x => x) (fun f s' x => by obtain ⟨rfl, x⟩ := x; exact h2 s' x) fun _ _ x => x)

theorem m_while {test : Expr} {body : List Stmt} {R : Result → Shared → Prop} (I : Nat → Shared → Prop) (F : Shared → Prop)
    (turn : ∀ n s, I n s → ∀ Ct Bt : Shared → Prop, (∀ s', (∃ m, m < n ∧ I m s') → Ct s') → (∀ s', F s' → Bt s') → wpAny (MM w) A (isTrue test env (eval test env)) (fun b s₂ =>
        if b then wpAny (MM w) A (execs body env) (fun f s₃ => match f with
            | .next | .cont => Hold (Ct s₃)
            | .brk => Hold (Bt s₃)
            | .ret v => R (.ok (.ret v)) s₃) NoE s₂
        else Hold (Bt s₂)) NoE s)
    (fin : ∀ s, F s → R (.ok .next) s)
    (n : Nat) (h : I n s) : codeAny (MM w) A (.whileLoop test body [] env) R s := by
  refine codeAny_whileLoop I (fun n s hI => ?_) n h
  refine wpAny_mono (turn n s hI _ _ (fun _ x => x) (fun _ x => x)) (fun b s₂ h₂ => ?_) fun _ _ x => x.elim
  cases b with
  | false => exact wpAny_execs_nil (fin _ h₂.out)
  | true =>
    refine wpAny_mono h₂ (fun fl s₃ h₃ => ?_) fun _ _ x => x.elim
    cases fl <;> first | exact h₃ | exact fin _ h₃.out | exact h₃.out

abbrev LIterO (l : Addr) (i : Nat) : Obj → Prop := fun o => o.cls = .type "list_iterator" ∧ o.data = .fields #[.ref l, .int i 0]
abbrev SIterO (x : Str) (t : Tok) (i : Nat) : Obj → Prop := fun o => o.cls = .type "str_ascii_iterator" ∧ o.data = .fields #[.str x t, .int i 0]
abbrev RIterO (x left step : Int) : Obj → Prop := fun o => o = { cls := .type "range_iterator", data := .fields #[rawInt x, rawInt left, rawInt step] }

theorem r_iter_list {l : Addr} {items : List Value} {Q : Value → Shared → Prop} (S : St w os g L fr nw s) (hl : s.heap.IsList l items.toArray)
    (h : ∀ it s', St w os g L fr ((it, LIterO l 0) :: nw) s' → Q (.ref it) s') : wpAny (MM w) A (pyIter (.ref l)) Q NoE s :=
  wpAny_pyIter_list hl (h _ _ (S.alloc (s' := { s with heap := _ }) rfl ⟨rfl, rfl⟩ rfl rfl rfl))
theorem r_next_list {it l : Addr} {i : Nat} {items : List Value} {v : Value} {Q : Option Value → Shared → Prop} (S : St w os g L fr nw s) (u : UpdN nw it (LIterO l i) (LIterO l (i + 1)) nw')
    (hl : s.heap.IsList l items.toArray) (hx : items[i]? = some v) (h : ∀ s', St w os g L fr nw' s' → Q (some v) s') : wpAny (MM w) A (pyNext (.ref it)) Q NoE s := by
  obtain ⟨j, h1, h2⟩ := u.is
  exact wpAny_pyNext_list_item (S.at j h1) hl (by simpa using hx) fun h' hi hs => h _ (S.upd (s' := { s with heap := h' }) u hi hs.extBut rfl rfl)
theorem r_end_list {it l : Addr} {i : Nat} {items : List Value} {Q : Option Value → Shared → Prop} (hA : Ar A n) (S : St w os g L fr nw s) (u : DelN nw it (LIterO l i) nw')
    (hl : s.heap.IsList l items.toArray) (hx : items[i]? = none) (h : ∀ s', St w os g L fr nw' s' → Q none s') : wpAny (MM w) A (pyNext (.ref it)) Q NoE s :=
  wpAny_pyNext_list_end hA.handled (S.mem u.mem) hl (by simpa using hx) fun h' hs => h _ (S.lose (s' := { s with heap := h' }) u hs rfl rfl)

theorem r_iter_str {x : Str} {t : Tok} {Q : Value → Shared → Prop} (S : St w os g L fr nw s) (ha : x.cps.all (· < 128) = true)
    (h : ∀ it s', St w os g L fr ((it, SIterO x t 0) :: nw) s' → Q (.ref it) s') : wpAny (MM w) A (pyIter (.str x t)) Q NoE s :=
  wpAny_pyIter_ascii ha (h _ _ (S.alloc (s' := { s with heap := _ }) rfl ⟨rfl, rfl⟩ rfl rfl rfl))
theorem r_next_str {it : Addr} {i c : Nat} {x : Str} {t : Tok} {Q : Option Value → Shared → Prop} (S : St w os g L fr nw s) (u : UpdN nw it (SIterO x t i) (SIterO x t (i + 1)) nw')
    (hx : x.cps[i]? = some c) (h : ∀ t' s', St w os g L fr nw' s' → Q (some (.str ⟨#[c]⟩ t')) s') : wpAny (MM w) A (pyNext (.ref it)) Q NoE s := by
  obtain ⟨j, h1, h2⟩ := u.is
  exact wpAny_pyNext_ascii_item (S.at j h1) hx fun h' hi hs => h _ _ (S.upd (s' := { s with heap := h', toks := s.toks + 1 }) u hi hs.extBut rfl rfl)
theorem r_end_str {it : Addr} {i : Nat} {x : Str} {t : Tok} {Q : Option Value → Shared → Prop} (hA : Ar A n) (S : St w os g L fr nw s) (u : DelN nw it (SIterO x t i) nw')
    (hx : x.cps[i]? = none) (h : ∀ s', St w os g L fr nw' s' → Q none s') : wpAny (MM w) A (pyNext (.ref it)) Q NoE s :=
  wpAny_pyNext_ascii_end hA.handled (S.mem u.mem) hx fun h' hs => h _ (S.lose (s' := { s with heap := h' }) u hs rfl rfl)

theorem r_next_range {it : Addr} {x left step : Int} {Q : Option Value → Shared → Prop} (S : St w os g L fr nw s) (u : UpdN nw it (RIterO x left step) (RIterO (x + step) (left - 1) step) nw')
    (hx : 0 < left) (h : ∀ t' s', St w os g L fr nw' s' → Q (some (.int x t')) s') : wpAny (MM w) A (pyNext (.ref it)) Q NoE s := by
  obtain ⟨j, h1, h2⟩ := u.is
  obtain ⟨o, e, rfl⟩ := S.at j h1
  exact wpAny_pyNext_range_item e hx fun h' hi hs => h _ _ (S.upd (s' := { s with heap := h', toks := s.toks + 1 }) u ⟨_, hi, rfl⟩ hs.extBut rfl rfl)
theorem r_end_range {it : Addr} {x left step : Int} {Q : Option Value → Shared → Prop} (hA : Ar A n) (S : St w os g L fr nw s) (u : DelN nw it (RIterO x left step) nw')
    (hx : left ≤ 0) (h : ∀ s', St w os g L fr nw' s' → Q none s') : wpAny (MM w) A (pyNext (.ref it)) Q NoE s := by
  obtain ⟨o, e, rfl⟩ := S.mem u.mem
  exact wpAny_pyNext_range_end hA.handled e hx fun h' hs => h _ (S.lose (s' := { s with heap := h' }) u hs rfl rfl)
end

local macro_rules | `(tactic| walk_at "m_isl") => `(tactic| first
  | (refine' At.isList ?y; (case y => walk_at "m_at"))
  | (refine' At.isListW ?y; (case y => walk_at "m_at")))
local macro_rules | `(tactic| walk_at "m_updn") => `(tactic| first | exact UpdN.head | (apply UpdN.tail; walk_at "m_updn"))
local macro_rules | `(tactic| walk_at "m_deln") => `(tactic| first | exact DelN.head | (apply DelN.tail; walk_at "m_deln"))
local macro_rules | `(tactic| walk_at "exec For") => `(tactic| k_dflt (refine wpAny_For ?_))
local macro_rules | `(tactic| walk_at "exec While") => `(tactic| k_dflt (refine wpAny_While ?_))
local macro_rules | `(tactic| walk_at "pyIter ref") => `(tactic| (refine' r_iter_list ?S ?x ?_; (case S => with_reducible assumption); (case x => k_dflt (walk_at "m_isl")); intro it' s' S'))
local macro_rules | `(tactic| walk_at "pyIter str") => `(tactic| (refine' r_iter_str ?S ?x ?_; (case S => with_reducible assumption); (case x => assumption); intro it' s' S'))
/-- a text by its signs -/
abbrev tx (T : List Nat) : Str := ⟨T.toArray⟩
theorem tx_len (T : List Nat) : (tx T).length = T.length := by simp [Str.length]

section
variable {w : World} {os : OsState} {g : Heap} {L : Addr} {fr : Fm} {nw nw' : Nw} {s : Shared} {A : Around} {n : Nat} {Q : Value → Shared → Prop} {l : Addr} {vs ws : List Value} {t u : Tok}

theorem noDict {h : Heap} {vs : List Value} (x : At h l (ListO vs)) : h.NoDictAt (.ref l) := by
  obtain ⟨o, e, n, rfl⟩ := x
  exact ⟨_, e, rfl⟩

theorem r_getm_append {pl : Sem Bool} {Q : Value × List Value → Shared → Prop} (hl : At s.heap l (ListO vs)) (h : Q (.builtin "list.append", [.ref l]) s) :
    wpAny (MM w) A (getMethod (.ref l) (Str.ofString "append") pl) Q NoE s := getMethod_list_of PySem.F.slot_list_append PySem.F.type_list_append hl.isList (noDict hl) h
theorem r_getm_insert {pl : Sem Bool} {Q : Value × List Value → Shared → Prop} (hl : At s.heap l (ListO vs)) (h : Q (.builtin "list.insert", [.ref l]) s) :
    wpAny (MM w) A (getMethod (.ref l) (Str.ofString "insert") pl) Q NoE s := getMethod_list_of PySem.F.slot_list_insert PySem.F.type_list_insert hl.isList (noDict hl) h

theorem r_append {v : Value} (S : St w os g L fr nw s) (u : UpdN nw l (ListO vs) (ListO (vs ++ [v])) nw') (hsz : vs.length ≤ 1000000)
    (h : ∀ s', St w os g L fr nw' s' → Q .none s') : wpAny (MM w) A (call (.builtin "list.append") [.ref l, v]) Q NoE s := by
  obtain ⟨j, h1, h2⟩ := u.is
  obtain ⟨o, e, n, rfl⟩ := S.at j h1
  refine wpAny_list_append_plain (items := vs.toArray) ⟨n, e⟩ (fun h' hp hs => h _ (S.upd (s' := { s with heap := h' }) u ?_ hs.extBut rfl rfl)) (by rw [List.size_toArray]; exact Nat.le_trans hsz (by decide))
  obtain ⟨n', e'⟩ := hp
  exact ⟨_, e', n', by simp⟩

theorem ins_eq (vs : List Value) (k : Nat) (v : Value) (hk : k ≤ vs.length) : (vs.toArray.extract 0 k).push v ++ vs.toArray.extract k = (vs.take k ++ v :: vs.drop k).toArray := by
  apply Array.toList_inj.mp
  simp only [Array.toList_append, Array.toList_push, Array.toList_extract, List.extract_eq_take_drop, List.drop_zero, Nat.sub_zero, List.size_toArray]
  rw [List.take_of_length_le (i := vs.length - k) (by rw [List.length_drop]; exact Nat.le_refl _), List.append_assoc]; rfl

theorem r_insert {k : Int} {v : Value} (S : St w os g L fr nw s) (u : UpdN nw l (ListO vs) (ListO (vs.take k.toNat ++ v :: vs.drop k.toNat)) nw') (h0 : 0 ≤ k) (hk : k ≤ vs.length) (hsz : vs.length ≤ 1000000)
    (h : ∀ s', St w os g L fr nw' s' → Q .none s') : wpAny (MM w) A (call (.builtin "list.insert") [.ref l, .int k t, v]) Q NoE s := by
  obtain ⟨j, h1, h2⟩ := u.is
  obtain ⟨o, e, n, rfl⟩ := S.at j h1
  have hf : Builtin.List.listFitsIndex k = true := by unfold Builtin.List.listFitsIndex; simp; lia
  have z : vs.toArray.size ≤ sizeLine := by rw [List.size_toArray]; exact Nat.le_trans hsz (by decide)
  refine call_meets PySem.F.slot_list_insert ⟨_, e, rfl⟩ PySem.F.entry_list_insert (PySem.F.args_list_insert_3 _ _ _) (PySem.AutoSeq1.list_insert_list_int_val_1 l vs.toArray n k t v (by simp [hf]) z) ⟨e, ?_⟩
  refine h _ (S.upd (s' := { s with heap := _ }) u ?_ (Heap.SameBut.update ..).extBut rfl rfl)
  have q := PySem.IsL.update e (fun xs => have k := if k < 0 then (k + ((xs.size : Nat) : Int)).toNat else min k.toNat xs.size; (xs.extract 0 k).push v ++ xs.extract k)
  have ek : (if k < 0 then (k + (vs.toArray.size : Int)).toNat else min k.toNat vs.toArray.size) = k.toNat := by rw [if_neg (by lia), List.size_toArray]; lia
  simp only [ek] at q
  rw [ins_eq vs k.toNat v (by lia)] at q
  exact ⟨_, q, _, rfl⟩

theorem r_len_list (S : St w os g L fr nw s) (hl : s.heap.IsList l vs.toArray) (hsz : vs.length ≤ 1000000) (h : ∀ t s', St w os g L fr nw s' → Q (.int vs.length t) s') :
    wpAny (MM w) A (call (.builtin "len") [.ref l]) Q NoE s := len_list hl (by rw [List.size_toArray]; lia) (by rw [List.size_toArray]; exact h _ _ S.tok)
theorem r_len_tup (S : St w os g L fr nw s) (hl : At s.heap l (TupO vs)) (hsz : vs.length ≤ 1000000) (h : ∀ t s', St w os g L fr nw s' → Q (.int vs.length t) s') :
    wpAny (MM w) A (call (.builtin "len") [.ref l]) Q NoE s := len_tuple hl.isTup (by rw [List.size_toArray]; lia) (by rw [List.size_toArray]; exact h _ _ S.tok)
theorem r_len_str {T : List Nat} (S : St w os g L fr nw s) (hsz : T.length ≤ 1000000) (h : ∀ t s', St w os g L fr nw s' → Q (.int T.length t) s') :
    wpAny (MM w) A (call (.builtin "len") [.str (tx T) t]) Q NoE s := PyProof.Rows.len_str (by rw [tx_len]; lia) (by rw [tx_len]; exact h _ _ S.tok)

theorem r_item_list {value slice : Expr} {k : Int} {x : Value} (hl : s.heap.IsList l vs.toArray) (h0 : 0 ≤ k) (hk : k < 1000000) (hx : vs[k.toNat]? = some x) (h : Q x s)
    (hs : subscripted slice false (.ref l) (.int k u) = operate [.ref l, .int k u] (getItem (.ref l) (.int k u)) := by with_unfolding_all rfl) :
    wpAny (MM w) A (subscriptTail value slice (.ref l) (.int k u)) Q NoE s :=
  tail_any hl.typeIs slot_list_getitem.lookup (wpAny_getItem_list hl h0 (by lia) (by simpa using hx) h) hs
theorem r_item_last {value slice : Expr} {x : Value} (hl : s.heap.IsList l vs.toArray) (hx : vs.getLast? = some x) (h : Q x s)
    (hs : subscripted slice false (.ref l) (.int (-1) u) = operate [.ref l, .int (-1) u] (getItem (.ref l) (.int (-1) u)) := by with_unfolding_all rfl) :
    wpAny (MM w) A (subscriptTail value slice (.ref l) (.int (-1) u)) Q NoE s := by
  have hne : vs.length ≠ 0 := by cases vs with | nil => cases hx | cons => simp
  refine tail_any hl.typeIs slot_list_getitem.lookup (wpAny_getItem_list_neg hl (by decide) (by rw [List.size_toArray]; lia) (by decide) ?_ h) hs
  rw [List.size_toArray, show ((-1 : Int) + (vs.length : Int)).toNat = vs.length - 1 from by lia]
  rw [List.getLast?_eq_getElem?] at hx
  simpa using hx
theorem r_item_tup {value slice : Expr} {k : Int} {x : Value} (hl : At s.heap l (TupO vs)) (h0 : 0 ≤ k) (hk : k < 1000000) (hx : vs[k.toNat]? = some x) (h : Q x s)
    (hs : subscripted slice false (.ref l) (.int k u) = operate [.ref l, .int k u] (getItem (.ref l) (.int k u)) := by with_unfolding_all rfl) :
    wpAny (MM w) A (subscriptTail value slice (.ref l) (.int k u)) Q NoE s :=
  tail_any hl.isTup.typeIs slot_tuple_getitem.lookup (PyProof.Rows.getItem_tuple hl.isTup (by lia) (by lia) (j := k.toNat) (by
    have : k.toNat < vs.length := (List.getElem?_eq_some_iff.mp hx).1
    unfold seqIndex?
    simp only [List.size_toArray]
    rw [if_neg (show ¬ k < 0 by lia), if_pos (by simp; lia)]) (by simpa using hx) h) hs

theorem r_concat {b : Addr} (S : St w os g L fr nw s) (hl : s.heap.IsList l vs.toArray) (hb : s.heap.IsList b ws.toArray) (hsz : vs.length + ws.length ≤ 1000000)
    (h : ∀ p s', St w os g L fr ((p, ListO (vs ++ ws)) :: nw) s' → Q (.ref p) s') : wpAny (MM w) A (binaryOp .Add (.ref l) (.ref b)) Q NoE s := by
  obtain ⟨⟨cls, dd, data, sl⟩, ho, hc, n, hd⟩ := id hl
  obtain ⟨⟨cls2, dd2, data2, sl2⟩, ho2, hc2, n2, hd2⟩ := id hb
  simp only at hc hd hc2 hd2
  subst hc hd hc2 hd2
  refine concat_meets ⟨_, ho, rfl⟩ ⟨_, ho2, rfl⟩ noFill_list_add seq_list_add PySem.F.slot_list_add PySem.F.entry_list_add (PySem.F.args_list_add_2 _ _) (list_addW l b vs.toArray ws.toArray n n2 dd dd2 sl sl2 (by simp; exact Nat.le_trans hsz (by decide))) ⟨ho, ho2, ?_⟩
  exact h _ _ (S.alloc (s' := { s with heap := _ }) rfl ⟨0, by simp⟩ rfl rfl rfl)

/-- slices of texts -/
theorem idx_plain (a b n : Nat) : Builtin.Str.strSliceIndices (some (a : Int)) (some (b : Int)) 1 n = (List.range (min b n - min a n)).map (fun k => min a n + k) := by
  have h1 : ¬ ((a : Int) < 0) := by lia
  have h2 : ¬ ((b : Int) < 0) := by lia
  have e1 : max (0 : Int) (min (a : Int) (n : Int)) = ((min a n : Nat) : Int) := by lia
  have e2 : max (0 : Int) (min (b : Int) (n : Int)) = ((min b n : Nat) : Int) := by lia
  simp only [Builtin.Str.strSliceIndices, PySem.sliceRange, h1, h2, if_false, e1, e2, show ((1 : Int) > 0) = True from by simp, if_true]
  by_cases hlt : ((min a n : Nat) : Int) < ((min b n : Nat) : Int)
  · have e3 : ((((min b n : Nat) : Int) - ((min a n : Nat) : Int) + 1 - 1) / 1).toNat = min b n - min a n := by rw [Int.ediv_one]; lia
    simp only [hlt, if_true, e3]
    refine List.map_congr_left fun k _ => ?_
    lia
  · have : min b n - min a n = 0 := by lia
    simp [hlt, this]
theorem idx_none_lo (u : Option Int) (n : Nat) : Builtin.Str.strSliceIndices none u 1 n = Builtin.Str.strSliceIndices (some ((0 : Nat) : Int)) u 1 n := by
  unfold Builtin.Str.strSliceIndices
  simp
  rw [show max (0 : Int) (min 0 (n : Int)) = 0 from by lia]
theorem idx_none_hi (l : Option Int) (n : Nat) : Builtin.Str.strSliceIndices l none 1 n = Builtin.Str.strSliceIndices l (some (n : Int)) 1 n := by
  unfold Builtin.Str.strSliceIndices
  simp
  rw [if_neg (show ¬ ((n : Int) < 0) by lia), show max (0 : Int) (min (n : Int) n) = n from by lia]
theorem picked_plain (T : List Nat) (a b : Nat) : (Builtin.Str.strSliceIndices (some (a : Int)) (some (b : Int)) 1 T.length).filterMap (T.toArray[·]?) = (T.take b).drop a := by
  rw [idx_plain]
  have h := StrLaws.picks T (min b T.length - min a T.length) (min a T.length) (by lia)
  simp only [List.getElem?_toArray]
  rw [h, List.drop_take]
  rw [show T.drop (min a T.length) = T.drop a from by
    rcases Nat.le_total a T.length with h | h
    · rw [Nat.min_eq_left h]
    · rw [Nat.min_eq_right h, List.drop_of_length_le (Nat.le_refl _), List.drop_of_length_le h]]
  rcases Nat.le_total a T.length with h1 | h1
  · rcases Nat.le_total b T.length with h2 | h2
    · rw [Nat.min_eq_left h1, Nat.min_eq_left h2]
    · rw [Nat.min_eq_left h1, Nat.min_eq_right h2, List.take_of_length_le (i := T.length - a) (by rw [List.length_drop]; exact Nat.le_refl _), List.take_of_length_le (by rw [List.length_drop]; lia)]
  · rw [List.drop_of_length_le h1]; simp
theorem picked_len (T : List Nat) (a b : Nat) (h : (Builtin.Str.strSliceIndices (some (a : Int)) (some (b : Int)) 1 T.length).length = T.length) : (T.take b).drop a = T := by
  rw [idx_plain, List.length_map, List.length_range] at h
  by_cases h0 : T.length = 0
  · have : T = [] := List.eq_nil_of_length_eq_zero h0
    subst this; simp
  · have ha : a = 0 := by lia
    have hb : T.length ≤ b := by lia
    subst ha
    rw [List.take_of_length_le hb]; rfl

abbrev SliceO (l u st : Option (Int × Tok)) : Obj → Prop := fun o => o.cls = .type "slice" ∧ o.data = .fields #[partValue l, partValue u, partValue st]
noncomputable def loN (l : Option (Int × Tok)) : Nat := match l with | none => 0 | some x => x.1.toNat
noncomputable def hiN (u : Option (Int × Tok)) (n : Nat) : Nat := match u with | none => n | some x => x.1.toNat
theorem picked_gen (T : List Nat) (l u : Option (Int × Tok)) (hl : ∀ x ∈ l, 0 ≤ x.1) (hu : ∀ x ∈ u, 0 ≤ x.1) :
    Builtin.Str.strSliceIndices (l.map (·.1)) (u.map (·.1)) 1 T.length = Builtin.Str.strSliceIndices (some (loN l : Int)) (some (hiN u T.length : Int)) 1 T.length := by
  have e1 : Builtin.Str.strSliceIndices (l.map (·.1)) (u.map (·.1)) 1 T.length = Builtin.Str.strSliceIndices (some (loN l : Int)) (u.map (·.1)) 1 T.length := by
    cases l with
    | none => exact idx_none_lo _ _
    | some x => have := hl x rfl; simp [loN, Int.toNat_of_nonneg this]
  have e2 : Builtin.Str.strSliceIndices (some (loN l : Int)) (u.map (·.1)) 1 T.length = Builtin.Str.strSliceIndices (some (loN l : Int)) (some (hiN u T.length : Int)) 1 T.length := by
    cases u with
    | none => exact idx_none_hi _ _
    | some x => have := hu x rfl; simp [hiN, Int.toNat_of_nonneg this]
  rw [e1, e2]
theorem r_slice_str {value slice : Expr} {T : List Nat} {a : Addr} {l u : Option (Int × Tok)} {ops : List Value} (S : St w os g L fr ((a, SliceO l u none) :: nw) s) (hl : ∀ x ∈ l, 0 ≤ x.1) (hu : ∀ x ∈ u, 0 ≤ x.1) (hsz : T.length ≤ 1000000)
    (h : ∀ t s', St w os g L fr nw s' → Q (.str (tx ((T.take (hiN u T.length)).drop (loN l))) t) s')
    (hs : subscripted slice false (.str (tx T) t) (.ref a) = operate ops (getItem (.str (tx T) t) (.ref a))) :
    wpAny (MM w) A (subscriptTail value slice (.str (tx T) t) (.ref a)) Q NoE s := by
  refine tail_any (typeIs_str s _ _) PySem.F.slot_str_getitem.lookup (wpAny_getItem_str_slice (l := l) (u := u) (st := none) (S.mem (.head _)) rfl ?_) hs
  unfold sliceMade slicePicked
  simp only [Option.map_none, Option.getD_none, tx_len, picked_gen T l u hl hu, beq_self_eq_true, Bool.true_and]
  split
  · rename_i e
    have := picked_len T _ _ (by simpa using e)
    have h' := h t s S.drop
    rw [this] at h'
    exact h'
  · rw [picked_plain]
    refine ⟨?_, h _ _ S.drop.tok⟩
    rw [tx_len]
    have : ((T.take (hiN u T.length)).drop (loN l)).length ≤ T.length := by rw [List.length_drop, List.length_take]; lia
    exact Nat.le_trans this (Nat.le_trans hsz (by decide))
theorem r_slice_sn {value slice : Expr} {T : List Nat} {a : Addr} {i : Int} {ti : Tok} {ops : List Value} (S : St w os g L fr ((a, SliceO (some (i, ti)) none none) :: nw) s) (hi : 0 ≤ i) (hsz : T.length ≤ 1000000)
    (h : ∀ t s', St w os g L fr nw s' → Q (.str (tx (T.drop i.toNat)) t) s')
    (hs : subscripted slice false (.str (tx T) t) (.ref a) = operate ops (getItem (.str (tx T) t) (.ref a)) := by with_unfolding_all rfl) :
    wpAny (MM w) A (subscriptTail value slice (.str (tx T) t) (.ref a)) Q NoE s :=
  r_slice_str S (fun x hx => by cases hx; exact hi) (fun x hx => nomatch hx) hsz (fun t s' S' => by have := h t s' S'; simpa only [hiN, loN, List.take_length] using this) hs
theorem r_slice_ns {value slice : Expr} {T : List Nat} {a : Addr} {i : Int} {ti : Tok} {ops : List Value} (S : St w os g L fr ((a, SliceO none (some (i, ti)) none) :: nw) s) (hi : 0 ≤ i) (hsz : T.length ≤ 1000000)
    (h : ∀ t s', St w os g L fr nw s' → Q (.str (tx (T.take i.toNat)) t) s')
    (hs : subscripted slice false (.str (tx T) t) (.ref a) = operate ops (getItem (.str (tx T) t) (.ref a)) := by with_unfolding_all rfl) :
    wpAny (MM w) A (subscriptTail value slice (.str (tx T) t) (.ref a)) Q NoE s :=
  r_slice_str S (fun x hx => nomatch hx) (fun x hx => by cases hx; exact hi) hsz (fun t s' S' => by have := h t s' S'; simpa only [hiN, loN, List.drop_zero] using this) hs
theorem r_slice_ss {value slice : Expr} {T : List Nat} {a : Addr} {i j : Int} {ti tj : Tok} {ops : List Value} (S : St w os g L fr ((a, SliceO (some (i, ti)) (some (j, tj)) none) :: nw) s) (hi : 0 ≤ i) (hj : 0 ≤ j) (hsz : T.length ≤ 1000000)
    (h : ∀ t s', St w os g L fr nw s' → Q (.str (tx ((T.take j.toNat).drop i.toNat)) t) s')
    (hs : subscripted slice false (.str (tx T) t) (.ref a) = operate ops (getItem (.str (tx T) t) (.ref a)) := by with_unfolding_all rfl) :
    wpAny (MM w) A (subscriptTail value slice (.str (tx T) t) (.ref a)) Q NoE s :=
  r_slice_str S (fun x hx => by cases hx; exact hi) (fun x hx => by cases hx; exact hj) hsz (fun t s' S' => by have := h t s' S'; simpa only [hiN, loN] using this) hs
noncomputable def SlEnd (Q : Value → Shared → Prop) (l u st : Value) (s : Shared) : Prop := Q (.ref s.heap.objs.size) { s with heap := s.heap.push { cls := .type "slice", data := .fields #[l, u, st] } }
theorem r_slEnd {l u st : Option (Int × Tok)} (S : St w os g L fr nw s) (h : ∀ a s', St w os g L fr ((a, SliceO l u st) :: nw) s' → Q (.ref a) s') : SlEnd Q (partValue l) (partValue u) (partValue st) s :=
  h _ _ (S.alloc (s' := { s with heap := _ }) rfl ⟨rfl, rfl⟩ rfl rfl rfl)
theorem r_Slice {env : Env} {lower upper step : Option Expr} {p : Pos}
    (h : wpAny (MM w) A (evalPart lower env) (fun l s₁ => wpAny (MM w) A (evalPart upper env) (fun u s₂ => wpAny (MM w) A (evalPart step env) (fun st s₃ =>
      SlEnd Q l u st s₃) NoE s₂) NoE s₁) NoE s) :
    wpAny (MM w) A (eval (.Slice lower upper step p) env) Q NoE s := wpAny_Slice h

/-- two lists, item by item -/
inductive All2 {α β : Type} (R : α → β → Prop) : List α → List β → Prop
  | nil : All2 R [] []
  | cons {a : α} {b : β} {as : List α} {bs : List β} : R a b → All2 R as bs → All2 R (a :: as) (b :: bs)
theorem All2.length {α β : Type} {R : α → β → Prop} {as : List α} {bs : List β} (h : All2 R as bs) : as.length = bs.length := by
  induction h with
  | nil => rfl
  | cons _ _ ih => simp [ih]
theorem All2.mono {α β : Type} {R R' : α → β → Prop} {as : List α} {bs : List β} (h : All2 R as bs) (k : ∀ a b, R a b → R' a b) : All2 R' as bs := by
  induction h with
  | nil => exact .nil
  | cons x _ ih => exact .cons (k _ _ x) ih
theorem All2.append {α β : Type} {R : α → β → Prop} {as as' : List α} {bs bs' : List β} (h : All2 R as bs) (h' : All2 R as' bs') : All2 R (as ++ as') (bs ++ bs') := by
  induction h with
  | nil => exact h'
  | cons x _ ih => exact .cons x ih
theorem All2.get {α β : Type} {R : α → β → Prop} {as : List α} {bs : List β} (h : All2 R as bs) {i : Nat} {b : β} (e : bs[i]? = some b) : ∃ a, as[i]? = some a ∧ R a b := by
  induction h generalizing i with
  | nil => cases e
  | cons x _ ih =>
    cases i with
    | zero => cases e; exact ⟨_, rfl, x⟩
    | succ i => exact ih (by simpa using e)
theorem All2.get' {α β : Type} {R : α → β → Prop} {as : List α} {bs : List β} (h : All2 R as bs) {i : Nat} {a : α} (e : as[i]? = some a) : ∃ b, bs[i]? = some b ∧ R a b := by
  induction h generalizing i with
  | nil => cases e
  | cons x _ ih =>
    cases i with
    | zero => cases e; exact ⟨_, rfl, x⟩
    | succ i => exact ih (by simpa using e)

/-- a callee has made a thing: it goes into the base -/
theorem St.callNew {s' : Shared} {q : Addr} {P : Obj → Prop} (S : St w os g L fr nw s) (O : Ok w os s') (k : s.heap.StaysIn s'.heap) (hq : s.heap.get? q = none) (x : At s'.heap q P) :
    ∃ g', g.StaysIn g' ∧ At g' q P ∧ St w os g' L fr nw s' := by
  obtain ⟨g', k', hin, _, S'⟩ := (S.call k O).rebase
  obtain ⟨o, e, p⟩ := x
  refine ⟨g', k', ⟨o, hin q o e (fun z => ?_) (fun z => ?_), p⟩, S'⟩
  · obtain ⟨m, ⟨o', _, _, e', _⟩, _⟩ := S.ns.ex
    rw [← z, hq] at e'; cases e'
  · obtain ⟨p', hp, z'⟩ := List.mem_map.mp z
    obtain ⟨o', e', _⟩ := (S.new p' hp).1
    rw [z', hq] at e'; cases e'
end
local macro_rules | `(tactic| walk_at "eval Slice") => `(tactic| (refine r_Slice ?_))
local macro_rules | `(tactic| walk_at "SlEnd") => `(tactic| first
  | (refine' r_slEnd (l := some (_, _)) (u := some (_, _)) (st := none) ?S ?_; (case S => assumption); intro a' s' S')
  | (refine' r_slEnd (l := some (_, _)) (u := none) (st := none) ?S ?_; (case S => assumption); intro a' s' S')
  | (refine' r_slEnd (l := none) (u := some (_, _)) (st := none) ?S ?_; (case S => assumption); intro a' s' S'))
local macro_rules | `(tactic| walk_at "subscriptTail") => `(tactic| (refine' r_slice_sn ?S ?i ?z ?_ ?hs; (case S => with_reducible assumption); (case i => k_dflt (walk_at "ar")); (case z => k_dflt (walk_at "ar")); (case hs => k_dflt (exact rfl)); intro t' s' S'))
local macro_rules | `(tactic| walk_at "subscriptTail") => `(tactic| (refine' r_slice_ns ?S ?i ?z ?_ ?hs; (case S => with_reducible assumption); (case i => k_dflt (walk_at "ar")); (case z => k_dflt (walk_at "ar")); (case hs => k_dflt (exact rfl)); intro t' s' S'))
local macro_rules | `(tactic| walk_at "subscriptTail") => `(tactic| (refine' r_slice_ss ?S ?i ?j ?z ?_ ?hs; (case S => with_reducible assumption); (case i => k_dflt (walk_at "ar")); (case j => k_dflt (walk_at "ar")); (case z => k_dflt (walk_at "ar")); (case hs => k_dflt (exact rfl)); intro t' s' S'))
local macro_rules | `(tactic| walk_at "getMethod ref") => `(tactic| (refine' r_getm_insert ?x ?_; (case x => k_dflt (walk_at "m_at"))))
local macro_rules | `(tactic| walk_at "getMethod ref") => `(tactic| (refine' r_getm_append ?x ?_; (case x => k_dflt (walk_at "m_at"))))
local macro_rules | `(tactic| walk_at "call builtin:list.append") => `(tactic| (refine' r_append ?S ?u ?z ?_; (case S => with_reducible assumption); (case u => k_dflt (walk_at "m_updn")); (case z => k_dflt (walk_at "ar")); intro s' S'))
local macro_rules | `(tactic| walk_at "call builtin:len") => `(tactic| (refine' r_len_str ?S ?z ?_; (case S => with_reducible assumption); (case z => k_dflt (walk_at "ar")); intro t' s' S'))
local macro_rules | `(tactic| walk_at "call builtin:len") => `(tactic| (refine' r_len_tup ?S ?x ?z ?_; (case S => with_reducible assumption); (case x => k_dflt (walk_at "m_at")); (case z => k_dflt (walk_at "ar")); intro t' s' S'))
local macro_rules | `(tactic| walk_at "call builtin:len") => `(tactic| (refine' r_len_list ?S ?x ?z ?_; (case S => with_reducible assumption); (case x => k_dflt (walk_at "m_isl")); (case z => k_dflt (walk_at "ar")); intro t' s' S'))
noncomputable def Then (w : World) (s : Shared) (P : Prop) : Prop := Gd w s.heap ∧ P
noncomputable def isFnK (K : Frag) (a : Addr) : Bool := match K.lookup a with | some ⟨_, _, .func _, _⟩ => true | _ => false
theorem isFnK_is {K : Frag} {a : Addr} (h : isFnK K a = true) : ∃ o fd, K.lookup a = some o ∧ o.data = .func fd := by
  unfold isFnK at h
  split at h
  · rename_i e; exact ⟨_, _, e, rfl⟩
  · cases h

section
variable {w : World} {os : OsState} {g : Heap} {L : Addr} {fr : Fm} {nw nw' : Nw} {s : Shared} {A : Around} {n : Nat} {Q : Value → Shared → Prop} {env : Env}

theorem r_callK {pos : Pos} {a : Addr} {first : List Value} {e : Expr} {rest : List Expr} (hk : isFnK (KK w) a = true)
    (h : wpAny (MM w) A (spliced (backTo pos (starEach (e :: rest) env))) (fun vs s₁ => Then w s₁ (wpAny (MM w) A (call (.ref a) (first ++ vs) []) Q NoE s₁)) NoE s)
    (he : starEach (e :: rest) env = (false, eval e env) :: starEach rest env := by rfl) :
    wpAny (MM w) A (callWith pos (.ref a) first (backTo pos (starEach (e :: rest) env)) []) Q NoE s := by
  obtain ⟨o, fd, e1, e2⟩ := isFnK_is hk
  rw [he] at h ⊢
  exact callWith_function_kw (o := o) (fd := fd) (Calls.evalArgs_plain (wpAny_mono h (fun vs s₁ x => ⟨⟨x.1.K _ _ e1, e2⟩, x.2⟩) fun _ _ x => x))
theorem r_callK0 {pos : Pos} {a : Addr} {first : List Value} (hk : isFnK (KK w) a = true) (S : St w os g L fr nw s)
    (h : wpAny (MM w) A (call (.ref a) (first ++ []) []) Q NoE s) :
    wpAny (MM w) A (callWith pos (.ref a) first (backTo pos (starEach [] env)) []) Q NoE s := by
  obtain ⟨o, fd, e1, e2⟩ := isFnK_is hk
  exact callWith_function_kw (o := o) (fd := fd) (evalArgs_nil3 ⟨⟨S.ok.gd.K _ _ e1, e2⟩, h⟩)
theorem r_callKkw {pos : Pos} {a : Addr} {first : List Value} {e : Expr} {rest : List Expr} {kws : List (Option Str × Sem Value)} (hk : isFnK (KK w) a = true) (hall : kws.all (·.1.isSome) = true)
    (h : wpAny (MM w) A (spliced (backTo pos (starEach (e :: rest) env))) (fun vs s₁ => wpAny (MM w) A (evalAll (kws.map (·.2))) (fun ks s₂ => Then w s₂ (wpAny (MM w) A (call (.ref a) (first ++ vs) ((kws.filterMap (·.1)).zip ks)) Q NoE s₂)) NoE s₁) NoE s)
    (he : starEach (e :: rest) env = (false, eval e env) :: starEach rest env) :
    wpAny (MM w) A (callWith pos (.ref a) first (backTo pos (starEach (e :: rest) env)) kws) Q NoE s := by
  obtain ⟨o, fd, e1, e2⟩ := isFnK_is hk
  rw [he] at h ⊢
  exact callWith_function_kw (o := o) (fd := fd) (evalArgs_kw hall (wpAny_mono h (fun vs s₁ x => wpAny_mono x (fun ks s₂ y => ⟨⟨y.1.K _ _ e1, e2⟩, y.2⟩) fun _ _ z => z) fun _ _ x => x))
/-- a function of the heap's, no def of the text's top -/
noncomputable def FnO : Obj → Prop := fun o => ∃ fd, o.data = .func fd
noncomputable def ThenB (g : Heap) (s : Shared) (P : Prop) : Prop := g.StaysIn s.heap ∧ P
theorem r_callF {pos : Pos} {a : Addr} {first : List Value} {e : Expr} {rest : List Expr} (hf : At g a FnO)
    (h : wpAny (MM w) A (spliced (backTo pos (starEach (e :: rest) env))) (fun vs s₁ => ThenB g s₁ (wpAny (MM w) A (call (.ref a) (first ++ vs) []) Q NoE s₁)) NoE s)
    (he : starEach (e :: rest) env = (false, eval e env) :: starEach rest env) :
    wpAny (MM w) A (callWith pos (.ref a) first (backTo pos (starEach (e :: rest) env)) []) Q NoE s := by
  obtain ⟨o, e1, fd, e2⟩ := hf
  rw [he] at h ⊢
  exact callWith_function_kw (o := o) (fd := fd) (Calls.evalArgs_plain (wpAny_mono h (fun vs s₁ x => ⟨⟨x.1 _ _ e1, e2⟩, x.2⟩) fun _ _ x => x))
end
local macro_rules | `(tactic| walk_at "callWith ref") => `(tactic| (refine' r_callK0 ?k ?S ?_; (case k => k_dflt (kernel_rfl)); (case S => with_reducible assumption)))
local macro_rules | `(tactic| walk_at "callWith ref") => `(tactic| (refine' r_callK ?k ?_ ?he; (case k => k_dflt (kernel_rfl)); (case he => k_dflt (exact rfl))))
local macro_rules | `(tactic| walk_at "Then") => `(tactic| k_dflt (refine ⟨(St.ok (by assumption)).gd, ?_⟩))
local macro_rules | `(tactic| walk_at "subscriptTail") => `(tactic| (refine' r_item_last ?x ?l ?_ ?hs; (case x => k_dflt (walk_at "m_isl")); (case l => k_dflt (assumption)); (case hs => k_dflt (exact rfl))))
local macro_rules | `(tactic| walk_at "subscriptTail") => `(tactic| (refine' r_item_list ?x ?a ?b ?i ?_ ?hs; (case x => k_dflt (walk_at "m_isl")); (case a => k_dflt (walk_at "ar")); (case b => k_dflt (walk_at "ar")); (case i => k_dflt (first | assumption | exact rfl)); (case hs => k_dflt (exact rfl))))
local macro_rules | `(tactic| walk_at "subscriptTail") => `(tactic| (refine' r_item_tup ?x ?a ?b ?i ?_ ?hs; (case x => k_dflt (walk_at "m_at")); (case a => k_dflt (walk_at "ar")); (case b => k_dflt (walk_at "ar")); (case i => k_dflt (first | assumption | exact rfl)); (case hs => k_dflt (exact rfl))))
theorem ite_t {b : Bool} {P Q : Prop} (h : b = true) (p : P) : if b = true then P else Q := by rw [if_pos h]; exact p
theorem ite_f {b : Bool} {P Q : Prop} (h : b = false) (p : Q) : if b = true then P else Q := by rw [if_neg (by rw [h]; exact Bool.false_ne_true)]; exact p
local macro_rules | `(tactic| walk_at "ite") => `(tactic| (refine ite_t ?h ?_; (case h => k_dflt (first | exact rfl | exact decide_eq_true (by lia) | exact beq_iff_eq.mpr (by lia) | assumption))))
local macro_rules | `(tactic| walk_at "ite") => `(tactic| (refine ite_f ?h ?_; (case h => k_dflt (first | exact rfl | exact decide_eq_false (by lia) | exact beq_eq_false_iff_ne.mpr (by lia) | assumption))))
local macro_rules | `(tactic| walk_at "callWith ref") => `(tactic| (refine' r_callF ?f ?_ ?he; (case f => with_reducible assumption); (case he => k_dflt (exact rfl))))
local macro_rules | `(tactic| walk_at "ThenB") => `(tactic| k_dflt (refine ⟨St.keep (by assumption), ?_⟩))
/-- the table of a code's own lambdas -/
noncomputable def TabP (ps : Array Value) : Obj → Prop := fun o => o = tabObj ps
structure LamTab (g : Heap) (ps : Array Value) (qual : Str) : Prop where
  tr : TriplesOk ps.toList
  cd : ∀ pos cv, codeAmong pos ps.toList = some cv → ∃ c', cv = .ref c' ∧ g.CodeRec (.ref c') qual
theorem codeRec_mono {g g' : Heap} {v : Value} {q : Str} (k : g.StaysIn g') (x : g.CodeRec v q) : g'.CodeRec v q := by
  obtain ⟨c, oc, vs, t, e, ho, r⟩ := x
  exact ⟨c, oc, vs, t, e, k _ _ ho, r⟩
theorem LamTab.mono {g g' : Heap} {ps : Array Value} {q : Str} (k : g.StaysIn g') (x : LamTab g ps q) : LamTab g' ps q :=
  ⟨x.tr, fun pos cv e => let ⟨c', e1, e2⟩ := x.cd pos cv e; ⟨c', e1, codeRec_mono k e2⟩⟩
theorem LamTab.nil (g : Heap) (q : Str) : LamTab g #[] q := ⟨trivial, fun pos cv e => by simp [codeAmong] at e⟩
theorem triples_snoc : ∀ {l : List Value} {a b : Int} {t u : Tok} {v : Value}, TriplesOk l → TriplesOk (l ++ [.int a t, .int b u, v])
  | [], _, _, _, _, _, _ => trivial
  | .int _ _ :: .int _ _ :: _ :: r, _, _, _, _, _, h => triples_snoc (l := r) h
theorem among_snoc {pos : Pos} {a b : Int} {t u : Tok} {v cv : Value} : ∀ {l : List Value}, TriplesOk l → codeAmong pos (l ++ [.int a t, .int b u, v]) = some cv → codeAmong pos l = some cv ∨ cv = v
  | [], _, h => by
    simp only [List.nil_append, codeAmong] at h
    split at h
    · exact .inr (Option.some.inj h).symm
    · cases h
  | .int x _ :: .int y _ :: z :: r, ht, h => by
    simp only [List.cons_append, codeAmong] at h ⊢
    split at h
    · rename_i q; rw [if_pos q]; exact .inl h
    · rename_i q; rw [if_neg q]; exact among_snoc (l := r) ht h

theorem UpdN.keys {a b : Nw} {P : Addr} {P' Q' : Obj → Prop} (u : UpdN a P P' Q' b) : b.map (·.1) = a.map (·.1) := by
  induction u with
  | head => rfl
  | tail _ ih => rw [List.map_cons, List.map_cons, ih]
theorem UpdN.ex {P : Addr} {P' Q' : Obj → Prop} : ∀ {nw : Nw}, (P, P') ∈ nw → ∃ nw', UpdN nw P P' Q' nw'
  | q :: r, hm => by
    rcases List.mem_cons.mp hm with rfl | hm'
    · exact ⟨_, .head⟩
    · obtain ⟨r', u⟩ := UpdN.ex (nw := r) hm'
      exact ⟨_, .tail u⟩
/-- a lambda of the heap's -/
noncomputable def IsLam (h : Heap) (f : Addr) (name qual : Str) (params : Arguments) (body : Expr) (scope : Scope) (clos : List (Str × Addr)) : Prop :=
  ∃ pm c' ctv, h.get? f = some (kla_obj name qual params body scope clos pm c' ctv) ∧ h.CodeRec (.ref c') qual
theorem IsLam.mono {g g' : Heap} {f : Addr} {name qual : Str} {params : Arguments} {body : Expr} {scope : Scope} {clos : List (Str × Addr)} (k : g.StaysIn g') (x : IsLam g f name qual params body scope clos) : IsLam g' f name qual params body scope clos :=
  let ⟨pm, c', ctv, e, r⟩ := x; ⟨pm, c', ctv, k _ _ e, codeRec_mono k r⟩
theorem IsLam.fn {g : Heap} {f : Addr} {name qual : Str} {params : Arguments} {body : Expr} {scope : Scope} {clos : List (Str × Addr)} (x : IsLam g f name qual params body scope clos) : At g f FnO :=
  let ⟨_, _, _, e, _⟩ := x; ⟨_, e, _, rfl⟩

section
variable {w : World} {os : OsState} {g : Heap} {L : Addr} {fr : Fm} {nw nw' : Nw} {s : Shared} {A : Around} {n : Nat} {Q : Value → Shared → Prop} {env : Env}
  {params : Arguments} {body : Expr} {scope : Scope} {clos : List (Str × Addr)} {c P : Addr} {ps : Array Value} {pos : Pos} {qual : Str}

theorem codeRec_new {s' : Shared} {g' : Heap} {c' : Addr} (hc : s'.heap.CodeRec (.ref c') qual) (hin : ∀ b o, s'.heap.get? b = some o → b ≠ L → b ∉ nw.map (·.1) → g'.get? b = some o) (h1 : c' ≠ L) (h2 : c' ∉ nw.map (·.1)) : g'.CodeRec (.ref c') qual := by
  obtain ⟨c, oc, vs, t, e, ho, r⟩ := hc
  cases e
  exact ⟨c', oc, vs, t, rfl, hin _ _ ho h1 h2, r⟩

theorem r_lambda (e : EnvF env L) (hcode : env.code = .ref c) (hch : codeHdIn (KK w) c P = true) (hcl : closureFor scope env = pure clos) (hdef : defaultsOf params env = ([], [])) (hq : env.qual ++ "<lambda>" = qual)
    (S : St w os g L fr nw s) (nwf : Array Value → Nw) (hu : ∀ ps', UpdN nw P (TabP ps) (TabP ps') (nwf ps')) (ht : LamTab g ps qual)
    (h : ∀ f g' ps' s', g.StaysIn g' → LamTab g' ps' qual → IsLam g' f "<lambda>" qual params body scope clos → St w os g' L fr (nwf ps') s' → Q (.ref f) s') :
    wpAny (MM w) A (eval (.Lambda params body scope pos) env) Q NoE s := by
  subst hq
  refine kla_eval hdef ?_
  obtain ⟨mg, bm, ob, hmg, b1, b2, b3, b4, b5, b6⟩ := S.ok.gd.bmod
  have hm : (P, TabP ps) ∈ nw := by obtain ⟨i, h1, _⟩ := (hu ps).is; exact List.mem_of_getElem? h1
  obtain ⟨oP, hP, hPt⟩ := S.mem hm
  have hPt' : oP = tabObj ps := hPt
  subst hPt'
  have C : CodeHd s.heap c P := codeHd_of_K S.ok.gd.K hch
  have hgP : mainGlobals ≠ P := fun q => by
    obtain ⟨o, es, ep, e, hd, _⟩ := hmg
    rw [q, hP] at e; cases e; cases hd
  have hbP : bm ≠ P := fun q => by rw [q, hP] at b3; cases b3; cases b4
  have hbG : bm ≠ mainGlobals := fun q => by
    obtain ⟨o, es, ep, e, hd, _⟩ := hmg
    rw [q, e] at b3; cases b3; rw [hd] at b6; cases b6
  have hLlt := ltN S.ns.lt
  have hnwlt : ∀ a ∈ nw.map (·.1), a < s.heap.objs.size := fun a ha => by
    obtain ⟨p, hp, z⟩ := List.mem_map.mp ha
    rw [← z]; exact (S.new p hp).1.lt
  have hkeys : ∀ {ps' nw'}, UpdN nw P (TabP ps) (TabP ps') nw' → nw'.map (·.1) = nw.map (·.1) := fun u => u.keys
  cases hca : codeAmong pos ps.toList with
  | none =>
    refine kla_makeFunction (mg := mg) hcl e.globals hmg hcode C hP ht.tr hca hgP ⟨bm, ob, b1, b2, hbG, hbP, b3, b4, b5, b6⟩ fun c' ctv h' tk hx hge hlt hrec htb => ?_
    have u := hu (ps ++ #[rawInt pos.line, rawInt pos.col, .ref c'])
    have hx' : Heap.ExtBut P s.heap (h'.push (kla_obj "<lambda>" (env.qual ++ "<lambda>") params body scope clos ((mg "__name__").getD .none) c' ctv)) := hx.push _
    have S' := S.upd (s' := { s with heap := h'.push (kla_obj "<lambda>" (env.qual ++ "<lambda>") params body scope clos ((mg "__name__").getD .none) c' ctv), toks := tk }) u ⟨_, Heap.get?_push_of_some _ htb, rfl⟩ hx' rfl rfl
    obtain ⟨g', k', hin, _, S''⟩ := S'.rebase
    have hrec' : ({ s with heap := h'.push (kla_obj "<lambda>" (env.qual ++ "<lambda>") params body scope clos ((mg "__name__").getD .none) c' ctv), toks := tk } : Shared).heap.CodeRec (.ref c') (env.qual ++ "<lambda>") := by
      obtain ⟨c₂, oc, vs, t, e2, ho, r⟩ := hrec
      exact ⟨c₂, oc, vs, t, e2, Heap.get?_push_of_some _ ho, r⟩
    have hc1 : c' ≠ L := Nat.ne_of_gt (Nat.lt_of_lt_of_le hLlt hge)
    have hc2 : c' ∉ (nwf (ps ++ #[rawInt pos.line, rawInt pos.col, .ref c'])).map (·.1) := fun z => by rw [hkeys u] at z; have := hnwlt _ z; lia
    have hrec2 := codeRec_new hrec' hin hc1 hc2
    refine h _ g' _ _ k' ⟨?_, ?_⟩ ⟨_, c', ctv, hin _ _ (Heap.get?_push_size _ rfl) ?_ ?_, hrec2⟩ S''
    · rw [Array.toList_append]; exact triples_snoc ht.tr
    · intro pos' cv hcv
      rw [Array.toList_append] at hcv
      rcases among_snoc ht.tr hcv with q | q
      · obtain ⟨c₂, e1, e2⟩ := ht.cd _ _ q
        exact ⟨c₂, e1, codeRec_mono k' e2⟩
      · exact ⟨c', q, hrec2⟩
    · exact Nat.ne_of_gt (Nat.lt_trans (Nat.lt_of_lt_of_le hLlt hge) hlt)
    · intro z
      rw [hkeys u] at z
      have := hnwlt _ z; lia
  | some cv =>
    obtain ⟨c', rfl, hrec⟩ := ht.cd _ _ hca
    refine kla_makeFunctionHit (mg := mg) hcl e.globals hmg hcode C hP ht.tr hca ⟨bm, ob, b1, b2, hbG, hbP, b3, b4, b5, b6⟩ fun ctv h' tk hk hsz => ?_
    have u := hu ps
    have hx' : s.heap.StaysIn (h'.push (kla_obj "<lambda>" (env.qual ++ "<lambda>") params body scope clos ((mg "__name__").getD .none) c' ctv)) := fun b o z => Heap.get?_push_of_some _ (hk b o z)
    have S' := S.upd (s' := { s with heap := h'.push (kla_obj "<lambda>" (env.qual ++ "<lambda>") params body scope clos ((mg "__name__").getD .none) c' ctv), toks := tk }) u ⟨_, hx' _ _ hP, rfl⟩ (fun b o _ z => hx' b o z) rfl rfl
    obtain ⟨g', k', hin, _, S''⟩ := S'.rebase
    refine h _ g' ps _ k' (ht.mono k') ⟨_, c', ctv, hin _ _ (Heap.get?_push_size _ rfl) ?_ ?_, codeRec_mono k' hrec⟩ S''
    · exact Nat.ne_of_gt (Nat.lt_of_lt_of_le hLlt hsz)
    · intro z
      rw [hkeys u] at z
      have := hnwlt _ z; lia
end
theorem Gd.hideTab {w : World} {g : Heap} {a : Addr} {ps : Array Value} (G : Gd w g) (x : At g a (TabP ps)) (hK : (KK w).lookup a = none) : Gd w (g.hide a) := by
  obtain ⟨o, e, hl⟩ := x
  have hl' : o = tabObj ps := hl
  subst hl'
  have hns : ∀ b m, g.Ns b m → (g.hide a).Ns b m := fun b m hn => by
    obtain ⟨o', es, ep, eb, hd, r⟩ := hn
    refine ⟨o', es, ep, ?_, hd, r⟩
    rw [Heap.hide_ne g (fun z => by rw [z, e] at eb; cases eb; cases hd)]; exact eb
  refine ⟨fun b o' eb => ?_, ?_, ?_⟩
  · rw [Heap.hide_ne g (fun z => by rw [z, hK] at eb; cases eb)]; exact G.K _ _ eb
  · obtain ⟨mg, mb, h1, h2, ⟨mc, h3, h4⟩, h5⟩ := G.top
    exact ⟨mg, mb, hns _ _ h1, hns _ _ h2, ⟨mc, hns _ _ h3, h4⟩, h5⟩
  · obtain ⟨mg, bm, ob, h1, h2, h3, h4, h5, h6⟩ := G.bmod
    refine ⟨mg, bm, ob, hns _ _ h1, h2, h3, ?_, h5, h6⟩
    rw [Heap.hide_ne g (fun z => by rw [z, e] at h4; cases h4; cases h5)]; exact h4
theorem St.thawTab {w : World} {os : OsState} {g : Heap} {L : Addr} {fr : Fm} {nw : Nw} {s : Shared} {a : Addr} {ps : Array Value} (S : St w os g L fr nw s) (x : At g a (TabP ps)) (hK : (KK w).lookup a = none) : St w os (g.hide a) L fr ((a, TabP ps) :: nw) s := by
  obtain ⟨o, e, hl⟩ := id x
  refine ⟨S.gd.hideTab x hK, fun b o e' => S.keep b o (Heap.of_hide e'), S.ns, ?_, fun p hp => ?_, ?_, S.hos, S.hgens⟩
  · cases q : (g.hide a).get? L with
    | none => rfl
    | some o' => have := Heap.of_hide q; rw [S.gL] at this; cases this
  · rcases List.mem_cons.mp hp with rfl | hp
    · exact ⟨⟨o, S.keep _ _ e, hl⟩, Heap.hide_self _ _, fun z => by have z' : a = L := z; rw [z', S.gL] at e; cases e⟩
    · refine ⟨(S.new p hp).1, ?_, (S.new p hp).2.2⟩
      cases q : (g.hide a).get? p.1 with
      | none => rfl
      | some o' => have := Heap.of_hide q; rw [(S.new p hp).2.1] at this; cases this
  · rw [List.map_cons, List.nodup_cons]
    refine ⟨fun hm => ?_, S.nd⟩
    obtain ⟨p, hp, z⟩ := List.mem_map.mp hm
    have := (S.new p hp).2.1
    rw [z, e] at this; cases this
abbrev PartT := Int × Int × Option Int
noncomputable def grownP (p : PartT) (sign size : Int) : PartT := match p with
  | (f, a, none) => if sign = 32 then (f, a + 1, none) else (f, a, some 0)
  | (f, a, some b) => (f, a, some (if sign = 32 then b + 1 else (b / size + 1) * size))
noncomputable def PartO (p : PartT) : Obj → Prop := fun o => ∃ v1 v2 v3, TupO [v1, v2, v3] o ∧ VI v1 p.1 ∧ VI v2 p.2.1 ∧ VO v3 p.2.2

section
variable {w : World} {os : OsState} {s : Shared} {A : Around} {n : Nat} {R : Result → Shared → Prop}

theorem isterminal_ok {x : Int} {t : Tok} (hA : Ar A (n + 1)) (O : Ok w os s) (h : ∀ s', Ok w os s' → s.heap.StaysIn s'.heap → R (.ok (.ret (.bool (decide (x < 256))))) s') :
    codeAny (MM w) A (.call (.ref 121) ⟨[.int x t], []⟩) R s := by
  refine' enter (fr := [(Str.ofString "x", some (.int x t))]) hA O rfl ?cd (BindsTo.of_eq rfl) ?loc ?cell rfl rfl rfl ?fr ?nd ?_
  case cd => kernel_rfl
  case loc => walk_at "m_all"
  case cell => decide
  case fr => walk_at "m_all"
  case nd => walk_at "m_nd"
  intro L s' A' env he S hA'
  have eF := he.facts rfl rfl
  have n0 : NmL env (Str.ofString "x") := ⟨by rw [he]; rfl, rfl⟩
  have n1 : NmV w env (Str.ofString "NT_OFFSET") (.int _ _) := nm_glob eF (by rw [he]; rfl) rfl rfl
  repeat' walk1
  exact h _ S.ok S.keep

theorem isnonterminal_ok {x : Int} {t : Tok} (hA : Ar A (n + 1)) (O : Ok w os s) (h : ∀ s', Ok w os s' → s.heap.StaysIn s'.heap → R (.ok (.ret (.bool (decide (256 ≤ x))))) s') :
    codeAny (MM w) A (.call (.ref 128) ⟨[.int x t], []⟩) R s := by
  refine' enter (fr := [(Str.ofString "x", some (.int x t))]) hA O rfl ?cd (BindsTo.of_eq rfl) ?loc ?cell rfl rfl rfl ?fr ?nd ?_
  case cd => kernel_rfl
  case loc => walk_at "m_all"
  case cell => decide
  case fr => walk_at "m_all"
  case nd => walk_at "m_nd"
  intro L s' A' env he S hA'
  have eF := he.facts rfl rfl
  have n0 : NmL env (Str.ofString "x") := ⟨by rw [he]; rfl, rfl⟩
  have n1 : NmV w env (Str.ofString "NT_OFFSET") (.int _ _) := nm_glob eF (by rw [he]; rfl) rfl rfl
  repeat' walk1
  exact h _ S.ok S.keep

theorem iseof_ok {x : Int} {t : Tok} (hA : Ar A (n + 1)) (O : Ok w os s) (h : ∀ s', Ok w os s' → s.heap.StaysIn s'.heap → R (.ok (.ret (.bool (x == 0)))) s') :
    codeAny (MM w) A (.call (.ref 135) ⟨[.int x t], []⟩) R s := by
  refine' enter (fr := [(Str.ofString "x", some (.int x t))]) hA O rfl ?cd (BindsTo.of_eq rfl) ?loc ?cell rfl rfl rfl ?fr ?nd ?_
  case cd => kernel_rfl
  case loc => walk_at "m_all"
  case cell => decide
  case fr => walk_at "m_all"
  case nd => walk_at "m_nd"
  intro L s' A' env he S hA'
  have eF := he.facts rfl rfl
  have n0 : NmL env (Str.ofString "x") := ⟨by rw [he]; rfl, rfl⟩
  have n1 : NmV w env (Str.ofString "ENDMARKER") (.int _ _) := nm_glob eF (by rw [he]; rfl) rfl rfl
  repeat' walk1
  exact h _ S.ok S.keep

theorem grown_ok {p : Addr} {P : PartT} {z sg : Int} {t3 t4 : Tok} (hA : Ar A (n + 1)) (O : Ok w os s) (hp : At s.heap p (PartO P))
    (hz : 0 < z ∧ z < 1000000)
    (h : ∀ q s', Ok w os s' → s.heap.StaysIn s'.heap → s.heap.get? q = none → At s'.heap q (PartO (grownP P sg z)) → R (.ok (.ret (.ref q))) s') :
    codeAny (MM w) A (.call (.ref 149) ⟨[.ref p, .int sg t3, .int z t4], []⟩) R s := by
  obtain ⟨f, a, b⟩ := P
  obtain ⟨o, ho, v1, v2, v3, hT, ⟨t1, rfl⟩, ⟨t2, rfl⟩, h3⟩ := hp
  replace hp : At s.heap p (TupO [.int f t1, .int a t2, v3]) := ⟨o, ho, hT⟩
  refine' enter (fr := [(Str.ofString "part", some (.ref p)), (Str.ofString "sign", some (.int sg t3)), (Str.ofString "size", some (.int z t4)), (Str.ofString "first", none), (Str.ofString "ahead", none), (Str.ofString "behind", none)]) hA O rfl ?cd (BindsTo.of_eq rfl) ?loc ?cell rfl rfl rfl ?fr ?nd ?_
  case cd => kernel_rfl
  case loc => walk_at "m_all"
  case cell => decide
  case fr => walk_at "m_all"
  case nd => walk_at "m_nd"
  intro L s' A' env he S hA'
  have eF := he.facts rfl rfl
  have n0 : NmL env (Str.ofString "part") := ⟨by rw [he]; rfl, rfl⟩
  have n1 : NmL env (Str.ofString "sign") := ⟨by rw [he]; rfl, rfl⟩
  have n2 : NmL env (Str.ofString "size") := ⟨by rw [he]; rfl, rfl⟩
  have n3 : NmL env (Str.ofString "first") := ⟨by rw [he]; rfl, rfl⟩
  have n4 : NmL env (Str.ofString "ahead") := ⟨by rw [he]; rfl, rfl⟩
  have n5 : NmL env (Str.ofString "behind") := ⟨by rw [he]; rfl, rfl⟩
  cases b with
  | none =>
    cases (show v3 = .none from h3)
    repeat' walk1
    all_goals (refine h _ _ (St.ok (by assumption)) (St.keep (by assumption)) (St.new (by assumption) _ (.head _)).2.1 ((St.mem (by assumption) (.head _)).imp fun o x => ⟨_, _, _, x, ?_⟩); simp [grownP, VI, VO, *])
  | some b =>
    obtain ⟨t5, rfl⟩ := (show VI v3 b from h3)
    repeat' walk1
    all_goals (refine h _ _ (St.ok (by assumption)) (St.keep (by assumption)) (St.new (by assumption) _ (.head _)).2.1 ((St.mem (by assumption) (.head _)).imp fun o x => ⟨_, _, _, x, ?_⟩); simp [grownP, VI, VO, *])
end
local macro_rules | `(tactic| walk_at "call ref") => `(tactic| k_dflt (refine' wpAny_call (isterminal_ok ?A (St.ok ?S) ?_); (case A => assumption); (case S => assumption); intro s' O' k'; have S' := St.call (by assumption) k' O'))
local macro_rules | `(tactic| walk_at "call ref") => `(tactic| k_dflt (refine' wpAny_call (isnonterminal_ok ?A (St.ok ?S) ?_); (case A => assumption); (case S => assumption); intro s' O' k'; have S' := St.call (by assumption) k' O'))
local macro_rules | `(tactic| walk_at "call ref") => `(tactic| k_dflt (refine' wpAny_call (iseof_ok ?A (St.ok ?S) ?_); (case A => assumption); (case S => assumption); intro s' O' k'; have S' := St.call (by assumption) k' O'))
local macro_rules | `(tactic| walk_at "call ref") => `(tactic| k_dflt (refine' wpAny_call (grown_ok ?A (St.ok ?S) ?x ?z ?_); (case A => assumption); (case S => assumption); (case x => walk_at "m_at"); (case z => assumption); intro q' s' O' k' hq' hx'; obtain ⟨g', k'', x', S'⟩ := St.callNew (by assumption) O' k' hq' hx'))
theorem PartO.open {h : Heap} {a : Addr} {p : PartT} (x : At h a (PartO p)) : ∃ t1 t2 v3, At h a (TupO [.int p.1 t1, .int p.2.1 t2, v3]) ∧ VO v3 p.2.2 := by
  obtain ⟨o, e, v1, v2, v3, hT, ⟨t1, rfl⟩, ⟨t2, rfl⟩, h3⟩ := x
  exact ⟨t1, t2, v3, ⟨o, e, hT⟩, h3⟩
noncomputable def partOf (parts : List PartT) (past : Option PartT) (code size : Int) : PartT :=
  if code < 256 then (if code = 32 then (code, 1, none) else (code, 0, some 0))
  else if code - 256 < parts.length then parts.getD (code - 256).toNat (0, 0, none)
  else match past with | some p => grownP p p.1 size | none => (0, 0, none)
noncomputable def partsNext (parts : List PartT) (past : Option PartT) (part : PartT) (size : Int) : List PartT := match past with | none => parts | some p => parts ++ [grownP p part.1 size]
noncomputable def colNext (c : Int) (part : PartT) (size : Int) : Int := match part.2.2 with | none => c + part.2.1 | some b => ((c + part.2.1) / size + 1) * size + b
noncomputable def colsGo (size : Int) : List Int → List PartT → Option PartT → Int → List Int
  | [], _, _, _ => []
  | code :: r, parts, past, c => if code = 0 then [] else
      colNext c (partOf parts past code size) size :: colsGo size r (partsNext parts past (partOf parts past code size) size) (some (partOf parts past code size)) (colNext c (partOf parts past code size) size)
noncomputable def colsOf (codes : List Int) (size : Int) : List Int := 0 :: colsGo size codes [] none 0

noncomputable def IntsO (ns : List Int) : Obj → Prop := fun o => ∃ vs, ListO vs o ∧ All2 VI vs ns
noncomputable def VP (g : Heap) (v : Value) (p : PartT) : Prop := ∃ a, v = .ref a ∧ At g a (PartO p)
noncomputable def VPast (g : Heap) (v : Value) (p : Option PartT) : Prop := match p with | none => v = .none | some p => VP g v p
theorem VP.mono {g g' : Heap} (k : g.StaysIn g') {v : Value} {p : PartT} (x : VP g v p) : VP g' v p := let ⟨a, e, h⟩ := x; ⟨a, e, h.keeps fun o z => k a o z⟩
theorem VPast.mono {g g' : Heap} (k : g.StaysIn g') {v : Value} {p : Option PartT} (x : VPast g v p) : VPast g' v p := by
  cases p with
  | none => exact x
  | some p => exact VP.mono k x

section
variable {w : World} {os : OsState} {s : Shared} {A : Around} {n : Nat} {R : Result → Shared → Prop}

set_option maxHeartbeats 4000000 in
theorem columns_ok {cl : Addr} {codes : List Int} {z : Int} {t4 : Tok} (hA : Ar A (n + 2)) (O : Ok w os s) (hc : At s.heap cl (IntsO codes)) (hlen : codes.length ≤ 1000)
    (hz : 0 < z ∧ z < 1000000) (h1 : ∀ c ∈ codes.head?, c < 256)
    (h : ∀ q s', Ok w os s' → s.heap.StaysIn s'.heap → s.heap.get? q = none → At s'.heap q (IntsO (colsOf codes z)) → R (.ok (.ret (.ref q))) s') :
    codeAny (MM w) A (.call (.ref 156) ⟨[.ref cl, .int z t4], []⟩) R s := by
  obtain ⟨o, ho, cvs, hl, hcv⟩ := hc
  replace hc : At s.heap cl (ListO cvs) := ⟨o, ho, hl⟩
  refine' enter (fr := [(Str.ofString "codes", some (.ref cl)), (Str.ofString "size", some (.int z t4)), (Str.ofString "parts", none), (Str.ofString "past", none), (Str.ofString "columns", none), (Str.ofString "code", none), (Str.ofString "part", none), (Str.ofString "column", none)]) hA O rfl ?cd (BindsTo.of_eq rfl) ?loc ?cell rfl rfl rfl ?fr ?nd ?_
  case cd => kernel_rfl
  case loc => walk_at "m_all"
  case cell => decide
  case fr => walk_at "m_all"
  case nd => walk_at "m_nd"
  intro L s' A' env he S hA'
  have eF := he.facts rfl rfl
  have n0 : NmL env (Str.ofString "codes") := ⟨by rw [he]; rfl, rfl⟩
  have n1 : NmL env (Str.ofString "size") := ⟨by rw [he]; rfl, rfl⟩
  have n2 : NmL env (Str.ofString "parts") := ⟨by rw [he]; rfl, rfl⟩
  have n3 : NmL env (Str.ofString "past") := ⟨by rw [he]; rfl, rfl⟩
  have n4 : NmL env (Str.ofString "columns") := ⟨by rw [he]; rfl, rfl⟩
  have n5 : NmL env (Str.ofString "code") := ⟨by rw [he]; rfl, rfl⟩
  have n6 : NmL env (Str.ofString "part") := ⟨by rw [he]; rfl, rfl⟩
  have n7 : NmL env (Str.ofString "column") := ⟨by rw [he]; rfl, rfl⟩
  have n8 : NmV w env (Str.ofString "ISEOF") (.ref 135) := nm_glob eF (by rw [he]; rfl) (by kernel_rfl) rfl
  have n9 : NmV w env (Str.ofString "ISTERMINAL") (.ref 121) := nm_glob eF (by rw [he]; rfl) (by kernel_rfl) rfl
  have n10 : NmV w env (Str.ofString "_law_grown") (.ref 149) := nm_glob eF (by rw [he]; rfl) (by kernel_rfl) rfl
  have n11 : NmV w env (Str.ofString "len") (.builtin "len") := nm_bi eF (by rw [he]; rfl) (by kernel_rfl) rfl (by decide) rfl
  repeat' walk1
  rename_i pa _ _ _ _ _ _ _ _ _ ca _ _ _ _ it s1 S1
  have FR : Fm := []
  refine m_for cvs.length
    (fun i s2 => ∃ g' parts past c cols pv pvals colvals o1 o2 o3, s.heap.StaysIn g' ∧ All2 (VP g') pvals parts ∧ VPast g' pv past ∧ All2 VI colvals cols ∧ cols.getLast? = some c ∧ parts.length ≤ i ∧ cols.length ≤ i + 1 ∧
      (i ≠ 0 → past.isSome) ∧ colsOf codes z = cols ++ colsGo z (codes.drop i) parts past c ∧
      St w os g' L [(Str.ofString "codes", some (.ref cl)), (Str.ofString "size", some (.int z t4)), (Str.ofString "parts", some (.ref pa)), (Str.ofString "past", some pv), (Str.ofString "columns", some (.ref ca)), (Str.ofString "code", o1), (Str.ofString "part", o2), (Str.ofString "column", o3)]
        [(it, LIterO cl i), (ca, ListO colvals), (pa, ListO pvals)] s2)
    (fun s2 => ∃ g' fr' nw' colvals, s.heap.StaysIn g' ∧ (Str.ofString "columns", some (.ref ca)) ∈ fr' ∧ (ca, ListO colvals) ∈ nw' ∧ All2 VI colvals (colsOf codes z) ∧ St w os g' L fr' nw' s2) ?turn ?last ?fin 0 (Nat.zero_le _) ?init
  case init =>
    exact ⟨_, [], none, 0, [0], _, [], _, none, none, none, fun _ _ e => e, .nil, rfl, .cons ⟨_, rfl⟩ .nil, rfl, Nat.le_refl _, Nat.le_refl _, fun e => absurd rfl e, rfl, S1⟩
  case fin =>
    rintro s2 ⟨g', fr', nw', colvals, hk, m1, m2, hcol, S2⟩
    repeat' walk1
    exact h _ _ S2.ok (fun b o e => S2.keep b o (hk b o e)) (S1.new (ca, _) (.tail _ (.head _))).2.1 ((S2.mem m2).imp fun o x => ⟨_, x, hcol⟩)
  case last =>
    rintro s2 ⟨g', parts, past, c, cols, pv, pvals, colvals, o1, o2, o3, hk, hp, hpast, hcol, hlast, hpl, hcl, hi0, heq, S2⟩
    refine r_end_list hA' S2 .head (S2.old (hc.keeps fun o e => hk cl o e)).isList (by simp) fun s3 S3 => ⟨?_⟩
    have e : codes.drop cvs.length = [] := by rw [hcv.length]; simp
    rw [e] at heq
    refine ⟨_, _, _, _, hk, ?_, .head _, ?_, S3⟩
    · walk_at "m_mem"
    · rw [heq]; simpa [colsGo] using hcol
  case turn =>
    rintro i s2 hi ⟨g', parts, past, c, cols, pv, pvals, colvals, o1, o2, o3, hk, hp, hpast, hcol, hlast, hpl, hcl, hi0, heq, S2⟩
    intro Ct Bt hCt hBt
    have hcl' := hc.keeps fun o e => hk cl o e
    obtain ⟨code, hcode, t, hvt⟩ := hcv.get' (List.getElem?_eq_getElem hi)
    have hlen' : i < codes.length := (List.getElem?_eq_some_iff.mp hcode).1
    refine r_next_list S2 .head (S2.old hcl').isList (List.getElem?_eq_getElem hi) fun s3 S3 => ?_
    rw [hvt]
    have hdrop : codes.drop i = code :: codes.drop (i + 1) := by
      rw [List.drop_eq_getElem_cons hlen']; rw [List.getElem?_eq_getElem hlen'] at hcode; cases hcode; rfl
    rw [hdrop] at heq
    by_cases h0 : code = 0
    · subst h0
      repeat' walk1
      rename_i S4
      refine ⟨hBt _ ⟨_, _, _, _, hk, ?_, .tail _ (.head _), ?_, S4⟩⟩
      · walk_at "m_mem"
      · rw [heq]; simpa [colsGo] using hcol
    · dsimp only
      refine wpAny_assign_Name ?_
      walk1
      refine m_cut (fun s4 => St w os g' L [(Str.ofString "codes", some (.ref cl)), (Str.ofString "size", some (.int z t4)), (Str.ofString "parts", some (.ref pa)), (Str.ofString "past", some pv), (Str.ofString "columns", some (.ref ca)), (Str.ofString "code", some (.int code t)), (Str.ofString "part", o2), (Str.ofString "column", o3)]
        [(it, LIterO cl (i + 1)), (ca, ListO colvals), (pa, ListO pvals)] s4) (fun P' hPP => ?_) ?_
      · repeat' walk1
        exact ⟨rfl, hPP _ (by assumption)⟩
      intro s4 S4
      refine m_cut (fun s5 => ∃ g2 pr, g'.StaysIn g2 ∧ At g2 pr (PartO (partOf parts past code z)) ∧
        St w os g2 L [(Str.ofString "codes", some (.ref cl)), (Str.ofString "size", some (.int z t4)), (Str.ofString "parts", some (.ref pa)), (Str.ofString "past", some pv), (Str.ofString "columns", some (.ref ca)), (Str.ofString "code", some (.int code t)), (Str.ofString "part", some (.ref pr)), (Str.ofString "column", o3)]
        [(it, LIterO cl (i + 1)), (ca, ListO colvals), (pa, ListO pvals)] s5) (fun P' hPP => ?_) ?_
      · have hpl2 := hp.length
        by_cases c1 : code < 256
        · repeat' walk1
          all_goals (rename_i S5; obtain ⟨g2, k2, x2, S6⟩ := S5.freeze; refine ⟨rfl, hPP _ ⟨g2, _, k2, x2.imp fun o x => ⟨_, _, _, x, ?_⟩, S6⟩⟩; simp [partOf, c1, VI, VO, *])
        · by_cases c2 : code - 256 < parts.length
          · have hidx : (code - 256).toNat < parts.length := by lia
            obtain ⟨v, hv, a, rfl, ha⟩ := hp.get (List.getElem?_eq_getElem hidx)
            repeat' walk1
            refine ⟨rfl, hPP _ ⟨g', a, fun _ _ e => e, ?_, by assumption⟩⟩
            simp only [partOf, c1, c2, if_true, if_false]
            rw [List.getD_eq_getElem?_getD, List.getElem?_eq_getElem hidx]
            exact ha
          · have hps : past.isSome = true := hi0 (fun e => by
              subst e
              have := h1 code (by rw [List.head?_eq_getElem?]; exact hcode)
              lia)
            obtain ⟨pp, rfl⟩ := Option.isSome_iff_exists.mp hps
            obtain ⟨a, rfl, ha⟩ := (show VP g' pv pp from hpast)
            obtain ⟨t1, t2, v3, hT, h3⟩ := PartO.open ha
            repeat' walk1
            rename_i S5
            refine ⟨rfl, hPP _ ⟨_, _, by assumption, ?_, S5⟩⟩
            simp only [partOf, c1, c2, if_false]
            assumption
      rintro s5 ⟨g2, pr, k2, hpr, S5⟩
      obtain ⟨t1, t2, v3, hT, h3⟩ := PartO.open hpr
      generalize hpt : partOf parts past code z = part at hpr hT h3
      refine m_cut (fun s6 => ∃ g3 pvals', g2.StaysIn g3 ∧ All2 (VP g3) pvals' (partsNext parts past part z) ∧
        St w os g3 L [(Str.ofString "codes", some (.ref cl)), (Str.ofString "size", some (.int z t4)), (Str.ofString "parts", some (.ref pa)), (Str.ofString "past", some pv), (Str.ofString "columns", some (.ref ca)), (Str.ofString "code", some (.int code t)), (Str.ofString "part", some (.ref pr)), (Str.ofString "column", o3)]
        [(it, LIterO cl (i + 1)), (ca, ListO colvals), (pa, ListO pvals')] s6) (fun P' hPP => ?_) ?_
      · have hpl2 := hp.length
        cases past with
        | none =>
          cases (show pv = .none from hpast)
          repeat' walk1
          exact ⟨rfl, hPP _ ⟨g2, pvals, fun _ _ e => e, hp.mono fun _ _ x => x.mono k2, by assumption⟩⟩
        | some pp =>
          obtain ⟨a, rfl, ha⟩ := (show VP g' pv pp from hpast)
          have ha2 := ha.keeps fun o e => k2 a o e
          repeat' walk1
          rename_i k3 x3 _ _ S6
          exact ⟨rfl, hPP _ ⟨_, _, k3, (hp.mono fun _ _ x => (x.mono k2).mono k3).append (.cons ⟨_, rfl, x3⟩ .nil), S6⟩⟩
      rintro s6 ⟨g3, pvals', k3, hp3, S6⟩
      have hT3 := hT.keeps fun o e => k3 pr o e
      have hpr3 := hpr.keeps fun o e => k3 pr o e
      obtain ⟨cv, hcv1, hcv2⟩ : ∃ cv, colvals.getLast? = some (.int c cv) ∧ True := by
        rw [List.getLast?_eq_getElem?] at hlast
        obtain ⟨v, hv, t, rfl⟩ := hcol.get hlast
        exact ⟨t, by rw [List.getLast?_eq_getElem?, hcol.length]; exact hv, trivial⟩
      have hcoll := hcol.length
      have hend : ∀ s7 v7 t7, v7 = Value.int (colNext c part z) t7 → St w os g3 L [(Str.ofString "codes", some (.ref cl)), (Str.ofString "size", some (.int z t4)), (Str.ofString "parts", some (.ref pa)), (Str.ofString "past", some (.ref pr)), (Str.ofString "columns", some (.ref ca)), (Str.ofString "code", some (.int code t)), (Str.ofString "part", some (.ref pr)), (Str.ofString "column", some v7)]
        [(it, LIterO cl (i + 1)), (ca, ListO (colvals ++ [v7])), (pa, ListO pvals')] s7 → Hold (Ct s7) := by
        intro s7 v7 t7 e7 S7
        refine ⟨hCt _ ⟨g3, _, some part, colNext c part z, cols ++ [colNext c part z], .ref pr, pvals', _, _, _, _, fun b o e => k3 b o (k2 b o (hk b o e)), hp3, ⟨pr, rfl, hpr3⟩, hcol.append (.cons ⟨t7, e7⟩ .nil), by simp, ?_, by simp; lia, fun _ => rfl, ?_, S7⟩⟩
        · cases past with
          | none => simp only [partsNext]; lia
          | some pp => simp only [partsNext, List.length_append, List.length_cons, List.length_nil]; lia
        · rw [heq]
          simp only [colsGo, if_neg h0, hpt, List.append_assoc, List.cons_append, List.nil_append]
      cases hb : part.2.2 with
      | none =>
        rw [hb] at h3
        cases (show v3 = .none from h3)
        rw [show colNext c part z = c + part.2.1 from by simp only [colNext, hb]] at hend
        repeat' walk1
        exact hend _ _ _ rfl (by assumption)
      | some b =>
        rw [hb] at h3
        obtain ⟨t3, rfl⟩ := (show VI v3 b from h3)
        rw [show colNext c part z = ((c + part.2.1) / z + 1) * z + b from by simp only [colNext, hb]] at hend
        repeat' walk1
        exact hend _ _ _ rfl (by assumption)
end
noncomputable def walkGo (size : Int) : List Nat → Int → List Int
  | [], _ => []
  | ch :: r, c => (if ch = 32 then c + 1 else (c / size + 1) * size) :: walkGo size r (if ch = 32 then c + 1 else (c / size + 1) * size)
noncomputable def walkOf (T : List Nat) (size : Int) : List Int := 0 :: walkGo size T 0
/-- blanks and tabs alone -/
noncomputable def Ws (T : List Nat) : Prop := ∀ c ∈ T, c = 9 ∨ c = 32
theorem Ws.ascii {T : List Nat} (h : Ws T) : (tx T).cps.all (· < 128) = true := by
  rw [Array.all_eq_true_iff_forall_mem]
  intro x hx
  have := h x (by simpa using hx)
  simp; lia

section
variable {w : World} {os : OsState} {s : Shared} {A : Around} {n : Nat} {R : Result → Shared → Prop}
set_option maxHeartbeats 4000000 in
theorem walk_ok {T : List Nat} {z : Int} {t3 t4 : Tok} (hA : Ar A (n + 1)) (O : Ok w os s) (hT : Ws T) (hlen : T.length ≤ 1000)
    (hz : 0 < z ∧ z < 1000000)
    (h : ∀ q s', Ok w os s' → s.heap.StaysIn s'.heap → s.heap.get? q = none → At s'.heap q (IntsO (walkOf T z)) → R (.ok (.ret (.ref q))) s') :
    codeAny (MM w) A (.call (.ref 163) ⟨[.str (tx T) t3, .int z t4], []⟩) R s := by
  refine' enter (fr := [(Str.ofString "text", some (.str (tx T) t3)), (Str.ofString "size", some (.int z t4)), (Str.ofString "columns", none), (Str.ofString "sign", none)]) hA O rfl ?cd (BindsTo.of_eq rfl) ?loc ?cell rfl rfl rfl ?fr ?nd ?_
  case cd => kernel_rfl
  case loc => walk_at "m_all"
  case cell => decide
  case fr => walk_at "m_all"
  case nd => walk_at "m_nd"
  intro L s' A' env he S hA'
  have eF := he.facts rfl rfl
  have n0 : NmL env (Str.ofString "text") := ⟨by rw [he]; rfl, rfl⟩
  have n1 : NmL env (Str.ofString "size") := ⟨by rw [he]; rfl, rfl⟩
  have n2 : NmL env (Str.ofString "columns") := ⟨by rw [he]; rfl, rfl⟩
  have n3 : NmL env (Str.ofString "sign") := ⟨by rw [he]; rfl, rfl⟩
  have hasc := hT.ascii
  repeat' walk1
  rename_i ca _ _ _ _ it s1 S1
  refine m_for T.length
    (fun i s2 => ∃ c cols colvals o1, All2 VI colvals cols ∧ cols.getLast? = some c ∧ cols.length ≤ i + 1 ∧ walkOf T z = cols ++ walkGo z (T.drop i) c ∧
      St w os s.heap L [(Str.ofString "text", some (.str (tx T) t3)), (Str.ofString "size", some (.int z t4)), (Str.ofString "columns", some (.ref ca)), (Str.ofString "sign", o1)]
        [(it, SIterO (tx T) t3 i), (ca, ListO colvals)] s2)
    (fun s2 => ∃ o1 colvals, All2 VI colvals (walkOf T z) ∧
      St w os s.heap L [(Str.ofString "text", some (.str (tx T) t3)), (Str.ofString "size", some (.int z t4)), (Str.ofString "columns", some (.ref ca)), (Str.ofString "sign", o1)] [(ca, ListO colvals)] s2) ?turn ?last ?fin 0 (Nat.zero_le _) ?init
  case init => exact ⟨0, [0], _, none, .cons ⟨_, rfl⟩ .nil, rfl, Nat.le_refl _, rfl, S1⟩
  case fin =>
    rintro s2 ⟨o1, colvals, hcol, S2⟩
    repeat' walk1
    exact h _ _ S2.ok S2.keep (S2.new (ca, _) (.head _)).2.1 ((S2.mem (.head _)).imp fun o x => ⟨_, x, hcol⟩)
  case last =>
    rintro s2 ⟨c, cols, colvals, o1, hcol, hlast, hcl, heq, S2⟩
    refine r_end_str hA' S2 .head (by simp) fun s3 S3 => ⟨⟨o1, colvals, ?_, S3⟩⟩
    rw [heq]; simpa [walkGo] using hcol
  case turn =>
    rintro i s2 hi ⟨c, cols, colvals, o1, hcol, hlast, hcl, heq, S2⟩
    intro Ct Bt hCt hBt
    refine r_next_str S2 .head (c := T[i]) (by simp [hi]) fun t' s3 S3 => ?_
    have hdrop : T.drop i = T[i] :: T.drop (i + 1) := List.drop_eq_getElem_cons hi
    rw [hdrop] at heq
    obtain ⟨cv, hcv1⟩ : ∃ cv, colvals.getLast? = some (.int c cv) := by
      rw [List.getLast?_eq_getElem?] at hlast
      obtain ⟨v, hv, t, rfl⟩ := hcol.get hlast
      exact ⟨t, by rw [List.getLast?_eq_getElem?, hcol.length]; exact hv⟩
    have hcoll := hcol.length
    have hch := hT T[i] (List.getElem_mem hi)
    generalize T[i] = ch at hch heq S3
    rcases hch with rfl | rfl
    · repeat' walk1
      rename_i S4
      refine ⟨hCt _ ⟨_, cols ++ [_], _, _, hcol.append (.cons ⟨_, rfl⟩ .nil), List.getLast?_concat, by simp; lia, ?_, S4⟩⟩
      rw [heq]; simp [walkGo]
    · repeat' walk1
      rename_i S4
      refine ⟨hCt _ ⟨_, cols ++ [_], _, _, hcol.append (.cons ⟨_, rfl⟩ .nil), List.getLast?_concat, by simp; lia, ?_, S4⟩⟩
      rw [heq]; simp [walkGo]
end
noncomputable def fdAt (w : World) (a : Addr) : FuncData := match (KK w).lookup a with | some ⟨_, _, .func fd, _⟩ => fd | _ => default
/-- what the bisection reckons -/
noncomputable def bis (p : Nat → Bool) (lo hi : Nat) : Nat := if lo < hi then (if p ((lo + hi) / 2) then bis p ((lo + hi) / 2 + 1) hi else bis p lo ((lo + hi) / 2)) else lo
termination_by hi - lo
decreasing_by all_goals lia

/-- a key function upon a list's items -/
structure KeyOk (w : World) (os : OsState) (s : Shared) (d : Nat) (kf : Addr) (vs : List Value) (KV : Nat → Value → Prop) : Prop where
  fn : At s.heap kf FnO
  run : ∀ i v, vs[i]? = some v → ∀ (A' : Around) (s' : Shared) (Q : Value → Shared → Prop), Ar A' d → Ok w os s' → s.heap.StaysIn s'.heap → (∀ kv s'', KV i kv → Ok w os s'' → s'.heap.StaysIn s''.heap → Q kv s'') → wpAny (MM w) A' (call (.ref kf) [v] []) Q NoE s'
noncomputable def CmpOk (w : World) (vs : List Value) (KV : Nat → Value → Prop) (p : Nat → Bool) (x : Value) : Prop := ∀ i kv, i < vs.length → KV i kv → ∀ (A' : Around) (s' : Shared) (Q : Value → Shared → Prop), Q (.bool (p i)) s' → wpAny (MM w) A' (compareOp .Lt kv x) Q NoE s'
noncomputable def CmpOkR (w : World) (vs : List Value) (KV : Nat → Value → Prop) (p : Nat → Bool) (x : Value) : Prop := ∀ i kv, i < vs.length → KV i kv → ∀ (A' : Around) (s' : Shared) (Q : Value → Shared → Prop), Q (.bool (!p i)) s' → wpAny (MM w) A' (compareOp .Lt x kv) Q NoE s'

section
variable {w : World} {os : OsState} {s : Shared} {A : Around} {n : Nat} {R : Result → Shared → Prop}

set_option maxHeartbeats 4000000 in
theorem bisl_ok {a : Addr} {vs : List Value} {x : Value} {p : Nat → Bool} {args : Args} {t0 : Tok} (hA : Ar A (n + 1)) (O : Ok w os s) (hl : At s.heap a (ListO vs)) (hlen : vs.length ≤ 1000)
    (hb : BindsTo s (fdAt w 114) args [(Str.ofString "a", .ref a), (Str.ofString "x", x), (Str.ofString "lo", .int 0 t0), (Str.ofString "hi", .none), (Str.ofString "key", .none)])
    (hcmp : ∀ i v, vs[i]? = some v → ∀ A' s' Q, Q (.bool (p i)) s' → wpAny (MM w) A' (compareOp .Lt v x) Q NoE s')
    (h : ∀ t s', Ok w os s' → s.heap.StaysIn s'.heap → R (.ok (.ret (.int (bis p 0 vs.length : Nat) t))) s') :
    codeAny (MM w) A (.call (.ref 114) args) R s := by
  refine' enter (fr := [(Str.ofString "a", some (.ref a)), (Str.ofString "x", some x), (Str.ofString "lo", some (.int 0 t0)), (Str.ofString "hi", some .none), (Str.ofString "key", some (.none)), (Str.ofString "mid", none)]) hA O rfl ?cd hb ?loc ?cell rfl rfl rfl ?fr ?nd ?_
  case cd => kernel_rfl
  case loc => walk_at "m_all"
  case cell => decide
  case fr => walk_at "m_all"
  case nd => walk_at "m_nd"
  intro L s' A' env he S hA'
  have eF := he.facts rfl rfl
  have n0 : NmL env (Str.ofString "a") := ⟨by rw [he]; rfl, rfl⟩
  have n1 : NmL env (Str.ofString "x") := ⟨by rw [he]; rfl, rfl⟩
  have n2 : NmL env (Str.ofString "lo") := ⟨by rw [he]; rfl, rfl⟩
  have n3 : NmL env (Str.ofString "hi") := ⟨by rw [he]; rfl, rfl⟩
  have n4 : NmL env (Str.ofString "key") := ⟨by rw [he]; rfl, rfl⟩
  have n5 : NmL env (Str.ofString "mid") := ⟨by rw [he]; rfl, rfl⟩
  have n6 : NmV w env (Str.ofString "len") (.builtin "len") := nm_bi eF (by rw [he]; rfl) (by kernel_rfl) rfl (by decide) rfl
  repeat' walk1
  rename_i t2 s1 S1
  refine m_while
    (fun k s2 => ∃ (lo hi : Nat) (t1 t2 : Tok) (o1 : Option Value), k = hi - lo ∧ lo ≤ hi ∧ hi ≤ vs.length ∧ bis p lo hi = bis p 0 vs.length ∧
      St w os s.heap L [(Str.ofString "a", some (.ref a)), (Str.ofString "x", some x), (Str.ofString "lo", some (.int lo t1)), (Str.ofString "hi", some (.int hi t2)), (Str.ofString "key", some (.none)), (Str.ofString "mid", o1)] [] s2)
    (fun s2 => ∃ (t1 : Tok) (o2 o1 : Option Value),
      St w os s.heap L [(Str.ofString "a", some (.ref a)), (Str.ofString "x", some x), (Str.ofString "lo", some (.int (bis p 0 vs.length : Nat) t1)), (Str.ofString "hi", o2), (Str.ofString "key", some (.none)), (Str.ofString "mid", o1)] [] s2) ?turn ?fin vs.length ?init
  case init => exact ⟨0, vs.length, _, _, _, rfl, Nat.zero_le _, Nat.le_refl _, rfl, S1⟩
  case fin =>
    rintro s2 ⟨t1, o2, o1, S2⟩
    repeat' walk1
    exact h _ _ S2.ok S2.keep
  case turn =>
    rintro k s2 ⟨lo, hi, t1, t2, o1, rfl, hlh, hhv, hbis, S2⟩
    intro Ct Bt hCt hBt
    by_cases hlt : lo < hi
    · have hm : (((lo : Int) + (hi : Int)) / 2).toNat = (lo + hi) / 2 := by lia
      have hm2 : ((lo : Int) + (hi : Int)) / 2 = (((lo + hi) / 2 : Nat) : Int) := by lia
      have hmv : (lo + hi) / 2 < vs.length := by lia
      have hidx : vs[(((lo : Int) + (hi : Int)) / 2).toNat]? = some vs[(lo + hi) / 2] := by rw [hm]; exact List.getElem?_eq_getElem hmv
      have hrec : bis p lo hi = if p ((lo + hi) / 2) then bis p ((lo + hi) / 2 + 1) hi else bis p lo ((lo + hi) / 2) := by rw [bis]; simp [hlt]
      rw [hrec] at hbis
      repeat' walk1
      refine hcmp _ _ (List.getElem?_eq_getElem hmv) _ _ _ ?_
      cases hp : p ((lo + hi) / 2) with
      | true =>
        rw [hp, if_pos rfl] at hbis
        repeat' walk1
        rename_i S5
        rw [show ((lo : Int) + hi) / 2 + 1 = (((lo + hi) / 2 + 1 : Nat) : Int) from by lia] at S5
        exact ⟨hCt _ ⟨hi - ((lo + hi) / 2 + 1), by lia, _, _, _, _, _, rfl, by lia, hhv, hbis, S5⟩⟩
      | false =>
        rw [hp, if_neg (by simp)] at hbis
        repeat' walk1
        rename_i S5
        rw [hm2] at S5
        exact ⟨hCt _ ⟨(lo + hi) / 2 - lo, by lia, _, _, _, _, _, rfl, by lia, by lia, hbis, S5⟩⟩
    · have : lo = hi := by lia
      subst this
      rw [bis, if_neg (Nat.lt_irrefl _)] at hbis
      repeat' walk1
      exact ⟨hBt _ ⟨t1, _, _, by rw [← hbis]; exact S2⟩⟩

set_option maxHeartbeats 4000000 in
theorem bislk_ok {a kf : Addr} {vs : List Value} {x : Value} {p : Nat → Bool} {KV : Nat → Value → Prop} {args : Args} {t0 : Tok} (hA : Ar A (n + 1)) (O : Ok w os s) (hl : At s.heap a (ListO vs)) (hlen : vs.length ≤ 1000)
    (hb : BindsTo s (fdAt w 114) args [(Str.ofString "a", .ref a), (Str.ofString "x", x), (Str.ofString "lo", .int 0 t0), (Str.ofString "hi", .none), (Str.ofString "key", .ref kf)])
    (hkey : KeyOk w os s n kf vs KV) (hcmp : CmpOk w vs KV p x)
    (h : ∀ t s', Ok w os s' → s.heap.StaysIn s'.heap → R (.ok (.ret (.int (bis p 0 vs.length : Nat) t))) s') :
    codeAny (MM w) A (.call (.ref 114) args) R s := by
  refine' enter (fr := [(Str.ofString "a", some (.ref a)), (Str.ofString "x", some x), (Str.ofString "lo", some (.int 0 t0)), (Str.ofString "hi", some .none), (Str.ofString "key", some (.ref kf)), (Str.ofString "mid", none)]) hA O rfl ?cd hb ?loc ?cell rfl rfl rfl ?fr ?nd ?_
  case cd => kernel_rfl
  case loc => walk_at "m_all"
  case cell => decide
  case fr => walk_at "m_all"
  case nd => walk_at "m_nd"
  intro L s' A' env he S hA'
  have eF := he.facts rfl rfl
  have n0 : NmL env (Str.ofString "a") := ⟨by rw [he]; rfl, rfl⟩
  have n1 : NmL env (Str.ofString "x") := ⟨by rw [he]; rfl, rfl⟩
  have n2 : NmL env (Str.ofString "lo") := ⟨by rw [he]; rfl, rfl⟩
  have n3 : NmL env (Str.ofString "hi") := ⟨by rw [he]; rfl, rfl⟩
  have n4 : NmL env (Str.ofString "key") := ⟨by rw [he]; rfl, rfl⟩
  have n5 : NmL env (Str.ofString "mid") := ⟨by rw [he]; rfl, rfl⟩
  have n6 : NmV w env (Str.ofString "len") (.builtin "len") := nm_bi eF (by rw [he]; rfl) (by kernel_rfl) rfl (by decide) rfl
  have hfn := hkey.fn
  repeat' walk1
  rename_i t2 s1 S1
  refine m_while
    (fun k s2 => ∃ (lo hi : Nat) (t1 t2 : Tok) (o1 : Option Value), k = hi - lo ∧ lo ≤ hi ∧ hi ≤ vs.length ∧ bis p lo hi = bis p 0 vs.length ∧
      St w os s.heap L [(Str.ofString "a", some (.ref a)), (Str.ofString "x", some x), (Str.ofString "lo", some (.int lo t1)), (Str.ofString "hi", some (.int hi t2)), (Str.ofString "key", some (.ref kf)), (Str.ofString "mid", o1)] [] s2)
    (fun s2 => ∃ (t1 : Tok) (o2 o1 : Option Value),
      St w os s.heap L [(Str.ofString "a", some (.ref a)), (Str.ofString "x", some x), (Str.ofString "lo", some (.int (bis p 0 vs.length : Nat) t1)), (Str.ofString "hi", o2), (Str.ofString "key", some (.ref kf)), (Str.ofString "mid", o1)] [] s2) ?turn ?fin vs.length ?init
  case init => exact ⟨0, vs.length, _, _, _, rfl, Nat.zero_le _, Nat.le_refl _, rfl, S1⟩
  case fin =>
    rintro s2 ⟨t1, o2, o1, S2⟩
    repeat' walk1
    exact h _ _ S2.ok S2.keep
  case turn =>
    rintro k s2 ⟨lo, hi, t1, t2, o1, rfl, hlh, hhv, hbis, S2⟩
    intro Ct Bt hCt hBt
    by_cases hlt : lo < hi
    · have hm : (((lo : Int) + (hi : Int)) / 2).toNat = (lo + hi) / 2 := by lia
      have hm2 : ((lo : Int) + (hi : Int)) / 2 = (((lo + hi) / 2 : Nat) : Int) := by lia
      have hmv : (lo + hi) / 2 < vs.length := by lia
      have hidx : vs[(((lo : Int) + (hi : Int)) / 2).toNat]? = some vs[(lo + hi) / 2] := by rw [hm]; exact List.getElem?_eq_getElem hmv
      have hrec : bis p lo hi = if p ((lo + hi) / 2) then bis p ((lo + hi) / 2 + 1) hi else bis p lo ((lo + hi) / 2) := by rw [bis]; simp [hlt]
      rw [hrec] at hbis
      repeat' walk1
      rename_i S4
      refine hkey.run _ _ (List.getElem?_eq_getElem hmv) _ _ _ hA' S4.ok S4.keep fun kv s5 hkv O5 k5 => ?_
      have S5 := S4.call k5 O5
      repeat' walk1
      refine hcmp _ _ hmv hkv _ _ _ ?_
      cases hp : p ((lo + hi) / 2) with
      | true =>
        rw [hp, if_pos rfl] at hbis
        repeat' walk1
        rename_i S5
        rw [show ((lo : Int) + hi) / 2 + 1 = (((lo + hi) / 2 + 1 : Nat) : Int) from by lia] at S5
        exact ⟨hCt _ ⟨hi - ((lo + hi) / 2 + 1), by lia, _, _, _, _, _, rfl, by lia, hhv, hbis, S5⟩⟩
      | false =>
        rw [hp, if_neg (by simp)] at hbis
        repeat' walk1
        rename_i S5
        rw [hm2] at S5
        exact ⟨hCt _ ⟨(lo + hi) / 2 - lo, by lia, _, _, _, _, _, rfl, by lia, by lia, hbis, S5⟩⟩
    · have : lo = hi := by lia
      subst this
      rw [bis, if_neg (Nat.lt_irrefl _)] at hbis
      repeat' walk1
      exact ⟨hBt _ ⟨t1, _, _, by rw [← hbis]; exact S2⟩⟩

set_option maxHeartbeats 4000000 in
theorem bisrk_ok {a kf : Addr} {vs : List Value} {x : Value} {p : Nat → Bool} {KV : Nat → Value → Prop} {args : Args} {t0 : Tok} (hA : Ar A (n + 1)) (O : Ok w os s) (hl : At s.heap a (ListO vs)) (hlen : vs.length ≤ 1000)
    (hb : BindsTo s (fdAt w 105) args [(Str.ofString "a", .ref a), (Str.ofString "x", x), (Str.ofString "lo", .int 0 t0), (Str.ofString "hi", .none), (Str.ofString "key", .ref kf)])
    (hkey : KeyOk w os s n kf vs KV) (hcmp : CmpOkR w vs KV p x)
    (h : ∀ t s', Ok w os s' → s.heap.StaysIn s'.heap → R (.ok (.ret (.int (bis p 0 vs.length : Nat) t))) s') :
    codeAny (MM w) A (.call (.ref 105) args) R s := by
  refine' enter (fr := [(Str.ofString "a", some (.ref a)), (Str.ofString "x", some x), (Str.ofString "lo", some (.int 0 t0)), (Str.ofString "hi", some .none), (Str.ofString "key", some (.ref kf)), (Str.ofString "mid", none)]) hA O rfl ?cd hb ?loc ?cell rfl rfl rfl ?fr ?nd ?_
  case cd => kernel_rfl
  case loc => walk_at "m_all"
  case cell => decide
  case fr => walk_at "m_all"
  case nd => walk_at "m_nd"
  intro L s' A' env he S hA'
  have eF := he.facts rfl rfl
  have n0 : NmL env (Str.ofString "a") := ⟨by rw [he]; rfl, rfl⟩
  have n1 : NmL env (Str.ofString "x") := ⟨by rw [he]; rfl, rfl⟩
  have n2 : NmL env (Str.ofString "lo") := ⟨by rw [he]; rfl, rfl⟩
  have n3 : NmL env (Str.ofString "hi") := ⟨by rw [he]; rfl, rfl⟩
  have n4 : NmL env (Str.ofString "key") := ⟨by rw [he]; rfl, rfl⟩
  have n5 : NmL env (Str.ofString "mid") := ⟨by rw [he]; rfl, rfl⟩
  have n6 : NmV w env (Str.ofString "len") (.builtin "len") := nm_bi eF (by rw [he]; rfl) (by kernel_rfl) rfl (by decide) rfl
  have hfn := hkey.fn
  repeat' walk1
  rename_i t2 s1 S1
  refine m_while
    (fun k s2 => ∃ (lo hi : Nat) (t1 t2 : Tok) (o1 : Option Value), k = hi - lo ∧ lo ≤ hi ∧ hi ≤ vs.length ∧ bis p lo hi = bis p 0 vs.length ∧
      St w os s.heap L [(Str.ofString "a", some (.ref a)), (Str.ofString "x", some x), (Str.ofString "lo", some (.int lo t1)), (Str.ofString "hi", some (.int hi t2)), (Str.ofString "key", some (.ref kf)), (Str.ofString "mid", o1)] [] s2)
    (fun s2 => ∃ (t1 : Tok) (o2 o1 : Option Value),
      St w os s.heap L [(Str.ofString "a", some (.ref a)), (Str.ofString "x", some x), (Str.ofString "lo", some (.int (bis p 0 vs.length : Nat) t1)), (Str.ofString "hi", o2), (Str.ofString "key", some (.ref kf)), (Str.ofString "mid", o1)] [] s2) ?turn ?fin vs.length ?init
  case init => exact ⟨0, vs.length, _, _, _, rfl, Nat.zero_le _, Nat.le_refl _, rfl, S1⟩
  case fin =>
    rintro s2 ⟨t1, o2, o1, S2⟩
    repeat' walk1
    exact h _ _ S2.ok S2.keep
  case turn =>
    rintro k s2 ⟨lo, hi, t1, t2, o1, rfl, hlh, hhv, hbis, S2⟩
    intro Ct Bt hCt hBt
    by_cases hlt : lo < hi
    · have hm : (((lo : Int) + (hi : Int)) / 2).toNat = (lo + hi) / 2 := by lia
      have hm2 : ((lo : Int) + (hi : Int)) / 2 = (((lo + hi) / 2 : Nat) : Int) := by lia
      have hmv : (lo + hi) / 2 < vs.length := by lia
      have hidx : vs[(((lo : Int) + (hi : Int)) / 2).toNat]? = some vs[(lo + hi) / 2] := by rw [hm]; exact List.getElem?_eq_getElem hmv
      have hrec : bis p lo hi = if p ((lo + hi) / 2) then bis p ((lo + hi) / 2 + 1) hi else bis p lo ((lo + hi) / 2) := by rw [bis]; simp [hlt]
      rw [hrec] at hbis
      repeat' walk1
      rename_i S4
      refine hkey.run _ _ (List.getElem?_eq_getElem hmv) _ _ _ hA' S4.ok S4.keep fun kv s5 hkv O5 k5 => ?_
      have S5 := S4.call k5 O5
      repeat' walk1
      refine hcmp _ _ hmv hkv _ _ _ ?_
      cases hp : p ((lo + hi) / 2) with
      | true =>
        rw [hp, if_pos rfl] at hbis
        repeat' walk1
        rename_i S5
        rw [show ((lo : Int) + hi) / 2 + 1 = (((lo + hi) / 2 + 1 : Nat) : Int) from by lia] at S5
        exact ⟨hCt _ ⟨hi - ((lo + hi) / 2 + 1), by lia, _, _, _, _, _, rfl, by lia, hhv, hbis, S5⟩⟩
      | false =>
        rw [hp, if_neg (by simp)] at hbis
        repeat' walk1
        rename_i S5
        rw [hm2] at S5
        exact ⟨hCt _ ⟨(lo + hi) / 2 - lo, by lia, _, _, _, _, _, rfl, by lia, by lia, hbis, S5⟩⟩
    · have : lo = hi := by lia
      subst this
      rw [bis, if_neg (Nat.lt_irrefl _)] at hbis
      repeat' walk1
      exact ⟨hBt _ ⟨t1, _, _, by rw [← hbis]; exact S2⟩⟩

end
local macro_rules | `(tactic| walk_at "callWith ref") => `(tactic| (refine' r_callKkw ?k ?a ?_ ?he; (case k => k_dflt (kernel_rfl)); (case a => k_dflt (exact rfl)); (case he => k_dflt (exact rfl))))
local macro_rules | `(tactic| walk_at "callWith ref") => `(tactic| (refine' r_callK ?k ?_ ?he; (case k => k_dflt (kernel_rfl)); (case he => k_dflt (exact rfl))))
local macro_rules | `(tactic| walk_at "callWith ref") => `(tactic| (refine' r_callF ?f ?_ ?he; (case f => with_reducible assumption); (case he => k_dflt (exact rfl))))
noncomputable def noLists (K : Frag) : Bool := K.all fun p => match p.2.data with | .seq _ _ => (match p.2.cls with | .type "list" => false | _ => true) | _ => true
theorem noLists_is {K : Frag} {a : Addr} {o : Obj} {vs : List Value} (h : noLists K = true) (e : K.lookup a = some o) (x : ListO vs o) : False := by
  obtain ⟨n, rfl⟩ := x
  have hm : (a, ({ cls := .type "list", data := .seq vs.toArray n } : Obj)) ∈ K := by
    clear h
    induction K with
    | nil => cases e
    | cons p r ih =>
      obtain ⟨b, o⟩ := p
      rw [List.lookup_cons] at e
      cases hb : a == b with
      | true => rw [hb] at e; cases e; rw [eq_of_beq hb]; exact .head _
      | false => rw [hb] at e; exact .tail _ (ih e)
  have := List.all_eq_true.mp h _ hm
  simp at this
theorem Gd.hide {w : World} {g : Heap} {a : Addr} {vs : List Value} (G : Gd w g) (x : At g a (ListO vs)) : Gd w (g.hide a) := by
  obtain ⟨o, e, hl⟩ := x
  have hne : ∀ b o', g.get? b = some o' → (¬ ListO vs o') → (g.hide a).get? b = some o' := fun b o' eb hn => by
    rw [Heap.hide_ne g (fun z => hn (by rw [z, e] at eb; cases eb; exact hl))]; exact eb
  have hns : ∀ b m, g.Ns b m → (g.hide a).Ns b m := fun b m hn => by
    obtain ⟨o', es, ep, eb, hd, r⟩ := hn
    refine ⟨o', es, ep, hne b o' eb (fun z => ?_), hd, r⟩
    obtain ⟨n, rfl⟩ := z
    cases hd
  refine ⟨fun b o' eb => hne b o' (G.K _ _ eb) fun z => noLists_is (K := KK w) (by kernel_rfl) eb z, ?_, ?_⟩
  · obtain ⟨mg, mb, h1, h2, ⟨mc, h3, h4⟩, h5⟩ := G.top
    exact ⟨mg, mb, hns _ _ h1, hns _ _ h2, ⟨mc, hns _ _ h3, h4⟩, h5⟩
  · obtain ⟨mg, bm, ob, h1, h2, h3, h4, h5, h6⟩ := G.bmod
    exact ⟨mg, bm, ob, hns _ _ h1, h2, h3, hne _ _ h4 (fun ⟨n, z⟩ => by rw [z] at h5; simp at h5), h5, h6⟩
section
variable {w : World} {os : OsState} {g : Heap} {L : Addr} {fr : Fm} {nw : Nw} {s : Shared}
/-- a list of the base goes into the ledger -/
theorem St.thaw {a : Addr} {vs : List Value} (S : St w os g L fr nw s) (x : At g a (ListO vs)) : St w os (g.hide a) L fr ((a, ListO vs) :: nw) s := by
  obtain ⟨o, e, hl⟩ := id x
  refine ⟨S.gd.hide x, fun b o e' => S.keep b o (Heap.of_hide e'), S.ns, ?_, fun p hp => ?_, ?_, S.hos, S.hgens⟩
  · cases q : (g.hide a).get? L with
    | none => rfl
    | some o' => have := Heap.of_hide q; rw [S.gL] at this; cases this
  · rcases List.mem_cons.mp hp with rfl | hp
    · exact ⟨⟨o, S.keep _ _ e, hl⟩, Heap.hide_self _ _, fun z => by have z' : a = L := z; rw [z', S.gL] at e; cases e⟩
    · refine ⟨(S.new p hp).1, ?_, (S.new p hp).2.2⟩
      cases q : (g.hide a).get? p.1 with
      | none => rfl
      | some o' => have := Heap.of_hide q; rw [(S.new p hp).2.1] at this; cases this
  · rw [List.map_cons, List.nodup_cons]
    refine ⟨fun hm => ?_, S.nd⟩
    obtain ⟨p, hp, z⟩ := List.mem_map.mp hm
    have := (S.new p hp).2.1
    rw [z, e] at this; cases this
theorem KeyOk.mono {s s' : Shared} {d : Nat} {kf : Addr} {vs : List Value} {KV : Nat → Value → Prop} (h : KeyOk w os s d kf vs KV) (k : s.heap.StaysIn s'.heap) : KeyOk w os s' d kf vs KV :=
  ⟨h.fn.keeps fun o e => k _ o e, fun i v hv A' s'' Q hA O k' q => h.run i v hv A' s'' Q hA O (fun b o e => k' b o (k b o e)) q⟩
end
section
variable {w : World} {os : OsState} {s : Shared} {A : Around} {n : Nat} {R : Result → Shared → Prop}
set_option maxHeartbeats 4000000 in
theorem insort_ok {a kf : Addr} {vs : List Value} {x : Value} {p : Nat → Bool} {KV : Nat → Value → Prop} {KX : Value → Prop} (hA : Ar A (n + 2)) (O : Ok w os s) (hl : At s.heap a (ListO vs)) (hlen : vs.length ≤ 1000)
    (hkey : KeyOk w os s n kf vs KV) (hcmp : ∀ xk, KX xk → CmpOkR w vs KV p xk) (hp : bis p 0 vs.length ≤ vs.length)
    (hx : KeyOk w os s (n + 1) kf [x] fun _ v => KX v)
    (h : ∀ s', Ok w os s' → Heap.ExtBut a s.heap s'.heap → At s'.heap a (ListO (vs.take (bis p 0 vs.length) ++ x :: vs.drop (bis p 0 vs.length))) → R (.ok (.ret .none)) s') :
    codeAny (MM w) A (.call (.ref 96) ⟨[.ref a, x], [(Str.ofString "key", .ref kf)]⟩) R s := by
  refine' enter (fr := [(Str.ofString "a", some (.ref a)), (Str.ofString "x", some x), (Str.ofString "lo", some (.int 0 301)), (Str.ofString "hi", some .none), (Str.ofString "key", some (.ref kf))]) (binds := [(Str.ofString "a", .ref a), (Str.ofString "x", x), (Str.ofString "lo", .int 0 301), (Str.ofString "hi", .none), (Str.ofString "key", .ref kf)]) hA O rfl ?cd ?bd ?loc ?cell rfl rfl rfl ?fr ?nd ?_
  case cd => kernel_rfl
  case bd => exact kp_binds O.gd.K fun S => by kernel_rfl
  case loc => walk_at "m_all"
  case cell => decide
  case fr => walk_at "m_all"
  case nd => walk_at "m_nd"
  intro L s' A' env he S hA'
  have eF := he.facts rfl rfl
  have n0 : NmL env (Str.ofString "a") := ⟨by rw [he]; rfl, rfl⟩
  have n1 : NmL env (Str.ofString "x") := ⟨by rw [he]; rfl, rfl⟩
  have n2 : NmL env (Str.ofString "lo") := ⟨by rw [he]; rfl, rfl⟩
  have n3 : NmL env (Str.ofString "hi") := ⟨by rw [he]; rfl, rfl⟩
  have n4 : NmL env (Str.ofString "key") := ⟨by rw [he]; rfl, rfl⟩
  have n5 : NmV w env (Str.ofString "bisect_right") (.ref 105) := nm_glob eF (by rw [he]; rfl) (by kernel_rfl) rfl
  have hfn := hkey.fn
  repeat' walk1
  refine hx.run 0 x rfl _ _ _ hA' S.ok S.keep fun kv s2 hkv O2 k2 => ?_
  have S2 := S.call k2 O2
  repeat' walk1
  refine wpAny_call (bisrk_ok (n := n) (x := kv) (p := p) (KV := KV) (t0 := 301) hA' S2.ok (S2.old hl) hlen (kp_binds S2.ok.gd.K fun S => by kernel_rfl) (hkey.mono S2.keep) (hcmp _ hkv) fun t s3 O3 k3 => ?_)
  have S3 := S2.call k3 O3
  repeat' walk1
  rename_i S4
  have S5 := S4.thaw hl
  refine r_insert S5 .head (by lia) (by lia) (by lia) fun s6 S6 => ?_
  repeat' walk1
  rw [Int.toNat_natCast] at S6
  exact h _ S6.ok (fun b o hb e => S6.keep b o (by rw [Heap.hide_ne _ hb]; exact e)) (S6.mem (.head _))
end
section
variable {w : World} {os : OsState} {g : Heap} {L : Addr} {s : Shared} {A : Around} {n : Nat} {fr : Fm} {R : Result → Shared → Prop}
/-- a lambda is called: its frame -/
theorem enterLam {f : Addr} {args : Args} {binds : List (Str × Value)} {name qual : Str} {params : Arguments} {body : Expr} {scope : Scope} {clos : List (Str × Addr)}
    (hA : Ar A (n + 1)) (O : Ok w os s) (hf : IsLam s.heap f name qual params body scope clos)
    (hbind : ∀ pm cdv ct, bindArgs (kla_fn name qual params body scope clos pm cdv ct) args = pure binds) (hloc : ∀ y ∈ binds, scope.names.lookup y.1 = some .local)
    (hcell : ∀ x ∈ scope.names, x.2 ≠ .cell) (hco : scope.isCoroutine = false) (hgen : scope.isGenerator = false) (hk : scope.kind = .function)
    (hfr : ∀ p ∈ fr, binds.reverse.lookup p.1 = p.2) (hnd : (fr.map (·.1)).Nodup)
    (h : ∀ L s' A' env, (∃ cd, env = envX qual scope L f cd clos) → St w os s.heap L fr [] s' → Ar A' n → wpAny (MM w) A' (eval body env) (fun v s'' => R (.ok (.ret v)) s'') NoE s') :
    codeAny (MM w) A (.call (.ref f) args) R s := by
  obtain ⟨mg, mb, _, _, hlim, _⟩ := O.gd.top
  obtain ⟨pm, c', ctv, e, hrec⟩ := hf
  refine kla_callFunE (fd := kla_fn name qual params body scope clos pm (.ref c') ctv) hA.room e rfl hco hgen rfl hrec ?_
  rw [hbind]
  refine wpAny_pure (wpAny_newFunctionEnv hcell hloc (fun h₁ hns hsb => ⟨hlim.fresh _ hsb, ?_⟩) hk)
  have hn : s.heap.get? s.heap.objs.size = none := by
    cases q : s.heap.get? s.heap.objs.size with
    | none => rfl
    | some o => exact absurd (Heap.lt_size q) (Nat.lt_irrefl _)
  refine kla_codeExpr ?_
  have := h s.heap.objs.size { s with heap := h₁, toks := s.toks + binds.length } (A.deeper (envX qual scope s.heap.objs.size f (.ref c') clos)) _ ⟨.ref c', rfl⟩
    ⟨O.gd, fun b o e => hsb.extBut b o (Nat.ne_of_lt (Heap.lt_size e)) (Heap.get?_push_of_some _ e), ⟨⟨_, hns, hfr⟩, hnd⟩, hn, (fun _ hp => nomatch hp), List.nodup_nil, O.hos, O.hgens⟩ hA.deeper
  exact wpAny_mono this (fun _ _ x => x) fun _ _ x => x.elim
end
/-- an entry of the book: a text and its number -/
abbrev Ent := List Nat × Int
noncomputable def VE (g : Heap) (v : Value) (e : Ent) : Prop := ∃ a t u, v = .ref a ∧ At g a (ListO [.str (tx e.1) t, .int e.2 u])
theorem VE.mono {g g' : Heap} (k : g.StaysIn g') {v : Value} {e : Ent} (x : VE g v e) : VE g' v e := let ⟨a, t, u, e1, h⟩ := x; ⟨a, t, u, e1, h.keeps fun o z => k a o z⟩

section
variable {w : World} {os : OsState} {s : Shared} {A : Around} {n : Nat} {R : Result → Shared → Prop}
abbrev lamParams (p4 : Pos) : Arguments := { posonlyargs := [], args := [{ arg := Str.ofString "entry", annotation := none, pos := p4 }], vararg := none, kwonlyargs := [], kw_defaults := [], kwarg := none, defaults := [] }
abbrev lamBody (p1 p2 p3 : Pos) : Expr := .Subscript (.Name (Str.ofString "entry") p1) (.Constant (.int 0) 0 p2) p3
theorem lam_run {kf : Addr} {qual : Str} {scope : Scope} {p1 p2 p3 p4 : Pos} {v : Value} {e : Ent} {Q : Value → Shared → Prop} (hA : Ar A (n + 1)) (O : Ok w os s)
    (hf : IsLam s.heap kf "<lambda>" qual (lamParams p4) (lamBody p1 p2 p3) scope []) (hs : scope = { kind := .function, names := [(Str.ofString "entry", .local)], isGenerator := false, isCoroutine := false })
    (hv : VE s.heap v e) (h : ∀ t s', Ok w os s' → s.heap.StaysIn s'.heap → Q (.str (tx e.1) t) s') : wpAny (MM w) A (call (.ref kf) [v] []) Q NoE s := by
  subst hs
  obtain ⟨a, t, u, rfl, ha⟩ := hv
  refine' wpAny_call (enterLam (fr := [(Str.ofString "entry", some (.ref a))]) (binds := [(Str.ofString "entry", .ref a)]) hA O hf (fun _ _ _ => by kernel_rfl) ?loc ?cell rfl rfl rfl ?fr ?nd ?_)
  case loc => walk_at "m_all"
  case cell => decide
  case fr => walk_at "m_all"
  case nd => walk_at "m_nd"
  rintro L s' A' env ⟨cd, he⟩ S hA'
  have eF : EnvF env L := by rw [he]; exact ⟨rfl, rfl, rfl, rfl, rfl⟩
  have n0 : NmL env (Str.ofString "entry") := ⟨by rw [he]; rfl, rfl⟩
  repeat' walk1
  exact h _ _ (St.ok (by assumption)) (St.keep (by assumption))
theorem lam_key {kf : Addr} {qual : Str} {scope : Scope} {p1 p2 p3 p4 : Pos} {evs : List Value} {book : List Ent}
    (hf : IsLam s.heap kf "<lambda>" qual (lamParams p4) (lamBody p1 p2 p3) scope []) (hs : scope = { kind := .function, names := [(Str.ofString "entry", .local)], isGenerator := false, isCoroutine := false })
    (hb : All2 (VE s.heap) evs book) : KeyOk w os s (n + 1) kf evs (fun i v => ∃ e t, book[i]? = some e ∧ v = .str (tx e.1) t) :=
  ⟨hf.fn, fun i v hv A' s' Q hA O k q => by
    obtain ⟨e, he, hve⟩ := hb.get' hv
    exact lam_run hA O (hf.mono k) hs (hve.mono k) fun t s'' O' k' => q _ _ ⟨e, t, he, rfl⟩ O' k'⟩

theorem binds_bisl {w : World} {s : Shared} (G : Gd w s.heap) {a x : Value} {kf : Addr} : BindsTo s (fdAt w 114) ⟨[a, x], [(Str.ofString "key", .ref kf)]⟩ [(Str.ofString "a", a), (Str.ofString "x", x), (Str.ofString "lo", .int 0 328), (Str.ofString "hi", .none), (Str.ofString "key", .ref kf)] :=
  kp_binds G.K fun S => by kernel_rfl
theorem binds_bisr {w : World} {s : Shared} (G : Gd w s.heap) {a x : Value} {kf : Addr} : BindsTo s (fdAt w 105) ⟨[a, x], [(Str.ofString "key", .ref kf)]⟩ [(Str.ofString "a", a), (Str.ofString "x", x), (Str.ofString "lo", .int 0 314), (Str.ofString "hi", .none), (Str.ofString "key", .ref kf)] :=
  kp_binds G.K fun S => by kernel_rfl
theorem binds_bisl0 {w : World} {s : Shared} (G : Gd w s.heap) {a x : Value} : BindsTo s (fdAt w 114) ⟨[a, x], []⟩ [(Str.ofString "a", a), (Str.ofString "x", x), (Str.ofString "lo", .int 0 328), (Str.ofString "hi", .none), (Str.ofString "key", .none)] :=
  kp_binds G.K fun S => by kernel_rfl
theorem tx_beq {a b : List Nat} : (tx a == tx b) = decide (a = b) := by
  rw [Bool.eq_iff_iff, beq_iff_eq, decide_eq_true_iff]
  exact ⟨fun h => by have := congrArg (fun x => x.cps.toList) h; simpa using this, fun h => by rw [h]⟩
/-- what _law_packed reckons -/
noncomputable def keyAt (book : List Ent) (i : Nat) : List Nat := ((book[i]?).map (·.1)).getD []
noncomputable def grow (near rest : List Nat) (size : Nat) : Nat := if size < near.length ∧ near.take (size + 1) = rest.take (size + 1) then grow near rest (size + 1) else size
termination_by near.length - size
decreasing_by lia
theorem grow_ge (near rest : List Nat) : ∀ k, k ≤ grow near rest k := by
  intro k
  induction h : near.length - k using Nat.strongRecOn generalizing k with
  | _ m ih =>
    rw [grow]
    split
    · rename_i c
      exact Nat.le_trans (Nat.le_succ _) (ih (near.length - (k + 1)) (by lia) (k + 1) rfl)
    · exact Nat.le_refl _
theorem All2.take {α β : Type} {R : α → β → Prop} {as : List α} {bs : List β} (h : All2 R as bs) : ∀ k, All2 R (as.take k) (bs.take k) := by
  induction h with
  | nil => intro k; simpa using All2.nil
  | cons x _ ih => intro k; cases k with | zero => exact .nil | succ k => exact .cons x (ih k)
theorem All2.drop {α β : Type} {R : α → β → Prop} {as : List α} {bs : List β} (h : All2 R as bs) : ∀ k, All2 R (as.drop k) (bs.drop k) := by
  induction h with
  | nil => intro k; simpa using All2.nil
  | cons x r ih => intro k; cases k with | zero => exact .cons x r | succ k => exact ih k
theorem KeyOk.imp {s : Shared} {os : OsState} {d : Nat} {kf : Addr} {vs : List Value} {KV KV' : Nat → Value → Prop} (h : KeyOk w os s d kf vs KV) (i : ∀ j v, KV j v → KV' j v) : KeyOk w os s d kf vs KV' :=
  ⟨h.fn, fun j v hv A' s' Q hA O k q => h.run j v hv A' s' Q hA O k fun kv s'' hkv => q kv s'' (i _ _ hkv)⟩
noncomputable def posR (book : List Ent) (x : List Nat) : Nat := bis (fun i => !decide (x < keyAt book i)) 0 book.length
noncomputable def posL (book : List Ent) (x : List Nat) : Nat := bis (fun i => decide (keyAt book i < x)) 0 book.length
noncomputable def insB (book : List Ent) (e : Ent) : List Ent := book.take (posR book e.1) ++ e :: book.drop (posR book e.1)
/-- the row of numbers from a book and a spot on, where nothing falls outside -/
inductive Packs (T : List Nat) : List Ent → Nat → List Int → Prop
  | done {book : List Ent} {spot : Nat} : T.length ≤ spot → Packs T book spot []
  | step {book : List Ent} {spot size : Nat} {near : List Nat} {nc c : Int} {key : List Nat} {codes : List Int} : spot < T.length → book.length ≤ 2 + spot →
      posR book (T.drop spot) ≤ book.length → 1 ≤ posR book (T.drop spot) → book[posR book (T.drop spot) - 1]? = some (near, nc) → near.length ≤ 1000 → size = grow near (T.drop spot) 1 → size ≤ (T.drop spot).length →
      book[posL book ((T.drop spot).take size)]? = some (key, c) → posR book ((T.drop spot).take (size + 1)) ≤ book.length →
      Packs T (if size < (T.drop spot).length then insB book ((T.drop spot).take (size + 1), 254 + (book.length : Int)) else book) (spot + size) codes →
      Packs T book spot (c :: codes)
noncomputable def book0 : List Ent := [([9], 9), ([32], 32)]

theorem cmpL {evs : List Value} {book : List Ent} {x : List Nat} {t : Tok} (hl : evs.length = book.length) : CmpOk w evs (fun i v => ∃ e t, book[i]? = some e ∧ v = .str (tx e.1) t) (fun i => decide (keyAt book i < x)) (.str (tx x) t) := by
  rintro i kv hi ⟨e, t', he, rfl⟩ A' s' Q q
  refine PyProof.Rows.lt_str ?_
  have : keyAt book i = e.1 := by simp [keyAt, he]
  simp only [this] at q
  exact q
theorem cmpR {evs : List Value} {book : List Ent} {x : List Nat} {t : Tok} (hl : evs.length = book.length) : CmpOkR w evs (fun i v => ∃ e t, book[i]? = some e ∧ v = .str (tx e.1) t) (fun i => !decide (x < keyAt book i)) (.str (tx x) t) := by
  rintro i kv hi ⟨e, t', he, rfl⟩ A' s' Q q
  refine PyProof.Rows.lt_str ?_
  have : keyAt book i = e.1 := by simp [keyAt, he]
  simp only [this, Bool.not_not] at q
  exact q
end
theorem St.freezeD {w : World} {os : OsState} {g : Heap} {L : Addr} {fr : Fm} {nw nw' : Nw} {s : Shared} {a : Addr} {P : Obj → Prop} (S : St w os g L fr nw s) (u : DelN nw a P nw') : ∃ g', g.StaysIn g' ∧ At g' a P ∧ St w os g' L fr nw' s := by
  have q := S.new _ u.mem
  obtain ⟨g', k, hin, _, S'⟩ := (S.del u).rebase
  obtain ⟨o, e, p⟩ := q.1
  refine ⟨g', k, ⟨o, hin a o e q.2.2 fun z => ?_, p⟩, S'⟩
  obtain ⟨p', hp, z'⟩ := List.mem_map.mp z
  exact u.ne S.nd p' hp z'
section
variable {w : World} {os : OsState} {s : Shared} {A : Around} {n : Nat} {R : Result → Shared → Prop}
set_option maxHeartbeats 40000000 in
theorem packed_ok {T : List Nat} {codes : List Int} {t3 : Tok} (hA : Ar A (n + 4)) (O : Ok w os s) (hlen : T.length ≤ 900) (hP : Packs T book0 0 codes)
    (htab : s.heap.get? 137 = some (tabObj #[]))
    (h : ∀ q s' ps, Ok w os s' → Heap.ExtBut 137 s.heap s'.heap → s'.heap.get? 137 = some (tabObj ps) → s.heap.get? q = none → At s'.heap q (IntsO (codes ++ [0])) → R (.ok (.ret (.ref q))) s') :
    codeAny (MM w) A (.call (.ref 142) ⟨[.str (tx T) t3], []⟩) R s := by
  refine' enter (fr := [(Str.ofString "text", some (.str (tx T) t3)), (Str.ofString "book", none), (Str.ofString "codes", none), (Str.ofString "spot", none), (Str.ofString "rest", none), (Str.ofString "near", none), (Str.ofString "size", none)]) hA O rfl ?cd (BindsTo.of_eq rfl) ?loc ?cell rfl rfl rfl ?fr ?nd ?_
  case cd => kernel_rfl
  case loc => walk_at "m_all"
  case cell => decide
  case fr => walk_at "m_all"
  case nd => walk_at "m_nd"
  intro L s' A' env he S hA'
  have eF := he.facts rfl rfl
  have n0 : NmL env (Str.ofString "text") := ⟨by rw [he]; rfl, rfl⟩
  have n1 : NmL env (Str.ofString "book") := ⟨by rw [he]; rfl, rfl⟩
  have n2 : NmL env (Str.ofString "codes") := ⟨by rw [he]; rfl, rfl⟩
  have n3 : NmL env (Str.ofString "spot") := ⟨by rw [he]; rfl, rfl⟩
  have n4 : NmL env (Str.ofString "rest") := ⟨by rw [he]; rfl, rfl⟩
  have n5 : NmL env (Str.ofString "near") := ⟨by rw [he]; rfl, rfl⟩
  have n6 : NmL env (Str.ofString "size") := ⟨by rw [he]; rfl, rfl⟩
  have n7 : NmV w env (Str.ofString "bisect_right") (.ref 105) := nm_glob eF (by rw [he]; rfl) (by kernel_rfl) rfl
  have n8 : NmV w env (Str.ofString "bisect_left") (.ref 114) := nm_glob eF (by rw [he]; rfl) (by kernel_rfl) rfl
  have n9 : NmV w env (Str.ofString "insort_right") (.ref 96) := nm_glob eF (by rw [he]; rfl) (by kernel_rfl) rfl
  have n10 : NmV w env (Str.ofString "len") (.builtin "len") := nm_bi eF (by rw [he]; rfl) (by kernel_rfl) rfl (by decide) rfl
  have hcode : env.code = .ref 141 := by rw [he]; rfl
  have S0 := S.thawTab (a := 137) ⟨_, htab, rfl⟩ (by kernel_rfl)
  clear S
  repeat' walk1
  rename_i p1 _ _ _ _ _ _ _ _ p2 _ _ bk _ _ _ _ cd _ _ _ _ t0 _ _ s1 S1
  obtain ⟨g1, k1, hp1, S2⟩ := S1.freezeD (a := p1) (.tail (.tail (.tail .head)))
  obtain ⟨g2, k2, hp2, S3⟩ := S2.freezeD (a := p2) (.tail (.tail .head))
  have e9 : Str.ofString "\t" = tx [9] := by decide +kernel
  have e32 : Str.ofString " " = tx [32] := by decide +kernel
  rw [e9] at hp1
  rw [e32] at hp2
  refine m_while
    (fun k s2 => ∃ g' book evs spot don dvals rest ps tk o1 o2 o3, (s.heap.hide 137).StaysIn g' ∧ LamTab g' ps (env.qual ++ "<lambda>") ∧ All2 (VE g') evs book ∧ All2 VI dvals don ∧ Packs T book spot rest ∧ codes = don ++ rest ∧ don.length ≤ spot ∧ spot ≤ T.length ∧ book.length ≤ 2 + spot ∧ k = T.length - spot ∧
      St w os g' L [(Str.ofString "text", some (.str (tx T) t3)), (Str.ofString "book", some (.ref bk)), (Str.ofString "codes", some (.ref cd)), (Str.ofString "spot", some (.int (spot : Nat) tk)), (Str.ofString "rest", o1), (Str.ofString "near", o2), (Str.ofString "size", o3)]
        [(cd, ListO dvals), (bk, ListO evs), (137, TabP ps)] s2)
    (fun s2 => ∃ g' fr' evs dvals ps, (Str.ofString "codes", some (.ref cd)) ∈ fr' ∧ (s.heap.hide 137).StaysIn g' ∧ All2 VI dvals codes ∧ dvals.length ≤ 900 ∧ St w os g' L fr' [(cd, ListO dvals), (bk, ListO evs), (137, TabP ps)] s2) ?turn ?fin T.length ?init
  case init =>
    exact ⟨g2, book0, _, 0, [], [], codes, _, _, _, _, _, fun b o e => k2 b o (k1 b o e), LamTab.nil _ _, .cons ⟨p1, _, _, rfl, hp1.keeps fun o e => k2 _ o e⟩ (.cons ⟨p2, _, _, rfl, hp2⟩ .nil), .nil, hP, rfl, Nat.le_refl _, Nat.zero_le _, Nat.le_refl _, rfl, S3⟩
  case fin =>
    rintro s2 ⟨g', fr', evs, dvals, ps, hm, hk, hd, hdl, S4⟩
    repeat' walk1
    rename_i S5
    refine r_concat S5 (S5.mem (.tail _ (.head _))).isList (S5.mem (.head _)).isList (by simp; lia) fun p s6 S6 => ?_
    repeat' walk1
    obtain ⟨o7, e7, h7⟩ := S6.mem (.tail _ (.tail _ (.tail _ (.tail _ (.head _)))))
    have h7' : o7 = tabObj ps := h7
    subst h7'
    refine h _ _ ps S6.ok (fun b o hb e => S6.keep b o (hk b o (by rw [Heap.hide_ne _ hb]; exact e))) e7 ?_ ((S6.mem (.head _)).imp fun o x => ⟨_, x, hd.append (.cons ⟨_, rfl⟩ .nil)⟩)
    cases q : s.heap.get? p with
    | none => rfl
    | some o =>
      have nd := S6.nd
      simp only [List.map_cons, List.map_nil, List.nodup_cons, List.mem_cons, not_or] at nd
      have := hk p o (by rw [Heap.hide_ne _ (nd.1.2.2.2.1)]; exact q)
      rw [(S6.new _ (.head _)).2.1] at this; cases this
  case turn =>
    rintro k s2 ⟨g', book, evs, spot, don, dvals, rest, ps, tk, o1, o2, o3, hk, hlt, hbk, hdv, hpk, hcs, hdl, hsl, hbl, rfl, S4⟩
    intro Ct Bt hCt hBt
    have hevl := hbk.length
    have hdvl := hdv.length
    cases hpk with
    | done hd =>
      repeat' walk1
      refine ⟨hBt _ ⟨g', _, evs, dvals, ps, ?_, hk, ?_, by lia, by assumption⟩⟩
      · walk_at "m_mem"
      · rw [hcs, List.append_nil]; exact hdv
    | @step _ _ size near nc c key codes' h1 h2 h3 h4 h5 hnear h6 h7 h8 h9 hrec =>
      repeat' walk1
      rename_i tR _ _ _ S5
      rw [Int.toNat_natCast] at S5
      refine r_lambda eF hcode (P := 137) (by kernel_rfl) (closureFor_none (by decide)) rfl rfl S5 (fun ps' => [(cd, ListO dvals), (bk, ListO evs), (137, TabP ps')]) (fun _ => .tail (.tail .head)) hlt fun kf g3 ps3 s6 k3 hlt3 hlam S6 => ?_
      have hbk3 := hbk.mono fun _ _ x => VE.mono k3 x
      repeat' walk1
      rw [Int.toNat_natCast]
      refine wpAny_call (bisrk_ok (n := n + 1) (t0 := 314) (x := .str (tx (T.drop spot)) tR) (p := fun i => !decide (T.drop spot < keyAt book i)) (hA'.le (by lia)) S6.ok (S6.mem (.tail _ (.head _))) (by lia) (binds_bisr S6.ok.gd) (lam_key (hlam.mono S6.keep) rfl (hbk3.mono fun _ _ x => VE.mono S6.keep x)) (cmpR hevl) fun t7 s7 O7 k7 => ?_)
      have S7 := S6.call k7 O7
      rw [hevl, show bis (fun i => !decide (T.drop spot < keyAt book i)) 0 book.length = posR book (T.drop spot) from rfl]
      obtain ⟨_, hev, aN, tN, uN, rfl, hN⟩ := hbk3.get h5
      have hidx : evs[((posR book (T.drop spot) : Nat) - 1 : Int).toNat]? = some (.ref aN) := by rw [show ((posR book (T.drop spot) : Nat) - 1 : Int).toNat = posR book (T.drop spot) - 1 from by lia]; exact hev
      repeat' walk1
      rename_i tN' _ _ _ S8
      have hgrow : ∀ k, size = grow near (T.drop spot) k → size = if k < near.length ∧ near.take (k + 1) = (T.drop spot).take (k + 1) then grow near (T.drop spot) (k + 1) else k := fun k e => by rw [e]; conv => lhs; rw [grow]
      have hdl2 : (T.drop spot).length ≤ 1000 := by rw [List.length_drop]; lia
      refine m_while
        (fun m s9 => ∃ (k : Nat) (tk2 : Tok), size = grow near (T.drop spot) k ∧ k ≤ 1000 ∧ m = near.length - k ∧ St w os g3 L [(Str.ofString "text", some (.str (tx T) t3)), (Str.ofString "book", some (.ref bk)), (Str.ofString "codes", some (.ref cd)), (Str.ofString "spot", some (.int (spot : Nat) tk)), (Str.ofString "rest", some (.str (tx (T.drop spot)) tR)), (Str.ofString "near", some (.str (tx near) tN)), (Str.ofString "size", some (.int (k : Nat) tk2))]
          [(cd, ListO dvals), (bk, ListO evs), (137, TabP ps3)] s9)
        (fun s9 => ∃ (tk2 : Tok), St w os g3 L [(Str.ofString "text", some (.str (tx T) t3)), (Str.ofString "book", some (.ref bk)), (Str.ofString "codes", some (.ref cd)), (Str.ofString "spot", some (.int (spot : Nat) tk)), (Str.ofString "rest", some (.str (tx (T.drop spot)) tR)), (Str.ofString "near", some (.str (tx near) tN)), (Str.ofString "size", some (.int (size : Nat) tk2))]
          [(cd, ListO dvals), (bk, ListO evs), (137, TabP ps3)] s9) ?turn2 ?fin2 (near.length - 1) ?init2
      case init2 => exact ⟨1, _, h6, by lia, rfl, S8⟩
      case turn2 =>
        rintro m s9 ⟨k, tk2, hk2, hk3, rfl, S9⟩
        intro Ct2 Bt2 hCt2 hBt2
        have hg := hgrow k hk2
        by_cases c1 : k < near.length
        · have ek : ((k : Int) + 1).toNat = k + 1 := by lia
          cases hb : (tx (List.take ((k : Int) + 1).toNat near) == tx (List.take ((k : Int) + 1).toNat (T.drop spot))) with
          | true =>
            have hb' := hb
            rw [tx_beq, decide_eq_true_iff, ek] at hb'
            rw [if_pos ⟨c1, hb'⟩] at hg
            repeat' walk1
            rename_i S10
            exact ⟨hCt2 _ ⟨near.length - (k + 1), by lia, k + 1, _, hg, by lia, rfl, S10⟩⟩
          | false =>
            have hb' := hb
            rw [tx_beq, decide_eq_false_iff_not, ek] at hb'
            rw [if_neg (fun z => hb' z.2)] at hg
            repeat' walk1
            exact ⟨hBt2 _ ⟨_, by rw [hg]; assumption⟩⟩
        · rw [if_neg (fun z => c1 z.1)] at hg
          repeat' walk1
          exact ⟨hBt2 _ ⟨_, by rw [hg]; assumption⟩⟩
      case fin2 =>
        rintro s9 ⟨tk2, S9⟩
        repeat' walk1
        rename_i t9 _ S10
        rw [Int.toNat_natCast]
        refine r_lambda eF hcode (P := 137) (by kernel_rfl) (closureFor_none (by decide)) rfl rfl S10 (fun ps' => [(cd, ListO dvals), (bk, ListO evs), (137, TabP ps')]) (fun _ => .tail (.tail .head)) hlt3 fun kf2 g4 ps4 s11 k4 hlt4 hlam4 S11 => ?_
        have hbk4 := hbk3.mono fun _ _ x => VE.mono k4 x
        repeat' walk1
        refine wpAny_call (bislk_ok (n := n + 1) (t0 := 328) (x := .str (tx ((T.drop spot).take size)) t9) (p := fun i => decide (keyAt book i < (T.drop spot).take size)) (hA'.le (by lia)) S11.ok (S11.mem (.tail _ (.head _))) (by lia) (binds_bisl S11.ok.gd) (lam_key (hlam4.mono S11.keep) rfl (hbk4.mono fun _ _ x => VE.mono S11.keep x)) (cmpL hevl) fun t12 s12 O12 k12 => ?_)
        have S12 := S11.call k12 O12
        rw [hevl, show bis (fun i => decide (keyAt book i < (T.drop spot).take size)) 0 book.length = posL book ((T.drop spot).take size) from rfl]
        have hpl : posL book ((T.drop spot).take size) < book.length := (List.getElem?_eq_some_iff.mp h8).1
        obtain ⟨_, hev2, aM, tM, uM, rfl, hM⟩ := hbk4.get h8
        have hidx2 : evs[((posL book ((T.drop spot).take size) : Nat) : Int).toNat]? = some (.ref aM) := by rw [Int.toNat_natCast]; exact hev2
        have hsz1 : 1 ≤ size := by rw [h6]; exact grow_ge _ _ 1
        have hdl3 : (T.drop spot).length = T.length - spot := List.length_drop
        by_cases c2 : size < (T.drop spot).length
        · rw [if_pos c2] at hrec
          repeat' walk1
          rename_i tE tE2 _ pE _ S13
          obtain ⟨g5, k5, hE, S14⟩ := S13.freeze
          refine r_lambda eF hcode (P := 137) (by kernel_rfl) (closureFor_none (by decide)) rfl rfl S14 (fun ps' => [(cd, ListO (dvals ++ [.int c uM])), (bk, ListO evs), (137, TabP ps')]) (fun _ => .tail (.tail .head)) (hlt4.mono k5) fun kf3 g6 ps6 s15 k6 hlt6 hlam6 S15 => ?_
          have hbk6 := (hbk4.mono fun _ _ x => VE.mono k5 x).mono fun _ _ x => VE.mono k6 x
          repeat' walk1
          have hE6 := (hE.keeps fun o e => k6 _ o e)
          rw [hevl, show ((size : Int) + 1).toNat = size + 1 from by lia] at hE6
          have hVE : VE g6 (.ref pE) ((T.drop spot).take (size + 1), 254 + (book.length : Int)) := ⟨pE, _, _, rfl, hE6⟩
          refine wpAny_call (insort_ok (n := n + 1) (vs := evs) (p := fun i => !decide ((T.drop spot).take (size + 1) < keyAt book i)) (KX := fun v => ∃ t, v = .str (tx ((T.drop spot).take (size + 1))) t) hA' S15.ok (S15.mem (.tail _ (.head _))) (by lia) (lam_key (n := n) (hlam6.mono S15.keep) rfl (hbk6.mono fun _ _ x => VE.mono S15.keep x)) ?hcmp ?hp ?hx fun s16 O16 x16 a16 => ?_)
          case hcmp =>
            rintro xk ⟨t, rfl⟩
            exact cmpR hevl
          case hp => rw [hevl]; exact h9
          case hx =>
            refine (lam_key (n := n + 1) (book := [((T.drop spot).take (size + 1), 254 + (book.length : Int))]) (hlam6.mono S15.keep) rfl (.cons (hVE.mono S15.keep) .nil)).imp ?_
            · rintro j v ⟨e, t, he, rfl⟩
              cases j with
              | zero => cases he; exact ⟨t, rfl⟩
              | succ j => cases he
          rw [hevl, show bis (fun i => !decide ((T.drop spot).take (size + 1) < keyAt book i)) 0 book.length = posR book ((T.drop spot).take (size + 1)) from rfl] at a16
          have S16 := S15.upd (.tail .head) a16 x16 (O16.hos.trans S15.hos.symm) (O16.hgens.trans S15.hgens.symm)
          repeat' walk1
          rename_i S17
          refine ⟨hCt _ ⟨T.length - (spot + size), by lia, g6, _, _, spot + size, don ++ [c], _, codes', ps6, _, _, _, _, fun b o e => k6 b o (k5 b o (k4 b o (k3 b o (hk b o e)))), hlt6, (hbk6.take _).append (.cons hVE (hbk6.drop _)), hdv.append (.cons ⟨uM, rfl⟩ .nil), hrec, ?_, ?_, by lia, ?_, rfl, S17⟩⟩
          · rw [hcs]; simp
          · simp; lia
          · simp only [insB, List.length_append, List.length_cons, List.length_take, List.length_drop]; lia
        · rw [if_neg c2] at hrec
          repeat' walk1
          rename_i S13
          refine ⟨hCt _ ⟨T.length - (spot + size), by lia, g4, book, evs, spot + size, don ++ [c], _, codes', ps4, _, _, _, _, fun b o e => k4 b o (k3 b o (hk b o e)), hlt4, hbk4, hdv.append (.cons ⟨uM, rfl⟩ .nil), hrec, ?_, ?_, by lia, by lia, rfl, S13⟩⟩
          · rw [hcs]; simp
          · simp; lia
end
/-- a state with a base and a ledger, no frame yet -/
structure Pr (w : World) (os : OsState) (g : Heap) (nw : Nw) (s : Shared) : Prop where
  gd : Gd w g
  keep : g.StaysIn s.heap
  new : ∀ p ∈ nw, At s.heap p.1 p.2 ∧ g.get? p.1 = none
  nd : (nw.map (·.1)).Nodup
  hos : s.os = os
  hgens : s.gens = #[]
theorem Pr.ok {w : World} {os : OsState} {g : Heap} {nw : Nw} {s : Shared} (P : Pr w os g nw s) : Ok w os s := ⟨P.gd.keeps P.keep, P.hos, P.hgens⟩

section
variable {w : World} {os : OsState} {g : Heap} {L f : Addr} {fr : Fm} {nw nw' : Nw} {s : Shared} {A : Around} {n : Nat} {qual : Str} {scope : Scope} {cd : Value}

theorem enterN {args : Args} {binds : List (Str × Value)} {name : Str} {params : Arguments} {body : List Stmt} {dV kV doc pm cdv ct oc : Value} {an od : Option Addr} {osl : Array (Option Value)} {R : Result → Shared → Prop}
    (hA : Ar A (n + 1)) (O : Pr w os g nw s)
    (ho : (KK w).lookup f = some ⟨oc, od, .func (fnOf name qual params body scope dV kV doc pm an cdv ct), osl⟩) (hcd : codeIn (KK w) cdv qual = true)
    (hbind : BindsTo s (fnOf name qual params body scope dV kV doc pm an cdv ct) args binds) (hloc : ∀ y ∈ binds, scope.names.lookup y.1 = some .local)
    (hcell : ∀ x ∈ scope.names, x.2 ≠ .cell) (hco : scope.isCoroutine = false) (hgen : scope.isGenerator = false) (hk : scope.kind = .function)
    (hfr : ∀ p ∈ fr, binds.reverse.lookup p.1 = p.2) (hnd : (fr.map (·.1)).Nodup)
    (h : ∀ L s' A' env, EnvIs env qual scope L f cdv → St w os g L fr nw s' → Ar A' n → wpAny (MM w) A' (execs body env) (fun fl s'' => R (.ok (.ret (retV fl))) s'') NoE s') :
    codeAny (MM w) A (.call (.ref f) args) R s := by
  have G := O.ok.gd
  obtain ⟨mg, mb, _, _, hlim, _⟩ := G.top
  refine codeAny_call_def (fd := fnOf name qual params body scope dV kV doc pm an cdv ct) (body := body) (binds := binds) hA.room (G.K _ _ ho) rfl hlim (codeRec_of G.K hcd) rfl hbind hcell hloc (fun h₀ hns hk₀ => ?_) hco hgen hk
  have hn : g.get? s.heap.objs.size = none := by
    cases q : g.get? s.heap.objs.size with
    | none => rfl
    | some o => exact absurd (Heap.lt_size (O.keep _ _ q)) (Nat.lt_irrefl _)
  have := h s.heap.objs.size { s with heap := h₀, toks := s.toks + binds.length } (A.deeper (envOf qual scope s.heap.objs.size f cdv)) _ rfl
    ⟨O.gd, fun b o e => hk₀ b o (O.keep b o e), ⟨⟨_, hns, hfr⟩, hnd⟩, hn, fun p hp => ⟨(O.new p hp).1.keeps fun o e => hk₀ _ o e, (O.new p hp).2, Nat.ne_of_lt (O.new p hp).1.lt⟩, O.nd, O.hos, O.hgens⟩ hA.deeper
  exact wpAny_mono this (fun fl _ x => by cases fl <;> exact x) fun _ _ x => x.elim

/-- a thing's dict, by its names -/
noncomputable def EntIs (e : DictEntry) (p : Str × Value) : Prop := (∃ t, e.key = .str p.1 t) ∧ e.val = p.2
noncomputable def DictE (kvs : List (Str × Value)) : Obj → Prop := fun o => ∃ es n, o = dictOf es n ∧ All2 EntIs es kvs
noncomputable def InstO (C dx : Addr) : Obj → Prop := fun o => o = instObj C dx

theorem getL_of {name : Str} : ∀ {es : List DictEntry} {kvs : List (Str × Value)}, All2 EntIs es kvs → getL name es = some (kvs.lookup name) := by
  intro es kvs h
  have hr : es.any (·.refKey) = false := by
    induction h with
    | nil => rfl
    | cons x _ ih => obtain ⟨⟨t, e⟩, _⟩ := x; rw [List.any_cons, ih, Bool.or_false]; simp [DictEntry.refKey, e]
  unfold getL
  rw [hr]
  induction h with
  | nil => rfl
  | @cons e p es kvs x r ih =>
    obtain ⟨⟨t, e1⟩, e2⟩ := x
    obtain ⟨k, v⟩ := p
    rw [List.any_cons, Bool.or_eq_false_iff] at hr
    have ih' := ih hr.2
    rw [List.find?_cons, List.lookup_cons]
    have hb : e.key.isStr name = (name == k) := by rw [e1]; show (k == name) = _; exact Bool.eq_iff_iff.mpr ⟨fun h => by rw [beq_iff_eq] at h ⊢; exact h.symm, fun h => by rw [beq_iff_eq] at h ⊢; exact h.symm⟩
    rw [hb]
    cases hq : name == k with
    | true => simp [e2]
    | false => exact ih'
theorem putL_of {name : Str} {hs : Int} {t : Tok} {v : Value} : ∀ {es : List DictEntry} {kvs : List (Str × Value)}, All2 EntIs es kvs → kvs.lookup name = none → All2 EntIs (putL name hs (.str name t) v es) (kvs ++ [(name, v)]) := by
  intro es kvs h
  induction h with
  | nil => intro _; exact .cons ⟨⟨t, rfl⟩, rfl⟩ .nil
  | @cons e p es kvs x r ih =>
    intro hl
    obtain ⟨⟨t', e1⟩, e2⟩ := x
    obtain ⟨k, v'⟩ := p
    rw [List.lookup_cons] at hl
    cases hq : name == k with
    | true => rw [hq] at hl; cases hl
    | false =>
      rw [hq] at hl
      have hb : e.key.isStr name = false := by rw [e1]; show (k == name) = _; exact Bool.eq_false_iff.mpr fun h => by rw [beq_iff_eq] at h; rw [h] at hq; simp at hq
      show All2 EntIs (putL name hs (.str name t) v (e :: es)) _
      simp only [putL, hb]
      exact .cons ⟨⟨t', e1⟩, e2⟩ (ih hl)

theorem At.eq {h : Heap} {a : Addr} {o : Obj} (x : At h a (fun o' => o' = o)) : h.get? a = some o := by obtain ⟨o', e, rfl⟩ := x; exact e

theorem inst_at {x dx C : Addr} {kvs : List (Str × Value)} (h1 : At s.heap x (InstO C dx)) (h2 : At s.heap dx (DictE kvs)) : ∃ k es, All2 EntIs es kvs ∧ InstAt s.heap x (instObj C dx) C (some (dictOf es k)) := by
  obtain ⟨o, e, rfl⟩ := h1
  obtain ⟨o2, e2, es, k, rfl, hk⟩ := h2
  exact ⟨k, es, hk, e, rfl, rfl, e2⟩

theorem osa_led {x dx C : Addr} {kvs : List (Str × Value)} {name : Str} {tk : Tok} {v : Value} {R : Result → Shared → Prop} (S : St w os g L fr nw s) (h1 : At s.heap x (InstO C dx)) (u : UpdN nw dx (DictE kvs) (DictE (kvs ++ [(name, v)])) nw')
    (hp : plainOver (KK w) C = true) (ht : takerIn (KK w) C name = some none) (hh : hasDictIn (KK w) C = true)
    (hl : kvs.lookup name = none) (hz : kvs.length ≤ 900)
    (h : ∀ s', St w os g L fr nw' s' → R (.ok (.ret .none)) s') : codeAny (MM w) A (.call (.builtin "object.__setattr__") ⟨[.ref x, .str name tk, v], []⟩) R s := by
  obtain ⟨j, hj, _⟩ := u.is
  have h2 := S.at j hj
  obtain ⟨k, es, hk, I⟩ := inst_at h1 h2
  have X := S.ok.gd.K
  refine osa_open X I hp ht fun b => ?_
  obtain ⟨cd, hc, hd'⟩ := any_some hh
  have D : s.heap.get? dx = some (dictOf es k) := I.dict
  refine wpAny_bind (wpAny_pure (wpAny_bind (wpAny_bind (wpAny_loadPart I.at_ (wpAny_bind ((looks_clsIn X hc).here ?_))))))
  rw [hd']
  refine wpAny_pure (a := some dx) (wpAny_bind (wpAny_pure (wpAny_bind ?_)))
  unfold nsSet
  refine wpAny_bind (wpAny_bind (wpAny_askSetting (wpAny_pure (wpAny_bind (wpAny_mkText (wpAny_bind (wpAny_loadPart D ?_)))))))
  have hg := getL_of (name := name) hk
  have c : (!(es.toArray).any (·.key.isStr name) && (es.toArray).any (·.refKey)) = false := by
    rw [← Array.any_toList, ← Array.any_toList]
    unfold getL at hg
    split at hg
    · rename_i en he
      have : es.any (·.key.isStr name) = true := List.any_eq_true.mpr ⟨en, List.mem_of_find?_eq_some he, by have := List.find?_some he; simpa using this⟩
      simp [this]
    · split at hg
      · cases hg
      · rename_i z; rw [Bool.not_eq_true] at z; simp [z]
  rw [show (dictOf es k).data = .dict es.toArray k from rfl]
  dsimp only
  rw [aRefKeyMayBeTheName_at, c]
  refine wpAny_updatePart D ?_
  have hf : (dictOf (putL name (PyData.keyHash w.params name) (.str name s.toks) v es) (putN name es k)).isFreed = false := rfl
  have hup : (s.heap.update dx (Obj.putName name (PyData.keyHash w.params name) (.str name s.toks) v)).get? dx = some (dictOf (putL name (PyData.keyHash w.params name) (.str name s.toks) v es) (putN name es k)) := by
    rw [Heap.get?_update_self _ D (by rw [putName_dict]; rfl), putName_dict]
  have hk' := putL_of (hs := PyData.keyHash w.params name) (t := s.toks) (v := v) hk hl
  refine wpAny_bind (wpAny_lookBehind hup (pastItsLine_dict (by rw [List.size_toArray, sizeLine_eq, hk'.length]; simp; lia)) ?_)
  exact wpAny_pure (h _ (S.upd (s' := { s with heap := _, toks := _ }) u ⟨_, hup, _, _, rfl, hk'⟩ (Heap.SameBut.update ..).extBut rfl rfl))

theorem r_setAttr {x dx C : Addr} {kvs : List (Str × Value)} {name : Str} {v : Value} {Q : Unit → Shared → Prop} (S : St w os g L fr nw s) (h1 : At s.heap x (InstO C dx)) (u : UpdN nw dx (DictE kvs) (DictE (kvs ++ [(name, v)])) nw')
    (hs : findIn (KK w) (.ref C) "__setattr__" = some (some (.builtin "object.__setattr__"))) (hp : plainOver (KK w) C = true) (ht : takerIn (KK w) C name = some none) (hh : hasDictIn (KK w) C = true)
    (hl : kvs.lookup name = none) (hz : kvs.length ≤ 900)
    (h : ∀ s', St w os g L fr nw' s' → Q () s') : wpAny (MM w) A (setAttr (.ref x) name v) Q NoE s := by
  obtain ⟨j, hj, _⟩ := u.is
  obtain ⟨k, es, hk, I⟩ := inst_at h1 (S.at j hj)
  exact set_plain S.ok.gd.K I hs (osa_led (s := { s with toks := s.toks + 1 }) S.tok h1 u hp ht hh hl hz h)

/-- an own field is read -/
theorem r_getAttr {x dx C : Addr} {kvs : List (Str × Value)} {name : Str} {v : Value} {attr : Option Value} {expr : Bool} {Q : Value → Shared → Prop} (S : St w os g L fr nw s) (h1 : At s.heap x (InstO C dx)) (h2 : At s.heap dx (DictE kvs))
    (hga : findIn (KK w) (.ref C) "__getattribute__" = some (some (.builtin "object.__getattribute__"))) (hh : hasDictIn (KK w) C = true) (ha : findIn (KK w) (.ref C) name = some attr) (hn : noGet (KK w) attr = true)
    (hl : kvs.lookup name = some v) (hv : handedIn v = true) (h : ∀ s', St w os g L fr nw s' → Q v s') : wpAny (MM w) A (getAttr (.ref x) name expr) Q NoE s := by
  obtain ⟨k, es, hk, I⟩ := inst_at h1 h2
  refine get_value S.ok.gd.K I hga (findObj_own hh ha hn ?_) hv (h _ S.tok)
  rw [lookIn_dict, getL_of hk, hl]

theorem r_getMeth {x dx C f : Addr} {kvs : List (Str × Value)} {name : Str} {pl : Sem Bool} {Q : Value × List Value → Shared → Prop} (S : St w os g L fr nw s) (h1 : At s.heap x (InstO C dx)) (h2 : At s.heap dx (DictE kvs))
    (hga : findIn (KK w) (.ref C) "__getattribute__" = some (some (.builtin "object.__getattribute__"))) (hk : findIn (KK w) (.ref C) "__getattr__" = some none)
    (hf : findIn (KK w) (.ref C) name = some (some (.ref f))) (ht : typeIn (KK w) (.ref f) = some (.type "function")) (hl : kvs.lookup name = none) (h : Q (.ref f, [.ref x]) s) :
    wpAny (MM w) A (getMethod (.ref x) name pl) Q NoE s := by
  obtain ⟨k, es, hk', I⟩ := inst_at h1 h2
  refine method_fn S.ok.gd.K I hga hk hf ht ?_ h
  show (lookIn name (dictOf es k)).map (·.isSome) = _
  rw [lookIn_dict, getL_of hk', hl]; rfl

theorem r_clsVal {C : Addr} {v : Value} {name : Str} {expr : Bool} {Q : Value → Shared → Prop} (S : St w os g L fr nw s) (hr : readsIn (KK w) C (.type "type") = true) (e : findCls (KK w) (.ref C) (.type "type") name = some (.val v)) (hh : handedIn v = true)
    (h : ∀ s', St w os g L fr nw s' → Q v s') : wpAny (MM w) A (getAttr (.ref C) name expr) Q NoE s := cls_value S.ok.gd.K hr e hh (h _ S.tok)

/-- ranges -/
abbrev RangeO (a b c : Int) : Obj → Prop := fun o => ∃ t u v, o = { cls := .type "range", dict := none, data := .fields #[.int a t, .int b u, .int c v], slots := #[] }
theorem r_range1 {b : Int} {t : Tok} {Q : Value → Shared → Prop} (S : St w os g L fr nw s) (h : ∀ r s', St w os g L fr ((r, RangeO 0 b 1) :: nw) s' → Q (.ref r) s') : wpAny (MM w) A (call (.type "range") [.int b t]) Q NoE s :=
  call_range_1 (h _ _ (S.alloc (s' := { s with heap := _, toks := _ }) rfl ⟨_, _, _, rfl⟩ rfl rfl rfl))
theorem r_range2 {a b : Int} {t u : Tok} {Q : Value → Shared → Prop} (S : St w os g L fr nw s) (h : ∀ r s', St w os g L fr ((r, RangeO a b 1) :: nw) s' → Q (.ref r) s') : wpAny (MM w) A (call (.type "range") [.int a t, .int b u]) Q NoE s :=
  call_range_2 (h _ _ (S.alloc (s' := { s with heap := _, toks := _ }) rfl ⟨_, _, _, rfl⟩ rfl rfl rfl))
theorem range_small {a b : Int} (ha : 0 ≤ a) (hb : -1000000 ≤ b) (ha' : a ≤ 1000000) (hb' : b ≤ 1000000) : Builtin.Range.small a b 1 = true ∧ Builtin.Range.rangeSize a b 1 = max 0 (b - a) := by
  have e : Builtin.Range.rangeSize a b 1 = max 0 (b - a) := by
    unfold Builtin.Range.rangeSize
    simp
    split <;> lia
  refine ⟨?_, e⟩
  unfold Builtin.Range.small
  rw [e]
  simp [Builtin.Range.rangeFitsLong]
  lia
theorem r_iter_range {r : Addr} {a b : Int} {Q : Value → Shared → Prop} (S : St w os g L fr nw s) (hr : At s.heap r (RangeO a b 1)) (ha : 0 ≤ a) (hb : -1000000 ≤ b) (ha' : a ≤ 1000000) (hb' : b ≤ 1000000)
    (h : ∀ it s', St w os g L fr ((it, RIterO a (max 0 (b - a)) 1) :: nw) s' → Q (.ref it) s') : wpAny (MM w) A (pyIter (.ref r)) Q NoE s := by
  obtain ⟨o, e, t, u, v, rfl⟩ := hr
  have ⟨h1, h2⟩ := range_small ha hb ha' hb'
  refine wpAny_pyIter_range e h1 (h _ _ (S.alloc (s' := { s with heap := _ }) rfl ?_ rfl rfl rfl))
  rw [h2]
end
theorem intsAre_of {vs : List Value} {ns : List Int} (h : All2 VI vs ns) : IntsAre vs ns := by
  induction h with
  | nil => exact .nil
  | cons x _ ih => obtain ⟨t, rfl⟩ := x; exact .cons _ t ih

section
variable {w : World} {os : OsState} {g : Heap} {L : Addr} {fr : Fm} {nw nw' : Nw} {s : Shared} {A : Around} {n : Nat} {Q : Value → Shared → Prop}

theorem St.moved (S : St w os g L fr nw s) {h' : Heap} {tk : Nat} (k : ∀ b o, s.heap.get? b = some o → h'.get? b = some o) : St w os g L fr nw { s with heap := h', toks := tk } :=
  S.more (s' := { s with heap := h', toks := tk }) (fun b o e => k b o e) rfl rfl

theorem r_sum {l : Addr} {vs : List Value} {ns : List Int} (hA : Ar A n) (S : St w os g L fr nw s) (hl : s.heap.IsList l vs.toArray) (hi : All2 VI vs ns)
    (h : ∀ t s', St w os g L fr nw s' → Q (.int ns.sum t) s') : wpAny (MM w) A (call (.builtin "sum") [.ref l]) Q NoE s := by
  have hI := intsAre_of hi
  obtain ⟨xs, e⟩ := hI.allInts.items
  have hn := hI.numsOf
  rw [e] at hl
  refine sum_intListG hA.handled hl fun h' tk t' hk => ?_
  have e2 : vs = (intItems xs).toList := by rw [← e]
  rw [preSum_eq, List.take_of_length_le (by simp), ← nums_intItems, ← e2, hn]
  exact h _ _ (S.moved hk)
theorem r_maxl {l : Addr} {vs : List Value} {ns : List Int} (hA : Ar A n) (S : St w os g L fr nw s) (hl : s.heap.IsList l vs.toArray) (hi : All2 VI vs ns) (hne : 0 < ns.length)
    (h : ∀ M t s', M ∈ ns → (∀ a ∈ ns, a ≤ M) → St w os g L fr nw s' → Q (.int M t) s') : wpAny (MM w) A (call (.builtin "max") [.ref l]) Q NoE s := by
  have hI := intsAre_of hi
  obtain ⟨xs, e⟩ := hI.allInts.items
  have hn := hI.numsOf
  have e2 : vs = (intItems xs).toList := by rw [← e]
  rw [e2, nums_intItems] at hn
  rw [e] at hl
  have hsz : 0 < xs.size := by rw [← hn] at hne; simpa using hne
  refine max_intList hA.handled hl hsz fun v h' tk hv hk => ?_
  obtain ⟨t, rfl⟩ := intItems_at hv
  obtain ⟨h1, h2⟩ := argBest_gt (numAt xs) (xs.size - 1)
  refine h _ _ _ ?_ (fun a ha => ?_) (S.moved hk)
  · rw [← hn, numAt_eq]; exact getD_mem (by rw [List.length_map, Array.length_toList]; lia)
  · rw [← hn] at ha
    obtain ⟨j, hj, rfl⟩ := mem_getD ha
    rw [List.length_map, Array.length_toList] at hj
    rw [← numAt_eq]; exact h2 j (by lia)
theorem r_minl {l : Addr} {vs : List Value} {ns : List Int} (hA : Ar A n) (S : St w os g L fr nw s) (hl : s.heap.IsList l vs.toArray) (hi : All2 VI vs ns) (hne : 0 < ns.length)
    (h : ∀ M t s', M ∈ ns → (∀ a ∈ ns, M ≤ a) → St w os g L fr nw s' → Q (.int M t) s') : wpAny (MM w) A (call (.builtin "min") [.ref l]) Q NoE s := by
  have hI := intsAre_of hi
  obtain ⟨xs, e⟩ := hI.allInts.items
  have hn := hI.numsOf
  have e2 : vs = (intItems xs).toList := by rw [← e]
  rw [e2, nums_intItems] at hn
  rw [e] at hl
  have hsz : 0 < xs.size := by rw [← hn] at hne; simpa using hne
  refine min_intList hA.handled hl hsz fun v h' tk hv hk => ?_
  obtain ⟨t, rfl⟩ := intItems_at hv
  obtain ⟨h1, h2⟩ := argBest_lt (numAt xs) (xs.size - 1)
  refine h _ _ _ ?_ (fun a ha => ?_) (S.moved hk)
  · rw [← hn, numAt_eq]; exact getD_mem (by rw [List.length_map, Array.length_toList]; lia)
  · rw [← hn] at ha
    obtain ⟨j, hj, rfl⟩ := mem_getD ha
    rw [List.length_map, Array.length_toList] at hj
    rw [← numAt_eq]; exact h2 j (by lia)
theorem r_max2 {a b : Int} {t u : Tok} (hA : Ar A n) (S : St w os g L fr nw s) (h : ∀ t s', St w os g L fr nw s' → Q (.int (max a b) t) s') : wpAny (MM w) A (call (.builtin "max") [.int a t, .int b u]) Q NoE s :=
  max_two_ints hA.handled fun h' tk hk => by
    by_cases c : b > a
    · rw [if_pos c]; have := h u _ (S.moved (tk := tk) hk); rwa [show max a b = b from by lia] at this
    · rw [if_neg c]; have := h t _ (S.moved (tk := tk) hk); rwa [show max a b = a from by lia] at this

theorem rep_fold (v : Value) : ∀ (k : Nat) (acc : Array Value), List.foldl (fun x1 x2 => x1 ++ x2) acc (List.replicate k [v].toArray) = acc ++ (List.replicate k v).toArray := by
  intro k
  induction k with
  | zero => intro acc; simp
  | succ k ih => intro acc; rw [List.replicate_succ, List.foldl_cons, ih]; apply Array.toList_inj.mp; simp [List.replicate_succ]
theorem r_rep {l : Addr} {v : Value} {x : Int} {u : Tok} (S : St w os g L fr nw s) (hl : At s.heap l (ListO [v])) (h0 : 0 ≤ x) (hx : x ≤ 1000000)
    (h : ∀ p s', St w os g L fr ((p, ListO (List.replicate x.toNat v)) :: nw) s' → Q (.ref p) s') : wpAny (MM w) A (binaryOp .Mult (.ref l) (.int x u)) Q NoE s := by
  obtain ⟨o, e, k, rfl⟩ := hl
  have hsz : ¬ Builtin.List.listTooLong ([v].toArray.size * x.toNat) = true := by
    rw [show [v].toArray.size = 1 from rfl, Nat.one_mul]
    unfold Builtin.List.listTooLong
    simp [sizeLine_eq]
    lia
  refine wpAny_binaryOp_repeat_ref (T := "list") (U := "int") (by decide) ⟨_, e, rfl⟩ (fun s' => typeIs_int s' x u) noFill_list_mul F.fills_int_mul F.slot_int_rmul repeat_list F.slot_int_index.lookup
    (call_meets F.slot_int_rmul (typeIs_int s x u) F.entry_int_rmul (F.args_int_rmul_2 _ _) (int___rmul___int_list x u l [v].toArray k)
      ⟨e, rfl, ⟨_, e, rfl⟩, call_meets F.slot_list_mul ⟨_, e, rfl⟩ F.entry_list_mul (F.args_list_mul_2 _ _)
        (AutoListH.list___mul___list_int_3 l [v].toArray k x u (by simp [Builtin.List.listFitsIndex]; lia) (by rw [show [v].toArray.size = 1 from rfl]; lia) hsz)
        ⟨e, h _ _ (S.alloc (s' := { s with heap := _ }) rfl ⟨0, ?_⟩ rfl rfl rfl)⟩⟩)
  rw [rep_fold]; simp

theorem r_setItem {l : Addr} {vs : List Value} {k : Int} {t : Tok} {v : Value} {Q : Unit → Shared → Prop} (S : St w os g L fr nw s) (u : UpdN nw l (ListW vs) (ListW (vs.set k.toNat v)) nw') (h0 : 0 ≤ k) (hk : k < vs.length) (hz : vs.length ≤ 1000000)
    (h : ∀ s', St w os g L fr nw' s' → Q () s') : wpAny (MM w) A (setItem (.ref l) (.int k t) v) Q NoE s := by
  obtain ⟨j, hj, _⟩ := u.is
  refine wpAny_setItem_list (S.at j hj).isListW h0 (by lia) (by simpa using hk) fun h' hl hs => h _ (S.upd (s' := { s with heap := h' }) u ?_ hs.extBut rfl rfl)
  rw [List.setIfInBounds_toArray] at hl
  exact hl
theorem r_tuple {l : Addr} {vs : List Value} (S : St w os g L fr nw s) (hl : s.heap.IsList l vs.toArray) (hz : vs.length ≤ 1000000) (h : ∀ p s', St w os g L fr ((p, TupO vs) :: nw) s' → Q (.ref p) s') :
    wpAny (MM w) A (call (.type "tuple") [.ref l]) Q NoE s :=
  call_tuple_list hl (fun h' hk => h _ _ ((S.moved (tk := s.toks) hk).alloc (s' := { s with heap := _ }) rfl ⟨_, rfl⟩ rfl rfl rfl)) (by rw [List.size_toArray]; exact Nat.le_trans hz (by decide))
theorem r_list_range {r : Addr} {a b : Int} (hA : Ar A n) (S : St w os g L fr nw s) (hr : At s.heap r (RangeO a b 1)) (ha : 0 ≤ a) (hab : a ≤ b) (ha' : a ≤ 1000000) (hb' : b ≤ 1000000)
    (h : ∀ p vs s', vs.length = (b - a).toNat → (∀ i : Nat, ∀ v, vs[i]? = some v → VI v (a + i)) → St w os g L fr ((p, ListO vs) :: nw) s' → Q (.ref p) s') : wpAny (MM w) A (call (.type "list") [.ref r]) Q NoE s := by
  obtain ⟨o, e, t, u, v, rfl⟩ := hr
  have ⟨h1, h2⟩ := range_small (a := a) (b := b) ha (by lia) ha' hb'
  refine call_list_range (n := (b - a).toNat) hA.handled e h1 (by rw [h2]; lia) (by lia) fun h' tk acc' c' hk hD hI => ?_
  have hlt : ∀ c o, s.heap.get? c = some o → c ≠ s.heap.objs.size := fun c o e => Nat.ne_of_lt (Heap.lt_size e)
  have S' := S.moved (h' := h') (tk := tk) hk
  refine h _ acc'.toList _ (by rw [Array.length_toList, hI.1]) (fun i v hv => ?_) ⟨S'.gd, S'.keep, S'.ns, S'.gL, fun p hp => ?_, ?_, S'.hos, S'.hgens⟩
  · obtain ⟨t, rfl⟩ := hI.2 i v (by simpa using hv)
    exact ⟨t, by rw [Int.mul_one]⟩
  · rcases List.mem_cons.mp hp with rfl | hp
    · refine ⟨⟨_, hD, _, rfl⟩, ?_, Nat.ne_of_gt S.ns.lt⟩
      cases q : g.get? s.heap.objs.size with
      | none => rfl
      | some o' => exact absurd (Heap.lt_size (S.keep _ _ q)) (Nat.lt_irrefl _)
    · exact S'.new p hp
  · rw [List.map_cons, List.nodup_cons]
    refine ⟨fun hm => ?_, S.nd⟩
    obtain ⟨p, hp, e⟩ := List.mem_map.mp hm
    exact absurd (S.new p hp).1.lt (by rw [e]; exact Nat.lt_irrefl _)
end
noncomputable def bump (count : List Int) (b : Nat) : List Int := (count ++ List.replicate (b + 1 - count.length) 0).set b ((count ++ List.replicate (b + 1 - count.length) 0).getD b 0 + 1)
abbrev WsT := List Int × Nat × Nat × Nat
noncomputable def wsStep (q : WsT) (ch : Nat) : WsT := if ch = 32 then (q.1, q.2.1 + 1, q.2.2.1 + 1, q.2.2.2) else (bump q.1 q.2.1, 0, q.2.2.1 + 1, q.2.2.2 + 1)
noncomputable def wsOf (T : List Nat) : WsT := T.foldl wsStep ([], 0, 0, 0)
theorem wsOf_snoc (T : List Nat) (c : Nat) : wsOf (T ++ [c]) = wsStep (wsOf T) c := by unfold wsOf; rw [List.foldl_append]; rfl
theorem wsOf_take {T : List Nat} {i : Nat} (hi : i < T.length) : wsOf (T.take (i + 1)) = wsStep (wsOf (T.take i)) T[i] := by rw [← wsOf_snoc, List.take_succ_eq_append_getElem hi]
theorem bump_length (count : List Int) (b : Nat) : (bump count b).length = max count.length (b + 1) := by unfold bump; simp; lia
theorem snoc_ind {P : List Nat → Prop} (h0 : P []) (h1 : ∀ T c, P T → P (T ++ [c])) (T : List Nat) : P T := by
  have : ∀ T : List Nat, P T.reverse := by
    intro T
    induction T with
    | nil => exact h0
    | cons c T ih => rw [List.reverse_cons]; exact h1 _ _ ih
  have h := this T.reverse
  rwa [List.reverse_reverse] at h
theorem wsOf_bounds (T : List Nat) : (wsOf T).2.1 ≤ T.length ∧ (wsOf T).1.length ≤ T.length ∧ (wsOf T).2.2.1 = T.length ∧ (wsOf T).2.2.2 ≤ T.length := by
  refine snoc_ind (P := fun T => (wsOf T).2.1 ≤ T.length ∧ (wsOf T).1.length ≤ T.length ∧ (wsOf T).2.2.1 = T.length ∧ (wsOf T).2.2.2 ≤ T.length) ?_ ?_ T
  · simp [wsOf]
  · intro T c ih
    rw [wsOf_snoc, List.length_append]
    unfold wsStep
    split
    · simp only [List.length_singleton]; lia
    · simp only [List.length_singleton, bump_length]; lia
/-- a thing of Whitespace -/
noncomputable def WsAt (g : Heap) (x : Addr) (T : List Nat) : Prop := ∃ dx vr tn tt q c tb cvs, At g x (InstO 83 dx) ∧
  At g dx (DictE [(Str.ofString "raw", vr), (Str.ofString "n", .int ((wsOf T).2.2.1 : Nat) tn), (Str.ofString "nt", .int ((wsOf T).2.2.2 : Nat) tt), (Str.ofString "norm", .ref q), (Str.ofString "is_simple", .bool (decide ((wsOf T).1.length ≤ 1)))]) ∧
  At g q (TupO [.ref c, .int ((wsOf T).2.1 : Nat) tb]) ∧ At g c (TupO cvs) ∧ All2 VI cvs (wsOf T).1
local macro_rules | `(tactic| walk_at "setAttr ref") => `(tactic| (refine' r_setAttr ?S ?x ?u ?hs ?hp ?ht ?hh ?hl ?hz ?_; (case S => with_reducible assumption); (case x => k_dflt (walk_at "m_at")); (case u => k_dflt (walk_at "m_updn")); (case hs => k_dflt (kernel_rfl)); (case hp => k_dflt (kernel_rfl)); (case ht => k_dflt (kernel_rfl)); (case hh => k_dflt (kernel_rfl)); (case hl => k_dflt (rfl)); (case hz => k_dflt (exact Nat.le_of_ble_eq_true rfl)); intro s' S'; simp only [List.cons_append, List.nil_append] at S'))

local macro_rules | `(tactic| walk_at "exec Assign") => `(tactic| (with_reducible refine plainObj_wpAny_Assign_Attribute ?_ ?_; rotate_left; with_unfolding_all rfl))
local macro_rules | `(tactic| walk_at "getAttr ref") => `(tactic| (refine' r_clsVal ?S ?hr ?e ?hh ?_; (case S => with_reducible assumption); (case hr => k_dflt (kernel_rfl)); (case e => k_dflt (exact rfl)); (case hh => k_dflt (exact rfl)); intro s' S'))
local macro_rules | `(tactic| walk_at "getAttr ref") => `(tactic| (refine' r_getAttr ?S ?x ?y ?ga ?hh ?ha ?hn ?hl ?hv ?_; (case S => with_reducible assumption); (case x => k_dflt (walk_at "m_at")); (case y => k_dflt (walk_at "m_at")); (case ga => k_dflt (kernel_rfl)); (case hh => k_dflt (kernel_rfl)); (case ha => k_dflt (exact rfl)); (case hn => k_dflt (kernel_rfl)); (case hl => k_dflt (rfl)); (case hv => k_dflt (rfl)); intro s' S'))
theorem All2.rep {α β : Type} {R : α → β → Prop} {a : α} {b : β} (h : R a b) : ∀ k, All2 R (List.replicate k a) (List.replicate k b)
  | 0 => .nil
  | k + 1 => .cons h (All2.rep h k)
theorem All2.set {α β : Type} {R : α → β → Prop} {a : α} {b : β} (h : R a b) : ∀ {as : List α} {bs : List β}, All2 R as bs → ∀ k, All2 R (as.set k a) (bs.set k b) := by
  intro as bs hs
  induction hs with
  | nil => intro k; exact .nil
  | cons x r ih => intro k; cases k with | zero => exact .cons h r | succ k => exact .cons x (ih k)
theorem St.swap {w : World} {os : OsState} {g : Heap} {L : Addr} {fr : Fm} {p q : Addr × (Obj → Prop)} {nw : Nw} {s : Shared} (S : St w os g L fr (p :: q :: nw) s) : St w os g L fr (q :: p :: nw) s :=
  ⟨S.gd, S.keep, S.ns, S.gL, fun r hr => S.new r (by simp only [List.mem_cons] at hr ⊢; rcases hr with h | h | h <;> simp [h]), (List.Perm.nodup_iff (List.Perm.swap _ _ _)).mpr S.nd, S.hos, S.hgens⟩
section
variable {w : World} {os : OsState} {g : Heap} {L : Addr} {fr : Fm} {nw : Nw} {s : Shared} {A : Around} {n : Nat}
theorem r_unitems {p : Addr} {items : List Value} {k : Nat} {Q : List Value → Shared → Prop} (hA : Ar A n) (S : St w os g L fr nw s) (ht : At s.heap p (TupO items)) (hk : k = items.length)
    (h : ∀ s', St w os g L fr nw s' → Q items s') : wpAny (MM w) A (unpackItems (.ref p) k none) Q NoE s := by
  have := unpackItems_tuple (prog := PySem.Challenge.rw_rl0093_01.row.prog) (w := w) (A := A) (E := NoE) (Q := Q) hA.handled ht.isTup (fun h' hx => h _ (S.more (s' := { s with heap := h' }) (fun b o e => hx b o (Nat.ne_of_lt (Heap.lt_size e)) e) rfl rfl))
  rw [List.size_toArray, ← hk] at this
  exact this
end
local macro_rules | `(tactic| walk_at "exec Assign") => `(tactic| ((with_reducible show wpAny _ _ (exec (Stmt.Assign [Expr.Tuple _ _ _] _ _) _) _ _ _); refine' Assign_Tuple_swapped ?_ ?hs ?hw; (case hs => k_dflt (exact rfl)); (case hw => k_dflt (simp only [EnvIs] at *; subst_vars; exact rfl))))
local macro_rules | `(tactic| walk_at "unpackItems ref") => `(tactic| (refine' r_unitems ?A ?S ?x ?k ?_; (case A => with_reducible assumption); (case S => with_reducible assumption); (case x => k_dflt (walk_at "m_at")); (case k => k_dflt (exact rfl)); intro s' S'))
local macro_rules | `(tactic| walk_at "binaryOp Mult ref int") => `(tactic| (refine' r_rep ?S ?x ?a ?b ?_; (case S => with_reducible assumption); (case x => k_dflt (walk_at "m_at")); (case a => k_dflt (walk_at "ar")); (case b => k_dflt (walk_at "ar")); intro p' s' S'))
local macro_rules | `(tactic| walk_at "binaryOp Add ref ref") => `(tactic| (refine' r_concat ?S ?x ?y ?z ?_; (case S => with_reducible assumption); (case x => k_dflt (walk_at "m_isl")); (case y => k_dflt (walk_at "m_isl")); (case z => k_dflt (first | lia | (simp only [List.length_cons, List.length_nil, List.length_replicate, List.length_append]; lia))); intro p' s' S'))
local macro_rules | `(tactic| walk_at "setItem ref int") => `(tactic| (refine' r_setItem ?S ?u ?a ?b ?z ?_; (case S => with_reducible assumption); (case u => k_dflt (walk_at "m_updn")); (case a => k_dflt (walk_at "ar")); (case b => k_dflt (walk_at "ar")); (case z => k_dflt (walk_at "ar")); intro s' S'))
local macro_rules | `(tactic| walk_at "call type:tuple") => `(tactic| (refine' r_tuple ?S ?x ?z ?_; (case S => with_reducible assumption); (case x => k_dflt (walk_at "m_isl")); (case z => k_dflt (walk_at "ar")); intro p' s' S'))
theorem St.newAt {w : World} {os : OsState} {g g' : Heap} {L : Addr} {fr : Fm} {nw : Nw} {s : Shared} (S : St w os g L fr nw s) (hg : ∀ b o, s.heap.get? b = some o → g.get? b = none → g'.get? b = some o) {a : Addr} {P : Obj → Prop} (hm : (a, P) ∈ nw) : At g' a P :=
  let ⟨o, e, q⟩ := (S.new _ hm).1; ⟨o, hg _ _ e (S.new _ hm).2.1, q⟩
section
variable {w : World} {os : OsState} {s : Shared} {A : Around} {n : Nat} {R : Result → Shared → Prop}
set_option maxHeartbeats 4000000 in
theorem init_ok {g : Heap} {x dx : Addr} {T : List Nat} {t3 : Tok} (hA : Ar A (n + 1)) (O : Pr w os g [(x, InstO 83 dx), (dx, DictE [])] s) (hT : Ws T) (hlen : T.length ≤ 1000)
    (h : ∀ s', g.StaysIn s'.heap → Ok w os s' → (∀ g', (∀ b o, s'.heap.get? b = some o → g.get? b = none → g'.get? b = some o) → WsAt g' x T) → R (.ok (.ret .none)) s') :
    codeAny (MM w) A (.call (.ref 38) ⟨[.ref x, .str (tx T) t3], []⟩) R s := by
  refine' enterN (fr := [(Str.ofString "self", some (.ref x)), (Str.ofString "ws", some (.str (tx T) t3)), (Str.ofString "S", none), (Str.ofString "T", none), (Str.ofString "count", none), (Str.ofString "b", none), (Str.ofString "n", none), (Str.ofString "nt", none), (Str.ofString "ch", none)]) hA O rfl ?cd (BindsTo.of_eq rfl) ?loc ?cell rfl rfl rfl ?fr ?nd ?_
  case cd => kernel_rfl
  case loc => walk_at "m_all"
  case cell => decide
  case fr => walk_at "m_all"
  case nd => walk_at "m_nd"
  intro L s' A' env he S hA'
  have eF := he.facts rfl rfl
  have n0 : NmL env (Str.ofString "self") := ⟨by rw [he]; rfl, rfl⟩
  have n1 : NmL env (Str.ofString "ws") := ⟨by rw [he]; rfl, rfl⟩
  have n2 : NmL env (Str.ofString "S") := ⟨by rw [he]; rfl, rfl⟩
  have n3 : NmL env (Str.ofString "T") := ⟨by rw [he]; rfl, rfl⟩
  have n4 : NmL env (Str.ofString "count") := ⟨by rw [he]; rfl, rfl⟩
  have n5 : NmL env (Str.ofString "b") := ⟨by rw [he]; rfl, rfl⟩
  have n6 : NmL env (Str.ofString "n") := ⟨by rw [he]; rfl, rfl⟩
  have n7 : NmL env (Str.ofString "nt") := ⟨by rw [he]; rfl, rfl⟩
  have n8 : NmL env (Str.ofString "ch") := ⟨by rw [he]; rfl, rfl⟩
  have n9 : NmV w env (Str.ofString "Whitespace") (.ref 83) := nm_glob eF (by rw [he]; rfl) (by kernel_rfl) rfl
  have n10 : NmV w env (Str.ofString "len") (.builtin "len") := nm_bi eF (by rw [he]; rfl) (by kernel_rfl) rfl (by decide) rfl
  have n11 : NmV w env (Str.ofString "tuple") (.type "tuple") := nm_bi eF (by rw [he]; rfl) (by kernel_rfl) rfl (by decide) rfl
  have hasc := hT.ascii
  repeat' walk1
  rename_i it s1 S1
  have S2 := (S1.del (.tail (.tail .head))).imp (P' := ListW []) (.tail .head) (fun o x => by obtain ⟨n, rfl⟩ := x; exact ⟨rfl, n, rfl⟩)
  refine m_for T.length
    (fun i s2 => ∃ lc cvals o1 tb tn tt, All2 VI cvals (wsOf (T.take i)).1 ∧
      St w os g L [(Str.ofString "self", some (.ref x)), (Str.ofString "ws", some (.str (tx T) t3)), (Str.ofString "S", some (.str (Str.ofString " ") 209)), (Str.ofString "T", some (.str (Str.ofString "\t") 210)), (Str.ofString "count", some (.ref lc)), (Str.ofString "b", some (.int ((wsOf (T.take i)).2.1 : Nat) tb)), (Str.ofString "n", some (.int ((wsOf (T.take i)).2.2.1 : Nat) tn)), (Str.ofString "nt", some (.int ((wsOf (T.take i)).2.2.2 : Nat) tt)), (Str.ofString "ch", o1)]
        [(lc, ListW cvals), (it, SIterO (tx T) t3 i), (x, InstO 83 dx), (dx, DictE [(Str.ofString "raw", .str (tx T) t3)])] s2)
    (fun s2 => ∃ lc cvals o1 tb tn tt, All2 VI cvals (wsOf T).1 ∧
      St w os g L [(Str.ofString "self", some (.ref x)), (Str.ofString "ws", some (.str (tx T) t3)), (Str.ofString "S", some (.str (Str.ofString " ") 209)), (Str.ofString "T", some (.str (Str.ofString "\t") 210)), (Str.ofString "count", some (.ref lc)), (Str.ofString "b", some (.int ((wsOf T).2.1 : Nat) tb)), (Str.ofString "n", some (.int ((wsOf T).2.2.1 : Nat) tn)), (Str.ofString "nt", some (.int ((wsOf T).2.2.2 : Nat) tt)), (Str.ofString "ch", o1)]
        [(lc, ListW cvals), (x, InstO 83 dx), (dx, DictE [(Str.ofString "raw", .str (tx T) t3)])] s2) ?turn ?last ?fin 0 (Nat.zero_le _) ?init
  case init => exact ⟨_, [], _, _, _, _, .nil, S2.swap⟩
  case last =>
    rintro s2 ⟨lc, cvals, o1, tb, tn, tt, hc, S3⟩
    rw [List.take_length] at hc S3
    exact r_end_str hA' S3 (.tail .head) (by simp) fun s3 S4 => ⟨⟨lc, cvals, o1, tb, tn, tt, hc, S4⟩⟩
  case fin =>
    rintro s2 ⟨lc, cvals, o1, tb, tn, tt, hc, S3⟩
    have hb := wsOf_bounds T
    have hcl := hc.length
    repeat' walk1
    rename_i S4
    have e : decide ((cvals.length : Int) ≤ 1) = decide ((wsOf T).1.length ≤ 1) := by rw [Bool.eq_iff_iff, decide_eq_true_iff, decide_eq_true_iff]; lia
    rw [e] at S4
    refine h _ S4.keep S4.ok fun g' hg => ?_
    exact ⟨dx, _, _, _, _, _, _, cvals, S4.newAt hg (.tail _ (.tail _ (.tail _ (.head _)))), S4.newAt hg (.tail _ (.tail _ (.tail _ (.tail _ (.head _))))), S4.newAt hg (.head _), S4.newAt hg (.tail _ (.head _)), hc⟩
  case turn =>
    rintro i s2 hi ⟨lc, cvals, o1, tb, tn, tt, hc, S3⟩
    intro Ct Bt hCt hBt
    refine r_next_str S3 (.tail .head) (c := T[i]) (by simp [hi]) fun t' s3 S4 => ?_
    have hb := wsOf_bounds (T.take i)
    have htl : (T.take i).length = i := by rw [List.length_take]; lia
    have hstep := wsOf_take hi
    have hch := hT T[i] (List.getElem_mem hi)
    have hcl := hc.length
    generalize T[i] = ch at hch hstep S4
    simp only [hstep] at hCt
    generalize wsOf (T.take i) = q at hb hc hcl S4 hCt
    obtain ⟨cnt, b, nn, nt⟩ := q
    dsimp only at hb hc hcl S4
    rcases hch with rfl | rfl
    · rw [show wsStep (cnt, b, nn, nt) 9 = (bump cnt b, 0, nn + 1, nt + 1) from rfl] at hCt
      dsimp only at hCt ⊢
      refine wpAny_assign_Name ?_
      walk1
      refine m_cut (fun s4 => ∃ lc cvals tb tn tt, All2 VI cvals (bump cnt b) ∧ St w os g L [(Str.ofString "self", some (.ref x)), (Str.ofString "ws", some (.str (tx T) t3)), (Str.ofString "S", some (.str (Str.ofString " ") 209)), (Str.ofString "T", some (.str (Str.ofString "\t") 210)), (Str.ofString "count", some (.ref lc)), (Str.ofString "b", some (.int 0 tb)), (Str.ofString "n", some (.int ((nn + 1 : Nat) : Int) tn)), (Str.ofString "nt", some (.int ((nt + 1 : Nat) : Int) tt)), (Str.ofString "ch", some (.str ⟨#[9]⟩ t'))]
        [(lc, ListW cvals), (it, SIterO (tx T) t3 (i + 1)), (x, InstO 83 dx), (dx, DictE [(Str.ofString "raw", .str (tx T) t3)])] s4) (fun P' hPP => ?_) ?_
      · iterate 29 walk1
        rename_i S5
        refine m_cut (fun s4 => ∃ lc cvals tn tt, All2 VI cvals (cnt ++ List.replicate (b + 1 - cnt.length) 0) ∧ St w os g L [(Str.ofString "self", some (.ref x)), (Str.ofString "ws", some (.str (tx T) t3)), (Str.ofString "S", some (.str (Str.ofString " ") 209)), (Str.ofString "T", some (.str (Str.ofString "\t") 210)), (Str.ofString "count", some (.ref lc)), (Str.ofString "b", some (.int (b : Nat) tb)), (Str.ofString "n", some (.int ((nn : Int) + 1) tn)), (Str.ofString "nt", some (.int ((nt : Int) + 1) tt)), (Str.ofString "ch", some (.str ⟨#[9]⟩ t'))]
          [(lc, ListW cvals), (it, SIterO (tx T) t3 (i + 1)), (x, InstO 83 dx), (dx, DictE [(Str.ofString "raw", .str (tx T) t3)])] s4) (fun P' hPP => ?_) ?_
        · by_cases c : cvals.length ≤ b
          · have e1 : ((b : Int) - (cvals.length : Nat) + 1).toNat = b + 1 - cnt.length := by lia
            repeat' walk1
            rename_i S6
            refine ⟨rfl, hPP _ ⟨_, _, _, _, ?_, (((S6.del (.tail .head)).del (.tail .head)).del (.tail .head)).imp .head (fun o x => by obtain ⟨n, rfl⟩ := x; exact ⟨rfl, n, rfl⟩)⟩⟩
            rw [e1]
            exact hc.append (All2.rep ⟨_, rfl⟩ _)
          · have e1 : b + 1 - cnt.length = 0 := by lia
            repeat' walk1
            exact ⟨rfl, hPP _ ⟨lc, cvals, _, _, by rw [e1]; simpa using hc, by assumption⟩⟩
        · rintro s4 ⟨lc, cvals, tn, tt, hc5, S6⟩
          have hl5 := hc5.length
          have hidx : b < (cnt ++ List.replicate (b + 1 - cnt.length) 0).length := by simp; lia
          obtain ⟨v, hv, tv, rfl⟩ := hc5.get (List.getElem?_eq_getElem hidx)
          have hv' : cvals[((b : Nat) : Int).toNat]? = some (.int (cnt ++ List.replicate (b + 1 - cnt.length) 0)[b] tv) := by rw [Int.toNat_natCast]; exact hv
          simp only [List.length_append, List.length_replicate] at hl5
          repeat' walk1
          rename_i S7
          refine ⟨rfl, hPP _ ⟨lc, _, _, _, _, ?_, S7⟩⟩
          unfold bump
          rw [Int.toNat_natCast]
          rw [List.getD_eq_getElem?_getD, List.getElem?_eq_getElem hidx]
          exact All2.set ⟨_, rfl⟩ hc5 _
      · rintro s4 ⟨lc, cvals, tb, tn, tt, hc4, S5⟩
        repeat' walk1
        exact ⟨hCt _ ⟨lc, cvals, _, _, _, _, hc4, S5⟩⟩
    · rw [show wsStep (cnt, b, nn, nt) 32 = (cnt, b + 1, nn + 1, nt) from rfl] at hCt
      dsimp only at hCt
      repeat' walk1
      rename_i S5
      exact ⟨hCt _ ⟨lc, cvals, _, _, _, _, hc, S5⟩⟩

theorem WsAt.mono {g g' : Heap} {x : Addr} {T : List Nat} (k : g.StaysIn g') (h : WsAt g x T) : WsAt g' x T := by
  obtain ⟨dx, vr, tn, tt, q, c, tb, cvs, h1, h2, h3, h4, h5⟩ := h
  exact ⟨dx, vr, tn, tt, q, c, tb, cvs, h1.keeps fun o e => k _ o e, h2.keeps fun o e => k _ o e, h3.keeps fun o e => k _ o e, h4.keeps fun o e => k _ o e, h5⟩

theorem make_ok {T : List Nat} {t3 : Tok} (hA : Ar A (n + 2)) (O : Ok w os s) (hT : Ws T) (hlen : T.length ≤ 1000)
    (h : ∀ x s', Ok w os s' → s.heap.StaysIn s'.heap → (∀ g', (∀ b o, s'.heap.get? b = some o → s.heap.get? b = none → g'.get? b = some o) → WsAt g' x T) → R (.ok (.ret (.ref x))) s') :
    codeAny (MM w) A (.call (.ref 83) ⟨[.str (tx T) t3], []⟩) R s := by
  obtain ⟨hh, gg, d, t, os'⟩ := s
  have X := O.gd.K
  have fresh : ∀ k, hh.get? (hh.objs.size + k) = none := fun k => by
    cases q : hh.get? (hh.objs.size + k) with
    | none => rfl
    | some o => exact absurd (Heap.lt_size q) (Nat.not_lt.mpr (Nat.le_add_right _ _))
  have P : Pr w os hh [(hh.objs.size + 1, InstO 83 hh.objs.size), (hh.objs.size, DictE [])] ⟨(hh.push emptyDict).push (instObj 83 hh.objs.size), gg, d, t, os'⟩ := by
    refine ⟨O.gd, fun b o e => Heap.get?_push_of_some _ (Heap.get?_push_of_some _ e), fun p hp => ?_, ?_, O.hos, O.hgens⟩
    · rcases List.mem_cons.mp hp with rfl | hp
      · refine ⟨⟨instObj 83 hh.objs.size, ?_, rfl⟩, fresh 1⟩
        have := Heap.get?_push_size (hh.push emptyDict) (o := instObj 83 hh.objs.size) rfl
        rw [Heap.size_push] at this; exact this
      · rcases List.mem_cons.mp hp with rfl | hp
        · exact ⟨⟨emptyDict, Heap.get?_push_of_some _ (Heap.get?_push_size _ rfl), [], 0, rfl, .nil⟩, fresh 0⟩
        · cases hp
    · simp
  refine make_core (init := .ref 38) (makes_of X (by kernel_rfl)) (looks_findIn X (by kernel_rfl)) (fun self => bind_fn X self (by kernel_rfl)) (.inl rfl) ?_
  have e1 : (A.under (.builtin "type.__call__" ⟨.ref 83 :: [.str (tx T) t3], []⟩)).depth = A.depth + 1 := by
    show A.depth + Code.weight _ = _
    rw [show Code.weight (.builtin "type.__call__" ⟨.ref 83 :: [.str (tx T) t3], []⟩) = 1 from by kernel_rfl]
  have e2 : (A.under (.builtin "type.__call__" ⟨.ref 83 :: [.str (tx T) t3], []⟩)).units ≤ A.units + 4 := by
    show A.units + Code.cUnits _ ≤ _
    rw [show Code.cUnits (.builtin "type.__call__" ⟨.ref 83 :: [.str (tx T) t3], []⟩) = 1 from by kernel_rfl]
    lia
  have hAd := hA.depth
  have hAu := hA.units
  refine init_ok (n := n) ⟨hA.handled, ?_, ?_⟩ P hT hlen fun s' k O' W => ?_
  · rw [e1]; lia
  · lia
  · exact ⟨rfl, h _ s' O' k W⟩
end
/-- the longest run, as reckoned -/
noncomputable def lrOf (T : List Nat) : Int := max (((wsOf T).1.length : Int) - 1) ((wsOf T).2.1 : Int)
/-- the sum over the runs from a place on -/
noncomputable def ilGo (z : Int) (cnt : List Int) : Nat → Nat → Int → Int
  | _, 0, il => il
  | i, k + 1, il => ilGo z cnt (i + 1) k (il + (i : Int) / z * cnt.getD i 0)
noncomputable def levelOf (T : List Nat) (z : Nat) : Int := ((wsOf T).2.1 : Int) + (z : Int) * (ilGo z (wsOf T).1 z ((wsOf T).1.length - z) 0 + ((wsOf T).2.2.2 : Int))
local macro_rules | `(tactic| walk_at "getMethod ref") => `(tactic| (refine' r_getMeth ?S ?x ?y ?ga ?k ?hf ?ht ?hl ?_; (case S => with_reducible assumption); (case x => k_dflt (walk_at "m_at")); (case y => k_dflt (walk_at "m_at")); (case ga => k_dflt (kernel_rfl)); (case k => k_dflt (kernel_rfl)); (case hf => k_dflt (exact rfl)); (case ht => k_dflt (kernel_rfl)); (case hl => k_dflt (rfl))))
local macro_rules | `(tactic| walk_at "call builtin:max") => `(tactic| (refine' r_max2 ?A ?S ?_; (case A => with_reducible assumption); (case S => with_reducible assumption); intro t' s' S'))
local macro_rules | `(tactic| walk_at "call type:range") => `(tactic| (refine' r_range1 ?S ?_; (case S => with_reducible assumption); intro r' s' S'))
local macro_rules | `(tactic| walk_at "call type:range") => `(tactic| (refine' r_range2 ?S ?_; (case S => with_reducible assumption); intro r' s' S'))
local macro_rules | `(tactic| walk_at "pyIter ref") => `(tactic| (refine' r_iter_range ?S ?x ?a ?b ?c ?d ?_; (case S => with_reducible assumption); (case x => k_dflt (walk_at "m_at")); (case a => k_dflt (walk_at "ar")); (case b => k_dflt (walk_at "ar")); (case c => k_dflt (walk_at "ar")); (case d => k_dflt (walk_at "ar")); intro it' s' S'))

section
variable {w : World} {os : OsState} {s : Shared} {A : Around} {n : Nat} {R : Result → Shared → Prop}
set_option maxHeartbeats 4000000 in
theorem longest_ok {x : Addr} {T : List Nat} (hA : Ar A (n + 1)) (O : Ok w os s) (hx : WsAt s.heap x T) (hlen : T.length ≤ 1000)
    (h : ∀ t s', Ok w os s' → s.heap.StaysIn s'.heap → R (.ok (.ret (.int (lrOf T) t))) s') :
    codeAny (MM w) A (.call (.ref 45) ⟨[.ref x], []⟩) R s := by
  obtain ⟨dx, vr, tn, tt, q, c, tb, cvs, h1, h2, h3, h4, h5⟩ := hx
  refine' enter (fr := [(Str.ofString "self", some (.ref x)), (Str.ofString "count", none), (Str.ofString "trailing", none)]) hA O rfl ?cd (BindsTo.of_eq rfl) ?loc ?cell rfl rfl rfl ?fr ?nd ?_
  case cd => kernel_rfl
  case loc => walk_at "m_all"
  case cell => decide
  case fr => walk_at "m_all"
  case nd => walk_at "m_nd"
  intro L s' A' env he S hA'
  have eF := he.facts rfl rfl
  have n0 : NmL env (Str.ofString "self") := ⟨by rw [he]; rfl, rfl⟩
  have n1 : NmL env (Str.ofString "count") := ⟨by rw [he]; rfl, rfl⟩
  have n2 : NmL env (Str.ofString "trailing") := ⟨by rw [he]; rfl, rfl⟩
  have n3 : NmV w env (Str.ofString "len") (.builtin "len") := nm_bi eF (by rw [he]; rfl) (by kernel_rfl) rfl (by decide) rfl
  have n4 : NmV w env (Str.ofString "max") (.builtin "max") := nm_bi eF (by rw [he]; rfl) (by kernel_rfl) rfl (by decide) rfl
  have hb := wsOf_bounds T
  have hl := h5.length
  repeat' walk1
  rename_i S1
  have e : lrOf T = max ((cvs.length : Int) - 1) ((wsOf T).2.1 : Int) := by unfold lrOf; rw [hl]
  rw [← e]
  exact h _ _ S1.ok S1.keep

set_option maxHeartbeats 4000000 in
theorem level_ok {x : Addr} {T : List Nat} {z : Nat} {t3 : Tok} (hA : Ar A (n + 1)) (O : Ok w os s) (hx : WsAt s.heap x T) (hlen : T.length ≤ 1000) (hz : 0 < z ∧ z ≤ 1000)
    (h : ∀ t s', Ok w os s' → s.heap.StaysIn s'.heap → R (.ok (.ret (.int (levelOf T z) t))) s') :
    codeAny (MM w) A (.call (.ref 52) ⟨[.ref x, .int (z : Nat) t3], []⟩) R s := by
  obtain ⟨dx, vr, tn, tt, q, c, tb, cvs, h1, h2, h3, h4, h5⟩ := hx
  refine' enter (fr := [(Str.ofString "self", some (.ref x)), (Str.ofString "tabsize", some (.int (z : Nat) t3)), (Str.ofString "count", none), (Str.ofString "trailing", none), (Str.ofString "il", none), (Str.ofString "i", none)]) hA O rfl ?cd (BindsTo.of_eq rfl) ?loc ?cell rfl rfl rfl ?fr ?nd ?_
  case cd => kernel_rfl
  case loc => walk_at "m_all"
  case cell => decide
  case fr => walk_at "m_all"
  case nd => walk_at "m_nd"
  intro L s' A' env he S hA'
  have eF := he.facts rfl rfl
  have n0 : NmL env (Str.ofString "self") := ⟨by rw [he]; rfl, rfl⟩
  have n1 : NmL env (Str.ofString "count") := ⟨by rw [he]; rfl, rfl⟩
  have n2 : NmL env (Str.ofString "trailing") := ⟨by rw [he]; rfl, rfl⟩
  have n5 : NmL env (Str.ofString "il") := ⟨by rw [he]; rfl, rfl⟩
  have n6 : NmL env (Str.ofString "i") := ⟨by rw [he]; rfl, rfl⟩
  have n7 : NmL env (Str.ofString "tabsize") := ⟨by rw [he]; rfl, rfl⟩
  have n3 : NmV w env (Str.ofString "len") (.builtin "len") := nm_bi eF (by rw [he]; rfl) (by kernel_rfl) rfl (by decide) rfl
  have n4 : NmV w env (Str.ofString "range") (.type "range") := nm_bi eF (by rw [he]; rfl) (by kernel_rfl) rfl (by decide) rfl
  have hb := wsOf_bounds T
  have hl := h5.length
  repeat' walk1
  rename_i it s1 S1
  have hcv := h4.keeps fun o e => S1.keep _ o e
  refine m_for ((wsOf T).1.length - z)
    (fun i s2 => ∃ il o1 tl, ilGo z (wsOf T).1 (z + i) ((wsOf T).1.length - z - i) il = ilGo z (wsOf T).1 z ((wsOf T).1.length - z) 0 ∧ St w os s.heap L [(Str.ofString "self", some (.ref x)), (Str.ofString "tabsize", some (.int (z : Nat) t3)), (Str.ofString "count", some (.ref c)), (Str.ofString "trailing", some (.int ((wsOf T).2.1 : Nat) tb)), (Str.ofString "il", some (.int il tl)), (Str.ofString "i", o1)]
      [(it, RIterO ((z + i : Nat) : Int) (((wsOf T).1.length - z - i : Nat) : Int) 1)] s2)
    (fun s2 => ∃ o1 tl, St w os s.heap L [(Str.ofString "self", some (.ref x)), (Str.ofString "tabsize", some (.int (z : Nat) t3)), (Str.ofString "count", some (.ref c)), (Str.ofString "trailing", some (.int ((wsOf T).2.1 : Nat) tb)), (Str.ofString "il", some (.int (ilGo z (wsOf T).1 z ((wsOf T).1.length - z) 0) tl)), (Str.ofString "i", o1)]
      [] s2) ?turn ?last ?fin 0 (Nat.zero_le _) ?init
  case init =>
    have S2 := S1.del (.tail .head)
    rw [show max 0 ((cvs.length : Int) - (z : Int)) = (((wsOf T).1.length - z - 0 : Nat) : Int) from by lia] at S2
    exact ⟨0, _, _, rfl, S2⟩
  case last =>
    rintro s2 ⟨il, o1, tl, e, S3⟩
    rw [Nat.sub_self] at e S3
    refine r_end_range hA' S3 .head (by lia) fun s3 S4 => ⟨⟨o1, tl, ?_⟩⟩
    rw [← e]; exact S4
  case fin =>
    rintro s2 ⟨o1, tl, S3⟩
    generalize hG : ilGo z (wsOf T).1 z ((wsOf T).1.length - z) 0 = G at S3
    repeat' walk1
    rename_i S4
    have e : levelOf T z = ((wsOf T).2.1 : Int) + (z : Int) * (G + ((wsOf T).2.2.2 : Int)) := by unfold levelOf; rw [hG]
    rw [← e]
    exact h _ _ S4.ok S4.keep
  case turn =>
    rintro i s2 hi ⟨il, o1, tl, e, S3⟩
    intro Ct Bt hCt hBt
    have hzi : z + i < (wsOf T).1.length := by lia
    refine r_next_range S3 .head (by lia) fun t' s3 S4 => ?_
    rw [show ((z + i : Nat) : Int) + 1 = ((z + (i + 1) : Nat) : Int) from by lia, show (((wsOf T).1.length - z - i : Nat) : Int) - 1 = (((wsOf T).1.length - z - (i + 1) : Nat) : Int) from by lia] at S4
    obtain ⟨v, hv, tv, rfl⟩ := h5.get (List.getElem?_eq_getElem hzi)
    have hidx : cvs[((z + i : Nat) : Int).toNat]? = some (.int (wsOf T).1[z + i] tv) := by rw [Int.toNat_natCast]; exact hv
    have hq : 0 ≤ ((z + i : Nat) : Int) / (z : Int) ∧ ((z + i : Nat) : Int) / (z : Int) ≤ 1000000 := by
      refine ⟨Int.ediv_nonneg (by lia) (by lia), Int.le_trans (Int.ediv_le_self _ (by lia)) (by lia)⟩
    repeat' walk1
    rename_i S5
    refine ⟨hCt _ ⟨_, _, _, ?_, S5⟩⟩
    rw [← e, show (wsOf T).1.length - z - i = (wsOf T).1.length - z - (i + 1) + 1 from by lia]
    show _ = ilGo z (wsOf T).1 (z + i + 1) _ _
    rw [List.getD_eq_getElem?_getD, List.getElem?_eq_getElem hzi]; rfl

end
local macro_rules | `(tactic| walk_at "call ref") => `(tactic| k_dflt (refine' wpAny_call (longest_ok ?A (St.ok ?S) ?x ?l ?_); (case A => assumption); (case S => assumption); (case x => first | assumption | (refine' WsAt.mono ?k ?w; (case w => assumption); (case k => exact St.keep (by assumption)))); (case l => lia); intro t' s' O' k'; have S' := St.call (by assumption) k' O'))
local macro_rules | `(tactic| walk_at "call ref") => `(tactic| k_dflt (refine' wpAny_call (level_ok ?A (St.ok ?S) ?x ?l ?z ?_); (case A => assumption); (case S => assumption); (case x => first | assumption | (refine' WsAt.mono ?k ?w; (case w => assumption); (case k => exact St.keep (by assumption)))); (case l => lia); (case z => lia); intro t' s' O' k'; have S' := St.call (by assumption) k' O'))
section
variable {w : World} {os : OsState} {s : Shared} {A : Around} {n : Nat} {R : Result → Shared → Prop}
theorem lrOf_bounds (T : List Nat) : 0 ≤ lrOf T ∧ lrOf T ≤ T.length := by
  have := wsOf_bounds T
  unfold lrOf; lia
/-- the sizes from a place on, k of them, at which one is less than the other throughout -/
noncomputable def lessGo (T G : List Nat) : Nat → Nat → Bool
  | _, 0 => true
  | z, k + 1 => if levelOf T z ≥ levelOf G z then false else lessGo T G (z + 1) k
noncomputable def lessOf (T G : List Nat) : Bool :=
  if (wsOf T).2.2.1 ≥ (wsOf G).2.2.1 then false
  else if (wsOf T).1.length ≤ 1 ∧ (wsOf G).1.length ≤ 1 then decide ((wsOf T).2.2.2 ≤ (wsOf G).2.2.2)
  else lessGo T G 2 (max (lrOf T) (lrOf G)).toNat
set_option maxHeartbeats 4000000 in
theorem less_ok {x y : Addr} {T G : List Nat} (hA : Ar A (n + 2)) (O : Ok w os s) (hx : WsAt s.heap x T) (hy : WsAt s.heap y G) (hT : T.length ≤ 900) (hG : G.length ≤ 900)
    (h : ∀ s', Ok w os s' → s.heap.StaysIn s'.heap → R (.ok (.ret (.bool (lessOf T G)))) s') :
    codeAny (MM w) A (.call (.ref 73) ⟨[.ref x, .ref y], []⟩) R s := by
  have hx' := hx
  have hy' := hy
  obtain ⟨dx, vr, tn, tt, q, c, tb, cvs, h1, h2, h3, h4, h5⟩ := hx
  obtain ⟨dx2, vr2, tn2, tt2, q2, c2, tb2, cvs2, k1, k2, k3, k4, k5⟩ := hy
  refine' enter (fr := [(Str.ofString "self", some (.ref x)), (Str.ofString "other", some (.ref y)), (Str.ofString "n", none), (Str.ofString "ts", none)]) hA O rfl ?cd (BindsTo.of_eq rfl) ?loc ?cell rfl rfl rfl ?fr ?nd ?_
  case cd => kernel_rfl
  case loc => walk_at "m_all"
  case cell => decide
  case fr => walk_at "m_all"
  case nd => walk_at "m_nd"
  intro L s' A' env he S hA'
  have eF := he.facts rfl rfl
  have n0 : NmL env (Str.ofString "self") := ⟨by rw [he]; rfl, rfl⟩
  have n1 : NmL env (Str.ofString "other") := ⟨by rw [he]; rfl, rfl⟩
  have n2 : NmL env (Str.ofString "n") := ⟨by rw [he]; rfl, rfl⟩
  have n5 : NmL env (Str.ofString "ts") := ⟨by rw [he]; rfl, rfl⟩
  have n3 : NmV w env (Str.ofString "range") (.type "range") := nm_bi eF (by rw [he]; rfl) (by kernel_rfl) rfl (by decide) rfl
  have n4 : NmV w env (Str.ofString "max") (.builtin "max") := nm_bi eF (by rw [he]; rfl) (by kernel_rfl) rfl (by decide) rfl
  have hb := wsOf_bounds T
  have hb2 := wsOf_bounds G
  have hlr := lrOf_bounds T
  have hlr2 := lrOf_bounds G
  by_cases c1 : (wsOf T).2.2.1 ≥ (wsOf G).2.2.1
  · have e : lessOf T G = false := by unfold lessOf; rw [if_pos c1]
    rw [e] at h
    repeat' walk1
    exact h _ (St.ok (by assumption)) (St.keep (by assumption))
  by_cases c2 : (wsOf T).1.length ≤ 1 ∧ (wsOf G).1.length ≤ 1
  · have e : lessOf T G = decide (((wsOf T).2.2.2 : Int) ≤ ((wsOf G).2.2.2 : Int)) := by
      unfold lessOf; rw [if_neg c1, if_pos c2, Bool.eq_iff_iff, decide_eq_true_iff, decide_eq_true_iff]; lia
    rw [e] at h
    repeat' walk1
    exact h _ (St.ok (by assumption)) (St.keep (by assumption))
  have e : lessOf T G = lessGo T G 2 (max (lrOf T) (lrOf G)).toNat := by unfold lessOf; rw [if_neg c1, if_neg c2]
  rw [e] at h
  refine m_cut (fun s1 => St w os s.heap L [(Str.ofString "self", some (.ref x)), (Str.ofString "other", some (.ref y)), (Str.ofString "n", none), (Str.ofString "ts", none)] [] s1) (fun P' hPP => ?_) ?_
  · repeat' walk1
    exact ⟨rfl, hPP _ (by assumption)⟩
  intro s1 S1
  refine m_cut (fun s1 => St w os s.heap L [(Str.ofString "self", some (.ref x)), (Str.ofString "other", some (.ref y)), (Str.ofString "n", none), (Str.ofString "ts", none)] [] s1) (fun P' hPP => ?_) ?_
  · by_cases c3 : (wsOf T).1.length ≤ 1
    · have c4 : ¬ (wsOf G).1.length ≤ 1 := fun z => c2 ⟨c3, z⟩
      repeat' walk1
      exact ⟨rfl, hPP _ (by assumption)⟩
    · repeat' walk1
      exact ⟨rfl, hPP _ (by assumption)⟩
  intro s2 S2
  clear S S1
  repeat' walk1
  rename_i tn' _ _ _ _ _ _ it s3 S3
  generalize hN : (max (lrOf T) (lrOf G)).toNat = N at h
  refine m_for N
    (fun i s2 => ∃ o1 o2, lessGo T G (2 + i) (N - i) = lessGo T G 2 N ∧ St w os s.heap L [(Str.ofString "self", some (.ref x)), (Str.ofString "other", some (.ref y)), (Str.ofString "n", o1), (Str.ofString "ts", o2)]
      [(it, RIterO ((2 + i : Nat) : Int) ((N - i : Nat) : Int) 1)] s2)
    (fun s2 => ∃ o1 o2, lessGo T G 2 N = true ∧ St w os s.heap L [(Str.ofString "self", some (.ref x)), (Str.ofString "other", some (.ref y)), (Str.ofString "n", o1), (Str.ofString "ts", o2)]
      [] s2) ?turn ?last ?fin 0 (Nat.zero_le _) ?init
  case init =>
    have S4 := S3.del (.tail .head)
    rw [show max 0 (max (lrOf T) (lrOf G) + 1 + 1 - 2) = ((N - 0 : Nat) : Int) from by lia] at S4
    exact ⟨_, _, rfl, S4⟩
  case last =>
    rintro s2 ⟨o1, o2, e, S4⟩
    rw [Nat.sub_self] at e S4
    refine r_end_range hA' S4 .head (by lia) fun s3 S5 => ⟨⟨o1, o2, ?_, S5⟩⟩
    rw [← e]; rfl
  case fin =>
    rintro s2 ⟨o1, o2, e, S4⟩
    rw [e] at h
    repeat' walk1
    exact h _ S4.ok S4.keep
  case turn =>
    rintro i s2 hi ⟨o1, o2, e, S4⟩
    intro Ct Bt hCt hBt
    refine r_next_range S4 .head (by lia) fun t' s3 S5 => ?_
    rw [show ((2 + i : Nat) : Int) + 1 = ((2 + (i + 1) : Nat) : Int) from by lia, show ((N - i : Nat) : Int) - 1 = ((N - (i + 1) : Nat) : Int) from by lia] at S5
    rw [show N - i = N - (i + 1) + 1 from by lia] at e
    by_cases c : levelOf T (2 + i) ≥ levelOf G (2 + i)
    · have e' : lessGo T G 2 N = false := by rw [← e]; show (if _ then _ else _) = _; rw [if_pos c]
      rw [e'] at h
      repeat' walk1
      exact h _ (St.ok (by assumption)) (St.keep (by assumption))
    · have e' : lessGo T G (2 + (i + 1)) (N - (i + 1)) = lessGo T G 2 N := by rw [← e]; show _ = (if _ then _ else _); rw [if_neg c]; rfl
      repeat' walk1
      exact ⟨hCt _ ⟨_, _, e', by assumption⟩⟩
end
abbrev Row3 := Int × Int × Int
noncomputable def V3 (g : Heap) (v : Value) (r : Row3) : Prop := ∃ p t1 t2 t3, v = .ref p ∧ At g p (TupO [.int r.1 t1, .int r.2.1 t2, .int r.2.2 t3])
theorem V3.mono {g g' : Heap} (k : g.StaysIn g') {v : Value} {r : Row3} (x : V3 g v r) : V3 g' v r := let ⟨p, t1, t2, t3, e, h⟩ := x; ⟨p, t1, t2, t3, e, h.keeps fun o z => k _ o z⟩
noncomputable def RowsAt (g : Heap) (q : Addr) (rows : List Row3) : Prop := ∃ vs, At g q (ListO vs) ∧ All2 (V3 g) vs rows
noncomputable def witGo (T G : List Nat) : Nat → Nat → List Row3
  | _, 0 => []
  | z, k + 1 => if levelOf T z ≥ levelOf G z then ((z : Int), levelOf T z, levelOf G z) :: witGo T G (z + 1) k else witGo T G (z + 1) k
noncomputable def witOf (T G : List Nat) : List Row3 := witGo T G 1 (max (lrOf T) (lrOf G) + 1).toNat
section
variable {w : World} {os : OsState} {s : Shared} {A : Around} {n : Nat} {R : Result → Shared → Prop}
set_option maxHeartbeats 4000000 in
theorem witness_ok {x y : Addr} {T G : List Nat} (hA : Ar A (n + 2)) (O : Ok w os s) (hx : WsAt s.heap x T) (hy : WsAt s.heap y G) (hT : T.length ≤ 900) (hG : G.length ≤ 900)
    (h : ∀ q s', Ok w os s' → s.heap.StaysIn s'.heap → s.heap.get? q = none → RowsAt s'.heap q (witOf T G) → R (.ok (.ret (.ref q))) s') :
    codeAny (MM w) A (.call (.ref 80) ⟨[.ref x, .ref y], []⟩) R s := by
  have hx' := hx
  have hy' := hy
  obtain ⟨dx, vr, tn, tt, q, c, tb, cvs, h1, h2, h3, h4, h5⟩ := hx
  obtain ⟨dx2, vr2, tn2, tt2, q2, c2, tb2, cvs2, k1, k2, k3, k4, k5⟩ := hy
  refine' enter (fr := [(Str.ofString "self", some (.ref x)), (Str.ofString "other", some (.ref y)), (Str.ofString "n", none), (Str.ofString "a", none), (Str.ofString "ts", none)]) hA O rfl ?cd (BindsTo.of_eq rfl) ?loc ?cell rfl rfl rfl ?fr ?nd ?_
  case cd => kernel_rfl
  case loc => walk_at "m_all"
  case cell => decide
  case fr => walk_at "m_all"
  case nd => walk_at "m_nd"
  intro L s' A' env he S hA'
  have eF := he.facts rfl rfl
  have n0 : NmL env (Str.ofString "self") := ⟨by rw [he]; rfl, rfl⟩
  have n1 : NmL env (Str.ofString "other") := ⟨by rw [he]; rfl, rfl⟩
  have n2 : NmL env (Str.ofString "n") := ⟨by rw [he]; rfl, rfl⟩
  have n5 : NmL env (Str.ofString "ts") := ⟨by rw [he]; rfl, rfl⟩
  have n6 : NmL env (Str.ofString "a") := ⟨by rw [he]; rfl, rfl⟩
  have n3 : NmV w env (Str.ofString "range") (.type "range") := nm_bi eF (by rw [he]; rfl) (by kernel_rfl) rfl (by decide) rfl
  have n4 : NmV w env (Str.ofString "max") (.builtin "max") := nm_bi eF (by rw [he]; rfl) (by kernel_rfl) rfl (by decide) rfl
  have hb := wsOf_bounds T
  have hb2 := wsOf_bounds G
  have hlr := lrOf_bounds T
  have hlr2 := lrOf_bounds G
  have gx : ∀ {g' : Heap}, s.heap.StaysIn g' → WsAt g' x T := fun k => hx'.mono k
  have gy : ∀ {g' : Heap}, s.heap.StaysIn g' → WsAt g' y G := fun k => hy'.mono k
  repeat' walk1
  rename_i it s3 S3
  have e0 : witOf T G = witGo T G 1 (max (lrOf T) (lrOf G) + 1).toNat := rfl
  generalize hN : (max (lrOf T) (lrOf G) + 1).toNat = N at e0
  refine m_for N
    (fun i s2 => ∃ la g' o1 o2 vals rows, s.heap.StaysIn g' ∧ All2 (V3 g') vals rows ∧ rows.length ≤ i ∧ witOf T G = rows ++ witGo T G (1 + i) (N - i) ∧ St w os g' L [(Str.ofString "self", some (.ref x)), (Str.ofString "other", some (.ref y)), (Str.ofString "n", o1), (Str.ofString "a", some (.ref la)), (Str.ofString "ts", o2)]
      [(it, RIterO ((1 + i : Nat) : Int) ((N - i : Nat) : Int) 1), (la, ListO vals)] s2)
    (fun s2 => ∃ la g' o1 o2 vals, s.heap.StaysIn g' ∧ All2 (V3 g') vals (witOf T G) ∧ St w os g' L [(Str.ofString "self", some (.ref x)), (Str.ofString "other", some (.ref y)), (Str.ofString "n", o1), (Str.ofString "a", some (.ref la)), (Str.ofString "ts", o2)]
      [(la, ListO vals)] s2) ?turn ?last ?fin 0 (Nat.zero_le _) ?init
  case init =>
    have S4 := S3.del (.tail .head)
    rw [show max 0 (max (lrOf T) (lrOf G) + 1 + 1 - 1) = ((N - 0 : Nat) : Int) from by lia] at S4
    exact ⟨_, _, _, _, _, [], fun _ _ e => e, .nil, Nat.le_refl _, e0, S4⟩
  case last =>
    rintro s2 ⟨la, g', o1, o2, vals, rows, hk, hr, hrl, e, S4⟩
    rw [Nat.sub_self] at e S4
    refine r_end_range hA' S4 .head (by lia) fun s3 S5 => ⟨⟨la, g', o1, o2, vals, hk, ?_, S5⟩⟩
    rw [e]; simpa [witGo] using hr
  case fin =>
    rintro s2 ⟨la, g', o1, o2, vals, hk, hr, S4⟩
    repeat' walk1
    refine h _ _ S4.ok (fun b o e => S4.keep b o (hk b o e)) ?_ ⟨vals, S4.mem (.head _), hr.mono fun _ _ x => x.mono S4.keep⟩
    cases z : s.heap.get? la with
    | none => rfl
    | some o => have := (S4.new _ (.head _)).2.1; rw [hk _ _ z] at this; cases this
  case turn =>
    rintro i s2 hi ⟨la, g', o1, o2, vals, rows, hk, hr, hrl, e, S4⟩
    intro Ct Bt hCt hBt
    have hxg := gx hk
    have hyg := gy hk
    have hrl2 := hr.length
    have h1' := h1.keeps fun o e => hk _ o e
    have h2' := h2.keeps fun o e => hk _ o e
    have k1' := k1.keeps fun o e => hk _ o e
    have k2' := k2.keeps fun o e => hk _ o e
    refine r_next_range S4 .head (by lia) fun t' s3 S5 => ?_
    rw [show ((1 + i : Nat) : Int) + 1 = ((1 + (i + 1) : Nat) : Int) from by lia, show ((N - i : Nat) : Int) - 1 = ((N - (i + 1) : Nat) : Int) from by lia] at S5
    rw [show N - i = N - (i + 1) + 1 from by lia] at e
    by_cases c : levelOf T (1 + i) ≥ levelOf G (1 + i)
    · have e' : witOf T G = (rows ++ [(((1 + i : Nat) : Int), levelOf T (1 + i), levelOf G (1 + i))]) ++ witGo T G (1 + (i + 1)) (N - (i + 1)) := by
        rw [e]; show _ ++ (if _ then _ else _) = _; rw [if_pos c, List.append_assoc]; rfl
      repeat' walk1
      rename_i S6
      obtain ⟨g2, k2', hp, S7⟩ := S6.freeze
      refine ⟨hCt _ ⟨la, g2, _, _, _, _, fun b o e => k2' b o (hk b o e), (hr.mono fun _ _ x => x.mono k2').append (.cons ⟨_, _, _, _, rfl, hp⟩ .nil), ?_, e', S7⟩⟩
      simp; lia
    · have e' : witOf T G = rows ++ witGo T G (1 + (i + 1)) (N - (i + 1)) := by rw [e]; show _ ++ (if _ then _ else _) = _; rw [if_neg c]; rfl
      repeat' walk1
      exact ⟨hCt _ ⟨la, g', _, _, _, _, hk, hr, by lia, e', by assumption⟩⟩
end
/-- the column behind a text -/
noncomputable def colStep (z c ch : Nat) : Nat := if ch = 32 then c + 1 else (c / z + 1) * z
noncomputable def col (z : Nat) (T : List Nat) : Nat := T.foldl (colStep z) 0
theorem col_snoc (z : Nat) (T : List Nat) (c : Nat) : col z (T ++ [c]) = colStep z (col z T) c := by unfold col; rw [List.foldl_append]; rfl

/-- the weighted sum of the counts -/
noncomputable def sz (z : Nat) : Nat → List Int → Int
  | _, [] => 0
  | i, c :: r => (i : Int) / (z : Int) * c + sz z (i + 1) r
theorem sz_append (z : Nat) : ∀ (l l' : List Int) (i : Nat), sz z i (l ++ l') = sz z i l + sz z (i + l.length) l'
  | [], l', i => by simp [sz]
  | c :: r, l', i => by
    rw [List.cons_append, sz, sz, sz_append z r l' (i + 1), List.length_cons, show i + 1 + r.length = i + (r.length + 1) from by lia]
    lia
theorem sz_zeros (z : Nat) : ∀ (k i : Nat), sz z i (List.replicate k 0) = 0
  | 0, i => rfl
  | k + 1, i => by rw [List.replicate_succ, sz, sz_zeros z k]; simp
theorem sz_set (z : Nat) : ∀ (l : List Int) (j i : Nat), j < l.length → sz z i (l.set j (l.getD j 0 + 1)) = sz z i l + ((i + j : Nat) : Int) / (z : Int)
  | [], j, i, h => by simp at h
  | c :: r, 0, i, h => by
    simp only [List.set_cons_zero, sz, List.getD_cons_zero, Nat.add_zero]
    rw [Int.mul_add]; lia
  | c :: r, j + 1, i, h => by
    have := sz_set z r j (i + 1) (by simpa using h)
    simp only [List.set_cons_succ, sz, List.getD_cons_succ]
    rw [this, show i + 1 + j = i + (j + 1) from by lia]; lia
theorem sz_small (z : Nat) (hz : 0 < z) : ∀ (l : List Int) (i : Nat), i + l.length ≤ z → sz z i l = 0
  | [], i, h => rfl
  | c :: r, i, h => by
    have h' : i + (r.length + 1) ≤ z := by simpa using h
    rw [sz, sz_small z hz r (i + 1) (by lia), Int.ediv_eq_zero_of_lt (by lia) (by lia)]; simp
theorem sz_drop (z : Nat) (hz : 0 < z) (l : List Int) : sz z 0 l = sz z z (l.drop z) := by
  by_cases h : l.length ≤ z
  · rw [List.drop_of_length_le h]; exact sz_small z hz l 0 (by lia)
  · have e : l = l.take z ++ l.drop z := (List.take_append_drop z l).symm
    have hl : (l.take z).length = z := by rw [List.length_take]; lia
    conv => lhs; rw [e]
    rw [sz_append, sz_small z hz _ 0 (by lia), hl]; simp
theorem ilGo_eq (z : Nat) (cnt : List Int) : ∀ (k i : Nat) (il : Int), i + k = cnt.length → ilGo z cnt i k il = il + sz z i (cnt.drop i)
  | 0, i, il, h => by rw [List.drop_of_length_le (by lia)]; simp [ilGo, sz]
  | k + 1, i, il, h => by
    have hi : i < cnt.length := by lia
    rw [ilGo, ilGo_eq z cnt k (i + 1) _ (by lia), List.drop_eq_getElem_cons hi, sz, List.getD_eq_getElem?_getD, List.getElem?_eq_getElem hi, Option.getD_some]
    lia
theorem level_sz (T : List Nat) (z : Nat) (hz : 0 < z) : levelOf T z = ((wsOf T).2.1 : Int) + (z : Int) * (sz z 0 (wsOf T).1 + ((wsOf T).2.2.2 : Int)) := by
  unfold levelOf
  by_cases h : z ≤ (wsOf T).1.length
  · rw [ilGo_eq z _ _ _ _ (by lia), sz_drop z hz]; simp
  · rw [show (wsOf T).1.length - z = 0 from by lia, sz_small z hz _ 0 (by lia)]; simp [ilGo]
theorem sz_bump (z : Nat) (cnt : List Int) (b : Nat) : sz z 0 (bump cnt b) = sz z 0 cnt + (b : Int) / (z : Int) := by
  unfold bump
  rw [sz_set z _ b 0 (by simp; lia), sz_append, sz_zeros]; simp
theorem Ws.left {A B : List Nat} (h : Ws (A ++ B)) : Ws A := fun c hc => h c (List.mem_append_left _ hc)
theorem Ws.right {A B : List Nat} (h : Ws (A ++ B)) : Ws B := fun c hc => h c (List.mem_append_right _ hc)
theorem Ws.take {A : List Nat} (h : Ws A) (k : Nat) : Ws (A.take k) := fun c hc => h c (List.mem_of_mem_take hc)
theorem Ws.drop {A : List Nat} (h : Ws A) (k : Nat) : Ws (A.drop k) := fun c hc => h c (List.mem_of_mem_drop hc)
theorem Ws.rev {A : List Nat} (h : Ws A) : Ws A.reverse := fun c hc => h c (List.mem_reverse.mp hc)
theorem Ws.app {A B : List Nat} (h : Ws A) (h' : Ws B) : Ws (A ++ B) := fun c hc => (List.mem_append.mp hc).elim (h c) (h' c)
theorem level_col {T : List Nat} (hT : Ws T) {z : Nat} (hz : 0 < z) : levelOf T z = (col z T : Nat) := by
  revert hT
  refine snoc_ind (P := fun T => Ws T → levelOf T z = (col z T : Nat)) ?_ ?_ T
  · intro _; rw [level_sz _ _ hz]; simp [wsOf, sz, col]
  · intro T c ih hT
    have ih := ih hT.left
    have hc := hT c (by simp)
    rw [level_sz _ _ hz] at ih ⊢
    rw [wsOf_snoc, col_snoc]
    rcases hc with rfl | rfl
    · show ((0 : Nat) : Int) + (z : Int) * (sz z 0 (bump (wsOf T).1 (wsOf T).2.1) + (((wsOf T).2.2.2 + 1 : Nat) : Int)) = (((col z T) / z + 1) * z : Nat)
      rw [sz_bump]
      generalize sz z 0 (wsOf T).1 = u at *
      generalize (wsOf T).2.1 = b at *
      generalize (wsOf T).2.2.2 = n at *
      have e : ((col z T / z : Nat) : Int) = (b : Int) / (z : Int) + (u + n) := by
        rw [Int.natCast_ediv, ← ih, Int.add_mul_ediv_left _ _ (by lia)]
      rw [Int.natCast_mul, show ((col z T / z + 1 : Nat) : Int) = (col z T / z : Nat) + 1 from by lia, e, Int.mul_comm, show u + (b : Int) / (z : Int) + ((n + 1 : Nat) : Int) = (b : Int) / (z : Int) + (u + n) + 1 from by lia]
      lia
    · show (((wsOf T).2.1 + 1 : Nat) : Int) + (z : Int) * (sz z 0 (wsOf T).1 + ((wsOf T).2.2.2 : Int)) = ((col z T + 1 : Nat) : Int)
      rw [Int.natCast_add, Int.natCast_add, ← ih]; lia
theorem colStep_gt {z : Nat} (hz : 0 < z) (c ch : Nat) : c < colStep z c ch := by
  unfold colStep
  split
  · lia
  · have := Nat.lt_mul_div_succ c hz
    rw [Nat.mul_comm] at this; exact this
theorem foldl_ge {z : Nat} (hz : 0 < z) : ∀ (T : List Nat) (c : Nat), c + T.length ≤ T.foldl (colStep z) c
  | [], c => Nat.le_refl _
  | ch :: r, c => by
    rw [List.foldl_cons, List.length_cons]
    have h1 := foldl_ge hz r (colStep z c ch)
    have h2 := colStep_gt hz c ch
    lia
theorem col_append (z : Nat) (A B : List Nat) : col z (A ++ B) = B.foldl (colStep z) (col z A) := by unfold col; rw [List.foldl_append]
theorem col_take_lt {z : Nat} (hz : 0 < z) {T : List Nat} {p q : Nat} (hpq : p < q) (hq : q ≤ T.length) : col z (T.take p) < col z (T.take q) := by
  have e : T.take q = T.take p ++ (T.take q).drop p := by
    conv => lhs; rw [← List.take_append_drop p (T.take q)]
    rw [List.take_take, Nat.min_eq_left (by lia)]
  rw [e, col_append]
  have h1 := foldl_ge hz ((T.take q).drop p) (col z (T.take p))
  have h2 : ((T.take q).drop p).length = q - p := by rw [List.length_drop, List.length_take]; lia
  lia
theorem col_one (T : List Nat) : col 1 T = T.length := by
  refine snoc_ind (P := fun T => col 1 T = T.length) rfl ?_ T
  intro T c ih
  rw [col_snoc, ih, List.length_append, List.length_singleton]
  unfold colStep
  split <;> lia

/-- runs -/
theorem ws_mid (A : List Nat) (B : List Nat) (hB : Ws B) : (wsOf (A ++ 9 :: B)).2.1 = (wsOf B).2.1 ∧ (wsOf (A ++ 9 :: B)).1.length = max (max (wsOf A).1.length ((wsOf A).2.1 + 1)) (wsOf B).1.length := by
  revert hB
  refine snoc_ind (P := fun B => Ws B → (wsOf (A ++ 9 :: B)).2.1 = (wsOf B).2.1 ∧ (wsOf (A ++ 9 :: B)).1.length = max (max (wsOf A).1.length ((wsOf A).2.1 + 1)) (wsOf B).1.length) ?_ ?_ B
  · intro _
    rw [wsOf_snoc]
    refine ⟨rfl, ?_⟩
    show (bump (wsOf A).1 (wsOf A).2.1).length = _
    rw [bump_length]; simp [wsOf]
  · intro B c ih hB
    obtain ⟨h1, h2⟩ := ih hB.left
    rw [show A ++ 9 :: (B ++ [c]) = (A ++ 9 :: B) ++ [c] from by simp, wsOf_snoc, wsOf_snoc]
    rcases hB c (by simp) with rfl | rfl
    · refine ⟨rfl, ?_⟩
      show (bump _ _).length = max _ (bump _ _).length
      rw [bump_length, bump_length, h1, h2]; lia
    · exact ⟨congrArg (· + 1) h1, h2⟩
theorem lr_mid (A B : List Nat) (hB : Ws B) : lrOf (A ++ 9 :: B) = max (lrOf A) (lrOf B) := by
  obtain ⟨h1, h2⟩ := ws_mid A B hB
  unfold lrOf
  rw [h1, h2]; lia
theorem ws_run : ∀ (k : Nat), wsOf (List.replicate k 32) = ([], k, k, 0)
  | 0 => rfl
  | k + 1 => by rw [List.replicate_succ', wsOf_snoc, ws_run k]; rfl
theorem lr_run (k : Nat) : lrOf (List.replicate k 32) = k := by unfold lrOf; rw [ws_run]; simp; lia
theorem run_of {T : List Nat} (hT : Ws T) (h : 9 ∉ T) : T = List.replicate T.length 32 := by
  rw [List.eq_replicate_iff]
  exact ⟨rfl, fun b hb => (hT b hb).elim (fun e => absurd (e ▸ hb) h) id⟩
theorem lr_rev : ∀ (n : Nat) (T : List Nat), T.length = n → Ws T → lrOf T.reverse = lrOf T := by
  intro n
  induction n using Nat.strongRecOn with
  | _ n ih =>
    intro T hn hT
    by_cases h : 9 ∈ T
    · obtain ⟨A, B, rfl⟩ := List.append_of_mem h
      have hA := hT.left
      have hB : Ws B := fun c hc => hT c (by simp [hc])
      simp only [List.length_append, List.length_cons] at hn
      rw [show (A ++ 9 :: B).reverse = B.reverse ++ 9 :: A.reverse from by simp, lr_mid _ _ hA.rev, lr_mid _ _ hB, ih _ (by lia) A rfl hA, ih _ (by lia) B rfl hB]
      lia
    · rw [run_of hT h, List.reverse_replicate]
theorem lr_snoc (T : List Nat) {c : Nat} (hc : c = 9 ∨ c = 32) : lrOf T ≤ lrOf (T ++ [c]) := by
  unfold lrOf
  rw [wsOf_snoc]
  rcases hc with rfl | rfl
  · show _ ≤ max (((bump _ _).length : Int) - 1) ((0 : Nat) : Int)
    rw [bump_length]; lia
  · show _ ≤ max (((wsOf T).1.length : Int) - 1) (((wsOf T).2.1 + 1 : Nat) : Int)
    lia
theorem lr_app (A : List Nat) : ∀ (B : List Nat), Ws B → lrOf A ≤ lrOf (A ++ B) := by
  refine snoc_ind ?_ ?_
  · intro _; rw [List.append_nil]; exact Int.le_refl _
  · intro B c ih hB
    rw [← List.append_assoc]
    exact Int.le_trans (ih hB.left) (lr_snoc _ (hB c (by simp)))
theorem lr_take {T : List Nat} (hT : Ws T) (p : Nat) : lrOf (T.take p) ≤ lrOf T := by
  have := lr_app (T.take p) (T.drop p) (hT.drop p)
  rwa [List.take_append_drop] at this
/-- sizes beyond the longest run -/
theorem ws_cnt_le (T : List Nat) : ((wsOf T).1.length : Int) ≤ lrOf T + 1 ∧ ((wsOf T).2.1 : Int) ≤ lrOf T := by unfold lrOf; lia
theorem col_big {T : List Nat} (hT : Ws T) {z : Nat} (hz : 0 < z) (h : (wsOf T).1.length ≤ z) : (col z T : Int) = ((wsOf T).2.1 : Int) + (z : Int) * ((wsOf T).2.2.2 : Int) := by
  rw [← level_col hT hz, level_sz _ _ hz, sz_small z hz _ 0 (by lia)]; simp
theorem bis_is {p : Nat → Bool} {k n : Nat} (h1 : ∀ i, i < k → p i = true) (h2 : ∀ i, k ≤ i → i < n → p i = false) : ∀ (m lo hi : Nat), hi - lo = m → lo ≤ k → k ≤ hi → hi ≤ n → bis p lo hi = k := by
  intro m
  induction m using Nat.strongRecOn with
  | _ m ih =>
    intro lo hi hm hlo hhi hn
    rw [bis]
    by_cases c : lo < hi
    · rw [if_pos c]
      by_cases hk : (lo + hi) / 2 < k
      · rw [h1 _ hk, if_pos rfl]
        exact ih (hi - ((lo + hi) / 2 + 1)) (by lia) _ _ rfl (by lia) hhi hn
      · rw [h2 _ (by lia) (by lia), if_neg (by simp)]
        exact ih ((lo + hi) / 2 - lo) (by lia) _ _ rfl hlo (by lia) (by lia)
    · rw [if_neg c]; lia
/-- less, at all sizes -/
theorem lessGo_iff (T G : List Nat) : ∀ (k z : Nat), lessGo T G z k = true ↔ ∀ y, z ≤ y → y < z + k → levelOf T y < levelOf G y
  | 0, z => by simp [lessGo]; intro y h1 h2; lia
  | k + 1, z => by
    rw [lessGo]
    split
    · rename_i c
      simp only [Bool.false_eq_true, false_iff]
      intro h
      have := h z (Nat.le_refl _) (by lia)
      lia
    · rename_i c
      rw [lessGo_iff T G k (z + 1)]
      constructor
      · intro h y h1 h2
        by_cases e : y = z
        · subst e; lia
        · exact h y (by lia) (by lia)
      · intro h y h1 h2
        exact h y (by lia) (by lia)
theorem ws_n (T : List Nat) : (wsOf T).2.2.1 = T.length := (wsOf_bounds T).2.2.1
theorem lex_less {z y : Nat} {a b c d : Int} (h : a + (y : Int) * c < b + (y : Int) * d) (hy : y ≤ z) (ha : 0 ≤ a) (hb0 : 0 ≤ b) (hb : b < y) (hay : a < y) : a + (z : Int) * c < b + (z : Int) * d := by
  have hy0 : (0 : Int) < y := by lia
  have hcd : c ≤ d := by
    apply Int.not_lt.mp
    intro hlt
    have : (y : Int) * (d + 1) ≤ y * c := Int.mul_le_mul_of_nonneg_left (by lia) (by lia)
    rw [Int.mul_add] at this
    lia
  by_cases e : c = d
  · subst e; lia
  · have h1 : (z : Int) * (c + 1) ≤ z * d := Int.mul_le_mul_of_nonneg_left (by lia) (by lia)
    rw [Int.mul_add] at h1
    lia
theorem less_iff {T G : List Nat} (hT : Ws T) (hG : Ws G) {M : Nat} (h1 : lrOf T ≤ M) (h2 : lrOf G ≤ M) : lessOf T G = true ↔ ∀ z, 1 ≤ z → z ≤ M + 1 → col z T < col z G := by
  have c1 := ws_cnt_le T
  have c2 := ws_cnt_le G
  have b1 := wsOf_bounds T
  have b2 := wsOf_bounds G
  unfold lessOf
  rw [ws_n, ws_n]
  split
  · rename_i hc
    simp only [Bool.false_eq_true, false_iff]
    intro h
    have := h 1 (Nat.le_refl _) (by lia)
    rw [col_one, col_one] at this; lia
  · rename_i hc
    have hlt : col 1 T < col 1 G := by rw [col_one, col_one]; lia
    split
    · rename_i hs
      rw [decide_eq_true_iff]
      constructor
      · intro hn z hz1 hz2
        have e1 := col_big hT hz1 (by lia)
        have e2 := col_big hG hz1 (by lia)
        have f1 := col_big hT (z := 1) (by lia) hs.1
        have f2 := col_big hG (z := 1) (by lia) hs.2
        have hm : (z - 1 : Int) * ((wsOf T).2.2.2 : Int) ≤ (z - 1 : Int) * ((wsOf G).2.2.2 : Int) := Int.mul_le_mul_of_nonneg_left (by lia) (by lia)
        rw [Int.sub_mul, Int.sub_mul] at hm
        lia
      · intro h
        have := h (M + 1) (by lia) (by lia)
        have e1 := col_big hT (z := M + 1) (by lia) (by lia)
        have e2 := col_big hG (z := M + 1) (by lia) (by lia)
        apply Nat.not_lt.mp
        intro hlt2
        have hm : ((M + 1 : Nat) : Int) * ((wsOf G).2.2.2 + 1 : Int) ≤ ((M + 1 : Nat) : Int) * ((wsOf T).2.2.2 : Int) := Int.mul_le_mul_of_nonneg_left (by lia) (by lia)
        rw [Int.mul_add] at hm
        lia
    · rw [lessGo_iff]
      have k1 := lrOf_bounds T
      have k2 := lrOf_bounds G
      constructor
      · intro h z hz1 hz2
        have h' : ∀ y, 1 ≤ y → y ≤ (max (lrOf T) (lrOf G)).toNat + 1 → col y T < col y G := fun y y1 y2 => by
          by_cases e : y = 1
          · subst e; exact hlt
          · have := h y (by lia) (by lia)
            rw [level_col hT (by lia), level_col hG (by lia)] at this; lia
        by_cases hz : z ≤ (max (lrOf T) (lrOf G)).toNat + 1
        · exact h' z hz1 hz
        · have hN := h' ((max (lrOf T) (lrOf G)).toNat + 1) (by lia) (Nat.le_refl _)
          generalize hN' : (max (lrOf T) (lrOf G)).toNat = N at *
          have e1 := col_big hT (z := N + 1) (by lia) (by lia)
          have e2 := col_big hG (z := N + 1) (by lia) (by lia)
          have f1 := col_big hT (z := z) (by lia) (by lia)
          have f2 := col_big hG (z := z) (by lia) (by lia)
          have := lex_less (z := z) (y := N + 1) (a := (wsOf T).2.1) (b := (wsOf G).2.1) (c := (wsOf T).2.2.2) (d := (wsOf G).2.2.2) (by lia) (by lia) (by lia) (by lia) (by lia) (by lia)
          lia
      · intro h y y1 y2
        rw [level_col hT (by lia), level_col hG (by lia)]
        have := h y (by lia) (by lia)
        lia
/-- a frame's map as a thing of the ledger -/
noncomputable def NsO (L : Addr) (fr : Fm) : Obj → Prop := fun o => ∀ h : Heap, h.get? L = some o → NsF h L fr
theorem NsF.at {h : Heap} {L : Addr} {fr : Fm} (x : NsF h L fr) : At h L (NsO L fr) := by
  obtain ⟨⟨m, ⟨o, es, ep, ho, r⟩, q⟩, nd⟩ := x
  exact ⟨o, ho, fun h' e => ⟨⟨m, ⟨o, es, ep, e, r⟩, q⟩, nd⟩⟩
theorem At.ns {h : Heap} {L : Addr} {fr : Fm} (x : At h L (NsO L fr)) : NsF h L fr := let ⟨_, e, p⟩ := x; p h e

/-- a cell -/
noncomputable def CellO (v : Option Value) : Obj → Prop := fun o => o.data = .cell v
theorem At.cell {h : Heap} {c : Addr} {v : Option Value} (x : At h c (CellO v)) : h.IsCell c v := x

section
variable {w : World} {os : OsState} {g : Heap} {L C : Addr} {fr frc : Fm} {nw nw' : Nw} {s s' : Shared} {A : Around} {n : Nat} {env : Env}

theorem St.perm (S : St w os g L fr nw s) (h : nw.Perm nw') : St w os g L fr nw' s :=
  ⟨S.gd, S.keep, S.ns, S.gL, fun p hp => S.new p (h.mem_iff.mpr hp), (h.map _).nodup_iff.mp S.nd, S.hos, S.hgens⟩
theorem St.turnTo (S : St w os g L fr nw s) (k : s.heap.StaysIn s'.heap) (hC : s.heap.get? C = none) (hn : NsF s'.heap C frc) (ho : s'.os = s.os) (hg : s'.gens = s.gens) : St w os g C frc ((L, NsO L fr) :: nw) s' := by
  have S' := S.more k ho hg
  have hL : L ≠ C := fun z => by
    obtain ⟨m, ⟨o, _, _, e, _⟩, _⟩ := S.ns.ex
    rw [z, hC] at e; cases e
  refine ⟨S'.gd, S'.keep, hn, ?_, fun p hp => ?_, ?_, S'.hos, S'.hgens⟩
  · cases q : g.get? C with
    | none => rfl
    | some o => have := S.keep _ _ q; rw [hC] at this; cases this
  · rcases List.mem_cons.mp hp with rfl | hp
    · exact ⟨S'.ns.at, S'.gL, hL⟩
    · refine ⟨(S'.new p hp).1, (S'.new p hp).2.1, fun z => ?_⟩
      obtain ⟨o, e, _⟩ := (S.new p hp).1
      rw [z, hC] at e; cases e
  · rw [List.map_cons, List.nodup_cons]
    refine ⟨fun hm => ?_, S.nd⟩
    obtain ⟨p, hp, z⟩ := List.mem_map.mp hm
    exact (S.new p hp).2.2 z
theorem St.turnBack (S : St w os g C frc ((L, NsO L fr) :: nw) s) : St w os g L fr ((C, NsO C frc) :: nw) s := by
  have hL := S.new _ (.head _)
  have nd := S.nd
  rw [List.map_cons, List.nodup_cons] at nd
  refine ⟨S.gd, S.keep, hL.1.ns, hL.2.1, fun p hp => ?_, ?_, S.hos, S.hgens⟩
  · rcases List.mem_cons.mp hp with rfl | hp
    · exact ⟨S.ns.at, S.gL, Ne.symm hL.2.2⟩
    · refine ⟨(S.new p (.tail _ hp)).1, (S.new p (.tail _ hp)).2.1, fun z => nd.1 (List.mem_map.mpr ⟨p, hp, z⟩)⟩
  · rw [List.map_cons, List.nodup_cons]
    refine ⟨fun hm => ?_, nd.2⟩
    obtain ⟨p, hp, z⟩ := List.mem_map.mp hm
    exact (S.new p (.tail _ hp)).2.2 z

/-- a cell's name -/
structure NmC (env : Env) (x : Str) (c : Addr) : Prop where
  k : env.kindOf x = some .cell
  c : env.cells.lookup x = some c
  d : (x == ("__debug__" : Str)) = false
structure NmFree (env : Env) (x : Str) (c : Addr) : Prop where
  k : env.kindOf x = some .free
  c : env.cells.lookup x = some c
  d : (x == ("__debug__" : Str)) = false
  e : (x == ("__classdict__" : Str)) = false
theorem r_ldc {x : Str} {c : Addr} {v : Value} {pos : Pos} {Q : Value → Shared → Prop} (e : EnvF env L) (hl : NmC env x c) (hv : At s.heap c (CellO (some v))) (h : Q v s) :
    wpAny (MM w) A (eval (.Name x pos) env) Q NoE s := wpAny_Name (wpAny_loadName_cell e.kind hl.k hl.c hv.cell h) hl.d
theorem r_ldf {x : Str} {c : Addr} {v : Value} {pos : Pos} {Q : Value → Shared → Prop} (e : EnvF env L) (hl : NmFree env x c) (hv : At s.heap c (CellO (some v))) (h : Q v s) :
    wpAny (MM w) A (eval (.Name x pos) env) Q NoE s := wpAny_Name (wpAny_loadName_free e.kind hl.k hl.c hv.cell h hl.e) hl.d
theorem r_stc {x : Str} {c : Addr} {v₀ : Option Value} {v : Value} {Q : Unit → Shared → Prop} (e : EnvF env L) (hl : NmC env x c) (S : St w os g L fr nw s) (u : UpdN nw c (CellO v₀) (CellO (some v)) nw')
    (h : ∀ s', St w os g L fr nw' s' → Q () s') : wpAny (MM w) A (storeName env x v) Q NoE s := by
  obtain ⟨j, hj, _⟩ := u.is
  exact wpAny_storeName_cell e.kind hl.k hl.c (S.at j hj).cell fun h' hc hs => h _ (S.upd (s' := { s with heap := h' }) u hc hs.extBut rfl rfl)

/-- the comprehension's loop -/
theorem m_comp {R : Result → Shared → Prop} {elt target iter : Expr} {ifs : List Expr} {scope : Scope} {pos : Pos} {it acc : Value} (N : Nat) (I : Nat → Shared → Prop)
    (turn : ∀ i s, i < N → I i s → wpAny (MM w) A (pyNext it) (fun r s₁ => match r with
      | none => False
      | some v => wpAny (MM w) A (letOwnedTupleGo target it v) (fun _ s₂ => wpAny (MM w) A (assign target env v) (fun _ s₂ =>
          wpAny (MM w) A (forIn ifs true fun c r => if r = true then do let ok ← isTrue c env (eval c env); pure (ForInStep.yield ok) else pure (ForInStep.yield r)) (fun ok s₃ =>
            if ok = true then wpAny (MM w) A (eval elt env) (fun x s₄ =>
              wpAny (MM w) A (call (.builtin "list.append") [acc, x]) (fun _ s₅ => I (i + 1) s₅) NoE s₄) NoE s₃
            else I (i + 1) s₃) NoE s₂) NoE s₂) NoE s₁) NoE s)
    (last : ∀ s, I N s → wpAny (MM w) A (pyNext it) (fun r s₁ => match r with | none => R (.ok .next) s₁ | some _ => False) NoE s)
    (s : Shared) (h : I 0 s) :
    codeAny (MM w) A (.compLoop (.ListComp elt [⟨target, iter, ifs, 0⟩] scope pos) 0 it acc env) R s := by
  refine codeAny_loop rfl (fun n s => ∃ i, i ≤ N ∧ n = N - i ∧ I i s) (fun n s hI => ?_) N ⟨0, Nat.zero_le _, rfl, h⟩
  obtain ⟨i, hi, rfl, hI⟩ := hI
  show wpAny _ A ((compTurn (.ListComp elt [⟨target, iter, ifs, 0⟩] scope pos) 0 it acc env).onRaise (fun x => do noteFrame x env; theTreesLotGoes x)) _ _ s
  refine wpAny_noted ?_
  rw [compTurn_list]
  refine wpAny_bind (wpAny_standAt (wpAny_bind ?_))
  by_cases e : i = N
  · subst e
    refine wpAny_mono (last s hI) (fun r s₁ hr => ?_) fun _ _ x => x.elim
    cases r with
    | none => exact wpAny_pure hr
    | some v => exact hr.elim
  · refine wpAny_mono (turn i s (by lia) hI) (fun r s₁ hr => ?_) fun _ _ x => x.elim
    cases r with
    | none => exact hr.elim
    | some v =>
      refine wpAny_bind (wpAny_mono hr (fun _ s₂ h₂ => wpAny_bind (wpAny_mono h₂ (fun _ s₂ h₂ => wpAny_bind (wpAny_mono h₂ (fun ok s₃ h₃ => ?_) fun _ _ x => x.elim)) fun _ _ x => x.elim)) fun _ _ x => x.elim)
      cases ok with
      | true =>
        rw [if_pos rfl] at h₃
        refine wpAny_bind (wpAny_bind (wpAny_mono h₃ (fun x s₄ h₄ => ?_) fun _ _ x => x.elim))
        refine wpAny_bind (wpAny_mono h₄ (fun _ s₅ h₅ => ?_) fun _ _ x => x.elim)
        exact wpAny_pure (wpAny_pure ⟨rfl, N - (i + 1), by lia, i + 1, by lia, rfl, h₅⟩)
      | false =>
        rw [if_neg (by simp)] at h₃
        exact wpAny_pure ⟨rfl, N - (i + 1), by lia, i + 1, by lia, rfl, h₃⟩

structure CompAt (w : World) (A : Around) (env : Env) (e : Expr) (scope : Scope) (cl : List (Str × Addr)) (use : Option (Value → Sem Unit)) (it : Value) (Q : Value → Shared → Prop) (s : Shared) : Prop where
  out : wpAny (MM w) A (newList []) (fun acc s₃ => wpAny (MM w) A (newFunctionEnv scope env.globals cl [] env.qual none .none (some env)) (fun cenv s₄ =>
    codeAny (MM w) A (.compStart e 0 it acc { cenv with scope := relabel scope env }) (compPost (MM w) A NoE use Q acc cenv.locals) s₄) NoE s₃) NoE s

theorem r_comp {elt target iter : Expr} {ifs : List Expr} {scope : Scope} {cl : List (Str × Addr)} {pos : Pos} {Q : Value → Shared → Prop}
    (hclos : closureFor scope env = pure cl) (hkind : scope.kind = .function) (hnames : ∀ x ∈ scope.names, x.2 = .local → scope.names.lookup x.1 = some .local) (hs : ∀ x, foldedSetIterable iter env x = pure x)
    (h : wpAny (MM w) A (eval iter env) (fun xv s₁ => wpAny (MM w) A (pyIter xv) (fun it s₂ => CompAt w A env (.ListComp elt [⟨target, iter, ifs, 0⟩] scope pos) scope cl none it Q s₂) NoE s₁) NoE s) :
    wpAny (MM w) A (eval (.ListComp elt [⟨target, iter, ifs, 0⟩] scope pos) env) Q NoE s := by
  rw [eval_ListComp]
  exact wpAny_comprehension_free (use := none) rfl hs hclos hkind hnames (wpAny_mono h (fun xv s₁ h₁ => wpAny_mono h₁ (fun it s₂ h₂ => h₂.out) fun _ _ e => e) fun _ _ e => e)
theorem r_compU {elt target iter : Expr} {ifs : List Expr} {y : Str} {py : Pos} {scope : Scope} {cl : List (Str × Addr)} {pos spos : Pos} {Q : Flow → Shared → Prop}
    (hsw : swapsWith (.ListComp elt [⟨target, iter, ifs, 0⟩] scope pos) (some (.Name y py)) spos.line env = pure true)
    (hclos : closureFor scope env = pure cl) (hkind : scope.kind = .function) (hnames : ∀ x ∈ scope.names, x.2 = .local → scope.names.lookup x.1 = some .local) (hs : ∀ x, foldedSetIterable iter env x = pure x)
    (h : wpAny (MM w) A (eval iter env) (fun xv s₁ => wpAny (MM w) A (pyIter xv) (fun it s₂ => CompAt w A env (.ListComp elt [⟨target, iter, ifs, 0⟩] scope pos) scope cl (some (assign (.Name y py) env)) it (fun _ s' => Q .next s') s₂) NoE s₁) NoE s) :
    wpAny (MM w) A (exec (.Assign [.Name y py] (.ListComp elt [⟨target, iter, ifs, 0⟩] scope pos) spos) env) Q NoE s := by
  rw [exec_Assign_Name_used _ _ _ _ hsw]
  refine wpAny_bind (wpAny_standAt (wpAny_bind ?_))
  show wpAny _ A (do let _ ← comprehension (.ListComp elt [⟨target, iter, ifs, 0⟩] scope pos) scope env _ (newList []) false (eval iter env) (some (assign (.Name y py) env))) _ _ s
  exact wpAny_bind (wpAny_mono (wpAny_comprehension_free (use := some (assign (.Name y py) env)) (Q := fun _ s' => Q .next s') rfl hs hclos hkind hnames
    (wpAny_mono h (fun xv s₁ h₁ => wpAny_mono h₁ (fun it s₂ h₂ => h₂.out) fun _ _ e => e) fun _ _ e => e)) (fun _ _ x => wpAny_pure (wpAny_pure x)) fun _ _ e => e)

theorem comp_run {β : Type} (Rl : Heap → Value → β → Prop) (hmono : ∀ g g' v b, g.StaysIn g' → Rl g v b → Rl g' v b) {elt target iter : Expr} {ifs : List Expr} {scope : Scope} {cl : List (Str × Addr)} {pos : Pos} {I : Addr} {use : Option (Value → Sem Unit)} {Q : Value → Shared → Prop}
    (names : List Str) (P : Nat → Obj → Prop) (nwF : Nat → Nw) (nwE : Nw) (N : Nat) (out : Nat → List β) (hN : N ≤ 1000) (hout : ∀ i, (out i).length ≤ i) (S : St w os g L fr ((I, P 0) :: nwF 0) s)
    (hcell : ∀ y ∈ scope.names, y.2 ≠ .cell) (hkind : scope.kind = .function) (hnd : names.Nodup)
    (hself : ∀ s (Q' : Value → Shared → Prop) (E : Value → Shared → Prop), At s.heap I (P 0) → Q' (.ref I) s → wpAny (MM w) A (pyIter (.ref I)) Q' E s)
    (turn : ∀ i g' C D ys frc cenv s, i < N → g.StaysIn g' → cenv = compEnvC scope cl C env → frc.map (·.1) = names → St w os g' C frc ((D, ListO ys) :: (I, P i) :: (L, NsO L fr) :: nwF i) s →
      ∀ (Cc : Value → Shared → Prop) (Bc : Shared → Prop), (∀ y s₄, (∃ g'' frc' b, g'.StaysIn g'' ∧ out (i + 1) = out i ++ [b] ∧ Rl g'' y b ∧ frc'.map (·.1) = names ∧ St w os g'' C frc' ((D, ListO ys) :: (I, P (i + 1)) :: (L, NsO L fr) :: nwF (i + 1)) s₄) → Cc y s₄) → (∀ s₃, (∃ g'' frc', g'.StaysIn g'' ∧ out (i + 1) = out i ∧ frc'.map (·.1) = names ∧ St w os g'' C frc' ((D, ListO ys) :: (I, P (i + 1)) :: (L, NsO L fr) :: nwF (i + 1)) s₃) → Bc s₃) →
      wpAny (MM w) A (pyNext (.ref I)) (fun r s₁ => match r with
        | none => False
        | some v => wpAny (MM w) A (letOwnedTupleGo target (.ref I) v) (fun _ s₂ => wpAny (MM w) A (assign target cenv v) (fun _ s₂ =>
            wpAny (MM w) A (forIn ifs true fun c r => if r = true then do let ok ← isTrue c cenv (eval c cenv); pure (ForInStep.yield ok) else pure (ForInStep.yield r)) (fun ok s₃ =>
              if ok = true then wpAny (MM w) A (eval elt cenv) (fun y s₄ => Hold (Cc y s₄)) NoE s₃
              else Hold (Bc s₃)) NoE s₂) NoE s₂) NoE s₁) NoE s)
    (last : ∀ g' C D ys frc s (Q' : Option Value → Shared → Prop), g.StaysIn g' → St w os g' C frc ((D, ListO ys) :: (I, P N) :: (L, NsO L fr) :: nwF N) s →
      (∀ s', St w os g' C frc ((D, ListO ys) :: (L, NsO L fr) :: nwE) s' → Q' none s') → wpAny (MM w) A (pyNext (.ref I)) Q' NoE s)
    (hpost : ∀ g' C D vs frc s', g.StaysIn g' → All2 (Rl g') vs (out N) → St w os g' C frc ((D, ListO vs) :: (L, NsO L fr) :: nwE) s' → compPost (MM w) A NoE use Q (.ref D) C (.ok .next) s') :
    CompAt w A env (.ListComp elt [⟨target, iter, ifs, 0⟩] scope pos) scope cl use (.ref I) Q s := by
  refine ⟨r_list S (Nat.zero_le _) fun D s₃ S₃ => ?_⟩
  refine wpAny_newFunctionEnv hcell (by intro y hy; simp at hy) (fun h₁ hns₁ hsb₁ => ?_) hkind
  have hC : s₃.heap.get? s₃.heap.objs.size = none := by
    cases q : s₃.heap.get? s₃.heap.objs.size with
    | none => rfl
    | some o => exact absurd (Heap.lt_size q) (Nat.lt_irrefl _)
  have S₄ := S₃.turnTo (s' := { s₃ with heap := h₁, toks := s₃.toks + ([] : List (Str × Value)).length }) (C := s₃.heap.objs.size) (frc := names.map fun x => (x, none))
    (fun b o e => hsb₁.extBut b o (Nat.ne_of_lt (Heap.lt_size e)) (Heap.get?_push_of_some _ e)) hC ⟨⟨_, hns₁, fun p hp => by obtain ⟨x, _, rfl⟩ := List.mem_map.mp hp; rfl⟩, by rw [List.map_map]; rw [show ((fun x : Str × Option Value => x.1) ∘ fun x => (x, none)) = id from rfl, List.map_id]; exact hnd⟩ rfl rfl
  have S₅ := S₄.perm (nw' := (D, ListO []) :: (I, P 0) :: (L, NsO L fr) :: nwF 0) ((List.Perm.swap _ _ _).trans ((List.Perm.swap _ _ _).cons _))
  generalize hs₅ : ({ s₃ with heap := h₁, toks := s₃.toks + ([] : List (Str × Value)).length } : Shared) = s₅ at S₅
  have loop : codeAny (MM w) A (.compLoop (.ListComp elt [⟨target, iter, ifs, 0⟩] scope pos) 0 (.ref I) (.ref D) (compEnvC scope cl s₃.heap.objs.size env)) (compPost (MM w) A NoE use Q (.ref D) s₃.heap.objs.size) s₅ := by
    refine m_comp N (fun i s => ∃ g' ys frc, g.StaysIn g' ∧ All2 (Rl g') ys (out i) ∧ frc.map (·.1) = names ∧ St w os g' s₃.heap.objs.size frc ((D, ListO ys) :: (I, P i) :: (L, NsO L fr) :: nwF i) s) ?_ ?_ s₅ ⟨g, [], _, fun _ _ e => e, ?_, by rw [List.map_map]; rw [show ((fun x : Str × Option Value => x.1) ∘ fun x => (x, none)) = id from rfl, List.map_id], S₅⟩
    · rintro i s hi ⟨g', ys, frc, hk, hys, hfr, S⟩
      refine wpAny_mono (turn i g' _ D ys frc _ s hi hk rfl hfr S _ _ (fun _ _ x => x) (fun _ x => x)) (fun r s₁ hr => ?_) fun _ _ x => x
      cases r with
      | none => exact hr
      | some v =>
        refine wpAny_mono hr (fun _ s₂ h₂ => wpAny_mono h₂ (fun _ s₂ h₂ => wpAny_mono h₂ (fun ok s₃ h₃ => ?_) fun _ _ x => x) fun _ _ x => x) fun _ _ x => x
        cases ok with
        | true =>
          rw [if_pos rfl] at h₃ ⊢
          refine wpAny_mono h₃ (fun y s₄ h₄ => ?_) fun _ _ x => x
          obtain ⟨⟨g'', frc', b, k, ho, hr, hf, S'⟩⟩ := h₄
          have hlen := hys.length
          have := hout i
          exact r_append S' .head (by lia) fun s₆ S₆ => ⟨g'', _, frc', fun b o e => k b o (hk b o e), by rw [ho]; exact (hys.mono fun _ _ x => hmono _ _ _ _ k x).append (.cons hr .nil), hf, S₆⟩
        | false =>
          rw [if_neg (by simp)] at h₃ ⊢
          obtain ⟨⟨g'', frc', k, ho, hf, S'⟩⟩ := h₃
          exact ⟨g'', ys, frc', fun b o e => k b o (hk b o e), by rw [ho]; exact hys.mono fun _ _ x => hmono _ _ _ _ k x, hf, S'⟩
    · rintro s ⟨g', ys, frc, hk, hys, hfr, S⟩
      exact last g' _ D ys frc s _ hk S fun s' S' => hpost g' _ D ys frc s' hk hys S'
    · have := hout 0
      cases q : out 0 with
      | nil => exact .nil
      | cons _ _ => rw [q] at this; simp at this
  show codeAny (MM w) A (.compStart (.ListComp elt [⟨target, iter, ifs, 0⟩] scope pos) 0 (.ref I) (.ref D) (compEnvC scope cl s₃.heap.objs.size env)) (compPost (MM w) A NoE use Q (.ref D) s₃.heap.objs.size) s₅
  exact codeAny_compStart_list loop (hself _ _ _ (S₅.mem (.tail _ (.head _))) loop)

theorem comp_run0 {β : Type} (Rl : Heap → Value → β → Prop) (hmono : ∀ g g' v b, g.StaysIn g' → Rl g v b → Rl g' v b) {elt target iter : Expr} {ifs : List Expr} {scope : Scope} {cl : List (Str × Addr)} {pos : Pos} {I : Addr} {use : Option (Value → Sem Unit)} {Q : Value → Shared → Prop}
    (names : List Str) (P : Nat → Obj → Prop) (N : Nat) (out : Nat → List β) (hN : N ≤ 1000) (hout : ∀ i, (out i).length ≤ i) (S : St w os g L fr ((I, P 0) :: nw) s)
    (hcell : ∀ y ∈ scope.names, y.2 ≠ .cell) (hkind : scope.kind = .function) (hnd : names.Nodup)
    (hself : ∀ s (Q' : Value → Shared → Prop) (E : Value → Shared → Prop), At s.heap I (P 0) → Q' (.ref I) s → wpAny (MM w) A (pyIter (.ref I)) Q' E s)
    (turn : ∀ i g' C D ys frc cenv s, i < N → g.StaysIn g' → cenv = compEnvC scope cl C env → frc.map (·.1) = names → St w os g' C frc ((D, ListO ys) :: (I, P i) :: (L, NsO L fr) :: nw) s →
      ∀ (Cc : Value → Shared → Prop) (Bc : Shared → Prop), (∀ y s₄, (∃ g'' frc' b, g'.StaysIn g'' ∧ out (i + 1) = out i ++ [b] ∧ Rl g'' y b ∧ frc'.map (·.1) = names ∧ St w os g'' C frc' ((D, ListO ys) :: (I, P (i + 1)) :: (L, NsO L fr) :: nw) s₄) → Cc y s₄) → (∀ s₃, (∃ g'' frc', g'.StaysIn g'' ∧ out (i + 1) = out i ∧ frc'.map (·.1) = names ∧ St w os g'' C frc' ((D, ListO ys) :: (I, P (i + 1)) :: (L, NsO L fr) :: nw) s₃) → Bc s₃) →
      wpAny (MM w) A (pyNext (.ref I)) (fun r s₁ => match r with
        | none => False
        | some v => wpAny (MM w) A (letOwnedTupleGo target (.ref I) v) (fun _ s₂ => wpAny (MM w) A (assign target cenv v) (fun _ s₂ =>
            wpAny (MM w) A (forIn ifs true fun c r => if r = true then do let ok ← isTrue c cenv (eval c cenv); pure (ForInStep.yield ok) else pure (ForInStep.yield r)) (fun ok s₃ =>
              if ok = true then wpAny (MM w) A (eval elt cenv) (fun y s₄ => Hold (Cc y s₄)) NoE s₃
              else Hold (Bc s₃)) NoE s₂) NoE s₂) NoE s₁) NoE s)
    (last : ∀ g' C D ys frc s (Q' : Option Value → Shared → Prop), g.StaysIn g' → St w os g' C frc ((D, ListO ys) :: (I, P N) :: (L, NsO L fr) :: nw) s →
      (∀ s', St w os g' C frc ((D, ListO ys) :: (L, NsO L fr) :: nw) s' → Q' none s') → wpAny (MM w) A (pyNext (.ref I)) Q' NoE s)
    (hpost : ∀ g' C D vs frc s', g.StaysIn g' → All2 (Rl g') vs (out N) → St w os g' C frc ((D, ListO vs) :: (L, NsO L fr) :: nw) s' → compPost (MM w) A NoE use Q (.ref D) C (.ok .next) s') :
    CompAt w A env (.ListComp elt [⟨target, iter, ifs, 0⟩] scope pos) scope cl use (.ref I) Q s :=
  comp_run Rl hmono names P (fun _ => nw) nw N out hN hout S hcell hkind hnd hself turn last hpost

theorem post_none {Q : Value → Shared → Prop} {D : Addr} {vs : List Value} {frc : Fm} (S : St w os g C frc ((D, ListO vs) :: (L, NsO L fr) :: nw) s)
    (fin : ∀ s', St w os g L fr ((D, ListO vs) :: nw) s' → Q (.ref D) s') : compPost (MM w) A NoE none Q (.ref D) C (.ok .next) s := by
  obtain ⟨m, hn, _⟩ := S.ns.ex
  refine ⟨m, hn, fun h' hs => fin _ ?_⟩
  have S1 := (S.perm (List.Perm.swap _ _ _)).turnBack
  exact S1.lose (s' := { s with heap := h' }) .head hs.extBut rfl rfl
theorem post_use {Q : Value → Shared → Prop} {D : Addr} {vs : List Value} {frc fr' : Fm} {y : Str} {py : Pos} (eF : EnvF env L) (hy : NmL env y) (S : St w os g C frc ((D, ListO vs) :: (L, NsO L fr) :: nw) s) (u : UpdF fr y (.ref D) fr')
    (fin : ∀ s', St w os g L fr' ((D, ListO vs) :: nw) s' → Q .none s') : compPost (MM w) A NoE (some (assign (.Name y py) env)) Q (.ref D) C (.ok .next) s := by
  have S1 := (S.perm (List.Perm.swap _ _ _)).turnBack
  refine wpAny_assign_Name (r_st eF S1 u (fun s' S' => ?_) hy)
  obtain ⟨m, hn, _⟩ := (S'.new _ (.head _)).1.ns.ex
  refine ⟨m, hn, fun h' hs => fin _ ?_⟩
  exact S'.lose (s' := { s' with heap := h' }) .head hs.extBut rfl rfl
end
noncomputable def EnvIsC (env : Env) (qual : Str) (scope : Scope) (L f : Addr) (cd : Value) : Prop := env = envOfC qual scope L f cd
theorem EnvIsC.facts {env : Env} {qual : Str} {scope : Scope} {L f : Addr} {cd : Value} (h : EnvIsC env qual scope L f cd) (hk : scope.kind = .function) (hi : interactive (envOfC qual scope L f cd) = false) : EnvF env L := by
  cases h; exact ⟨rfl, hk, rfl, rfl, hi⟩
/-- the cells' ledger at entry -/
noncomputable def cellNw (cm : Str → Option Value) (cs : List (Str × Addr)) : Nw := cs.map fun p => (p.2, CellO (cm p.1))
theorem compEnvF {env : Env} {L C : Addr} {scope : Scope} {cl : List (Str × Addr)} (eF : EnvF env L) (hk : scope.kind = .function) : EnvF (compEnvC scope cl C env) C :=
  ⟨rfl, by simp [compEnvC, relabel, hk], eF.globals, eF.builtins, by unfold interactive; simp [compEnvC, relabel, hk]⟩

section
variable {w : World} {os : OsState} {g : Heap} {L f : Addr} {fr : Fm} {nw : Nw} {s : Shared} {A : Around} {n : Nat} {qual : Str} {scope : Scope} {cd : Value}
theorem enterC {args : Args} {binds : List (Str × Value)} {name : Str} {params : Arguments} {body : List Stmt} {dV kV doc pm cdv ct oc : Value} {an od : Option Addr} {osl : Array (Option Value)} {R : Result → Shared → Prop}
    (hA : Ar A (n + 1)) (O : Ok w os s)
    (ho : (KK w).lookup f = some ⟨oc, od, .func (fnOf name qual params body scope dV kV doc pm an cdv ct), osl⟩) (hcd : codeIn (KK w) cdv qual = true)
    (hbind : BindsTo s (fnOf name qual params body scope dV kV doc pm an cdv ct) args binds)
    (hkind : ∀ n, ∀ x ∈ binds, scope.names.lookup x.1 = some .local ∨ (scope.names.lookup x.1 = some .cell ∧ ((cellsFrom n scope.names []).lookup x.1).isSome = true))
    (hnd : ((cellsFrom 0 scope.names []).map (·.1)).Nodup) (hco : scope.isCoroutine = false) (hgen : scope.isGenerator = false) (hk : scope.kind = .function)
    (hfr : ∀ L, ∀ p ∈ fr, bindL (envOfC qual scope L f cdv).kindOf binds (fun _ => none) p.1 = p.2) (hfd : (fr.map (·.1)).Nodup)
    (h : ∀ L s' A' env, EnvIsC env qual scope L f cdv → St w os s.heap L fr (cellNw (bindC (envOfC qual scope L f cdv).kindOf binds fun _ => none) (cellsFrom (L + 1) scope.names [])) s' → Ar A' n →
      wpAny (MM w) A' (execs body env) (fun fl s'' => R (.ok (.ret (retV fl))) s'') NoE s') :
    codeAny (MM w) A (.call (.ref f) args) R s := by
  obtain ⟨mg, mb, _, _, hlim, _⟩ := O.gd.top
  refine codeAny_call_function (fd := fnOf name qual params body scope dV kV doc pm an cdv ct) hA.room (O.gd.K _ _ ho) rfl hco hgen rfl (codeRec_of O.gd.K hcd) (hbind _ _ _ _ ?_)
  refine wpAny_newFunctionEnv_cells hk (hkind _) fun env' he s' x => ?_
  subst he
  refine ⟨hlim.keeps x.toInCall.keep, codeAny_func ?_⟩
  obtain ⟨h₁, tk, e, _⟩ := x.done
  have hL : ∀ c, s.heap.objs.size ≤ c → s.heap.get? c = none := fun c hc => by
    cases q : s.heap.get? c with
    | none => rfl
    | some o => exact absurd (Heap.lt_size q) (Nat.not_lt.mpr hc)
  have S : St w os s.heap s.heap.objs.size fr (cellNw (bindC (envOfC qual scope s.heap.objs.size f cdv).kindOf binds fun _ => none) (cellsFrom (s.heap.objs.size + 1) scope.names [])) s' := by
    refine ⟨O.gd, x.toInCall.keep, ⟨⟨_, x.toInCall.ns, hfr _⟩, hfd⟩, hL _ (Nat.le_refl _), fun p hp => ?_, ?_, by rw [e]; exact O.hos, by rw [e]; exact O.hgens⟩
    · obtain ⟨q, hq, rfl⟩ := List.mem_map.mp hp
      have hlt := x.above q.1 q.2 hq
      refine ⟨x.cell q.1 q.2 (lookup_of_mem_nodup (cellsFrom_names scope.names 0 (s.heap.objs.size + 1) [] [] rfl ▸ hnd) hq), hL _ (Nat.le_of_lt hlt), Nat.ne_of_gt hlt⟩
    · unfold cellNw
      rw [List.map_map]
      exact List.pairwise_map.mpr x.apart
  have := h s.heap.objs.size s' (A.deeper (envOfC qual scope s.heap.objs.size f cdv)) _ rfl S hA.deeper
  exact wpAny_mono this (fun fl _ x => by cases fl <;> exact x) fun _ _ x => x.elim
end
local macro_rules | `(tactic| walk_at "eval Name") => `(tactic| (refine' r_ldc ?e ?l ?v ?_; (case l => with_reducible assumption); (case e => with_reducible assumption); (case v => k_dflt (walk_at "m_at"))))
local macro_rules | `(tactic| walk_at "eval Name") => `(tactic| (refine' r_ldf ?e ?l ?v ?_; (case l => with_reducible assumption); (case e => with_reducible assumption); (case v => k_dflt (walk_at "m_at"))))
local macro_rules | `(tactic| walk_at "storeName") => `(tactic| (refine' r_stc ?e ?l ?S ?u ?_; (case l => with_reducible assumption); (case e => with_reducible assumption); (case S => with_reducible assumption); (case u => k_dflt (walk_at "m_updn")); intro s' S'))
open PySem.SeqAt

noncomputable def gt2 (a b : Int × Int) : Bool := if a.1 = b.1 then (if a.2 = b.2 then false else decide (a.2 > b.2)) else decide (a.1 > b.1)
theorem rc_eq_int {prog : Program} {w : World} {A : Around} {E : Value → Shared → Prop} {s : Shared} {a b : Int} {t u : Tok} {Q : Value → Shared → Prop} (h : Q (.bool (a == b)) s) : wpAny (model prog w) A (richCompare .Eq (.int a t) (.int b u)) Q E s :=
  richCompare_gives (op := .Eq) (typeIs_int s _ t) (typeIs_int s _ u) F.slot_int_eq F.entry_int_eq (F.args_int_eq_2 _ _) (gives_int_eq _ _ t u) (fun x => nomatch x) h
theorem rc_gt_int {prog : Program} {w : World} {A : Around} {E : Value → Shared → Prop} {s : Shared} {a b : Int} {t u : Tok} {Q : Value → Shared → Prop} (h : Q (.bool (decide (a > b))) s) : wpAny (model prog w) A (richCompare .Gt (.int a t) (.int b u)) Q E s :=
  richCompare_gives (op := .Gt) (typeIs_int s _ t) (typeIs_int s _ u) F.slot_int_gt F.entry_int_gt (F.args_int_gt_2 _ _) (gives_int_gt _ _ t u) (fun x => nomatch x) h
set_option maxHeartbeats 8000000 in
theorem tuple_gt2 (l b : Addr) (x y : Int × Int) (t1 t2 u1 u2 : Tok) (n n2 : Nat) :
    Meets (Builtin.«tuple.__gt__» ⟨[.ref l, .ref b], []⟩)
      (fun A R s => s.heap.get? l = some { cls := .type "tuple", data := .seq #[.int x.1 t1, .int x.2 t2] n } ∧ s.heap.get? b = some { cls := .type "tuple", data := .seq #[.int y.1 u1, .int y.2 u2] n2 } ∧
        R (.ok (.ret (.bool (gt2 x y)))) s) :=
  .of_wp fun prog w A R s h => by
    obtain ⟨hp, g, d, tk, os⟩ := s; obtain ⟨hl, hb, h⟩ := h
    have f2 := AutoSeq1.sub_tuple_tuple
    wp_walk using wpAny_loadPart' hl, wpAny_loadPart' hb
    obtain ⟨x1, x2⟩ := x
    obtain ⟨y1, y2⟩ := y
    have second : x1 = y1 → gt2 (x1, x2) (y1, y2) = (if x2 = y2 then false else decide (x2 > y2)) := fun e => by unfold gt2; rw [if_pos e]
    refine wpAny_ite_split (fun hab => ?_) (fun hab => ?_)
    · have e : x1 = y1 := by have := eq_of_beq hab; injection this
      have hg := second e
      refine wpAny_bind (wpAny_rule (wpAny_pure ?_))
      wp_walk
      refine wpAny_ite_split (fun hab => ?_) (fun hab => ?_)
      · have e2 : x2 = y2 := by have := eq_of_beq hab; injection this
        rw [hg, if_pos e2] at h
        refine wpAny_bind (wpAny_rule (wpAny_pure ?_))
        wp_walk
        exact ⟨_, rfl, h⟩
      · dsimp only
        refine wpAny_bind (rc_eq_int (wpAny_truthy_bool ?_))
        cases hb2 : x2 == y2 with
        | true =>
          rw [hg, if_pos (eq_of_beq hb2)] at h
          wp_walk
          exact ⟨_, rfl, h⟩
        | false =>
          rw [hg, if_neg (by simpa using hb2)] at h
          wp_walk using rc_gt_int
          exact ⟨_, rfl, h⟩
    · dsimp only
      refine wpAny_bind (rc_eq_int (wpAny_truthy_bool ?_))
      cases hb1 : x1 == y1 with
      | true =>
        have hg := second (eq_of_beq hb1)
        wp_walk
        refine wpAny_ite_split (fun hab => ?_) (fun hab => ?_)
        · have e2 : x2 = y2 := by have := eq_of_beq hab; injection this
          rw [hg, if_pos e2] at h
          refine wpAny_bind (wpAny_rule (wpAny_pure ?_))
          wp_walk
          exact ⟨_, rfl, h⟩
        · dsimp only
          refine wpAny_bind (rc_eq_int (wpAny_truthy_bool ?_))
          cases hb2 : x2 == y2 with
          | true =>
            rw [hg, if_pos (eq_of_beq hb2)] at h
            wp_walk
            exact ⟨_, rfl, h⟩
          | false =>
            rw [hg, if_neg (by simpa using hb2)] at h
            wp_walk using rc_gt_int
            exact ⟨_, rfl, h⟩
      | false =>
        have hg : gt2 (x1, x2) (y1, y2) = decide (x1 > y1) := by unfold gt2; rw [if_neg (by simpa using hb1)]
        rw [hg] at h
        wp_walk using rc_gt_int
        exact ⟨_, rfl, h⟩
abbrev K2 := Int × Int
noncomputable def V2 (g : Heap) (v : Value) (r : K2) : Prop := ∃ p t1 t2, v = .ref p ∧ At g p (TupO [.int r.1 t1, .int r.2 t2])
theorem V2.mono {g g' : Heap} (k : g.StaysIn g') {v : Value} {r : K2} (x : V2 g v r) : V2 g' v r := let ⟨p, t1, t2, e, h⟩ := x; ⟨p, t1, t2, e, h.keeps fun o z => k _ o z⟩
theorem gt_tup {prog : Program} {w : World} {A : Around} {E : Value → Shared → Prop} {s : Shared} {v u : Value} {a b : K2} {Q : Value → Shared → Prop} (hv : V2 s.heap v a) (hu : V2 s.heap u b) (hr : A.units < cLine) (h : Q (.bool (gt2 a b)) s) :
    wpAny (model prog w) A (richCompare .Gt v u) Q E s := by
  obtain ⟨p, t1, t2, rfl, o, e, n, rfl⟩ := hv
  obtain ⟨q, u1, u2, rfl, o', e', n', rfl⟩ := hu
  exact richCompare_meets_room (op := .Gt) ⟨_, e, rfl⟩ ⟨_, e', rfl⟩ F.slot_tuple_gt F.entry_tuple_gt (F.args_tuple_gt_2 _ _) (tuple_gt2 p q a b t1 t2 u1 u2 n n')
    ⟨e, e', show Value.bool (gt2 a b) ≠ Value.notImplemented ∧ Q (.bool (gt2 a b)) s from ⟨(fun x => nomatch x), h⟩⟩ hr

/-- the greatest so far -/
noncomputable def best (b : K2) : List K2 → K2
  | [] => b
  | c :: r => best (if gt2 c b then c else b) r
section
variable {w : World} {os : OsState} {g : Heap} {L : Addr} {fr : Fm} {nw : Nw} {s : Shared} {A : Around} {n : Nat} {R : Result → Shared → Prop}
theorem Ar.in1 {A : Around} {n : Nat} (x : Ar A (n + 1)) : Ar A.in1 n := ⟨x.handled, by have := x.depth; show A.depth + n ≤ 900; lia, by have := x.units; show A.units + 1 + 8 * n ≤ 9000; lia⟩
theorem r_upSeq {S : Addr} {vs vs' : List Value} {nw' : Nw} {f : Array Value → Array Value} {Q : Unit → Shared → Prop} (hS : St w os g L fr nw s) (u : UpdN nw S (ListO vs) (ListO vs') nw') (hf : f vs.toArray = vs'.toArray) (h1 : vs.length ≤ 1000) (h2 : vs'.length ≤ 1000)
    (h : ∀ s', St w os g L fr nw' s' → Q () s') : wpAny (MM w) A (updateSeq S f) Q NoE s := by
  obtain ⟨j, hj, _⟩ := u.is
  obtain ⟨o, e, k, rfl⟩ := hS.at j hj
  refine wpAny_updateSeq e rfl (h _ (hS.upd (s' := { s with heap := _ }) u ?_ (Heap.SameBut.update ..).extBut rfl rfl)) (by rw [List.size_toArray, sizeLine_eq]; lia) (by rw [hf, List.size_toArray, sizeLine_eq]; lia)
  exact ⟨_, Heap.get?_update_self (Obj.mapSeq f) e rfl, _, by rw [← hf]; rfl⟩

theorem max_loop {l I S : Addr} {vs : List Value} {ks : List K2} (hA : Ar A (n + 2)) (hl : ∀ s : Shared, g.StaysIn s.heap → s.heap.IsList l vs.toArray) (hv : All2 (V2 g) vs ks) :
    ∀ (k j : Nat) (s : Shared) (vb : Value) (b : K2), vs.length - (j + 1) = k → j + 1 ≤ vs.length → St w os g L fr ((S, ListO [vb, vb]) :: (I, LIterO l (j + 1)) :: nw) s → V2 g vb b →
    (∀ v s', V2 g v (best b (ks.drop (j + 1))) → St w os g L fr nw s' → R (.ok (.ret v)) s') →
    codeAny (MM w) A (.builtin "max.loop" ⟨[.ref I, .none, .ref S], []⟩) R s := by
  have hname : (toString "max" ++ toString ".loop" : String) = "max.loop" := by decide
  intro k
  induction k with
  | zero =>
    intro j s vb b hk hj hst hb hR
    have hin : j + 1 = vs.length := by lia
    obtain ⟨o, e, c, rfl⟩ := hst.mem (.head _)
    refine codeAny_builtin F.entry_max_loop ?_
    rw [Around.under_plainId F.plain_max_loop _]
    show wpAny _ A.in1 (seqItems? (.ref S) >>= _) _ _ s
    refine wpAny_bind (wpAny_seqItems e rfl ?_)
    show wpAny _ A.in1 (tryCatch (pyNext (.ref I)) _ >>= _) _ _ s
    refine wpAny_bind (wpAny_tryCatch ?_)
    refine wpAny_mono (r_end_list (Q := fun r s' => r = none ∧ St w os g L fr ((S, ListO [vb, vb]) :: nw) s') hA.in1 hst (.tail .head) (hl s hst.keep) (by rw [hin]; simp) fun s' S' => ⟨rfl, S'⟩) (fun r s₁ x => ?_) fun _ _ x => x.elim
    obtain ⟨rfl, S₁⟩ := x
    show wpAny _ A.in1 (updateSeq S (fun _ => #[]) >>= _) _ _ _
    refine wpAny_bind (wpAny_mono (r_upSeq (Q := fun _ s' => St w os g L fr ((S, ListO []) :: nw) s') S₁ .head rfl (by simp) (by simp) fun s' S' => S') (fun _ s₂ S₂ => ?_) fun _ _ x => x.elim)
    refine wpAny_bind (wpAny_letGo (wpAny_pure ?_))
    refine hR vb s₂ ?_ S₂.drop
    rw [List.drop_of_length_le (by rw [← hv.length]; lia)]
    exact hb
  | succ k ih =>
    intro j s vb b hk hj hst hb hR
    have hlt : j + 1 < vs.length := by lia
    obtain ⟨v, hvv, hvk⟩ : ∃ v, vs[j + 1]? = some v ∧ True := ⟨_, List.getElem?_eq_getElem hlt, trivial⟩
    obtain ⟨c, hc, hV⟩ := hv.get' hvv
    have hdrop : ks.drop (j + 1) = c :: ks.drop (j + 1 + 1) := by
      have hlt' : j + 1 < ks.length := (List.getElem?_eq_some_iff.mp hc).1
      rw [List.drop_eq_getElem_cons hlt']; rw [List.getElem?_eq_getElem hlt'] at hc; cases hc; rfl
    rw [hdrop] at hR
    obtain ⟨o, e, cc, rfl⟩ := hst.mem (.head _)
    refine codeAny_builtin F.entry_max_loop ?_
    rw [Around.under_plainId F.plain_max_loop _]
    show wpAny _ A.in1 (seqItems? (.ref S) >>= _) _ _ s
    refine wpAny_bind (wpAny_seqItems e rfl ?_)
    show wpAny _ A.in1 (tryCatch (pyNext (.ref I)) _ >>= _) _ _ s
    refine wpAny_bind (wpAny_tryCatch ?_)
    refine wpAny_mono (r_next_list (Q := fun r s' => r = some v ∧ St w os g L fr ((S, ListO [vb, vb]) :: (I, LIterO l (j + 1 + 1)) :: nw) s') hst (.tail .head) (hl s hst.keep) hvv fun s' S' => ⟨rfl, S'⟩) (fun r s₁ x => ?_) fun _ _ x => x.elim
    obtain ⟨rfl, S₁⟩ := x
    show wpAny _ A.in1 (tryCatch (holding [v, v] (richCompare .Gt v vb >>= _)) _ >>= _) _ _ _
    refine wpAny_bind (wpAny_tryCatch (wpAny_holding (wpAny_bind (gt_tup (hV.mono S₁.keep) (hb.mono S₁.keep) (Ar.cl (Ar.in1 hA)) ?_))))
    refine wpAny_bind (wpAny_holding (wpAny_truthy_bool ?_))
    refine wpAny_bind (wpAny_letGo (wpAny_pure ?_))
    cases hbt : gt2 c b with
    | true =>
      simp only [if_true]
      refine wpAny_bind (wpAny_mono (r_upSeq (Q := fun _ s' => St w os g L fr ((S, ListO [v, v]) :: (I, LIterO l (j + 1 + 1)) :: nw) s') S₁ .head rfl (by simp) (by simp) fun s' S' => S') (fun _ s₂ S₂ => ?_) fun _ _ x => x.elim)
      refine wpAny_bind (wpAny_letGo ?_)
      rw [hname]
      refine wpAny_pure ⟨plainId_quiet F.plain_max_loop _, ih (j + 1) _ v c (by lia) (by lia) S₂ hV fun v' s' hv' S' => hR v' s' ?_ S'⟩
      show V2 g v' (best (if gt2 c b then c else b) _)
      rw [hbt]; exact hv'
    | false =>
      simp only [Bool.false_eq_true, if_false]
      refine wpAny_bind (wpAny_letGo ?_)
      rw [hname]
      refine wpAny_pure ⟨plainId_quiet F.plain_max_loop _, ih (j + 1) _ vb b (by lia) (by lia) S₁ hb fun v' s' hv' S' => hR v' s' ?_ S'⟩
      show V2 g v' (best (if gt2 c b then c else b) _)
      rw [hbt]; exact hv'
theorem max_first {l I S : Addr} {vs : List Value} {k0 : K2} {ks : List K2} {s : Shared} (hA : Ar A (n + 2)) (hl : ∀ s : Shared, g.StaysIn s.heap → s.heap.IsList l vs.toArray) (hv : All2 (V2 g) vs (k0 :: ks))
    (hst : St w os g L fr ((S, ListO []) :: (I, LIterO l 0) :: nw) s)
    (hR : ∀ v s', V2 g v (best k0 ks) → St w os g L fr nw s' → R (.ok (.ret v)) s') :
    codeAny (MM w) A (.builtin "max.loop" ⟨[.ref I, .none, .ref S], []⟩) R s := by
  have hname : (toString "max" ++ toString ".loop" : String) = "max.loop" := by decide
  obtain ⟨o, e, cc, rfl⟩ := hst.mem (.head _)
  obtain ⟨v, hvv, hV⟩ := hv.get (i := 0) (b := k0) rfl
  have hlen := hv.length
  refine codeAny_builtin F.entry_max_loop ?_
  rw [Around.under_plainId F.plain_max_loop _]
  show wpAny _ A.in1 (seqItems? (.ref S) >>= _) _ _ s
  refine wpAny_bind (wpAny_seqItems e rfl ?_)
  show wpAny _ A.in1 (tryCatch (pyNext (.ref I)) _ >>= _) _ _ s
  refine wpAny_bind (wpAny_tryCatch ?_)
  refine wpAny_mono (r_next_list (Q := fun r s' => r = some v ∧ St w os g L fr ((S, ListO []) :: (I, LIterO l (0 + 1)) :: nw) s') hst (.tail .head) (hl s hst.keep) hvv fun s' S' => ⟨rfl, S'⟩) (fun r s₁ x => ?_) fun _ _ x => x.elim
  obtain ⟨rfl, S₁⟩ := x
  show wpAny _ A.in1 (updateSeq S (fun _ => #[v, v]) >>= _) _ _ _
  refine wpAny_bind (wpAny_mono (r_upSeq (Q := fun _ s' => St w os g L fr ((S, ListO [v, v]) :: (I, LIterO l (0 + 1)) :: nw) s') S₁ .head rfl (by simp) (by simp) fun s' S' => S') (fun _ s₂ S₂ => ?_) fun _ _ x => x.elim)
  rw [hname]
  exact wpAny_pure ⟨plainId_quiet F.plain_max_loop _, max_loop hA hl hv _ 0 _ v k0 rfl (by simp at hlen; lia) S₂ hV fun v' s' hv' S' => hR v' s' hv' S'⟩

theorem r_maxT {l : Addr} {vs : List Value} {k0 : K2} {ks : List K2} {Q : Value → Shared → Prop} (hA : Ar A (n + 3)) (S : St w os g L fr nw s) (hl : At g l (ListO vs)) (hv : All2 (V2 g) vs (k0 :: ks))
    (h : ∀ v s', V2 g v (best k0 ks) → St w os g L fr nw s' → Q v s') : wpAny (MM w) A (call (.builtin "max") [.ref l]) Q NoE s := by
  have hname : (toString "max" ++ toString ".loop" : String) = "max.loop" := by decide
  have hl' : ∀ s : Shared, g.StaysIn s.heap → s.heap.IsList l vs.toArray := fun s k => (hl.keeps fun o e => k _ o e).isList
  refine call_function_tree F.kind_max F.plain_max F.entry_max (F.args_max1 _) ?_
  show wpAny _ A.in1 (Builtin.Builtins.bindParams "max" ["key", "default"] 0 ⟨[], []⟩ >>= _) _ _ s
  refine wpAny_bind (wpAny_of_eq (show Builtin.Builtins.bindParams "max" ["key", "default"] 0 ⟨[], []⟩ = pure [none, none] from rfl) ?_)
  refine wpAny_bind (wpAny_pure ?_)
  refine wpAny_bind (wpAny_mono (r_iter_list (Q := fun it s' => ∃ I, it = .ref I ∧ St w os g L fr ((I, LIterO l 0) :: nw) s') S (hl' s S.keep) fun it s' S' => ⟨it, rfl, S'⟩) (fun it s₂ x => ?_) fun _ _ e => e.elim)
  obtain ⟨I, rfl, S₂⟩ := x
  refine wpAny_bind (wpAny_newObj_type ?_)
  have S₃ := S₂.alloc (s' := { s₂ with heap := s₂.heap.push { cls := .type "list", data := .seq #[] } }) (P := ListO []) rfl ⟨0, rfl⟩ rfl rfl rfl
  rw [hname]
  exact wpAny_pure ⟨plainId_quiet F.plain_max_loop _, max_first (n := n + 1) hA hl' hv S₃ fun v s' hv' S' => h v s' hv' S'⟩
end
section
variable {w : World} {os : OsState} {g : Heap} {L : Addr} {fr : Fm} {nw : Nw} {s : Shared} {A : Around} {n : Nat} {Q : Value → Shared → Prop}

/-- two values that tell the same data are not unequal -/
theorem r_neSame {a b : Value} {d : PyData} {as bs : List Addr} (hA : Ar A n) (ra : Reads s.heap a d as) (rb : Reads s.heap b d bs) (hs : shaped d = true) (h : Q (.bool false) s) :
    wpAny (MM w) A (compareOp .NotEq a b) Q NoE s := by
  refine ne_dataH ra rb hs hs (by have := hA.units; show A.units + 64 < 9900; lia) ?_
  rw [eqv_refl _ (canLay_of_shaped hs)]; exact h

theorem reads_ints {h : Heap} {vs : List Value} {ns : List Int} (hv : All2 VI vs ns) : ∃ as, ReadsAll h vs (ns.map .int) as := by
  induction hv with
  | nil => exact ⟨_, .nil⟩
  | cons x _ ih => obtain ⟨t, rfl⟩ := x; obtain ⟨as, r⟩ := ih; exact ⟨_, .cons (.int _ t) r⟩
theorem reads_list {h : Heap} {q : Addr} {vs : List Value} {ns : List Int} (x : At h q (ListO vs)) (hv : All2 VI vs ns) : ∃ as, Reads h (.ref q) (.list (ns.map .int)) as := by
  obtain ⟨o, e, n, rfl⟩ := x
  obtain ⟨as, r⟩ := reads_ints (h := h) hv
  exact ⟨_, .list e rfl rfl r⟩
theorem reads_v2 {h : Heap} {v : Value} {k : K2} (x : V2 h v k) : ∃ as, Reads h v (.tuple [.int k.1, .int k.2]) as := by
  obtain ⟨p, t1, t2, rfl, o, e, n, rfl⟩ := x
  exact ⟨_, .tuple e rfl rfl (.cons (.int _ _) (.cons (.int _ _) .nil))⟩
theorem reads_v3 {h : Heap} {v : Value} {k : Row3} (x : V3 h v k) : ∃ as, Reads h v (.tuple [.int k.1, .int k.2.1, .int k.2.2]) as := by
  obtain ⟨p, t1, t2, t3, rfl, o, e, n, rfl⟩ := x
  exact ⟨_, .tuple e rfl rfl (.cons (.int _ _) (.cons (.int _ _) (.cons (.int _ _) .nil)))⟩
theorem reads_rowsA {h : Heap} {vs : List Value} {rows : List Row3} (hv : All2 (V3 h) vs rows) : ∃ as, ReadsAll h vs (rows.map fun k => .tuple [.int k.1, .int k.2.1, .int k.2.2]) as := by
  induction hv with
  | nil => exact ⟨_, .nil⟩
  | cons x _ ih => obtain ⟨as, r⟩ := ih; obtain ⟨bs, r'⟩ := reads_v3 x; exact ⟨_, .cons r' r⟩
theorem reads_rows {h : Heap} {q : Addr} {rows : List Row3} (x : RowsAt h q rows) : ∃ as, Reads h (.ref q) (.list (rows.map fun k => .tuple [.int k.1, .int k.2.1, .int k.2.2])) as := by
  obtain ⟨vs, ⟨o, e, n, rfl⟩, hv⟩ := x
  obtain ⟨as, r⟩ := reads_rowsA hv
  exact ⟨_, .list e rfl rfl r⟩
theorem shaped_ints (ns : List Int) : shaped (.list (ns.map .int)) = true := by
  have h1 : PyData.canLayAll0 (ns.map .int) = true := by
    induction ns with
    | nil => rfl
    | cons a r ih => simp [PyData.canLayAll0, PyData.canLay0, ih]
  have h2 : PyData.depthAll (ns.map .int) ≤ 1 := by
    induction ns with
    | nil => simp [PyData.depthAll]
    | cons a r ih => have := ih (by simpa [PyData.canLayAll0, PyData.canLay0] using h1); simp [PyData.depthAll, PyData.depth]; lia
  unfold shaped
  simp [PyData.canLay0, PyData.depth, h1]
  lia
theorem shaped_rows (rows : List Row3) : shaped (.list (rows.map fun k => .tuple [.int k.1, .int k.2.1, .int k.2.2])) = true := by
  have h1 : PyData.canLayAll0 (rows.map fun k => .tuple [.int k.1, .int k.2.1, .int k.2.2]) = true := by
    induction rows with
    | nil => rfl
    | cons a r ih => simp [PyData.canLayAll0, PyData.canLay0] at ih ⊢; exact ih
  have h2 : PyData.depthAll (rows.map fun k => .tuple [.int k.1, .int k.2.1, .int k.2.2]) ≤ 10 := by
    induction rows with
    | nil => simp [PyData.depthAll]
    | cons a r ih => have := ih (by simpa [PyData.canLayAll0, PyData.canLay0] using h1); simp [PyData.depthAll, PyData.depth]; lia
  unfold shaped
  simp [PyData.canLay0, PyData.depth, h1]
  lia
theorem shaped_pair (a b : Int) : shaped (.tuple [.int a, .int b]) = true := by
  simp [shaped, PyData.canLay0, PyData.canLayAll0, PyData.depth, PyData.depthAll]
end
noncomputable def VT (g : Heap) (v : Value) (e : Ent) : Prop := ∃ a t u, v = .ref a ∧ At g a (TupO [.str (tx e.1) t, .int e.2 u])
theorem VT.mono {g g' : Heap} (k : g.StaysIn g') {v : Value} {e : Ent} (x : VT g v e) : VT g' v e := let ⟨a, t, u, e1, h⟩ := x; ⟨a, t, u, e1, h.keeps fun o z => k a o z⟩
/-- what fits at a place, as _law_longest gathers it -/
noncomputable def fitB (T : List Nat) (here : Nat) (e : Ent) : Bool := decide ((T.take (here + e.1.length)).drop here = e.1)
noncomputable def fitsOf (T : List Nat) (here : Nat) (book : List Ent) : List K2 := (book.filter (fitB T here)).map fun e => ((e.1.length : Int), e.2)
noncomputable def bookAt (T : List Nat) (ps : List Nat) (step : Nat) : List Ent := book0 ++ (List.range step).map fun j => ((T.take (ps.getD (j + 1) 0 + 1)).drop (ps.getD j 0), 256 + (j : Int))
structure LongStep (T : List Nat) (codes : List Int) (ps : List Nat) (step : Nat) : Prop where
  c : ∃ c, codes[step]? = some c ∧ best (0, 0) (fitsOf T (ps.getD step 0) (bookAt T ps step)) = ((ps.getD (step + 1) 0 : Int) - (ps.getD step 0 : Nat), c) ∧ decide (256 ≤ c) = decide ((ps.getD (step + 1) 0 : Int) - (ps.getD step 0 : Nat) > 1)
theorem bookAt_len {T : List Nat} {ps : List Nat} {i : Nat} {e : Ent} (h : e ∈ bookAt T ps i) : e.1.length ≤ T.length + 1 := by
  unfold bookAt at h
  rcases List.mem_append.mp h with h | h
  · simp only [book0, List.mem_cons, List.not_mem_nil, or_false] at h
    rcases h with rfl | rfl <;> simp
  · obtain ⟨j, _, rfl⟩ := List.mem_map.mp h
    simp only [List.length_drop, List.length_take]; lia
theorem fm1 {fr : Fm} {a : Str} (h : fr.map (·.1) = [a]) : ∃ o, fr = [(a, o)] := by
  match fr, h with
  | [(_, o)], h => simp only [List.map_cons, List.map_nil, List.cons.injEq, and_true] at h; subst h; exact ⟨o, rfl⟩
theorem fm2 {fr : Fm} {a b : Str} (h : fr.map (·.1) = [a, b]) : ∃ o p, fr = [(a, o), (b, p)] := by
  match fr, h with
  | [(_, o), (_, p)], h => simp only [List.map_cons, List.map_nil, List.cons.injEq, and_true] at h; obtain ⟨rfl, rfl⟩ := h; exact ⟨o, p, rfl⟩
section
variable {w : World} {os : OsState} {s : Shared} {A : Around} {n : Nat} {R : Result → Shared → Prop}
set_option maxHeartbeats 8000000 in
theorem longestlaw_ok {T : List Nat} {codes : List Int} {ps : List Nat} {cl pl : Addr} {t3 : Tok} (hA : Ar A (n + 5)) (O : Ok w os s) (hT : T.length ≤ 900) (hc : At s.heap cl (IntsO codes)) (hp : At s.heap pl (IntsO (ps.map fun p : Nat => (p : Int))))
    (hcl : codes.length ≤ 1000) (hpl : ps.length ≤ 900) (hpb : ∀ p ∈ ps, p ≤ 900) (hstep : ∀ i, i + 1 < ps.length → LongStep T codes ps i) (hne : 0 < ps.length)
    (h : ∀ s', Ok w os s' → s.heap.StaysIn s'.heap → R (.ok (.ret (.bool true))) s') :
    codeAny (MM w) A (.call (.ref 168) ⟨[.str (tx T) t3, .ref cl, .ref pl], []⟩) R s := by
  obtain ⟨o1, ho1, cvs, hl1, hcv⟩ := hc
  obtain ⟨o2, ho2, pvs, hl2, hpv⟩ := hp
  have hc : At s.heap cl (ListO cvs) := ⟨o1, ho1, hl1⟩
  have hp : At s.heap pl (ListO pvs) := ⟨o2, ho2, hl2⟩
  refine' enterC (fr := [(Str.ofString "codes", some (.ref cl)), (Str.ofString "places", some (.ref pl)), (Str.ofString "book", none), (Str.ofString "step", none), (Str.ofString "there", none), (Str.ofString "fits", none)]) (binds := [(Str.ofString "text", .str (tx T) t3), (Str.ofString "codes", .ref cl), (Str.ofString "places", .ref pl)]) hA O rfl ?cd (BindsTo.of_eq rfl) ?kd ?cn rfl rfl rfl ?fr ?nd ?_
  case cd => kernel_rfl
  case kd => intro n x hx; simp only [List.mem_cons, List.not_mem_nil, or_false] at hx; rcases hx with rfl | rfl | rfl <;> first | exact .inl rfl | exact .inr ⟨rfl, rfl⟩
  case cn => decide +kernel
  case fr => intro L; walk_at "m_all"
  case nd => walk_at "m_nd"
  intro L s' A' env he S hA'
  have S0 : St w os s.heap L _ [(L + 1 + 1, CellO none), (L + 1, CellO (some (.str (tx T) t3)))] s' := S
  clear S
  have eF := he.facts rfl rfl
  have n0 : NmC env (Str.ofString "text") (L + 1) := ⟨by rw [he]; rfl, by rw [he]; rfl, rfl⟩
  have n1 : NmC env (Str.ofString "here") (L + 1 + 1) := ⟨by rw [he]; rfl, by rw [he]; rfl, rfl⟩
  have n2 : NmL env (Str.ofString "codes") := ⟨by rw [he]; rfl, rfl⟩
  have n3 : NmL env (Str.ofString "places") := ⟨by rw [he]; rfl, rfl⟩
  have n4 : NmL env (Str.ofString "book") := ⟨by rw [he]; rfl, rfl⟩
  have n5 : NmL env (Str.ofString "step") := ⟨by rw [he]; rfl, rfl⟩
  have n6 : NmL env (Str.ofString "there") := ⟨by rw [he]; rfl, rfl⟩
  have n7 : NmL env (Str.ofString "fits") := ⟨by rw [he]; rfl, rfl⟩
  have n8 : NmV w env (Str.ofString "len") (.builtin "len") := nm_bi eF (by rw [he]; rfl) (by kernel_rfl) rfl (by decide) rfl
  have n9 : NmV w env (Str.ofString "range") (.type "range") := nm_bi eF (by rw [he]; rfl) (by kernel_rfl) rfl (by decide) rfl
  have n10 : NmV w env (Str.ofString "max") (.builtin "max") := nm_bi eF (by rw [he]; rfl) (by kernel_rfl) rfl (by decide) rfl
  have n11 : NmV w env (Str.ofString "ISNONTERMINAL") (.ref 128) := nm_glob eF (by rw [he]; rfl) (by kernel_rfl) rfl
  have hpl' : pvs.length = ps.length := by rw [hpv.length, List.length_map]
  repeat' walk1
  rename_i it s1 S1
  have e9 : Str.ofString "\t" = tx [9] := by decide +kernel
  have e32 : Str.ofString " " = tx [32] := by decide +kernel
  rw [e9, e32] at S1
  obtain ⟨g1, k1, hb1, S2⟩ := S1.freezeD (.tail (.tail (.tail .head)))
  obtain ⟨g2, k2, hb2, S3⟩ := S2.freezeD (.tail (.tail (.tail .head)))
  have S4 := S3.del (.tail .head)
  have hN : max 0 ((pvs.length : Int) - 1 - 0) = ((ps.length - 1 - 0 : Nat) : Int) := by lia
  rw [hN] at S4
  refine m_for (ps.length - 1)
    (fun i s2 => ∃ g' bk bvals o1 o2 o3 o4, s.heap.StaysIn g' ∧ All2 (VT g') bvals (bookAt T ps i) ∧ St w os g' L [(Str.ofString "codes", some (.ref cl)), (Str.ofString "places", some (.ref pl)), (Str.ofString "book", some (.ref bk)), (Str.ofString "step", o1), (Str.ofString "there", o2), (Str.ofString "fits", o3)]
      [(it, RIterO ((i : Nat) : Int) ((ps.length - 1 - i : Nat) : Int) 1), (bk, ListO bvals), (L + 1 + 1, CellO o4), (L + 1, CellO (some (.str (tx T) t3)))] s2)
    (fun s2 => ∃ g' fr' nw', s.heap.StaysIn g' ∧ St w os g' L fr' nw' s2) ?turn ?last ?fin 0 (Nat.zero_le _) ?init
  case init =>
    exact ⟨g2, _, _, _, _, _, _, fun b o e => k2 b o (k1 b o e), .cons ⟨_, _, _, rfl, hb2⟩ (.cons ⟨_, _, _, rfl, hb1.keeps fun o e => k2 _ o e⟩ .nil), S4⟩
  case last =>
    rintro s2 ⟨g', bk, bvals, o1, o2, o3, o4, hk, hb, S5⟩
    exact r_end_range hA' S5 .head (by lia) fun s3 S6 => ⟨⟨g', _, _, hk, S6⟩⟩
  case fin =>
    rintro s2 ⟨g', fr', nw', hk, S5⟩
    repeat' walk1
    exact h _ S5.ok (fun b o e => S5.keep b o (hk b o e))
  case turn =>
    rintro i s2 hi ⟨g', bk, bvals, o1, o2, o3, o4, hk, hb, S5⟩
    intro Ct Bt hCt hBt
    have hbl := hb.length
    have hbal : (bookAt T ps i).length = 2 + i := by simp [bookAt, book0]; lia
    obtain ⟨⟨c, hcc, hbest, hdec⟩⟩ := hstep i (by lia)
    have hc' := hc.keeps fun o e => hk _ o e
    have hp' := hp.keeps fun o e => hk _ o e
    obtain ⟨cv, hcv1, tc, rfl⟩ := hcv.get hcc
    have hps1 : i < ps.length := by lia
    have hps2 : i + 1 < ps.length := by lia
    have hg1 : ps.getD i 0 = ps[i] := by rw [List.getD_eq_getElem?_getD, List.getElem?_eq_getElem hps1]; rfl
    have hg2 : ps.getD (i + 1) 0 = ps[i + 1] := by rw [List.getD_eq_getElem?_getD, List.getElem?_eq_getElem hps2]; rfl
    have hb1 := hpb _ (List.getElem_mem hps1)
    have hb2 := hpb _ (List.getElem_mem hps2)
    rw [← hg1] at hb1
    rw [← hg2] at hb2
    obtain ⟨pv1, hpv1, tp1, rfl⟩ := hpv.get (i := i) (b := (ps.getD i 0 : Int)) (by rw [List.getElem?_map, List.getElem?_eq_getElem hps1, hg1]; rfl)
    obtain ⟨pv2, hpv2, tp2, rfl⟩ := hpv.get (i := i + 1) (b := (ps.getD (i + 1) 0 : Int)) (by rw [List.getElem?_map, List.getElem?_eq_getElem hps2, hg2]; rfl)
    generalize hhere : ps.getD i 0 = here at *
    generalize hthere : ps.getD (i + 1) 0 = there at *
    have hpi1 : pvs[((i : Nat) : Int).toNat]? = some (.int (here : Int) tp1) := by rw [Int.toNat_natCast]; exact hpv1
    have hpi2 : pvs[(((i : Nat) : Int) + 1).toNat]? = some (.int (there : Int) tp2) := by rw [show (((i : Nat) : Int) + 1).toNat = i + 1 from by lia]; exact hpv2
    have hci : cvs[((i : Nat) : Int).toNat]? = some (.int c tc) := by rw [Int.toNat_natCast]; exact hcv1
    refine r_next_range S5 .head (by lia) fun t' s3 S6 => ?_
    rw [show ((i : Nat) : Int) + 1 = ((i + 1 : Nat) : Int) from by lia, show ((ps.length - 1 - i : Nat) : Int) - 1 = ((ps.length - 1 - (i + 1) : Nat) : Int) from by lia] at S6
    dsimp only
    refine wpAny_assign_Name ?_
    walk1
    rename_i s4 S7
    refine m_cut (fun s5 => St w os g' L [(Str.ofString "codes", some (.ref cl)), (Str.ofString "places", some (.ref pl)), (Str.ofString "book", some (.ref bk)), (Str.ofString "step", some (.int (i : Nat) t')), (Str.ofString "there", some (.int (there : Int) tp2)), (Str.ofString "fits", o3)]
      [(it, RIterO ((i + 1 : Nat) : Int) ((ps.length - 1 - (i + 1) : Nat) : Int) 1), (bk, ListO bvals), (L + 1 + 1, CellO (some (.int (here : Int) tp1))), (L + 1, CellO (some (.str (tx T) t3)))] s5) (fun P' hPP => ?_) ?_
    · refine Assign_Tuple ?_ (by rfl) (by rw [he]; rfl)
      repeat' walk1
      rename_i S9
      exact ⟨rfl, hPP _ (S9.drop)⟩
    intro s5 S8
    refine m_cut (fun s6 => ∃ g2 D fvals, g'.StaysIn g2 ∧ All2 (V2 g2) fvals (fitsOf T here (bookAt T ps i)) ∧ St w os g2 L [(Str.ofString "codes", some (.ref cl)), (Str.ofString "places", some (.ref pl)), (Str.ofString "book", some (.ref bk)), (Str.ofString "step", some (.int (i : Nat) t')), (Str.ofString "there", some (.int (there : Int) tp2)), (Str.ofString "fits", some (.ref D))]
      [(D, ListO fvals), (it, RIterO ((i + 1 : Nat) : Int) ((ps.length - 1 - (i + 1) : Nat) : Int) 1), (bk, ListO bvals), (L + 1 + 1, CellO (some (.int (here : Int) tp1))), (L + 1, CellO (some (.str (tx T) t3)))] s6) (fun P' hPP => ?_) ?_
    · refine r_compU (cl := [(Str.ofString "text", L + 1), (Str.ofString "here", L + 1 + 1)]) (by rw [he]; rfl) (by rw [he]; rfl) rfl (by decide) (fun _ => rfl) ?_
      walk1
      walk1
      rename_i I s6 S9
      refine comp_run V2 (fun _ _ _ _ k x => x.mono k) [Str.ofString "piece", Str.ofString "code"] (fun j => LIterO bk j) (fun _ => [(it, RIterO ((i + 1 : Nat) : Int) ((ps.length - 1 - (i + 1) : Nat) : Int) 1), (bk, ListO bvals), (L + 1 + 1, CellO (some (.int (here : Int) tp1))), (L + 1, CellO (some (.str (tx T) t3)))]) [(it, RIterO ((i + 1 : Nat) : Int) ((ps.length - 1 - (i + 1) : Nat) : Int) 1), (bk, ListO bvals), (L + 1 + 1, CellO (some (.int (here : Int) tp1))), (L + 1, CellO (some (.str (tx T) t3)))] bvals.length (fun j => fitsOf T here ((bookAt T ps i).take j)) (by lia) ?_ S9 (by decide) rfl (by decide) ?_ ?_ ?_ ?_
      · intro j; exact Nat.le_trans (by rw [fitsOf, List.length_map]; exact List.length_filter_le _ _) (by rw [List.length_take]; lia)
      · intro s Q' E hI hQ
        exact wpAny_pyIter_listiter hI hQ
      · intro j gc C D ys frc cenv sc hj hkc hce hfr SC Cc Bc hCc hBc
        have eF' : EnvF cenv C := by rw [hce]; exact compEnvF eF rfl
        have m0 : NmL cenv (Str.ofString "piece") := ⟨by rw [hce, he]; rfl, rfl⟩
        have m1 : NmL cenv (Str.ofString "code") := ⟨by rw [hce, he]; rfl, rfl⟩
        have m2 : NmC cenv (Str.ofString "here") (L + 1 + 1) := ⟨by rw [hce, he]; rfl, by rw [hce]; rfl, rfl⟩
        have m3 : NmC cenv (Str.ofString "text") (L + 1) := ⟨by rw [hce, he]; rfl, by rw [hce]; rfl, rfl⟩
        have m4 : NmV w cenv (Str.ofString "len") (.builtin "len") := nm_bi eF' (by rw [hce, he]; rfl) (by kernel_rfl) rfl (by decide) rfl
        obtain ⟨v, hv, _⟩ : ∃ v, bvals[j]? = some v ∧ True := ⟨_, List.getElem?_eq_getElem hj, trivial⟩
        obtain ⟨e, hee, ae, te, ue, rfl, hVT⟩ := hb.get' hv
        have hVTc := hVT.keeps fun o e => hkc _ o e
        have hbm : e ∈ bookAt T ps i := List.mem_of_getElem? hee
        have hel : e.1.length ≤ 1000 := Nat.le_trans (bookAt_len hbm) (by lia)
        obtain ⟨w1, w2, rfl⟩ := fm2 hfr
        · refine r_next_list SC (.tail .head) (SC.mem (.tail _ (.tail _ (.tail _ (.tail _ (.head _)))))).isList hv fun s7 S10 => ?_
          dsimp only
          refine wpAny_letOwnedTupleGo_listiter (S10.mem (.tail _ (.head _))) ?_
          have hout : fitsOf T here ((bookAt T ps i).take (j + 1)) = fitsOf T here ((bookAt T ps i).take j) ++ (if fitB T here e = true then [((e.1.length : Int), e.2)] else []) := by
            rw [List.take_succ_eq_append_getElem (by lia : j < (bookAt T ps i).length)]
            rw [List.getElem?_eq_getElem (by lia : j < (bookAt T ps i).length)] at hee
            rw [Option.some.inj hee]
            unfold fitsOf
            rw [List.filter_append, List.map_append]
            congr 1
            rw [List.filter_cons]
            split <;> rfl
          have hfb : (tx ((T.take ((here : Int) + (e.1.length : Int)).toNat).drop (here : Int).toNat) == tx e.1) = fitB T here e := by
            rw [tx_beq, show ((here : Int) + (e.1.length : Int)).toNat = here + e.1.length from by lia, Int.toNat_natCast]; rfl
          cases hft : fitB T here e with
          | true =>
            rw [hft] at hfb
            rw [if_pos hft] at hout
            repeat' walk1
            rename_i S11
            obtain ⟨gd, kd, hpd, S12⟩ := S11.freeze
            exact ⟨hCc _ _ ⟨gd, _, _, kd, hout, ⟨_, _, _, rfl, hpd⟩, rfl, S12⟩⟩
          | false =>
            rw [hft] at hfb
            rw [if_neg (by rw [hft]; simp), List.append_nil] at hout
            repeat' walk1
            exact ⟨hBc _ ⟨gc, _, fun _ _ e => e, hout, rfl, by assumption⟩⟩
      · intro gc C D ys frc sc Q' hkc SC hQ
        exact r_end_list hA' SC (.tail .head) (SC.mem (.tail _ (.tail _ (.tail _ (.tail _ (.head _)))))).isList (by simp) hQ
      · intro gc C D vs frc sc hkc hvs SC
        refine post_use eF n7 SC (by walk_at "m_upd") fun s7 S10 => ⟨rfl, hPP _ ⟨gc, D, vs, hkc, ?_, S10⟩⟩
        rw [List.take_of_length_le (by lia)] at hvs
        exact hvs
    rintro s6 ⟨g2, D, fvals, k2, hf, S9⟩
    have hc2 := hc'.keeps fun o e => k2 _ o e
    have hfl := hf.length
    have hfl2 : (fitsOf T here (bookAt T ps i)).length ≤ 1000 := Nat.le_trans (by rw [fitsOf, List.length_map]; exact List.length_filter_le _ _) (by lia)
    refine m_cut (fun s7 => ∃ g3, g2.StaysIn g3 ∧ St w os g3 L [(Str.ofString "codes", some (.ref cl)), (Str.ofString "places", some (.ref pl)), (Str.ofString "book", some (.ref bk)), (Str.ofString "step", some (.int (i : Nat) t')), (Str.ofString "there", some (.int (there : Int) tp2)), (Str.ofString "fits", some (.ref D))]
      [(it, RIterO ((i + 1 : Nat) : Int) ((ps.length - 1 - (i + 1) : Nat) : Int) 1), (bk, ListO bvals), (L + 1 + 1, CellO (some (.int (here : Int) tp1))), (L + 1, CellO (some (.str (tx T) t3)))] s7) (fun P' hPP => ?_) ?_
    · repeat' walk1
      rename_i S10
      obtain ⟨g3, k3, hL, S11⟩ := S10.freeze
      obtain ⟨g4, k4, hT0, S12⟩ := S11.freezeD (.tail .head)
      refine r_maxT (n := n) (k0 := (0, 0)) (ks := fitsOf T here (bookAt T ps i)) (hA'.le (by lia)) S12 (hL.keeps fun o e => k4 _ o e) (.cons ⟨_, _, _, rfl, hT0⟩ (hf.mono fun _ _ x => (x.mono k3).mono k4)) fun v s8 hv S13 => ?_
      rw [hbest] at hv
      have hc4 := (hc2.keeps fun o e => k3 _ o e).keeps fun o e => k4 _ o e
      clear S9 S10 S11 S12
      repeat' walk1
      rename_i S14
      obtain ⟨as1, ra⟩ := reads_v2 (hv.mono S14.keep)
      obtain ⟨as2, rb⟩ := reads_v2 (k := ((there : Int) - (here : Int), c)) ⟨_, _, _, rfl, S14.mem (.head _)⟩
      refine r_neSame hA' ra rb (shaped_pair _ _) ?_
      have S15 := S14.drop
      clear S13 S14
      repeat' walk1
      exact ⟨rfl, hPP _ ⟨g4, fun b o e => k4 b o (k3 b o e), S15.drop.drop⟩⟩
    rintro s7 ⟨g3, k3, S10⟩
    have hc3 := hc2.keeps fun o e => k3 _ o e
    clear S9 S8 S7 S6 S5
    refine m_cut (fun s8 => St w os g3 L [(Str.ofString "codes", some (.ref cl)), (Str.ofString "places", some (.ref pl)), (Str.ofString "book", some (.ref bk)), (Str.ofString "step", some (.int (i : Nat) t')), (Str.ofString "there", some (.int (there : Int) tp2)), (Str.ofString "fits", some (.ref D))]
      [(it, RIterO ((i + 1 : Nat) : Int) ((ps.length - 1 - (i + 1) : Nat) : Int) 1), (bk, ListO bvals), (L + 1 + 1, CellO (some (.int (here : Int) tp1))), (L + 1, CellO (some (.str (tx T) t3)))] s8) (fun P' hPP => ?_) ?_
    · have hdec' : (decide (256 ≤ c) != decide (1 < (there : Int) - (here : Int))) = false := by rw [hdec]; simp
      repeat' walk1
      exact ⟨rfl, hPP _ (by assumption)⟩
    intro s8 S11
    repeat' walk1
    rename_i S12
    obtain ⟨g4, k4, hE, S13⟩ := S12.freeze
    refine ⟨hCt _ ⟨g4, bk, _, _, _, _, _, fun b o e => k4 b o (k3 b o (k2 b o (hk b o e))), ?_, S13⟩⟩
    have hba : bookAt T ps (i + 1) = bookAt T ps i ++ [((T.take (there + 1)).drop here, 256 + (i : Int))] := by
      unfold bookAt
      rw [List.range_succ, List.map_append, ← List.append_assoc, List.map_singleton, hhere, hthere]
    rw [hba]
    rw [Int.toNat_natCast, show ((there : Int) + 1).toNat = there + 1 from by lia] at hE
    exact (hb.mono fun _ _ x => (((x.mono k2).mono k3).mono k4)).append (.cons ⟨_, _, _, rfl, hE⟩ .nil)
end
/-- the order of texts -/
theorem ll_cons {a b : Nat} {x y : List Nat} : a :: x < b :: y ↔ a < b ∨ a = b ∧ x < y := List.cons_lt_cons_iff
theorem ll_irrefl : ∀ (x : List Nat), ¬ x < x
  | [] => List.not_lt_nil _
  | a :: x => fun h => by rcases ll_cons.mp h with h | ⟨_, h⟩; (lia); (exact ll_irrefl x h)
theorem ll_trans : ∀ {x y z : List Nat}, x < y → y < z → x < z
  | x, y, [], _, h => absurd h (List.not_lt_nil _)
  | x, [], c :: z, h, _ => absurd h (List.not_lt_nil _)
  | [], b :: y, c :: z, _, _ => List.nil_lt_cons _ _
  | a :: x, b :: y, c :: z, h1, h2 => by
    rw [ll_cons] at h1 h2 ⊢
    rcases h1 with h1 | ⟨rfl, h1⟩
    · rcases h2 with h2 | ⟨rfl, h2⟩
      · left; lia
      · left; exact h1
    · rcases h2 with h2 | ⟨rfl, h2⟩
      · left; exact h2
      · right; exact ⟨rfl, ll_trans h1 h2⟩
theorem ll_total : ∀ (x y : List Nat), x < y ∨ x = y ∨ y < x
  | [], [] => .inr (.inl rfl)
  | [], b :: y => .inl (List.nil_lt_cons _ _)
  | a :: x, [] => .inr (.inr (List.nil_lt_cons _ _))
  | a :: x, b :: y => by
    rcases Nat.lt_trichotomy a b with h | rfl | h
    · exact .inl (ll_cons.mpr (.inl h))
    · rcases ll_total x y with h | rfl | h
      · exact .inl (ll_cons.mpr (.inr ⟨rfl, h⟩))
      · exact .inr (.inl rfl)
      · exact .inr (.inr (ll_cons.mpr (.inr ⟨rfl, h⟩)))
    · exact .inr (.inr (ll_cons.mpr (.inl h)))
theorem ll_take : ∀ (m : Nat) (x : List Nat), ¬ x < x.take m
  | 0, x => List.not_lt_nil _
  | m + 1, [] => List.not_lt_nil _
  | m + 1, a :: x => fun h => by
    rw [List.take_succ_cons, ll_cons] at h
    rcases h with h | ⟨_, h⟩
    · lia
    · exact ll_take m x h
theorem ll_between : ∀ (m : Nat) (r v : List Nat), m ≤ r.length → ¬ v < r.take m → ¬ r < v → v.take m = r.take m ∧ m ≤ v.length
  | 0, r, v, _, _, _ => ⟨rfl, Nat.zero_le _⟩
  | m + 1, [], v, h, _, _ => by simp at h
  | m + 1, a :: r, [], _, h, _ => absurd (by rw [List.take_succ_cons]; exact List.nil_lt_cons _ _) h
  | m + 1, a :: r, b :: v, hm, h1, h2 => by
    rw [List.take_succ_cons, ll_cons, not_or] at h1
    rw [ll_cons, not_or] at h2
    have hab : a = b := by lia
    subst hab
    obtain ⟨q1, q2⟩ := ll_between m r v (by simpa using hm) (fun z => h1.2 ⟨rfl, z⟩) (fun z => h2.2 ⟨rfl, z⟩)
    exact ⟨by rw [List.take_succ_cons, List.take_succ_cons, q1], by simpa using q2⟩
/-- a cut -/
theorem cut_ex (p : Nat → Bool) : ∀ (n : Nat), (∀ i j, i < j → j < n → p j = true → p i = true) → ∃ k, k ≤ n ∧ (∀ i, i < k → p i = true) ∧ (∀ i, k ≤ i → i < n → p i = false)
  | 0, _ => ⟨0, Nat.le_refl _, fun i h => absurd h (Nat.not_lt_zero _), fun i _ h => absurd h (Nat.not_lt_zero _)⟩
  | n + 1, mono => by
    cases hp : p n with
    | true => exact ⟨n + 1, Nat.le_refl _, fun i hi => by
        by_cases e : i = n
        · rw [e]; exact hp
        · exact mono i n (by lia) (by lia) hp, fun i h1 h2 => by lia⟩
    | false =>
      obtain ⟨k, h1, h2, h3⟩ := cut_ex p n fun i j h1 h2 => mono i j h1 (by lia)
      refine ⟨k, by lia, h2, fun i hi hj => ?_⟩
      by_cases e : i = n
      · rw [e]; exact hp
      · exact h3 i hi (by lia)
/-- a book in order -/
noncomputable def Srt (B : List Ent) : Prop := B.Pairwise fun a b => a.1 < b.1
theorem key_get {B : List Ent} {i : Nat} (h : i < B.length) : keyAt B i = B[i].1 := by unfold keyAt; rw [List.getElem?_eq_getElem h]; rfl
theorem Srt.lt {B : List Ent} (h : Srt B) {i j : Nat} (hij : i < j) (hj : j < B.length) : keyAt B i < keyAt B j := by
  rw [key_get hj, key_get (by lia : i < B.length)]
  exact List.pairwise_iff_getElem.mp h i j (by lia) hj hij
theorem posR_spec {B : List Ent} (h : Srt B) (x : List Nat) : posR B x ≤ B.length ∧ (∀ i, i < posR B x → ¬ x < keyAt B i) ∧ (∀ i, posR B x ≤ i → i < B.length → x < keyAt B i) := by
  obtain ⟨k, h1, h2, h3⟩ := cut_ex (fun i => !decide (x < keyAt B i)) B.length fun i j hij hj hp => by
    simp only [Bool.not_eq_true', decide_eq_false_iff_not] at hp ⊢
    exact fun z => hp (ll_trans z (h.lt hij hj))
  have e : posR B x = k := bis_is h2 h3 _ 0 _ rfl (Nat.zero_le _) h1 (Nat.le_refl _)
  rw [e]
  refine ⟨h1, fun i hi => ?_, fun i hi hj => ?_⟩
  · have := h2 i hi; simpa using this
  · have := h3 i hi hj; simpa using this
theorem posL_spec {B : List Ent} (h : Srt B) (x : List Nat) {j : Nat} (hj : j < B.length) (hx : keyAt B j = x) : posL B x = j := by
  refine bis_is (p := fun i => decide (keyAt B i < x)) (n := B.length) (fun i hi => ?_) (fun i hi hl => ?_) _ 0 _ rfl (Nat.zero_le _) (by lia) (Nat.le_refl _)
  · rw [decide_eq_true_iff, ← hx]; exact h.lt hi hj
  · rw [decide_eq_false_iff_not, ← hx]
    by_cases e : i = j
    · rw [e]; exact ll_irrefl _
    · exact fun z => ll_irrefl _ (ll_trans z (h.lt (by lia) hl))
theorem grow_spec (near rest : List Nat) : ∀ (m k : Nat), near.length - k = m → k ≤ near.length → near.take k = rest.take k →
    grow near rest k ≤ near.length ∧ near.take (grow near rest k) = rest.take (grow near rest k) ∧ ¬ (grow near rest k < near.length ∧ near.take (grow near rest k + 1) = rest.take (grow near rest k + 1)) := by
  intro m
  induction m using Nat.strongRecOn with
  | _ m ih =>
    intro k hm hk he
    rw [grow]
    split
    · rename_i c
      exact ih (near.length - (k + 1)) (by lia) (k + 1) rfl c.1 c.2
    · rename_i c
      exact ⟨hk, he, c⟩
/-- closed under beginnings -/
noncomputable def Pre (B : List Ent) : Prop := ∀ e ∈ B, ∀ k, 1 ≤ k → k ≤ e.1.length → ∃ e' ∈ B, e'.1 = e.1.take k
structure Found (B : List Ent) (rest : List Nat) (near : List Nat) (nc : Int) (size : Nat) (c : Int) : Prop where
  r1 : posR B rest ≤ B.length
  r2 : 1 ≤ posR B rest
  r3 : B[posR B rest - 1]? = some (near, nc)
  s0 : size = grow near rest 1
  s1 : 1 ≤ size
  s2 : size ≤ rest.length
  l1 : B[posL B (rest.take size)]? = some (rest.take size, c)
  mem : (rest.take size, c) ∈ B
  max : ∀ e ∈ B, rest.take e.1.length = e.1 → e.1.length ≤ size
  pre : ∀ k, 1 ≤ k → k ≤ size → ∃ e' ∈ B, e'.1 = rest.take k
theorem found_ex {B : List Ent} (hs : Srt B) (hp : Pre B) {rest : List Nat} (hr : rest ≠ []) (h0 : ∃ e ∈ B, e.1 = rest.take 1) : ∃ near nc size c, Found B rest near nc size c := by
  obtain ⟨k1, k2, k3⟩ := posR_spec hs rest
  have hrl : 0 < rest.length := List.length_pos_iff.mpr hr
  -- entries not above the rest are not above the nearest
  have below : ∀ e ∈ B, ¬ rest < e.1 → 1 ≤ posR B rest ∧ ∀ (h : posR B rest - 1 < B.length), ¬ B[posR B rest - 1].1 < e.1 := by
    intro e he hle
    obtain ⟨j, hj, rfl⟩ := List.mem_iff_getElem.mp he
    have hjk : j < posR B rest := by
      apply Nat.not_le.mp
      intro z
      have := k3 j z hj
      rw [key_get hj] at this
      exact hle this
    refine ⟨by lia, fun h => ?_⟩
    by_cases e : j = posR B rest - 1
    · subst e; exact ll_irrefl _
    · have := hs.lt (i := j) (j := posR B rest - 1) (by lia) h
      rw [key_get hj, key_get h] at this
      exact fun z => ll_irrefl _ (ll_trans this z)
  obtain ⟨e0, he0, hk0⟩ := h0
  have hb0 := below e0 he0 (by rw [hk0]; exact ll_take _ _)
  have r2 := hb0.1
  have hlt : posR B rest - 1 < B.length := by lia
  have hnle : ¬ rest < B[posR B rest - 1].1 := by
    have := k2 (posR B rest - 1) (by lia)
    rwa [key_get hlt] at this
  have hn0 := hb0.2 hlt
  have hnm : B[posR B rest - 1] ∈ B := List.getElem_mem hlt
  have hget : B[posR B rest - 1]? = some B[posR B rest - 1] := List.getElem?_eq_getElem hlt
  have below' : ∀ e ∈ B, ¬ rest < e.1 → ¬ B[posR B rest - 1].1 < e.1 := fun e he hle => (below e he hle).2 hlt
  generalize B[posR B rest - 1] = ne at hnle hn0 hnm hget below'
  obtain ⟨near, nc⟩ := ne
  dsimp only at hnle hn0 below'
  rw [hk0] at hn0
  obtain ⟨b1, b2⟩ := ll_between 1 rest near (by lia) hn0 hnle
  obtain ⟨g1, g2, g3⟩ := grow_spec near rest _ 1 rfl b2 b1
  have hg1 := grow_ge near rest 1
  generalize hsz : grow near rest 1 = size at g1 g2 g3 hg1
  have hsr : size ≤ rest.length := by
    have h1 := congrArg List.length g2
    rw [List.length_take, List.length_take] at h1; lia
  obtain ⟨e', he', hk'⟩ := hp _ hnm size hg1 g1
  dsimp only at hk'
  rw [g2] at hk'
  obtain ⟨j, hj, hje⟩ := List.mem_iff_getElem.mp he'
  have hpl : posL B (rest.take size) = j := posL_spec hs _ hj (by rw [key_get hj, hje, hk'])
  obtain ⟨key, c⟩ := e'
  dsimp only at hk'
  subst hk'
  refine ⟨near, nc, size, c, k1, r2, hget, hsz.symm, hg1, hsr, by rw [hpl, List.getElem?_eq_getElem hj, hje], he', fun e he hf => ?_, fun k h1 h2 => ?_⟩
  · apply Nat.not_lt.mp
    intro hlt2
    have hel : e.1.length ≤ rest.length := by have := congrArg List.length hf; rw [List.length_take] at this; lia
    obtain ⟨e2, he2, hk2⟩ := hp e he (size + 1) (by lia) hlt2
    have hk2' : e2.1 = rest.take (size + 1) := by
      rw [hk2, ← hf, List.take_take, Nat.min_eq_left hlt2]
    have hle2 : ¬ rest < e2.1 := by rw [hk2']; exact ll_take _ _
    have hb2 := below' e2 he2 hle2
    rw [hk2'] at hb2
    obtain ⟨q1, q2⟩ := ll_between (size + 1) rest near (by lia) hb2 hnle
    exact g3 ⟨q2, q1⟩
  · obtain ⟨e3, he3, hk3⟩ := hp _ hnm k h1 (Nat.le_trans h2 g1)
    dsimp only at hk3
    refine ⟨e3, he3, ?_⟩
    rw [hk3]
    have := congrArg (List.take k) g2
    rwa [List.take_take, List.take_take, Nat.min_eq_left h2] at this
theorem ins_srt {B : List Ent} (hs : Srt B) {e : Ent} (hn : ∀ e' ∈ B, e'.1 ≠ e.1) : Srt (insB B e) := by
  obtain ⟨k1, k2, k3⟩ := posR_spec hs e.1
  unfold insB
  generalize posR B e.1 = k at k1 k2 k3
  unfold Srt
  have hlow : ∀ a ∈ B.take k, a.1 < e.1 := fun a ha => by
    obtain ⟨i, hi, rfl⟩ := List.mem_iff_getElem.mp ha
    rw [List.length_take] at hi
    rw [List.getElem_take]
    have := k2 i (by lia)
    rw [key_get (by lia : i < B.length)] at this
    rcases ll_total B[i].1 e.1 with h | h | h
    · exact h
    · exact absurd h (hn _ (List.getElem_mem _))
    · exact absurd h this
  have hhigh : ∀ a ∈ B.drop k, e.1 < a.1 := fun a ha => by
    obtain ⟨i, hi, rfl⟩ := List.mem_iff_getElem.mp ha
    rw [List.length_drop] at hi
    rw [List.getElem_drop]
    have := k3 (k + i) (by lia) (by lia)
    rwa [key_get (by lia : k + i < B.length)] at this
  have hs' : (B.take k ++ B.drop k).Pairwise fun a b => a.1 < b.1 := by rw [List.take_append_drop]; exact hs
  rw [List.pairwise_append] at hs'
  rw [List.pairwise_append]
  refine ⟨hs'.1, List.pairwise_cons.mpr ⟨hhigh, hs'.2.1⟩, fun a ha b hb => ?_⟩
  rcases List.mem_cons.mp hb with rfl | hb
  · exact hlow a ha
  · exact hs'.2.2 a ha b hb
theorem ins_perm (B : List Ent) (e : Ent) : (insB B e).Perm (e :: B) := by
  unfold insB
  have := List.perm_middle (a := e) (l₁ := B.take (posR B e.1)) (l₂ := B.drop (posR B e.1))
  rwa [List.take_append_drop] at this
theorem ins_pre {B : List Ent} (hp : Pre B) {rest : List Nat} {size : Nat} {c : Int} (h : ∀ k, 1 ≤ k → k ≤ size → ∃ e' ∈ B, e'.1 = rest.take k) (hl : size < rest.length) : Pre (insB B (rest.take (size + 1), c)) := by
  have hm : ∀ e, e ∈ insB B (rest.take (size + 1), c) ↔ e = (rest.take (size + 1), c) ∨ e ∈ B := fun e => by rw [(ins_perm B _).mem_iff, List.mem_cons]
  intro e he k h1 h2
  rcases (hm e).mp he with rfl | he
  · dsimp only at h2 ⊢
    rw [List.length_take] at h2
    by_cases e : k = size + 1
    · subst e
      exact ⟨_, (hm _).mpr (.inl rfl), by dsimp only; rw [List.take_take, Nat.min_self]⟩
    · obtain ⟨e', he', hk'⟩ := h k h1 (by lia)
      exact ⟨e', (hm _).mpr (.inr he'), by rw [hk', List.take_take, Nat.min_eq_left (by lia)]⟩
  · obtain ⟨e', he', hk'⟩ := hp e he k h1 h2
    exact ⟨e', (hm _).mpr (.inr he'), hk'⟩
theorem cut_drop (T : List Nat) (p m : Nat) : (T.take (p + m)).drop p = (T.drop p).take m := by rw [List.drop_take]; congr 1; lia
/-- one step of the packing -/
structure StepOk (T : List Nat) (codes : List Int) (ps : List Nat) (i : Nat) : Prop where
  c : ∃ c, codes[i]? = some c ∧ ((T.take (ps.getD (i + 1) 0)).drop (ps.getD i 0), c) ∈ bookAt T ps i
  lt : ps.getD i 0 < ps.getD (i + 1) 0
  le : ps.getD (i + 1) 0 ≤ T.length
  max : ∀ e ∈ bookAt T ps i, fitB T (ps.getD i 0) e = true → e.1.length ≤ ps.getD (i + 1) 0 - ps.getD i 0
  uniq : ∀ e ∈ bookAt T ps i, ∀ e' ∈ bookAt T ps i, e.1 = e'.1 → e = e'
structure Inv (T : List Nat) (don : List Int) (pls : List Nat) (B : List Ent) (spot : Nat) : Prop where
  srt : Srt B
  pre : Pre B
  perm : B.Perm (bookAt T pls don.length)
  plen : pls.length = don.length + 1
  last : pls.getD don.length 0 = spot
  le : spot ≤ T.length
  dle : don.length ≤ spot
theorem getD_app {l l' : List Nat} {i : Nat} (h : i < l.length) : (l ++ l').getD i 0 = l.getD i 0 := by
  rw [List.getD_eq_getElem?_getD, List.getD_eq_getElem?_getD, List.getElem?_append_left h]
theorem bookAt_app {T : List Nat} {pls ps' : List Nat} {i : Nat} (h : i < pls.length) : bookAt T (pls ++ ps') i = bookAt T pls i := by
  unfold bookAt
  congr 1
  refine List.map_congr_left fun j hj => ?_
  have := List.mem_range.mp hj
  rw [getD_app (by lia), getD_app (by lia)]
theorem bookAt_succ (T ps : List Nat) (i : Nat) : bookAt T ps (i + 1) = bookAt T ps i ++ [((T.take (ps.getD (i + 1) 0 + 1)).drop (ps.getD i 0), 256 + (i : Int))] := by
  unfold bookAt
  rw [List.range_succ, List.map_append, ← List.append_assoc, List.map_singleton]
theorem bookAt_length (T ps : List Nat) (i : Nat) : (bookAt T ps i).length = 2 + i := by simp [bookAt, book0]; lia
theorem bookAt_zero (T ps : List Nat) : bookAt T ps 0 = book0 := by simp [bookAt]
theorem book0_sub (T ps : List Nat) (i : Nat) : ∀ e ∈ book0, e ∈ bookAt T ps i := fun e he => List.mem_append_left _ he
theorem srt_uniq {B B' : List Ent} (hs : Srt B) (hp : B.Perm B') : ∀ e ∈ B', ∀ e' ∈ B', e.1 = e'.1 → e = e' := by
  intro e he e' he' h
  obtain ⟨i, hi, rfl⟩ := List.mem_iff_getElem.mp (hp.mem_iff.mpr he)
  obtain ⟨j, hj, rfl⟩ := List.mem_iff_getElem.mp (hp.mem_iff.mpr he')
  have hij : i = j := by
    rcases Nat.lt_trichotomy i j with z | z | z
    · have := hs.lt z hj
      rw [key_get hj, key_get hi, h] at this
      exact absurd this (ll_irrefl _)
    · exact z
    · have := hs.lt z hi
      rw [key_get hj, key_get hi, h] at this
      exact absurd this (ll_irrefl _)
  subst hij; rfl
structure Ran (T : List Nat) (don : List Int) (pls : List Nat) (B : List Ent) (spot : Nat) (codes : List Int) (ps : List Nat) : Prop where
  packs : Packs T B spot codes
  len : codes.length = ps.length
  clen : don.length + codes.length ≤ T.length
  last : (pls ++ ps).getD (don.length + codes.length) 0 = T.length
  steps : ∀ i, don.length ≤ i → i < don.length + codes.length → StepOk T (don ++ codes) (pls ++ ps) i
theorem run_ex {T : List Nat} (hT : Ws T) (hTl : T.length ≤ 900) : ∀ (m : Nat) (don : List Int) (pls : List Nat) (B : List Ent) (spot : Nat), T.length - spot = m → Inv T don pls B spot → ∃ codes ps, Ran T don pls B spot codes ps := by
  intro m
  induction m using Nat.strongRecOn with
  | _ m ih =>
    intro don pls B spot hm I
    by_cases hend : T.length ≤ spot
    · refine ⟨[], [], .done hend, rfl, ?_, ?_, fun i h1 h2 => ?_⟩
      · have := I.dle; have := I.le; simp; lia
      · rw [List.append_nil, List.length_nil, Nat.add_zero, I.last]; have := I.le; lia
      · simp at h2; lia
    · have hlt : spot < T.length := by lia
      have hne : T.drop spot ≠ [] := fun z => by have := congrArg List.length z; rw [List.length_drop] at this; simp at this; lia
      have h0 : ∃ e ∈ B, e.1 = (T.drop spot).take 1 := by
        cases hr : T.drop spot with
        | nil => exact absurd hr hne
        | cons a r =>
          have ha : a = 9 ∨ a = 32 := hT.drop spot a (by rw [hr]; exact .head _)
          rcases ha with rfl | rfl
          · exact ⟨([9], 9), I.perm.mem_iff.mpr (book0_sub _ _ _ _ (by simp [book0])), rfl⟩
          · exact ⟨([32], 32), I.perm.mem_iff.mpr (book0_sub _ _ _ _ (by simp [book0])), rfl⟩
      obtain ⟨near, nc, size, c, F⟩ := found_ex I.srt I.pre hne h0
      have hdl : (T.drop spot).length = T.length - spot := List.length_drop
      have hs1 := F.s1
      have hs2 := F.s2
      have hBl : B.length = 2 + don.length := by rw [I.perm.length_eq, bookAt_length]
      have hdle := I.dle
      have hplen := I.plen
      -- the step that is made
      have hstep : ∀ codes ps, StepOk T (don ++ c :: codes) (pls ++ (spot + size) :: ps) don.length := fun codes ps => by
        have e1 : (pls ++ (spot + size) :: ps).getD don.length 0 = spot := by rw [getD_app (by lia)]; exact I.last
        have e2 : (pls ++ (spot + size) :: ps).getD (don.length + 1) 0 = spot + size := by
          rw [List.getD_eq_getElem?_getD, List.getElem?_append_right (by lia), hplen, Nat.sub_self]; rfl
        have e3 : bookAt T (pls ++ (spot + size) :: ps) don.length = bookAt T pls don.length := bookAt_app (by lia)
        refine ⟨⟨c, by rw [List.getElem?_append_right (Nat.le_refl _), Nat.sub_self]; rfl, ?_⟩, ?_, ?_, ?_, ?_⟩
        · rw [e1, e2, e3, cut_drop]; exact I.perm.mem_iff.mp F.mem
        · rw [e1, e2]; lia
        · rw [e2]; lia
        · rw [e1, e2, e3]
          intro e he hf
          have : (T.take (spot + e.1.length)).drop spot = e.1 := of_decide_eq_true hf
          rw [cut_drop] at this
          have := F.max e (I.perm.mem_iff.mpr he) this
          lia
        · rw [e3]; exact srt_uniq I.srt I.perm
      have hnl : near.length ≤ 1000 := by
        have := bookAt_len (I.perm.mem_iff.mp (List.mem_of_getElem? F.r3))
        dsimp only at this; lia
      have hdon : (don ++ [c]).length = don.length + 1 := by simp
      -- what comes behind
      have hI : Inv T (don ++ [c]) (pls ++ [spot + size]) (if size < (T.drop spot).length then insB B ((T.drop spot).take (size + 1), 254 + (B.length : Int)) else B) (spot + size) ∨ T.length ≤ spot + size := by
        by_cases hc : size < (T.drop spot).length
        · left
          rw [if_pos hc]
          have hnew : ∀ e' ∈ B, e'.1 ≠ (T.drop spot).take (size + 1) := fun e' he' z => by
            have hl : e'.1.length = size + 1 := by rw [z, List.length_take]; lia
            have := F.max e' he' (by rw [hl, z])
            lia
          refine ⟨ins_srt I.srt hnew, ins_pre I.pre F.pre hc, ?_, ?_, ?_, by lia, by rw [hdon]; lia⟩
          · refine (ins_perm _ _).trans ?_
            rw [hdon, bookAt_succ, bookAt_app (by lia), getD_app (by lia), I.last]
            rw [show (pls ++ [spot + size]).getD (don.length + 1) 0 = spot + size from by
              rw [List.getD_eq_getElem?_getD, List.getElem?_append_right (by lia), hplen, Nat.sub_self]; rfl]
            rw [show (T.take (spot + size + 1)).drop spot = (T.drop spot).take (size + 1) from by rw [Nat.add_assoc, cut_drop]]
            rw [show (254 : Int) + (B.length : Int) = 256 + (don.length : Int) from by rw [hBl]; lia]
            exact (I.perm.cons _).trans (List.perm_append_singleton _ _).symm
          · simp; lia
          · rw [hdon, List.getD_eq_getElem?_getD, List.getElem?_append_right (by lia), hplen, Nat.sub_self]; rfl
        · right; lia
      have hpk : ∀ codes, Packs T (if size < (T.drop spot).length then insB B ((T.drop spot).take (size + 1), 254 + (B.length : Int)) else B) (spot + size) codes → Packs T B spot (c :: codes) := fun codes hcd =>
        .step hlt (by lia) F.r1 F.r2 F.r3 hnl F.s0 F.s2 F.l1 (posR_spec I.srt _).1 hcd
      rcases hI with hI | hfin
      · obtain ⟨codes, ps, R⟩ := ih (T.length - (spot + size)) (by lia) _ _ _ _ rfl hI
        have r2 := R.len
        have r3 := R.clen
        have r4 := R.last
        have r5 := R.steps
        rw [hdon] at r3 r4 r5
        rw [show pls ++ [spot + size] ++ ps = pls ++ (spot + size) :: ps from by simp] at r4 r5
        rw [show don ++ [c] ++ codes = don ++ c :: codes from by simp] at r5
        refine ⟨c :: codes, (spot + size) :: ps, hpk _ R.packs, by simp [r2], by simp; lia, ?_, fun i h1 h2 => ?_⟩
        · rw [List.length_cons, ← r4]; congr 1; lia
        · by_cases e : i = don.length
          · subst e; exact hstep _ _
          · rw [List.length_cons] at h2
            exact r5 i (by lia) (by lia)
      · refine ⟨[c], [spot + size], hpk _ (.done hfin), rfl, by simp; lia, ?_, fun i h1 h2 => ?_⟩
        · rw [List.length_singleton, List.getD_eq_getElem?_getD, List.getElem?_append_right (by lia), hplen, Nat.sub_self]
          show spot + size = _
          lia
        · rw [List.length_singleton] at h2
          have : i = don.length := by lia
          subst this; exact hstep _ _
theorem run_all {T : List Nat} (hT : Ws T) (hTl : T.length ≤ 900) : ∃ codes ps, Ran T [] [0] book0 0 codes ps := by
  refine run_ex hT hTl _ [] [0] book0 0 rfl ⟨?_, ?_, ?_, rfl, rfl, Nat.zero_le _, Nat.zero_le _⟩
  · unfold Srt book0; decide
  · intro e he k h1 h2
    refine ⟨e, he, ?_⟩
    simp only [book0, List.mem_cons, List.not_mem_nil, or_false] at he
    rcases he with rfl | rfl
    · have : k = 1 := by simp at h2; lia
      subst this; rfl
    · have : k = 1 := by simp at h2; lia
      subst this; rfl
  · rw [List.length_nil, bookAt_zero]
/-- the greatest of pairs -/
theorem best_is {M : K2} : ∀ (ks : List K2) (b : K2), M ∈ b :: ks → (∀ k ∈ b :: ks, k = M ∨ k.1 < M.1) → best b ks = M
  | [], b, hm, _ => by rw [List.mem_singleton] at hm; exact hm.symm
  | c :: r, b, hm, h => by
    rw [best]
    have hb := h b (.head _)
    have hc := h c (.tail _ (.head _))
    have hr := fun k (hk : k ∈ r) => h k (.tail _ (.tail _ hk))
    by_cases eb : b = M
    · have : gt2 c b = false := by
        rcases hc with rfl | hc
        · rw [eb]; simp [gt2]
        · rw [eb]; unfold gt2; rw [if_neg (by lia)]; simp; lia
      rw [this, if_neg (by simp)]
      exact best_is r b (by rw [eb]; exact .head _) fun k hk => by rcases List.mem_cons.mp hk with rfl | hk; (exact hb); (exact hr k hk)
    · have hb' := hb.resolve_left eb
      by_cases ec : c = M
      · have : gt2 c b = true := by rw [ec]; unfold gt2; rw [if_neg (by lia)]; simp; lia
        rw [this, if_pos rfl]
        exact best_is r c (by rw [ec]; exact .head _) fun k hk => by rcases List.mem_cons.mp hk with rfl | hk; (exact hc); (exact hr k hk)
      · have hmr : M ∈ r := by
          rcases List.mem_cons.mp hm with z | hm
          · exact absurd z.symm eb
          · rcases List.mem_cons.mp hm with z | hm
            · exact absurd z.symm ec
            · exact hm
        split
        · exact best_is r c (.tail _ hmr) fun k hk => by rcases List.mem_cons.mp hk with rfl | hk; (exact hc); (exact hr k hk)
        · exact best_is r b (.tail _ hmr) fun k hk => by rcases List.mem_cons.mp hk with rfl | hk; (exact hb); (exact hr k hk)
theorem seg_cons {T : List Nat} {p q : Nat} (h : p < q) (hq : q ≤ T.length) : (T.take q).drop p = T.getD p 0 :: (T.take q).drop (p + 1) := by
  have hl : p < (T.take q).length := by rw [List.length_take]; lia
  rw [List.drop_eq_getElem_cons hl, List.getElem_take, List.getD_eq_getElem?_getD, List.getElem?_eq_getElem (by lia : p < T.length)]; rfl
theorem seg_snoc {T : List Nat} {p q : Nat} (h : p ≤ q) (hq : q < T.length) : (T.take (q + 1)).drop p = (T.take q).drop p ++ [T.getD q 0] := by
  rw [List.take_succ_eq_append_getElem hq, List.drop_append_of_le_length (by rw [List.length_take]; lia), List.getD_eq_getElem?_getD, List.getElem?_eq_getElem hq]; rfl
theorem seg_len {T : List Nat} {p q : Nat} (hq : q ≤ T.length) : ((T.take q).drop p).length = q - p := by rw [List.length_drop, List.length_take]; lia
/-- a text's part -/
noncomputable def baseP (c : Nat) : PartT := if (c : Int) = 32 then ((c : Int), 1, none) else ((c : Int), 0, some 0)
noncomputable def partW (z : Int) : List Nat → PartT
  | [] => (0, 0, none)
  | c :: r => r.foldl (fun p (s : Nat) => grownP p (s : Int) z) (baseP c)
theorem partW_snoc (z : Int) {w : List Nat} (h : w ≠ []) (s : Nat) : partW z (w ++ [s]) = grownP (partW z w) (s : Int) z := by
  cases w with
  | nil => exact absurd rfl h
  | cons c r => show List.foldl _ _ (r ++ [s]) = _; rw [List.foldl_append]; rfl
theorem grown_first (p : PartT) (s z : Int) : (grownP p s z).1 = p.1 := by
  obtain ⟨f, a, b⟩ := p
  cases b with
  | none => unfold grownP; dsimp only; split <;> rfl
  | some b => rfl
theorem partW_first (z : Int) (c : Nat) (r : List Nat) : (partW z (c :: r)).1 = (c : Int) := by
  show (List.foldl (fun p (s : Nat) => grownP p (s : Int) z) (baseP c) r).1 = _
  have : ∀ (r : List Nat) (p : PartT), (r.foldl (fun p (s : Nat) => grownP p (s : Int) z) p).1 = p.1 := by
    intro r
    induction r with
    | nil => intro p; rfl
    | cons s r ih => intro p; rw [List.foldl_cons, ih, grown_first]
  rw [this]
  unfold baseP; split <;> rfl
theorem colNext_grown {z : Int} (hz : 0 < z) (c : Int) (p : PartT) (s : Int) : colNext c (grownP p s z) z = if s = 32 then colNext c p z + 1 else (colNext c p z / z + 1) * z := by
  obtain ⟨f, a, b⟩ := p
  by_cases hs : s = 32
  · rw [if_pos hs]
    cases b with
    | none => simp only [grownP, if_pos hs, colNext]; lia
    | some b => simp only [grownP, if_pos hs, colNext]; lia
  · rw [if_neg hs]
    cases b with
    | none => simp only [grownP, if_neg hs, colNext]; lia
    | some b =>
      simp only [grownP, if_neg hs, colNext]
      rw [Int.add_comm (((c + a) / z + 1) * z) b, Int.add_mul_ediv_right _ _ (by lia), ← Int.add_mul]
      congr 1; lia
theorem colNext_base {z : Int} (_ : 0 < z) (c : Int) (ch : Nat) : colNext c (baseP ch) z = if (ch : Int) = 32 then c + 1 else (c / z + 1) * z := by
  unfold baseP
  split
  · rfl
  · simp only [colNext]; rw [Int.add_zero, Int.add_zero]
theorem colNext_part {z : Nat} (hz : 0 < z) (c : Nat) : ∀ (w : List Nat), w ≠ [] → colNext (c : Int) (partW (z : Int) w) (z : Int) = ((w.foldl (colStep z) c : Nat) : Int) := by
  have step : ∀ (x : Nat) (s : Nat), (if (s : Int) = 32 then (x : Int) + 1 else ((x : Int) / (z : Int) + 1) * (z : Int)) = ((colStep z x s : Nat) : Int) := fun x s => by
    unfold colStep
    by_cases e : s = 32
    · rw [if_pos (by lia), if_pos e]; rfl
    · rw [if_neg (by lia), if_neg e]; rfl
  intro w
  refine snoc_ind (P := fun w => w ≠ [] → colNext (c : Int) (partW (z : Int) w) (z : Int) = ((w.foldl (colStep z) c : Nat) : Int)) (fun h => absurd rfl h) (fun w s ih _ => ?_) w
  by_cases h : w = []
  · subst h
    show colNext (c : Int) (baseP s) (z : Int) = _
    rw [colNext_base (by lia), step]; rfl
  · rw [partW_snoc _ h, colNext_grown (by lia), ih h, step, List.foldl_append]; rfl
section
variable {T : List Nat} {codes : List Int} {ps : List Nat} {n : Nat}
/-- all that is known of the packing -/
structure Packed (T : List Nat) (codes : List Int) (ps : List Nat) : Prop where
  steps : ∀ i, i < codes.length → StepOk T codes ps i
  plen : ps.length = codes.length + 1
  first : ps.getD 0 0 = 0
  last : ps.getD codes.length 0 = T.length
theorem Packed.inc (h : Packed T codes ps) : ∀ (d i : Nat), i + d + 1 < ps.length → ps.getD i 0 < ps.getD (i + d + 1) 0
  | 0, i, hi => (h.steps i (by have := h.plen; lia)).lt
  | d + 1, i, hi => by
    have h1 := h.inc d i (by lia)
    have h2 := (h.steps (i + d + 1) (by have := h.plen; lia)).lt
    rw [show i + (d + 1) + 1 = i + d + 1 + 1 from by lia]; lia
theorem Packed.mono (h : Packed T codes ps) {i j : Nat} (hij : i < j) (hj : j < ps.length) : ps.getD i 0 < ps.getD j 0 := by
  have := h.inc (j - i - 1) i (by lia)
  rwa [show i + (j - i - 1) + 1 = j from by lia] at this
theorem Packed.le (h : Packed T codes ps) {i : Nat} (hi : i < ps.length) : ps.getD i 0 ≤ T.length := by
  have hp := h.plen
  by_cases e : i = codes.length
  · rw [e, h.last]; exact Nat.le_refl _
  · have := h.mono (i := i) (j := codes.length) (by lia) (by lia)
    rw [h.last] at this; lia
/-- what stands in the book -/
theorem book_mem {i : Nat} {w : List Nat} {c : Int} (h : (w, c) ∈ bookAt T ps i) : (w = [9] ∧ c = 9) ∨ (w = [32] ∧ c = 32) ∨ ∃ j, j < i ∧ w = (T.take (ps.getD (j + 1) 0 + 1)).drop (ps.getD j 0) ∧ c = 256 + (j : Int) := by
  unfold bookAt at h
  rcases List.mem_append.mp h with h | h
  · simp only [book0, List.mem_cons, List.not_mem_nil, or_false, Prod.mk.injEq] at h
    rcases h with h | h
    · exact .inl h
    · exact .inr (.inl h)
  · obtain ⟨j, hj, e⟩ := List.mem_map.mp h
    rw [Prod.mk.injEq] at e
    exact .inr (.inr ⟨j, List.mem_range.mp hj, e.1.symm, e.2.symm⟩)
theorem Packed.entry_len (h : Packed T codes ps) {j i : Nat} (hj : j < i) (hi : i < codes.length) : ((T.take (ps.getD (j + 1) 0 + 1)).drop (ps.getD j 0)).length = ps.getD (j + 1) 0 + 1 - ps.getD j 0 ∧ ps.getD (j + 1) 0 + 1 ≤ T.length := by
  have hp := h.plen
  have h1 := h.mono (i := j + 1) (j := codes.length) (by lia) (by lia)
  rw [h.last] at h1
  exact ⟨seg_len (by lia), by lia⟩
theorem Packed.long (h : Packed T codes ps) {i : Nat} (hi : i < codes.length) : LongStep T (codes ++ [0]) ps i := by
  have hp := h.plen
  obtain ⟨⟨c, hc, hm⟩, hlt, hle, hmax, huniq⟩ := h.steps i hi
  refine ⟨c, by rw [List.getElem?_append_left hi]; exact hc, ?_, ?_⟩
  · have hphl := seg_len (p := ps.getD i 0) hle
    generalize hph : (T.take (ps.getD (i + 1) 0)).drop (ps.getD i 0) = ph at hm hphl
    have hfit : ∀ e ∈ bookAt T ps i, fitB T (ps.getD i 0) e = true → e.1.length = ps.getD (i + 1) 0 - ps.getD i 0 → e = (ph, c) := fun e he hf hl => by
      refine huniq e he _ hm ?_
      have := of_decide_eq_true hf
      rw [hl, show ps.getD i 0 + (ps.getD (i + 1) 0 - ps.getD i 0) = ps.getD (i + 1) 0 from by lia, hph] at this
      exact this.symm
    have hme : (((ps.getD (i + 1) 0 : Nat) : Int) - (ps.getD i 0 : Nat), c) = ((ph.length : Int), c) := by rw [hphl]; congr 1; lia
    rw [hme]
    have hfp : fitB T (ps.getD i 0) (ph, c) = true := by
      unfold fitB
      rw [decide_eq_true_iff]
      dsimp only
      rw [hphl, show ps.getD i 0 + (ps.getD (i + 1) 0 - ps.getD i 0) = ps.getD (i + 1) 0 from by lia, hph]
    refine best_is _ _ (.tail _ ?_) fun k hk => ?_
    · exact List.mem_map.mpr ⟨(ph, c), List.mem_filter.mpr ⟨hm, hfp⟩, rfl⟩
    · rcases List.mem_cons.mp hk with rfl | hk
      · right; show (0 : Int) < ph.length; lia
      · obtain ⟨e, he, rfl⟩ := List.mem_map.mp hk
        obtain ⟨he1, he2⟩ := List.mem_filter.mp he
        have hl := hmax e he1 he2
        by_cases q : e.1.length = ps.getD (i + 1) 0 - ps.getD i 0
        · left; rw [hfit e he1 he2 q]
        · right; show (e.1.length : Int) < ph.length; lia
  · have hphl := seg_len (p := ps.getD i 0) hle
    rw [Bool.eq_iff_iff, decide_eq_true_iff, decide_eq_true_iff]
    rcases book_mem hm with ⟨e1, e2⟩ | ⟨e1, e2⟩ | ⟨j, hj, e1, e2⟩
    · rw [e1, List.length_singleton] at hphl; lia
    · rw [e1, List.length_singleton] at hphl; lia
    · obtain ⟨q1, q2⟩ := h.entry_len hj hi
      rw [← e1, hphl] at q1
      have := h.mono (i := j) (j := j + 1) (by lia) (by lia)
      lia
/-- the parts that the decoder has at a step -/
noncomputable def partsAt (T ps : List Nat) (z : Int) (i : Nat) : List PartT := (List.range (i - 1)).map fun j => partW z ((T.take (ps.getD (j + 1) 0 + 1)).drop (ps.getD j 0))
noncomputable def pastAt (T ps : List Nat) (z : Int) (i : Nat) : Option PartT := if i = 0 then none else some (partW z ((T.take (ps.getD i 0)).drop (ps.getD (i - 1) 0)))
theorem Packed.grow (h : Packed T codes ps) (z : Int) {i : Nat} (hi : i < codes.length) (hi0 : i ≠ 0) : grownP (partW z ((T.take (ps.getD i 0)).drop (ps.getD (i - 1) 0))) ((T.getD (ps.getD i 0) 0 : Nat) : Int) z = partW z ((T.take (ps.getD i 0 + 1)).drop (ps.getD (i - 1) 0)) := by
  have hp := h.plen
  have h1 := h.mono (i := i - 1) (j := i) (by lia) (by lia)
  have h2 := h.mono (i := i) (j := codes.length) (by lia) (by lia)
  rw [h.last] at h2
  rw [seg_snoc (by lia) h2, partW_snoc]
  intro z
  have := congrArg List.length z
  rw [seg_len (by lia), List.length_nil] at this
  lia
theorem Packed.part (h : Packed T codes ps) {z : Int} {i : Nat} (hi : i < codes.length) {c : Int} (hc : codes[i]? = some c) : c ≠ 0 ∧ partOf (partsAt T ps z i) (pastAt T ps z i) c z = partW z ((T.take (ps.getD (i + 1) 0)).drop (ps.getD i 0)) := by
  have hp := h.plen
  obtain ⟨⟨c', hc', hm⟩, hlt, hle, hmax, huniq⟩ := h.steps i hi
  rw [hc] at hc'
  cases hc'
  rcases book_mem hm with ⟨e1, rfl⟩ | ⟨e1, rfl⟩ | ⟨j, hj, e1, rfl⟩
  · rw [e1]; exact ⟨by decide, rfl⟩
  · rw [e1]; exact ⟨by decide, rfl⟩
  · refine ⟨by lia, ?_⟩
    unfold partOf
    rw [if_neg (by lia), show (256 : Int) + (j : Int) - 256 = (j : Int) from by lia, Int.toNat_natCast]
    have hl : (partsAt T ps z i).length = i - 1 := by simp [partsAt]
    rw [hl]
    by_cases hji : j < i - 1
    · rw [if_pos (by lia), e1, List.getD_eq_getElem?_getD]
      simp [partsAt, hji]
    · rw [if_neg (by lia)]
      have hij : j = i - 1 := by lia
      have hi0 : i ≠ 0 := by lia
      have hpast : pastAt T ps z i = some (partW z ((T.take (ps.getD i 0)).drop (ps.getD (i - 1) 0))) := if_neg hi0
      rw [hpast]
      dsimp only
      rw [hij, show i - 1 + 1 = i from by lia] at e1
      have h1 := h.mono (i := i - 1) (j := i) (by lia) (by lia)
      have h2 := h.mono (i := i) (j := codes.length) (by lia) (by lia)
      rw [h.last] at h2
      have hfirst : (partW z ((T.take (ps.getD i 0)).drop (ps.getD (i - 1) 0))).1 = ((T.getD (ps.getD i 0) 0 : Nat) : Int) := by
        rw [seg_cons h1 (by lia), partW_first]
        have e3 := e1
        rw [seg_cons (by lia : ps.getD (i - 1) 0 < ps.getD i 0 + 1) (by lia), seg_cons hlt hle] at e3
        rw [(List.cons.inj e3).1]
      rw [hfirst, h.grow z hi hi0, e1]
theorem Packed.cols (h : Packed T codes ps) {z : Nat} (hz : 0 < z) : ∀ (d i : Nat), i + d = codes.length →
    colsGo (z : Int) ((codes ++ [0]).drop i) (partsAt T ps z i) (pastAt T ps z i) ((col z (T.take (ps.getD i 0)) : Nat) : Int) = (ps.drop (i + 1)).map fun p => ((col z (T.take p) : Nat) : Int)
  | 0, i, hi => by
    have hp := h.plen
    rw [show i = codes.length from by lia, List.drop_append_of_le_length (Nat.le_refl _), List.drop_length, List.drop_of_length_le (by lia)]
    simp [colsGo]
  | d + 1, i, hid => by
    have hp := h.plen
    have hi : i < codes.length := by lia
    have hlt' : i < (codes ++ [0]).length := by rw [List.length_append]; lia
    obtain ⟨hc0, hpart⟩ := h.part (z := (z : Int)) hi (List.getElem?_eq_getElem hi)
    have hco : (codes ++ [0])[i] = codes[i] := List.getElem_append_left hi
    have hs := h.steps i hi
    rw [List.drop_eq_getElem_cons hlt', hco, colsGo, if_neg hc0, hpart]
    have hne : (T.take (ps.getD (i + 1) 0)).drop (ps.getD i 0) ≠ [] := fun q => by
      have := congrArg List.length q
      rw [seg_len hs.le, List.length_nil] at this
      have := hs.lt
      lia
    have hcn : colNext ((col z (T.take (ps.getD i 0)) : Nat) : Int) (partW (z : Int) ((T.take (ps.getD (i + 1) 0)).drop (ps.getD i 0))) (z : Int) = ((col z (T.take (ps.getD (i + 1) 0)) : Nat) : Int) := by
      rw [colNext_part hz _ _ hne, ← col_append]
      congr 2
      have : T.take (ps.getD i 0) = (T.take (ps.getD (i + 1) 0)).take (ps.getD i 0) := by
        have := hs.lt
        rw [List.take_take, Nat.min_eq_left (by lia)]
      rw [this, List.take_append_drop]
    have hnext : partsNext (partsAt T ps z i) (pastAt T ps z i) (partW (z : Int) ((T.take (ps.getD (i + 1) 0)).drop (ps.getD i 0))) (z : Int) = partsAt T ps z (i + 1) := by
      by_cases hi0 : i = 0
      · subst hi0; rfl
      · have hpast : pastAt T ps z i = some (partW z ((T.take (ps.getD i 0)).drop (ps.getD (i - 1) 0))) := if_neg hi0
        rw [hpast]
        show partsAt T ps z i ++ [grownP _ _ _] = _
        rw [seg_cons hs.lt hs.le, partW_first, h.grow (z : Int) hi hi0]
        unfold partsAt
        rw [show i + 1 - 1 = (i - 1) + 1 from by lia, List.range_succ, List.map_append, List.map_singleton, show i - 1 + 1 = i from by lia]
    have hpast' : pastAt T ps z (i + 1) = some (partW (z : Int) ((T.take (ps.getD (i + 1) 0)).drop (ps.getD i 0))) := if_neg (by lia)
    rw [hcn, hnext, ← hpast', h.cols hz d (i + 1) (by lia)]
    have hps : i + 1 < ps.length := by lia
    rw [List.drop_eq_getElem_cons hps, List.map_cons]
    congr 3
    rw [List.getD_eq_getElem?_getD, List.getElem?_eq_getElem hps]; rfl
end
theorem lzw_ex {T : List Nat} (hT : Ws T) (hTl : T.length ≤ 900) : ∃ codes ps, Packs T book0 0 codes ∧ Packed T codes ps ∧ codes.length ≤ T.length := by
  obtain ⟨codes, ps, R⟩ := run_all hT hTl
  have hl := R.last
  have hs := R.steps
  have hc := R.clen
  simp only [List.length_nil, Nat.zero_add, List.nil_append] at hl hs hc
  exact ⟨codes, [0] ++ ps, R.packs, ⟨fun i hi => hs i (Nat.zero_le _) hi, by simp [R.len], rfl, hl⟩, hc⟩
noncomputable def lawBody (w : World) : List Stmt := match (fdAt w 173).body with | .stmts b => b | _ => []
noncomputable def lawScope (w : World) : Scope := (fdAt w 173).scope
/-- the law's frame -/
noncomputable def lawFr (cells places sizes leads free en runs width rows : Option Value) : Fm :=
  [(Str.ofString "cells", cells), (Str.ofString "places", places), (Str.ofString "sizes", sizes), (Str.ofString "leads", leads), (Str.ofString "free", free), (Str.ofString "end", en), (Str.ofString "runs", runs), (Str.ofString "width", width), (Str.ofString "rows", rows)]
noncomputable def lawNw (L : Addr) (script place pieces text turned codes size table aims stops goal : Option Value) : Nw :=
  [(L + 11, CellO goal), (L + 10, CellO stops), (L + 9, CellO aims), (L + 8, CellO table), (L + 7, CellO size), (L + 6, CellO codes), (L + 5, CellO turned), (L + 4, CellO text), (L + 3, CellO pieces), (L + 2, CellO place), (L + 1, CellO script), (170, TabP #[])]
noncomputable def lawCells (L : Addr) : List (Str × Addr) := [(Str.ofString "goal", L + 11), (Str.ofString "stops", L + 10), (Str.ofString "aims", L + 9), (Str.ofString "table", L + 8), (Str.ofString "size", L + 7), (Str.ofString "codes", L + 6), (Str.ofString "turned", L + 5), (Str.ofString "text", L + 4), (Str.ofString "pieces", L + 3), (Str.ofString "place", L + 2), (Str.ofString "script", L + 1)]
/-- the ledger behind the lambda -/
noncomputable def lawNw2 (L : Addr) (script place pieces text turned codes size table aims stops goal : Option Value) : Nw :=
  [(L + 11, CellO goal), (L + 10, CellO stops), (L + 9, CellO aims), (L + 8, CellO table), (L + 7, CellO size), (L + 6, CellO codes), (L + 5, CellO turned), (L + 4, CellO text), (L + 3, CellO pieces), (L + 2, CellO place), (L + 1, CellO script)]
section
variable {L : Addr} {cells places sizes leads free en runs width rows : Option Value} {script place pieces text turned codes size table aims stops goal : Option Value} {v : Value}
theorem lfm0 : (Str.ofString "cells", some v) ∈ lawFr (some v) places sizes leads free en runs width rows := by unfold lawFr; walk_at "m_mem"
theorem lfu0 : UpdF (lawFr cells places sizes leads free en runs width rows) (Str.ofString "cells") v (lawFr (some v) places sizes leads free en runs width rows) := by unfold lawFr; walk_at "m_upd"
theorem lfm1 : (Str.ofString "places", some v) ∈ lawFr cells (some v) sizes leads free en runs width rows := by unfold lawFr; walk_at "m_mem"
theorem lfu1 : UpdF (lawFr cells places sizes leads free en runs width rows) (Str.ofString "places") v (lawFr cells (some v) sizes leads free en runs width rows) := by unfold lawFr; walk_at "m_upd"
theorem lfm2 : (Str.ofString "sizes", some v) ∈ lawFr cells places (some v) leads free en runs width rows := by unfold lawFr; walk_at "m_mem"
theorem lfu2 : UpdF (lawFr cells places sizes leads free en runs width rows) (Str.ofString "sizes") v (lawFr cells places (some v) leads free en runs width rows) := by unfold lawFr; walk_at "m_upd"
theorem lfm3 : (Str.ofString "leads", some v) ∈ lawFr cells places sizes (some v) free en runs width rows := by unfold lawFr; walk_at "m_mem"
theorem lfu3 : UpdF (lawFr cells places sizes leads free en runs width rows) (Str.ofString "leads") v (lawFr cells places sizes (some v) free en runs width rows) := by unfold lawFr; walk_at "m_upd"
theorem lfm4 : (Str.ofString "free", some v) ∈ lawFr cells places sizes leads (some v) en runs width rows := by unfold lawFr; walk_at "m_mem"
theorem lfu4 : UpdF (lawFr cells places sizes leads free en runs width rows) (Str.ofString "free") v (lawFr cells places sizes leads (some v) en runs width rows) := by unfold lawFr; walk_at "m_upd"
theorem lfm5 : (Str.ofString "end", some v) ∈ lawFr cells places sizes leads free (some v) runs width rows := by unfold lawFr; walk_at "m_mem"
theorem lfu5 : UpdF (lawFr cells places sizes leads free en runs width rows) (Str.ofString "end") v (lawFr cells places sizes leads free (some v) runs width rows) := by unfold lawFr; walk_at "m_upd"
theorem lfm6 : (Str.ofString "runs", some v) ∈ lawFr cells places sizes leads free en (some v) width rows := by unfold lawFr; walk_at "m_mem"
theorem lfu6 : UpdF (lawFr cells places sizes leads free en runs width rows) (Str.ofString "runs") v (lawFr cells places sizes leads free en (some v) width rows) := by unfold lawFr; walk_at "m_upd"
theorem lfm7 : (Str.ofString "width", some v) ∈ lawFr cells places sizes leads free en runs (some v) rows := by unfold lawFr; walk_at "m_mem"
theorem lfu7 : UpdF (lawFr cells places sizes leads free en runs width rows) (Str.ofString "width") v (lawFr cells places sizes leads free en runs (some v) rows) := by unfold lawFr; walk_at "m_upd"
theorem lfm8 : (Str.ofString "rows", some v) ∈ lawFr cells places sizes leads free en runs width (some v) := by unfold lawFr; walk_at "m_mem"
theorem lfu8 : UpdF (lawFr cells places sizes leads free en runs width rows) (Str.ofString "rows") v (lawFr cells places sizes leads free en runs width (some v)) := by unfold lawFr; walk_at "m_upd"
theorem lnm0 : (L + 1, CellO script) ∈ lawNw L script place pieces text turned codes size table aims stops goal := by unfold lawNw; walk_at "m_mem"
theorem lnu0 : UpdN (lawNw L script place pieces text turned codes size table aims stops goal) (L + 1) (CellO script) (CellO (some v)) (lawNw L (some v) place pieces text turned codes size table aims stops goal) := by unfold lawNw; walk_at "m_updn"
theorem lnm1 : (L + 2, CellO place) ∈ lawNw L script place pieces text turned codes size table aims stops goal := by unfold lawNw; walk_at "m_mem"
theorem lnu1 : UpdN (lawNw L script place pieces text turned codes size table aims stops goal) (L + 2) (CellO place) (CellO (some v)) (lawNw L script (some v) pieces text turned codes size table aims stops goal) := by unfold lawNw; walk_at "m_updn"
theorem lnm2 : (L + 3, CellO pieces) ∈ lawNw L script place pieces text turned codes size table aims stops goal := by unfold lawNw; walk_at "m_mem"
theorem lnu2 : UpdN (lawNw L script place pieces text turned codes size table aims stops goal) (L + 3) (CellO pieces) (CellO (some v)) (lawNw L script place (some v) text turned codes size table aims stops goal) := by unfold lawNw; walk_at "m_updn"
theorem lnm3 : (L + 4, CellO text) ∈ lawNw L script place pieces text turned codes size table aims stops goal := by unfold lawNw; walk_at "m_mem"
theorem lnu3 : UpdN (lawNw L script place pieces text turned codes size table aims stops goal) (L + 4) (CellO text) (CellO (some v)) (lawNw L script place pieces (some v) turned codes size table aims stops goal) := by unfold lawNw; walk_at "m_updn"
theorem lnm4 : (L + 5, CellO turned) ∈ lawNw L script place pieces text turned codes size table aims stops goal := by unfold lawNw; walk_at "m_mem"
theorem lnu4 : UpdN (lawNw L script place pieces text turned codes size table aims stops goal) (L + 5) (CellO turned) (CellO (some v)) (lawNw L script place pieces text (some v) codes size table aims stops goal) := by unfold lawNw; walk_at "m_updn"
theorem lnm5 : (L + 6, CellO codes) ∈ lawNw L script place pieces text turned codes size table aims stops goal := by unfold lawNw; walk_at "m_mem"
theorem lnu5 : UpdN (lawNw L script place pieces text turned codes size table aims stops goal) (L + 6) (CellO codes) (CellO (some v)) (lawNw L script place pieces text turned (some v) size table aims stops goal) := by unfold lawNw; walk_at "m_updn"
theorem lnm6 : (L + 7, CellO size) ∈ lawNw L script place pieces text turned codes size table aims stops goal := by unfold lawNw; walk_at "m_mem"
theorem lnu6 : UpdN (lawNw L script place pieces text turned codes size table aims stops goal) (L + 7) (CellO size) (CellO (some v)) (lawNw L script place pieces text turned codes (some v) table aims stops goal) := by unfold lawNw; walk_at "m_updn"
theorem lnm7 : (L + 8, CellO table) ∈ lawNw L script place pieces text turned codes size table aims stops goal := by unfold lawNw; walk_at "m_mem"
theorem lnu7 : UpdN (lawNw L script place pieces text turned codes size table aims stops goal) (L + 8) (CellO table) (CellO (some v)) (lawNw L script place pieces text turned codes size (some v) aims stops goal) := by unfold lawNw; walk_at "m_updn"
theorem lnm8 : (L + 9, CellO aims) ∈ lawNw L script place pieces text turned codes size table aims stops goal := by unfold lawNw; walk_at "m_mem"
theorem lnu8 : UpdN (lawNw L script place pieces text turned codes size table aims stops goal) (L + 9) (CellO aims) (CellO (some v)) (lawNw L script place pieces text turned codes size table (some v) stops goal) := by unfold lawNw; walk_at "m_updn"
theorem lnm9 : (L + 10, CellO stops) ∈ lawNw L script place pieces text turned codes size table aims stops goal := by unfold lawNw; walk_at "m_mem"
theorem lnu9 : UpdN (lawNw L script place pieces text turned codes size table aims stops goal) (L + 10) (CellO stops) (CellO (some v)) (lawNw L script place pieces text turned codes size table aims (some v) goal) := by unfold lawNw; walk_at "m_updn"
theorem lnm10 : (L + 11, CellO goal) ∈ lawNw L script place pieces text turned codes size table aims stops goal := by unfold lawNw; walk_at "m_mem"
theorem lnu10 : UpdN (lawNw L script place pieces text turned codes size table aims stops goal) (L + 11) (CellO goal) (CellO (some v)) (lawNw L script place pieces text turned codes size table aims stops (some v)) := by unfold lawNw; walk_at "m_updn"
theorem lkm0 : (L + 1, CellO script) ∈ lawNw2 L script place pieces text turned codes size table aims stops goal := by unfold lawNw2; walk_at "m_mem"
theorem lku0 : UpdN (lawNw2 L script place pieces text turned codes size table aims stops goal) (L + 1) (CellO script) (CellO (some v)) (lawNw2 L (some v) place pieces text turned codes size table aims stops goal) := by unfold lawNw2; walk_at "m_updn"
theorem lkm1 : (L + 2, CellO place) ∈ lawNw2 L script place pieces text turned codes size table aims stops goal := by unfold lawNw2; walk_at "m_mem"
theorem lku1 : UpdN (lawNw2 L script place pieces text turned codes size table aims stops goal) (L + 2) (CellO place) (CellO (some v)) (lawNw2 L script (some v) pieces text turned codes size table aims stops goal) := by unfold lawNw2; walk_at "m_updn"
theorem lkm2 : (L + 3, CellO pieces) ∈ lawNw2 L script place pieces text turned codes size table aims stops goal := by unfold lawNw2; walk_at "m_mem"
theorem lku2 : UpdN (lawNw2 L script place pieces text turned codes size table aims stops goal) (L + 3) (CellO pieces) (CellO (some v)) (lawNw2 L script place (some v) text turned codes size table aims stops goal) := by unfold lawNw2; walk_at "m_updn"
theorem lkm3 : (L + 4, CellO text) ∈ lawNw2 L script place pieces text turned codes size table aims stops goal := by unfold lawNw2; walk_at "m_mem"
theorem lku3 : UpdN (lawNw2 L script place pieces text turned codes size table aims stops goal) (L + 4) (CellO text) (CellO (some v)) (lawNw2 L script place pieces (some v) turned codes size table aims stops goal) := by unfold lawNw2; walk_at "m_updn"
theorem lkm4 : (L + 5, CellO turned) ∈ lawNw2 L script place pieces text turned codes size table aims stops goal := by unfold lawNw2; walk_at "m_mem"
theorem lku4 : UpdN (lawNw2 L script place pieces text turned codes size table aims stops goal) (L + 5) (CellO turned) (CellO (some v)) (lawNw2 L script place pieces text (some v) codes size table aims stops goal) := by unfold lawNw2; walk_at "m_updn"
theorem lkm5 : (L + 6, CellO codes) ∈ lawNw2 L script place pieces text turned codes size table aims stops goal := by unfold lawNw2; walk_at "m_mem"
theorem lku5 : UpdN (lawNw2 L script place pieces text turned codes size table aims stops goal) (L + 6) (CellO codes) (CellO (some v)) (lawNw2 L script place pieces text turned (some v) size table aims stops goal) := by unfold lawNw2; walk_at "m_updn"
theorem lkm6 : (L + 7, CellO size) ∈ lawNw2 L script place pieces text turned codes size table aims stops goal := by unfold lawNw2; walk_at "m_mem"
theorem lku6 : UpdN (lawNw2 L script place pieces text turned codes size table aims stops goal) (L + 7) (CellO size) (CellO (some v)) (lawNw2 L script place pieces text turned codes (some v) table aims stops goal) := by unfold lawNw2; walk_at "m_updn"
theorem lkm7 : (L + 8, CellO table) ∈ lawNw2 L script place pieces text turned codes size table aims stops goal := by unfold lawNw2; walk_at "m_mem"
theorem lku7 : UpdN (lawNw2 L script place pieces text turned codes size table aims stops goal) (L + 8) (CellO table) (CellO (some v)) (lawNw2 L script place pieces text turned codes size (some v) aims stops goal) := by unfold lawNw2; walk_at "m_updn"
theorem lkm8 : (L + 9, CellO aims) ∈ lawNw2 L script place pieces text turned codes size table aims stops goal := by unfold lawNw2; walk_at "m_mem"
theorem lku8 : UpdN (lawNw2 L script place pieces text turned codes size table aims stops goal) (L + 9) (CellO aims) (CellO (some v)) (lawNw2 L script place pieces text turned codes size table (some v) stops goal) := by unfold lawNw2; walk_at "m_updn"
theorem lkm9 : (L + 10, CellO stops) ∈ lawNw2 L script place pieces text turned codes size table aims stops goal := by unfold lawNw2; walk_at "m_mem"
theorem lku9 : UpdN (lawNw2 L script place pieces text turned codes size table aims stops goal) (L + 10) (CellO stops) (CellO (some v)) (lawNw2 L script place pieces text turned codes size table aims (some v) goal) := by unfold lawNw2; walk_at "m_updn"
theorem lkm10 : (L + 11, CellO goal) ∈ lawNw2 L script place pieces text turned codes size table aims stops goal := by unfold lawNw2; walk_at "m_mem"
theorem lku10 : UpdN (lawNw2 L script place pieces text turned codes size table aims stops goal) (L + 11) (CellO goal) (CellO (some v)) (lawNw2 L script place pieces text turned codes size table aims stops (some v)) := by unfold lawNw2; walk_at "m_updn"
end
local macro_rules | `(tactic| walk_at "m_mem") => `(tactic| with_reducible first | exact lfm0 | exact lfm1 | exact lfm2 | exact lfm3 | exact lfm4 | exact lfm5 | exact lfm6 | exact lfm7 | exact lfm8 | exact lnm0 | exact lnm1 | exact lnm2 | exact lnm3 | exact lnm4 | exact lnm5 | exact lnm6 | exact lnm7 | exact lnm8 | exact lnm9 | exact lnm10 | exact lkm0 | exact lkm1 | exact lkm2 | exact lkm3 | exact lkm4 | exact lkm5 | exact lkm6 | exact lkm7 | exact lkm8 | exact lkm9 | exact lkm10)
local macro_rules | `(tactic| walk_at "m_upd") => `(tactic| with_reducible first | exact lfu0 | exact lfu1 | exact lfu2 | exact lfu3 | exact lfu4 | exact lfu5 | exact lfu6 | exact lfu7 | exact lfu8)
local macro_rules | `(tactic| walk_at "m_updn") => `(tactic| with_reducible first | exact lnu0 | exact lnu1 | exact lnu2 | exact lnu3 | exact lnu4 | exact lnu5 | exact lnu6 | exact lnu7 | exact lnu8 | exact lnu9 | exact lnu10 | exact lku0 | exact lku1 | exact lku2 | exact lku3 | exact lku4 | exact lku5 | exact lku6 | exact lku7 | exact lku8 | exact lku9 | exact lku10)
structure LawE (w : World) (env : Env) (L : Addr) : Prop where
  eF : EnvF env L
  scope : env.scope = lawScope w
  cells : env.cells = lawCells L
  code : env.code = .ref 172
  qual : env.qual = Str.ofString "law.<locals>."
  l0 : NmL env (Str.ofString "cells")
  l1 : NmL env (Str.ofString "places")
  l2 : NmL env (Str.ofString "sizes")
  l3 : NmL env (Str.ofString "leads")
  l4 : NmL env (Str.ofString "free")
  l5 : NmL env (Str.ofString "end")
  l6 : NmL env (Str.ofString "runs")
  l7 : NmL env (Str.ofString "width")
  l8 : NmL env (Str.ofString "rows")
  c0 : NmC env (Str.ofString "script") (L + 1)
  c1 : NmC env (Str.ofString "place") (L + 2)
  c2 : NmC env (Str.ofString "pieces") (L + 3)
  c3 : NmC env (Str.ofString "text") (L + 4)
  c4 : NmC env (Str.ofString "turned") (L + 5)
  c5 : NmC env (Str.ofString "codes") (L + 6)
  c6 : NmC env (Str.ofString "size") (L + 7)
  c7 : NmC env (Str.ofString "table") (L + 8)
  c8 : NmC env (Str.ofString "aims") (L + 9)
  c9 : NmC env (Str.ofString "stops") (L + 10)
  c10 : NmC env (Str.ofString "goal") (L + 11)
  b0 : NmV w env (Str.ofString "enumerate") (.type "enumerate")
  b1 : NmV w env (Str.ofString "sum") (.builtin "sum")
  b2 : NmV w env (Str.ofString "len") (.builtin "len")
  b3 : NmV w env (Str.ofString "list") (.type "list")
  b4 : NmV w env (Str.ofString "range") (.type "range")
  b5 : NmV w env (Str.ofString "max") (.builtin "max")
  b6 : NmV w env (Str.ofString "min") (.builtin "min")
  d0 : NmV w env (Str.ofString "_law_packed") (.ref 142)
  d1 : NmV w env (Str.ofString "_law_columns") (.ref 156)
  d2 : NmV w env (Str.ofString "_law_longest") (.ref 168)
  d3 : NmV w env (Str.ofString "Whitespace") (.ref 83)
  d4 : NmV w env (Str.ofString "bisect_left") (.ref 114)

theorem nm_c {env : Env} {L : Addr} {w : World} {x : Str} {c : Addr} (hs : env.scope = lawScope w) (hc : env.cells = lawCells L) (k : (lawScope w).names.lookup x = some .cell) (l : (lawCells L).lookup x = some c) (d : (x == ("__debug__" : Str)) = false) : NmC env x c :=
  ⟨by unfold Env.kindOf; rw [hs]; exact k, by rw [hc]; exact l, d⟩
theorem nm_l {env : Env} {w : World} {x : Str} (hs : env.scope = lawScope w) (k : (lawScope w).names.lookup x = some .local) (d : (x == ("__debug__" : Str)) = false) : NmL env x :=
  ⟨by unfold Env.kindOf; rw [hs]; exact k, d⟩
theorem nm_g {env : Env} {L : Addr} {w : World} {x : Str} {v : Value} (eF : EnvF env L) (hs : env.scope = lawScope w) (k : (lawScope w).names.lookup x = some .globalImplicit) (hv : nsIn (KK w) mainGlobals x = some (some v)) (d : (x == ("__debug__" : Str)) = false) : NmV w env x v :=
  nm_glob eF (by unfold Env.kindOf; rw [hs]; exact k) hv d
theorem nm_b {env : Env} {L : Addr} {w : World} {x : Str} {v : Value} (eF : EnvF env L) (hs : env.scope = lawScope w) (k : (lawScope w).names.lookup x = some .globalImplicit) (hn : nsIn (KK w) mainGlobals x = some none) (hv : bootBuiltins x = some v) (hx : x ≠ "__name__") (d : (x == ("__debug__" : Str)) = false) : NmV w env x v :=
  nm_bi eF (by unfold Env.kindOf; rw [hs]; exact k) hn hv hx d

theorem lawE_of {w : World} {env : Env} {L : Addr} (eF : EnvF env L) (hs : env.scope = lawScope w) (hc : env.cells = lawCells L) (hcd : env.code = .ref 172) (hq : env.qual = Str.ofString "law.<locals>.") : LawE w env L where
  eF := eF
  scope := hs
  cells := hc
  code := hcd
  qual := hq
  l0 := nm_l hs (by kernel_rfl) rfl
  l1 := nm_l hs (by kernel_rfl) rfl
  l2 := nm_l hs (by kernel_rfl) rfl
  l3 := nm_l hs (by kernel_rfl) rfl
  l4 := nm_l hs (by kernel_rfl) rfl
  l5 := nm_l hs (by kernel_rfl) rfl
  l6 := nm_l hs (by kernel_rfl) rfl
  l7 := nm_l hs (by kernel_rfl) rfl
  l8 := nm_l hs (by kernel_rfl) rfl
  c0 := nm_c hs hc (by kernel_rfl) rfl rfl
  c1 := nm_c hs hc (by kernel_rfl) rfl rfl
  c2 := nm_c hs hc (by kernel_rfl) rfl rfl
  c3 := nm_c hs hc (by kernel_rfl) rfl rfl
  c4 := nm_c hs hc (by kernel_rfl) rfl rfl
  c5 := nm_c hs hc (by kernel_rfl) rfl rfl
  c6 := nm_c hs hc (by kernel_rfl) rfl rfl
  c7 := nm_c hs hc (by kernel_rfl) rfl rfl
  c8 := nm_c hs hc (by kernel_rfl) rfl rfl
  c9 := nm_c hs hc (by kernel_rfl) rfl rfl
  c10 := nm_c hs hc (by kernel_rfl) rfl rfl
  b0 := nm_b eF hs (by kernel_rfl) (by kernel_rfl) rfl (by decide) rfl
  b1 := nm_b eF hs (by kernel_rfl) (by kernel_rfl) rfl (by decide) rfl
  b2 := nm_b eF hs (by kernel_rfl) (by kernel_rfl) rfl (by decide) rfl
  b3 := nm_b eF hs (by kernel_rfl) (by kernel_rfl) rfl (by decide) rfl
  b4 := nm_b eF hs (by kernel_rfl) (by kernel_rfl) rfl (by decide) rfl
  b5 := nm_b eF hs (by kernel_rfl) (by kernel_rfl) rfl (by decide) rfl
  b6 := nm_b eF hs (by kernel_rfl) (by kernel_rfl) rfl (by decide) rfl
  d0 := nm_g eF hs (by kernel_rfl) (by kernel_rfl) rfl
  d1 := nm_g eF hs (by kernel_rfl) (by kernel_rfl) rfl
  d2 := nm_g eF hs (by kernel_rfl) (by kernel_rfl) rfl
  d3 := nm_g eF hs (by kernel_rfl) (by kernel_rfl) rfl
  d4 := nm_g eF hs (by kernel_rfl) (by kernel_rfl) rfl

section
variable {w : World} {os : OsState} {g : Heap} {L : Addr} {s : Shared} {A : Around} {n : Nat} {R : Result → Shared → Prop}
theorem law_enter {l : Addr} (hA : Ar A (n + 1)) (O : Ok w os s) (htab : s.heap.get? 170 = some (tabObj #[]))
    (h : ∀ L s' A' env, LawE w env L → St w os (s.heap.hide 170) L (lawFr none none none none none none none none none) (lawNw L (some (.ref l)) none none none none none none none none none none) s' → Ar A' n →
      wpAny (MM w) A' (execs (lawBody w) env) (fun fl s'' => R (.ok (.ret (retV fl))) s'') NoE s') :
    codeAny (MM w) A (.call (.ref 173) ⟨[.ref l], []⟩) R s := by
  refine' enterC (fr := lawFr none none none none none none none none none) (binds := [(Str.ofString "script", .ref l)]) hA O rfl ?cd (BindsTo.of_eq rfl) ?kd ?cn rfl rfl rfl ?fr ?nd ?_
  case cd => kernel_rfl
  case kd => intro n x hx; simp only [List.mem_cons, List.not_mem_nil, or_false] at hx; subst hx; exact .inr ⟨rfl, rfl⟩
  case cn => decide +kernel
  case fr => intro L; unfold lawFr; walk_at "m_all"
  case nd => unfold lawFr; walk_at "m_nd"
  intro L s' A' env he S hA'
  have S0 := (S.thawTab (a := 170) ⟨_, htab, rfl⟩ (by kernel_rfl)).perm (List.perm_append_singleton _ _).symm
  have S1 : St w os (s.heap.hide 170) L (lawFr none none none none none none none none none) (lawNw L (some (.ref l)) none none none none none none none none none none) s' := S0
  exact h L s' A' env (lawE_of (he.facts rfl rfl) (by rw [he]; rfl) (by rw [he]; rfl) (by rw [he]; rfl) (by rw [he]; rfl)) S1 hA'
end
section
variable {w : World} {os : OsState} {g : Heap} {L : Addr} {fr : Fm} {nw nw1 nw2 nw' : Nw} {s s' : Shared} {A : Around} {n : Nat} {R : Result → Shared → Prop}

theorem St.upd2 (S : St w os g L fr nw s) {a b : Addr} {P P' R R' : Obj → Prop} (u1 : UpdN nw a P P' nw1) (u2 : UpdN nw1 b R R' nw2) (hab : a ≠ b) (ha : At s'.heap a P') (hf : ∀ o, P' o → o.isFreed = false) (hb : At s'.heap b R')
    (hs : ∀ c o, c ≠ a → c ≠ b → s.heap.get? c = some o → s'.heap.get? c = some o) (ho : s'.os = s.os) (hg : s'.gens = s.gens) : St w os g L fr nw2 s' := by
  obtain ⟨o', e', p'⟩ := ha
  obtain ⟨j, hj, _⟩ := u1.is
  obtain ⟨o, e, _⟩ := S.at j hj
  have e1 : (s.heap.update a fun _ => o').get? a = some o' := Heap.get?_update_self (fun _ => o') e (hf _ p')
  have S1 := S.upd (s' := { s with heap := s.heap.update a fun _ => o' }) u1 ⟨o', e1, p'⟩ (Heap.SameBut.update ..).extBut rfl rfl
  refine S1.upd u2 hb (fun c oc hc ec => ?_) ho hg
  by_cases hca : c = a
  · subst hca
    have ec' : (s.heap.update c fun _ => o').get? c = some oc := ec
    rw [e1] at ec'; cases ec'; exact e'
  · exact hs c oc hca hc (by have ec' : (s.heap.update a fun _ => o').get? c = some oc := ec; rwa [Heap.get?_update_other _ _ (fun h => hca h.symm)] at ec')

abbrev EnumO (it : Addr) (i : Int) : Obj → Prop := fun o => ∃ old, o = { cls := .type "enumerate", dict := none, data := .fields #[.none, .bool false, .ref it, rawInt i, .none, old], slots := #[] }
abbrev EnumOutO (it : Addr) (i : Int) (x : Value) (a : Addr) : Obj → Prop := fun o => o = { cls := .type "enumerate", dict := none, data := .fields #[rawInt a, .bool false, .ref it, rawInt i, .none, x], slots := #[] }
theorem r_enum {l : Addr} {vs : List Value} {Q : Value → Shared → Prop} (S : St w os g L fr nw s) (hl : s.heap.IsList l vs.toArray)
    (h : ∀ e it s', St w os g L fr ((e, EnumO it 0) :: (it, LIterO l 0) :: nw) s' → Q (.ref e) s') : wpAny (MM w) A (call (.type "enumerate") [.ref l]) Q NoE s := by
  refine call_enumerate_list hl fun h' he hi hz hk => h _ s.heap.objs.size _ ?_
  have S' := S.moved (h' := h') (tk := s.toks) hk
  have nn : ∀ k, s.heap.objs.size ≤ k → g.get? k = none := fun k hk => by
    cases q : g.get? k with
    | none => rfl
    | some o => exact absurd (Heap.lt_size (S.keep _ _ q)) (Nat.not_lt.mpr hk)
  have lt : ∀ p ∈ nw, p.1 < s.heap.objs.size := fun p hp => (S.new p hp).1.lt
  refine ⟨S'.gd, S'.keep, S'.ns, S'.gL, fun p hp => ?_, ?_, S'.hos, S'.hgens⟩
  · rcases List.mem_cons.mp hp with rfl | hp
    · exact ⟨⟨_, he, _, rfl⟩, nn _ (Nat.le_succ _), Nat.ne_of_gt (Nat.lt_succ_of_lt S.ns.lt)⟩
    · rcases List.mem_cons.mp hp with rfl | hp
      · exact ⟨hi, nn _ (Nat.le_refl _), Nat.ne_of_gt S.ns.lt⟩
      · exact S'.new p hp
  · simp only [List.map_cons, List.nodup_cons, List.mem_cons, not_or]
    refine ⟨⟨Nat.succ_ne_self _, fun hm => ?_⟩, fun hm => ?_, S.nd⟩
    · obtain ⟨p, hp, e⟩ := List.mem_map.mp hm
      exact absurd (lt p hp) (by rw [e]; exact Nat.not_lt.mpr (Nat.le_succ _))
    · obtain ⟨p, hp, e⟩ := List.mem_map.mp hm
      exact absurd (lt p hp) (by rw [e]; exact Nat.lt_irrefl _)
theorem r_next_enum {e it l : Addr} {i : Nat} {vs : List Value} {x : Value} {nwA : Addr → Nw} {nwB : Addr → Nw} {Q : Option Value → Shared → Prop} (S : St w os g L fr nw s) (u1 : ∀ a, UpdN nw e (EnumO it i) (EnumOutO it ((i : Int) + 1) x a) (nwA a)) (u2 : ∀ a, UpdN (nwA a) it (LIterO l i) (LIterO l (i + 1)) (nwB a))
    (hne : e ≠ it) (hit : s.heap.IsListIter it l i) (hl : s.heap.IsList l vs.toArray) (hx : vs[i]? = some x) (h : ∀ a t s', St w os g L fr ((a, TupO [.int i t, x]) :: nwB a) s' → Q (some (.ref a)) s') : wpAny (MM w) A (pyNext (.ref e)) Q NoE s := by
  obtain ⟨j, hj, _⟩ := (u1 0).is
  obtain ⟨o, eo, old, rfl⟩ := S.at j hj
  refine wpAny_pyNext_enum_item eo hit hl (by simpa using hx) hne fun h' he hi ht hz hk => h _ s.toks _ ?_
  have S' := S.upd2 (s' := { s with heap := h', toks := s.toks + 1 }) (u1 s.heap.objs.size) (u2 s.heap.objs.size) hne ⟨_, he, rfl⟩ (fun o p => by rw [p]; rfl) hi (fun c o h1 h2 e => hk c o h1 h2 e) rfl rfl
  have nn : g.get? s.heap.objs.size = none := by
    cases q : g.get? s.heap.objs.size with
    | none => rfl
    | some o => exact absurd (Heap.lt_size (S.keep _ _ q)) (Nat.lt_irrefl _)
  have hkeys : (nwB s.heap.objs.size).map (·.1) = nw.map (·.1) := by rw [(u2 _).keys, (u1 _).keys]
  refine ⟨S'.gd, S'.keep, S'.ns, S'.gL, fun p hp => ?_, ?_, S'.hos, S'.hgens⟩
  · rcases List.mem_cons.mp hp with rfl | hp
    · exact ⟨⟨_, ht, _, rfl⟩, nn, Nat.ne_of_gt S.ns.lt⟩
    · exact S'.new p hp
  · rw [List.map_cons, List.nodup_cons]
    refine ⟨fun hm => ?_, S'.nd⟩
    rw [hkeys] at hm
    obtain ⟨p, hp, e⟩ := List.mem_map.mp hm
    exact absurd (S.new p hp).1.lt (by rw [e]; exact Nat.lt_irrefl _)
theorem r_letgo_enum {elts : List Expr} {x1 : Nat} {pos : Pos} {e it a : Addr} {i : Int} {x : Value} {Q : Unit → Shared → Prop} (S : St w os g L fr nw s) (u : UpdN nw e (EnumOutO it i x a) (EnumO it i) nw') (h : ∀ s', St w os g L fr nw' s' → Q () s') :
    wpAny (MM w) A (letOwnedTupleGo (.Tuple elts x1 pos) (.ref e) (.ref a)) Q NoE s := by
  obtain ⟨j, hj, _⟩ := u.is
  obtain ⟨o, eo, rfl⟩ := S.at j hj
  exact wpAny_letOwnedTupleGo_enum eo fun h' he hs => h _ (S.upd (s' := { s with heap := h' }) u ⟨_, he, _, rfl⟩ hs.extBut rfl rfl)
theorem r_end_enum {e it l : Addr} {i : Nat} {vs : List Value} {nwA : Nw} {Q : Option Value → Shared → Prop} (hA : Ar A n) (S : St w os g L fr nw s) (u1 : DelN nw it (LIterO l i) nwA) (u2 : DelN nwA e (EnumO it i) nw')
    (hit : s.heap.IsListIter it l i) (hl : s.heap.IsList l vs.toArray) (hx : vs[i]? = none) (h : ∀ s', St w os g L fr nw' s' → Q none s') : wpAny (MM w) A (pyNext (.ref e)) Q NoE s := by
  obtain ⟨o, eo, old, rfl⟩ := S.mem (u1.sub.subset u2.mem)
  exact wpAny_pyNext_enum_end hA.handled eo hit hl (by simpa using hx) fun h' hs => h _ ((S.lose (s' := { s with heap := h' }) u1 hs rfl rfl).del u2)

/-- a list's slice with a step -/
theorem r_slice_list {value slice : Expr} {l a : Addr} {vs : List Value} {lo hi st : Int} {t1 t2 t3 : Tok} {ops : List Value} {Q : Value → Shared → Prop} (S : St w os g L fr ((a, SliceO (some (lo, t1)) (some (hi, t2)) (some (st, t3))) :: nw) s) (hl : s.heap.IsList l vs.toArray) (h0 : st ≠ 0) (hz : vs.length ≤ 1000000)
    (h : ∀ p ws s', (∀ v ∈ ws, v ∈ vs) → ws.length ≤ vs.length → St w os g L fr ((p, ListO ws) :: nw) s' → Q (.ref p) s') (hs : subscripted slice false (.ref l) (.ref a) = operate ops (getItem (.ref l) (.ref a)) := by with_unfolding_all rfl) :
    wpAny (MM w) A (subscriptTail value slice (.ref l) (.ref a)) Q NoE s := by
  have ha := S.mem (.head _)
  refine tail_any hl.typeIs slot_list_getitem.lookup (wpAny_getItem_list_slice (vl := .int lo t1) (vu := .int hi t2) (vs := .int st t3) (lo := some lo) (hi := some hi) (st := some st) hl ?_ (.int _ _) (.int _ _) (.int _ _) (by simpa using h0) ?_ (by rw [List.size_toArray, sizeLine_eq]; lia)) hs
  · obtain ⟨o, e, hc, hd⟩ := ha
    exact ⟨o, e, hc, hd⟩
  · refine h _ (slicePick vs.toArray (some lo) (some hi) (some st)).toList _ (fun v hv => ?_) ?_ (S.drop.alloc (s' := { s with heap := _ }) rfl ⟨0, by simp⟩ rfl rfl rfl)
    · unfold slicePick at hv
      simp only [List.mem_filterMap] at hv
      obtain ⟨k, _, hk⟩ := hv
      have hk' : vs[k]? = some v := by simpa using hk
      exact List.mem_of_getElem? hk'
    · have := slicePick_size_le vs.toArray (some lo) (some hi) (some st)
      rw [Array.length_toList]; simpa using this
end
theorem swaps_of {env : Env} {L : Addr} {elt : Expr} {gens : List Comprehension} {scope : Scope} {p pos : Pos} {t : Str} {line : Nat} (e : EnvF env L) (hy : NmL env t) (h1 : (pos.line == p.line) = true) (h2 : (scope.names.any fun x => x.1 == t && (x.2 == .local || x.2 == .cell)) = false) :
    swapsWith (.ListComp elt gens scope p) (some (.Name t pos)) line env = pure true := by
  unfold swapsWith
  show pure (env.blockKind == .function && env.kindOf t == some .local && pos.line == p.line && !(scope.names.any fun x => x.1 == t && (x.2 == .local || x.2 == .cell))) = _
  rw [h1, h2, hy.k]
  simp [Env.blockKind, e.kind, ScopeKind.isAnnotationScope]
theorem swaps_not {env : Env} {elt : Expr} {gens : List Comprehension} {scope : Scope} {p pos : Pos} {t : Str} {line : Nat} {c : Addr} (hy : NmC env t c) :
    swapsWith (.ListComp elt gens scope p) (some (.Name t pos)) line env = pure false := by
  unfold swapsWith
  show pure (env.blockKind == .function && env.kindOf t == some .local && pos.line == p.line && !(scope.names.any fun x => x.1 == t && (x.2 == .local || x.2 == .cell))) = _
  rw [hy.k, show (some NameKind.cell == some NameKind.local) = false from by decide, Bool.and_false]
  rfl
theorem lookup_relabel {env : Env} {x : Str} : ∀ {names : List (Str × NameKind)},
    (names.map fun (n, k) => if (k == NameKind.free && env.scope.kind == .function && env.kindOf n == some .cell) then (n, NameKind.cell) else (n, k)).lookup x =
      (names.lookup x).map fun k => if (k == NameKind.free && env.scope.kind == .function && env.kindOf x == some .cell) then NameKind.cell else k
  | [] => rfl
  | (n, k) :: r => by
    rw [List.map_cons, List.lookup_cons]
    have ih := @lookup_relabel env x r
    by_cases hc : (k == NameKind.free && env.scope.kind == .function && env.kindOf n == some .cell) = true
    · rw [if_pos hc, List.lookup_cons]
      cases hx : x == n with
      | true =>
        have : x = n := by simpa using hx
        subst this
        simp only [List.lookup_cons, beq_self_eq_true, Option.map_some]
        rw [if_pos hc]
      | false => simp only [List.lookup_cons, hx]; exact ih
    · rw [if_neg hc, List.lookup_cons]
      cases hx : x == n with
      | true =>
        have : x = n := by simpa using hx
        subst this
        simp only [List.lookup_cons, beq_self_eq_true, Option.map_some]
        rw [if_neg hc]
      | false => simp only [List.lookup_cons, hx]; exact ih
section
variable {env : Env} {L C : Addr} {scope : Scope} {cl : List (Str × Addr)} {x : Str} {w : World}
theorem comp_kind (x : Str) : (compEnvC scope cl C env).kindOf x = (scope.names.lookup x).map fun k => if (k == NameKind.free && env.scope.kind == .function && env.kindOf x == some .cell) then NameKind.cell else k := lookup_relabel
theorem cm_l (h : scope.names.lookup x = some .local) (d : (x == ("__debug__" : Str)) = false) : NmL (compEnvC scope cl C env) x := ⟨by rw [comp_kind, h]; rfl, d⟩
theorem cm_c {c c' : Addr} (e : EnvF env L) (hy : NmC env x c') (h : scope.names.lookup x = some .free) (l : cl.lookup x = some c) : NmC (compEnvC scope cl C env) x c :=
  ⟨by rw [comp_kind, h, hy.k]; simp [e.kind], l, hy.d⟩
theorem cm_g {v : Value} (e : EnvF env L) (hk : scope.kind = .function) (h : scope.names.lookup x = some .globalImplicit) (hv : nsIn (KK w) mainGlobals x = some (some v)) (d : (x == ("__debug__" : Str)) = false) : NmV w (compEnvC scope cl C env) x v :=
  nm_glob (compEnvF e hk) (by rw [comp_kind, h]; rfl) hv d
theorem cm_b {v : Value} (e : EnvF env L) (hk : scope.kind = .function) (h : scope.names.lookup x = some .globalImplicit) (hn : nsIn (KK w) mainGlobals x = some none) (hv : bootBuiltins x = some v) (hx : x ≠ "__name__") (d : (x == ("__debug__" : Str)) = false) : NmV w (compEnvC scope cl C env) x v :=
  nm_bi (compEnvF e hk) (by rw [comp_kind, h]; rfl) hn hv hx d
end
theorem r_iter_enum {w : World} {A : Around} {s : Shared} {e it : Addr} {i : Int} {Q E : Value → Shared → Prop} (he : At s.heap e (EnumO it i)) (h : Q (.ref e) s) : wpAny (MM w) A (pyIter (.ref e)) Q E s := by
  obtain ⟨o, eo, old, rfl⟩ := he
  exact wpAny_pyIter_enum eo h
/-- ints of a kind -/
noncomputable def VJ (p : Int → Prop) (_ : Heap) (v : Value) (_ : Unit) : Prop := ∃ c, p c ∧ VI v c
theorem vj_ints {p : Int → Prop} {g : Heap} {vs : List Value} {us : List Unit} (h : All2 (VJ p g) vs us) : ∃ cs, All2 VI vs cs ∧ cs.length = us.length ∧ ∀ c ∈ cs, p c := by
  induction h with
  | nil => exact ⟨[], .nil, rfl, fun c hc => by cases hc⟩
  | cons x _ ih =>
    obtain ⟨c, hp, hv⟩ := x
    obtain ⟨cs, h1, h2, h3⟩ := ih
    exact ⟨c :: cs, .cons hv h1, by simp [h2], fun d hd => by rcases List.mem_cons.mp hd with rfl | hd; (exact hp); (exact h3 d hd)⟩
theorem rep_snoc (i : Nat) : List.replicate (i + 1) () = List.replicate i () ++ [()] := List.replicate_succ'
local macro_rules | `(tactic| walk_at "subscriptTail Name Slice ref ref") => `(tactic| (refine' r_slice_list ?S ?x ?h0 ?z ?_ ?hs; (case S => with_reducible assumption); (case x => k_dflt (walk_at "m_isl")); (case h0 => k_dflt (decide)); (case z => k_dflt (walk_at "ar")); (case hs => k_dflt (exact rfl)); intro p' ws' s' hw' hwl' S'))
local macro_rules | `(tactic| walk_at "eval ListComp") => `(tactic| (refine' r_comp ?hc ?hk ?hn ?hs ?_; (case hc => k_dflt (first | assumption | exact closureFor_none (by decide))); (case hk => k_dflt (exact rfl)); (case hn => k_dflt (decide)); (case hs => k_dflt (exact fun _ => rfl))))
local macro_rules | `(tactic| walk_at "call type:enumerate") => `(tactic| (refine' r_enum ?S ?x ?_; (case S => with_reducible assumption); (case x => k_dflt (walk_at "m_isl")); intro e' it' s' S'))
local macro_rules | `(tactic| walk_at "call builtin:sum") => `(tactic| (refine' r_sum ?A ?S ?x ?y ?_; (case A => with_reducible assumption); (case S => with_reducible assumption); (case x => k_dflt (walk_at "m_isl")); (case y => assumption); intro t' s' S'))
local macro_rules | `(tactic| walk_at "SlEnd") => `(tactic| (refine' r_slEnd (l := some (_, _)) (u := some (_, _)) (st := some (_, _)) ?S ?_; (case S => assumption); intro a' s' S'))
noncomputable def CellsOkL (g : Heap) (a : Addr) (cs : List Int) : Prop := At g a (IntsO cs) ∧ cs.length = 6 ∧ ∀ c ∈ cs, 0 ≤ c
theorem sum_nonneg : ∀ {cs : List Int}, (∀ c ∈ cs, 0 ≤ c) → 0 ≤ cs.sum
  | [], _ => Int.le_refl _
  | c :: r, h => by
    rw [List.sum_cons]
    have := h c (.head _)
    have := sum_nonneg (cs := r) fun d hd => h d (.tail _ hd)
    lia
section
variable {w : World} {os : OsState} {g : Heap} {L : Addr} {s : Shared} {A : Around} {n : Nat}
set_option maxHeartbeats 8000000 in
theorem seg0 {env : Env} {l : Addr} {vs : List Value} {Q : Flow → Shared → Prop} (hE : LawE w env L) (hA : Ar A (n + 8)) (hl : g.IsList l vs.toArray) (hvs0 : ∀ v ∈ vs, ∃ k, VI v k) (hvl : vs.length ≤ 100)
    (S : St w os g L (lawFr none none none none none none none none none) (lawNw L (some (.ref l)) none none none none none none none none none none) s)
    (h : ∀ g' a cs s', g.StaysIn g' → CellsOkL g' a cs → St w os g' L (lawFr (some (.ref a)) none none none none none none none none) (lawNw L (some (.ref l)) none none none none none none none none none none) s' →
      wpAny (MM w) A (execs ((lawBody w).drop 1) env) Q NoE s') :
    wpAny (MM w) A (execs (lawBody w) env) Q NoE s := by
  refine (show wpAny (MM w) A (execs (_ :: (lawBody w).drop 1) env) Q NoE s from ?_)
  refine m_cut (fun s' => ∃ g' a cs, g.StaysIn g' ∧ CellsOkL g' a cs ∧ St w os g' L (lawFr (some (.ref a)) none none none none none none none none) (lawNw L (some (.ref l)) none none none none none none none none none none) s') (fun P' hPP => ?_) fun s' ⟨g', a, cs, k, hc, S'⟩ => h g' a cs s' k hc S'
  obtain ⟨eF, hs, hcells, hcode, hq, l0, l1, l2, l3, l4, l5, l6, l7, l8, c0, c1, c2, c3, c4, c5, c6, c7, c8, c9, c10, b0, b1, b2, b3, b4, b5, b6, d0, d1, d2, d3, d4⟩ := id hE
  refine r_compU (cl := [(Str.ofString "script", L + 1)]) (swaps_of eF l0 rfl (by decide)) (by unfold closureFor cellOf; rw [hcells]; rfl) rfl (by decide) (fun _ => rfl) ?_
  repeat' walk1
  rename_i e it s1 S1
  obtain ⟨g1, k1, hst, S2⟩ := S1.freezeD (.tail (.tail .head))
  obtain ⟨sv, hsv, hst⟩ : ∃ sv, All2 (VJ (fun c => 0 ≤ c) g1) sv (List.replicate 6 ()) ∧ At g1 _ (ListO sv) := ⟨_, .cons ⟨93, by decide, _, rfl⟩ (.cons ⟨2, by decide, _, rfl⟩ (.cons ⟨2, by decide, _, rfl⟩ (.cons ⟨7, by decide, _, rfl⟩ (.cons ⟨2, by decide, _, rfl⟩ (.cons ⟨3, by decide, _, rfl⟩ .nil))))), hst⟩
  have hsvl : sv.length = 6 := by rw [hsv.length]; rfl
  have hl1 : At g1 l (ListW vs) := (show At g l (ListW vs) from hl).keeps fun o e => k1 _ o e
  refine r_iter_enum (S2.mem (.head _)) ?_
  have hne : e ≠ it := fun z => by have nd := S2.nd; rw [z] at nd; simp at nd
  refine comp_run (VJ fun c => 0 ≤ c) (fun _ _ _ _ _ x => x) [Str.ofString "place", Str.ofString "start"] (fun i => EnumO it (i : Nat)) (fun i => (it, LIterO _ i) :: lawNw L (some (.ref l)) none none none none none none none none none none) (lawNw L (some (.ref l)) none none none none none none none none none none) 6 (fun i => List.replicate i ()) (by decide) (fun i => by simp) S2 (by decide) rfl (by decide) ?_ ?_ ?_ ?_
  · intro s Q' E hI hQ
    exact r_iter_enum hI hQ
  · intro i gc C D ys frc cenv sc hi hkc hce hfr SC Cc Bc hCc hBc
    have eF' : EnvF cenv C := by rw [hce]; exact compEnvF eF rfl
    have m0 : NmL cenv (Str.ofString "place") := by rw [hce]; exact cm_l rfl rfl
    have m1 : NmL cenv (Str.ofString "start") := by rw [hce]; exact cm_l rfl rfl
    have m2 : NmC cenv (Str.ofString "script") (L + 1) := by rw [hce]; exact cm_c eF c0 rfl rfl
    have m3 : NmV w cenv (Str.ofString "sum") (.builtin "sum") := by rw [hce]; exact cm_b eF rfl rfl (by kernel_rfl) rfl (by decide) rfl
    obtain ⟨w1, w2, rfl⟩ := fm2 hfr
    have hstc := hst.keeps fun o e => hkc _ o e
    have hlc := hl1.keeps fun o e => hkc _ o e
    obtain ⟨v, hv, k, hk0, tt, rfl⟩ := hsv.get (i := i) (b := ()) (by rw [List.getElem?_replicate, if_pos hi])
    refine r_next_enum (l := _) (vs := sv) SC (fun a => .tail .head) (fun a => .tail (.tail (.tail .head))) hne (SC.mem (.tail _ (.tail _ (.tail _ (.head _))))) (SC.old hstc).isList hv fun a t s3 S3 => ?_
    dsimp only
    refine r_letgo_enum S3 (.tail (.tail .head)) fun s4 S4 => ?_
    clear S3 SC
    repeat' walk1
    rename_i hw1 hw2 _ I2 s5 S5
    refine comp_run0 (VJ fun c => 0 ≤ c) (fun _ _ _ _ _ x => x) [Str.ofString "x"] (fun i => LIterO _ i) _ (fun i => List.replicate i ()) (Nat.le_trans hw2 (by lia)) (fun i => by simp) S5 (by decide) rfl (by decide) ?_ ?_ ?_ ?_
    · intro s Q' E hI hQ
      exact wpAny_pyIter_listiter hI hQ
    · intro i2 gc2 C2 D2 ys2 frc2 cenv2 sc2 hi2 hkc2 hce2 hfr2 SC2 Cc2 Bc2 hCc2 hBc2
      have eF2 : EnvF cenv2 C2 := by rw [hce2]; exact compEnvF eF' rfl
      have p0 : NmL cenv2 (Str.ofString "x") := by rw [hce2]; exact cm_l rfl rfl
      obtain ⟨w3, rfl⟩ := fm1 hfr2
      obtain ⟨k2, t2, hk2⟩ := hvs0 _ (hw1 _ (List.getElem_mem hi2))
      refine r_next_list SC2 (.tail .head) (SC2.mem (.tail _ (.tail _ (.tail _ (.head _))))).isList (List.getElem?_eq_getElem hi2) fun s6 S6 => ?_
      rw [hk2]
      dsimp only
      refine wpAny_of_eq rfl ?_
      have hb := Int.emod_nonneg k2 (show (1000000 : Int) ≠ 0 by decide)
      repeat' walk1
      exact ⟨hCc2 _ _ ⟨gc2, _, (), fun _ _ e => e, rep_snoc i2, ⟨_, hb, _, rfl⟩, rfl, by assumption⟩⟩
    · intro gc2 C2 D2 ys2 frc2 sc2 Q' hkc2 SC2 hQ
      exact r_end_list hA SC2 (.tail .head) (SC2.mem (.tail _ (.tail _ (.tail _ (.head _))))).isList (by simp) hQ
    · intro gc2 C2 D2 vs2 frc2 sc2 hkc2 hvs2 SC2
      obtain ⟨cs, h1, h2, h3⟩ := vj_ints hvs2
      refine post_none SC2 fun s7 S7 => ?_
      clear SC2 S5
      repeat' walk1
      rename_i S8
      have hsum := sum_nonneg h3
      exact ⟨hCc _ _ ⟨gc2, _, (), hkc2, rep_snoc i, ⟨_, by lia, _, rfl⟩, rfl, S8.drop.drop.drop⟩⟩
  · intro gc C D ys frc sc Q' hkc SC hQ
    exact r_end_enum hA SC (.tail (.tail (.tail .head))) (.tail .head) (SC.mem (.tail _ (.tail _ (.tail _ (.head _))))) (SC.old (hst.keeps fun o e => hkc _ o e)).isList (by simp [hsvl]) hQ
  · intro gc C D vs frc sc hkc hvs SC
    obtain ⟨cs, h1, h2, h3⟩ := vj_ints hvs
    refine post_use eF l0 SC (by walk_at "m_upd") fun s7 S10 => ⟨rfl, hPP _ ?_⟩
    obtain ⟨gd, kd, hD, S11⟩ := S10.freeze
    exact ⟨gd, D, cs, fun b o e => kd b o (hkc b o (k1 b o e)), ⟨hD.imp fun o x => ⟨_, x, h1⟩, by simpa using h2, h3⟩, S11⟩
end
/-- a piece of the lead -/
noncomputable def VPc (_ : Heap) (v : Value) (_ : Unit) : Prop := ∃ x, VS v x ∧ Ws x ∧ 1 ≤ x.length ∧ x.length ≤ 3
noncomputable def PiecesOk (g : Heap) (a : Addr) : Prop := ∃ pvs, At g a (ListO pvs) ∧ All2 (VPc g) pvs (List.replicate 8 ())
theorem vpc_of {g : Heap} {y : String} {t : Tok} {x : List Nat} (e : Str.ofString y = tx x) (h : Ws x) (h1 : 1 ≤ x.length) (h2 : x.length ≤ 3) : VPc g (.str (Str.ofString y) t) () := ⟨x, ⟨t, by rw [e]⟩, h, h1, h2⟩
theorem PiecesOk.mono {g g' : Heap} {a : Addr} (k : g.StaysIn g') (h : PiecesOk g a) : PiecesOk g' a := let ⟨pvs, h1, h2⟩ := h; ⟨pvs, h1.keeps fun o e => k _ o e, h2⟩
section
variable {w : World} {os : OsState} {g : Heap} {L : Addr} {s : Shared} {A : Around} {n : Nat}
set_option maxHeartbeats 8000000 in
theorem seg1 {env : Env} {l a : Addr} {Q : Flow → Shared → Prop} (hE : LawE w env L)
    (S : St w os g L (lawFr (some (.ref a)) none none none none none none none none) (lawNw L (some (.ref l)) none none none none none none none none none none) s)
    (h : ∀ g' b s', g.StaysIn g' → PiecesOk g' b → St w os g' L (lawFr (some (.ref a)) none none none none none none none none) (lawNw L (some (.ref l)) none (some (.ref b)) none none none none none none none none) s' →
      wpAny (MM w) A (execs ((lawBody w).drop 2) env) Q NoE s') :
    wpAny (MM w) A (execs ((lawBody w).drop 1) env) Q NoE s := by
  refine (show wpAny (MM w) A (execs (_ :: (lawBody w).drop 2) env) Q NoE s from ?_)
  refine m_cut (fun s' => ∃ g' b, g.StaysIn g' ∧ PiecesOk g' b ∧ St w os g' L (lawFr (some (.ref a)) none none none none none none none none) (lawNw L (some (.ref l)) none (some (.ref b)) none none none none none none none none) s') (fun P' hPP => ?_) fun s' ⟨g', b, k, hc, S'⟩ => h g' b s' k hc S'
  obtain ⟨eF, hs, hcells, hcode, hq, l0, l1, l2, l3, l4, l5, l6, l7, l8, c0, c1, c2, c3, c4, c5, c6, c7, c8, c9, c10, b0, b1, b2, b3, b4, b5, b6, d0, d1, d2, d3, d4⟩ := id hE
  repeat' walk1
  rename_i S1
  obtain ⟨g1, k1, h1, S2⟩ := S1.freeze
  refine ⟨rfl, hPP _ ⟨g1, _, k1, ⟨_, h1, ?_⟩, S2⟩⟩
  exact .cons (vpc_of (x := [32]) (by decide +kernel) (by unfold Ws; decide) (by decide) (by decide)) (.cons (vpc_of (x := [9]) (by decide +kernel) (by unfold Ws; decide) (by decide) (by decide)) (.cons (vpc_of (x := [32, 32, 9]) (by decide +kernel) (by unfold Ws; decide) (by decide) (by decide)) (.cons (vpc_of (x := [32, 9]) (by decide +kernel) (by unfold Ws; decide) (by decide) (by decide)) (.cons (vpc_of (x := [9, 32]) (by decide +kernel) (by unfold Ws; decide) (by decide) (by decide)) (.cons (vpc_of (x := [32, 32]) (by decide +kernel) (by unfold Ws; decide) (by decide) (by decide)) (.cons (vpc_of (x := [9, 9]) (by decide +kernel) (by unfold Ws; decide) (by decide) (by decide)) (.cons (vpc_of (x := [32, 9, 32]) (by decide +kernel) (by unfold Ws; decide) (by decide) (by decide)) .nil)))))))
end
theorem strs_of {vs : List Value} {xs : List (List Nat)} (h : All2 VS vs xs) : ∃ l : List (Str × Tok), vs = strValues l ∧ l.map (·.1) = xs.map tx := by
  induction h with
  | nil => exact ⟨[], rfl, rfl⟩
  | cons x _ ih =>
    obtain ⟨t, rfl⟩ := x
    obtain ⟨l, rfl, e⟩ := ih
    exact ⟨(_, t) :: l, rfl, by rw [List.map_cons, List.map_cons, e]⟩
theorem strs_back {xs : List (List Nat)} : ∀ {l : List (Str × Tok)}, l.map (·.1) = xs.map tx → All2 VS (strValues l) xs := by
  induction xs with
  | nil => intro l h; cases l with | nil => exact .nil | cons _ _ => simp at h
  | cons x xs ih =>
    intro l h
    cases l with
    | nil => simp at h
    | cons p l =>
      simp only [List.map_cons, List.cons.injEq] at h
      exact .cons ⟨p.2, by show Value.str p.1 p.2 = _; rw [h.1]⟩ (ih h.2)
theorem tx_append (a b : List Nat) : tx a ++ tx b = tx (a ++ b) := Str.ext' (by show a.toArray ++ b.toArray = _; simp)
theorem join_flat : ∀ (xs : List (List Nat)), Str.join (tx []) (xs.map tx) = tx xs.flatten
  | [] => rfl
  | [x] => by show tx x = _; simp
  | x :: y :: r => by
    show tx x ++ tx [] ++ Str.join (tx []) ((y :: r).map tx) = _
    rw [join_flat (y :: r), tx_append, tx_append]; simp
/-- runs set between tabs -/
noncomputable def tabJoin : List (List Nat) → List Nat
  | [] => []
  | [x] => x
  | x :: y :: r => x ++ 9 :: tabJoin (y :: r)
theorem join_tab : ∀ (xs : List (List Nat)), Str.join (tx [9]) (xs.map tx) = tx (tabJoin xs)
  | [] => rfl
  | [x] => rfl
  | x :: y :: r => by
    show tx x ++ tx [9] ++ Str.join (tx [9]) ((y :: r).map tx) = _
    rw [join_tab (y :: r), tx_append, tx_append]
    show _ = tx (x ++ 9 :: tabJoin (y :: r))
    simp
theorem tx_inj {a b : List Nat} (h : tx a = tx b) : a = b := by have := congrArg (fun x => x.cps.toList) h; simpa using this
theorem tx_all (ys : List Str) : ∃ xs : List (List Nat), ys = xs.map tx := ⟨ys.map fun y => y.cps.toList, by rw [List.map_map]; exact (List.map_id' ys).symm.trans (List.map_congr_left fun y _ => rfl)⟩
theorem fm_congr {α β : Type} {f g : α → Option β} : ∀ {l : List α}, (∀ x ∈ l, f x = g x) → l.filterMap f = l.filterMap g
  | [], _ => rfl
  | a :: r, h => by rw [List.filterMap_cons, List.filterMap_cons, h a (.head _), fm_congr fun x hx => h x (.tail _ hx)]
theorem picked_rev (T : List Nat) : (Builtin.Str.strSliceIndices none none (-1) T.length).filterMap (T.toArray[·]?) = T.reverse := by
  have e : Builtin.Str.strSliceIndices none none (-1) T.length = (List.range T.length).map fun k => T.length - 1 - k := by
    simp only [Builtin.Str.strSliceIndices, PySem.sliceRange, show ¬ ((-1 : Int) > 0) from by decide, if_false]
    by_cases h : T.length = 0
    · simp [h]
    · rw [if_pos (by lia), show (((T.length : Int) - 1 - -1 - -1 - 1) / - -1).toNat = T.length from by
        rw [show - -(1 : Int) = 1 from rfl, Int.ediv_one]; lia]
      exact List.map_congr_left fun k hk => by have := List.mem_range.mp hk; lia
  rw [e, List.filterMap_map]
  have : List.filterMap ((fun x => T.toArray[x]?) ∘ fun k => T.length - 1 - k) (List.range T.length) = List.filterMap (fun k => T.reverse[k]?) (List.range T.reverse.length) := by
    rw [List.length_reverse]
    refine fm_congr fun k hk => ?_
    have := List.mem_range.mp hk
    rw [List.getElem?_reverse this]; simp
  rw [this]
  have h2 := StrLaws.picks T.reverse T.reverse.length 0 (by lia)
  simp only [Nat.zero_add] at h2
  rw [show (List.range T.reverse.length).map (fun k => k) = List.range T.reverse.length from List.map_id' _] at h2
  rw [h2, List.drop_zero, List.take_length]
section
variable {w : World} {os : OsState} {g : Heap} {L : Addr} {fr : Fm} {nw : Nw} {s : Shared} {A : Around} {n : Nat} {t u : Tok} {Q : Value → Shared → Prop}
theorem r_slice_rev {value slice : Expr} {T : List Nat} {a : Addr} {ti : Tok} {ops : List Value} (S : St w os g L fr ((a, SliceO none none (some (-1, ti))) :: nw) s) (hsz : T.length ≤ 1000000)
    (h : ∀ t s', St w os g L fr nw s' → Q (.str (tx T.reverse) t) s')
    (hs : subscripted slice false (.str (tx T) t) (.ref a) = operate ops (getItem (.str (tx T) t) (.ref a)) := by with_unfolding_all rfl) :
    wpAny (MM w) A (subscriptTail value slice (.str (tx T) t) (.ref a)) Q NoE s := by
  refine tail_any (typeIs_str s _ _) PySem.F.slot_str_getitem.lookup (wpAny_getItem_str_slice (l := none) (u := none) (st := some (-1, ti)) (S.mem (.head _)) rfl ?_) hs
  unfold sliceMade slicePicked
  simp only [Option.map_none, Option.map_some, Option.getD_some, tx_len]
  rw [if_neg (by simp), picked_rev]
  refine ⟨?_, h _ _ S.drop.tok⟩
  rw [tx_len, List.length_reverse]
  exact Nat.le_trans hsz (by decide)
theorem r_getm_join {x : Str} {pl : Sem Bool} {Q : Value × List Value → Shared → Prop} (h : Q (.builtin "str.join", [.str x t]) s) : wpAny (MM w) A (getMethod (.str x t) (Str.ofString "join") pl) Q NoE s := GM.join h
theorem r_getm_split {x : Str} {pl : Sem Bool} {Q : Value × List Value → Shared → Prop} (h : Q (.builtin "str.split", [.str x t]) s) : wpAny (MM w) A (getMethod (.str x t) (Str.ofString "split") pl) Q NoE s := GM.split h
theorem r_join0 {x : Str} {l : Addr} {vs : List Value} {xs : List (List Nat)} (S : St w os g L fr nw s) (hl : s.heap.IsList l vs.toArray) (hv : All2 VS vs xs) (hx : x = tx []) (hb : ∀ y ∈ xs, y.length ≤ 1000) (hn : xs.length ≤ 1000)
    (h : ∀ t' s', St w os g L fr nw s' → Q (.str (tx xs.flatten) t') s') : wpAny (MM w) A (call (.builtin "str.join") [.str x t, .ref l]) Q NoE s := by
  obtain ⟨ll, rfl, e⟩ := strs_of hv
  subst hx
  refine SC.join hl e ?_ fun t' k => ?_
  · unfold JoinOk
    rw [StrLaws.joinFits (B := 1000) (fun y hy => by obtain ⟨z, hz, rfl⟩ := List.mem_map.mp hy; rw [tx_len]; exact hb z hz) (by rw [List.length_map]; show _ + _ * 0 ≤ _; lia)]; rfl
  · have : Txt.join (tx []) (xs.map tx) = tx xs.flatten := (StrLaws.glued_eq_join _ _).trans (join_flat xs)
    rw [this]; exact h _ _ S.tok
theorem r_split {x y : Str} {T : List Nat} (S : St w os g L fr nw s) (hx : x = tx T) (hy : y = tx [9]) (hz : T.length ≤ 1000)
    (h : ∀ p vs rs s', All2 VS vs rs → tabJoin rs = T → (∀ r ∈ rs, 9 ∉ r) → rs ≠ [] → rs.length ≤ T.length + 1 → St w os g L fr ((p, ListO vs) :: nw) s' → Q (.ref p) s') :
    wpAny (MM w) A (call (.builtin "str.split") [.str x t, .str y u]) Q NoE s := by
  have hlen : x.length = T.length := by rw [hx, tx_len]
  have fin : ∀ (l : List (Str × Tok)) (s' : Shared), l.map (·.1) = Txt.split x y → St w os g L fr ((s.heap.objs.size, ListO (strValues l)) :: nw) s' → Q (.ref s.heap.objs.size) s' := by
    intro l s' e S'
    obtain ⟨rs, ers⟩ := tx_all (Txt.split x y)
    rw [ers] at e
    have hj := StrLaws.join_split x y
    rw [ers, hx, hy, join_tab] at hj
    have hjn := tx_inj hj
    have hfree : ∀ r ∈ rs, 9 ∉ r := fun r hr => by
      have := StrLaws.split_free x 9 (tx r) (by rw [show (⟨#[9]⟩ : Str) = y from hy.symm, ers]; exact List.mem_map_of_mem hr)
      simpa using this
    have hne : rs ≠ [] := fun z => by
      subst z
      have : Txt.split x y = [] := ers
      unfold Txt.split at this
      split at this
      · cases this
      · split at this
        · cases this
        · have h' := congrArg List.length this
          rw [length_partsBetween] at h'; simp at h'
    have hcount : ∀ rs : List (List Nat), rs.length ≤ (tabJoin rs).length + 1 := by
      intro rs
      induction rs with
      | nil => simp
      | cons a r ih =>
        cases r with
        | nil => simp
        | cons b r => simp only [tabJoin, List.length_append, List.length_cons] at ih ⊢; lia
    have hc := hcount rs
    rw [hjn] at hc
    exact h _ _ _ _ (strs_back e) hjn hfree hne (by lia) S'
  have hy0 : (y.length == 0) = false := by rw [hy]; rfl
  cases h1 : (decide (x.length < y.length) || decide (Builtin.Str.strKind x < Builtin.Str.strKind y))
  · cases hf : (Builtin.Str.occurrences x y 0 x.length (x.length + 1)).isEmpty
    · have hocc := StrLaws.occ_length_le x y 0 x.length (x.length + 1)
      refine call_meets F.slot_str_split (typeIs_str _ _ _) F.entry_str_split (F.args_str_split_2 _ _) (meets_str_split_sep x y t u h1 hy0 hf (by rw [hlen, sizeLine_eq]; lia) (by rw [length_partsBetween, sizeLine_eq]; lia)) ?_
      show wants Q NoE _ { s with toks := _, heap := s.heap.push { cls := .type "list", data := .seq (strsFrom s.toks (Builtin.Str.partsBetween x (Builtin.Str.occurrences x y 0 x.length (x.length + 1)) y.length)).toArray } }
      rw [strsFrom_eq]
      exact fin (numbered s.toks _) _ ((numbered_texts _ _).trans ((if_neg (ne_true_of_eq_false h1)).trans (if_neg (ne_true_of_eq_false hf))).symm) (S.alloc (s' := { s with heap := _, toks := _ }) rfl ⟨_, rfl⟩ rfl rfl rfl)
    · exact call_meets F.slot_str_split (typeIs_str _ _ _) F.entry_str_split (F.args_str_split_2 _ _) (meets_str_split_not_found x y t u h1 hy0 hf)
        (fin [(x, t)] _ ((if_neg (ne_true_of_eq_false h1)).trans (if_pos hf)).symm (S.alloc (s' := { s with heap := _, toks := _ }) rfl ⟨_, rfl⟩ rfl rfl rfl))
  · exact call_meets F.slot_str_split (typeIs_str _ _ _) F.entry_str_split (F.args_str_split_2 _ _) (meets_str_split_cannot_occur x y t u h1)
      (fin [(x, t)] _ (if_pos h1).symm (S.alloc (s' := { s with heap := _, toks := _ }) rfl ⟨_, rfl⟩ rfl rfl rfl))
end
local macro_rules | `(tactic| walk_at "getMethod str") => `(tactic| with_reducible refine r_getm_join ?_)
local macro_rules | `(tactic| walk_at "getMethod str") => `(tactic| with_reducible refine r_getm_split ?_)
local macro_rules | `(tactic| walk_at "subscriptTail") => `(tactic| (refine' r_slice_rev ?S ?z ?_ ?hs; (case S => with_reducible assumption); (case z => k_dflt (walk_at "ar")); (case hs => k_dflt (exact rfl)); intro t' s' S'))
local macro_rules | `(tactic| walk_at "SlEnd") => `(tactic| first
  | (refine' r_slEnd (l := some (_, _)) (u := some (_, _)) (st := some (_, _)) ?S ?_; (case S => assumption); intro a' s' S')
  | (refine' r_slEnd (l := none) (u := none) (st := some (_, _)) ?S ?_; (case S => assumption); intro a' s' S')
  | (refine' r_slEnd (l := some (_, _)) (u := some (_, _)) (st := none) ?S ?_; (case S => assumption); intro a' s' S')
  | (refine' r_slEnd (l := some (_, _)) (u := none) (st := none) ?S ?_; (case S => assumption); intro a' s' S')
  | (refine' r_slEnd (l := none) (u := some (_, _)) (st := none) ?S ?_; (case S => assumption); intro a' s' S'))
theorem pieces_of {g : Heap} {k : Nat} {vs : List Value} : ∀ {us : List Unit}, All2 (VPc g) vs us → us.length = k → ∃ xs, All2 VS vs xs ∧ xs.length = k ∧ (∀ x ∈ xs, x.length ≤ 3) ∧ Ws xs.flatten ∧ k ≤ xs.flatten.length ∧ xs.flatten.length ≤ 3 * k := by
  intro us h
  induction h generalizing k with
  | nil => intro e; subst e; exact ⟨[], .nil, rfl, (fun x hx => by cases hx), (fun x hx => by simp at hx), Nat.le_refl _, Nat.le_refl _⟩
  | cons x _ ih =>
    intro e
    subst e
    obtain ⟨y, hy, hw, h1, h2⟩ := x
    obtain ⟨xs, a1, a2, a3, a4, a5, a6⟩ := ih rfl
    refine ⟨y :: xs, .cons hy a1, by simp [a2], fun z hz => by rcases List.mem_cons.mp hz with rfl | hz; (exact h2); (exact a3 z hz), ?_, ?_, ?_⟩
    · rw [List.flatten_cons]; exact Ws.app hw a4
    · rw [List.flatten_cons, List.length_append, List.length_cons]; lia
    · rw [List.flatten_cons, List.length_append, List.length_cons]; lia
section
variable {w : World} {os : OsState} {g : Heap} {L : Addr} {s : Shared} {A : Around} {n : Nat}
set_option maxHeartbeats 8000000 in
theorem seg2 {env : Env} {l a b : Addr} {cs : List Int} {Q : Flow → Shared → Prop} (hE : LawE w env L) (hA : Ar A (n + 8)) (hc : CellsOkL g a cs) (hb : PiecesOk g b)
    (S : St w os g L (lawFr (some (.ref a)) none none none none none none none none) (lawNw L (some (.ref l)) none (some (.ref b)) none none none none none none none none) s)
    (h : ∀ g' T t s', g.StaysIn g' → Ws T → 1 ≤ T.length → T.length ≤ 18 → St w os g' L (lawFr (some (.ref a)) none none none none none none none none) (lawNw L (some (.ref l)) none (some (.ref b)) (some (.str (tx T) t)) none none none none none none none) s' →
      wpAny (MM w) A (execs ((lawBody w).drop 3) env) Q NoE s') :
    wpAny (MM w) A (execs ((lawBody w).drop 2) env) Q NoE s := by
  refine (show wpAny (MM w) A (execs (_ :: (lawBody w).drop 3) env) Q NoE s from ?_)
  refine m_cut (fun s' => ∃ g' T t, g.StaysIn g' ∧ Ws T ∧ 1 ≤ T.length ∧ T.length ≤ 18 ∧ St w os g' L (lawFr (some (.ref a)) none none none none none none none none) (lawNw L (some (.ref l)) none (some (.ref b)) (some (.str (tx T) t)) none none none none none none none) s') (fun P' hPP => ?_) fun s' ⟨g', T, t, k0, k1, k2, k3, S'⟩ => h g' T t s' k0 k1 k2 k3 S'
  obtain ⟨eF, hs, hcells, hcode, hq, l0, l1, l2, l3, l4, l5, l6, l7, l8, c0, c1, c2, c3, c4, c5, c6, c7, c8, c9, c10, b0, b1, b2, b3, b4, b5, b6, d0, d1, d2, d3, d4⟩ := id hE
  obtain ⟨⟨oc, hoc, cvs, hcl, hcv⟩, hcn, hcp⟩ := hc
  have hcs : At g a (ListO cvs) := ⟨oc, hoc, hcl⟩
  obtain ⟨pvs, hpl, hpv⟩ := hb
  have hcvl := hcv.length
  have hpvl := hpv.length
  repeat' walk1
  rename_i S1
  refine r_comp (cl := [(Str.ofString "pieces", L + 3)]) (by unfold closureFor cellOf; rw [hcells]; rfl) rfl (by decide) (fun _ => rfl) ?_
  repeat' walk1
  rename_i I s2 S2
  refine comp_run0 VPc (fun _ _ _ _ _ x => x) [Str.ofString "cell"] (fun i => LIterO a i) cvs.length (fun i => List.replicate i ()) (by lia) (fun i => by simp) S2 (by decide) rfl (by decide) ?_ ?_ ?_ ?_
  · intro s Q' E hI hQ
    exact wpAny_pyIter_listiter hI hQ
  · intro i gc C D ys frc cenv sc hi hkc hce hfr SC Cc Bc hCc hBc
    have eF' : EnvF cenv C := by rw [hce]; exact compEnvF eF rfl
    have m0 : NmL cenv (Str.ofString "cell") := by rw [hce]; exact cm_l rfl rfl
    have m1 : NmC cenv (Str.ofString "pieces") (L + 3) := by rw [hce]; exact cm_c eF c2 rfl rfl
    obtain ⟨w1, rfl⟩ := fm1 hfr
    have hlc := hcs.keeps fun o e => hkc _ o e
    have hpc := hpl.keeps fun o e => hkc _ o e
    obtain ⟨c, hcc, tc, hct⟩ := hcv.get' (List.getElem?_eq_getElem hi)
    refine r_next_list SC (.tail .head) (SC.old hlc).isList (List.getElem?_eq_getElem hi) fun s3 S3 => ?_
    rw [hct]
    have hm1 := Int.emod_nonneg c (show (8 : Int) ≠ 0 by decide)
    have hm2 := Int.emod_lt_of_pos c (show (0 : Int) < 8 by decide)
    rw [List.length_replicate] at hpvl
    have hpi : (c % 8).toNat < pvs.length := by lia
    have hpx : pvs[(c % 8).toNat]? = some pvs[(c % 8).toNat] := List.getElem?_eq_getElem hpi
    obtain ⟨u, hu, hpp⟩ := hpv.get' hpx
    dsimp only
    refine wpAny_of_eq rfl ?_
    repeat' walk1
    exact ⟨hCc _ _ ⟨gc, _, (), fun _ _ e => e, rep_snoc i, hpp, rfl, by assumption⟩⟩
  · intro gc C D ys frc sc Q' hkc SC hQ
    exact r_end_list hA SC (.tail .head) (SC.old (hcs.keeps fun o e => hkc _ o e)).isList (by simp) hQ
  · intro gc C D vs frc sc hkc hvs SC
    obtain ⟨xs, q1, q2, q3, q4, q5, q6⟩ := pieces_of hvs List.length_replicate
    refine post_none SC fun s7 S7 => ?_
    repeat' walk1
    refine r_join0 S7 (S7.mem (.head _)).isList q1 (by decide +kernel) (fun y hy => Nat.le_trans (q3 y hy) (by decide)) (by lia) fun t' s8 S8 => ?_
    have S9 := S8.drop
    clear S7 S8
    repeat' walk1
    exact ⟨rfl, hPP _ ⟨gc, _, _, hkc, q4, by lia, by lia, by assumption⟩⟩
set_option maxHeartbeats 8000000 in
theorem seg3 {env : Env} {l a b : Addr} {cs : List Int} {T : List Nat} {tT : Tok} {Q : Flow → Shared → Prop} (hE : LawE w env L) (hA : Ar A (n + 8)) (hc : CellsOkL g a cs) (hT1 : 1 ≤ T.length) (hT2 : T.length ≤ 18)
    (S : St w os g L (lawFr (some (.ref a)) none none none none none none none none) (lawNw L (some (.ref l)) none (some (.ref b)) (some (.str (tx T) tT)) none none none none none none none) s)
    (h : ∀ g' k t s', g.StaysIn g' → 1 ≤ k → k ≤ T.length → St w os g' L (lawFr (some (.ref a)) none none none none none none none none) (lawNw L (some (.ref l)) none (some (.ref b)) (some (.str (tx T) tT)) (some (.str (tx (T.reverse.take k)) t)) none none none none none none) s' →
      wpAny (MM w) A (execs ((lawBody w).drop 4) env) Q NoE s') :
    wpAny (MM w) A (execs ((lawBody w).drop 3) env) Q NoE s := by
  refine (show wpAny (MM w) A (execs (_ :: (lawBody w).drop 4) env) Q NoE s from ?_)
  refine m_cut (fun s' => ∃ g' k t, g.StaysIn g' ∧ 1 ≤ k ∧ k ≤ T.length ∧ St w os g' L (lawFr (some (.ref a)) none none none none none none none none) (lawNw L (some (.ref l)) none (some (.ref b)) (some (.str (tx T) tT)) (some (.str (tx (T.reverse.take k)) t)) none none none none none none) s') (fun P' hPP => ?_) fun s' ⟨g', k, t, k0, k1, k2, S'⟩ => h g' k t s' k0 k1 k2 S'
  obtain ⟨eF, hs, hcells, hcode, hq, l0, l1, l2, l3, l4, l5, l6, l7, l8, c0, c1, c2, c3, c4, c5, c6, c7, c8, c9, c10, b0, b1, b2, b3, b4, b5, b6, d0, d1, d2, d3, d4⟩ := id hE
  obtain ⟨⟨oc, hoc, cvs, hcl, hcv⟩, hcn, hcp⟩ := hc
  have hcs : At g a (ListO cvs) := ⟨oc, hoc, hcl⟩
  have hcvl := hcv.length
  repeat' walk1
  rename_i I s2 S2
  refine comp_run0 (VJ fun c => 0 ≤ c) (fun _ _ _ _ _ x => x) [Str.ofString "cell"] (fun i => LIterO a i) cvs.length (fun i => List.replicate i ()) (by lia) (fun i => by simp) S2 (by decide) rfl (by decide) ?_ ?_ ?_ ?_
  · intro s Q' E hI hQ
    exact wpAny_pyIter_listiter hI hQ
  · intro i gc C D ys frc cenv sc hi hkc hce hfr SC Cc Bc hCc hBc
    have eF' : EnvF cenv C := by rw [hce]; exact compEnvF eF rfl
    have m0 : NmL cenv (Str.ofString "cell") := by rw [hce]; exact cm_l rfl rfl
    obtain ⟨w1, rfl⟩ := fm1 hfr
    have hlc := hcs.keeps fun o e => hkc _ o e
    obtain ⟨c, hcc, tc, hct⟩ := hcv.get' (List.getElem?_eq_getElem hi)
    have hc0 := hcp c (List.mem_of_getElem? hcc)
    have hd0 : 0 ≤ c / 8 := Int.ediv_nonneg hc0 (by decide)
    refine r_next_list SC (.tail .head) (SC.old hlc).isList (List.getElem?_eq_getElem hi) fun s3 S3 => ?_
    rw [hct]
    dsimp only
    refine wpAny_of_eq rfl ?_
    repeat' walk1
    exact ⟨hCc _ _ ⟨gc, _, (), fun _ _ e => e, rep_snoc i, ⟨_, hd0, _, rfl⟩, rfl, by assumption⟩⟩
  · intro gc C D ys frc sc Q' hkc SC hQ
    exact r_end_list hA SC (.tail .head) (SC.old (hcs.keeps fun o e => hkc _ o e)).isList (by simp) hQ
  · intro gc C D vs frc sc hkc hvs SC
    obtain ⟨ds, q1, q2, q3⟩ := vj_ints hvs
    refine post_none SC fun s7 S7 => ?_
    have hsum := sum_nonneg q3
    have hr1 := Int.emod_nonneg ds.sum (show (T.length : Int) ≠ 0 by lia)
    have hr2 := Int.emod_lt_of_pos ds.sum (show (0 : Int) < (T.length : Int) by lia)
    clear SC S2
    have hrl : T.reverse.length = T.length := List.length_reverse
    repeat' walk1
    rename_i S9
    exact ⟨rfl, hPP _ ⟨gc, (1 + ds.sum % (T.length : Int)).toNat, _, hkc, by lia, by lia, S9.drop⟩⟩
end
/-- what the packing gives -/
structure Lzw (T : List Nat) (codes : List Int) (ps : List Nat) : Prop where
  packs : Packs T book0 0 codes
  cols : ∀ z : Nat, 0 < z → colsOf (codes ++ [0]) (z : Int) = ps.map fun p => ((col z (T.take p) : Nat) : Int)
  len : codes.length ≤ T.length
  head : ∀ c ∈ (codes ++ [0]).head?, c < 256
  plen : ps.length ≤ T.length + 1
  pne : 0 < ps.length
  pb : ∀ p ∈ ps, p ≤ T.length
  plast : ps.getLast? = some T.length
  pinc : ∀ i j, i < j → j < ps.length → ps.getD i 0 < ps.getD j 0
  long : ∀ i, i + 1 < ps.length → LongStep T (codes ++ [0]) ps i
theorem Lzw.one {T : List Nat} {codes : List Int} {ps : List Nat} (h : Lzw T codes ps) : colsOf (codes ++ [0]) 1 = ps.map fun p : Nat => (p : Int) := by
  have := h.cols 1 (by decide)
  rw [show ((1 : Nat) : Int) = 1 from rfl] at this
  rw [this]
  refine List.map_congr_left fun p hp => ?_
  rw [col_one, List.length_take, Nat.min_eq_left (h.pb p hp)]
section
variable {w : World} {os : OsState} {g : Heap} {L : Addr} {s : Shared} {A : Around} {n : Nat}
set_option maxHeartbeats 8000000 in
theorem seg4 {env : Env} {l a b : Addr} {T G : List Nat} {tT tG : Tok} {codes : List Int} {Q : Flow → Shared → Prop} (hE : LawE w env L) (hA : Ar A (n + 8)) (hT2 : T.length ≤ 18) (hP : Packs T book0 0 codes) (htab : g.get? 137 = some (tabObj #[]))
    (S : St w os g L (lawFr (some (.ref a)) none none none none none none none none) (lawNw L (some (.ref l)) none (some (.ref b)) (some (.str (tx T) tT)) (some (.str (tx G) tG)) none none none none none none) s)
    (h : ∀ g' q s', Heap.ExtBut 137 g g' → (∃ ps, g'.get? 137 = some (tabObj ps)) → At g' q (IntsO (codes ++ [0])) → St w os g' L (lawFr (some (.ref a)) none none none none none none none none) (lawNw L (some (.ref l)) none (some (.ref b)) (some (.str (tx T) tT)) (some (.str (tx G) tG)) (some (.ref q)) none none none none none) s' →
      wpAny (MM w) A (execs ((lawBody w).drop 5) env) Q NoE s') :
    wpAny (MM w) A (execs ((lawBody w).drop 4) env) Q NoE s := by
  refine (show wpAny (MM w) A (execs (_ :: (lawBody w).drop 5) env) Q NoE s from ?_)
  refine m_cut (fun s' => ∃ g' q, Heap.ExtBut 137 g g' ∧ (∃ ps, g'.get? 137 = some (tabObj ps)) ∧ At g' q (IntsO (codes ++ [0])) ∧ St w os g' L (lawFr (some (.ref a)) none none none none none none none none) (lawNw L (some (.ref l)) none (some (.ref b)) (some (.str (tx T) tT)) (some (.str (tx G) tG)) (some (.ref q)) none none none none none) s') (fun P' hPP => ?_) fun s' ⟨g', q, k1, k0, k2, S'⟩ => h g' q s' k1 k0 k2 S'
  obtain ⟨eF, hs, hcells, hcode, hq, l0, l1, l2, l3, l4, l5, l6, l7, l8, c0, c1, c2, c3, c4, c5, c6, c7, c8, c9, c10, b0, b1, b2, b3, b4, b5, b6, d0, d1, d2, d3, d4⟩ := id hE
  repeat' walk1
  have S1 := S.thawTab (a := 137) ⟨_, htab, rfl⟩ (by kernel_rfl)
  refine wpAny_call (packed_ok (n := n + 4) hA S.ok (by lia) hP (S.keep _ _ htab) fun q s2 ps O2 x2 a2 hq2 h2 => ?_)
  have S2 := S1.upd (P' := TabP ps) .head (s' := s2) ⟨_, a2, rfl⟩ x2 (O2.hos.trans S1.hos.symm) (O2.hgens.trans S1.hgens.symm)
  obtain ⟨g', k', hin, _, S3⟩ := S2.rebase
  have hq' : At g' q (IntsO (codes ++ [0])) := by
    obtain ⟨o, e, p⟩ := h2
    refine ⟨o, hin q o e (fun z => ?_) (fun z => ?_), p⟩
    · obtain ⟨m, ⟨o', _, _, e', _⟩, _⟩ := S.ns.ex
      rw [← z, hq2] at e'; cases e'
    · obtain ⟨p', hp, z'⟩ := List.mem_map.mp z
      rcases List.mem_cons.mp hp with rfl | hp
      · have := S.keep _ _ htab
        have z'' : 137 = q := z'
        rw [z'', hq2] at this; cases this
      · obtain ⟨o', e', _⟩ := (S.new p' hp).1
        rw [z', hq2] at e'; cases e'
  obtain ⟨g2, k2, h137, S4⟩ := S3.freeze
  have hx : Heap.ExtBut 137 g g2 := fun b o hb e => k2 b o (k' b o (by rw [Heap.hide_ne _ hb]; exact e))
  have hq'' := hq'.keeps fun o e => k2 _ o e
  have ht2 : ∃ ps, g2.get? 137 = some (tabObj ps) := by
    obtain ⟨o, e, p⟩ := h137
    have p' : o = tabObj ps := p
    exact ⟨ps, by rw [e, p']⟩
  clear S S1 S2 S3
  repeat' walk1
  exact ⟨rfl, hPP _ ⟨_, _, hx, ht2, hq'', by assumption⟩⟩
set_option maxHeartbeats 8000000 in
theorem seg5 {env : Env} {l a b cl : Addr} {T G : List Nat} {tT tG : Tok} {codes : List Int} {ps : List Nat} {Q : Flow → Shared → Prop} (hE : LawE w env L) (hA : Ar A (n + 8)) (hT2 : T.length ≤ 18) (hP : Lzw T codes ps) (hcl : At g cl (IntsO (codes ++ [0])))
    (S : St w os g L (lawFr (some (.ref a)) none none none none none none none none) (lawNw L (some (.ref l)) none (some (.ref b)) (some (.str (tx T) tT)) (some (.str (tx G) tG)) (some (.ref cl)) none none none none none) s)
    (h : ∀ g' q s', g.StaysIn g' → At g' q (IntsO (ps.map fun p : Nat => (p : Int))) → St w os g' L (lawFr (some (.ref a)) (some (.ref q)) none none none none none none none) (lawNw L (some (.ref l)) none (some (.ref b)) (some (.str (tx T) tT)) (some (.str (tx G) tG)) (some (.ref cl)) none none none none none) s' →
      wpAny (MM w) A (execs ((lawBody w).drop 6) env) Q NoE s') :
    wpAny (MM w) A (execs ((lawBody w).drop 5) env) Q NoE s := by
  refine (show wpAny (MM w) A (execs (_ :: (lawBody w).drop 6) env) Q NoE s from ?_)
  refine m_cut (fun s' => ∃ g' q, g.StaysIn g' ∧ At g' q (IntsO (ps.map fun p : Nat => (p : Int))) ∧ St w os g' L (lawFr (some (.ref a)) (some (.ref q)) none none none none none none none) (lawNw L (some (.ref l)) none (some (.ref b)) (some (.str (tx T) tT)) (some (.str (tx G) tG)) (some (.ref cl)) none none none none none) s') (fun P' hPP => ?_) fun s' ⟨g', q, k1, k2, S'⟩ => h g' q s' k1 k2 S'
  obtain ⟨eF, hs, hcells, hcode, hq, l0, l1, l2, l3, l4, l5, l6, l7, l8, c0, c1, c2, c3, c4, c5, c6, c7, c8, c9, c10, b0, b1, b2, b3, b4, b5, b6, d0, d1, d2, d3, d4⟩ := id hE
  have hlen := hP.len
  have h1 := hP.one
  repeat' walk1
  rename_i S1
  refine wpAny_call (columns_ok (n := n + 6) hA S1.ok (S1.old hcl) (by simp; lia) ⟨by decide, by decide⟩ hP.head fun q s2 O2 k2 hq2 h2 => ?_)
  rw [h1] at h2
  obtain ⟨g', kk, hx, S3⟩ := S1.callNew O2 k2 hq2 h2
  clear S1
  repeat' walk1
  exact ⟨rfl, hPP _ ⟨_, _, kk, hx, by assumption⟩⟩
set_option maxHeartbeats 8000000 in
theorem seg6 {env : Env} {l a b cl pl : Addr} {T G : List Nat} {tT tG : Tok} {codes : List Int} {ps : List Nat} {Q : Flow → Shared → Prop} (hE : LawE w env L) (hA : Ar A (n + 8)) (hT2 : T.length ≤ 18) (hP : Lzw T codes ps) (hcl : At g cl (IntsO (codes ++ [0])))
    (hpl : At g pl (IntsO (ps.map fun p : Nat => (p : Int))))
    (S : St w os g L (lawFr (some (.ref a)) (some (.ref pl)) none none none none none none none) (lawNw L (some (.ref l)) none (some (.ref b)) (some (.str (tx T) tT)) (some (.str (tx G) tG)) (some (.ref cl)) none none none none none) s)
    (h : ∀ s', St w os g L (lawFr (some (.ref a)) (some (.ref pl)) none none none none none none none) (lawNw L (some (.ref l)) none (some (.ref b)) (some (.str (tx T) tT)) (some (.str (tx G) tG)) (some (.ref cl)) none none none none none) s' →
      wpAny (MM w) A (execs ((lawBody w).drop 7) env) Q NoE s') :
    wpAny (MM w) A (execs ((lawBody w).drop 6) env) Q NoE s := by
  refine (show wpAny (MM w) A (execs (_ :: (lawBody w).drop 7) env) Q NoE s from ?_)
  refine m_cut (fun s' => St w os g L (lawFr (some (.ref a)) (some (.ref pl)) none none none none none none none) (lawNw L (some (.ref l)) none (some (.ref b)) (some (.str (tx T) tT)) (some (.str (tx G) tG)) (some (.ref cl)) none none none none none) s') (fun P' hPP => ?_) fun s' S' => h s' S'
  obtain ⟨eF, hs, hcells, hcode, hq, l0, l1, l2, l3, l4, l5, l6, l7, l8, c0, c1, c2, c3, c4, c5, c6, c7, c8, c9, c10, b0, b1, b2, b3, b4, b5, b6, d0, d1, d2, d3, d4⟩ := id hE
  have hlen := hP.len
  have hplen := hP.plen
  obtain ⟨po, hpo, pvs, hpl1, hpv⟩ := id hpl
  have hpls : At g pl (ListO pvs) := ⟨po, hpo, hpl1⟩
  have hplast : ∃ t, pvs.getLast? = some (.int (T.length : Nat) t) := by
    have e := hP.plast
    rw [List.getLast?_eq_getElem?] at e
    obtain ⟨v, hv, t, rfl⟩ := hpv.get (i := ps.length - 1) (b := ((T.length : Nat) : Int)) (by rw [List.getElem?_map, e]; rfl)
    have hl := hpv.length
    rw [List.length_map] at hl
    exact ⟨t, by rw [List.getLast?_eq_getElem?, hl]; exact hv⟩
  obtain ⟨tl, hplast⟩ := hplast
  repeat' walk1
  · rename_i z; exact absurd rfl z
  rename_i S1 _
  refine wpAny_call (longestlaw_ok (n := n + 3) hA S1.ok (by lia) (S1.old hcl) (S1.old hpl) (by simp; lia) (by lia) (fun p hp => Nat.le_trans (hP.pb p hp) (by lia)) hP.long hP.pne fun s2 O2 k2 => ?_)
  have S2 := S1.call k2 O2
  clear S1 S
  repeat' walk1
  exact ⟨rfl, hPP _ (by assumption)⟩
end
theorem lzw_all {T : List Nat} (hT : Ws T) (hTl : T.length ≤ 900) : ∃ codes ps, Lzw T codes ps := by
  obtain ⟨codes, ps, hpk, h, hcl⟩ := lzw_ex hT hTl
  have hp := h.plen
  refine ⟨codes, ps, hpk, fun z hz => ?_, hcl, fun c hc => ?_, by lia, by lia, fun p hp' => ?_, ?_, fun i j hij hj => h.mono hij hj, fun i hi => h.long (by lia)⟩
  · have := h.cols hz codes.length 0 (by lia)
    rw [List.drop_zero, h.first] at this
    unfold colsOf
    have e : colsGo (z : Int) (codes ++ [0]) [] none 0 = colsGo (z : Int) (codes ++ [0]) (partsAt T ps z 0) (pastAt T ps z 0) ((col z (T.take 0) : Nat) : Int) := rfl
    rw [e, this]
    have h0 : 0 < ps.length := by lia
    have e2 : ps = ps[0] :: ps.drop 1 := by have := List.drop_eq_getElem_cons h0; rwa [List.drop_zero] at this
    have e3 : ps[0] = 0 := by have := h.first; rwa [List.getD_eq_getElem?_getD, List.getElem?_eq_getElem h0] at this
    conv => rhs; rw [e2, e3]
    rfl
  · by_cases h0 : codes = []
    · subst h0; cases hc; decide
    · have hl : 0 < codes.length := List.length_pos_iff.mpr h0
      obtain ⟨c', hc', hm⟩ := (h.steps 0 hl).c
      rw [List.head?_eq_getElem?, List.getElem?_append_left hl, hc'] at hc
      cases hc
      rcases book_mem hm with ⟨_, e⟩ | ⟨_, e⟩ | ⟨j, hj, _⟩
      · lia
      · lia
      · lia
  · obtain ⟨i, hi, rfl⟩ := List.mem_iff_getElem.mp hp'
    have := h.le hi
    rwa [List.getD_eq_getElem?_getD, List.getElem?_eq_getElem hi] at this
  · have := h.last
    rw [List.getLast?_eq_getElem?, hp, Nat.add_sub_cancel, List.getElem?_eq_getElem (by lia)]
    rw [List.getD_eq_getElem?_getD, List.getElem?_eq_getElem (by lia)] at this
    rw [← this]; rfl
theorem tab_mem_le : ∀ (rs : List (List Nat)), ∀ r ∈ rs, r.length ≤ (tabJoin rs).length
  | [], _, h => by cases h
  | [x], r, h => by simp only [List.mem_singleton] at h; subst h; exact Nat.le_refl _
  | x :: y :: rs, r, h => by
    rcases List.mem_cons.mp h with rfl | h
    · simp [tabJoin]
    · have := tab_mem_le (y :: rs) r h
      simp only [tabJoin, List.length_append, List.length_cons]
      lia
theorem lr_tabs : ∀ (rs : List (List Nat)), rs ≠ [] → (∀ r ∈ rs, 9 ∉ r) → Ws (tabJoin rs) → (∀ r ∈ rs, (r.length : Int) ≤ lrOf (tabJoin rs)) ∧ ∃ r ∈ rs, (r.length : Int) = lrOf (tabJoin rs)
  | [], h, _, _ => absurd rfl h
  | [x], _, hf, hw => by
    have e : lrOf (tabJoin [x]) = x.length := by
      show lrOf x = _
      conv => lhs; rw [run_of (T := x) hw (hf x (.head _))]
      rw [lr_run]
    refine ⟨fun r hr => ?_, x, .head _, e.symm⟩
    simp only [List.mem_singleton] at hr; subst hr; rw [e]; exact Int.le_refl _
  | x :: y :: rs, _, hf, hw => by
    have hw' : Ws (x ++ 9 :: tabJoin (y :: rs)) := hw
    have hx : Ws x := hw'.left
    have hy : Ws (tabJoin (y :: rs)) := fun c hc => hw' c (by simp [hc])
    obtain ⟨h1, r, hr, h2⟩ := lr_tabs (y :: rs) (by simp) (fun r hr => hf r (.tail _ hr)) hy
    have e : lrOf (tabJoin (x :: y :: rs)) = max (x.length : Int) (lrOf (tabJoin (y :: rs))) := by
      show lrOf (x ++ 9 :: tabJoin (y :: rs)) = _
      rw [lr_mid _ _ hy]
      conv => lhs; rw [run_of hx (hf x (.head _))]
      rw [lr_run]
    rw [e]
    refine ⟨fun r hr => ?_, ?_⟩
    · rcases List.mem_cons.mp hr with rfl | hr
      · lia
      · have := h1 r hr; lia
    · by_cases c : (x.length : Int) ≤ lrOf (tabJoin (y :: rs))
      · exact ⟨r, .tail _ hr, by lia⟩
      · exact ⟨x, .head _, by lia⟩
theorem All2.of_get {α β : Type} {R : α → β → Prop} : ∀ {as : List α} {bs : List β}, as.length = bs.length → (∀ (i : Nat) (a : α) (b : β), as[i]? = some a → bs[i]? = some b → R a b) → All2 R as bs
  | [], [], _, _ => .nil
  | [], b :: bs, h, _ => by simp at h
  | a :: as, [], h, _ => by simp at h
  | a :: as, b :: bs, h, hr => .cons (hr 0 a b rfl rfl) (All2.of_get (by simpa using h) fun i a' b' h1 h2 => hr (i + 1) a' b' (by simpa using h1) (by simpa using h2))
theorem All2.map_right {α β γ : Type} {R : α → γ → Prop} {f : β → γ} {as : List α} {bs : List β} (h : All2 (fun a b => R a (f b)) as bs) : All2 R as (bs.map f) := by
  induction h with
  | nil => exact .nil
  | cons x _ ih => exact .cons x ih
/-- the sizes -/
noncomputable def sizesOf (M : Nat) : List Nat := (List.range (M + 1)).map fun i => i + 1
theorem sizesOf_len (M : Nat) : (sizesOf M).length = M + 1 := by simp [sizesOf]
theorem sizesOf_get (M i : Nat) (h : i < M + 1) : (sizesOf M)[i]? = some (i + 1) := by simp [sizesOf, h]
noncomputable def VN (v : Value) (k : Nat) : Prop := VI v (k : Int)
noncomputable def NatsAt (g : Heap) (a : Addr) (ns : List Nat) : Prop := ∃ vs, At g a (ListO vs) ∧ All2 VN vs ns
theorem take_snoc {α : Type} {l : List α} {i : Nat} {a : α} (h : l[i]? = some a) : l.take (i + 1) = l.take i ++ [a] := by
  have hi : i < l.length := (List.getElem?_eq_some_iff.mp h).1
  rw [List.take_succ_eq_append_getElem hi]
  rw [List.getElem?_eq_getElem hi] at h
  rw [Option.some.inj h]
local macro_rules | `(tactic| walk_at "call builtin:str.split") => `(tactic| (refine' r_split ?S ?x ?y ?z ?_; (case S => with_reducible assumption); (case x => k_dflt (rfl)); (case y => k_dflt (decide +kernel)); (case z => k_dflt (walk_at "ar")); intro p' vs' rs' s' hv' hj' hf' hn' hl' S'))
local macro_rules | `(tactic| walk_at "call type:list") => `(tactic| (refine' r_list_range ?A ?S ?x ?a ?b ?c ?d ?_; (case A => with_reducible assumption); (case S => with_reducible assumption); (case x => k_dflt (walk_at "m_at")); (case a => k_dflt (walk_at "ar")); (case b => k_dflt (walk_at "ar")); (case c => k_dflt (walk_at "ar")); (case d => k_dflt (walk_at "ar")); intro p' vs' s' hl' hv' S'))
section
variable {w : World} {os : OsState} {g : Heap} {L : Addr} {s : Shared} {A : Around} {n : Nat}
set_option maxHeartbeats 8000000 in
theorem seg7 {env : Env} {l a b cl pl : Addr} {T G : List Nat} {tT tG : Tok} {Q : Flow → Shared → Prop} (hE : LawE w env L) (hA : Ar A (n + 8)) (hT : Ws T) (hT2 : T.length ≤ 18)
    (S : St w os g L (lawFr (some (.ref a)) (some (.ref pl)) none none none none none none none) (lawNw L (some (.ref l)) none (some (.ref b)) (some (.str (tx T) tT)) (some (.str (tx G) tG)) (some (.ref cl)) none none none none none) s)
    (h : ∀ g' z s', g.StaysIn g' → NatsAt g' z (sizesOf (lrOf T).toNat) → St w os g' L (lawFr (some (.ref a)) (some (.ref pl)) (some (.ref z)) none none none none none none) (lawNw L (some (.ref l)) none (some (.ref b)) (some (.str (tx T) tT)) (some (.str (tx G) tG)) (some (.ref cl)) none none none none none) s' →
      wpAny (MM w) A (execs ((lawBody w).drop 8) env) Q NoE s') :
    wpAny (MM w) A (execs ((lawBody w).drop 7) env) Q NoE s := by
  refine (show wpAny (MM w) A (execs (_ :: (lawBody w).drop 8) env) Q NoE s from ?_)
  refine m_cut (fun s' => ∃ g' z, g.StaysIn g' ∧ NatsAt g' z (sizesOf (lrOf T).toNat) ∧ St w os g' L (lawFr (some (.ref a)) (some (.ref pl)) (some (.ref z)) none none none none none none) (lawNw L (some (.ref l)) none (some (.ref b)) (some (.str (tx T) tT)) (some (.str (tx G) tG)) (some (.ref cl)) none none none none none) s') (fun P' hPP => ?_) fun s' ⟨g', z, k1, k2, S'⟩ => h g' z s' k1 k2 S'
  obtain ⟨eF, hs, hcells, hcode, hq, l0, l1, l2, l3, l4, l5, l6, l7, l8, c0, c1, c2, c3, c4, c5, c6, c7, c8, c9, c10, b0, b1, b2, b3, b4, b5, b6, d0, d1, d2, d3, d4⟩ := id hE
  have hlrb := lrOf_bounds T
  repeat' walk1
  rename_i R vs rs _ hv hj hf hne hrl _ I s2 S2
  have hvl := hv.length
  obtain ⟨m1, r0, hr0, m2⟩ := lr_tabs rs hne hf (by rw [hj]; exact hT)
  rw [hj] at m1 m2
  refine comp_run0 (fun _ v k => VI v k) (fun _ _ _ _ _ x => x) [Str.ofString "run"] (fun i => LIterO R i) vs.length (fun i => (rs.take i).map fun r => (r.length : Int)) (by lia) (fun i => by rw [List.length_map, List.length_take]; lia) S2 (by decide) rfl (by decide) ?_ ?_ ?_ ?_
  · intro s Q' E hI hQ
    exact wpAny_pyIter_listiter hI hQ
  · intro i gc C D ys frc cenv sc hi hkc hce hfr SC Cc Bc hCc hBc
    have eF' : EnvF cenv C := by rw [hce]; exact compEnvF eF rfl
    have m0 : NmL cenv (Str.ofString "run") := by rw [hce]; exact cm_l rfl rfl
    have m3 : NmV w cenv (Str.ofString "len") (.builtin "len") := by rw [hce]; exact cm_b eF rfl rfl (by kernel_rfl) rfl (by decide) rfl
    obtain ⟨w1, rfl⟩ := fm1 hfr
    obtain ⟨r, hr, tr, hrt⟩ := hv.get' (List.getElem?_eq_getElem hi)
    have hrle := tab_mem_le rs r (List.mem_of_getElem? hr)
    rw [hj] at hrle
    refine r_next_list SC (.tail .head) (SC.mem (.tail _ (.tail _ (.tail _ (.head _))))).isList (List.getElem?_eq_getElem hi) fun s3 S3 => ?_
    rw [hrt]
    dsimp only
    refine wpAny_of_eq rfl ?_
    repeat' walk1
    exact ⟨hCc _ _ ⟨gc, _, (r.length : Int), fun _ _ e => e, by rw [take_snoc hr, List.map_append]; rfl, ⟨_, rfl⟩, rfl, by assumption⟩⟩
  · intro gc C D ys frc sc Q' hkc SC hQ
    exact r_end_list hA SC (.tail .head) (SC.mem (.tail _ (.tail _ (.tail _ (.head _))))).isList (by simp) hQ
  · intro gc C D vs2 frc sc hkc hvs SC
    rw [List.take_of_length_le (by lia)] at hvs
    refine post_none SC fun s7 S7 => ?_
    clear SC S2
    repeat' walk1
    refine r_maxl hA S7 (S7.mem (.head _)).isList hvs (by rw [List.length_map]; exact List.length_pos_iff.mpr hne) fun M tM s8 hM1 hM2 S8 => ?_
    have hM : M = lrOf T := by
      obtain ⟨r, hr, e⟩ := List.mem_map.mp hM1
      have := m1 r hr
      have := hM2 _ (List.mem_map_of_mem hr0)
      lia
    subst hM
    have S9 := S8.drop.drop
    clear S7 S8
    repeat' walk1
    rename_i z vs3 _ hl3 hv3 _ s10 S10
    obtain ⟨g', k', hz, S11⟩ := S10.freeze
    refine ⟨rfl, hPP _ ⟨g', z, fun b o e => k' b o (hkc b o e), ⟨vs3, hz, ?_⟩, S11.drop⟩⟩
    refine All2.of_get (by rw [sizesOf_len, hl3]; lia) fun i v k h1 h2 => ?_
    have hi : i < (lrOf T).toNat + 1 := by have := (List.getElem?_eq_some_iff.mp h2).1; rwa [sizesOf_len] at this
    rw [sizesOf_get _ _ hi] at h2
    cases h2
    obtain ⟨t, rfl⟩ := hv3 i v h1
    exact ⟨t, by rw [show (1 : Int) + (i : Nat) = ((i + 1 : Nat) : Int) from by lia]⟩
end
/-- the columns at the places -/
noncomputable def colRow (T : List Nat) (ps : List Nat) (k : Nat) : List Int := ps.map fun p => ((col k (T.take p) : Nat) : Int)
noncomputable def VRow (T : List Nat) (ps : List Nat) (g : Heap) (v : Value) (k : Nat) : Prop := ∃ a, v = .ref a ∧ At g a (IntsO (colRow T ps k))
theorem VRow.mono {T ps : List Nat} {g g' : Heap} {v : Value} {k : Nat} (h : g.StaysIn g') (x : VRow T ps g v k) : VRow T ps g' v k := let ⟨a, e, y⟩ := x; ⟨a, e, y.keeps fun o z => h _ o z⟩
noncomputable def TabAt (T ps : List Nat) (M : Nat) (g : Heap) (a : Addr) : Prop := ∃ vs, At g a (ListO vs) ∧ All2 (VRow T ps g) vs (sizesOf M)
theorem TabAt.mono {T ps : List Nat} {M : Nat} {g g' : Heap} {a : Addr} (h : g.StaysIn g') (x : TabAt T ps M g a) : TabAt T ps M g' a :=
  let ⟨vs, e, y⟩ := x; ⟨vs, e.keeps fun o z => h _ o z, y.mono fun _ _ z => z.mono h⟩
theorem NatsAt.mono {g g' : Heap} {a : Addr} {ns : List Nat} (h : g.StaysIn g') (x : NatsAt g a ns) : NatsAt g' a ns := let ⟨vs, e, y⟩ := x; ⟨vs, e.keeps fun o z => h _ o z, y⟩
section
variable {w : World} {os : OsState} {g : Heap} {L : Addr} {s : Shared} {A : Around} {n : Nat}
set_option maxHeartbeats 8000000 in
theorem seg8 {env : Env} {l a b cl pl z : Addr} {T G : List Nat} {tT tG : Tok} {codes : List Int} {ps : List Nat} {M : Nat} {Q : Flow → Shared → Prop} (hE : LawE w env L) (hA : Ar A (n + 8)) (hT2 : T.length ≤ 18) (hP : Lzw T codes ps) (hcl : At g cl (IntsO (codes ++ [0])))
    (hz : NatsAt g z (sizesOf M)) (hM : M ≤ 18)
    (S : St w os g L (lawFr (some (.ref a)) (some (.ref pl)) (some (.ref z)) none none none none none none) (lawNw L (some (.ref l)) none (some (.ref b)) (some (.str (tx T) tT)) (some (.str (tx G) tG)) (some (.ref cl)) none none none none none) s)
    (h : ∀ g' tb s', g.StaysIn g' → TabAt T ps M g' tb → St w os g' L (lawFr (some (.ref a)) (some (.ref pl)) (some (.ref z)) none none none none none none) (lawNw L (some (.ref l)) none (some (.ref b)) (some (.str (tx T) tT)) (some (.str (tx G) tG)) (some (.ref cl)) none (some (.ref tb)) none none none) s' →
      wpAny (MM w) A (execs ((lawBody w).drop 9) env) Q NoE s') :
    wpAny (MM w) A (execs ((lawBody w).drop 8) env) Q NoE s := by
  refine (show wpAny (MM w) A (execs (_ :: (lawBody w).drop 9) env) Q NoE s from ?_)
  refine m_cut (fun s' => ∃ g' tb, g.StaysIn g' ∧ TabAt T ps M g' tb ∧ St w os g' L (lawFr (some (.ref a)) (some (.ref pl)) (some (.ref z)) none none none none none none) (lawNw L (some (.ref l)) none (some (.ref b)) (some (.str (tx T) tT)) (some (.str (tx G) tG)) (some (.ref cl)) none (some (.ref tb)) none none none) s') (fun P' hPP => ?_) fun s' ⟨g', tb, k1, k2, S'⟩ => h g' tb s' k1 k2 S'
  obtain ⟨eF, hs, hcells, hcode, hq, l0, l1, l2, l3, l4, l5, l6, l7, l8, c0, c1, c2, c3, c4, c5, c6, c7, c8, c9, c10, b0, b1, b2, b3, b4, b5, b6, d0, d1, d2, d3, d4⟩ := id hE
  obtain ⟨zvs, hz1, hz2⟩ := hz
  have hzl := hz2.length
  rw [sizesOf_len] at hzl
  have hlen := hP.len
  refine wpAny_Assign_Name ?_ (swaps_not c7)
  refine r_comp (cl := [(Str.ofString "codes", L + 6)]) (by unfold closureFor cellOf; rw [hcells]; rfl) rfl (by decide) (fun _ => rfl) ?_
  repeat' walk1
  rename_i I s2 S2
  refine comp_run0 (VRow T ps) (fun _ _ _ _ k x => x.mono k) [Str.ofString "size"] (fun i => LIterO z i) zvs.length (fun i => (sizesOf M).take i) (by lia) (fun i => by rw [List.length_take]; lia) S2 (by decide) rfl (by decide) ?_ ?_ ?_ ?_
  · intro s Q' E hI hQ
    exact wpAny_pyIter_listiter hI hQ
  · intro i gc C D ys frc cenv sc hi hkc hce hfr SC Cc Bc hCc hBc
    have eF' : EnvF cenv C := by rw [hce]; exact compEnvF eF rfl
    have m0 : NmL cenv (Str.ofString "size") := by rw [hce]; exact cm_l rfl rfl
    have m1 : NmC cenv (Str.ofString "codes") (L + 6) := by rw [hce]; exact cm_c eF c5 rfl rfl
    have m3 : NmV w cenv (Str.ofString "_law_columns") (.ref 156) := by rw [hce]; exact cm_g eF rfl rfl (by kernel_rfl) rfl
    obtain ⟨w1, rfl⟩ := fm1 hfr
    have hzc := hz1.keeps fun o e => hkc _ o e
    have hclc := hcl.keeps fun o e => hkc _ o e
    obtain ⟨k, hk, tk, hkt⟩ := hz2.get' (List.getElem?_eq_getElem hi)
    have hki : k = i + 1 := by
      rw [sizesOf_get _ _ (by lia)] at hk; exact (Option.some.inj hk).symm
    refine r_next_list SC (.tail .head) (SC.old hzc).isList (List.getElem?_eq_getElem hi) fun s3 S3 => ?_
    rw [hkt]
    dsimp only
    refine wpAny_of_eq rfl ?_
    clear SC S2
    repeat' walk1
    rename_i S4
    refine wpAny_call (columns_ok (n := n + 6) hA S4.ok (S4.old hclc) (by simp; lia) ⟨by lia, by lia⟩ hP.head fun q s5 O5 k5 hq5 h5 => ?_)
    rw [hP.cols k (by lia)] at h5
    obtain ⟨g', kk, hx, S5⟩ := S4.callNew O5 k5 hq5 h5
    exact ⟨hCc _ _ ⟨g', _, k, kk, take_snoc hk, ⟨q, rfl, hx⟩, rfl, S5⟩⟩
  · intro gc C D ys frc sc Q' hkc SC hQ
    exact r_end_list hA SC (.tail .head) (SC.old (hz1.keeps fun o e => hkc _ o e)).isList (by simp) hQ
  · intro gc C D vs2 frc sc hkc hvs SC
    rw [List.take_of_length_le (by rw [sizesOf_len]; lia)] at hvs
    refine post_none SC fun s7 S7 => ?_
    obtain ⟨g', k', hD, S8⟩ := S7.freeze
    clear SC S2 S7
    repeat' walk1
    rename_i S9
    exact ⟨rfl, hPP _ ⟨g', D, fun b o e => k' b o (hkc b o e), ⟨vs2, hD, hvs.mono fun _ _ x => x.mono k'⟩, S9⟩⟩
end
noncomputable def VLead (T : List Nat) (g : Heap) (v : Value) (p : Nat) : Prop := ∃ x, v = .ref x ∧ WsAt g x (T.take p)
theorem VLead.mono {T : List Nat} {g g' : Heap} {v : Value} {p : Nat} (h : g.StaysIn g') (x : VLead T g v p) : VLead T g' v p := let ⟨a, e, y⟩ := x; ⟨a, e, y.mono h⟩
noncomputable def LeadsAt (T ps : List Nat) (g : Heap) (a : Addr) : Prop := ∃ vs, At g a (ListO vs) ∧ All2 (VLead T g) vs ps
theorem LeadsAt.mono {T ps : List Nat} {g g' : Heap} {a : Addr} (h : g.StaysIn g') (x : LeadsAt T ps g a) : LeadsAt T ps g' a :=
  let ⟨vs, e, y⟩ := x; ⟨vs, e.keeps fun o z => h _ o z, y.mono fun _ _ z => z.mono h⟩
section
variable {w : World} {os : OsState} {g : Heap} {L : Addr} {fr : Fm} {nw : Nw} {s : Shared} {A : Around} {n : Nat}
/-- the class is called -/
theorem r_callWs {pos : Pos} {first : List Value} {env : Env} {e : Expr} {rest : List Expr} {Q : Value → Shared → Prop} (S : St w os g L fr nw s) (hk : keepIn (KK w) (.ref 83) = true)
    (h : wpAny (MM w) A (spliced (backTo pos (starEach (e :: rest) env))) (fun vs s₁ => Then w s₁ (wpAny (MM w) A (call (.ref 83) (first ++ vs) []) Q NoE s₁)) NoE s)
    (he : starEach (e :: rest) env = (false, eval e env) :: starEach rest env) (hp : (backTo pos (starEach rest env)).any (·.1) = false) :
    wpAny (MM w) A (callWith pos (.ref 83) first (backTo pos (starEach (e :: rest) env)) []) Q NoE s :=
  callWith_K S.ok.gd.K hk (wpAny_mono h (fun vs s₁ x => ⟨x.1.K, x.2⟩) fun _ _ x => x) he hp
theorem St.callWs {s' : Shared} {x : Addr} {T : List Nat} (S : St w os g L fr nw s) (O : Ok w os s') (k : s.heap.StaysIn s'.heap) (W : ∀ g', (∀ b o, s'.heap.get? b = some o → s.heap.get? b = none → g'.get? b = some o) → WsAt g' x T) :
    ∃ g', g.StaysIn g' ∧ WsAt g' x T ∧ St w os g' L fr nw s' := by
  obtain ⟨g', k', hin, _, S'⟩ := (S.call k O).rebase
  refine ⟨g', k', W g' fun b o e hn => hin b o e (fun z => ?_) (fun z => ?_), S'⟩
  · obtain ⟨m, ⟨o', _, _, e', _⟩, _⟩ := S.ns.ex
    rw [← z, hn] at e'; cases e'
  · obtain ⟨p', hp, z'⟩ := List.mem_map.mp z
    obtain ⟨o', e', _⟩ := (S.new p' hp).1
    rw [z', hn] at e'; cases e'
end
local macro_rules | `(tactic| walk_at "callWith ref") => `(tactic| (refine' r_callWs ?S ?k ?_ ?he ?hp; (case S => with_reducible assumption); (case k => k_dflt (kernel_rfl)); (case he => k_dflt (exact rfl)); (case hp => k_dflt (exact rfl))))
section
variable {w : World} {os : OsState} {g : Heap} {L : Addr} {fr : Fm} {nw : Nw} {s : Shared} {A : Around} {n : Nat}
set_option maxHeartbeats 8000000 in
theorem seg9 {env : Env} {l a b cl pl z tb : Addr} {T G : List Nat} {tT tG : Tok} {codes : List Int} {ps : List Nat} {Q : Flow → Shared → Prop} (hE : LawE w env L) (hA : Ar A (n + 8)) (hT : Ws T) (hT2 : T.length ≤ 18) (hP : Lzw T codes ps)
    (hpl : At g pl (IntsO (ps.map fun p : Nat => (p : Int))))
    (S : St w os g L (lawFr (some (.ref a)) (some (.ref pl)) (some (.ref z)) none none none none none none) (lawNw L (some (.ref l)) none (some (.ref b)) (some (.str (tx T) tT)) (some (.str (tx G) tG)) (some (.ref cl)) none (some (.ref tb)) none none none) s)
    (h : ∀ g' ld s', g.StaysIn g' → LeadsAt T ps g' ld → St w os g' L (lawFr (some (.ref a)) (some (.ref pl)) (some (.ref z)) (some (.ref ld)) none none none none none) (lawNw L (some (.ref l)) none (some (.ref b)) (some (.str (tx T) tT)) (some (.str (tx G) tG)) (some (.ref cl)) none (some (.ref tb)) none none none) s' →
      wpAny (MM w) A (execs ((lawBody w).drop 10) env) Q NoE s') :
    wpAny (MM w) A (execs ((lawBody w).drop 9) env) Q NoE s := by
  refine (show wpAny (MM w) A (execs (_ :: (lawBody w).drop 10) env) Q NoE s from ?_)
  refine m_cut (fun s' => ∃ g' ld, g.StaysIn g' ∧ LeadsAt T ps g' ld ∧ St w os g' L (lawFr (some (.ref a)) (some (.ref pl)) (some (.ref z)) (some (.ref ld)) none none none none none) (lawNw L (some (.ref l)) none (some (.ref b)) (some (.str (tx T) tT)) (some (.str (tx G) tG)) (some (.ref cl)) none (some (.ref tb)) none none none) s') (fun P' hPP => ?_) fun s' ⟨g', ld, k1, k2, S'⟩ => h g' ld s' k1 k2 S'
  obtain ⟨eF, hs, hcells, hcode, hq, l0, l1, l2, l3, l4, l5, l6, l7, l8, c0, c1, c2, c3, c4, c5, c6, c7, c8, c9, c10, b0, b1, b2, b3, b4, b5, b6, d0, d1, d2, d3, d4⟩ := id hE
  obtain ⟨po, hpo, pvs, hpl1, hpv⟩ := id hpl
  have hpls : At g pl (ListO pvs) := ⟨po, hpo, hpl1⟩
  have hpvl := hpv.length
  rw [List.length_map] at hpvl
  have hplen := hP.plen
  refine r_compU (cl := [(Str.ofString "text", L + 4)]) (swaps_of eF l3 rfl (by decide)) (by unfold closureFor cellOf; rw [hcells]; rfl) rfl (by decide) (fun _ => rfl) ?_
  repeat' walk1
  rename_i I s2 S2
  refine comp_run0 (VLead T) (fun _ _ _ _ k x => x.mono k) [Str.ofString "place"] (fun i => LIterO pl i) pvs.length (fun i => ps.take i) (by lia) (fun i => by rw [List.length_take]; lia) S2 (by decide) rfl (by decide) ?_ ?_ ?_ ?_
  · intro s Q' E hI hQ
    exact wpAny_pyIter_listiter hI hQ
  · intro i gc C D ys frc cenv sc hi hkc hce hfr SC Cc Bc hCc hBc
    have eF' : EnvF cenv C := by rw [hce]; exact compEnvF eF rfl
    have m0 : NmL cenv (Str.ofString "place") := by rw [hce]; exact cm_l rfl rfl
    have m1 : NmC cenv (Str.ofString "text") (L + 4) := by rw [hce]; exact cm_c eF c3 rfl rfl
    have m3 : NmV w cenv (Str.ofString "Whitespace") (.ref 83) := by rw [hce]; exact cm_g eF rfl rfl (by kernel_rfl) rfl
    obtain ⟨w1, rfl⟩ := fm1 hfr
    have hplc := hpls.keeps fun o e => hkc _ o e
    have hi' : i < ps.length := by lia
    obtain ⟨v, hv, tk, hkt⟩ := hpv.get (i := i) (b := (ps[i] : Int)) (by rw [List.getElem?_map, List.getElem?_eq_getElem hi']; rfl)
    have hpb := hP.pb _ (List.getElem_mem hi')
    refine r_next_list SC (.tail .head) (SC.old hplc).isList hv fun s3 S3 => ?_
    rw [hkt]
    dsimp only
    refine wpAny_of_eq rfl ?_
    clear SC S2
    repeat' walk1
    rename_i S4
    rw [Int.toNat_natCast]
    refine wpAny_call (make_ok (n := n + 6) hA S4.ok (hT.take _) (by rw [List.length_take]; lia) fun x s5 O5 k5 W5 => ?_)
    obtain ⟨g', kk, hx, S5⟩ := S4.callWs O5 k5 W5
    exact ⟨hCc _ _ ⟨g', _, ps[i], kk, take_snoc (List.getElem?_eq_getElem hi'), ⟨x, rfl, hx⟩, rfl, S5⟩⟩
  · intro gc C D ys frc sc Q' hkc SC hQ
    exact r_end_list hA SC (.tail .head) (SC.old (hpls.keeps fun o e => hkc _ o e)).isList (by simp) hQ
  · intro gc C D vs2 frc sc hkc hvs SC
    rw [List.take_of_length_le (by lia)] at hvs
    refine post_use eF l3 SC (by walk_at "m_upd") fun s7 S10 => ⟨rfl, hPP _ ?_⟩
    obtain ⟨gd, kd, hD, S11⟩ := S10.freeze
    exact ⟨gd, D, fun b o e => kd b o (hkc b o e), ⟨vs2, hD, hvs.mono fun _ _ x => x.mono kd⟩, S11⟩
end
theorem reads_at {h : Heap} {q : Addr} {ns : List Int} (x : At h q (IntsO ns)) : ∃ as, Reads h (.ref q) (.list (ns.map .int)) as := by
  obtain ⟨o, e, vs, hl, hv⟩ := x
  exact reads_list ⟨o, e, hl⟩ hv
section
variable {w : World} {os : OsState} {g : Heap} {L : Addr} {fr : Fm} {nw : Nw} {s : Shared} {A : Around} {n : Nat}
set_option maxHeartbeats 8000000 in
theorem seg10 {env : Env} {l a b cl pl z tb ld : Addr} {T G : List Nat} {tT tG : Tok} {ps : List Nat} {M : Nat} {Q : Flow → Shared → Prop} (hE : LawE w env L) (hA : Ar A (n + 8)) (hT : Ws T) (hT2 : T.length ≤ 18) (hpn : ps.length ≤ 20)
    (hz : NatsAt g z (sizesOf M)) (hM : M ≤ 18) (htb : TabAt T ps M g tb) (hld : LeadsAt T ps g ld)
    (S : St w os g L (lawFr (some (.ref a)) (some (.ref pl)) (some (.ref z)) (some (.ref ld)) none none none none none) (lawNw L (some (.ref l)) none (some (.ref b)) (some (.str (tx T) tT)) (some (.str (tx G) tG)) (some (.ref cl)) none (some (.ref tb)) none none none) s)
    (h : ∀ g' o s', g.StaysIn g' → St w os g' L (lawFr (some (.ref a)) (some (.ref pl)) (some (.ref z)) (some (.ref ld)) none none none none none) (lawNw L (some (.ref l)) none (some (.ref b)) (some (.str (tx T) tT)) (some (.str (tx G) tG)) (some (.ref cl)) o (some (.ref tb)) none none none) s' →
      wpAny (MM w) A (execs ((lawBody w).drop 11) env) Q NoE s') :
    wpAny (MM w) A (execs ((lawBody w).drop 10) env) Q NoE s := by
  refine (show wpAny (MM w) A (execs (_ :: (lawBody w).drop 11) env) Q NoE s from ?_)
  refine m_cut (fun s' => ∃ g' o, g.StaysIn g' ∧ St w os g' L (lawFr (some (.ref a)) (some (.ref pl)) (some (.ref z)) (some (.ref ld)) none none none none none) (lawNw L (some (.ref l)) none (some (.ref b)) (some (.str (tx T) tT)) (some (.str (tx G) tG)) (some (.ref cl)) o (some (.ref tb)) none none none) s') (fun P' hPP => ?_) fun s' ⟨g', o, k1, S'⟩ => h g' o s' k1 S'
  obtain ⟨eF, hs, hcells, hcode, hq, l0, l1, l2, l3, l4, l5, l6, l7, l8, c0, c1, c2, c3, c4, c5, c6, c7, c8, c9, c10, b0, b1, b2, b3, b4, b5, b6, d0, d1, d2, d3, d4⟩ := id hE
  obtain ⟨zvs, hz1, hz2⟩ := hz
  obtain ⟨tvs, ht1, ht2⟩ := htb
  obtain ⟨lvs, hl1, hl2⟩ := hld
  have hzl := hz2.length
  have htl := ht2.length
  have hll := hl2.length
  rw [sizesOf_len] at hzl htl
  repeat' walk1
  rename_i it s1 S1
  refine m_for zvs.length
    (fun i s2 => ∃ g' o, g.StaysIn g' ∧ St w os g' L (lawFr (some (.ref a)) (some (.ref pl)) (some (.ref z)) (some (.ref ld)) none none none none none) ((it, LIterO z i) :: lawNw L (some (.ref l)) none (some (.ref b)) (some (.str (tx T) tT)) (some (.str (tx G) tG)) (some (.ref cl)) o (some (.ref tb)) none none none) s2)
    (fun s2 => ∃ g' o, g.StaysIn g' ∧ St w os g' L (lawFr (some (.ref a)) (some (.ref pl)) (some (.ref z)) (some (.ref ld)) none none none none none) (lawNw L (some (.ref l)) none (some (.ref b)) (some (.str (tx T) tT)) (some (.str (tx G) tG)) (some (.ref cl)) o (some (.ref tb)) none none none) s2) ?turn ?last ?fin 0 (Nat.zero_le _) ?init
  case init => exact ⟨g, none, fun _ _ e => e, S1⟩
  case fin =>
    rintro s2 ⟨g', o, k, S2⟩
    repeat' walk1
    exact ⟨rfl, hPP _ ⟨g', o, k, S2⟩⟩
  case last =>
    rintro s2 ⟨g', o, k, S2⟩
    exact r_end_list hA S2 .head (S2.old (hz1.keeps fun o e => k _ o e)).isList (by simp) fun s3 S3 => ⟨⟨g', o, k, S3⟩⟩
  case turn =>
    rintro i s2 hi ⟨g', o, k, S2⟩
    intro Ct Bt hCt hBt
    obtain ⟨sz, hsz, tk, hkt⟩ := hz2.get' (List.getElem?_eq_getElem hi)
    have hki : sz = i + 1 := by
      rw [sizesOf_get _ _ (by lia)] at hsz; exact (Option.some.inj hsz).symm
    refine r_next_list S2 .head (S2.old (hz1.keeps fun o e => k _ o e)).isList (List.getElem?_eq_getElem hi) fun s3 S3 => ?_
    rw [hkt]
    dsimp only
    have hl1' := hl1.keeps fun o e => k _ o e
    have ht1' := ht1.keeps fun o e => k _ o e
    obtain ⟨row, hrow, ra, rfl, hra⟩ := ht2.get (i := i) (b := sz) hsz
    have hidx : tvs[((sz : Int) - 1).toNat]? = some (.ref ra) := by rw [show ((sz : Int) - 1).toNat = i from by lia]; exact hrow
    clear S2
    repeat' walk1
    rename_i s4 S4
    refine r_comp (cl := [(Str.ofString "size", L + 7)]) (by unfold closureFor cellOf; rw [hcells]; rfl) rfl (by decide) (fun _ => rfl) ?_
    repeat' walk1
    rename_i I s5 S5
    refine comp_run0 (fun _ v k => VI v k) (fun _ _ _ _ _ x => x) [Str.ofString "lead"] (fun i => LIterO ld i) lvs.length (fun i => (ps.take i).map fun p => ((col sz (T.take p) : Nat) : Int)) (by lia) (fun i => by rw [List.length_map, List.length_take]; lia) S5 (by decide) rfl (by decide) ?_ ?_ ?_ ?_
    · intro s Q' E hI hQ
      exact wpAny_pyIter_listiter hI hQ
    · intro j gc C D ys frc cenv sc hj hkc hce hfr SC Cc Bc hCc hBc
      have eF' : EnvF cenv C := by rw [hce]; exact compEnvF eF rfl
      have m0 : NmL cenv (Str.ofString "lead") := by rw [hce]; exact cm_l rfl rfl
      have m1 : NmC cenv (Str.ofString "size") (L + 7) := by rw [hce]; exact cm_c eF c6 rfl rfl
      obtain ⟨w1, rfl⟩ := fm1 hfr
      have hlc := hl1'.keeps fun o e => hkc _ o e
      obtain ⟨p, hp, x, hx, hW⟩ := hl2.get' (List.getElem?_eq_getElem hj)
      have hWc := (hW.mono k).mono hkc
      obtain ⟨dx, vr, tn, tt, q, c, tbb, cvs, w1', w2', w3', w4', w5'⟩ := id hWc
      have htl' : (T.take p).length ≤ 18 := by rw [List.length_take]; lia
      refine r_next_list SC (.tail .head) (SC.old hlc).isList (List.getElem?_eq_getElem hj) fun s6 S6 => ?_
      rw [hx]
      dsimp only
      refine wpAny_of_eq rfl ?_
      clear SC S5 S4 S3
      repeat' walk1
      rename_i S7
      rw [level_col (hT.take _) (by lia)]
      exact ⟨hCc _ _ ⟨gc, _, _, fun _ _ e => e, by rw [take_snoc hp, List.map_append]; rfl, ⟨_, rfl⟩, rfl, S7⟩⟩
    · intro gc C D ys frc sc Q' hkc SC hQ
      exact r_end_list hA SC (.tail .head) (SC.old (hl1'.keeps fun o e => hkc _ o e)).isList (by simp) hQ
    · intro gc C D vs frc sc hkc hvs SC
      rw [List.take_of_length_le (by lia)] at hvs
      refine post_none SC fun s7 S7 => ?_
      have ht1c := ht1'.keeps fun o e => hkc _ o e
      clear SC S5 S4 S3 S1 S
      repeat' walk1
      rename_i S8
      obtain ⟨as1, ra1⟩ := reads_list (S8.mem (.head _)) hvs
      obtain ⟨as2, rb1⟩ := reads_at ((((hra.keeps fun o e => k _ o e).keeps fun o e => hkc _ o e).keeps fun o e => S8.keep _ o e))
      refine r_neSame hA ra1 rb1 (shaped_ints _) ?_
      have S9 := S8.drop
      clear S7 S8
      repeat' walk1
      exact ⟨hCt _ ⟨gc, _, fun b o e => hkc b o (k b o e), S9⟩⟩
end
theorem walkGo_last {z : Nat} : ∀ (T : List Nat) (c : Nat), ((c : Int) :: walkGo (z : Int) T (c : Int)).getLast? = some ((T.foldl (colStep z) c : Nat) : Int)
  | [], c => rfl
  | ch :: r, c => by
    have e : (if ch = 32 then (c : Int) + 1 else ((c : Int) / (z : Int) + 1) * (z : Int)) = ((colStep z c ch : Nat) : Int) := by
      unfold colStep; split <;> rfl
    rw [walkGo, e, List.getLast?_cons_cons, walkGo_last r, List.foldl_cons]
theorem walkOf_last (T : List Nat) (z : Nat) : (walkOf T (z : Int)).getLast? = some ((col z T : Nat) : Int) := walkGo_last T 0
theorem ints_last {g : Heap} {q : Addr} {ns : List Int} {k : Int} (h : At g q (IntsO ns)) (hk : ns.getLast? = some k) : ∃ vs t, At g q (ListO vs) ∧ vs.getLast? = some (.int k t) := by
  obtain ⟨o, e, vs, hl, hv⟩ := h
  rw [List.getLast?_eq_getElem?] at hk
  obtain ⟨v, h1, t, rfl⟩ := hv.get hk
  exact ⟨vs, t, ⟨o, e, hl⟩, by rw [List.getLast?_eq_getElem?, hv.length]; exact h1⟩
theorem ints_get {g : Heap} {q : Addr} {ns : List Int} (h : At g q (IntsO ns)) : ∃ vs, At g q (ListO vs) ∧ All2 VI vs ns := by
  obtain ⟨o, e, vs, hl, hv⟩ := h
  exact ⟨vs, ⟨o, e, hl⟩, hv⟩
/-- the goal's columns; the places below them -/
noncomputable def aimsOf (G : List Nat) (M : Nat) : List Int := (sizesOf M).map fun k => ((col k G : Nat) : Int)
noncomputable def stopOf (T G ps : List Nat) (k : Nat) : Nat := bis (fun i => decide ((colRow T ps k).getD i 0 < ((col k G : Nat) : Int))) 0 ps.length
noncomputable def stopsOf (T G ps : List Nat) (M : Nat) : List Int := (sizesOf M).map fun k => ((stopOf T G ps k : Nat) : Int)
section
variable {w : World} {os : OsState} {g : Heap} {L : Addr} {fr : Fm} {nw : Nw} {s : Shared} {A : Around} {n : Nat}
set_option maxHeartbeats 8000000 in
theorem seg11 {env : Env} {l a b cl pl z tb ld : Addr} {T G : List Nat} {tT tG : Tok} {o : Option Value} {Q : Flow → Shared → Prop} (hE : LawE w env L) (hA : Ar A (n + 8)) (hG : Ws G) (hG2 : G.length ≤ 18)
    (S : St w os g L (lawFr (some (.ref a)) (some (.ref pl)) (some (.ref z)) (some (.ref ld)) none none none none none) (lawNw L (some (.ref l)) none (some (.ref b)) (some (.str (tx T) tT)) (some (.str (tx G) tG)) (some (.ref cl)) o (some (.ref tb)) none none none) s)
    (h : ∀ g' x s', g.StaysIn g' → WsAt g' x G → St w os g' L (lawFr (some (.ref a)) (some (.ref pl)) (some (.ref z)) (some (.ref ld)) none none none none none) (lawNw L (some (.ref l)) none (some (.ref b)) (some (.str (tx T) tT)) (some (.str (tx G) tG)) (some (.ref cl)) o (some (.ref tb)) none none (some (.ref x))) s' →
      wpAny (MM w) A (execs ((lawBody w).drop 12) env) Q NoE s') :
    wpAny (MM w) A (execs ((lawBody w).drop 11) env) Q NoE s := by
  refine (show wpAny (MM w) A (execs (_ :: (lawBody w).drop 12) env) Q NoE s from ?_)
  refine m_cut (fun s' => ∃ g' x, g.StaysIn g' ∧ WsAt g' x G ∧ St w os g' L (lawFr (some (.ref a)) (some (.ref pl)) (some (.ref z)) (some (.ref ld)) none none none none none) (lawNw L (some (.ref l)) none (some (.ref b)) (some (.str (tx T) tT)) (some (.str (tx G) tG)) (some (.ref cl)) o (some (.ref tb)) none none (some (.ref x))) s') (fun P' hPP => ?_) fun s' ⟨g', x, k1, k2, S'⟩ => h g' x s' k1 k2 S'
  obtain ⟨eF, hs, hcells, hcode, hq, l0, l1, l2, l3, l4, l5, l6, l7, l8, c0, c1, c2, c3, c4, c5, c6, c7, c8, c9, c10, b0, b1, b2, b3, b4, b5, b6, d0, d1, d2, d3, d4⟩ := id hE
  repeat' walk1
  refine wpAny_call (make_ok (n := n + 6) hA S.ok hG (by lia) fun x s5 O5 k5 W5 => ?_)
  obtain ⟨g', kk, hx, S5⟩ := S.callWs O5 k5 W5
  clear S
  repeat' walk1
  exact ⟨rfl, hPP _ ⟨g', x, kk, hx, by assumption⟩⟩
set_option maxHeartbeats 8000000 in
theorem seg12 {env : Env} {l a b cl pl z tb ld x : Addr} {T G : List Nat} {tT tG : Tok} {M : Nat} {o : Option Value} {Q : Flow → Shared → Prop} (hE : LawE w env L) (hA : Ar A (n + 8)) (hG : Ws G) (hG2 : G.length ≤ 18)
    (hz : NatsAt g z (sizesOf M)) (hM : M ≤ 18)
    (S : St w os g L (lawFr (some (.ref a)) (some (.ref pl)) (some (.ref z)) (some (.ref ld)) none none none none none) (lawNw L (some (.ref l)) none (some (.ref b)) (some (.str (tx T) tT)) (some (.str (tx G) tG)) (some (.ref cl)) o (some (.ref tb)) none none (some (.ref x))) s)
    (h : ∀ g' am s', g.StaysIn g' → At g' am (IntsO (aimsOf G M)) → St w os g' L (lawFr (some (.ref a)) (some (.ref pl)) (some (.ref z)) (some (.ref ld)) none none none none none) (lawNw L (some (.ref l)) none (some (.ref b)) (some (.str (tx T) tT)) (some (.str (tx G) tG)) (some (.ref cl)) o (some (.ref tb)) (some (.ref am)) none (some (.ref x))) s' →
      wpAny (MM w) A (execs ((lawBody w).drop 13) env) Q NoE s') :
    wpAny (MM w) A (execs ((lawBody w).drop 12) env) Q NoE s := by
  refine (show wpAny (MM w) A (execs (_ :: (lawBody w).drop 13) env) Q NoE s from ?_)
  refine m_cut (fun s' => ∃ g' am, g.StaysIn g' ∧ At g' am (IntsO (aimsOf G M)) ∧ St w os g' L (lawFr (some (.ref a)) (some (.ref pl)) (some (.ref z)) (some (.ref ld)) none none none none none) (lawNw L (some (.ref l)) none (some (.ref b)) (some (.str (tx T) tT)) (some (.str (tx G) tG)) (some (.ref cl)) o (some (.ref tb)) (some (.ref am)) none (some (.ref x))) s') (fun P' hPP => ?_) fun s' ⟨g', am, k1, k2, S'⟩ => h g' am s' k1 k2 S'
  obtain ⟨eF, hs, hcells, hcode, hq, l0, l1, l2, l3, l4, l5, l6, l7, l8, c0, c1, c2, c3, c4, c5, c6, c7, c8, c9, c10, b0, b1, b2, b3, b4, b5, b6, d0, d1, d2, d3, d4⟩ := id hE
  obtain ⟨zvs, hz1, hz2⟩ := hz
  have hzl := hz2.length
  rw [sizesOf_len] at hzl
  refine wpAny_Assign_Name ?_ (swaps_not c8)
  refine r_comp (cl := [(Str.ofString "turned", L + 5)]) (by unfold closureFor cellOf; rw [hcells]; rfl) rfl (by decide) (fun _ => rfl) ?_
  repeat' walk1
  rename_i I s2 S2
  refine comp_run0 (fun _ v k => VI v k) (fun _ _ _ _ _ x => x) [Str.ofString "size"] (fun i => LIterO z i) zvs.length (fun i => ((sizesOf M).take i).map fun k => ((col k G : Nat) : Int)) (by lia) (fun i => by rw [List.length_map, List.length_take]; lia) S2 (by decide) rfl (by decide) ?_ ?_ ?_ ?_
  · intro s Q' E hI hQ
    exact wpAny_pyIter_listiter hI hQ
  · intro i gc C D ys frc cenv sc hi hkc hce hfr SC Cc Bc hCc hBc
    have eF' : EnvF cenv C := by rw [hce]; exact compEnvF eF rfl
    have m0 : NmL cenv (Str.ofString "size") := by rw [hce]; exact cm_l rfl rfl
    have m1 : NmC cenv (Str.ofString "turned") (L + 5) := by rw [hce]; exact cm_c eF c4 rfl rfl
    have m3 : NmV w cenv (Str.ofString "_law_walk") (.ref 163) := by rw [hce]; exact cm_g eF rfl rfl (by kernel_rfl) rfl
    obtain ⟨w1, rfl⟩ := fm1 hfr
    have hzc := hz1.keeps fun o e => hkc _ o e
    obtain ⟨k, hk, tk, hkt⟩ := hz2.get' (List.getElem?_eq_getElem hi)
    have hki : k = i + 1 := by
      rw [sizesOf_get _ _ (by lia)] at hk; exact (Option.some.inj hk).symm
    refine r_next_list SC (.tail .head) (SC.old hzc).isList (List.getElem?_eq_getElem hi) fun s3 S3 => ?_
    rw [hkt]
    dsimp only
    refine wpAny_of_eq rfl ?_
    clear SC S2
    repeat' walk1
    rename_i S4
    refine wpAny_call (walk_ok (n := n + 7) hA S4.ok hG (by lia) ⟨by lia, by lia⟩ fun q s5 O5 k5 hq5 h5 => ?_)
    obtain ⟨g', kk, hx, S5⟩ := S4.callNew O5 k5 hq5 h5
    obtain ⟨wvs, tw, hwl, hwlast⟩ := ints_last hx (walkOf_last G k)
    clear S4 S3
    repeat' walk1
    rename_i S6
    exact ⟨hCc _ _ ⟨g', _, _, kk, by rw [take_snoc hk, List.map_append]; rfl, ⟨_, rfl⟩, rfl, S6⟩⟩
  · intro gc C D ys frc sc Q' hkc SC hQ
    exact r_end_list hA SC (.tail .head) (SC.old (hz1.keeps fun o e => hkc _ o e)).isList (by simp) hQ
  · intro gc C D vs2 frc sc hkc hvs SC
    rw [List.take_of_length_le (by rw [sizesOf_len]; lia)] at hvs
    refine post_none SC fun s7 S7 => ?_
    obtain ⟨g', k', hD, S8⟩ := S7.freeze
    clear SC S2 S7
    repeat' walk1
    rename_i S9
    exact ⟨rfl, hPP _ ⟨g', D, fun b o e => k' b o (hkc b o e), hD.imp fun o x => ⟨vs2, x, hvs⟩, S9⟩⟩
set_option maxHeartbeats 8000000 in
theorem seg13 {env : Env} {l a b cl pl z tb ld x am : Addr} {T G ps : List Nat} {tT tG : Tok} {M : Nat} {o : Option Value} {Q : Flow → Shared → Prop} (hE : LawE w env L) (hA : Ar A (n + 8)) (hpn : ps.length ≤ 20)
    (hz : NatsAt g z (sizesOf M)) (hM : M ≤ 18) (htb : TabAt T ps M g tb) (ham : At g am (IntsO (aimsOf G M)))
    (S : St w os g L (lawFr (some (.ref a)) (some (.ref pl)) (some (.ref z)) (some (.ref ld)) none none none none none) (lawNw L (some (.ref l)) none (some (.ref b)) (some (.str (tx T) tT)) (some (.str (tx G) tG)) (some (.ref cl)) o (some (.ref tb)) (some (.ref am)) none (some (.ref x))) s)
    (h : ∀ g' st s', g.StaysIn g' → At g' st (IntsO (stopsOf T G ps M)) → St w os g' L (lawFr (some (.ref a)) (some (.ref pl)) (some (.ref z)) (some (.ref ld)) none none none none none) (lawNw L (some (.ref l)) none (some (.ref b)) (some (.str (tx T) tT)) (some (.str (tx G) tG)) (some (.ref cl)) o (some (.ref tb)) (some (.ref am)) (some (.ref st)) (some (.ref x))) s' →
      wpAny (MM w) A (execs ((lawBody w).drop 14) env) Q NoE s') :
    wpAny (MM w) A (execs ((lawBody w).drop 13) env) Q NoE s := by
  refine (show wpAny (MM w) A (execs (_ :: (lawBody w).drop 14) env) Q NoE s from ?_)
  refine m_cut (fun s' => ∃ g' st, g.StaysIn g' ∧ At g' st (IntsO (stopsOf T G ps M)) ∧ St w os g' L (lawFr (some (.ref a)) (some (.ref pl)) (some (.ref z)) (some (.ref ld)) none none none none none) (lawNw L (some (.ref l)) none (some (.ref b)) (some (.str (tx T) tT)) (some (.str (tx G) tG)) (some (.ref cl)) o (some (.ref tb)) (some (.ref am)) (some (.ref st)) (some (.ref x))) s') (fun P' hPP => ?_) fun s' ⟨g', st, k1, k2, S'⟩ => h g' st s' k1 k2 S'
  obtain ⟨eF, hs, hcells, hcode, hq, l0, l1, l2, l3, l4, l5, l6, l7, l8, c0, c1, c2, c3, c4, c5, c6, c7, c8, c9, c10, b0, b1, b2, b3, b4, b5, b6, d0, d1, d2, d3, d4⟩ := id hE
  obtain ⟨zvs, hz1, hz2⟩ := hz
  obtain ⟨tvs, ht1, ht2⟩ := htb
  obtain ⟨avs, ha1, ha2⟩ := ints_get ham
  have hzl := hz2.length
  have htl := ht2.length
  have hal := ha2.length
  unfold aimsOf at hal
  rw [List.length_map] at hal
  rw [sizesOf_len] at hzl htl hal
  refine wpAny_Assign_Name ?_ (swaps_not c9)
  refine r_comp (cl := [(Str.ofString "table", L + 8), (Str.ofString "aims", L + 9)]) (by unfold closureFor cellOf; rw [hcells]; rfl) rfl (by decide) (fun _ => rfl) ?_
  repeat' walk1
  rename_i I s2 S2
  refine comp_run0 (fun _ v k => VI v k) (fun _ _ _ _ _ x => x) [Str.ofString "size"] (fun i => LIterO z i) zvs.length (fun i => ((sizesOf M).take i).map fun k => ((stopOf T G ps k : Nat) : Int)) (by lia) (fun i => by rw [List.length_map, List.length_take]; lia) S2 (by decide) rfl (by decide) ?_ ?_ ?_ ?_
  · intro s Q' E hI hQ
    exact wpAny_pyIter_listiter hI hQ
  · intro i gc C D ys frc cenv sc hi hkc hce hfr SC Cc Bc hCc hBc
    have eF' : EnvF cenv C := by rw [hce]; exact compEnvF eF rfl
    have m0 : NmL cenv (Str.ofString "size") := by rw [hce]; exact cm_l rfl rfl
    have m1 : NmC cenv (Str.ofString "table") (L + 8) := by rw [hce]; exact cm_c eF c7 rfl rfl
    have m2 : NmC cenv (Str.ofString "aims") (L + 9) := by rw [hce]; exact cm_c eF c8 rfl rfl
    have m3 : NmV w cenv (Str.ofString "bisect_left") (.ref 114) := by rw [hce]; exact cm_g eF rfl rfl (by kernel_rfl) rfl
    obtain ⟨w1, rfl⟩ := fm1 hfr
    have hzc := hz1.keeps fun o e => hkc _ o e
    have htc := ht1.keeps fun o e => hkc _ o e
    have hac := ha1.keeps fun o e => hkc _ o e
    obtain ⟨k, hk, tk, hkt⟩ := hz2.get' (List.getElem?_eq_getElem hi)
    have hki : k = i + 1 := by
      rw [sizesOf_get _ _ (by lia)] at hk; exact (Option.some.inj hk).symm
    have hii : ((k : Int) - 1).toNat = i := by lia
    obtain ⟨row, hrow, ra, rfl, hra⟩ := ht2.get (i := i) (b := k) hk
    have hidx : tvs[((k : Int) - 1).toNat]? = some (.ref ra) := by rw [hii]; exact hrow
    obtain ⟨av, hav, ta, rfl⟩ := ha2.get (i := i) (b := ((col k G : Nat) : Int)) (by unfold aimsOf; rw [List.getElem?_map, hk]; rfl)
    have hidx2 : avs[((k : Int) - 1).toNat]? = some (.int ((col k G : Nat) : Int) ta) := by rw [hii]; exact hav
    obtain ⟨rvs, hr1, hr2⟩ := ints_get (hra.keeps fun o e => hkc _ o e)
    have hrl := hr2.length
    have hrl' : (colRow T ps k).length = ps.length := List.length_map _
    refine r_next_list SC (.tail .head) (SC.old hzc).isList (List.getElem?_eq_getElem hi) fun s3 S3 => ?_
    rw [hkt]
    dsimp only
    refine wpAny_of_eq rfl ?_
    clear SC S2
    repeat' walk1
    rename_i S4
    refine wpAny_call (bisl_ok (n := n + 7) (t0 := 328) (p := fun i => decide ((colRow T ps k).getD i 0 < ((col k G : Nat) : Int))) hA S4.ok (S4.old hr1) (by lia) (binds_bisl0 S4.ok.gd) (fun j v hv A' s' Q' hQ => ?_) fun t s5 O5 k5 => ?_)
    · obtain ⟨c, hc, tc, rfl⟩ := hr2.get' hv
      have : (colRow T ps k).getD j 0 = c := by rw [List.getD_eq_getElem?_getD, hc]; rfl
      rw [this] at hQ
      exact lt_int hQ
    have S5 := S4.call k5 O5
    rw [hrl, hrl']
    exact ⟨hCc _ _ ⟨gc, _, _, fun _ _ e => e, by rw [take_snoc hk, List.map_append]; rfl, ⟨t, rfl⟩, rfl, S5⟩⟩
  · intro gc C D ys frc sc Q' hkc SC hQ
    exact r_end_list hA SC (.tail .head) (SC.old (hz1.keeps fun o e => hkc _ o e)).isList (by simp) hQ
  · intro gc C D vs2 frc sc hkc hvs SC
    rw [List.take_of_length_le (by rw [sizesOf_len]; lia)] at hvs
    refine post_none SC fun s7 S7 => ?_
    obtain ⟨g', k', hD, S8⟩ := S7.freeze
    clear SC S2 S7
    repeat' walk1
    rename_i S9
    exact ⟨rfl, hPP _ ⟨g', D, fun b o e => k' b o (hkc b o e), hD.imp fun o x => ⟨vs2, x, hvs⟩, S9⟩⟩
end
noncomputable def freeOf (T G ps : List Nat) : Nat := bis (fun i => lessOf (T.take (ps.getD i 0)) G) 0 ps.length
abbrev ps1 (l c d e : Nat) : Pos := { line := l, col := c, endLine := d, endCol := e }
abbrev lam2Params : Arguments := { posonlyargs := [], args := [{ arg := Str.ofString "lead", annotation := none, pos := ps1 201 47 201 51 }], vararg := none, kwonlyargs := [], kw_defaults := [], kwarg := none, defaults := [] }
abbrev lam2Body : Expr := .UnaryOp .Not (.Call (.Attribute (.Name (Str.ofString "lead") (ps1 201 57 201 61)) (Str.ofString "less") (ps1 201 57 201 66)) [.Name (Str.ofString "goal") (ps1 201 67 201 71)] [] (ps1 201 57 201 72)) (ps1 201 53 201 72)
section
variable {w : World} {os : OsState} {g : Heap} {L : Addr} {fr : Fm} {nw : Nw} {s : Shared} {A : Around} {n : Nat}
theorem lam2_run {kf c x y : Addr} {qual : Str} {scope : Scope} {T G : List Nat} {Q : Value → Shared → Prop} (hA : Ar A (n + 3)) (O : Ok w os s)
    (hf : IsLam s.heap kf "<lambda>" qual lam2Params lam2Body scope [(Str.ofString "goal", c)]) (hs : scope = { kind := .function, names := [(Str.ofString "lead", .local), (Str.ofString "goal", .free)], isGenerator := false, isCoroutine := false })
    (hc : At s.heap c (CellO (some (.ref x)))) (hy : WsAt s.heap y T) (hx : WsAt s.heap x G) (hT : T.length ≤ 900) (hG : G.length ≤ 900) (h : ∀ s', Ok w os s' → s.heap.StaysIn s'.heap → Q (.bool (!lessOf T G)) s') : wpAny (MM w) A (call (.ref kf) [.ref y] []) Q NoE s := by
  subst hs
  have hy' := hy
  obtain ⟨dx, vr, tn, tt, q, c', tb, cvs, h1, h2, h3, h4, h5⟩ := hy
  refine' wpAny_call (enterLam (n := n + 2) (fr := [(Str.ofString "lead", some (.ref y))]) (binds := [(Str.ofString "lead", .ref y)]) hA O hf (fun _ _ _ => by kernel_rfl) ?loc ?cell rfl rfl rfl ?fr ?nd ?_)
  case loc => walk_at "m_all"
  case cell => decide
  case fr => walk_at "m_all"
  case nd => walk_at "m_nd"
  rintro L s' A' env ⟨cd, he⟩ S hA'
  have eF : EnvF env L := by rw [he]; exact ⟨rfl, rfl, rfl, rfl, rfl⟩
  have n0 : NmL env (Str.ofString "lead") := ⟨by rw [he]; rfl, rfl⟩
  have n1 : NmFree env (Str.ofString "goal") c := ⟨by rw [he]; rfl, by rw [he]; rfl, rfl, rfl⟩
  repeat' walk1
  refine wpAny_call (less_ok (n := n) hA' S.ok (hy'.mono S.keep) (hx.mono S.keep) hT hG fun s2 O2 k2 => ?_)
  have S2 := S.call k2 O2
  repeat' walk1
  exact h _ S2.ok S2.keep
set_option maxHeartbeats 8000000 in
theorem seg14 {env : Env} {l a b cl pl z tb ld x am st : Addr} {T G ps : List Nat} {tT tG : Tok} {o : Option Value} {Q : Flow → Shared → Prop} (hE : LawE w env L) (hA : Ar A (n + 8)) (hT2 : T.length ≤ 18) (hG2 : G.length ≤ 18) (hpn : ps.length ≤ 20)
    (hld : LeadsAt T ps g ld) (hx : WsAt g x G)
    (S : St w os g L (lawFr (some (.ref a)) (some (.ref pl)) (some (.ref z)) (some (.ref ld)) none none none none none) (lawNw L (some (.ref l)) none (some (.ref b)) (some (.str (tx T) tT)) (some (.str (tx G) tG)) (some (.ref cl)) o (some (.ref tb)) (some (.ref am)) (some (.ref st)) (some (.ref x))) s)
    (h : ∀ g' t s', g.StaysIn g' → (∃ qs, g'.get? 170 = some (tabObj qs)) → St w os g' L (lawFr (some (.ref a)) (some (.ref pl)) (some (.ref z)) (some (.ref ld)) (some (.int (freeOf T G ps : Nat) t)) none none none none) (lawNw2 L (some (.ref l)) none (some (.ref b)) (some (.str (tx T) tT)) (some (.str (tx G) tG)) (some (.ref cl)) o (some (.ref tb)) (some (.ref am)) (some (.ref st)) (some (.ref x))) s' →
      wpAny (MM w) A (execs ((lawBody w).drop 15) env) Q NoE s') :
    wpAny (MM w) A (execs ((lawBody w).drop 14) env) Q NoE s := by
  refine (show wpAny (MM w) A (execs (_ :: (lawBody w).drop 15) env) Q NoE s from ?_)
  refine m_cut (fun s' => ∃ g' t, g.StaysIn g' ∧ (∃ qs, g'.get? 170 = some (tabObj qs)) ∧ St w os g' L (lawFr (some (.ref a)) (some (.ref pl)) (some (.ref z)) (some (.ref ld)) (some (.int (freeOf T G ps : Nat) t)) none none none none) (lawNw2 L (some (.ref l)) none (some (.ref b)) (some (.str (tx T) tT)) (some (.str (tx G) tG)) (some (.ref cl)) o (some (.ref tb)) (some (.ref am)) (some (.ref st)) (some (.ref x))) s') (fun P' hPP => ?_) fun s' ⟨g', t, k1, k2, S'⟩ => h g' t s' k1 k2 S'
  obtain ⟨eF, hs, hcells, hcode, hq, l0, l1, l2, l3, l4, l5, l6, l7, l8, c0, c1, c2, c3, c4, c5, c6, c7, c8, c9, c10, b0, b1, b2, b3, b4, b5, b6, d0, d1, d2, d3, d4⟩ := id hE
  obtain ⟨lvs, hl1, hl2⟩ := hld
  have hll := hl2.length
  unfold lawFr lawNw at S
  repeat' walk1
  refine r_lambda (clos := [(Str.ofString "goal", L + 11)]) eF hcode (P := 170) (by kernel_rfl) (by unfold closureFor cellOf; rw [hcells]; rfl) rfl rfl S
    (fun qs => [(L + 11, CellO (some (.ref x))), (L + 10, CellO (some (.ref st))), (L + 9, CellO (some (.ref am))), (L + 8, CellO (some (.ref tb))), (L + 7, CellO o), (L + 6, CellO (some (.ref cl))), (L + 5, CellO (some (.str (tx G) tG))), (L + 4, CellO (some (.str (tx T) tT))), (L + 3, CellO (some (.ref b))), (L + 2, CellO none), (L + 1, CellO (some (.ref l))), (170, TabP qs)])
    (fun _ => .tail (.tail (.tail (.tail (.tail (.tail (.tail (.tail (.tail (.tail (.tail .head))))))))))) (LamTab.nil _ _) fun kf g2 qs s2 k2 hlt hlam S2 => ?_
  have hl1' := hl1.keeps fun o e => k2 _ o e
  repeat' walk1
  refine wpAny_call (bislk_ok (n := n + 7) (t0 := 328) (x := .bool true) (p := fun i => lessOf (T.take (ps.getD i 0)) G) (KV := fun i v => i < ps.length → v = .bool (!lessOf (T.take (ps.getD i 0)) G)) hA S2.ok (S2.old hl1') (by lia) (binds_bisl S2.ok.gd) ?key ?cmp fun t s3 O3 k3 => ?_)
  case key =>
    refine ⟨(S2.old hlam.fn), fun i v hv A' s' Q' hA' O' k' hQ => ?_⟩
    obtain ⟨p, hp, y, rfl, hy⟩ := hl2.get' hv
    have hpe : ps.getD i 0 = p := by rw [List.getD_eq_getElem?_getD, hp]; rfl
    refine lam2_run (n := n + 4) hA' O' ((hlam.mono S2.keep).mono k') rfl ((S2.mem (.head _)).keeps fun o e => k' _ o e) (((hy.mono k2).mono S2.keep).mono k') (((hx.mono k2).mono S2.keep).mono k') (by rw [List.length_take]; lia) (by lia) fun s'' O'' k'' => hQ _ _ (fun _ => by rw [hpe]) O'' k''
  case cmp =>
    intro i kv hi hkv A' s' Q' hQ
    rw [hkv (by lia)]
    refine lt_bool ?_
    have e : decide (b2i (!lessOf (T.take (ps.getD i 0)) G) < b2i true) = lessOf (T.take (ps.getD i 0)) G := by
      cases lessOf (T.take (ps.getD i 0)) G <;> rfl
    rw [e]; exact hQ
  have S3 := S2.call k3 O3
  rw [hll]
  clear S S2
  repeat' walk1
  rename_i S4
  obtain ⟨g3, k4, h170, S5⟩ := S4.freezeD (.tail (.tail (.tail (.tail (.tail (.tail (.tail (.tail (.tail (.tail (.tail .head)))))))))))
  refine ⟨rfl, hPP _ ⟨g3, t, fun b o e => k4 b o (k2 b o e), ?_, S5⟩⟩
  obtain ⟨o, e, p⟩ := h170
  have p' : o = tabObj qs := p
  exact ⟨qs, by rw [e, p']⟩
end
theorem getD_mem' {l : List Nat} {i : Nat} (h : i < l.length) : l.getD i 0 ∈ l := by
  rw [List.getD_eq_getElem?_getD, List.getElem?_eq_getElem h]; exact List.getElem_mem h
theorem colRow_get {T ps : List Nat} {k i : Nat} (h : i < ps.length) : (colRow T ps k).getD i 0 = ((col k (T.take (ps.getD i 0)) : Nat) : Int) := by
  unfold colRow
  rw [List.getD_eq_getElem?_getD, List.getElem?_map, List.getElem?_eq_getElem h, List.getD_eq_getElem?_getD, List.getElem?_eq_getElem h]; rfl
section
variable {T G ps : List Nat} {codes : List Int}
theorem Lzw.colm (h : Lzw T codes ps) {k : Nat} (hk : 0 < k) {i j : Nat} (hij : i < j) (hj : j < ps.length) : col k (T.take (ps.getD i 0)) < col k (T.take (ps.getD j 0)) :=
  col_take_lt hk (h.pinc i j hij hj) (h.pb _ (getD_mem' hj))
theorem stop_spec (h : Lzw T codes ps) {k : Nat} (hk : 0 < k) : stopOf T G ps k ≤ ps.length ∧ ∀ i, i < ps.length → (i < stopOf T G ps k ↔ col k (T.take (ps.getD i 0)) < col k G) := by
  obtain ⟨c, c1, c2, c3⟩ := cut_ex (fun i => decide ((colRow T ps k).getD i 0 < ((col k G : Nat) : Int))) ps.length fun i j hij hj hp => by
    simp only [decide_eq_true_eq] at hp ⊢
    rw [colRow_get hj] at hp
    rw [colRow_get (by lia)]
    have := h.colm hk hij hj
    lia
  have e : stopOf T G ps k = c := bis_is c2 c3 _ 0 _ rfl (Nat.zero_le _) c1 (Nat.le_refl _)
  rw [e]
  refine ⟨c1, fun i hi => ⟨fun z => ?_, fun z => ?_⟩⟩
  · have := c2 i z
    simp only [decide_eq_true_eq] at this
    rw [colRow_get hi] at this; lia
  · apply Nat.not_le.mp
    intro y
    have := c3 i y hi
    simp only [decide_eq_false_iff_not] at this
    rw [colRow_get hi] at this; lia
theorem free_spec (h : Lzw T codes ps) (hT : Ws T) (hG : Ws G) {M : Nat} (hM : lrOf T ≤ M) (hM2 : lrOf G ≤ M) : freeOf T G ps ≤ ps.length ∧ ∀ i, i < ps.length → (i < freeOf T G ps ↔ ∀ k, 1 ≤ k → k ≤ M + 1 → col k (T.take (ps.getD i 0)) < col k G) := by
  have hl : ∀ i, lessOf (T.take (ps.getD i 0)) G = true ↔ ∀ k, 1 ≤ k → k ≤ M + 1 → col k (T.take (ps.getD i 0)) < col k G := fun i =>
    less_iff (hT.take _) hG (Int.le_trans (lr_take hT _) hM) hM2
  obtain ⟨c, c1, c2, c3⟩ := cut_ex (fun i => lessOf (T.take (ps.getD i 0)) G) ps.length fun i j hij hj hp => by
    rw [hl] at hp ⊢
    intro k k1 k2
    have := h.colm k1 hij hj
    have := hp k k1 k2
    lia
  have e : freeOf T G ps = c := bis_is c2 c3 _ 0 _ rfl (Nat.zero_le _) c1 (Nat.le_refl _)
  rw [e]
  refine ⟨c1, fun i hi => ⟨fun z => (hl i).mp (c2 i z), fun z => ?_⟩⟩
  apply Nat.not_le.mp
  intro y
  have := c3 i y hi
  rw [(hl i).mpr z] at this; cases this
theorem free_lt (h : Lzw T codes ps) (hT : Ws T) (hG : Ws G) (hGT : G.length ≤ T.length) {M : Nat} (hM : lrOf T ≤ M) (hM2 : lrOf G ≤ M) : freeOf T G ps < ps.length := by
  obtain ⟨h1, h2⟩ := free_spec h hT hG hM hM2
  have hp := h.pne
  have hl := h.plast
  rw [List.getLast?_eq_getElem?] at hl
  apply Nat.not_le.mp
  intro z
  have := (h2 (ps.length - 1) (by lia)).mp (by lia) 1 (Nat.le_refl _) (by lia)
  rw [show ps.getD (ps.length - 1) 0 = T.length from by rw [List.getD_eq_getElem?_getD, hl]; rfl, List.take_length, col_one, col_one] at this
  lia
theorem free_min (h : Lzw T codes ps) (hT : Ws T) (hG : Ws G) (hGT : G.length ≤ T.length) {M : Nat} (hM : lrOf T ≤ M) (hM2 : lrOf G ≤ M) {m : Int} (hm : m ∈ stopsOf T G ps M) (hmin : ∀ a ∈ stopsOf T G ps M, m ≤ a) : m = (freeOf T G ps : Nat) := by
  obtain ⟨h1, h2⟩ := free_spec h hT hG hM hM2
  have hlt := free_lt h hT hG hGT hM hM2
  have hin : ∀ k, 1 ≤ k → k ≤ M + 1 → ((stopOf T G ps k : Nat) : Int) ∈ stopsOf T G ps M := fun k k1 k2 =>
    List.mem_map.mpr ⟨k, List.mem_map.mpr ⟨k - 1, List.mem_range.mpr (by lia), by lia⟩, rfl⟩
  obtain ⟨k, hk, rfl⟩ := List.mem_map.mp hm
  obtain ⟨k0, hk0, rfl⟩ := List.mem_map.mp hk
  have hk0' := List.mem_range.mp hk0
  obtain ⟨s1, s2⟩ := stop_spec (G := G) h (k := k0 + 1) (by lia)
  -- free is at most every stop, and the least stop is at most free
  have a1 : freeOf T G ps ≤ stopOf T G ps (k0 + 1) := by
    apply Nat.not_lt.mp
    intro z
    have := (h2 _ (by lia)).mp z (k0 + 1) (by lia) (by lia)
    have := (s2 _ (by lia)).mpr this
    lia
  have a2 : stopOf T G ps (k0 + 1) ≤ freeOf T G ps := by
    apply Nat.not_lt.mp
    intro z
    have hno : ¬ freeOf T G ps < freeOf T G ps := Nat.lt_irrefl _
    refine hno ((h2 _ hlt).mpr fun k k1 k2 => ?_)
    have := hmin _ (hin k k1 k2)
    obtain ⟨t1, t2⟩ := stop_spec (G := G) h (k := k) (by lia)
    exact (t2 _ hlt).mp (by lia)
  lia
/-- the rows, as the law gathers them -/
noncomputable def rowsUp (T G ps : List Nat) (p : Nat) : Nat → List Row3
  | 0 => []
  | k + 1 => rowsUp T G ps p k ++ (if stopOf T G ps (k + 1) ≤ p then [(((k + 1 : Nat) : Int), ((col (k + 1) (T.take (ps.getD p 0)) : Nat) : Int), ((col (k + 1) G : Nat) : Int))] else [])
theorem wit_snoc (A B : List Nat) : ∀ (k z : Nat), witGo A B z (k + 1) = witGo A B z k ++ (if levelOf A (z + k) ≥ levelOf B (z + k) then [(((z + k : Nat) : Int), levelOf A (z + k), levelOf B (z + k))] else [])
  | 0, z => by
    have e : witGo A B z (0 + 1) = if levelOf A z ≥ levelOf B z then [((z : Int), levelOf A z, levelOf B z)] else [] := rfl
    rw [e, Nat.add_zero]
    rfl
  | k + 1, z => by
    have e : witGo A B z (k + 1 + 1) = if levelOf A z ≥ levelOf B z then ((z : Int), levelOf A z, levelOf B z) :: witGo A B (z + 1) (k + 1) else witGo A B (z + 1) (k + 1) := rfl
    have e2 : witGo A B z (k + 1) = if levelOf A z ≥ levelOf B z then ((z : Int), levelOf A z, levelOf B z) :: witGo A B (z + 1) k else witGo A B (z + 1) k := rfl
    rw [e, e2, wit_snoc A B k (z + 1), show z + 1 + k = z + (k + 1) from by lia]
    split
    · rfl
    · rfl
theorem rows_wit (h : Lzw T codes ps) (hT : Ws T) (hG : Ws G) {p : Nat} (hp : p < ps.length) : ∀ (k : Nat), rowsUp T G ps p k = witGo (T.take (ps.getD p 0)) G 1 k
  | 0 => rfl
  | k + 1 => by
    rw [wit_snoc, rowsUp, rows_wit h hT hG hp k, Nat.add_comm 1 k, level_col (hT.take _) (by lia), level_col hG (by lia)]
    congr 1
    obtain ⟨s1, s2⟩ := stop_spec (G := G) h (k := k + 1) (by lia)
    have := s2 p hp
    by_cases c : stopOf T G ps (k + 1) ≤ p
    · rw [if_pos c, if_pos (by lia)]
    · rw [if_neg c, if_neg (by lia)]
end
section
variable {w : World} {os : OsState} {g : Heap} {L : Addr} {fr : Fm} {nw : Nw} {s : Shared} {A : Around} {n : Nat}
set_option maxHeartbeats 8000000 in
theorem seg15 {env : Env} {l a b cl pl z tb ld x am st : Addr} {T G ps : List Nat} {M : Nat} {tT tG tf : Tok} {o : Option Value} {Q : Flow → Shared → Prop} (hE : LawE w env L) (hA : Ar A (n + 8))
    (hst : At g st (IntsO (stopsOf T G ps M))) (hmin : ∀ m ∈ stopsOf T G ps M, (∀ a ∈ stopsOf T G ps M, m ≤ a) → m = (freeOf T G ps : Nat))
    (S : St w os g L (lawFr (some (.ref a)) (some (.ref pl)) (some (.ref z)) (some (.ref ld)) (some (.int (freeOf T G ps : Nat) tf)) none none none none) (lawNw2 L (some (.ref l)) none (some (.ref b)) (some (.str (tx T) tT)) (some (.str (tx G) tG)) (some (.ref cl)) o (some (.ref tb)) (some (.ref am)) (some (.ref st)) (some (.ref x))) s)
    (h : ∀ s', St w os g L (lawFr (some (.ref a)) (some (.ref pl)) (some (.ref z)) (some (.ref ld)) (some (.int (freeOf T G ps : Nat) tf)) none none none none) (lawNw2 L (some (.ref l)) none (some (.ref b)) (some (.str (tx T) tT)) (some (.str (tx G) tG)) (some (.ref cl)) o (some (.ref tb)) (some (.ref am)) (some (.ref st)) (some (.ref x))) s' →
      wpAny (MM w) A (execs ((lawBody w).drop 16) env) Q NoE s') :
    wpAny (MM w) A (execs ((lawBody w).drop 15) env) Q NoE s := by
  refine (show wpAny (MM w) A (execs (_ :: (lawBody w).drop 16) env) Q NoE s from ?_)
  refine m_cut (fun s' => St w os g L (lawFr (some (.ref a)) (some (.ref pl)) (some (.ref z)) (some (.ref ld)) (some (.int (freeOf T G ps : Nat) tf)) none none none none) (lawNw2 L (some (.ref l)) none (some (.ref b)) (some (.str (tx T) tT)) (some (.str (tx G) tG)) (some (.ref cl)) o (some (.ref tb)) (some (.ref am)) (some (.ref st)) (some (.ref x))) s') (fun P' hPP => ?_) fun s' S' => h s' S'
  obtain ⟨eF, hs, hcells, hcode, hq, l0, l1, l2, l3, l4, l5, l6, l7, l8, c0, c1, c2, c3, c4, c5, c6, c7, c8, c9, c10, b0, b1, b2, b3, b4, b5, b6, d0, d1, d2, d3, d4⟩ := id hE
  obtain ⟨svs, hs1, hs2⟩ := ints_get hst
  repeat' walk1
  refine r_minl hA S (S.old hs1).isList hs2 (by unfold stopsOf; rw [List.length_map, sizesOf_len]; lia) fun m tm s2 hm1 hm2 S2 => ?_
  have e := hmin m hm1 hm2
  subst e
  clear S
  repeat' walk1
  · rename_i z; exact absurd rfl z
  exact ⟨rfl, hPP _ (by assumption)⟩
set_option maxHeartbeats 8000000 in
theorem seg16 {env : Env} {l a b cl pl z tb ld x am st : Addr} {T G ps : List Nat} {tT tG tf : Tok} {o : Option Value} {Q : Flow → Shared → Prop} (hE : LawE w env L) (hld : LeadsAt T ps g ld) (hpn : ps.length ≤ 20)
    (S : St w os g L (lawFr (some (.ref a)) (some (.ref pl)) (some (.ref z)) (some (.ref ld)) (some (.int (freeOf T G ps : Nat) tf)) none none none none) (lawNw2 L (some (.ref l)) none (some (.ref b)) (some (.str (tx T) tT)) (some (.str (tx G) tG)) (some (.ref cl)) o (some (.ref tb)) (some (.ref am)) (some (.ref st)) (some (.ref x))) s)
    (h : ∀ te s', St w os g L (lawFr (some (.ref a)) (some (.ref pl)) (some (.ref z)) (some (.ref ld)) (some (.int (freeOf T G ps : Nat) tf)) (some (.int ((ps.length : Int) - 1) te)) none none none) (lawNw2 L (some (.ref l)) none (some (.ref b)) (some (.str (tx T) tT)) (some (.str (tx G) tG)) (some (.ref cl)) o (some (.ref tb)) (some (.ref am)) (some (.ref st)) (some (.ref x))) s' →
      wpAny (MM w) A (execs ((lawBody w).drop 17) env) Q NoE s') :
    wpAny (MM w) A (execs ((lawBody w).drop 16) env) Q NoE s := by
  refine (show wpAny (MM w) A (execs (_ :: (lawBody w).drop 17) env) Q NoE s from ?_)
  refine m_cut (fun s' => ∃ te, St w os g L (lawFr (some (.ref a)) (some (.ref pl)) (some (.ref z)) (some (.ref ld)) (some (.int (freeOf T G ps : Nat) tf)) (some (.int ((ps.length : Int) - 1) te)) none none none) (lawNw2 L (some (.ref l)) none (some (.ref b)) (some (.str (tx T) tT)) (some (.str (tx G) tG)) (some (.ref cl)) o (some (.ref tb)) (some (.ref am)) (some (.ref st)) (some (.ref x))) s') (fun P' hPP => ?_) fun s' ⟨te, S'⟩ => h te s' S'
  obtain ⟨eF, hs, hcells, hcode, hq, l0, l1, l2, l3, l4, l5, l6, l7, l8, c0, c1, c2, c3, c4, c5, c6, c7, c8, c9, c10, b0, b1, b2, b3, b4, b5, b6, d0, d1, d2, d3, d4⟩ := id hE
  obtain ⟨lvs, hl1, hl2⟩ := hld
  have hll := hl2.length
  repeat' walk1
  rename_i S1
  rw [hll] at S1
  exact ⟨rfl, hPP _ ⟨_, S1⟩⟩
theorem seg18 {env : Env} {Q : Flow → Shared → Prop} (h : Q (.ret (.bool true)) s) : wpAny (MM w) A (execs ((lawBody w).drop 18) env) Q NoE s := by
  refine (show wpAny (MM w) A (execs (_ :: []) env) Q NoE s from ?_)
  repeat' walk1
  exact h
end
theorem All2.mem {α β : Type} {R : α → β → Prop} {as : List α} {bs : List β} (h : All2 R as bs) {b : β} (hb : b ∈ bs) : ∃ a, a ∈ as ∧ R a b := by
  obtain ⟨i, hi, rfl⟩ := List.mem_iff_getElem.mp hb
  obtain ⟨a, h1, h2⟩ := h.get (List.getElem?_eq_getElem hi)
  exact ⟨a, List.mem_of_getElem? h1, h2⟩
/-- the runs of a lead and of the goal -/
structure RunsOk (W : Int) (rs : List (List Nat)) : Prop where
  le : ∀ r ∈ rs, (r.length : Int) ≤ W
  ex : ∃ r ∈ rs, (r.length : Int) = W
  len : rs.length ≤ 40
theorem runs_two {P G : List Nat} {rs1 rs2 : List (List Nat)} (hP : Ws P) (hG : Ws G) (e1 : tabJoin rs1 = P) (e2 : tabJoin rs2 = G) (f1 : ∀ r ∈ rs1, 9 ∉ r) (f2 : ∀ r ∈ rs2, 9 ∉ r) (n1 : rs1 ≠ []) (n2 : rs2 ≠ []) (l1 : rs1.length ≤ 20) (l2 : rs2.length ≤ 20) :
    RunsOk (max (lrOf P) (lrOf G)) (rs1 ++ rs2) := by
  obtain ⟨a1, r1, b1, c1⟩ := lr_tabs rs1 n1 f1 (by rw [e1]; exact hP)
  obtain ⟨a2, r2, b2, c2⟩ := lr_tabs rs2 n2 f2 (by rw [e2]; exact hG)
  rw [e1] at a1 c1
  rw [e2] at a2 c2
  refine ⟨fun r hr => ?_, ?_, by rw [List.length_append]; lia⟩
  · rcases List.mem_append.mp hr with h | h
    · have := a1 r h; lia
    · have := a2 r h; lia
  · by_cases c : lrOf P ≤ lrOf G
    · exact ⟨r2, List.mem_append_right _ b2, by lia⟩
    · exact ⟨r1, List.mem_append_left _ b1, by lia⟩
theorem RowsAt.mono {g g' : Heap} {q : Addr} {rows : List Row3} (k : g.StaysIn g') (h : RowsAt g q rows) : RowsAt g' q rows :=
  let ⟨vs, h1, h2⟩ := h; ⟨vs, h1.keeps fun o e => k _ o e, h2.mono fun _ _ x => x.mono k⟩
section
variable {w : World} {os : OsState} {g : Heap} {L : Addr} {fr : Fm} {nw : Nw} {s : Shared} {A : Around} {n : Nat}
set_option maxHeartbeats 16000000 in
theorem seg17 {env : Env} {l a b cl pl z tb ld x am st : Addr} {T G ps : List Nat} {codes : List Int} {M : Nat} {tT tG tf te : Tok} {o : Option Value} {Q : Flow → Shared → Prop} (hE : LawE w env L) (hA : Ar A (n + 8)) (hT : Ws T) (hG : Ws G) (hT2 : T.length ≤ 18) (hG2 : G.length ≤ 18) (hP : Lzw T codes ps)
    (hM1 : lrOf T ≤ M) (hM2 : lrOf G ≤ M) (hM : M ≤ 18) (hfl : freeOf T G ps < ps.length)
    (hpl : At g pl (IntsO (ps.map fun p : Nat => (p : Int)))) (htb : TabAt T ps M g tb) (ham : At g am (IntsO (aimsOf G M))) (hst : At g st (IntsO (stopsOf T G ps M))) (hld : LeadsAt T ps g ld) (hx : WsAt g x G)
    (S : St w os g L (lawFr (some (.ref a)) (some (.ref pl)) (some (.ref z)) (some (.ref ld)) (some (.int (freeOf T G ps : Nat) tf)) (some (.int ((ps.length : Int) - 1) te)) none none none) (lawNw2 L (some (.ref l)) none (some (.ref b)) (some (.str (tx T) tT)) (some (.str (tx G) tG)) (some (.ref cl)) o (some (.ref tb)) (some (.ref am)) (some (.ref st)) (some (.ref x))) s)
    (h : ∀ g' fr' nw' s', g.StaysIn g' → St w os g' L fr' nw' s' → wpAny (MM w) A (execs ((lawBody w).drop 18) env) Q NoE s') :
    wpAny (MM w) A (execs ((lawBody w).drop 17) env) Q NoE s := by
  refine (show wpAny (MM w) A (execs (_ :: (lawBody w).drop 18) env) Q NoE s from ?_)
  refine m_cut (fun s' => ∃ g' fr' nw', g.StaysIn g' ∧ St w os g' L fr' nw' s') (fun P' hPP => ?_) fun s' ⟨g', fr', nw', k1, S'⟩ => h g' fr' nw' s' k1 S'
  obtain ⟨eF, hs, hcells, hcode, hq, l0, l1, l2, l3, l4, l5, l6, l7, l8, c0, c1, c2, c3, c4, c5, c6, c7, c8, c9, c10, b0, b1, b2, b3, b4, b5, b6, d0, d1, d2, d3, d4⟩ := id hE
  obtain ⟨tvs, ht1, ht2⟩ := htb
  obtain ⟨avs, ha1, ha2⟩ := ints_get ham
  obtain ⟨svs, hs1, hs2⟩ := ints_get hst
  obtain ⟨pvs, hp1, hp2⟩ := ints_get hpl
  obtain ⟨lvs, hl1, hl2⟩ := hld
  have hplen := hP.plen
  have hpne := hP.pne
  repeat' walk1
  rename_i q _ _ it s1 S1
  obtain ⟨g1, k1, hq1, S2⟩ := S1.freezeD (.tail .head)
  -- the two places
  have hpv : ∀ i, i < 2 → ∃ p tp, p < ps.length ∧ [Value.int (freeOf T G ps : Nat) tf, Value.int ((ps.length : Int) - 1) te][i]? = some (.int ((p : Nat) : Int) tp) := by
    intro i hi
    match i, hi with
    | 0, _ => exact ⟨freeOf T G ps, tf, hfl, rfl⟩
    | 1, _ => exact ⟨ps.length - 1, te, by lia, by rw [show ((ps.length - 1 : Nat) : Int) = (ps.length : Int) - 1 from by lia]; rfl⟩
  refine m_for 2
    (fun i s2 => ∃ g' o1 o2 o3 o4, g1.StaysIn g' ∧ St w os g' L (lawFr (some (.ref a)) (some (.ref pl)) (some (.ref z)) (some (.ref ld)) (some (.int (freeOf T G ps : Nat) tf)) (some (.int ((ps.length : Int) - 1) te)) o1 o2 o3) ((it, LIterO q i) :: lawNw2 L (some (.ref l)) o4 (some (.ref b)) (some (.str (tx T) tT)) (some (.str (tx G) tG)) (some (.ref cl)) o (some (.ref tb)) (some (.ref am)) (some (.ref st)) (some (.ref x))) s2)
    (fun s2 => ∃ g' fr' nw', g.StaysIn g' ∧ St w os g' L fr' nw' s2) ?turn ?last ?fin 0 (Nat.zero_le _) ?init
  case init => exact ⟨g1, none, none, none, none, fun _ _ e => e, S2⟩
  case fin =>
    rintro s2 ⟨g', fr', nw', k, S3⟩
    repeat' walk1
    exact ⟨rfl, hPP _ ⟨g', fr', nw', k, S3⟩⟩
  case last =>
    rintro s2 ⟨g', o1, o2, o3, o4, k, S3⟩
    exact r_end_list hA S3 .head (S3.old (hq1.keeps fun o e => k _ o e)).isList (by simp) fun s3 S4 => ⟨⟨g', _, _, fun b o e => k b o (k1 b o e), S4⟩⟩
  case turn =>
    rintro i s2 hi ⟨g2, o1, o2, o3, o4, k2, S3⟩
    intro Ct Bt hCt hBt
    obtain ⟨p, tp, hp, hpx⟩ := hpv i hi
    have kk : g.StaysIn g2 := fun b o e => k2 b o (k1 b o e)
    refine r_next_list S3 .head (S3.old (hq1.keeps fun o e => k2 _ o e)).isList hpx fun s3 S4 => ?_
    dsimp only
    clear S S1 S2 S3
    -- what stands at the place
    obtain ⟨pv, hpv1, tpp, hpv2⟩ := hp2.get (i := p) (b := ((ps.getD p 0 : Nat) : Int)) (by rw [List.getElem?_map, List.getElem?_eq_getElem hp, List.getD_eq_getElem?_getD, List.getElem?_eq_getElem hp]; rfl)
    subst hpv2
    obtain ⟨lv, hlv1, y, hlv2, hy⟩ := hl2.get (i := p) (b := ps.getD p 0) (by rw [List.getD_eq_getElem?_getD, List.getElem?_eq_getElem hp]; rfl)
    subst hlv2
    have hpp := hP.pb _ (getD_mem' hp)
    generalize hpe : ps.getD p 0 = pp at hpv1 hy hpp
    have hpvi : pvs[((p : Nat) : Int).toNat]? = some (.int ((pp : Nat) : Int) tpp) := by rw [Int.toNat_natCast]; exact hpv1
    have hlvi : lvs[((p : Nat) : Int).toNat]? = some (.ref y) := by rw [Int.toNat_natCast]; exact hlv1
    have htl : (T.take ((pp : Nat) : Int).toNat).length ≤ 18 := by rw [List.length_take]; lia
    have hp1' := hp1.keeps fun o e => kk _ o e
    have hl1' := hl1.keeps fun o e => kk _ o e
    have ht1' := ht1.keeps fun o e => kk _ o e
    have ha1' := ha1.keeps fun o e => kk _ o e
    have hs1' := hs1.keeps fun o e => kk _ o e
    have hW1 := lr_take hT pp
    have hW0 := lrOf_bounds (T.take pp)
    generalize hW : max (lrOf (T.take pp)) (lrOf G) = W
    have hWM : W ≤ M := by lia
    have hW00 : 0 ≤ W := by lia
    refine wpAny_assign_Name ?_
    walk1
    rename_i s5 S5
    clear S4
    -- runs
    refine m_cut (fun s6 => ∃ g3 ra vs rs, g2.StaysIn g3 ∧ At g3 ra (ListO vs) ∧ All2 VS vs rs ∧ RunsOk W rs ∧ St w os g3 L (lawFr (some (.ref a)) (some (.ref pl)) (some (.ref z)) (some (.ref ld)) (some (.int (freeOf T G ps : Nat) tf)) (some (.int ((ps.length : Int) - 1) te)) (some (.ref ra)) o2 o3) ((it, LIterO q (i + 1)) :: lawNw2 L (some (.ref l)) (some (.int ((p : Nat) : Int) tp)) (some (.ref b)) (some (.str (tx T) tT)) (some (.str (tx G) tG)) (some (.ref cl)) o (some (.ref tb)) (some (.ref am)) (some (.ref st)) (some (.ref x))) s6) (fun P' hPP => ?_) ?_
    · repeat' walk1
      rename_i p1 vs1 rs1 _ hv1 hj1 hf1 hn1 hl1 _ _ _ _ p2 vs2 rs2 s6 hv2 hj2 hf2 hn2 hl2 S6
      have e1 := hv1.length
      have e2 := hv2.length
      rw [Int.toNat_natCast] at hj1 htl
      rw [Int.toNat_natCast] at hl1
      refine r_concat S6 (S6.mem (.tail _ (.head _))).isList (S6.mem (.head _)).isList (by lia) fun p3 s7 S7 => ?_
      obtain ⟨g3, k3, h3, S8⟩ := S7.freeze
      have S9 := S8.drop.drop
      have hr := runs_two (hT.take pp) hG hj1 hj2 hf1 hf2 hn1 hn2 (by lia) (by lia)
      rw [hW] at hr
      clear S5 S6 S7 S8
      repeat' walk1
      exact ⟨rfl, hPP _ ⟨g3, p3, _, _, k3, h3, hv1.append hv2, hr, by assumption⟩⟩
    rintro s6 ⟨g3, ra, rvs, rs, k3, hra, hrv, hR, S6⟩
    clear S5
    have hrl := hrv.length
    have hRl := hR.len
    -- width
    refine m_cut (fun s7 => ∃ g4 tw, g3.StaysIn g4 ∧ St w os g4 L (lawFr (some (.ref a)) (some (.ref pl)) (some (.ref z)) (some (.ref ld)) (some (.int (freeOf T G ps : Nat) tf)) (some (.int ((ps.length : Int) - 1) te)) (some (.ref ra)) (some (.int (W + 1) tw)) o3) ((it, LIterO q (i + 1)) :: lawNw2 L (some (.ref l)) (some (.int ((p : Nat) : Int) tp)) (some (.ref b)) (some (.str (tx T) tT)) (some (.str (tx G) tG)) (some (.ref cl)) o (some (.ref tb)) (some (.ref am)) (some (.ref st)) (some (.ref x))) s7) (fun P' hPP => ?_) ?_
    · repeat' walk1
      rename_i I s7 S7
      refine comp_run0 (fun _ v k => VI v k) (fun _ _ _ _ _ x => x) [Str.ofString "run"] (fun i => LIterO ra i) rvs.length (fun i => (rs.take i).map fun r => (r.length : Int)) (by lia) (fun i => by rw [List.length_map, List.length_take]; lia) S7 (by decide) rfl (by decide) ?_ ?_ ?_ ?_
      · intro s Q' E hI hQ
        exact wpAny_pyIter_listiter hI hQ
      · intro j gc C D ys frc cenv sc hj hkc hce hfr SC Cc Bc hCc hBc
        have eF' : EnvF cenv C := by rw [hce]; exact compEnvF eF rfl
        have m0 : NmL cenv (Str.ofString "run") := by rw [hce]; exact cm_l rfl rfl
        have m3 : NmV w cenv (Str.ofString "len") (.builtin "len") := by rw [hce]; exact cm_b eF rfl rfl (by kernel_rfl) rfl (by decide) rfl
        obtain ⟨w1, rfl⟩ := fm1 hfr
        obtain ⟨r, hr, tr, hrt⟩ := hrv.get' (List.getElem?_eq_getElem hj)
        have hrle := hR.le r (List.mem_of_getElem? hr)
        refine r_next_list SC (.tail .head) (SC.old (hra.keeps fun o e => hkc _ o e)).isList (List.getElem?_eq_getElem hj) fun s8 S8 => ?_
        rw [hrt]
        dsimp only
        refine wpAny_of_eq rfl ?_
        clear SC S7 S6
        repeat' walk1
        exact ⟨hCc _ _ ⟨gc, _, (r.length : Int), fun _ _ e => e, by rw [take_snoc hr, List.map_append]; rfl, ⟨_, rfl⟩, rfl, by assumption⟩⟩
      · intro gc C D ys frc sc Q' hkc SC hQ
        exact r_end_list hA SC (.tail .head) (SC.old (hra.keeps fun o e => hkc _ o e)).isList (by simp) hQ
      · intro gc C D vs2 frc sc hkc hvs SC
        rw [List.take_of_length_le (by lia)] at hvs
        refine post_none SC fun s8 S8 => ?_
        clear SC S7 S6
        repeat' walk1
        obtain ⟨r0, hr0, hr0W⟩ := hR.ex
        refine r_maxl hA S8 (S8.mem (.head _)).isList hvs (by rw [List.length_map]; exact List.length_pos_iff.mpr (List.ne_nil_of_mem hr0)) fun m tm s9 hm1 hm2 S9 => ?_
        have hm : m = W := by
          obtain ⟨r, hr, e⟩ := List.mem_map.mp hm1
          have := hR.le r hr
          have := hm2 _ (List.mem_map_of_mem hr0)
          lia
        subst hm
        have S10 := S9.drop
        clear S8 S9
        repeat' walk1
        exact ⟨rfl, hPP _ ⟨gc, _, hkc, by assumption⟩⟩
    rintro s7 ⟨g4, tw, k4, S7⟩
    clear S6
    have k04 : g.StaysIn g4 := fun b o e => k4 b o (k3 b o (kk b o e))
    have hp4 := hp1.keeps fun o e => k04 _ o e
    have hl4 := hl1.keeps fun o e => k04 _ o e
    have ht4 := ht1.keeps fun o e => k04 _ o e
    have ha4 := ha1.keeps fun o e => k04 _ o e
    have hs4 := hs1.keeps fun o e => k04 _ o e
    have hy4 := hy.mono k04
    have hx4 := hx.mono k04
    have htl4 := ht2.length
    have hal4 := ha2.length
    have hsl4 := hs2.length
    unfold aimsOf at hal4
    unfold stopsOf at hsl4
    rw [List.length_map] at hal4 hsl4
    rw [sizesOf_len] at htl4 hal4 hsl4
    generalize hN : (W + 1).toNat = N
    -- rows
    refine m_cut (fun s8 => ∃ g5 D, g4.StaysIn g5 ∧ RowsAt g5 D (rowsUp T G ps p N) ∧ St w os g5 L (lawFr (some (.ref a)) (some (.ref pl)) (some (.ref z)) (some (.ref ld)) (some (.int (freeOf T G ps : Nat) tf)) (some (.int ((ps.length : Int) - 1) te)) (some (.ref ra)) (some (.int (W + 1) tw)) (some (.ref D))) ((it, LIterO q (i + 1)) :: lawNw2 L (some (.ref l)) (some (.int ((p : Nat) : Int) tp)) (some (.ref b)) (some (.str (tx T) tT)) (some (.str (tx G) tG)) (some (.ref cl)) o (some (.ref tb)) (some (.ref am)) (some (.ref st)) (some (.ref x))) s8) (fun P' hPP => ?_) ?_
    · refine r_compU (cl := [(Str.ofString "table", L + 8), (Str.ofString "stops", L + 10), (Str.ofString "place", L + 2), (Str.ofString "aims", L + 9)]) (swaps_of eF l8 rfl (by decide)) (by unfold closureFor cellOf; rw [hcells]; rfl) rfl (by decide) (fun _ => rfl) ?_
      repeat' walk1
      rename_i I s8 S8
      have S9 := S8.del (.tail .head)
      rw [show max 0 (W + 1 + 1 - 1) = ((N - 0 : Nat) : Int) from by lia] at S9
      clear S8 S7
      refine comp_run0 V3 (fun _ _ _ _ k x => x.mono k) [Str.ofString "size"] (fun i => RIterO ((1 + i : Nat) : Int) ((N - i : Nat) : Int) 1) N (fun k => rowsUp T G ps p k) (by lia) (fun k => ?_) S9 (by decide) rfl (by decide) ?_ ?_ ?_ ?_
      · induction k with
        | zero => exact Nat.le_refl _
        | succ k ih =>
          rw [rowsUp, List.length_append]
          split
          · simp; lia
          · simp; lia
      · intro s Q' E hI hQ
        obtain ⟨o', e', rfl⟩ := hI
        exact wpAny_pyIter_rangeiter e' hQ
      · intro j gc C D ys frc cenv sc hj hkc hce hfr SC Cc Bc hCc hBc
        have eF' : EnvF cenv C := by rw [hce]; exact compEnvF eF rfl
        have m0 : NmL cenv (Str.ofString "size") := by rw [hce]; exact cm_l rfl rfl
        have m1 : NmC cenv (Str.ofString "table") (L + 8) := by rw [hce]; exact cm_c eF c7 rfl rfl
        have m2 : NmC cenv (Str.ofString "aims") (L + 9) := by rw [hce]; exact cm_c eF c8 rfl rfl
        have m3 : NmC cenv (Str.ofString "stops") (L + 10) := by rw [hce]; exact cm_c eF c9 rfl rfl
        have m4 : NmC cenv (Str.ofString "place") (L + 2) := by rw [hce]; exact cm_c eF c1 rfl rfl
        obtain ⟨w1, rfl⟩ := fm1 hfr
        have hjM : j < M + 1 := by lia
        have hjs := sizesOf_get M j hjM
        have hii : (((1 + j : Nat) : Int) - 1).toNat = j := by lia
        obtain ⟨row, hrow, ra2, rfl, hra2⟩ := ht2.get (i := j) (b := j + 1) hjs
        have hidx : tvs[(((1 + j : Nat) : Int) - 1).toNat]? = some (.ref ra2) := by rw [hii]; exact hrow
        obtain ⟨av, hav, tav, rfl⟩ := ha2.get (i := j) (b := ((col (j + 1) G : Nat) : Int)) (by unfold aimsOf; rw [List.getElem?_map, hjs]; rfl)
        have hidx2 : avs[(((1 + j : Nat) : Int) - 1).toNat]? = some (.int ((col (j + 1) G : Nat) : Int) tav) := by rw [hii]; exact hav
        obtain ⟨sv, hsv, tsv, rfl⟩ := hs2.get (i := j) (b := ((stopOf T G ps (j + 1) : Nat) : Int)) (by unfold stopsOf; rw [List.getElem?_map, hjs]; rfl)
        have hidx3 : svs[(((1 + j : Nat) : Int) - 1).toNat]? = some (.int ((stopOf T G ps (j + 1) : Nat) : Int) tsv) := by rw [hii]; exact hsv
        obtain ⟨cvs2, hc1, hc2⟩ := ints_get ((hra2.keeps fun o e => k04 _ o e).keeps fun o e => hkc _ o e)
        obtain ⟨cv, hcv, tcv, rfl⟩ := hc2.get (i := p) (b := ((col (j + 1) (T.take pp) : Nat) : Int)) (by
          unfold colRow
          rw [List.getElem?_map, List.getElem?_eq_getElem hp]
          rw [List.getD_eq_getElem?_getD, List.getElem?_eq_getElem hp] at hpe
          rw [← hpe]; rfl)
        have hidx4 : cvs2[((p : Nat) : Int).toNat]? = some (.int ((col (j + 1) (T.take pp) : Nat) : Int) tcv) := by rw [Int.toNat_natCast]; exact hcv
        have htc := ht4.keeps fun o e => hkc _ o e
        have hac := ha4.keeps fun o e => hkc _ o e
        have hsc := hs4.keeps fun o e => hkc _ o e
        have hplc : p < 1000 := by lia
        refine r_next_range SC (.tail .head) (by lia) fun t' s10 S10 => ?_
        rw [show ((1 + j : Nat) : Int) + 1 = ((1 + (j + 1) : Nat) : Int) from by lia, show ((N - j : Nat) : Int) - 1 = ((N - (j + 1) : Nat) : Int) from by lia] at S10
        dsimp only
        refine wpAny_of_eq rfl ?_
        clear SC S9
        by_cases hcs : ((stopOf T G ps (j + 1) : Nat) : Int) ≤ ((p : Nat) : Int)
        · have hout : rowsUp T G ps p (j + 1) = rowsUp T G ps p j ++ [(((j + 1 : Nat) : Int), ((col (j + 1) (T.take pp) : Nat) : Int), ((col (j + 1) G : Nat) : Int))] := by
            rw [rowsUp, if_pos (by lia), hpe]
          repeat' walk1
          rename_i S11
          obtain ⟨gd, kd, hpd, S12⟩ := S11.freeze
          rw [Nat.add_comm 1 j] at hpd
          exact ⟨hCc _ _ ⟨gd, _, _, kd, hout, ⟨_, _, _, _, rfl, hpd⟩, rfl, S12⟩⟩
        · have hout : rowsUp T G ps p (j + 1) = rowsUp T G ps p j := by
            rw [rowsUp, if_neg (by lia), List.append_nil]
          repeat' walk1
          exact ⟨hBc _ ⟨gc, _, fun _ _ e => e, hout, rfl, by assumption⟩⟩
      · intro gc C D ys frc sc Q' hkc SC hQ
        exact r_end_range hA SC (.tail .head) (by lia) hQ
      · intro gc C D vs frc sc hkc hvs SC
        refine post_use eF l8 SC (by walk_at "m_upd") fun s10 S10 => ⟨rfl, hPP _ ?_⟩
        obtain ⟨gd, kd, hD, S11⟩ := S10.freeze
        exact ⟨gd, D, fun b o e => kd b o (hkc b o e), ⟨vs, hD, hvs.mono fun _ _ x => x.mono kd⟩, S11⟩
    rintro s8 ⟨g5, D, k5, hD, S8⟩
    clear S7
    rw [rows_wit hP hT hG hp, hpe] at hD
    have hwit : witGo (T.take pp) G 1 N = witOf (T.take pp) G := by unfold witOf; rw [hW, hN]
    rw [hwit] at hD
    have hy5 := hy4.mono k5
    have hx5 := hx4.mono k5
    have hl5 := hl4.keeps fun o e => k5 _ o e
    obtain ⟨dx, vr, tn, tt, qq, c, tbb, cvs, w1', w2', w3', w4', w5'⟩ := id hy5
    -- the witness
    have htl5 : (T.take pp).length ≤ 18 := by rw [List.length_take]; lia
    have hpl5 : p < 1000 := by lia
    repeat' walk1
    refine wpAny_call (witness_ok (n := n + 6) hA S8.ok (hy5.mono S8.keep) (hx5.mono S8.keep) (by lia) (by lia) fun q2 s9 O9 k9 hq9 h9 => ?_)
    have S9 := S8.call k9 O9
    clear S8
    obtain ⟨as1, r1⟩ := reads_rows h9
    obtain ⟨as2, r2⟩ := reads_rows (hD.mono S9.keep)
    repeat' walk1
    refine r_neSame hA r1 r2 (shaped_rows _) ?_
    repeat' walk1
    exact ⟨hCt _ ⟨g5, _, _, _, _, fun b o e => k5 b o (k4 b o (k3 b o (k2 b o e))), S9⟩⟩
end
theorem tr {g g' g'' : Heap} (a : g.StaysIn g') (b : g'.StaysIn g'') : g.StaysIn g'' := fun x o e => b x o (a x o e)
theorem at_up {g g' : Heap} {a : Addr} {P : Obj → Prop} (k : g.StaysIn g') (h : At g a P) : At g' a P := h.keeps fun o e => k _ o e
section
variable {w : World} {os : OsState} {s : Shared} {A : Around} {n : Nat} {R : Result → Shared → Prop}
set_option maxHeartbeats 8000000 in
theorem law_ok {l : Addr} {vs : List Value} (hA : Ar A (n + 9)) (O : Ok w os s) (h137 : s.heap.get? 137 = some (tabObj #[])) (h170 : s.heap.get? 170 = some (tabObj #[]))
    (hl : s.heap.IsList l vs.toArray) (hvs : ∀ v ∈ vs, ∃ k, VI v k) (hvl : vs.length ≤ 100)
    (h : ∀ s', Ok w os s' → (∀ b o, b ≠ 137 → b ≠ 170 → s.heap.get? b = some o → s'.heap.get? b = some o) → (∃ qs, s'.heap.get? 137 = some (tabObj qs)) → (∃ qs, s'.heap.get? 170 = some (tabObj qs)) → R (.ok (.ret (.bool true))) s') :
    codeAny (MM w) A (.call (.ref 173) ⟨[.ref l], []⟩) R s := by
  refine law_enter hA O h170 fun L s1 A1 env hE S1 hA1 => ?_
  have hl170 : l ≠ 170 := fun z => by
    obtain ⟨o, e, hc, _⟩ := hl
    rw [z, h170] at e; cases e; cases hc
  have hl0 : (s.heap.hide 170).IsList l vs.toArray := by
    obtain ⟨o, e, hc⟩ := hl
    exact ⟨o, by rw [Heap.hide_ne _ hl170]; exact e, hc⟩
  have h137' : (s.heap.hide 170).get? 137 = some (tabObj #[]) := by rw [Heap.hide_ne _ (by decide)]; exact h137
  refine seg0 hE hA1 hl0 hvs hvl S1 fun g1 a cs s2 k1 hc S2 => ?_
  refine seg1 hE S2 fun g2 b s3 k2 hb S3 => ?_
  refine seg2 hE hA1 ⟨at_up k2 hc.1, hc.2⟩ hb S3 fun g3 T tT s4 k3 hT hT1 hT2 S4 => ?_
  refine seg3 hE hA1 ⟨at_up k3 (at_up k2 hc.1), hc.2⟩ hT1 hT2 S4 fun g4 k tG s5 k4 hk1 hk2 S5 => ?_
  have hG : Ws (T.reverse.take k) := hT.rev.take k
  have hGl : (T.reverse.take k).length = k := by rw [List.length_take, List.length_reverse]; lia
  have hGlr : lrOf (T.reverse.take k) ≤ lrOf T := by
    have := lr_take hT.rev k
    rwa [lr_rev _ T rfl hT] at this
  generalize hGe : T.reverse.take k = G at *
  have hG2 : G.length ≤ 18 := by lia
  obtain ⟨codes, ps, hP⟩ := lzw_all hT (by lia)
  have hb0 := lrOf_bounds T
  have hpn : ps.length ≤ 20 := by have := hP.plen; lia
  obtain ⟨M, hM0⟩ : ∃ M, M = (lrOf T).toNat := ⟨_, rfl⟩
  have hM : M ≤ 18 := by lia
  have hM1 : lrOf T ≤ M := by lia
  have hM2 : lrOf G ≤ M := by lia
  refine seg4 hE hA1 hT2 hP.packs (k4 _ _ (k3 _ _ (k2 _ _ (k1 _ _ h137')))) S5 fun g5 cl s6 x5 h137'' hcl S6 => ?_
  refine seg5 hE hA1 hT2 hP hcl S6 fun g6 pl s7 k6 hpl S7 => ?_
  refine seg6 hE hA1 hT2 hP (at_up k6 hcl) hpl S7 fun s8 S8 => ?_
  refine seg7 hE hA1 hT hT2 S8 fun g7 z s9 k7 hz S9 => ?_
  rw [← hM0] at hz
  refine seg8 hE hA1 hT2 hP (at_up k7 (at_up k6 hcl)) hz hM S9 fun g8 tb s10 k8 htb S10 => ?_
  refine seg9 hE hA1 hT hT2 hP (at_up k8 (at_up k7 hpl)) S10 fun g9 ld s11 k9 hld S11 => ?_
  refine seg10 hE hA1 hT hT2 hpn ((hz.mono k8).mono k9) hM (htb.mono k9) hld S11 fun g10 o s12 k10 S12 => ?_
  refine seg11 hE hA1 hG hG2 S12 fun g11 x s13 k11 hx S13 => ?_
  have z11 := (((hz.mono k8).mono k9).mono k10).mono k11
  refine seg12 hE hA1 hG hG2 z11 hM S13 fun g12 am s14 k12 ham S14 => ?_
  have t12 := ((((htb.mono k9).mono k10).mono k11).mono k12)
  refine seg13 hE hA1 hpn (z11.mono k12) hM t12 ham S14 fun g13 st s15 k13 hst S15 => ?_
  have d13 := ((((hld.mono k10).mono k11).mono k12).mono k13)
  have x13 := (hx.mono k12).mono k13
  refine seg14 hE hA1 hT2 hG2 hpn d13 x13 S15 fun g14 tf s16 k14 h170' S16 => ?_
  have hst14 := at_up k14 hst
  refine seg15 hE hA1 hst14 (fun m hm hmin => free_min hP hT hG (by lia) hM1 hM2 hm hmin) S16 fun s17 S17 => ?_
  refine seg16 hE (d13.mono k14) hpn S17 fun te s18 S18 => ?_
  refine seg17 hE hA1 hT hG hT2 hG2 hP hM1 hM2 hM (free_lt hP hT hG (by lia) hM1 hM2)
    (at_up k14 (at_up k13 (at_up k12 (at_up k11 (at_up k10 (at_up k9 (at_up k8 (at_up k7 hpl)))))))) ((t12.mono k13).mono k14) (at_up k14 (at_up k13 ham)) hst14 (d13.mono k14) (x13.mono k14) S18 fun g15 fr nw s19 k15 S19 => ?_
  refine seg18 ?_
  have up : g6.StaysIn g15 := tr k7 (tr k8 (tr k9 (tr k10 (tr k11 (tr k12 (tr k13 (tr k14 k15)))))))
  refine h s19 S19.ok (fun c o' h1 h2 e => ?_) ?_ ?_
  · have e1 : (s.heap.hide 170).get? c = some o' := by rw [Heap.hide_ne _ h2]; exact e
    exact S19.keep _ _ (up _ _ (k6 _ _ (x5 _ _ h1 (k4 _ _ (k3 _ _ (k2 _ _ (k1 _ _ e1)))))))
  · obtain ⟨qs, e⟩ := h137''
    exact ⟨qs, S19.keep _ _ (up _ _ (k6 _ _ e))⟩
  · obtain ⟨qs, e⟩ := h170'
    exact ⟨qs, S19.keep _ _ (k15 _ _ e)⟩
end
theorem ints_vi {vs : List Value} {ns : List Int} (h : IntsAre vs ns) : vs.length = ns.length ∧ ∀ v ∈ vs, ∃ k, VI v k := by
  induction h with
  | nil => exact ⟨rfl, fun v hv => by cases hv⟩
  | cons n t _ ih => exact ⟨by rw [List.length_cons, List.length_cons, ih.1], fun v hv => by rcases List.mem_cons.mp hv with rfl | hv; (exact ⟨n, t, rfl⟩); (exact ih.2 v hv)⟩
theorem tab_old {w : World} {h h' : Heap} {c P : Addr} (X : (KK w).In h) (hc : codeHdIn (KK w) c P = true) (hP : h.get? P = some (tabObj #[])) {qs : Array Value} (hq : h'.get? P = some (tabObj qs)) {o : Obj} (e : h.get? P = some o) : asItWas h h' P o := by
  rw [hP] at e
  cases e
  exact .inr (.inl ⟨((codeHd_of_K X hc).tab hP).isCodeTable, rfl, #[], qs, rfl, by rw [hq]; simp⟩)
end Mine
open PySem PySem.W PyProof.Rows
set_option maxRecDepth 100000 in
set_option maxHeartbeats 8000000 in
theorem PySem.Challenge.cw_rl0093_01_holds : PySem.Challenge.rw_rl0093_01.Holds := by
  refine holds_law Mine.hdSaid fun ok => ?_
  refine holds_open (YP := Mine.hdK.says) Mine.hdLeft Mine.hdK.of Mine.hdK.keeps (fun s e => xl_of s (Bool.and_eq_true_iff.mp e).1) XL.keeps (by rfl) (by rfl) (by rfl) (fun s e => recFacts_of (Bool.and_eq_true_iff.mp e).2) (by rfl) ok (by decide +kernel) ⟨rfl, rfl, rfl, rfl, rfl, by decide +kernel⟩ ⟨[.list []], by decide +kernel, by decide +kernel⟩ ?_
  unfold Mine.hdK
  intro w s₀ s₁ mg mb G Y fa o pm cd doc dV kV ho hd hcd hD hmg hg args vals as hpre hlay hrd hwl hlo
  have KX := km_in_of Y
  have KT := km_tabs_of Y
  refine Ground.open G ?_
  intro T B D TE TW
  clear hd
  have hmg' : mg (Str.ofString "law") = some (.ref fa) := hmg
  clear hmg hcd hD Y
  wrow_args hpre hlay hrd hwl hlo
  refine enter_call ?_
  rename_i ns _ _ _ _ _ _ _ la vs _ hL _ _ _ hI _ hlen _
  have hfa : fa = 173 := by
    have e := mg_of (n := Str.ofString "law") (v := .ref 173) KX T.g (by kernel_rfl)
    rw [hmg'] at e; cases e; rfl
  subst hfa
  have Gd : Mine.Gd w s₁.heap := ⟨KX, ⟨mg, mb, T.g, T.b, T.nolimit, T.builtins⟩, let ⟨bm, ob, h1, h2, h3, h4, h5, h6⟩ := T.bmain; ⟨mg, bm, ob, T.g, h1, h2, h3, h4, h5, h6⟩⟩
  have h137 := KT 137 (by simp)
  have h170 := KT 170 (by simp)
  have hvi := Mine.ints_vi hI
  refine Mine.law_ok (n := 0) ⟨rfl, by decide, by decide⟩ ⟨Gd, rfl, hg⟩ h137 h170 hL hvi.2 (by lia) fun s' O' keep t137 t170 => ?_
  obtain ⟨q1, e1⟩ := t137
  obtain ⟨q2, e2⟩ := t170
  refine ⟨.inl ⟨.bool true, .bool true, [], rfl, fun _ => rfl,   .bool true, by kernel_rfl, fun hu => ⟨.nil, fun a ha => nomatch ha⟩⟩, ⟨fun b o' e => ?_, fun b o' e => ?_⟩, O'.hos, .of_eq O'.hgens⟩
  · by_cases h1 : b = 137
    · subst h1; exact Mine.tab_old KX (c := 141) (by kernel_rfl) h137 e1 e
    · by_cases h2 : b = 170
      · subst h2; exact Mine.tab_old KX (c := 172) (by kernel_rfl) h170 e2 e
      · exact .inl (keep _ _ h1 h2 e)
  · by_cases h1 : b = 137
    · subst h1; exact ⟨_, e1⟩
    · by_cases h2 : b = 170
      · subst h2; exact ⟨_, e2⟩
      · exact ⟨_, keep _ _ h1 h2 e⟩
