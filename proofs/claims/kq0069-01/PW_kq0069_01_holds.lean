import PyProof.Rows.All
import Wide.All
import OpenK.AllK
import Wide.FinOn
import Lean
import PySem.Challenge.RW_kq0069_01
open PySem PySem.W PyProof.Rows
set_option Elab.async false
set_option linter.all false
namespace Mine
set_option maxRecDepth 100000
set_option maxHeartbeats 2000000
/-- the head: the whole top by one look of the kernel (no twins of the row), and the law's own def alone in view -/
def vw : Program := view PySem.Challenge.pw_kq0069_01 [0, 47]
def lo : List Str := ["filterfalse", "_wall", "_filter", "_twin_re_1", "bytes_types", "_bytes_from_decode_data", "Error", "_ascii_buffer", "_buffer", "_truth", "_B64", "_b64_value", "a2b_base64", "b2a_base64", "_NO_SEP", "b2a_hex", "hexlify", "_hex_value", "a2b_hex", "unhexlify", "b64encode", "b64decode", "b16encode", "b16decode", "heappop", "heapreplace", "heapify", "_heapreplace_max", "_heapify_max", "_siftdown", "_siftup", "_siftdown_max", "_siftup_max", "nsmallest", "nlargest", "_law_octets", "_law_b64", "_law_figures", "_law_parted"].map Str.ofString
noncomputable def dk : DefRec × List (Str × PySem.Expr) := (defOf vw (Str.ofString "law")).getD ⟨⟨Str.ofString "", ⟨[], [], none, [], [], none, []⟩, [], ⟨ScopeKind.function, [], false, false, []⟩, ⟨0, 0, 0, 0⟩⟩, []⟩
abbrev R := PySem.Challenge.rw_kq0069_01.row
theorem h_def : defOf vw R.name = some (dk.1, dk.2) := by kernel_rfl
theorem h_p : R.prog.theDef R.name = some (dk.1.params, dk.1.body, dk.1.scope) := by kernel_rfl
theorem h_k : kwWritten? dk.1.params.kwonlyargs dk.1.params.kw_defaults = some dk.2 := by kernel_rfl
theorem h_wr : (!R.writes || R.records.isEmpty) = true := by kernel_rfl
theorem h_ch : chainsOk vw = true := by kernel_rfl
theorem h_ow : opensWell R.prog = true := by kernel_rfl
theorem h_fr : (frees R.toRowW && R.within.isEmpty) = true := by kernel_rfl
theorem h_tab : R.prog.tablesWhole = true := by kernel_rfl
theorem l_1 : (sreFenced R.prog.main && ((moduleNames R.prog.main.body).isEmpty || lookedIntoSs (moduleNames R.prog.main.body) R.prog.main.body)) = true := by kernel_rfl
theorem l_2 : namesResolve R.prog = true := (congrFun PySem.W.Fast.te8377067652309620493 _).trans (by kernel_rfl)
theorem l_3 : R.prog.boundNames.all (fun n => !worldNames.contains n) = true := by kernel_rfl
theorem l_4 : noRoadLSs { strict := !(importedModules R.prog.main.body).all cThrough.contains, foot := none, bare := (["vars", "dir", "locals"] : List Str).filter (readsOut R.prog R.prog.main.body) } R.prog.main.body = true := by rw [PySem.W.Fast.te8326940854005059898]; kernel_rfl
theorem l_5 : (namesMeet R.prog R.prog.main.body fun _ n => attrL n) = true := by rw [PySem.W.Fast.te17119622794617984870]; kernel_rfl
theorem l_look : looksOpen R.prog = true := look_both (look_both (look_both (look_both l_1 l_2) l_3) l_4) l_5
theorem l_row : R.wellSaid = true := by
  unfold OpenRow.wellSaid OpenRow.partSaid
  rw [l_look]
  kernel_rfl
theorem h_said : OpenLaw.wellSaid PySem.Challenge.rw_kq0069_01 = true := by
  unfold OpenLaw.wellSaid
  rw [show PySem.Challenge.rw_kq0069_01.row.wellSaid = true from l_row]
  kernel_rfl
noncomputable def topT (p : Program) (w : World) (N : Nat) : Option Shared :=
  ((PySem.W.Fast.tw10274390034422433532 PySem.W.Fast.tw14364793385576792824 (opening p) w N (PySem.W.Fast.tw1435165496053646825 (opening p)).1 (PySem.W.Fast.tw1435165496053646825 (opening p)).2).bind (PySem.W.Fast.tw14289696077712309145 p)).bind fun s₀ =>
  match s₀.heap.isNs mainGlobals && s₀.gens.size == 0 with
  | true => (PySem.W.Fast.tw14082659384304107361 PySem.W.Fast.tw14364793385576792824 p w s₀.heap.objs.size (s₀.heap.nsMap mainGlobals "__annotations__") N s₀ (topStub p)).bind fun s₁ => match staticsOk (importedModules p.main.body) s₀.heap s₁.heap && namesBound p s₁.heap && gensDone s₁ && laidKept s₀.heap s₁.heap with
      | true => some s₁
      | false => none
  | false => none
open PySem.W.Fast in
theorem topT_eq (p : Program) (w : World) (N : Nat) : openEnds treeTable p w N = topT p w N := by
  unfold openEnds fencedOpening topT
  rw [te10274390034422433532, te14364793385576792824, te1435165496053646825, te14289696077712309145]
  unfold topFrom
  rw [te14082659384304107361]
  rfl
theorem left_of {α : Type} {Yf : Shared → α} {Ya : World → α} (h : ∀ w, (topT R.prog w 3526).map (fun s => (PySem.W.Fast.tw4187177175401517315 vw lo (importedModules R.prog.main.body) (fun s => xlAt vw [] s && recOk R.toRowW.records s) true s, Yf s)) = some (openGood vw lo, Ya w)) : LeftO R.prog vw lo (fun s => xlAt vw [] s && recOk R.toRowW.records s) Yf Ya 3526 := by
  intro w
  rw [topT_eq, PySem.W.Fast.te4187177175401517315]
  exact h w
theorem head_of {K : Params → Frag} {as : List Addr} {e : ∀ P, as = (K P).map (·.1)}
   (h : ∀ w, (topT R.prog w 3526).map (fun s => (PySem.W.Fast.tw4187177175401517315 vw lo (importedModules R.prog.main.body) (fun s => xlAt vw [] s && recOk R.toRowW.records s) true s, as.map s.heap.get?)) = some (openGood vw lo, (K w.params).map fun p => some p.2))
   (said : R.wellSaid = true) (hw : R.toRowW.promised)
   (call : WalkO vw lo (XL vw []) (kHook K as e).says R.toRowW dk.1 dk.2 fun f vs => PySem.call f vs) : R.Holds :=
  holds_open (r := R) (q := vw) (loose := lo) (Xt := fun s => xlAt vw [] s && recOk R.toRowW.records s) (XP := XL vw []) (Yf := Hook.obs (kHook K as e)) (Ya := Hook.val (kHook K as e)) (YP := Hook.says (kHook K as e)) (d := dk.1) (kwd := dk.2) (N := 3526) (left_of h) (Hook.of (kHook K as e)) (Hook.keeps (kHook K as e)) (fun s e => xl_of s (Bool.and_eq_true_iff.mp e).1) XL.keeps h_def h_p h_k (fun s e => recFacts_of (Bool.and_eq_true_iff.mp e).2) h_wr said (look_both (look_both h_ch h_ow) h_fr) ⟨rfl, rfl, rfl, rfl, rfl, h_tab⟩ hw call
local macro_rules | `(tactic| k_head) => `(tactic| x_head)
local macro_rules | `(tactic| o_law) => `(tactic| refine holds_law h_said fun said => ?_)
local macro_rules | `(tactic| o_head (kHook $K $as $e)) => `(tactic| (refine head_of (K := $K) (as := $as) (e := $e) ?hl (by assumption) ?hw ?hc; (case hl => intro w; kernel_rfl)))
open_top hx for PySem.Challenge.rw_kq0069_01
noncomputable abbrev P : Program := PySem.Challenge.rw_kq0069_01.row.prog
noncomputable abbrev KF (w : World) : Frag := hx.heap_1 w.params

/-- what is known of the text's own part of the heap -/
structure G (w : World) (h : Heap) : Prop where
  kin : (KF w).In h
  top : ∃ mg mb, TopRead vw (looseW vw lo) mg mb h

theorem G.keeps {w : World} {h h' : Heap} (g : G w h) (k : ∀ b o, h.get? b = some o → h'.get? b = some o) : G w h' :=
  ⟨g.kin.keeps k, let ⟨mg, mb, t⟩ := g.top; ⟨mg, mb, t.keeps k⟩⟩

theorem G.nolimit {w : World} {h : Heap} (g : G w h) : h.NoLimit := let ⟨_, _, t⟩ := g.top; t.nolimit

/-- the room that a call has -/
structure Room (A : Around) (d u : Nat) : Prop where
  handled : A.handled = none
  depth : A.depth + d < recursionLimit
  units : A.units + u < cLine

theorem Room.mono {A : Around} {d u d' u' : Nat} (r : Room A d u) (hd : d' ≤ d) (hu : u' ≤ u) : Room A d' u' :=
  ⟨r.handled, Nat.lt_of_le_of_lt (Nat.add_le_add_left hd _) r.depth, Nat.lt_of_le_of_lt (Nat.add_le_add_left hu _) r.units⟩
theorem Room.deeper {A : Around} {d u : Nat} {env : Env} (r : Room A (d + 1) (u + 3)) : Room (A.deeper env) d u :=
  ⟨r.handled, by have := r.depth; show A.depth + 1 + d < _; lia, by have := r.units; show A.units + 3 + u < _; lia⟩
theorem Room.in1 {A : Around} {d u : Nat} (r : Room A d (u + 1)) : Room A.in1 d u :=
  ⟨r.handled, r.depth, by have := r.units; show A.units + 1 + u < _; lia⟩

/-- the locals of a frame as a list -/
noncomputable def lk (l : List (Str × Option Value)) : Str → Option Value := fun y => (l.lookup y).join

/-- s' is s but for the heap and the tokens; what is not in as stands as it stood -/
noncomputable def KeepsBut (as : List Addr) (s s' : Shared) : Prop :=
  ∃ h' tk, s' = { s with heap := h', toks := tk } ∧ ∀ b o, b ∉ as → s.heap.get? b = some o → h'.get? b = some o

theorem KeepsBut.of {s s' : Shared} (h : Keeps s s') : KeepsBut [] s s' := let ⟨h', tk, e, k⟩ := h; ⟨h', tk, e, fun b o _ => k b o⟩
theorem KeepsBut.to {s s' : Shared} (h : KeepsBut [] s s') : Keeps s s' := let ⟨h', tk, e, k⟩ := h; ⟨h', tk, e, fun b o => k b o (by simp)⟩
theorem KeepsBut.refl {as : List Addr} (s : Shared) : KeepsBut as s s := ⟨s.heap, s.toks, rfl, fun _ _ _ e => e⟩
theorem KeepsBut.trans {as : List Addr} {s₁ s₂ s₃ : Shared} (x : KeepsBut as s₁ s₂) (y : KeepsBut as s₂ s₃) : KeepsBut as s₁ s₃ := by
  obtain ⟨h2, t2, rfl, k2⟩ := x
  obtain ⟨h3, t3, rfl, k3⟩ := y
  exact ⟨h3, t3, rfl, fun b o hb e => k3 b o hb (k2 b o hb e)⟩
theorem KeepsBut.mono {as bs : List Addr} {s s' : Shared} (x : KeepsBut as s s') (h : ∀ a ∈ as, a ∈ bs) : KeepsBut bs s s' := by
  obtain ⟨h2, t2, rfl, k2⟩ := x
  exact ⟨h2, t2, rfl, fun b o hb e => k2 b o (fun q => hb (h _ q)) e⟩
theorem KeepsBut.get {as : List Addr} {s s' : Shared} (x : KeepsBut as s s') {b : Addr} {o : Obj} (hb : b ∉ as) (e : s.heap.get? b = some o) : s'.heap.get? b = some o := by
  obtain ⟨h2, t2, rfl, k2⟩ := x
  exact k2 b o hb e
theorem keeps_get {s s' : Shared} (x : Keeps s s') {b : Addr} {o : Obj} (e : s.heap.get? b = some o) : s'.heap.get? b = some o := by
  obtain ⟨h2, t2, rfl, k2⟩ := x
  exact k2 b o e

/-- what a frame's own object is -/
inductive Cell
  | list (xs : List Value)
  | obj (o : Obj)
@[reducible] noncomputable def CellAt (h : Heap) (a : Addr) : Cell → Prop
  | .list xs => h.PlainList a xs.toArray
  | .obj o => h.get? a = some o
theorem CellAt.at {h h' : Heap} {a : Addr} : ∀ {c : Cell}, CellAt h a c → (∀ o, h.get? a = some o → h'.get? a = some o) → CellAt h' a c
  | .list _, ⟨n, e⟩, k => ⟨n, k _ e⟩
  | .obj _, e, k => k _ e
theorem CellAt.some {h : Heap} {a : Addr} : ∀ {c : Cell}, CellAt h a c → ∃ o, h.get? a = some o
  | .list _, ⟨_, e⟩ => ⟨_, e⟩
  | .obj o, e => ⟨o, e⟩

/-- the frame: its dict at L bears the locals l; h₀ stands; the lists W are the frame's to change -/
structure Fs (h₀ : Heap) (L : Addr) (l : List (Str × Option Value)) (W : List (Addr × Cell)) (h : Heap) : Prop where
  ns : h.Ns L (lk l)
  ln : (l.map (·.1)).Nodup
  keep : ∀ b o, h₀.get? b = some o → h.get? b = some o
  own : ∀ p ∈ W, CellAt h p.1 p.2
  nd : (W.map (·.1)).Nodup
  newL : h₀.get? L = none
  newW : ∀ p ∈ W, h₀.get? p.1 = none ∧ p.1 ≠ L

noncomputable def At (s₀ : Shared) (h₀ : Heap) (L : Addr) (l : List (Str × Option Value)) (W : List (Addr × Cell)) (s : Shared) : Prop :=
  ∃ h tk, s = { s₀ with heap := h, toks := tk } ∧ Fs h₀ L l W h

/-- the environment of a def without cells, or of a comprehension -/
structure EnvIs (env : Env) (names : List (Str × NameKind)) (L : Addr) : Prop where
  kind : env.scope.kind = .function
  nms : env.scope.names = names
  locals : env.locals = L
  globals : env.globals = mainGlobals
  builtins : env.builtins = builtinsNs
  nn : (names.map (·.1)).Nodup

theorem EnvIs.kindOf {env : Env} {names : List (Str × NameKind)} {L : Addr} (e : EnvIs env names L) (x : Str) : env.kindOf x = names.lookup x := by
  unfold Env.kindOf; rw [e.nms]

section
variable {w : World} {A : Around} {E : Value → Shared → Prop} {s s₀ : Shared} {env : Env} {names : List (Str × NameKind)} {L : Addr} {h₀ : Heap} {l : List (Str × Option Value)} {W : List (Addr × Cell)}

theorem At.fs (a : At s₀ h₀ L l W s) : Fs h₀ L l W s.heap := by obtain ⟨h, tk, rfl, f⟩ := a; exact f

theorem lookup_mem {α β : Type} [BEq α] [LawfulBEq α] : ∀ {l : List (α × β)} {x : α} {v : β}, (l.map (·.1)).Nodup → (x, v) ∈ l → l.lookup x = some v
  | [], _, _, _, h => nomatch h
  | (y, u) :: r, x, v, nd, h => by
    rcases List.mem_cons.mp h with e | h
    · cases e; simp
    · have : x ≠ y := fun e => by
        rw [List.map_cons] at nd
        exact (List.nodup_cons.mp nd).1 (List.mem_map.mpr ⟨_, h, e⟩)
      have hb : (x == y) = false := by simpa using this
      rw [List.lookup_cons, hb]
      exact lookup_mem (by rw [List.map_cons] at nd; exact (List.nodup_cons.mp nd).2) h

theorem lk_of {l : List (Str × Option Value)} {x : Str} {v : Value} (nd : (l.map (·.1)).Nodup) (h : (x, some v) ∈ l) : lk l x = some v := by
  unfold lk; rw [lookup_mem nd h]; rfl

theorem EnvIs.is {env : Env} {names : List (Str × NameKind)} {L : Addr} (e : EnvIs env names L) {x : Str} {k : NameKind} (h : (x, k) ∈ names) : env.kindOf x = some k :=
  (e.kindOf x).trans (lookup_mem e.nn h)

theorem ld_local {x : Str} {pos : Pos} {v : Value} {Q : Value → Shared → Prop} (e : EnvIs env names L) (a : At s₀ h₀ L l W s)
    (hl : (x, .local) ∈ names) (hv : (x, some v) ∈ l) (hd : (x == ("__debug__" : Str)) = false) (h : Q v s) :
    wpAny (model P w) A (eval (.Name x pos) env) Q E s :=
  wpAny_Name (wpAny_loadName_local e.kind (e.is hl) (e.locals ▸ a.fs.ns) (lk_of a.fs.ln hv) h) hd

/-- a value is put -/
inductive Put (x : Str) (v : Value) : List (Str × Option Value) → List (Str × Option Value) → Prop
  | here {u r} : Put x v ((x, u) :: r) ((x, some v) :: r)
  | there {p r r'} : Put x v r r' → Put x v (p :: r) (p :: r')

theorem Put.fst {x : Str} {v : Value} {l l' : List (Str × Option Value)} (p : Put x v l l') : l'.map (·.1) = l.map (·.1) := by
  induction p with
  | here => rfl
  | there _ ih => rw [List.map_cons, List.map_cons, ih]
theorem Put.mem {x : Str} {v : Value} {l l' : List (Str × Option Value)} (p : Put x v l l') : x ∈ l.map (·.1) := by
  induction p with
  | here => exact List.mem_cons_self
  | there _ ih => exact List.mem_cons_of_mem _ ih

theorem Put.lk {x : Str} {v : Value} {l l' : List (Str × Option Value)} (p : Put x v l l') (nd : (l.map (·.1)).Nodup) : (fun y => if y = x then some v else Mine.lk l y) = Mine.lk l' := by
  funext y
  unfold Mine.lk
  induction p with
  | @here u r =>
    by_cases hy : y = x
    · subst hy; simp
    · have hb : (y == x) = false := by simpa using hy
      rw [if_neg hy, List.lookup_cons, hb, List.lookup_cons, hb]
  | @there q r r' pp ih =>
    obtain ⟨z, u⟩ := q
    have hz : z ≠ x := fun e => by
      subst e
      exact (List.nodup_cons.mp nd).1 pp.mem
    have ih := ih (List.nodup_cons.mp nd).2
    by_cases hy : y = z
    · subst hy
      rw [if_neg hz]; simp
    · have hb : (y == z) = false := by simpa using hy
      rw [List.lookup_cons, hb, List.lookup_cons, hb]
      exact ih

theorem st_local {x : Str} {v : Value} {l' : List (Str × Option Value)} {Q : Unit → Shared → Prop} (e : EnvIs env names L) (a : At s₀ h₀ L l W s)
    (hl : (x, .local) ∈ names) (hp : Put x v l l') (h : ∀ s', At s₀ h₀ L l' W s' → Q () s') :
    wpAny (model P w) A (storeName env x v) Q E s := by
  obtain ⟨hp', tk, rfl, f⟩ := a
  refine wpAny_storeName_local (e.is hl) (e.locals ▸ f.ns) (fun h' hn hs => h _ ⟨h', _, rfl, ?_⟩) (by rw [e.kind]; rfl)
  rw [e.locals] at hn hs
  exact ⟨by rw [← hp.lk f.ln]; exact hn, by rw [hp.fst]; exact f.ln, fun b o q => (hs.2 b (fun z => by rw [z, f.newL] at q; cases q)).trans (f.keep b o q),
    fun p hp => (f.own p hp).at fun o e => hs.extBut _ o (f.newW p hp).2 e, f.nd, f.newL, f.newW⟩

theorem At.kept (a : At s₀ h₀ L l W s) {s' : Shared} (k : Keeps s s') : At s₀ h₀ L l W s' := by
  obtain ⟨hp, tk, rfl, f⟩ := a
  obtain ⟨h', tk', rfl, k⟩ := k
  exact ⟨h', tk', rfl, f.ns.keeps k, f.ln, fun b o q => k b o (f.keep b o q), fun p hp => (f.own p hp).at fun o e => k _ o e, f.nd, f.newL, f.newW⟩

theorem At.toks (a : At s₀ h₀ L l W s) (n : Nat) : At s₀ h₀ L l W { s with toks := n } := by
  obtain ⟨hp, tk, rfl, f⟩ := a
  exact ⟨hp, n, rfl, f⟩

theorem At.wlist (a : At s₀ h₀ L l W s) {i : Nat} {b : Addr} {xs : Cell} (hi : W[i]? = some (b, xs)) : CellAt s.heap b xs :=
  a.fs.own _ (List.mem_of_getElem? hi)

theorem set_fst {W : List (Addr × Cell)} {i : Nat} {b : Addr} {xs ys : Cell} (hi : W[i]? = some (b, xs)) : (W.set i (b, ys)).map (·.1) = W.map (·.1) := by
  rw [List.map_set]
  refine List.ext_getElem? fun j => ?_
  rw [List.getElem?_set]
  split
  · rename_i e
    subst e
    rw [List.getElem?_map, hi]
    obtain ⟨hl, _⟩ := List.getElem?_eq_some_iff.mp hi
    simp [hl]
  · rfl

/-- one of the frame's own lists changes -/
theorem Fs.change (f : Fs h₀ L l W s.heap) {i : Nat} {b : Addr} {xs ys : Cell} (hi : W[i]? = some (b, xs)) {h' : Heap}
    (hk : ∀ c o, c ≠ b → s.heap.get? c = some o → h'.get? c = some o) (hl : CellAt h' b ys) : Fs h₀ L l (W.set i (b, ys)) h' := by
  have hb := f.newW _ (List.mem_of_getElem? hi)
  refine ⟨?_, f.ln, fun c o q => hk c o (fun z => by rw [z, hb.1] at q; cases q) (f.keep c o q), fun p hp => ?_, by rw [set_fst hi]; exact f.nd, f.newL, fun p hp => ?_⟩
  · obtain ⟨o, es, ep, ho, r⟩ := f.ns
    exact ⟨o, es, ep, hk _ _ (fun z => hb.2 z.symm) ho, r⟩
  · obtain ⟨j, hj⟩ := List.mem_iff_getElem?.mp hp
    rw [List.getElem?_set] at hj
    split at hj
    · rename_i e
      split at hj
      · cases hj; exact hl
      · cases hj
    · rename_i e
      have hpW := List.mem_of_getElem? hj
      refine (f.own p hpW).at fun o => hk _ o (fun z => ?_)
      have nd := f.nd
      have h1 : (W.map (·.1))[j]? = some b := by rw [List.getElem?_map, hj]; simp [z]
      have h2 : (W.map (·.1))[i]? = some b := by rw [List.getElem?_map, hi]; rfl
      obtain ⟨l1, e1⟩ := List.getElem?_eq_some_iff.mp h1
      obtain ⟨l2, e2⟩ := List.getElem?_eq_some_iff.mp h2
      exact absurd ((List.getElem_inj (h₀ := l1) (h₁ := l2) nd).mp (e1.trans e2.symm)) (fun q => e q.symm)
  · have : p.1 ∈ (W.set i (b, ys)).map (·.1) := List.mem_map_of_mem hp
    rw [set_fst hi] at this
    obtain ⟨q, hq, e⟩ := List.mem_map.mp this
    rw [← e]; exact f.newW q hq

theorem At.change (a : At s₀ h₀ L l W s) {i : Nat} {b : Addr} {xs ys : Cell} (hi : W[i]? = some (b, xs)) {s' : Shared}
    (hk : KeepsBut [b] s s') (hl : CellAt s'.heap b ys) : At s₀ h₀ L l (W.set i (b, ys)) s' := by
  obtain ⟨hp, tk, rfl, f⟩ := a
  obtain ⟨h', tk', rfl, k⟩ := hk
  exact ⟨h', tk', rfl, Fs.change (s := { s₀ with heap := hp, toks := tk }) f hi (fun c o hc => k c o (by simpa using hc)) hl⟩
theorem At.changeL (a : At s₀ h₀ L l W s) {i : Nat} {b : Addr} {xs : Cell} {ys : List Value} (hi : W[i]? = some (b, xs)) {s' : Shared}
    (hk : KeepsBut [b] s s') (hl : s'.heap.PlainList b ys.toArray) : At s₀ h₀ L l (W.set i (b, Cell.list ys)) s' := a.change hi hk hl
end


section
variable {w : World} {A : Around} {E : Value → Shared → Prop} {s s₀ : Shared} {env : Env} {names : List (Str × NameKind)} {L : Addr} {h₀ hb : Heap} {l : List (Str × Option Value)} {W : List (Addr × Cell)}

theorem G.ldG {x : Str} {v : Value} {Q : Value → Shared → Prop} (g : G w s.heap) (hg : env.globals = mainGlobals) (e : nsIn (KF w) mainGlobals x = some (some v)) (h : Q v s) :
    wpAny (model P w) A (loadGlobal env x) Q E s := by
  obtain ⟨mg, mb, t⟩ := g.top
  exact Calls.loadGlobal_global (hg ▸ t.g) (mg_of g.kin t.g e) h

theorem G.ldB {x : Str} {v : Value} {Q : Value → Shared → Prop} (g : G w s.heap) (hg : env.globals = mainGlobals) (hb : env.builtins = builtinsNs) (e : nsIn (KF w) mainGlobals x = some none) (hv : bootBuiltins x = some v) (hn : x ≠ "__name__") (h : Q v s) :
    wpAny (model P w) A (loadGlobal env x) Q E s := by
  obtain ⟨mg, mb, t⟩ := g.top
  exact Calls.loadGlobal_builtin (hg ▸ t.g) (mg_none_of g.kin t.g e) (hb ▸ t.b) ((t.builtins x hn).trans hv) h

/-- what a global name of the text, or a built-in one, is -/
noncomputable def GName (w : World) (x : Str) (v : Value) : Prop := nsIn (hx.heap_1 w.params) mainGlobals x = some (some v) ∨ (nsIn (hx.heap_1 w.params) mainGlobals x = some none ∧ bootBuiltins x = some v ∧ x ≠ "__name__")

theorem ld_glob {x : Str} {pos : Pos} {v : Value} {Q : Value → Shared → Prop} (e : EnvIs env names L) (g : G w s.heap)
    (hl : (x, .globalImplicit) ∈ names) (hv : GName w x v) (hd : (x == ("__debug__" : Str)) = false) (h : Q v s) :
    wpAny (model P w) A (eval (.Name x pos) env) Q E s := by
  refine wpAny_Name (ks_loadName_global e.kind (e.is hl) ?_) hd
  rcases hv with hv | ⟨h1, h2, h3⟩
  · exact g.ldG e.globals hv h
  · exact g.ldB e.globals e.builtins h1 h2 h3 h

theorem hideAll_keep {h : Heap} {as : List Addr} {hb : Heap} (hsub : ∀ b o, hb.get? b = some o → h.get? b = some o) (hoff : ∀ a ∈ as, hb.get? a = none) : ∀ b o, hb.get? b = some o → (hideAll h as).get? b = some o :=
  fun b o e => hideAll_get as (hsub b o e) fun m => by rw [hoff b m] at e; cases e

theorem At.keepsBut {as : List Addr} {s' : Shared} (a : At s h₀ L l W s') (hh : ∀ b o, b ∉ as → s.heap.get? b = some o → h₀.get? b = some o) : KeepsBut as s s' := by
  obtain ⟨h, tk, rfl, f⟩ := a
  exact ⟨h, tk, rfl, fun b o hb e => f.keep b o (hh b o hb e)⟩

theorem lookup_none_fst {α β : Type} [BEq α] [LawfulBEq α] {l : List (α × β)} {x : α} (h : x ∉ l.map (·.1)) : l.lookup x = none := by
  cases e : l.lookup x with
  | none => rfl
  | some v =>
    exfalso
    induction l with
    | nil => simp at e
    | cons p r ih =>
      obtain ⟨y, u⟩ := p
      rw [List.lookup_cons] at e
      cases hb : x == y with
      | true => exact h (by rw [eq_of_beq hb]; exact List.mem_cons_self)
      | false => rw [hb] at e; exact ih (fun m => h (List.mem_cons_of_mem _ m)) e

theorem lk_binds {binds : List (Str × Value)} {rest : List Str} {l : List (Str × Option Value)} (hl : l = binds.map (fun p => (p.1, some p.2)) ++ rest.map fun x => (x, none)) (ln : (l.map (·.1)).Nodup) :
    lk l = fun x => binds.reverse.lookup x := by
  funext y
  have nb : (binds.map (·.1)).Nodup := by
    have := ln
    rw [hl, List.map_append, List.nodup_append] at this
    have h1 := this.1
    rw [List.map_map] at h1
    exact h1
  have nr : (binds.reverse.map (·.1)).Nodup := by rw [List.map_reverse]; exact (List.reverse_perm _).nodup_iff.mpr nb
  by_cases hy : y ∈ binds.map (·.1)
  · obtain ⟨⟨z, v⟩, hm, rfl⟩ := List.mem_map.mp hy
    rw [lookup_mem nr (List.mem_reverse.mpr hm)]
    exact lk_of ln (by rw [hl]; exact List.mem_append_left _ (List.mem_map.mpr ⟨_, hm, rfl⟩))
  · rw [lookup_none_fst (by rw [List.map_reverse]; exact fun m => hy (List.mem_reverse.mp m))]
    unfold lk
    by_cases hr : y ∈ rest
    · rw [lookup_mem ln (v := none) (by rw [hl]; exact List.mem_append_right _ (List.mem_map.mpr ⟨_, hr, rfl⟩))]; rfl
    · rw [lookup_none_fst]
      · rfl
      · rw [hl, List.map_append, List.map_map, List.map_map]
        intro m
        rcases List.mem_append.mp m with m | m
        · exact hy m
        · obtain ⟨z, hz, e⟩ := List.mem_map.mp m
          exact hr (by cases e; exact hz)

/-- a def of the text is entered; it may raise; hid is left out of what is kept -/
theorem code_bodyF {f : Addr} {name qual : Str} {params : Arguments} {body : List Stmt} {scope : Scope} {dV kV doc pm cdv ct oc : Value} {an od : Option Addr} {osl : Array (Option Value)} {args : List Value} {kws : List (Str × Value)} {binds : List (Str × Value)} {R : Result → Shared → Prop} {d u : Nat}
    (Wl : List (Addr × Cell)) (rest : List Str) (hid : List Addr)
    (hG : G w hb) (hsub : ∀ b o, hb.get? b = some o → s.heap.get? b = some o) (hoff : ∀ p ∈ Wl, hb.get? p.1 = none) (hoffh : ∀ a ∈ hid, hb.get? a = none) (hW : ∀ p ∈ Wl, CellAt s.heap p.1 p.2) (nd : (Wl.map (·.1)).Nodup)
    (hr : Room A (d + 1) (u + 3))
    (ho : (hx.heap_1 w.params).lookup f = some ⟨oc, od, .func (fnOf name qual params body scope dV kV doc pm an cdv ct), osl⟩) (hcd : codeIn (hx.heap_1 w.params) cdv qual = true)
    (hbind : BindsTo s (fnOf name qual params body scope dV kV doc pm an cdv ct) ⟨args, kws⟩ binds) (hcell : ∀ x ∈ scope.names, x.2 ≠ .cell) (hloc : ∀ x ∈ binds, scope.names.lookup x.1 = some .local)
    (hl : l = binds.map (fun p => (p.1, some p.2)) ++ rest.map fun x => (x, none)) (ln : (l.map (·.1)).Nodup) (nn : (scope.names.map (·.1)).Nodup)
    (h : ∀ env L h₀ s₁ A', EnvIs env scope.names L → env.frame = some L → A'.frames = A.frames.map (fun fs => env :: fs) → At s h₀ L l Wl s₁ → G w h₀ → (∀ b o, b ∉ Wl.map (·.1) → b ∉ hid → s.heap.get? b = some o → h₀.get? b = some o) →
      (∀ a ∈ hid, h₀.get? a = none) → (∀ b o, s.heap.get? b = some o → s₁.heap.get? b = some o) → s.heap.get? L = none → Room A' d u →
      wpAny (model P w) A' (execs body env) (fun fl s' => R (.ok (.ret (match fl with | .ret v => v | _ => .none))) s') (fun e s' => wpAny (model P w) A' (leaving env e) (fun _ s'' => R (.error e) s'') (fun e' s'' => R (.error e') s'') s') s₁)
    (hco : scope.isCoroutine = false := by rfl) (hgen : scope.isGenerator = false := by rfl) (hk : scope.kind = .function := by rfl) :
    codeAny (model P w) A (.call (.ref f) ⟨args, kws⟩) R s := by
  have hGs : G w s.heap := hG.keeps hsub
  refine (codeAny_call_def (fd := fnOf name qual params body scope dV kV doc pm an cdv ct) (body := body) (binds := binds) (by have := hr.depth; omega) (hGs.kin _ _ ho) rfl hGs.nolimit (codeRec_of hGs.kin hcd) rfl hbind hcell hloc (fun h₁ hns hk₁ => ?_) hco hgen hk)
  have hoff' : ∀ a ∈ Wl.map (·.1) ++ hid, hb.get? a = none := fun a ha => by
    rcases List.mem_append.mp ha with ha | ha
    · obtain ⟨p, hp, rfl⟩ := List.mem_map.mp ha; exact hoff p hp
    · exact hoffh a ha
  have kH : ∀ b o, b ∉ Wl.map (·.1) → b ∉ hid → s.heap.get? b = some o → (hideAll s.heap (Wl.map (·.1) ++ hid)).get? b = some o := fun b o hb hb2 e => hideAll_get _ e (fun m => (List.mem_append.mp m).elim hb hb2)
  have hs0 : s.heap.get? s.heap.objs.size = none := by
    cases q : s.heap.get? s.heap.objs.size with
    | none => rfl
    | some o => exact absurd (Heap.lt_size q) (Nat.lt_irrefl _)
  refine h (callEnv (fnOf name qual params body scope dV kV doc pm an cdv ct) s.heap.objs.size f) s.heap.objs.size (hideAll s.heap (Wl.map (·.1) ++ hid)) { s with heap := h₁, toks := s.toks + binds.length } _ ⟨hk, rfl, rfl, rfl, rfl, nn⟩ rfl rfl
    ⟨h₁, _, rfl, ?_, ln, fun b o e => hk₁ b o (of_hideAll _ e), fun p hp => ?_, nd, ?_, fun p hp => ⟨hideAll_none _ (List.mem_append_left _ (List.mem_map_of_mem hp)), ?_⟩⟩ (hG.keeps (hideAll_keep hsub hoff')) kH (fun a ha => hideAll_none _ (List.mem_append_right _ ha)) (fun b o e => hk₁ b o e) hs0 hr.deeper
  · have e : lk l = fun x => binds.reverse.lookup x := lk_binds hl ln
    rw [e]; exact hns
  · exact (hW p hp).at fun o e => hk₁ _ _ e
  · cases q : (hideAll s.heap (Wl.map (·.1) ++ hid)).get? s.heap.objs.size with
    | none => rfl
    | some o => rw [of_hideAll _ q] at hs0; cases hs0
  · obtain ⟨o, ho⟩ := (hW p hp).some
    exact Nat.ne_of_lt (Heap.lt_size ho)

theorem call_bodyF {f : Addr} {name qual : Str} {params : Arguments} {body : List Stmt} {scope : Scope} {dV kV doc pm cdv ct oc : Value} {an od : Option Addr} {osl : Array (Option Value)} {args : List Value} {kws : List (Str × Value)} {binds : List (Str × Value)} {Q : Value → Shared → Prop} {d u : Nat}
    (Wl : List (Addr × Cell)) (rest : List Str) (hid : List Addr)
    (hG : G w hb) (hsub : ∀ b o, hb.get? b = some o → s.heap.get? b = some o) (hoff : ∀ p ∈ Wl, hb.get? p.1 = none) (hoffh : ∀ a ∈ hid, hb.get? a = none) (hW : ∀ p ∈ Wl, CellAt s.heap p.1 p.2) (nd : (Wl.map (·.1)).Nodup)
    (hr : Room A (d + 1) (u + 3))
    (ho : (hx.heap_1 w.params).lookup f = some ⟨oc, od, .func (fnOf name qual params body scope dV kV doc pm an cdv ct), osl⟩) (hcd : codeIn (hx.heap_1 w.params) cdv qual = true)
    (hbind : BindsTo s (fnOf name qual params body scope dV kV doc pm an cdv ct) ⟨args, kws⟩ binds) (hcell : ∀ x ∈ scope.names, x.2 ≠ .cell) (hloc : ∀ x ∈ binds, scope.names.lookup x.1 = some .local)
    (hl : l = binds.map (fun p => (p.1, some p.2)) ++ rest.map fun x => (x, none)) (ln : (l.map (·.1)).Nodup) (nn : (scope.names.map (·.1)).Nodup)
    (h : ∀ env L h₀ s₁ A', EnvIs env scope.names L → env.frame = some L → A'.frames = A.frames.map (fun fs => env :: fs) → At s h₀ L l Wl s₁ → G w h₀ → (∀ b o, b ∉ Wl.map (·.1) → b ∉ hid → s.heap.get? b = some o → h₀.get? b = some o) →
      (∀ a ∈ hid, h₀.get? a = none) → (∀ b o, s.heap.get? b = some o → s₁.heap.get? b = some o) → s.heap.get? L = none → Room A' d u →
      wpAny (model P w) A' (execs body env) (fun fl s' => Q (match fl with | .ret v => v | _ => .none) s') (fun e s' => wpAny (model P w) A' (leaving env e) (fun _ s'' => E e s'') (fun e' s'' => E e' s'') s') s₁)
    (hco : scope.isCoroutine = false := by rfl) (hgen : scope.isGenerator = false := by rfl) (hk : scope.kind = .function := by rfl) :
    wpAny (model P w) A (call (.ref f) args kws) Q E s :=
  wpAny_call (code_bodyF Wl rest hid hG hsub hoff hoffh hW nd hr ho hcd hbind hcell hloc hl ln nn h hco hgen hk)

/-- a def of the text is entered -/
theorem call_body {f : Addr} {name qual : Str} {params : Arguments} {body : List Stmt} {scope : Scope} {dV kV doc pm cdv ct oc : Value} {an od : Option Addr} {osl : Array (Option Value)} {args : List Value} {kws : List (Str × Value)} {binds : List (Str × Value)} {Q : Value → Shared → Prop} {d u : Nat}
    (Wl : List (Addr × Cell)) (rest : List Str)
    (hG : G w hb) (hsub : ∀ b o, hb.get? b = some o → s.heap.get? b = some o) (hoff : ∀ p ∈ Wl, hb.get? p.1 = none) (hW : ∀ p ∈ Wl, CellAt s.heap p.1 p.2) (nd : (Wl.map (·.1)).Nodup)
    (hr : Room A (d + 1) (u + 3))
    (ho : (hx.heap_1 w.params).lookup f = some ⟨oc, od, .func (fnOf name qual params body scope dV kV doc pm an cdv ct), osl⟩) (hcd : codeIn (hx.heap_1 w.params) cdv qual = true)
    (hbind : BindsTo s (fnOf name qual params body scope dV kV doc pm an cdv ct) ⟨args, kws⟩ binds) (hcell : ∀ x ∈ scope.names, x.2 ≠ .cell) (hloc : ∀ x ∈ binds, scope.names.lookup x.1 = some .local)
    (hl : l = binds.map (fun p => (p.1, some p.2)) ++ rest.map fun x => (x, none)) (ln : (l.map (·.1)).Nodup) (nn : (scope.names.map (·.1)).Nodup)
    (h : ∀ env L h₀ s₁ A', EnvIs env scope.names L → At s h₀ L l Wl s₁ → G w h₀ → (∀ b o, b ∉ Wl.map (·.1) → s.heap.get? b = some o → h₀.get? b = some o) → Room A' d u →
      wpAny (model P w) A' (execs body env) (fun fl s' => Q (match fl with | .ret v => v | _ => .none) s') (fun _ _ => False) s₁)
    (hco : scope.isCoroutine = false := by rfl) (hgen : scope.isGenerator = false := by rfl) (hk : scope.kind = .function := by rfl) :
    wpAny (model P w) A (call (.ref f) args kws) Q E s :=
  call_bodyF Wl rest [] hG hsub hoff (fun _ h => nomatch h) hW nd hr ho hcd hbind hcell hloc hl ln nn
    (fun env L h₀ s₁ A' he _ _ hat hg hk _ _ _ hr' => wpAny_mono (h env L h₀ s₁ A' he hat hg (fun b o hb e => hk b o hb (fun m => nomatch m) e) hr') (fun _ _ q => q) fun _ _ q => q.elim) hco hgen hk

/-- Name(args): the def is called -/
theorem ev_call {x : Str} {p pos : Pos} {e : Expr} {rest : List Expr} {Q : Value → Shared → Prop} {f : Addr} {o : Obj} {fd : FuncData}
    (g : G w s.heap) (ho : (hx.heap_1 w.params).lookup f = some o) (hd : o.data = .func fd)
    (h : wpAny (model P w) A (eval (.Name x p) env) (fun v s₁ => v = .ref f ∧ s₁ = s) E s)
    (hc : wpAny (model P w) A (spliced (backTo pos (starEach (e :: rest) env))) (fun vs s₁ => Keeps s s₁ ∧ wpAny (model P w) A (call (.ref f) vs) Q E s₁) E s)
    (he : starEach (e :: rest) env = (false, eval e env) :: starEach rest env := by rfl) :
    wpAny (model P w) A (eval (.Call (.Name x p) (e :: rest) [] pos) env) Q E s := by
  refine Call_ (wpAny_mono h (fun v s₁ hv => ?_) fun _ _ z => z)
  obtain ⟨rfl, rfl⟩ := hv
  exact callWith_def hd (wpAny_mono hc (fun vs s₁ hs => ⟨keeps_get hs.1 (g.kin _ _ ho), hs.2⟩) fun _ _ z => z) he
end

section
variable {w : World} {A : Around} {E : Value → Shared → Prop} {s s₀ : Shared} {env : Env} {names : List (Str × NameKind)} {L : Addr} {h₀ hb : Heap} {l : List (Str × Option Value)} {W : List (Addr × Cell)}

theorem keeps_tok (s : Shared) (n : Nat) : Keeps s { s with toks := n } := ⟨s.heap, n, rfl, fun _ _ e => e⟩
theorem keeps_refl (s : Shared) : Keeps s s := ⟨s.heap, s.toks, rfl, fun _ _ e => e⟩
theorem keeps_trans {s₁ s₂ s₃ : Shared} (x : Keeps s₁ s₂) (y : Keeps s₂ s₃) : Keeps s₁ s₃ := by
  obtain ⟨h2, t2, rfl, k2⟩ := x
  obtain ⟨h3, t3, rfl, k3⟩ := y
  exact ⟨h3, t3, rfl, fun b o e => k3 b o (k2 b o e)⟩

/-- what comes behind a statement -/
noncomputable def Then (M : Model) (A : Around) (env : Env) (rest : List Stmt) (Q : Flow → Shared → Prop) (E : Value → Shared → Prop) : Flow → Shared → Prop
  | .next, s => wpAny M A (execs rest env) Q E s
  | f, s => Q f s
theorem x_cons {st : Stmt} {rest : List Stmt} {M : Model} {Q : Flow → Shared → Prop}
    (h : wpAny M A (exec st env) (Then M A env rest Q E) E s) : wpAny M A (execs (st :: rest) env) Q E s :=
  wpAny_execs_cons (wpAny_mono h (fun f s' q => by cases f <;> exact q) fun _ _ e => e)
theorem t_next {rest : List Stmt} {M : Model} {Q : Flow → Shared → Prop} (h : wpAny M A (execs rest env) Q E s) : Then M A env rest Q E .next s := h
theorem t_ret {rest : List Stmt} {M : Model} {Q : Flow → Shared → Prop} {v : Value} (h : Q (.ret v) s) : Then M A env rest Q E (.ret v) s := h
theorem t_brk {rest : List Stmt} {M : Model} {Q : Flow → Shared → Prop} (h : Q .brk s) : Then M A env rest Q E .brk s := h
theorem t_cont {rest : List Stmt} {M : Model} {Q : Flow → Shared → Prop} (h : Q .cont s) : Then M A env rest Q E .cont s := h
/-- both ways of a test -/
noncomputable def Ways (M : Model) (A : Around) (env : Env) (body orelse : List Stmt) (Q : Flow → Shared → Prop) (E : Value → Shared → Prop) (b : Bool) (s : Shared) : Prop :=
  if b then wpAny M A (execs body env) Q E s else wpAny M A (execs orelse env) Q E s
theorem w_tt {M : Model} {body orelse : List Stmt} {Q : Flow → Shared → Prop} {b : Bool} (hb : b = true) (h : wpAny M A (execs body env) Q E s) : Ways M A env body orelse Q E b s := by subst hb; exact h
theorem w_ff {M : Model} {body orelse : List Stmt} {Q : Flow → Shared → Prop} {b : Bool} (hb : b = false) (h : wpAny M A (execs orelse env) Q E s) : Ways M A env body orelse Q E b s := by subst hb; exact h
theorem w_split {M : Model} {body orelse : List Stmt} {Q : Flow → Shared → Prop} {b : Bool} (h1 : b = true → wpAny M A (execs body env) Q E s) (h2 : b = false → wpAny M A (execs orelse env) Q E s) : Ways M A env body orelse Q E b s := by
  cases b with
  | true => exact h1 rfl
  | false => exact h2 rfl
theorem x_nil {M : Model} {Q : Flow → Shared → Prop} (h : Q .next s) : wpAny M A (execs [] env) Q E s := wpAny_execs_nil h
theorem x_assign {M : Model} {x : Str} {p : Pos} {value : Expr} {pos : Pos} {Q : Flow → Shared → Prop} (hs : swapsWith value (some (.Name x p)) pos.line env = pure false)
    (h : wpAny M A (eval value env) (fun v s₁ => wpAny M A (storeName env x v) (fun _ => Q .next) E s₁) E s) : wpAny M A (exec (.Assign [.Name x p] value pos) env) Q E s := wpAny_Assign_Name h hs
theorem x_assignSub {M : Model} {o i : Expr} {p : Pos} {value : Expr} {pos : Pos} {Q : Flow → Shared → Prop} (hs : swapsWith value (some (.Subscript o i p)) pos.line env = pure false)
    (h : wpAny M A (eval value env) (fun v s₁ => wpAny M A (eval o env) (fun ov s₂ => wpAny M A (eval i env) (fun iv s₃ => wpAny M A (setItem ov iv v) (fun _ => Q .next) E s₃) E s₂) E s₁) E s) :
    wpAny M A (exec (.Assign [.Subscript o i p] value pos) env) Q E s := wpAny_Assign_Subscript h hs
theorem x_binop {M : Model} {op : Operator} {l r : Expr} {pos : Pos} {Q : Value → Shared → Prop}
    (h : wpAny M A (eval l env) (fun a s₁ => wpAny M A (eval r env) (fun b s₂ => wpAny M A (binaryOp op a b) Q E s₂) E s₁) E s) : wpAny M A (eval (.BinOp l op r pos) env) Q E s := wpAny_BinOp h
theorem x_cmp {M : Model} {op : CmpOp} {l r : Expr} {pos : Pos} {Q : Value → Shared → Prop} (hm : behindInMarks op r = false)
    (h : wpAny M A (eval l env) (fun a s₁ => wpAny M A (eval r env) (fun b s₂ => wpAny M A (compareOp op a b) Q E s₂) E s₁) E s) : wpAny M A (eval (.Compare l [op] [r] pos) env) Q E s := wpAny_Compare1 h hm
theorem x_tcmp {M : Model} {op : CmpOp} {l r : Expr} {pos : Pos} {whole : Sem Value} {Q : Bool → Shared → Prop} (hm : behindInMarks op r = false)
    (h : wpAny M A (eval l env) (fun a s₁ => wpAny M A (eval r env) (fun b s₂ => wpAny M A (compareOp op a b) (fun c s₃ => wpAny M A (truthy c) Q E s₃) E s₂) E s₁) E s) :
    wpAny M A (isTrue (.Compare l [op] [r] pos) env whole) Q E s := wpAny_isTrue_Compare1 h hm
theorem x_tnot {M : Model} {x : Expr} {pos : Pos} {whole : Sem Value} {Q : Bool → Shared → Prop} (h : wpAny M A (isTrue x env (eval x env)) (fun b s₁ => Q (!b) s₁) E s) : wpAny M A (isTrue (.UnaryOp .Not x pos) env whole) Q E s := wpAny_isTrue_Not h
theorem x_tbool {M : Model} {op : BoolOp} {values : List Expr} {pos : Pos} {whole : Sem Value} {Q : Bool → Shared → Prop} (h : wpAny M A (allTrue op values env) Q E s) : wpAny M A (isTrue (.BoolOp op values pos) env whole) Q E s := wpAny_isTrue_BoolOp h
theorem x_truthyB {M : Model} {b : Bool} {Q : Bool → Shared → Prop} (h : Q b s) : wpAny M A (truthy (.bool b)) Q E s := wpAny_truthy_bool h
theorem x_if {M : Model} {test : Expr} {body orelse : List Stmt} {pos : Pos} {Q : Flow → Shared → Prop}
    (h : wpAny M A (isTrue test env (eval test env)) (Ways M A env body orelse Q E) E s) : wpAny M A (exec (.If test body orelse pos) env) Q E s := wpAny_If h
theorem x_ret {M : Model} {e : Expr} {pos : Pos} {Q : Flow → Shared → Prop} (h : wpAny M A (eval e env) (fun v => Q (.ret v)) E s) : wpAny M A (exec (.Return (some e) pos) env) Q E s := wpAny_Return_some h
theorem x_cont {M : Model} {pos : Pos} {Q : Flow → Shared → Prop} (h : Q .cont s) : wpAny M A (exec (.Continue pos) env) Q E s := PySem.SiftDown.continue_ h
theorem x_brk {M : Model} {pos : Pos} {Q : Flow → Shared → Prop} (h : Q .brk s) : wpAny M A (exec (.Break pos) env) Q E s := PySem.SiftDown.break_ h
theorem x_sub {M : Model} {value slice : Expr} {pos : Pos} {Q : Value → Shared → Prop}
    (h : wpAny M A (eval value env) (fun o s₁ => wpAny M A (eval slice env) (fun i s₂ => wpAny M A (subscriptTail value slice o i) Q E s₂) E s₁) E s) : wpAny M A (eval (.Subscript value slice pos) env) Q E s := Subscript_ h

/-- a turn's end -/
noncomputable def LoopEnd (I : Nat → Shared → Prop) (n : Nat) (Q : Flow → Shared → Prop) : Flow → Shared → Prop
  | .next, s => ∃ m, m < n ∧ I m s
  | .cont, s => ∃ m, m < n ∧ I m s
  | .brk, s => Q .next s
  | .ret v, s => Q (.ret v) s
noncomputable def Turn (M : Model) (A : Around) (env : Env) (body : List Stmt) (I : Nat → Shared → Prop) (n : Nat) (Q : Flow → Shared → Prop) (E : Value → Shared → Prop) (b : Bool) (s : Shared) : Prop :=
  if b then wpAny M A (execs body env) (LoopEnd I n Q) E s else Q .next s
theorem u_tt {M : Model} {body : List Stmt} {I : Nat → Shared → Prop} {n : Nat} {Q : Flow → Shared → Prop} {b : Bool} (hb : b = true) (h : wpAny M A (execs body env) (LoopEnd I n Q) E s) : Turn M A env body I n Q E b s := by subst hb; exact h
theorem u_ff {M : Model} {body : List Stmt} {I : Nat → Shared → Prop} {n : Nat} {Q : Flow → Shared → Prop} {b : Bool} (hb : b = false) (h : Q .next s) : Turn M A env body I n Q E b s := by subst hb; exact h
theorem u_split {M : Model} {body : List Stmt} {I : Nat → Shared → Prop} {n : Nat} {Q : Flow → Shared → Prop} {b : Bool} (h1 : b = true → wpAny M A (execs body env) (LoopEnd I n Q) E s) (h2 : b = false → Q .next s) : Turn M A env body I n Q E b s := by
  cases b with
  | true => exact h1 rfl
  | false => exact h2 rfl
theorem l_next {I : Nat → Shared → Prop} {n : Nat} {Q : Flow → Shared → Prop} (m : Nat) (hm : m < n) (h : I m s) : LoopEnd I n Q .next s := ⟨m, hm, h⟩
theorem l_cont {I : Nat → Shared → Prop} {n : Nat} {Q : Flow → Shared → Prop} (m : Nat) (hm : m < n) (h : I m s) : LoopEnd I n Q .cont s := ⟨m, hm, h⟩
theorem l_brk {I : Nat → Shared → Prop} {n : Nat} {Q : Flow → Shared → Prop} (h : Q .next s) : LoopEnd I n Q .brk s := h
theorem l_ret {I : Nat → Shared → Prop} {n : Nat} {Q : Flow → Shared → Prop} {v : Value} (h : Q (.ret v) s) : LoopEnd I n Q (.ret v) s := h

/-- a while: an invariant with a measure -/
theorem x_while {test : Expr} {body : List Stmt} {pos : Pos} {Q : Flow → Shared → Prop} (I : Nat → Shared → Prop) (n : Nat) (h : I n s)
    (turn : ∀ n s E, I n s → wpAny (model P w) A (isTrue test env (eval test env)) (Turn (model P w) A env body I n Q E) E s) :
    wpAny (model P w) A (exec (.While test body [] pos) env) Q E s := by
  refine wpAny_While (codeAny_whileLoop I (fun n s hI => ?_) n h)
  refine wpAny_mono (turn n s _ hI) (fun b s₂ hb => ?_) fun _ _ e => e
  cases b with
  | true =>
    refine wpAny_mono (show wpAny _ _ _ (LoopEnd I n Q) _ s₂ from hb) (fun f s₃ hf => ?_) fun _ _ e => e
    cases f <;> exact hf
  | false => exact wpAny_execs_nil hb

theorem k_int {M : Model} {i : Int} {k : Nat} {pos : Pos} {Q : Value → Shared → Prop} (h : ∀ t s', Keeps s s' → Q (.int i t) s') : wpAny M A (eval (.Constant (.int i) k pos) env) Q E s :=
  wpAny_Constant_int (h _ _ (keeps_tok s _))
theorem k_sub {a b : Int} {t u : Tok} {Q : Value → Shared → Prop} (h : ∀ t s', Keeps s s' → Q (.int (a - b) t) s') : wpAny (model P w) A (binaryOp .Sub (.int a t) (.int b u)) Q E s :=
  PyProof.Rows.sub_int (h _ _ (keeps_tok s _))
theorem k_add {a b : Int} {t u : Tok} {Q : Value → Shared → Prop} (h : ∀ t s', Keeps s s' → Q (.int (a + b) t) s') : wpAny (model P w) A (binaryOp .Add (.int a t) (.int b u)) Q E s :=
  PyProof.Rows.add_int (h _ _ (keeps_tok s _))
theorem k_shr {a n : Int} {t u : Tok} {Q : Value → Shared → Prop} (hn : 0 ≤ n) (h : ∀ t s', Keeps s s' → Q (.int (a.fdiv (2 ^ n.toNat)) t) s') : wpAny (model P w) A (binaryOp .RShift (.int a t) (.int n u)) Q E s :=
  PyProof.Rows.rshift_int hn (h _ _ (keeps_tok s _))

theorem c_gt {a b : Int} {t u : Tok} {Q : Value → Shared → Prop} (h : Q (.bool (decide (b < a))) s) : wpAny (model P w) A (compareOp .Gt (.int a t) (.int b u)) Q E s := PyProof.Rows.gt_int h
theorem c_lt {a b : Int} {t u : Tok} {Q : Value → Shared → Prop} (h : Q (.bool (decide (a < b))) s) : wpAny (model P w) A (compareOp .Lt (.int a t) (.int b u)) Q E s := PyProof.Rows.lt_int h

/-- an item of a list of the frame's own, at p -/
theorem sub_own {value slice : Expr} {b : Addr} {xs : List Value} {p : Nat} {k : Int} {t : Tok} {v : Value} {Q : Value → Shared → Prop} (a : At s₀ h₀ L l W s) (hi : (b, Cell.list xs) ∈ W) (hk : k = (p : Int)) (hx : xs[p]? = some v) (hp : p < 2 ^ 63)
    (hs : subscripted slice false (.ref b) (.int k t) = operate [.ref b, .int k t] (getItem (.ref b) (.int k t))) (ht : ∀ r, letTemporaryGo value (.ref b) r = pure ()) (h : Q v s) :
    wpAny (model P w) A (subscriptTail value slice (.ref b) (.int k t)) Q E s := by
  subst hk
  have hl : s.heap.IsList b xs.toArray := (a.fs.own _ hi).isList
  exact subscriptTail_builtin hl.typeIs slot_list_getitem.lookup (wpAny_getItem_list hl (by lia) (by lia) (by simpa using hx) h) hs ht

theorem setItem_plain {b : Addr} {xs : List Value} {p : Nat} {k : Int} {t : Tok} {v : Value} {Q : Unit → Shared → Prop} (hl : s.heap.PlainList b xs.toArray) (hk : k = (p : Int)) (hp : p < xs.length) (hp2 : p < 2 ^ 63)
    (hQ : ∀ h', h'.PlainList b (xs.set p v).toArray → Heap.SameBut b s.heap h' → Q () { s with heap := h' }) : wpAny (model P w) A (setItem (.ref b) (.int k t) v) Q E s := by
  obtain ⟨n, ho⟩ := hl
  have hT : s.TypeIs (.ref b) "list" := ⟨_, ho, rfl⟩
  unfold setItem
  try with_reducible refine wpAny_holding ?_
  first | refine wpAny_bind (wpAny_pure ?_) | skip
  refine wpAny_bind (wpAny_sequenceKey hT (by decide) ?_)
  refine wpAny_bind (wpAny_callSpecial?_slot (name := Str.ofString "__setitem__") hT slot_list_setitem
    (wpAny_call_entry slot_list_setitem hT entry_list_setitem ?_ (args_list_setitem _ _ _)))
  show wpAny _ _ (Builtin.List.listSubscript? (.int k t) >>= _) _ _ s
  refine wpAny_bind (wpAny_listSubscript_int (fitsIndex_of (by lia) (by lia)) ?_)
  subst hk
  have hx' : xs.toArray[p]? = some xs[p] := by simp [hp]
  show wpAny _ _ ((seqItemAt b p >>= fun r => pure (r.map (p, ·))) >>= _) _ _ s
  refine wpAny_bind (wpAny_bind (wpAny_seqItemAt ho rfl (wpAny_pure ?_)))
  rw [hx']
  show wpAny _ _ (setSeqItemAt b p v >>= _) _ _ s
  have hm : Obj.mapSeq (·.setIfInBounds p v) { cls := .type "list", data := .seq xs.toArray n } = { cls := .type "list", data := .seq (xs.set p v).toArray n } := by simp [Obj.mapSeq]
  have hfin : (s.heap.update b (Obj.mapSeq (·.setIfInBounds p v))).PlainList b (xs.set p v).toArray := ⟨n, by rw [Heap.get?_update_self _ ho (by rw [hm]; rfl), hm]⟩
  refine wpAny_bind (wpAny_setSeqItemAt ho rfl ?_)
  first
    | exact wpAny_bind (wpAny_pure (wpAny_pure ⟨.none, rfl, wpAny_pure (hQ _ hfin (Heap.SameBut.update ..))⟩))
    | exact wpAny_pure ⟨.none, rfl, wpAny_pure (hQ _ hfin (Heap.SameBut.update ..))⟩

theorem set_own {b : Addr} {xs : List Value} {p : Nat} {k : Int} {t : Tok} {v : Value} {i : Nat} {Q : Unit → Shared → Prop} (a : At s₀ h₀ L l W s) (hi : W[i]? = some (b, Cell.list xs)) (hk : k = (p : Int)) (hp : p < xs.length) (hp2 : p < 2 ^ 63)
    (h : ∀ s', At s₀ h₀ L l (W.set i (b, Cell.list (xs.set p v))) s' → Q () s') : wpAny (model P w) A (setItem (.ref b) (.int k t) v) Q E s := by
  exact setItem_plain (a.wlist hi) hk hp hp2 (fun h' hl' hs' => h _ (a.change hi ⟨h', s.toks, rfl, fun c o hc e => hs'.extBut c o (by simpa using hc) e⟩ hl'))
end

theorem gn_wall (w : World) : GName w "_wall" (.ref 38) := .inl (by k_is)
theorem gn_filterfalse (w : World) : GName w "filterfalse" (.ref 71) := .inl (by k_is)
theorem gn_filter (w : World) : GName w "_filter" (.ref 82) := .inl (by k_is)
theorem gn_twin_re_1 (w : World) : GName w "_twin_re_1" (.ref 87) := .inl (by k_is)
theorem gn_bytes_types (w : World) : GName w "bytes_types" (.ref 88) := .inl (by k_is)
theorem gn_bytes_from_decode_data (w : World) : GName w "_bytes_from_decode_data" (.ref 95) := .inl (by k_is)
theorem gn_ascii_buffer (w : World) : GName w "_ascii_buffer" (.ref 115) := .inl (by k_is)
theorem gn_buffer (w : World) : GName w "_buffer" (.ref 122) := .inl (by k_is)
theorem gn_truth (w : World) : GName w "_truth" (.ref 129) := .inl (by k_is)
theorem gn_b64_value (w : World) : GName w "_b64_value" (.ref 136) := .inl (by k_is)
theorem gn_a2b_base64 (w : World) : GName w "a2b_base64" (.ref 144) := .inl (by k_is)
theorem gn_b2a_base64 (w : World) : GName w "b2a_base64" (.ref 152) := .inl (by k_is)
theorem gn_NO_SEP (w : World) : GName w "_NO_SEP" (.ref 153) := .inl (by k_is)
theorem gn_b2a_hex (w : World) : GName w "b2a_hex" (.ref 161) := .inl (by k_is)
theorem gn_hexlify (w : World) : GName w "hexlify" (.ref 161) := .inl (by k_is)
theorem gn_hex_value (w : World) : GName w "_hex_value" (.ref 168) := .inl (by k_is)
theorem gn_a2b_hex (w : World) : GName w "a2b_hex" (.ref 175) := .inl (by k_is)
theorem gn_unhexlify (w : World) : GName w "unhexlify" (.ref 175) := .inl (by k_is)
theorem gn_b64encode (w : World) : GName w "b64encode" (.ref 183) := .inl (by k_is)
theorem gn_b64decode (w : World) : GName w "b64decode" (.ref 191) := .inl (by k_is)
theorem gn_b16encode (w : World) : GName w "b16encode" (.ref 198) := .inl (by k_is)
theorem gn_b16decode (w : World) : GName w "b16decode" (.ref 206) := .inl (by k_is)
theorem gn_heappop (w : World) : GName w "heappop" (.ref 213) := .inl (by k_is)
theorem gn_heapreplace (w : World) : GName w "heapreplace" (.ref 220) := .inl (by k_is)
theorem gn_heapify (w : World) : GName w "heapify" (.ref 227) := .inl (by k_is)
theorem gn_heapreplace_max (w : World) : GName w "_heapreplace_max" (.ref 234) := .inl (by k_is)
theorem gn_heapify_max (w : World) : GName w "_heapify_max" (.ref 241) := .inl (by k_is)
theorem gn_siftdown (w : World) : GName w "_siftdown" (.ref 248) := .inl (by k_is)
theorem gn_siftup (w : World) : GName w "_siftup" (.ref 255) := .inl (by k_is)
theorem gn_siftdown_max (w : World) : GName w "_siftdown_max" (.ref 262) := .inl (by k_is)
theorem gn_siftup_max (w : World) : GName w "_siftup_max" (.ref 269) := .inl (by k_is)
theorem gn_nsmallest (w : World) : GName w "nsmallest" (.ref 275) := .inl (by k_is)
theorem gn_nlargest (w : World) : GName w "nlargest" (.ref 281) := .inl (by k_is)
theorem gn_law_octets (w : World) : GName w "_law_octets" (.ref 286) := .inl (by k_is)
theorem gn_law_b64 (w : World) : GName w "_law_b64" (.ref 291) := .inl (by k_is)
theorem gn_law_figures (w : World) : GName w "_law_figures" (.ref 296) := .inl (by k_is)
theorem gn_law_parted (w : World) : GName w "_law_parted" (.ref 301) := .inl (by k_is)
theorem gn_len (w : World) : GName w "len" (.builtin "len") := .inr ⟨by k_is, by kernel_rfl, by decide⟩
theorem gn_sorted (w : World) : GName w "sorted" (.builtin "sorted") := .inr ⟨by k_is, by kernel_rfl, by decide⟩
theorem gn_sum (w : World) : GName w "sum" (.builtin "sum") := .inr ⟨by k_is, by kernel_rfl, by decide⟩
theorem gn_iter (w : World) : GName w "iter" (.builtin "iter") := .inr ⟨by k_is, by kernel_rfl, by decide⟩
theorem gn_next (w : World) : GName w "next" (.builtin "next") := .inr ⟨by k_is, by kernel_rfl, by decide⟩
theorem gn_isinstance (w : World) : GName w "isinstance" (.builtin "isinstance") := .inr ⟨by k_is, by kernel_rfl, by decide⟩
theorem gn_range (w : World) : GName w "range" (.type "range") := .inr ⟨by k_is, by kernel_rfl, by decide⟩
theorem gn_list (w : World) : GName w "list" (.type "list") := .inr ⟨by k_is, by kernel_rfl, by decide⟩
theorem gn_bytes (w : World) : GName w "bytes" (.type "bytes") := .inr ⟨by k_is, by kernel_rfl, by decide⟩
theorem gn_str (w : World) : GName w "str" (.type "str") := .inr ⟨by k_is, by kernel_rfl, by decide⟩
theorem gn_type (w : World) : GName w "type" (.type "type") := .inr ⟨by k_is, by kernel_rfl, by decide⟩
theorem gn_bool (w : World) : GName w "bool" (.type "bool") := .inr ⟨by k_is, by kernel_rfl, by decide⟩
theorem gn_int (w : World) : GName w "int" (.type "int") := .inr ⟨by k_is, by kernel_rfl, by decide⟩
theorem gn_float (w : World) : GName w "float" (.type "float") := .inr ⟨by k_is, by kernel_rfl, by decide⟩
theorem gn_complex (w : World) : GName w "complex" (.type "complex") := .inr ⟨by k_is, by kernel_rfl, by decide⟩
theorem gn_bytearray (w : World) : GName w "bytearray" (.type "bytearray") := .inr ⟨by k_is, by kernel_rfl, by decide⟩
theorem gn_tuple (w : World) : GName w "tuple" (.type "tuple") := .inr ⟨by k_is, by kernel_rfl, by decide⟩
theorem gn_dict (w : World) : GName w "dict" (.type "dict") := .inr ⟨by k_is, by kernel_rfl, by decide⟩
theorem gn_set (w : World) : GName w "set" (.type "set") := .inr ⟨by k_is, by kernel_rfl, by decide⟩
theorem gn_frozenset (w : World) : GName w "frozenset" (.type "frozenset") := .inr ⟨by k_is, by kernel_rfl, by decide⟩
theorem gn_zip (w : World) : GName w "zip" (.type "zip") := .inr ⟨by k_is, by kernel_rfl, by decide⟩
theorem gn_reversed (w : World) : GName w "reversed" (.type "reversed") := .inr ⟨by k_is, by kernel_rfl, by decide⟩
theorem gn_object (w : World) : GName w "object" (.type "object") := .inr ⟨by k_is, by kernel_rfl, by decide⟩

section
variable {w : World} {A : Around} {E : Value → Shared → Prop} {s s₀ : Shared} {env : Env} {names : List (Str × NameKind)} {L : Addr} {h₀ hb : Heap} {l : List (Str × Option Value)} {W : List (Addr × Cell)}

/-- the rest of an «and», of an «or» -/
noncomputable def AndThen (M : Model) (A : Around) (env : Env) (rest : List Expr) (Q : Bool → Shared → Prop) (E : Value → Shared → Prop) (b : Bool) (s : Shared) : Prop := if b then wpAny M A (allTrue .And rest env) Q E s else Q false s
noncomputable def OrElse (M : Model) (A : Around) (env : Env) (rest : List Expr) (Q : Bool → Shared → Prop) (E : Value → Shared → Prop) (b : Bool) (s : Shared) : Prop := if b then Q true s else wpAny M A (allTrue .Or rest env) Q E s
theorem x_and {M : Model} {x : Expr} {rest : List Expr} {Q : Bool → Shared → Prop} (h : wpAny M A (isTrue x env (eval x env)) (AndThen M A env rest Q E) E s) : wpAny M A (allTrue .And (x :: rest) env) Q E s := wpAny_allTrue_And_cons h
theorem x_or {M : Model} {x : Expr} {rest : List Expr} {Q : Bool → Shared → Prop} (h : wpAny M A (isTrue x env (eval x env)) (OrElse M A env rest Q E) E s) : wpAny M A (allTrue .Or (x :: rest) env) Q E s := wpAny_allTrue_Or_cons h
theorem x_and0 {M : Model} {Q : Bool → Shared → Prop} (h : Q true s) : wpAny M A (allTrue .And [] env) Q E s := wpAny_allTrue_And_nil h
theorem x_or0 {M : Model} {Q : Bool → Shared → Prop} (h : Q false s) : wpAny M A (allTrue .Or [] env) Q E s := wpAny_allTrue_Or_nil h
theorem a_tt {M : Model} {rest : List Expr} {Q : Bool → Shared → Prop} {b : Bool} (hb : b = true) (h : wpAny M A (allTrue .And rest env) Q E s) : AndThen M A env rest Q E b s := by subst hb; exact h
theorem a_ff {M : Model} {rest : List Expr} {Q : Bool → Shared → Prop} {b : Bool} (hb : b = false) (h : Q false s) : AndThen M A env rest Q E b s := by subst hb; exact h
theorem a_split {M : Model} {rest : List Expr} {Q : Bool → Shared → Prop} {b : Bool} (h1 : b = true → wpAny M A (allTrue .And rest env) Q E s) (h2 : b = false → Q false s) : AndThen M A env rest Q E b s := by
  cases b with
  | true => exact h1 rfl
  | false => exact h2 rfl
theorem o_tt {M : Model} {rest : List Expr} {Q : Bool → Shared → Prop} {b : Bool} (hb : b = true) (h : Q true s) : OrElse M A env rest Q E b s := by subst hb; exact h
theorem o_ff {M : Model} {rest : List Expr} {Q : Bool → Shared → Prop} {b : Bool} (hb : b = false) (h : wpAny M A (allTrue .Or rest env) Q E s) : OrElse M A env rest Q E b s := by subst hb; exact h

/-- a statement whose ways meet -/
theorem x_join {M : Model} {st : Stmt} {Q : Flow → Shared → Prop} (J : Shared → Prop) (h1 : wpAny M A (exec st env) (fun f s' => f = .next ∧ J s') E s) (h2 : ∀ s', J s' → Q .next s') : wpAny M A (exec st env) Q E s :=
  wpAny_mono h1 (fun f s' q => by obtain ⟨rfl, j⟩ := q; exact h2 _ j) fun _ _ e => e

theorem x_expr {e : Expr} {pos : Pos} {Q : Flow → Shared → Prop} (hi : env.scope.kind = .function) (hs : swapsWith e none pos.line env = pure false) (h : wpAny (model P w) A (eval e env) (fun _ => Q .next) E s) : wpAny (model P w) A (exec (.Expr e pos) env) Q E s :=
  wpAny_Expr_any h (by unfold interactive; rw [hi]; rfl) hs

theorem x_args0 {M : Model} {pos : Pos} {Q : List Value → Shared → Prop} (h : Q [] s) : wpAny M A (spliced (backTo pos (starEach [] env))) Q E s := wpAny_items_nil h
theorem x_args {M : Model} {pos : Pos} {e : Expr} {rest : List Expr} {Q : List Value → Shared → Prop} (he : starEach (e :: rest) env = (false, eval e env) :: starEach rest env)
    (h : wpAny M A (eval e env) (fun v s₁ => wpAny M A (spliced (backTo pos (starEach rest env))) (fun vs s₂ => Q (v :: vs) s₂) E s₁) E s) : wpAny M A (spliced (backTo pos (starEach (e :: rest) env))) Q E s := wpAny_items_cons h he

/-- Name(args): first the callee -/
theorem x_call {M : Model} {x : Str} {p pos : Pos} {args : List Expr} {Q : Value → Shared → Prop}
    (h : wpAny M A (eval (.Name x p) env) (fun f s₁ => wpAny M A (callWith pos f [] (backTo pos (starEach args env)) []) Q E s₁) E s) : wpAny M A (eval (.Call (.Name x p) args [] pos) env) Q E s := Call_ h

theorem cw_def {pos : Pos} {f : Addr} {o : Obj} {fd : FuncData} {e : Expr} {rest : List Expr} {Q : Value → Shared → Prop} (ho : (hx.heap_1 w.params).lookup f = some o) (hd : o.data = .func fd)
    (he : starEach (e :: rest) env = (false, eval e env) :: starEach rest env)
    (h : wpAny (model P w) A (spliced (backTo pos (starEach (e :: rest) env))) (fun vs s₁ => G w s₁.heap ∧ wpAny (model P w) A (call (.ref f) vs) Q E s₁) E s) :
    wpAny (model P w) A (callWith pos (.ref f) [] (backTo pos (starEach (e :: rest) env)) []) Q E s :=
  callWith_def hd (wpAny_mono h (fun _ _ q => ⟨q.1.kin _ _ ho, q.2⟩) fun _ _ z => z) he

theorem cw_builtin {M : Model} {pos : Pos} {id : String} {e : Expr} {rest : List Expr} {Q : Value → Shared → Prop} (he : starEach (e :: rest) env = (false, eval e env) :: starEach rest env)
    (hplain : (backTo pos (starEach rest env)).any (·.1) = false)
    (h : wpAny M A (spliced (backTo pos (starEach (e :: rest) env))) (fun vs s₁ => wpAny M A (call (.builtin id) vs) Q E s₁) E s) :
    wpAny M A (callWith pos (.builtin id) [] (backTo pos (starEach (e :: rest) env)) []) Q E s := callWith_builtin1 h he hplain

theorem G.of_at (g : G w h₀) (a : At s₀ h₀ L l W s) : G w s.heap := g.keeps a.fs.keep

theorem k_len {b : Addr} {xs : List Value} {Q : Value → Shared → Prop} (hl : s.heap.IsList b xs.toArray) (hfit : xs.length < 2 ^ 62) (h : ∀ t s', Keeps s s' → Q (.int xs.length t) s') : wpAny (model P w) A (call (.builtin "len") [.ref b]) Q E s := by
  refine PySem.Calls.call_len_list hl (by simp; lia) ?_
  have := h (s.toks + 1) _ (keeps_tok s (s.toks + 1 + 1))
  simpa using this

theorem k_mul2 {b : Int} {t u : Tok} {Q : Value → Shared → Prop} (h : ∀ t s', Keeps s s' → Q (.int (2 * b) t) s') : wpAny (model P w) A (binaryOp .Mult (.int 2 t) (.int b u)) Q E s :=
  PyProof.Rows.mul_int (h _ _ (keeps_tok s _)) (PySem.IntMulOk.of_left (by decide))
theorem k_or {a b : Int} {t u : Tok} {Q : Value → Shared → Prop} (h : ∀ t s', Keeps s s' → Q (.int (Builtin.bitOr a b) t) s') : wpAny (model P w) A (binaryOp .BitOr (.int a t) (.int b u)) Q E s := PyProof.Rows.or_int (h _ _ (keeps_tok s _))
theorem k_and {a b : Int} {t u : Tok} {Q : Value → Shared → Prop} (h : ∀ t s', Keeps s s' → Q (.int (Builtin.bitAnd a b) t) s') : wpAny (model P w) A (binaryOp .BitAnd (.int a t) (.int b u)) Q E s := PyProof.Rows.and_int (h _ _ (keeps_tok s _))
theorem k_shl {a n : Int} {t u : Tok} {Q : Value → Shared → Prop} (hn : 0 ≤ n) (hn2 : n ≤ 1000000) (ha : a.natAbs < 2 ^ 64) (h : ∀ t s', Keeps s s' → Q (.int (a * 2 ^ n.toNat) t) s') : wpAny (model P w) A (binaryOp .LShift (.int a t) (.int n u)) Q E s :=
  PyProof.Rows.lshift_int_small hn hn2 ha (h _ _ (keeps_tok s _))
theorem c_le {a b : Int} {t u : Tok} {Q : Value → Shared → Prop} (h : Q (.bool (decide (a ≤ b))) s) : wpAny (model P w) A (compareOp .LtE (.int a t) (.int b u)) Q E s := PyProof.Rows.le_int h
theorem c_ge {a b : Int} {t u : Tok} {Q : Value → Shared → Prop} (h : Q (.bool (decide (b ≤ a))) s) : wpAny (model P w) A (compareOp .GtE (.int a t) (.int b u)) Q E s := PyProof.Rows.ge_int h
theorem c_eq {a b : Int} {t u : Tok} {Q : Value → Shared → Prop} (h : Q (.bool (a == b)) s) : wpAny (model P w) A (compareOp .Eq (.int a t) (.int b u)) Q E s := PyProof.Rows.eq_int h
theorem c_ne {a b : Int} {t u : Tok} {Q : Value → Shared → Prop} (h : Q (.bool (a != b)) s) : wpAny (model P w) A (compareOp .NotEq (.int a t) (.int b u)) Q E s := PyProof.Rows.ne_int h

theorem At.keepsN (a : At s₀ h₀ L l W s) : ∀ b o, h₀.get? b = some o → s.heap.get? b = some o := a.fs.keep
end

section
variable {w : World} {A : Around} {E : Value → Shared → Prop} {s s₀ : Shared} {env : Env} {names : List (Str × NameKind)} {L : Addr} {h₀ hb : Heap} {l : List (Str × Option Value)} {W : List (Addr × Cell)}

theorem At.cell (a : At s₀ h₀ L l W s) {b : Addr} {c : Cell} (h : (b, c) ∈ W) : CellAt s.heap b c := a.fs.own _ h

theorem At.tail {p : Addr × Cell} (a : At s₀ h₀ L l (p :: W) s) : At s₀ h₀ L l W s := by
  obtain ⟨hp, tk, rfl, f⟩ := a
  exact ⟨hp, tk, rfl, f.ns, f.ln, f.keep, fun p hp => f.own p (List.mem_cons_of_mem _ hp), (List.nodup_cons.mp f.nd).2, f.newL, fun p hp => f.newW p (List.mem_cons_of_mem _ hp)⟩

theorem At.shrink {h₁ : Heap} (k : ∀ b o, h₀.get? b = some o → h₁.get? b = some o) (a : At s₀ h₁ L l W s) : At s₀ h₀ L l W s := by
  obtain ⟨hp, tk, rfl, f⟩ := a
  have nn : ∀ b, h₁.get? b = none → h₀.get? b = none := fun b e => by
    cases q : h₀.get? b with
    | none => rfl
    | some o => rw [k b o q] at e; cases e
  exact ⟨hp, tk, rfl, f.ns, f.ln, fun b o e => f.keep b o (k b o e), f.own, f.nd, nn _ f.newL, fun p hp => ⟨nn _ (f.newW p hp).1, (f.newW p hp).2⟩⟩

/-- a witness with three or five properties, taken at once -/
inductive ExA3 {α : Type} (p q r : α → Prop) : Prop
  | mk (x : α) : p x → q x → r x → ExA3 p q r
inductive ExA5 {α : Type} (p q r s t : α → Prop) : Prop
  | mk (x : α) : p x → q x → r x → s x → t x → ExA5 p q r s t
/-- all that is not the frame's own becomes part of what is kept -/
theorem At.rebase (a : At s₀ h₀ L l W s) : ExA3 (fun h₁ => ∀ b o, h₀.get? b = some o → h₁.get? b = some o) (fun h₁ => At s₀ h₁ L l W s) (fun h₁ => ∀ b o, b ≠ L → b ∉ W.map (·.1) → s.heap.get? b = some o → h₁.get? b = some o) := by
  obtain ⟨hp, tk, rfl, f⟩ := a
  have hoff : ∀ a ∈ L :: W.map (·.1), h₀.get? a = none := fun a ha => by
    rcases List.mem_cons.mp ha with rfl | ha
    · exact f.newL
    · obtain ⟨p, hp, rfl⟩ := List.mem_map.mp ha; exact (f.newW p hp).1
  refine ⟨hideAll hp (L :: W.map (·.1)), hideAll_keep f.keep hoff, ⟨hp, tk, rfl, f.ns, f.ln, fun b o e => of_hideAll _ e, f.own, f.nd, hideAll_none _ List.mem_cons_self, fun p hp => ⟨hideAll_none _ (List.mem_cons_of_mem _ (List.mem_map_of_mem hp)), (f.newW p hp).2⟩⟩, fun b o h1 h2 e => hideAll_get _ e (by simp only [List.mem_cons, not_or]; exact ⟨h1, h2⟩)⟩

theorem At.keptBut (a : At s₀ h₀ L l W s) {bs : List Addr} {s' : Shared} (k : KeepsBut bs s s') (h1 : ∀ b ∈ bs, h₀.get? b = none) (h2 : L ∉ bs) (h3 : ∀ p ∈ W, p.1 ∉ bs) : At s₀ h₀ L l W s' := by
  obtain ⟨hp, tk, rfl, f⟩ := a
  obtain ⟨h', tk', rfl, k⟩ := k
  refine ⟨h', tk', rfl, ?_, f.ln, fun b o q => k b o (fun m => by rw [h1 b m] at q; cases q) (f.keep b o q), fun p hp => (f.own p hp).at fun o e => k _ o (h3 p hp) e, f.nd, f.newL, f.newW⟩
  obtain ⟨o, es, ep, ho, r⟩ := f.ns
  exact ⟨o, es, ep, k _ _ h2 ho, r⟩

/-- a list that is new to the frame becomes its own -/
theorem At.add (a : At s₀ h₀ L l W s) {b : Addr} {xs : Cell} (hl : CellAt s.heap b xs) (h0 : h₀.get? b = none) (hL : b ≠ L) (hW : b ∉ W.map (·.1)) : At s₀ h₀ L l ((b, xs) :: W) s := by
  obtain ⟨hp, tk, rfl, f⟩ := a
  refine ⟨hp, tk, rfl, f.ns, f.ln, f.keep, fun p hp => ?_, by rw [List.map_cons]; exact List.nodup_cons.mpr ⟨hW, f.nd⟩, f.newL, fun p hp => ?_⟩
  · rcases List.mem_cons.mp hp with rfl | hp
    · exact hl
    · exact f.own p hp
  · rcases List.mem_cons.mp hp with rfl | hp
    · exact ⟨h0, hL⟩
    · exact f.newW p hp

/-- what is new in the heap is none of the frame's -/
theorem At.fresh (a : At s₀ h₀ L l W s) {b : Addr} (hb : s.heap.get? b = none) : h₀.get? b = none ∧ b ≠ L ∧ b ∉ W.map (·.1) := by
  obtain ⟨hp, tk, rfl, f⟩ := a
  refine ⟨?_, ?_, ?_⟩
  · cases q : h₀.get? b with
    | none => rfl
    | some o => have := f.keep b o q; rw [show hp.get? b = none from hb] at this; cases this
  · rintro rfl
    obtain ⟨o, es, ep, ho, r⟩ := f.ns
    rw [show hp.get? b = none from hb] at ho; cases ho
  · intro m
    obtain ⟨p, hp', rfl⟩ := List.mem_map.mp m
    obtain ⟨n, ho⟩ := (f.own p hp').some
    rw [show hp.get? p.1 = none from hb] at ho; cases ho

theorem get?_size_none (h : Heap) : h.get? h.objs.size = none := by
  cases q : h.get? h.objs.size with
  | none => rfl
  | some o => exact absurd (Heap.lt_size q) (Nat.lt_irrefl _)

theorem x_tval {M : Model} {e : Expr} {whole : Sem Value} {Q : Bool → Shared → Prop} (h : wpAny M A whole (fun v s₁ => wpAny M A (truthy v) Q E s₁) E s)
    (hp : isTrue e env whole = (do let v ← whole; standAt e.pos; holding [v] (truthy v)) := by rfl) : wpAny M A (isTrue e env whole) Q E s := wpAny_isTrue_value h hp

theorem k_truthyL {b : Addr} {xs : List Value} {Q : Bool → Shared → Prop} (hl : s.heap.IsList b xs.toArray) (hfit : xs.length < 2 ^ 62) (h : ∀ s', Keeps s s' → Q (!xs.isEmpty) s') : wpAny (model P w) A (truthy (.ref b)) Q E s := by
  refine wpAny_truthy_list hl (by simp; lia) ?_
  have := h _ (keeps_tok s (s.toks + 1 + 1))
  simpa using this

/-- o.name(args) -/
theorem x_meth {M : Model} {o : Expr} {name : Str} {apos pos : Pos} {args : List Expr} {pl : Sem Bool} {Q : Value → Shared → Prop}
    (he : eval (.Call (.Attribute o name apos) args [] pos) env = (do
      let ov ← eval o env
      standAt apos.atName
      let (f, first) ← holding [ov] (getMethod ov name pl)
      callWith pos f first (backTo pos (starEach args env)) []))
    (h : wpAny M A (eval o env) (fun ov s₁ => wpAny M A (getMethod ov name pl) (fun fx s₂ => wpAny M A (callWith pos fx.1 fx.2 (backTo pos (starEach args env)) []) Q E s₂) E s₁) E s) :
    wpAny M A (eval (.Call (.Attribute o name apos) args [] pos) env) Q E s := PyProof.Rows.MethodCall_ h he

theorem gm_list {M : Model} {b : Addr} {xs : Array Value} {name : Str} {id : String} {pl : Sem Bool} {Q : Value × List Value → Shared → Prop} (hl : s.heap.PlainList b xs) (slot : Slot "list" name id) (hty : typeOf (.builtin id) = pure (.type "method_descriptor"))
    (h : Q (.builtin id, [.ref b]) s) : wpAny M A (getMethod (.ref b) name pl) Q E s := by
  obtain ⟨n, ho⟩ := hl
  exact getMethod_builtin ⟨_, ho, rfl⟩ PySem.F.plainAttrs_list slot hty (fun a e => by cases e; exact ⟨_, ho, rfl⟩) h

theorem cm0 {M : Model} {pos : Pos} {id : String} {first : List Value} {Q : Value → Shared → Prop} (h : wpAny M A (call (.builtin id) first) Q E s) :
    wpAny M A (callWith pos (.builtin id) first (backTo pos (starEach [] env)) []) Q E s := PyProof.Rows.callWith_method0 h
theorem cm1 {M : Model} {pos : Pos} {id : String} {first : List Value} {e : Expr} {rest : List Expr} {Q : Value → Shared → Prop}
    (he : starEach (e :: rest) env = (false, eval e env) :: starEach rest env) (hplain : (backTo pos (starEach rest env)).any (·.1) = false)
    (h : wpAny M A (spliced (backTo pos (starEach (e :: rest) env))) (fun vs s₁ => wpAny M A (call (.builtin id) (first ++ vs)) Q E s₁) E s) :
    wpAny M A (callWith pos (.builtin id) first (backTo pos (starEach (e :: rest) env)) []) Q E s := PyProof.Rows.callWith_method1 h he hplain
theorem cw_type {M : Model} {pos : Pos} {T : String} {e : Expr} {rest : List Expr} {Q : Value → Shared → Prop} (he : starEach (e :: rest) env = (false, eval e env) :: starEach rest env)
    (hplain : (backTo pos (starEach rest env)).any (·.1) = false)
    (h : wpAny M A (spliced (backTo pos (starEach (e :: rest) env))) (fun vs s₁ => wpAny M A (call (.type T) vs) Q E s₁) E s) :
    wpAny M A (callWith pos (.type T) [] (backTo pos (starEach (e :: rest) env)) []) Q E s := PyProof.Rows.callWith_type1 h he hplain

theorem k_append {b : Addr} {xs : List Value} {v : Value} {Q : Value → Shared → Prop} (hl : s.heap.PlainList b xs.toArray) (hn : xs.length < 2 ^ 20) (h : ∀ s', KeepsBut [b] s s' → s'.heap.PlainList b (xs ++ [v]).toArray → Q .none s') :
    wpAny (model P w) A (call (.builtin "list.append") [.ref b, v]) Q E s := by
  refine wpAny_list_append_plain hl (fun h' hl' hs => h _ ⟨h', s.toks, rfl, fun c o hc e => hs.extBut c o (by simpa using hc) e⟩ ?_) ?_
  · simpa using hl'
  · have : (2 : Nat) ^ 20 ≤ sizeLine := by decide +kernel
    simp; lia

theorem k_pop {b : Addr} {xs : List Value} {v : Value} {Q : Value → Shared → Prop} (hl : s.heap.PlainList b (xs ++ [v]).toArray) (hn : xs.length < 2 ^ 20) (h : ∀ s', KeepsBut [b] s s' → s'.heap.PlainList b xs.toArray → Q v s') :
    wpAny (model P w) A (call (.builtin "list.pop") [.ref b]) Q E s := by
  obtain ⟨n, ho⟩ := hl
  have hz : (xs ++ [v]).toArray.size ≤ sizeLine := by
    have : (2 : Nat) ^ 20 ≤ sizeLine := by decide +kernel
    simp; lia
  refine call_meets PySem.F.slot_list_pop ⟨_, ho, rfl⟩ PySem.F.entry_list_pop (PySem.F.args_list_pop_1 _) (PySem.MeetsSeq.list_pop_last b _ n v (by simp) hz) ⟨ho, h _ ⟨_, s.toks, rfl, fun c o hc e => (Heap.SameBut.update ..).extBut c o (by simpa using hc) e⟩ ?_⟩
  have q := PySem.IsL.update ho (fun ys => ys.eraseIdxIfInBounds ((xs ++ [v]).toArray.size - 1))
  have e : (xs ++ [v]).toArray.eraseIdxIfInBounds ((xs ++ [v]).toArray.size - 1) = xs.toArray := by
    have : (xs ++ [v]).eraseIdx xs.length = xs := by rw [List.eraseIdx_append_of_length_le (Nat.le_refl _)]; simp
    simp [Array.eraseIdxIfInBounds, this]
  rw [e] at q
  exact ⟨_, q⟩

/-- what a turn of a for loop ends with -/
noncomputable def ForEnd (J : List (Str × Option Value) → List (Addr × Cell) → Prop) (as : List Addr) (s₀ : Shared) (h₁ : Heap) (L : Addr) (Q : Flow → Shared → Prop) : Flow → Shared → Prop
  | .next, s => ∃ l W, J l W ∧ W.map (·.1) = as ∧ At s₀ h₁ L l W s
  | .cont, s => ∃ l W, J l W ∧ W.map (·.1) = as ∧ At s₀ h₁ L l W s
  | .brk, s => Q .next s
  | .ret v, s => Q (.ret v) s

theorem x_for {x : Str} {px : Pos} {body : List Stmt} {I : Addr} {fp wr : List Addr} {n : Nat} {Pv : Nat → Value → Prop} {St : Nat → Heap → Prop} {as : List Addr} {Q : Flow → Shared → Prop} (J : Nat → List (Str × Option Value) → List (Addr × Cell) → Prop)
    (a : At s₀ h₀ L l W s) (Wk : Walks P w A I fp wr n Pv St) (hst : St 0 s.heap) (hfp : ∀ b ∈ fp, b ≠ L ∧ b ∉ as) (hwr : ∀ b ∈ wr, h₀.get? b = none) (hJ : J 0 l W) (has : W.map (·.1) = as)
    (turn : ∀ i v l W h₁ s E, i < n → Pv i v → J i l W → W.map (·.1) = as → (∀ b o, h₀.get? b = some o → h₁.get? b = some o) → At s₀ h₁ L l W s →
      wpAny (model P w) A (storeName env x v) (fun _ s' => wpAny (model P w) A (execs body env) (ForEnd (J (i + 1)) as s₀ h₁ L Q) E s') E s)
    (done : ∀ l W s, J n l W → W.map (·.1) = as → At s₀ h₀ L l W s → Q .next s) :
    codeAny (model P w) A (.forLoop (.Name x px) (.ref I) body [] env) (fun r s' => match r with | .ok f => Q f s' | .error e => cameBackBy (model P w) A env E e s') s := by
  refine codeAny_forLoop (fun k s => ∃ i l W, k = n - i ∧ i ≤ n ∧ J i l W ∧ W.map (·.1) = as ∧ At s₀ h₀ L l W s ∧ St i s.heap) ?_ n ⟨0, l, W, by lia, by lia, hJ, has, a, hst⟩
  rintro k s₁ ⟨i, l, W, rfl, hi, hJ, has, a, hst⟩
  by_cases h : i < n
  · refine Wk.item i s₁ _ _ h hst (fun v h' tk hv hst' hk => ?_)
    dsimp only
    have a' : At s₀ h₀ L l W { s₁ with heap := h', toks := tk } := a.keptBut (bs := wr) ⟨h', tk, rfl, hk⟩ hwr (fun m => (hfp _ (Wk.sub _ m)).1 rfl) (fun p hp m => (hfp _ (Wk.sub _ m)).2 (by rw [← has]; exact List.mem_map_of_mem hp))
    obtain ⟨h₁, k₁, a₁, r₁⟩ := a'.rebase
    refine wpAny_assign_Name (wpAny_mono (turn i v l W h₁ _ _ h hv hJ has k₁ a₁) (fun _ s₂ hs₂ => wpAny_mono hs₂ (fun fl s₃ hf => ?_) fun _ _ e => e) fun _ _ e => e)
    have fin : (∃ l W, J (i + 1) l W ∧ W.map (·.1) = as ∧ At s₀ h₁ L l W s₃) → ∃ m, m < n - i ∧ ∃ i l W, m = n - i ∧ i ≤ n ∧ J i l W ∧ W.map (·.1) = as ∧ At s₀ h₀ L l W s₃ ∧ St i s₃.heap := by
      rintro ⟨l', W', hJ', has', a''⟩
      exact ⟨n - (i + 1), by lia, i + 1, l', W', rfl, h, hJ', has', a''.shrink k₁, Wk.frame _ _ _ hst' fun b hb o e => a''.fs.keep b o (r₁ b o (hfp b hb).1 (by rw [has]; exact (hfp b hb).2) e)⟩
    cases fl with
    | next => exact fin hf
    | cont => exact fin hf
    | brk => exact hf
    | ret v => exact hf
  · obtain rfl : i = n := by lia
    refine Wk.done s₁ _ _ hst (fun h' tk hk => ?_)
    dsimp only
    exact wpAny_execs_nil (done _ _ _ hJ has (a.keptBut (bs := wr) ⟨h', tk, rfl, hk⟩ hwr (fun m => (hfp _ (Wk.sub _ m)).1 rfl) (fun p hp m => (hfp _ (Wk.sub _ m)).2 (by rw [← has]; exact List.mem_map_of_mem hp))))

theorem f_next {J : List (Str × Option Value) → List (Addr × Cell) → Prop} {as : List Addr} {h₁ : Heap} {Q : Flow → Shared → Prop} (a : At s₀ h₁ L l W s) (has : W.map (·.1) = as) (hJ : J l W) : ForEnd J as s₀ h₁ L Q .next s := ⟨l, W, hJ, has, a⟩
theorem f_cont {J : List (Str × Option Value) → List (Addr × Cell) → Prop} {as : List Addr} {h₁ : Heap} {Q : Flow → Shared → Prop} (a : At s₀ h₁ L l W s) (has : W.map (·.1) = as) (hJ : J l W) : ForEnd J as s₀ h₁ L Q .cont s := ⟨l, W, hJ, has, a⟩

theorem keeps_push (s : Shared) (o : Obj) (n : Nat) : Keeps s { s with heap := s.heap.push o, toks := n } := ⟨_, n, rfl, fun _ _ e => Heap.get?_push_of_some _ e⟩

theorem k_half {n : Nat} {t u : Tok} {Q : Value → Shared → Prop} (h : ∀ t s', Keeps s s' → Q (.int ((n / 2 : Nat) : Int) t) s') : wpAny (model P w) A (binaryOp .FloorDiv (.int n t) (.int 2 u)) Q E s := by
  refine PyProof.Rows.floordiv_int (by decide) ?_ (Or.inl (PyProof.noPylong_small (by decide)))
  have e : Int.fdiv (n : Int) 2 = ((n / 2 : Nat) : Int) := by rw [Int.fdiv_eq_ediv_of_nonneg _ (by decide)]; lia
  rw [e]
  exact h _ _ (keeps_tok s _)

theorem k_range1 {n : Int} {t : Tok} {Q : Value → Shared → Prop} (h : ∀ r t u v s', Keeps s s' → s.heap.get? r = none → IsRange s'.heap r 0 n 1 t u v → Q (.ref r) s') : wpAny (model P w) A (call (.type "range") [.int n t]) Q E s :=
  call_range_1 (h _ _ _ _ _ (keeps_push s _ _) (get?_size_none _) (Heap.get?_push_size _ rfl))
end

section
variable {w : World} {A : Around} {E : Value → Shared → Prop} {s s₀ : Shared} {env : Env} {names : List (Str × NameKind)} {L : Addr} {h₀ hb : Heap} {l : List (Str × Option Value)} {W : List (Addr × Cell)}

theorem k_typeB {b : Array UInt8} {t : Tok} {Q : Value → Shared → Prop} (h : Q (.type "bytes") s) : wpAny (model P w) A (call (.type "type") [.bytes b t]) Q E s := PySem.call_type_of (PySem.W.typeIs_bytes s b t) (by decide) h
theorem k_typeBool {b : Bool} {Q : Value → Shared → Prop} (h : Q (.type "bool") s) : wpAny (model P w) A (call (.type "type") [.bool b]) Q E s := PySem.call_type_of (show s.TypeIs (.bool b) "bool" from rfl) (by decide) h
theorem k_typeInt {i : Int} {t : Tok} {Q : Value → Shared → Prop} (h : Q (.type "int") s) : wpAny (model P w) A (call (.type "type") [.int i t]) Q E s := PySem.call_type_of (show s.TypeIs (.int i t) "int" from rfl) (by decide) h
theorem k_isT {a b : String} {Q : Value → Shared → Prop} (h : Q (.bool (Value.type a == Value.type b)) s) : wpAny (model P w) A (compareOp .Is (.type a) (.type b)) Q E s := wpAny_pure (a := Value.bool (Value.type a == Value.type b)) h
theorem k_isnotT {a b : String} {Q : Value → Shared → Prop} (h : Q (.bool (!(Value.type a == Value.type b))) s) : wpAny (model P w) A (compareOp .IsNot (.type a) (.type b)) Q E s := wpAny_pure (a := Value.bool (!(Value.type a == Value.type b))) h
theorem k_isBN {b : Bool} {Q : Value → Shared → Prop} (h : Q (.bool false) s) : wpAny (model P w) A (compareOp .Is (.bool b) .none) Q E s := wpAny_pure (a := Value.bool (Value.bool b == Value.none)) (by cases b <;> exact h)
theorem k_noneNot {Q : Value → Shared → Prop} (h : Q (.bool false) s) : wpAny (model P w) A (compareOp .IsNot .none .none) Q E s := wpAny_pure (a := Value.bool (!(Value.none == Value.none))) h
theorem k_refIs {M : Model} {a : Addr} {Q : Value → Shared → Prop} (h : Q (.bool true) s) : wpAny M A (compareOp .Is (.ref a) (.ref a)) Q E s := wpAny_is_ref_self h
theorem k_boolC {M : Model} {b : Bool} {k : Nat} {pos : Pos} {Q : Value → Shared → Prop} (h : Q (.bool b) s) : wpAny M A (eval (.Constant (.bool b) k pos) env) Q E s := wpAny_Constant_bool h
theorem k_bytesC {M : Model} {x : List UInt8} {k : Nat} {pos : Pos} {Q : Value → Shared → Prop} (h : ∀ t s', Keeps s s' → Q (.bytes x.toArray t) s') : wpAny M A (eval (.Constant (.bytes x) k pos) env) Q E s := Constant_bytes (h _ _ (keeps_tok s _))
theorem k_strC {M : Model} {x : Str} {k : Nat} {pos : Pos} {Q : Value → Shared → Prop} (h : ∀ t s', Keeps s s' → Q (.str x t) s') : wpAny M A (eval (.Constant (.str x) k pos) env) Q E s := wpAny_Constant_str (h _ _ (keeps_tok s _))
theorem k_truthyI {i : Int} {t : Tok} {Q : Bool → Shared → Prop} (h : Q (i != 0) s) : wpAny (model P w) A (truthy (.int i t)) Q E s := truthy_int h

/-- [a, b, …] -/
theorem x_list {M : Model} {elts : List Expr} {pos : Pos} {Q : Value → Shared → Prop} (h : wpAny M A (spliced (backTo pos (starEach elts env))) (fun vs s₁ => vs.length ≤ 4096 ∧ ∀ D s', Keeps s₁ s' → s₁.heap.get? D = none → s'.heap.PlainList D vs.toArray → Q (.ref D) s') E s) :
    wpAny M A (eval (.List elts pos) env) Q E s := by
  have hz : (4096 : Nat) ≤ sizeLine := by decide +kernel
  exact wpAny_List (wpAny_mono h (fun vs s₁ hq => ⟨Nat.le_trans hq.1 hz, hq.2 _ _ (keeps_push s₁ _ s₁.toks) (get?_size_none _) ⟨0, Heap.get?_push_size _ rfl⟩⟩) fun _ _ e => e)

theorem x_tv {M : Model} {e : Expr} {whole : Sem Value} {Q : Bool → Shared → Prop} (hp : isTrue e env whole = (do let v ← whole; standAt e.pos; holding [v] (truthy v))) (h : wpAny M A whole (fun v s₁ => wpAny M A (truthy v) Q E s₁) E s) : wpAny M A (isTrue e env whole) Q E s := wpAny_isTrue_value h hp
theorem k_noneC {M : Model} {k : Nat} {pos : Pos} {Q : Value → Shared → Prop} (h : Q .none s) : wpAny M A (eval (.Constant .none k pos) env) Q E s := wpAny_Constant_none h

theorem x_ifexp {M : Model} {test a b : Expr} {pos : Pos} {Q : Value → Shared → Prop} (h : wpAny M A (isTrue test env (eval test env)) (fun c s' => if c then wpAny M A (eval a env) Q E s' else wpAny M A (eval b env) Q E s') E s) : wpAny M A (eval (.IfExp test a b pos) env) Q E s := wpAny_IfExp h

theorem k_subB {value slice : Expr} {b : List UInt8} {t : Tok} {i : Nat} {k : Int} {u : Tok} {Q : Value → Shared → Prop} (hk : k = (i : Int)) (hi : i < b.length) (hb : b.length ≤ 4096)
    (hs : subscripted slice false (.bytes b.toArray t) (.int k u) = operate [.bytes b.toArray t, .int k u] (getItem (.bytes b.toArray t) (.int k u))) (ht : ∀ r, letTemporaryGo value (.bytes b.toArray t) r = pure ()) (h : ∀ t s', Keeps s s' → Q (.int (b.getD i 0).toNat t) s') :
    wpAny (model P w) A (subscriptTail value slice (.bytes b.toArray t) (.int k u)) Q E s := by
  subst hk
  exact subscriptTail_builtin (typeIs_bytes s _ t) FB.slot_bytes_getitem.lookup (getItem_bytes (by lia) (by lia) (by lia) (by simpa using h _ _ (keeps_tok s _))) hs ht

theorem k_pyIterB {b : Array UInt8} {t : Tok} {Q : Value → Shared → Prop} (h : ∀ I s', Keeps s s' → s.heap.get? I = none → KBw.IsBytesIter s'.heap I b t 0 → Q (.ref I) s') : wpAny (model P w) A (pyIter (.bytes b t)) Q E s :=
  KBw.pyIter_bytes (h _ _ (keeps_push s _ _) (get?_size_none _) ⟨_, Heap.get?_push_size _ rfl, rfl, rfl⟩)

theorem k_bytesOf {b : Addr} {vs : List Value} {ns : List Int} {Q : Value → Shared → Prop} (hh : A.handled = none) (hl : s.heap.IsList b vs.toArray) (hi : IntsAre vs ns) (hr : ∀ n ∈ ns, 0 ≤ n ∧ n < 256) (hz : vs.length < 2 ^ 20)
    (h : ∀ t s', Keeps s s' → Q (.bytes (byteArr ns) t) s') : wpAny (model P w) A (call (.type "bytes") [.ref b]) Q E s :=
  call_bytes_ints hl hi hr (by have : (2 : Nat) ^ 20 ≤ sizeLine := by decide +kernel
                               lia) hh (fun h' t k hk => h _ _ ⟨h', k, rfl, hk⟩)
end

theorem bitOr_nat (x y : Nat) : Builtin.bitOr (x : Int) (y : Int) = ((x ||| y : Nat) : Int) := by
  have n1 : ∀ z : Nat, decide ((0 : Int) ≤ Builtin.bitNot (z : Int)) = false := fun z => by
    unfold Builtin.bitNot; simp; lia
  have n2 : ∀ z : Int, Builtin.bitNot (Builtin.bitNot z) = z := fun z => by unfold Builtin.bitNot; lia
  unfold Builtin.bitOr Builtin.bitAnd
  rw [n1, n1]
  simp only [n2, Int.toNat_natCast]

section
variable {w : World} {A : Around} {E : Value → Shared → Prop} {s s₀ : Shared} {env : Env}

theorem n_and {x y : Nat} {a b : Int} {t u : Tok} {Q : Value → Shared → Prop} (ha : a = (x : Int)) (hb : b = (y : Int)) (h : ∀ t s', Keeps s s' → Q (.int ((x &&& y : Nat) : Int) t) s') : wpAny (model P w) A (binaryOp .BitAnd (.int a t) (.int b u)) Q E s := by
  subst ha hb; exact k_and h
theorem n_or {x y : Nat} {a b : Int} {t u : Tok} {Q : Value → Shared → Prop} (ha : a = (x : Int)) (hb : b = (y : Int)) (h : ∀ t s', Keeps s s' → Q (.int ((x ||| y : Nat) : Int) t) s') : wpAny (model P w) A (binaryOp .BitOr (.int a t) (.int b u)) Q E s := by
  subst ha hb; exact k_or (by rw [bitOr_nat]; exact h)
theorem n_shl {x y : Nat} {a b : Int} {t u : Tok} {Q : Value → Shared → Prop} (ha : a = (x : Int)) (hb : b = (y : Int)) (hy : y ≤ 1000) (hx : x < 2 ^ 40) (h : ∀ t s', Keeps s s' → Q (.int ((x <<< y : Nat) : Int) t) s') : wpAny (model P w) A (binaryOp .LShift (.int a t) (.int b u)) Q E s := by
  subst ha hb
  refine k_shl (by lia) (by lia) (by simp; lia) (fun t s' hk => ?_)
  have e : (x : Int) * 2 ^ ((y : Int).toNat) = ((x <<< y : Nat) : Int) := by
    rw [Int.toNat_natCast, Nat.shiftLeft_eq]; push_cast; rfl
  rw [e]; exact h t s' hk
theorem n_shr {x y : Nat} {a b : Int} {t u : Tok} {Q : Value → Shared → Prop} (ha : a = (x : Int)) (hb : b = (y : Int)) (h : ∀ t s', Keeps s s' → Q (.int ((x >>> y : Nat) : Int) t) s') : wpAny (model P w) A (binaryOp .RShift (.int a t) (.int b u)) Q E s := by
  subst ha hb
  refine k_shr (by lia) (fun t s' hk => ?_)
  have e : Int.fdiv (x : Int) (2 ^ ((y : Int).toNat)) = ((x >>> y : Nat) : Int) := by
    rw [Int.toNat_natCast, Nat.shiftRight_eq_div_pow, show (2 : Int) ^ y = ((2 ^ y : Nat) : Int) from (Int.natCast_pow 2 y).symm, Int.fdiv_eq_ediv_of_nonneg _ (Int.natCast_nonneg _)]
    exact (Int.natCast_ediv _ _).symm
  rw [e]; exact h t s' hk
theorem n_add {x y : Nat} {a b : Int} {t u : Tok} {Q : Value → Shared → Prop} (ha : a = (x : Int)) (hb : b = (y : Int)) (h : ∀ t s', Keeps s s' → Q (.int ((x + y : Nat) : Int) t) s') : wpAny (model P w) A (binaryOp .Add (.int a t) (.int b u)) Q E s := by
  subst ha hb; refine k_add (fun t s' hk => ?_); have := h t s' hk; push_cast at this; exact this
theorem n_sub {x y : Nat} {a b : Int} {t u : Tok} {Q : Value → Shared → Prop} (ha : a = (x : Int)) (hb : b = (y : Int)) (hle : y ≤ x) (h : ∀ t s', Keeps s s' → Q (.int ((x - y : Nat) : Int) t) s') : wpAny (model P w) A (binaryOp .Sub (.int a t) (.int b u)) Q E s := by
  subst ha hb; refine k_sub (fun t s' hk => ?_); have := h t s' hk; rw [Int.ofNat_sub hle] at this; exact this
theorem c_eqN {x y : Nat} {a b : Int} {t u : Tok} {Q : Value → Shared → Prop} (ha : a = (x : Int)) (hb : b = (y : Int)) (h : Q (.bool (decide (x = y))) s) : wpAny (model P w) A (compareOp .Eq (.int a t) (.int b u)) Q E s := by
  subst ha hb; refine c_eq ?_
  have e : ((x : Int) == (y : Int)) = decide (x = y) := by
    by_cases h : x = y
    · simp [h]
    · have h2 : ¬ (x : Int) = (y : Int) := by lia
      simp [h, h2]
  rw [e]; exact h
theorem c_geN {x y : Nat} {a b : Int} {t u : Tok} {Q : Value → Shared → Prop} (ha : a = (x : Int)) (hb : b = (y : Int)) (h : Q (.bool (decide (y ≤ x))) s) : wpAny (model P w) A (compareOp .GtE (.int a t) (.int b u)) Q E s := by
  subst ha hb; refine c_ge ?_
  have e : decide ((y : Int) ≤ (x : Int)) = decide (y ≤ x) := by simp
  rw [e]; exact h
theorem c_leN {x y : Nat} {a b : Int} {t u : Tok} {Q : Value → Shared → Prop} (ha : a = (x : Int)) (hb : b = (y : Int)) (h : Q (.bool (decide (x ≤ y))) s) : wpAny (model P w) A (compareOp .LtE (.int a t) (.int b u)) Q E s := by
  subst ha hb; refine c_le ?_
  have e : decide ((x : Int) ≤ (y : Int)) = decide (x ≤ y) := by simp
  rw [e]; exact h
theorem c_ltN {x y : Nat} {a b : Int} {t u : Tok} {Q : Value → Shared → Prop} (ha : a = (x : Int)) (hb : b = (y : Int)) (h : Q (.bool (decide (x < y))) s) : wpAny (model P w) A (compareOp .Lt (.int a t) (.int b u)) Q E s := by
  subst ha hb; refine c_lt ?_
  have e : decide ((x : Int) < (y : Int)) = decide (x < y) := by simp
  rw [e]; exact h
theorem c_neN {x y : Nat} {a b : Int} {t u : Tok} {Q : Value → Shared → Prop} (ha : a = (x : Int)) (hb : b = (y : Int)) (h : Q (.bool (decide (x ≠ y))) s) : wpAny (model P w) A (compareOp .NotEq (.int a t) (.int b u)) Q E s := by
  subst ha hb; refine c_ne ?_
  have e : ((x : Int) != (y : Int)) = decide (x ≠ y) := by
    by_cases h : x = y
    · simp [h]
    · have h2 : ¬ (x : Int) = (y : Int) := by lia
      simp [h, h2]
  rw [e]; exact h
end

/-- the words of the walk, laid under keys (no macros) -/
theorem words : True := by
  k_with_none
  k_with "m:in" => ((with_reducible first | exact List.mem_cons_self | (refine List.mem_cons_of_mem _ ?_; k_extra "m:in")))
  k_with "m:put" => ((with_reducible first | exact Put.here | (apply Put.there; k_extra "m:put")))
  k_with "m:s" => (first
  | with_reducible refine x_cons ?_
  | with_reducible refine x_nil ?_
  | ((with_reducible refine x_assign ?hs ?_); (case hs => with_unfolding_all rfl))
  | ((with_reducible refine x_assignSub ?hs ?_); (case hs => with_unfolding_all rfl))
  | with_reducible refine x_binop ?_
  | ((with_reducible refine x_cmp ?hs ?_); (case hs => with_unfolding_all rfl))
  | ((with_reducible refine x_tcmp ?hs ?_); (case hs => with_unfolding_all rfl))
  | with_reducible refine x_tnot ?_
  | with_reducible refine x_tbool ?_
  | with_reducible refine x_truthyB ?_
  | ((with_reducible refine x_tv ?hp ?_); (case hp => with_unfolding_all rfl))
  | with_reducible refine k_noneC ?_
  | with_reducible refine k_boolC ?_
  | with_reducible refine k_isT ?_
  | with_reducible refine k_isnotT ?_
  | with_reducible refine k_isBN ?_
  | with_reducible refine k_noneNot ?_
  | with_reducible refine k_typeB ?_
  | with_reducible refine k_typeBool ?_
  | with_reducible refine k_typeInt ?_
  | with_reducible refine x_ifexp ?_
  | with_reducible refine x_and ?_
  | with_reducible refine x_or ?_
  | with_reducible refine x_and0 ?_
  | with_reducible refine x_or0 ?_
  | ((with_reducible refine x_expr ?hi ?hs ?_); (case hi => exact EnvIs.kind (by assumption)); (case hs => with_unfolding_all rfl))
  | ((with_reducible refine x_args ?he ?_); (case he => rfl))
  | with_reducible refine x_args0 ?_
  | with_reducible refine x_call ?_
  | ((with_reducible refine' cw_def ?ho ?hd ?he ?_); (case ho => k_is); (case hd => exact rfl); (case he => rfl))
  | ((with_reducible refine cw_builtin ?he ?hp ?_); (case he => rfl); (case hp => rfl))
  | with_reducible refine ⟨G.of_at (by assumption) (by assumption), ?_⟩
  | ((with_reducible refine' x_meth ?he ?_); (case he => exact rfl))
  | with_reducible refine cm0 ?_
  | ((with_reducible refine cm1 ?he ?hp ?_); (case he => rfl); (case hp => rfl))
  | ((with_reducible refine cw_type ?he ?hp ?_); (case he => rfl); (case hp => rfl))
  | with_reducible refine x_sub ?_
  | with_reducible refine x_ret ?_
  | with_reducible refine x_cont ?_
  | with_reducible refine x_brk ?_
  | with_reducible refine t_next ?_
  | with_reducible refine t_ret ?_
  | with_reducible refine t_brk ?_
  | with_reducible refine t_cont ?_
  | with_reducible refine l_brk ?_)
  k_with "m:n" => (first
  | ((with_reducible refine' ld_local (by assumption) (by assumption) ?hl ?hv ?hd ?_); (case hl => k_extra "m:in"); (case hv => k_extra "m:in"); (case hd => decide))
  | ((with_reducible refine' st_local (by assumption) (by assumption) ?hl ?hp ?_); (case hl => k_extra "m:in"); (case hp => k_extra "m:put"); intro _ _))
  k_with "m:g" => ((with_reducible first | exact gn_wall _ | exact gn_filterfalse _ | exact gn_filter _ | exact gn_twin_re_1 _ | exact gn_bytes_types _ | exact gn_bytes_from_decode_data _ | exact gn_ascii_buffer _ | exact gn_buffer _ | exact gn_truth _ | exact gn_b64_value _ | exact gn_a2b_base64 _ | exact gn_b2a_base64 _ | exact gn_NO_SEP _ | exact gn_b2a_hex _ | exact gn_hexlify _ | exact gn_hex_value _ | exact gn_a2b_hex _ | exact gn_unhexlify _ | exact gn_b64encode _ | exact gn_b64decode _ | exact gn_b16encode _ | exact gn_b16decode _ | exact gn_heappop _ | exact gn_heapreplace _ | exact gn_heapify _ | exact gn_heapreplace_max _ | exact gn_heapify_max _ | exact gn_siftdown _ | exact gn_siftup _ | exact gn_siftdown_max _ | exact gn_siftup_max _ | exact gn_nsmallest _ | exact gn_nlargest _ | exact gn_law_octets _ | exact gn_law_b64 _ | exact gn_law_figures _ | exact gn_law_parted _ | exact gn_len _ | exact gn_sorted _ | exact gn_sum _ | exact gn_iter _ | exact gn_next _ | exact gn_isinstance _ | exact gn_range _ | exact gn_list _ | exact gn_bytes _ | exact gn_str _ | exact gn_type _ | exact gn_bool _ | exact gn_int _ | exact gn_float _ | exact gn_complex _ | exact gn_bytearray _ | exact gn_tuple _ | exact gn_dict _ | exact gn_set _ | exact gn_frozenset _ | exact gn_zip _ | exact gn_reversed _ | exact gn_object _ | assumption))
  k_with "m:n" => (((with_reducible refine' ld_glob (by assumption) (G.of_at (by assumption) (by assumption)) ?hl ?hv ?hd ?_); (case hl => k_extra "m:in"); (case hv => k_extra "m:g"); (case hd => decide)))
  k_with "m:k" => ((with_reducible (first | refine k_int ?_ | refine k_sub ?_ | refine k_add ?_ | refine k_mul2 ?_ | refine k_or ?_ | refine k_and ?_ | refine k_strC ?_ | refine k_bytesC ?_)) <;> (intro _ _ zk; have _ := At.kept (by assumption) zk; clear zk))
  k_with "m:c" => ((with_reducible first
  | refine c_gt ?_
  | refine c_lt ?_
  | refine c_le ?_
  | refine c_ge ?_
  | refine c_eq ?_
  | refine c_ne ?_))
  k_with "m" => (first | k_extra "m:s" | k_extra "m:n" | k_extra "m:k" | k_extra "m:c")
  k_with "n:k" => ((first
  | with_reducible refine k_int ?_
  | ((with_reducible refine' n_add ?ha ?hb ?_); (case ha => exact rfl); (case hb => exact rfl))
  | ((with_reducible refine' n_or ?ha ?hb ?_); (case ha => exact rfl); (case hb => exact rfl))
  | ((with_reducible refine' n_and ?ha ?hb ?_); (case ha => exact rfl); (case hb => exact rfl))
  | ((with_reducible refine' n_shr ?ha ?hb ?_); (case ha => exact rfl); (case hb => exact rfl))
  | with_reducible refine k_strC ?_
  | with_reducible refine k_bytesC ?_) <;> (intro _ _ zk; have _ := At.kept (by assumption) zk; clear zk))
  k_with "n:c" => (first
  | ((with_reducible refine' c_eqN ?ha ?hb ?_); (case ha => exact rfl); (case hb => exact rfl))
  | ((with_reducible refine' c_geN ?ha ?hb ?_); (case ha => exact rfl); (case hb => exact rfl))
  | ((with_reducible refine' c_leN ?ha ?hb ?_); (case ha => exact rfl); (case hb => exact rfl))
  | ((with_reducible refine' c_ltN ?ha ?hb ?_); (case ha => exact rfl); (case hb => exact rfl))
  | ((with_reducible refine' c_neN ?ha ?hb ?_); (case ha => exact rfl); (case hb => exact rfl)))
  k_with "n" => (first | k_extra "m:s" | k_extra "m:n" | k_extra "n:k" | k_extra "n:c")
  exact trivial

/-- S's items are compared by lt -/
noncomputable def CmpOn (w : World) (h : Heap) (S : Value → Prop) (lt : Value → Value → Bool) : Prop :=
  ∀ (A : Around) (s : Shared) (v₁ v₂ : Value) (Q : Value → Shared → Prop) (E : Value → Shared → Prop), Room A 2 40 → (∀ b o, h.get? b = some o → s.heap.get? b = some o) → S v₁ → S v₂ →
    (∀ s', Keeps s s' → Q (.bool (lt v₁ v₂)) s') → wpAny (model P w) A (compareOp .Lt v₁ v₂) Q E s

theorem CmpOn.keeps {w : World} {h h' : Heap} {S lt} (c : CmpOn w h S lt) (k : ∀ b o, h.get? b = some o → h'.get? b = some o) : CmpOn w h' S lt :=
  fun A s v₁ v₂ Q E r hk h1 h2 q => c A s v₁ v₂ Q E r (fun b o e => hk b o (k b o e)) h1 h2 q

noncomputable def sdGo (lt : Value → Value → Bool) (sp : Nat) (nw : Value) : Nat → Nat → List Value → List Value
  | 0, pos, xs => xs.set pos nw
  | f + 1, pos, xs => if sp < pos then (match xs[(pos - 1) / 2]? with
      | some pr => if lt nw pr then sdGo lt sp nw f ((pos - 1) / 2) (xs.set pos pr) else xs.set pos nw
      | none => xs.set pos nw) else xs.set pos nw

noncomputable def siftdownP (lt : Value → Value → Bool) (xs : List Value) (sp pos : Nat) : List Value := match xs[pos]? with
  | some nw => sdGo lt sp nw pos pos xs
  | none => xs


theorem sdGo_eq (lt : Value → Value → Bool) (sp : Nat) (nw : Value) : ∀ (n f g pos : Nat) (xs : List Value), pos ≤ n → pos ≤ f → pos ≤ g → sdGo lt sp nw f pos xs = sdGo lt sp nw g pos xs := by
  intro n
  induction n with
  | zero =>
    intro f g pos xs h _ _
    obtain rfl : pos = 0 := by lia
    cases f <;> cases g <;> simp [sdGo]
  | succ n ih =>
    intro f g pos xs h hf hg
    cases f with
    | zero => obtain rfl : pos = 0 := by lia
              cases g <;> simp [sdGo]
    | succ f => cases g with
      | zero => obtain rfl : pos = 0 := by lia
                simp [sdGo]
      | succ g =>
        simp only [sdGo]
        split
        · split
          · split
            · exact ih _ _ _ _ (by lia) (by lia) (by lia)
            · rfl
          · rfl
        · rfl

theorem sdGo_fuel (lt : Value → Value → Bool) (sp : Nat) (nw : Value) (f pos : Nat) (xs : List Value) (h : pos ≤ f) : sdGo lt sp nw f pos xs = sdGo lt sp nw pos pos xs :=
  sdGo_eq lt sp nw pos f pos pos xs (Nat.le_refl _) h (Nat.le_refl _)

theorem fdiv_half (p : Nat) (h : 0 < p) : ((p : Int) - 1).fdiv (2 ^ (1 : Int).toNat) = (((p - 1) / 2 : Nat) : Int) := by
  have : ((p : Int) - 1) = ((p - 1 : Nat) : Int) := by lia
  rw [this]
  show Int.fdiv _ 2 = _
  rw [Int.fdiv_eq_ediv_of_nonneg _ (by decide)]
  lia

theorem siftdown_spec {w : World} {A : Around} {s : Shared} {hb : Heap} {lt : Value → Value → Bool} {S : Value → Prop} {a : Addr} {xs : List Value} {sp p : Nat} {t0 t1 : Tok} {Q E : Value → Shared → Prop}
   (hG : G w hb) (hsub : ∀ b o, hb.get? b = some o → s.heap.get? b = some o) (hoff : hb.get? a = none) (hl : s.heap.PlainList a xs.toArray) (hr : Room A 4 60)
   (hC : CmpOn w hb S lt) (hS : ∀ v ∈ xs, S v) (hp : p < xs.length) (hn : xs.length < 2^20)
   (hQ : ∀ s', KeepsBut [a] s s' → s'.heap.PlainList a (siftdownP lt xs sp p).toArray → Q .none s') :
   wpAny (model P w) A (call (.ref 248) [.ref a, .int sp t0, .int p t1]) Q E s := by
  refine call_body [(a, Cell.list (xs))] [Str.ofString "newitem", Str.ofString "parentpos", Str.ofString "parent"] (l := [("heap", some (.ref a)), ("startpos", some (.int sp t0)), ("pos", some (.int p t1)), ("newitem", none), ("parentpos", none), ("parent", none)]) hG hsub (by simpa using hoff) (by simpa using hl) (by simp) (d := 3) (u := 57) hr (by k_is) (by k_is) (BindsTo.of_eq rfl) (by decide) (locs rfl) rfl (by simp; decide) (by decide) ?_
  intro env L h₀ s₁ A' he hat hg₀ hk hr'
  dsimp only at he
  have hbh : ∀ b o, hb.get? b = some o → h₀.get? b = some o := fun b o e => hk b o (by simp; rintro rfl; rw [hoff] at e; cases e) (hsub b o e)
  have hC' := hC.keeps hbh
  obtain ⟨nw, hx⟩ : ∃ nw, xs[p]? = some nw := ⟨xs[p], by simp [hp]⟩
  have hnw : S nw := hS _ (List.mem_of_getElem? hx)
  repeat k_extra "m"
  refine sub_own (by assumption) (by k_extra "m:in") rfl hx (by lia) rfl (fun _ => rfl) ?_
  repeat k_extra "m"
  refine x_while (fun n s' => ∃ ys q tq u1 u2, n = q ∧ At s h₀ L [("heap", some (.ref a)), ("startpos", some (.int sp t0)), ("pos", some (.int (q : Nat) tq)), ("newitem", some nw), ("parentpos", u1), ("parent", u2)] [(a, Cell.list (ys))] s' ∧
    q < ys.length ∧ ys.length = xs.length ∧ (∀ v ∈ ys, S v) ∧ sdGo lt sp nw q q ys = siftdownP lt xs sp p) p ⟨xs, p, t1, _, _, rfl, by assumption, hp, rfl, hS, by simp [siftdownP, hx]⟩ ?_
  rintro n s₂ E₂ ⟨ys, q, tq, u1, u2, rfl, hat, hq, hlen, hSy, hgo⟩
  have hend : ∀ s₄ l' zs, At s h₀ L l' [(a, Cell.list (zs))] s₄ → zs = siftdownP lt xs sp p → Q .none s₄ := fun s₄ l' zs hat₄ e => hQ _ (hat₄.keepsBut (as := [a]) (by simpa using hk)) (by rw [← e]; exact hat₄.fs.own (a, _) List.mem_cons_self)
  repeat k_extra "m"
  refine u_split (fun hb => ?_) (fun hb => ?_)
  · have hlt : sp < n := by simpa using hb
    obtain ⟨m, rfl⟩ : ∃ m, n = m + 1 := ⟨n - 1, by lia⟩
    have hm : m / 2 < ys.length := by lia
    obtain ⟨pr, hpr⟩ : ∃ pr, ys[m / 2]? = some pr := ⟨ys[m / 2], by simp [hm]⟩
    repeat k_extra "m"
    refine k_shr (by decide) (fun t₃ s₃ hk₃ => ?_)
    have hat₃ := At.kept (by assumption) hk₃
    rw [fdiv_half (m + 1) (by lia)]
    repeat k_extra "m"
    refine sub_own (by assumption) (by k_extra "m:in") rfl hpr (by lia) rfl (fun _ => rfl) ?_
    repeat k_extra "m"
    refine x_if ?_
    repeat k_extra "m"
    refine hC' _ _ _ _ _ _ (hr'.mono (by decide) (by decide)) (At.fs (by assumption)).keep hnw (hSy _ (List.mem_of_getElem? hpr)) (fun s₃ hk₃ => ?_)
    have hat₃ := At.kept (by assumption) hk₃
    repeat k_extra "m"
    refine w_split (fun hb2 => ?_) (fun hb2 => ?_)
    · repeat k_extra "m"
      refine set_own (by assumption) (i := 0) rfl rfl hq (by lia) (fun s₄ hat₄ => ?_)
      repeat k_extra "m"
      refine l_cont (m / 2) (by lia) ⟨_, m / 2, _, _, _, rfl, by assumption, by simpa using hm, by simpa using hlen, fun v hv => ?_, ?_⟩
      · rcases List.mem_or_eq_of_mem_set hv with h | rfl
        · exact hSy _ h
        · exact hSy _ (List.mem_of_getElem? hpr)
      · have e : sdGo lt sp nw (m + 1) (m + 1) ys = sdGo lt sp nw m (m / 2) (ys.set (m + 1) pr) := by
          rw [sdGo, if_pos hlt]; simp only [Nat.add_sub_cancel, hpr, hb2, if_true]
        rw [← hgo, e]; exact (sdGo_fuel _ _ _ m _ _ (by lia)).symm
    · repeat k_extra "m"
      refine set_own (by assumption) (i := 0) rfl rfl hq (by lia) (fun s₄ hat₄ => ?_)
      repeat k_extra "m"
      refine hend _ _ _ hat₄ ?_
      rw [← hgo, sdGo, if_pos hlt]
      simp only [Nat.add_sub_cancel, hpr, hb2, Bool.false_eq_true, if_false]
  · have hlt : ¬ sp < n := by simpa using hb
    repeat k_extra "m"
    refine set_own (by assumption) (i := 0) rfl rfl hq (by lia) (fun s₄ hat₄ => ?_)
    repeat k_extra "m"
    refine hend _ _ _ hat₄ ?_
    rw [← hgo]
    cases n with
    | zero => rfl
    | succ m => simp [sdGo, hlt]


/-- the smaller child of pos, if it lies below n -/
noncomputable def childOf (lt : Value → Value → Bool) (xs : List Value) (c : Nat) : Nat := match xs[c]?, xs[c + 1]? with
  | some a, some b => if lt a b then c else c + 1
  | _, _ => c

noncomputable def suGo (lt : Value → Value → Bool) : Nat → Nat → List Value → List Value × Nat
  | 0, pos, xs => (xs, pos)
  | f + 1, pos, xs => if 2 * pos + 1 < xs.length then
      (match xs[childOf lt xs (2 * pos + 1)]? with
      | some c => suGo lt f (childOf lt xs (2 * pos + 1)) (xs.set pos c)
      | none => (xs, pos)) else (xs, pos)

noncomputable def siftupP (lt : Value → Value → Bool) (xs : List Value) (pos : Nat) : List Value := match xs[pos]? with
  | some nw => let r := suGo lt xs.length pos xs; siftdownP lt (r.1.set r.2 nw) pos r.2
  | none => xs

theorem childOf_gt (lt : Value → Value → Bool) (xs : List Value) (c : Nat) : c ≤ childOf lt xs c ∧ childOf lt xs c ≤ c + 1 := by
  unfold childOf; split
  · split <;> lia
  · lia
theorem childOf_lt (lt : Value → Value → Bool) (xs : List Value) (c : Nat) (h : c < xs.length) : childOf lt xs c < xs.length := by
  unfold childOf; split
  · rename_i b _ e
    have := (List.getElem?_eq_some_iff.mp e).1
    split <;> lia
  · exact h

theorem suGo_eq (lt : Value → Value → Bool) : ∀ (n f g pos : Nat) (xs : List Value), xs.length - pos ≤ n → xs.length - pos ≤ f → xs.length - pos ≤ g → suGo lt f pos xs = suGo lt g pos xs := by
  intro n
  induction n with
  | zero =>
    intro f g pos xs h _ _
    have : ¬ 2 * pos + 1 < xs.length := by lia
    cases f <;> cases g <;> simp [suGo, this]
  | succ n ih =>
    intro f g pos xs h hf hg
    by_cases hlt : 2 * pos + 1 < xs.length
    · have hc := childOf_gt lt xs (2 * pos + 1)
      cases f with
      | zero => lia
      | succ f => cases g with
        | zero => lia
        | succ g =>
          simp only [suGo, if_pos hlt]
          split
          · exact ih _ _ _ _ (by simp; lia) (by simp; lia) (by simp; lia)
          · rfl
    · cases f <;> cases g <;> simp [suGo, hlt]

theorem mem_set_of {xs : List Value} {S : Value → Prop} {i : Nat} {v : Value} (h : ∀ u ∈ xs, S u) (hv : S v) : ∀ u ∈ xs.set i v, S u := fun u hu => by
  rcases List.mem_or_eq_of_mem_set hu with h' | rfl
  · exact h _ h'
  · exact hv

theorem siftup_spec {w : World} {A : Around} {s : Shared} {hb : Heap} {lt : Value → Value → Bool} {S : Value → Prop} {a : Addr} {xs : List Value} {p : Nat} {t1 : Tok} {Q E : Value → Shared → Prop}
   (hG : G w hb) (hsub : ∀ b o, hb.get? b = some o → s.heap.get? b = some o) (hoff : hb.get? a = none) (hl : s.heap.PlainList a xs.toArray) (hr : Room A 6 70)
   (hC : CmpOn w hb S lt) (hS : ∀ v ∈ xs, S v) (hp : p < xs.length) (hn : xs.length < 2^20)
   (hQ : ∀ s', KeepsBut [a] s s' → s'.heap.PlainList a (siftupP lt xs p).toArray → Q .none s') :
   wpAny (model P w) A (call (.ref 255) [.ref a, .int p t1]) Q E s := by
  refine call_body [(a, Cell.list (xs))] [Str.ofString "endpos", Str.ofString "startpos", Str.ofString "newitem", Str.ofString "childpos", Str.ofString "rightpos"] (l := [("heap", some (.ref a)), ("pos", some (.int p t1)), ("endpos", none), ("startpos", none), ("newitem", none), ("childpos", none), ("rightpos", none)]) hG hsub (by simpa using hoff) (by simpa using hl) (by simp) (d := 5) (u := 67) hr (by k_is) (by k_is) (BindsTo.of_eq rfl) (by decide) (locs rfl) rfl (by simp; decide) (by decide) ?_
  intro env L h₀ s₁ A' he hat hg₀ hk hr'
  dsimp only at he
  have hbh : ∀ b o, hb.get? b = some o → h₀.get? b = some o := fun b o e => hk b o (by simp; rintro rfl; rw [hoff] at e; cases e) (hsub b o e)
  have hC' := hC.keeps hbh
  obtain ⟨nw, hx⟩ : ∃ nw, xs[p]? = some nw := ⟨xs[p], by simp [hp]⟩
  have hnw : S nw := hS _ (List.mem_of_getElem? hx)
  repeat k_extra "m"
  refine k_len (xs := xs) (At.fs (by assumption) |>.own (a, Cell.list (xs)) List.mem_cons_self).isList (by lia) (fun t₂ s₂ hk₂ => ?_)
  have hat := At.kept (by assumption) hk₂
  repeat k_extra "m"
  refine sub_own (by assumption) (by k_extra "m:in") rfl hx (by lia) rfl (fun _ => rfl) ?_
  repeat k_extra "m"
  refine x_while (fun n s' => ∃ ys q tq tc te tsp u, n = xs.length - q ∧ At s h₀ L [("heap", some (.ref a)), ("pos", some (.int (q : Nat) tq)), ("endpos", some (.int (xs.length : Nat) te)), ("startpos", some (.int p tsp)), ("newitem", some nw), ("childpos", some (.int (2 * (q : Nat) + 1) tc)), ("rightpos", u)] [(a, Cell.list (ys))] s' ∧
    q < ys.length ∧ ys.length = xs.length ∧ (∀ v ∈ ys, S v) ∧ suGo lt xs.length q ys = suGo lt xs.length p xs) (xs.length - p) ⟨xs, p, _, _, _, _, _, rfl, by assumption, hp, rfl, hS, rfl⟩ ?_
  rintro n s₂ E₂ ⟨ys, q, tq, tc, te, tsp, u, rfl, hat, hq, hlen, hSy, hgo⟩
  repeat k_extra "m"
  refine u_split (fun hb => ?_) (fun hb => ?_)
  · have hlt : 2 * q + 1 < ys.length := by have := of_decide_eq_true hb; lia
    have hc1 := childOf_gt lt ys (2 * q + 1)
    have hc2 := childOf_lt lt ys (2 * q + 1) hlt
    obtain ⟨cv, hcv⟩ : ∃ cv, ys[childOf lt ys (2 * q + 1)]? = some cv := ⟨ys[childOf lt ys (2 * q + 1)], by simp [hc2]⟩
    repeat k_extra "m"
    refine x_join (fun s' => ∃ tc' tr, At s h₀ L [("heap", some (.ref a)), ("pos", some (.int (q : Nat) tq)), ("endpos", some (.int (xs.length : Nat) te)), ("startpos", some (.int p tsp)), ("newitem", some nw), ("childpos", some (.int (childOf lt ys (2 * q + 1) : Nat) tc')), ("rightpos", some (.int (2 * (q : Nat) + 1 + 1) tr))] [(a, Cell.list (ys))] s') ?_ ?_
    · have fin : ∀ (s' : Shared) (i : Int) (tc' tr : Tok), At s h₀ L [("heap", some (.ref a)), ("pos", some (.int (q : Nat) tq)), ("endpos", some (.int (xs.length : Nat) te)), ("startpos", some (.int p tsp)), ("newitem", some nw), ("childpos", some (.int i tc')), ("rightpos", some (.int (2 * (q : Nat) + 1 + 1) tr))] [(a, Cell.list (ys))] s' → i = ((childOf lt ys (2 * q + 1) : Nat) : Int) → Flow.next = Flow.next ∧ (fun s' => ∃ tc' tr, At s h₀ L [("heap", some (.ref a)), ("pos", some (.int (q : Nat) tq)), ("endpos", some (.int (xs.length : Nat) te)), ("startpos", some (.int p tsp)), ("newitem", some nw), ("childpos", some (.int (childOf lt ys (2 * q + 1) : Nat) tc')), ("rightpos", some (.int (2 * (q : Nat) + 1 + 1) tr))] [(a, Cell.list (ys))] s') s' := fun s' i tc' tr h e => by subst e; exact ⟨rfl, tc', tr, h⟩
      refine x_if ?_
      repeat k_extra "m"
      refine a_split (fun hb2 => ?_) (fun hb2 => ?_)
      · have hlt2 : 2 * q + 2 < ys.length := by have := of_decide_eq_true hb2; lia
        obtain ⟨c1, hc1⟩ : ∃ c1, ys[2 * q + 1]? = some c1 := ⟨ys[2 * q + 1], by simp [hlt]⟩
        obtain ⟨c2, hc2⟩ : ∃ c2, ys[2 * q + 1 + 1]? = some c2 := ⟨ys[2 * q + 1 + 1], by simp [hlt2]⟩
        repeat k_extra "m"
        refine sub_own (p := 2 * q + 1) (by assumption) (by k_extra "m:in") (by lia) hc1 (by lia) rfl (fun _ => rfl) ?_
        repeat k_extra "m"
        refine sub_own (p := 2 * q + 1 + 1) (by assumption) (by k_extra "m:in") (by lia) hc2 (by lia) rfl (fun _ => rfl) ?_
        refine hC' _ _ _ _ _ _ (hr'.mono (by decide) (by decide)) (At.fs (by assumption)).keep (hSy _ (List.mem_of_getElem? hc1)) (hSy _ (List.mem_of_getElem? hc2)) (fun s₃ hk₃ => ?_)
        have hat₃ := At.kept (by assumption) hk₃
        repeat k_extra "m"
        refine a_split (fun hb3 => ?_) (fun hb3 => ?_)
        · k_extra "m"
          refine w_tt rfl ?_
          repeat k_extra "m"
          refine fin _ _ _ _ (by with_reducible assumption) ?_
          have e : ((childOf lt ys (2 * q + 1) : Nat) : Int) = 2 * (q : Int) + 1 + 1 := by
            simp only [childOf, hc1, hc2]; rw [Bool.not_eq_true'] at hb3; simp [hb3]
          rw [e]
        · refine w_ff rfl ?_
          repeat k_extra "m"
          refine fin _ _ _ _ (by with_reducible assumption) ?_
          have e : ((childOf lt ys (2 * q + 1) : Nat) : Int) = 2 * (q : Int) + 1 := by
            simp only [childOf, hc1, hc2]; rw [Bool.not_eq_false'] at hb3; simp [hb3]
          rw [e]
      · have hlt2 : ¬ 2 * q + 2 < ys.length := by have := of_decide_eq_false hb2; lia
        refine w_ff rfl ?_
        repeat k_extra "m"
        refine fin _ _ _ _ (by with_reducible assumption) ?_
        have e : ((childOf lt ys (2 * q + 1) : Nat) : Int) = 2 * (q : Int) + 1 := by
          have : ys[2 * q + 1 + 1]? = none := by simp; lia
          unfold childOf; rw [this]; split <;> simp_all
        rw [e]
    · rintro s₃ ⟨tc', tr, hat₃⟩
      repeat k_extra "m"
      refine sub_own (by assumption) (by k_extra "m:in") rfl hcv (by lia) rfl (fun _ => rfl) ?_
      repeat k_extra "m"
      refine set_own (by assumption) (i := 0) rfl rfl hq (by lia) (fun s₄ hat₄ => ?_)
      dsimp only [List.set_cons_zero] at hat₄
      repeat k_extra "m"
      refine l_next (xs.length - childOf lt ys (2 * q + 1)) (by lia) ⟨ys.set q cv, childOf lt ys (2 * q + 1), _, _, te, tsp, _, rfl, (by with_reducible assumption), by simpa using hc2, by simpa using hlen, mem_set_of hSy (hSy _ (List.mem_of_getElem? hcv)), ?_⟩
      · rw [← hgo]
        obtain ⟨m, hm⟩ : ∃ m, xs.length = m + 1 := ⟨xs.length - 1, by lia⟩
        have e : suGo lt (m + 1) q ys = suGo lt m (childOf lt ys (2 * q + 1)) (ys.set q cv) := by rw [suGo, if_pos hlt, hcv]
        rw [hm, e]
        exact suGo_eq _ _ _ _ _ _ (Nat.le_refl _) (by simp; lia) (by simp; lia)
  · have hlt : ¬ 2 * q + 1 < ys.length := by have := of_decide_eq_false hb; lia
    have hgo' : suGo lt xs.length p xs = (ys, q) := by
      rw [← hgo]
      cases xs.length <;> simp [suGo, hlt]
    repeat k_extra "m"
    refine set_own (by assumption) (i := 0) rfl rfl hq (by lia) (fun s₄ hat₄ => ?_)
    dsimp only [List.set_cons_zero] at hat₄
    repeat k_extra "m"
    refine siftdown_spec (xs := ys.set q nw) hg₀ hat₄.fs.keep (hat₄.fs.newW (a, _) List.mem_cons_self).1 (hat₄.fs.own (a, Cell.list (ys.set q nw)) List.mem_cons_self) (hr'.mono (by decide) (by decide)) hC' (mem_set_of hSy hnw) (by simpa using hq) (by simp; lia) (fun s₅ hk₅ hl₅ => ?_)
    have hat₅ := hat₄.changeL (i := 0) (b := a) (xs := Cell.list (ys.set q nw)) rfl hk₅ hl₅
    repeat k_extra "m"
    refine hQ _ (hat₅.keepsBut (as := [a]) (by simpa using hk)) ?_
    have : siftupP lt xs p = siftdownP lt (ys.set q nw) p q := by simp [siftupP, hx, hgo']
    rw [this]; exact hat₅.fs.own (a, _) List.mem_cons_self

/-- the order turned round -/
noncomputable def swp (lt : Value → Value → Bool) : Value → Value → Bool := fun a b => lt b a

theorem siftdownM_spec {w : World} {A : Around} {s : Shared} {hb : Heap} {lt : Value → Value → Bool} {S : Value → Prop} {a : Addr} {xs : List Value} {sp p : Nat} {t0 t1 : Tok} {Q E : Value → Shared → Prop}
   (hG : G w hb) (hsub : ∀ b o, hb.get? b = some o → s.heap.get? b = some o) (hoff : hb.get? a = none) (hl : s.heap.PlainList a xs.toArray) (hr : Room A 4 60)
   (hC : CmpOn w hb S lt) (hS : ∀ v ∈ xs, S v) (hp : p < xs.length) (hn : xs.length < 2^20)
   (hQ : ∀ s', KeepsBut [a] s s' → s'.heap.PlainList a (siftdownP (swp lt) xs sp p).toArray → Q .none s') :
   wpAny (model P w) A (call (.ref 262) [.ref a, .int sp t0, .int p t1]) Q E s := by
  refine call_body [(a, Cell.list (xs))] [Str.ofString "newitem", Str.ofString "parentpos", Str.ofString "parent"] (l := [("heap", some (.ref a)), ("startpos", some (.int sp t0)), ("pos", some (.int p t1)), ("newitem", none), ("parentpos", none), ("parent", none)]) hG hsub (by simpa using hoff) (by simpa using hl) (by simp) (d := 3) (u := 57) hr (by k_is) (by k_is) (BindsTo.of_eq rfl) (by decide) (locs rfl) rfl (by simp; decide) (by decide) ?_
  intro env L h₀ s₁ A' he hat hg₀ hk hr'
  dsimp only at he
  have hbh : ∀ b o, hb.get? b = some o → h₀.get? b = some o := fun b o e => hk b o (by simp; rintro rfl; rw [hoff] at e; cases e) (hsub b o e)
  have hC' := hC.keeps hbh
  obtain ⟨nw, hx⟩ : ∃ nw, xs[p]? = some nw := ⟨xs[p], by simp [hp]⟩
  have hnw : S nw := hS _ (List.mem_of_getElem? hx)
  repeat k_extra "m"
  refine sub_own (by assumption) (by k_extra "m:in") rfl hx (by lia) rfl (fun _ => rfl) ?_
  repeat k_extra "m"
  refine x_while (fun n s' => ∃ ys q tq u1 u2, n = q ∧ At s h₀ L [("heap", some (.ref a)), ("startpos", some (.int sp t0)), ("pos", some (.int (q : Nat) tq)), ("newitem", some nw), ("parentpos", u1), ("parent", u2)] [(a, Cell.list (ys))] s' ∧
    q < ys.length ∧ ys.length = xs.length ∧ (∀ v ∈ ys, S v) ∧ sdGo (swp lt) sp nw q q ys = siftdownP (swp lt) xs sp p) p ⟨xs, p, t1, _, _, rfl, by assumption, hp, rfl, hS, by simp [siftdownP, hx]⟩ ?_
  rintro n s₂ E₂ ⟨ys, q, tq, u1, u2, rfl, hat, hq, hlen, hSy, hgo⟩
  have hend : ∀ s₄ l' zs, At s h₀ L l' [(a, Cell.list (zs))] s₄ → zs = siftdownP (swp lt) xs sp p → Q .none s₄ := fun s₄ l' zs hat₄ e => hQ _ (hat₄.keepsBut (as := [a]) (by simpa using hk)) (by rw [← e]; exact hat₄.fs.own (a, _) List.mem_cons_self)
  repeat k_extra "m"
  refine u_split (fun hb => ?_) (fun hb => ?_)
  · have hlt : sp < n := by simpa using hb
    obtain ⟨m, rfl⟩ : ∃ m, n = m + 1 := ⟨n - 1, by lia⟩
    have hm : m / 2 < ys.length := by lia
    obtain ⟨pr, hpr⟩ : ∃ pr, ys[m / 2]? = some pr := ⟨ys[m / 2], by simp [hm]⟩
    repeat k_extra "m"
    refine k_shr (by decide) (fun t₃ s₃ hk₃ => ?_)
    have hat₃ := At.kept (by assumption) hk₃
    rw [fdiv_half (m + 1) (by lia)]
    repeat k_extra "m"
    refine sub_own (by assumption) (by k_extra "m:in") rfl hpr (by lia) rfl (fun _ => rfl) ?_
    repeat k_extra "m"
    refine x_if ?_
    repeat k_extra "m"
    refine hC' _ _ _ _ _ _ (hr'.mono (by decide) (by decide)) (At.fs (by assumption)).keep (hSy _ (List.mem_of_getElem? hpr)) hnw (fun s₃ hk₃ => ?_)
    have hat₃ := At.kept (by assumption) hk₃
    repeat k_extra "m"
    refine w_split (fun hb2 => ?_) (fun hb2 => ?_)
    all_goals have hb2 : swp lt nw pr = _ := hb2
    · repeat k_extra "m"
      refine set_own (by assumption) (i := 0) rfl rfl hq (by lia) (fun s₄ hat₄ => ?_)
      repeat k_extra "m"
      refine l_cont (m / 2) (by lia) ⟨_, m / 2, _, _, _, rfl, by assumption, by simpa using hm, by simpa using hlen, fun v hv => ?_, ?_⟩
      · rcases List.mem_or_eq_of_mem_set hv with h | rfl
        · exact hSy _ h
        · exact hSy _ (List.mem_of_getElem? hpr)
      · have e : sdGo (swp lt) sp nw (m + 1) (m + 1) ys = sdGo (swp lt) sp nw m (m / 2) (ys.set (m + 1) pr) := by
          rw [sdGo, if_pos hlt]; simp only [Nat.add_sub_cancel, hpr, hb2, if_true]
        rw [← hgo, e]; exact (sdGo_fuel _ _ _ m _ _ (by lia)).symm
    · repeat k_extra "m"
      refine set_own (by assumption) (i := 0) rfl rfl hq (by lia) (fun s₄ hat₄ => ?_)
      repeat k_extra "m"
      refine hend _ _ _ hat₄ ?_
      rw [← hgo, sdGo, if_pos hlt]
      simp only [Nat.add_sub_cancel, hpr, hb2, Bool.false_eq_true, if_false]
  · have hlt : ¬ sp < n := by simpa using hb
    repeat k_extra "m"
    refine set_own (by assumption) (i := 0) rfl rfl hq (by lia) (fun s₄ hat₄ => ?_)
    repeat k_extra "m"
    refine hend _ _ _ hat₄ ?_
    rw [← hgo]
    cases n with
    | zero => rfl
    | succ m => simp [sdGo, hlt]


theorem siftupM_spec {w : World} {A : Around} {s : Shared} {hb : Heap} {lt : Value → Value → Bool} {S : Value → Prop} {a : Addr} {xs : List Value} {p : Nat} {t1 : Tok} {Q E : Value → Shared → Prop}
   (hG : G w hb) (hsub : ∀ b o, hb.get? b = some o → s.heap.get? b = some o) (hoff : hb.get? a = none) (hl : s.heap.PlainList a xs.toArray) (hr : Room A 6 70)
   (hC : CmpOn w hb S lt) (hS : ∀ v ∈ xs, S v) (hp : p < xs.length) (hn : xs.length < 2^20)
   (hQ : ∀ s', KeepsBut [a] s s' → s'.heap.PlainList a (siftupP (swp lt) xs p).toArray → Q .none s') :
   wpAny (model P w) A (call (.ref 269) [.ref a, .int p t1]) Q E s := by
  refine call_body [(a, Cell.list (xs))] [Str.ofString "endpos", Str.ofString "startpos", Str.ofString "newitem", Str.ofString "childpos", Str.ofString "rightpos"] (l := [("heap", some (.ref a)), ("pos", some (.int p t1)), ("endpos", none), ("startpos", none), ("newitem", none), ("childpos", none), ("rightpos", none)]) hG hsub (by simpa using hoff) (by simpa using hl) (by simp) (d := 5) (u := 67) hr (by k_is) (by k_is) (BindsTo.of_eq rfl) (by decide) (locs rfl) rfl (by simp; decide) (by decide) ?_
  intro env L h₀ s₁ A' he hat hg₀ hk hr'
  dsimp only at he
  have hbh : ∀ b o, hb.get? b = some o → h₀.get? b = some o := fun b o e => hk b o (by simp; rintro rfl; rw [hoff] at e; cases e) (hsub b o e)
  have hC' := hC.keeps hbh
  obtain ⟨nw, hx⟩ : ∃ nw, xs[p]? = some nw := ⟨xs[p], by simp [hp]⟩
  have hnw : S nw := hS _ (List.mem_of_getElem? hx)
  repeat k_extra "m"
  refine k_len (xs := xs) (At.fs (by assumption) |>.own (a, Cell.list (xs)) List.mem_cons_self).isList (by lia) (fun t₂ s₂ hk₂ => ?_)
  have hat := At.kept (by assumption) hk₂
  repeat k_extra "m"
  refine sub_own (by assumption) (by k_extra "m:in") rfl hx (by lia) rfl (fun _ => rfl) ?_
  repeat k_extra "m"
  refine x_while (fun n s' => ∃ ys q tq tc te tsp u, n = xs.length - q ∧ At s h₀ L [("heap", some (.ref a)), ("pos", some (.int (q : Nat) tq)), ("endpos", some (.int (xs.length : Nat) te)), ("startpos", some (.int p tsp)), ("newitem", some nw), ("childpos", some (.int (2 * (q : Nat) + 1) tc)), ("rightpos", u)] [(a, Cell.list (ys))] s' ∧
    q < ys.length ∧ ys.length = xs.length ∧ (∀ v ∈ ys, S v) ∧ suGo (swp lt) xs.length q ys = suGo (swp lt) xs.length p xs) (xs.length - p) ⟨xs, p, _, _, _, _, _, rfl, by assumption, hp, rfl, hS, rfl⟩ ?_
  rintro n s₂ E₂ ⟨ys, q, tq, tc, te, tsp, u, rfl, hat, hq, hlen, hSy, hgo⟩
  repeat k_extra "m"
  refine u_split (fun hb => ?_) (fun hb => ?_)
  · have hlt : 2 * q + 1 < ys.length := by have := of_decide_eq_true hb; lia
    have hc1 := childOf_gt (swp lt) ys (2 * q + 1)
    have hc2 := childOf_lt (swp lt) ys (2 * q + 1) hlt
    obtain ⟨cv, hcv⟩ : ∃ cv, ys[childOf (swp lt) ys (2 * q + 1)]? = some cv := ⟨ys[childOf (swp lt) ys (2 * q + 1)], by simp [hc2]⟩
    repeat k_extra "m"
    refine x_join (fun s' => ∃ tc' tr, At s h₀ L [("heap", some (.ref a)), ("pos", some (.int (q : Nat) tq)), ("endpos", some (.int (xs.length : Nat) te)), ("startpos", some (.int p tsp)), ("newitem", some nw), ("childpos", some (.int (childOf (swp lt) ys (2 * q + 1) : Nat) tc')), ("rightpos", some (.int (2 * (q : Nat) + 1 + 1) tr))] [(a, Cell.list (ys))] s') ?_ ?_
    · have fin : ∀ (s' : Shared) (i : Int) (tc' tr : Tok), At s h₀ L [("heap", some (.ref a)), ("pos", some (.int (q : Nat) tq)), ("endpos", some (.int (xs.length : Nat) te)), ("startpos", some (.int p tsp)), ("newitem", some nw), ("childpos", some (.int i tc')), ("rightpos", some (.int (2 * (q : Nat) + 1 + 1) tr))] [(a, Cell.list (ys))] s' → i = ((childOf (swp lt) ys (2 * q + 1) : Nat) : Int) → Flow.next = Flow.next ∧ (fun s' => ∃ tc' tr, At s h₀ L [("heap", some (.ref a)), ("pos", some (.int (q : Nat) tq)), ("endpos", some (.int (xs.length : Nat) te)), ("startpos", some (.int p tsp)), ("newitem", some nw), ("childpos", some (.int (childOf (swp lt) ys (2 * q + 1) : Nat) tc')), ("rightpos", some (.int (2 * (q : Nat) + 1 + 1) tr))] [(a, Cell.list (ys))] s') s' := fun s' i tc' tr h e => by subst e; exact ⟨rfl, tc', tr, h⟩
      refine x_if ?_
      repeat k_extra "m"
      refine a_split (fun hb2 => ?_) (fun hb2 => ?_)
      · have hlt2 : 2 * q + 2 < ys.length := by have := of_decide_eq_true hb2; lia
        obtain ⟨c1, hc1⟩ : ∃ c1, ys[2 * q + 1]? = some c1 := ⟨ys[2 * q + 1], by simp [hlt]⟩
        obtain ⟨c2, hc2⟩ : ∃ c2, ys[2 * q + 1 + 1]? = some c2 := ⟨ys[2 * q + 1 + 1], by simp [hlt2]⟩
        repeat k_extra "m"
        refine sub_own (p := 2 * q + 1 + 1) (by assumption) (by k_extra "m:in") (by lia) hc2 (by lia) rfl (fun _ => rfl) ?_
        repeat k_extra "m"
        refine sub_own (p := 2 * q + 1) (by assumption) (by k_extra "m:in") (by lia) hc1 (by lia) rfl (fun _ => rfl) ?_
        refine hC' _ _ _ _ _ _ (hr'.mono (by decide) (by decide)) (At.fs (by assumption)).keep (hSy _ (List.mem_of_getElem? hc2)) (hSy _ (List.mem_of_getElem? hc1)) (fun s₃ hk₃ => ?_)
        have hat₃ := At.kept (by assumption) hk₃
        repeat k_extra "m"
        refine a_split (fun hb3 => ?_) (fun hb3 => ?_)
        · k_extra "m"
          refine w_tt rfl ?_
          repeat k_extra "m"
          refine fin _ _ _ _ (by with_reducible assumption) ?_
          have e : ((childOf (swp lt) ys (2 * q + 1) : Nat) : Int) = 2 * (q : Int) + 1 + 1 := by
            simp only [childOf, hc1, hc2]; rw [Bool.not_eq_true'] at hb3; have hb3 : swp lt c1 c2 = _ := hb3; simp [hb3]
          rw [e]
        · refine w_ff rfl ?_
          repeat k_extra "m"
          refine fin _ _ _ _ (by with_reducible assumption) ?_
          have e : ((childOf (swp lt) ys (2 * q + 1) : Nat) : Int) = 2 * (q : Int) + 1 := by
            simp only [childOf, hc1, hc2]; rw [Bool.not_eq_false'] at hb3; have hb3 : swp lt c1 c2 = _ := hb3; simp [hb3]
          rw [e]
      · have hlt2 : ¬ 2 * q + 2 < ys.length := by have := of_decide_eq_false hb2; lia
        refine w_ff rfl ?_
        repeat k_extra "m"
        refine fin _ _ _ _ (by with_reducible assumption) ?_
        have e : ((childOf (swp lt) ys (2 * q + 1) : Nat) : Int) = 2 * (q : Int) + 1 := by
          have : ys[2 * q + 1 + 1]? = none := by simp; lia
          unfold childOf; rw [this]; split <;> simp_all
        rw [e]
    · rintro s₃ ⟨tc', tr, hat₃⟩
      repeat k_extra "m"
      refine sub_own (by assumption) (by k_extra "m:in") rfl hcv (by lia) rfl (fun _ => rfl) ?_
      repeat k_extra "m"
      refine set_own (by assumption) (i := 0) rfl rfl hq (by lia) (fun s₄ hat₄ => ?_)
      dsimp only [List.set_cons_zero] at hat₄
      repeat k_extra "m"
      refine l_next (xs.length - childOf (swp lt) ys (2 * q + 1)) (by lia) ⟨ys.set q cv, childOf (swp lt) ys (2 * q + 1), _, _, te, tsp, _, rfl, (by with_reducible assumption), by simpa using hc2, by simpa using hlen, mem_set_of hSy (hSy _ (List.mem_of_getElem? hcv)), ?_⟩
      · rw [← hgo]
        obtain ⟨m, hm⟩ : ∃ m, xs.length = m + 1 := ⟨xs.length - 1, by lia⟩
        have e : suGo (swp lt) (m + 1) q ys = suGo (swp lt) m (childOf (swp lt) ys (2 * q + 1)) (ys.set q cv) := by rw [suGo, if_pos hlt, hcv]
        rw [hm, e]
        exact suGo_eq _ _ _ _ _ _ (Nat.le_refl _) (by simp; lia) (by simp; lia)
  · have hlt : ¬ 2 * q + 1 < ys.length := by have := of_decide_eq_false hb; lia
    have hgo' : suGo (swp lt) xs.length p xs = (ys, q) := by
      rw [← hgo]
      cases xs.length <;> simp [suGo, hlt]
    repeat k_extra "m"
    refine set_own (by assumption) (i := 0) rfl rfl hq (by lia) (fun s₄ hat₄ => ?_)
    dsimp only [List.set_cons_zero] at hat₄
    repeat k_extra "m"
    refine siftdownM_spec (xs := ys.set q nw) hg₀ hat₄.fs.keep (hat₄.fs.newW (a, _) List.mem_cons_self).1 (hat₄.fs.own (a, Cell.list (ys.set q nw)) List.mem_cons_self) (hr'.mono (by decide) (by decide)) hC' (mem_set_of hSy hnw) (by simpa using hq) (by simp; lia) (fun s₅ hk₅ hl₅ => ?_)
    have hat₅ := hat₄.changeL (i := 0) (b := a) (xs := Cell.list (ys.set q nw)) rfl hk₅ hl₅
    repeat k_extra "m"
    refine hQ _ (hat₅.keepsBut (as := [a]) (by simpa using hk)) ?_
    have : siftupP (swp lt) xs p = siftdownP (swp lt) (ys.set q nw) p q := by simp [siftupP, hx, hgo']
    rw [this]; exact hat₅.fs.own (a, _) List.mem_cons_self

theorem range_rev_meets (r : Addr) (a b c : Int) (t u v : Tok) (hc0 : ¬(!(Builtin.Range.rangeFitsLong a && Builtin.Range.rangeFitsLong b && Builtin.Range.rangeFitsLong c && Builtin.Range.rangeFitsLong (-c) && Builtin.Range.rangeFitsLong (a - c) && Builtin.Range.rangeFitsLong (Builtin.Range.rangeSize a b c))) = true) :
    Meets (Builtin.«range.__reversed__» ⟨[.ref r], []⟩) (fun _ R s => s.heap.get? r = some { cls := .type "range", dict := none, data := .fields #[.int a t, .int b u, .int c v], slots := #[] } ∧ R (.ok (.ret (Value.ref s.heap.objs.size))) { s with heap := s.heap.push { cls := Value.type (if (Builtin.Range.rangeFitsLong a && Builtin.Range.rangeFitsLong b && Builtin.Range.rangeFitsLong c && Builtin.Range.rangeFitsLong (-c) && Builtin.Range.rangeFitsLong (a - c) && Builtin.Range.rangeFitsLong (Builtin.Range.rangeSize a b c)) = true then "range_iterator" else "longrange_iterator"), data := Data.fields #[rawInt (a + (Builtin.Range.rangeSize a b c - 1) * c), rawInt (Builtin.Range.rangeSize a b c), rawInt (-c)] }, toks := s.toks }) :=
  .of_wp fun prog w A R s h => by obtain ⟨hp, g, d, tk, os⟩ := s; obtain ⟨hl, h⟩ := h; wp_walk; exact ⟨_, rfl, h⟩

theorem sub_ri_reversed : isSubtype (.type "range_iterator") (.type "reversed") = pure false := by rw [isSubtype_type]; kernel_rfl

section
variable {w : World} {A : Around} {E : Value → Shared → Prop} {s s₀ : Shared} {env : Env} {names : List (Str × NameKind)} {L : Addr} {h₀ hb : Heap} {l : List (Str × Option Value)} {W : List (Addr × Cell)}

noncomputable def revIt (n : Nat) : Obj := { cls := .type "range_iterator", data := .fields #[rawInt ((n : Int) - 1), rawInt n, rawInt (-1)] }

theorem call_range_reversed {r : Addr} {n : Nat} {t u v : Tok} {Q : Value → Shared → Prop} (hr : IsRange s.heap r 0 (n : Int) 1 t u v) (hn : n < 2 ^ 20)
    (h : Q (.ref s.heap.objs.size) { s with heap := s.heap.push (revIt n) }) : wpAny (model P w) A (call (.builtin "range.__reversed__") [.ref r]) Q E s := by
  have e : Builtin.Range.rangeSize 0 n 1 = n := by
    unfold Builtin.Range.rangeSize
    rw [if_pos (by decide)]
    split <;> lia
  have hs : (Builtin.Range.rangeFitsLong 0 && Builtin.Range.rangeFitsLong n && Builtin.Range.rangeFitsLong 1 && Builtin.Range.rangeFitsLong (-1) && Builtin.Range.rangeFitsLong (0 - 1) && Builtin.Range.rangeFitsLong (Builtin.Range.rangeSize 0 n 1)) = true := by
    have h1 : Builtin.Range.rangeFitsLong n = true := by
      unfold Builtin.Range.rangeFitsLong
      have : (n : Int) < 2 ^ 63 := by lia
      have h2 : -(2 ^ 63) ≤ (n : Int) := by lia
      simp only [decide_eq_true this, decide_eq_true h2, Bool.and_self]
    rw [e, h1]; decide +kernel
  refine call_meets F.slot_range_reversed ⟨_, hr, rfl⟩ F.entry_range_reversed (F.args_range_reversed_1 _) (range_rev_meets r 0 n 1 t u v (by rw [hs]; decide)) ⟨hr, ?_⟩
  simp only [hs, if_true]
  rw [e]
  have e2 : (0 : Int) + ((n : Int) - 1) * 1 = (n : Int) - 1 := by lia
  rw [e2]
  exact h

theorem code_reversed_new_range {r : Addr} {n : Nat} {t u v : Tok} {Q₁ : Value → Shared → Prop} (hr : IsRange s.heap r 0 (n : Int) 1 t u v) (hn : n < 2 ^ 20)
    (h : Q₁ (.ref s.heap.objs.size) { s with heap := s.heap.push (revIt n) }) :
    codeAny (model P w) A (.call (.builtin "reversed.__new__") ⟨[.type "reversed", .ref r], []⟩) (wants Q₁ E) s := by
  have hT : s.TypeIs (.ref r) "range" := ⟨_, hr, rfl⟩
  refine codeAny_of_tree ?_
  show wpAny _ A.in1 (do checkBuiltinCall "reversed.__new__" ⟨[.type "reversed", .ref r], []⟩; again (.builtin "reversed.__new__" ⟨[.type "reversed", .ref r], []⟩)) _ _ s
  refine wpAny_bind (wpAny_of_eq (F.newCall_reversed_1 _) (wpAny_pure ⟨plainId_quiet F.plain_reversed_new _, codeAny_builtin F.entry_reversed_new ?_⟩))
  rw [Around.under_plainId F.plain_reversed_new _]
  unfold Builtin.«reversed.__new__»
  refine wpAny_bind (wpAny_of_eq (newClass_reversed _) ?_)
  try dsimp only
  refine wpAny_bind (wpAny_of_eq (a := ()) (by first | rfl | kernel_rfl) ?_)
  refine wpAny_bind (wpAny_of_eq (a := ()) (by first | rfl | kernel_rfl) ?_)
  try dsimp only
  refine wpAny_bind (wpAny_specialOf hT F.slot_range_reversed.lookup ?_)
  try dsimp only
  refine wpAny_bind (wpAny_of_eq (F.slot_range_reversed.bind _) ?_)
  try dsimp only
  first
  | rw [if_neg (show ¬ ((Value.builtin "range.__reversed__" == Value.none) = true) from Bool.false_ne_true)]
  | (show wpAny _ _ (if (Value.builtin "range.__reversed__" == Value.none) = true then _ else _) _ _ _; rw [if_neg (show ¬ ((Value.builtin "range.__reversed__" == Value.none) = true) from Bool.false_ne_true)])
  refine wpAny_bind (wpAny_rule ?_)
  refine wpAny_bind (m := runValue (.call (.builtin "range.__reversed__") ⟨[.ref r], []⟩)) (show wpAny _ _ (call (.builtin "range.__reversed__") [.ref r]) _ _ _ from call_range_reversed hr hn ?_)
  first
  | exact wpAny_pure h
  | exact wpAny_bind (wpAny_pure (wpAny_pure h))

theorem call_reversed_range {r : Addr} {n : Nat} {t u v : Tok} {Q : Value → Shared → Prop} (hr : IsRange s.heap r 0 (n : Int) 1 t u v) (hn : n < 2 ^ 20)
    (h : Q (.ref s.heap.objs.size) { s with heap := s.heap.push (revIt n) }) : wpAny (model P w) A (call (.type "reversed") [.ref r]) Q E s := by
  refine callType_other (U := "range_iterator") (Q₁ := fun obj s₁ => obj = .ref s.heap.objs.size ∧ s₁ = { s with heap := s.heap.push (revIt n) }) (by decide +kernel) F.create_reversed ⟨_, _, F.mro_reversed⟩ F.made_reversed sub_ri_reversed (F.typeCall_reversed_1 _) (code_reversed_new_range hr hn ⟨rfl, rfl⟩) ?_
  rintro obj s₁ ⟨rfl, rfl⟩
  exact ⟨⟨_, Heap.get?_push_size _ rfl, rfl⟩, h⟩

theorem k_reversed {r : Addr} {n : Nat} {t u v : Tok} {Q : Value → Shared → Prop} (hr : IsRange s.heap r 0 (n : Int) 1 t u v) (hn : n < 2 ^ 20)
    (h : ∀ I s', Keeps s s' → s.heap.get? I = none → IsRangeIter s'.heap I ((n : Int) - 1) n (-1) → Q (.ref I) s') : wpAny (model P w) A (call (.type "reversed") [.ref r]) Q E s :=
  call_reversed_range hr hn (h _ _ (keeps_push s _ _) (get?_size_none _) (Heap.get?_push_size _ rfl))
end

theorem swap_perm {α : Type} {xs : List α} {i j : Nat} {a b : α} (hi : i < xs.length) (hij : i ≠ j) (hj : xs[j]? = some b) : ((xs.set i b).set j a).Perm (xs.set i a) := by
  obtain ⟨hj1, hj2⟩ := List.getElem?_eq_some_iff.mp hj
  have h1 : i < (xs.set i a).length := by simpa using hi
  have h2 : j < (xs.set i a).length := by simpa using hj1
  have := List.set_set_perm h1 h2
  simp only [List.getElem_set_self, List.getElem_set_ne hij, hj2, List.set_set] at this
  exact this

theorem set_of_get {α : Type} {xs : List α} {i : Nat} {a : α} (h : xs[i]? = some a) : xs.set i a = xs := by
  obtain ⟨h1, h2⟩ := List.getElem?_eq_some_iff.mp h
  rw [← h2]; exact List.set_getElem_self h1

theorem sdGo_perm (lt : Value → Value → Bool) (sp : Nat) (nw : Value) : ∀ (f pos : Nat) (xs : List Value), pos < xs.length → (sdGo lt sp nw f pos xs).Perm (xs.set pos nw)
  | 0, pos, xs, _ => List.Perm.refl _
  | f + 1, pos, xs, hp => by
    unfold sdGo
    split
    · split
      · rename_i hlt pr e
        split
        · have := sdGo_perm lt sp nw f ((pos - 1) / 2) (xs.set pos pr) (by simp; lia)
          exact this.trans (swap_perm hp (by lia) e)
        · exact List.Perm.refl _
      · exact List.Perm.refl _
    · exact List.Perm.refl _

theorem siftdownP_perm (lt : Value → Value → Bool) (xs : List Value) (sp pos : Nat) : (siftdownP lt xs sp pos).Perm xs := by
  unfold siftdownP
  split
  · rename_i nw e
    have := sdGo_perm lt sp nw pos pos xs (List.getElem?_eq_some_iff.mp e).1
    rwa [set_of_get e] at this
  · exact List.Perm.refl _

theorem suGo_perm (lt : Value → Value → Bool) (nw : Value) : ∀ (f pos : Nat) (xs : List Value), pos < xs.length → (suGo lt f pos xs).2 < (suGo lt f pos xs).1.length ∧ ((suGo lt f pos xs).1.set (suGo lt f pos xs).2 nw).Perm (xs.set pos nw)
  | 0, pos, xs, hp => ⟨hp, List.Perm.refl _⟩
  | f + 1, pos, xs, hp => by
    unfold suGo
    split
    · split
      · rename_i hlt c e
        have hc := childOf_gt lt xs (2 * pos + 1)
        obtain ⟨h1, h2⟩ := suGo_perm lt nw f (childOf lt xs (2 * pos + 1)) (xs.set pos c) (by simpa using (List.getElem?_eq_some_iff.mp e).1)
        exact ⟨h1, h2.trans (swap_perm hp (by lia) e)⟩
      · exact ⟨hp, List.Perm.refl _⟩
    · exact ⟨hp, List.Perm.refl _⟩

theorem siftupP_perm (lt : Value → Value → Bool) (xs : List Value) (pos : Nat) : (siftupP lt xs pos).Perm xs := by
  unfold siftupP
  split
  · rename_i nw e
    have := (suGo_perm lt nw xs.length pos xs (List.getElem?_eq_some_iff.mp e).1).2
    rw [set_of_get e] at this
    exact (siftdownP_perm ..).trans this
  · exact List.Perm.refl _

noncomputable def heapifyGo (lt : Value → Value → Bool) : Nat → List Value → List Value
  | 0, xs => xs
  | k + 1, xs => heapifyGo lt k (siftupP lt xs k)
noncomputable def heapifyP (lt : Value → Value → Bool) (xs : List Value) : List Value := heapifyGo lt (xs.length / 2) xs

theorem heapifyGo_perm (lt : Value → Value → Bool) : ∀ (k : Nat) (xs : List Value), (heapifyGo lt k xs).Perm xs
  | 0, _ => List.Perm.refl _
  | k + 1, xs => (heapifyGo_perm lt k _).trans (siftupP_perm lt xs k)

/-- what heappop leaves, and what it hands out -/
noncomputable def heappopP (lt : Value → Value → Bool) : List Value → Value × List Value
  | [] => (.none, [])
  | x :: r => match r.getLast? with
    | none => (x, [])
    | some last => (x, siftupP lt ((x :: r).dropLast.set 0 last) 0)

theorem all_cons {S : Value → Prop} {a : Value} {xs : List Value} (h : S a) (h2 : ∀ v ∈ xs, S v) : ∀ v ∈ a :: xs, S v := fun v hv => by
  rcases List.mem_cons.mp hv with rfl | hv
  · exact h
  · exact h2 _ hv

theorem heapreplace_spec {w : World} {A : Around} {s : Shared} {hb : Heap} {lt : Value → Value → Bool} {S : Value → Prop} {a : Addr} {x : Value} {xs : List Value} {item : Value} {Q E : Value → Shared → Prop}
   (hG : G w hb) (hsub : ∀ b o, hb.get? b = some o → s.heap.get? b = some o) (hoff : hb.get? a = none) (hl : s.heap.PlainList a (x :: xs).toArray) (hr : Room A 8 80)
   (hC : CmpOn w hb S lt) (hS : ∀ v ∈ xs, S v) (hSi : S item) (hn : xs.length + 1 < 2^20)
   (hQ : ∀ s', KeepsBut [a] s s' → s'.heap.PlainList a (siftupP lt (item :: xs) 0).toArray → Q x s') :
   wpAny (model P w) A (call (.ref 220) [.ref a, item]) Q E s := by
  refine call_body [(a, Cell.list (x :: xs))] [Str.ofString "returnitem"] (l := [("heap", some (.ref a)), ("item", some item), ("returnitem", none)]) hG hsub (by simpa using hoff) (by simpa using hl) (by simp) (d := 7) (u := 77) hr (by k_is) (by k_is) (BindsTo.of_eq rfl) (by decide) (locs rfl) rfl (by simp; decide) (by decide) ?_
  intro env L h₀ s₁ A' he hat hg₀ hk hr'
  dsimp only at he
  have hbh : ∀ b o, hb.get? b = some o → h₀.get? b = some o := fun b o e => hk b o (by simp; rintro rfl; rw [hoff] at e; cases e) (hsub b o e)
  have hC' := hC.keeps hbh
  repeat k_extra "m"
  refine sub_own (p := 0) (by assumption) (by k_extra "m:in") rfl (show (x :: xs)[0]? = some x from rfl) (by lia) rfl (fun _ => rfl) ?_
  repeat k_extra "m"
  refine set_own (p := 0) (by assumption) (i := 0) rfl rfl (by simp) (by lia) (fun s₄ hat₄ => ?_)
  dsimp only [List.set_cons_zero] at hat₄
  repeat k_extra "m"
  rename_i hat₅
  refine siftup_spec (p := 0) (xs := item :: xs) hg₀ hat₅.fs.keep (hat₅.fs.newW (a, _) List.mem_cons_self).1 (hat₅.fs.own (a, Cell.list (item :: xs)) List.mem_cons_self) (hr'.mono (by decide) (by decide)) hC' (all_cons hSi hS) (by simp) (by simpa using hn) (fun s₆ hk₆ hl₆ => ?_)
  have hat₆ := hat₅.changeL (i := 0) (b := a) (xs := Cell.list (item :: xs)) rfl hk₆ hl₆
  dsimp only [List.set_cons_zero] at hat₆
  repeat k_extra "m"
  exact hQ _ (hat₆.keepsBut (as := [a]) (by simpa using hk)) (hat₆.fs.own (a, _) List.mem_cons_self)

noncomputable def popRest (lt : Value → Value → Bool) (last : Value) : List Value → List Value
  | [] => []
  | _ :: r => siftupP lt (last :: r) 0
noncomputable def popItem (last : Value) : List Value → Value
  | [] => last
  | x :: _ => x

theorem heappop_spec {w : World} {A : Around} {s : Shared} {hb : Heap} {lt : Value → Value → Bool} {S : Value → Prop} {a : Addr} {last : Value} {xs : List Value} {Q E : Value → Shared → Prop}
   (hG : G w hb) (hsub : ∀ b o, hb.get? b = some o → s.heap.get? b = some o) (hoff : hb.get? a = none) (hl : s.heap.PlainList a (xs ++ [last]).toArray) (hr : Room A 8 80)
   (hC : CmpOn w hb S lt) (hS : ∀ v ∈ xs, S v) (hSi : S last) (hn : xs.length + 1 < 2^20)
   (hQ : ∀ s', KeepsBut [a] s s' → s'.heap.PlainList a (popRest lt last xs).toArray → Q (popItem last xs) s') :
   wpAny (model P w) A (call (.ref 213) [.ref a]) Q E s := by
  refine call_body [(a, Cell.list (xs ++ [last]))] [Str.ofString "lastelt", Str.ofString "returnitem"] (l := [("heap", some (.ref a)), ("lastelt", none), ("returnitem", none)]) hG hsub (by simpa using hoff) (by simpa using hl) (by simp) (d := 7) (u := 77) hr (by k_is) (by k_is) (BindsTo.of_eq rfl) (by decide) (locs rfl) rfl (by simp; decide) (by decide) ?_
  intro env L h₀ s₁ A' he hat hg₀ hk hr'
  dsimp only at he
  have hbh : ∀ b o, hb.get? b = some o → h₀.get? b = some o := fun b o e => hk b o (by simp; rintro rfl; rw [hoff] at e; cases e) (hsub b o e)
  have hC' := hC.keeps hbh
  repeat k_extra "m"
  refine gm_list (hat.fs.own (a, Cell.list (xs ++ [last])) List.mem_cons_self) PySem.F.slot_list_pop PySem.F.type_list_pop ?_
  repeat k_extra "m"
  refine k_pop (hat.fs.own (a, Cell.list (xs ++ [last])) List.mem_cons_self) (by lia) (fun s₂ hk₂ hl₂ => ?_)
  have hat₂ := hat.changeL (i := 0) (b := a) (xs := Cell.list (xs ++ [last])) rfl hk₂ hl₂
  dsimp only [List.set_cons_zero] at hat₂
  repeat k_extra "m"
  rename_i hat₃
  refine x_if ?_
  repeat k_extra "m"
  refine k_truthyL (xs := xs) (hat₃.fs.own (a, Cell.list (xs)) List.mem_cons_self).isList (by lia) (fun s₄ hk₄ => ?_)
  have hat₄ := hat₃.kept hk₄
  cases xs with
  | nil =>
    refine w_ff rfl ?_
    repeat k_extra "m"
    exact hQ _ (hat₄.keepsBut (as := [a]) (by simpa using hk)) (hat₄.fs.own (a, _) List.mem_cons_self)
  | cons x r =>
    refine w_tt rfl ?_
    repeat k_extra "m"
    refine sub_own (p := 0) (by assumption) (by k_extra "m:in") rfl (show (x :: r)[0]? = some x from rfl) (by lia) rfl (fun _ => rfl) ?_
    repeat k_extra "m"
    refine set_own (p := 0) (by assumption) (i := 0) rfl rfl (by simp) (by lia) (fun s₅ hat₅ => ?_)
    dsimp only [List.set_cons_zero] at hat₅
    repeat k_extra "m"
    rename_i hat₆
    have hSr : ∀ v ∈ r, S v := fun v hv => hS v (List.mem_cons_of_mem _ hv)
    refine siftup_spec (p := 0) (xs := last :: r) hg₀ hat₆.fs.keep (hat₆.fs.newW (a, _) List.mem_cons_self).1 (hat₆.fs.own (a, Cell.list (last :: r)) List.mem_cons_self) (hr'.mono (by decide) (by decide)) hC' (all_cons hSi hSr) (by simp) (by simp at hn ⊢; lia) (fun s₇ hk₇ hl₇ => ?_)
    have hat₇ := hat₆.changeL (i := 0) (b := a) (xs := Cell.list (last :: r)) rfl hk₇ hl₇
    dsimp only [List.set_cons_zero] at hat₇
    repeat k_extra "m"
    exact hQ _ (hat₇.keepsBut (as := [a]) (by simpa using hk)) (hat₇.fs.own (a, _) List.mem_cons_self)

theorem heapify_spec {w : World} {A : Around} {s : Shared} {hb : Heap} {lt : Value → Value → Bool} {S : Value → Prop} {a : Addr} {xs : List Value} {Q E : Value → Shared → Prop}
   (hG : G w hb) (hsub : ∀ b o, hb.get? b = some o → s.heap.get? b = some o) (hoff : hb.get? a = none) (hl : s.heap.PlainList a xs.toArray) (hr : Room A 8 80)
   (hC : CmpOn w hb S lt) (hS : ∀ v ∈ xs, S v) (hn : xs.length < 2^20)
   (hQ : ∀ s', KeepsBut [a] s s' → s'.heap.PlainList a (heapifyP lt xs).toArray → Q .none s') :
   wpAny (model P w) A (call (.ref 227) [.ref a]) Q E s := by
  refine call_body [(a, Cell.list (xs))] [Str.ofString "n", Str.ofString "i"] (l := [("x", some (.ref a)), ("n", none), ("i", none)]) hG hsub (by simpa using hoff) (by simpa using hl) (by simp) (d := 7) (u := 77) hr (by k_is) (by k_is) (BindsTo.of_eq rfl) (by decide) (locs rfl) rfl (by simp; decide) (by decide) ?_
  intro env L h₀ s₁ A' he hat hg₀ hk hr'
  dsimp only at he
  have hbh : ∀ b o, hb.get? b = some o → h₀.get? b = some o := fun b o e => hk b o (by simp; rintro rfl; rw [hoff] at e; cases e) (hsub b o e)
  have hC' := hC.keeps hbh
  repeat k_extra "m"
  refine k_len (xs := xs) (At.fs (by assumption) |>.own (a, Cell.list (xs)) List.mem_cons_self).isList (show xs.length < 2 ^ 62 by lia) (fun t₂ s₂ hk₂ => ?_)
  have hat₂ := At.kept (by assumption) hk₂
  repeat k_extra "m"
  refine wpAny_For ?_
  repeat k_extra "m"
  refine k_half (fun t₃ s₃ hk₃ => ?_)
  have hat₃ := At.kept (by assumption) hk₃
  repeat k_extra "m"
  refine k_range1 (fun r t₄ u₄ v₄ s₄ hk₄ _ hr₄ => ?_)
  have hat₄ := hat₃.kept hk₄
  repeat k_extra "m"
  refine k_reversed hr₄ (by lia) (fun I s₅ hk₅ hI hi₅ => ?_)
  have hfr := hat₄.fresh hI
  have hat₅ := hat₄.kept hk₅
  repeat k_extra "m"
  refine wpAny_pyIter_rangeiter hi₅ ?_
  refine x_for (fun i l W => ∃ (ys : List Value) (u : Option Value), l = ([("x", some (.ref a)), ("n", some (.int xs.length t₂)), ("i", u)] : List (Str × Option Value)) ∧ W = ([(a, Cell.list ys)] : List (Addr × Cell)) ∧ ys.length = xs.length ∧ (∀ v ∈ ys, S v) ∧ heapifyGo lt (xs.length / 2 - i) ys = heapifyP lt xs) hat₅
    (Walks.range hr'.handled I ((xs.length / 2 : Nat) - 1) (-1) (xs.length / 2)) (by simpa using hi₅) (as := [a]) (fun b hb => (List.mem_singleton.mp hb) ▸ hfr.2) (fun b hb => (List.mem_singleton.mp hb) ▸ hfr.1)
    ⟨xs, _, rfl, rfl, rfl, hS, by rw [Nat.sub_zero]; rfl⟩ rfl ?_ ?_
  · rintro i v l W h₁ s₆ E₆ hi ⟨tv, rfl⟩ ⟨ys, u, rfl, rfl, hlen, hSy, hgo⟩ _ hk₁ hat₆
    obtain ⟨m, hm⟩ : ∃ m, xs.length / 2 - i = m + 1 := ⟨xs.length / 2 - i - 1, by lia⟩
    have ei : (((xs.length / 2 : Nat) : Int) - 1 + (i : Int) * -1) = (m : Int) := by lia
    rw [ei]
    have hg₁ := hg₀.keeps hk₁
    repeat k_extra "m"
    rename_i hat₇
    refine siftup_spec (p := m) (xs := ys) hg₁ hat₇.fs.keep (hat₇.fs.newW (a, _) List.mem_cons_self).1 (hat₇.fs.own (a, Cell.list (ys)) List.mem_cons_self) (hr'.mono (by decide) (by decide)) (hC'.keeps hk₁) hSy (by lia) (by lia) (fun s₈ hk₈ hl₈ => ?_)
    have hat₈ := hat₇.changeL (i := 0) (b := a) (xs := Cell.list (ys)) rfl hk₈ hl₈
    dsimp only [List.set_cons_zero] at hat₈
    repeat k_extra "m"
    refine f_next hat₈ rfl ⟨_, _, rfl, rfl, ?_, fun v hv => hSy v ((siftupP_perm lt ys m).mem_iff.mp hv), ?_⟩
    · rw [(siftupP_perm lt ys m).length_eq, hlen]
    · rw [← hgo, hm, show xs.length / 2 - (i + 1) = m by lia]; rfl
  · rintro l W s₆ ⟨ys, u, rfl, rfl, hlen, hSy, hgo⟩ _ hat₆
    repeat k_extra "m"
    rw [Nat.sub_self] at hgo
    refine hQ _ (hat₆.keepsBut (as := [a]) (by simpa using hk)) ?_
    rw [← hgo]; exact hat₆.fs.own (a, Cell.list (ys)) List.mem_cons_self

theorem heapreplaceM_spec {w : World} {A : Around} {s : Shared} {hb : Heap} {lt : Value → Value → Bool} {S : Value → Prop} {a : Addr} {x : Value} {xs : List Value} {item : Value} {Q E : Value → Shared → Prop}
   (hG : G w hb) (hsub : ∀ b o, hb.get? b = some o → s.heap.get? b = some o) (hoff : hb.get? a = none) (hl : s.heap.PlainList a (x :: xs).toArray) (hr : Room A 8 80)
   (hC : CmpOn w hb S lt) (hS : ∀ v ∈ xs, S v) (hSi : S item) (hn : xs.length + 1 < 2^20)
   (hQ : ∀ s', KeepsBut [a] s s' → s'.heap.PlainList a (siftupP (swp lt) (item :: xs) 0).toArray → Q x s') :
   wpAny (model P w) A (call (.ref 234) [.ref a, item]) Q E s := by
  refine call_body [(a, Cell.list (x :: xs))] [Str.ofString "returnitem"] (l := [("heap", some (.ref a)), ("item", some item), ("returnitem", none)]) hG hsub (by simpa using hoff) (by simpa using hl) (by simp) (d := 7) (u := 77) hr (by k_is) (by k_is) (BindsTo.of_eq rfl) (by decide) (locs rfl) rfl (by simp; decide) (by decide) ?_
  intro env L h₀ s₁ A' he hat hg₀ hk hr'
  dsimp only at he
  have hbh : ∀ b o, hb.get? b = some o → h₀.get? b = some o := fun b o e => hk b o (by simp; rintro rfl; rw [hoff] at e; cases e) (hsub b o e)
  have hC' := hC.keeps hbh
  repeat k_extra "m"
  refine sub_own (p := 0) (by assumption) (by k_extra "m:in") rfl (show (x :: xs)[0]? = some x from rfl) (by lia) rfl (fun _ => rfl) ?_
  repeat k_extra "m"
  refine set_own (p := 0) (by assumption) (i := 0) rfl rfl (by simp) (by lia) (fun s₄ hat₄ => ?_)
  dsimp only [List.set_cons_zero] at hat₄
  repeat k_extra "m"
  rename_i hat₅
  refine siftupM_spec (p := 0) (xs := item :: xs) hg₀ hat₅.fs.keep (hat₅.fs.newW (a, _) List.mem_cons_self).1 (hat₅.fs.own (a, Cell.list (item :: xs)) List.mem_cons_self) (hr'.mono (by decide) (by decide)) hC' (all_cons hSi hS) (by simp) (by simpa using hn) (fun s₆ hk₆ hl₆ => ?_)
  have hat₆ := hat₅.changeL (i := 0) (b := a) (xs := Cell.list (item :: xs)) rfl hk₆ hl₆
  dsimp only [List.set_cons_zero] at hat₆
  repeat k_extra "m"
  exact hQ _ (hat₆.keepsBut (as := [a]) (by simpa using hk)) (hat₆.fs.own (a, _) List.mem_cons_self)

theorem heapifyM_spec {w : World} {A : Around} {s : Shared} {hb : Heap} {lt : Value → Value → Bool} {S : Value → Prop} {a : Addr} {xs : List Value} {Q E : Value → Shared → Prop}
   (hG : G w hb) (hsub : ∀ b o, hb.get? b = some o → s.heap.get? b = some o) (hoff : hb.get? a = none) (hl : s.heap.PlainList a xs.toArray) (hr : Room A 8 80)
   (hC : CmpOn w hb S lt) (hS : ∀ v ∈ xs, S v) (hn : xs.length < 2^20)
   (hQ : ∀ s', KeepsBut [a] s s' → s'.heap.PlainList a (heapifyP (swp lt) xs).toArray → Q .none s') :
   wpAny (model P w) A (call (.ref 241) [.ref a]) Q E s := by
  refine call_body [(a, Cell.list (xs))] [Str.ofString "n", Str.ofString "i"] (l := [("x", some (.ref a)), ("n", none), ("i", none)]) hG hsub (by simpa using hoff) (by simpa using hl) (by simp) (d := 7) (u := 77) hr (by k_is) (by k_is) (BindsTo.of_eq rfl) (by decide) (locs rfl) rfl (by simp; decide) (by decide) ?_
  intro env L h₀ s₁ A' he hat hg₀ hk hr'
  dsimp only at he
  have hbh : ∀ b o, hb.get? b = some o → h₀.get? b = some o := fun b o e => hk b o (by simp; rintro rfl; rw [hoff] at e; cases e) (hsub b o e)
  have hC' := hC.keeps hbh
  repeat k_extra "m"
  refine k_len (xs := xs) (At.fs (by assumption) |>.own (a, Cell.list (xs)) List.mem_cons_self).isList (show xs.length < 2 ^ 62 by lia) (fun t₂ s₂ hk₂ => ?_)
  have hat₂ := At.kept (by assumption) hk₂
  repeat k_extra "m"
  refine wpAny_For ?_
  repeat k_extra "m"
  refine k_half (fun t₃ s₃ hk₃ => ?_)
  have hat₃ := At.kept (by assumption) hk₃
  repeat k_extra "m"
  refine k_range1 (fun r t₄ u₄ v₄ s₄ hk₄ _ hr₄ => ?_)
  have hat₄ := hat₃.kept hk₄
  repeat k_extra "m"
  refine k_reversed hr₄ (by lia) (fun I s₅ hk₅ hI hi₅ => ?_)
  have hfr := hat₄.fresh hI
  have hat₅ := hat₄.kept hk₅
  repeat k_extra "m"
  refine wpAny_pyIter_rangeiter hi₅ ?_
  refine x_for (fun i l W => ∃ (ys : List Value) (u : Option Value), l = ([("x", some (.ref a)), ("n", some (.int xs.length t₂)), ("i", u)] : List (Str × Option Value)) ∧ W = ([(a, Cell.list ys)] : List (Addr × Cell)) ∧ ys.length = xs.length ∧ (∀ v ∈ ys, S v) ∧ heapifyGo (swp lt) (xs.length / 2 - i) ys = heapifyP (swp lt) xs) hat₅
    (Walks.range hr'.handled I ((xs.length / 2 : Nat) - 1) (-1) (xs.length / 2)) (by simpa using hi₅) (as := [a]) (fun b hb => (List.mem_singleton.mp hb) ▸ hfr.2) (fun b hb => (List.mem_singleton.mp hb) ▸ hfr.1)
    ⟨xs, _, rfl, rfl, rfl, hS, by rw [Nat.sub_zero]; rfl⟩ rfl ?_ ?_
  · rintro i v l W h₁ s₆ E₆ hi ⟨tv, rfl⟩ ⟨ys, u, rfl, rfl, hlen, hSy, hgo⟩ _ hk₁ hat₆
    obtain ⟨m, hm⟩ : ∃ m, xs.length / 2 - i = m + 1 := ⟨xs.length / 2 - i - 1, by lia⟩
    have ei : (((xs.length / 2 : Nat) : Int) - 1 + (i : Int) * -1) = (m : Int) := by lia
    rw [ei]
    have hg₁ := hg₀.keeps hk₁
    repeat k_extra "m"
    rename_i hat₇
    refine siftupM_spec (p := m) (xs := ys) hg₁ hat₇.fs.keep (hat₇.fs.newW (a, _) List.mem_cons_self).1 (hat₇.fs.own (a, Cell.list (ys)) List.mem_cons_self) (hr'.mono (by decide) (by decide)) (hC'.keeps hk₁) hSy (by lia) (by lia) (fun s₈ hk₈ hl₈ => ?_)
    have hat₈ := hat₇.changeL (i := 0) (b := a) (xs := Cell.list (ys)) rfl hk₈ hl₈
    dsimp only [List.set_cons_zero] at hat₈
    repeat k_extra "m"
    refine f_next hat₈ rfl ⟨_, _, rfl, rfl, ?_, fun v hv => hSy v ((siftupP_perm (swp lt) ys m).mem_iff.mp hv), ?_⟩
    · rw [(siftupP_perm (swp lt) ys m).length_eq, hlen]
    · rw [← hgo, hm, show xs.length / 2 - (i + 1) = m by lia]; rfl
  · rintro l W s₆ ⟨ys, u, rfl, rfl, hlen, hSy, hgo⟩ _ hat₆
    repeat k_extra "m"
    rw [Nat.sub_self] at hgo
    refine hQ _ (hat₆.keepsBut (as := [a]) (by simpa using hk)) ?_
    rw [← hgo]; exact hat₆.fs.own (a, Cell.list (ys)) List.mem_cons_self

section
open Builtin Builtin.ObjectAttr Builtin.Getset_descriptor
variable {w : World} {A : Around} {E : Value → Shared → Prop} {s s₀ : Shared} {env : Env} {names : List (Str × NameKind)} {L : Addr} {h₀ hb : Heap} {l : List (Str × Option Value)} {W : List (Addr × Cell)}

theorem x_assignAttr {M : Model} {o : Expr} {attr : Str} {p : Pos} {value : Expr} {pos : Pos} {Q : Flow → Shared → Prop} (hs : swapsWith value (some (.Attribute o attr p)) pos.line env = pure false)
    (h : wpAny M A (eval value env) (fun v s₁ => wpAny M A (eval o env) (fun ov s₂ => wpAny M A (setAttr ov attr v) (fun _ => Q .next) E s₂) E s₁) E s) : wpAny M A (exec (.Assign [.Attribute o attr p] value pos) env) Q E s :=
  plainObj_wpAny_Assign_Attribute h hs
theorem x_attr {M : Model} {n attr : Str} {np pos : Pos} {Q : Value → Shared → Prop} (h : wpAny M A (eval (.Name n np) env) (fun o s₁ => wpAny M A (getAttr o attr true) Q E s₁) E s) :
    wpAny M A (eval (.Attribute (.Name n np) attr pos) env) Q E s := PyProof.Rows.Attribute_name h

/-- a callee that is a class or a def of the text -/
theorem cw_K {f : Addr} {pos : Pos} {e : Expr} {rest : List Expr} {Q : Value → Shared → Prop} (hk : keepIn (hx.heap_1 w.params) (.ref f) = true) (he : starEach (e :: rest) env = (false, eval e env) :: starEach rest env)
    (hplain : ((backTo pos (starEach (e :: rest) env)).any (·.1) || ([] : List (Option Str × Sem Value)).any (·.1.isNone)) = false)
    (h : wpAny (model P w) A (spliced (backTo pos (starEach (e :: rest) env))) (fun vs s₁ => G w s₁.heap ∧ wpAny (model P w) A (call (.ref f) vs) Q E s₁) E s) :
    wpAny (model P w) A (callWith pos (.ref f) [] (backTo pos (starEach (e :: rest) env)) []) Q E s := by
  refine callWith_of hplain (keeps_K (M := model P w) hk) ?_
  rw [he] at h ⊢
  exact Calls.evalArgs_plain (wpAny_mono h (fun _ _ q => ⟨q.1.kin, q.2⟩) fun _ _ z => z)

theorem mset_raw {K : Frag} {x C p : Addr} {ox ox' : Obj} {od : Option Obj} {v : Value} {i : Nat} {R : Result → Shared → Prop} (X : K.In s.heap) (I : InstAt s.heap x ox C od)
    (hp : slotIn K p C = some i) (hi : i < 1000)
    (e : { ox with slots := (ox.slots ++ Array.replicate (i + 1 - ox.slots.size) none).setIfInBounds i (some v) } = ox') (hf : ox'.isFreed = false)
    (h : ∀ h', (∀ b o, b ≠ x → s.heap.get? b = some o → h'.get? b = some o) → h'.get? x = some ox' → R (.ok (.ret .none)) { s with heap := h' }) :
    codeAny (model P w) A (.call (.builtin "member_descriptor.__set__") ⟨[.ref p, .ref x, v], []⟩) R s := by
  obtain ⟨n, tn, owner, behind, tb, d, sl, cd, ho, hc, hm, hb, rfl⟩ := slot_of X hp
  obtain ⟨hh, g, dr, t, os⟩ := s
  have L0 := I.type (M := model P w)
  have L1 := looks_mroIn (M := model P w) X hm
  have L2 : Looks (model P w) hh (Slots.slotNamesOf (.ref C)) cd.slotNames := (looks_clsIn X hc).andThen .now
  have hx := I.at_
  dsimp only at ho hx L0 L1
  have f0 := looks_field (M := model P w) ho 0 (v := .str n tn) rfl
  have f1 := looks_field (M := model P w) ho 1 (v := owner) rfl
  have f3 := looks_field (M := model P w) ho 3 (v := .builtin "proto.slot#set") rfl
  have f4 := looks_field (M := model P w) ho 4 (v := .int behind tb) rfl
  refine codeAny_call_builtin KF.slot_mset.plain KF.entry_mset (KF.slot_mset.check _ _ _ _ _ _ _ _ ⟨_, ho, rfl⟩ (KF.args_mset _ _ _) ?_)
  unfold Builtin.«member_descriptor.__set__» descrSet descrStoreThrough descrCheckInstance descrNameAndClass isInstance
  have f5 : Looks (model P w) hh (descrItself (.ref p)) [.ref p] := ((Looks.ld (part := none) ho).andThen .now).andThen (Looks.of_pure (by kernel_rfl))
  repeat lk
  refine ⟨Code.quiet_builtin _ (by decide +kernel), codeAny_builtin KF.entry_slotset ?_⟩
  unfold Builtin.«proto.slot#set» Slots.target
  repeat lk
  rw [if_neg hb]
  refine wpAny_pure (wpAny_bind ?_)
  unfold setSlotAt
  dsimp only
  rw [if_neg (by rw [sizeLine_eq]; lia)]
  refine wpAny_updatePart hx (wpAny_pure (h _ (fun b o hb' e' => (Heap.get?_update_other _ _ (Ne.symm hb')).trans e') ?_))
  rw [Heap.get?_update_self _ hx (by rw [e]; exact hf), e]

/-- x.name = v, by a slot -/
theorem setAttr_slot {x C p : Addr} {ox ox' : Obj} {od : Obj} {name : Str} {v : Value} {i : Nat} {Q : Unit → Shared → Prop} (X : (hx.heap_1 w.params).In s.heap) (I : InstAt s.heap x ox C (some od))
    (hs : findIn (hx.heap_1 w.params) (.ref C) "__setattr__" = some (some (.builtin "object.__setattr__"))) (hp : plainOver (hx.heap_1 w.params) C = true) (ht : takerIn (hx.heap_1 w.params) C name = some (some (.ref p))) (hT : typeIn (hx.heap_1 w.params) (.ref p) = some (.type "member_descriptor")) (hi : slotIn (hx.heap_1 w.params) p C = some i) (hz : i < 1000)
    (e : { ox with slots := (ox.slots ++ Array.replicate (i + 1 - ox.slots.size) none).setIfInBounds i (some v) } = ox') (hf : ox'.isFreed = false)
    (h : ∀ s', KeepsBut [x] s s' → s'.heap.get? x = some ox' → Q () s') : wpAny (model P w) A (setAttr (.ref x) name v) Q E s :=
  W.set_plain X I hs (osa_descr (s := { s with toks := s.toks + 1 }) KF.slot_mset X I hp ht hT (mset_raw (s := { s with toks := s.toks + 1 }) X I hi hz e hf fun h' k hx' => h _ ⟨h', _, rfl, fun b o hb => k b o (by simpa using hb)⟩ hx'))

/-- x.name, by a slot -/
theorem getAttr_slot {x C p : Addr} {ox od : Obj} {name : Str} {v : Value} {i : Nat} {expr : Bool} {Q : Value → Shared → Prop} (X : (hx.heap_1 w.params).In s.heap) (I : InstAt s.heap x ox C (some od)) (hg : plainGet (hx.heap_1 w.params) C name = true) (hc : isClsIn (hx.heap_1 w.params) C = true)
    (ha : findIn (hx.heap_1 w.params) (.ref C) name = some (some (.ref p))) (hn : specialIn (hx.heap_1 w.params) (.ref p) "__get__" = some (some (.builtin "member_descriptor.__get__"))) (ht : takesIn (hx.heap_1 w.params) (.ref p) = some true) (hp : slotIn (hx.heap_1 w.params) p C = some i)
    (hv : (ox.slots[i]?).join = some v) (hh : handedIn v = true) (h : ∀ s', Keeps s s' → Q v s') : wpAny (model P w) A (getAttr (.ref x) name expr) Q E s :=
  get_bind X I (plainGet_of hg).1 (findObj_data hc ha hn ht) (plainGet_of hg).2 (wpAny_call (slot_get (s := { s with toks := s.toks + 1 }) X I hp hv (handed_on hh (h _ (keeps_tok s (s.toks + 1))))))
end

theorem ff_slot_func (w : World) : slotIn (hx.heap_1 w.params) 72 71 = some 0 := by k_is
theorem ff_slot_it (w : World) : slotIn (hx.heap_1 w.params) 73 71 = some 1 := by k_is
theorem ff_find_init (w : World) : findIn (hx.heap_1 w.params) (.ref 71) "__init__" = some (some (.ref 53)) := by k_is
theorem ff_make (w : World) : makesIn (hx.heap_1 w.params) 71 = true := by k_is
theorem ff_keep (w : World) : keepIn (hx.heap_1 w.params) (.ref 71) = true := by k_is
theorem ff_setattr (w : World) : findIn (hx.heap_1 w.params) (.ref 71) "__setattr__" = some (some (.builtin "object.__setattr__")) := by k_is
theorem ff_over (w : World) : plainOver (hx.heap_1 w.params) 71 = true := by k_is
theorem ff_taker_func (w : World) : takerIn (hx.heap_1 w.params) 71 "_func" = some (some (.ref 72)) := by k_is
theorem ff_taker_it (w : World) : takerIn (hx.heap_1 w.params) 71 "_it" = some (some (.ref 73)) := by k_is
theorem ff_type_func (w : World) : typeIn (hx.heap_1 w.params) (.ref 72) = some (.type "member_descriptor") := by k_is
theorem ff_type_it (w : World) : typeIn (hx.heap_1 w.params) (.ref 73) = some (.type "member_descriptor") := by k_is
theorem ff_find_func (w : World) : findIn (hx.heap_1 w.params) (.ref 71) "_func" = some (some (.ref 72)) := by k_is
theorem ff_find_it (w : World) : findIn (hx.heap_1 w.params) (.ref 71) "_it" = some (some (.ref 73)) := by k_is
theorem ff_special_func (w : World) : specialIn (hx.heap_1 w.params) (.ref 72) "__get__" = some (some (.builtin "member_descriptor.__get__")) := by k_is
theorem ff_special_it (w : World) : specialIn (hx.heap_1 w.params) (.ref 73) "__get__" = some (some (.builtin "member_descriptor.__get__")) := by k_is
theorem ff_takes_func (w : World) : takesIn (hx.heap_1 w.params) (.ref 72) = some true := by k_is
theorem ff_takes_it (w : World) : takesIn (hx.heap_1 w.params) (.ref 73) = some true := by k_is
theorem ff_get_func (w : World) : plainGet (hx.heap_1 w.params) 71 "_func" = true := by k_is
theorem ff_get_it (w : World) : plainGet (hx.heap_1 w.params) 71 "_it" = true := by k_is
theorem ff_cls (w : World) : isClsIn (hx.heap_1 w.params) 71 = true := by k_is
theorem ff_find_next (w : World) : findIn (hx.heap_1 w.params) (.ref 71) "__next__" = some (some (.ref 67)) := by k_is
theorem ff_find_iter (w : World) : findIn (hx.heap_1 w.params) (.ref 71) "__iter__" = some (some (.ref 60)) := by k_is
theorem ff_find_len (w : World) : findIn (hx.heap_1 w.params) (.ref 71) "__len__" = some none := by k_is
theorem ff_find_hint (w : World) : findIn (hx.heap_1 w.params) (.ref 71) "__length_hint__" = some none := by k_is
theorem ff_fn_init (w : World) : typeIn (hx.heap_1 w.params) (.ref 53) = some (.type "function") := by k_is
theorem ff_fn_iter (w : World) : typeIn (hx.heap_1 w.params) (.ref 60) = some (.type "function") := by k_is
theorem ff_fn_next (w : World) : typeIn (hx.heap_1 w.params) (.ref 67) = some (.type "function") := by k_is

/-- the object: after the first store, after both -/
noncomputable abbrev ffObj1 (dx I : Addr) : Obj := { cls := .ref 71, dict := some dx, data := .plain, slots := #[none, some (.ref I)] }
noncomputable abbrev ffObj (dx I : Addr) (fn : Value) : Obj := { cls := .ref 71, dict := some dx, data := .plain, slots := #[some fn, some (.ref I)] }

section
variable {w : World} {A : Around} {E : Value → Shared → Prop} {s s₀ : Shared} {env : Env} {names : List (Str × NameKind)} {L : Addr} {h₀ hb : Heap} {l : List (Str × Option Value)} {W : List (Addr × Cell)}

theorem k_iter_list {b : Addr} {xs : Array Value} {Q : Value → Shared → Prop} (hl : s.heap.IsList b xs) (h : ∀ I s', Keeps s s' → s.heap.get? I = none → s'.heap.get? I = some { cls := .type "list_iterator", data := .fields #[.ref b, .int 0 0] } → Q (.ref I) s') :
    wpAny (model P w) A (call (.builtin "iter") [.ref b]) Q E s := by
  refine PySem.Calls.call_function_entry (by decide +kernel) (by decide +kernel) kdk_entry_iter (kdk_args_iter _) ?_
  unfold Builtin.«iter»
  refine wpAny_bind (m := someArgs "iter" 1 2 _) (wpAny_of_eq (a := [Value.ref b]) (by first | rfl | kernel_rfl!) ?_)
  show wpAny _ _ (pyIter (.ref b) >>= _) _ _ _
  refine wpAny_bind (wpAny_pyIter_list hl ?_)
  exact wpAny_pure ⟨_, rfl, h _ _ (keeps_push s _ _) (get?_size_none _) (Heap.get?_push_size _ rfl)⟩


theorem ff_init {x dx fl : Addr} {fn : Value} {xs : Array Value} {Q : Result → Shared → Prop} (hG : G w hb) (hsub : ∀ b o, hb.get? b = some o → s.heap.get? b = some o) (hoff : hb.get? x = none)
    (hx' : s.heap.get? x = some (instObj 71 dx)) (hdx : s.heap.get? dx = some emptyDict) (hne : dx ≠ x) (hl : s.heap.IsList fl xs) (hfl : fl ≠ x) (hr : Room A 4 40)
    (h : ∀ I s', KeepsBut [x] s s' → s.heap.get? I = none → s'.heap.get? I = some { cls := .type "list_iterator", data := .fields #[.ref fl, .int 0 0] } → s'.heap.get? x = some (ffObj dx I fn) → Q (.ok (.ret .none)) s') :
    codeAny (model P w) A (.call (.ref 53) ⟨[.ref x, fn, .ref fl], []⟩) Q s := by
  refine code_bodyF [(x, Cell.obj (instObj 71 dx))] [] [] (l := [("self", some (.ref x)), ("function", some fn), ("iterable", some (.ref fl))]) hG hsub (by simpa using hoff) (fun _ h => nomatch h) (by simpa using hx') (by simp) (d := 3) (u := 37) hr (by k_is) (by k_is) (BindsTo.of_eq rfl) (by decide) (locs rfl) rfl (by simp; decide) (by decide) ?_
  intro env L h₀ s₁ A' he _ _ hat hg₀ hk _ hks _ hr'
  dsimp only at he
  have hd0 : h₀.get? dx = some emptyDict := hk _ _ (by simpa using hne) (fun m => nomatch m) hdx
  obtain ⟨lo, hlo, hl2⟩ := hl
  have hl0 : h₀.IsList fl xs := ⟨lo, hk _ _ (by simpa using hfl) (fun m => nomatch m) hlo, hl2⟩
  repeat k_extra "m"
  refine x_assignAttr rfl ?_
  repeat k_extra "m"
  refine k_iter_list (xs := xs) ⟨lo, hat.fs.keep _ _ (hk _ _ (by simpa using hfl) (fun m => nomatch m) hlo), hl2⟩ (fun I s₂ hk₂ hI hi => ?_)
  have hat₂ := hat.kept hk₂
  repeat k_extra "m"
  refine setAttr_slot (ox := instObj 71 dx) (od := emptyDict) (ox' := ffObj1 dx I) (hg₀.of_at hat₂).kin ⟨hat₂.cell List.mem_cons_self, rfl, rfl, hat₂.fs.keep _ _ hd0⟩ (ff_setattr w) (ff_over w) (ff_taker_it w) (ff_type_it w) (ff_slot_it w) (by decide) rfl rfl (fun s₃ hk₃ hx₃ => ?_)
  have hat₃ := hat₂.change (i := 0) (b := x) (ys := Cell.obj (ffObj1 dx I)) rfl hk₃ hx₃
  dsimp only [List.set_cons_zero] at hat₃
  have hIx : I ≠ x := (hat.fresh hI).2.2 |> (by simpa using ·)
  have hi₃ := hk₃.get (by simpa using hIx) hi
  repeat k_extra "m"
  refine x_assignAttr rfl ?_
  repeat k_extra "m"
  refine setAttr_slot (ox := ffObj1 dx I) (od := emptyDict) (ox' := ffObj dx I fn) (hg₀.of_at hat₃).kin ⟨hat₃.cell List.mem_cons_self, rfl, rfl, hat₃.fs.keep _ _ hd0⟩ (ff_setattr w) (ff_over w) (ff_taker_func w) (ff_type_func w) (ff_slot_func w) (by decide) rfl rfl (fun s₄ hk₄ hx₄ => ?_)
  have hat₄ := hat₃.change (i := 0) (b := x) (ys := Cell.obj (ffObj dx I fn)) rfl hk₄ hx₄
  have hi₄ := hk₄.get (by simpa using hIx) hi₃
  repeat k_extra "m"
  refine h I _ (hat₄.keepsBut (as := [x]) (fun b o hb e => hk b o (by simpa using hb) (fun m => nomatch m) e)) ?_ hi₄ hx₄
  cases q : s.heap.get? I with
  | none => rfl
  | some o => rw [hks _ _ q] at hI; cases hI
end

section
variable {w : World} {A : Around} {E : Value → Shared → Prop} {s s₀ : Shared} {env : Env} {names : List (Str × NameKind)} {L : Addr} {h₀ hb : Heap} {l : List (Str × Option Value)} {W : List (Addr × Cell)}

theorem room_typeCall {A : Around} {d u : Nat} {C : Addr} {vals : List Value} {kw : List (Str × Value)} (r : Room A (d + 1) (u + 10)) : Room (A.under (.builtin "type.__call__" ⟨.ref C :: vals, kw⟩)) d u :=
  ⟨r.handled, by rw [depth_under_kw]; have := r.depth; lia, by
    have := r.units
    have e : (A.under (.builtin "type.__call__" ⟨.ref C :: vals, kw⟩)).units = A.units + 1 := rfl
    rw [e]; lia⟩

theorem ff_new {fl : Addr} {fn : Value} {xs : Array Value} {Q : Value → Shared → Prop} (hG : G w s.heap) (hl : s.heap.IsList fl xs) (hr : Room A 5 50)
    (h : ∀ x dx I s', Keeps s s' → s.heap.get? x = none → s.heap.get? dx = none → s.heap.get? I = none → s'.heap.get? I = some { cls := .type "list_iterator", data := .fields #[.ref fl, .int 0 0] } → s'.heap.get? dx = some emptyDict → s'.heap.get? x = some (ffObj dx I fn) → Q (.ref x) s') :
    wpAny (model P w) A (call (.ref 71) [fn, .ref fl]) Q E s := by
  refine wpAny_call ?_
  obtain ⟨hh, g, d, t, os⟩ := s
  obtain ⟨lo, hlo, hl2⟩ := hl
  have hX := hG.kin
  have hflt : fl < hh.objs.size := Heap.lt_size hlo
  refine make_core (makes_of hX (ff_make w)) (looks_findIn hX (ff_find_init w)) (fun self => bind_fn hX self (ff_fn_init w)) (.inl rfl) ?_
  have k : ∀ b o, hh.get? b = some o → ((hh.push emptyDict).push (instObj 71 hh.objs.size)).get? b = some o := fun b o e => Heap.get?_push_of_some _ (Heap.get?_push_of_some _ e)
  have hx' : ((hh.push emptyDict).push (instObj 71 hh.objs.size)).get? (hh.objs.size + 1) = some (instObj 71 hh.objs.size) := by
    have := Heap.get?_push_size (hh.push emptyDict) (o := instObj 71 hh.objs.size) rfl
    rwa [Heap.size_push] at this
  have hdx : ((hh.push emptyDict).push (instObj 71 hh.objs.size)).get? hh.objs.size = some emptyDict := Heap.get?_push_of_some _ (Heap.get?_push_size _ rfl)
  have n1 : hh.get? (hh.objs.size + 1) = none := by
    cases q : hh.get? (hh.objs.size + 1) with
    | none => rfl
    | some o => exact absurd (Heap.lt_size q) (Nat.not_lt.mpr (Nat.le_succ _))
  refine ff_init (hb := hh) hG k n1 hx' hdx (Nat.ne_of_lt (Nat.lt_succ_self _)) ⟨lo, k _ _ hlo, hl2⟩ (Nat.ne_of_lt (Nat.lt_succ_of_lt hflt)) (room_typeCall (hr.mono (by decide) (by decide))) (fun I s' hk hI hi hx2 => ⟨rfl, ?_⟩)
  have hI2 : hh.get? I = none := by
    cases q : hh.get? I with
    | none => rfl
    | some o => have := k _ _ q; rw [show ((hh.push emptyDict).push (instObj 71 hh.objs.size)).get? I = none from hI] at this; cases this
  refine h (hh.objs.size + 1) hh.objs.size I s' ?_ n1 (get?_size_none hh) hI2 hi (hk.get (by simpa using Nat.ne_of_lt (Nat.lt_succ_self hh.objs.size)) hdx) hx2
  obtain ⟨h2, tk, rfl, k2⟩ := hk
  exact ⟨h2, tk, rfl, fun b o e => k2 b o (by simpa using Nat.ne_of_lt (Nat.lt_succ_of_lt (Heap.lt_size e))) (k b o e)⟩
end

section
open Builtin Builtin.ObjectAttr

theorem lc_type : typeOf (.builtin "list.__contains__") = pure (.type "wrapper_descriptor") := by show builtinType _ = _; rw [builtinType_eq_fast]; kernel_rfl
theorem lc_lookup : typeLookup (.type "list") "__contains__" = pure (some (.builtin "list.__contains__")) := by rw [typeLookup_type, builtinLookup_eq_fast]; kernel_rfl
theorem wd_slot_get : Slot "wrapper_descriptor" "__get__" "wrapper_descriptor.__get__" :=
  .of (owner := "wrapper_descriptor") (n := "__get__") (by rw [typeLookup_type, builtinLookup_eq_fast]; kernel_rfl) (by decide +kernel) (by decide +kernel) (by decide +kernel)
    (by first | exact .inl (by decide +kernel) | exact .inr (by decide +kernel)) (by rw [isSubtype_type]; kernel_rfl)
theorem wd_entry_get : entryFor table "wrapper_descriptor.__get__" = some Builtin.«wrapper_descriptor.__get__» := entryFor_of_tree (by kernel_rfl)
theorem wd_args_get (a b c : Value) : argsOk "wrapper_descriptor.__get__" ⟨[a, b, c], []⟩ := by unfold argsOk; kernel_rfl
theorem wd_no_set : typeLookup (.type "wrapper_descriptor") "__set__" = pure none := by rw [typeLookup_type, builtinLookup_eq_fast]; kernel_rfl
theorem wd_no_del : typeLookup (.type "wrapper_descriptor") "__delete__" = pure none := by rw [typeLookup_type, builtinLookup_eq_fast]; kernel_rfl
theorem lc_owner : (".".intercalate ("list.__contains__".cutAt '.').dropLast) = "list" := by decide +kernel
theorem lc_sub : isSubtype (.type "list") (.type (".".intercalate ("list.__contains__".cutAt '.').dropLast)) = pure true := by
  rw [lc_owner, isSubtype_type]; kernel_rfl
theorem mw_slot_call : Slot "method-wrapper" "__call__" "method-wrapper.__call__" :=
  .of (owner := "method-wrapper") (n := "__call__") (by rw [typeLookup_type, builtinLookup_eq_fast]; kernel_rfl) (by decide +kernel) (by decide +kernel) (by decide +kernel)
    (by first | exact .inl (by decide +kernel) | exact .inr (by decide +kernel)) (by rw [isSubtype_type]; kernel_rfl)

variable {w : World} {A : Around} {E : Value → Shared → Prop} {s s₀ : Shared} {env : Env} {names : List (Str × NameKind)} {L : Addr} {l : List (Str × Option Value)} {W : List (Addr × Cell)}
variable {h : Heap} {g : Array GenState} {d : Drawn} {t : Nat} {os : OsState} {a : Addr} {o : Obj}

noncomputable abbrev mwObj (b : Addr) : Obj := { cls := .type "method-wrapper", data := .fields #[.builtin "list.__contains__", .ref b] }

theorem lc_get {R : Result → Shared → Prop} (hx : h.get? a = some o) (hc : o.cls = .type "list") (hq : R (.ok (.ret (.ref h.objs.size))) ⟨h.push (mwObj a), g, d, t, os⟩) :
    codeAny (model P w) A (.call (.builtin "wrapper_descriptor.__get__") ⟨[.builtin "list.__contains__", .ref a, .type "list"], []⟩) R ⟨h, g, d, t, os⟩ := by
  have hT : (⟨h, g, d, t, os⟩ : Shared).TypeIs (.ref a) "list" := ⟨_, hx, hc⟩
  have hT5 : (⟨h, g, d, t, os⟩ : Shared).TypeIs (.builtin "list.__contains__") "wrapper_descriptor" := lc_type
  have f8 := lc_sub
  refine codeAny_call_builtin wd_slot_get.plain wd_entry_get (wd_slot_get.check _ _ _ _ _ _ _ _ hT5 (wd_args_get _ _ _) ?_)
  repeat (any_goals (first | assumption | wp_step))

theorem lc_entry {tk : Tok} {Q : Fin → Shared → Prop} (hx : h.get? a = some o) (hc : o.cls = .type "list") (hd : o.dict = none) (hdat : ∃ xs n, o.data = .seq xs n) (hq : Q (.done (.ret (.ref h.objs.size))) ⟨h.push (mwObj a), g, d, t, os⟩) :
    wpAny (model P w) A (Builtin.«object.__getattribute__» ⟨[.ref a, .str "__contains__" tk], []⟩) Q E ⟨h, g, d, t, os⟩ := by
  have hT : (⟨h, g, d, t, os⟩ : Shared).TypeIs (.ref a) "list" := ⟨_, hx, hc⟩
  have hT5 : (⟨h, g, d, t, os⟩ : Shared).TypeIs (.builtin "list.__contains__") "wrapper_descriptor" := lc_type
  have f4 := lc_lookup
  have f5 := lc_type
  have f6 := wd_slot_get.lookup
  have f7 := wd_no_set
  have f8 := wd_no_del
  obtain ⟨xs, n, hdat⟩ := hdat
  obtain ⟨oc, od, odt, osl⟩ := o
  dsimp only at hc hd hdat
  subst hc hd hdat
  repeat (any_goals (first | assumption | wp_step))
  refine lc_get hx rfl ?_
  repeat (any_goals (first | assumption | wp_step))

theorem lc_call {tk : Tok} {R : Result → Shared → Prop} (hx : h.get? a = some o) (hc : o.cls = .type "list") (hd : o.dict = none) (hdat : ∃ xs n, o.data = .seq xs n) (hq : R (.ok (.ret (.ref h.objs.size))) ⟨h.push (mwObj a), g, d, t, os⟩) :
    codeAny (model P w) A (.call (.builtin "list.__getattribute__") ⟨[.ref a, .str "__contains__" tk], []⟩) R ⟨h, g, d, t, os⟩ :=
  codeAny_call_builtin F.slot_list_getattribute.plain F.entry_list_ga (F.slot_list_getattribute.check _ _ _ _ _ _ _ _ (show (⟨h, g, d, t, os⟩ : Shared).TypeIs (.ref a) "list" from ⟨_, hx, hc⟩) (F.args_list_getattribute_2 _ _) (lc_entry hx hc hd hdat hq))

theorem lc_by {tk : Tok} {Q : Value → Shared → Prop} (hx : h.get? a = some o) (hc : o.cls = .type "list") (hd : o.dict = none) (hdat : ∃ xs n, o.data = .seq xs n) (hq : Q (.ref h.objs.size) ⟨h.push (mwObj a), g, d, t, os⟩) :
    wpAny (model P w) A (getAttrBy (.ref a) (.str "__contains__" tk) true true) Q E ⟨h, g, d, t, os⟩ := by
  have hT : (⟨h, g, d, t, os⟩ : Shared).TypeIs (.ref a) "list" := ⟨_, hx, hc⟩
  have f2 := F.slot_list_getattribute.lookup
  have f3 := F.slot_list_getattribute.bind (.ref a)
  repeat (any_goals (first | assumption | wp_step))
  refine lc_call hx hc hd hdat ?_
  repeat (any_goals (first | assumption | wp_step))
end

section
variable {w : World} {A : Around} {E : Value → Shared → Prop} {s : Shared}
theorem getAttr_contains {b : Addr} {xs : Array Value} {Q : Value → Shared → Prop} (hl : s.heap.PlainList b xs) (h : ∀ q s', Keeps s s' → s.heap.get? q = none → s'.heap.get? q = some (mwObj b) → Q (.ref q) s') :
    wpAny (model P w) A (getAttr (.ref b) "__contains__" true) Q E s := by
  obtain ⟨n, ho⟩ := hl
  obtain ⟨hh, g, d, t, os⟩ := s
  unfold getAttr
  refine wpAny_bind (wpAny_mkText ?_)
  exact lc_by ho rfl rfl ⟨_, _, rfl⟩ (h _ _ (keeps_push ⟨hh, g, d, t, os⟩ _ _) (get?_size_none _) (Heap.get?_push_size _ rfl))
end

/-- what a bytes value bears -/
noncomputable def keyB : Value → List UInt8
  | .bytes b _ => b.toList
  | _ => []
noncomputable def IsB (v : Value) : Prop := ∃ b t, v = .bytes b t
theorem IsB.mk (b : Array UInt8) (t : Tok) : IsB (.bytes b t) := ⟨b, t, rfl⟩

section
variable {w : World} {A : Around} {E : Value → Shared → Prop} {s : Shared}
theorem eqGives_bytes (b c : Array UInt8) (t u : Tok) : MeetsSeq.EqGives (.bytes b t) (.bytes c u) (b.toList == c.toList) := fun prog w A E s Q h => by
  unfold eqBool
  show wpAny _ _ (if (Value.bytes b t == Value.bytes c u) = true then _ else _) Q E s
  by_cases hab : (Value.bytes b t == Value.bytes c u) = true
  · rw [if_pos hab]
    have e : b = c := by have := eq_of_beq hab; injection this
    subst e
    exact wpAny_bind (wpAny_rule (wpAny_pure (by simpa using h)))
  · rw [if_neg hab]
    exact wpAny_bind (eq_bytes (wpAny_truthy_bool h))

theorem eqGives_B {x y : Value} (hx : IsB x) (hy : IsB y) : MeetsSeq.EqGives y x (keyB y == keyB x) := by
  obtain ⟨b, t, rfl⟩ := hx
  obtain ⟨c, u, rfl⟩ := hy
  exact eqGives_bytes c b u t

theorem call_contains {b : Addr} {xs : List Value} {x : Value} {Q : Value → Shared → Prop} (hl : s.heap.IsList b xs.toArray) (hx : IsB x) (hxs : ∀ y ∈ xs, IsB y) (h : Q (.bool (xs.any fun y => keyB y == keyB x)) s) :
    wpAny (model P w) A (call (.builtin "list.__contains__") [.ref b, x]) Q E s := by
  obtain ⟨⟨oc, od, odt, osl⟩, ho, hc, n, hd⟩ := hl
  dsimp only at hc hd
  subst hc hd
  refine call_meets PySem.F.slot_list_contains ⟨_, ho, rfl⟩ PySem.F.entry_list_contains (PySem.F.args_list_contains_2 _ _) (PySem.SeqInW.list_containsW b xs.toArray n od osl x (fun y => keyB y == keyB x) (fun y hy => eqGives_B hx (hxs y (by simpa using hy)))) ⟨ho, ?_⟩
  simpa using h
end

section
open Builtin
variable {w : World} {A : Around} {E : Value → Shared → Prop}
variable {h : Heap} {g : Array GenState} {d : Drawn} {t : Nat} {os : OsState} {q b : Addr} {x : Value}

theorem mw_code {R : Result → Shared → Prop} {xs : List Value} (hx : h.get? q = some (mwObj b)) (hl : h.IsList b xs.toArray) (hX : IsB x) (hxs : ∀ y ∈ xs, IsB y) (hR : R (.ok (.ret (.bool (xs.any fun y => keyB y == keyB x)))) ⟨h, g, d, t, os⟩) :
    codeAny (model P w) A (.call (.ref q) ⟨[x], []⟩) R ⟨h, g, d, t, os⟩ := by
  obtain ⟨⟨oc, od, odt, osl⟩, ho, hc, n, hd⟩ := hl
  dsimp only at hc hd
  subst hc hd
  refine codeAny_of_tree ?_
  show wpAny _ _ (callAny (.ref q) _) _ _ _
  refine nd_load hx ?_
  repeat (any_goals (first | assumption | wp_step))
  refine ⟨Code.quiet_builtin _ (by decide +kernel), codeAny_builtin PySem.F.entry_list_contains ?_⟩
  exact PySem.SeqInW.list_containsW b xs.toArray n od osl x (fun y => keyB y == keyB x) (fun y hy => eqGives_B hX (hxs y (by simpa using hy))) P w _ R ⟨h, g, d, t, os⟩ ⟨ho, by simpa using hR⟩
end
section
variable {w : World} {A : Around} {E : Value → Shared → Prop} {s : Shared}
/-- skip.__contains__(x) -/
theorem mw_call {q b : Addr} {x : Value} {xs : List Value} {Q : Value → Shared → Prop} (hx : s.heap.get? q = some (mwObj b)) (hl : s.heap.IsList b xs.toArray) (hX : IsB x) (hxs : ∀ y ∈ xs, IsB y) (hQ : Q (.bool (xs.any fun y => keyB y == keyB x)) s) :
    wpAny (model P w) A (call (.ref q) [x]) Q E s := by
  obtain ⟨h, g, d, t, os⟩ := s
  exact wpAny_call (mw_code hx hl hX hxs hQ)
end

section
variable {w : World} {A : Around} {E : Value → Shared → Prop} {s s₀ : Shared} {env : Env} {names : List (Str × NameKind)} {L : Addr} {h₀ hb : Heap} {l : List (Str × Option Value)} {W : List (Addr × Cell)}

noncomputable abbrev liObj (b : Addr) (i : Nat) : Obj := { cls := .type "list_iterator", data := .fields #[.ref b, .int i 0] }

theorem k_next_item {it l : Addr} {i : Nat} {items : List Value} {x : Value} {Q : Value → Shared → Prop} (hit : s.heap.get? it = some (liObj l i)) (hl : s.heap.IsList l items.toArray) (hx : items[i]? = some x)
    (hQ : ∀ s', KeepsBut [it] s s' → s'.heap.get? it = some (liObj l (i + 1)) → Q x s') : wpAny (model P w) A (call (.builtin "next") [.ref it]) Q E s := by
  have hT : s.TypeIs (.ref it) "list_iterator" := ⟨_, hit, rfl⟩
  obtain ⟨ol, hol, _, nl, hdl⟩ := hl
  refine PySem.Calls.call_function_entry (by decide +kernel) (by decide +kernel) kdk_entry_next (kdk_args_next _) ?_
  unfold Builtin.«next»
  refine wpAny_bind (m := someArgs "next" 1 2 _) (wpAny_of_eq (a := [Value.ref it]) (by first | rfl | kernel_rfl!) ?_)
  dsimp only
  refine wpAny_bind (wpAny_specialOf (name := Str.ofString "__next__") hT slot_listiter_next.lookup ?_)
  refine wpAny_ite_split (fun hab => absurd hab (by decide)) (fun _ => ?_)
  refine wpAny_bind (wpAny_callSpecial?_slot (name := Str.ofString "__next__") hT slot_listiter_next
    (wpAny_call_entry slot_listiter_next hT entry_listiter_next ?_ (args_listiter_next _)))
  show wpAny _ _ (field (.ref it) 0 >>= _) _ _ s
  refine wpAny_bind (wpAny_field hit rfl (x := .ref l) rfl ?_)
  show wpAny _ _ (if (Value.ref l == Value.none) = true then _ else _) _ _ s
  rw [if_neg (show ¬ ((Value.ref l == Value.none) = true) from Bool.false_ne_true)]
  show wpAny _ _ (field (.ref it) 1 >>= _) _ _ s
  refine wpAny_bind (wpAny_field hit rfl (x := .int i 0) rfl ?_)
  show wpAny _ _ (seqItems? (.ref l) >>= _) _ _ s
  refine wpAny_bind (wpAny_seqItems hol hdl ?_)
  have hx' : items.toArray[i]? = some x := by simpa using hx
  simp only [Int.toNat_natCast, hx']
  refine wpAny_bind (wpAny_setField hit rfl (by simp) (wpAny_pure ⟨x, rfl, ?_⟩))
  refine wpAny_pure ⟨_, rfl, hQ _ ⟨_, s.toks, rfl, fun b o hb e => (Heap.SameBut.update ..).extBut b o (by simpa using hb) e⟩ ?_⟩
  rw [Heap.get?_update_self _ hit (Obj.isFreed_of_fields (Obj.data_mapFields rfl _))]
  simp [Obj.mapFields, rawInt, liObj]

theorem k_next_end {it l : Addr} {i : Nat} {items : List Value} {Q : Value → Shared → Prop} (hh : A.handled = none) (hit : s.heap.get? it = some (liObj l i)) (hl : s.heap.IsList l items.toArray) (hx : items[i]? = none)
    (hQ : ∀ e s', KeepsBut [it] s s' → s.heap.get? e = none → (∃ oe vs, s'.heap.get? e = some oe ∧ oe.cls = .type "StopIteration" ∧ oe.data = .fields vs ∧ vs[1]? = some .none) → E (.ref e) s') : wpAny (model P w) A (call (.builtin "next") [.ref it]) Q E s := by
  have hT : s.TypeIs (.ref it) "list_iterator" := ⟨_, hit, rfl⟩
  obtain ⟨ol, hol, _, nl, hdl⟩ := hl
  refine PySem.Calls.call_function_entry (by decide +kernel) (by decide +kernel) kdk_entry_next (kdk_args_next _) ?_
  unfold Builtin.«next»
  refine wpAny_bind (m := someArgs "next" 1 2 _) (wpAny_of_eq (a := [Value.ref it]) (by first | rfl | kernel_rfl!) ?_)
  dsimp only
  refine wpAny_bind (wpAny_specialOf (name := Str.ofString "__next__") hT slot_listiter_next.lookup ?_)
  refine wpAny_ite_split (fun hab => absurd hab (by decide)) (fun _ => ?_)
  refine wpAny_bind (wpAny_callSpecial?_slot (name := Str.ofString "__next__") hT slot_listiter_next
    (wpAny_call_entry slot_listiter_next hT entry_listiter_next ?_ (args_listiter_next _)))
  show wpAny _ _ (field (.ref it) 0 >>= _) _ _ s
  refine wpAny_bind (wpAny_field hit rfl (x := .ref l) rfl ?_)
  show wpAny _ _ (if (Value.ref l == Value.none) = true then _ else _) _ _ s
  rw [if_neg (show ¬ ((Value.ref l == Value.none) = true) from Bool.false_ne_true)]
  show wpAny _ _ (field (.ref it) 1 >>= _) _ _ s
  refine wpAny_bind (wpAny_field hit rfl (x := .int i 0) rfl ?_)
  show wpAny _ _ (seqItems? (.ref l) >>= _) _ _ s
  refine wpAny_bind (wpAny_seqItems hol hdl ?_)
  have hx' : items.toArray[i]? = none := by simpa using hx
  simp only [Int.toNat_natCast, hx']
  refine wpAny_bind (wpAny_rule (wpAny_bind (wpAny_setField hit rfl (by simp) ?_)))
  show wpAny _ _ (newExc (.type "StopIteration") [] >>= _) _ _ _
  refine wpAny_bind ?_
  simp only [newExc, newTuple]
  refine wpAny_bind (wpAny_newObj_type ?_ (by size_fits))
  refine wpAny_bind (m := firstArgMember _ _) (wpAny_of_eq (a := Value.none) (by first | rfl | (simp only [firstArgMember]; rfl)) ?_)
  refine wpAny_newObj_type ?_ (by size_fits)
  simp only [raiseNew]
  refine wpAny_bind (wpAny_handled ?_)
  rw [show A.in1.in1.handled = none from hh]
  refine wpAny_bind (wpAny_pure (wpAny_throw ?_))
  refine hQ _ _ ⟨_, s.toks, rfl, fun b o hb e => Heap.get?_push_of_some _ (Heap.get?_push_of_some _ ((Heap.SameBut.update ..).extBut b o (by simpa using hb) e))⟩ ?_ ⟨_, _, Heap.get?_push_size _ rfl, rfl, rfl, rfl⟩
  exact Heap.get?_none_of_le (by simp [Heap.size_push, Heap.size_after_update])

/-- a while whose body may raise -/
theorem x_whileE {test : Expr} {body : List Stmt} {pos : Pos} {Q : Flow → Shared → Prop} (I : Nat → Shared → Prop) (n : Nat) (h : I n s) (hE : PassesOwn (model P w) A env E)
    (turn : ∀ n s, I n s → wpAny (model P w) A (isTrue test env (eval test env)) (Turn (model P w) A env body I n Q E) E s) :
    wpAny (model P w) A (exec (.While test body [] pos) env) Q E s := by
  refine wpAny_While (codeAny_whileLoop I (fun n s hI => ?_) n h)
  refine wpAny_passesOwn hE (wpAny_mono (turn n s hI) (fun b s₂ hb => ?_) fun _ _ e => e)
  cases b with
  | true =>
    refine wpAny_passesOwn hE (wpAny_mono (show wpAny _ _ _ (LoopEnd I n Q) E s₂ from hb) (fun f s₃ hf => ?_) fun _ _ e => e)
    cases f <;> exact hf
  | false => exact wpAny_execs_nil hb

theorem x_ttrue {M : Model} {k : Nat} {pos : Pos} {Q : Bool → Shared → Prop} (h : Q true s) : wpAny M A (isTrue (.Constant (.bool true) k pos) env (eval (.Constant (.bool true) k pos) env)) Q E s :=
  x_tval (wpAny_Constant_bool (wpAny_truthy_bool h))

theorem k_is_none {q : Addr} {Q : Value → Shared → Prop} (h : Q (.bool false) s) : wpAny (model P w) A (compareOp .Is (.ref q) .none) Q E s := wpAny_pure (a := Value.bool (Value.ref q == Value.none)) h
theorem k_is_type {q : Addr} {T : String} {Q : Value → Shared → Prop} (h : Q (.bool false) s) : wpAny (model P w) A (compareOp .Is (.ref q) (.type T)) Q E s := wpAny_pure (a := Value.bool (Value.ref q == Value.type T)) h

/-- a method-wrapper is called -/
theorem cw_mw {q b : Addr} {pos : Pos} {e : Expr} {rest : List Expr} {Q : Value → Shared → Prop} (he : starEach (e :: rest) env = (false, eval e env) :: starEach rest env)
    (hplain : ((backTo pos (starEach (e :: rest) env)).any (·.1) || ([] : List (Option Str × Sem Value)).any (·.1.isNone)) = false)
    (h : wpAny (model P w) A (spliced (backTo pos (starEach (e :: rest) env))) (fun vs s₁ => s₁.heap.get? q = some (mwObj b) ∧ wpAny (model P w) A (call (.ref q) vs) Q E s₁) E s) :
    wpAny (model P w) A (callWith pos (.ref q) [] (backTo pos (starEach (e :: rest) env)) []) Q E s := by
  refine callWith_of (P := fun h => h.get? q = some (mwObj b)) hplain (fun h hq => ⟨.machine, .inr (.inl rfl), (Looks.ld (part := none) hq).andThen ?_⟩) ?_
  · exact .now
  rw [he] at h ⊢
  exact Calls.evalArgs_plain (wpAny_mono h (fun _ _ q => q) fun _ _ z => z)
end

/-- the frames that stand below, as objects -/
noncomputable def FramesIn (outer : List Env) (fcs : List (Addr × Cell)) : Prop := (∀ p ∈ fcs, ∃ o, p.2 = Cell.obj o ∧ ∀ vs, o.data ≠ .fields vs) ∧ ∀ e ∈ outer, e.scope.kind ≠ .module ∧ ∃ L o, e.frame = some L ∧ (L, Cell.obj o) ∈ fcs ∧ ∀ vs, o.data ≠ .fields vs
noncomputable def CellUp (h : Heap) (a : Addr) : Cell → Prop
  | .obj o => ∃ sl, h.get? a = some { o with slots := sl }
  | .list xs => h.PlainList a xs.toArray

theorem FramesIn.fun {outer : List Env} {fcs : List (Addr × Cell)} (f : FramesIn outer fcs) {h base : Heap} (hW : ∀ p ∈ fcs, CellAt h p.1 p.2) (hn : ∀ p ∈ fcs, base.get? p.1 = none) : h.FunFrames base outer := by
  obtain ⟨_, f⟩ := f
  induction outer with
  | nil => trivial
  | cons e r ih =>
    obtain ⟨hk, L, o, hf, hm, hd⟩ := f e List.mem_cons_self
    exact ⟨hk, ⟨L, o, hf, hn _ hm, hW _ hm, hd⟩, ih fun e' he' => f e' (List.mem_cons_of_mem _ he')⟩

theorem At.keepsFr {s : Shared} {h₀ : Heap} {L I : Addr} {l : List (Str × Option Value)} {c : Cell} {fcs : List (Addr × Cell)} {outer : List Env} {s' : Shared} (a : At s h₀ L l ((I, c) :: fcs) s') (hF : FramesIn outer fcs)
    (hk : ∀ b o, b ≠ I → b ∉ fcs.map (·.1) → s.heap.get? b = some o → h₀.get? b = some o) (hfc : ∀ p ∈ fcs, CellAt s.heap p.1 p.2) : KeepsBut [I] s s' := by
  obtain ⟨h, tk, rfl, f⟩ := a
  refine ⟨h, tk, rfl, fun b o hb e => ?_⟩
  by_cases m : b ∈ fcs.map (·.1)
  · obtain ⟨⟨b', c'⟩, hp, rfl⟩ := List.mem_map.mp m
    obtain ⟨o', ho', _⟩ := hF.1 _ hp
    dsimp only at ho' e ⊢
    subst ho'
    have h1 : s.heap.get? b' = some o' := hfc _ hp
    have h2 : h.get? b' = some o' := f.own _ (List.mem_cons_of_mem _ hp)
    rw [h1] at e; cases e; exact h2
  · exact f.keep b o (hk b o (by simpa using hb) m e)

noncomputable def skips (ys : List Value) (x : Value) : Bool := ys.any fun y => keyB y == keyB x

theorem ff_next {w : World} {A : Around} {E : Value → Shared → Prop} {s : Shared} {hb : Heap} {x dx I q fl sk : Addr} {xs ys : List Value} {i : Nat} {fcs : List (Addr × Cell)} {outer : List Env} {Q : Value → Shared → Prop}
    (hG : G w hb) (hsub : ∀ b o, hb.get? b = some o → s.heap.get? b = some o) (hbI : hb.get? I = none) (hbf : ∀ p ∈ fcs, hb.get? p.1 = none)
    (hx : hb.get? x = some (ffObj dx I (.ref q))) (hdx : hb.get? dx = some emptyDict) (hq : hb.get? q = some (mwObj sk)) (hfl : hb.IsList fl xs.toArray) (hsk : hb.IsList sk ys.toArray)
    (hI : s.heap.get? I = some (liObj fl i)) (hfc : ∀ p ∈ fcs, CellAt s.heap p.1 p.2) (nd : (I :: fcs.map (·.1)).Nodup) (hF : FramesIn outer fcs) (hfr : A.frames = some outer)
    (hX : ∀ v ∈ xs, IsB v) (hY : ∀ v ∈ ys, IsB v) (hr : Room A 4 50) (hlen : xs.length < 2 ^ 20)
    (hitem : ∀ k v s', i ≤ k → xs[k]? = some v → skips ys v = false → (∀ j u, i ≤ j → j < k → xs[j]? = some u → skips ys u = true) → KeepsBut [I] s s' → s'.heap.get? I = some (liObj fl (k + 1)) → Q v s')
    (hstop : ∀ e s', (∀ j u, i ≤ j → xs[j]? = some u → skips ys u = true) → (∃ ob, s'.heap.get? e = some ob ∧ ob.cls = .type "StopIteration") →
      (∃ h' tk, s' = { s with heap := h', toks := tk } ∧ (∀ b o, b ≠ I → b ∉ fcs.map (·.1) → s.heap.get? b = some o → h'.get? b = some o) ∧ ∀ p ∈ fcs, CellUp h' p.1 p.2) → E (.ref e) s') :
    wpAny (model P w) A (call (.ref 67) [.ref x]) Q E s := by
  refine call_bodyF ((I, Cell.obj (liObj fl i)) :: fcs) [Str.ofString "func", Str.ofString "item"] [] (l := [("self", some (.ref x)), ("func", none), ("item", none)]) hG hsub
    (fun p hp => by rcases List.mem_cons.mp hp with rfl | hp; exact hbI; exact hbf p hp) (fun _ h => nomatch h) (fun p hp => by rcases List.mem_cons.mp hp with rfl | hp; exact hI; exact hfc p hp) (by simpa using nd) (d := 3) (u := 47) hr (by k_is) (by k_is) (BindsTo.of_eq rfl) (by decide) (locs rfl) rfl (by simp; decide) (by decide) ?_
  intro env L h₀ s₁ A' he hfrm hA' hat hg₀ hk _ hks hL0 hr'
  dsimp only at he
  have hW0 : ∀ b o, hb.get? b = some o → b ∉ ((I, Cell.obj (liObj fl i)) :: fcs).map (·.1) := fun b o e m => by
    obtain ⟨p, hp, rfl⟩ := List.mem_map.mp m
    rcases List.mem_cons.mp hp with rfl | hp
    · rw [hbI] at e; cases e
    · rw [hbf p hp] at e; cases e
  have hbh : ∀ b o, hb.get? b = some o → h₀.get? b = some o := fun b o e => hk b o (hW0 b o e) (fun m => nomatch m) (hsub b o e)
  have hx0 := hbh _ _ hx
  have hdx0 := hbh _ _ hdx
  have hq0 := hbh _ _ hq
  obtain ⟨lf, hlf, hlf2⟩ := hfl
  obtain ⟨ls, hls, hls2⟩ := hsk
  have hlf0 := hbh _ _ hlf
  have hls0 := hbh _ _ hls
  repeat k_extra "m"
  refine x_attr ?_
  repeat k_extra "m"
  refine getAttr_slot (ox := ffObj dx I (.ref q)) (od := emptyDict) (hg₀.of_at hat).kin ⟨hat.fs.keep _ _ hx0, rfl, rfl, hat.fs.keep _ _ hdx0⟩ (ff_get_func w) (ff_cls w) (ff_find_func w) (ff_special_func w) (ff_takes_func w) (ff_slot_func w) rfl rfl (fun s₂ hk₂ => ?_)
  have hat₂ := hat.kept hk₂
  repeat k_extra "m"
  rename_i hat₃
  refine x_whileE (fun n s' => ∃ k u, n = xs.length - k ∧ i ≤ k ∧ At s h₀ L [("self", some (.ref x)), ("func", some (.ref q)), ("item", u)] ((I, Cell.obj (liObj fl k)) :: fcs) s' ∧ (∀ j u, i ≤ j → j < k → xs[j]? = some u → skips ys u = true)) (xs.length - i)
    ⟨i, _, rfl, Nat.le_refl _, hat₃, fun j u h1 h2 => absurd h1 (Nat.not_le.mpr h2)⟩ PassesOwn.leaving ?_
  rintro n s₄ ⟨k, u, rfl, hik, hat₄, hsk⟩
  refine x_ttrue (u_tt rfl ?_)
  repeat k_extra "m"
  refine x_attr ?_
  repeat k_extra "m"
  refine getAttr_slot (ox := ffObj dx I (.ref q)) (od := emptyDict) (hg₀.of_at hat₄).kin ⟨hat₄.fs.keep _ _ hx0, rfl, rfl, hat₄.fs.keep _ _ hdx0⟩ (ff_get_it w) (ff_cls w) (ff_find_it w) (ff_special_it w) (ff_takes_it w) (ff_slot_it w) rfl rfl (fun s₅ hk₅ => ?_)
  have hat₅ := hat₄.kept hk₅
  repeat k_extra "m"
  have hIs := hat₅.cell List.mem_cons_self
  have hfls : _ := (⟨lf, hat₅.fs.keep _ _ hlf0, hlf2⟩ : Heap.IsList _ fl xs.toArray)
  cases hxk : xs[k]? with
  | none =>
    refine k_next_end hr'.handled hIs hfls hxk (fun e s₆ hk₆ hen hoe => ?_)
    have hall : ∀ j u, i ≤ j → xs[j]? = some u → skips ys u = true := fun j u h1 h2 => hsk j u h1 (by
      have a := (List.getElem?_eq_some_iff.mp h2).1
      have b : xs.length ≤ k := by simpa using hxk
      omega) h2
    obtain ⟨oe, vs, he6, hcl, hda, h1⟩ := hoe
    have hat₆ : At s h₀ L _ fcs s₆ := (At.tail hat₅).keptBut hk₆ (fun b hb => (List.mem_singleton.mp hb) ▸ (hat₅.fs.newW _ List.mem_cons_self).1) (fun m => (hat₅.fs.newW _ List.mem_cons_self).2 (List.mem_singleton.mp m).symm) (fun p hp m => (List.nodup_cons.mp hat₅.fs.nd).1 (by have e := List.mem_singleton.mp m; have q := List.mem_map_of_mem (f := (·.1)) hp; rw [e] at q; exact q))
    have hen0 := (hat₅.fresh hen).1
    have hLd : ∃ o, s₆.heap.get? L = some o ∧ ∀ vs, o.data ≠ .fields vs := by
      obtain ⟨o, es, ep, ho, hd, r⟩ := hat₆.fs.ns
      exact ⟨o, ho, fun vs q => by rw [hd] at q; cases q⟩
    obtain ⟨oL, hoL, hoL2⟩ := hLd
    have hfr' : A'.frames = some (env :: outer) := by rw [hA', hfr]; rfl
    have hFF : s₆.heap.FunFrames h₀ (env :: outer) := ⟨by rw [he.kind]; exact (fun q => nomatch q), ⟨L, oL, hfrm, hat₆.fs.newL, hoL, hoL2⟩, hF.fun hat₆.fs.own (fun p hp => (hat₆.fs.newW p hp).1)⟩
    refine wpAny_leaving_first hfr' hFF hfrm he6 hat₆.fs.keep hen0 hda h1 (fun h' hL' => ?_)
    obtain ⟨l1, l2, l3, l4⟩ := hL'
    obtain ⟨oe', vs', T, oT, ts, he', hcls', _⟩ := l3
    refine hstop e _ hall ⟨oe', he', by rw [hcls', hcl]⟩ ?_
    obtain ⟨h6, tk6, rfl, f6⟩ := hat₆
    refine ⟨h', tk6, rfl, fun b o hb hb2 e' => l1 b o (hk b o (by simp only [List.map_cons, List.mem_cons, not_or]; exact ⟨hb, hb2⟩) (fun m => nomatch m) e'), fun p hp => ?_⟩
    obtain ⟨o', ho', hnf⟩ := hF.1 p hp
    have hc := f6.own p hp
    obtain ⟨a, c⟩ := p
    dsimp only at ho'
    subst ho'
    exact l4 a o' hc hnf
  | some v =>
    refine k_next_item hIs hfls hxk (fun s₆ hk₆ hi₆ => ?_)
    have hat₆ := hat₅.change (i := 0) (b := I) (ys := Cell.obj (liObj fl (k + 1))) rfl hk₆ hi₆
    dsimp only [List.set_cons_zero] at hat₆
    have hvB := hX v (List.mem_of_getElem? hxk)
    repeat k_extra "m"
    rename_i hat₇
    refine x_if ?_
    repeat k_extra "m"
    refine k_is_none ?_
    repeat k_extra "m"
    refine o_ff rfl ?_
    repeat k_extra "m"
    refine k_is_type ?_
    repeat k_extra "m"
    refine o_ff rfl ?_
    repeat k_extra "m"
    refine w_ff rfl ?_
    repeat k_extra "m"
    refine x_if ?_
    repeat k_extra "m"
    refine cw_mw (b := sk) rfl rfl ?_
    repeat k_extra "m"
    refine ⟨hat₇.fs.keep _ _ hq0, mw_call (xs := ys) (hat₇.fs.keep _ _ hq0) ⟨ls, hat₇.fs.keep _ _ hls0, hls2⟩ hvB hY ?_⟩
    refine x_truthyB ?_
    refine w_split (fun hb1 => ?_) (fun hb1 => ?_)
    · repeat k_extra "m"
      have hsv : skips ys v = false := by simpa [skips] using hb1
      refine hitem k v _ hik hxk hsv hsk ?_ (hat₇.cell List.mem_cons_self)
      exact hat₇.keepsFr hF (fun b o h1 h2 => hk b o (by simp only [List.map_cons, List.mem_cons, not_or]; exact ⟨h1, h2⟩) (fun m => nomatch m)) hfc
    · repeat k_extra "m"
      have hsv : skips ys v = true := by simpa [skips] using hb1
      have hkl := (List.getElem?_eq_some_iff.mp hxk).1
      refine l_next (xs.length - (k + 1)) (by omega) ⟨k + 1, _, rfl, by omega, hat₇, fun j u h1 h2 h3 => ?_⟩
      rcases Nat.lt_or_ge j k with h4 | h4
      · exact hsk j u h1 h4 h3
      · obtain rfl : j = k := by omega
        rw [hxk] at h3; cases h3; exact hsv

theorem filter_span {α : Type} {p : α → Bool} {xs : List α} {i : Nat} : ∀ d, (∀ j u, i ≤ j → j < i + d → xs[j]? = some u → p u = false) → (xs.take (i + d)).filter p = (xs.take i).filter p
  | 0, _ => rfl
  | d + 1, hs => by
    rw [← Nat.add_assoc, List.take_succ, List.filter_append, filter_span d fun j u h1 h2 => hs j u h1 (by lia)]
    cases e : xs[i + d]? with
    | none => simp
    | some u => simp [hs (i + d) u (by lia) (by lia) e]
theorem filter_step {α : Type} {p : α → Bool} {xs : List α} {i k : Nat} {v : α} (hik : i ≤ k) (hk : xs[k]? = some v) (hv : p v = true) (hs : ∀ j u, i ≤ j → j < k → xs[j]? = some u → p u = false) :
    (xs.take (k + 1)).filter p = (xs.take i).filter p ++ [v] := by
  obtain ⟨d, rfl⟩ : ∃ d, k = i + d := ⟨k - i, by lia⟩
  rw [List.take_succ, List.filter_append, filter_span d hs, hk]
  simp [hv]
theorem filter_skip {α : Type} {p : α → Bool} {xs : List α} {i : Nat} (hs : ∀ j u, i ≤ j → xs[j]? = some u → p u = false) : (xs.take i).filter p = xs.filter p := by
  have h : (xs.drop i).filter p = [] := by
    rw [List.filter_eq_nil_iff]
    intro a ha
    obtain ⟨j, hj⟩ := List.mem_iff_getElem?.mp ha
    rw [List.getElem?_drop] at hj
    rw [hs (i + j) a (by lia) hj]; decide
  conv => rhs; rw [← List.take_append_drop i xs]
  rw [List.filter_append, h, List.append_nil]

theorem ff_pyNext {w : World} {A : Around} {E : Value → Shared → Prop} {s : Shared} {hb : Heap} {x dx I q fl sk : Addr} {xs ys : List Value} {i : Nat} {fcs : List (Addr × Cell)} {outer : List Env} {Q : Option Value → Shared → Prop}
    (hG : G w hb) (hsub : ∀ b o, hb.get? b = some o → s.heap.get? b = some o) (hbI : hb.get? I = none) (hbf : ∀ p ∈ fcs, hb.get? p.1 = none)
    (hx : hb.get? x = some (ffObj dx I (.ref q))) (hdx : hb.get? dx = some emptyDict) (hq : hb.get? q = some (mwObj sk)) (hfl : hb.IsList fl xs.toArray) (hsk : hb.IsList sk ys.toArray)
    (hI : s.heap.get? I = some (liObj fl i)) (hfc : ∀ p ∈ fcs, CellAt s.heap p.1 p.2) (nd : (I :: fcs.map (·.1)).Nodup) (hF : FramesIn outer fcs) (hfr : A.frames = some outer)
    (hX : ∀ v ∈ xs, IsB v) (hY : ∀ v ∈ ys, IsB v) (hr : Room A 4 50) (hlen : xs.length < 2 ^ 20)
    (hitem : ∀ k v s', i ≤ k → xs[k]? = some v → skips ys v = false → (∀ j u, i ≤ j → j < k → xs[j]? = some u → skips ys u = true) → KeepsBut [I] s s' → s'.heap.get? I = some (liObj fl (k + 1)) → Q (some v) s')
    (hstop : ∀ s', (∀ j u, i ≤ j → xs[j]? = some u → skips ys u = true) →
      (∃ h' tk, s' = { s with heap := h', toks := tk } ∧ (∀ b o, b ≠ I → b ∉ fcs.map (·.1) → s.heap.get? b = some o → h'.get? b = some o) ∧ ∀ p ∈ fcs, CellUp h' p.1 p.2) → Q none s') :
    wpAny (model P w) A (pyNext (.ref x)) Q E s := by
  unfold pyNext
  have II : W.InstAt s.heap x (ffObj dx I (.ref q)) 71 (some emptyDict) := ⟨hsub _ _ hx, rfl, rfl, hsub _ _ hdx⟩
  refine wpAny_bind (wpAny_attempt (special_fn (name := "__next__") (args := []) (hG.keeps hsub).kin II (ff_find_next w) (ff_fn_next w) ?_))
  refine ff_next hG hsub hbI hbf hx hdx hq hfl hsk hI hfc nd hF hfr hX hY hr hlen (fun k v s' h1 h2 h3 h4 h5 h6 => ?_) (fun e s' h1 h2 h3 => ?_)
  · exact wpAny_pure (hitem k v s' h1 h2 h3 h4 h5 h6)
  · obtain ⟨ob, hob, hobc⟩ := h2
    refine wpAny_bind (wpAny_isInstance (T := "StopIteration") (b := true) ⟨ob, hob, hobc⟩ isSubtype_stop ?_)
    exact wpAny_pure (hstop s' h1 h3)

theorem ff_iter {w : World} {A : Around} {E : Value → Shared → Prop} {s : Shared} {x : Addr} {Q : Value → Shared → Prop} (hG : G w s.heap) (hr : Room A 4 40) (h : ∀ s', Keeps s s' → Q (.ref x) s') :
    wpAny (model P w) A (call (.ref 60) [.ref x]) Q E s := by
  refine call_body [] [] (l := [("self", some (.ref x))]) hG (fun _ _ e => e) (fun _ h => nomatch h) (fun _ h => nomatch h) (by simp) (d := 3) (u := 37) hr (by k_is) (by k_is) (BindsTo.of_eq rfl) (by decide) (locs rfl) rfl (by simp) (by decide) ?_
  intro env L h₀ s₁ A' he hat hg₀ hk hr'
  dsimp only at he
  repeat k_extra "m"
  exact h _ (KeepsBut.to (hat.keepsBut (as := []) (fun b o _ e => hk b o (fun m => nomatch m) e)))

theorem ff_pyIter {w : World} {A : Around} {E : Value → Shared → Prop} {s : Shared} {x dx I : Addr} {fn : Value} {Q : Value → Shared → Prop} (hG : G w s.heap) (hx : s.heap.get? x = some (ffObj dx I fn)) (hdx : s.heap.get? dx = some emptyDict) (hr : Room A 4 40)
    (h : ∀ s', Keeps s s' → Q (.ref x) s') : wpAny (model P w) A (pyIter (.ref x)) Q E s := by
  have X := hG.kin
  have II : W.InstAt s.heap x (ffObj dx I fn) 71 (some emptyDict) := ⟨hx, rfl, rfl, hdx⟩
  have it : ∀ s', Keeps s s' → wpAny (model P w) A (specialOf (.ref x) "__next__") (fun r s₂ => match r with | none => False | some _ => Q (.ref x) s₂) E s' := fun s' k => by
    have I' : W.InstAt s'.heap x (ffObj dx I fn) 71 (some emptyDict) := ⟨keeps_get k hx, rfl, rfl, keeps_get k hdx⟩
    have X' := (hG.keeps (fun b o e => keeps_get k e)).kin
    exact wpAny_bind (I'.type.here ((looks_findIn X' (ff_find_next w)).here (h _ k)))
  have fin : wpAny (model P w) A (call (.ref 60) [.ref x] >>= fun v => pure (some v)) (fun r s' => ∃ v, r = some v ∧ v = .ref x ∧ Keeps s s') E s :=
    wpAny_bind (ff_iter hG hr fun s' k => wpAny_pure ⟨_, rfl, rfl, k⟩)
  have one : ∀ refuse : Sem Value, wpAny (model P w) A (callSpecialIfBoundUnlessNone? (.ref x) "__iter__" refuse) (fun r s' => ∃ v, r = some v ∧ v = .ref x ∧ Keeps s s') E s := by
    intro refuse
    simp only [callSpecialIfBoundUnlessNone?, bindSpecialIfBound?]
    refine wpAny_holding (wpAny_bind (wpAny_bind (wpAny_bind (II.type.here ((looks_findIn X (ff_find_iter w)).here ?_)))))
    refine wpAny_bind (wpAny_askSetting (wpAny_ite ?_))
    have fin2 : wpAny (model P w) A (if (Value.ref 60 == Value.none) = true then (refuse >>= fun v => pure (some v)) else (call (.ref 60) [.ref x] >>= fun v => pure (some v))) (fun r s' => ∃ v, r = some v ∧ v = .ref x ∧ Keeps s s') E s := by
      rw [if_neg (show ¬ ((Value.ref 60 == Value.none) = true) from Bool.false_ne_true)]
      exact fin
    split
    · exact wpAny_bind ((bind_fn X _ (ff_fn_iter w)).here (wpAny_pure (by exact fin2)))
    · exact wpAny_tryCatch (wpAny_bind ((bind_fn X _ (ff_fn_iter w)).here (wpAny_pure (by exact fin2))))
  unfold pyIter
  refine wpAny_bind (wpAny_bind (II.type.here ((looks_findIn X (ff_find_iter w)).here ?_)))
  show wpAny (model P w) A (callSpecialIfBoundUnlessNone? (.ref x) "__iter__" _ >>= _) Q E s
  refine wpAny_bind (wpAny_mono (one _) (fun r s' hr => ?_) fun _ _ z => z)
  obtain ⟨v, rfl, rfl, hv⟩ := hr
  refine wpAny_bind (wpAny_mono (it s' hv) (fun r s₂ hr => ?_) fun _ _ z => z)
  cases r with
  | none => exact hr.elim
  | some g => exact wpAny_pure hr

/-- keep what is not skipped -/
noncomputable def filterP (ys xs : List Value) : List Value := xs.filter fun v => !skips ys v

theorem ff_extend {w : World} {A : Around} {s : Shared} {hb : Heap} {x dx I q fl sk S : Addr} {xs ys : List Value} {c₀ : Nat} {fcs : List (Addr × Cell)} {outer : List Env} {R : Result → Shared → Prop}
    (hG : G w hb) (hsub : ∀ b o, hb.get? b = some o → s.heap.get? b = some o) (hbI : hb.get? I = none) (hbS : hb.get? S = none) (hbf : ∀ p ∈ fcs, hb.get? p.1 = none)
    (hx : hb.get? x = some (ffObj dx I (.ref q))) (hdx : hb.get? dx = some emptyDict) (hq : hb.get? q = some (mwObj sk)) (hfl : hb.IsList fl xs.toArray) (hsk : hb.IsList sk ys.toArray)
    (hI : s.heap.get? I = some (liObj fl 0)) (hfc : ∀ p ∈ fcs, CellAt s.heap p.1 p.2) (nd : (S :: I :: fcs.map (·.1)).Nodup) (hF : FramesIn outer fcs) (hfr : A.frames = some outer)
    (hS : s.heap.get? S = some { cls := .type "list", data := .seq #[] c₀ })
    (hX : ∀ v ∈ xs, IsB v) (hY : ∀ v ∈ ys, IsB v) (hr : Room A 6 70) (hlen : xs.length < 2 ^ 20) (res : Value)
    (hR : ∀ s', s'.heap.PlainList S (filterP ys xs).toArray →
      (∃ h' tk, s' = { s with heap := h', toks := tk } ∧ (∀ b o, b ≠ I → b ≠ S → b ∉ fcs.map (·.1) → s.heap.get? b = some o → h'.get? b = some o) ∧ ∀ p ∈ fcs, CellUp h' p.1 p.2) → R (.ok (.ret res)) s') :
    codeAny (model P w) A (.builtin "list.extend.loop" ⟨[.ref S, .ref x, res], []⟩) R s := by
  have hSI : S ≠ I := fun e => (List.nodup_cons.mp nd).1 (e ▸ List.mem_cons_self)
  have hSf : S ∉ fcs.map (·.1) := fun m => (List.nodup_cons.mp nd).1 (List.mem_cons_of_mem _ m)
  have nd' := (List.nodup_cons.mp nd).2
  have hIf := (List.nodup_cons.mp nd').1
  have hline : (2 : Nat) ^ 20 ≤ sizeLine := by decide +kernel
  have aux : ∀ n i acc c s', xs.length - i = n → KeepsBut [I, S] s s' → s'.heap.get? I = some (liObj fl i) → s'.heap.get? S = some { cls := .type "list", data := .seq acc c } → acc.toList = (xs.take i).filter (fun v => !skips ys v) →
      codeAny (model P w) A (.builtin "list.extend.loop" ⟨[.ref S, .ref x, res], []⟩) R s' := by
    intro n
    induction n using Nat.strongRecOn with
    | ind n ih =>
      intro i acc c s' hn hk hI' hS' hacc
      have hsub' : ∀ b o, hb.get? b = some o → s'.heap.get? b = some o := fun b o e => hk.get (by
        simp only [List.mem_cons, List.not_mem_nil, or_false, not_or]
        exact ⟨fun z => (by rw [z, hbI] at e; cases e), fun z => (by rw [z, hbS] at e; cases e)⟩) (hsub b o e)
      have hfc' : ∀ p ∈ fcs, CellAt s'.heap p.1 p.2 := fun p hp => (hfc p hp).at fun o e => hk.get (by
        simp only [List.mem_cons, List.not_mem_nil, or_false, not_or]
        exact ⟨fun z => hIf (z ▸ List.mem_map_of_mem hp), fun z => hSf (z ▸ List.mem_map_of_mem hp)⟩) e
      have hlacc : acc.size ≤ xs.length := by
        have : acc.size = acc.toList.length := by simp
        rw [this, hacc]
        exact Nat.le_trans (List.length_filter_le _ _) (by simp; omega)
      refine codeAny_builtin F.entry_extend_loop ?_
      rw [Around.under_plainId F.plain_extend_loop _]
      show wpAny _ A.in1 (pyNext (.ref x) >>= _) _ _ s'
      refine wpAny_bind (ff_pyNext hG hsub' hbI hbf hx hdx hq hfl hsk hI' hfc' nd' hF (show A.in1.frames = some outer from hfr) hX hY ((hr.in1 : Room A.in1 6 69).mono (by decide) (by decide)) hlen (fun k v s₂ h1 h2 h3 h4 h5 h6 => ?_) (fun s₂ h1 h2 => ?_))
      · have hS2 := h5.get (by simpa using hSI) hS'
        show wpAny _ A.in1 (updateSeq S (·.push v) >>= _) _ _ _
        refine wpAny_bind ?_
        have hIu : (s₂.heap.update S (Obj.mapSeq (·.push v))).get? I = some (liObj fl (k + 1)) := (Heap.get?_update_other _ _ hSI).trans h6
        have hkl := (List.getElem?_eq_some_iff.mp h2).1
        refine wpAny_updateSeq hS2 rfl (wpAny_pure ⟨plainId_quiet F.plain_extend_loop _, ih (xs.length - (k + 1)) (by omega) (k + 1) (acc.push v) _ _ rfl ?_ hIu (Heap.get?_update_self _ hS2 rfl) ?_⟩)
          (by omega) (by show (acc.push v).size ≤ sizeLine + 1; rw [Array.size_push]; omega)
        · refine hk.trans ?_
          obtain ⟨h3', tk3, rfl, k3⟩ := h5
          refine ⟨_, tk3, rfl, fun b o hb e => ?_⟩
          simp only [List.mem_cons, List.not_mem_nil, or_false, not_or] at hb
          exact (Heap.get?_update_other _ _ (Ne.symm hb.2)).trans (k3 b o (by simpa using hb.1) e)
        · rw [Array.toList_push, hacc, filter_step h1 h2 (by simpa using h3) (fun j u a b c => by simpa using h4 j u a b c)]
      · obtain ⟨h', tk, rfl, k2, k3⟩ := h2
        refine wpAny_pure (hR _ ⟨c, ?_⟩ ?_)
        · rw [show (filterP ys xs) = acc.toList by rw [hacc, filterP]; exact (filter_skip fun j u a b => by simpa using h1 j u a b).symm, Array.toArray_toList]
          exact k2 S _ hSI hSf hS'
        · obtain ⟨h3', tk3, rfl, k4⟩ := hk
          exact ⟨h', tk, rfl, fun b o b1 b2 b3 e => k2 b o b1 b3 (k4 b o (by simp only [List.mem_cons, List.not_mem_nil, or_false, not_or]; exact ⟨b1, b2⟩) e), k3⟩
  exact aux _ 0 #[] c₀ s rfl (KeepsBut.refl s) hI hS (by simp)

theorem ff_list {w : World} {A : Around} {E : Value → Shared → Prop} {s : Shared} {hb : Heap} {x dx I q fl sk : Addr} {xs ys : List Value} {fcs : List (Addr × Cell)} {outer : List Env} {Q : Value → Shared → Prop}
    (hG : G w hb) (hsub : ∀ b o, hb.get? b = some o → s.heap.get? b = some o) (hbI : hb.get? I = none) (hbf : ∀ p ∈ fcs, hb.get? p.1 = none)
    (hx : hb.get? x = some (ffObj dx I (.ref q))) (hdx : hb.get? dx = some emptyDict) (hq : hb.get? q = some (mwObj sk)) (hfl : hb.IsList fl xs.toArray) (hsk : hb.IsList sk ys.toArray)
    (hI : s.heap.get? I = some (liObj fl 0)) (hfc : ∀ p ∈ fcs, CellAt s.heap p.1 p.2) (nd : (I :: fcs.map (·.1)).Nodup) (hF : FramesIn outer fcs) (hfr : A.frames = some outer)
    (hX : ∀ v ∈ xs, IsB v) (hY : ∀ v ∈ ys, IsB v) (hr : Room A 8 90) (hlen : xs.length < 2 ^ 20)
    (hQ : ∀ D s', s.heap.get? D = none → s'.heap.PlainList D (filterP ys xs).toArray →
      (∃ h' tk, s' = { s with heap := h', toks := tk } ∧ (∀ b o, b ≠ I → b ∉ fcs.map (·.1) → s.heap.get? b = some o → h'.get? b = some o) ∧ ∀ p ∈ fcs, CellUp h' p.1 p.2) → Q (.ref D) s') :
    wpAny (model P w) A (call (.type "list") [.ref x]) Q E s := by
  refine callType_codes (Q₁ := fun obj s₁ => obj = .ref s.heap.objs.size ∧ s₁ = { s with heap := s.heap.push { cls := .type "list", data := .seq #[] } }) F.called_list (F.typeCall_list_1 _) F.entry_list_init
    (code_list_new _ ⟨rfl, rfl⟩) fun obj s₁ h₁ => ?_
  obtain ⟨rfl, rfl⟩ := h₁
  have hS : (s.heap.push { cls := .type "list", data := .seq #[] }).get? s.heap.objs.size = some { cls := .type "list", data := .seq #[] } := Heap.get?_push_size _ rfl
  have hSn : s.heap.get? s.heap.objs.size = none := get?_size_none _
  have hbS : hb.get? s.heap.objs.size = none := by
    cases e : hb.get? s.heap.objs.size with
    | none => rfl
    | some o => rw [hsub _ _ e] at hSn; cases hSn
  have neS : ∀ b o, s.heap.get? b = some o → b ≠ s.heap.objs.size := fun b o e z => by rw [z, hSn] at e; cases e
  have hr2 : Room A.in1.in1 8 88 := ((hr.in1 : Room A.in1 8 89).in1 : Room A.in1.in1 8 88)
  refine ⟨⟨_, hS, rfl⟩, F.args_list_init_2 _ _, ?_⟩
  generalize hS0 : s.heap.objs.size = S at *
  show wpAny _ A.in1.in1 (do let old ← Builtin.List.listItems (.ref S); Builtin.List.listUpdate (.ref S) (fun _ => #[]); letGo old.toList.reverse; Builtin.List.listExtendWith (.ref S) (.ref x) .none) _ _ _
  refine wpAny_bind ?_
  unfold Builtin.List.listItems
  refine wpAny_bind (wpAny_seqItems hS rfl (wpAny_pure ?_))
  show wpAny _ A.in1.in1 (updateSeq S (fun _ => #[]) >>= fun _ => letGo (#[] : Array Value).toList.reverse >>= fun _ => Builtin.List.listExtendWith (.ref S) (.ref x) .none) _ _ _
  refine wpAny_bind (wpAny_updateSeq hS rfl ?_)
  have hS₂ := Heap.get?_update_self (Obj.mapSeq (fun _ => (#[] : Array Value))) hS rfl
  refine wpAny_bind (wpAny_letGo ?_)
  have oth₂ : ∀ b o, s.heap.get? b = some o → ((s.heap.push { cls := .type "list", data := .seq #[] }).update S (Obj.mapSeq (fun _ => (#[] : Array Value)))).get? b = some o :=
    fun b o e => (Heap.get?_update_other _ _ (Ne.symm (neS b o e))).trans (Heap.get?_push_of_some _ e)
  unfold Builtin.List.listExtendWith
  have hgx := oth₂ _ _ (hsub _ _ hx)
  have hgdx := oth₂ _ _ (hsub _ _ hdx)
  have hG2 : G w ((s.heap.push { cls := .type "list", data := .seq #[] }).update S (Obj.mapSeq (fun _ => (#[] : Array Value)))) := hG.keeps fun b o e => oth₂ b o (hsub b o e)
  have II : W.InstAt ((s.heap.push { cls := .type "list", data := .seq #[] }).update S (Obj.mapSeq (fun _ => (#[] : Array Value)))) x (ffObj dx I (.ref q)) 71 (some emptyDict) := ⟨hgx, rfl, rfl, hgdx⟩
  have hSx : S ≠ x := (neS _ _ (hsub _ _ hx)).symm
  refine wpAny_bind (II.type.here ?_)
  have h1 : Builtin.List.listSameRef (.ref S) (.ref x) = false := by simp [Builtin.List.listSameRef, hSx]
  have h2 : (Value.ref 71 == Value.type "list") = false := by decide
  have h3 : (Value.ref 71 == Value.type "tuple") = false := by decide
  simp only [h1, h2, h3, Bool.or_false, Bool.false_eq_true, if_false]
  refine wpAny_bind (ff_pyIter hG2 hgx hgdx (hr2.mono (by decide) (by decide)) (fun s₃ hk₃ => ?_))
  refine wpAny_bind (wpAny_holding ?_)
  unfold Builtin.List.listLengthHint
  have II3 : W.InstAt s₃.heap x (ffObj dx I (.ref q)) 71 (some emptyDict) := ⟨keeps_get hk₃ hgx, rfl, rfl, keeps_get hk₃ hgdx⟩
  have X3 := (hG2.keeps fun b o e => keeps_get hk₃ e).kin
  refine wpAny_bind (wpAny_bind (II3.type.here ((looks_findIn X3 (ff_find_len w)).here ?_)))
  show wpAny _ A.in1.in1 (specialOf (Value.ref x) (Str.ofString "__length_hint__") >>= _) _ _ _
  refine wpAny_bind (wpAny_bind (II3.type.here ((looks_findIn X3 (ff_find_hint w)).here ?_)))
  refine wpAny_pure ?_
  show wpAny _ A.in1.in1 (rule "list.extend.makes-room" >>= fun _ => Builtin.List.listTouch (.ref S) >>= fun _ => again (.builtin "list.extend.loop" ⟨[.ref S, .ref x, .none], []⟩)) _ _ _
  refine wpAny_bind (wpAny_rule ?_)
  refine wpAny_bind ?_
  show wpAny _ _ (updateSeq S (·.push .none) >>= fun _ => updateSeq S (·.pop)) _ _ _
  have hS3 := keeps_get hk₃ hS₂
  obtain ⟨h3, tk3, rfl, k3⟩ := hk₃
  refine wpAny_bind (wpAny_updateSeq hS3 rfl ?_)
  have hS4 := Heap.get?_update_self (Obj.mapSeq (·.push Value.none)) hS3 rfl
  refine wpAny_updateSeq (hz := by seq_fits) hS4 rfl ?_
  have hS5 := Heap.get?_update_self (Obj.mapSeq (·.pop)) hS4 rfl
  have oth : ∀ b o, s.heap.get? b = some o → ((h3.update S (Obj.mapSeq (·.push Value.none))).update S (Obj.mapSeq (·.pop))).get? b = some o := fun b o e =>
    (Heap.get?_update_other _ _ (Ne.symm (neS b o e))).trans ((Heap.get?_update_other _ _ (Ne.symm (neS b o e))).trans (k3 b o (oth₂ b o e)))
  have hSI : S ≠ I := (neS _ _ hI).symm
  have hSf : S ∉ fcs.map (·.1) := fun m => by
    obtain ⟨p, hp, e⟩ := List.mem_map.mp m
    obtain ⟨o, ho⟩ := (hfc p hp).some
    exact neS _ _ ho e
  refine wpAny_pure ⟨plainId_quiet F.plain_extend_loop _, ff_extend hG (fun b o e => oth b o (hsub b o e)) hbI hbS hbf hx hdx hq hfl hsk (oth _ _ hI) (fun p hp => (hfc p hp).at fun o e => oth _ _ e) (List.nodup_cons.mpr ⟨by
      simp only [List.mem_cons, not_or]; exact ⟨hSI, hSf⟩, nd⟩) hF (show A.in1.frames = some outer from hfr) hS5 hX hY ((hr.in1 : Room A.in1 8 89).mono (by decide) (by decide)) hlen .none (fun s' hl' hrel => ?_)⟩
  refine ⟨rfl, hQ S s' hSn hl' ?_⟩
  obtain ⟨h', tk, rfl, k1, k2⟩ := hrel
  exact ⟨h', tk, rfl, fun b o b1 b2 e => k1 b o b1 (neS b o e) b2 (oth b o e), k2⟩

/-- from s to s' only the frames' marks change -/
noncomputable def Rel (fcs : List (Addr × Cell)) (s s' : Shared) : Prop :=
  ∃ h' tk, s' = { s with heap := h', toks := tk } ∧ (∀ b o, b ∉ fcs.map (·.1) → s.heap.get? b = some o → h'.get? b = some o) ∧ ∀ p ∈ fcs, CellUp h' p.1 p.2

theorem filter_spec {w : World} {A : Around} {E : Value → Shared → Prop} {s : Shared} {hb : Heap} {fl sk : Addr} {xs ys : List Value} {fcs : List (Addr × Cell)} {outer : List Env} {Q : Value → Shared → Prop}
    (hG : G w hb) (hsub : ∀ b o, hb.get? b = some o → s.heap.get? b = some o) (hbf : ∀ p ∈ fcs, hb.get? p.1 = none)
    (hfl : hb.IsList fl xs.toArray) (hsk : hb.PlainList sk ys.toArray)
    (hfc : ∀ p ∈ fcs, CellAt s.heap p.1 p.2) (nd : (fcs.map (·.1)).Nodup) (hF : FramesIn outer fcs) (hfr : A.frames = some outer)
    (hX : ∀ v ∈ xs, IsB v) (hY : ∀ v ∈ ys, IsB v) (hr : Room A 10 120) (hlen : xs.length < 2 ^ 20)
    (hQ : ∀ D s', s.heap.get? D = none → s'.heap.PlainList D (filterP ys xs).toArray → Rel fcs s s' → Q (.ref D) s') :
    wpAny (model P w) A (call (.ref 82) [.ref fl, .ref sk]) Q E s := by
  refine call_bodyF fcs [] [] (l := [("flist", some (.ref fl)), ("skip", some (.ref sk))]) hG hsub hbf (fun _ h => nomatch h) hfc nd (d := 9) (u := 117) hr (by k_is) (by k_is) (BindsTo.of_eq rfl) (by decide) (locs rfl) rfl (by simp; decide) (by decide) ?_
  intro env L h₀ s₁ A' he hfrm hA' hat hg₀ hk _ hks hL0 hr'
  dsimp only at he
  have hbh : ∀ b o, hb.get? b = some o → h₀.get? b = some o := fun b o e => hk b o (fun m => by obtain ⟨p, hp, rfl⟩ := List.mem_map.mp m; rw [hbf p hp] at e; cases e) (fun m => nomatch m) (hsub b o e)
  obtain ⟨lf, hlf, hlf2⟩ := hfl
  obtain ⟨nsk, hnsk⟩ := hsk
  have hlf0 := hbh _ _ hlf
  have hls0 := hbh _ _ hnsk
  repeat k_extra "m"
  refine cw_K (ff_keep w) rfl rfl ?_
  repeat k_extra "m"
  refine x_attr ?_
  repeat k_extra "m"
  refine getAttr_contains (xs := ys.toArray) ⟨nsk, hat.fs.keep _ _ hls0⟩ (fun q s₂ hk₂ hq0 hq => ?_)
  have hat₂ := hat.kept hk₂
  repeat k_extra "m"
  refine ff_new (xs := xs.toArray) (hg₀.of_at hat₂) ⟨lf, hat₂.fs.keep _ _ hlf0, hlf2⟩ (hr'.mono (by decide) (by decide)) (fun x dx I s₃ hk₃ hx0 hdx0 hI0 hI hdx hx => ?_)
  have hat₃ := hat₂.kept hk₃
  repeat k_extra "m"
  have hIf := hat₂.fresh hI0
  obtain ⟨oL, hoL, hoLd⟩ : ∃ o, s₃.heap.get? L = some o ∧ ∀ vs, o.data ≠ .fields vs := by
    obtain ⟨o, es, ep, ho, hd, r⟩ := hat₃.fs.ns
    exact ⟨o, ho, fun vs q => by rw [hd] at q; cases q⟩
  have hLf : L ∉ fcs.map (·.1) := fun m => by obtain ⟨p, hp, e⟩ := List.mem_map.mp m; exact (hat₃.fs.newW p hp).2 e
  have nd' : (I :: ((L, Cell.obj oL) :: fcs).map (·.1)).Nodup := by
    rw [List.map_cons]
    exact List.nodup_cons.mpr ⟨by simp only [List.mem_cons, not_or]; exact hIf.2, List.nodup_cons.mpr ⟨hLf, hat₃.fs.nd⟩⟩
  have hkeep : ∀ b o, s₂.heap.get? b = some o → s₃.heap.get? b = some o := fun b o e => keeps_get hk₃ e
  have nI : ∀ b o, s₂.heap.get? b = some o → b ≠ I := fun b o e z => by rw [z, hI0] at e; cases e
  have hfcs3 : ∀ p ∈ (L, Cell.obj oL) :: fcs, CellAt s₃.heap p.1 p.2 := fun p hp => by
    rcases List.mem_cons.mp hp with rfl | hp
    · exact hoL
    · exact hat₃.fs.own p hp
  have hF' : FramesIn (env :: outer) ((L, Cell.obj oL) :: fcs) := ⟨fun p hp => by
      rcases List.mem_cons.mp hp with rfl | hp
      · exact ⟨oL, rfl, hoLd⟩
      · exact hF.1 p hp, fun e' he' => by
      rcases List.mem_cons.mp he' with rfl | he'
      · exact ⟨by rw [he.kind]; exact (fun q => nomatch q), L, oL, hfrm, List.mem_cons_self, hoLd⟩
      · obtain ⟨a1, L', o', a2, a3, a4⟩ := hF.2 _ he'
        exact ⟨a1, L', o', a2, List.mem_cons_of_mem _ a3, a4⟩⟩
  obtain ⟨H, hidg, hH2, hH3⟩ : ∃ H : Heap, (∀ b o, b ∉ I :: ((L, Cell.obj oL) :: fcs).map (·.1) → s₃.heap.get? b = some o → H.get? b = some o) ∧ (∀ b o, H.get? b = some o → s₃.heap.get? b = some o) ∧ (∀ b, b ∈ I :: ((L, Cell.obj oL) :: fcs).map (·.1) → H.get? b = none) :=
    ⟨hideAll s₃.heap (I :: ((L, Cell.obj oL) :: fcs).map (·.1)), fun b o h e => hideAll_get _ e h, fun b o e => of_hideAll _ e, fun b h => hideAll_none _ h⟩
  have offI : ∀ b o, s₂.heap.get? b = some o → b ≠ L → b ∉ fcs.map (·.1) → b ∉ I :: ((L, Cell.obj oL) :: fcs).map (·.1) := fun b o e h1 h2 => by
    simp only [List.map_cons, List.mem_cons, not_or]; exact ⟨nI b o e, h1, h2⟩
  have offN : ∀ b, s₂.heap.get? b = none → b ≠ I → b ∉ I :: ((L, Cell.obj oL) :: fcs).map (·.1) := fun b e h0 => by
    simp only [List.map_cons, List.mem_cons, not_or]; exact ⟨h0, (hat₂.fresh e).2⟩
  have off0 : ∀ b o, h₀.get? b = some o → b ∉ I :: ((L, Cell.obj oL) :: fcs).map (·.1) := fun b o e => offI b o (hat₂.fs.keep b o e) (fun z => by rw [z, hat₂.fs.newL] at e; cases e) (fun m => by
    obtain ⟨p, hp, rfl⟩ := List.mem_map.mp m
    rw [(hat₂.fs.newW p hp).1] at e; cases e)
  have k03 : ∀ b o, h₀.get? b = some o → H.get? b = some o := fun b o e => hidg b o (off0 b o e) (hat₃.fs.keep b o e)
  have hxI : x ≠ I := fun z => by
    rw [z, hI] at hx
    have := congrArg Obj.cls (Option.some.inj hx)
    exact Value.noConfusion this
  have hdxI : dx ≠ I := fun z => by
    rw [z, hI] at hdx
    have := congrArg Obj.cls (Option.some.inj hdx)
    exact absurd (Value.type.inj this) (by decide)
  have hqf := hat.fresh hq0
  have a1 : H.get? I = none := hH3 I List.mem_cons_self
  have a2 : ∀ p ∈ (L, Cell.obj oL) :: fcs, H.get? p.1 = none := fun p hp => hH3 _ (List.mem_cons_of_mem _ (List.mem_map_of_mem (f := (·.1)) hp))
  have a3 : H.get? x = some (ffObj dx I (.ref q)) := hidg _ _ (offN x hx0 hxI) hx
  have a4 : H.get? dx = some emptyDict := hidg _ _ (offN dx hdx0 hdxI) hdx
  have a5 : H.get? q = some (mwObj sk) := hidg _ _ (offI q _ hq hqf.2.1 hqf.2.2) (hkeep _ _ hq)
  have a6 : H.IsList fl xs.toArray := ⟨lf, k03 _ _ hlf0, hlf2⟩
  have a7 : H.IsList sk ys.toArray := ⟨_, k03 _ _ hls0, rfl, nsk, rfl⟩
  have a8 : A'.frames = some (env :: outer) := by rw [hA', hfr]; rfl
  have a9 : Room A' 8 90 := hr'.mono (by decide) (by decide)
  have a10 : G w H := hg₀.keeps k03
  refine ff_list a10 hH2 a1 a2 a3 a4 a5 a6 a7 hI hfcs3 nd' hF' a8 hX hY a9 hlen ?_
  intro D s₄ hD hl hrel
  repeat k_extra "m"
  obtain ⟨h', tk, rfl, k1, k2⟩ := hrel
  have hsD : s.heap.get? D = none := by
    cases e : s.heap.get? D with
    | none => rfl
    | some o =>
      by_cases m : D ∈ fcs.map (·.1)
      · obtain ⟨p, hp, rfl⟩ := List.mem_map.mp m
        obtain ⟨o', ho'⟩ := (hat₃.fs.own p hp).some
        rw [hD] at ho'; cases ho'
      · have := hat₃.fs.keep _ _ (hk _ _ m (fun m => nomatch m) e)
        rw [hD] at this; cases this
  obtain ⟨h3, tk3, rfl, f3⟩ := hat₃
  refine hQ D _ hsD hl ⟨h', tk, rfl, fun b o hb e => ?_, fun p hp => k2 p (List.mem_cons_of_mem _ hp)⟩
  have e0 := hk b o hb (fun m => nomatch m) e
  have m0 := off0 b o e0
  simp only [List.mem_cons, not_or] at m0
  exact k1 b o m0.1 m0.2 (f3.keep b o e0)

/-- the 64 letters -/
noncomputable def b64tab : List UInt8 := [65, 66, 67, 68, 69, 70, 71, 72, 73, 74, 75, 76, 77, 78, 79, 80, 81, 82, 83, 84, 85, 86, 87, 88, 89, 90, 97, 98, 99, 100, 101, 102, 103, 104, 105, 106, 107, 108, 109, 110, 111, 112, 113, 114, 115, 116, 117, 118, 119, 120, 121, 122, 48, 49, 50, 51, 52, 53, 54, 55, 56, 57, 43, 47]
theorem gn_B64 (w : World) : ∃ t, GName w "_B64" (.bytes b64tab.toArray t) := ⟨_, .inl (by k_is)⟩

theorem truth_spec {w : World} {A : Around} {s : Shared} {b : Bool} {Q E : Value → Shared → Prop}
   (hG : G w s.heap) (hr : Room A 4 60) (hQ : ∀ s', Keeps s s' → Q (.bool b) s') : wpAny (model P w) A (call (.ref 129) [.bool b]) Q E s := by
  refine call_body [] [Str.ofString "t"] (l := [("x", some (.bool b)), ("t", none)]) hG (fun _ _ e => e) (fun _ h => nomatch h) (fun _ h => nomatch h) (by simp) (d := 3) (u := 57) hr (by k_is) (by k_is) (BindsTo.of_eq rfl) (by decide) (locs rfl) rfl (by simp; decide) (by decide) ?_
  intro env L h₀ s₁ A' he hat hg₀ hk hr'
  dsimp only at he
  repeat k_extra "m"
  refine x_if ?_
  repeat k_extra "m"
  refine o_ff rfl ?_
  repeat k_extra "m"
  refine o_tt rfl ?_
  refine w_tt rfl ?_
  repeat k_extra "m"
  rename_i hat₂
  cases b
  · rw [if_neg (by decide)]
    repeat k_extra "m"
    exact hQ _ (KeepsBut.to (hat₂.keepsBut (as := []) (fun b o _ e => hk b o (fun m => nomatch m) e)))
  · rw [if_pos rfl]
    repeat k_extra "m"
    exact hQ _ (KeepsBut.to (hat₂.keepsBut (as := []) (fun b o _ e => hk b o (fun m => nomatch m) e)))

theorem buffer_spec {w : World} {A : Around} {s : Shared} {b : Array UInt8} {t : Tok} {Q E : Value → Shared → Prop}
   (hG : G w s.heap) (hr : Room A 4 60) (hQ : ∀ s', Keeps s s' → Q (.bytes b t) s') : wpAny (model P w) A (call (.ref 122) [.bytes b t]) Q E s := by
  refine call_body [] [Str.ofString "t"] (l := [("data", some (.bytes b t)), ("t", none)]) hG (fun _ _ e => e) (fun _ h => nomatch h) (fun _ h => nomatch h) (by simp) (d := 3) (u := 57) hr (by k_is) (by k_is) (BindsTo.of_eq rfl) (by decide) (locs rfl) rfl (by simp; decide) (by decide) ?_
  intro env L h₀ s₁ A' he hat hg₀ hk hr'
  dsimp only at he
  repeat k_extra "m"
  rename_i hat₂
  refine x_if ?_
  repeat k_extra "m"
  refine w_tt rfl ?_
  repeat k_extra "m"
  exact hQ _ (KeepsBut.to (hat₂.keepsBut (as := []) (fun b o _ e => hk b o (fun m => nomatch m) e)))

theorem ascii_buffer_spec {w : World} {A : Around} {s : Shared} {b : Array UInt8} {t : Tok} {Q E : Value → Shared → Prop}
   (hG : G w s.heap) (hr : Room A 4 60) (hQ : ∀ s', Keeps s s' → Q (.bytes b t) s') : wpAny (model P w) A (call (.ref 115) [.bytes b t]) Q E s := by
  refine call_body [] [Str.ofString "t"] (l := [("data", some (.bytes b t)), ("t", none)]) hG (fun _ _ e => e) (fun _ h => nomatch h) (fun _ h => nomatch h) (by simp) (d := 3) (u := 57) hr (by k_is) (by k_is) (BindsTo.of_eq rfl) (by decide) (locs rfl) rfl (by simp; decide) (by decide) ?_
  intro env L h₀ s₁ A' he hat hg₀ hk hr'
  dsimp only at he
  repeat k_extra "m"
  rename_i hat₂
  refine x_if ?_
  repeat k_extra "m"
  refine w_ff rfl ?_
  repeat k_extra "m"
  refine x_if ?_
  repeat k_extra "m"
  refine w_tt rfl ?_
  repeat k_extra "m"
  exact hQ _ (KeepsBut.to (hat₂.keepsBut (as := []) (fun b o _ e => hk b o (fun m => nomatch m) e)))

noncomputable def tabN (k : Nat) : Nat := (b64tab.getD k 0).toNat
noncomputable def encW (lc : Nat) : Nat → Nat → List Nat → Nat × List Nat
  | 0, lb, out => (lb, out)
  | f + 1, lb, out => if 6 ≤ lb then encW lc f (lb - 6) (out ++ [tabN ((lc >>> (lb - 6)) &&& 63)]) else (lb, out)
noncomputable def encStep (st : Nat × Nat × List Nat) (b : Nat) : Nat × Nat × List Nat :=
  let lc := ((st.1 <<< 8) ||| b) &&& 65535
  let r := encW lc (st.2.1 + 8) (st.2.1 + 8) st.2.2
  (lc, r.1, r.2)
noncomputable def encEnd (st : Nat × Nat × List Nat) : List Nat :=
  if st.2.1 = 2 then st.2.2 ++ [tabN ((st.1 &&& 3) <<< 4), 61, 61] else if st.2.1 = 4 then st.2.2 ++ [tabN ((st.1 &&& 15) <<< 2), 61] else st.2.2
noncomputable def b64P (b : List UInt8) : List Nat := encEnd ((b.map (·.toNat)).foldl encStep (0, 0, []))

/-- the values of a list of naturals -/
noncomputable def NatsAre (vs : List Value) (ns : List Nat) : Prop := IntsAre vs (ns.map fun n : Nat => (n : Int))

theorem NatsAre.snoc {vs : List Value} {ns : List Nat} (h : NatsAre vs ns) (n : Nat) (t : Tok) : NatsAre (vs ++ [.int n t]) (ns ++ [n]) := by
  unfold NatsAre; rw [List.map_append]; exact IntsAre.append h (IntsAre.cons _ _ IntsAre.nil)
theorem tabN_lt (k : Nat) : tabN k < 256 := UInt8.toNat_lt _
theorem encW_bnd (lc : Nat) : ∀ f lb out, (∀ n ∈ out, n < 256) → lb ≤ f → (∀ n ∈ (encW lc f lb out).2, n < 256) ∧ (encW lc f lb out).1 < 6
  | 0, lb, out, h, h2 => ⟨h, by show lb < 6; lia⟩
  | f + 1, lb, out, h, h2 => by
    unfold encW
    split
    · exact encW_bnd lc f _ _ (fun n hn => by rcases List.mem_append.mp hn with h' | h'; exact h n h'; rw [List.mem_singleton.mp h']; exact tabN_lt _) (by lia)
    · exact ⟨h, by show lb < 6; lia⟩

theorem encEnd_lt {st : Nat × Nat × List Nat} (h : ∀ n ∈ st.2.2, n < 256) : ∀ n ∈ encEnd st, n < 256 := by
  intro n hn
  unfold encEnd at hn
  split at hn
  · rcases List.mem_append.mp hn with h' | h'
    · exact h n h'
    · simp only [List.mem_cons, List.not_mem_nil, or_false] at h'
      rcases h' with rfl | rfl | rfl
      · exact tabN_lt _
      · decide
      · decide
  · split at hn
    · rcases List.mem_append.mp hn with h' | h'
      · exact h n h'
      · simp only [List.mem_cons, List.not_mem_nil, or_false] at h'
        rcases h' with rfl | rfl
        · exact tabN_lt _
        · decide
    · exact h n hn
theorem encW_end {lc f lb : Nat} {out : List Nat} (h : ¬ 6 ≤ lb) : encW lc f lb out = (lb, out) := by
  cases f <;> simp [encW, h]

theorem b2a64_spec {w : World} {A : Around} {s : Shared} {b : List UInt8} {t : Tok} {Q E : Value → Shared → Prop}
   (hG : G w s.heap) (hr : Room A 8 100) (hn : b.length ≤ 64) (hQ : ∀ t s', Keeps s s' → Q (.bytes (byteArr ((b64P b).map fun n : Nat => (n : Int))) t) s') :
   wpAny (model P w) A (call (.ref 152) [.bytes b.toArray t] [(Str.ofString "newline", .bool false)]) Q E s := by
  refine call_body [] [Str.ofString "bin_data", Str.ofString "out", Str.ofString "leftbits", Str.ofString "leftchar", Str.ofString "b"] (l := [("data", some (.bytes b.toArray t)), ("newline", some (.bool false)), ("bin_data", none), ("out", none), ("leftbits", none), ("leftchar", none), ("b", none)]) hG (fun _ _ e => e) (fun _ h => nomatch h) (fun _ h => nomatch h) (by simp) (d := 7) (u := 97) hr (by k_is) (by k_is) (BindsTo.of_eq rfl) (by decide) (locs rfl) rfl (by simp; decide) (by decide) ?_
  intro env L h₀ s₁ A' he hat hg₀ hk hr'
  dsimp only at he
  repeat k_extra "n"
  refine buffer_spec (hg₀.of_at (by assumption)) (hr'.mono (by decide) (by decide)) (fun s₂ hk₂ => ?_)
  have hat₂ := At.kept (by assumption) hk₂
  repeat k_extra "n"
  refine truth_spec (hg₀.of_at (by assumption)) (hr'.mono (by decide) (by decide)) (fun s₃ hk₃ => ?_)
  have hat₃ := At.kept (by assumption) hk₃
  repeat k_extra "n"
  refine x_list ?_
  repeat k_extra "n"
  rename_i hatA
  refine ⟨by decide, fun D s₄ hk₄ hD hl₄ => ?_⟩
  have hfD := hatA.fresh hD
  have hat₄ := (hatA.kept hk₄).add (b := D) (xs := Cell.list []) hl₄ hfD.1 hfD.2.1 hfD.2.2
  repeat k_extra "n"
  refine wpAny_For ?_
  repeat k_extra "n"
  rename_i hatB
  refine k_pyIterB (fun I s₅ hk₅ hI hi₅ => ?_)
  have hfI := hatB.fresh hI
  have hat₅ := hatB.kept hk₅
  obtain ⟨tB, hB⟩ := gn_B64 w
  refine x_for (fun i l W => ∃ (st : Nat × Nat × List Nat) (vs : List Value) (t1 t2 : Tok) (u : Option Value), l = ([("data", some (.bytes b.toArray t)), ("newline", some (.bool false)), ("bin_data", some (.bytes b.toArray t)), ("out", some (.ref D)), ("leftbits", some (.int (st.2.1 : Nat) t1)), ("leftchar", some (.int (st.1 : Nat) t2)), ("b", u)] : List (Str × Option Value)) ∧
      W = ([(D, Cell.list vs)] : List (Addr × Cell)) ∧ NatsAre vs st.2.2 ∧ st.2.1 < 6 ∧ st.1 < 65536 ∧ (∀ n ∈ st.2.2, n < 256) ∧ vs.length ≤ 2 * i ∧ ((b.drop i).map (·.toNat)).foldl encStep st = (b.map (·.toNat)).foldl encStep (0, 0, [])) hat₅
    (KBw.walks hr'.handled I b.toArray t) hi₅ (as := [D]) (fun b hb => (List.mem_singleton.mp hb) ▸ hfI.2) (fun b hb => (List.mem_singleton.mp hb) ▸ hfI.1)
    ⟨(0, 0, []), [], _, _, _, rfl, rfl, .nil, by decide, by decide, (fun _ h => nomatch h), by simp, rfl⟩ rfl ?_ ?_
  · rintro i v l W h₁ s₆ E₆ hi ⟨c, uc, hc, rfl⟩ ⟨⟨lc, lb, out⟩, vs, t1, t2, u, rfl, rfl, hvs, hlb, hlc, hout, hlen, hgo⟩ _ hk₁ hat₆
    dsimp only at hlb hlc hout hvs hgo
    have hg₁ := hg₀.keeps hk₁
    have hcl : c.toNat < 256 := c.toNat_lt
    have hi' : i < b.length := by simpa using hi
    repeat k_extra "n"
    refine n_shl (x := lc) (y := 8) rfl rfl (by decide) (by lia) (fun t₃ s₃ hk₃ => ?_)
    have hatS := At.kept (by assumption) hk₃
    repeat k_extra "n"
    rename_i hatW
    have hlc' : ((lc <<< 8 ||| c.toNat) &&& 65535) < 65536 := Nat.lt_succ_of_le Nat.and_le_right
    refine x_while (fun n s' => ∃ (lb' f : Nat) (out' : List Nat) (vs' : List Value) (t1 t2 : Tok) (uu : Option Value), n = lb' ∧ At s h₁ L [("data", some (.bytes b.toArray t)), ("newline", some (.bool false)), ("bin_data", some (.bytes b.toArray t)), ("out", some (.ref D)), ("leftbits", some (.int (lb' : Nat) t1)), ("leftchar", some (.int (((lc <<< 8 ||| c.toNat) &&& 65535 : Nat) : Int) t2)), ("b", uu)] [(D, Cell.list vs')] s' ∧
      NatsAre vs' out' ∧ lb' ≤ f ∧ 6 * vs'.length + lb' = 6 * vs.length + (lb + 8) ∧ encW ((lc <<< 8 ||| c.toNat) &&& 65535) f lb' out' = encW ((lc <<< 8 ||| c.toNat) &&& 65535) (lb + 8) (lb + 8) out) (lb + 8)
      ⟨lb + 8, lb + 8, out, vs, _, _, _, rfl, hatW, hvs, Nat.le_refl _, rfl, rfl⟩ ?_
    rintro n s₇ E₇ ⟨lb', f, out', vs', t1', t2', uu, rfl, hat₇, hvs', hlf, hcnt, henc⟩
    repeat k_extra "n"
    refine u_split (fun hb1 => ?_) (fun hb1 => ?_)
    · have h6 : 6 ≤ n := of_decide_eq_true hb1
      obtain ⟨f', rfl⟩ : ∃ f', f = f' + 1 := ⟨f - 1, by lia⟩
      repeat k_extra "n"
      refine gm_list (xs := vs'.toArray) (At.cell (b := D) (c := Cell.list vs') (by assumption) List.mem_cons_self) F.slot_list_append F.type_list_append ?_
      repeat k_extra "n"
      refine n_sub (x := n) (y := 6) rfl rfl h6 (fun t₈ s₈ hk₈ => ?_)
      have hat₈ := At.kept (by assumption) hk₈
      repeat k_extra "n"
      refine k_subB (i := ((lc <<< 8 ||| c.toNat) &&& 65535) >>> (n - 6) &&& 63) rfl (Nat.lt_of_le_of_lt Nat.and_le_right (by decide)) (by decide) rfl (fun _ => rfl) (fun t₉ s₉ hk₉ => ?_)
      have hat₉ := At.kept (by assumption) hk₉
      repeat k_extra "n"
      refine k_append (hat₉.cell List.mem_cons_self) (by lia) (fun sa hka hla => ?_)
      have hata := hat₉.changeL (i := 0) rfl hka hla
      dsimp only [List.set_cons_zero] at hata
      repeat k_extra "n"
      refine n_sub (x := n) (y := 6) rfl rfl h6 (fun tb sb hkb => ?_)
      have hatb := At.kept (by assumption) hkb
      repeat k_extra "n"
      refine l_next (n - 6) (by lia) ⟨n - 6, f', _, _, _, _, _, rfl, by with_reducible assumption, hvs'.snoc _ _, by lia, by simp; lia, ?_⟩
      rw [← henc, encW, if_pos h6]; rfl
    · have h6 : ¬ 6 ≤ n := of_decide_eq_false hb1
      rw [encW_end h6] at henc
      have hstep : encStep (lc, lb, out) c.toNat = ((lc <<< 8 ||| c.toNat) &&& 65535, n, out') := by
        unfold encStep; simp only [← henc]
      have hb2 := encW_bnd ((lc <<< 8 ||| c.toNat) &&& 65535) (lb + 8) (lb + 8) out hout (Nat.le_refl _)
      rw [← henc] at hb2
      repeat k_extra "n"
      refine f_next (W := [(D, Cell.list vs')]) (by with_reducible assumption) rfl ?_
      refine ⟨((lc <<< 8 ||| c.toNat) &&& 65535, n, out'), vs', t1', t2', uu, rfl, rfl, hvs', by simpa using h6, hlc', hb2.1, by lia, ?_⟩
      have hdrop : b.drop i = c :: b.drop (i + 1) := by
        have hc' : b[i]? = some c := by simpa using hc
        obtain ⟨h1, h2⟩ := List.getElem?_eq_some_iff.mp hc'
        rw [List.drop_eq_getElem_cons h1, h2]
      rw [← hgo, hdrop, List.map_cons, List.foldl_cons, hstep]
  · rintro l W s₆ ⟨⟨lc, lb, out⟩, vs, t1, t2, u, rfl, rfl, hvs, hlb, hlc, hout, hlen, hgo⟩ _ hat₆
    dsimp only at hlb hlc hout hvs hgo
    have hst : (b.map (·.toNat)).foldl encStep (0, 0, []) = (lc, lb, out) := by
      rw [← hgo]; simp
    have hbl : vs.length ≤ 128 := by simp at hlen; lia
    have hJ : ∀ (s' : Shared) (vs' : List Value), At s h₀ L [("data", some (.bytes b.toArray t)), ("newline", some (.bool false)), ("bin_data", some (.bytes b.toArray t)), ("out", some (.ref D)), ("leftbits", some (.int (lb : Nat) t1)), ("leftchar", some (.int (lc : Nat) t2)), ("b", u)] [(D, Cell.list vs')] s' → NatsAre vs' (encEnd (lc, lb, out)) → vs'.length < 2 ^ 20 → Flow.next = Flow.next ∧ (fun s' => ∃ vs', At s h₀ L [("data", some (.bytes b.toArray t)), ("newline", some (.bool false)), ("bin_data", some (.bytes b.toArray t)), ("out", some (.ref D)), ("leftbits", some (.int (lb : Nat) t1)), ("leftchar", some (.int (lc : Nat) t2)), ("b", u)] [(D, Cell.list vs')] s' ∧ NatsAre vs' (encEnd (lc, lb, out)) ∧ vs'.length < 2 ^ 20) s' := fun s' vs' h1 h2 h3 => ⟨rfl, vs', h1, h2, h3⟩
    repeat k_extra "n"
    refine x_join (fun s' => ∃ vs', At s h₀ L [("data", some (.bytes b.toArray t)), ("newline", some (.bool false)), ("bin_data", some (.bytes b.toArray t)), ("out", some (.ref D)), ("leftbits", some (.int (lb : Nat) t1)), ("leftchar", some (.int (lc : Nat) t2)), ("b", u)] [(D, Cell.list vs')] s' ∧ NatsAre vs' (encEnd (lc, lb, out)) ∧ vs'.length < 2 ^ 20) ?_ ?_
    · refine x_if ?_
      repeat k_extra "n"
      refine w_split (fun hb1 => ?_) (fun hb1 => ?_)
      · have h2 : lb = 2 := of_decide_eq_true hb1
        repeat k_extra "n"
        refine gm_list (xs := (vs).toArray) (At.cell (b := D) (c := Cell.list (vs)) (by assumption) List.mem_cons_self) F.slot_list_append F.type_list_append ?_
        repeat k_extra "n"
        refine n_shl (x := lc &&& 3) (y := 4) rfl rfl (by decide) (Nat.lt_of_le_of_lt Nat.and_le_right (by decide)) (fun ti1 si1 hki1 => ?_)
        have hati1 := At.kept (by assumption) hki1
        repeat k_extra "n"
        refine k_subB (i := (lc &&& 3) <<< 4) rfl (by rw [Nat.shiftLeft_eq]; exact Nat.lt_of_le_of_lt (Nat.mul_le_mul_right _ Nat.and_le_right) (by decide)) (by decide) rfl (fun _ => rfl) (fun tj1 sj1 hkj1 => ?_)
        have hatj1 := At.kept (by assumption) hkj1
        repeat k_extra "n"
        refine k_append (At.cell (b := D) (c := Cell.list (vs)) (by assumption) List.mem_cons_self) (by simp; lia) (fun sa1 hka1 hla1 => ?_)
        have hata1 := At.changeL (i := 0) (W := [(D, Cell.list (vs))]) hatj1 rfl hka1 hla1
        dsimp only [List.set_cons_zero] at hata1
        repeat k_extra "n"
        refine gm_list (xs := (vs ++ [Value.int (tabN ((lc &&& 3) <<< 4) : Nat) tj1]).toArray) (At.cell (b := D) (c := Cell.list (vs ++ [Value.int (tabN ((lc &&& 3) <<< 4) : Nat) tj1])) (by assumption) List.mem_cons_self) F.slot_list_append F.type_list_append ?_
        repeat k_extra "n"
        rename_i tq2 sq2 hatz2
        refine k_append (At.cell (b := D) (c := Cell.list (vs ++ [Value.int (tabN ((lc &&& 3) <<< 4) : Nat) tj1])) (by assumption) List.mem_cons_self) (by simp; lia) (fun sa2 hka2 hla2 => ?_)
        have hata2 := At.changeL (i := 0) (W := [(D, Cell.list (vs ++ [Value.int (tabN ((lc &&& 3) <<< 4) : Nat) tj1]))]) hatz2 rfl hka2 hla2
        dsimp only [List.set_cons_zero] at hata2
        repeat k_extra "n"
        refine gm_list (xs := (vs ++ [Value.int (tabN ((lc &&& 3) <<< 4) : Nat) tj1] ++ [Value.int 61 tq2]).toArray) (At.cell (b := D) (c := Cell.list (vs ++ [Value.int (tabN ((lc &&& 3) <<< 4) : Nat) tj1] ++ [Value.int 61 tq2])) (by assumption) List.mem_cons_self) F.slot_list_append F.type_list_append ?_
        repeat k_extra "n"
        rename_i tq3 sq3 hatz3
        refine k_append (At.cell (b := D) (c := Cell.list (vs ++ [Value.int (tabN ((lc &&& 3) <<< 4) : Nat) tj1] ++ [Value.int 61 tq2])) (by assumption) List.mem_cons_self) (by simp; lia) (fun sa3 hka3 hla3 => ?_)
        have hata3 := At.changeL (i := 0) (W := [(D, Cell.list (vs ++ [Value.int (tabN ((lc &&& 3) <<< 4) : Nat) tj1] ++ [Value.int 61 tq2]))]) hatz3 rfl hka3 hla3
        dsimp only [List.set_cons_zero] at hata3
        repeat k_extra "n"
        refine hJ _ _ (by with_reducible assumption) ?_ (by simp; lia)
        have e : encEnd (lc, lb, out) = out ++ [tabN ((lc &&& 3) <<< 4)] ++ [61] ++ [61] := by simp [encEnd, h2]
        rw [e]
        exact ((hvs.snoc _ _).snoc _ _).snoc _ _
      · have h2 : ¬ lb = 2 := of_decide_eq_false hb1
        repeat k_extra "n"
        refine x_if ?_
        repeat k_extra "n"
        refine w_split (fun hb2 => ?_) (fun hb2 => ?_)
        · have h4 : lb = 4 := of_decide_eq_true hb2
          repeat k_extra "n"
          refine gm_list (xs := (vs).toArray) (At.cell (b := D) (c := Cell.list (vs)) (by assumption) List.mem_cons_self) F.slot_list_append F.type_list_append ?_
          repeat k_extra "n"
          refine n_shl (x := lc &&& 15) (y := 2) rfl rfl (by decide) (Nat.lt_of_le_of_lt Nat.and_le_right (by decide)) (fun ti2 si2 hki2 => ?_)
          have hati2 := At.kept (by assumption) hki2
          repeat k_extra "n"
          refine k_subB (i := (lc &&& 15) <<< 2) rfl (by rw [Nat.shiftLeft_eq]; exact Nat.lt_of_le_of_lt (Nat.mul_le_mul_right _ Nat.and_le_right) (by decide)) (by decide) rfl (fun _ => rfl) (fun tj2 sj2 hkj2 => ?_)
          have hatj2 := At.kept (by assumption) hkj2
          repeat k_extra "n"
          refine k_append (At.cell (b := D) (c := Cell.list (vs)) (by assumption) List.mem_cons_self) (by simp; lia) (fun sa4 hka4 hla4 => ?_)
          have hata4 := At.changeL (i := 0) (W := [(D, Cell.list (vs))]) hatj2 rfl hka4 hla4
          dsimp only [List.set_cons_zero] at hata4
          repeat k_extra "n"
          refine gm_list (xs := (vs ++ [Value.int (tabN ((lc &&& 15) <<< 2) : Nat) tj2]).toArray) (At.cell (b := D) (c := Cell.list (vs ++ [Value.int (tabN ((lc &&& 15) <<< 2) : Nat) tj2])) (by assumption) List.mem_cons_self) F.slot_list_append F.type_list_append ?_
          repeat k_extra "n"
          rename_i tq5 sq5 hatz5
          refine k_append (At.cell (b := D) (c := Cell.list (vs ++ [Value.int (tabN ((lc &&& 15) <<< 2) : Nat) tj2])) (by assumption) List.mem_cons_self) (by simp; lia) (fun sa5 hka5 hla5 => ?_)
          have hata5 := At.changeL (i := 0) (W := [(D, Cell.list (vs ++ [Value.int (tabN ((lc &&& 15) <<< 2) : Nat) tj2]))]) hatz5 rfl hka5 hla5
          dsimp only [List.set_cons_zero] at hata5
          repeat k_extra "n"
          refine hJ _ _ (by with_reducible assumption) ?_ (by simp; lia)
          have e : encEnd (lc, lb, out) = out ++ [tabN ((lc &&& 15) <<< 2)] ++ [61] := by simp [encEnd, h4]
          rw [e]
          exact (hvs.snoc _ _).snoc _ _
        · have h4 : ¬ lb = 4 := of_decide_eq_false hb2
          repeat k_extra "n"
          refine hJ _ _ (by with_reducible assumption) ?_ (by lia)
          have e : encEnd (lc, lb, out) = out := by simp [encEnd, h2, h4]
          rw [e]; exact hvs
    · rintro s₇ ⟨vs', hat₇, hvs', hl'⟩
      repeat k_extra "n"
      refine x_if ?_
      repeat k_extra "n"
      refine w_ff rfl ?_
      repeat k_extra "n"
      refine k_bytesOf hr'.handled (At.cell (b := D) (c := Cell.list vs') (by assumption) List.mem_cons_self).isList hvs' ?_ hl' (fun tr s₈ hk₈ => ?_)
      · intro z hz
        obtain ⟨n, hn', rfl⟩ := List.mem_map.mp hz
        have := encEnd_lt hout n hn'
        lia
      · have hat₈ := hat₇.kept hk₈
        repeat k_extra "n"
        have e : b64P b = encEnd (lc, lb, out) := by unfold b64P; rw [hst]
        rw [← e]
        refine hQ _ _ (KeepsBut.to (hat₈.keepsBut (as := []) (fun b o _ e => hk b o (fun m => nomatch m) e)))

section
variable {w : World} {A : Around} {E : Value → Shared → Prop} {s s₀ : Shared} {env : Env}
theorem x_callkw {M : Model} {x : Str} {p pos : Pos} {args : List Expr} {k : Keyword} {kws : List Keyword} {Q : Value → Shared → Prop}
    (h : wpAny M A (eval (.Name x p) env) (fun f s₁ => wpAny M A (callWith pos f [] (backTo pos (starEach args env)) (backToKw pos (keywordEach (k :: kws) env))) Q E s₁) E s) : wpAny M A (eval (.Call (.Name x p) args (k :: kws) pos) env) Q E s :=
  wpAny_Call_Name_kw h
/-- a def of the text with keywords -/
theorem cw_kw {f : Addr} {pos : Pos} {e : Expr} {rest : List Expr} {kws : List Keyword} {Q : Value → Shared → Prop} (hk : keepIn (hx.heap_1 w.params) (.ref f) = true)
    (hall : (backToKw pos (keywordEach kws env)).all (·.1.isSome) = true) (hplain : ((backTo pos (starEach (e :: rest) env)).any (·.1) || (backToKw pos (keywordEach kws env)).any (·.1.isNone)) = false) (he : starEach (e :: rest) env = (false, eval e env) :: starEach rest env)
    (h : wpAny (model P w) A (spliced (backTo pos (starEach (e :: rest) env))) (fun vs s₁ => wpAny (model P w) A (evalAll ((backToKw pos (keywordEach kws env)).map (·.2)))
      (fun ks s₂ => G w s₂.heap ∧ wpAny (model P w) A (call (.ref f) vs (((backToKw pos (keywordEach kws env)).filterMap (·.1)).zip ks)) Q E s₂) E s₁) E s) :
    wpAny (model P w) A (callWith pos (.ref f) [] (backTo pos (starEach (e :: rest) env)) (backToKw pos (keywordEach kws env))) Q E s :=
  callWith_of hplain (keeps_K (M := model P w) hk) (evalArgs_kw2 hall (wpAny_mono h (fun _ _ q => wpAny_mono q (fun _ _ q2 => ⟨q2.1.kin, q2.2⟩) fun _ _ z => z) fun _ _ z => z) he)
theorem x_kw1 {M : Model} {pos : Pos} {y : Str} {e : Expr} {kp : Pos} {Q : List Value → Shared → Prop} (h : wpAny M A (eval e env) (fun v s₁ => Q [v] s₁) E s) : wpAny M A (evalAll ((backToKw pos (keywordEach [⟨some y, e, kp⟩] env)).map (·.2))) Q E s :=
  kwAll_cons (wpAny_mono h (fun _ _ q => kwAll_nil q) fun _ _ z => z)
end

theorem b64encode_spec {w : World} {A : Around} {s : Shared} {b : List UInt8} {t : Tok} {Q E : Value → Shared → Prop}
   (hG : G w s.heap) (hr : Room A 10 120) (hn : b.length ≤ 64) (hQ : ∀ t s', Keeps s s' → Q (.bytes (byteArr ((b64P b).map fun n : Nat => (n : Int))) t) s') :
   wpAny (model P w) A (call (.ref 183) [.bytes b.toArray t]) Q E s := by
  refine call_body [] [Str.ofString "encoded"] (l := [("s", some (.bytes b.toArray t)), ("altchars", some .none), ("encoded", none)]) hG (fun _ _ e => e) (fun _ h => nomatch h) (fun _ h => nomatch h) (by simp) (d := 9) (u := 117) hr (by k_is) (by k_is) (by exact binds_K (K := hx.heap_1 w.params) hG.kin rfl (by k_is) rfl rfl rfl) (by decide) (locs rfl) rfl (by simp; decide) (by decide) ?_
  intro env L h₀ s₁ A' he hat hg₀ hk hr'
  dsimp only at he
  repeat k_extra "n"
  refine x_callkw ?_
  repeat k_extra "n"
  refine cw_kw (by k_is) rfl rfl rfl ?_
  repeat k_extra "n"
  refine x_kw1 ?_
  repeat k_extra "n"
  refine b2a64_spec (hg₀.of_at hat) (hr'.mono (by decide) (by decide)) hn (fun t₂ s₂ hk₂ => ?_)
  have hat₂ := hat.kept hk₂
  repeat k_extra "n"
  rename_i hat₃
  refine x_if ?_
  repeat k_extra "n"
  refine w_ff rfl ?_
  repeat k_extra "n"
  exact hQ _ _ (KeepsBut.to (hat₃.keepsBut (as := []) (fun b o _ e => hk b o (fun m => nomatch m) e)))

section
open Builtin Builtin._codecs
theorem fold_bytes (l : List Nat) (acc : Array UInt8) : l.foldl (fun acc y => acc ++ ([y.toUInt8] : List UInt8).toArray) acc = acc ++ (l.map fun c => c.toUInt8).toArray := by
  induction l generalizing acc with
  | nil => simp
  | cons a r ih => rw [List.foldl_cons, ih]; simp
theorem forIn_two {σ α : Type} {n : Nat} {b b1 : σ} {f : Nat → σ → Sem (ForInStep σ)} {g : σ → Sem α} (h0 : f 0 b = pure (.yield b1)) (h1 : ∀ k, f k b1 = pure (.done b1)) :
    ((forIn [0:n + 1] b f : Sem σ) >>= g) = g b1 := by
  rw [Std.Legacy.Range.forIn_eq_forIn_range', show Std.Legacy.Range.size [0:n + 1] = n + 1 by simp [Std.Legacy.Range.size], show List.range' 0 (n + 1) 1 = 0 :: List.range' 1 n from rfl, List.forIn_cons, h0, pure_bind]
  cases n with
  | zero => simp
  | succ n => rw [show List.range' 1 (n + 1) = 1 :: List.range' 2 n from rfl]; simp only; rw [List.forIn_cons, h1, pure_bind, pure_bind]
theorem forIn_zero {σ α : Type} {b : σ} {f : Nat → σ → Sem (ForInStep σ)} {g : σ → Sem α} : ((forIn [0:0] b f : Sem σ) >>= g) = g b := by
  rw [Std.Legacy.Range.forIn_eq_forIn_range', show Std.Legacy.Range.size [0:0] = 0 from rfl]
  simp
theorem encodeNarrow_ascii (id : String) (self : Value) (x : Str) (h : ∀ c ∈ x.cps.toList, c < 128) (hz : x.cps.size ≤ 4096) : encodeNarrow id asciiCodec none self x = pure (x.cps.map fun c => c.toUInt8) := by
  have hbad : ∀ c ∈ x.cps.toList, asciiCodec.bad c = false := fun c hc => decide_eq_false (Nat.not_le.mpr (h c hc))
  by_cases h0 : x.cps.size = 0
  · have he : x.cps = #[] := Array.eq_empty_of_size_eq_zero h0
    unfold encodeNarrow
    rw [show x.length = 0 from h0]
    refine forIn_zero.trans ?_
    rw [he, Array.map_empty]
  · obtain ⟨n, hl⟩ : ∃ n, x.length = n + 1 := ⟨x.cps.size - 1, by show x.cps.size = _; lia⟩
    have hfi : (x.cps.extract 0 x.cps.size).findIdx? asciiCodec.bad = none := by
      rw [Array.findIdx?_eq_none_iff]
      intro a ha
      exact hbad a (by simpa using ha)
    have hfold : ((x.cps.extract 0 x.cps.size).extract 0 x.cps.size).foldl (fun acc y => acc ++ (asciiCodec.bytesOf y).toArray) #[] = x.cps.map fun c => c.toUInt8 := by
      have := fold_bytes x.cps.toList #[]
      simp at this
      simpa [asciiCodec] using this
    have hes : (x.cps.extract 0 x.cps.size).size = x.cps.size := by simp
    unfold encodeNarrow
    rw [hl]
    refine forIn_two (b1 := (x.cps.size, x.cps.map fun c => c.toUInt8, ({} : Faults))) ?_ fun k => ?_
    · refine (if_neg (by decide)).trans ?_
      split
      · rename_i y hy
        have hb : asciiCodec.bad y = false := hbad y (Array.mem_def.mp (Array.mem_of_getElem? hy))
        refine (if_pos (by rw [hb]; rfl)).trans ?_
        dsimp only
        rw [hfi, Option.getD_none, hes, hfold, Nat.zero_add]
      · rename_i hy
        exact (hy _ (show x.cps[0]? = some x.cps[0] from Array.getElem?_eq_getElem (by lia))).elim
    · have hs : (4096 : Nat) ≤ sizeLine := by decide +kernel
      refine (if_neg (by dsimp only; rw [Array.size_map]; lia)).trans ?_
      split
      · rename_i y hy
        exact absurd hy (by simp)
      · rfl
end

section
open Builtin Builtin._codecs Builtin.Str
theorem bu_slot : Slot "bytes" "upper" "bytes.upper" :=
  .of (owner := "bytes") (n := "upper") (by rw [typeLookup_type, builtinLookup_eq_fast]; kernel_rfl) (by decide +kernel) (by decide +kernel) (by decide +kernel)
    (by first | exact .inl (by decide +kernel) | exact .inr (by decide +kernel)) (by rw [isSubtype_type]; kernel_rfl)
theorem bu_type : typeOf (.builtin "bytes.upper") = pure (.type "method_descriptor") := by show builtinType _ = _; rw [builtinType_eq_fast]; kernel_rfl
theorem bu_entry : entryFor table "bytes.upper" = some Builtin.«bytes.upper» := entryFor_of_tree (by kernel_rfl)
theorem bu_args (a : Value) : argsOk "bytes.upper" ⟨[a], []⟩ := by
  unfold argsOk; rw [signature?_of (id := "bytes.upper") (n := ['r', 'e', 'p', 'p', 'u']) (o := ['s', 'e', 't', 'y', 'b']) (by kernel_rfl) FB.owner_bytes]; kernel_rfl

noncomputable def hexL (b : List UInt8) : List Nat := b.flatMap fun c => [Bytes.hexDigit (c.toNat / 16), Bytes.hexDigit (c.toNat % 16)]

theorem hex_fold (b : List UInt8) : ∀ (i : Nat) (acc : Array Nat), (b.zipIdx i).foldl (fun (out : Array Nat) (p : UInt8 × Nat) => (out.push (Bytes.hexDigit (p.1.toNat / 16))).push (Bytes.hexDigit (p.1.toNat % 16))) acc = acc ++ (hexL b).toArray := by
  induction b with
  | nil => intro i acc; simp [hexL]
  | cons c r ih => intro i acc; rw [List.zipIdx_cons, List.foldl_cons, ih]; simp [hexL]

variable {w : World} {A : Around} {E : Value → Shared → Prop} {s : Shared} {env : Env}
theorem k_hex {b : List UInt8} {t : Tok} {Q : Value → Shared → Prop} (hz : b.length ≤ 1000) (h : ∀ t s', Keeps s s' → Q (.str ⟨(hexL b).toArray⟩ t) s') : wpAny (model P w) A (call (.builtin "bytes.hex") [.bytes b.toArray t]) Q E s := by
  refine wpAny_call_entry FB.slot_bytes_hex (typeIs_bytes s _ t) FB.entry_bytes_hex ?_ (FB.args_bytes_hex_1 _)
  show wpAny _ _ (retStr ⟨(b.toArray.toList.zipIdx 0).foldl (fun (out : Array Nat) (p : UInt8 × Nat) => (out.push (Bytes.hexDigit (p.1.toNat / 16))).push (Bytes.hexDigit (p.1.toNat % 16))) #[]⟩) _ _ s
  rw [hex_fold]
  simp only [Array.empty_append]
  refine wpAny_bind (wpAny_mkStr (wpAny_pure ⟨_, rfl, h _ _ (keeps_tok s _)⟩) ?_)
  have h2 : (hexL b).length = 2 * b.length := by
    have : ∀ l : List UInt8, (hexL l).length = 2 * l.length := fun l => by
      induction l with
      | nil => rfl
      | cons c r ih => simp only [hexL, List.flatMap_cons, List.length_append] at ih ⊢; rw [ih]; simp; lia
    exact this b
  have hl : (4096 : Nat) ≤ sizeLine := by decide +kernel
  show (hexL b).toArray.size ≤ sizeLine
  simp; lia

theorem k_upperB {b : List UInt8} {t : Tok} {Q : Value → Shared → Prop} (hz : b.length ≤ 1000) (h : ∀ t s', Keeps s s' → Q (.bytes (b.map Bytes.toUpper).toArray t) s') : wpAny (model P w) A (call (.builtin "bytes.upper") [.bytes b.toArray t]) Q E s := by
  refine wpAny_call_entry bu_slot (typeIs_bytes s _ t) bu_entry ?_ (bu_args _)
  show wpAny _ _ (do ret (← mkBytes (b.toArray.toList.map Bytes.toUpper).toArray)) _ _ s
  have hl : (4096 : Nat) ≤ sizeLine := by decide +kernel
  refine wpAny_bind (wpAny_mkBytes (wpAny_pure ⟨_, rfl, h _ _ (keeps_tok s _)⟩) ?_)
  show (b.map Bytes.toUpper).toArray.size ≤ sizeLine
  simp; lia

theorem k_encode {x : Str} {t u : Tok} {Q : Value → Shared → Prop} (hx : ∀ c ∈ x.cps.toList, c < 128) (hz : x.cps.size ≤ 4096) (h : ∀ t s', Keeps s s' → Q (.bytes (x.cps.map fun c => c.toUInt8) t) s') : wpAny (model P w) A (call (.builtin "str.encode") [.str x t, .str (Str.ofString "ascii") u]) Q E s := by
  refine wpAny_call_entry F.slot_str_encode (typeIs_str s x t) F.entry_str_encode ?_ (F.args_str_encode_2 _ _)
  have e1 : ((Str.ofString "ascii").cps.any fun c => decide (c ≥ 128)) = false := by decide +kernel
  have e2 : (Str.ofString "ascii").cps.contains 0 = false := by decide +kernel
  have e3 : codecArg "str.encode" "encode" "'encoding'" (some (.str (Str.ofString "ascii") u)) = pure (some (Str.ofString "ascii")) := by
    unfold codecArg
    show (do
      if (Str.ofString "ascii").cps.any (fun c => decide (c ≥ 128)) then unsupported _
      if (Str.ofString "ascii").cps.contains 0 then (do rule "str.encode.nul-in-name"; raiseError "ValueError" "embedded null character")
      pure (some (Str.ofString "ascii"))) = _
    rw [e1, e2]; rfl
  have e4 : «str.encode» ⟨[.str x t, .str (Str.ofString "ascii") u], []⟩ = (do
      let encoding := (← codecArg "str.encode" "encode" "'encoding'" (some (.str (Str.ofString "ascii") u))).getD "utf-8"
      let errors ← codecArg "str.encode" "encode" "'errors'" none
      ret (← encodeRoad "str.encode" (.str x t) x encoding errors)) := rfl
  rw [e4, e3]
  show wpAny _ _ (do ret (← encodeRoad "str.encode" (.str x t) x (Str.ofString "ascii") none)) _ _ s
  have e5 : encodeRoad "str.encode" (.str x t) x (Str.ofString "ascii") none = (do mkBytes (← encodeNarrow "str.encode" asciiCodec none (.str x t) x)) := by
    have n1 : (normalName (Str.ofString "ascii")).toString = "ascii" := by decide +kernel
    unfold encodeRoad
    rw [n1]
    rfl
  rw [e5]
  rw [encodeNarrow_ascii _ _ _ hx hz]
  have hl : (4096 : Nat) ≤ sizeLine := by decide +kernel
  refine wpAny_bind (wpAny_bind (wpAny_pure (wpAny_mkBytes (wpAny_pure ⟨_, rfl, h _ _ (keeps_tok s _)⟩) ?_)))
  show (x.cps.map fun c => c.toUInt8).size ≤ sizeLine
  simp; lia
end

section
variable {w : World} {A : Around} {E : Value → Shared → Prop} {s : Shared} {env : Env}
theorem k_neg {n : Int} {k : Nat} {p pos : Pos} {Q : Value → Shared → Prop} (h : ∀ t s', Keeps s s' → Q (.int (-n) t) s') : wpAny (model P w) A (eval (.UnaryOp .USub (.Constant (.int n) k p) pos) env) Q E s :=
  UnaryOp_ (wpAny_Constant_int (PyProof.Rows.neg_int (h _ _ (keeps_tok s _))))
end

noncomputable def b16L (b : List UInt8) : List UInt8 := (hexL b).map fun c => c.toUInt8
theorem hexDigit_lt (n : Nat) (h : n < 16) : Builtin.Bytes.hexDigit n < 128 := by
  have : ∀ m : Fin 16, Builtin.Bytes.hexDigit m.val < 128 := by decide
  exact this ⟨n, h⟩
theorem hexL_lt (b : List UInt8) : ∀ c ∈ hexL b, c < 128 := by
  intro c hc
  unfold hexL at hc
  obtain ⟨d, _, hd⟩ := List.mem_flatMap.mp hc
  have h1 := d.toNat_lt
  simp only [List.mem_cons, List.not_mem_nil, or_false] at hd
  rcases hd with rfl | rfl
  · exact hexDigit_lt _ (by lia)
  · exact hexDigit_lt _ (by lia)
theorem hexL_len (b : List UInt8) : (hexL b).length = 2 * b.length := by
  induction b with
  | nil => rfl
  | cons c r ih => simp only [hexL, List.flatMap_cons, List.length_append] at ih ⊢; rw [ih]; simp; lia

theorem b2ahex_spec {w : World} {A : Around} {s : Shared} {b : List UInt8} {t : Tok} {Q E : Value → Shared → Prop}
   (hG : G w s.heap) (hr : Room A 8 100) (hn : b.length ≤ 64) (hQ : ∀ t s', Keeps s s' → Q (.bytes (b16L b).toArray t) s') :
   wpAny (model P w) A (call (.ref 161) [.bytes b.toArray t]) Q E s := by
  refine call_body [] [Str.ofString "t"] (l := [("data", some (.bytes b.toArray t)), ("sep", some (.ref 153)), ("bytes_per_sep", some (.int 1 _)), ("t", none)]) hG (fun _ _ e => e) (fun _ h => nomatch h) (fun _ h => nomatch h) (by simp) (d := 7) (u := 97) hr (by k_is) (by k_is) (by exact binds_K (K := hx.heap_1 w.params) hG.kin rfl (by k_is) rfl rfl rfl) (by decide) (locs rfl) rfl (by simp; decide) (by decide) ?_
  intro env L h₀ s₁ A' he hat hg₀ hk hr'
  dsimp only at he
  repeat k_extra "m"
  refine buffer_spec (hg₀.of_at (by assumption)) (hr'.mono (by decide) (by decide)) (fun s₂ hk₂ => ?_)
  have hat₂ := At.kept (by assumption) hk₂
  repeat k_extra "m"
  refine x_if ?_
  repeat k_extra "m"
  refine o_ff rfl ?_
  repeat k_extra "m"
  refine k_neg (fun t₃ s₃ hk₃ => ?_)
  have hat₃ := At.kept (by assumption) hk₃
  repeat k_extra "m"
  refine o_ff rfl ?_
  repeat k_extra "m"
  refine o_ff rfl ?_
  repeat k_extra "m"
  refine w_ff rfl ?_
  repeat k_extra "m"
  refine x_if ?_
  repeat k_extra "m"
  refine k_refIs ?_
  repeat k_extra "m"
  refine w_tt rfl ?_
  repeat k_extra "m"
  refine getMethod_builtin (typeIs_bytes _ _ _) FB.plainAttrs_bytes FB.slot_bytes_hex FB.type_bytes_hex (fun _ e => nomatch e) ?_
  repeat k_extra "m"
  refine k_hex (by lia) (fun t₄ s₄ hk₄ => ?_)
  have hat₄ := At.kept (by assumption) hk₄
  refine getMethod_builtin (typeIs_str _ _ _) F.plainAttrs_str F.slot_str_encode F.type_str_encode (fun _ e => nomatch e) ?_
  repeat k_extra "m"
  rename_i hat₅
  refine k_encode (by simpa using hexL_lt b) (by simp [hexL_len]; lia) (fun t₆ s₆ hk₆ => ?_)
  have hat₆ := hat₅.kept hk₆
  repeat k_extra "m"
  have e : (⟨(hexL b).toArray⟩ : Str).cps.map (fun c => c.toUInt8) = (b16L b).toArray := by simp [b16L]
  rw [e]
  exact hQ _ _ (KeepsBut.to (hat₆.keepsBut (as := []) (fun b o _ e => hk b o (fun m => nomatch m) e)))

theorem b16encode_spec {w : World} {A : Around} {s : Shared} {b : List UInt8} {t : Tok} {Q E : Value → Shared → Prop}
   (hG : G w s.heap) (hr : Room A 10 120) (hn : b.length ≤ 64) (hQ : ∀ t s', Keeps s s' → Q (.bytes ((b16L b).map Builtin.Bytes.toUpper).toArray t) s') :
   wpAny (model P w) A (call (.ref 198) [.bytes b.toArray t]) Q E s := by
  refine call_body [] [] (l := [("s", some (.bytes b.toArray t))]) hG (fun _ _ e => e) (fun _ h => nomatch h) (fun _ h => nomatch h) (by simp) (d := 9) (u := 117) hr (by k_is) (by k_is) (BindsTo.of_eq rfl) (by decide) (locs rfl) rfl (by simp) (by decide) ?_
  intro env L h₀ s₁ A' he hat hg₀ hk hr'
  dsimp only at he
  repeat k_extra "m"
  refine b2ahex_spec (hg₀.of_at hat) (hr'.mono (by decide) (by decide)) hn (fun t₂ s₂ hk₂ => ?_)
  have hat₂ := hat.kept hk₂
  refine getMethod_builtin (typeIs_bytes _ _ _) FB.plainAttrs_bytes bu_slot bu_type (fun _ e => nomatch e) ?_
  repeat k_extra "m"
  refine k_upperB (by simp [b16L, hexL_len]; lia) (fun t₃ s₃ hk₃ => ?_)
  have hat₃ := hat₂.kept hk₃
  repeat k_extra "m"
  exact hQ _ _ (KeepsBut.to (hat₃.keepsBut (as := []) (fun b o _ e => hk b o (fun m => nomatch m) e)))

section
variable {w : World} {A : Around} {E : Value → Shared → Prop} {s : Shared} {env : Env}
noncomputable def LinkB (M : Model) (A : Around) (r : Sem Value) (op : CmpOp) (b : Value) (Q : Bool → Shared → Prop) (E : Value → Shared → Prop) (t : Bool) (s : Shared) : Prop :=
  if t then wpAny M A r (fun d s' => wpAny M A (compareOp op b d) (fun c s'' => wpAny M A (truthy c) Q E s'') E s') E s else Q false s
theorem x_tchain2 {M : Model} {l r₁ r₂ : Expr} {op₁ op₂ : CmpOp} {pos : Pos} {whole : Sem Value} {Q : Bool → Shared → Prop} (hm : lastMarks [op₁, op₂] [r₁, r₂] = false)
    (h : wpAny M A (eval l env) (fun a s₁ => wpAny M A (eval r₁ env) (fun b s₂ => wpAny M A (compareOp op₁ a b) (fun c s₃ => wpAny M A (truthy c) (LinkB M A (eval r₂ env) op₂ b Q E) E s₃) E s₂) E s₁) E s) :
    wpAny M A (isTrue (.Compare l [op₁, op₂] [r₁, r₂] pos) env whole) Q E s :=
  isTrue_chain (wpAny_mono h (fun a s₁ h₁ => test_link (wpAny_mono h₁ (fun b s₂ h₂ => wpAny_mono h₂ (fun c s₃ h₃ => wpAny_mono h₃ (fun t s₄ h₄ => by
    cases t with
    | false => exact h₄
    | true => exact test_last h₄) fun _ _ z => z) fun _ _ z => z) fun _ _ z => z)) fun _ _ z => z) hm
theorem lb_tt {M : Model} {r : Sem Value} {op : CmpOp} {b : Value} {Q : Bool → Shared → Prop} {t : Bool} (ht : t = true) (h : wpAny M A r (fun d s' => wpAny M A (compareOp op b d) (fun c s'' => wpAny M A (truthy c) Q E s'') E s') E s) : LinkB M A r op b Q E t s := by subst ht; exact h
theorem lb_ff {M : Model} {r : Sem Value} {op : CmpOp} {b : Value} {Q : Bool → Shared → Prop} {t : Bool} (ht : t = false) (h : Q false s) : LinkB M A r op b Q E t s := by subst ht; exact h
end

section
variable {w : World} {A : Around} {E : Value → Shared → Prop} {s s₀ : Shared} {env : Env} {names : List (Str × NameKind)} {L : Addr} {h₀ : Heap} {l : List (Str × Option Value)} {W : List (Addr × Cell)}
theorem t_range {x : Str} {lo hi c : Nat} {lo' hi' : Int} {t : Tok} {k k' : Nat} {p p' p'' pos : Pos} {whole : Sem Value} {Q : Bool → Shared → Prop} (he : EnvIs env names L) (a : At s₀ h₀ L l W s) (hl : (x, .local) ∈ names) (hv : (x, some (.int (c : Int) t)) ∈ l) (hd : (x == ("__debug__" : Str)) = false)
    (h1 : lo' = (lo : Int)) (h2 : hi' = (hi : Int)) (hm : lastMarks [CmpOp.LtE, CmpOp.LtE] [.Name x p', .Constant (.int hi') k' p''] = false) (h : ∀ s', At s₀ h₀ L l W s' → Q (decide (lo ≤ c ∧ c ≤ hi)) s') :
    wpAny (model P w) A (isTrue (.Compare (.Constant (.int lo') k p) [.LtE, .LtE] [.Name x p', .Constant (.int hi') k' p''] pos) env whole) Q E s := by
  refine x_tchain2 hm (k_int fun t₁ s₁ hk₁ => ?_)
  have a₁ := a.kept hk₁
  refine ld_local he a₁ hl hv hd (c_leN h1 rfl (x_truthyB ?_))
  by_cases h3 : lo ≤ c
  · refine lb_tt (decide_eq_true h3) (k_int fun t₂ s₂ hk₂ => c_leN rfl h2 (x_truthyB ?_))
    have := h _ (a₁.kept hk₂)
    simpa [h3] using this
  · refine lb_ff (decide_eq_false h3) ?_
    have := h _ a₁
    simpa [h3] using this
end

noncomputable def b64val (c : Nat) : Nat := if 65 ≤ c ∧ c ≤ 90 then c - 65 else if 97 ≤ c ∧ c ≤ 122 then c - 71 else if 48 ≤ c ∧ c ≤ 57 then c + 4 else if c = 43 then 62 else if c = 47 then 63 else 64

theorem b64value_spec {w : World} {A : Around} {s : Shared} {c : Nat} {t : Tok} {Q E : Value → Shared → Prop}
   (hG : G w s.heap) (hr : Room A 4 60) (hQ : ∀ t s', Keeps s s' → Q (.int (b64val c : Nat) t) s') : wpAny (model P w) A (call (.ref 136) [.int c t]) Q E s := by
  refine call_body [] [] (l := [("c", some (.int c t))]) hG (fun _ _ e => e) (fun _ h => nomatch h) (fun _ h => nomatch h) (by simp) (d := 3) (u := 57) hr (by k_is) (by k_is) (BindsTo.of_eq rfl) (by decide) (locs rfl) rfl (by simp) (by decide) ?_
  intro env L h₀ s₁ A' he hat hg₀ hk hr'
  dsimp only at he
  have fin : ∀ (s' : Shared) (n : Nat) (t' : Tok), At s h₀ L [("c", some (.int c t))] [] s' → n = b64val c → Q (.int n t') s' := fun s' n t' a e => by
    subst e; exact hQ _ _ (KeepsBut.to (a.keepsBut (as := []) (fun b o _ e => hk b o (fun m => nomatch m) e)))
  repeat k_extra "n"
  refine x_if (t_range he (by with_reducible assumption) (by k_extra "m:in") (by k_extra "m:in") rfl rfl rfl rfl (fun s₂ a₂ => ?_))
  refine w_split (fun hb => ?_) (fun hb => ?_)
  · have h1 : 65 ≤ c ∧ c ≤ 90 := of_decide_eq_true hb
    repeat k_extra "n"
    refine n_sub (x := c) (y := 65) rfl rfl h1.1 (fun t₃ s₃ hk₃ => ?_)
    have hat₃ := At.kept (by assumption) hk₃
    repeat k_extra "n"
    exact fin _ _ _ hat₃ (by simp [b64val, h1])
  have h1 : ¬ (65 ≤ c ∧ c ≤ 90) := of_decide_eq_false hb
  repeat k_extra "n"
  refine x_if (t_range he (by with_reducible assumption) (by k_extra "m:in") (by k_extra "m:in") rfl rfl rfl rfl (fun s₂ a₂ => ?_))
  refine w_split (fun hb => ?_) (fun hb => ?_)
  · have h2 : 97 ≤ c ∧ c ≤ 122 := of_decide_eq_true hb
    repeat k_extra "n"
    refine n_sub (x := c) (y := 71) rfl rfl (by lia) (fun t₃ s₃ hk₃ => ?_)
    have hat₃ := At.kept (by assumption) hk₃
    repeat k_extra "n"
    exact fin _ _ _ hat₃ (by unfold b64val; rw [if_neg h1, if_pos h2])
  have h2 : ¬ (97 ≤ c ∧ c ≤ 122) := of_decide_eq_false hb
  repeat k_extra "n"
  refine x_if (t_range he (by with_reducible assumption) (by k_extra "m:in") (by k_extra "m:in") rfl rfl rfl rfl (fun s₂ a₂ => ?_))
  refine w_split (fun hb => ?_) (fun hb => ?_)
  · have h3 : 48 ≤ c ∧ c ≤ 57 := of_decide_eq_true hb
    repeat k_extra "n"
    rename_i hat₃
    exact fin _ _ _ hat₃ (by unfold b64val; rw [if_neg h1, if_neg h2, if_pos h3])
  have h3 : ¬ (48 ≤ c ∧ c ≤ 57) := of_decide_eq_false hb
  repeat k_extra "n"
  refine x_if ?_
  repeat k_extra "n"
  refine w_split (fun hb => ?_) (fun hb => ?_)
  · have h4 : c = 43 := of_decide_eq_true hb
    repeat k_extra "n"
    rename_i hat₃
    exact fin _ 62 _ hat₃ (by unfold b64val; rw [if_neg h1, if_neg h2, if_neg h3, if_pos h4])
  have h4 : ¬ c = 43 := of_decide_eq_false hb
  repeat k_extra "n"
  refine x_if ?_
  repeat k_extra "n"
  refine w_split (fun hb => ?_) (fun hb => ?_)
  · have h5 : c = 47 := of_decide_eq_true hb
    repeat k_extra "n"
    rename_i hat₃
    exact fin _ 63 _ hat₃ (by unfold b64val; rw [if_neg h1, if_neg h2, if_neg h3, if_neg h4, if_pos h5])
  have h5 : ¬ c = 47 := of_decide_eq_false hb
  repeat k_extra "n"
  rename_i hat₃
  exact fin _ 64 _ hat₃ (by unfold b64val; rw [if_neg h1, if_neg h2, if_neg h3, if_neg h4, if_neg h5])

theorem fromdata_spec {w : World} {A : Around} {s : Shared} {b : Array UInt8} {t : Tok} {Q E : Value → Shared → Prop}
   (hG : G w s.heap) (hr : Room A 4 60) (hQ : ∀ s', Keeps s s' → Q (.bytes b t) s') : wpAny (model P w) A (call (.ref 95) [.bytes b t]) Q E s := by
  refine call_body [] [] (l := [("s", some (.bytes b t))]) hG (fun _ _ e => e) (fun _ h => nomatch h) (fun _ h => nomatch h) (by simp) (d := 3) (u := 57) hr (by k_is) (by k_is) (BindsTo.of_eq rfl) (by decide) (locs rfl) rfl (by simp) (by decide) ?_
  intro env L h₀ s₁ A' he hat hg₀ hk hr'
  dsimp only at he
  repeat k_extra "m"
  refine x_if ?_
  repeat k_extra "m"
  refine kia_one (K := hx.heap_1 w.params) (b := false) kitx_bytes (hg₀.of_at hat).kin trivial (by kit_is) (fun e => nomatch e) (fun tk => ?_)
  have hat₂ := hat.toks tk
  repeat k_extra "m"
  refine w_ff rfl ?_
  repeat k_extra "m"
  refine x_if ?_
  repeat k_extra "m"
  refine kia_tup (K := hx.heap_1 w.params) (b := true) (its := [.type "bytes", .type "bytearray"]) kitx_bytes (hg₀.of_at hat₂).kin trivial ((hg₀.of_at hat₂).kin _ _ (show (hx.heap_1 w.params).lookup 88 = some _ by k_is)) (by kit_is) (fun e => nomatch e) (fun tk => ?_)
  have hat₄ := hat₂.toks tk
  repeat k_extra "m"
  refine w_tt rfl ?_
  repeat k_extra "m"
  exact hQ _ (KeepsBut.to (hat₄.keepsBut (as := []) (fun b o _ e => hk b o (fun m => nomatch m) e)))

structure DSt where
  q : Nat
  lc : Nat
  pads : Nat
  out : List Nat
noncomputable def decStep (st : DSt) (c : Nat) : DSt :=
  if c = 61 then { st with pads := st.pads + 1 } else
  if 64 ≤ b64val c then st else
  if st.q = 0 then ⟨1, b64val c, 0, st.out⟩ else
  if st.q = 1 then ⟨2, b64val c &&& 15, 0, st.out ++ [(st.lc <<< 2) ||| (b64val c >>> 4)]⟩ else
  if st.q = 2 then ⟨3, b64val c &&& 3, 0, st.out ++ [(st.lc <<< 4) ||| (b64val c >>> 2)]⟩ else
  ⟨0, 0, 0, st.out ++ [(st.lc <<< 6) ||| b64val c]⟩
noncomputable def decP (b : List UInt8) : DSt := (b.map (·.toNat)).foldl decStep ⟨0, 0, 0, []⟩
/-- what a state may hold -/
structure DOk (st : DSt) : Prop where
  lc : st.lc < 64
  lc2 : st.q = 2 → st.lc < 16
  lc3 : st.q = 3 → st.lc < 4
  q : st.q ≤ 3
  out : ∀ n ∈ st.out, n < 256

theorem mem_snoc_lt {out : List Nat} {n : Nat} (h : ∀ m ∈ out, m < 256) (hn : n < 256) : ∀ m ∈ out ++ [n], m < 256 := fun m hm => by
  rcases List.mem_append.mp hm with h' | h'
  · exact h m h'
  · rw [List.mem_singleton.mp h']; exact hn
theorem shl_or {x v a b : Nat} (hx : x < 2 ^ a) (hv : v < 2 ^ 6) (hab : a + b ≤ 8) (k : Nat) (hk : k ≤ 6) : (x <<< b) ||| (v >>> k) < 256 := by
  have h1 : x <<< b < 2 ^ 8 := by
    rw [Nat.shiftLeft_eq]
    have : x * 2 ^ b < 2 ^ a * 2 ^ b := (Nat.mul_lt_mul_right (Nat.pow_pos (by decide))).mpr hx
    rw [← Nat.pow_add] at this
    exact Nat.lt_of_lt_of_le this (Nat.pow_le_pow_right (by decide) hab)
  have h2 : v >>> k < 2 ^ 8 := Nat.lt_of_le_of_lt (Nat.shiftRight_le v k) (Nat.lt_trans hv (by decide))
  exact Nat.or_lt_two_pow h1 h2
theorem DOk.step {st : DSt} (h : DOk st) (c : Nat) : DOk (decStep st c) := by
  unfold decStep
  split
  · exact ⟨h.lc, h.lc2, h.lc3, h.q, h.out⟩
  split
  · exact h
  rename_i h61 h64
  have hv : b64val c < 2 ^ 6 := by simpa using h64
  split
  · exact ⟨hv, (fun h => nomatch h), (fun h => nomatch h), (by show (1 : Nat) ≤ 3; decide), h.out⟩
  split
  · exact ⟨Nat.lt_of_le_of_lt Nat.and_le_right (by decide), fun _ => Nat.lt_of_le_of_lt Nat.and_le_right (by decide), (fun h => nomatch h), (by show (2 : Nat) ≤ 3; decide), mem_snoc_lt h.out (shl_or (a := 6) (b := 2) h.lc hv (by decide) 4 (by decide))⟩
  split
  · rename_i h2
    exact ⟨Nat.lt_of_le_of_lt Nat.and_le_right (by decide), (fun h => nomatch h), fun _ => Nat.lt_of_le_of_lt Nat.and_le_right (by decide), (by show (3 : Nat) ≤ 3; decide), mem_snoc_lt h.out (shl_or (a := 4) (b := 4) (h.lc2 h2) hv (by decide) 2 (by decide))⟩
  · rename_i h0 h1 h2
    have h3 : st.q = 3 := by have := h.q; lia
    exact ⟨(by show (0 : Nat) < 64; decide), (fun h => nomatch h), (fun h => nomatch h), (by show (0 : Nat) ≤ 3; decide), mem_snoc_lt h.out (by simpa using shl_or (a := 2) (b := 6) (h.lc3 h3) hv (by decide) 0 (by decide))⟩

noncomputable def DL (b : List UInt8) (t : Tok) (D : Addr) (st : DSt) (i : Nat) (t1 t2 t3 t4 : Tok) (u : Option Value) : List (Str × Option Value) :=
  [("data", some (.bytes b.toArray t)), ("strict_mode", some (.bool false)), ("ascii_data", some (.bytes b.toArray t)), ("out", some (.ref D)), ("quad_pos", some (.int (st.q : Nat) t1)), ("leftchar", some (.int (st.lc : Nat) t2)), ("pads", some (.int (st.pads : Nat) t3)), ("i", some (.int (i : Nat) t4)), ("this_ch", u)]
noncomputable def DJ (b : List UInt8) (t : Tok) (D : Addr) (i : Nat) (l : List (Str × Option Value)) (W : List (Addr × Cell)) : Prop :=
  ∃ (st : DSt) (vs : List Value) (t1 t2 t3 t4 : Tok) (u : Option Value), l = DL b t D st i t1 t2 t3 t4 u ∧ W = [(D, Cell.list vs)] ∧ NatsAre vs st.out ∧ DOk st ∧ vs.length ≤ i ∧ ((b.drop i).map (·.toNat)).foldl decStep st = decP b

theorem a2b64_spec {w : World} {A : Around} {s : Shared} {b : List UInt8} {t : Tok} {Q E : Value → Shared → Prop}
   (hG : G w s.heap) (hr : Room A 8 100) (hn : b.length ≤ 64) (hend : (decP b).q ≠ 1 ∧ ((decP b).q = 0 ∨ 4 ≤ (decP b).q + (decP b).pads)) (hQ : ∀ t s', Keeps s s' → Q (.bytes (byteArr ((decP b).out.map fun n : Nat => (n : Int))) t) s') :
   wpAny (model P w) A (call (.ref 144) [.bytes b.toArray t] [(Str.ofString "strict_mode", .bool false)]) Q E s := by
  refine call_body [] [Str.ofString "ascii_data", Str.ofString "out", Str.ofString "quad_pos", Str.ofString "leftchar", Str.ofString "pads", Str.ofString "i", Str.ofString "this_ch"] (l := [("data", some (.bytes b.toArray t)), ("strict_mode", some (.bool false)), ("ascii_data", none), ("out", none), ("quad_pos", none), ("leftchar", none), ("pads", none), ("i", none), ("this_ch", none)]) hG (fun _ _ e => e) (fun _ h => nomatch h) (fun _ h => nomatch h) (by simp) (d := 7) (u := 97) hr (by k_is) (by k_is) (BindsTo.of_eq rfl) (by decide) (locs rfl) rfl (by simp; decide) (by decide) ?_
  intro env L h₀ s₁ A' he hat hg₀ hk hr'
  dsimp only at he
  repeat k_extra "n"
  refine ascii_buffer_spec (hg₀.of_at (by assumption)) (hr'.mono (by decide) (by decide)) (fun s₂ hk₂ => ?_)
  have hat₂ := At.kept (by assumption) hk₂
  repeat k_extra "n"
  refine truth_spec (hg₀.of_at (by assumption)) (hr'.mono (by decide) (by decide)) (fun s₃ hk₃ => ?_)
  have hat₃ := At.kept (by assumption) hk₃
  repeat k_extra "n"
  refine x_list ?_
  repeat k_extra "n"
  rename_i hatA
  refine ⟨by decide, fun D s₄ hk₄ hD hl₄ => ?_⟩
  have hfD := hatA.fresh hD
  have hat₄ := (hatA.kept hk₄).add (b := D) (xs := Cell.list []) hl₄ hfD.1 hfD.2.1 hfD.2.2
  repeat k_extra "n"
  refine wpAny_For ?_
  repeat k_extra "n"
  rename_i hatB
  refine k_pyIterB (fun I s₅ hk₅ hI hi₅ => ?_)
  have hfI := hatB.fresh hI
  have hat₅ := hatB.kept hk₅
  refine x_for (DJ b t D) hat₅
    (KBw.walks hr'.handled I b.toArray t) hi₅ (as := [D]) (fun b hb => (List.mem_singleton.mp hb) ▸ hfI.2) (fun b hb => (List.mem_singleton.mp hb) ▸ hfI.1)
    ⟨⟨0, 0, 0, []⟩, [], _, _, _, _, _, rfl, rfl, IntsAre.nil, ⟨by decide, (fun h => nomatch h), (fun h => nomatch h), by decide, (fun _ h => nomatch h)⟩, by simp, rfl⟩ rfl ?_ ?_
  · rintro i v l W h₁ s₆ E₆ hi ⟨c, uc, hc, rfl⟩ ⟨⟨q, lc, pads, out⟩, vs, t1, t2, t3, t4, u, rfl, rfl, hvs, hok, hlen, hgo⟩ _ hk₁ hat₆
    have hg₁ := hg₀.keeps hk₁
    have hi' : i < b.length := by simpa using hi
    have hdrop : b.drop i = c :: b.drop (i + 1) := by
      have hc' : b[i]? = some c := by simpa using hc
      obtain ⟨h1, h2⟩ := List.getElem?_eq_some_iff.mp hc'
      rw [List.drop_eq_getElem_cons h1, h2]
    rw [hdrop, List.map_cons, List.foldl_cons] at hgo
    have hok' := hok.step c.toNat
    have hgoal : ∀ (s' : Shared) (st : DSt) (vs' : List Value) (t1 t2 t3 t4 : Tok) (u : Option Value), At s h₁ L (DL b t D st (i + 1) t1 t2 t3 t4 u) [(D, Cell.list vs')] s' →
        st = decStep ⟨q, lc, pads, out⟩ c.toNat → NatsAre vs' st.out → vs'.length ≤ i + 1 → ∃ l W, DJ b t D (i + 1) l W ∧ W.map (·.1) = [D] ∧ At s h₁ L l W s' := fun s' st vs' t1 t2 t3 t4 u ha he2 hv hl => by
      subst he2
      exact ⟨_, _, ⟨_, vs', t1, t2, t3, t4, u, rfl, rfl, hv, hok', hl, hgo⟩, rfl, ha⟩
    unfold DL at hat₆
    dsimp only at hat₆
    have hcl : c.toNat < 256 := c.toNat_lt
    repeat k_extra "n"
    refine x_if ?_
    repeat k_extra "n"
    refine w_split (fun hb => ?_) (fun hb => ?_)
    · have h61 : c.toNat = 61 := of_decide_eq_true hb
      repeat k_extra "n"
      refine x_if ?_
      repeat k_extra "n"
      refine a_split (fun hb2 => ?_) (fun hb2 => ?_)
      · repeat k_extra "n"
        refine a_split (fun hb3 => ?_) (fun hb3 => ?_)
        · repeat k_extra "n"
          refine w_tt rfl ?_
          repeat k_extra "n"
          rename_i hz
          exact hgoal _ ⟨q, lc, pads + 1, out⟩ _ _ _ _ _ _ hz (by simp [decStep, h61]) hvs (by lia)
        · refine w_ff rfl ?_
          repeat k_extra "n"
          refine x_if ?_
          repeat k_extra "n"
          refine w_tt rfl ?_
          repeat k_extra "n"
          rename_i hz
          exact hgoal _ ⟨q, lc, pads + 1, out⟩ _ _ _ _ _ _ hz (by simp [decStep, h61]) hvs (by lia)
      · refine w_ff rfl ?_
        repeat k_extra "n"
        refine x_if ?_
        repeat k_extra "n"
        refine w_tt rfl ?_
        repeat k_extra "n"
        rename_i hz
        exact hgoal _ ⟨q, lc, pads + 1, out⟩ _ _ _ _ _ _ hz (by simp [decStep, h61]) hvs (by lia)
    · have h61 : ¬ c.toNat = 61 := of_decide_eq_false hb
      repeat k_extra "n"
      refine b64value_spec (hg₁.of_at (by assumption)) (hr'.mono (by decide) (by decide)) (fun tv sv hkv => ?_)
      have hatv := At.kept (by assumption) hkv
      repeat k_extra "n"
      refine x_if ?_
      repeat k_extra "n"
      refine w_split (fun hb => ?_) (fun hb => ?_)
      · have h64 : 64 ≤ b64val c.toNat := of_decide_eq_true hb
        repeat k_extra "n"
        refine x_if ?_
        repeat k_extra "n"
        refine w_ff rfl ?_
        repeat k_extra "n"
        rename_i hz
        exact hgoal _ ⟨q, lc, pads, out⟩ _ _ _ _ _ _ hz (by simp [decStep, h61, h64]) hvs (by lia)
      · have h64 : ¬ 64 ≤ b64val c.toNat := of_decide_eq_false hb
        repeat k_extra "n"
        refine x_if ?_
        repeat k_extra "n"
        refine k_truthyI ?_
        have hstr : ∀ (pp : Pos) (s' : Shared) (Q' : Bool → Shared → Prop) (bb : Bool), At s h₁ L (DL b t D ⟨q, lc, pads, out⟩ i t1 t2 t3 t4 (some (.int (b64val c.toNat : Nat) tv))) [(D, Cell.list vs)] s' → Q' false s' → AndThen (model P w) A' env [.Name (Str.ofString "strict_mode") pp] Q' E₆ bb s' := fun pp s' Q' bb ha hq => by
          unfold DL at ha
          refine a_split (fun _ => ?_) (fun _ => hq)
          repeat k_extra "n"
          exact a_ff rfl hq
        rename_i hz0
        refine hstr _ _ _ _ hz0 ?_
        refine w_ff rfl ?_
        repeat k_extra "n"
        refine x_if ?_
        repeat k_extra "n"
        refine w_split (fun hb => ?_) (fun hb => ?_)
        · have h0 : q = 0 := of_decide_eq_true hb
          repeat k_extra "n"
          rename_i hz
          exact hgoal _ ⟨1, b64val c.toNat, 0, out⟩ _ _ _ _ _ _ hz (by simp [decStep, h61, h64, h0]) hvs (by lia)
        have h0 : ¬ q = 0 := of_decide_eq_false hb
        repeat k_extra "n"
        refine x_if ?_
        repeat k_extra "n"
        refine w_split (fun hb => ?_) (fun hb => ?_)
        · have h1 : q = 1 := of_decide_eq_true hb
          repeat k_extra "n"
          refine gm_list (xs := vs.toArray) (At.cell (b := D) (c := Cell.list vs) (by assumption) List.mem_cons_self) F.slot_list_append F.type_list_append ?_
          repeat k_extra "n"
          refine n_shl (x := lc) (y := 2) rfl rfl (by decide) (by have := hok.lc; dsimp only at this; lia) (fun ta1 sa1 hka1 => ?_)
          have hata1 := At.kept (by assumption) hka1
          repeat k_extra "n"
          rename_i tq1 sq1 hq1
          refine k_append (At.cell (b := D) (c := Cell.list vs) (by assumption) List.mem_cons_self) (by lia) (fun sb1 hkb1 hlb1 => ?_)
          have hatb1 := At.changeL (i := 0) (W := [(D, Cell.list vs)]) hq1 rfl hkb1 hlb1
          dsimp only [List.set_cons_zero] at hatb1
          repeat k_extra "n"
          rename_i hz1
          exact hgoal _ ⟨2, b64val c.toNat &&& 15, 0, out ++ [(lc <<< 2) ||| (b64val c.toNat >>> 4)]⟩ _ _ _ _ _ _ hz1 (by simp [decStep, h61, h64, h1]) (hvs.snoc _ _) (by simp; lia)
        have h1 : ¬ q = 1 := of_decide_eq_false hb
        repeat k_extra "n"
        refine x_if ?_
        repeat k_extra "n"
        refine w_split (fun hb => ?_) (fun hb => ?_)
        · have h2 : q = 2 := of_decide_eq_true hb
          repeat k_extra "n"
          refine gm_list (xs := vs.toArray) (At.cell (b := D) (c := Cell.list vs) (by assumption) List.mem_cons_self) F.slot_list_append F.type_list_append ?_
          repeat k_extra "n"
          refine n_shl (x := lc) (y := 4) rfl rfl (by decide) (by have := hok.lc; dsimp only at this; lia) (fun ta2 sa2 hka2 => ?_)
          have hata2 := At.kept (by assumption) hka2
          repeat k_extra "n"
          rename_i tq2 sq2 hq2
          refine k_append (At.cell (b := D) (c := Cell.list vs) (by assumption) List.mem_cons_self) (by lia) (fun sb2 hkb2 hlb2 => ?_)
          have hatb2 := At.changeL (i := 0) (W := [(D, Cell.list vs)]) hq2 rfl hkb2 hlb2
          dsimp only [List.set_cons_zero] at hatb2
          repeat k_extra "n"
          rename_i hz2
          exact hgoal _ ⟨3, b64val c.toNat &&& 3, 0, out ++ [(lc <<< 4) ||| (b64val c.toNat >>> 2)]⟩ _ _ _ _ _ _ hz2 (by simp [decStep, h61, h64, h2]) (hvs.snoc _ _) (by simp; lia)
        have h2 : ¬ q = 2 := of_decide_eq_false hb
        repeat k_extra "n"
        refine gm_list (xs := vs.toArray) (At.cell (b := D) (c := Cell.list vs) (by assumption) List.mem_cons_self) F.slot_list_append F.type_list_append ?_
        repeat k_extra "n"
        refine n_shl (x := lc) (y := 6) rfl rfl (by decide) (by have := hok.lc; dsimp only at this; lia) (fun ta3 sa3 hka3 => ?_)
        have hata3 := At.kept (by assumption) hka3
        repeat k_extra "n"
        rename_i tq3 sq3 hq3
        refine k_append (At.cell (b := D) (c := Cell.list vs) (by assumption) List.mem_cons_self) (by lia) (fun sb3 hkb3 hlb3 => ?_)
        have hatb3 := At.changeL (i := 0) (W := [(D, Cell.list vs)]) hq3 rfl hkb3 hlb3
        dsimp only [List.set_cons_zero] at hatb3
        repeat k_extra "n"
        rename_i hz3
        exact hgoal _ ⟨0, 0, 0, out ++ [(lc <<< 6) ||| b64val c.toNat]⟩ _ _ _ _ _ _ hz3 (by simp [decStep, h61, h64, h0, h1, h2]) (hvs.snoc _ _) (by simp; lia)
  · rintro l W s₆ ⟨⟨q, lc, pads, out⟩, vs, t1, t2, t3, t4, u, rfl, rfl, hvs, hok, hlen, hgo⟩ _ hat₆
    have hst : decP b = ⟨q, lc, pads, out⟩ := by rw [← hgo]; simp
    rw [hst] at hend
    dsimp only at hend
    unfold DL at hat₆
    dsimp only at hat₆
    repeat k_extra "n"
    refine x_if ?_
    repeat k_extra "n"
    refine w_ff (decide_eq_false hend.1) ?_
    repeat k_extra "n"
    refine x_if ?_
    repeat k_extra "n"
    have tail : ∀ (env' : Env) (R : Bool → Shared → Prop) (s' : Shared) (bb : Bool) (rest : List Expr), bb = false → R false s' → AndThen (model P w) A' env' rest R (fun _ _ => False) bb s' := fun _ _ _ _ _ h1 h2 => a_ff h1 h2
    have fin : ∀ (s' : Shared) (tr : Tok), At s h₀ L [("data", some (.bytes b.toArray t)), ("strict_mode", some (.bool false)), ("ascii_data", some (.bytes b.toArray t)), ("out", some (.ref D)), ("quad_pos", some (.int (q : Nat) t1)), ("leftchar", some (.int (lc : Nat) t2)), ("pads", some (.int (pads : Nat) t3)), ("i", some (.int (b.toArray.size : Nat) t4)), ("this_ch", u)] [(D, Cell.list vs)] s' → Q (.bytes (byteArr (out.map fun n : Nat => (n : Int))) tr) s' := fun s' tr ha => by
      have := hQ tr s' (KeepsBut.to (ha.keepsBut (as := []) (fun b o _ e => hk b o (fun m => nomatch m) e)))
      rw [hst] at this; exact this
    have hbyte : ∀ z ∈ out.map (fun n : Nat => (n : Int)), 0 ≤ z ∧ z < 256 := fun z hz => by
      obtain ⟨n, hn', rfl⟩ := List.mem_map.mp hz
      have := hok.out n hn'
      lia
    have hlen' : vs.length < 2 ^ 20 := by simp at hlen; lia
    by_cases h0 : q = 0
    · refine tail _ _ _ _ _ (by simp [h0]) ?_
      refine w_ff rfl ?_
      repeat k_extra "n"
      refine k_bytesOf hr'.handled (At.cell (b := D) (c := Cell.list vs) (by assumption) List.mem_cons_self).isList hvs hbyte hlen' (fun tr s₈ hk₈ => ?_)
      have hat₈ := At.kept (by assumption) hk₈
      repeat k_extra "n"
      exact fin _ _ hat₈
    · refine a_tt (by simp [h0]) ?_
      repeat k_extra "n"
      refine a_ff (decide_eq_false (show ¬ (q + pads < 4) by lia)) ?_
      refine w_ff rfl ?_
      repeat k_extra "n"
      refine k_bytesOf hr'.handled (At.cell (b := D) (c := Cell.list vs) (by assumption) List.mem_cons_self).isList hvs hbyte hlen' (fun tr s₈ hk₈ => ?_)
      have hat₈ := At.kept (by assumption) hk₈
      repeat k_extra "n"
      exact fin _ _ hat₈

theorem b64decode_spec {w : World} {A : Around} {s : Shared} {b : List UInt8} {t : Tok} {Q E : Value → Shared → Prop}
   (hG : G w s.heap) (hr : Room A 10 120) (hn : b.length ≤ 64) (hend : (decP b).q ≠ 1 ∧ ((decP b).q = 0 ∨ 4 ≤ (decP b).q + (decP b).pads)) (hQ : ∀ t s', Keeps s s' → Q (.bytes (byteArr ((decP b).out.map fun n : Nat => (n : Int))) t) s') :
   wpAny (model P w) A (call (.ref 191) [.bytes b.toArray t]) Q E s := by
  refine call_body [] [] (l := [("s", some (.bytes b.toArray t)), ("altchars", some .none), ("validate", some (.bool false))]) hG (fun _ _ e => e) (fun _ h => nomatch h) (fun _ h => nomatch h) (by simp) (d := 9) (u := 117) hr (by k_is) (by k_is) (by exact binds_K (K := hx.heap_1 w.params) hG.kin rfl (by k_is) rfl rfl rfl) (by decide) (locs rfl) rfl (by simp; decide) (by decide) ?_
  intro env L h₀ s₁ A' he hat hg₀ hk hr'
  dsimp only at he
  repeat k_extra "n"
  refine fromdata_spec (hg₀.of_at (by assumption)) (hr'.mono (by decide) (by decide)) (fun s₂ hk₂ => ?_)
  have hat₂ := At.kept (by assumption) hk₂
  repeat k_extra "n"
  refine x_if ?_
  repeat k_extra "n"
  refine w_ff rfl ?_
  repeat k_extra "n"
  rename_i hat₃
  refine x_callkw ?_
  repeat k_extra "n"
  refine cw_kw (by k_is) rfl rfl rfl ?_
  repeat k_extra "n"
  refine x_kw1 ?_
  repeat k_extra "n"
  refine a2b64_spec (hg₀.of_at hat₃) (hr'.mono (by decide) (by decide)) hn hend (fun t₄ s₄ hk₄ => ?_)
  have hat₄ := hat₃.kept hk₄
  repeat k_extra "n"
  exact hQ _ _ (KeepsBut.to (hat₄.keepsBut (as := []) (fun b o _ e => hk b o (fun m => nomatch m) e)))

section
variable {w : World} {A : Around} {E : Value → Shared → Prop} {s : Shared} {env : Env}
theorem k_lenB {b : List UInt8} {t : Tok} {Q : Value → Shared → Prop} (hz : b.length ≤ 4096) (h : ∀ t s', Keeps s s' → Q (.int (b.length : Nat) t) s') : wpAny (model P w) A (call (.builtin "len") [.bytes b.toArray t]) Q E s :=
  len_bytes (by simp; lia) (by have := h (s.toks + 1) _ (keeps_tok s (s.toks + 1 + 1)); simpa using this)
theorem n_mod2 {x : Nat} {a : Int} {t u : Tok} {Q : Value → Shared → Prop} (ha : a = (x : Int)) (h : ∀ t s', Keeps s s' → Q (.int ((x % 2 : Nat) : Int) t) s') : wpAny (model P w) A (binaryOp .Mod (.int a t) (.int 2 u)) Q E s := by
  subst ha
  refine PyProof.Rows.mod_int' (by decide) ?_
  have e : Int.fmod (x : Int) 2 = ((x % 2 : Nat) : Int) := by rw [Int.fmod_eq_emod_of_nonneg _ (by decide)]; lia
  rw [e]
  exact h _ _ (keeps_tok s _)
end

noncomputable def hexval (c : Nat) : Nat := if 48 ≤ c ∧ c ≤ 57 then c - 48 else if 65 ≤ c ∧ c ≤ 70 then c - 55 else if 97 ≤ c ∧ c ≤ 102 then c - 87 else 16

theorem hexvalue_spec {w : World} {A : Around} {s : Shared} {c : Nat} {t : Tok} {Q E : Value → Shared → Prop}
   (hG : G w s.heap) (hr : Room A 4 60) (hQ : ∀ t s', Keeps s s' → Q (.int (hexval c : Nat) t) s') : wpAny (model P w) A (call (.ref 168) [.int c t]) Q E s := by
  refine call_body [] [] (l := [("c", some (.int c t))]) hG (fun _ _ e => e) (fun _ h => nomatch h) (fun _ h => nomatch h) (by simp) (d := 3) (u := 57) hr (by k_is) (by k_is) (BindsTo.of_eq rfl) (by decide) (locs rfl) rfl (by simp) (by decide) ?_
  intro env L h₀ s₁ A' he hat hg₀ hk hr'
  dsimp only at he
  have fin : ∀ (s' : Shared) (n : Nat) (t' : Tok), At s h₀ L [("c", some (.int c t))] [] s' → n = hexval c → Q (.int n t') s' := fun s' n t' a e => by
    subst e; exact hQ _ _ (KeepsBut.to (a.keepsBut (as := []) (fun b o _ e => hk b o (fun m => nomatch m) e)))
  repeat k_extra "n"
  refine x_if (t_range he (by with_reducible assumption) (by k_extra "m:in") (by k_extra "m:in") rfl rfl rfl rfl (fun s₂ a₂ => ?_))
  refine w_split (fun hb => ?_) (fun hb => ?_)
  · have h1 : 48 ≤ c ∧ c ≤ 57 := of_decide_eq_true hb
    repeat k_extra "n"
    refine n_sub (x := c) (y := 48) rfl rfl (by lia) (fun t₃ s₃ hk₃ => ?_)
    have hat₃ := At.kept (by assumption) hk₃
    repeat k_extra "n"
    exact fin _ _ _ hat₃ (by unfold hexval; rw [if_pos h1])
  have h1 : ¬ (48 ≤ c ∧ c ≤ 57) := of_decide_eq_false hb
  repeat k_extra "n"
  refine x_if (t_range he (by with_reducible assumption) (by k_extra "m:in") (by k_extra "m:in") rfl rfl rfl rfl (fun s₂ a₂ => ?_))
  refine w_split (fun hb => ?_) (fun hb => ?_)
  · have h2 : 65 ≤ c ∧ c ≤ 70 := of_decide_eq_true hb
    repeat k_extra "n"
    refine n_sub (x := c) (y := 55) rfl rfl (by lia) (fun t₃ s₃ hk₃ => ?_)
    have hat₃ := At.kept (by assumption) hk₃
    repeat k_extra "n"
    exact fin _ _ _ hat₃ (by unfold hexval; rw [if_neg h1, if_pos h2])
  have h2 : ¬ (65 ≤ c ∧ c ≤ 70) := of_decide_eq_false hb
  repeat k_extra "n"
  refine x_if (t_range he (by with_reducible assumption) (by k_extra "m:in") (by k_extra "m:in") rfl rfl rfl rfl (fun s₂ a₂ => ?_))
  refine w_split (fun hb => ?_) (fun hb => ?_)
  · have h3 : 97 ≤ c ∧ c ≤ 102 := of_decide_eq_true hb
    repeat k_extra "n"
    refine n_sub (x := c) (y := 87) rfl rfl (by lia) (fun t₃ s₃ hk₃ => ?_)
    have hat₃ := At.kept (by assumption) hk₃
    repeat k_extra "n"
    exact fin _ _ _ hat₃ (by unfold hexval; rw [if_neg h1, if_neg h2, if_pos h3])
  have h3 : ¬ (97 ≤ c ∧ c ≤ 102) := of_decide_eq_false hb
  repeat k_extra "n"
  rename_i hat₃
  exact fin _ 16 _ hat₃ (by unfold hexval; rw [if_neg h1, if_neg h2, if_neg h3])

theorem getD_of {b : List UInt8} {i : Nat} (h : i < b.length) : b.getD i 0 = b[i] := by simp [List.getD, h]
theorem mem_snoc_lt2 {out : List Nat} {n : Nat} (h : ∀ m ∈ out, m < 256) (hn : n < 256) : ∀ m ∈ out ++ [n], m < 256 := fun m hm => by
  rcases List.mem_append.mp hm with h' | h'
  · exact h m h'
  · rw [List.mem_singleton.mp h']; exact hn

noncomputable def unhexP : List UInt8 → List Nat
  | a :: b :: r => ((hexval a.toNat <<< 4) + hexval b.toNat) :: unhexP r
  | _ => []

theorem a2bhex_spec {w : World} {A : Around} {s : Shared} {b : List UInt8} {t : Tok} {Q E : Value → Shared → Prop}
   (hG : G w s.heap) (hr : Room A 8 100) (hn : b.length ≤ 64) (hev : b.length % 2 = 0) (hhex : ∀ c ∈ b, hexval c.toNat < 16) (hQ : ∀ t s', Keeps s s' → Q (.bytes (byteArr ((unhexP b).map fun n : Nat => (n : Int))) t) s') :
   wpAny (model P w) A (call (.ref 175) [.bytes b.toArray t]) Q E s := by
  refine call_body [] [Str.ofString "argbuf", Str.ofString "arglen", Str.ofString "out", Str.ofString "i", Str.ofString "top", Str.ofString "bot"] (l := [("hexstr", some (.bytes b.toArray t)), ("argbuf", none), ("arglen", none), ("out", none), ("i", none), ("top", none), ("bot", none)]) hG (fun _ _ e => e) (fun _ h => nomatch h) (fun _ h => nomatch h) (by simp) (d := 7) (u := 97) hr (by k_is) (by k_is) (BindsTo.of_eq rfl) (by decide) (locs rfl) rfl (by simp; decide) (by decide) ?_
  intro env L h₀ s₁ A' he hat hg₀ hk hr'
  dsimp only at he
  repeat k_extra "n"
  refine ascii_buffer_spec (hg₀.of_at (by assumption)) (hr'.mono (by decide) (by decide)) (fun s₂ hk₂ => ?_)
  have hat₂ := At.kept (by assumption) hk₂
  repeat k_extra "n"
  refine k_lenB (by lia) (fun t₃ s₃ hk₃ => ?_)
  have hat₃ := At.kept (by assumption) hk₃
  repeat k_extra "n"
  refine x_if ?_
  repeat k_extra "n"
  refine n_mod2 rfl (fun t₄ s₄ hk₄ => ?_)
  have hat₄ := At.kept (by assumption) hk₄
  refine k_truthyI ?_
  refine w_ff (by rw [hev]; rfl) ?_
  repeat k_extra "n"
  refine x_list ?_
  repeat k_extra "n"
  refine ⟨by decide, fun D sD hkD hD hlD => ?_⟩
  have hfD := hat₄.fresh hD
  have hat₅ := (hat₄.kept hkD).add (b := D) (xs := Cell.list []) hlD hfD.1 hfD.2.1 hfD.2.2
  repeat k_extra "n"
  rename_i hat₆
  refine x_while (fun n s' => ∃ (i : Nat) (vs : List Value) (out : List Nat) (t3 t4 : Tok) (u1 u2 : Option Value), n = b.length - i ∧ At s h₀ L [("hexstr", some (.bytes b.toArray t)), ("argbuf", some (.bytes b.toArray t)), ("arglen", some (.int (b.length : Nat) t3)), ("out", some (.ref D)), ("i", some (.int (i : Nat) t4)), ("top", u1), ("bot", u2)] [(D, Cell.list vs)] s' ∧
    NatsAre vs out ∧ vs.length ≤ i ∧ i ≤ b.length ∧ i % 2 = 0 ∧ (∀ n ∈ out, n < 256) ∧ out ++ unhexP (b.drop i) = unhexP b) b.length
    ⟨0, [], [], _, _, _, _, rfl, hat₆, IntsAre.nil, by simp, by lia, rfl, (fun _ h => nomatch h), rfl⟩ ?_
  rintro n s₇ E₇ ⟨i, vs, out, t3, t4, u1, u2, rfl, hat₇, hvs, hvl, hib, hie, hob, hgo⟩
  repeat k_extra "n"
  refine u_split (fun hb => ?_) (fun hb => ?_)
  · have hlt : i < b.length := of_decide_eq_true hb
    have hlt2 : i + 1 < b.length := by lia
    repeat k_extra "n"
    refine k_subB (i := i) rfl hlt (by lia) rfl (fun _ => rfl) (fun ta sa hka => ?_)
    have hata := At.kept (by assumption) hka
    repeat k_extra "n"
    refine hexvalue_spec (hg₀.of_at (by assumption)) (hr'.mono (by decide) (by decide)) (fun tb sb hkb => ?_)
    have hatb := At.kept (by assumption) hkb
    repeat k_extra "n"
    refine k_subB (i := i + 1) rfl hlt2 (by lia) rfl (fun _ => rfl) (fun tc sc hkc => ?_)
    have hatc := At.kept (by assumption) hkc
    repeat k_extra "n"
    refine hexvalue_spec (hg₀.of_at (by assumption)) (hr'.mono (by decide) (by decide)) (fun td sd hkd => ?_)
    have hatd := At.kept (by assumption) hkd
    have hm : ∀ j, j < b.length → hexval (b.getD j 0).toNat < 16 := fun j hj => by
      rw [getD_of hj]; exact hhex _ (List.getElem_mem hj)
    have hm1 := hm i hlt
    have hm2 := hm (i + 1) hlt2
    repeat k_extra "n"
    refine x_if ?_
    repeat k_extra "n"
    refine o_ff (decide_eq_false (show ¬ (16 ≤ hexval (b.getD i 0).toNat) by lia)) ?_
    repeat k_extra "n"
    refine o_ff (decide_eq_false (show ¬ (16 ≤ hexval (b.getD (i + 1) 0).toNat) by lia)) ?_
    repeat k_extra "n"
    refine w_ff rfl ?_
    repeat k_extra "n"
    refine gm_list (xs := vs.toArray) (At.cell (b := D) (c := Cell.list vs) (by assumption) List.mem_cons_self) F.slot_list_append F.type_list_append ?_
    repeat k_extra "n"
    refine n_shl (x := hexval (b.getD i 0).toNat) (y := 4) rfl rfl (by decide) (by lia) (fun te se hke => ?_)
    have hate := At.kept (by assumption) hke
    repeat k_extra "n"
    rename_i hatf
    refine k_append (At.cell (b := D) (c := Cell.list vs) (by assumption) List.mem_cons_self) (by lia) (fun sg hkg hlg => ?_)
    have hatg := At.changeL (i := 0) (W := [(D, Cell.list vs)]) hatf rfl hkg hlg
    dsimp only [List.set_cons_zero] at hatg
    repeat k_extra "n"
    rename_i hath
    have hs4 : hexval (b.getD i 0).toNat <<< 4 + hexval (b.getD (i + 1) 0).toNat < 256 := by rw [Nat.shiftLeft_eq]; lia
    refine l_next (b.length - (i + 2)) (by lia) ⟨i + 2, _, out ++ [hexval (b.getD i 0).toNat <<< 4 + hexval (b.getD (i + 1) 0).toNat], _, _, _, _, rfl, hath, hvs.snoc _ _, by simp; lia, by lia, by lia, mem_snoc_lt2 hob hs4, ?_⟩
    have hd : b.drop i = b.getD i 0 :: b.getD (i + 1) 0 :: b.drop (i + 2) := by
      rw [List.drop_eq_getElem_cons hlt, List.drop_eq_getElem_cons hlt2, getD_of hlt, getD_of hlt2]
    rw [← hgo, hd, unhexP, List.append_assoc]; rfl
  · have hlt : ¬ i < b.length := of_decide_eq_false hb
    have hie2 : b.drop i = [] := by simp; lia
    rw [hie2] at hgo
    have hout : out = unhexP b := by rw [← hgo]; simp [unhexP]
    repeat k_extra "n"
    refine k_bytesOf hr'.handled (At.cell (b := D) (c := Cell.list vs) (by assumption) List.mem_cons_self).isList hvs (fun z hz => by
      obtain ⟨n, hn', rfl⟩ := List.mem_map.mp hz
      have := hob n hn'
      lia) (by lia) (fun tr s₈ hk₈ => ?_)
    have hat₈ := At.kept (by assumption) hk₈
    repeat k_extra "n"
    rw [hout]
    exact hQ _ _ (KeepsBut.to (hat₈.keepsBut (as := []) (fun b o _ e => hk b o (fun m => nomatch m) e)))

section
open Builtin Builtin.Re
theorem re_plainAttrs : PlainAttrs "re.Pattern" :=
  ⟨⟨"object.__getattribute__", by rw [typeLookup_type, builtinLookup_eq_fast]; kernel_rfl, by decide +kernel⟩, by rw [typeLookup_type, builtinLookup_eq_fast]; kernel_rfl⟩
theorem re_slot : Slot "re.Pattern" "search" "re.Pattern.search" :=
  .of (owner := "re.Pattern") (n := "search") (by rw [typeLookup_type, builtinLookup_eq_fast]; kernel_rfl) (by decide +kernel) (by decide +kernel) (by decide +kernel)
    (by first | exact .inl (by decide +kernel) | exact .inr (by decide +kernel)) (by rw [isSubtype_type]; kernel_rfl)
theorem re_type : typeOf (.builtin "re.Pattern.search") = pure (.type "method_descriptor") := by show builtinType _ = _; rw [builtinType_eq_fast]; kernel_rfl
theorem re_entry : entryFor table "re.Pattern.search" = some Builtin.«re.Pattern.search» := entryFor_of_tree (by kernel_rfl)
theorem re_args (a b : Value) : argsOk "re.Pattern.search" ⟨[a, b], []⟩ := by unfold argsOk; kernel_rfl

noncomputable def reCode : Array Nat := #[14, 12, 4, 1, 1, 21, 22, 48, 57, 22, 65, 70, 0, 13, 9, 21, 22, 48, 57, 22, 65, 70, 0, 1]
/-- the machine, run till it says how it ended -/
noncomputable def reFind : Nat → Sre.M → Option Sre.M
  | 0, _ => none
  | f + 1, m => if (m.runFor 4).outcome.isSome then some (m.runFor 4) else reFind f (m.runFor 4)
noncomputable def reFails (text : List UInt8) : Bool := match reFind 64 (Sre.forSearch reCode (text.toArray.map (·.toNat)) 0 0 text.length false) with
  | some m => (match m.outcome with | some .failed => true | _ => false)
  | none => false

variable {w : World} {A : Around} {E : Value → Shared → Prop} {s : Shared}
theorem re_drive : ∀ (f n : Nat) (m m' : Sre.M) (Q : Sre.M → Shared → Prop), reFind f m = some m' → f ≤ n → Q m' s → wpAny (model P w) A (reDrive n m) Q E s
  | 0, _, _, _, _, h, _, _ => nomatch h
  | f + 1, n, m, m', Q, h, hn, hq => by
    obtain ⟨n, rfl⟩ : ∃ k, n = k + 1 := ⟨n - 1, by lia⟩
    unfold reFind at h
    unfold reDrive
    show wpAny _ _ (if (m.runFor 4).outcome.isSome = true then pure (m.runFor 4) else (rule "sre.turn" >>= fun _ => reDrive n (m.runFor 4))) _ _ _
    split at h
    · rename_i hs
      cases h
      rw [if_pos hs]
      exact wpAny_pure hq
    · rename_i hs
      rw [if_neg hs]
      exact wpAny_bind (wpAny_rule (re_drive f n _ m' Q h (by lia) hq))

theorem re_rules (seen : Nat → Bool) : ∀ (l : List Nat) (Q : PUnit → Shared → Prop), Q ⟨⟩ s → wpAny (model P w) A (forIn l PUnit.unit fun i _ => if seen i = true then (do rule (Sre.names.getD i ""); pure (ForInStep.yield PUnit.unit)) else pure (ForInStep.yield PUnit.unit)) Q E s
  | [], Q, h => by simpa using wpAny_pure h
  | a :: r, Q, h => by
    rw [List.forIn_cons]
    refine wpAny_bind ?_
    split
    · exact wpAny_bind (wpAny_rule (wpAny_pure (re_rules seen r Q h)))
    · exact wpAny_pure (re_rules seen r Q h)

theorem re_none {m : Sre.M} {Q : Option Sre.M → Shared → Prop} {m' : Sre.M} (h : reFind 64 m = some m') (ho : m'.outcome = some .failed) (hq : Q none s) : wpAny (model P w) A (reRunToEnd m) Q E s := by
  unfold reRunToEnd
  refine wpAny_bind (re_drive 64 _ m m' _ h (by decide) ?_)
  refine wpAny_bind (re_rules (fun i => m'.seen.has i) _ _ ?_)
  rw [ho]
  exact wpAny_pure hq

theorem re_search {b : List UInt8} {t : Tok} {oc : Obj} {Q : Value → Shared → Prop} (h87 : s.heap.get? 87 = some { cls := .type "re.Pattern", data := .fields #[.bytes #[91, 94, 48, 45, 57, 65, 45, 70, 93] 354, .int 0 381, .int 0 0, .none, .none, .ref 86, .int 1 0] })
    (h86 : ∃ vs n, s.heap.get? 86 = some oc ∧ oc.data = .seq vs n ∧ (vs.map reRawOf).map (·.toNat) = reCode) (hb : reFails b = true) (hz : b.length ≤ 1000) (hQ : Q .none s) :
    wpAny (model P w) A (call (.builtin "re.Pattern.search") [.ref 87, .bytes b.toArray t]) Q E s := by
  have hT : s.TypeIs (.ref 87) "re.Pattern" := ⟨_, h87, rfl⟩
  obtain ⟨vs, n, h86, hd, hcode⟩ := h86
  refine wpAny_call_entry re_slot hT re_entry ?_ (re_args _ _)
  obtain ⟨hh, g, d, tk, os⟩ := s
  unfold Builtin.«re.Pattern.search» reTarget
  have hbT : (⟨hh, g, d, tk, os⟩ : Shared).TypeIs (.bytes b.toArray t) "bytes" := typeIs_bytes _ _ _
  have e1 : reNamed "re.Pattern.search" "search" ["string", "pos", "endpos"] 1 [.bytes b.toArray t] [] = pure [some (.bytes b.toArray t), none, none] := by kernel_rfl
  have e2 : reTextOf (.bytes b.toArray t) = pure (b.toArray.map (·.toNat), 1) := by kernel_rfl
  refine wpAny_bind ?_
  dsimp only
  refine wpAny_bind (wpAny_of_eq e1 ?_)
  dsimp only
  refine wpAny_bind (wpAny_pure ?_)
  refine wpAny_bind (wpAny_pure ?_)
  refine wpAny_bind (m := fieldsOf (.ref 87)) ?_
  unfold fieldsOf
  refine wpAny_bind (wpAny_load h87 (wpAny_pure ?_))
  refine wpAny_bind (wpAny_of_eq e2 ?_)
  dsimp only
  rw [if_neg (by decide), if_neg (by decide)]
  refine wpAny_bind (m := reNoCollectionInside _ _) ?_
  · unfold reNoCollectionInside
    rw [if_pos (by decide)]
    refine wpAny_bind (wpAny_isInstance (T := "bytes") (b := true) hbT F.sub_bytes_bytes ?_)
    rw [if_neg (by decide)]
    refine wpAny_pure ?_
    refine wpAny_bind (m := reRawItems _) ?_
    unfold reRawItems
    refine wpAny_bind (wpAny_seqItems h86 hd (wpAny_pure ?_))
    refine wpAny_pure ?_
    unfold reAnswer
    dsimp only
    have hfail : ∃ m', reFind 64 (Sre.forSearch reCode (b.toArray.map (·.toNat)) 0 0 b.length false) = some m' ∧ m'.outcome = some .failed := by
      unfold reFails at hb
      split at hb
      · rename_i m' hm
        split at hb
        · rename_i ho; exact ⟨m', hm, ho⟩
        · cases hb
      · cases hb
    obtain ⟨m', hm, ho⟩ := hfail
    refine wpAny_bind (re_none (m' := m') ?_ ho ?_)
    · have hs : (b.toArray.map (·.toNat)).size = b.length := by simp
      have hmin : min ((2 ^ 63 - 1 : Int).toNat) b.length = b.length := Nat.min_eq_right (Nat.le_trans hz (by decide))
      show reFind 64 (Sre.forSearch ((vs.map reRawOf).map (·.toNat)) (b.toArray.map (·.toNat)) 0 (min 0 (b.toArray.map (·.toNat)).size) (min ((2 ^ 63 - 1 : Int).toNat) (b.toArray.map (·.toNat)).size) false) = some m'
      rw [hcode, hs, hmin, Nat.zero_min]
      exact hm
    · exact wpAny_pure ⟨_, rfl, hQ⟩
end

/-- the rows that the law knows: none, one or two octets -/
theorem re_try : reFails [48, 48, 51, 69] = true := by decide +kernel

theorem re_lookup87 (w : World) : (hx.heap_1 w.params).lookup 87 = some { cls := .type "re.Pattern", data := .fields #[.bytes #[91, 94, 48, 45, 57, 65, 45, 70, 93] 354, .int 0 381, .int 0 0, .none, .none, .ref 86, .int 1 0] } := by k_is
theorem re_lookup86 (w : World) : ∃ (oc : Obj) (vs : Array Value) (n : Nat), (hx.heap_1 w.params).lookup 86 = some oc ∧ oc.data = .seq vs n ∧ (vs.map Builtin.Re.reRawOf).map (·.toNat) = reCode := ⟨_, _, _, by k_is, rfl, by decide +kernel⟩

theorem b16decode_spec {w : World} {A : Around} {s : Shared} {b : List UInt8} {t : Tok} {Q E : Value → Shared → Prop}
   (hG : G w s.heap) (hr : Room A 10 120) (hn : b.length ≤ 64) (hre : reFails b = true) (hev : b.length % 2 = 0) (hhex : ∀ c ∈ b, hexval c.toNat < 16) (hQ : ∀ t s', Keeps s s' → Q (.bytes (byteArr ((unhexP b).map fun n : Nat => (n : Int))) t) s') :
   wpAny (model P w) A (call (.ref 206) [.bytes b.toArray t]) Q E s := by
  refine call_body [] [] (l := [("s", some (.bytes b.toArray t)), ("casefold", some (.bool false))]) hG (fun _ _ e => e) (fun _ h => nomatch h) (fun _ h => nomatch h) (by simp) (d := 9) (u := 117) hr (by k_is) (by k_is) (by exact binds_K (K := hx.heap_1 w.params) hG.kin rfl (by k_is) rfl rfl rfl) (by decide) (locs rfl) rfl (by simp; decide) (by decide) ?_
  intro env L h₀ s₁ A' he hat hg₀ hk hr'
  dsimp only at he
  repeat k_extra "n"
  refine fromdata_spec (hg₀.of_at (by assumption)) (hr'.mono (by decide) (by decide)) (fun s₂ hk₂ => ?_)
  have hat₂ := At.kept (by assumption) hk₂
  repeat k_extra "n"
  rename_i hat₃
  refine x_if ?_
  repeat k_extra "n"
  refine w_ff rfl ?_
  repeat k_extra "n"
  refine x_if ?_
  repeat k_extra "n"
  have h87 := (hg₀.of_at hat₃).kin _ _ (re_lookup87 w)
  obtain ⟨oc, vs, n, h86, hd86, hc86⟩ := re_lookup86 w
  have h86' := (hg₀.of_at hat₃).kin _ _ h86
  refine getMethod_builtin (T := "re.Pattern") ⟨_, h87, rfl⟩ re_plainAttrs re_slot re_type (fun a e => by cases e; exact ⟨_, h87, rfl⟩) ?_
  repeat k_extra "n"
  refine re_search h87 ⟨vs, n, h86', hd86, hc86⟩ hre (by lia) ?_
  refine wpAny_pure (a := false) ?_
  refine w_ff rfl ?_
  repeat k_extra "n"
  refine a2bhex_spec (hg₀.of_at hat₃) (hr'.mono (by decide) (by decide)) hn hev hhex (fun t₄ s₄ hk₄ => ?_)
  have hat₄ := hat₃.kept hk₄
  repeat k_extra "n"
  exact hQ _ _ (KeepsBut.to (hat₄.keepsBut (as := []) (fun b o _ e => hk b o (fun m => nomatch m) e)))

/-- the 21 rows that the law knows: none, one or two of four octets -/
noncomputable def octs : List UInt8 := [0, 62, 251, 255]
noncomputable def rowsAll : List (List UInt8) := [] :: (octs.map fun a => [a]) ++ octs.flatMap fun a => octs.map fun b => [a, b]
noncomputable def e64 (r : List UInt8) : List UInt8 := (byteArr ((b64P r).map fun n : Nat => (n : Int))).toList
noncomputable def e16 (r : List UInt8) : List UInt8 := (b16L r).map Builtin.Bytes.toUpper
noncomputable def d64 (b : List UInt8) : List UInt8 := (byteArr ((decP b).out.map fun n : Nat => (n : Int))).toList
noncomputable def d16 (b : List UInt8) : List UInt8 := (byteArr ((unhexP b).map fun n : Nat => (n : Int))).toList

noncomputable def rowOk (r : List UInt8) : Bool :=
  decide (r.length ≤ 2) && decide ((e64 r).length ≤ 4) && decide ((e16 r).length ≤ 4) &&
  decide ((decP (e64 r)).q ≠ 1) && decide ((decP (e64 r)).q = 0 ∨ 4 ≤ (decP (e64 r)).q + (decP (e64 r)).pads) && decide (d64 (e64 r) = r) &&
  reFails (e16 r) && decide ((e16 r).length % 2 = 0) && (e16 r).all (fun c => decide (hexval c.toNat < 16)) && decide (d16 (e16 r) = r)

theorem rows_ok : rowsAll.all rowOk = true := by decide +kernel

section
open Builtin
theorem blt_slot : Slot "bytes" (cmpInfo .Lt).2.1 "bytes.__lt__" :=
  .of (owner := "bytes") (n := "__lt__") (by rw [typeLookup_type, builtinLookup_eq_fast]; kernel_rfl) (by decide +kernel) (by decide +kernel) (by decide +kernel)
    (by first | exact .inl (by decide +kernel) | exact .inr (by decide +kernel)) (by rw [isSubtype_type]; kernel_rfl)
theorem blt_entry : entryFor table "bytes.__lt__" = some Builtin.«bytes.__lt__» := entryFor_of_tree (by kernel_rfl)
theorem blt_args (a b : Value) : argsOk "bytes.__lt__" ⟨[a, b], []⟩ := by
  unfold argsOk; rw [signature?_of (id := "bytes.__lt__") (n := ['_', '_', 't', 'l', '_', '_']) (o := ['s', 'e', 't', 'y', 'b']) (by kernel_rfl) FB.owner_bytes]; kernel_rfl
theorem gives_bytes_lt (b c : Array UInt8) (t u : Tok) : Gives («bytes.__lt__» ⟨[.bytes b t, .bytes c u], []⟩) (.val (.bool (Bytes.order b.toList c.toList == .lt))) := by
  refine .of_wp fun M A E s Q hq => ?_
  show wpAny M A (isInstance (.bytes c u) (.type "bytes") >>= fun r => _) _ E s
  refine wpAny_bind (wpAny_isInstance (typeIs_bytes s c u) F.sub_bytes_bytes ?_)
  exact wpAny_pure ⟨_, rfl, hq⟩
variable {w : World} {A : Around} {E : Value → Shared → Prop} {s : Shared}
theorem c_ltB {b c : Array UInt8} {t u : Tok} {Q : Value → Shared → Prop} (h : Q (.bool (Bytes.order b.toList c.toList == .lt)) s) : wpAny (model P w) A (compareOp .Lt (.bytes b t) (.bytes c u)) Q E s :=
  compareOp_gives (op := .Lt) (typeIs_bytes s b t) (typeIs_bytes s c u) blt_slot blt_entry (blt_args _ _) (gives_bytes_lt b c t u) (fun e => nomatch e) h

/-- bytes values by their octets -/
noncomputable def ltB (x y : Value) : Bool := Bytes.order (keyB x) (keyB y) == .lt
theorem cmpB {w : World} {h : Heap} : CmpOn w h IsB ltB := fun A s v₁ v₂ Q E _ _ h1 h2 hq => by
  obtain ⟨b, t, rfl⟩ := h1
  obtain ⟨c, u, rfl⟩ := h2
  exact c_ltB (hq s (keeps_refl s))
end

section
variable {w : World} {A : Around} {E : Value → Shared → Prop} {s s₀ : Shared} {env : Env} {names : List (Str × NameKind)} {L : Addr} {h₀ : Heap} {l : List (Str × Option Value)} {W : List (Addr × Cell)}
/-- a name that is a cell of the frame's own, kept as an object -/
theorem ld_cell {x : Str} {pos : Pos} {v : Value} {c : Addr} {o : Obj} {Q : Value → Shared → Prop} (e : EnvIs env names L) (a : At s₀ h₀ L l W s)
    (hl : (x, .cell) ∈ names) (hc : env.cells.lookup x = some c) (ho : s.heap.get? c = some o) (hd : o.data = .cell (some v)) (hdb : (x == ("__debug__" : Str)) = false) (h : Q v s) :
    wpAny (model P w) A (eval (.Name x pos) env) Q E s :=
  wpAny_Name (wpAny_loadName_cell e.kind (e.is hl) hc ⟨o, ho, hd⟩ h) hdb
theorem ld_free {x : Str} {pos : Pos} {v : Value} {c : Addr} {o : Obj} {Q : Value → Shared → Prop} (e : EnvIs env names L) (a : At s₀ h₀ L l W s)
    (hl : (x, .free) ∈ names) (hc : env.cells.lookup x = some c) (ho : s.heap.get? c = some o) (hd : o.data = .cell (some v)) (hdb : (x == ("__debug__" : Str)) = false) (hcd : (x == ("__classdict__" : Str)) = false) (h : Q v s) :
    wpAny (model P w) A (eval (.Name x pos) env) Q E s :=
  wpAny_Name (wpAny_loadName_free e.kind (e.is hl) hc ⟨o, ho, hd⟩ h hcd) hdb

theorem st_cell {x : Str} {v : Value} {v₀ : Option Value} {c : Addr} {o : Obj} {i : Nat} {Q : Unit → Shared → Prop} (e : EnvIs env names L) (a : At s₀ h₀ L l W s)
    (hl : (x, .cell) ∈ names) (hc : env.cells.lookup x = some c) (hi : W[i]? = some (c, Cell.obj o)) (hd : o.data = .cell v₀) (h : ∀ o' s', o'.data = .cell (some v) → At s₀ h₀ L l (W.set i (c, Cell.obj o')) s' → Q () s') :
    wpAny (model P w) A (storeName env x v) Q E s := by
  have ho : s.heap.get? c = some o := a.wlist hi
  refine wpAny_storeName_cell e.kind (e.is hl) hc ⟨o, ho, hd⟩ (fun h' hcell hs => ?_)
  obtain ⟨o', ho', hd'⟩ := hcell
  exact h o' _ hd' (a.change hi ⟨h', s.toks, rfl, fun b ob hb eb => hs.extBut b ob (by simpa using hb) eb⟩ ho')
end
/-- the closure of a scope that reads none, one or two cells -/
theorem clo_go {env : Env} : ∀ (ns : List (Str × NameKind)) (cs : List (Str × Addr)), (forIn ns cs fun x (r : List (Str × Addr)) => (do
      if (x.2 == NameKind.free) = true then do let a ← cellOf env x.1; pure (ForInStep.yield ((x.1, a) :: r))
      else pure (ForInStep.yield r) : Sem (ForInStep (List (Str × Addr))))) =
    forIn (ns.filter fun p => p.2 == NameKind.free) cs fun x r => (do let a ← cellOf env x.1; pure (ForInStep.yield ((x.1, a) :: r)))
  | [], cs => rfl
  | (n, k) :: r, cs => by
    rw [List.forIn_cons]
    cases hk : (k == NameKind.free) with
    | true =>
      rw [List.filter_cons_of_pos (by exact hk), List.forIn_cons, if_pos rfl]
      rw [bind_assoc, bind_assoc]
      refine congrArg _ (funext fun a => ?_)
      rw [pure_bind, pure_bind]
      exact clo_go r _
    | false =>
      rw [List.filter_cons_of_neg (by rw [hk]; decide), if_neg (by decide), pure_bind]
      exact clo_go r _

theorem clo_eq {sc : Scope} {env : Env} : closureFor sc env = forIn (sc.names.filter fun p => p.2 == NameKind.free) [] fun x r => (do let a ← cellOf env x.1; pure (ForInStep.yield ((x.1, a) :: r))) := by
  unfold closureFor
  rw [← clo_go, bind_pure]
theorem clo_none {sc : Scope} {env : Env} (h : (sc.names.filter fun p => p.2 == NameKind.free) = []) : closureFor sc env = pure [] := by rw [clo_eq, h]; rfl
theorem clo_one {sc : Scope} {env : Env} {n : Str} {a : Addr} (h : (sc.names.filter fun p => p.2 == NameKind.free) = [(n, .free)]) (e : env.cells.lookup n = some a) : closureFor sc env = pure [(n, a)] := by
  rw [clo_eq, h]; unfold cellOf; simp [e]
theorem clo_two {sc : Scope} {env : Env} {n m : Str} {a b : Addr} (h : (sc.names.filter fun p => p.2 == NameKind.free) = [(n, .free), (m, .free)]) (e : env.cells.lookup n = some a) (f : env.cells.lookup m = some b) : closureFor sc env = pure [(m, b), (n, a)] := by
  rw [clo_eq, h]; unfold cellOf; simp [e, f]

/-- an iterator as a loop with this target sees it: n items, the i-th such as Pv says -/
structure Itr (w : World) (A : Around) (target : Expr) (I : Addr) (fp wr : List Addr) (n : Nat) (Pv : Nat → Value → Heap → Prop) (St : Nat → Heap → Prop) (X : List (Addr × Cell)) : Prop where
  sub : ∀ b ∈ wr, b ∈ fp
  xsub : ∀ p ∈ X, p.1 ∈ wr
  xnd : (X.map (·.1)).Nodup
  ex : ∀ i h, St i h → ∀ b ∈ fp, ∃ o, h.get? b = some o
  frame : ∀ i h h', St i h → (∀ b ∈ fp, ∀ o, h.get? b = some o → h'.get? b = some o) → St i h'
  item : ∀ i (s : Shared) (Q : Option Value → Shared → Prop) (E : Value → Shared → Prop), i < n → St i s.heap →
    (∀ v h' tk, Pv i v h' → St (i + 1) h' → (∀ b o, b ∉ wr → s.heap.get? b = some o → h'.get? b = some o) → Q (some v) { s with heap := h', toks := tk }) →
    wpAny (model P w) A (pyNext (.ref I)) (fun r s' => match r with | none => Q none s' | some v => wpAny (model P w) A (letOwnedTupleGo target (.ref I) v) (fun _ s'' => Q (some v) s'') E s') E s
  done : ∀ (s : Shared) (Q : Option Value → Shared → Prop) (E : Value → Shared → Prop), St n s.heap →
    (∀ h' tk, (∀ b o, b ∉ wr → s.heap.get? b = some o → h'.get? b = some o) → (∀ p ∈ X, CellAt h' p.1 p.2) → Q none { s with heap := h', toks := tk }) → wpAny (model P w) A (pyNext (.ref I)) Q E s
  self : ∀ i (s : Shared) (Q : Value → Shared → Prop) (E : Value → Shared → Prop), St i s.heap → Q (.ref I) s → wpAny (model P w) A (pyIter (.ref I)) Q E s

theorem Itr.of {w : World} {A : Around} {target : Expr} {I : Addr} {fp wr : List Addr} {n : Nat} {Pv : Nat → Value → Prop} {St : Nat → Heap → Prop} (Wk : Walks P w A I fp wr n Pv St)
    (ex : ∀ i h, St i h → ∀ b ∈ fp, ∃ o, h.get? b = some o) (ht : ∀ v, letOwnedTupleGo target (.ref I) v = pure () := by intro _; rfl) : Itr w A target I fp wr n (fun i v _ => Pv i v) St [] where
  sub := Wk.sub
  xsub := fun _ h => nomatch h
  xnd := List.nodup_nil
  ex := ex
  frame := Wk.frame
  item := fun i s Q E hi st hQ => Wk.item i s _ E hi st fun v h' tk hv st' k => wpAny_of_eq (ht v) (hQ v h' tk hv st' k)
  done := fun s Q E st hQ => Wk.done s Q E st fun h' tk hk => hQ h' tk hk fun _ h => nomatch h
  self := Wk.self

section
variable {w : World} {A : Around} {E : Value → Shared → Prop} {s s₀ : Shared} {env : Env} {names : List (Str × NameKind)} {L : Addr} {h₀ hb : Heap} {l : List (Str × Option Value)} {W : List (Addr × Cell)}

@[reducible] noncomputable def testsOf (ifs : List Expr) (env : Env) : Sem Bool := forIn ifs true fun c r => if r = true then do let ok ← isTrue c env (eval c env); pure (ForInStep.yield ok) else pure (ForInStep.yield r)

/-- what the element of a turn leaves -/
noncomputable def EltEnd (J : List Value → List (Str × Option Value) → List (Addr × Cell) → Prop) (ys : List Value) (s₀ : Shared) (hb : Heap) (C : Addr) (y : Value) (s : Shared) : Prop :=
  ∃ l N, J (ys ++ [y]) l N ∧ At s₀ hb C l N s
/-- what the tests of a turn leave -/
noncomputable def TestEnd (w : World) (A : Around) (E : Value → Shared → Prop) (J : List Value → List (Str × Option Value) → List (Addr × Cell) → Prop) (elt : Expr) (cenv : Env) (ys : List Value) (s₀ : Shared) (hb : Heap) (C : Addr) (ok : Bool) (s : Shared) : Prop :=
  (ok = true → wpAny (model P w) A (eval elt cenv) (EltEnd J ys s₀ hb C) E s) ∧ (ok = false → ∃ l N, J ys l N ∧ At s₀ hb C l N s)

noncomputable def CompTurn (w : World) (A : Around) (target elt : Expr) (ifs : List Expr) (cenv : Env) (n : Nat) (Pv : Nat → Value → Heap → Prop) (J : Nat → List Value → List (Str × Option Value) → List (Addr × Cell) → Prop) (s₀ : Shared) (hB : Heap) (C : Addr) : Prop :=
  ∀ i v ys l N hb s E, i < n → Pv i v s.heap → J i ys l N → At s₀ hb C l N s → (∀ b o, hB.get? b = some o → hb.get? b = some o) → (∀ b o, b ≠ C → b ∉ N.map (·.1) → s.heap.get? b = some o → hb.get? b = some o) →
    wpAny (model P w) A (assign target cenv v) (fun _ s₂ => wpAny (model P w) A (testsOf ifs cenv) (TestEnd w A E (J (i + 1)) elt cenv ys s₀ hb C) E s₂) E s

theorem turn_item {X : List (Addr × Cell)} {target : Expr} {I : Addr} {fp wr : List Addr} {n i : Nat} {Pv : Nat → Value → Heap → Prop} {St : Nat → Heap → Prop} {rest : Value → Sem PySem.Fin} {Q : PySem.Fin → Shared → Prop} (It : Itr w A target I fp wr n Pv St X) (h : i < n) (hst : St i s.heap)
    (H : ∀ v h' tk, Pv i v h' → St (i + 1) h' → (∀ b o, b ∉ wr → s.heap.get? b = some o → h'.get? b = some o) → wpAny (model P w) A (rest v) Q E { s with heap := h', toks := tk }) :
    wpAny (model P w) A (pyNext (.ref I) >>= fun r => match r with | none => pure (.done .next) | some v => letOwnedTupleGo target (.ref I) v >>= fun _ => rest v) Q E s := by
  refine wpAny_bind (wpAny_mono (It.item i s (fun r s' => match r with | none => False | some v => wpAny (model P w) A (rest v) Q E s') E h hst H) (fun r s' hr => ?_) fun _ _ e => e)
  cases r with
  | none => exact hr.elim
  | some v => exact wpAny_bind hr

theorem turn_done {X : List (Addr × Cell)} {target : Expr} {I : Addr} {fp wr : List Addr} {n : Nat} {Pv : Nat → Value → Heap → Prop} {St : Nat → Heap → Prop} {rest : Value → Sem PySem.Fin} {Q : PySem.Fin → Shared → Prop} (It : Itr w A target I fp wr n Pv St X) (hst : St n s.heap)
    (H : ∀ h' tk, (∀ b o, b ∉ wr → s.heap.get? b = some o → h'.get? b = some o) → (∀ p ∈ X, CellAt h' p.1 p.2) → Q (.done .next) { s with heap := h', toks := tk }) :
    wpAny (model P w) A (pyNext (.ref I) >>= fun r => match r with | none => pure (.done .next) | some v => letOwnedTupleGo target (.ref I) v >>= fun _ => rest v) Q E s :=
  wpAny_bind (It.done s _ _ hst fun h' tk hk hx => wpAny_pure (H h' tk hk hx))

theorem comp_loop {X : List (Addr × Cell)} {target elt iter : Expr} {ifs : List Expr} {scope : Scope} {pos : Pos} {I D C : Addr} {cenv : Env} {fp wr : List Addr} {n : Nat} {Pv : Nat → Value → Heap → Prop} {St : Nat → Heap → Prop} {N : List (Addr × Cell)}
    {R : Result → Shared → Prop} (J : Nat → List Value → List (Str × Option Value) → List (Addr × Cell) → Prop)
    (It : Itr w A target I fp wr n Pv St X) (hn : n < 2 ^ 20) (a : At s₀ h₀ C l ((D, .list []) :: N) s) (hst : St 0 s.heap) (hfp : ∀ b ∈ fp, b ≠ C ∧ b ≠ D ∧ b ∉ N.map (·.1)) (hwr : ∀ b ∈ wr, h₀.get? b = none) (hJ : J 0 [] l N)
    (turn : CompTurn w A target elt ifs cenv n Pv J s₀ h₀ C)
    (done : ∀ ys l N s, J n ys l N → At s₀ h₀ C l ((D, .list ys) :: N) s → (∀ b ∈ fp, b ≠ C ∧ b ≠ D ∧ b ∉ N.map (·.1)) → (∀ p ∈ X, CellAt s.heap p.1 p.2) → R (.ok .next) s) :
    codeAny (model P w) A (.compLoop (.ListComp elt [⟨target, iter, ifs, 0⟩] scope pos) 0 (.ref I) (.ref D) cenv) R s := by
  refine codeAny_loop rfl (fun k s => ∃ i ys l N, k = n - i ∧ i ≤ n ∧ ys.length ≤ i ∧ J i ys l N ∧ At s₀ h₀ C l ((D, .list ys) :: N) s ∧ St i s.heap ∧ (∀ b ∈ fp, b ≠ C ∧ b ≠ D ∧ b ∉ N.map (·.1))) (fun k s₁ hI => ?_) n
    ⟨0, [], l, N, by lia, by lia, by simp, hJ, a, hst, hfp⟩
  obtain ⟨i, ys, l, N, rfl, hi, hlen, hJ, a, hst, hfp⟩ := hI
  show wpAny _ A ((compTurn (.ListComp elt [⟨target, iter, ifs, 0⟩] scope pos) 0 (.ref I) (.ref D) cenv).onRaise (fun x => do noteFrame x cenv; theTreesLotGoes x)) _ _ s₁
  refine wpAny_noted ?_
  rw [compTurn_list]
  refine wpAny_bind (wpAny_standAt ?_)
  have awr : ∀ h' tk, (∀ b o, b ∉ wr → s₁.heap.get? b = some o → h'.get? b = some o) → At s₀ h₀ C l ((D, .list ys) :: N) { s₁ with heap := h', toks := tk } := fun h' tk hk =>
    a.keptBut (bs := wr) ⟨h', tk, rfl, hk⟩ hwr (fun m => (hfp _ (It.sub _ m)).1 rfl) (fun p hp m => by
      have q := hfp _ (It.sub _ m)
      rcases List.mem_cons.mp hp with rfl | hp
      · exact q.2.1 rfl
      · exact q.2.2 (List.mem_map_of_mem hp))
  by_cases h : i < n
  · refine turn_item It h hst (fun v h' tk hv hst' hk => ?_)
    have a' := awr h' tk hk
    obtain ⟨hc, k₁, a₁, r₁⟩ := a'.tail.rebase
    have hDC : D ≠ C := (a'.fs.newW (D, .list ys) List.mem_cons_self).2
    have hDN : D ∉ N.map (·.1) := (List.nodup_cons.mp a'.fs.nd).1
    have hD : CellAt h' D (.list ys) := a'.cell List.mem_cons_self
    have fin : ∀ ys' l' N' s₂, ys'.length ≤ i + 1 → J (i + 1) ys' l' N' → At s₀ hc C l' N' s₂ → (∀ s₃, KeepsBut [D] s₂ s₃ → CellAt s₃.heap D (.list ys') → ∃ m, m < n - i ∧ ∃ i ys l N, m = n - i ∧ i ≤ n ∧ ys.length ≤ i ∧ J i ys l N ∧ At s₀ h₀ C l ((D, .list ys) :: N) s₃ ∧ St i s₃.heap ∧ (∀ b ∈ fp, b ≠ C ∧ b ≠ D ∧ b ∉ N.map (·.1))) := by
      intro ys' l' N' s₂ hlen' hJ' a₂ s₃ k₃ hD₃
      have hDc : ∀ c, hc.get? D = some c → D ∉ N'.map (·.1) := fun c e m => by
        obtain ⟨p, hp, q⟩ := List.mem_map.mp m
        have := (a₂.fs.newW p hp).1
        rw [q, e] at this; cases this
      obtain ⟨oD, hoD⟩ := hD.some
      have hoD' : hc.get? D = some oD := r₁ D oD hDC hDN hoD
      have hDN' := hDc _ hoD'
      have hD2 : CellAt s₂.heap D (.list ys) := hD.at fun o e => a₂.fs.keep _ _ (r₁ _ _ hDC hDN e)
      have a₃ : At s₀ h₀ C l' ((D, .list ys) :: N') s₂ := (a₂.shrink k₁).add hD2 (a'.fs.newW (D, .list ys) List.mem_cons_self).1 hDC hDN'
      have a₄ : At s₀ h₀ C l' ((D, .list ys') :: N') s₃ := a₃.change (i := 0) rfl k₃ hD₃
      have fpN : ∀ b ∈ fp, b ≠ C ∧ b ≠ D ∧ b ∉ N'.map (·.1) := fun b hb => by
        refine ⟨(hfp b hb).1, (hfp b hb).2.1, fun m => ?_⟩
        obtain ⟨o, ho⟩ := It.ex _ _ hst' b hb
        have := r₁ b o (hfp b hb).1 (hfp b hb).2.2 ho
        obtain ⟨p, hp, q⟩ := List.mem_map.mp m
        have h2 := (a₂.fs.newW p hp).1
        rw [q, this] at h2; cases h2
      exact ⟨n - (i + 1), by lia, i + 1, ys', l', N', rfl, h, hlen', hJ', a₄, It.frame _ _ _ hst' fun b hb o e => k₃.get (by simpa using (hfp b hb).2.1) (a₂.fs.keep _ _ (r₁ _ _ (hfp b hb).1 (hfp b hb).2.2 e)), fpN⟩
    refine wpAny_bind (wpAny_mono (turn i v ys l N hc _ _ h hv hJ a₁ k₁ r₁) (fun _ s₂ h₂ => wpAny_bind (wpAny_mono h₂ (fun ok s₃ h₃ => ?_) fun _ _ h' => h')) fun _ _ h' => h')
    cases ok with
    | false =>
      obtain ⟨l', N', hJ', a₃⟩ := h₃.2 rfl
      have hD3 : CellAt s₃.heap D (.list ys) := hD.at fun o e => a₃.fs.keep _ _ (r₁ _ _ hDC hDN e)
      exact wpAny_pure ⟨rfl, fin ys l' N' s₃ (by lia) hJ' a₃ s₃ (KeepsBut.refl _) hD3⟩
    | true =>
      refine wpAny_bind (wpAny_bind (wpAny_mono (h₃.1 rfl) (fun y s₄ h₄ => wpAny_bind ?_) fun _ _ h' => h'))
      obtain ⟨l', N', hJ', a₄⟩ := h₄
      have hD4 : CellAt s₄.heap D (.list ys) := hD.at fun o e => a₄.fs.keep _ _ (r₁ _ _ hDC hDN e)
      refine k_append hD4 (by lia) (fun s₅ k₅ hD₅ => wpAny_pure (wpAny_pure ⟨rfl, ?_⟩))
      exact fin (ys ++ [y]) l' N' s₄ (by simp; lia) hJ' a₄ s₅ k₅ hD₅
  · obtain rfl : i = n := by lia
    exact turn_done It hst (fun h' tk hk hx => done ys l N _ hJ (awr h' tk hk) hfp hx)
end

/-- the names of a comprehension within a def whose names are names -/
noncomputable def relab (names inner : List (Str × NameKind)) : List (Str × NameKind) := inner.map fun p => if (p.2 == .free && names.lookup p.1 == some .cell) then (p.1, .cell) else p

noncomputable def emptyCell : Obj := { cls := .type "cell", data := .cell none }
/-- the one cell that a comprehension may make of its own -/
noncomputable def koCells (ko : Option Str) (C : Addr) (cl : List (Str × Addr)) : List (Str × Addr) := match ko with | none => cl | some k => (k, C + 1) :: cl
noncomputable def koOwn (ko : Option Str) (C : Addr) : List (Addr × Cell) := match ko with | none => [] | some _ => [(C + 1, .obj emptyCell)]
noncomputable def koHeap (ko : Option Str) (h : Heap) : Heap := match ko with | none => h | some _ => h.push emptyCell
structure KoOk (ko : Option Str) (inner : List (Str × NameKind)) : Prop where
  cells : ∀ C cl, cellsFrom (C + 1) inner cl = koCells ko C cl
  push : ∀ h, pushCells h inner = koHeap ko h

section
variable {w : World} {A : Around} {E : Value → Shared → Prop} {s s₀ : Shared} {env : Env} {names : List (Str × NameKind)} {L : Addr} {h₀ hb : Heap} {l : List (Str × Option Value)} {W : List (Addr × Cell)}

theorem relabel_names {scope : Scope} (e : EnvIs env names L) : (relabel scope env).names = relab names scope.names := by
  show scope.names.map _ = scope.names.map _
  refine List.map_congr_left fun p _ => ?_
  obtain ⟨n, k⟩ := p
  show (if (k == NameKind.free && env.scope.kind == .function && env.kindOf n == some .cell) = true then (n, NameKind.cell) else (n, k)) = (if (k == .free && names.lookup n == some .cell) = true then (n, .cell) else (n, k))
  rw [e.kindOf n, e.kind]
  have : (ScopeKind.function == ScopeKind.function) = true := by decide
  rw [this, Bool.and_true]

theorem comp_env {M : Model} {scope : Scope} {globals : Addr} {cl : List (Str × Addr)} {qual : Str} {Q : Env → Shared → Prop}
    (h : Q { scope := scope, locals := s.heap.objs.size, globals := globals, cells := cellsFrom (s.heap.objs.size + 1) scope.names cl, qual := qual, func := none, code := env.code, frame := env.frame, builtins := env.builtins }
      { s with heap := pushCells (s.heap.push { cls := .type "dict", data := .dict #[] }) scope.names }) :
    wpAny M A (newFunctionEnv scope globals cl [] qual none .none (some env)) Q E s := by
  simp only [newFunctionEnv, Option.isSome_some, if_true]
  refine wpAny_bind (wpAny_alloc ?_)
  refine wpAny_bind (wpAny_layCells _ (fun name kind cells => by cases hkc : kind == NameKind.cell <;> simp [hkc]) _ _ _ _ ?_)
  rw [show ({ s with heap := s.heap.push { cls := .type "dict", data := .dict #[] } } : Shared).heap.objs.size = s.heap.objs.size + 1 from Heap.size_push ..]
  exact wpAny_bind (by rw [List.forIn_nil]; exact wpAny_pure (wpAny_pure h))

/-- cells that are new to the frame become its own -/
theorem At.adds (a : At s₀ h₀ L l W s) : ∀ {N : List (Addr × Cell)}, (∀ p ∈ N, CellAt s.heap p.1 p.2) → (N.map (·.1)).Nodup → (∀ p ∈ N, h₀.get? p.1 = none ∧ p.1 ≠ L ∧ p.1 ∉ W.map (·.1)) → At s₀ h₀ L l (N ++ W) s
  | [], _, _, _ => a
  | (b, c) :: N, hc, nd, hf => by
    have nd' := List.nodup_cons.mp nd
    have q := hf (b, c) List.mem_cons_self
    refine (a.adds (fun p hp => hc p (List.mem_cons_of_mem _ hp)) nd'.2 fun p hp => hf p (List.mem_cons_of_mem _ hp)).add (hc (b, c) List.mem_cons_self) q.1 q.2.1 ?_
    rw [List.map_append, List.mem_append, not_or]
    exact ⟨nd'.1, q.2.2⟩

structure CompIs (scope : Scope) (names names' : List (Str × NameKind)) (ko : Option Str) (l0 : List (Str × Option Value)) : Prop where
  kind : scope.kind = .function
  nms : ∀ y ∈ scope.names, y.2 = .local → scope.names.lookup y.1 = some .local
  nn : (names'.map (·.1)).Nodup
  rel : relab names scope.names = names'
  ko : KoOk ko scope.names
  none : ∀ y, lk l0 y = Option.none
  ln : (l0.map (·.1)).Nodup

theorem comp_block {target elt iter : Expr} {ifs : List Expr} {rest : List Comprehension} {scope : Scope} {cl : List (Str × Addr)} {pos : Pos} {I : Addr} {fp wr : List Addr} {n : Nat} {names' : List (Str × NameKind)} {ko : Option Str} {l0 : List (Str × Option Value)}
    {St : Nat → Heap → Prop} {RR : Value → Addr → Result → Shared → Prop}
    (e : EnvIs env names L) (ci : CompIs scope names names' ko l0) (hself : ∀ (s : Shared) (Q : Value → Shared → Prop) (E : Value → Shared → Prop), St 0 s.heap → Q (.ref I) s → wpAny (model P w) A (pyIter (.ref I)) Q E s)
    (hex : ∀ b ∈ fp, ∃ o, s.heap.get? b = some o) (hfr : ∀ h', (∀ b ∈ fp, ∀ o, s.heap.get? b = some o → h'.get? b = some o) → St 0 h') (hsub : ∀ b ∈ wr, b ∈ fp)
    (hs : ∃ h tk, s = { s₀ with heap := h, toks := tk })
    (H : ∀ D C cenv hB s', (hB = hideAll s.heap wr) → s.heap.get? D = none → s.heap.get? C = none → D ≠ C → EnvIs cenv names' C → cenv.frame = env.frame → cenv.cells = koCells ko C cl → At s₀ hB C l0 ((D, .list []) :: koOwn ko C) s' → St 0 s'.heap →
      (∀ b ∈ fp, b ≠ C ∧ b ≠ D ∧ b ∉ (koOwn ko C).map (·.1)) → codeAny (model P w) A (.compLoop (.ListComp elt (⟨target, iter, ifs, 0⟩ :: rest) scope pos) 0 (.ref I) (.ref D) cenv) (RR (.ref D) C) s') :
    wpAny (model P w) A (newList []) (fun acc s₃ => wpAny (model P w) A (newFunctionEnv scope env.globals cl [] env.qual none .none (some env)) (fun cenv s₄ =>
      codeAny (model P w) A (.compStart (.ListComp elt (⟨target, iter, ifs, 0⟩ :: rest) scope pos) 0 (.ref I) acc { cenv with scope := relabel scope env }) (RR acc cenv.locals) s₄) E s₃) E s := by
  refine wpAny_newObj_type (comp_env ?_)
  dsimp only
  generalize hH2 : s.heap.push { cls := .type "list", dict := none, data := .seq ([] : List Value).toArray } = H2
  have hC : H2.objs.size = s.heap.objs.size + 1 := by rw [← hH2, Heap.size_push]
  have fresh : ∀ a, s.heap.objs.size ≤ a → s.heap.get? a = none := fun a ha => by
    cases e : s.heap.get? a with
    | none => rfl
    | some o' => exact absurd (Heap.lt_size e) (Nat.not_lt.mpr ha)
  have hcells := ci.ko.cells H2.objs.size cl
  have hpush := ci.ko.push (H2.push { cls := .type "dict", data := .dict #[] })
  rw [hcells, hpush]
  generalize hH3 : H2.push { cls := .type "dict", data := .dict #[] } = H3
  have hC3 : H3.objs.size = s.heap.objs.size + 2 := by rw [← hH3, Heap.size_push, hC]
  generalize hH4 : koHeap ko H3 = H4
  have k34 : ∀ b o, H3.get? b = some o → H4.get? b = some o := fun b o q => by
    rw [← hH4]; cases ko with
    | none => exact q
    | some _ => exact Heap.get?_push_of_some _ q
  have k23 : ∀ b o, H2.get? b = some o → H3.get? b = some o := fun b o q => hH3 ▸ Heap.get?_push_of_some _ q
  have k12 : ∀ b o, s.heap.get? b = some o → H2.get? b = some o := fun b o q => hH2 ▸ Heap.get?_push_of_some _ q
  have kk : ∀ b o, s.heap.get? b = some o → H4.get? b = some o := fun b o q => k34 _ _ (k23 _ _ (k12 _ _ q))
  have hD : H4.PlainList s.heap.objs.size ([] : List Value).toArray := ⟨_, k34 _ _ (k23 _ _ (hH2 ▸ Heap.get?_push_size _ rfl))⟩
  have hns : H4.Ns H2.objs.size (fun _ => none) := (show H3.Ns H2.objs.size (fun _ => none) from hH3 ▸ Heap.Ns.new H2 (.type "dict")).keeps k34
  have below : ∀ b o, s.heap.get? b = some o → b < s.heap.objs.size := fun b o q => Heap.lt_size q
  have hown : ∀ p ∈ koOwn ko H2.objs.size, p.1 = H3.objs.size ∧ CellAt H4 p.1 p.2 := fun p hp => by
    cases ko with
    | none => cases hp
    | some k =>
      have : p = (H2.objs.size + 1, .obj emptyCell) := by simpa [koOwn] using hp
      subst this
      have h3 : H3.objs.size = H2.objs.size + 1 := by rw [hC3, hC]
      refine ⟨h3.symm, ?_⟩
      show H4.get? (H2.objs.size + 1) = some emptyCell
      rw [← hH4, ← h3]
      exact Heap.get?_push_size _ rfl
  have hndk : ((koOwn ko H2.objs.size).map (·.1)).Nodup := by cases ko <;> simp [koOwn]
  have hat : At s₀ (hideAll s.heap wr) H2.objs.size l0 ((s.heap.objs.size, .list []) :: koOwn ko H2.objs.size) { s with heap := H4 } := by
    obtain ⟨h, tk, rfl⟩ := hs
    refine ⟨H4, tk, rfl, ?_, ci.ln, fun b o q => kk b o (of_hideAll _ q), fun p hp => ?_, ?_, ?_, fun p hp => ?_⟩
    · have : lk l0 = fun _ => none := funext ci.none
      rw [this]; exact hns
    · rcases List.mem_cons.mp hp with rfl | hp
      · exact hD
      · exact (hown p hp).2
    · rw [List.map_cons, List.nodup_cons]
      refine ⟨fun m => ?_, hndk⟩
      obtain ⟨p, hp, q⟩ := List.mem_map.mp m
      have := (hown p hp).1
      rw [q, hC3] at this
      exact absurd this (Nat.ne_of_lt (by show _ < _ + 2; omega))
    · cases q : (hideAll h wr).get? H2.objs.size with
      | none => rfl
      | some o => have := of_hideAll _ q; rw [fresh _ (by rw [hC]; exact Nat.le_succ _)] at this; cases this
    · have nn : ∀ a, h.objs.size ≤ a → (hideAll h wr).get? a = none := fun a ha => by
        cases q : (hideAll h wr).get? a with
        | none => rfl
        | some o => have := of_hideAll _ q; rw [fresh _ ha] at this; cases this
      rcases List.mem_cons.mp hp with rfl | hp
      · exact ⟨nn _ (Nat.le_refl _), by rw [hC]; exact Nat.ne_of_lt (Nat.lt_succ_self _)⟩
      · rw [(hown p hp).1]
        exact ⟨nn _ (by rw [hC3]; exact Nat.le_add_right _ _), by rw [hC3, hC]; exact Nat.ne_of_gt (by show _ + 1 < _ + 2; omega)⟩
  have hfp : ∀ b ∈ fp, b ≠ H2.objs.size ∧ b ≠ s.heap.objs.size ∧ b ∉ (koOwn ko H2.objs.size).map (·.1) := fun b hb => by
    obtain ⟨o, ho⟩ := hex b hb
    have := below b o ho
    refine ⟨by rw [hC]; exact Nat.ne_of_lt (Nat.lt_succ_of_lt this), Nat.ne_of_lt this, fun m => ?_⟩
    obtain ⟨p, hp, q⟩ := List.mem_map.mp m
    have h2 := (hown p hp).1
    rw [q, hC3] at h2
    exact absurd h2 (Nat.ne_of_lt (Nat.lt_of_lt_of_le this (Nat.le_add_right _ _)))
  have st4 : St 0 H4 := hfr _ fun b hb o q => kk b o q
  have loop : codeAny (model P w) A (.compLoop (.ListComp elt (⟨target, iter, ifs, 0⟩ :: rest) scope pos) 0 (.ref I) (.ref s.heap.objs.size)
      { scope := relabel scope env, locals := H2.objs.size, globals := env.globals, cells := koCells ko H2.objs.size cl, qual := env.qual, func := none, code := env.code, frame := env.frame, builtins := env.builtins })
      (RR (.ref s.heap.objs.size) H2.objs.size) { s with heap := H4 } :=
    H s.heap.objs.size H2.objs.size _ _ _ rfl (fresh _ (Nat.le_refl _)) (fresh _ (by rw [hC]; exact Nat.le_succ _)) (by rw [hC]; exact Nat.ne_of_lt (Nat.lt_succ_self _)) ⟨ci.kind, (relabel_names e).trans ci.rel, rfl, e.globals, e.builtins, ci.nn⟩ rfl rfl hat st4 hfp
  exact codeAny_compStart_list loop (hself _ _ _ st4 loop)

/-- what the loop over the turns leaves is what the comprehension leaves -/
theorem comp_after {wr : List Addr} {D C : Addr} {ys : List Value} {lc : List (Str × Option Value)} {N : List (Addr × Cell)} {s' : Shared}
    (a : At s₀ h₀ L l W s) (hwr : ∀ b ∈ wr, h₀.get? b = none ∧ b ≠ L ∧ b ∉ W.map (·.1)) (hD : s.heap.get? D = none) (hC : s.heap.get? C = none) (hN : ∀ p ∈ N, p.1 ∉ wr)
    (ac : At s₀ (hideAll s.heap wr) C lc ((D, .list ys) :: N) s') :
    At s₀ h₀ L l ((D, .list ys) :: (N ++ W)) s' ∧ s'.heap.Ns C (lk lc) ∧ (∀ h', Heap.SameBut C s'.heap h' → At s₀ h₀ L l ((D, .list ys) :: (N ++ W)) { s' with heap := h' }) := by
  have kb : KeepsBut wr s s' := by
    obtain ⟨h, tk, rfl, _⟩ := a
    obtain ⟨h', tk', rfl, f⟩ := ac
    exact ⟨h', tk', rfl, fun b o hb q => f.keep b o (hideAll_get _ q hb)⟩
  have a1 : At s₀ h₀ L l W s' := a.keptBut kb (fun b hb => (hwr b hb).1) (fun m => (hwr _ m).2.1 rfl) fun p hp m => (hwr _ m).2.2 (List.mem_map_of_mem hp)
  have nw : ∀ p ∈ N, s.heap.get? p.1 = none := fun p hp => by
    have := (ac.fs.newW p (List.mem_cons_of_mem _ hp)).1
    cases q : s.heap.get? p.1 with
    | none => rfl
    | some o => rw [hideAll_get _ q (hN p hp)] at this; cases this
  have a2 : At s₀ h₀ L l (N ++ W) s' := a1.adds (fun p hp => ac.cell (List.mem_cons_of_mem _ hp)) (List.nodup_cons.mp ac.fs.nd).2 fun p hp => a.fresh (nw p hp)
  have fD := a.fresh hD
  have a3 : At s₀ h₀ L l ((D, .list ys) :: (N ++ W)) s' := a2.add (ac.cell List.mem_cons_self) fD.1 fD.2.1 (by
    rw [List.map_append, List.mem_append, not_or]
    exact ⟨(List.nodup_cons.mp ac.fs.nd).1, fD.2.2⟩)
  have fC := a.fresh hC
  refine ⟨a3, ac.fs.ns, fun h' hs => a3.keptBut (bs := [C]) ⟨h', s'.toks, rfl, fun b o hb q => hs.extBut b o (by simpa using hb) q⟩ (fun b hb => by cases List.mem_singleton.mp hb; exact fC.1) (fun m => fC.2.1 (List.mem_singleton.mp m).symm) fun p hp m => ?_⟩
  have hp' := List.mem_singleton.mp m
  rcases List.mem_cons.mp hp with rfl | hp
  · exact (ac.fs.newW (D, .list ys) List.mem_cons_self).2 hp'
  rcases List.mem_append.mp hp with hp | hp
  · exact (ac.fs.newW p (List.mem_cons_of_mem _ hp)).2 hp'
  · exact fC.2.2 (hp' ▸ List.mem_map_of_mem hp)
end

section
variable {w : World} {A : Around} {E : Value → Shared → Prop} {s s₀ : Shared} {env : Env} {names : List (Str × NameKind)} {L : Addr} {h₀ hb : Heap} {l : List (Str × Option Value)} {W : List (Addr × Cell)}

/-- from the iterator on: what there is to show of a list comprehension; Fin says what its end is to give -/
noncomputable def CompFrom (w : World) (A : Around) (s₀ : Shared) (h₀ : Heap) (L : Addr) (env : Env) (names' : List (Str × NameKind)) (ko : Option Str) (cl : List (Str × Addr)) (l0 : List (Str × Option Value)) (target elt : Expr) (ifs : List Expr)
    (J : Addr → Nat → List Value → List (Str × Option Value) → List (Addr × Cell) → Prop) (Fin : List (Str × Option Value) → List (Addr × Cell) → Addr → List Value → Shared → Prop) (it : Value) (s₂ : Shared) : Prop :=
  ∃ (X : List (Addr × Cell)) (I : Addr) (fp wr : List Addr) (n : Nat) (Pv : Nat → Value → Heap → Prop) (St : Nat → Heap → Prop) (l : List (Str × Option Value)) (W : List (Addr × Cell)),
    it = .ref I ∧ n < 2 ^ 20 ∧ Itr w A target I fp wr n Pv St X ∧ St 0 s₂.heap ∧ At s₀ h₀ L l W s₂ ∧ (∀ b ∈ wr, h₀.get? b = none ∧ b ≠ L ∧ b ∉ W.map (·.1)) ∧ (∀ C, J C 0 [] l0 (koOwn ko C)) ∧
    (∀ C cenv hB, EnvIs cenv names' C → cenv.frame = env.frame → cenv.cells = koCells ko C cl → (∀ b o, b ∉ wr → s₂.heap.get? b = some o → hB.get? b = some o) → CompTurn w A target elt ifs cenv n Pv (J C) s₀ hB C) ∧
    (∀ C D ys lc N s', J C n ys lc N → s₂.heap.get? D = none → At s₀ h₀ L l (X ++ ((D, .list ys) :: (N ++ W))) s' → Fin l (X ++ ((D, .list ys) :: (N ++ W))) D ys s')

theorem comp_core {target elt iter : Expr} {ifs : List Expr} {scope : Scope} {cl : List (Str × Addr)} {pos : Pos} {names' : List (Str × NameKind)} {ko : Option Str} {l0 : List (Str × Option Value)} {use : Option (Value → Sem Unit)} {Q : Value → Shared → Prop}
    {J : Addr → Nat → List Value → List (Str × Option Value) → List (Addr × Cell) → Prop} {Fin : List (Str × Option Value) → List (Addr × Cell) → Addr → List Value → Shared → Prop} {it : Value}
    (e : EnvIs env names L) (ci : CompIs scope names names' ko l0) (H : CompFrom w A s₀ h₀ L env names' ko cl l0 target elt ifs J Fin it s)
    (post : ∀ l W D C ys m s', At s₀ h₀ L l W s' → (∀ s'', At s₀ h₀ L l W s'' → Fin l W D ys s'') → s'.heap.Ns C m → h₀.get? C = none → C ≠ L → C ∉ W.map (·.1) → compPost (model P w) A E use Q (.ref D) C (.ok .next) s') :
    wpAny (model P w) A (newList []) (fun acc s₃ => wpAny (model P w) A (newFunctionEnv scope env.globals cl [] env.qual none .none (some env)) (fun cenv s₄ =>
      codeAny (model P w) A (.compStart (.ListComp elt [⟨target, iter, ifs, 0⟩] scope pos) 0 it acc { cenv with scope := relabel scope env }) (compPost (model P w) A E use Q acc cenv.locals) s₄) E s₃) E s := by
  obtain ⟨X, I, fp, wr, n, Pv, St, l, W, rfl, hn, It, hst, a, hwr, hJ, turn, fin⟩ := H
  refine comp_block (n := n) (names' := names') (ko := ko) (l0 := l0) (fp := fp) (wr := wr) (St := St) (RR := fun acc C => compPost (model P w) A E use Q acc C) e ci (fun s Q E st h => It.self 0 s Q E st h) (It.ex _ _ hst) (fun h' k => It.frame _ _ _ hst k) It.sub
    (let ⟨h, tk, q, _⟩ := a; ⟨h, tk, q⟩) ?_
  rintro D C cenv hB s' rfl hD hC hDC ec hfr hcl ac st' hfp
  refine comp_loop (J C) It hn ac st' hfp (fun b hb => hideAll_none _ hb) (hJ C) (turn C cenv _ ec hfr hcl fun b o hb q => hideAll_get _ q hb) fun ys lc N s'' hj ac' hfp' hx => ?_
  obtain ⟨a3, ns, k⟩ := comp_after a hwr hD hC (fun p hp m => (hfp' _ (It.sub _ m)).2.2 (List.mem_map_of_mem hp)) ac'
  have fC := a.fresh hC
  have a3 := a3.adds hx It.xnd (fun p hp => by
    have hb := It.xsub p hp
    have q := hwr _ hb
    have q2 := hfp' _ (It.sub _ hb)
    refine ⟨q.1, q.2.1, fun m => ?_⟩
    rw [List.map_cons, List.mem_cons, List.map_append, List.mem_append] at m
    rcases m with m | m | m
    · exact q2.2.1 m
    · exact q2.2.2 m
    · exact q.2.2 m)
  refine post _ _ D C ys _ s'' a3 (fun s3 a4 => fin C D ys lc N s3 hj hD a4) ns fC.1 fC.2.1 (fun m => ?_)
  rw [List.map_append, List.mem_append, List.map_cons, List.mem_cons, List.map_append, List.mem_append] at m
  rcases m with m | m | m | m
  · obtain ⟨p, hp, q⟩ := List.mem_map.mp m
    exact (hfp' _ (It.sub _ (It.xsub p hp))).1 q
  · exact hDC m.symm
  · obtain ⟨p, hp, q⟩ := List.mem_map.mp m
    exact (ac'.fs.newW p (List.mem_cons_of_mem _ hp)).2 q
  · exact fC.2.2 m

theorem post_none {Q : Value → Shared → Prop} {Fin : List (Str × Option Value) → List (Addr × Cell) → Addr → List Value → Shared → Prop} (hQ : ∀ l W D ys s', Fin l W D ys s' → Q (.ref D) s') :
    ∀ l W D C ys m s', At s₀ h₀ L l W s' → (∀ s'', At s₀ h₀ L l W s'' → Fin l W D ys s'') → s'.heap.Ns C m → h₀.get? C = none → C ≠ L → C ∉ W.map (·.1) → compPost (model P w) A E none Q (.ref D) C (.ok .next) s' := by
  intro l W D C ys m s' a fin ns h1 h2 h3
  refine ⟨m, ns, fun h' hs => hQ l W D ys _ (fin _ (a.keptBut (bs := [C]) ⟨h', s'.toks, rfl, fun b o hb q => hs.extBut b o (by simpa using hb) q⟩ (fun b hb => by cases List.mem_singleton.mp hb; exact h1) (fun m => h2 (List.mem_singleton.mp m).symm) fun p hp m => h3 ?_))⟩
  rw [← List.mem_singleton.mp m]; exact List.mem_map_of_mem hp

theorem post_local {y : Str} {py : Pos} {Q : Value → Shared → Prop} (e : EnvIs env names L) (hl : (y, .local) ∈ names) {Fin : List (Str × Option Value) → List (Addr × Cell) → Addr → List Value → Shared → Prop}
    (hQ : ∀ l W D ys s', At s₀ h₀ L l W s' → Fin l W D ys s' → ∃ l', Put y (.ref D) l l' ∧ ∀ s'', At s₀ h₀ L l' W s'' → Q .none s'') :
    ∀ l W D C ys m s', At s₀ h₀ L l W s' → (∀ s'', At s₀ h₀ L l W s'' → Fin l W D ys s'') → s'.heap.Ns C m → h₀.get? C = none → C ≠ L → C ∉ W.map (·.1) → compPost (model P w) A E (some (assign (.Name y py) env)) Q (.ref D) C (.ok .next) s' := by
  intro l W D C ys m s' a fin ns h1 h2 h3
  obtain ⟨l', hp, hq⟩ := hQ l W D ys s' a (fin s' a)
  obtain ⟨h₁, k₁, a₁, r₁⟩ := a.rebase
  show wpAny _ A (assign (.Name y py) env (.ref D)) _ _ _
  refine wpAny_assign_Name (st_local e a₁ hl hp fun s'' a₂ => ⟨m, ns.at' fun o q => a₂.fs.keep _ _ (r₁ _ _ h2 h3 q), fun h' hs => hq _ ((a₂.shrink k₁).keptBut (bs := [C]) ⟨h', s''.toks, rfl, fun b o hb q => hs.extBut b o (by simpa using hb) q⟩ (fun b hb => by cases List.mem_singleton.mp hb; exact h1) (fun m => h2 (List.mem_singleton.mp m).symm) fun p hp m => h3 ?_)⟩)
  rw [← List.mem_singleton.mp m]; exact List.mem_map_of_mem hp

theorem x_comp {target elt iter : Expr} {ifs : List Expr} {scope : Scope} {cl : List (Str × Addr)} {pos : Pos} {names' : List (Str × NameKind)} {ko : Option Str} {l0 : List (Str × Option Value)} {Q : Value → Shared → Prop}
    (J : Addr → Nat → List Value → List (Str × Option Value) → List (Addr × Cell) → Prop) 
    (e : EnvIs env names L) (ci : CompIs scope names names' ko l0) (hclos : closureFor scope env = pure cl)
    (h : wpAny (model P w) A (eval iter env) (fun xv s₁ => wpAny (model P w) A (pyIter xv) (CompFrom w A s₀ h₀ L env names' ko cl l0 target elt ifs J fun l W D ys s' => At s₀ h₀ L l W s' → Q (.ref D) s') E s₁) E s)
    (hs : ∀ x, foldedSetIterable iter env x = pure x := by intro _; rfl) :
    wpAny (model P w) A (eval (.ListComp elt [⟨target, iter, ifs, 0⟩] scope pos) env) Q E s := by
  rw [eval_ListComp]
  refine wpAny_comprehension_free (use := none) rfl hs hclos ci.kind ci.nms (wpAny_mono h (fun xv s₁ h₁ => wpAny_mono h₁ (fun it s₂ h₂ => comp_core e ci h₂ ?_) fun _ _ e => e) fun _ _ e => e)
  intro l W D C ys m s' a fin
  exact post_none (Fin := fun l W D ys s' => At s₀ h₀ L l W s' ∧ Q (.ref D) s') (fun l W D ys s' h => h.2) l W D C ys m s' a (fun s'' a'' => ⟨a'', fin s'' a'' a''⟩)

theorem x_compA {target elt iter : Expr} {ifs : List Expr} {scope : Scope} {cl : List (Str × Addr)} {pos spos py : Pos} {names' : List (Str × NameKind)} {ko : Option Str} {l0 : List (Str × Option Value)} {y : Str} {Q : Flow → Shared → Prop}
    (J : Addr → Nat → List Value → List (Str × Option Value) → List (Addr × Cell) → Prop) 
    (e : EnvIs env names L) (ci : CompIs scope names names' ko l0) (hclos : closureFor scope env = pure cl) (hl : (y, .local) ∈ names)
    (hsw : swapsWith (.ListComp elt [⟨target, iter, ifs, 0⟩] scope pos) (some (.Name y py)) spos.line env = pure true)
    (h : wpAny (model P w) A (eval iter env) (fun xv s₁ => wpAny (model P w) A (pyIter xv) (CompFrom w A s₀ h₀ L env names' ko cl l0 target elt ifs J fun l W D _ s' => ∃ l', Put y (.ref D) l l' ∧ ∀ s'', At s₀ h₀ L l' W s'' → Q .next s'') E s₁) E s)
    (hs : ∀ x, foldedSetIterable iter env x = pure x := by intro _; rfl) :
    wpAny (model P w) A (exec (.Assign [.Name y py] (.ListComp elt [⟨target, iter, ifs, 0⟩] scope pos) spos) env) Q E s := by
  rw [exec_Assign_Name_used _ _ _ _ hsw]
  refine wpAny_bind (wpAny_standAt (wpAny_bind ?_))
  show wpAny _ A (do let _ ← comprehension (.ListComp elt [⟨target, iter, ifs, 0⟩] scope pos) scope env _ (newList []) false (eval iter env) (some (assign (.Name y py) env))) _ _ s
  refine wpAny_bind (wpAny_mono (wpAny_comprehension_free (use := some (assign (.Name y py) env)) (Q := fun _ s' => Q .next s') rfl hs hclos ci.kind ci.nms
    (wpAny_mono h (fun xv s₁ h₁ => wpAny_mono h₁ (fun it s₂ h₂ => comp_core e ci h₂ (post_local (Q := fun _ s' => Q .next s') e hl fun l W D ys s' _ h => h)) fun _ _ e => e) fun _ _ e => e)) (fun _ s' hq => wpAny_pure (wpAny_pure hq)) fun _ _ e => e)
end

noncomputable def isLoc (names : List (Str × NameKind)) (p : Str × Value) : Bool := names.lookup p.1 == some .local
theorem bindL_is (k : Str → Option NameKind) : ∀ (binds : List (Str × Value)) (m : Str → Option Value) (y : Str),
    bindL k binds m y = ((binds.filter (fun p => k p.1 == some .local)).reverse.lookup y).or (m y)
  | [], m, y => by simp [bindL]
  | (n, v) :: r, m, y => by
    unfold bindL
    rw [bindL_is k r]
    by_cases hk : k n = some .local
    · rw [if_pos hk, List.filter_cons_of_pos (by simp [hk]), List.reverse_cons, List.lookup_append]
      cases e : (List.filter (fun p => k p.1 == some NameKind.local) r).reverse.lookup y with
      | some z => simp
      | none =>
        by_cases hy : y = n
        · subst hy; simp
        · have hb : (y == n) = false := by simpa using hy
          simp [hy, List.lookup_cons, hb]
    · rw [if_neg hk, List.filter_cons_of_neg (by simp [hk])]
theorem bindC_is (k : Str → Option NameKind) : ∀ (binds : List (Str × Value)) (m : Str → Option Value) (y : Str),
    bindC k binds m y = ((binds.filter (fun p => !(k p.1 == some .local))).reverse.lookup y).or (m y)
  | [], m, y => by simp [bindC]
  | (n, v) :: r, m, y => by
    unfold bindC
    rw [bindC_is k r]
    by_cases hk : k n = some .local
    · rw [if_pos hk, List.filter_cons_of_neg (by simp [hk])]
    · rw [if_neg hk, List.filter_cons_of_pos (by simp [hk]), List.reverse_cons, List.lookup_append]
      cases e : (List.filter (fun p => !(k p.1 == some NameKind.local)) r).reverse.lookup y with
      | some z => simp
      | none =>
        by_cases hy : y = n
        · subst hy; simp
        · have hb : (y == n) = false := by simpa using hy
          simp [hy, List.lookup_cons, hb]

section
variable {w : World} {A : Around} {E : Value → Shared → Prop} {s s₀ : Shared} {env : Env} {names : List (Str × NameKind)} {L : Addr} {h₀ hb : Heap} {l : List (Str × Option Value)} {W : List (Addr × Cell)}

theorem codeAny_call_defC {R : Result → Shared → Prop} {a : Addr} {o : Obj} {fd : FuncData} {body : List Stmt} {args : Args} {binds : List (Str × Value)}
    (hroom : A.depth < recursionLimit) (ho : s.heap.get? a = some o) (hdata : o.data = .func fd) (hlim : s.heap.NoLimit) (hcd : s.heap.CodeRec fd.code fd.qualname)
    (hbody : fd.body = .stmts body) (hbind : BindsTo s fd args binds) (hclo : fd.closure = [])
    (hkind : ∀ x ∈ binds, fd.scope.names.lookup x.1 = some .local ∨ (fd.scope.names.lookup x.1 = some .cell ∧ ((cellsFrom (s.heap.objs.size + 1) fd.scope.names []).lookup x.1).isSome = true))
    (h : ∀ s₁, InCallC s (callEnvC fd s.heap.objs.size a).locals (bindL (callEnvC fd s.heap.objs.size a).kindOf binds fun _ => none) (callEnvC fd s.heap.objs.size a).cells
        (bindC (callEnvC fd s.heap.objs.size a).kindOf binds fun _ => none) s₁ →
      wpAny (model P w) (A.deeper (callEnvC fd s.heap.objs.size a)) (execs body (callEnvC fd s.heap.objs.size a)) (fun f s' => R (.ok (.ret (match f with | .ret v => v | _ => .none))) s')
        (fun e s' => wpAny (model P w) (A.deeper (callEnvC fd s.heap.objs.size a)) (leaving (callEnvC fd s.heap.objs.size a) e) (fun _ s'' => R (.error e) s'') (fun e' s'' => R (.error e') s'') s') s₁)
    (hco : fd.scope.isCoroutine = false := by rfl) (hgen : fd.scope.isGenerator = false := by rfl) (hk : fd.scope.kind = .function := by rfl) :
    codeAny (model P w) A (.call (.ref a) args) R s := by
  refine codeAny_call_function hroom ho hdata hco hgen hbody hcd (hbind _ _ _ _ ?_)
  rw [hclo]
  refine wpAny_newFunctionEnv_cells hk hkind fun env he s' x => ?_
  subst he
  exact ⟨hlim.keeps x.toInCall.keep, codeAny_func (h s' x)⟩

/-- a def with cells is entered; cv: the cells' names with what they hold at the start -/
theorem code_bodyC {f : Addr} {name qual : Str} {params : Arguments} {body : List Stmt} {scope : Scope} {dV kV doc pm cdv ct oc : Value} {an od : Option Addr} {osl : Array (Option Value)} {args : List Value} {kws : List (Str × Value)} {binds lb cb : List (Str × Value)} {R : Result → Shared → Prop} {d u : Nat}
    (Wl : List (Addr × Cell)) (rest : List Str) (cv : List (Str × Option Value)) (hid : List Addr)
    (hG : G w hb) (hsub : ∀ b o, hb.get? b = some o → s.heap.get? b = some o) (hoff : ∀ p ∈ Wl, hb.get? p.1 = none) (hoffh : ∀ a ∈ hid, hb.get? a = none) (hW : ∀ p ∈ Wl, CellAt s.heap p.1 p.2) (nd : (Wl.map (·.1)).Nodup)
    (hr : Room A (d + 1) (u + 3))
    (ho : (hx.heap_1 w.params).lookup f = some ⟨oc, od, .func (fnOf name qual params body scope dV kV doc pm an cdv ct), osl⟩) (hcd : codeIn (hx.heap_1 w.params) cdv qual = true)
    (hbind : BindsTo s (fnOf name qual params body scope dV kV doc pm an cdv ct) ⟨args, kws⟩ binds)
    (hkind : ∀ n, ∀ x ∈ binds, scope.names.lookup x.1 = some .local ∨ (scope.names.lookup x.1 = some .cell ∧ ((cellsFrom n scope.names []).lookup x.1).isSome = true))
    (hlb : binds.filter (fun p => scope.names.lookup p.1 == some .local) = lb) (hcb : binds.filter (fun p => !(scope.names.lookup p.1 == some .local)) = cb)
    (hcv : ∀ n, ∀ p ∈ cv, ((cellsFrom n scope.names []).lookup p.1).isSome = true ∧ cb.reverse.lookup p.1 = p.2) (hcn : (cv.map (·.1)).Nodup)
    (hl : l = lb.map (fun p => (p.1, some p.2)) ++ rest.map fun x => (x, none)) (ln : (l.map (·.1)).Nodup) (nn : (scope.names.map (·.1)).Nodup)
    (h : ∀ env L h₀ s₁ A' (ca : Str → Addr) (co : Str → Obj), EnvIs env scope.names L → env.frame = some L → A'.frames = A.frames.map (fun fs => env :: fs) → (∀ p ∈ cv, env.cells.lookup p.1 = some (ca p.1) ∧ (co p.1).data = .cell p.2 ∧ s.heap.get? (ca p.1) = none) →
      At s h₀ L l (cv.map (fun p => (ca p.1, Cell.obj (co p.1))) ++ Wl) s₁ → G w h₀ → (∀ b o, b ∉ Wl.map (·.1) → b ∉ hid → s.heap.get? b = some o → h₀.get? b = some o) →
      (∀ a ∈ hid, h₀.get? a = none) → (∀ b o, s.heap.get? b = some o → s₁.heap.get? b = some o) → s.heap.get? L = none → Room A' d u →
      wpAny (model P w) A' (execs body env) (fun fl s' => R (.ok (.ret (match fl with | .ret v => v | _ => .none))) s') (fun e s' => wpAny (model P w) A' (leaving env e) (fun _ s'' => R (.error e) s'') (fun e' s'' => R (.error e') s'') s') s₁)
    (hco : scope.isCoroutine = false := by rfl) (hgen : scope.isGenerator = false := by rfl) (hk : scope.kind = .function := by rfl) :
    codeAny (model P w) A (.call (.ref f) ⟨args, kws⟩) R s := by
  have hGs : G w s.heap := hG.keeps hsub
  refine (codeAny_call_defC (fd := fnOf name qual params body scope dV kV doc pm an cdv ct) (body := body) (binds := binds) (by have := hr.depth; omega) (hGs.kin _ _ ho) rfl hGs.nolimit (codeRec_of hGs.kin hcd) rfl hbind rfl (hkind _) (fun s₁ x => ?_) hco hgen hk)
  have hoff' : ∀ a ∈ Wl.map (·.1) ++ hid, hb.get? a = none := fun a ha => by
    rcases List.mem_append.mp ha with ha | ha
    · obtain ⟨p, hp, rfl⟩ := List.mem_map.mp ha; exact hoff p hp
    · exact hoffh a ha
  have kH : ∀ b o, b ∉ Wl.map (·.1) → b ∉ hid → s.heap.get? b = some o → (hideAll s.heap (Wl.map (·.1) ++ hid)).get? b = some o := fun b o hb hb2 e => hideAll_get _ e (fun m => (List.mem_append.mp m).elim hb hb2)
  have fresh : ∀ a, s.heap.objs.size ≤ a → s.heap.get? a = none := fun a ha => by
    cases e : s.heap.get? a with
    | none => rfl
    | some o' => exact absurd (Heap.lt_size e) (Nat.not_lt.mpr ha)
  have nn' : ∀ a, s.heap.objs.size ≤ a → (hideAll s.heap (Wl.map (·.1) ++ hid)).get? a = none := fun a ha => by
    cases q : (hideAll s.heap (Wl.map (·.1) ++ hid)).get? a with
    | none => rfl
    | some o => have := of_hideAll _ q; rw [fresh a ha] at this; cases this
  have x' := x
  generalize hE : callEnvC (fnOf name qual params body scope dV kV doc pm an cdv ct) s.heap.objs.size f = env at x' ⊢
  have eL : env.locals = s.heap.objs.size := by rw [← hE]; rfl
  have eC : env.cells = cellsFrom (s.heap.objs.size + 1) scope.names [] := by rw [← hE]; rfl
  have eK : env.kindOf = fun y => scope.names.lookup y := by rw [← hE]; rfl
  obtain ⟨h₁, tk, rfl⟩ := x'.toInCall.same
  -- the cells
  have ex : ∀ x, ∃ c o, x ∈ cv.map (·.1) → (env.cells.lookup x = some c ∧ h₁.get? c = some o ∧ o.data = .cell (cb.reverse.lookup x)) := fun x => by
    by_cases hx' : x ∈ cv.map (·.1)
    · obtain ⟨p, hp, rfl⟩ := List.mem_map.mp hx'
      obtain ⟨c, hc⟩ := Option.isSome_iff_exists.mp (hcv (s.heap.objs.size + 1) p hp).1
      rw [← eC] at hc
      obtain ⟨o, ho, hd⟩ := x'.cell p.1 c hc
      refine ⟨c, o, fun _ => ⟨hc, ho, ?_⟩⟩
      rw [hd, bindC_is, eK, hcb]; simp
    · exact ⟨0, emptyCell, fun m => absurd m hx'⟩
  have ex2 : ∃ (ca : Str → Addr) (co : Str → Obj), ∀ x, x ∈ cv.map (·.1) → (env.cells.lookup x = some (ca x) ∧ h₁.get? (ca x) = some (co x) ∧ (co x).data = .cell (cb.reverse.lookup x)) :=
    ⟨fun x => (ex x).choose, fun x => (ex x).choose_spec.choose, fun x => (ex x).choose_spec.choose_spec⟩
  obtain ⟨ca, co, hco'⟩ := ex2
  have above : ∀ p ∈ cv, s.heap.objs.size < ca p.1 := fun p hp => by
    have := x'.above _ _ (mem_of_lookup (hco' p.1 (List.mem_map_of_mem hp)).1)
    rwa [eL] at this
  have hlk : lk l = bindL env.kindOf binds fun _ => none := by
    funext y
    rw [lk_binds hl ln, bindL_is, eK, hlb]; simp
  have hdW : ∀ p ∈ Wl, p.1 < s.heap.objs.size := fun p hp => by
    obtain ⟨o, ho⟩ := (hW p hp).some
    exact Heap.lt_size ho
  refine h env s.heap.objs.size (hideAll s.heap (Wl.map (·.1) ++ hid)) { s with heap := h₁, toks := tk } _ ca co ⟨by rw [← hE]; exact hk, by rw [← hE]; rfl, eL, by rw [← hE]; rfl, by rw [← hE]; rfl, nn⟩ (by rw [← hE]; rfl) rfl
    (fun p hp => ⟨(hco' p.1 (List.mem_map_of_mem hp)).1, by rw [(hco' p.1 (List.mem_map_of_mem hp)).2.2, (hcv 0 p hp).2], fresh _ (Nat.le_of_lt (above p hp))⟩)
    ⟨h₁, tk, rfl, ?_, ln, fun b o e => x'.toInCall.keep b o (of_hideAll _ e), fun p hp => ?_, ?_, nn' _ (Nat.le_refl _), fun p hp => ?_⟩ (hG.keeps (hideAll_keep hsub hoff')) kH (fun a ha => hideAll_none _ (List.mem_append_right _ ha)) (fun b o e => x'.toInCall.keep b o e) (fresh _ (Nat.le_refl _)) hr.deeper
  · rw [hlk, ← eL]; exact x'.toInCall.ns
  · rcases List.mem_append.mp hp with hp | hp
    · obtain ⟨q, hq, rfl⟩ := List.mem_map.mp hp
      exact (hco' q.1 (List.mem_map_of_mem hq)).2.1
    · exact (hW p hp).at fun o e => x'.toInCall.keep _ _ e
  · rw [List.map_append, List.nodup_append]
    refine ⟨?_, nd, fun a ha b hb q => ?_⟩
    · rw [List.map_map]
      have : ((cv.map (·.1)).map ca).Nodup := by
        refine List.pairwise_map.mpr (List.Pairwise.imp_of_mem (R := fun a b => a ≠ b) (fun {x y} hx hy hne q => hne ?_) hcn)
        have h1 := (hco' x hx).1
        have h2 := (hco' y hy).1
        rw [q] at h1
        exact name_of_addr x'.apart (mem_of_lookup h1) (mem_of_lookup h2)
      rw [List.map_map] at this
      exact this
    · obtain ⟨p, hp, rfl⟩ := List.mem_map.mp ha
      obtain ⟨q', hq, rfl⟩ := List.mem_map.mp hp
      obtain ⟨r, hr', rfl⟩ := List.mem_map.mp hb
      have h1 := above q' hq
      have h2 := hdW r hr'
      have h3 : ca q'.1 = r.1 := q
      rw [h3] at h1
      exact Nat.lt_asymm h1 h2
  · rcases List.mem_append.mp hp with hp | hp
    · obtain ⟨q, hq, rfl⟩ := List.mem_map.mp hp
      exact ⟨nn' _ (Nat.le_of_lt (above q hq)), Nat.ne_of_gt (above q hq)⟩
    · exact ⟨hideAll_none _ (List.mem_append_left _ (List.mem_map_of_mem hp)), Nat.ne_of_lt (hdW p hp)⟩
theorem call_bodyC {f : Addr} {name qual : Str} {params : Arguments} {body : List Stmt} {scope : Scope} {dV kV doc pm cdv ct oc : Value} {an od : Option Addr} {osl : Array (Option Value)} {args : List Value} {kws : List (Str × Value)} {binds lb cb : List (Str × Value)} {Q : Value → Shared → Prop} {d u : Nat}
    (Wl : List (Addr × Cell)) (rest : List Str) (cv : List (Str × Option Value)) 
    (hG : G w hb) (hsub : ∀ b o, hb.get? b = some o → s.heap.get? b = some o) (hoff : ∀ p ∈ Wl, hb.get? p.1 = none) (hW : ∀ p ∈ Wl, CellAt s.heap p.1 p.2) (nd : (Wl.map (·.1)).Nodup)
    (hr : Room A (d + 1) (u + 3))
    (ho : (hx.heap_1 w.params).lookup f = some ⟨oc, od, .func (fnOf name qual params body scope dV kV doc pm an cdv ct), osl⟩) (hcd : codeIn (hx.heap_1 w.params) cdv qual = true)
    (hbind : BindsTo s (fnOf name qual params body scope dV kV doc pm an cdv ct) ⟨args, kws⟩ binds)
    (hkind : ∀ n, ∀ x ∈ binds, scope.names.lookup x.1 = some .local ∨ (scope.names.lookup x.1 = some .cell ∧ ((cellsFrom n scope.names []).lookup x.1).isSome = true))
    (hlb : binds.filter (fun p => scope.names.lookup p.1 == some .local) = lb) (hcb : binds.filter (fun p => !(scope.names.lookup p.1 == some .local)) = cb)
    (hcv : ∀ n, ∀ p ∈ cv, ((cellsFrom n scope.names []).lookup p.1).isSome = true ∧ cb.reverse.lookup p.1 = p.2) (hcn : (cv.map (·.1)).Nodup)
    (hl : l = lb.map (fun p => (p.1, some p.2)) ++ rest.map fun x => (x, none)) (ln : (l.map (·.1)).Nodup) (nn : (scope.names.map (·.1)).Nodup)
    (h : ∀ env L h₀ s₁ A' (ca : Str → Addr) (co : Str → Obj), EnvIs env scope.names L → env.frame = some L → A'.frames = A.frames.map (fun fs => env :: fs) → (∀ p ∈ cv, env.cells.lookup p.1 = some (ca p.1) ∧ (co p.1).data = .cell p.2 ∧ s.heap.get? (ca p.1) = none) →
      At s h₀ L l (cv.map (fun p => (ca p.1, Cell.obj (co p.1))) ++ Wl) s₁ → G w h₀ → (∀ b o, b ∉ Wl.map (·.1) → s.heap.get? b = some o → h₀.get? b = some o) → Room A' d u →
      wpAny (model P w) A' (execs body env) (fun fl s' => Q (match fl with | .ret v => v | _ => .none) s') (fun _ _ => False) s₁)
    (hco : scope.isCoroutine = false := by rfl) (hgen : scope.isGenerator = false := by rfl) (hk : scope.kind = .function := by rfl) :
    wpAny (model P w) A (call (.ref f) args kws) Q E s :=
  wpAny_call (code_bodyC Wl rest cv [] hG hsub hoff (fun _ h => nomatch h) hW nd hr ho hcd hbind hkind hlb hcb hcv hcn hl ln nn
    (fun env L h₀ s₁ A' ca co he hf hA hcs hat hg hk _ _ _ hr' => wpAny_mono (h env L h₀ s₁ A' ca co he hf hA hcs hat hg (fun b o hb e => hk b o hb (fun m => nomatch m) e) hr') (fun _ _ q => q) fun _ _ q => q.elim) hco hgen hk)
end

section
variable {w : World} {A : Around} {E : Value → Shared → Prop} {s s₀ s₂ : Shared} {env : Env} {names : List (Str × NameKind)} {L : Addr} {h₀ hb : Heap} {l : List (Str × Option Value)} {W : List (Addr × Cell)}

theorem CompFrom.mk1 {names' : List (Str × NameKind)} {ko : Option Str} {cl : List (Str × Addr)} {l0 : List (Str × Option Value)} {target elt : Expr} {ifs : List Expr}
    {J : Addr → Nat → List Value → List (Str × Option Value) → List (Addr × Cell) → Prop} {Fin : List (Str × Option Value) → List (Addr × Cell) → Addr → List Value → Shared → Prop} {I : Addr} {fp : List Addr} {n : Nat} {Pv : Nat → Value → Heap → Prop} {St : Nat → Heap → Prop}
    (a : At s₀ h₀ L l W s₂) (It : Itr w A target I fp [I] n Pv St []) (hst : St 0 s₂.heap) (hI : h₀.get? I = none ∧ I ≠ L ∧ I ∉ W.map (·.1)) (hn : n < 2 ^ 20) (hJ : ∀ C, J C 0 [] l0 (koOwn ko C))
    (turn : ∀ C cenv, EnvIs cenv names' C → cenv.frame = env.frame → cenv.cells = koCells ko C cl → ∀ i v ys lc N hb s₃ E, i < n → Pv i v s₃.heap → J C i ys lc N → At s₀ hb C lc N s₃ → (∀ b o, h₀.get? b = some o → hb.get? b = some o) →
      (∀ b o, b ≠ I → s₂.heap.get? b = some o → hb.get? b = some o) → (∀ b o, b ≠ C → b ∉ N.map (·.1) → s₃.heap.get? b = some o → hb.get? b = some o) →
      wpAny (model P w) A (assign target cenv v) (fun _ s₄ => wpAny (model P w) A (testsOf ifs cenv) (TestEnd w A E (J C (i + 1)) elt cenv ys s₀ hb C) E s₄) E s₃)
    (fin : ∀ C D ys lc N s', J C n ys lc N → s₂.heap.get? D = none → At s₀ h₀ L l ((D, .list ys) :: (N ++ W)) s' → Fin l ((D, .list ys) :: (N ++ W)) D ys s') :
    CompFrom w A s₀ h₀ L env names' ko cl l0 target elt ifs J Fin (.ref I) s₂ := by
  refine ⟨[], I, fp, [I], n, Pv, St, l, W, rfl, hn, It, hst, a, fun b hb => by cases List.mem_singleton.mp hb; exact hI, hJ, fun C cenv hB ec hf hc k => ?_, fin⟩
  intro i v ys lc N hb s₃ E₃ hi hv hJ' a₃ k₃ r₃
  have kI : ∀ b o, b ≠ I → s₂.heap.get? b = some o → hb.get? b = some o := fun b o hne q => k₃ _ _ (k b o (by simpa using hne) q)
  refine turn C cenv ec hf hc i v ys lc N hb s₃ E₃ hi hv hJ' a₃ (fun b o q => kI b o (fun z => ?_) (a.fs.keep b o q)) kI r₃
  rw [z, hI.1] at q; cases q

theorem te_nil {J : List Value → List (Str × Option Value) → List (Addr × Cell) → Prop} {elt : Expr} {cenv : Env} {ys : List Value} {C : Addr} (h : wpAny (model P w) A (eval elt cenv) (EltEnd J ys s₀ hb C) E s) :
    wpAny (model P w) A (testsOf [] cenv) (TestEnd w A E J elt cenv ys s₀ hb C) E s := wpAny_tests_nil ⟨fun _ => h, fun q => nomatch q⟩
theorem te_one {J : List Value → List (Str × Option Value) → List (Addr × Cell) → Prop} {elt c : Expr} {cenv : Env} {ys : List Value} {C : Addr} (h : wpAny (model P w) A (isTrue c cenv (eval c cenv)) (TestEnd w A E J elt cenv ys s₀ hb C) E s) :
    wpAny (model P w) A (testsOf [c] cenv) (TestEnd w A E J elt cenv ys s₀ hb C) E s := wpAny_tests_one h
theorem te_split {J : List Value → List (Str × Option Value) → List (Addr × Cell) → Prop} {elt : Expr} {cenv : Env} {ys : List Value} {C : Addr} {b : Bool} (h1 : b = true → wpAny (model P w) A (eval elt cenv) (EltEnd J ys s₀ hb C) E s) (h2 : b = false → ∃ l N, J ys l N ∧ At s₀ hb C l N s) :
    TestEnd w A E J elt cenv ys s₀ hb C b s := ⟨h1, h2⟩

theorem k_fdiv {a b : Int} {t u : Tok} {Q : Value → Shared → Prop} (hb : b ≠ 0) (hs : b.natAbs < 1073741824) (h : ∀ t s', Keeps s s' → Q (.int (a.fdiv b) t) s') : wpAny (model P w) A (binaryOp .FloorDiv (.int a t) (.int b u)) Q E s :=
  PyProof.Rows.floordiv_int hb (h _ _ (keeps_tok s _)) (Or.inl (PyProof.noPylong_small hs))
theorem k_fmod {a b : Int} {t u : Tok} {Q : Value → Shared → Prop} (hb : b ≠ 0) (h : ∀ t s', Keeps s s' → Q (.int (a.fmod b) t) s') : wpAny (model P w) A (binaryOp .Mod (.int a t) (.int b u)) Q E s :=
  PyProof.Rows.mod_int hb (h _ _ (keeps_tok s _))
theorem k_pow {a n : Int} {t u : Tok} {Q : Value → Shared → Prop} (hn : 0 ≤ n) (hn2 : n ≤ 1000000) (ha : a.natAbs < 2 ^ 64) (h : ∀ t s', Keeps s s' → Q (.int (a ^ n.toNat) t) s') : wpAny (model P w) A (binaryOp .Pow (.int a t) (.int n u)) Q E s :=
  PyProof.Rows.pow_int_small hn hn2 ha (h _ _ (keeps_tok s _))

theorem k_pyIterR {r : Addr} {a b c : Int} {n : Nat} {t u v : Tok} {Q : Value → Shared → Prop} (hr : IsRange s.heap r a b c t u v) (hs : Builtin.Range.small a b c = true) (hn : Builtin.Range.rangeSize a b c = n)
    (h : ∀ I s', Keeps s s' → s.heap.get? I = none → IsRangeIter s'.heap I (a + ((0 : Nat) : Int) * c) ((n : Int) - ((0 : Nat) : Int)) c → Q (.ref I) s') : wpAny (model P w) A (pyIter (.ref r)) Q E s := by
  refine wpAny_pyIter_range hr hs (h _ _ (keeps_push s _ s.toks) (get?_size_none _) ?_)
  rw [hn]
  have e1 : a + ((0 : Nat) : Int) * c = a := by simp
  have e2 : (n : Int) - ((0 : Nat) : Int) = n := by simp
  rw [e1, e2]
  exact Heap.get?_push_size _ rfl
theorem Itr.range {target : Expr} (hh : A.handled = none) (I : Addr) (a c : Int) (n : Nat) (ht : ∀ v, letOwnedTupleGo target (.ref I) v = pure () := by intro _; rfl) :
    Itr w A target I [I] [I] n (fun i v _ => ∃ t, v = .int (a + i * c) t) (fun i h => IsRangeIter h I (a + (i : Nat) * c) ((n : Int) - (i : Nat)) c) [] :=
  Itr.of (Walks.range hh I a c n) (fun i h st b hb => by cases List.mem_singleton.mp hb; exact ⟨_, st⟩) ht
theorem Itr.list {target : Expr} (hh : A.handled = none) (I b : Addr) (hne : b ≠ I) (xs : List Value) (ht : ∀ v, letOwnedTupleGo target (.ref I) v = pure () := by intro _; rfl) :
    Itr w A target I [I, b] [I] xs.length (fun i v _ => xs[i]? = some v) (fun i h => h.IsListIter I b i ∧ h.IsList b xs.toArray) [] := by
  have Wk := Walks.list (prog := P) (w := w) (A := A) hh I b hne xs.toArray
  simp only [List.size_toArray, List.getElem?_toArray] at Wk
  refine Itr.of Wk (fun i h st c hc => ?_) ht
  rcases List.mem_cons.mp hc with rfl | hc
  · obtain ⟨o, ho, _⟩ := st.1
    exact ⟨o, ho⟩
  · cases List.mem_singleton.mp hc
    obtain ⟨o, ho, _⟩ := st.2
    exact ⟨o, ho⟩

/-- an item of a list, at p, whatever stands ahead of the brackets -/
theorem sub_list {value slice : Expr} {b : Addr} {xs : List Value} {p : Nat} {k : Int} {t : Tok} {v : Value} {Q : Value → Shared → Prop} (hl : s.heap.IsList b xs.toArray) (hk : k = (p : Int)) (hx : xs[p]? = some v) (hp : p < 2 ^ 63)
    (hs : subscripted slice false (.ref b) (.int k t) = operate [.ref b, .int k t] (getItem (.ref b) (.int k t))) (h : Q v s) :
    wpAny (model P w) A (subscriptTail value slice (.ref b) (.int k t)) Q E s := by
  subst hk
  refine kba_turn (value' := .Name (Str.ofString "_") ⟨0, 0, 0, 0⟩) (fun _ => rfl) ?_
  exact subscriptTail_builtin hl.typeIs slot_list_getitem.lookup (wpAny_getItem_list hl (by lia) (by lia) (by simpa using hx) h) hs (fun _ => rfl)
theorem ko_none {inner : List (Str × NameKind)} (h : ∀ x ∈ inner, x.2 ≠ .cell) : KoOk none inner := by
  constructor
  · intro C cl
    show cellsFrom (C + 1) inner cl = cl
    generalize C + 1 = n
    induction inner generalizing n cl with
    | nil => rfl
    | cons p r ih =>
      obtain ⟨x, k⟩ := p
      have : (k == NameKind.cell) = false := by simpa using h (x, k) List.mem_cons_self
      unfold cellsFrom
      rw [this]
      exact ih (fun y hy => h y (List.mem_cons_of_mem _ hy)) cl n
  · intro hp
    show pushCells hp inner = hp
    induction inner with
    | nil => rfl
    | cons p r ih =>
      obtain ⟨x, k⟩ := p
      have : (k == NameKind.cell) = false := by simpa using h (x, k) List.mem_cons_self
      unfold pushCells
      rw [this]
      exact ih (fun y hy => h y (List.mem_cons_of_mem _ hy))

theorem n_div {a b : Int} {x y : Nat} {t u : Tok} {Q : Value → Shared → Prop} (ha : a = (x : Int)) (hb : b = (y : Int)) (hy : 0 < y) (hs : y < 1073741824) (h : ∀ t s', Keeps s s' → Q (.int ((x / y : Nat) : Int) t) s') : wpAny (model P w) A (binaryOp .FloorDiv (.int a t) (.int b u)) Q E s := by
  subst ha hb
  refine k_fdiv (by lia) (by lia) ?_
  rw [Int.fdiv_eq_ediv_of_nonneg _ (by lia)]
  exact h
theorem n_mod {a b : Int} {x y : Nat} {t u : Tok} {Q : Value → Shared → Prop} (ha : a = (x : Int)) (hb : b = (y : Int)) (hy : 0 < y) (h : ∀ t s', Keeps s s' → Q (.int ((x % y : Nat) : Int) t) s') : wpAny (model P w) A (binaryOp .Mod (.int a t) (.int b u)) Q E s := by
  subst ha hb
  refine k_fmod (by lia) ?_
  rw [Int.fmod_eq_emod_of_nonneg _ (by lia)]
  exact h
theorem lk_none {l : List (Str × Option Value)} (h : ∀ p ∈ l, p.2 = none) (y : Str) : lk l y = none := by
  unfold lk
  cases e : l.lookup y with
  | none => rfl
  | some v =>
    have := h _ (mem_of_lookup e)
    dsimp only at this
    subst this; rfl
end

section
variable {w : World} {A : Around} {E : Value → Shared → Prop} {s s₀ s₂ : Shared} {env : Env} {names : List (Str × NameKind)} {L : Addr} {h₀ hb : Heap} {l : List (Str × Option Value)} {W : List (Addr × Cell)}

/-- only these of the frame's own -/
theorem At.only (a : At s₀ h₀ L l W s) {W' : List (Addr × Cell)} (hs : ∀ p ∈ W', p ∈ W) (nd : (W'.map (·.1)).Nodup) : At s₀ h₀ L l W' s := by
  obtain ⟨hp, tk, rfl, f⟩ := a
  exact ⟨hp, tk, rfl, f.ns, f.ln, f.keep, fun p h => f.own p (hs p h), nd, f.newL, fun p h => f.newW p (hs p h)⟩

/-- what a turn of a for loop ends with -/
noncomputable def ForEnd2 (J : List (Str × Option Value) → List (Addr × Cell) → Prop) (s₀ : Shared) (h₁ : Heap) (L : Addr) (Q : Flow → Shared → Prop) : Flow → Shared → Prop
  | .next, s => ∃ l W, J l W ∧ At s₀ h₁ L l W s
  | .cont, s => ∃ l W, J l W ∧ At s₀ h₁ L l W s
  | .brk, s => Q .next s
  | .ret v, s => Q (.ret v) s

theorem x_for2 {target : Expr} {body : List Stmt} {I : Addr} {fp wr : List Addr} {n : Nat} {Pv : Nat → Value → Heap → Prop} {St : Nat → Heap → Prop} {X : List (Addr × Cell)} {Q : Flow → Shared → Prop} (J : Nat → List (Str × Option Value) → List (Addr × Cell) → Prop)
    (a : At s₀ h₀ L l W s) (It : Itr w A target I fp wr n Pv St X) (hst : St 0 s.heap) (hfp : ∀ b ∈ fp, b ≠ L ∧ b ∉ W.map (·.1)) (hwr : ∀ b ∈ wr, h₀.get? b = none) (hJ : J 0 l W)
    (turn : ∀ i v l W h₁ s E, i < n → Pv i v s.heap → J i l W → (∀ b o, h₀.get? b = some o → h₁.get? b = some o) → (∀ b o, b ≠ L → b ∉ W.map (·.1) → s.heap.get? b = some o → h₁.get? b = some o) → At s₀ h₁ L l W s →
      wpAny (model P w) A (assign target env v) (fun _ s' => wpAny (model P w) A (execs body env) (ForEnd2 (J (i + 1)) s₀ h₁ L Q) E s') E s)
    (done : ∀ l W s, J n l W → At s₀ h₀ L l W s → Q .next s) :
    codeAny (model P w) A (.forLoop target (.ref I) body [] env) (fun r s' => match r with | .ok f => Q f s' | .error e => cameBackBy (model P w) A env E e s') s := by
  refine codeAny_forLoop_any (fun k s => ∃ i l W, k = n - i ∧ i ≤ n ∧ J i l W ∧ At s₀ h₀ L l W s ∧ St i s.heap ∧ (∀ b ∈ fp, b ≠ L ∧ b ∉ W.map (·.1))) ?_ n ⟨0, l, W, by lia, by lia, hJ, a, hst, hfp⟩
  rintro k s₁ ⟨i, l, W, rfl, hi, hJ, a, hst, hfp⟩
  have awr : ∀ h' tk, (∀ b o, b ∉ wr → s₁.heap.get? b = some o → h'.get? b = some o) → At s₀ h₀ L l W { s₁ with heap := h', toks := tk } := fun h' tk hk =>
    a.keptBut (bs := wr) ⟨h', tk, rfl, hk⟩ hwr (fun m => (hfp _ (It.sub _ m)).1 rfl) (fun p hp m => (hfp _ (It.sub _ m)).2 (List.mem_map_of_mem hp))
  by_cases h : i < n
  · refine wpAny_mono (It.item i s₁ (fun r s' => match r with
        | none => False
        | some v => wpAny (model P w) A (assign target env v) (fun _ s₂ => wpAny (model P w) A (execs body env) (fun f s₃ => match f with
            | .next | .cont => ∃ m, m < n - i ∧ ∃ i l W, m = n - i ∧ i ≤ n ∧ J i l W ∧ At s₀ h₀ L l W s₃ ∧ St i s₃.heap ∧ (∀ b ∈ fp, b ≠ L ∧ b ∉ W.map (·.1))
            | .brk => Q .next s₃
            | .ret v => Q (.ret v) s₃) (notedBy (model P w) A env fun e s' => cameBackBy (model P w) A env E e s') s₂) (notedBy (model P w) A env fun e s' => cameBackBy (model P w) A env E e s') s')
        (notedBy (model P w) A env fun e s' => cameBackBy (model P w) A env E e s') h hst (fun v h' tk hv hst' hk => ?_)) (fun r s' hr => ?_) fun _ _ e => e
    · dsimp only
      have a' := awr h' tk hk
      obtain ⟨h₁, k₁, a₁, r₁⟩ := a'.rebase
      refine wpAny_mono (turn i v l W h₁ _ _ h hv hJ k₁ r₁ a₁) (fun _ s₂ hs₂ => wpAny_mono hs₂ (fun fl s₃ hf => ?_) fun _ _ e => e) fun _ _ e => e
      have fin : (∃ l W, J (i + 1) l W ∧ At s₀ h₁ L l W s₃) → ∃ m, m < n - i ∧ ∃ i l W, m = n - i ∧ i ≤ n ∧ J i l W ∧ At s₀ h₀ L l W s₃ ∧ St i s₃.heap ∧ (∀ b ∈ fp, b ≠ L ∧ b ∉ W.map (·.1)) := by
        rintro ⟨l', W', hJ', a''⟩
        refine ⟨n - (i + 1), by lia, i + 1, l', W', rfl, h, hJ', a''.shrink k₁, It.frame _ _ _ hst' fun b hb o e => a''.fs.keep b o (r₁ b o (hfp b hb).1 (hfp b hb).2 e), fun b hb => ⟨(hfp b hb).1, fun m => ?_⟩⟩
        obtain ⟨o, ho⟩ := It.ex _ _ hst' b hb
        have := r₁ b o (hfp b hb).1 (hfp b hb).2 ho
        obtain ⟨p, hp, q⟩ := List.mem_map.mp m
        have h2 := (a''.fs.newW p hp).1
        rw [q, this] at h2; cases h2
      cases fl with
      | next => exact fin hf
      | cont => exact fin hf
      | brk => exact hf
      | ret v => exact hf
    · cases r with
      | none => exact hr.elim
      | some v => exact hr
  · obtain rfl : i = n := by lia
    refine It.done s₁ _ _ hst (fun h' tk hk _ => ?_)
    dsimp only
    exact wpAny_execs_nil (done _ _ _ hJ (awr h' tk hk))

theorem f2_next {J : List (Str × Option Value) → List (Addr × Cell) → Prop} {h₁ : Heap} {Q : Flow → Shared → Prop} (a : At s₀ h₁ L l W s) (hJ : J l W) : ForEnd2 J s₀ h₁ L Q .next s := ⟨l, W, hJ, a⟩
theorem f2_ret {J : List (Str × Option Value) → List (Addr × Cell) → Prop} {h₁ : Heap} {Q : Flow → Shared → Prop} {v : Value} (h : Q (.ret v) s) : ForEnd2 J s₀ h₁ L Q (.ret v) s := h
end

section
variable {w : World} {A : Around} {E : Value → Shared → Prop} {s s₀ s₂ : Shared} {env : Env} {names : List (Str × NameKind)} {L : Addr} {h₀ hb : Heap} {l : List (Str × Option Value)} {W : List (Addr × Cell)}

/-- one of the frame's own comes to the front -/
theorem At.mv {V : List (Addr × Cell)} {p : Addr × Cell} (a : At s₀ h₀ L l (V ++ p :: W) s) : At s₀ h₀ L l (p :: (V ++ W)) s := by
  refine a.only (fun q hq => ?_) ?_
  · rw [List.mem_append, List.mem_cons]
    rcases List.mem_cons.mp hq with rfl | hq
    · exact .inr (.inl rfl)
    · rcases List.mem_append.mp hq with h | h
      · exact .inl h
      · exact .inr (.inr h)
  · have := a.fs.nd
    exact ((List.perm_middle (l₁ := V) (l₂ := W) (a := p)).map (·.1)).nodup_iff.mp this

/-- some of the frame's own objects as part of what is kept, for a while -/
theorem At.borrow {B : List (Addr × Obj)} (a : At s₀ h₀ L l (B.map (fun p => (p.1, Cell.obj p.2)) ++ W) s) :
    ExA5 (fun h₁ => ∀ b o, h₀.get? b = some o → h₁.get? b = some o) (fun h₁ => ∀ p ∈ B, h₁.get? p.1 = some p.2) (fun h₁ => At s₀ h₁ L l W s) (fun h₁ => ∀ b o, b ≠ L → b ∉ W.map (·.1) → s.heap.get? b = some o → h₁.get? b = some o)
      (fun h₁ => ∀ l' W' s', At s₀ h₁ L l' W' s' → At s₀ h₀ L l' (B.map (fun p => (p.1, Cell.obj p.2)) ++ W') s') := by
  have nd := a.fs.nd
  rw [List.map_append, List.nodup_append] at nd
  have a1 : At s₀ h₀ L l W s := a.only (fun p hp => List.mem_append_right _ hp) nd.2.1
  obtain ⟨h₁, k₁, a₂, r₁⟩ := a1.rebase
  have hB : ∀ p ∈ B, h₁.get? p.1 = some p.2 := fun p hp => by
    have hm : (p.1, Cell.obj p.2) ∈ B.map (fun p => (p.1, Cell.obj p.2)) := List.mem_map_of_mem (f := fun p : Addr × Obj => (p.1, Cell.obj p.2)) hp
    have hc : CellAt s.heap p.1 (Cell.obj p.2) := a.cell (List.mem_append_left _ hm)
    refine r₁ _ _ (a.fs.newW _ (List.mem_append_left _ hm)).2 (fun m => nd.2.2 _ (List.mem_map_of_mem (f := fun q : Addr × Cell => q.1) hm) _ m rfl) hc
  refine ⟨h₁, k₁, hB, a₂, r₁, fun l' W' s' a' => (a'.shrink k₁).adds (fun p hp => ?_) ?_ fun p hp => ?_⟩
  · obtain ⟨q, hq, rfl⟩ := List.mem_map.mp hp
    exact a'.keepsN _ _ (hB q hq)
  · exact nd.1
  · obtain ⟨q, hq, rfl⟩ := List.mem_map.mp hp
    have := a.fs.newW _ (List.mem_append_left _ hp)
    refine ⟨this.1, this.2, fun m => ?_⟩
    obtain ⟨z, hz, e⟩ := List.mem_map.mp m
    have h2 := (a'.fs.newW z hz).1
    rw [e] at h2
    rw [hB q hq] at h2; cases h2

theorem At.old (a : At s₀ h₀ L l W s) {b : Addr} {o : Obj} (ho : h₀.get? b = some o) : b ≠ L ∧ b ∉ W.map (·.1) := by
  refine ⟨fun e => ?_, fun m => ?_⟩
  · have := a.fs.newL; rw [← e, ho] at this; cases this
  · obtain ⟨p, hp, e⟩ := List.mem_map.mp m
    have := (a.fs.newW p hp).1
    rw [e, ho] at this; cases this
theorem x_aug {x : Str} {pp : Pos} {op : Operator} {value : Expr} {pos : Pos} {Q : Flow → Shared → Prop}
    (h : wpAny (model P w) A (loadName env x) (fun c s₁ => wpAny (model P w) A (eval value env) (fun v s₂ => wpAny (model P w) A (inplaceOp op c v) (fun r s₃ => wpAny (model P w) A (storeName env x r) (fun _ => Q .next) E s₃) E s₂) E s₁) E s) :
    wpAny (model P w) A (exec (.AugAssign (.Name x pp) op value pos) env) Q E s := wpAny_AugAssign_Name h
theorem ldn_local {x : Str} {v : Value} {Q : Value → Shared → Prop} (e : EnvIs env names L) (a : At s₀ h₀ L l W s) (hl : (x, .local) ∈ names) (hv : (x, some v) ∈ l) (h : Q v s) : wpAny (model P w) A (loadName env x) Q E s :=
  wpAny_loadName_local e.kind (e.is hl) (e.locals ▸ a.fs.ns) (lk_of a.fs.ln hv) h
theorem k_iadd {a b : Int} {t u : Tok} {Q : Value → Shared → Prop} (h : ∀ t s', Keeps s s' → Q (.int (a + b) t) s') : wpAny (model P w) A (inplaceOp .Add (.int a t) (.int b u)) Q E s := PyProof.Rows.iadd_int (h _ _ (keeps_tok s _))
theorem k_isub {a b : Int} {t u : Tok} {Q : Value → Shared → Prop} (h : ∀ t s', Keeps s s' → Q (.int (a - b) t) s') : wpAny (model P w) A (inplaceOp .Sub (.int a t) (.int b u)) Q E s := PyProof.Rows.isub_int (h _ _ (keeps_tok s _))

/-- an item of a tuple at p, whatever stands ahead of the brackets -/
theorem sub_tup {value slice : Expr} {b : Addr} {xs : List Value} {p : Nat} {k : Int} {t : Tok} {v : Value} {Q : Value → Shared → Prop} (hl : IsTup s.heap b xs.toArray) (hk : k = (p : Int)) (hx : xs[p]? = some v) (hp : p < 2 ^ 62)
    (hs : subscripted slice false (.ref b) (.int k t) = operate [.ref b, .int k t] (getItem (.ref b) (.int k t))) (h : Q v s) :
    wpAny (model P w) A (subscriptTail value slice (.ref b) (.int k t)) Q E s := by
  subst hk
  refine kba_turn (value' := .Name (Str.ofString "_") ⟨0, 0, 0, 0⟩) (fun _ => rfl) ?_
  have hlt : p < xs.length := (List.getElem?_eq_some_iff.mp hx).1
  refine item_tupleL (j := p) hl (by omega) (by omega) ?_ hx h hs (fun _ => rfl)
  unfold seqIndex?
  simp
  omega

theorem Itr.listAt {target : Expr} (hh : A.handled = none) (I b : Addr) (hne : b ≠ I) (xs : List Value) (j : Nat) (hj : j ≤ xs.length) (ht : ∀ v, letOwnedTupleGo target (.ref I) v = pure () := by intro _; rfl) :
    Itr w A target I [I, b] [I] (xs.length - j) (fun i v _ => xs[j + i]? = some v) (fun i h => h.IsListIter I b (j + i) ∧ h.IsList b xs.toArray) [] where
  sub := fun c hc => by simp at hc; simp [hc]
  xsub := fun _ h => nomatch h
  xnd := List.nodup_nil
  ex := fun i h st c hc => by
    rcases List.mem_cons.mp hc with rfl | hc
    · obtain ⟨o, ho, _⟩ := st.1
      exact ⟨o, ho⟩
    · cases List.mem_singleton.mp hc
      obtain ⟨o, ho, _⟩ := st.2
      exact ⟨o, ho⟩
  frame := fun _ _ _ st hk => ⟨st.1.at fun o e => hk I (by simp) o e, st.2.at fun o e => hk b (by simp) o e⟩
  item := fun i s Q E hi st hQ => by
    obtain ⟨y, hy⟩ : ∃ y, xs[j + i]? = some y := ⟨_, List.getElem?_eq_getElem (by omega)⟩
    refine wpAny_pyNext_list_item st.1 st.2 (x := y) (by simpa using hy) fun h' hit' hs' => ?_
    refine wpAny_of_eq (ht y) ?_
    exact hQ _ h' s.toks hy ⟨by rw [Nat.add_assoc] at hit'; exact hit', st.2.extBut hs'.extBut hne⟩ fun b o hb e => hs'.extBut b o (fun h => hb (by simp [h])) e
  done := fun s Q E st hQ => wpAny_pyNext_list_end hh st.1 st.2 (by simp; omega) fun h' he' => hQ h' s.toks (fun b o hb e => he' b o (fun h => hb (by simp [h])) e) fun _ h => nomatch h
  self := fun _ _ _ _ st hQ => wpAny_pyIter_listiter st.1 hQ
end

/-- the octets of a number -/
noncomputable def octV (x : Int) (k : Nat) : UInt8 := octs.getD ((x.fdiv 9).fdiv ((4 : Int) ^ k) |>.fmod 4).toNat 0
noncomputable def octN (x : Int) : Nat := ((x.fdiv 3).fmod 3).toNat
noncomputable def octL (x : Int) : List UInt8 := (List.range (octN x)).map (octV x)

theorem byteArr_of (l : List UInt8) : byteArr ((l.map (·.toNat)).map fun n : Nat => (n : Int)) = l.toArray := by
  unfold byteArr
  rw [List.map_map, List.map_map]
  congr 1
  conv => rhs; rw [← List.map_id l]
  refine List.map_congr_left fun c _ => ?_
  simp

theorem octN_lt (x : Int) : octN x < 3 := by
  unfold octN
  have h1 := Int.fmod_lt_of_pos (x.fdiv 3) (b := 3) (by decide)
  omega
theorem octets_spec {w : World} {A : Around} {s : Shared} {x : Int} {t : Tok} {Q E : Value → Shared → Prop}
   (hG : G w s.heap) (hr : Room A 4 60) (hQ : ∀ t s', Keeps s s' → Q (.bytes (octL x).toArray t) s') : wpAny (model P w) A (call (.ref 286) [.int x t]) Q E s := by
  refine call_bodyC (d := 3) (u := 57) (binds := [("x", .int x t)]) (lb := []) (cb := [("x", .int x t)]) (l := []) [] [] [("x", some (.int x t))] hG (fun _ _ e => e) (fun _ h => nomatch h) (fun _ h => nomatch h) (by simp) hr (by k_is) (by k_is) (BindsTo.of_eq rfl) (fun n => by intro y hy; cases List.mem_singleton.mp hy; exact .inr ⟨rfl, rfl⟩) rfl rfl (fun n => by intro y hy; cases List.mem_singleton.mp hy; exact ⟨rfl, rfl⟩) (by simp) rfl (by simp) (by decide) ?_
  intro env L h₀ s₁ A' ca co he hfr hA' hcs hat hg₀ hk hr'
  dsimp only at he
  have hat : At s h₀ L [] [(ca "x", Cell.obj (co "x"))] s₁ := hat
  have hcx : env.cells.lookup (Str.ofString "x") = some (ca "x") := (hcs _ List.mem_cons_self).1
  have hcd : (co "x").data = .cell (some (.int x t)) := (hcs _ List.mem_cons_self).2.1
  generalize ca "x" = c at hcx hat
  generalize co "x" = o at hcd hat
  repeat k_extra "n"
  refine x_comp (s₀ := s) (h₀ := h₀) (L := L) (names' := [(Str.ofString ".0", NameKind.local), (Str.ofString "k", NameKind.local), (Str.ofString "x", NameKind.cell)]) (ko := none) (l0 := [("k", none)]) (cl := [("x", c)])
    (fun C i ys l N => ∃ u, l = ([("k", u)] : List (Str × Option Value)) ∧ N = [] ∧ NatsAre ys ((List.range i).map fun k => (octV x k).toNat)) he ?cia1 ?cib1 ?_
  case cia1 => exact ⟨rfl, by decide, by decide, rfl, ko_none (by decide), fun y => by show lk _ y = none; unfold lk; simp [List.lookup_cons]; split <;> rfl, by decide⟩
  case cib1 => exact clo_one rfl hcx
  have hco : At s h₀ L [] [(c, Cell.obj o)] s₁ := hat
  repeat k_extra "n"
  refine ld_cell he (by assumption) (by k_extra "m:in") hcx (hat.cell List.mem_cons_self) hcd (by decide) ?_
  repeat k_extra "n"
  refine k_fdiv (by decide) (by decide) (fun t1 s2 hk1 => ?_)
  have hat1 := At.kept (by assumption) hk1
  repeat k_extra "n"
  refine k_fmod (by decide) (fun t2 s3 hk2 => ?_)
  have hat2 := At.kept (by assumption) hk2
  repeat k_extra "n"
  have hN : ((x.fdiv 3).fmod 3) = ((octN x : Nat) : Int) := by
    unfold octN
    have := Int.fmod_nonneg_of_pos (x.fdiv 3) (b := 3) (by decide)
    omega
  have hlt := octN_lt x
  rw [hN]
  generalize hnn : octN x = n at hlt
  refine k_range1 (fun r t3 u3 v3 s4 hk3 hr hrr => ?_)
  have hat3 := hat2.kept hk3
  refine k_pyIterR (n := n) hrr ?_ ?_ (fun I s5 hk4 hI hit => ?_)
  case refine_1 => obtain rfl | rfl | rfl : n = 0 ∨ n = 1 ∨ n = 2 := by omega
                   all_goals decide
  case refine_2 => obtain rfl | rfl | rfl : n = 0 ∨ n = 1 ∨ n = 2 := by omega
                   all_goals decide
  have hfI := hat3.fresh hI
  have hat4 := hat3.kept hk4
  refine CompFrom.mk1 (n := n) hat4 (Itr.range hr'.handled I 0 1 n) hit hfI (by omega) (fun C => ⟨_, rfl, rfl, .nil⟩) ?_ ?_
  · intro C cenv ec hcf hcc i v ys lc N hb s₃ E₃ hi hv hJ' a₃ k0 kI kk
    obtain ⟨u, rfl, rfl, hys⟩ := hJ'
    obtain ⟨tv, rfl⟩ : ∃ tv, v = .int (i : Int) tv := by simpa using hv
    have ccx : cenv.cells.lookup (Str.ofString "x") = some c := by rw [hcc]; rfl
    have hcI : c ≠ I := fun z => hfI.2.2 (by rw [z]; exact List.mem_cons_self)
    have hco' : hb.get? c = some o := kI c o hcI (hat4.cell (c := Cell.obj o) List.mem_cons_self)
    refine wpAny_assign_Name ?_
    repeat k_extra "n"
    rename_i a₄
    refine te_nil ?_
    repeat k_extra "n"
    refine x_list ?_
    repeat k_extra "n"
    rename_i a₅
    refine ⟨by simp, fun D s₆ hk₆ hD hl₆ => ?_⟩
    have hfD := a₅.fresh hD
    have a₆ := (a₅.kept hk₆).add (b := D) (xs := Cell.list _) hl₆ hfD.1 hfD.2.1 hfD.2.2
    repeat k_extra "n"
    refine ld_cell ec (by assumption) (by k_extra "m:in") ccx (a₆.fs.keep _ _ hco') hcd (by decide) ?_
    repeat k_extra "n"
    refine k_fdiv (by decide) (by decide) (fun t7 s7 hk7 => ?_)
    have a₇ := At.kept (by assumption) hk7
    repeat k_extra "n"
    refine k_pow (by omega) (by omega) (by decide) (fun t8 s8 hk8 => ?_)
    have a₈ := At.kept (by assumption) hk8
    have hi2 : i = 0 ∨ i = 1 := by omega
    refine k_fdiv (by obtain rfl | rfl := hi2 <;> decide) (by obtain rfl | rfl := hi2 <;> decide) (fun t9 s9 hk9 => ?_)
    have a₉ := a₈.kept hk9
    repeat k_extra "n"
    refine k_fmod (by decide) (fun t10 s10 hk10 => ?_)
    have a10 := At.kept (by assumption) hk10
    have e4 : ((x.fdiv 9).fdiv ((4 : Int) ^ (i : Int).toNat)).fmod 4 = ((((x.fdiv 9).fdiv ((4 : Int) ^ i)).fmod 4).toNat : Nat) := by
      have h4 := Int.fmod_nonneg_of_pos ((x.fdiv 9).fdiv ((4 : Int) ^ i)) (b := 4) (by decide)
      rw [Int.toNat_natCast]; omega
    have hoc : octV x i = octs.getD (((x.fdiv 9).fdiv ((4 : Int) ^ i)).fmod 4).toNat 0 := rfl
    have hm4 : (((x.fdiv 9).fdiv ((4 : Int) ^ i)).fmod 4).toNat < 4 := by
      have h4 := Int.fmod_lt_of_pos ((x.fdiv 9).fdiv ((4 : Int) ^ i)) (b := 4) (by decide)
      omega
    generalize (((x.fdiv 9).fdiv ((4 : Int) ^ i)).fmod 4).toNat = m at e4 hm4 hoc
    have hlD := a10.cell (b := D) List.mem_cons_self
    have hit : ∀ ta tb tc td : Tok, ∃ tt, ([Value.int 0 ta, Value.int 62 tb, Value.int 251 tc, Value.int 255 td] : List Value)[m]? = some (.int ((octV x i).toNat : Nat) tt) := by
      intro ta tb tc td
      obtain rfl | rfl | rfl | rfl : m = 0 ∨ m = 1 ∨ m = 2 ∨ m = 3 := by omega
      all_goals exact ⟨_, by rw [hoc]; rfl⟩
    refine (hit _ _ _ _).elim fun tt htt => sub_list (p := m) hlD.isList e4 htt (by omega) rfl ?_
    refine ⟨_, _, ⟨_, rfl, rfl, ?_⟩, a10.tail⟩
    rw [List.range_succ, List.map_append]
    exact hys.snoc _ _
  · rintro C D ys lc N s' ⟨u, rfl, rfl, hys⟩ hD a₅ _
    repeat k_extra "n"
    have hlen : ys.length = n := by
      have := hys.length
      simpa using this
    refine k_bytesOf hr'.handled (a₅.cell (b := D) List.mem_cons_self).isList hys (fun m hm => ?_) (by omega) (fun t6 s6 hk6 => ?_)
    · obtain ⟨k, hk1, rfl⟩ := List.mem_map.mp hm
      obtain ⟨k2, hk2, rfl⟩ := List.mem_map.mp hk1
      have := (octV x k2).toNat_lt
      exact ⟨by omega, by omega⟩
    have a6 := a₅.kept hk6
    repeat k_extra "n"
    have e5 : byteArr (((List.range n).map fun k => (octV x k).toNat).map fun m : Nat => (m : Int)) = (octL x).toArray := by
      rw [show (fun k => (octV x k).toNat) = UInt8.toNat ∘ octV x from rfl, ← List.map_map, byteArr_of]
      unfold octL; rw [hnn]
    rw [e5]
    refine hQ _ _ (KeepsBut.to (a6.keepsBut (as := []) (fun b o _ e => hk b o (fun m => nomatch m) e)))

section
variable {w : World} {A : Around} {E : Value → Shared → Prop} {s s₀ s₂ : Shared} {env : Env} {names : List (Str × NameKind)} {L : Addr} {h₀ hb : Heap} {l : List (Str × Option Value)} {W : List (Addr × Cell)}

theorem line4096 : (4096 : Nat) ≤ sizeLine := by decide +kernel

/-- a character of a text, at p -/
theorem k_subS {value slice : Expr} {x : Str} {p c : Nat} {k : Int} {t u : Tok} {Q : Value → Shared → Prop} (hk : k = (p : Int)) (hx : x.cps[p]? = some c) (hp : p < 2 ^ 62)
    (hs : subscripted slice false (.str x t) (.int k u) = operate [.str x t, .int k u] (getItem (.str x t) (.int k u))) (ht : ∀ r, letTemporaryGo value (.str x t) r = pure ()) (h : ∀ t s', Keeps s s' → Q (.str ⟨#[c]⟩ t) s') :
    wpAny (model P w) A (subscriptTail value slice (.str x t) (.int k u)) Q E s := by
  subst hk
  have hlt : p < x.cps.size := by
    obtain ⟨h1, _⟩ := Array.getElem?_eq_some_iff.mp hx
    exact h1
  refine subscriptTail_builtin (typeIs_str s _ t) F.slot_str_getitem.lookup (P.getItem_str (c := c) ?_ ?_ (h _ _ (keeps_tok s _))) hs ht
  · have h1 : ¬ ((p : Int) < -(2 ^ 63 : Int)) := by lia
    have h2 : ¬ ((p : Int) ≥ 2 ^ 63) := by lia
    rw [decide_eq_false h1, decide_eq_false h2]; rfl
  · have : seqIndex? (p : Int) x.length = some p := by
      unfold seqIndex?
      have hl : x.length = x.cps.size := rfl
      rw [hl]
      simp
      lia
    rw [this]; exact hx

theorem k_addS {x y : Str} {t u : Tok} {Q : Value → Shared → Prop} (hz : x.cps.size + y.cps.size ≤ 4096) (h : ∀ t s', Keeps s s' → Q (.str (x ++ y) t) s') : wpAny (model P w) A (binaryOp .Add (.str x t) (.str y u)) Q E s := by
  refine PySem.P.add_str ?_
  have hlen : ∀ z : Str, z.length = z.cps.size := fun _ => rfl
  have happ : ∀ a b : Str, a ++ b = ⟨a.cps ++ b.cps⟩ := fun _ _ => rfl
  split
  · rename_i hx
    have hx' : x.cps = #[] := by
      have : x.cps.size = 0 := by simpa [hlen] using hx
      exact Array.eq_empty_of_size_eq_zero this
    have : x ++ y = y := by rw [happ, hx']; simp
    rw [this] at h
    exact h _ _ (keeps_tok s s.toks)
  · split
    · rename_i hy
      have hy' : y.cps = #[] := by
        have : y.cps.size = 0 := by simpa [hlen] using hy
        exact Array.eq_empty_of_size_eq_zero this
      have : x ++ y = x := by rw [happ, hy']; simp
      rw [this] at h
      exact h _ _ (keeps_tok s s.toks)
    · refine ⟨?_, h _ _ (keeps_tok s _)⟩
      rw [hlen, happ, Array.size_append]
      exact Nat.le_trans hz line4096

theorem k_join {x : Str} {t : Tok} {b : Addr} {vs : List Value} {ys : List Str} {Q : Value → Shared → Prop} (hl : s.heap.IsList b vs.toArray) (hi : StrsAre vs ys) (hx : x.cps.size ≤ 16) (hw : (ys.map (·.length)).sum + ys.length ≤ 4096)
    (h : ∀ t s', Keeps s s' → Q (.str (Txt.join x ys) t) s') : wpAny (model P w) A (call (.builtin "str.join") [.str x t, .ref b]) Q E s :=
  join_listW hl (by simpa using hi) hx (by lia) fun t' k => h _ _ (keeps_tok s k)

theorem StrsAre.snoc' {vs : List Value} {ys : List Str} (h : StrsAre vs ys) (y : Str) (t : Tok) : StrsAre (vs ++ [.str y t]) (ys ++ [y]) := by
  induction h with
  | nil => exact .cons _ _ .nil
  | cons y t _ ih => exact .cons _ _ ih

theorem Itr.bytes {target : Expr} (hh : A.handled = none) (I : Addr) (b : List UInt8) (t : Tok) (ht : ∀ v, letOwnedTupleGo target (.ref I) v = pure () := by intro _; rfl) :
    Itr w A target I [I] [I] b.length (fun i v _ => ∃ c u, b[i]? = some c ∧ v = .int (c.toNat : Nat) u) (fun i h => KBw.IsBytesIter h I b.toArray t i) [] := by
  have Wk := KBw.walks (prog := P) (w := w) hh I b.toArray t
  simp only [List.size_toArray, List.getElem?_toArray] at Wk
  exact Itr.of Wk (fun i h st c hc => by cases List.mem_singleton.mp hc; obtain ⟨o, ho, _⟩ := st; exact ⟨o, ho⟩) ht
end

noncomputable def hexS : Str := Str.ofString "0123456789ABCDEF"
noncomputable def hexC (n : Nat) : Nat := hexS.cps.getD n 0
noncomputable def figO (o : UInt8) : Str := (⟨#[hexC (o.toNat / 16)]⟩ : Str) ++ ⟨#[hexC (o.toNat % 16)]⟩
noncomputable def figS (r : List UInt8) : Str := Txt.join (Str.ofString "") (r.map figO)
theorem hexC_get {n : Nat} (h : n < 16) : hexS.cps[n]? = some (hexC n) := by
  have hz : hexS.cps.size = 16 := by decide +kernel
  unfold hexC
  rw [Array.getD_eq_getD_getElem?, Array.getElem?_eq_getElem (by lia)]; rfl

theorem figures_spec {w : World} {A : Around} {s : Shared} {r : List UInt8} {t : Tok} {Q E : Value → Shared → Prop}
   (hG : G w s.heap) (hr : Room A 4 60) (hn : r.length ≤ 64) (hQ : ∀ t s', Keeps s s' → Q (.str (figS r) t) s') : wpAny (model P w) A (call (.ref 296) [.bytes r.toArray t]) Q E s := by
  refine call_body [] [] (l := [("octets", some (.bytes r.toArray t))]) hG (fun _ _ e => e) (fun _ h => nomatch h) (fun _ h => nomatch h) (by simp) (d := 3) (u := 57) hr (by k_is) (by k_is) (BindsTo.of_eq rfl) (by decide) (locs rfl) rfl (by simp) (by decide) ?_
  intro env L h₀ s₁ A' he hat hg₀ hk hr'
  dsimp only at he
  repeat k_extra "n"
  refine GM.join ?_
  repeat k_extra "n"
  refine x_comp (s₀ := s) (h₀ := h₀) (L := L) (names' := [(Str.ofString ".0", NameKind.local), (Str.ofString "octet", NameKind.local)]) (ko := none) (l0 := [("octet", none)]) (cl := [])
    (fun C i ys l N => ∃ u, l = ([("octet", u)] : List (Str × Option Value)) ∧ N = [] ∧ StrsAre ys ((r.take i).map figO)) he ?cia1 ?cib1 ?_
  case cia1 => exact ⟨rfl, by decide, by decide, rfl, ko_none (by decide), fun y => by show lk _ y = none; unfold lk; simp [List.lookup_cons]; split <;> rfl, by decide⟩
  case cib1 => exact clo_none rfl
  repeat k_extra "n"
  rename_i hat3
  refine k_pyIterB (fun I s₄ hk₄ hI hi₄ => ?_)
  have hfI := hat3.fresh hI
  have hat4 := hat3.kept hk₄
  refine CompFrom.mk1 (n := r.length) hat4 (Itr.bytes hr'.handled I r t) hi₄ hfI (by lia) (fun C => ⟨_, rfl, rfl, .nil⟩) ?_ ?_
  · rintro C cenv ec hcf hcc i v ys lc N hb s₃ E₃ hi ⟨c, tv, hv, rfl⟩ ⟨u, rfl, rfl, hys⟩ a₃ k0 kI kk
    refine wpAny_assign_Name ?_
    repeat k_extra "n"
    refine te_nil ?_
    repeat k_extra "n"
    have hc16 : c.toNat < 256 := c.toNat_lt
    refine n_div (x := c.toNat) (y := 16) rfl rfl (by decide) (by decide) (fun t7 s7 hk7 => ?_)
    have a₇ := At.kept (by assumption) hk7
    refine k_subS (p := c.toNat / 16) rfl (hexC_get (by lia)) (by lia) rfl (fun _ => rfl) (fun t8 s8 hk8 => ?_)
    have a₈ := a₇.kept hk8
    repeat k_extra "n"
    refine n_mod (x := c.toNat) (y := 16) rfl rfl (by decide) (fun t9 s9 hk9 => ?_)
    have a₉ := At.kept (by assumption) hk9
    refine k_subS (p := c.toNat % 16) rfl (hexC_get (by lia)) (by lia) rfl (fun _ => rfl) (fun t10 s10 hk10 => ?_)
    have a10 := a₉.kept hk10
    repeat k_extra "n"
    refine k_addS (show 1 + 1 ≤ 4096 by decide) (fun t11 s11 hk11 => ?_)
    refine ⟨_, _, ⟨_, rfl, rfl, ?_⟩, a10.kept hk11⟩
    have hv' : r[i]? = some c := hv
    rw [List.take_add_one, hv', List.map_append]
    exact StrsAre.snoc' hys _ _
  · rintro C D ys lc N s' ⟨u, rfl, rfl, hys⟩ hD a₅ _
    repeat k_extra "n"
    rw [List.take_length] at hys
    have hlen : ∀ l : List UInt8, ((l.map figO).map (·.length)).sum = 2 * l.length := by
      intro l
      induction l with
      | nil => rfl
      | cons a l ih => rw [List.map_cons, List.map_cons, List.sum_cons, ih, List.length_cons]; show 2 + _ = _; lia
    refine k_join (a₅.cell (b := D) List.mem_cons_self).isList hys (by decide) (by rw [hlen, List.length_map]; lia) (fun t6 s6 hk6 => ?_)
    have a6 := a₅.kept hk6
    repeat k_extra "n"
    exact hQ _ _ (KeepsBut.to (a6.keepsBut (as := []) (fun b o _ e => hk b o (fun m => nomatch m) e)))

section
variable {w : World} {A : Around} {E : Value → Shared → Prop} {s s₀ s₂ : Shared} {env : Env} {names : List (Str × NameKind)} {L : Addr} {h₀ hb : Heap} {l : List (Str × Option Value)} {W : List (Addr × Cell)}
theorem lb_len : typeLookup (.type "bytes") "__len__" = pure (some (.builtin "bytes.__len__")) := by rw [typeLookup_type, builtinLookup_eq_fast]; kernel_rfl

theorem lb_extend {R : Result → Shared → Prop} (hh : A.handled = none) (x : List UInt8) (t : Tok) (S : Addr) (res : Value) (c₀ : Nat) (hS : s.heap.get? S = some { cls := .type "list", data := .seq #[] c₀ })
    (hR : ∀ h' tk acc' c', (∀ b o, b ≠ S → s.heap.get? b = some o → h'.get? b = some o) → h'.get? S = some { cls := .type "list", dict := none, data := .seq acc' c', slots := #[] } →
      ItemsOf (fun (i : Nat) (v : Value) => ∃ (c : UInt8) (t : Tok), x.toArray[i]? = some c ∧ v = Value.int (c.toNat : Int) t) acc' x.length → R (.ok (.ret res)) { s with heap := h', toks := tk }) (hn : x.length ≤ 4096) :
    wpAny (model P w) A.in1 (Builtin.List.listExtendWith (.ref S) (.bytes x.toArray t) res)
      (fun fin s' => match fin with | .done f => R (.ok f) s' | .again c' => c'.quiet = true ∧ codeAny (model P w) A c' R s') (fun e s' => R (.error e) s') s := by
  have hSI : S ≠ s.heap.objs.size := Nat.ne_of_lt (Heap.lt_size hS)
  have hSf : S ∉ [s.heap.objs.size] := fun hm => hSI (List.mem_singleton.mp hm)
  unfold Builtin.List.listExtendWith
  refine wpAny_bind (wpAny_typeOf (typeIs_bytes _ _ _) ?_)
  have h1 : Builtin.List.listSameRef (.ref S) (.bytes x.toArray t) = false := rfl
  have h2 : (Value.type "bytes" == Value.type "list") = false := by decide
  have h3 : (Value.type "bytes" == Value.type "tuple") = false := by decide
  simp only [h1, h2, h3, Bool.or_false, Bool.false_eq_true, if_false]
  refine wpAny_bind (KBw.pyIter_bytes ?_)
  refine wpAny_bind (wpAny_holding ?_)
  unfold Builtin.List.listLengthHint
  refine wpAny_bind (wpAny_specialOf (typeIs_bytes _ _ _) lb_len ?_)
  wp_delta
  refine wpAny_bind (wpAny_isInstance (b := true) (typeIs_bytes _ _ _) (by rw [isSubtype_type]; kernel_rfl) ?_)
  show wpAny _ _ (typeOf (Value.bytes x.toArray t) >>= _) _ _ _
  refine wpAny_bind (wpAny_typeOf (typeIs_bytes _ _ _) ?_)
  refine wpAny_pure ?_
  rw [if_neg (by decide)]
  have Wk := KBw.walks (prog := P) (w := w) (A := A.in1) hh s.heap.objs.size x.toArray t
  have hst : KBw.IsBytesIter (s.heap.push { cls := .type "bytes_iterator", data := .fields #[.bytes x.toArray t, .int 0 0] }) s.heap.objs.size x.toArray t 0 := ⟨_, Heap.get?_push_size _ rfl, rfl, rfl⟩
  refine wpAny_pure ⟨plainId_quiet F.plain_extend_loop _, codeAny_extend_loopS Wk.toS (by simp; exact Nat.le_trans hn line4096) _ hSf _ x.toArray.size 0 _ _ _ rfl (Nat.zero_le _) hst (Heap.get?_push_of_some _ hS) (ItemsOf.nil _) fun s' acc' c' hm hS' hacc => ?_⟩
  rw [Moved.eq_with hm]
  refine hR s'.heap s'.toks acc' c' (fun b ob hb e => hm.heap b ob (fun hmem => ?_) (Heap.get?_push_of_some _ e)) hS' (by simpa using hacc)
  rcases List.mem_cons.mp hmem with e' | hmem
  · exact hb e'
  · exact absurd (Heap.lt_size e) (by rw [List.mem_singleton.mp hmem]; exact Nat.lt_irrefl _)

theorem lb_init {R : Result → Shared → Prop} (hh : A.handled = none) (x : List UInt8) (t : Tok) (S : Addr) (hS : s.heap.get? S = some { cls := .type "list", data := .seq #[] })
    (hR : ∀ h' tk acc' c', (∀ b o, b ≠ S → s.heap.get? b = some o → h'.get? b = some o) → h'.get? S = some { cls := .type "list", dict := none, data := .seq acc' c', slots := #[] } →
      ItemsOf (fun (i : Nat) (v : Value) => ∃ (c : UInt8) (t : Tok), x.toArray[i]? = some c ∧ v = Value.int (c.toNat : Int) t) acc' x.length → R (.ok (.ret .none)) { s with heap := h', toks := tk }) (hn : x.length ≤ 4096) :
    wpAny (model P w) A.in1 (Builtin.«list.__init__» ⟨[.ref S, .bytes x.toArray t], []⟩)
      (fun fin s' => match fin with | .done f => R (.ok f) s' | .again c' => c'.quiet = true ∧ codeAny (model P w) A c' R s') (fun e s' => R (.error e) s') s := by
  show wpAny _ _ (do let old ← Builtin.List.listItems (.ref S); Builtin.List.listUpdate (.ref S) (fun _ => #[]); letGo old.toList.reverse; Builtin.List.listExtendWith (.ref S) (.bytes x.toArray t) .none) _ _ s
  refine wpAny_bind ?_
  unfold Builtin.List.listItems
  refine wpAny_bind (wpAny_seqItems hS rfl (wpAny_pure ?_))
  show wpAny _ _ (updateSeq S (fun _ => #[]) >>= fun _ => letGo (#[] : Array Value).toList.reverse >>= fun _ => Builtin.List.listExtendWith (.ref S) (.bytes x.toArray t) .none) _ _ s
  refine wpAny_bind (wpAny_updateSeq hS rfl ?_)
  have hS₂ := Heap.get?_update_self (Obj.mapSeq (fun _ => (#[] : Array Value))) hS rfl
  have oth : ∀ b o, b ≠ S → s.heap.get? b = some o → (s.heap.update S (Obj.mapSeq (fun _ => (#[] : Array Value)))).get? b = some o :=
    fun b o hb e => (Heap.get?_update_other _ _ (Ne.symm hb)).trans e
  refine wpAny_bind (wpAny_letGo ?_)
  refine lb_extend (hn := hn) hh x t S .none _ hS₂ fun h' tk acc' c' hk hS' hacc => ?_
  exact hR h' tk acc' c' (fun b o hb e => hk b o hb (oth b o hb e)) hS' hacc

/-- list(bytes) -/
theorem k_listB {x : List UInt8} {t : Tok} {Q : Value → Shared → Prop} (hh : A.handled = none) (hn : x.length ≤ 4096)
    (hQ : ∀ D vs s', Keeps s s' → s.heap.get? D = none → s'.heap.PlainList D vs.toArray → IntsAre vs (x.map fun c => (c.toNat : Int)) → Q (.ref D) s') : wpAny (model P w) A (call (.type "list") [.bytes x.toArray t]) Q E s := by
  refine callType_codes (Q₁ := fun obj s₁ => obj = .ref s.heap.objs.size ∧ s₁ = { s with heap := s.heap.push { cls := .type "list", data := .seq #[] } }) F.called_list (F.typeCall_list_1 _) F.entry_list_init
    (code_list_new _ ⟨rfl, rfl⟩) fun obj s₁ h₁ => ?_
  obtain ⟨rfl, rfl⟩ := h₁
  have hS : (s.heap.push { cls := .type "list", data := .seq #[] }).get? s.heap.objs.size = some { cls := .type "list", data := .seq #[] } := Heap.get?_push_size _ rfl
  refine ⟨⟨_, hS, rfl⟩, F.args_list_init_2 _ _, lb_init (A := A.in1) (hn := hn) hh x t _ hS fun h' tk acc' c' hk hS' hacc => ?_⟩
  refine ⟨rfl, hQ _ acc'.toList _ ⟨h', tk, rfl, fun b o e => hk b o (Nat.ne_of_lt (Heap.lt_size e)) (Heap.get?_push_of_some _ e)⟩ (get?_size_none _) ⟨c', by simpa using hS'⟩ ?_⟩
  obtain ⟨hz, hi⟩ := hacc
  have gen : ∀ (vs : List Value) (xs : List UInt8), vs.length = xs.length → (∀ (j : Nat) (v : Value), vs[j]? = some v → ∃ (c : UInt8) (t : Tok), xs[j]? = some c ∧ v = Value.int (c.toNat : Int) t) → IntsAre vs (xs.map fun c => (c.toNat : Int)) := by
    intro vs
    induction vs with
    | nil => intro xs h _; cases xs with | nil => exact .nil | cons _ _ => simp at h
    | cons v vs ih =>
      intro xs h hv
      cases xs with
      | nil => simp at h
      | cons c xs =>
        obtain ⟨c', t', h1, rfl⟩ := hv 0 v rfl
        have : c' = c := by simpa using h1.symm
        subst this
        exact .cons _ _ (ih xs (by simpa using h) fun j u hj => hv (j + 1) u hj)
  refine gen _ _ (by simpa using hz) fun j v hj => ?_
  obtain ⟨c, tt, h1, h2⟩ := hi j v (by simpa using hj)
  exact ⟨c, tt, by simpa using h1, h2⟩
end

section
variable {w : World} {A : Around} {E : Value → Shared → Prop} {s s₀ s₂ : Shared} {env : Env} {names : List (Str × NameKind)} {L : Addr} {h₀ hb : Heap} {l : List (Str × Option Value)} {W : List (Addr × Cell)}

theorem pt_none {M : Model} {Q : Value → Shared → Prop} (h : Q .none s) : wpAny M A (evalPart none env) Q E s := wpAny_pure h
theorem pt_some {M : Model} {e : Expr} {Q : Value → Shared → Prop} (h : wpAny M A (eval e env) Q E s) : wpAny M A (evalPart (some e) env) Q E s := h
noncomputable def sliceObj (a b c : Value) : Obj := { cls := .type "slice", data := .fields #[a, b, c] }
theorem x_slice {M : Model} {lower upper step : Option Expr} {p : Pos} {Q : Value → Shared → Prop}
    (h : wpAny M A (evalPart lower env) (fun l s₁ => wpAny M A (evalPart upper env) (fun u s₂ => wpAny M A (evalPart step env) (fun st s₃ =>
      ∀ S s', Keeps s₃ s' → s₃.heap.get? S = none → s'.heap.get? S = some (sliceObj l u st) → Q (.ref S) s') E s₂) E s₁) E s) :
    wpAny M A (eval (.Slice lower upper step p) env) Q E s :=
  wpAny_Slice (wpAny_mono h (fun _ _ h => wpAny_mono h (fun _ _ h => wpAny_mono h (fun _ s₃ h => h _ _ (keeps_push s₃ _ s₃.toks) (get?_size_none _) (Heap.get?_push_size _ rfl)) fun _ _ e => e) fun _ _ e => e) fun _ _ e => e)

theorem k_sliceL {value slice : Expr} {b S : Addr} {xs : List Value} {vl vu vk : Value} {lo hi st : Option Int} {ops : List Value} {Q : Value → Shared → Prop} (hl : s.heap.IsList b xs.toArray) (hS : s.heap.get? S = some (sliceObj vl vu vk))
    (pl : IsPart vl lo) (pu : IsPart vu hi) (pk : IsPart vk st) (h0 : st ≠ some 0) (hz : xs.length ≤ 4096)
    (hs : subscripted slice false (.ref b) (.ref S) = operate ops (getItem (.ref b) (.ref S)))
    (h : ∀ D s', Keeps s s' → s.heap.get? D = none → s'.heap.PlainList D (slicePick xs.toArray lo hi st) → Q (.ref D) s') :
    wpAny (model P w) A (subscriptTail value slice (.ref b) (.ref S)) Q E s := by
  refine kba_turn (value' := .Name (Str.ofString "_") ⟨0, 0, 0, 0⟩) (fun _ => rfl) ?_
  refine subscriptTail_ops hl.typeIs list_getitem_lookup (wpAny_getItem_list_slice hl ⟨_, hS, rfl, rfl⟩ pl pu pk h0 ?_ (by simp; exact Nat.le_trans hz line4096)) hs (fun _ => rfl)
  exact h _ _ (keeps_push s _ s.toks) (get?_size_none _) ⟨0, Heap.get?_push_size _ rfl⟩

theorem k_sliceB {value slice : Expr} {b : List UInt8} {t : Tok} {S : Addr} {vl vu : Value} {lo hi : Option Int} {ops : List Value} {Q : Value → Shared → Prop} (hS : s.heap.get? S = some (sliceObj vl vu .none))
    (pl : IsPart vl lo) (pu : IsPart vu hi) (hz : b.length ≤ 4096)
    (hs : subscripted slice false (.bytes b.toArray t) (.ref S) = operate ops (getItem (.bytes b.toArray t) (.ref S))) (ht : ∀ r, letTemporaryGo value (.bytes b.toArray t) r = pure ())
    (h : ∀ t s', Keeps s s' → Q (.bytes ((b.drop (lo.elim 0 (clipAt b.length))).take (hi.elim b.length (clipAt b.length) - lo.elim 0 (clipAt b.length))).toArray t) s') :
    wpAny (model P w) A (subscriptTail value slice (.bytes b.toArray t) (.ref S)) Q E s := by
  refine tail_of_ItemOn ⟨"bytes", _, FB.slot_bytes_getitem.lookup, typeIs_bytes _ _ _, getItem_meets (typeIs_bytes _ _ _) (by decide) FB.slot_bytes_getitem FB.entry_bytes_getitem (FB.args_bytes_getitem_2 _ _) (KBc.meets_slice2 b.toArray t _ pl pu)
    ⟨⟨_, hS, rfl, rfl⟩, Nat.le_trans (KBc.size_picked_le _ lo hi) (by simp; exact Nat.le_trans hz line4096), fun t' k => ?_⟩⟩ hs ht
  rw [KBc.picked_eq]
  exact h t' _ (keeps_tok s k)

theorem k_sum {b : Addr} {vs : List Value} {ns : List Int} {Q : Value → Shared → Prop} (hh : A.handled = none) (hl : s.heap.IsList b vs.toArray) (hi : IntsAre vs ns) (hfit : PySem.SumFits ns) (h : ∀ t s', Keeps s s' → Q (.int ns.sum t) s') :
    wpAny (model P w) A (call (.builtin "sum") [.ref b]) Q E s := by
  refine call_sum_walk (wpAny_pyIter_list hl ?_)
  have hbI : b ≠ s.heap.objs.size := by
    obtain ⟨o, ho, _⟩ := hl
    exact Nat.ne_of_lt (Heap.lt_size ho)
  have keep : ∀ c o, s.heap.get? c = some o → (s.heap.push { cls := .type "list_iterator", data := .fields #[.ref b, .int 0 0] }).get? c = some o := fun c o e => Heap.get?_push_of_some _ e
  refine ⟨s.heap.objs.size, _, _, _, _, _, fun i => ns.getD i 0, rfl, Walks.list (A := A.in1) hh s.heap.objs.size b hbI vs.toArray, ⟨⟨_, Heap.get?_push_size _ rfl, rfl, rfl⟩, hl.at fun o e => keep _ _ e⟩, ?_, ?_, ?_, ?_⟩
  · intro c hc
    rw [Heap.size_push]
    rcases List.mem_cons.mp hc with rfl | hc
    · exact Nat.lt_succ_self _
    · cases List.mem_singleton.mp hc
      obtain ⟨o, ho, _⟩ := hl
      exact Nat.lt_succ_of_lt (Heap.lt_size ho)
  · intro i v hv
    have hv' : vs[i]? = some v := by simpa using hv
    have gen : ∀ {vs : List Value} {ns : List Int} (hi : IntsAre vs ns) (i : Nat) (v : Value), vs[i]? = some v → ∃ t, v = .int (ns.getD i 0) t := by
      intro vs ns hi
      induction hi with
      | nil => intro i v h; simp at h
      | cons n t _ ih =>
        intro i v h
        cases i with
        | zero => exact ⟨t, by simpa using h.symm⟩
        | succ i => obtain ⟨t', e⟩ := ih i v (by simpa using h); exact ⟨t', by simpa using e⟩
    exact gen hi i v hv'
  · intro j hj
    have hj' : j < ns.length := by rw [← hi.length]; simpa using hj
    have := hfit j hj'
    rw [preSum_getD]
    exact this
  · intro h' tk t' hk
    rw [preSum_getD, show vs.toArray.size = ns.length by rw [← hi.length]; simp, List.take_length]
    refine h t' _ ⟨h', tk, rfl, fun c o e => hk c o (fun m => ?_) (keep c o e)⟩
    have := List.mem_singleton.mp m
    rw [this, get?_size_none] at e; cases e

theorem k_mul {a b : Int} {t u : Tok} {Q : Value → Shared → Prop} (hm : IntMulOk a b) (h : ∀ t s', Keeps s s' → Q (.int (a * b) t) s') : wpAny (model P w) A (binaryOp .Mult (.int a t) (.int b u)) Q E s :=
  PyProof.Rows.mul_int (h _ _ (keeps_tok s _)) hm

theorem k_lenBy {b : List UInt8} {t : Tok} {Q : Value → Shared → Prop} (hz : b.length ≤ 4096) (h : ∀ t s', Keeps s s' → Q (.int (b.length : Nat) t) s') : wpAny (model P w) A (call (.builtin "len") [.bytes b.toArray t]) Q E s := by
  exact len_bytes (by simp; lia) (h (s.toks + 1) _ (keeps_tok s (s.toks + 1 + 1)))

noncomputable def repS (x : Str) (n : Nat) : Str := ⟨(List.replicate n x.cps).foldl (· ++ ·) #[]⟩
theorem k_mulS {x : Str} {n : Nat} {k : Int} {t u : Tok} {Q : Value → Shared → Prop} (hk : k = (n : Int)) (hn : n ≤ 64) (hx : x.cps.size = 1) (h : ∀ t s', Keeps s s' → Q (.str (repS x n) t) s') : wpAny (model P w) A (binaryOp .Mult (.str x t) (.int k u)) Q E s := by
  subst hk
  have hl : x.length = 1 := hx
  refine P.mul_str ?_ (fun _ _ => ?_) (fun _ _ => ?_) ?_
  · have h1 : ¬ ((n : Int) < -(2 ^ 63 : Int)) := by lia
    have h2 : ¬ ((n : Int) ≥ 2 ^ 63) := by lia
    rw [decide_eq_false h1, decide_eq_false h2]; rfl
  · rw [hl]
    have h1 : (1 : Int) ≤ (n : Int) := by lia
    have h2 : (1 : Int) ≤ (2 ^ 63 - 1) / n := (Int.le_ediv_iff_mul_le (by lia)).mpr (by lia)
    lia
  · rw [hl]
    have := line4096
    have h2 : ¬ (1 * (n : Int).toNat > sizeLine) := by lia
    exact decide_eq_false h2
  · split
    · have h0 : n = 0 := by lia
      subst h0
      exact ⟨by decide, h _ _ (keeps_tok s _)⟩
    · split
      · rename_i h1 h2
        have h0 : n = 1 := by
          rw [hl] at h2
          have h3 : (n : Int) = 1 := by simpa using h2
          lia
        subst h0
        have e : repS x 1 = x := by unfold repS; simp
        rw [e] at h
        exact h _ _ (keeps_tok s s.toks)
      · refine ⟨?_, h _ _ (keeps_tok s _)⟩
        have gen : ∀ (k : Nat) (acc : Array Nat), ((List.replicate k x.cps).foldl (· ++ ·) acc).size = acc.size + k := by
          intro k
          induction k with
          | zero => intro acc; simp
          | succ k ih => intro acc; rw [List.replicate_succ, List.foldl_cons, ih, Array.size_append, hx]; lia
        show ((List.replicate (n : Int).toNat x.cps).foldl (· ++ ·) #[]).size ≤ sizeLine
        rw [gen]
        have := line4096
        simp; lia
end

section
variable {w : World} {A : Around} {E : Value → Shared → Prop} {s s₀ s₂ : Shared} {env : Env} {names : List (Str × NameKind)} {L : Addr} {h₀ hb : Heap} {l : List (Str × Option Value)} {W : List (Addr × Cell)}

noncomputable def tupObj (vs : List Value) : Obj := { cls := .type "tuple", data := .seq vs.toArray }
theorem tup_is {h : Heap} {a : Addr} {vs : List Value} (e : h.get? a = some (tupObj vs)) : IsTup h a vs.toArray := ⟨_, e, rfl, 0, rfl⟩

theorem x_tuple {M : Model} {elts : List Expr} {k : Nat} {pos : Pos} {Q : Value → Shared → Prop} (h : wpAny M A (spliced (backTo pos (starEach elts env))) (fun vs s₁ => vs.length ≤ 4096 ∧ ∀ T s', Keeps s₁ s' → s₁.heap.get? T = none → s'.heap.get? T = some (tupObj vs) → Q (.ref T) s') E s) :
    wpAny M A (eval (.Tuple elts k pos) env) Q E s :=
  wpAny_Tuple (wpAny_mono h (fun vs s₁ hq => ⟨Nat.le_trans hq.1 line4096, hq.2 _ _ (keeps_push s₁ _ s₁.toks) (get?_size_none _) (Heap.get?_push_size _ rfl)⟩) fun _ _ e => e)

theorem keeps_extBut {s : Shared} {h' : Heap} (he : Heap.ExtBut s.heap.objs.size s.heap h') : Keeps s { s with heap := h' } :=
  ⟨h', s.toks, rfl, fun b o e => he b o (Nat.ne_of_lt (Heap.lt_size e)) e⟩

theorem as_tuple {elts : List Expr} {k : Nat} {pos : Pos} {t : Addr} {vs : List Value} {Q : Unit → Shared → Prop} (hh : A.handled = none) (ht : IsTup s.heap t vs.toArray)
    (hn : (assignEach elts env).length = vs.length) (hstar : (assignEach elts env).findIdx? (·.1) = none)
    (h : ∀ s', Keeps s s' → wpAny (model P w) A (assignInOrder ((assignEach elts env).map (·.2)) vs) Q E s') : wpAny (model P w) A (assign (.Tuple elts k pos) env (.ref t)) Q E s :=
  assign_Tuple_tuple hh ht (by simpa using hn) hstar fun h' he => h _ (keeps_extBut he)

theorem ao_nil {M : Model} {xs : List Value} {Q : Unit → Shared → Prop} (h : Q () s) : wpAny M A (assignInOrder [] xs) Q E s := assignInOrder_nil h
theorem ao_cons {M : Model} {t : Value → Sem Unit} {ts : List (Value → Sem Unit)} {x : Value} {xs : List Value} {Q : Unit → Shared → Prop}
    (h : wpAny M A (t x) (fun _ s₁ => wpAny M A (assignInOrder ts xs) Q E s₁) E s) : wpAny M A (assignInOrder (t :: ts) (x :: xs)) Q E s := assignInOrder_cons h
theorem ao_bind {M : Model} {x : Str} {v : Value} {Q : Unit → Shared → Prop} (h : wpAny M A (storeName env x v) Q E s) : wpAny M A (bindName env x v) Q E s := bindName_ h

theorem x_assignT {elts : List Expr} {k : Nat} {tpos pos : Pos} {value : Expr} {Q : Flow → Shared → Prop}
    (hs : swapsWithSole [.Tuple elts k tpos] value pos.line env = pure false) (hw : swappedStores [.Tuple elts k tpos] value env = pure none)
    (h : wpAny (model P w) A (eval value env) (fun v s₁ => wpAny (model P w) A (assign (.Tuple elts k tpos) env v) (fun _ => Q .next) E s₁) E s) :
    wpAny (model P w) A (exec (.Assign [.Tuple elts k tpos] value pos) env) Q E s := Assign_Tuple h hs hw

theorem x_assignSw {elts : List Expr} {k : Nat} {tpos pos : Pos} {value : Expr} {nms : List Str} {Q : Flow → Shared → Prop} (hh : A.handled = none)
    (hs : swapsWithSole [.Tuple elts k tpos] value pos.line env = pure false) (hw : swappedStores [.Tuple elts k tpos] value env = pure (some nms))
    (h : wpAny (model P w) A (eval value env) (fun v s₁ => ∃ t vs, v = .ref t ∧ s₁.heap.get? t = some (tupObj vs) ∧ vs.length = nms.length ∧ ∀ s', Keeps s₁ s' → wpAny (model P w) A (assignInOrder (nms.reverse.map fun n => bindName env n) vs.reverse) (fun _ => Q .next) E s') E s) :
    wpAny (model P w) A (exec (.Assign [.Tuple elts k tpos] value pos) env) Q E s := by
  refine Assign_Tuple_swapped (names := nms) (wpAny_mono h (fun v s₁ h₁ => ?_) fun _ _ e => e) hs hw
  obtain ⟨t, vs, rfl, ht, hl, h₁⟩ := h₁
  rw [← hl, show vs.length = vs.toArray.size by simp]
  exact unpackItems_tuple hh (tup_is ht) fun h' he => h₁ _ (keeps_extBut he)

/-- which stores of a tuple display are swapped -/
theorem EnvIs.blockKind (e : EnvIs env names L) : env.blockKind = .function := by
  unfold Env.blockKind; rw [e.kind]; rfl
theorem k_range3 {a b c : Int} {t u v : Tok} {Q : Value → Shared → Prop} (hc : c ≠ 0) (hc2 : c.natAbs < 1073741824) (h : ∀ r s', Keeps s s' → s.heap.get? r = none → IsRange s'.heap r a b c t u v → Q (.ref r) s') : wpAny (model P w) A (call (.type "range") [.int a t, .int b u, .int c v]) Q E s :=
  call_range_3 hc (h _ _ (keeps_push s _ s.toks) (get?_size_none _) (Heap.get?_push_size _ rfl)) (Or.inl (PyProof.noPylong_small hc2))
noncomputable def envOf (names : List (Str × NameKind)) : Env := { scope := { kind := .function, names := names, isGenerator := false, isCoroutine := false }, locals := 0, globals := 0, cells := [], qual := Str.ofString "", func := none, code := .none, frame := none, builtins := 0 }
theorem envOf_is (names : List (Str × NameKind)) (x : Str) : (envOf names).kindOf x = names.lookup x := rfl
theorem envOf_kind (names : List (Str × NameKind)) : (envOf names).blockKind = .function := rfl
theorem swapped_env (e : EnvIs env names L) (ts : List Expr) (v : Expr) : swappedStores ts v env = swappedStores ts v (envOf names) := by
  have h1 : env.kindOf = (envOf names).kindOf := funext e.kindOf
  have h2 : env.blockKind = (envOf names).blockKind := e.blockKind
  unfold swappedStores
  rw [h1, h2]
theorem swaps_env (e : EnvIs env names L) (v : Expr) (t : Option Expr) (n : Nat) : swapsWith v t n env = swapsWith v t n (envOf names) := by
  have h1 : env.kindOf = (envOf names).kindOf := funext e.kindOf
  have h2 : env.blockKind = (envOf names).blockKind := e.blockKind
  have h3 : env.scope.kind = (envOf names).scope.kind := e.kind
  unfold swapsWith
  rw [h1, h2, h3]
theorem CellAt.isListL {h : Heap} {a : Addr} {xs : List Value} (c : CellAt h a (Cell.list xs)) : h.IsList a xs.toArray := Heap.PlainList.isList c
theorem x_un {M : Model} {op : UnaryOp} {x : Expr} {pos : Pos} {Q : Value → Shared → Prop} (h : wpAny M A (eval x env) (fun v s₁ => wpAny M A (unaryOp op v) Q E s₁) E s) : wpAny M A (eval (.UnaryOp op x pos) env) Q E s := UnaryOp_ h
theorem k_negI {a : Int} {t : Tok} {Q : Value → Shared → Prop} (h : ∀ t s', Keeps s s' → Q (.int (-a) t) s') : wpAny (model P w) A (unaryOp .USub (.int a t)) Q E s := PyProof.Rows.neg_int (h _ _ (keeps_tok s _))
end

noncomputable def S62 : Str := Str.ofString "ABCDEFGHIJKLMNOPQRSTUVWXYZabcdefghijklmnopqrstuvwxyz0123456789"
noncomputable def S64 : Str := S62 ++ Str.ofString "+/"
noncomputable def S64C (n : Nat) : Nat := S64.cps.getD n 0
theorem S64C_get {n : Nat} (h : n < 64) : S64.cps[n]? = some (S64C n) := by
  have hz : S64.cps.size = 64 := by decide +kernel
  unfold S64C
  rw [Array.getD_eq_getD_getElem?, Array.getElem?_eq_getElem (by lia)]; rfl
noncomputable def numTerms (r : List UInt8) : List Nat := (List.range r.length).map fun j => (r.getD j 0).toNat * 256 ^ (2 - j)
noncomputable def numW (r : List UInt8) : Nat := (numTerms r).sum
noncomputable def sixes (r : List UInt8) : List Str := (List.range (r.length + 1)).map fun i => ⟨#[S64C (numW r / 64 ^ (3 - i) % 64)]⟩
noncomputable def lawB (r : List UInt8) : Str := if r = [] then Str.ofString "" else Str.ofString "" ++ Txt.join (Str.ofString "") (sixes r) ++ repS (Str.ofString "=") (3 - r.length)

theorem join_size (sep : Str) (hs : sep.cps.size = 0) (ys : List Str) : (Txt.join sep ys).cps.size = (ys.map (·.cps.size)).sum := by
  have gen : ∀ (l : List Str) (a : Array Nat), (l.foldl (fun acc p => acc ++ sep.cps ++ p.cps) a).size = a.size + (l.map (·.cps.size)).sum := by
    intro l
    induction l with
    | nil => intro a; simp
    | cons x l ih => intro a; rw [List.foldl_cons, ih, Array.size_append, Array.size_append, hs, List.map_cons, List.sum_cons]; lia
  show ((ys.drop 1).foldl (fun acc p => acc ++ sep.cps ++ p.cps) (ys.headD Str.empty).cps).size = _
  cases ys with
  | nil => rfl
  | cons x r => rw [gen]; simp
theorem sixes_size (r : List UInt8) : ((sixes r).map (·.cps.size)).sum = r.length + 1 := by
  unfold sixes
  rw [List.map_map]
  have : ((fun s : Str => s.cps.size) ∘ fun i => (⟨#[S64C (numW r / 64 ^ (3 - i) % 64)]⟩ : Str)) = fun _ => 1 := by funext i; rfl
  rw [this]
  induction r.length + 1 with
  | zero => rfl
  | succ n ih => rw [List.range_succ, List.map_append, List.sum_append, ih]; rfl
theorem ints_at {vs : List Value} {ns : List Int} (hi : IntsAre vs ns) : ∀ i, i < ns.length → ∃ t, vs[i]? = some (.int (ns.getD i 0) t) := by
  induction hi with
  | nil => intro i h; cases h
  | cons n t _ ih =>
    intro i h
    cases i with
    | zero => exact ⟨t, rfl⟩
    | succ i => exact ih i (by simpa using h)
theorem cast_sum (l : List Nat) : (l.map fun n : Nat => (n : Int)).sum = ((l.sum : Nat) : Int) := by
  induction l with
  | nil => rfl
  | cons a l ih => rw [List.map_cons, List.sum_cons, ih, List.sum_cons]; lia

theorem repS_size (x : Str) (hx : x.cps.size = 1) (n : Nat) : (repS x n).cps.size = n := by
  have gen : ∀ (k : Nat) (acc : Array Nat), ((List.replicate k x.cps).foldl (· ++ ·) acc).size = acc.size + k := by
    intro k
    induction k with
    | zero => intro acc; simp
    | succ k ih => intro acc; rw [List.replicate_succ, List.foldl_cons, ih, Array.size_append, hx]; lia
  show ((List.replicate n x.cps).foldl (· ++ ·) #[]).size = n
  rw [gen]; simp
theorem size_app (x y : Str) : (x ++ y).cps.size = x.cps.size + y.cps.size := by
  show (x.cps ++ y.cps).size = _
  rw [Array.size_append]
theorem fits_two (r : List UInt8) (h : r.length ≤ 2) : PySem.SumFits ((numTerms r).map fun n : Nat => (n : Int)) := by
  match r, h with
  | [], _ => intro j hj; simp [numTerms] at hj
  | [a], _ =>
    have ha := a.toNat_lt
    intro j hj
    have hj0 : j = 0 := by simp [numTerms] at hj; lia
    subst hj0
    simp [numTerms, PySem.InLong, List.range_succ]
    lia
  | [a, b], _ =>
    have ha := a.toNat_lt
    have hb := b.toNat_lt
    intro j hj
    have hj0 : j = 0 ∨ j = 1 := by simp [numTerms] at hj; lia
    rcases hj0 with rfl | rfl <;> simp [numTerms, PySem.InLong, List.range_succ] <;> lia

theorem lawb64_spec {w : World} {A : Around} {s : Shared} {r : List UInt8} {t u : Tok} {Q E : Value → Shared → Prop}
   (hG : G w s.heap) (hr : Room A 4 60) (hn : r.length ≤ 2) (hQ : ∀ t s', Keeps s s' → Q (.str (lawB r) t) s') : wpAny (model P w) A (call (.ref 291) [.bytes r.toArray t, .str (Str.ofString "+/") u]) Q E s := by
  refine call_bodyC (d := 3) (u := 57) (binds := [("octets", .bytes r.toArray t), ("two", .str (Str.ofString "+/") u)]) (lb := [("octets", .bytes r.toArray t), ("two", .str (Str.ofString "+/") u)]) (cb := [])
    (l := [("octets", some (.bytes r.toArray t)), ("two", some (.str (Str.ofString "+/") u)), ("told", none), ("k", none)]) [] [Str.ofString "told", Str.ofString "k"] [("letters", none), ("row", none), ("number", none)]
    hG (fun _ _ e => e) (fun _ h => nomatch h) (fun _ h => nomatch h) (by simp) hr (by k_is) (by k_is) (BindsTo.of_eq rfl)
    (fun n => by intro y hy; simp only [List.mem_cons, List.not_mem_nil, or_false] at hy; rcases hy with rfl | rfl <;> exact .inl rfl) rfl rfl
    (fun n => by intro y hy; simp only [List.mem_cons, List.not_mem_nil, or_false] at hy; rcases hy with rfl | rfl | rfl <;> exact ⟨rfl, rfl⟩) (by decide) rfl (by simp; decide) (by decide) ?_
  intro env L h₀ s₁ A' ca co he hfr hA' hcs hat hg₀ hk hr'
  dsimp only at he
  have hat : At s h₀ L [("octets", some (.bytes r.toArray t)), ("two", some (.str (Str.ofString "+/") u)), ("told", none), ("k", none)] [(ca "letters", Cell.obj (co "letters")), (ca "row", Cell.obj (co "row")), (ca "number", Cell.obj (co "number"))] s₁ := hat
  have hc1 : env.cells.lookup (Str.ofString "letters") = some (ca "letters") := (hcs ("letters", none) (by simp)).1
  have hc2 : env.cells.lookup (Str.ofString "row") = some (ca "row") := (hcs ("row", none) (by simp)).1
  have hc3 : env.cells.lookup (Str.ofString "number") = some (ca "number") := (hcs ("number", none) (by simp)).1
  have hd1 : (co "letters").data = .cell none := (hcs ("letters", none) (by simp)).2.1
  have hd2 : (co "row").data = .cell none := (hcs ("row", none) (by simp)).2.1
  have hd3 : (co "number").data = .cell none := (hcs ("number", none) (by simp)).2.1
  generalize ca "letters" = c1 at hc1 hat
  generalize co "letters" = o1 at hd1 hat
  generalize ca "row" = c2 at hc2 hat
  generalize co "row" = o2 at hd2 hat
  generalize ca "number" = c3 at hc3 hat
  generalize co "number" = o3 at hd3 hat
  repeat k_extra "n"
  refine x_assignT ?cia1 ?cib1 ?_
  case cia1 => rfl
  case cib1 => rw [swapped_env he]; rfl
  refine x_tuple ?_
  repeat k_extra "n"
  refine k_addS (by decide +kernel) (fun t1 s2 hk2 => ?_)
  have hat2 := At.kept (by assumption) hk2
  repeat k_extra "n"
  rename_i hat3
  refine ⟨by simp, fun T s3 hk3 hT hT2 => ?_⟩
  have hat4 := hat3.kept hk3
  refine as_tuple hr'.handled (tup_is hT2) rfl rfl (fun s4 hk4 => ?_)
  have hat5 := hat4.kept hk4
  refine ao_cons ?_
  refine wpAny_assign_Name ?_
  refine st_cell he hat5 (by k_extra "m:in") hc1 (i := 0) rfl hd1 (fun o1' s5 hd1 hat6 => ?_)
  dsimp only [List.set_cons_zero] at hat6
  refine ao_cons ?_
  refine wpAny_assign_Name ?_
  repeat k_extra "n"
  refine ao_nil ?_
  repeat k_extra "n"
  refine wpAny_For ?_
  repeat k_extra "n"
  refine k_lenBy (by lia) (fun t2 s6 hk6 => ?_)
  have hat7 := At.kept (by assumption) hk6
  repeat k_extra "n"
  refine k_range3 (by decide) (by decide) (fun R s7 hk7 hR hRr => ?_)
  have hat8 := At.kept (by assumption) hk7
  have hlen3 : Builtin.Range.rangeSize 0 (r.length : Nat) 3 = ((if r = [] then 0 else 1 : Nat) : Int) := by
    obtain h | h | h : r.length = 0 ∨ r.length = 1 ∨ r.length = 2 := by lia
    · rw [h, if_pos (List.eq_nil_of_length_eq_zero h)]; decide
    · rw [h, if_neg (fun e => by rw [e] at h; cases h)]; decide
    · rw [h, if_neg (fun e => by rw [e] at h; cases h)]; decide
  refine k_pyIterR (n := if r = [] then 0 else 1) hRr ?_ hlen3 (fun I s8 hk8 hI hit => ?_)
  · obtain h | h | h : r.length = 0 ∨ r.length = 1 ∨ r.length = 2 := by lia
    all_goals (rw [h]; decide)
  have hfI := hat8.fresh hI
  have hat9 := hat8.kept hk8
  refine x_for (fun i l W => ∃ o1 o2 o3 td uk tt, l = ([("octets", some (.bytes r.toArray t)), ("two", some (.str (Str.ofString "+/") u)), ("told", some (.str td tt)), ("k", uk)] : List (Str × Option Value)) ∧ W = ([(c1, Cell.obj o1), (c2, Cell.obj o2), (c3, Cell.obj o3)] : List (Addr × Cell)) ∧
      (∃ tl, o1.data = .cell (some (.str S64 tl))) ∧ (∃ v2, o2.data = .cell v2) ∧ (∃ v3, o3.data = .cell v3) ∧ td = (if i = 0 then Str.ofString "" else lawB r)) hat9
    (Walks.range hr'.handled I 0 3 (if r = [] then 0 else 1)) hit (as := [c1, c2, c3]) (fun b hb => (List.mem_singleton.mp hb) ▸ hfI.2) (fun b hb => (List.mem_singleton.mp hb) ▸ hfI.1)
    ⟨_, _, _, _, _, _, rfl, rfl, ⟨_, hd1⟩, ⟨_, hd2⟩, ⟨_, hd3⟩, rfl⟩ rfl ?_ ?_
  · rintro i v l W h₁ s9 E9 hi ⟨tv, hv⟩ ⟨o1, o2, o3, td, uk, tt, rfl, rfl, ⟨tl, hd1⟩, ⟨v2, hd2⟩, ⟨v3, hd3⟩, rfl⟩ _ hk1 hat10
    have hrne : r ≠ [] := fun e => by rw [if_pos e] at hi; lia
    have hi0 : i = 0 := by rw [if_neg hrne] at hi; lia
    subst hi0
    obtain rfl : v = .int 0 tv := by simpa using hv
    have hg₁ := hg₀.keeps hk1
    rw [if_pos rfl] at hat10
    repeat k_extra "n"
    refine x_slice ?_
    refine pt_some ?_
    repeat k_extra "n"
    refine pt_some ?_
    repeat k_extra "n"
    refine pt_none ?_
    rename_i hat11
    intro S s11 hk11 hS hS2
    have hat12 := hat11.kept hk11
    refine k_sliceB hS2 (.int _ _) (.int _ _) (by lia) rfl (fun _ => rfl) (fun t12 s12 hk12 => ?_)
    have hat13 := hat12.kept hk12
    have e3 : (r.drop ((some (0 : Int)).elim 0 (clipAt r.length))).take ((some (((0 + 3 : Nat)) : Int)).elim r.length (clipAt r.length) - (some (0 : Int)).elim 0 (clipAt r.length)) = r := by
      have h1 : clipAt r.length (0 : Int) = 0 := by have := clipAt_nat r.length 0; simpa using this
      have h2 : clipAt r.length (((0 + 3 : Nat)) : Int) = r.length := by rw [clipAt_nat]; lia
      simp only [Option.elim_some, h1, h2, List.drop_zero, Nat.sub_zero, List.take_length]
    rw [e3]
    repeat k_extra "n"
    refine k_listB hr'.handled (by lia) (fun D vs s13 hk13 hD hlD hvs => ?_)
    have hfD := hat13.fresh hD
    have hat14 := (hat13.kept hk13).add (b := D) (xs := Cell.list vs) hlD hfD.1 hfD.2.1 hfD.2.2
    refine st_cell he hat14 (by k_extra "m:in") hc2 (i := 2) rfl hd2 (fun o2' s14 hd2 hat15 => ?_)
    dsimp only [List.set_cons_zero, List.set_cons_succ] at hat15
    have hvl : vs.length = r.length := by have := hvs.length; simpa using this
    repeat k_extra "n"
    refine x_comp (s₀ := s) (h₀ := h₁) (L := L) (names' := [(Str.ofString ".0", NameKind.local), (Str.ofString "j", NameKind.local), (Str.ofString "row", NameKind.cell)]) (ko := none) (l0 := [("j", none)]) (cl := [("row", c2)])
      (fun C i ys l N => ∃ u, l = ([("j", u)] : List (Str × Option Value)) ∧ N = [] ∧ NatsAre ys ((List.range i).map fun j => (r.getD j 0).toNat * 256 ^ (2 - j))) he ?cia2 ?cib2 ?_
    case cia2 => exact ⟨rfl, by decide, by decide, rfl, ko_none (by decide), lk_none (by simp), by decide⟩
    case cib2 => exact clo_one rfl hc2
    repeat k_extra "n"
    refine ld_cell he (by assumption) (by k_extra "m:in") hc2 (At.cell (c := Cell.obj o2') (by assumption) (by simp)) hd2 (by decide) ?_
    repeat k_extra "n"
    refine k_len (xs := vs) (CellAt.isListL (At.cell (b := D) (c := Cell.list vs) (by assumption) (by simp))) (by lia) (fun t16 s16 hk16 => ?_)
    have hat16 := At.kept (by assumption) hk16
    repeat k_extra "n"
    refine k_range1 (fun R2 t17 u17 v17 s17 hk17 hR2 hRr2 => ?_)
    have hat17 := hat16.kept hk17
    refine k_pyIterR (n := r.length) hRr2 ?_ ?_ (fun I2 s18 hk18 hI2 hit2 => ?_)
    · rw [hvl]
      obtain h | h | h : r.length = 0 ∨ r.length = 1 ∨ r.length = 2 := by lia
      all_goals (rw [h]; decide)
    · rw [hvl]
      obtain h | h | h : r.length = 0 ∨ r.length = 1 ∨ r.length = 2 := by lia
      all_goals (rw [h]; decide)
    have hfI2 := hat17.fresh hI2
    have hat18 := hat17.kept hk18
    refine CompFrom.mk1 (n := r.length) hat18 (Itr.range hr'.handled I2 0 1 r.length) hit2 hfI2 (by lia) (fun C => ⟨_, rfl, rfl, .nil⟩) ?_ ?_
    · rintro C cenv ec hcf hcc i v ys lc N hb s19 E19 hi2 ⟨tv2, hv2⟩ ⟨u2, rfl, rfl, hys⟩ a19 k0 kI kk
      obtain rfl : v = .int (i : Int) tv2 := by simpa using hv2
      have ccx : cenv.cells.lookup (Str.ofString "row") = some c2 := by rw [hcc]; rfl
      have hc2I : c2 ≠ I2 := fun z => hfI2.2.2 (by rw [z]; simp)
      have hDI : D ≠ I2 := fun z => hfI2.2.2 (by rw [z]; simp)
      have hc2b : hb.get? c2 = some o2' := kI c2 o2' hc2I (hat18.cell (c := Cell.obj o2') (by simp))
      have hDb : hb.PlainList D vs.toArray := by
        obtain ⟨nD, hoD⟩ := hat18.cell (b := D) (c := Cell.list vs) (by simp)
        exact ⟨nD, kI D _ hDI hoD⟩
      refine wpAny_assign_Name ?_
      repeat k_extra "n"
      refine te_nil ?_
      repeat k_extra "n"
      refine ld_cell ec (by assumption) (by k_extra "m:in") ccx (At.keepsN (by assumption) _ _ hc2b) hd2 (by decide) ?_
      repeat k_extra "n"
      obtain ⟨ti, hti⟩ := ints_at hvs i (by simpa using hi2)
      have eti : (r.map fun c => (c.toNat : Int)).getD i 0 = ((r.getD i 0).toNat : Nat) := by
        rw [List.getD_eq_getElem?_getD, List.getD_eq_getElem?_getD, List.getElem?_map, List.getElem?_eq_getElem hi2]; rfl
      rw [eti] at hti
      have hDl : ∀ {s' : Shared} {l' : List (Str × Option Value)} {W' : List (Addr × Cell)}, At s hb C l' W' s' → s'.heap.IsList D vs.toArray := fun a => by
        obtain ⟨nD, hoD⟩ := hDb
        exact CellAt.isListL (show CellAt _ D (Cell.list vs) from ⟨nD, a.keepsN _ _ hoD⟩)
      refine sub_list (p := i) (hDl (by assumption)) rfl hti (by lia) rfl ?_
      repeat k_extra "n"
      refine n_sub (x := 2) (y := i) rfl rfl (by lia) (fun t20 s20 hk20 => ?_)
      have a20 := At.kept (by assumption) hk20
      refine k_pow (by lia) (by lia) (by decide) (fun t21 s21 hk21 => ?_)
      have a21 := a20.kept hk21
      have ep : (256 : Int) ^ ((2 - i : Nat) : Int).toNat = ((256 ^ (2 - i) : Nat) : Int) := by rw [Int.toNat_natCast]; norm_cast
      rw [ep]
      have hi01 : i = 0 ∨ i = 1 := by lia
      refine k_mul (IntMulOk.of_right (by obtain rfl | rfl := hi01 <;> decide +kernel)) (fun t22 s22 hk22 => ?_)
      have a22 := a21.kept hk22
      rw [show (((r.getD i 0).toNat : Nat) : Int) * ((256 ^ (2 - i) : Nat) : Int) = (((r.getD i 0).toNat * 256 ^ (2 - i) : Nat) : Int) by norm_cast]
      refine ⟨_, _, ⟨_, rfl, rfl, ?_⟩, a22⟩
      rw [List.range_succ, List.map_append]
      exact hys.snoc _ _
    · rintro C D2 ys lc N s' ⟨u, rfl, rfl, hys⟩ hD2 a5 _
      repeat k_extra "n"
      have hfit := fits_two r hn
      refine k_sum hr'.handled (CellAt.isListL (a5.cell (b := D2) List.mem_cons_self)) hys hfit (fun t23 s23 hk23 => ?_)
      have a23 := (a5.kept hk23).tail
      rw [List.nil_append] at a23
      rw [cast_sum]
      refine st_cell he a23 (by k_extra "m:in") hc3 (i := 3) rfl hd3 (fun o3' s24 hd3 a24 => ?_)
      dsimp only [List.set_cons_zero, List.set_cons_succ] at a24
      repeat k_extra "n"
      refine GM.join ?_
      repeat k_extra "n"
      refine x_comp (s₀ := s) (h₀ := h₁) (L := L) (names' := [(Str.ofString ".0", NameKind.local), (Str.ofString "j", NameKind.local), (Str.ofString "letters", NameKind.cell), (Str.ofString "number", NameKind.cell)]) (ko := none) (l0 := [("j", none)]) (cl := [("number", c3), ("letters", c1)])
        (fun C i ys l N => ∃ u, l = ([("j", u)] : List (Str × Option Value)) ∧ N = [] ∧ StrsAre ys ((List.range i).map fun i => ⟨#[S64C (numW r / 64 ^ (3 - i) % 64)]⟩)) he ?cia3 ?cib3 ?_
      case cia3 => exact ⟨rfl, by decide, by decide, rfl, ko_none (by decide), lk_none (by simp), by decide⟩
      case cib3 => first | exact clo_two rfl hc1 hc3 | exact clo_two rfl hc3 hc1
      repeat k_extra "n"
      refine ld_cell he (by assumption) (by k_extra "m:in") hc2 (At.cell (c := Cell.obj o2') (by assumption) (by simp)) hd2 (by decide) ?_
      repeat k_extra "n"
      refine k_len (xs := vs) (CellAt.isListL (At.cell (b := D) (c := Cell.list vs) (by assumption) (by simp))) (by lia) (fun t26 s26 hk26 => ?_)
      have a26 := At.kept (by assumption) hk26
      repeat k_extra "n"
      refine k_sub (fun t27 s27 hk27 => ?_)
      have a27 := a26.kept hk27
      repeat k_extra "n"
      refine x_un ?_
      repeat k_extra "n"
      refine k_negI (fun t28 s28 hk28 => ?_)
      have a28 := At.kept (by assumption) hk28
      repeat k_extra "n"
      refine k_range3 (by decide) (by decide) (fun R3 s29 hk29 hR3 hRr3 => ?_)
      have a29 := a28.kept hk29
      refine k_pyIterR (n := r.length + 1) hRr3 ?_ ?_ (fun I3 s30 hk30 hI3 hit3 => ?_)
      · rw [hvl]
        obtain h | h | h : r.length = 0 ∨ r.length = 1 ∨ r.length = 2 := by lia
        all_goals (rw [h]; decide)
      · rw [hvl]
        obtain h | h | h : r.length = 0 ∨ r.length = 1 ∨ r.length = 2 := by lia
        all_goals (rw [h]; decide)
      have hfI3 := a29.fresh hI3
      have a30 := a29.kept hk30
      refine CompFrom.mk1 (n := r.length + 1) a30 (Itr.range hr'.handled I3 3 (-1) (r.length + 1)) hit3 hfI3 (by lia) (fun C => ⟨_, rfl, rfl, .nil⟩) ?_ ?_
      · rintro C cenv ec hcf hcc i v ys lc N hb s31 E31 hi3 ⟨tv2, hv2⟩ ⟨u2, rfl, rfl, hys3⟩ a31 k0 kI kk
        obtain rfl : v = .int ((3 - i : Nat) : Int) tv2 := by rw [hv2]; congr 1; lia
        have ccl : cenv.cells.lookup (Str.ofString "letters") = some c1 := by rw [hcc]; rfl
        have ccn : cenv.cells.lookup (Str.ofString "number") = some c3 := by rw [hcc]; rfl
        have hc1I : c1 ≠ I3 := fun z => hfI3.2.2 (by rw [z]; simp)
        have hc3I : c3 ≠ I3 := fun z => hfI3.2.2 (by rw [z]; simp)
        have hc1b : hb.get? c1 = some o1 := kI c1 o1 hc1I (a30.cell (c := Cell.obj o1) (by simp))
        have hc3b : hb.get? c3 = some o3' := kI c3 o3' hc3I (a30.cell (c := Cell.obj o3') (by simp))
        refine wpAny_assign_Name ?_
        repeat k_extra "n"
        refine te_nil ?_
        repeat k_extra "n"
        refine ld_cell ec (by assumption) (by k_extra "m:in") ccl (At.keepsN (by assumption) _ _ hc1b) hd1 (by decide) ?_
        repeat k_extra "n"
        refine ld_cell ec (by assumption) (by k_extra "m:in") ccn (At.keepsN (by assumption) _ _ hc3b) hd3 (by decide) ?_
        repeat k_extra "n"
        refine k_pow (by lia) (by lia) (by decide) (fun t33 s33 hk33 => ?_)
        have a33 := At.kept (by assumption) hk33
        have ep : (64 : Int) ^ ((3 - i : Nat) : Int).toNat = ((64 ^ (3 - i) : Nat) : Int) := by rw [Int.toNat_natCast]; norm_cast
        rw [ep]
        have hi03 : i = 0 ∨ i = 1 ∨ i = 2 := by lia
        refine n_div (x := numW r) (y := 64 ^ (3 - i)) rfl rfl (by obtain rfl | rfl | rfl := hi03 <;> decide) (by obtain rfl | rfl | rfl := hi03 <;> decide) (fun t34 s34 hk34 => ?_)
        have a34 := a33.kept hk34
        repeat k_extra "n"
        refine n_mod (x := numW r / 64 ^ (3 - i)) (y := 64) rfl rfl (by decide) (fun t35 s35 hk35 => ?_)
        have a35 := At.kept (by assumption) hk35
        refine k_subS (p := numW r / 64 ^ (3 - i) % 64) rfl (S64C_get (Nat.mod_lt _ (by decide))) (by lia) rfl (fun _ => rfl) (fun t36 s36 hk36 => ?_)
        have a36 := a35.kept hk36
        refine ⟨_, _, ⟨_, rfl, rfl, ?_⟩, a36⟩
        rw [List.range_succ, List.map_append]
        exact StrsAre.snoc' hys3 _ _
      · rintro C D3 ys3 lc N s' ⟨u, rfl, rfl, hys3⟩ hD3 a37 _
        repeat k_extra "n"
        have hsz : (Txt.join (Str.ofString "") (sixes r)).cps.size = r.length + 1 := by rw [join_size _ (by decide +kernel), sixes_size]
        have hl6 : (sixes r).length = r.length + 1 := by unfold sixes; simp
        refine k_join (ys := sixes r) (CellAt.isListL (a37.cell (b := D3) List.mem_cons_self)) hys3 (by decide +kernel) (by
          have := sixes_size r
          rw [hl6, show ((sixes r).map (·.length)) = (sixes r).map (·.cps.size) from rfl, this]; lia) (fun t38 s38 hk38 => ?_)
        have a38 := (a37.kept hk38).tail
        rw [List.nil_append] at a38
        have h0 : (Str.ofString "").cps.size = 0 := by decide +kernel
        refine k_addS (by rw [h0, hsz]; lia) (fun t39 s39 hk39 => ?_)
        have a39 := a38.kept hk39
        repeat k_extra "n"
        refine ld_cell he (by assumption) (by k_extra "m:in") hc2 (At.cell (c := Cell.obj o2') (by assumption) (by simp)) hd2 (by decide) ?_
        repeat k_extra "n"
        refine k_len (xs := vs) (CellAt.isListL (At.cell (b := D) (c := Cell.list vs) (by assumption) (by simp))) (by lia) (fun t40 s40 hk40 => ?_)
        have a40 := At.kept (by assumption) hk40
        refine n_sub (x := 3) (y := vs.length) rfl rfl (by lia) (fun t41 s41 hk41 => ?_)
        have a41 := a40.kept hk41
        refine k_mulS (n := 3 - vs.length) rfl (by lia) (by decide +kernel) (fun t42 s42 hk42 => ?_)
        have a42 := a41.kept hk42
        refine k_addS (by rw [size_app, h0, hsz, repS_size _ (by decide +kernel)]; lia) (fun t43 s43 hk43 => ?_)
        have a43 := a42.kept hk43
        repeat k_extra "n"
        rename_i a44
        refine f_next a44.tail rfl ?_
        refine ⟨_, _, _, _, _, _, rfl, rfl, ⟨_, hd1⟩, ⟨_, hd2⟩, ⟨_, hd3⟩, ?_⟩
        rw [if_neg (by decide)]
        unfold lawB
        rw [if_neg hrne, hvl]
  · rintro l W s9 ⟨o1, o2, o3, td, uk, tt, rfl, rfl, ⟨tl, hd1⟩, ⟨v2, hd2⟩, ⟨v3, hd3⟩, rfl⟩ _ hat10
    repeat k_extra "n"
    have e : (if (if r = [] then 0 else 1) = 0 then Str.ofString "" else lawB r) = lawB r := by
      by_cases hr0 : r = []
      · rw [if_pos hr0, if_pos rfl]; unfold lawB; rw [if_pos hr0]
      · rw [if_neg hr0, if_neg (by decide)]
    rw [e]
    exact hQ _ _ (KeepsBut.to (At.keepsBut (by assumption) (as := []) (fun b o _ e => hk b o (fun m => nomatch m) e)))

open Builtin in
noncomputable def oltB (a b : List UInt8) : Bool := Bytes.order a b == .lt
theorem oltB_iff : ∀ a b : List UInt8, oltB a b = true ↔ a.map (·.toNat) < b.map (·.toNat)
  | [], [] => by simp [oltB, Builtin.Bytes.order]
  | [], _ :: _ => by simp [oltB, Builtin.Bytes.order]
  | _ :: _, [] => by simp [oltB, Builtin.Bytes.order]
  | x :: xs, y :: ys => by
    have ih := oltB_iff xs ys
    rw [List.map_cons, List.map_cons, List.cons_lt_cons_iff]
    unfold oltB at ih ⊢
    unfold Builtin.Bytes.order
    have hlt : x < y ↔ x.toNat < y.toNat := UInt8.lt_iff_toNat_lt
    have hgt : x > y ↔ y.toNat < x.toNat := UInt8.lt_iff_toNat_lt
    by_cases h1 : x < y
    · rw [if_pos h1]
      have := hlt.mp h1
      simp [this]
    · rw [if_neg h1]
      have n1 : ¬ x.toNat < y.toNat := fun h => h1 (hlt.mpr h)
      by_cases h2 : x > y
      · rw [if_pos h2]
        have := hgt.mp h2
        have n2 : ¬ x.toNat = y.toNat := by lia
        simp [n1, n2]
      · rw [if_neg h2]
        have n2 : ¬ y.toNat < x.toNat := fun h => h2 (hgt.mpr h)
        have e : x.toNat = y.toNat := by lia
        rw [ih]
        simp [e]
theorem oltB_false {a b : List UInt8} : oltB a b = false ↔ ¬ (a.map (·.toNat) < b.map (·.toNat)) := by
  rw [← oltB_iff]; simp
theorem toNat_inj {a b : List UInt8} (h : a.map (·.toNat) = b.map (·.toNat)) : a = b := by
  induction a generalizing b with
  | nil => cases b with
    | nil => rfl
    | cons _ _ => simp at h
  | cons x a ih => cases b with
    | nil => simp at h
    | cons y b =>
      rw [List.map_cons, List.map_cons, List.cons.injEq] at h
      rw [ih h.2, UInt8.toNat_inj.mp h.1]

@[reducible] noncomputable def bytesKind : PyProof.Rows.KeyKind where
  α := List UInt8
  blt := oltB
  irrefl a := by rw [oltB_false]; exact List.lt_irrefl _
  trans a b c h1 h2 := by rw [oltB_iff] at *; exact List.lt_trans h1 h2
  negTrans a b c h := by
    rw [oltB_iff] at *
    rw [oltB_iff]
    by_cases hab : a.map (·.toNat) < b.map (·.toNat)
    · exact .inl hab
    · exact .inr (List.lt_of_le_of_lt (List.not_lt.mp hab) h)
  total a b h1 h2 := by
    rw [oltB_false] at *
    exact toNat_inj (List.le_antisymm (List.not_lt.mp h2) (List.not_lt.mp h1))
  keyOf v := match v with | .bytes x _ => some x.toList | _ => none
  dflt := []

section
variable {w : World} {A : Around} {E : Value → Shared → Prop} {s : Shared}
theorem call_bytes_lt {prog : Program} {a b : Array UInt8} {t u : Tok} {Q : Value → Shared → Prop} (h : Q (.bool (oltB a.toList b.toList)) s) :
    wpAny (model prog w) A (call (.builtin "bytes.__lt__") [.bytes a t, .bytes b u]) Q E s :=
  call_gives blt_slot (typeIs_bytes s a t) blt_entry (blt_args _ _) (gives_bytes_lt a b t u) h
theorem oneLt_bytes {prog : Program} {a b : Array UInt8} {t u : Tok} {Q : Bool → Shared → Prop} (h : Q (oltB a.toList b.toList) s) : wpAny (model prog w) A (oneLt' true (.bytes a t) (.bytes b u)) Q E s := by
  rw [oneLt'_eq]
  simp only [if_true]
  refine wpAny_bind (wpAny_cRoomFor_byValue rfl ?_)
  refine wpAny_bind (wpAny_callSpecialIfBound?_slot (typeIs_bytes s a t) blt_slot (call_bytes_lt ?_))
  exact wpAny_truthy_bool h
theorem bytesKind_oneLt : bytesKind.OneLt := by
  intro prog w A E s x y a b Q ha hb h
  cases x <;> simp only [bytesKind, reduceCtorEq, Option.some.injEq] at ha
  cases y <;> simp only [bytesKind, reduceCtorEq, Option.some.injEq] at hb
  cases ha; cases hb
  exact oneLt_bytes h

/-- bytes values with these octets -/
inductive BytesAre : List Value → List (List UInt8) → Prop
  | nil : BytesAre [] []
  | cons (y : List UInt8) (t : Tok) {vs ys} : BytesAre vs ys → BytesAre (.bytes y.toArray t :: vs) (y :: ys)
theorem BytesAre.length {vs : List Value} {ys : List (List UInt8)} (h : BytesAre vs ys) : vs.length = ys.length := by
  induction h with
  | nil => rfl
  | cons _ _ _ ih => simp [ih]
theorem BytesAre.keys {vs : List Value} {ys : List (List UInt8)} (h : BytesAre vs ys) : vs.map keyB = ys := by
  induction h with
  | nil => rfl
  | cons _ _ _ ih => rw [List.map_cons, ih]; rfl
theorem BytesAre.all {vs : List Value} {ys : List (List UInt8)} (h : BytesAre vs ys) : ∀ v ∈ vs, IsB v := by
  induction h with
  | nil => intro v hv; cases hv
  | cons y t _ ih =>
    intro v hv
    rcases List.mem_cons.mp hv with rfl | hv
    · exact ⟨_, _, rfl⟩
    · exact ih v hv
theorem bytesAre_of : ∀ (vs : List Value), (∀ v ∈ vs, IsB v) → BytesAre vs (vs.map keyB)
  | [], _ => .nil
  | v :: vs, h => by
    obtain ⟨x, t, rfl⟩ := h v List.mem_cons_self
    have := BytesAre.cons x.toList t (bytesAre_of vs fun u hu => h u (List.mem_cons_of_mem _ hu))
    exact this
theorem BytesAre.app {vs us : List Value} {ys zs : List (List UInt8)} (h : BytesAre vs ys) (h2 : BytesAre us zs) : BytesAre (vs ++ us) (ys ++ zs) := by
  induction h with
  | nil => exact h2
  | cons y t _ ih => exact .cons y t ih
theorem BytesAre.snoc {vs : List Value} {ys : List (List UInt8)} (h : BytesAre vs ys) (y : List UInt8) (t : Tok) : BytesAre (vs ++ [.bytes y.toArray t]) (ys ++ [y]) := h.app (.cons y t .nil)
theorem BytesAre.at {vs : List Value} {ys : List (List UInt8)} (h : BytesAre vs ys) : ∀ {i : Nat} {v : Value}, vs[i]? = some v → ∃ y t, ys[i]? = some y ∧ v = .bytes y.toArray t := by
  induction h with
  | nil => intro i v h; simp at h
  | cons y t _ ih =>
    intro i v h
    cases i with
    | zero => exact ⟨y, t, rfl, by simpa using h.symm⟩
    | succ i => exact ih (by simpa using h)

theorem firstOf_bytes (x : Array UInt8) (t : Tok) : firstOfTuple' (.bytes x t) = pure none := rfl
theorem mapM_first_bytes : ∀ {vs : List Value} {ys : List (List UInt8)}, BytesAre vs ys → vs.mapM firstOfTuple' = pure (vs.map fun _ => none)
  | _, _, .nil => by simp
  | _, _, .cons x t h => by rw [List.mapM_cons, firstOf_bytes, mapM_first_bytes h]; simp
theorem mapM_typeOf_bytes : ∀ {vs : List Value} {ys : List (List UInt8)}, BytesAre vs ys → vs.mapM typeOf = pure (vs.map fun _ => Value.type "bytes")
  | _, _, .nil => by simp
  | _, _, .cons x t h => by
    rw [List.mapM_cons, mapM_typeOf_bytes h]
    show (pure (Value.type "bytes") >>= fun b => pure _ >>= fun bs => pure (b :: bs)) = _
    simp
theorem keyKind_bytes {v₁ v₂ : Value} {vs : List Value} {ys : List (List UInt8)} (hS : BytesAre (v₁ :: v₂ :: vs) ys) : keyKind' (v₁ :: v₂ :: vs).toArray = pure oneType' := by
  rw [keyKind'_eq, List.mapM_toArray, mapM_first_bytes hS]
  simp only [map_pure, pure_bind]
  rw [if_neg (by simp), if_neg (by simp)]
  rw [oneTypeOnly'_eq, List.mapM_toArray, mapM_typeOf_bytes hS]
  simp only [map_pure, pure_bind]
  have hall : ((List.map (fun _ => Value.type "bytes") (v₁ :: v₂ :: vs)).toArray.all fun x => x == Value.type "bytes") = true := by
    simp only [List.all_toArray, List.all_map, List.all_eq_true]
    intro _ _
    rfl
  have h0 : (List.map (fun _ => Value.type "bytes") (v₁ :: v₂ :: vs)).toArray[0]? = some (Value.type "bytes") := by simp
  rw [h0]
  simp only [hall, if_true, pure_bind, Option.isSome_some]

theorem BytesAre.keysOf {vs : List Value} {ys : List (List UInt8)} (hS : BytesAre vs ys) : KeysOf bytesKind (pairsOf vs) := by
  intro p hp
  rw [pairsOf_toList] at hp
  obtain ⟨x, t, e⟩ := hS.all _ (mem_zip_self hp).2
  exact ⟨x.toList, by rw [e]⟩
theorem KK_bytes {xs : Array Keyed} {i : Nat} (hi : i < xs.size) {x : Array UInt8} {t : Tok} {q : Value} (hx : xs[i] = (.bytes x t, q)) : KK bytesKind xs i = x.toList := by
  unfold KK; rw [getElem?_pos xs i hi, hx]; rfl

/-- in order -/
noncomputable def SortedB (ys : List (List UInt8)) : Prop := ys.Pairwise fun a b => oltB b a = false
theorem sorted_outB {vs : List Value} {ys : List (List UInt8)} (hS : BytesAre vs ys) {xs : Array Keyed} (hp : xs.Perm (pairsOf vs)) (hs : SortedToK bytesKind xs (pairsOf vs).size) :
    ∃ ys', BytesAre (xs.map (·.2)).toList ys' ∧ ys'.Perm ys ∧ SortedB ys' := by
  have hl : xs.toList.Perm (vs.zip vs) := by rw [← pairsOf_toList]; exact Array.perm_iff_toList_perm.mp hp
  have hmem : ∀ p, p ∈ xs.toList → p.1 = p.2 ∧ p.1 ∈ vs := fun p hp' => mem_zip_self (hl.mem_iff.mp hp')
  refine ⟨xs.toList.map (fun p => keyB p.1), ?_, ?_, ?_⟩
  · have e : (xs.map (·.2)).toList = xs.toList.map (·.1) := by
      rw [Array.toList_map]; exact List.map_congr_left fun p hp' => (hmem p hp').1.symm
    rw [e]
    have h1 := bytesAre_of (xs.toList.map (·.1)) (by
      intro v hv
      obtain ⟨p, hp', rfl⟩ := List.mem_map.mp hv
      exact hS.all _ (hmem p hp').2)
    rwa [List.map_map] at h1
  · have h1 := hl.map (fun p => keyB p.1)
    have e2 : (vs.zip vs).map (fun p => keyB p.1) = ys := by
      have : (vs.zip vs).map (fun p => keyB p.1) = ((vs.zip vs).map Prod.fst).map keyB := by rw [List.map_map]; rfl
      rw [this, List.map_fst_zip (Nat.le_refl _), hS.keys]
    rwa [e2] at h1
  · show List.Pairwise _ _
    rw [List.pairwise_iff_getElem]
    intro i j hi hj hij
    have hi' : i < xs.size := by simpa using hi
    have hj' : j < xs.size := by simpa using hj
    have h1 := hs i j (Nat.le_of_lt hij) (by rw [← hp.size_eq]; exact hj')
    obtain ⟨x, t, ex⟩ := hS.all _ (hmem xs[i] (by simp)).2
    obtain ⟨y, u, ey⟩ := hS.all _ (hmem xs[j] (by simp)).2
    rw [KK_bytes hi' (x := x) (t := t) (q := xs[i].2) (Prod.ext ex rfl), KK_bytes hj' (x := y) (t := u) (q := xs[j].2) (Prod.ext ey rfl)] at h1
    simp only [List.getElem_map, Array.getElem_toList]
    rw [show keyB xs[i].1 = x.toList by rw [ex]; rfl, show keyB xs[j].1 = y.toList by rw [ey]; rfl]
    exact h1

theorem k_sorted {l : Addr} {vs : List Value} {ys : List (List UInt8)} {Q : Value → Shared → Prop} (hl : s.heap.IsList l vs.toArray) (hS : BytesAre vs ys) (h64 : vs.length < 64)
    (h : ∀ D s' vs' ys', Keeps s s' → s.heap.get? D = none → s'.heap.PlainList D vs'.toArray → BytesAre vs' ys' → ys'.Perm ys → SortedB ys' → Q (.ref D) s') :
    wpAny (model P w) A (call (.builtin "sorted") [.ref l]) Q E s := by
  refine sortedK bytesKind_oneLt hl hS.keysOf (fun v₁ v₂ rest e => keyKind_bytes (by rw [← e]; exact hS)) h64 fun st' hp hs => ?_
  obtain ⟨ys', h1, h2, h3⟩ := sorted_outB hS hp hs
  obtain ⟨e, he⟩ := sortedAll_at s.heap vs ((arrOf st').map (·.2))
  refine h _ _ ((arrOf st').map (·.2)).toList ys' ⟨_, s.toks, rfl, fun b o q => sortedAll_old q⟩ ?_ ⟨e, by rw [Array.toArray_toList]; exact he⟩ h1 h2 h3
  cases q : s.heap.get? (s.heap.objs.size + 1) with
  | none => rfl
  | some o => exact absurd (Heap.lt_size q) (Nat.not_lt.mpr (Nat.le_succ _))
end

/-- tuples (octets, number) in their order -/
noncomputable def ltBI (x : List UInt8) (i : Int) (y : List UInt8) (j : Int) : Bool := if x = y then decide (i < j) else oltB x y

section
variable {w : World} {A : Around} {E : Value → Shared → Prop} {s : Shared}
theorem tuple_lt_tree {a b : Addr} {x y : List UInt8} {i j : Int} {t u t' u' : Tok} {Q : Value → Shared → Prop} (ha : s.heap.get? a = some (tupObj [.bytes x.toArray t, .int i u])) (hb : s.heap.get? b = some (tupObj [.bytes y.toArray t', .int j u']))
    (h : Q (.bool (ltBI x i y j)) s) : wpAny (model P w) A (Builtin.«tuple.__lt__» ⟨[.ref a, .ref b], []⟩) (fun fin s' => ∃ v, fin = .done (.ret v) ∧ Q v s') E s := by
  have hTb : s.TypeIs (.ref b) "tuple" := ⟨_, hb, rfl⟩
  show wpAny _ _ (isInstance (.ref b) (.type "tuple") >>= _) _ _ s
  refine wpAny_bind (wpAny_isInstance hTb isSubtype_tuple_tuple ?_)
  simp only [Bool.not_true, Bool.false_eq_true, if_false]
  refine wpAny_bind (wpAny_tupleItemsOf ha rfl ?_)
  refine wpAny_bind (wpAny_tupleItemsOf hb rfl ?_)
  simp only [List.zip_cons_cons, List.zip_nil_right, List.forIn_cons, List.forIn_nil]
  refine wpAny_bind (wpAny_bind (wpAny_bind (eqBool_bytes ?_)))
  unfold ltBI at h
  by_cases hxy : x = y
  · rw [if_pos hxy] at h
    have e1 : x.toArray.toList = y.toArray.toList := hxy
    rw [decide_eq_true e1]
    simp only [Bool.not_true, Bool.false_eq_true, if_false]
    refine wpAny_pure (wpAny_bind (wpAny_bind (wpAny_eqBool_int ?_)))
    by_cases hij : i = j
    · subst hij
      simp only [beq_self_eq_true, Bool.not_true, Bool.false_eq_true, if_false]
      have : decide (i < i) = false := decide_eq_false (Int.lt_irrefl i)
      rw [this] at h
      exact wpAny_pure (wpAny_pure (wpAny_pure ⟨_, rfl, h⟩))
    · have hb : (i == j) = false := by simpa using hij
      rw [hb]
      simp only [Bool.not_false, if_true]
      refine wpAny_bind (wpAny_rule (wpAny_bind ?_))
      refine wpAny_mono (show wpAny (model P w) A (richCompare .Lt (.int i u) (.int j u')) (fun v s' => v = .bool (decide (i < j)) ∧ Q v s') E s from PyProof.Rows.lt_int ⟨rfl, h⟩) (fun v s' hv => ?_) fun _ _ e => e
      exact wpAny_bind (wpAny_pure (wpAny_pure (wpAny_pure (wpAny_pure ⟨_, rfl, hv.2⟩))))
  · rw [if_neg hxy] at h
    have e1 : ¬ x.toArray.toList = y.toArray.toList := hxy
    rw [decide_eq_false e1]
    simp only [Bool.not_false, if_true]
    refine wpAny_bind (wpAny_rule (wpAny_bind ?_))
    refine wpAny_mono (show wpAny (model P w) A (richCompare .Lt (.bytes x.toArray t) (.bytes y.toArray t')) (fun v s' => Q v s') E s from c_ltB h) (fun v s' hv => ?_) fun _ _ e => e
    exact wpAny_bind (wpAny_pure (wpAny_pure (wpAny_pure (wpAny_pure ⟨_, rfl, hv⟩))))

theorem c_ltT {a b : Addr} {x y : List UInt8} {i j : Int} {t u t' u' : Tok} {Q : Value → Shared → Prop} (hu : A.units < cLine) (ha : s.heap.get? a = some (tupObj [.bytes x.toArray t, .int i u])) (hb : s.heap.get? b = some (tupObj [.bytes y.toArray t', .int j u']))
    (h : Q (.bool (ltBI x i y j)) s) : wpAny (model P w) A (compareOp .Lt (.ref a) (.ref b)) Q E s := by
  have hTa : s.TypeIs (.ref a) "tuple" := ⟨_, ha, rfl⟩
  have hTb : s.TypeIs (.ref b) "tuple" := ⟨_, hb, rfl⟩
  show wpAny (model P w) A (richCompare .Lt (.ref a) (.ref b)) Q E s
  refine wpAny_richCompare_same_room (op := .Lt) hTa hTb F.slot_tuple_lt (wpAny_call_entry F.slot_tuple_lt hTa F.entry_tuple_lt (wpAny_mono (tuple_lt_tree (Q := fun v s' => v = .bool (ltBI x i y j) ∧ Q v s') ha hb ⟨rfl, h⟩) (fun fin s' hv => ?_) fun _ _ e => e) (F.args_tuple_lt_2 _ _)) hu
  obtain ⟨v, rfl, rfl, hq⟩ := hv
  exact ⟨_, rfl, (fun e => nomatch e), hq⟩

/-- what a tuple of octets and a number holds, as h knows it -/
noncomputable def keyT (h : Heap) (v : Value) : List UInt8 × Int := match v with
  | .ref a => match h.get? a with
    | some o => match o.data with
      | .seq xs _ => (match xs.toList with | [.bytes x _, .int i _] => (x.toList, i) | _ => ([], 0))
      | _ => ([], 0)
    | none => ([], 0)
  | _ => ([], 0)
noncomputable def IsT (h : Heap) (v : Value) : Prop := ∃ a x i t u, v = .ref a ∧ h.get? a = some (tupObj [.bytes (List.toArray x) t, .int i u])
noncomputable def ltT (h : Heap) (v₁ v₂ : Value) : Bool := ltBI (keyT h v₁).1 (keyT h v₁).2 (keyT h v₂).1 (keyT h v₂).2
theorem keyT_is {h : Heap} {a : Addr} {x : List UInt8} {i : Int} {t u : Tok} (e : h.get? a = some (tupObj [.bytes x.toArray t, .int i u])) : keyT h (.ref a) = (x, i) := by
  unfold keyT; simp only [e, tupObj]
theorem cmpT (h : Heap) : CmpOn w h (IsT h) (ltT h) := fun A s v₁ v₂ Q E r hk h1 h2 hq => by
  obtain ⟨a, x, i, t, u, rfl, e1⟩ := h1
  obtain ⟨b, y, j, t', u', rfl, e2⟩ := h2
  have := hq s (keeps_refl s)
  unfold ltT at this
  rw [keyT_is e1, keyT_is e2] at this
  exact c_ltT (by have := r.units; lia) (hk _ _ e1) (hk _ _ e2) this
end

section
variable {w : World} {A : Around} {E : Value → Shared → Prop} {s : Shared}
theorem sort2_cmp {p q : Addr} {x y : List UInt8} {i j : Int} {t u t' u' : Tok} {Q : Bool → Shared → Prop} (hp : s.heap.get? p = some (tupObj [.bytes x.toArray t, .int i u])) (hq : s.heap.get? q = some (tupObj [.bytes y.toArray t', .int j u']))
    (h : Q (ltBI x i y j) s) : wpAny (model P w) A (keyLt' (tuples' true) (.ref p) (.ref q)) Q E s := by
  refine kat_lt hp rfl hq rfl ?_
  show KatLex P w A true false Q [(.bytes x.toArray t, .bytes y.toArray t'), (.int i u, .int j u')] 0 s
  refine kat_cons (eqBool_bytes ?_)
  unfold ltBI at h
  by_cases hxy : x = y
  · rw [if_pos hxy] at h
    have e1 : x.toArray.toList = y.toArray.toList := hxy
    rw [decide_eq_true e1]
    refine kat_yes (kat_cons (wpAny_eqBool_int ?_))
    by_cases hij : i = j
    · subst hij
      rw [beq_self_eq_true]
      refine kat_yes (kat_nil ?_)
      rw [decide_eq_false (Int.lt_irrefl i)] at h
      exact h
    · have hb : (i == j) = false := by simpa using hij
      rw [hb]
      exact kat_no (kat_one _ _ (PyProof.Rows.lt_int h))
  · rw [if_neg hxy] at h
    have e1 : ¬ x.toArray.toList = y.toArray.toList := hxy
    rw [decide_eq_false e1]
    exact kat_no (oneLt_bytes h)

theorem sort2_run {p q : Addr} {x y : List UInt8} {i j : Int} {t u t' u' : Tok} {Q : SortSt → Shared → Prop}
    (hp : s.heap.get? p = some (tupObj [.bytes x.toArray t, .int i u])) (hq : s.heap.get? q = some (tupObj [.bytes y.toArray t', .int j u']))
    (h : ∀ st, (arrOf st).map (·.2) = List.toArray (if ltBI y j x i then [Value.ref q, .ref p] else [.ref p, .ref q]) → failedOf st = none → Q st s) :
    wpAny (model P w) A ((sortRuns').run (SortSt.mk' (tuples' true) ((List.toArray [Value.ref p, .ref q]).zip (List.toArray [Value.ref p, .ref q])) #[] 7 none)) (fun r s' => Q r.2 s') E s := by
  refine kat_run (ks := [.ref p, .ref q]) (vs := [.ref p, .ref q]) (G := fun pm s' => s' = s ∧ pm = (if ltBI y j x i then #[1, 0] else #[0, 1])) rfl (by simp) (by simp) (fun pm st s' hz har hf hg => ?_) ?_
  · obtain ⟨rfl, rfl⟩ := hg
    refine h st ?_ hf
    rw [kat_snds rfl har]
    split <;> rfl
  · show kas_ask P w A (tuples' true) [.ref p, .ref q] 1 0 _ s
    refine sort2_cmp hq hp ?_
    have e : kas_rev (List.toArray (List.range 2)) 0 2 = #[1, 0] := by decide +kernel
    cases ltBI y j x i
    · exact ⟨rfl, rfl⟩
    · refine ⟨rfl, ?_⟩
      rw [if_pos rfl]
      simp only [List.length_cons, List.length_nil]
      exact e

theorem sort2_kind {p q : Addr} {x y : List UInt8} {i j : Int} {t u t' u' : Tok} {Q : SortKind → Shared → Prop}
    (hp : s.heap.get? p = some (tupObj [.bytes x.toArray t, .int i u])) (hq : s.heap.get? q = some (tupObj [.bytes y.toArray t', .int j u'])) (h : Q (tuples' true) s) :
    wpAny (model P w) A (keyKind' (List.toArray [Value.ref p, .ref q])) Q E s := by
  refine kat_kind (T := .type "bytes") (KatTups.cons hp rfl rfl rfl (KatTups.cons hq rfl rfl rfl KatTups.nil)) (by simp) (fun v hv => ?_) rfl h
  simp only [List.mem_cons, List.not_mem_nil, or_false] at hv
  rcases hv with rfl | rfl
  · exact Looks.of_pure rfl
  · exact Looks.of_pure rfl

theorem sort2_tree {a p q : Addr} {n : Nat} {x y : List UInt8} {i j : Int} {t u t' u' : Tok} (b : Bool) {P' : PySem.Fin → Shared → Prop} (ho : s.heap.get? a = some (seqObj "list" #[.ref p, .ref q] n))
    (hap : a ≠ p) (haq : a ≠ q) (hp : s.heap.get? p = some (tupObj [.bytes x.toArray t, .int i u])) (hq : s.heap.get? q = some (tupObj [.bytes y.toArray t', .int j u']))
    (h : ∀ out, out = (if b then (if ltBI x i y j then [.ref q, .ref p] else [.ref p, .ref q]) else (if ltBI y j x i then [.ref q, .ref p] else [.ref p, .ref q])) → P' (.done (.ret .none)) { s with heap := sortedHeap s.heap a [.ref p, .ref q] (List.toArray out) }) :
    wpAny (model P w) A (do
      let items ← Builtin.List.listItems (.ref a)
      Builtin.List.listUpdate (.ref a) fun _ => #[]
      let before ← seqEpoch a
      let held ← newTuple items.toList
      let keyStore ← newList []
      holding [held, keyStore] do
        if b then rule "list.sort.reverse"
        let kind ← if items.size < 2 then pure general' else keyKind' items
        let ((), s) ← (if items.size < 2 then pure () else sortRuns').run (SortSt.mk' kind (if b then (items.zip items).reverse else items.zip items) #[] 7 none)
        let sorted := (arrOf s).map (·.2)
        let touched := (← seqEpoch a) != before
        Builtin.List.listUpdate (.ref a) fun _ => if b then sorted.reverse else sorted
        if let some e := failedOf s then rule "list.sort.comparison-raised"; throw e
        if touched then rule "list.sort.modified"; raiseError "ValueError" "list modified during sort"
        ret .none : Sem PySem.Fin) P' E s := by
  have ha : a < s.heap.objs.size := Heap.lt_size ho
  refine wpAny_bind (listItems_at ho rfl ?_)
  refine wpAny_bind (listUpdate_at ho rfl ?_)
  obtain ⟨e1, ho1⟩ : ∃ e1, (s.heap.update a (Obj.mapSeq fun _ => #[])).get? a = some (seqObj "list" #[] e1) := ⟨_, get?_update_seq ho (fun _ => #[])⟩
  refine wpAny_bind (seqEpoch_at ho1 rfl ?_)
  refine wpAny_bind (wpAny_newTuple ?_)
  refine wpAny_bind (wpAny_newList ?_)
  refine wpAny_holding ?_
  have ho6 : (((s.heap.update a (Obj.mapSeq fun _ => #[])).push (seqObj "tuple" #[.ref p, .ref q] 0)).push (seqObj "list" #[] 0)).get? a = some (seqObj "list" #[] e1) := by
    rw [Heap.get?_push_ne _ _ _ (by rw [size_push', Heap.size_update]; exact Nat.ne_of_lt (Nat.lt_succ_of_lt ha)), Heap.get?_push_ne _ _ _ (by rw [Heap.size_update]; exact Nat.ne_of_lt ha)]
    exact ho1
  have old : ∀ c o, c ≠ a → s.heap.get? c = some o → (((s.heap.update a (Obj.mapSeq fun _ => #[])).push (seqObj "tuple" #[.ref p, .ref q] 0)).push (seqObj "list" #[] 0)).get? c = some o := fun c o hc e =>
    Heap.get?_push_of_some _ (Heap.get?_push_of_some _ ((Heap.get?_update_other _ _ (Ne.symm hc)).trans e))
  have hp6 := old _ _ (Ne.symm hap) hp
  have hq6 := old _ _ (Ne.symm haq) hq
  generalize hH : ((s.heap.update a (Obj.mapSeq fun _ => #[])).push (seqObj "tuple" #[.ref p, .ref q] 0)).push (seqObj "list" #[] 0) = H6 at ho6 hp6 hq6
  show wpAny (model P w) A _ P' E { s with heap := H6 }
  dsimp only
  have hn2 : ¬ (#[Value.ref p, Value.ref q] : Array Value).size < 2 := by simp
  rw [if_neg hn2, if_neg hn2]
  have fin : ∀ (st : SortSt) (out : List Value), out.length = 2 → P' (.done (.ret .none)) { s with heap := sortedHeap s.heap a [.ref p, .ref q] (List.toArray out) } → failedOf st = none →
      wpAny (model P w) A (do
        let touched := (← seqEpoch a) != e1
        Builtin.List.listUpdate (.ref a) fun _ => List.toArray out
        if let some e := failedOf st then rule "list.sort.comparison-raised"; throw e
        if touched then rule "list.sort.modified"; raiseError "ValueError" "list modified during sort"
        ret .none : Sem PySem.Fin) P' E { s with heap := H6 } := by
    intro st out hl hP hf
    refine wpAny_bind (seqEpoch_at ho6 rfl ?_)
    refine wpAny_bind (listUpdate_at ho6 rfl ?_ (Nat.zero_le _) (by rw [List.size_toArray, hl]; exact Nat.le_succ_of_le (Nat.le_trans (show 2 ≤ 4096 by decide) line4096)))
    rw [hf]
    simp only [bne_self_eq_false, Bool.false_eq_true, if_false]
    refine wpAny_pure ?_
    rw [← hH]
    exact hP
  cases b with
  | true =>
    rw [if_pos rfl, if_pos rfl]
    refine wpAny_bind (wpAny_rule ?_)
    refine wpAny_bind (sort2_kind (s := { s with heap := H6 }) hp6 hq6 ?_)
    refine wpAny_bind ?_
    have ez : (#[Value.ref p, Value.ref q].zip #[Value.ref p, Value.ref q]).reverse = (List.toArray [Value.ref q, .ref p]).zip (List.toArray [Value.ref q, .ref p]) := by simp
    rw [ez]
    refine sort2_run (Q := fun st s' => wpAny (model P w) A (do
          let __do_lift ← seqEpoch a
          Builtin.List.listUpdate (Value.ref a) fun x =>
              if true = true then (Array.map (fun x => x.snd) (arrOf st)).reverse
              else Array.map (fun x => x.snd) (arrOf st)
          match failedOf st with
            | some e => do
              rule "list.sort.comparison-raised"
              throw e
              if (__do_lift != e1) = true then do
                  rule "list.sort.modified"
                  raiseErrorWords "ValueError" "list modified during sort"
                  ret Value.none
                else ret Value.none
            | x =>
              if (__do_lift != e1) = true then do
                rule "list.sort.modified"
                raiseErrorWords "ValueError" "list modified during sort"
                ret Value.none
              else ret Value.none) P' E s') (s := { s with heap := H6 }) hq6 hp6 (fun st hst hf => ?_)
    have eo : ((arrOf st).map (·.2)).reverse = List.toArray (if ltBI x i y j then [Value.ref q, .ref p] else [.ref p, .ref q]) := by
      rw [hst]
      split <;> simp
    rw [if_pos rfl] at h
    simp only [if_true]
    rw [eo]
    exact fin st _ (by split <;> rfl) (h _ rfl) hf
  | false =>
    rw [if_neg (by decide), if_neg (by decide)]
    refine wpAny_bind (sort2_kind (s := { s with heap := H6 }) hp6 hq6 ?_)
    refine wpAny_bind ?_
    show wpAny (model P w) A ((sortRuns').run (SortSt.mk' (tuples' true) ((List.toArray [Value.ref p, .ref q]).zip (List.toArray [Value.ref p, .ref q])) #[] 7 none)) _ E _
    refine sort2_run (Q := fun st s' => wpAny (model P w) A (do
          let __do_lift ← seqEpoch a
          Builtin.List.listUpdate (Value.ref a) fun x =>
              if false = true then (Array.map (fun x => x.snd) (arrOf st)).reverse
              else Array.map (fun x => x.snd) (arrOf st)
          match failedOf st with
            | some e => do
              rule "list.sort.comparison-raised"
              throw e
              if (__do_lift != e1) = true then do
                  rule "list.sort.modified"
                  raiseErrorWords "ValueError" "list modified during sort"
                  ret Value.none
                else ret Value.none
            | x =>
              if (__do_lift != e1) = true then do
                rule "list.sort.modified"
                raiseErrorWords "ValueError" "list modified during sort"
                ret Value.none
              else ret Value.none) P' E s') (s := { s with heap := H6 }) hp6 hq6 (fun st hst hf => ?_)
    rw [if_neg (by decide)] at h
    simp only [Bool.false_eq_true, if_false]
    rw [hst]
    exact fin st _ (by split <;> rfl) (h _ rfl) hf

/-- L.sort() and L.sort(reverse=True) on a list of two tuples (octets, number) -/
theorem k_sort2 {a p q : Addr} {x y : List UInt8} {i j : Int} {t u t' u' : Tok} {b : Bool} {kws : List (Str × Value)} {Q : Value → Shared → Prop} (hl : s.heap.PlainList a [Value.ref p, .ref q].toArray)
    (hap : a ≠ p) (haq : a ≠ q) (hp : s.heap.get? p = some (tupObj [.bytes x.toArray t, .int i u])) (hq : s.heap.get? q = some (tupObj [.bytes y.toArray t', .int j u'])) (hk : kws = if b then [(Str.ofString "reverse", .bool true)] else [])
    (h : ∀ out s', out = (if b then (if ltBI x i y j then [Value.ref q, .ref p] else [.ref p, .ref q]) else (if ltBI y j x i then [.ref q, .ref p] else [.ref p, .ref q])) → KeepsBut [a] s s' → s'.heap.PlainList a (List.toArray out) → Q .none s') :
    wpAny (model P w) A (call (.builtin "list.sort") [.ref a] kws) Q E s := by
  obtain ⟨n, ho⟩ := hl
  have fin : ∀ out, out = (if b then (if ltBI x i y j then [Value.ref q, .ref p] else [.ref p, .ref q]) else (if ltBI y j x i then [.ref q, .ref p] else [.ref p, .ref q])) → Q .none { s with heap := sortedHeap s.heap a [.ref p, .ref q] (List.toArray out) } := fun out e => by
    obtain ⟨c, hc⟩ := sortedHeap_at (out := List.toArray out) ho
    exact h out _ e ⟨_, s.toks, rfl, fun d o hd e => (sortedHeap_old (by simpa using hd) (Heap.lt_size e)).trans e⟩ ⟨c, hc⟩
  cases b with
  | false =>
    subst hk
    refine wpAny_call_entry (self := .ref a) (rest := []) slot_list_sort ⟨_, ho, rfl⟩ entry_list_sort ?_ (args_list_sort _)
    rw [list_sort_plain]
    exact sort2_tree false ho hap haq hp hq fun out e => ⟨_, rfl, fin out e⟩
  | true =>
    subst hk
    refine wpAny_call_entry_kw (self := .ref a) (rest := []) slot_list_sort ⟨_, ho, rfl⟩ entry_list_sort ?_ (args_list_sort_rev _ _)
    rw [if_pos rfl, list_sort_rev]
    exact sort2_tree true ho hap haq hp hq fun out e => ⟨_, rfl, fin out e⟩
end

section
variable {w : World} {A : Around} {E : Value → Shared → Prop} {s : Shared}

theorem zn_list {it l : Addr} {i : Nat} {items : List Value} {x : Value} {Q : Value → Shared → Prop} (hit : s.heap.get? it = some (liObj l i))
    (hl : s.heap.IsList l items.toArray) (hx : items[i]? = some x)
    (hQ : ∀ h', h'.get? it = some (liObj l (i + 1)) → Heap.SameBut it s.heap h' → Q x { s with heap := h' }) :
    wpAny (model P w) A (Builtin.SmallTypes.nextOf (.ref it)) Q E s := by
  have hT : s.TypeIs (.ref it) "list_iterator" := ⟨_, hit, rfl⟩
  obtain ⟨ol, hol, _, nl, hdl⟩ := hl
  have hx' : items.toArray[i]? = some x := by simpa using hx
  unfold Builtin.SmallTypes.nextOf
  refine wpAny_bind (wpAny_callSpecial?_slot (name := Str.ofString "__next__") hT slot_listiter_next
    (wpAny_call_entry slot_listiter_next hT entry_listiter_next ?_ (args_listiter_next _)))
  show wpAny _ _ (field (.ref it) 0 >>= _) _ _ s
  refine wpAny_bind (wpAny_field hit rfl (x := .ref l) rfl ?_)
  show wpAny _ _ (if (Value.ref l == Value.none) = true then _ else _) _ _ s
  rw [if_neg (show ¬ ((Value.ref l == Value.none) = true) from Bool.false_ne_true)]
  show wpAny _ _ (field (.ref it) 1 >>= _) _ _ s
  refine wpAny_bind (wpAny_field hit rfl (x := .int i 0) rfl ?_)
  show wpAny _ _ (seqItems? (.ref l) >>= _) _ _ s
  refine wpAny_bind (wpAny_seqItems hol hdl ?_)
  simp only [Int.toNat_natCast, hx']
  refine wpAny_bind (wpAny_setField hit rfl (by simp) (wpAny_pure ⟨x, rfl, wpAny_pure (hQ _ ?_ (Heap.SameBut.update ..))⟩))
  rw [Heap.get?_update_self _ hit rfl]
  simp [Obj.mapFields, rawInt, liObj]

theorem zn_range {it : Addr} {x left step : Int} {Q : Value → Shared → Prop} (hit : IsRangeIter s.heap it x left step) (hleft : 0 < left)
    (hQ : ∀ h', IsRangeIter h' it (x + step) (left - 1) step → Heap.SameBut it s.heap h' → Q (.int x s.toks) { s with heap := h', toks := s.toks + 1 }) :
    wpAny (model P w) A (Builtin.SmallTypes.nextOf (.ref it)) Q E s := by
  have hT : s.TypeIs (.ref it) "range_iterator" := ⟨_, hit, rfl⟩
  unfold Builtin.SmallTypes.nextOf
  refine wpAny_bind (wpAny_callSpecial?_slot (name := Str.ofString "__next__") hT F.slot_range_iterator_next
    (call_meets F.slot_range_iterator_next hT F.entry_range_iterator_next (F.args_range_iterator_next_1 _) (AutoRange.range_iterator___next___range_iterator_1 it x left step (by omega)) ⟨hit, ?_⟩))
  exact wpAny_pure (hQ _ (Heap.get?_update_self _ (Heap.get?_update_self _ hit rfl) rfl) ((Heap.SameBut.update ..).trans (Heap.SameBut.update ..)))

theorem zn_range_end {it : Addr} {x left step : Int} {Q : Value → Shared → Prop} (hh : A.handled = none) (hit : IsRangeIter s.heap it x left step) (hleft : left ≤ 0)
    (hE : ∀ h' e, Heap.ExtBut it s.heap h' → (∃ o, h'.get? e = some o ∧ o.cls = .type "StopIteration") → E (.ref e) { s with heap := h' }) : wpAny (model P w) A (Builtin.SmallTypes.nextOf (.ref it)) Q E s := by
  have hT : s.TypeIs (.ref it) "range_iterator" := ⟨_, hit, rfl⟩
  unfold Builtin.SmallTypes.nextOf
  refine wpAny_bind (wpAny_callSpecial?_slot (name := Str.ofString "__next__") hT F.slot_range_iterator_next
    (wpAny_call_entry F.slot_range_iterator_next hT F.entry_range_iterator_next ?_ (F.args_range_iterator_next_1 _)))
  show wpAny _ _ (field (.ref it) 0 >>= _) _ _ s
  refine wpAny_bind (wpAny_field hit rfl (x := rawInt x) rfl ?_)
  show wpAny _ _ (field (.ref it) 1 >>= _) _ _ s
  refine wpAny_bind (wpAny_field hit rfl (x := rawInt left) rfl ?_)
  show wpAny _ _ (field (.ref it) 2 >>= _) _ _ s
  refine wpAny_bind (wpAny_field hit rfl (x := rawInt step) rfl ?_)
  show wpAny _ _ (if left ≤ 0 then _ else _) _ _ s
  rw [if_pos hleft]
  refine wpAny_bind (wpAny_rule ?_)
  refine wpAny_bind ?_
  show wpAny _ _ (newExc (.type "StopIteration") [] >>= _) _ _ _
  refine wpAny_bind ?_
  simp only [newExc, newTuple]
  refine wpAny_bind (wpAny_newObj_type ?_ (by size_fits))
  refine wpAny_bind (m := firstArgMember _ _) (wpAny_of_eq (a := Value.none) (by first | rfl | (simp only [firstArgMember]; rfl)) ?_)
  refine wpAny_newObj_type ?_ (by size_fits)
  simp only [raiseNew]
  refine wpAny_bind (wpAny_handled ?_)
  first | rw [show A.in1.handled = none from hh] | rw [hh]
  refine wpAny_bind (wpAny_pure (wpAny_throw ?_))
  refine hE _ _ (fun b o _ e => Heap.get?_push_of_some _ (Heap.get?_push_of_some _ e)) ⟨_, Heap.get?_push_size _ rfl, rfl⟩

structure ZApart (z TI TO i1 I l : Addr) : Prop where
  TIz : TI ≠ z
  TOz : TO ≠ z
  i1z : i1 ≠ z
  Iz : I ≠ z
  TITO : TI ≠ TO
  TIi1 : TI ≠ i1
  TII : TI ≠ I
  TOi1 : TO ≠ i1
  TOI : TO ≠ I
  i1I : i1 ≠ I
  lz : l ≠ z
  lTO : l ≠ TO
  li1 : l ≠ i1
  lI : l ≠ I

theorem z_item {z TI TO i1 I l : Addr} {k : Nat} {ys : List Value} {x left step : Int} {y a b : Value} {Q : Value → Shared → Prop} (D : ZApart z TI TO i1 I l)
    (hz : IsZip s.heap z TI TO .none) (hTI : IsPair s.heap TI (.ref i1) (.ref I)) (hTO : IsPair s.heap TO a b)
    (h1 : IsRangeIter s.heap i1 x left step) (hleft : 0 < left) (h2 : s.heap.get? I = some (liObj l k)) (hl2 : s.heap.IsList l ys.toArray) (hy : ys[k]? = some y)
    (hQ : ∀ T t s', s.heap.get? T = none → IsZip s'.heap z TI TO (rawInt T) → (∃ a b, IsPair s'.heap TO a b) → IsRangeIter s'.heap i1 (x + step) (left - 1) step → s'.heap.get? I = some (liObj l (k + 1)) → s'.heap.get? T = some (tupObj [.int x t, y]) →
      KeepsBut [z, TO, i1, I] s s' → Q (.ref T) s') :
    wpAny (model P w) A (Builtin.«zip.__next__» ⟨[.ref z], []⟩) (fun fin s' => ∃ v, fin = .done (.ret v) ∧ Q v s') E s := by
  show wpAny _ _ (field (.ref z) 2 >>= _) _ _ _
  refine wpAny_bind (wpAny_field hz rfl (x := .bool false) rfl ?_)
  show wpAny _ _ (field (.ref z) 3 >>= _) _ _ _
  refine wpAny_bind (wpAny_field hz rfl (x := .ref TI) rfl ?_)
  refine wpAny_bind (wpAny_seqItems hTI rfl ?_)
  show wpAny _ _ (Builtin.SmallTypes.ownedTupleIsFree (.ref z) >>= _) _ _ _
  refine wpAny_bind ?_
  unfold Builtin.SmallTypes.ownedTupleIsFree
  refine wpAny_bind (wpAny_field hz rfl (x := .none) rfl (wpAny_pure ?_))
  simp only [if_true]
  refine wpAny_bind (wpAny_rule ?_)
  refine wpAny_bind (wpAny_field hz rfl (x := .ref TO) rfl ?_)
  refine wpAny_bind (wpAny_setField_rec hz (by simp) fun h₁ hz₁ hs₁ => ?_)
  replace hz₁ : IsZip h₁ z TI TO .ellipsis := hz₁
  refine wpAny_bind ?_
  simp only [List.zipIdx_cons, List.zipIdx_nil, List.forIn_cons, List.forIn_nil]
  refine wpAny_bind (wpAny_bind (wpAny_onRaise ?_))
  show wpAny _ _ (Builtin.SmallTypes.nextOf (.ref i1) >>= _) _ _ _
  refine wpAny_bind (zn_range (hs₁.extBut _ _ D.i1z h1) hleft fun h₂ h1₂ hs₂ => wpAny_pure ?_)
  have hTO₂ : IsPair h₂ TO a b := hs₂.extBut _ _ D.TOi1 (hs₁.extBut _ _ D.TOz hTO)
  refine wpAny_bind (wpAny_seqItems hTO₂ rfl ?_)
  refine wpAny_bind (wpAny_updateSeq_pair hTO₂ fun h₃ hTO₃ hs₃ => ?_)
  replace hTO₃ : IsPair h₃ TO (.int x s.toks) b := hTO₃
  refine wpAny_bind (wpAny_letGo (wpAny_pure ?_))
  refine wpAny_bind (wpAny_bind (wpAny_onRaise ?_))
  show wpAny _ _ (Builtin.SmallTypes.nextOf (.ref I) >>= _) _ _ _
  have hI₃ : h₃.get? I = some (liObj l k) := hs₃.extBut _ _ D.TOI.symm (hs₂.extBut _ _ D.i1I.symm (hs₁.extBut _ _ D.Iz h2))
  refine wpAny_bind (zn_list hI₃ (((hl2.extBut hs₁.extBut D.lz).extBut hs₂.extBut D.li1).extBut hs₃.extBut D.lTO) hy fun h₄ h2₄ hs₄ => wpAny_pure ?_)
  have hTO₄ : IsPair h₄ TO (.int x s.toks) b := hs₄.extBut _ _ D.TOI hTO₃
  refine wpAny_bind (wpAny_seqItems hTO₄ rfl ?_)
  refine wpAny_bind (wpAny_updateSeq_pair hTO₄ fun h₅ hTO₅ hs₅ => ?_)
  replace hTO₅ : IsPair h₅ TO (.int x s.toks) y := hTO₅
  refine wpAny_bind (wpAny_letGo (wpAny_pure (wpAny_pure ?_)))
  refine wpAny_bind (wpAny_seqItems hTO₅ rfl ?_)
  refine wpAny_bind (wpAny_newTuple ?_)
  have hsz : h₅.objs.size = s.heap.objs.size := by rw [hs₅.1, hs₄.1, hs₃.1, hs₂.1, hs₁.1]
  have hz₅ : IsZip h₅ z TI TO .ellipsis := hs₅.extBut _ _ D.TOz.symm (hs₄.extBut _ _ D.Iz.symm (hs₃.extBut _ _ D.TOz.symm (hs₂.extBut _ _ D.i1z.symm hz₁)))
  have hk₅ : ∀ c o, c ≠ z → c ≠ TO → c ≠ i1 → c ≠ I → s.heap.get? c = some o → h₅.get? c = some o := fun c o c1 c2 c3 c4 e =>
    hs₅.extBut _ _ c2 (hs₄.extBut _ _ c4 (hs₃.extBut _ _ c2 (hs₂.extBut _ _ c3 (hs₁.extBut _ _ c1 e))))
  have h1₅ : IsRangeIter h₅ i1 (x + step) (left - 1) step := hs₅.extBut _ _ D.TOi1.symm (hs₄.extBut _ _ D.i1I (hs₃.extBut _ _ D.TOi1.symm h1₂))
  have h2₅ : h₅.get? I = some (liObj l (k + 1)) := hs₅.extBut _ _ D.TOI.symm h2₄
  have hzlt : z < h₅.objs.size := Heap.lt_size hz₅
  show wpAny _ _ (Builtin.SmallTypes.ownedTupleHandOut (.ref z) (.ref h₅.objs.size) >>= _) _ _ _
  refine wpAny_bind ?_
  unfold Builtin.SmallTypes.ownedTupleHandOut
  have hz₆ : IsZip (h₅.push { cls := .type "tuple", data := .seq #[.int x s.toks, y] }) z TI TO .ellipsis := Heap.get?_push_of_some _ hz₅
  refine wpAny_bind (wpAny_setField_rec hz₆ (by simp) fun h₇ hz₇ hs₇ => ?_)
  replace hz₇ : IsZip h₇ z TI TO (rawInt h₅.objs.size) := hz₇
  refine wpAny_setField_rec hz₇ (by simp) fun h₈ hz₈ hs₈ => ?_
  replace hz₈ : IsZip h₈ z TI TO (rawInt h₅.objs.size) := hz₈
  have up : ∀ c o, c ≠ z → h₅.get? c = some o → h₈.get? c = some o := fun c o c1 e => hs₈.extBut _ _ c1 (hs₇.extBut _ _ c1 (Heap.get?_push_of_some _ e))
  have hT₈ : h₈.get? h₅.objs.size = some (tupObj [.int x s.toks, y]) := hs₈.extBut _ _ (Nat.ne_of_gt hzlt) (hs₇.extBut _ _ (Nat.ne_of_gt hzlt) (Heap.get?_push_size _ rfl))
  refine wpAny_pure ⟨_, rfl, ?_⟩
  show Q (.ref h₅.objs.size) _
  refine hQ _ s.toks _ ?_ hz₈ ⟨_, _, up _ _ D.TOz hTO₅⟩ (up _ _ D.i1z h1₅) (up _ _ D.Iz h2₅) hT₈ ⟨h₈, _, rfl, fun c o hc e => ?_⟩
  · rw [hsz]; exact get?_size_none _
  · simp only [List.mem_cons, List.not_mem_nil, or_false, not_or] at hc
    exact up c o hc.1 (hk₅ c o hc.1 hc.2.1 hc.2.2.1 hc.2.2.2 e)

theorem z_end {z TI TO i1 I : Addr} {x left step : Int} {Q : PySem.Fin → Shared → Prop} (hh : A.handled = none) (i1z : i1 ≠ z)
    (hz : IsZip s.heap z TI TO .none) (hTI : IsPair s.heap TI (.ref i1) (.ref I)) (h1 : IsRangeIter s.heap i1 x left step) (hleft : left ≤ 0)
    (hE : ∀ h' e, (∀ c o, c ≠ z → c ≠ i1 → s.heap.get? c = some o → h'.get? c = some o) → (∃ o, h'.get? e = some o ∧ o.cls = .type "StopIteration") → E (.ref e) { s with heap := h' }) :
    wpAny (model P w) A (Builtin.«zip.__next__» ⟨[.ref z], []⟩) Q E s := by
  show wpAny _ _ (field (.ref z) 2 >>= _) _ _ _
  refine wpAny_bind (wpAny_field hz rfl (x := .bool false) rfl ?_)
  show wpAny _ _ (field (.ref z) 3 >>= _) _ _ _
  refine wpAny_bind (wpAny_field hz rfl (x := .ref TI) rfl ?_)
  refine wpAny_bind (wpAny_seqItems hTI rfl ?_)
  show wpAny _ _ (Builtin.SmallTypes.ownedTupleIsFree (.ref z) >>= _) _ _ _
  refine wpAny_bind ?_
  unfold Builtin.SmallTypes.ownedTupleIsFree
  refine wpAny_bind (wpAny_field hz rfl (x := .none) rfl (wpAny_pure ?_))
  simp only [if_true]
  refine wpAny_bind (wpAny_rule ?_)
  refine wpAny_bind (wpAny_field hz rfl (x := .ref TO) rfl ?_)
  refine wpAny_bind (wpAny_setField_rec hz (by simp) fun h₁ hz₁ hs₁ => ?_)
  replace hz₁ : IsZip h₁ z TI TO .ellipsis := hz₁
  refine wpAny_bind ?_
  simp only [List.zipIdx_cons, List.zipIdx_nil, List.forIn_cons, List.forIn_nil]
  refine wpAny_bind (wpAny_bind (wpAny_onRaise ?_))
  show wpAny _ _ (Builtin.SmallTypes.nextOf (.ref i1) >>= _) _ _ _
  refine wpAny_bind (zn_range_end hh (hs₁.extBut _ _ i1z h1) hleft fun h₂ e hs₂ he => ?_)
  obtain ⟨oe, hoe, hce⟩ := he
  have hz₂ : IsZip h₂ z TI TO .ellipsis := hs₂ _ _ i1z.symm hz₁
  have hez : e ≠ z := fun x => by subst x; rw [hz₂] at hoe; cases hoe; simp at hce
  refine wpAny_setField_rec hz₂ (by simp) fun h₃ _ hs₃ => hE h₃ e (fun c o c1 c3 x => hs₃.extBut _ _ c1 (hs₂ _ _ c3 (hs₁.extBut _ _ c1 x))) ⟨oe, hs₃.extBut _ _ hez hoe, hce⟩
end

noncomputable def riObj (a n c : Int) : Obj := { cls := .type "range_iterator", data := .fields #[rawInt a, rawInt n, rawInt c] }
noncomputable abbrev zH1 (h : Heap) (a n c : Int) : Heap := h.push (riObj a n c)
noncomputable abbrev zH3 (h : Heap) (a n c : Int) (I : Addr) : Heap := (zH1 h a n c).push { cls := .type "tuple", data := .seq #[.ref h.objs.size, .ref I] }
noncomputable abbrev zH4 (h : Heap) (a n c : Int) (I : Addr) : Heap := (zH3 h a n c I).push { cls := .type "tuple", data := .seq #[.none, .none] }
noncomputable abbrev zH5 (h : Heap) (a n c : Int) (I : Addr) : Heap := (zH4 h a n c I).push { cls := .type "zip", data := .fields #[.none, .bool false, .bool false, .ref (zH1 h a n c).objs.size, .ref (zH3 h a n c I).objs.size] }

theorem z_new_meets (r I l : Addr) (a b c : Int) (t u v : Tok) (k : Nat) (hs : Builtin.Range.small a b c = true) :
    Meets (Builtin.«zip.__new__» ⟨[.type "zip", .ref r, .ref I], []⟩) (fun _ R s => IsRange s.heap r a b c t u v ∧ s.heap.IsListIter I l k ∧
      R (.ok (.ret (.ref (zH4 s.heap a (Builtin.Range.rangeSize a b c) c I).objs.size))) { s with heap := zH5 s.heap a (Builtin.Range.rangeSize a b c) c I }) :=
  .of_wp fun prog w A R s h => by
    obtain ⟨hp, g, d, tk, os⟩ := s; obtain ⟨hr, hI, h⟩ := h
    have hsub := sub_zip
    have hR : IsRange (Shared.heap ⟨hp, g, d, tk, os⟩) r a b c t u v := hr
    have hL2 : Heap.IsListIter (Shared.heap ⟨hp.push { cls := .type "range_iterator", data := .fields #[rawInt a, rawInt (Builtin.Range.rangeSize a b c), rawInt c] }, g, d, tk, os⟩) I l k := hI.at fun o e => Heap.get?_push_of_some _ e
    wp_walk using wpAny_pyIter_range hR hs, wpAny_pyIter_listiter hL2
    exact ⟨_, rfl, h⟩

section
variable {w : World} {A : Around} {E : Value → Shared → Prop} {s : Shared}
/-- the zip of a range and of a list's iterator -/
noncomputable def ZSt (z TI TO i1 I l : Addr) (ys : List Value) (a c : Int) (n j : Nat) (k : Nat) (h : Heap) : Prop :=
  IsZip h z TI TO .none ∧ IsPair h TI (.ref i1) (.ref I) ∧ (∃ p q, IsPair h TO p q) ∧ IsRangeIter h i1 (a + (k : Nat) * c) ((n : Int) - (k : Nat)) c ∧ h.get? I = some (liObj l (j + k)) ∧ h.IsList l ys.toArray

theorem zap_nat (S I l : Nat) (h1 : I < S) (h2 : l < S) (h3 : l ≠ I) : ZApart (S + 3) (S + 1) (S + 2) S I l := by
  have q : S + 1 ≠ S + 3 ∧ S + 2 ≠ S + 3 ∧ S ≠ S + 3 ∧ I ≠ S + 3 ∧ S + 1 ≠ S + 2 ∧ S + 1 ≠ S ∧ S + 1 ≠ I ∧ S + 2 ≠ S ∧ S + 2 ≠ I ∧ S ≠ I ∧ l ≠ S + 3 ∧ l ≠ S + 2 ∧ l ≠ S := by lia
  exact ⟨q.1, q.2.1, q.2.2.1, q.2.2.2.1, q.2.2.2.2.1, q.2.2.2.2.2.1, q.2.2.2.2.2.2.1, q.2.2.2.2.2.2.2.1, q.2.2.2.2.2.2.2.2.1, q.2.2.2.2.2.2.2.2.2.1, q.2.2.2.2.2.2.2.2.2.2.1, q.2.2.2.2.2.2.2.2.2.2.2.1, q.2.2.2.2.2.2.2.2.2.2.2.2, h3⟩
theorem znd_nat (S : Nat) : [S + 3, S + 1, S + 2, S].Nodup := by
  simp only [List.nodup_cons, List.mem_cons, List.not_mem_nil, or_false, not_or, List.nodup_nil, and_true, not_false_eq_true]
  lia
theorem k_zip {r I l : Addr} {ys : List Value} {a b c : Int} {n j : Nat} {t u v : Tok} {Q : Value → Shared → Prop} (hr : IsRange s.heap r a b c t u v) (hs : Builtin.Range.small a b c = true) (hn : Builtin.Range.rangeSize a b c = n)
    (hI : s.heap.get? I = some (liObj l j)) (hl : s.heap.IsList l ys.toArray) (hlI : l ≠ I)
    (h : ∀ z TI TO i1 s', Keeps s s' → ZApart z TI TO i1 I l → (∀ x ∈ [z, TI, TO, i1], s.heap.get? x = none) → [z, TI, TO, i1].Nodup → ZSt z TI TO i1 I l ys a c n j 0 s'.heap → Q (.ref z) s') :
    wpAny (model P w) A (call (.type "zip") [.ref r, .ref I]) Q E s := by
  have hIi : s.heap.IsListIter I l j := ⟨_, hI, rfl, rfl⟩
  have hIlt : I < s.heap.objs.size := Heap.lt_size hI
  have hllt : l < s.heap.objs.size := by obtain ⟨o, ho, _⟩ := hl; exact Heap.lt_size ho
  refine callType_new F.called_zip (by decide) (F.typeCall_zip_2 _ _) (F.newCall_zip_2 _ _) (fun obj => F.args_object_init_3 obj _ _) F.entry_zip_new (z_new_meets r I l a b c t u v j hs) ⟨hr, hIi, ?_⟩
  rw [hn]
  have z1 : (zH1 s.heap a n c).objs.size = s.heap.objs.size + 1 := Heap.size_push ..
  have z3 : (zH3 s.heap a n c I).objs.size = s.heap.objs.size + 2 := by rw [Heap.size_push, z1]
  have z4 : (zH4 s.heap a n c I).objs.size = s.heap.objs.size + 3 := by rw [Heap.size_push, z3]
  have g5 : (zH5 s.heap a n c I).get? (zH4 s.heap a n c I).objs.size = some _ := Heap.get?_push_size _ rfl
  have g4 : (zH5 s.heap a n c I).get? (zH3 s.heap a n c I).objs.size = some _ := Heap.get?_push_of_some _ (Heap.get?_push_size _ rfl)
  have g3 : (zH5 s.heap a n c I).get? (zH1 s.heap a n c).objs.size = some _ := Heap.get?_push_of_some _ (Heap.get?_push_of_some _ (Heap.get?_push_size _ rfl))
  have g1 : (zH5 s.heap a n c I).get? s.heap.objs.size = some _ := Heap.get?_push_of_some _ (Heap.get?_push_of_some _ (Heap.get?_push_of_some _ (Heap.get?_push_size _ rfl)))
  have kk : ∀ d o, s.heap.get? d = some o → (zH5 s.heap a n c I).get? d = some o := fun d o e =>
    Heap.get?_push_of_some _ (Heap.get?_push_of_some _ (Heap.get?_push_of_some _ (Heap.get?_push_of_some _ e)))
  rw [z1, z3, z4] at g5
  rw [z1] at g3
  rw [z3] at g4
  show _ ∧ _
  rw [z4]
  refine ⟨⟨_, g5, rfl⟩, h (s.heap.objs.size + 3) (s.heap.objs.size + 1) (s.heap.objs.size + 2) s.heap.objs.size _ ⟨_, s.toks, rfl, kk⟩ ?_ ?_ ?_ ?_⟩
  · exact zap_nat _ _ _ hIlt hllt hlI
  · have fr : ∀ d, s.heap.objs.size ≤ d → s.heap.get? d = none := fun d hd => by
      cases e : s.heap.get? d with
      | none => rfl
      | some o' => exact absurd (Heap.lt_size e) (Nat.not_lt.mpr hd)
    intro x hx
    simp only [List.mem_cons, List.not_mem_nil, or_false] at hx
    rcases hx with rfl | rfl | rfl | rfl <;> exact fr _ (by first | exact Nat.le_refl _ | exact Nat.le_add_right _ _)
  · exact znd_nat _
  · refine ⟨g5, g3, ⟨_, _, g4⟩, ?_, kk _ _ hI, hl.at fun o e => kk _ _ e⟩
    have e1 : a + ((0 : Nat) : Int) * c = a := by simp
    have e2 : (n : Int) - ((0 : Nat) : Int) = n := by simp
    rw [e1, e2]
    exact g1

theorem Itr.zip {elts : List Expr} {tk : Nat} {tp : Pos} (hh : A.handled = none) {z TI TO i1 I l : Addr} (D : ZApart z TI TO i1 I l) (nd : [z, TI, TO, i1].Nodup) (ys : List Value) (a c : Int) (n j : Nat) (hjn : j + n ≤ ys.length) :
    Itr w A (.Tuple elts tk tp) z [z, TI, TO, i1, I, l] [z, TO, i1, I] n (fun k v h => ∃ T t x, v = .ref T ∧ ys[j + k]? = some x ∧ h.get? T = some (tupObj [.int (a + k * c) t, x])) (ZSt z TI TO i1 I l ys a c n j) [(I, Cell.obj (liObj l (j + n)))] where
  sub := fun b hb => by simp at hb ⊢; rcases hb with rfl | rfl | rfl | rfl <;> simp
  xsub := fun p hp => by cases List.mem_singleton.mp hp; simp
  xnd := by simp
  ex := fun k h st b hb => by
    obtain ⟨hz, hTI, ⟨p, q, hTO⟩, h1, h2, hl⟩ := st
    simp only [List.mem_cons, List.not_mem_nil, or_false] at hb
    rcases hb with rfl | rfl | rfl | rfl | rfl | rfl
    · exact ⟨_, hz⟩
    · exact ⟨_, hTI⟩
    · exact ⟨_, hTO⟩
    · exact ⟨_, h1⟩
    · exact ⟨_, h2⟩
    · obtain ⟨o, ho, _⟩ := hl; exact ⟨o, ho⟩
  frame := fun k h h' st hk => by
    obtain ⟨hz, hTI, ⟨p, q, hTO⟩, h1, h2, hl⟩ := st
    exact ⟨hk z (by simp) _ hz, hk TI (by simp) _ hTI, ⟨p, q, hk TO (by simp) _ hTO⟩, hk i1 (by simp) _ h1, hk I (by simp) _ h2, hl.at fun o e => hk l (by simp) o e⟩
  item := fun k s Q E hk st hQ => by
    obtain ⟨hz, hTI, ⟨p, q, hTO⟩, h1, h2, hl⟩ := st
    have hT : s.TypeIs (.ref z) "zip" := ⟨_, hz, rfl⟩
    obtain ⟨y, hy⟩ : ∃ y, ys[j + k]? = some y := ⟨_, List.getElem?_eq_getElem (by lia)⟩
    unfold pyNext
    refine wpAny_bind (wpAny_attempt (wpAny_callSpecial?_slot (name := Str.ofString "__next__") hT F.slot_zip_next
      (wpAny_call_entry F.slot_zip_next hT F.entry_zip_next (z_item D hz hTI hTO h1 (by lia) h2 hl hy fun T t s' hTn hz' hTO' h1' h2' hT' kb => ?_) (F.args_zip_next_1 _))))
    refine wpAny_pure ?_
    refine wpAny_letOwnedTupleGo_zip hz' fun h'' hz'' hs'' => ?_
    have hTI' : IsPair s'.heap TI (.ref i1) (.ref I) := kb.get (by simp only [List.mem_cons, List.not_mem_nil, or_false, not_or]; exact ⟨D.TIz, D.TITO, D.TIi1, D.TII⟩) hTI
    have hl' : s'.heap.IsList l ys.toArray := hl.at fun o e => kb.get (by simp only [List.mem_cons, List.not_mem_nil, or_false, not_or]; exact ⟨D.lz, D.lTO, D.li1, D.lI⟩) e
    obtain ⟨p', q', hTO'⟩ := hTO'
    have hTz : T ≠ z := fun e => by rw [e, show s.heap.get? z = some _ from hz] at hTn; cases hTn
    obtain ⟨h', tk', rfl, kb⟩ := kb
    have e1 : a + ((k + 1 : Nat) : Int) * c = a + (k : Int) * c + c := by push_cast; rw [Int.add_mul, Int.one_mul, Int.add_assoc]
    have e2 : (n : Int) - ((k + 1 : Nat) : Int) = (n : Int) - (k : Int) - 1 := by push_cast; lia
    refine hQ (.ref T) h'' _ ⟨T, t, y, rfl, hy, hs''.extBut _ _ hTz hT'⟩ ⟨hz'', hs''.extBut _ _ D.TIz hTI', ⟨p', q', hs''.extBut _ _ D.TOz hTO'⟩, ?_, hs''.extBut _ _ D.Iz h2', hl'.extBut hs''.extBut D.lz⟩ (fun b o hb e => ?_)
    · rw [e1, e2]; exact hs''.extBut _ _ D.i1z h1'
    · simp only [List.mem_cons, List.not_mem_nil, or_false, not_or] at hb
      exact hs''.extBut _ _ hb.1 (kb b o (by simp only [List.mem_cons, List.not_mem_nil, or_false, not_or]; exact hb) e)
  done := fun s Q E st hQ => by
    obtain ⟨hz, hTI, ⟨p, q, hTO⟩, h1, h2, hl⟩ := st
    have hT : s.TypeIs (.ref z) "zip" := ⟨_, hz, rfl⟩
    unfold pyNext
    refine wpAny_bind (wpAny_attempt (wpAny_callSpecial?_slot (name := Str.ofString "__next__") hT F.slot_zip_next
      (wpAny_call_entry F.slot_zip_next hT F.entry_zip_next (z_end (A := A.in1) hh D.i1z hz hTI h1 (by lia) fun h' e hk he => ?_) (F.args_zip_next_1 _))))
    obtain ⟨o, ho, hc⟩ := he
    refine wpAny_bind (wpAny_isInstance (T := "StopIteration") (b := true) ⟨o, ho, hc⟩ isSubtype_stop ?_)
    refine wpAny_pure (hQ h' s.toks (fun b o hb e => ?_) fun p hp => ?_)
    · simp only [List.mem_cons, List.not_mem_nil, or_false, not_or] at hb
      exact hk b o hb.1 hb.2.2.1 e
    · cases List.mem_singleton.mp hp
      exact hk I _ D.Iz D.i1I.symm h2
  self := fun k s Q E st hQ => wpAny_pyIter_zip st.1 hQ

theorem Itr.listT {elts : List Expr} {tk : Nat} {tp : Pos} (hh : A.handled = none) (I b : Addr) (hne : b ≠ I) (xs : List Value) (hx : ∀ v ∈ xs, ∃ T, v = .ref T) :
    Itr w A (.Tuple elts tk tp) I [I, b] [I] xs.length (fun i v _ => xs[i]? = some v) (fun i h => h.IsListIter I b i ∧ h.IsList b xs.toArray) [] where
  sub := fun c hc => by simp at hc; simp [hc]
  xsub := fun _ h => nomatch h
  xnd := List.nodup_nil
  ex := fun i h st c hc => by
    rcases List.mem_cons.mp hc with rfl | hc
    · obtain ⟨o, ho, _⟩ := st.1
      exact ⟨o, ho⟩
    · cases List.mem_singleton.mp hc
      obtain ⟨o, ho, _⟩ := st.2
      exact ⟨o, ho⟩
  frame := fun _ _ _ st hk => ⟨st.1.at fun o e => hk I (by simp) o e, st.2.at fun o e => hk b (by simp) o e⟩
  item := fun i s Q E hi st hQ => by
    obtain ⟨y, hy⟩ : ∃ y, xs[i]? = some y := ⟨_, List.getElem?_eq_getElem hi⟩
    obtain ⟨T, rfl⟩ := hx y (List.mem_of_getElem? hy)
    refine wpAny_pyNext_list_item st.1 st.2 (x := .ref T) (by simpa using hy) fun h' hit' hs' => ?_
    refine wpAny_letOwnedTupleGo_listiter hit' ?_
    exact hQ _ h' s.toks hy ⟨hit', st.2.extBut hs'.extBut hne⟩ fun b o hb e => hs'.extBut b o (fun h => hb (by simp [h])) e
  done := fun s Q E st hQ => wpAny_pyNext_list_end hh st.1 st.2 (by simp) fun h' he' => hQ h' s.toks (fun b o hb e => he' b o (fun h => hb (by simp [h])) e) fun _ h => nomatch h
  self := fun _ _ _ _ st hQ => wpAny_pyIter_listiter st.1 hQ

theorem k_pyIterL {b : Addr} {xs : List Value} {Q : Value → Shared → Prop} (hl : s.heap.IsList b xs.toArray) (h : ∀ I s', Keeps s s' → s.heap.get? I = none → b ≠ I → s'.heap.get? I = some (liObj b 0) → Q (.ref I) s') : wpAny (model P w) A (pyIter (.ref b)) Q E s := by
  refine wpAny_pyIter_list hl (h _ _ (keeps_push s _ s.toks) (get?_size_none _) ?_ (Heap.get?_push_size _ rfl))
  obtain ⟨o, ho, _⟩ := hl
  exact Nat.ne_of_lt (Heap.lt_size ho)
end

theorem siftup_two (lt : Value → Value → Bool) (a b : Value) : siftupP lt [a, b] 0 = if lt a b then [a, b] else [b, a] := by
  cases h : lt a b <;> simp [siftupP, suGo, childOf, siftdownP, sdGo, h]
theorem heapify_two (lt : Value → Value → Bool) (a b : Value) : heapifyP lt [a, b] = if lt a b then [a, b] else [b, a] := by
  have e : [a, b].length / 2 = 1 := by simp
  unfold heapifyP
  rw [e]
  simp only [heapifyGo]
  exact siftup_two lt a b

theorem oltB_irrefl (a : List UInt8) : oltB a a = false := bytesKind.irrefl a
theorem oltB_asymm {a b : List UInt8} (h : oltB a b = true) : oltB b a = false := by
  cases e : oltB b a with
  | false => rfl
  | true => have := bytesKind.trans a b a h e; rw [show bytesKind.blt a a = oltB a a from rfl, oltB_irrefl] at this; cases this
/-- not above -/
noncomputable def leB (a b : List UInt8) : Prop := oltB b a = false
theorem leB_trans {a b c : List UInt8} (h1 : leB a b) (h2 : leB b c) : leB a c := PyProof.Rows.KeyOrd.kle_trans (O := bytesKind.toKeyOrd) h1 h2
theorem leB_refl (a : List UInt8) : leB a a := oltB_irrefl a
theorem leB_total (a b : List UInt8) : leB a b ∨ leB b a := by
  unfold leB
  cases e : oltB b a with
  | false => exact .inl rfl
  | true => exact .inr (oltB_asymm e)
theorem leB_antisymm {a b : List UInt8} (h1 : leB a b) (h2 : leB b a) : a = b := bytesKind.total a b h2 h1
theorem leB_of_lt {a b : List UInt8} (h : oltB a b = true) : leB a b := oltB_asymm h

/-- of the pairs p, q (p the upper one in the heap's sense) -/
theorem ltBI_false {x y : List UInt8} {i j : Int} (h : ltBI x i y j = false) : leB y x := by
  unfold ltBI at h
  by_cases e : x = y
  · rw [e]; exact leB_refl _
  · rw [if_neg e] at h; exact h
theorem ltBI_true {x y : List UInt8} {i j : Int} (h : ltBI x i y j = true) : leB x y := by
  unfold ltBI at h
  by_cases e : x = y
  · rw [e]; exact leB_refl _
  · rw [if_neg e] at h; exact leB_of_lt h

/-- what is known of the two that nsmallest has at hand -/
structure Two (x0 x1 : List UInt8) (rest all : List (List UInt8)) : Prop where
  perm : (x1 :: x0 :: rest).Perm all
  le : leB x1 x0
  below : ∀ r ∈ rest, leB x0 r

/-- the turns of the comprehension that takes the first two with their numbers -/
noncomputable def NsJ (y0 y1 : List UInt8) (i0 i1 : Int) : Nat → List Value → List (Addr × Cell) → Prop
  | 0, us, N => us = [] ∧ N = []
  | 1, us, N => ∃ T0 t0 u0, us = [.ref T0] ∧ N = [(T0, Cell.obj (tupObj [.bytes (List.toArray y0) t0, .int i0 u0]))]
  | _, us, N => ∃ T0 t0 u0 T1 t1 u1, us = [.ref T0, .ref T1] ∧ N = [(T1, Cell.obj (tupObj [.bytes (List.toArray y1) t1, .int i1 u1])), (T0, Cell.obj (tupObj [.bytes (List.toArray y0) t0, .int i0 u0]))]

/-- one more -/
theorem Two.above {x0 x1 y : List UInt8} {rest all : List (List UInt8)} (h : Two x0 x1 rest all) (hy : oltB y x0 = false) : Two x0 x1 (y :: rest) (all ++ [y]) := by
  refine ⟨?_, h.le, fun r hr => ?_⟩
  · have e : (x1 :: x0 :: y :: rest).Perm (y :: x1 :: x0 :: rest) :=
      ((List.Perm.swap y x0 rest).cons x1).trans (List.Perm.swap y x1 (x0 :: rest))
    exact e.trans ((h.perm.cons y).trans (List.perm_append_singleton y all).symm)
  · rcases List.mem_cons.mp hr with rfl | hr
    · exact hy
    · exact h.below r hr
theorem Two.under1 {x0 x1 y : List UInt8} {rest all : List (List UInt8)} (h : Two x0 x1 rest all) (hy : oltB y x0 = true) (h1 : leB x1 y) : Two y x1 (x0 :: rest) (all ++ [y]) := by
  refine ⟨?_, h1, fun r hr => ?_⟩
  · have e : (x1 :: y :: x0 :: rest).Perm (y :: x1 :: x0 :: rest) := List.Perm.swap _ _ _
    exact e.trans ((h.perm.cons y).trans (List.perm_append_singleton y all).symm)
  · rcases List.mem_cons.mp hr with rfl | hr
    · exact leB_of_lt hy
    · exact leB_trans (leB_of_lt hy) (h.below r hr)
theorem Two.under2 {x0 x1 y : List UInt8} {rest all : List (List UInt8)} (h : Two x0 x1 rest all) (hy : oltB y x0 = true) (h1 : leB y x1) : Two x1 y (x0 :: rest) (all ++ [y]) := by
  refine ⟨(h.perm.cons y).trans (List.perm_append_singleton y all).symm, h1, fun r hr => ?_⟩
  rcases List.mem_cons.mp hr with rfl | hr
  · exact h.le
  · exact leB_trans h.le (h.below r hr)

/-- ten witnesses, and eight, taken at once -/
inductive Ex10 (F : Addr → Addr → List UInt8 → List UInt8 → Int → Int → Tok → Tok → Tok → Tok → Prop) : Prop
  | mk (P0 P1 : Addr) (x0 x1 : List UInt8) (j0 j1 : Int) (t0 t1 u0 u1 : Tok) : F P0 P1 x0 x1 j0 j1 t0 t1 u0 u1 → Ex10 F
inductive Ex8 (F : Addr → Addr → Int → Int → Tok → Tok → Tok → Tok → Prop) : Prop
  | mk (P0 P1 : Addr) (j0 j1 : Int) (t0 t1 u0 u1 : Tok) : F P0 P1 j0 j1 t0 t1 u0 u1 → Ex8 F
/-- what stands between two turns of the loop -/
inductive NsInv (t : Tok) (hp I D : Addr) (sz : Value) (ck : Addr) (ok : Obj) (hrep : Value) (F : List UInt8 → List UInt8 → List (List UInt8) → Prop) : List (Str × Option Value) → List (Addr × Cell) → Prop
  | mk (P0 P1 : Addr) (x0 x1 : List UInt8) (j0 j1 : Int) (t0 t1 u0 u1 : Tok) (rest : List (List UInt8)) (ue : Option Value) (tt to : Tok) (od : Int) (uo : Option Value) : F x0 x1 rest → NsInv t hp I D sz ck ok hrep F
      [("n", some (.int 2 t)), ("iterable", some (.ref hp)), ("it", some (.ref I)), ("sentinel", none), ("result", some (.ref D)), ("size", some sz), ("elem", ue), ("top", some (.bytes (List.toArray x0) tt)), ("order", some (.int od to)), ("_heapreplace", some hrep), ("_order", uo), ("k", none), ("_elem", none)]
      [(P0, Cell.obj (tupObj [.bytes (List.toArray x0) t0, .int j0 u0])), (P1, Cell.obj (tupObj [.bytes (List.toArray x1) t1, .int j1 u1])), (D, Cell.list [.ref P0, .ref P1]), (ck, Cell.obj ok)]

theorem nsmall_spec {w : World} {A : Around} {s : Shared} {hp : Addr} {vs : List Value} {ys : List (List UInt8)} {t : Tok} {Q E : Value → Shared → Prop}
   (hG : G w s.heap) (hr : Room A 10 100) (hl : s.heap.IsList hp vs.toArray) (hB : BytesAre vs ys) (hn3 : 2 < vs.length) (hn : vs.length < 2 ^ 20)
   (hQ : ∀ D s' us a b rest, Keeps s s' → s.heap.get? D = none → s'.heap.PlainList D us.toArray → BytesAre us [a, b] → Two b a rest ys → Q (.ref D) s') :
   wpAny (model P w) A (call (.ref 275) [.int 2 t, .ref hp]) Q E s := by
  obtain ⟨y0, y1, yr, rfl⟩ : ∃ y0 y1 yr, ys = y0 :: y1 :: yr := by
    have h3 : 2 < ys.length := by rw [← hB.length]; exact hn3
    match ys, h3 with
    | [], h => simp at h
    | [_], h => simp at h
    | y0 :: y1 :: yr, _ => exact ⟨_, _, _, rfl⟩
  refine call_bodyC (d := 9) (u := 97) (binds := [("n", .int 2 t), ("iterable", .ref hp), ("key", .none)]) (lb := [("n", .int 2 t), ("iterable", .ref hp)]) (cb := [("key", .none)])
    (l := [("n", some (.int 2 t)), ("iterable", some (.ref hp)), ("it", none), ("sentinel", none), ("result", none), ("size", none), ("elem", none), ("top", none), ("order", none), ("_heapreplace", none), ("_order", none), ("k", none), ("_elem", none)]) []
    [Str.ofString "it", Str.ofString "sentinel", Str.ofString "result", Str.ofString "size", Str.ofString "elem", Str.ofString "top", Str.ofString "order", Str.ofString "_heapreplace", Str.ofString "_order", Str.ofString "k", Str.ofString "_elem"] [("key", some .none)]
    hG (fun _ _ e => e) (fun _ h => nomatch h) (fun _ h => nomatch h) (by simp) hr (by k_is) (by k_is) (by exact binds_K (K := hx.heap_1 w.params) hG.kin rfl (by k_is) rfl rfl rfl)
    (fun n => by intro y hy; simp only [List.mem_cons, List.not_mem_nil, or_false] at hy; rcases hy with rfl | rfl | rfl <;> first | exact .inl rfl | exact .inr ⟨rfl, rfl⟩) rfl rfl
    (fun n => by intro y hy; cases List.mem_singleton.mp hy; exact ⟨rfl, rfl⟩) (by simp) rfl (by simp only [List.map_cons, List.map_nil]; decide) (by decide) ?_
  intro env L h₀ s₁ A' ca co he hfr hA' hcs hat hg₀ hk hr'
  dsimp only at he
  have hat : At s h₀ L [("n", some (.int 2 t)), ("iterable", some (.ref hp)), ("it", none), ("sentinel", none), ("result", none), ("size", none), ("elem", none), ("top", none), ("order", none), ("_heapreplace", none), ("_order", none), ("k", none), ("_elem", none)] [(ca "key", Cell.obj (co "key"))] s₁ := hat
  have hck : env.cells.lookup (Str.ofString "key") = some (ca "key") := (hcs ("key", some .none) (by simp)).1
  have hdk : (co "key").data = .cell (some .none) := (hcs ("key", some .none) (by simp)).2.1
  generalize ca "key" = ck at hck hat
  generalize co "key" = ok at hdk hat
  have hl₀ : h₀.IsList hp vs.toArray := hl.at fun o e => hk _ _ (fun m => nomatch m) e
  have hll : ∀ {h₁ : Heap} {s' : Shared} {l' : List (Str × Option Value)} {W' : List (Addr × Cell)}, (∀ b o, h₀.get? b = some o → h₁.get? b = some o) → At s h₁ L l' W' s' → s'.heap.IsList hp vs.toArray := fun k a => hl₀.at fun o e => a.keepsN _ _ (k _ _ e)
  repeat k_extra "n"
  refine x_if ?_
  repeat k_extra "n"
  refine w_ff rfl ?_
  repeat k_extra "n"
  refine wpAny_Try_except ?_
  repeat k_extra "n"
  refine k_len (xs := vs) (hll (fun _ _ e => e) (by assumption)) (by lia) (fun t2 s2 hk2 => ?_)
  have hat2 := At.kept (by assumption) hk2
  repeat k_extra "n"
  refine x_if ?_
  repeat k_extra "n"
  refine w_ff (decide_eq_false (show ¬ (vs.length ≤ 2) by lia)) ?_
  repeat k_extra "n"
  refine x_if ?_
  repeat k_extra "n"
  refine ld_cell he (by assumption) (by k_extra "m:in") hck (At.cell (c := Cell.obj ok) (by assumption) (by simp)) hdk (by decide) ?_
  repeat k_extra "n"
  refine is_none ?_
  repeat k_extra "n"
  refine w_tt rfl ?_
  repeat k_extra "n"
  rename_i hat3
  refine k_iter_list (hll (fun _ _ e => e) (by assumption)) (fun I s3 hk3 hI hi3 => ?_)
  have hfI := hat3.fresh hI
  have hat4 := (hat3.kept hk3).add (b := I) (xs := Cell.obj (liObj hp 0)) hi3 hfI.1 hfI.2.1 hfI.2.2
  repeat k_extra "n"
  refine x_compA (s₀ := s) (h₀ := h₀) (L := L) (names' := [(Str.ofString ".0", NameKind.local), (Str.ofString "i", NameKind.local), (Str.ofString "elem", NameKind.local)]) (ko := none) (l0 := [("i", none), ("elem", none)]) (cl := [])
    (fun C k us l N => (∃ ui ue, l = ([("i", ui), ("elem", ue)] : List (Str × Option Value))) ∧ NsJ y0 y1 0 1 k us N) he ?cia1 ?cib1 (by k_extra "m:in") ?cic1 ?_
  case cia1 => exact ⟨rfl, by decide, by decide, rfl, ko_none (by decide), lk_none (by simp), by decide⟩
  case cib1 => exact clo_none rfl
  case cic1 => rw [swaps_env he]; rfl
  repeat k_extra "n"
  refine k_range1 (fun r t5 u5 v5 s5 hk5 hr5 hrr => ?_)
  have hat5 := At.kept (by assumption) hk5
  repeat k_extra "n"
  rename_i hat6
  have hI6 : s5.heap.get? I = some (liObj hp 0) := hat5.cell (c := Cell.obj (liObj hp 0)) List.mem_cons_self
  have hhI : hp ≠ I := fun e => by
    obtain ⟨o, ho, _⟩ := hl₀
    rw [e] at ho
    have := (hat5.fs.newW (I, Cell.obj (liObj hp 0)) List.mem_cons_self).1
    rw [ho] at this; cases this
  refine k_zip (n := 2) hrr (by decide) (by decide) hI6 (hll (fun _ _ e => e) hat5) hhI (fun z TI TO i1 s6 hk6 D hfr4 hnd4 hst => ?_)
  have hat7 := hat5.kept hk6
  have hfz : ∀ b ∈ [z, TO, i1, I], h₀.get? b = none ∧ b ≠ L ∧ b ∉ [(ck, Cell.obj ok)].map (·.1) := by
    intro b hb
    have hnew : ∀ b ∈ [z, TI, TO, i1], h₀.get? b = none ∧ b ≠ L ∧ b ∉ [(ck, Cell.obj ok)].map (·.1) := fun b hb => by
      have q := hat5.fresh (hfr4 b hb)
      exact ⟨q.1, q.2.1, fun m => q.2.2 (List.mem_cons_of_mem _ m)⟩
    simp only [List.mem_cons, List.not_mem_nil, or_false] at hb
    rcases hb with e | e | e | e
    · exact hnew _ (e ▸ .head _)
    · exact hnew _ (e ▸ .tail _ (.tail _ (.head _)))
    · exact hnew _ (e ▸ .tail _ (.tail _ (.tail _ (.head _))))
    · rw [e]; exact ⟨hfI.1, hfI.2.1, hfI.2.2⟩
  refine wpAny_pyIter_zip hst.1 ?_
  have hlen2 : 0 + 2 ≤ vs.length := by lia
  refine ⟨[(I, Cell.obj (liObj hp (0 + 2)))], z, _, _, 2, _, _, _, _, rfl, by decide, Itr.zip hr'.handled D hnd4 vs 0 1 2 0 hlen2, hst, hat7.tail, hfz, fun C => ⟨⟨_, _, rfl⟩, rfl, rfl⟩, ?_, ?_⟩
  · rintro C cenv hB' ec hcf hcc kB k v us lc N hb s7 E7 hk2 ⟨T, tT, xT, rfl, hxT, hoT⟩ ⟨⟨ui, ue, rfl⟩, hus⟩ a7 k7 r7
    have hhr : A'.handled = none := hr'.handled
    refine as_tuple hhr (tup_is hoT) rfl rfl (fun s8 hk8 => ?_)
    have a8 := a7.kept hk8
    refine ao_cons ?_
    refine wpAny_assign_Name ?_
    repeat k_extra "n"
    refine ao_cons ?_
    refine wpAny_assign_Name ?_
    repeat k_extra "n"
    refine ao_nil ?_
    refine te_nil ?_
    refine x_tuple ?_
    repeat k_extra "n"
    rename_i a9
    refine ⟨by simp, fun T' s10 hk10 hT' hoT' => ?_⟩
    have hf' := a9.fresh hT'
    have a10 := (a9.kept hk10).add (b := T') (xs := Cell.obj (tupObj [xT, Value.int (0 + (k : Int) * 1) tT])) hoT' hf'.1 hf'.2.1 hf'.2.2
    obtain ⟨yk, tk, hyk, rfl⟩ := hB.at hxT
    have hk01 : k = 0 ∨ k = 1 := by lia
    rcases hk01 with rfl | rfl
    · obtain ⟨rfl, rfl⟩ := hus
      obtain rfl : y0 = yk := by simpa using hyk
      exact ⟨_, _, ⟨⟨_, _, rfl⟩, T', tk, tT, rfl, rfl⟩, a10⟩
    · obtain ⟨T0, t0, u0, rfl, rfl⟩ := hus
      obtain rfl : y1 = yk := by simpa using hyk
      exact ⟨_, _, ⟨⟨_, _, rfl⟩, T0, t0, u0, T', tk, tT, rfl, rfl⟩, a10⟩
  · rintro C D us lc N s' ⟨⟨ui, ue, rfl⟩, hus⟩ hDn a10
    refine ⟨_, by k_extra "m:put", fun s'' hat11 => ?_⟩
    obtain ⟨T0, t0, u0, T1, t1, u1, rfl, rfl⟩ := hus
    have hat12 : At s h₀ L _ [(I, Cell.obj (liObj hp 2)), (D, Cell.list [.ref T0, .ref T1]), (T1, Cell.obj (tupObj [.bytes y1.toArray t1, .int 1 u1])), (T0, Cell.obj (tupObj [.bytes y0.toArray t0, .int 0 u0])), (ck, Cell.obj ok)] s'' := hat11
    have hat13 := At.mv (V := [_, _]) hat12
    have hat14 := At.mv (V := [_, _, _]) hat13
    dsimp only [List.cons_append, List.nil_append] at hat14
    clear hat13 hat12 hat11
    repeat k_extra "n"
    refine x_if ?_
    repeat k_extra "n"
    refine k_truthyL (xs := [.ref T0, .ref T1]) (CellAt.isListL (At.cell (b := D) (c := Cell.list [.ref T0, .ref T1]) (by assumption) (by simp))) (by simp) (fun s15 hk15 => ?_)
    have hat15 := At.kept (by assumption) hk15
    repeat k_extra "n"
    refine w_ff rfl ?_
    repeat k_extra "n"
    obtain ⟨h16, k16, hB16, a16, r16, reg16⟩ := At.borrow (B := [(T0, tupObj [.bytes y0.toArray t0, .int 0 u0]), (T1, tupObj [.bytes y1.toArray t1, .int 1 u1])]) (W := [(I, Cell.obj (liObj hp 2)), (D, Cell.list [.ref T0, .ref T1]), (ck, Cell.obj ok)]) hat15
    have e0 := hB16 _ List.mem_cons_self
    have e1 := hB16 _ (List.mem_cons_of_mem _ List.mem_cons_self)
    dsimp only at e0 e1
    refine heapifyM_spec (lt := ltT h16) (S := IsT h16) (hg₀.keeps k16) a16.keepsN (a16.fs.newW _ (List.mem_cons_of_mem _ List.mem_cons_self)).1 (a16.cell (b := D) (c := Cell.list [.ref T0, .ref T1]) (by simp)) (hr'.mono (by decide) (by decide)) (cmpT h16)
      (fun v hv => by
        simp only [List.mem_cons, List.not_mem_nil, or_false] at hv
        rcases hv with rfl | rfl
        · exact ⟨_, _, _, _, _, rfl, e0⟩
        · exact ⟨_, _, _, _, _, rfl, e1⟩) (by simp) (fun s17 hk17 hl17 => ?_)
    have hsw : swp (ltT h16) (.ref T0) (.ref T1) = ltBI y1 1 y0 0 := by
      show ltT h16 (.ref T1) (.ref T0) = _
      unfold ltT; rw [keyT_is e0, keyT_is e1]
    rw [heapify_two, hsw] at hl17
    have a17 := a16.changeL (i := 1) (b := D) (xs := Cell.list [.ref T0, .ref T1]) rfl hk17 hl17
    dsimp only [List.set_cons_zero, List.set_cons_succ] at a17
    have a18 := reg16 _ _ _ a17
    have start : Ex10 fun P0 P1 x0 x1 j0 j1 t0 t1 u0 u1 => At s h₀ L [("n", some (.int 2 t)), ("iterable", some (.ref hp)), ("it", some (.ref I)), ("sentinel", none), ("result", some (.ref D)), ("size", some (.int (vs.length : Nat) t2)), ("elem", none), ("top", none), ("order", none), ("_heapreplace", none), ("_order", none), ("k", none), ("_elem", none)]
        [(P0, Cell.obj (tupObj [.bytes (List.toArray x0) t0, .int j0 u0])), (P1, Cell.obj (tupObj [.bytes (List.toArray x1) t1, .int j1 u1])), (I, Cell.obj (liObj hp 2)), (D, Cell.list [.ref P0, .ref P1]), (ck, Cell.obj ok)] s17 ∧ Two x0 x1 [] [y0, y1] := by
      cases hlt : ltBI y1 1 y0 0 with
      | true =>
        rw [hlt, if_pos rfl] at a18
        exact ⟨T0, T1, y0, y1, 0, 1, t0, t1, u0, u1, a18, ⟨List.Perm.swap _ _ _, ltBI_true hlt, fun _ h => nomatch h⟩⟩
      | false =>
        rw [hlt, if_neg (by decide)] at a18
        exact ⟨T1, T0, y1, y0, 1, 0, t1, t0, u1, u0, At.mv (V := [_]) a18, ⟨List.Perm.refl _, ltBI_false hlt, fun _ h => nomatch h⟩⟩
    clear a18 a17 hl17 hk17 a16 hat15 e0 e1 hB16 reg16 r16 hsw
    obtain ⟨P0, P1, x0, x1, j0, j1, t0, t1, u0, u1, a19, htwo⟩ := start
    repeat k_extra "n"
    rename_i a20
    refine sub_own a20 (List.mem_cons_of_mem _ (List.mem_cons_of_mem _ (List.mem_cons_of_mem _ List.mem_cons_self))) (p := 0) rfl rfl (by decide) rfl (fun _ => rfl) ?_
    repeat k_extra "n"
    rename_i a21
    refine sub_tup (p := 0) (tup_is (a21.cell (b := P0) (c := Cell.obj _) List.mem_cons_self)) rfl rfl (by decide) rfl ?_
    repeat k_extra "n"
    refine wpAny_For ?_
    repeat k_extra "n"
    rename_i a22
    have hIi : (Shared.heap _).IsListIter I hp 2 := ⟨_, a22.cell (b := I) (c := Cell.obj (liObj hp 2)) (by simp), rfl, rfl⟩
    refine wpAny_pyIter_listiter hIi ?_
    have a23 := At.mv (V := [_, _]) a22
    dsimp only [List.cons_append, List.nil_append] at a23
    have hIn := a23.fs.newW _ List.mem_cons_self
    have hIW := (List.nodup_cons.mp a23.fs.nd).1
    obtain ⟨oL, hoL, _⟩ := hl₀
    have hold := a23.tail.old hoL
    refine x_for2 (fun i l W => NsInv t hp I D (.int (vs.length : Nat) t2) ck ok (.ref 234) (fun x0 x1 rest => Two x0 x1 rest ((y0 :: y1 :: yr).take (2 + i))) l W)
      a23.tail (Itr.listAt hr'.handled I hp hhI vs 2 (by lia)) ⟨hIi, hll (fun _ _ e => e) a22⟩ (fun b hb => ?_) (fun b hb => ?_) ⟨_, _, _, _, _, _, _, _, _, _, _, _, _, _, _, _, htwo⟩ ?_ ?_
    · simp only [List.mem_cons, List.not_mem_nil, or_false] at hb
      rcases hb with e | e
      · rw [e]; exact ⟨hIn.2, hIW⟩
      · rw [e]; exact hold
    · rw [List.mem_singleton.mp hb]
      exact hIn.1
    · rintro i v l W h₁ s24 E24 hi hv ⟨P0, P1, x0, x1, j0, j1, t0, t1, u0, u1, rest, ue, tt, to, od, uo, htwo⟩ k1 r1 a24
      have hg₁ := hg₀.keeps k1
      obtain ⟨y, ty, hy, rfl⟩ := hB.at hv
      have hpre : (y0 :: y1 :: yr).take (2 + (i + 1)) = (y0 :: y1 :: yr).take (2 + i) ++ [y] := by
        rw [← Nat.add_assoc, List.take_add_one, hy]; rfl
      refine wpAny_assign_Name ?_
      repeat k_extra "n"
      refine x_if ?_
      repeat k_extra "n"
      refine c_ltB ?_
      repeat k_extra "n"
      refine w_split (fun hltT => ?_) (fun hltF => ?_)
      · repeat k_extra "n"
        refine x_tuple ?_
        repeat k_extra "n"
        rename_i a25
        have hlt : oltB y x0 = true := hltT
        refine ⟨by simp, fun T s26 hk26 hT hoT => ?_⟩
        have hfT := a25.fresh hT
        have a26 := (a25.kept hk26).add (b := T) (xs := Cell.obj _) hoT hfT.1 hfT.2.1 hfT.2.2
        repeat k_extra "n"
        obtain ⟨h27, k27, hB27, a27, r27, reg27⟩ := At.borrow (B := [(T, _), (P0, _), (P1, _)]) (W := [(D, Cell.list [.ref P0, .ref P1]), (ck, Cell.obj ok)]) a26
        have eT := hB27 _ List.mem_cons_self
        have e0 := hB27 _ (List.mem_cons_of_mem _ List.mem_cons_self)
        have e1 := hB27 _ (List.mem_cons_of_mem _ (List.mem_cons_of_mem _ List.mem_cons_self))
        dsimp only at eT e0 e1
        refine heapreplaceM_spec (x := .ref P0) (xs := [.ref P1]) (item := .ref T) (lt := ltT h27) (S := IsT h27) (hg₁.keeps k27) a27.keepsN (a27.fs.newW _ List.mem_cons_self).1 (a27.cell (b := D) (c := Cell.list [.ref P0, .ref P1]) List.mem_cons_self) (hr'.mono (by decide) (by decide)) (cmpT h27)
          (fun v hv => by cases List.mem_singleton.mp hv; exact ⟨_, _, _, _, _, rfl, e1⟩) ⟨_, _, _, _, _, rfl, eT⟩ (by simp) (fun s28 hk28 hl28 => ?_)
        have hsw : swp (ltT h27) (.ref T) (.ref P1) = ltBI x1 j1 y od := by
          show ltT h27 (.ref P1) (.ref T) = _
          unfold ltT; rw [keyT_is eT, keyT_is e1]
        rw [siftup_two, hsw] at hl28
        have a28 := a27.changeL (i := 0) (b := D) (xs := Cell.list [.ref P0, .ref P1]) rfl hk28 hl28
        dsimp only [List.set_cons_zero, List.set_cons_succ] at a28
        have a29 := reg27 _ _ _ a28
        have step : Ex10 fun Q0 Q1 z0 z1 j0 j1 t0 t1 u0 u1 => At s h₁ L [("n", some (.int 2 t)), ("iterable", some (.ref hp)), ("it", some (.ref I)), ("sentinel", none), ("result", some (.ref D)), ("size", some (.int (vs.length : Nat) t2)), ("elem", some (.bytes y.toArray ty)), ("top", some (.bytes x0.toArray tt)), ("order", some (.int od to)), ("_heapreplace", some (.ref 234)), ("_order", uo), ("k", none), ("_elem", none)]
            [(Q0, Cell.obj (tupObj [.bytes (List.toArray z0) t0, .int j0 u0])), (Q1, Cell.obj (tupObj [.bytes (List.toArray z1) t1, .int j1 u1])), (D, Cell.list [.ref Q0, .ref Q1]), (ck, Cell.obj ok)] s28 ∧ Two z0 z1 (x0 :: rest) ((y0 :: y1 :: yr).take (2 + (i + 1))) := by
          rw [hpre]
          have a30 := (At.mv (V := [_]) a29).tail
          dsimp only [List.cons_append, List.nil_append] at a30
          cases hc : ltBI x1 j1 y od with
          | true =>
            rw [hc, if_pos rfl] at a30
            exact ⟨T, P1, y, x1, _, _, _, _, _, _, a30, htwo.under1 hlt (ltBI_true hc)⟩
          | false =>
            rw [hc, if_neg (by decide)] at a30
            exact ⟨P1, T, x1, y, _, _, _, _, _, _, At.mv (V := [_]) a30, htwo.under2 hlt (ltBI_false hc)⟩
        clear a29 a28 hl28 hk28 a27 a26 a25 hsw e0 e1 eT hB27 reg27 r27
        obtain ⟨Q0, Q1, z0, z1, j0', j1', t0', t1', u0', u1', a31, htwo'⟩ := step
        repeat k_extra "n"
        refine x_assignT rfl rfl ?_
        repeat k_extra "n"
        rename_i a32
        refine sub_own a32 (List.mem_cons_of_mem _ (List.mem_cons_of_mem _ List.mem_cons_self)) (p := 0) rfl rfl (by decide) rfl (fun _ => rfl) ?_
        refine as_tuple hr'.handled (tup_is (a32.cell (b := Q0) (c := Cell.obj _) List.mem_cons_self)) rfl rfl (fun s33 hk33 => ?_)
        have a33 := a32.kept hk33
        refine ao_cons ?_
        refine wpAny_assign_Name ?_
        repeat k_extra "n"
        refine ao_cons ?_
        refine wpAny_assign_Name ?_
        repeat k_extra "n"
        refine ao_nil ?_
        repeat k_extra "n"
        refine x_aug ?_
        refine ldn_local he (by with_reducible assumption) (by k_extra "m:in") (by k_extra "m:in") ?_
        repeat k_extra "n"
        refine k_iadd (fun t34 s34 hk34 => ?_)
        have a34 := At.kept (by assumption) hk34
        repeat k_extra "n"
        exact f2_next (by assumption) ⟨Q0, Q1, z0, z1, j0', j1', t0', t1', u0', u1', x0 :: rest, _, _, _, _, _, htwo'⟩
      · have hlt : oltB y x0 = false := hltF
        repeat k_extra "n"
        refine f2_next (by assumption) ⟨P0, P1, x0, x1, j0, j1, t0, t1, u0, u1, y :: rest, _, _, _, _, _, ?_⟩
        rw [hpre]
        exact htwo.above hlt
    · rintro l W s25 ⟨P0, P1, x0, x1, j0, j1, t0, t1, u0, u1, rest, ue, tt, to, od, uo, htwo⟩ a25
      have hpre : (y0 :: y1 :: yr).take (2 + (vs.length - 2)) = y0 :: y1 :: yr := List.take_of_length_le (by rw [← hB.length]; lia)
      rw [hpre] at htwo
      repeat k_extra "n"
      refine gm_list (xs := [Value.ref P0, .ref P1].toArray) (At.cell (b := D) (c := Cell.list [.ref P0, .ref P1]) (by assumption) (List.mem_cons_of_mem _ (List.mem_cons_of_mem _ List.mem_cons_self))) F.slot_list_sort F.type_list_sort ?_
      repeat k_extra "n"
      obtain ⟨nD, hoD⟩ := a25.cell (b := D) (c := Cell.list [.ref P0, .ref P1]) (List.mem_cons_of_mem _ (List.mem_cons_of_mem _ List.mem_cons_self))
      have hnd := a25.fs.nd
      simp only [List.map_cons, List.map_nil, List.nodup_cons, List.mem_cons, List.not_mem_nil, or_false, not_or] at hnd
      refine k_sort2 (b := false) (kws := []) (a := D) (p := P0) (q := P1) ⟨nD, hoD⟩ (Ne.symm hnd.1.2.1) (Ne.symm hnd.2.1.1) (a25.cell (b := P0) (c := Cell.obj _) List.mem_cons_self) (a25.cell (b := P1) (c := Cell.obj _) (List.mem_cons_of_mem _ List.mem_cons_self)) rfl (fun out s26 hout hk26 hl26 => ?_)
      simp only [Bool.false_eq_true, if_false] at hout
      have a26 := a25.changeL (i := 2) (b := D) (xs := Cell.list [.ref P0, .ref P1]) rfl hk26 hl26
      dsimp only [List.set_cons_zero, List.set_cons_succ] at a26
      repeat k_extra "n"
      have last : Ex8 fun R0 R1 j0 j1 t0 t1 u0 u1 => At s h₀ L [("n", some (.int 2 t)), ("iterable", some (.ref hp)), ("it", some (.ref I)), ("sentinel", none), ("result", some (.ref D)), ("size", some (.int (vs.length : Nat) t2)), ("elem", ue), ("top", some (.bytes (List.toArray x0) tt)), ("order", some (.int od to)), ("_heapreplace", some (.ref 234)), ("_order", uo), ("k", none), ("_elem", none)]
          [(R0, Cell.obj (tupObj [.bytes (List.toArray x1) t0, .int j0 u0])), (R1, Cell.obj (tupObj [.bytes (List.toArray x0) t1, .int j1 u1])), (D, Cell.list [.ref R0, .ref R1]), (ck, Cell.obj ok)] s26 := by
        cases hc : ltBI x1 j1 x0 j0 with
        | true =>
          rw [hc, if_pos rfl] at hout
          subst hout
          exact ⟨P1, P0, _, _, _, _, _, _, At.mv (V := [_]) a26⟩
        | false =>
          rw [hc, if_neg (by decide)] at hout
          subst hout
          have e01 : x0 = x1 := leB_antisymm (ltBI_false hc) htwo.le
          rw [e01] at a26 ⊢
          exact ⟨P0, P1, _, _, _, _, _, _, a26⟩
      clear a26 hl26 hk26 hout
      obtain ⟨R0, R1, j0', j1', t0', t1', u0', u1', a27⟩ := last
      refine x_comp (s₀ := s) (h₀ := h₀) (L := L) (names' := [(Str.ofString ".0", NameKind.local), (Str.ofString "elem", NameKind.local), (Str.ofString "order", NameKind.local)]) (ko := none) (l0 := [("elem", none), ("order", none)]) (cl := [])
        (fun C k us l N => (∃ ue uo, l = ([("elem", ue), ("order", uo)] : List (Str × Option Value))) ∧ N = [] ∧ BytesAre us ([x1, x0].take k)) he ?cia2 ?cib2 ?_
      case cia2 => exact ⟨rfl, by decide, by decide, rfl, ko_none (by decide), lk_none (by simp), by decide⟩
      case cib2 => exact clo_none rfl
      repeat k_extra "n"
      refine k_pyIterL (xs := [.ref R0, .ref R1]) (CellAt.isListL (At.cell (b := D) (c := Cell.list [.ref R0, .ref R1]) a27 (List.mem_cons_of_mem _ (List.mem_cons_of_mem _ List.mem_cons_self)))) (fun I2 s28 hk28 hI2 hDI hi28 => ?_)
      have hfI2 := a27.fresh hI2
      have a28 := a27.kept hk28
      refine CompFrom.mk1 (n := 2) a28 (Itr.listT hr'.handled I2 D hDI [.ref R0, .ref R1] (by simp)) ⟨⟨_, hi28, rfl, rfl⟩, CellAt.isListL (At.cell (b := D) (c := Cell.list [.ref R0, .ref R1]) a28 (List.mem_cons_of_mem _ (List.mem_cons_of_mem _ List.mem_cons_self)))⟩ hfI2 (by decide) (fun C => ⟨⟨_, _, rfl⟩, rfl, .nil⟩) ?_ ?_
      · rintro C cenv ec hcf hcc k v us lc N hb s29 E29 hk2 hv ⟨⟨ue', uo', rfl⟩, rfl, hus⟩ a29 k0 kI kk
        have g0 : hb.get? R0 = some _ := kI R0 _ (fun z => hfI2.2.2 (by rw [← z]; simp)) (a28.cell (b := R0) (c := Cell.obj _) List.mem_cons_self)
        have g1 : hb.get? R1 = some _ := kI R1 _ (fun z => hfI2.2.2 (by rw [← z]; simp)) (a28.cell (b := R1) (c := Cell.obj _) (List.mem_cons_of_mem _ List.mem_cons_self))
        have one : ∃ T x jj tx tj, v = .ref T ∧ [x1, x0].take (k + 1) = [x1, x0].take k ++ [x] ∧ hb.get? T = some (tupObj [.bytes (List.toArray x) tx, .int jj tj]) := by
          have hk01 : k = 0 ∨ k = 1 := by lia
          rcases hk01 with rfl | rfl
          · obtain rfl : Value.ref R0 = v := by simpa using hv
            exact ⟨R0, x1, _, _, _, rfl, rfl, g0⟩
          · obtain rfl : Value.ref R1 = v := by simpa using hv
            exact ⟨R1, x0, _, _, _, rfl, rfl, g1⟩
        obtain ⟨T, x, jj, tx, tj, rfl, htk, hT⟩ := one
        refine as_tuple hr'.handled (tup_is (a29.keepsN _ _ hT)) rfl rfl (fun s30 hk30 => ?_)
        have a30 := a29.kept hk30
        refine ao_cons ?_
        refine wpAny_assign_Name ?_
        repeat k_extra "n"
        refine ao_cons ?_
        refine wpAny_assign_Name ?_
        repeat k_extra "n"
        refine ao_nil ?_
        refine te_nil ?_
        repeat k_extra "n"
        refine ⟨_, _, ⟨⟨_, _, rfl⟩, rfl, ?_⟩, by with_reducible assumption⟩
        rw [htk]
        exact hus.snoc _ _
      · rintro C D2 us lc N s' ⟨_, rfl, hus⟩ hD2 a31 _
        repeat k_extra "n"
        have hkS : Keeps s s' := KeepsBut.to (a31.keepsBut (as := []) (fun b o _ e => hk b o (fun m => nomatch m) e))
        refine hQ D2 s' us x1 x0 rest hkS ?_ (a31.cell (b := D2) List.mem_cons_self) hus htwo
        cases q : s.heap.get? D2 with
        | none => rfl
        | some o => exact ((a31.old (hk _ _ (fun m => nomatch m) q)).2 (by simp)).elim

section
variable {w : World} {A : Around} {E : Value → Shared → Prop} {s : Shared} {env : Env}
/-- o.name(k=v) -/
theorem x_methkw {M : Model} {o : Expr} {name : Str} {apos pos : Pos} {kws : List Keyword} {pl : Sem Bool} {Q : Value → Shared → Prop}
    (he : eval (.Call (.Attribute o name apos) [] kws pos) env = (do
      let ov ← eval o env
      standAt apos.atName
      let (f, first) ← holding [ov] (getMethod ov name pl)
      callWith pos f first (backTo pos (starEach [] env)) (backToKw pos (keywordEach kws env))))
    (h : wpAny M A (eval o env) (fun ov s₁ => wpAny M A (getMethod ov name pl) (fun fx s₂ => wpAny M A (callWith pos fx.1 fx.2 (backTo pos (starEach [] env)) (backToKw pos (keywordEach kws env))) Q E s₂) E s₁) E s) :
    wpAny M A (eval (.Call (.Attribute o name apos) [] kws pos) env) Q E s := by
  rw [he]
  refine wpAny_bind (wpAny_mono h (fun ov s₁ h₁ => wpAny_bind (wpAny_standAt (wpAny_bind (wpAny_holding (wpAny_mono h₁ (fun fx s₂ h₂ => ?_) fun _ _ x => x))))) fun _ _ x => x)
  exact h₂

/-- a built-in one is called with keywords alone -/
theorem cm0_kw {M : Model} {pos : Pos} {id : String} {first : List Value} {kws : List Keyword} {Q : Value → Shared → Prop}
    (hall : (backToKw pos (keywordEach kws env)).all (·.1.isSome) = true) (hkw : (backToKw pos (keywordEach kws env)).any (·.1.isNone) = false)
    (h : wpAny M A (evalAll ((backToKw pos (keywordEach kws env)).map (·.2))) (fun kvs s₂ => wpAny M A (call (.builtin id) first (((backToKw pos (keywordEach kws env)).filterMap (·.1)).zip kvs)) Q E s₂) E s) :
    wpAny M A (callWith pos (.builtin id) first (backTo pos (starEach [] env)) (backToKw pos (keywordEach kws env))) Q E s := by
  refine callWith_builtin_kwB rfl hkw ?_
  unfold evalArgs
  show wpAny M A (spliced [] >>= _) _ E s
  refine wpAny_bind (wpAny_pure (wpAny_bind (wpAny_pure ?_)))
  refine wpAny_holding ?_
  rw [if_pos hall]
  refine wpAny_bind (wpAny_mono h (fun kvs s₂ h₂ => ?_) fun _ _ x => x)
  refine wpAny_bind (wpAny_pure (wpAny_pure ?_))
  rw [List.append_nil]
  exact h₂
end

/-- what is known of the two that nlargest has at hand -/
structure TwoL (x0 x1 : List UInt8) (rest all : List (List UInt8)) : Prop where
  perm : (x1 :: x0 :: rest).Perm all
  le : leB x0 x1
  below : ∀ r ∈ rest, leB r x0
/-- one more -/
theorem TwoL.above {x0 x1 y : List UInt8} {rest all : List (List UInt8)} (h : TwoL x0 x1 rest all) (hy : oltB x0 y = false) : TwoL x0 x1 (y :: rest) (all ++ [y]) := by
  refine ⟨?_, h.le, fun r hr => ?_⟩
  · have e : (x1 :: x0 :: y :: rest).Perm (y :: x1 :: x0 :: rest) :=
      ((List.Perm.swap y x0 rest).cons x1).trans (List.Perm.swap y x1 (x0 :: rest))
    exact e.trans ((h.perm.cons y).trans (List.perm_append_singleton y all).symm)
  · rcases List.mem_cons.mp hr with rfl | hr
    · exact hy
    · exact h.below r hr
theorem TwoL.under1 {x0 x1 y : List UInt8} {rest all : List (List UInt8)} (h : TwoL x0 x1 rest all) (hy : oltB x0 y = true) (h1 : leB y x1) : TwoL y x1 (x0 :: rest) (all ++ [y]) := by
  refine ⟨?_, h1, fun r hr => ?_⟩
  · have e : (x1 :: y :: x0 :: rest).Perm (y :: x1 :: x0 :: rest) := List.Perm.swap _ _ _
    exact e.trans ((h.perm.cons y).trans (List.perm_append_singleton y all).symm)
  · rcases List.mem_cons.mp hr with rfl | hr
    · exact leB_of_lt hy
    · exact leB_trans (h.below r hr) (leB_of_lt hy)
theorem TwoL.under2 {x0 x1 y : List UInt8} {rest all : List (List UInt8)} (h : TwoL x0 x1 rest all) (hy : oltB x0 y = true) (h1 : leB x1 y) : TwoL x1 y (x0 :: rest) (all ++ [y]) := by
  refine ⟨(h.perm.cons y).trans (List.perm_append_singleton y all).symm, h1, fun r hr => ?_⟩
  rcases List.mem_cons.mp hr with rfl | hr
  · exact h.le
  · exact leB_trans (h.below r hr) h.le

theorem nlarge_spec {w : World} {A : Around} {s : Shared} {hp : Addr} {vs : List Value} {ys : List (List UInt8)} {t : Tok} {Q E : Value → Shared → Prop}
   (hG : G w s.heap) (hr : Room A 10 100) (hl : s.heap.IsList hp vs.toArray) (hB : BytesAre vs ys) (hn3 : 2 < vs.length) (hn : vs.length < 2 ^ 20)
   (hQ : ∀ D s' us a b rest, Keeps s s' → s.heap.get? D = none → s'.heap.PlainList D us.toArray → BytesAre us [a, b] → TwoL b a rest ys → Q (.ref D) s') :
   wpAny (model P w) A (call (.ref 281) [.int 2 t, .ref hp]) Q E s := by
  obtain ⟨y0, y1, yr, rfl⟩ : ∃ y0 y1 yr, ys = y0 :: y1 :: yr := by
    have h3 : 2 < ys.length := by rw [← hB.length]; exact hn3
    match ys, h3 with
    | [], h => simp at h
    | [_], h => simp at h
    | y0 :: y1 :: yr, _ => exact ⟨_, _, _, rfl⟩
  refine call_bodyC (d := 9) (u := 97) (binds := [("n", .int 2 t), ("iterable", .ref hp), ("key", .none)]) (lb := [("n", .int 2 t), ("iterable", .ref hp)]) (cb := [("key", .none)])
    (l := [("n", some (.int 2 t)), ("iterable", some (.ref hp)), ("it", none), ("sentinel", none), ("result", none), ("size", none), ("elem", none), ("top", none), ("order", none), ("_heapreplace", none), ("_order", none), ("k", none), ("_elem", none)]) []
    [Str.ofString "it", Str.ofString "sentinel", Str.ofString "result", Str.ofString "size", Str.ofString "elem", Str.ofString "top", Str.ofString "order", Str.ofString "_heapreplace", Str.ofString "_order", Str.ofString "k", Str.ofString "_elem"] [("key", some .none)]
    hG (fun _ _ e => e) (fun _ h => nomatch h) (fun _ h => nomatch h) (by simp) hr (by k_is) (by k_is) (by exact binds_K (K := hx.heap_1 w.params) hG.kin rfl (by k_is) rfl rfl rfl)
    (fun n => by intro y hy; simp only [List.mem_cons, List.not_mem_nil, or_false] at hy; rcases hy with rfl | rfl | rfl <;> first | exact .inl rfl | exact .inr ⟨rfl, rfl⟩) rfl rfl
    (fun n => by intro y hy; cases List.mem_singleton.mp hy; exact ⟨rfl, rfl⟩) (by simp) rfl (by simp only [List.map_cons, List.map_nil]; decide) (by decide) ?_
  intro env L h₀ s₁ A' ca co he hfr hA' hcs hat hg₀ hk hr'
  dsimp only at he
  have hat : At s h₀ L [("n", some (.int 2 t)), ("iterable", some (.ref hp)), ("it", none), ("sentinel", none), ("result", none), ("size", none), ("elem", none), ("top", none), ("order", none), ("_heapreplace", none), ("_order", none), ("k", none), ("_elem", none)] [(ca "key", Cell.obj (co "key"))] s₁ := hat
  have hck : env.cells.lookup (Str.ofString "key") = some (ca "key") := (hcs ("key", some .none) (by simp)).1
  have hdk : (co "key").data = .cell (some .none) := (hcs ("key", some .none) (by simp)).2.1
  generalize ca "key" = ck at hck hat
  generalize co "key" = ok at hdk hat
  have hl₀ : h₀.IsList hp vs.toArray := hl.at fun o e => hk _ _ (fun m => nomatch m) e
  have hll : ∀ {h₁ : Heap} {s' : Shared} {l' : List (Str × Option Value)} {W' : List (Addr × Cell)}, (∀ b o, h₀.get? b = some o → h₁.get? b = some o) → At s h₁ L l' W' s' → s'.heap.IsList hp vs.toArray := fun k a => hl₀.at fun o e => a.keepsN _ _ (k _ _ e)
  repeat k_extra "n"
  refine x_if ?_
  repeat k_extra "n"
  refine w_ff rfl ?_
  repeat k_extra "n"
  refine wpAny_Try_except ?_
  repeat k_extra "n"
  refine k_len (xs := vs) (hll (fun _ _ e => e) (by assumption)) (by lia) (fun t2 s2 hk2 => ?_)
  have hat2 := At.kept (by assumption) hk2
  repeat k_extra "n"
  refine x_if ?_
  repeat k_extra "n"
  refine w_ff (decide_eq_false (show ¬ (vs.length ≤ 2) by lia)) ?_
  repeat k_extra "n"
  refine x_if ?_
  repeat k_extra "n"
  refine ld_cell he (by assumption) (by k_extra "m:in") hck (At.cell (c := Cell.obj ok) (by assumption) (by simp)) hdk (by decide) ?_
  repeat k_extra "n"
  refine is_none ?_
  repeat k_extra "n"
  refine w_tt rfl ?_
  repeat k_extra "n"
  rename_i hat3
  refine k_iter_list (hll (fun _ _ e => e) (by assumption)) (fun I s3 hk3 hI hi3 => ?_)
  have hfI := hat3.fresh hI
  have hat4 := (hat3.kept hk3).add (b := I) (xs := Cell.obj (liObj hp 0)) hi3 hfI.1 hfI.2.1 hfI.2.2
  repeat k_extra "n"
  refine x_compA (s₀ := s) (h₀ := h₀) (L := L) (names' := [(Str.ofString ".0", NameKind.local), (Str.ofString "i", NameKind.local), (Str.ofString "elem", NameKind.local)]) (ko := none) (l0 := [("i", none), ("elem", none)]) (cl := [])
    (fun C k us l N => (∃ ui ue, l = ([("i", ui), ("elem", ue)] : List (Str × Option Value))) ∧ NsJ y0 y1 0 (-1) k us N) he ?cia1 ?cib1 (by k_extra "m:in") ?cic1 ?_
  case cia1 => exact ⟨rfl, by decide, by decide, rfl, ko_none (by decide), lk_none (by simp), by decide⟩
  case cib1 => exact clo_none rfl
  case cic1 => rw [swaps_env he]; rfl
  repeat k_extra "n"
  refine x_un ?_
  repeat k_extra "n"
  refine k_negI (fun ta sa hka => ?_)
  have hata := At.kept (by assumption) hka
  repeat k_extra "n"
  refine x_un ?_
  repeat k_extra "n"
  refine k_negI (fun tb sb hkb => ?_)
  have hatb := At.kept (by assumption) hkb
  repeat k_extra "n"
  refine k_range3 (by decide) (by decide) (fun r s5 hk5 hr5 hrr => ?_)
  have hat5 := At.kept (by assumption) hk5
  repeat k_extra "n"
  rename_i hat6
  have hI6 : s5.heap.get? I = some (liObj hp 0) := hat5.cell (c := Cell.obj (liObj hp 0)) List.mem_cons_self
  have hhI : hp ≠ I := fun e => by
    obtain ⟨o, ho, _⟩ := hl₀
    rw [e] at ho
    have := (hat5.fs.newW (I, Cell.obj (liObj hp 0)) List.mem_cons_self).1
    rw [ho] at this; cases this
  refine k_zip (n := 2) hrr (by decide) (by decide) hI6 (hll (fun _ _ e => e) hat5) hhI (fun z TI TO i1 s6 hk6 D hfr4 hnd4 hst => ?_)
  have hat7 := hat5.kept hk6
  have hfz : ∀ b ∈ [z, TO, i1, I], h₀.get? b = none ∧ b ≠ L ∧ b ∉ [(ck, Cell.obj ok)].map (·.1) := by
    intro b hb
    have hnew : ∀ b ∈ [z, TI, TO, i1], h₀.get? b = none ∧ b ≠ L ∧ b ∉ [(ck, Cell.obj ok)].map (·.1) := fun b hb => by
      have q := hat5.fresh (hfr4 b hb)
      exact ⟨q.1, q.2.1, fun m => q.2.2 (List.mem_cons_of_mem _ m)⟩
    simp only [List.mem_cons, List.not_mem_nil, or_false] at hb
    rcases hb with e | e | e | e
    · exact hnew _ (e ▸ .head _)
    · exact hnew _ (e ▸ .tail _ (.tail _ (.head _)))
    · exact hnew _ (e ▸ .tail _ (.tail _ (.tail _ (.head _))))
    · rw [e]; exact ⟨hfI.1, hfI.2.1, hfI.2.2⟩
  refine wpAny_pyIter_zip hst.1 ?_
  have hlen2 : 0 + 2 ≤ vs.length := by lia
  refine ⟨[(I, Cell.obj (liObj hp (0 + 2)))], z, _, _, 2, _, _, _, _, rfl, by decide, Itr.zip hr'.handled D hnd4 vs 0 (-1) 2 0 hlen2, hst, hat7.tail, hfz, fun C => ⟨⟨_, _, rfl⟩, rfl, rfl⟩, ?_, ?_⟩
  · rintro C cenv hB' ec hcf hcc kB k v us lc N hb s7 E7 hk2 ⟨T, tT, xT, rfl, hxT, hoT⟩ ⟨⟨ui, ue, rfl⟩, hus⟩ a7 k7 r7
    have hhr : A'.handled = none := hr'.handled
    refine as_tuple hhr (tup_is hoT) rfl rfl (fun s8 hk8 => ?_)
    have a8 := a7.kept hk8
    refine ao_cons ?_
    refine wpAny_assign_Name ?_
    repeat k_extra "n"
    refine ao_cons ?_
    refine wpAny_assign_Name ?_
    repeat k_extra "n"
    refine ao_nil ?_
    refine te_nil ?_
    refine x_tuple ?_
    repeat k_extra "n"
    rename_i a9
    refine ⟨by simp, fun T' s10 hk10 hT' hoT' => ?_⟩
    have hf' := a9.fresh hT'
    have a10 := (a9.kept hk10).add (b := T') (xs := Cell.obj (tupObj [xT, Value.int (0 + (k : Int) * (-1)) tT])) hoT' hf'.1 hf'.2.1 hf'.2.2
    obtain ⟨yk, tk, hyk, rfl⟩ := hB.at hxT
    have hk01 : k = 0 ∨ k = 1 := by lia
    rcases hk01 with rfl | rfl
    · obtain ⟨rfl, rfl⟩ := hus
      obtain rfl : y0 = yk := by simpa using hyk
      exact ⟨_, _, ⟨⟨_, _, rfl⟩, T', tk, tT, rfl, rfl⟩, a10⟩
    · obtain ⟨T0, t0, u0, rfl, rfl⟩ := hus
      obtain rfl : y1 = yk := by simpa using hyk
      exact ⟨_, _, ⟨⟨_, _, rfl⟩, T0, t0, u0, T', tk, tT, rfl, rfl⟩, a10⟩
  · rintro C D us lc N s' ⟨⟨ui, ue, rfl⟩, hus⟩ hDn a10
    refine ⟨_, by k_extra "m:put", fun s'' hat11 => ?_⟩
    obtain ⟨T0, t0, u0, T1, t1, u1, rfl, rfl⟩ := hus
    have hat12 : At s h₀ L _ [(I, Cell.obj (liObj hp 2)), (D, Cell.list [.ref T0, .ref T1]), (T1, Cell.obj (tupObj [.bytes y1.toArray t1, .int (-1) u1])), (T0, Cell.obj (tupObj [.bytes y0.toArray t0, .int 0 u0])), (ck, Cell.obj ok)] s'' := hat11
    have hat13 := At.mv (V := [_, _]) hat12
    have hat14 := At.mv (V := [_, _, _]) hat13
    dsimp only [List.cons_append, List.nil_append] at hat14
    clear hat13 hat12 hat11
    repeat k_extra "n"
    refine x_if ?_
    repeat k_extra "n"
    refine k_truthyL (xs := [.ref T0, .ref T1]) (CellAt.isListL (At.cell (b := D) (c := Cell.list [.ref T0, .ref T1]) (by assumption) (by simp))) (by simp) (fun s15 hk15 => ?_)
    have hat15 := At.kept (by assumption) hk15
    repeat k_extra "n"
    refine w_ff rfl ?_
    repeat k_extra "n"
    obtain ⟨h16, k16, hB16, a16, r16, reg16⟩ := At.borrow (B := [(T0, tupObj [.bytes y0.toArray t0, .int 0 u0]), (T1, tupObj [.bytes y1.toArray t1, .int (-1) u1])]) (W := [(I, Cell.obj (liObj hp 2)), (D, Cell.list [.ref T0, .ref T1]), (ck, Cell.obj ok)]) hat15
    have e0 := hB16 _ List.mem_cons_self
    have e1 := hB16 _ (List.mem_cons_of_mem _ List.mem_cons_self)
    dsimp only at e0 e1
    refine heapify_spec (lt := ltT h16) (S := IsT h16) (hg₀.keeps k16) a16.keepsN (a16.fs.newW _ (List.mem_cons_of_mem _ List.mem_cons_self)).1 (a16.cell (b := D) (c := Cell.list [.ref T0, .ref T1]) (by simp)) (hr'.mono (by decide) (by decide)) (cmpT h16)
      (fun v hv => by
        simp only [List.mem_cons, List.not_mem_nil, or_false] at hv
        rcases hv with rfl | rfl
        · exact ⟨_, _, _, _, _, rfl, e0⟩
        · exact ⟨_, _, _, _, _, rfl, e1⟩) (by simp) (fun s17 hk17 hl17 => ?_)
    have hsw : ltT h16 (.ref T0) (.ref T1) = ltBI y0 0 y1 (-1) := by
      unfold ltT; rw [keyT_is e0, keyT_is e1]
    rw [heapify_two, hsw] at hl17
    have a17 := a16.changeL (i := 1) (b := D) (xs := Cell.list [.ref T0, .ref T1]) rfl hk17 hl17
    dsimp only [List.set_cons_zero, List.set_cons_succ] at a17
    have a18 := reg16 _ _ _ a17
    have start : Ex10 fun P0 P1 x0 x1 j0 j1 t0 t1 u0 u1 => At s h₀ L [("n", some (.int 2 t)), ("iterable", some (.ref hp)), ("it", some (.ref I)), ("sentinel", none), ("result", some (.ref D)), ("size", some (.int (vs.length : Nat) t2)), ("elem", none), ("top", none), ("order", none), ("_heapreplace", none), ("_order", none), ("k", none), ("_elem", none)]
        [(P0, Cell.obj (tupObj [.bytes (List.toArray x0) t0, .int j0 u0])), (P1, Cell.obj (tupObj [.bytes (List.toArray x1) t1, .int j1 u1])), (I, Cell.obj (liObj hp 2)), (D, Cell.list [.ref P0, .ref P1]), (ck, Cell.obj ok)] s17 ∧ TwoL x0 x1 [] [y0, y1] := by
      cases hlt : ltBI y0 0 y1 (-1) with
      | true =>
        rw [hlt, if_pos rfl] at a18
        exact ⟨T0, T1, y0, y1, 0, -1, t0, t1, u0, u1, a18, ⟨List.Perm.swap _ _ _, ltBI_true hlt, fun _ h => nomatch h⟩⟩
      | false =>
        rw [hlt, if_neg (by decide)] at a18
        exact ⟨T1, T0, y1, y0, -1, 0, t1, t0, u1, u0, At.mv (V := [_]) a18, ⟨List.Perm.refl _, ltBI_false hlt, fun _ h => nomatch h⟩⟩
    clear a18 a17 hl17 hk17 a16 hat15 e0 e1 hB16 reg16 r16 hsw
    obtain ⟨P0, P1, x0, x1, j0, j1, t0, t1, u0, u1, a19, htwo⟩ := start
    repeat k_extra "n"
    rename_i a20
    refine sub_own a20 (List.mem_cons_of_mem _ (List.mem_cons_of_mem _ (List.mem_cons_of_mem _ List.mem_cons_self))) (p := 0) rfl rfl (by decide) rfl (fun _ => rfl) ?_
    repeat k_extra "n"
    rename_i a21
    refine sub_tup (p := 0) (tup_is (a21.cell (b := P0) (c := Cell.obj _) List.mem_cons_self)) rfl rfl (by decide) rfl ?_
    repeat k_extra "n"
    refine x_un ?_
    repeat k_extra "n"
    refine k_negI (fun tc sc hkc => ?_)
    have hatc := At.kept (by assumption) hkc
    repeat k_extra "n"
    refine wpAny_For ?_
    repeat k_extra "n"
    rename_i a22
    have hIi : (Shared.heap _).IsListIter I hp 2 := ⟨_, a22.cell (b := I) (c := Cell.obj (liObj hp 2)) (by simp), rfl, rfl⟩
    refine wpAny_pyIter_listiter hIi ?_
    have a23 := At.mv (V := [_, _]) a22
    dsimp only [List.cons_append, List.nil_append] at a23
    have hIn := a23.fs.newW _ List.mem_cons_self
    have hIW := (List.nodup_cons.mp a23.fs.nd).1
    obtain ⟨oL, hoL, _⟩ := hl₀
    have hold := a23.tail.old hoL
    refine x_for2 (fun i l W => NsInv t hp I D (.int (vs.length : Nat) t2) ck ok (.ref 220) (fun x0 x1 rest => TwoL x0 x1 rest ((y0 :: y1 :: yr).take (2 + i))) l W)
      a23.tail (Itr.listAt hr'.handled I hp hhI vs 2 (by lia)) ⟨hIi, hll (fun _ _ e => e) a22⟩ (fun b hb => ?_) (fun b hb => ?_) ⟨_, _, _, _, _, _, _, _, _, _, _, _, _, _, _, _, htwo⟩ ?_ ?_
    · simp only [List.mem_cons, List.not_mem_nil, or_false] at hb
      rcases hb with e | e
      · rw [e]; exact ⟨hIn.2, hIW⟩
      · rw [e]; exact hold
    · rw [List.mem_singleton.mp hb]
      exact hIn.1
    · rintro i v l W h₁ s24 E24 hi hv ⟨P0, P1, x0, x1, j0, j1, t0, t1, u0, u1, rest, ue, tt, to, od, uo, htwo⟩ k1 r1 a24
      have hg₁ := hg₀.keeps k1
      obtain ⟨y, ty, hy, rfl⟩ := hB.at hv
      have hpre : (y0 :: y1 :: yr).take (2 + (i + 1)) = (y0 :: y1 :: yr).take (2 + i) ++ [y] := by
        rw [← Nat.add_assoc, List.take_add_one, hy]; rfl
      refine wpAny_assign_Name ?_
      repeat k_extra "n"
      refine x_if ?_
      repeat k_extra "n"
      refine c_ltB ?_
      repeat k_extra "n"
      refine w_split (fun hltT => ?_) (fun hltF => ?_)
      · repeat k_extra "n"
        refine x_tuple ?_
        repeat k_extra "n"
        rename_i a25
        have hlt : oltB x0 y = true := hltT
        refine ⟨by simp, fun T s26 hk26 hT hoT => ?_⟩
        have hfT := a25.fresh hT
        have a26 := (a25.kept hk26).add (b := T) (xs := Cell.obj _) hoT hfT.1 hfT.2.1 hfT.2.2
        repeat k_extra "n"
        obtain ⟨h27, k27, hB27, a27, r27, reg27⟩ := At.borrow (B := [(T, _), (P0, _), (P1, _)]) (W := [(D, Cell.list [.ref P0, .ref P1]), (ck, Cell.obj ok)]) a26
        have eT := hB27 _ List.mem_cons_self
        have e0 := hB27 _ (List.mem_cons_of_mem _ List.mem_cons_self)
        have e1 := hB27 _ (List.mem_cons_of_mem _ (List.mem_cons_of_mem _ List.mem_cons_self))
        dsimp only at eT e0 e1
        refine heapreplace_spec (x := .ref P0) (xs := [.ref P1]) (item := .ref T) (lt := ltT h27) (S := IsT h27) (hg₁.keeps k27) a27.keepsN (a27.fs.newW _ List.mem_cons_self).1 (a27.cell (b := D) (c := Cell.list [.ref P0, .ref P1]) List.mem_cons_self) (hr'.mono (by decide) (by decide)) (cmpT h27)
          (fun v hv => by cases List.mem_singleton.mp hv; exact ⟨_, _, _, _, _, rfl, e1⟩) ⟨_, _, _, _, _, rfl, eT⟩ (by simp) (fun s28 hk28 hl28 => ?_)
        have hsw : ltT h27 (.ref T) (.ref P1) = ltBI y od x1 j1 := by
          unfold ltT; rw [keyT_is eT, keyT_is e1]
        rw [siftup_two, hsw] at hl28
        have a28 := a27.changeL (i := 0) (b := D) (xs := Cell.list [.ref P0, .ref P1]) rfl hk28 hl28
        dsimp only [List.set_cons_zero, List.set_cons_succ] at a28
        have a29 := reg27 _ _ _ a28
        have step : Ex10 fun Q0 Q1 z0 z1 j0 j1 t0 t1 u0 u1 => At s h₁ L [("n", some (.int 2 t)), ("iterable", some (.ref hp)), ("it", some (.ref I)), ("sentinel", none), ("result", some (.ref D)), ("size", some (.int (vs.length : Nat) t2)), ("elem", some (.bytes y.toArray ty)), ("top", some (.bytes x0.toArray tt)), ("order", some (.int od to)), ("_heapreplace", some (.ref 220)), ("_order", uo), ("k", none), ("_elem", none)]
            [(Q0, Cell.obj (tupObj [.bytes (List.toArray z0) t0, .int j0 u0])), (Q1, Cell.obj (tupObj [.bytes (List.toArray z1) t1, .int j1 u1])), (D, Cell.list [.ref Q0, .ref Q1]), (ck, Cell.obj ok)] s28 ∧ TwoL z0 z1 (x0 :: rest) ((y0 :: y1 :: yr).take (2 + (i + 1))) := by
          rw [hpre]
          have a30 := (At.mv (V := [_]) a29).tail
          dsimp only [List.cons_append, List.nil_append] at a30
          cases hc : ltBI y od x1 j1 with
          | true =>
            rw [hc, if_pos rfl] at a30
            exact ⟨T, P1, y, x1, _, _, _, _, _, _, a30, htwo.under1 hlt (ltBI_true hc)⟩
          | false =>
            rw [hc, if_neg (by decide)] at a30
            exact ⟨P1, T, x1, y, _, _, _, _, _, _, At.mv (V := [_]) a30, htwo.under2 hlt (ltBI_false hc)⟩
        clear a29 a28 hl28 hk28 a27 a26 a25 hsw e0 e1 eT hB27 reg27 r27
        obtain ⟨Q0, Q1, z0, z1, j0', j1', t0', t1', u0', u1', a31, htwo'⟩ := step
        repeat k_extra "n"
        refine x_assignT rfl rfl ?_
        repeat k_extra "n"
        rename_i a32
        refine sub_own a32 (List.mem_cons_of_mem _ (List.mem_cons_of_mem _ List.mem_cons_self)) (p := 0) rfl rfl (by decide) rfl (fun _ => rfl) ?_
        refine as_tuple hr'.handled (tup_is (a32.cell (b := Q0) (c := Cell.obj _) List.mem_cons_self)) rfl rfl (fun s33 hk33 => ?_)
        have a33 := a32.kept hk33
        refine ao_cons ?_
        refine wpAny_assign_Name ?_
        repeat k_extra "n"
        refine ao_cons ?_
        refine wpAny_assign_Name ?_
        repeat k_extra "n"
        refine ao_nil ?_
        repeat k_extra "n"
        refine x_aug ?_
        refine ldn_local he (by with_reducible assumption) (by k_extra "m:in") (by k_extra "m:in") ?_
        repeat k_extra "n"
        refine k_isub (fun t34 s34 hk34 => ?_)
        have a34 := At.kept (by assumption) hk34
        repeat k_extra "n"
        exact f2_next (by assumption) ⟨Q0, Q1, z0, z1, j0', j1', t0', t1', u0', u1', x0 :: rest, _, _, _, _, _, htwo'⟩
      · have hlt : oltB x0 y = false := hltF
        repeat k_extra "n"
        refine f2_next (by assumption) ⟨P0, P1, x0, x1, j0, j1, t0, t1, u0, u1, y :: rest, _, _, _, _, _, ?_⟩
        rw [hpre]
        exact htwo.above hlt
    · rintro l W s25 ⟨P0, P1, x0, x1, j0, j1, t0, t1, u0, u1, rest, ue, tt, to, od, uo, htwo⟩ a25
      have hpre : (y0 :: y1 :: yr).take (2 + (vs.length - 2)) = y0 :: y1 :: yr := List.take_of_length_le (by rw [← hB.length]; lia)
      rw [hpre] at htwo
      repeat k_extra "n"
      refine x_methkw (by exact rfl) ?_
      repeat k_extra "n"
      refine gm_list (xs := [Value.ref P0, .ref P1].toArray) (At.cell (b := D) (c := Cell.list [.ref P0, .ref P1]) (by assumption) (List.mem_cons_of_mem _ (List.mem_cons_of_mem _ List.mem_cons_self))) F.slot_list_sort F.type_list_sort ?_
      repeat k_extra "n"
      refine cm0_kw rfl rfl ?_
      refine x_kw1 ?_
      repeat k_extra "n"
      obtain ⟨nD, hoD⟩ := a25.cell (b := D) (c := Cell.list [.ref P0, .ref P1]) (List.mem_cons_of_mem _ (List.mem_cons_of_mem _ List.mem_cons_self))
      have hnd := a25.fs.nd
      simp only [List.map_cons, List.map_nil, List.nodup_cons, List.mem_cons, List.not_mem_nil, or_false, not_or] at hnd
      refine k_sort2 (b := true) (a := D) (p := P0) (q := P1) ⟨nD, hoD⟩ (Ne.symm hnd.1.2.1) (Ne.symm hnd.2.1.1) (a25.cell (b := P0) (c := Cell.obj _) List.mem_cons_self) (a25.cell (b := P1) (c := Cell.obj _) (List.mem_cons_of_mem _ List.mem_cons_self)) rfl (fun out s26 hout hk26 hl26 => ?_)
      simp only [if_true] at hout
      have a26 := a25.changeL (i := 2) (b := D) (xs := Cell.list [.ref P0, .ref P1]) rfl hk26 hl26
      dsimp only [List.set_cons_zero, List.set_cons_succ] at a26
      repeat k_extra "n"
      have last : Ex8 fun R0 R1 j0 j1 t0 t1 u0 u1 => At s h₀ L [("n", some (.int 2 t)), ("iterable", some (.ref hp)), ("it", some (.ref I)), ("sentinel", none), ("result", some (.ref D)), ("size", some (.int (vs.length : Nat) t2)), ("elem", ue), ("top", some (.bytes (List.toArray x0) tt)), ("order", some (.int od to)), ("_heapreplace", some (.ref 220)), ("_order", uo), ("k", none), ("_elem", none)]
          [(R0, Cell.obj (tupObj [.bytes (List.toArray x1) t0, .int j0 u0])), (R1, Cell.obj (tupObj [.bytes (List.toArray x0) t1, .int j1 u1])), (D, Cell.list [.ref R0, .ref R1]), (ck, Cell.obj ok)] s26 := by
        cases hc : ltBI x0 j0 x1 j1 with
        | true =>
          rw [hc, if_pos rfl] at hout
          subst hout
          exact ⟨P1, P0, _, _, _, _, _, _, At.mv (V := [_]) a26⟩
        | false =>
          rw [hc, if_neg (by decide)] at hout
          subst hout
          have e01 : x0 = x1 := leB_antisymm htwo.le (ltBI_false hc)
          rw [e01] at a26 ⊢
          exact ⟨P0, P1, _, _, _, _, _, _, a26⟩
      clear a26 hl26 hk26 hout
      obtain ⟨R0, R1, j0', j1', t0', t1', u0', u1', a27⟩ := last
      refine x_comp (s₀ := s) (h₀ := h₀) (L := L) (names' := [(Str.ofString ".0", NameKind.local), (Str.ofString "elem", NameKind.local), (Str.ofString "order", NameKind.local)]) (ko := none) (l0 := [("elem", none), ("order", none)]) (cl := [])
        (fun C k us l N => (∃ ue uo, l = ([("elem", ue), ("order", uo)] : List (Str × Option Value))) ∧ N = [] ∧ BytesAre us ([x1, x0].take k)) he ?cia2 ?cib2 ?_
      case cia2 => exact ⟨rfl, by decide, by decide, rfl, ko_none (by decide), lk_none (by simp), by decide⟩
      case cib2 => exact clo_none rfl
      repeat k_extra "n"
      refine k_pyIterL (xs := [.ref R0, .ref R1]) (CellAt.isListL (At.cell (b := D) (c := Cell.list [.ref R0, .ref R1]) a27 (List.mem_cons_of_mem _ (List.mem_cons_of_mem _ List.mem_cons_self)))) (fun I2 s28 hk28 hI2 hDI hi28 => ?_)
      have hfI2 := a27.fresh hI2
      have a28 := a27.kept hk28
      refine CompFrom.mk1 (n := 2) a28 (Itr.listT hr'.handled I2 D hDI [.ref R0, .ref R1] (by simp)) ⟨⟨_, hi28, rfl, rfl⟩, CellAt.isListL (At.cell (b := D) (c := Cell.list [.ref R0, .ref R1]) a28 (List.mem_cons_of_mem _ (List.mem_cons_of_mem _ List.mem_cons_self)))⟩ hfI2 (by decide) (fun C => ⟨⟨_, _, rfl⟩, rfl, .nil⟩) ?_ ?_
      · rintro C cenv ec hcf hcc k v us lc N hb s29 E29 hk2 hv ⟨⟨ue', uo', rfl⟩, rfl, hus⟩ a29 k0 kI kk
        have g0 : hb.get? R0 = some _ := kI R0 _ (fun z => hfI2.2.2 (by rw [← z]; simp)) (a28.cell (b := R0) (c := Cell.obj _) List.mem_cons_self)
        have g1 : hb.get? R1 = some _ := kI R1 _ (fun z => hfI2.2.2 (by rw [← z]; simp)) (a28.cell (b := R1) (c := Cell.obj _) (List.mem_cons_of_mem _ List.mem_cons_self))
        have one : ∃ T x jj tx tj, v = .ref T ∧ [x1, x0].take (k + 1) = [x1, x0].take k ++ [x] ∧ hb.get? T = some (tupObj [.bytes (List.toArray x) tx, .int jj tj]) := by
          have hk01 : k = 0 ∨ k = 1 := by lia
          rcases hk01 with rfl | rfl
          · obtain rfl : Value.ref R0 = v := by simpa using hv
            exact ⟨R0, x1, _, _, _, rfl, rfl, g0⟩
          · obtain rfl : Value.ref R1 = v := by simpa using hv
            exact ⟨R1, x0, _, _, _, rfl, rfl, g1⟩
        obtain ⟨T, x, jj, tx, tj, rfl, htk, hT⟩ := one
        refine as_tuple hr'.handled (tup_is (a29.keepsN _ _ hT)) rfl rfl (fun s30 hk30 => ?_)
        have a30 := a29.kept hk30
        refine ao_cons ?_
        refine wpAny_assign_Name ?_
        repeat k_extra "n"
        refine ao_cons ?_
        refine wpAny_assign_Name ?_
        repeat k_extra "n"
        refine ao_nil ?_
        refine te_nil ?_
        repeat k_extra "n"
        refine ⟨_, _, ⟨⟨_, _, rfl⟩, rfl, ?_⟩, by with_reducible assumption⟩
        rw [htk]
        exact hus.snoc _ _
      · rintro C D2 us lc N s' ⟨_, rfl, hus⟩ hD2 a31 _
        repeat k_extra "n"
        have hkS : Keeps s s' := KeepsBut.to (a31.keepsBut (as := []) (fun b o _ e => hk b o (fun m => nomatch m) e))
        refine hQ D2 s' us x1 x0 rest hkS ?_ (a31.cell (b := D2) List.mem_cons_self) hus htwo
        cases q : s.heap.get? D2 with
        | none => rfl
        | some o => exact ((a31.old (hk _ _ (fun m => nomatch m) q)).2 (by simp)).elim

/-- one more octets in a set that keeps the order of coming -/
noncomputable def addB (D : List (List UInt8)) (x : List UInt8) : List (List UInt8) := if x ∈ D then D else D ++ [x]

/-- a set of bytes at a, of the elements D -/
noncomputable def BSet (w : World) (h : Heap) (a : Addr) (D : List (List UInt8)) : Prop :=
  ∃ o es ep t, h.get? a = some o ∧ o.ExactSet ∧ o.data = .set es ep t ∧ ElemsOf (PySem.W.bytesKind P w) es.toList ∧ (es.toList.map fun e => keyB e.2).Perm D ∧ t.fits es.size = true ∧ (D = [] ∨ t.plain = false)

theorem relay_plain {t : SetTable} {es : Array (Int × Value)} {n : Nat} (h : t.plain = false) : (relayAll t es n).2.1.plain = false := by
  unfold relayAll
  split
  · rename_i t' order e
    have hp : t'.plain = t.plain := by
      unfold SetTable.relaid SetTable.laid at e
      cases hc : SetTable.layClean (SetTable.sizeAbove n - 1) (Array.map (fun x => x.fst) es) with
      | none => rw [hc] at e; cases e
      | some ow =>
        rw [hc] at e
        simp only [Option.bind_eq_bind, Option.bind_some, Option.pure_def, Option.some.injEq, Prod.mk.injEq] at e
        rw [← e.1]
    dsimp only
    split
    · exact hp.trans h
    · rfl
  · rfl

section
variable {w : World} {A : Around} {E : Value → Shared → Prop} {s : Shared}

theorem elem_bytes {e : Int × Value} {l : List (Int × Value)} (hel : ElemsOf (PySem.W.bytesKind P w) l) (he : e ∈ l) : ∃ k t, e.2 = .bytes (List.toArray k) t := by
  obtain ⟨⟨k, hk, _⟩, _⟩ := hel e he
  obtain ⟨t, ht⟩ := isBytes_shape hk
  exact ⟨k, t, ht⟩
theorem is_key {k : List UInt8} {v : Value} (hv : ∃ k' t, v = .bytes (List.toArray k') t) : (PySem.W.bytesKind P w).is k v = true ↔ keyB v = k := by
  obtain ⟨k', t, rfl⟩ := hv
  show isBytes k (.bytes k'.toArray t) = true ↔ _
  simp [isBytes, keyB]

theorem bs_store {a : Addr} {o : Obj} {es : Array (Int × Value)} {ep : Nat} {t : SetTable} {es' : Array (Int × Value)} {t' : SetTable} {Q : Unit → Shared → Prop} (ho : s.heap.get? a = some o) (hd : o.data = .set es ep t) (hz : es'.size ≤ 4096)
    (h : ∀ s', Heap.SameBut a s.heap s'.heap → s' = { s with heap := s'.heap } → s'.heap.get? a = some { o with data := .set es' (ep + 1) t' } → Q () s') : wpAny (model P w) A (storeSet a es' t') Q E s := by
  refine wpAny_storeSet_of ho hd (h _ (Heap.SameBut.update s.heap a (Obj.putSet es' t')) rfl ?_) (Nat.le_trans hz line4096)
  have := Heap.get?_update_self (Obj.putSet es' t') ho (by rw [putSet_of es' t' hd]; rfl)
  rw [putSet_of es' t' hd] at this
  exact this

theorem bs_add {a : Addr} {D : List (List UInt8)} {x : List UInt8} {tx : Tok} {Q : Bool → Shared → Prop} (hS : BSet w s.heap a D) (hroom : D.length < 4000)
    (h : ∀ b s', Heap.SameBut a s.heap s'.heap → s' = { s with heap := s'.heap } → BSet w s'.heap a (addB D x) → Q b s') : wpAny (model P w) A (setAddHashed a (.bytes x.toArray tx) ((PySem.W.bytesKind P w).hash x)) Q E s := by
  obtain ⟨o, es, ep, t, ho, hex, hd, hel, hper, hf, hpl⟩ := hS
  have hsz : es.size = D.length := by have := hper.length_eq; simpa using this
  have hb : es.size < scanBound := by rw [hsz]; exact Nat.lt_of_lt_of_le hroom (by decide)
  have hsc : (Value.bytes x.toArray tx).scannable = true := rfl
  have hkey : (PySem.W.bytesKind P w).is x (.bytes x.toArray tx) = true := by show isBytes x (.bytes x.toArray tx) = true; simp [isBytes]
  unfold setAddHashed setAddHashedIn
  refine wpAny_holding (wpAny_bind (wpAny_setState_of ho hd hf ?_))
  dsimp only
  rw [byScan_of hsc hb hel]
  simp only [if_true]
  unfold setAddByScan
  refine wpAny_bind ?_
  refine wpAny_bind (wpAny_rule ?_)
  refine wpAny_bind (wpAny_setScan_of hkey ho hd hf hel ?_)
  have hmemD : ∀ k, k ∈ D ↔ ∃ e ∈ es.toList, (PySem.W.bytesKind P w).is k e.2 = true := fun k => by
    rw [← hper.mem_iff, List.mem_map]
    constructor
    · rintro ⟨e, he, q⟩
      exact ⟨e, he, (is_key (elem_bytes hel he)).mpr q⟩
    · rintro ⟨e, he, q⟩
      exact ⟨e, he, (is_key (elem_bytes hel he)).mp q⟩
  cases hr : List.findIdx? (fun e => (PySem.W.bytesKind P w).is x e.2) es.toList with
  | some j =>
    dsimp only
    obtain ⟨hj, hpj, _⟩ := List.findIdx?_eq_some_iff_getElem.mp hr
    have hxD : x ∈ D := (hmemD x).mpr ⟨es.toList[j], List.getElem_mem hj, hpj⟩
    refine wpAny_pure (wpAny_pure (h _ s (Heap.SameBut.refl a s.heap) rfl ?_))
    unfold addB
    rw [if_pos hxD]
    exact ⟨o, es, ep, t, ho, hex, hd, hel, hper, hf, hpl⟩
  | none =>
    dsimp only
    have hxD : x ∉ D := fun hx => by
      obtain ⟨e, he, hp⟩ := (hmemD x).mp hx
      have := List.findIdx?_eq_none_iff.mp hr e he
      rw [hp] at this; cases this
    have hperm := layNew_perm t es ((PySem.W.bytesKind P w).hash x) (.bytes x.toArray tx)
    have hfits := layNew_fits t es ((PySem.W.bytesKind P w).hash x) (.bytes x.toArray tx)
    generalize layNew t es ((PySem.W.bytesKind P w).hash x) (.bytes x.toArray tx) = Ly at hperm hfits ⊢
    obtain ⟨es1, t1, wasDummy, gave⟩ := Ly
    dsimp only at hperm hfits ⊢
    rw [Array.toList_push] at hperm
    have hel1 : ElemsOf (PySem.W.bytesKind P w) es1.toList := (hel.push hkey hsc).perm hperm
    have hper1 : (es1.toList.map fun e => keyB e.2).Perm (D ++ [x]) := by
      refine (hperm.map _).trans ?_
      rw [List.map_append]
      exact List.Perm.append hper (by simp [keyB])
    have hz1 : es1.size = D.length + 1 := by have := hper1.length_eq; simpa using this
    have gw : ∀ (b : Bool) {s₁ : Shared} {Q' : Unit → Shared → Prop}, Q' () s₁ → wpAny (model P w) A (match b with | true => rule "set.scan.the-table-gave-way" | false => pure ()) Q' E s₁ :=
      fun b s₁ Q' hq => by cases b <;> first | exact wpAny_pure hq | exact wpAny_rule hq
    refine wpAny_bind (gw _ ?_)
    -- what is left when the table is known to be plain no more
    have rest : ∀ t2 : SetTable, t2.fits es1.size = true → t2.plain = false → wpAny (model P w) A (do
        storeSet a es1 t2
        if (!wasDummy && t2.tooFull) = true then do
            (match (relayAll t2 es1 (SetTable.grown es1.size)).2.2 with | true => rule "set.scan.the-table-gave-way" | false => pure ())
            storeSet a (relayAll t2 es1 (SetTable.grown es1.size)).1 (relayAll t2 es1 (SetTable.grown es1.size)).2.1
            pure (some true)
          else pure (some true)) (fun r s' => match r with | some b => Q b s' | none => False) E s := by
      intro t2 hf2 hp2
      refine wpAny_bind (bs_store ho hd (by lia) (fun s1 hsb1 e1 ho1 => ?_))
      have fin : ∀ (es2 : Array (Int × Value)) (t3 : SetTable) (ep2 : Nat) (s2 : Shared), es2.toList.Perm es1.toList → t3.fits es2.size = true → t3.plain = false → Heap.SameBut a s.heap s2.heap → s2 = { s with heap := s2.heap } →
          s2.heap.get? a = some { o with data := .set es2 ep2 t3 } → Q true s2 := by
        intro es2 t3 ep2 s2 hp hf3 hp3 hsb e2 ho2
        refine h true s2 hsb e2 ?_
        unfold addB
        rw [if_neg hxD]
        exact ⟨_, es2, ep2, t3, ho2, hex, rfl, hel1.perm hp, (hp.map _).trans hper1, hf3, .inr hp3⟩
      split
      · have hp := relayAll_perm t2 es1 (SetTable.grown es1.size)
        have hfr := relayAll_fits t2 es1 (SetTable.grown es1.size)
        have hpr := relay_plain (es := es1) (n := SetTable.grown es1.size) hp2
        generalize relayAll t2 es1 (SetTable.grown es1.size) = Rl at hp hfr hpr ⊢
        obtain ⟨es2, t3, gave2⟩ := Rl
        dsimp only at hp hfr hpr ⊢
        have hz2 : es2.size = es1.size := by rw [← Array.length_toList, hp.length_eq, Array.length_toList]
        refine wpAny_bind (gw _ (wpAny_bind (bs_store ho1 rfl (by lia) (fun s2 hsb2 e2 ho2 => wpAny_pure ?_))))
        exact fin es2 t3 _ s2 hp hfr hpr (hsb1.trans hsb2) (by rw [e2, e1]) ho2
      · exact wpAny_pure (fin es1 t2 _ s1 (List.Perm.refl _) hf2 hp2 hsb1 e1 ho1)
    split
    · refine wpAny_bind ?_
      rw [hashByValue_scannable 8 hsc]
      refine wpAny_pure ?_
      refine wpAny_mono (rest { t1 with plain := false } (SetTable.fits_plain_off hfits) rfl) (fun r s' hr => ?_) fun _ _ e => e
      cases r with
      | none => exact hr.elim
      | some b => exact wpAny_pure hr
    · rename_i hnp
      refine wpAny_bind (wpAny_pure ?_)
      simp only [if_true]
      refine wpAny_mono (rest t1 hfits (by simpa using hnp)) (fun r s' hr => ?_) fun _ _ e => e
      cases r with
      | none => exact hr.elim
      | some b => exact wpAny_pure hr
end

noncomputable def dedB (ys : List (List UInt8)) : List (List UInt8) := ys.foldl addB []
theorem dedB_snoc (ys : List (List UInt8)) (y : List UInt8) : dedB (ys ++ [y]) = addB (dedB ys) y := by unfold dedB; rw [List.foldl_append]; rfl
theorem addB_len (D : List (List UInt8)) (x : List UInt8) : (addB D x).length ≤ D.length + 1 := by unfold addB; split <;> simp
theorem foldB_len : ∀ (ys D : List (List UInt8)), (ys.foldl addB D).length ≤ D.length + ys.length
  | [], D => Nat.le_refl _
  | y :: ys, D => by
    rw [List.foldl_cons, List.length_cons]
    have h1 := foldB_len ys (addB D y)
    have h2 := addB_len D y
    lia
theorem dedB_len (ys : List (List UInt8)) : (dedB ys).length ≤ ys.length := by
  unfold dedB
  have := foldB_len ys []
  simpa using this

section
variable {w : World} {A : Around} {E : Value → Shared → Prop} {s : Shared}
theorem BSet.at {h h' : Heap} {a : Addr} {D : List (List UInt8)} (x : BSet w h a D) (k : ∀ o, h.get? a = some o → h'.get? a = some o) : BSet w h' a D := by
  obtain ⟨o, es, ep, t, ho, r⟩ := x
  exact ⟨o, es, ep, t, k o ho, r⟩

theorem bs_loop {S I l : Addr} {vs : List Value} {ys : List (List UInt8)} {s₀ : Shared} {R : Result → Shared → Prop} (hh : A.handled = none) (hB : BytesAre vs ys) (hn : ys.length < 4000) (hSI : S ≠ I) (hlI : l ≠ I) (hlS : l ≠ S) :
    ∀ (k i : Nat) (s : Shared), ys.length - i = k → i ≤ ys.length → s.heap.IsListIter I l i → s.heap.IsList l vs.toArray → BSet w s.heap S (dedB (ys.take i)) → KeepsBut [S, I] s₀ s →
      (∀ s', BSet w s'.heap S (dedB ys) → KeepsBut [S, I] s₀ s' → R (.ok (.ret .none)) s') → codeAny (model P w) A (.builtin "set.update.loop" ⟨[.ref S, .ref I], []⟩) R s := by
  have hlen : vs.length = ys.length := hB.length
  intro k
  induction k with
  | zero =>
    intro i s hk hi hit hl hS hkb hR
    obtain rfl : i = ys.length := by lia
    refine codeAny_builtin PyProof.Rows.F.entry_set_update_loop ?_
    rw [Around.under_plainId PyProof.Rows.F.plain_set_update_loop _]
    show wpAny _ A.in1 (pyNext (.ref I) >>= _) _ _ s
    refine wpAny_bind (wpAny_pyNext_list_end (A := A.in1) hh hit hl (by simp [hlen]) fun h' he => ?_)
    show wpAny _ A.in1 (ret Value.none) _ _ _
    rw [List.take_length] at hS
    refine wpAny_pure (hR _ (hS.at fun o e => he _ _ hSI e) (hkb.trans ⟨h', s.toks, rfl, fun b o hb e => he b o (fun q => hb (by simp [q])) e⟩))
  | succ k ih =>
    intro i s hk hi hit hl hS hkb hR
    have hlt : i < ys.length := by lia
    obtain ⟨y, hy⟩ : ∃ y, ys[i]? = some y := ⟨_, List.getElem?_eq_getElem hlt⟩
    obtain ⟨v, hv⟩ : ∃ v, vs[i]? = some v := ⟨_, List.getElem?_eq_getElem (by lia)⟩
    obtain ⟨y', t, hy', rfl⟩ := hB.at hv
    obtain rfl : y = y' := by rw [hy] at hy'; exact Option.some.inj hy'
    refine codeAny_builtin PyProof.Rows.F.entry_set_update_loop ?_
    rw [Around.under_plainId PyProof.Rows.F.plain_set_update_loop _]
    show wpAny _ A.in1 (pyNext (.ref I) >>= _) _ _ s
    refine wpAny_bind (wpAny_pyNext_list_item (A := A.in1) hit hl (x := .bytes y.toArray t) (by simpa using hv) fun h1 hit1 hs1 => ?_)
    show wpAny _ A.in1 (holding [Value.bytes y.toArray t] (setAdd S (.bytes y.toArray t)) >>= _) _ _ _
    refine wpAny_bind (wpAny_holding ?_)
    unfold setAdd
    refine wpAny_holding ?_
    refine wpAny_bind ((PySem.W.bytesKind P w).pyHash (k := y) (by show isBytes y (.bytes y.toArray t) = true; simp [isBytes]) ?_)
    have hS1 : BSet w h1 S (dedB (ys.take i)) := hS.at fun o e => hs1.extBut _ _ hSI e
    have hlenD : (dedB (ys.take i)).length < 4000 := by have := dedB_len (ys.take i); rw [List.length_take] at this; lia
    refine bs_add (s := { s with heap := h1, toks := s.toks + 1 }) hS1 hlenD (fun b s2 hsb e2 hS2 => ?_)
    refine wpAny_pure ⟨plainId_quiet PyProof.Rows.F.plain_set_update_loop _, ih (i + 1) s2 (by lia) hlt ?_ ?_ ?_ ?_ hR⟩
    · exact hit1.at fun o e => hsb.extBut _ o hSI.symm e
    · exact (hl.extBut hs1.extBut hlI).at fun o e => hsb.extBut _ o hlS e
    · rw [List.take_add_one, hy]
      show BSet w s2.heap S (dedB (ys.take i ++ [y]))
      rw [dedB_snoc]; exact hS2
    · rw [e2]
      exact hkb.trans ⟨s2.heap, s.toks + 1, rfl, fun b o hb e => by
        simp only [List.mem_cons, List.not_mem_nil, or_false, not_or] at hb
        exact hsb.extBut b o hb.1 (hs1.extBut b o hb.2 e)⟩

/-- set(list of bytes) -/
theorem k_set {l : Addr} {vs : List Value} {ys : List (List UInt8)} {Q : Value → Shared → Prop} (hh : A.handled = none) (hl : s.heap.IsList l vs.toArray) (hB : BytesAre vs ys) (hn : ys.length < 4000)
    (h : ∀ S s', Keeps s s' → s.heap.get? S = none → BSet w s'.heap S (dedB ys) → Q (.ref S) s') : wpAny (model P w) A (call (.type "set") [.ref l]) Q E s := by
  obtain ⟨c, tl, hmro⟩ := F.called_set.mro
  have hmade := F.called_set.made
  have hsub := F.called_set.sub
  have fin : ∀ s', BSet w s'.heap s.heap.objs.size (dedB ys) → Keeps s s' → Q (.ref s.heap.objs.size) s' := fun s' hS hk => h _ s' hk (get?_size_none _) hS
  refine wpAny_call (codeAny_of_tree ?_)
  show wpAny _ _ (callAny (.type "set") _) _ _ _
  refine wpAny_pure ⟨Code.quiet_builtin _ (by decide +kernel), codeAny_builtin F.entry_type_call ?_⟩
  rw [Around.under_plain (weight_type_call_type "set" [.ref l] []) rfl]
  have h1 := F.called_set.notType
  have h2 := F.called_set.canCreate
  have hct := F.typeCall_set_1 (.ref l)
  repeat (any_goals (first | assumption | wp_step))
  refine codeAny_mono (code_set_new_1 (.ref l) (E := E) (Q₁ := fun obj s₁ => ∃ led : Bool, obj = .ref s.heap.objs.size ∧ s₁ = { s with heap := s.heap.push { cls := .type "set", dict := none, data := .set #[] 0 (.fresh 0 0 led) } }) fun led => ⟨led, rfl, rfl⟩) fun r s₁ hr => ?_
  cases r with
  | error e => exact hr
  | ok fl =>
    cases fl with
    | ret obj =>
      obtain ⟨led, rfl, rfl⟩ := hr
      have hS : (s.heap.push { cls := .type "set", dict := none, data := .set #[] 0 (.fresh 0 0 led) }).get? s.heap.objs.size = some { cls := .type "set", dict := none, data := .set #[] 0 (.fresh 0 0 led) } := Heap.get?_push_size _ rfl
      have hT : Shared.TypeIs { s with heap := s.heap.push { cls := .type "set", dict := none, data := .set #[] 0 (.fresh 0 0 led) } } (.ref s.heap.objs.size) "set" := ⟨_, hS, rfl⟩
      have hli := F.called_set.init.lookup
      have hbi := F.called_set.init.bind (.ref s.heap.objs.size)
      repeat (any_goals (first | assumption | wp_step))
      refine codeAny_mono (codeAny_call_builtin (R := wants (fun r s₂ => r = .none ∧ BSet w s₂.heap s.heap.objs.size (dedB ys) ∧ Keeps s s₂) E) F.called_set.init.plain F.entry_set_init (check_set_init_1 hT ?_)) fun r₂ s₂ hr₂ => ?_
      · obtain ⟨ol, hol, hcl, nl, hdl⟩ := hl
        obtain ⟨ocls, odict, odata, oslots⟩ := ol
        simp only at hcl hdl
        subst hcl; subst hdl
        have hol' : (s.heap.push { cls := .type "set", dict := none, data := .set #[] 0 (.fresh 0 0 led) }).get? l = some { cls := .type "list", dict := odict, data := .seq vs.toArray nl, slots := oslots } := Heap.get?_push_of_some _ hol
        have hsls := F.sub_list_set
        have hslf := F.sub_list_frozenset
        have hne : (Value.type "list" == Value.type "dict") = false := by decide
        have hl1 : (s.heap.push { cls := .type "set", dict := none, data := .set #[] 0 (.fresh 0 0 led) }).IsList l vs.toArray := ⟨_, hol', rfl, nl, rfl⟩
        unfold Builtin.«set.__init__» noKeywords Builtin.Frozenset.updateFrom
        generalize hPI : pyIter = PI
        wp_walk
        subst hPI
        refine wpAny_pyIter_list hl1 ?_
        refine wpAny_bind (wpAny_runValue ?_)
        have hlS : l < s.heap.objs.size := Heap.lt_size hol
        have hneI : l ≠ (s.heap.push { cls := .type "set", dict := none, data := .set #[] 0 (.fresh 0 0 led) }).objs.size := by
          rw [Heap.size_push]; exact Nat.ne_of_lt (Nat.lt_succ_of_lt hlS)
        have hSI : s.heap.objs.size ≠ (s.heap.push { cls := .type "set", dict := none, data := .set #[] 0 (.fresh 0 0 led) }).objs.size := by
          rw [Heap.size_push]; exact Nat.ne_of_lt (Nat.lt_succ_self _)
        refine bs_loop (s₀ := { s with heap := (s.heap.push { cls := .type "set", dict := none, data := .set #[] 0 (.fresh 0 0 led) }).push { cls := .type "list_iterator", data := .fields #[.ref l, .int 0 0] } }) (by simpa using hh) hB hn hSI hneI (Nat.ne_of_lt hlS) ys.length 0 _ (by lia) (Nat.zero_le _)
          ⟨_, Heap.get?_push_size _ rfl, rfl, rfl⟩ (hl1.push _) ?_ (KeepsBut.refl _) (fun s' hS' hk => ?_)
        · exact ⟨_, #[], 0, _, Heap.get?_push_of_some _ hS, ⟨rfl, rfl, rfl⟩, rfl, fun e he => by simp at he, by simp [dedB], by rfl, .inl rfl⟩
        · obtain ⟨h', tk', rfl, k⟩ := hk
          refine wpAny_pure ?_
          show wpAny _ _ (ret Value.none) _ _ _
          refine wpAny_pure ⟨rfl, hS', h', tk', rfl, fun b o e => k b o ?_ (Heap.get?_push_of_some _ (Heap.get?_push_of_some _ e))⟩
          have hb := Heap.lt_size e
          simp only [List.mem_cons, List.not_mem_nil, or_false, not_or]
          exact ⟨Nat.ne_of_lt hb, by rw [Heap.size_push]; exact Nat.ne_of_lt (Nat.lt_succ_of_lt hb)⟩
      · cases r₂ with
        | error e => exact hr₂
        | ok fl₂ =>
          cases fl₂ with
          | ret r =>
            obtain ⟨rfl, hS', hk'⟩ := hr₂
            repeat (any_goals (first | assumption | wp_step))
            exact fin _ hS' hk'
          | _ => exact hr₂.elim
    | _ => exact hr.elim
end

noncomputable def siObj (f : Value) (i : Int) (S : Addr) (n ep : Nat) : Obj := { cls := .type "set_iterator", data := .fields #[f, rawInt i, .ref S, rawInt n, rawInt ep] }
theorem si_next : Slot "set_iterator" "__next__" "set_iterator.__next__" :=
  .of (owner := "set_iterator") (n := "__next__") (by rw [typeLookup_type, builtinLookup_eq_fast]; kernel_rfl) (by decide +kernel) (by decide +kernel) (by decide +kernel)
    (by first | exact .inl (by decide +kernel) | exact .inr (by decide +kernel)) (by rw [isSubtype_type]; kernel_rfl)
theorem si_entry : entryFor table "set_iterator.__next__" = some Builtin.«set_iterator.__next__» := entryFor_of_tree (by kernel_rfl)
theorem si_args (a : Value) : argsOk "set_iterator.__next__" ⟨[a], []⟩ := by unfold argsOk; kernel_rfl
theorem set_entry_iter : entryFor table "set.__iter__" = some Builtin.«frozenset.__iter__» :=
  entryFor_alias (id' := "frozenset.__iter__") (by kernel_rfl) rfl (by decide +kernel) (by kernel_rfl)

theorem eraseIdx_perm' {α : Type} : ∀ (l : List α) (i : Nat) (x : α), l[i]? = some x → (x :: l.eraseIdx i).Perm l
  | [], i, x, h => by simp at h
  | a :: l, 0, x, h => by
    have : a = x := by simpa using h
    subst this; exact List.Perm.refl _
  | a :: l, i + 1, x, h => by
    have := eraseIdx_perm' l i x (by simpa using h)
    exact (List.Perm.swap a x _).trans (this.cons a)

theorem pick_perm {α : Type} (next : Nat → Nat) : ∀ (f k : Nat) (l : List α) (out : Array α), l.length ≤ f → (pickOrder.go next f k l out).toList.Perm (out.toList ++ l)
  | 0, k, l, out, h => by
    have : l = [] := List.eq_nil_of_length_eq_zero (by lia)
    subst this
    unfold pickOrder.go
    simp
  | f + 1, k, l, out, h => by
    unfold pickOrder.go
    cases hl : l[next k % l.length]? with
    | none =>
      dsimp only
      have : l = [] := by
        by_cases h0 : l.length = 0
        · exact List.eq_nil_of_length_eq_zero h0
        · have := Nat.mod_lt (next k) (show 0 < l.length by lia)
          rw [List.getElem?_eq_none_iff] at hl; lia
      subst this; simp
    | some x =>
      dsimp only
      have hp := eraseIdx_perm' l _ x hl
      have hlen : (l.eraseIdx (next k % l.length)).length ≤ f := by have := hp.length_eq; simp at this; lia
      refine (pick_perm next f (k + 1) _ (out.push x) hlen).trans ?_
      rw [Array.toList_push, List.append_assoc]
      exact List.Perm.append_left _ hp
theorem pickOrder_perm {α : Type} (next : Nat → Nat) (xs : Array α) : (pickOrder next xs).toList.Perm xs.toList := by
  unfold pickOrder
  have := pick_perm next xs.size 0 xs.toList #[] (by simp)
  simpa using this

section
variable {w : World} {A : Around} {E : Value → Shared → Prop} {s : Shared}
theorem wp_choose {src : Source} {n : Nat} {Q : Nat → Shared → Prop} (hn : n ≠ 0) (h : ∀ i d, i < n → Q i { s with drawn := d }) : wpAny (model P w) A (choose src n) Q E s :=
  fun _ _ _ => ⟨hn, h _ _ (Nat.mod_lt _ (Nat.pos_of_ne_zero hn))⟩

theorem wp_drawOrder {α : Type} : ∀ (n : Nat) (l : List α) (s : Shared) (Q : List α → Shared → Prop), n = l.length → (∀ out d, out.Perm l → Q out { s with drawn := d }) → wpAny (model P w) A (drawOrder n l) Q E s
  | 0, l, s, Q, hn, h => by
    obtain rfl : l = [] := List.eq_nil_of_length_eq_zero hn.symm
    unfold drawOrder
    exact wpAny_pure (h [] s.drawn (List.Perm.refl _))
  | n + 1, [], s, Q, hn, h => by simp at hn
  | n + 1, a :: l, s, Q, hn, h => by
    unfold drawOrder
    refine wpAny_bind (wp_choose (by simp) fun i d hi => ?_)
    obtain ⟨x, hx⟩ : ∃ x, (a :: l)[i]? = some x := ⟨_, List.getElem?_eq_getElem hi⟩
    rw [hx]
    dsimp only
    have hp := eraseIdx_perm' (a :: l) i x hx
    refine wpAny_bind (wp_drawOrder n _ _ _ (by have := hp.length_eq; simp at this hn; lia) fun out d' hout => wpAny_pure ?_)
    exact h (x :: out) d' ((hout.cons x).trans hp)

/-- the state of a set's iterator: ord are the values in the order that it will hand them out -/
noncomputable def SetIt (w : World) (I S : Addr) (o : Obj) (ord : List Value) (i : Nat) (h : Heap) : Prop :=
  h.get? S = some o ∧ ∃ (es : Array (Int × Value)) (ep : Nat) (t : SetTable), o.cls = .type "set" ∧ o.data = .set es ep t ∧ t.fits es.size = true ∧ es.size = ord.length ∧
    ((w.params.followText "set-order" = true ∧ h.get? I = some (siObj (rawInt 0) i S es.size ep) ∧ ord = (pickOrder (w.params.setOrder S ep) es).toList.map (·.2)) ∨
     (∃ (T : Addr) (places : List Nat), h.get? I = some (siObj (.ref T) i S es.size ep) ∧ h.get? T = some (tupObj (places.map fun p : Nat => rawInt p)) ∧ T ≠ I ∧ ord.length = places.length ∧ ∀ (j p : Nat), places[j]? = some p → ∃ e : Int × Value, es[p]? = some e ∧ ord[j]? = some e.2))

noncomputable def KeepsD (s s' : Shared) : Prop := ∃ h' tk d, s' = { s with heap := h', toks := tk, drawn := d } ∧ ∀ b o, s.heap.get? b = some o → h'.get? b = some o
theorem KeepsD.trans {s₁ s₂ s₃ : Shared} (x : KeepsD s₁ s₂) (y : KeepsD s₂ s₃) : KeepsD s₁ s₃ := by
  obtain ⟨h2, t2, d2, rfl, k2⟩ := x
  obtain ⟨h3, t3, d3, rfl, k3⟩ := y
  exact ⟨h3, t3, d3, rfl, fun b o e => k3 b o (k2 b o e)⟩
theorem KeepsD.of {s s' : Shared} (x : Keeps s s') : KeepsD s s' := by
  obtain ⟨h, t, rfl, k⟩ := x
  exact ⟨h, t, s.drawn, rfl, k⟩

theorem si_iter {S : Addr} {o : Obj} {es : Array (Int × Value)} {ep : Nat} {t : SetTable} {Q : Value → Shared → Prop} (ho : s.heap.get? S = some o) (hc : o.cls = .type "set") (hd : o.data = .set es ep t) (hf : t.fits es.size = true) (hpl : t.plain = false) (h2 : 2 ≤ es.size) (hz : es.size ≤ 4096)
    (h : ∀ I s' ord, KeepsD s s' → s.heap.get? I = none → ord.Perm (es.toList.map (·.2)) → SetIt w I S o ord 0 s'.heap → Q (.ref I) s') : wpAny (model P w) A (pyIter (.ref S)) Q E s := by
  have hT : s.TypeIs (.ref S) "set" := ⟨o, ho, hc⟩
  refine wpAny_pyIter_slot hT F.slot_set_iter (wpAny_call_entry F.slot_set_iter hT set_entry_iter ?_ (F.args_set_iter_1 _))
  show wpAny _ A.in1 (Builtin.Frozenset.sizeOf S >>= _) _ _ s
  unfold Builtin.Frozenset.sizeOf
  refine wpAny_bind (wpAny_bind (wpAny_setEntries_of ho hd hf (wpAny_pure ?_)))
  show wpAny _ A.in1 (setDrawn S >>= _) _ _ s
  unfold setDrawn
  refine wpAny_bind (wpAny_bind (wpAny_setState_of ho hd hf ?_))
  dsimp only
  unfold setsByText
  refine wpAny_bind (wpAny_bind (wpAny_askSetting (wpAny_pure ?_)))
  refine wpAny_pure ?_
  show wpAny _ A.in1 (if (!(w.params.followText "set-order") && (!t.plain && decide (es.size > 1))) = true then _ else _) _ _ s
  have h1 : decide (es.size > 1) = true := decide_eq_true (by lia)
  have fin : ∀ (f : Value) (s1 : Shared), s1.heap.get? S = some o → (∀ s', Keeps s1 s' → s1.heap.get? s1.heap.objs.size = none → s'.heap.get? s1.heap.objs.size = some (siObj f 0 S es.size ep) → Q (.ref s1.heap.objs.size) s') →
      wpAny (model P w) A.in1 (do let e ← setEpoch S; let r ← newFields "set_iterator" [f, rawInt 0, .ref S, rawInt es.size, rawInt e]; ret r : Sem PySem.Fin) (fun fin s' => ∃ v, fin = .done (.ret v) ∧ ∃ T r, s'.TypeIs v T ∧ (typeLookup (.type T) (Str.ofString "__next__") = pure (some r)) ∧ Q v s') E s1 := by
    intro f s1 ho1 hq
    refine wpAny_bind (wpAny_setEpoch_of ho1 hd hf ?_)
    refine wpAny_bind (wpAny_newObj_type (wpAny_pure ⟨_, rfl, "set_iterator", _, ⟨_, Heap.get?_push_size _ rfl, rfl⟩, si_next.lookup, ?_⟩))
    exact hq _ (keeps_push s1 _ s1.toks) (get?_size_none _) (Heap.get?_push_size _ rfl)
  cases hbt : w.params.followText "set-order" with
  | true =>
    rw [if_neg (by simp)]
    refine wpAny_bind (wpAny_pure ?_)
    refine fin (rawInt 0) s ho (fun s' hk hn hI => ?_)
    refine h _ s' _ (KeepsD.of hk) hn (List.Perm.map _ (pickOrder_perm (w.params.setOrder S ep) es)) ⟨keeps_get hk ho, es, ep, t, hc, hd, hf, ?_, .inl ⟨hbt, hI, rfl⟩⟩
    have := (pickOrder_perm (w.params.setOrder S ep) es).length_eq
    simpa using this.symm
  | false =>
    rw [if_pos (by simp [hpl]; lia)]
    refine wpAny_bind (wp_drawOrder es.size (List.range es.size) s _ (by simp) (fun out d hout => ?_))
    have hol : out.length = es.size := by have := hout.length_eq; simpa using this
    refine wpAny_bind (wpAny_newTuple ?_ (by rw [List.length_map, hol]; exact Nat.le_trans hz line4096))
    have hon : (s.heap.push (seqObj "tuple" (out.map fun i : Nat => rawInt i).toArray 0)).get? S = some o := Heap.get?_push_of_some _ ho
    refine fin (.ref s.heap.objs.size) _ hon (fun s' hk hn hI => ?_)
    have hT' : s'.heap.get? s.heap.objs.size = some (tupObj (out.map fun i : Nat => rawInt i)) := keeps_get hk (Heap.get?_push_size _ rfl)
    have hsz : (s.heap.push (seqObj "tuple" (out.map fun i : Nat => rawInt i).toArray 0)).objs.size = s.heap.objs.size + 1 := Heap.size_push ..
    refine h _ s' (out.map fun p => ((es[p]?).map (·.2)).getD .none) ?_ ?_ ?_ ⟨keeps_get hk hon, es, ep, t, hc, hd, hf, by simp [hol], .inr ⟨s.heap.objs.size, out, hI, hT', ?_, by simp, fun j p hj => ?_⟩⟩
    · obtain ⟨h', tk, rfl, k⟩ := hk
      exact ⟨h', tk, d, rfl, fun b ob e => k b ob (Heap.get?_push_of_some _ e)⟩
    · cases q : s.heap.get? (s.heap.push (seqObj "tuple" (out.map fun i : Nat => rawInt i).toArray 0)).objs.size with
      | none => rfl
      | some ob => exact absurd (Heap.lt_size q) (by rw [hsz]; exact Nat.not_lt.mpr (Nat.le_succ _))
    · refine (hout.map _).trans (List.Perm.of_eq ?_)
      refine List.ext_getElem? fun i => ?_
      rw [List.getElem?_map, List.getElem?_map]
      by_cases hi : i < es.size
      · rw [List.getElem?_range hi, Array.getElem?_toList, Array.getElem?_eq_getElem hi]; simp [Array.getElem?_eq_getElem hi]
      · rw [List.getElem?_eq_none (by simp; lia), Array.getElem?_toList, Array.getElem?_eq_none (by lia)]; rfl
    · show s.heap.objs.size ≠ (s.heap.push (seqObj "tuple" (out.map fun i : Nat => rawInt i).toArray 0)).objs.size
      rw [hsz]; exact Nat.ne_of_lt (Nat.lt_succ_self _)
    · have hp : p < es.size := by have := hout.mem_iff.mp (List.mem_of_getElem? hj); simpa using this
      exact ⟨es[p], Array.getElem?_eq_getElem hp, by rw [List.getElem?_map, hj]; simp [Array.getElem?_eq_getElem hp]⟩

theorem si_setNext {S : Addr} {o : Obj} {es : Array (Int × Value)} {ep i slot : Nat} {t : SetTable} {Q : Option (Value × Nat) → Shared → Prop} (ho : s.heap.get? S = some o) (hd : o.data = .set es ep t) (hf : t.fits es.size = true) (hbt : w.params.followText "set-order" = true)
    (h : Q (((pickOrder (w.params.setOrder S ep) es)[i]?).map fun e => (e.2, slot)) s) : wpAny (model P w) A (setNext S slot ((i : Nat) : Int).toNat ((ep : Nat) : Int).toNat) Q E s := by
  unfold setNext
  refine wpAny_bind (wpAny_setState_of ho hd hf ?_)
  dsimp only
  unfold setsByText
  refine wpAny_bind (wpAny_bind (wpAny_askSetting (wpAny_pure ?_)))
  show wpAny _ _ (if w.params.followText "set-order" = true then _ else _) _ _ s
  rw [if_pos hbt, Int.toNat_natCast, Int.toNat_natCast, if_neg (by simp)]
  unfold setWalk
  refine wpAny_bind (wpAny_bind (wpAny_setState_of ho hd hf ?_))
  dsimp only
  unfold setsByText
  refine wpAny_bind (wpAny_bind (wpAny_askSetting (wpAny_pure ?_)))
  show wpAny _ _ (if w.params.followText "set-order" = true then _ else _) _ _ s
  rw [if_pos hbt]
  refine wpAny_bind (wpAny_askSetting (wpAny_pure (wpAny_pure ?_)))
  exact h

theorem si_item {I S : Addr} {o : Obj} {ord : List Value} {i : Nat} {v : Value} {Q : Option Value → Shared → Prop} (hI : SetIt w I S o ord i s.heap) (hSI : S ≠ I) (hv : ord[i]? = some v)
    (h : ∀ s', SetIt w I S o ord (i + 1) s'.heap → KeepsBut [I] s s' → Q (some v) s') : wpAny (model P w) A (pyNext (.ref I)) Q E s := by
  obtain ⟨hS, es, ep, t, hc, hd, hf, hsz, hm⟩ := hI
  have hi : i < ord.length := (List.getElem?_eq_some_iff.mp hv).1
  have hIT : ∃ f, s.heap.get? I = some (siObj f i S es.size ep) := by
    rcases hm with ⟨_, hi', _⟩ | ⟨T, pl, hi', _⟩
    · exact ⟨_, hi'⟩
    · exact ⟨_, hi'⟩
  obtain ⟨f0, hI0⟩ := hIT
  have hT : s.TypeIs (.ref I) "set_iterator" := ⟨_, hI0, rfl⟩
  unfold pyNext
  refine wpAny_bind (wpAny_attempt (wpAny_callSpecial?_slot (name := Str.ofString "__next__") hT si_next (wpAny_call_entry si_next hT si_entry ?_ (si_args _))))
  show wpAny _ _ (fieldsOf (.ref I) >>= _) _ _ s
  unfold fieldsOf
  refine wpAny_bind (wpAny_bind (wpAny_load hI0 (wpAny_pure ?_)))
  dsimp only [siObj, rawInt]
  refine wpAny_bind (wpAny_setEntries_of hS hd hf ?_)
  simp only [bne_self_eq_false, Bool.false_eq_true, if_false]
  rcases hm with ⟨hbt, hi', hord⟩ | ⟨T, pl, hi', hTp, hTI, hpl, hat⟩
  · obtain rfl : f0 = rawInt 0 := by rw [hI0] at hi'; simp [siObj] at hi'; exact hi'
    show wpAny _ A.in1 (setNext S (0 : Int).toNat ((i : Nat) : Int).toNat ((ep : Nat) : Int).toNat >>= _) _ _ s
    refine wpAny_bind (si_setNext hS hd hf hbt ?_)
    obtain ⟨e, he, hev⟩ : ∃ e, (pickOrder (w.params.setOrder S ep) es)[i]? = some e ∧ e.2 = v := by
      rw [hord, List.getElem?_map, Array.getElem?_toList] at hv
      cases q : (pickOrder (w.params.setOrder S ep) es)[i]? with
      | none => rw [q] at hv; cases hv
      | some e => rw [q] at hv; exact ⟨e, rfl, Option.some.inj hv⟩
    rw [he]
    dsimp only [Option.map_some]
    rw [hev]
    refine wpAny_bind (wpAny_setField_rec hI0 (by simp) fun h1 hI1 hs1 => ?_)
    refine wpAny_bind (wpAny_setField_rec hI1 (by simp) fun h2 hI2 hs2 => ?_)
    have sb := hs1.trans hs2
    refine wpAny_pure ⟨_, rfl, wpAny_pure (h _ ⟨sb.extBut _ _ hSI hS, es, ep, t, hc, hd, hf, hsz, .inl ⟨hbt, hI2, hord⟩⟩ ⟨h2, s.toks, rfl, fun b ob hb e => sb.extBut b ob (by simpa using hb) e⟩)⟩
  · obtain rfl : f0 = .ref T := by rw [hI0] at hi'; simp [siObj] at hi'; exact hi'
    show wpAny _ A.in1 (seqItems? (.ref T) >>= _) _ _ s
    refine wpAny_bind (wpAny_seqItems hTp rfl ?_)
    obtain ⟨pp, hpp⟩ : ∃ pp, pl[i]? = some pp := ⟨_, List.getElem?_eq_getElem (by lia)⟩
    obtain ⟨e, he, hev⟩ := hat i pp hpp
    have hev' : e.2 = v := by rw [hv] at hev; exact (Option.some.inj hev).symm
    have hpl' : (List.toArray (pl.map fun p : Nat => rawInt p))[((i : Nat) : Int).toNat]? = some (.int (pp : Nat) 0) := by
      rw [List.getElem?_toArray, List.getElem?_map, Int.toNat_natCast, hpp]; rfl
    dsimp only
    rw [hpl']
    show wpAny _ A.in1 (setNextDrawn S ((pp : Nat) : Int).toNat ((ep : Nat) : Int).toNat >>= _) _ _ s
    unfold setNextDrawn
    refine wpAny_bind (wpAny_bind (wpAny_setState_of hS hd hf ?_))
    dsimp only
    rw [Int.toNat_natCast, Int.toNat_natCast, if_neg (by simp), he]
    refine wpAny_pure ?_
    rw [hev']
    refine wpAny_bind (wpAny_setField_rec hI0 (by simp) fun h1 hI1 hs1 => ?_)
    refine wpAny_pure ⟨_, rfl, wpAny_pure (h _ ⟨hs1.extBut _ _ hSI hS, es, ep, t, hc, hd, hf, hsz, .inr ⟨T, pl, hI1, hs1.extBut _ _ hTI hTp, hTI, hpl, hat⟩⟩ ⟨h1, s.toks, rfl, fun b ob hb e => hs1.extBut b ob (by simpa using hb) e⟩)⟩

theorem si_done {I S : Addr} {o : Obj} {ord : List Value} {Q : Option Value → Shared → Prop} (hh : A.handled = none) (hI : SetIt w I S o ord ord.length s.heap) (hSI : S ≠ I)
    (h : ∀ s', KeepsBut [I] s s' → Q none s') : wpAny (model P w) A (pyNext (.ref I)) Q E s := by
  obtain ⟨hS, es, ep, t, hc, hd, hf, hsz, hm⟩ := hI
  have hIT : ∃ f, s.heap.get? I = some (siObj f (ord.length : Nat) S es.size ep) := by
    rcases hm with ⟨_, hi', _⟩ | ⟨T, pl, hi', _⟩
    · exact ⟨_, hi'⟩
    · exact ⟨_, hi'⟩
  obtain ⟨f0, hI0⟩ := hIT
  have hT : s.TypeIs (.ref I) "set_iterator" := ⟨_, hI0, rfl⟩
  have stop : ∀ s1 : Shared, KeepsBut [I] s s1 → wpAny (model P w) A.in1 (do let e ← newExc (.type "StopIteration") []; raiseNew e : Sem PySem.Fin) (fun fin s' => ∃ v, fin = .done (.ret v) ∧ wpAny (model P w) A (pure (some v)) Q E s')
      (fun e s' => wpAny (model P w) A (do let r ← isInstance e (.type "StopIteration"); if r = true then pure none else throw e) Q E s') s1 := by
    intro s1 k1
    refine wpAny_bind ?_
    simp only [newExc, newTuple]
    refine wpAny_bind (wpAny_newObj_type ?_ (by size_fits))
    refine wpAny_bind (m := firstArgMember _ _) (wpAny_of_eq (a := Value.none) (by first | rfl | (simp only [firstArgMember]; rfl)) ?_)
    refine wpAny_newObj_type ?_ (by size_fits)
    simp only [raiseNew]
    refine wpAny_bind (wpAny_handled ?_)
    rw [show A.in1.handled = none from hh]
    refine wpAny_bind (wpAny_pure (wpAny_throw ?_))
    refine wpAny_bind (wpAny_isInstance (T := "StopIteration") (b := true) ⟨_, Heap.get?_push_size _ rfl, rfl⟩ isSubtype_stop ?_)
    obtain ⟨h', tk, rfl, k⟩ := k1
    exact wpAny_pure (h _ ⟨_, _, rfl, fun b o hb e => Heap.get?_push_of_some _ (Heap.get?_push_of_some _ (k b o hb e))⟩)
  unfold pyNext
  refine wpAny_bind (wpAny_attempt (wpAny_callSpecial?_slot (name := Str.ofString "__next__") hT si_next (wpAny_call_entry si_next hT si_entry ?_ (si_args _))))
  show wpAny _ _ (fieldsOf (.ref I) >>= _) _ _ s
  unfold fieldsOf
  refine wpAny_bind (wpAny_bind (wpAny_load hI0 (wpAny_pure ?_)))
  dsimp only [siObj, rawInt]
  refine wpAny_bind (wpAny_setEntries_of hS hd hf ?_)
  simp only [bne_self_eq_false, Bool.false_eq_true, if_false]
  rcases hm with ⟨hbt, hi', hord⟩ | ⟨T, pl, hi', hTp, hTI, hpl, hat⟩
  · obtain rfl : f0 = rawInt 0 := by rw [hI0] at hi'; simp [siObj] at hi'; exact hi'
    show wpAny _ A.in1 (setNext S (0 : Int).toNat ((ord.length : Nat) : Int).toNat ((ep : Nat) : Int).toNat >>= _) _ _ s
    refine wpAny_bind (si_setNext hS hd hf hbt ?_)
    have hl : (pickOrder (w.params.setOrder S ep) es)[ord.length]? = none := by
      rw [Array.getElem?_eq_none_iff]
      have := congrArg List.length hord
      simp at this
      lia
    rw [hl]
    dsimp only [Option.map_none]
    refine wpAny_bind (wpAny_setField_rec hI0 (by simp) fun h1 hI1 hs1 => ?_)
    exact stop _ ⟨h1, s.toks, rfl, fun b ob hb e => hs1.extBut b ob (by simpa using hb) e⟩
  · obtain rfl : f0 = .ref T := by rw [hI0] at hi'; simp [siObj] at hi'; exact hi'
    show wpAny _ A.in1 (seqItems? (.ref T) >>= _) _ _ s
    refine wpAny_bind (wpAny_seqItems hTp rfl ?_)
    have hpl' : (List.toArray (pl.map fun p : Nat => rawInt p))[((ord.length : Nat) : Int).toNat]? = none := by
      rw [List.getElem?_toArray, List.getElem?_map, Int.toNat_natCast, List.getElem?_eq_none (by lia)]; rfl
    dsimp only
    rw [hpl']
    dsimp only
    refine wpAny_bind (wpAny_setField_rec hI0 (by simp) fun h1 hI1 hs1 => ?_)
    refine wpAny_bind (wpAny_setField_rec hI1 (by simp) fun h2 hI2 hs2 => ?_)
    have sb := hs1.trans hs2
    exact stop _ ⟨h2, s.toks, rfl, fun b ob hb e => sb.extBut b ob (by simpa using hb) e⟩

theorem SetIt.other {I S D : Addr} {o oD : Obj} {ord : List Value} {i : Nat} {h h' : Heap} (x : SetIt w I S o ord i h) (hD : h.get? D = some oD) (hc : oD.cls = .type "list") (k : ∀ b ob, b ≠ D → h.get? b = some ob → h'.get? b = some ob) : SetIt w I S o ord i h' := by
  obtain ⟨hS, es, ep, t, hcs, hd, hf, hsz, hm⟩ := x
  have ne : ∀ b ob n, h.get? b = some ob → ob.cls = .type n → n ≠ "list" → b ≠ D := fun b ob n e1 e2 e3 z => by
    subst z
    rw [e1] at hD
    cases hD
    rw [e2] at hc
    cases hc
    exact e3 rfl
  refine ⟨k _ _ (ne _ _ _ hS hcs (by decide)) hS, es, ep, t, hcs, hd, hf, hsz, ?_⟩
  rcases hm with ⟨hbt, hi', hord⟩ | ⟨T, pl, hi', hTp, r⟩
  · exact .inl ⟨hbt, k _ _ (ne _ _ _ hi' rfl (by decide)) hi', hord⟩
  · exact .inr ⟨T, pl, k _ _ (ne _ _ _ hi' rfl (by decide)) hi', k _ _ (ne _ _ _ hTp rfl (by decide)) hTp, r⟩

/-- list.extend's loop over a set's iterator -/
theorem si_extend {R : Result → Shared → Prop} (hh : A.handled = none) {I S D : Addr} {o : Obj} {ord : List Value} {s₀ : Shared} (hSI : S ≠ I) (hDI : D ≠ I) (res : Value) (hord : ord.length < 4096) :
    ∀ (k i : Nat) (s : Shared), ord.length - i = k → i ≤ ord.length → SetIt w I S o ord i s.heap → s.heap.PlainList D (ord.take i).toArray → KeepsBut [D, I] s₀ s →
      (∀ s', s'.heap.PlainList D ord.toArray → KeepsBut [D, I] s₀ s' → R (.ok (.ret res)) s') → codeAny (model P w) A (.builtin "list.extend.loop" ⟨[.ref D, .ref I, res], []⟩) R s := by
  have hline := line4096
  intro k
  induction k with
  | zero =>
    intro i s hk hi hit hD hkb hR
    obtain ⟨c, hD⟩ := hD
    obtain rfl : i = ord.length := by lia
    refine codeAny_builtin F.entry_extend_loop ?_
    rw [Around.under_plainId F.plain_extend_loop _]
    show wpAny _ A.in1 (pyNext (.ref I) >>= _) _ _ s
    refine wpAny_bind (si_done (A := A.in1) hh hit hSI fun s' h' => ?_)
    rw [List.take_length] at hD
    refine wpAny_pure (hR _ ⟨c, h'.get (by simpa using hDI) hD⟩ ?_)
    exact hkb.trans (h'.mono (by simp))
  | succ k ih =>
    intro i s hk hi hit hD hkb hR
    obtain ⟨c, hD⟩ := hD
    have hlt : i < ord.length := by lia
    obtain ⟨v, hv⟩ : ∃ v, ord[i]? = some v := ⟨_, List.getElem?_eq_getElem hlt⟩
    refine codeAny_builtin F.entry_extend_loop ?_
    rw [Around.under_plainId F.plain_extend_loop _]
    show wpAny _ A.in1 (pyNext (.ref I) >>= _) _ _ s
    refine wpAny_bind (si_item (A := A.in1) hit hSI hv fun s₂ hit2 h5 => ?_)
    have hS2 := h5.get (by simpa using hDI) hD
    have hpl2 : (s₂.heap.update D (Obj.mapSeq (·.push v))).PlainList D (ord.take (i + 1)).toArray := by
      have := Heap.get?_update_self (Obj.mapSeq (·.push v)) hS2 rfl
      have e : (ord.take (i + 1)).toArray = (ord.take i).toArray.push v := by rw [List.take_add_one, hv]; simp
      rw [e]
      exact ⟨_, this⟩
    show wpAny _ A.in1 (updateSeq D (·.push v) >>= _) _ _ _
    refine wpAny_bind ?_
    have hsz : (ord.take i).toArray.size = i := by simp; lia
    refine wpAny_updateSeq hS2 rfl (wpAny_pure ⟨plainId_quiet F.plain_extend_loop _, ih (i + 1) _ (by lia) (by lia) ?_ hpl2 ?_ hR⟩)
      (by rw [hsz]; lia) (by show ((ord.take i).toArray.push v).size ≤ sizeLine + 1; rw [Array.size_push, hsz]; lia)
    · exact hit2.other hS2 rfl fun b ob hb e => (Heap.get?_update_other _ _ (Ne.symm hb)).trans e
    · refine hkb.trans ?_
      obtain ⟨h3', tk3, rfl, k3⟩ := h5
      refine ⟨_, tk3, rfl, fun b o hb e => ?_⟩
      simp only [List.mem_cons, List.not_mem_nil, or_false, not_or] at hb
      exact (Heap.get?_update_other _ _ (Ne.symm hb.1)).trans (k3 b o (by simpa using hb.2) e)

theorem si_collect {S : Addr} {o : Obj} {es : Array (Int × Value)} {ep : Nat} {t : SetTable} {Q : List Value → Shared → Prop} (hh : A.handled = none) (ho : s.heap.get? S = some o) (hc : o.cls = .type "set") (hd : o.data = .set es ep t) (hf : t.fits es.size = true) (hpl : t.plain = false) (h2 : 2 ≤ es.size) (hz : es.size < 4096)
    (h : ∀ s' ord, KeepsD s s' → ord.Perm (es.toList.map (·.2)) → Q ord s') : wpAny (model P w) A (collect (.ref S)) Q E s := by
  have hSlt : S < s.heap.objs.size := Heap.lt_size ho
  unfold collect
  refine wpAny_bind (wpAny_runValue (codeAny_builtin F.entry_proto_collect ?_))
  rw [Around.under_plainId F.plain_proto_collect _]
  show wpAny _ A.in1 (newList [] >>= fun l => again (.builtin "list.__iadd__" ⟨[l, .ref S], []⟩)) _ _ s
  refine wpAny_bind (wpAny_newObj_type ?_)
  refine wpAny_pure ⟨plainId_quiet F.plain_list_iadd _, codeAny_builtin F.entry_list_iadd ?_⟩
  rw [Around.under_plainId F.plain_list_iadd _]
  show wpAny _ A.in1 (Builtin.List.listExtendWith (.ref s.heap.objs.size) (.ref S) (.ref s.heap.objs.size)) _ _ _
  have hD0 : (s.heap.push { cls := .type "list", data := .seq ([] : List Value).toArray }).get? s.heap.objs.size = some { cls := .type "list", data := .seq ([] : List Value).toArray } := Heap.get?_push_size _ rfl
  have ho1 : (s.heap.push { cls := .type "list", data := .seq ([] : List Value).toArray }).get? S = some o := Heap.get?_push_of_some _ ho
  have hDS : s.heap.objs.size ≠ S := fun e => Nat.lt_irrefl _ (e ▸ hSlt)
  have hold : ∀ b ob, s.heap.get? b = some ob → (s.heap.push { cls := .type "list", data := .seq ([] : List Value).toArray }).get? b = some ob := fun b ob e => Heap.get?_push_of_some _ e
  have hnD : s.heap.get? s.heap.objs.size = none := get?_size_none _
  generalize (s.heap.push { cls := .type "list", data := .seq ([] : List Value).toArray }) = H at hD0 ho1 hold ⊢
  generalize s.heap.objs.size = D at hD0 hDS hnD ⊢
  unfold Builtin.List.listExtendWith
  refine wpAny_bind (wpAny_typeOf (T := "set") ⟨o, ho1, hc⟩ ?_)
  have h1 : Builtin.List.listSameRef (.ref D) (.ref S) = false := by simp [Builtin.List.listSameRef, hDS]
  rw [if_neg (by rw [h1]; decide)]
  refine wpAny_bind (si_iter ho1 hc hd hf hpl h2 (Nat.le_of_lt hz) fun I s1 ord hk1 hI1 hperm hit => ?_)
  have hDI : D ≠ I := fun e => by rw [e] at hD0; rw [show H.get? I = none from hI1] at hD0; cases hD0
  have hSI : S ≠ I := fun e => by rw [e] at ho1; rw [show H.get? I = none from hI1] at ho1; cases ho1
  obtain ⟨h1', tk1, d1, rfl, k1⟩ := hk1
  refine wpAny_bind (wpAny_holding ?_)
  unfold Builtin.List.listLengthHint
  refine wpAny_bind (wpAny_specialOf (T := "set") ⟨o, k1 _ _ ho1, hc⟩ F.slot_set_len.lookup ?_)
  wp_delta
  refine wpAny_bind (wpAny_isInstance (T := "set") (b := true) ⟨o, k1 _ _ ho1, hc⟩ (by rw [isSubtype_type]; kernel_rfl) ?_)
  show wpAny _ A.in1 (typeOf (Value.ref S) >>= _) _ _ _
  refine wpAny_bind (wpAny_typeOf (T := "set") ⟨o, k1 _ _ ho1, hc⟩ ?_)
  refine wpAny_pure ?_
  show wpAny _ A.in1 (rule "list.extend.makes-room" >>= fun _ => Builtin.List.listTouch (.ref D) >>= fun _ =>
    again (.builtin "list.extend.loop" ⟨[.ref D, .ref I, .ref D], []⟩)) _ _ _
  refine wpAny_bind (wpAny_rule ?_)
  refine wpAny_bind ?_
  show wpAny _ A.in1 (updateSeq D (·.push .none) >>= fun _ => updateSeq D (·.pop)) _ _ _
  have hD1 := k1 _ _ hD0
  refine wpAny_bind (wpAny_updateSeq hD1 rfl ?_)
  have hD2 := Heap.get?_update_self (Obj.mapSeq (·.push Value.none)) hD1 rfl
  refine wpAny_updateSeq hD2 rfl ?_
  have hD3 := Heap.get?_update_self (Obj.mapSeq (·.pop)) hD2 rfl
  have oth : ∀ b ob, b ≠ D → h1'.get? b = some ob → ((h1'.update D (Obj.mapSeq (·.push Value.none))).update D (Obj.mapSeq (·.pop))).get? b = some ob :=
    fun b o hb e => (Heap.get?_update_other _ _ (Ne.symm hb)).trans ((Heap.get?_update_other _ _ (Ne.symm hb)).trans e)
  have hol : ord.length < 4096 := by have := hperm.length_eq; simp at this; lia
  refine wpAny_pure ⟨plainId_quiet F.plain_extend_loop _, si_extend (A := A) hh (s₀ := { s with heap := (h1'.update D (Obj.mapSeq (·.push Value.none))).update D (Obj.mapSeq (·.pop)), toks := tk1, drawn := d1 }) hSI hDI _ hol ord.length 0 _ (by lia) (Nat.zero_le _) (hit.other hD1 rfl oth) ⟨_, hD3⟩ (KeepsBut.refl _) fun s' hpl' hk' => ?_⟩
  obtain ⟨c, hpc⟩ := hpl'
  show wpAny _ A (load D >>= _) _ _ s'
  refine wpAny_bind (wpAny_load hpc ?_)
  refine wpAny_pure (h s' ord ?_ hperm)
  obtain ⟨h3, tk3, rfl, k3⟩ := hk'
  refine ⟨h3, tk3, d1, rfl, fun b ob e => k3 b ob ?_ (oth b ob ?_ (k1 b ob (hold b ob e)))⟩
  · simp only [List.mem_cons, List.not_mem_nil, or_false, not_or]
    exact ⟨fun z => (by rw [z, hnD] at e; cases e), fun z => (by rw [z] at e; rw [hold _ _ e] at hI1; cases hI1)⟩
  · exact fun z => (by rw [z, hnD] at e; cases e)

theorem ofElems {es : Array (Int × Value)} (hel : ElemsOf (PySem.W.bytesKind P w) es.toList) : ∀ v ∈ es.toList.map (·.2), IsB v := by
  intro v hv
  obtain ⟨e, he, rfl⟩ := List.mem_map.mp hv
  obtain ⟨⟨k, hk, _⟩, _⟩ := hel e he
  obtain ⟨t, ht⟩ := PySem.W.isBytes_shape hk
  exact ⟨_, t, ht⟩

/-- sorted(a set of bytes) -/
theorem k_sortedSet {S : Addr} {D : List (List UInt8)} {Q : Value → Shared → Prop} (hh : A.handled = none) (hS : BSet w s.heap S D) (h2 : 2 ≤ D.length) (h64 : D.length < 64)
    (h : ∀ R s' vs' ys', KeepsD s s' → s.heap.get? R = none → s'.heap.PlainList R vs'.toArray → BytesAre vs' ys' → ys'.Perm D → SortedB ys' → Q (.ref R) s') :
    wpAny (model P w) A (call (.builtin "sorted") [.ref S]) Q E s := by
  obtain ⟨o, es, ep, t, ho, hx, hd, hel, hperm, hf, hpl⟩ := hS
  have hne : D ≠ [] := fun e => by rw [e] at h2; simp at h2
  have hpl' : t.plain = false := hpl.resolve_left hne
  have hsz : es.size = D.length := by have := hperm.length_eq; simpa using this
  refine Calls.call_function_entry kind_sorted plain_sorted entry_sorted (args_sorted1 _) ?_
  unfold Builtin.«sorted»
  refine wpAny_bind (m := checkCount "sorted" 1 1 _) (wpAny_pure ?_)
  refine wpAny_bind (si_collect hh ho hx.1 hd hf hpl' (by lia) (by lia) fun s1 ord hk1 hord => ?_)
  obtain ⟨h1, tk1, d1, rfl, k1⟩ := hk1
  have hB : BytesAre ord (ord.map keyB) := bytesAre_of ord fun v hv => ofElems hel v (hord.mem_iff.mp hv)
  have hkeys : (ord.map keyB).Perm D := ((hord.map keyB).trans (List.Perm.of_eq (by rw [List.map_map]; rfl))).trans hperm
  have hol : ord.length < 64 := by have := hord.length_eq; simp at this; lia
  refine wpAny_bind (wpAny_newList ?_)
  have hoL : (h1.push (seqObj "list" ord.toArray 0)).get? h1.objs.size = some (seqObj "list" ord.toArray 0) := Heap.get?_push_size _ rfl
  have hnR : h1.get? h1.objs.size = none := get?_size_none _
  have hold : ∀ b ob, h1.get? b = some ob → (h1.push (seqObj "list" ord.toArray 0)).get? b = some ob := fun b ob e => Heap.get?_push_of_some _ e
  refine wpAny_bind (wpAny_holding (wpAny_call_entry slot_list_sort ⟨_, hoL, rfl⟩ entry_list_sort (list_sort_treeK bytesKind_oneLt hoL hB.keysOf (fun v₁ v₂ rest e => keyKind_bytes (by rw [← e]; exact hB)) hol fun st' hp hs => ⟨_, rfl, ?_⟩) (args_list_sort _)))
  obtain ⟨ys', b1, b2, b3⟩ := sorted_outB hB hp hs
  refine wpAny_pure ⟨_, rfl, h _ _ ((arrOf st').map (·.2)).toList ys' ⟨_, _, _, rfl, fun b ob e => ?_⟩ ?_ ?_ b1 (b2.trans hkeys) b3⟩
  · have hb : b ≠ h1.objs.size := fun z => by have := k1 _ _ e; rw [z, hnR] at this; cases this
    have e1 := hold _ _ (k1 _ _ e)
    exact (sortedHeap_old hb (Heap.lt_size (k1 _ _ e) |> fun h => by rw [size_push']; exact Nat.lt_succ_of_lt h)).trans e1
  · cases q : s.heap.get? h1.objs.size with
    | none => rfl
    | some ob => have := k1 _ _ q; rw [hnR] at this; cases this
  · obtain ⟨e, he⟩ := sortedHeap_at (out := (arrOf st').map (·.2)) hoL
    exact ⟨e, by rw [Array.toArray_toList]; exact he⟩
end

/-- a list of bytes objects at b, of these octets -/
noncomputable def ListB (h : Heap) (b : Addr) (ys : List (List UInt8)) : Prop := ∃ vs, h.PlainList b vs.toArray ∧ BytesAre vs ys
theorem ListB.at {h h' : Heap} {b : Addr} {ys : List (List UInt8)} (x : ListB h b ys) (k : ∀ o, h.get? b = some o → h'.get? b = some o) : ListB h' b ys := by
  obtain ⟨vs, hl, hB⟩ := x
  exact ⟨vs, hl.at k, hB⟩
theorem isList_unique {h : Heap} {b : Addr} {xs ys : Array Value} (x : h.IsList b xs) (y : h.IsList b ys) : xs = ys := by
  obtain ⟨o, ho, _, n, hd⟩ := x
  obtain ⟨o', ho', _, n', hd'⟩ := y
  rw [ho] at ho'; cases ho'
  rw [hd] at hd'; cases hd'
  rfl
theorem ListB.unique {h : Heap} {b : Addr} {ys zs : List (List UInt8)} (x : ListB h b ys) (y : ListB h b zs) : ys = zs := by
  obtain ⟨vs, hl, hB⟩ := x
  obtain ⟨us, hl', hB'⟩ := y
  have e := isList_unique hl.isList hl'.isList
  have e' : vs = us := by simpa using e
  subst e'
  rw [← hB.keys, ← hB'.keys]
/-- a list of lists of bytes objects -/
noncomputable def ListLB (h : Heap) (b : Addr) (yss : List (List (List UInt8))) : Prop :=
  ∃ rs : List Addr, h.IsList b (rs.map Value.ref).toArray ∧ rs.length = yss.length ∧ ∀ (i : Nat) (r : Addr) (ys : List (List UInt8)), rs[i]? = some r → yss[i]? = some ys → ListB h r ys

theorem all_range_beq {α : Type} [BEq α] [LawfulBEq α] (xs ys : List α) (h : xs.length = ys.length) (e : Nat → Bool) (he : ∀ i x y, xs[i]? = some x → ys[i]? = some y → e i = (x == y)) : ((List.range xs.length).all e) = (xs == ys) := by
  rw [Bool.eq_iff_iff, List.all_eq_true, beq_iff_eq]
  constructor
  · intro q
    refine List.ext_getElem h fun i h1 h2 => ?_
    have := q i (by simpa using h1)
    rw [he i _ _ (List.getElem?_eq_getElem h1) (List.getElem?_eq_getElem h2)] at this
    exact eq_of_beq this
  · rintro rfl i hi
    have hi' : i < xs.length := by simpa using hi
    rw [he i _ _ (List.getElem?_eq_getElem hi') (List.getElem?_eq_getElem hi')]
    simp

section
variable {w : World} {A : Around} {E : Value → Shared → Prop} {s : Shared}
open PySem.SeqAt in
theorem rc_listB {a b : Addr} {ys zs : List (List UInt8)} (x : ListB s.heap a ys) (y : ListB s.heap b zs) (hu : A.units < cLine) : RcAt A s (.ref a) (.ref b) (ys == zs) := by
  obtain ⟨vs, hl, hB⟩ := x
  obtain ⟨us, hm, hC⟩ := y
  by_cases hn : vs.length = us.length
  · have := RcAt.lists (s := s) hl.isList hm.isList (by simpa using hn) hu (e := fun j => ((ys[j]?.getD []) == (zs[j]?.getD []))) fun j h1 h2 => by
      have h1' : j < vs.length := by simpa using h1
      have h2' : j < us.length := by simpa using h2
      obtain ⟨y1, t1, e1, f1⟩ := hB.at (List.getElem?_eq_getElem h1')
      obtain ⟨z1, u1, e2, f2⟩ := hC.at (List.getElem?_eq_getElem h2')
      simp only [List.getElem_toArray]
      rw [f1, f2, e1, e2]
      exact (eqGives_bytes y1.toArray z1.toArray t1 u1).at _ _
    have e : vs.toArray.size = ys.length := by simpa using hB.length
    rw [e, all_range_beq ys zs (by rw [← hB.length, ← hC.length]; exact hn) _ fun i p q e1 e2 => by rw [e1, e2]; rfl] at this
    exact this
  · have := RcAt.lists_lengths (s := s) hl.isList hm.isList (by simpa using hn) hu
    have e : (ys == zs) = false := by
      rw [beq_eq_false_iff_ne]
      rintro rfl
      exact hn (by rw [hB.length, hC.length])
    rw [e]; exact this

open PySem.SeqAt in
theorem rcNe_listB {a b : Addr} {ys zs : List (List UInt8)} (x : ListB s.heap a ys) (y : ListB s.heap b zs) (hu : A.units < cLine) : RcNeAt A s (.ref a) (.ref b) (!(ys == zs)) := by
  obtain ⟨vs, hl, hB⟩ := x
  obtain ⟨us, hm, hC⟩ := y
  by_cases hn : vs.length = us.length
  · have := RcNeAt.lists (s := s) hl.isList hm.isList (by simpa using hn) hu (e := fun j => ((ys[j]?.getD []) == (zs[j]?.getD []))) fun j h1 h2 => by
      have h1' : j < vs.length := by simpa using h1
      have h2' : j < us.length := by simpa using h2
      obtain ⟨y1, t1, e1, f1⟩ := hB.at (List.getElem?_eq_getElem h1')
      obtain ⟨z1, u1, e2, f2⟩ := hC.at (List.getElem?_eq_getElem h2')
      simp only [List.getElem_toArray]
      rw [f1, f2, e1, e2]
      exact (eqGives_bytes y1.toArray z1.toArray t1 u1).at _ _
    have e : vs.toArray.size = ys.length := by simpa using hB.length
    rw [e, all_range_beq ys zs (by rw [← hB.length, ← hC.length]; exact hn) _ fun i p q e1 e2 => by rw [e1, e2]; rfl] at this
    exact this
  · have := RcNeAt.lists_lengths (s := s) hl.isList hm.isList (by simpa using hn) hu
    have e : (ys == zs) = false := by
      rw [beq_eq_false_iff_ne]
      rintro rfl
      exact hn (by rw [hB.length, hC.length])
    rw [e]; exact this

theorem eqAt_listB {a b : Addr} {ys zs : List (List UInt8)} (x : ListB s.heap a ys) (y : ListB s.heap b zs) (hu : A.units < cLine) : PySem.SeqAt.EqAt A s (.ref a) (.ref b) (ys == zs) := by
  by_cases e : a = b
  · subst e
    have := x.unique y
    subst this
    simpa using PySem.SeqAt.EqAt.same (A := A) (s := s) (.ref a)
  · exact PySem.SeqAt.EqAt.of_refs e (rc_listB x y hu)

theorem c_eqL {a b : Addr} {ys zs : List (List UInt8)} {d u : Nat} {Q : Value → Shared → Prop} (hr : Room A d (u + 1)) (x : ListB s.heap a ys) (y : ListB s.heap b zs) (h : Q (.bool (ys == zs)) s) : wpAny (model P w) A (compareOp .Eq (.ref a) (.ref b)) Q E s :=
  rc_listB x y (by have := hr.units; lia) P w E Q h
theorem c_neL {a b : Addr} {ys zs : List (List UInt8)} {d u : Nat} {Q : Value → Shared → Prop} (hr : Room A d (u + 1)) (x : ListB s.heap a ys) (y : ListB s.heap b zs) (h : Q (.bool (!(ys == zs))) s) : wpAny (model P w) A (compareOp .NotEq (.ref a) (.ref b)) Q E s :=
  rcNe_listB x y (by have := hr.units; lia) P w E Q h

theorem c_neLL {a b : Addr} {ys zs : List (List (List UInt8))} {d u : Nat} {Q : Value → Shared → Prop} (hr : Room A d (u + 2)) (x : ListLB s.heap a ys) (y : ListLB s.heap b zs) (h : Q (.bool (!(ys == zs))) s) : wpAny (model P w) A (compareOp .NotEq (.ref a) (.ref b)) Q E s := by
  obtain ⟨vs, hl, hB, hB2⟩ := x
  obtain ⟨us, hm, hC, hC2⟩ := y
  have hu : A.units < cLine := by have := hr.units; lia
  have hr1 : Room A.in1 d (u + 1) := hr.in1
  by_cases hn : vs.length = us.length
  · have := PySem.SeqAt.RcNeAt.lists (A := A) (s := s) hl hm (by simpa using hn) hu (e := fun j => ((ys[j]?.getD []) == (zs[j]?.getD []))) fun j h1 h2 => by
      have h1' : j < vs.length := by simpa using h1
      have h2' : j < us.length := by simpa using h2
      have k1 : j < ys.length := by lia
      have k2 : j < zs.length := by lia
      simp only [List.getElem_toArray, List.getElem_map, List.getElem?_eq_getElem k1, List.getElem?_eq_getElem k2, Option.getD_some]
      exact eqAt_listB (hB2 j _ _ (List.getElem?_eq_getElem h1') (List.getElem?_eq_getElem k1)) (hC2 j _ _ (List.getElem?_eq_getElem h2') (List.getElem?_eq_getElem k2)) (by have := hr1.units; lia)
    have e : (vs.map Value.ref).toArray.size = ys.length := by simpa using hB
    rw [e, all_range_beq ys zs (by lia) _ fun i p q e1 e2 => by rw [e1, e2]; rfl] at this
    exact this P w E Q h
  · have := PySem.SeqAt.RcNeAt.lists_lengths (A := A) (s := s) hl hm (by simpa using hn) hu
    have e : (ys == zs) = false := by
      rw [beq_eq_false_iff_ne]
      rintro rfl
      exact hn (by rw [hB, hC])
    rw [e] at h
    exact this P w E Q h

theorem any_keyB {vs : List Value} {ys : List (List UInt8)} (hB : BytesAre vs ys) (x : List UInt8) : (vs.any fun y => keyB y == x) = decide (x ∈ ys) := by
  rw [← hB.keys, Bool.eq_iff_iff]
  simp only [List.any_eq_true, decide_eq_true_eq, List.mem_map, beq_iff_eq]

theorem c_inL {b : Addr} {x : List UInt8} {t : Tok} {ys : List (List UInt8)} {Q : Value → Shared → Prop} (hl : ListB s.heap b ys) (h : Q (.bool (decide (x ∈ ys))) s) : wpAny (model P w) A (compareOp .In (.bytes x.toArray t) (.ref b)) Q E s := by
  obtain ⟨vs, hl, hB⟩ := hl
  refine PySem.SeqInW.in_listW (fun y => keyB y == x) (fun y hy => ?_) hl.isList ?_
  · have := eqGives_B (x := .bytes x.toArray t) (IsB.mk _ _) (hB.all y (by simpa using hy))
    exact this
  · rw [← Array.any_toList, show vs.toArray.toList = vs from rfl, any_keyB hB]; exact h
theorem c_notinL {b : Addr} {x : List UInt8} {t : Tok} {ys : List (List UInt8)} {Q : Value → Shared → Prop} (hl : ListB s.heap b ys) (h : Q (.bool (!decide (x ∈ ys))) s) : wpAny (model P w) A (compareOp .NotIn (.bytes x.toArray t) (.ref b)) Q E s := by
  obtain ⟨vs, hl, hB⟩ := hl
  refine PySem.SeqInW.notIn_listW (fun y => keyB y == x) (fun y hy => ?_) hl.isList ?_
  · have := eqGives_B (x := .bytes x.toArray t) (IsB.mk _ _) (hB.all y (by simpa using hy))
    exact this
  · rw [← Array.any_toList, show vs.toArray.toList = vs from rfl, any_keyB hB]; exact h

/-- list + list -/
theorem k_addL {a b : Addr} {vs us : List Value} {Q : Value → Shared → Prop} (hl : s.heap.IsList a vs.toArray) (hb : s.heap.IsList b us.toArray) (hz : vs.length + us.length ≤ 4096)
    (h : ∀ D s', Keeps s s' → s.heap.get? D = none → s'.heap.PlainList D (vs ++ us).toArray → Q (.ref D) s') : wpAny (model P w) A (binaryOp .Add (.ref a) (.ref b)) Q E s := by
  obtain ⟨⟨cls, dd, data, sl⟩, ho, hc, n, hd⟩ := id hl
  obtain ⟨⟨cls2, dd2, data2, sl2⟩, ho2, hc2, n2, hd2⟩ := id hb
  simp only at hc hd hc2 hd2
  subst hc hd hc2 hd2
  have e : vs.toArray ++ us.toArray = (vs ++ us).toArray := by simp
  have hzz : vs.length + us.length ≤ sizeLine := Nat.le_trans hz line4096
  refine concat_meets ⟨_, ho, rfl⟩ ⟨_, ho2, rfl⟩ noFill_list_add seq_list_add PySem.F.slot_list_add PySem.F.entry_list_add (PySem.F.args_list_add_2 _ _) (PyProof.Rows.list_addW a b vs.toArray us.toArray n n2 dd dd2 sl sl2 (by simpa using hzz)) ⟨ho, ho2, ?_⟩
  rw [e]
  exact h _ _ (keeps_push s _ s.toks) (get?_size_none _) ⟨0, Heap.get?_push_size _ rfl⟩

/-- [x] * 3 -/
theorem k_mul3 {a : Addr} {v : Value} {k : Int} {u : Tok} {Q : Value → Shared → Prop} (hl : s.heap.PlainList a [v].toArray) (hk : k = 3)
    (h : ∀ D s', Keeps s s' → s.heap.get? D = none → s'.heap.PlainList D [v, v, v].toArray → Q (.ref D) s') : wpAny (model P w) A (binaryOp .Mult (.ref a) (.int k u)) Q E s := by
  subst hk
  obtain ⟨n, hl⟩ := hl
  refine wpAny_binaryOp_repeat_ref (T := "list") (U := "int") (by decide) ⟨_, hl, rfl⟩ (fun s' => typeIs_int s' 3 u) noFill_list_mul PySem.F.fills_int_mul PySem.F.slot_int_rmul repeat_list PySem.F.slot_int_index.lookup
    (call_meets PySem.F.slot_int_rmul (typeIs_int s 3 u) PySem.F.entry_int_rmul (PySem.F.args_int_rmul_2 _ _) (int___rmul___int_list 3 u a _ n)
      ⟨hl, rfl, ⟨_, hl, rfl⟩, call_meets PySem.F.slot_list_mul ⟨_, hl, rfl⟩ PySem.F.entry_list_mul (PySem.F.args_list_mul_2 _ _)
        (AutoListH.list___mul___list_int_3 a _ n 3 u (by decide) (by show ¬ (1 * Int.toNat 3 > (2 ^ 63 - 1) / 8); decide) (by show ¬ Builtin.List.listTooLong (1 * Int.toNat 3) = true; decide +kernel))
        ⟨hl, ?_⟩⟩)
  exact h _ _ (keeps_push s _ s.toks) (get?_size_none _) ⟨0, Heap.get?_push_size _ rfl⟩
end

/-- own lists of bytes objects: the values are references to them -/
noncomputable def NestOwn (vals : List Value) (N : List (Addr × Cell)) (yss : List (List (List UInt8))) : Prop :=
  ∃ rs : List Addr, vals = rs.map Value.ref ∧ rs.length = yss.length ∧ ∀ (i : Nat) (r : Addr) (ys : List (List UInt8)), rs[i]? = some r → yss[i]? = some ys → ∃ us, (r, Cell.list us) ∈ N ∧ BytesAre us ys
theorem NestOwn.nil : NestOwn [] [] [] := ⟨[], rfl, rfl, fun i r ys h => by simp at h⟩
theorem NestOwn.snoc {vals : List Value} {N : List (Addr × Cell)} {yss : List (List (List UInt8))} (x : NestOwn vals N yss) {D : Addr} {us : List Value} {ys : List (List UInt8)} (hB : BytesAre us ys) : NestOwn (vals ++ [.ref D]) ((D, .list us) :: N) (yss ++ [ys]) := by
  obtain ⟨rs, rfl, hl, hr⟩ := x
  refine ⟨rs ++ [D], by simp, by simp [hl], fun i r zs h1 h2 => ?_⟩
  by_cases hi : i < rs.length
  · rw [List.getElem?_append_left hi] at h1
    rw [List.getElem?_append_left (by lia)] at h2
    obtain ⟨ws, m, hw⟩ := hr i r zs h1 h2
    exact ⟨ws, List.mem_cons_of_mem _ m, hw⟩
  · rw [List.getElem?_append_right (by lia)] at h1 h2
    rw [hl] at h1
    cases hk : i - yss.length with
    | zero =>
      rw [hk] at h1 h2
      have e1 : D = r := by simpa using h1
      have e2 : ys = zs := by simpa using h2
      subst e1 e2
      exact ⟨us, List.mem_cons_self, hB⟩
    | succ k => rw [hk] at h1; simp at h1
theorem NestOwn.listLB {vals : List Value} {N : List (Addr × Cell)} {yss : List (List (List UInt8))} (x : NestOwn vals N yss) {D : Addr} {h h' : Heap} (hD : h'.IsList D vals.toArray) (hN : ∀ p ∈ N, CellAt h' p.1 p.2) : ListLB h' D yss := by
  obtain ⟨rs, rfl, hl, hr⟩ := x
  refine ⟨rs, hD, hl, fun i r ys h1 h2 => ?_⟩
  obtain ⟨us, m, hB⟩ := hr i r ys h1 h2
  have q : h'.PlainList r us.toArray := hN _ m
  exact ⟨us, q, hB⟩
theorem ListLB.at {h h' : Heap} {b : Addr} {yss : List (List (List UInt8))} (x : ListLB h b yss) (k : ∀ a o, h.get? a = some o → h'.get? a = some o) : ListLB h' b yss := by
  obtain ⟨rs, hl, hn, hr⟩ := x
  exact ⟨rs, hl.at fun o => k b o, hn, fun i r ys h1 h2 => (hr i r ys h1 h2).at fun o => k r o⟩

section
variable {w : World} {A : Around} {E : Value → Shared → Prop} {s s₀ : Shared} {env : Env} {names : List (Str × NameKind)} {L : Addr} {h₀ hb : Heap} {l : List (Str × Option Value)} {W : List (Addr × Cell)}

/-- [elt for nm in a list of bytes if tests] -/
theorem b_comp {nm : Str} {pn : Pos} {elt iter : Expr} {ifs : List Expr} {scope : Scope} {cl : List (Str × Addr)} {pos : Pos} {names' : List (Str × NameKind)} {Q : Value → Shared → Prop} (f : List UInt8 → List UInt8) (p : List UInt8 → Bool) (ys : List (List UInt8))
    (e : EnvIs env names L) (ci : CompIs scope names names' none [(nm, none)]) (hclos : closureFor scope env = pure cl) (hloc : (nm, .local) ∈ names') (hh : A.handled = none)
    (h : wpAny (model P w) A (eval iter env) (fun xv s₁ => ∃ (b : Addr) (l : List (Str × Option Value)) (W : List (Addr × Cell)) (vs : List Value), xv = .ref b ∧ At s₀ h₀ L l W s₁ ∧ s₁.heap.IsList b vs.toArray ∧ BytesAre vs ys ∧ ys.length < 2 ^ 20 ∧
      (∀ C cenv, EnvIs cenv names' C → cenv.frame = env.frame → cenv.cells = cl → ∀ y t hb s E, y ∈ ys → At s₀ hb C [(nm, some (.bytes y.toArray t))] [] s → (∀ b o, h₀.get? b = some o → hb.get? b = some o) → (∀ b o, s₁.heap.get? b = some o → hb.get? b = some o) →
        wpAny (model P w) A (testsOf ifs cenv) (fun ok s' => ok = p y ∧ At s₀ hb C [(nm, some (.bytes y.toArray t))] [] s' ∧ (p y = true → wpAny (model P w) A (eval elt cenv) (fun v s'' => (∃ t', v = .bytes (f y).toArray t') ∧ At s₀ hb C [(nm, some (.bytes y.toArray t))] [] s'') E s')) E s) ∧
      (∀ D us s', At s₀ h₀ L l ((D, .list us) :: W) s' → BytesAre us ((ys.filter p).map f) → Q (.ref D) s')) E s)
    (hs : ∀ x, foldedSetIterable iter env x = pure x := by intro _; rfl) :
    wpAny (model P w) A (eval (.ListComp elt [⟨.Name nm pn, iter, ifs, 0⟩] scope pos) env) Q E s := by
  refine x_comp (s₀ := s₀) (h₀ := h₀) (L := L) (names' := names') (ko := none) (l0 := [(nm, none)]) (cl := cl)
    (fun C i us l N => (∃ u, l = [(nm, u)]) ∧ N = [] ∧ BytesAre us (((ys.take i).filter p).map f)) e ci hclos ?_ hs
  refine wpAny_mono h (fun xv s₁ h₁ => ?_) fun _ _ q => q
  obtain ⟨b, l, W, vs, rfl, a, hl, hB, hn, turn, fin⟩ := h₁
  refine k_pyIterL hl (fun I s₂ hk hI hbI hit => ?_)
  have a2 := a.kept hk
  have fI := a.fresh hI
  have hlen := hB.length
  refine CompFrom.mk1 a2 (Itr.list hh I b hbI vs) ⟨⟨_, hit, rfl, rfl⟩, hl.at fun o q => keeps_get hk q⟩ fI (by lia) (fun C => ⟨⟨none, rfl⟩, rfl, .nil⟩) ?_ ?_
  · intro C cenv ec hcf hcc i v us lc N hb s₃ E₃ hi hv hJ a₃ k0 kI kk
    obtain ⟨⟨u, rfl⟩, rfl, hus⟩ := hJ
    obtain ⟨y, t, hy, rfl⟩ := hB.at hv
    have hym : y ∈ ys := List.mem_of_getElem? hy
    refine wpAny_assign_Name (st_local ec a₃ hloc Put.here fun s₄ a₄ => ?_)
    refine wpAny_mono (turn C cenv ec hcf hcc y t hb s₄ E₃ hym a₄ k0 (fun b o q => ?_)) (fun ok s₅ h₅ => ?_) fun _ _ q => q
    · refine kI b o (fun z => ?_) (keeps_get hk q)
      rw [z, hI] at q; cases q
    · obtain ⟨rfl, a₅, helt⟩ := h₅
      have et : ys.take (i + 1) = ys.take i ++ [y] := by rw [List.take_add_one, hy]; rfl
      refine te_split (fun hp => ?_) fun hp => ?_
      · refine wpAny_mono (helt hp) (fun v s₆ h₆ => ?_) fun _ _ q => q
        obtain ⟨⟨t', rfl⟩, a₆⟩ := h₆
        refine ⟨_, _, ⟨⟨_, rfl⟩, rfl, ?_⟩, a₆⟩
        rw [et, List.filter_append, List.map_append]
        have : [y].filter p = [y] := by simp [hp]
        rw [this]
        exact hus.snoc _ _
      · refine ⟨_, _, ⟨⟨_, rfl⟩, rfl, ?_⟩, a₅⟩
        rw [et, List.filter_append, List.map_append]
        have : [y].filter p = [] := by simp [hp]
        rw [this]
        simpa using hus
  · rintro C D us lc N s' ⟨⟨u, rfl⟩, rfl, hus⟩ hD a₅ _
    rw [hlen, List.take_length] at hus
    exact fin D us s' a₅ hus

/-- [a list of bytes for nm in a list of lists of bytes] -/
theorem nest_comp {nm : Str} {pn : Pos} {elt iter : Expr} {scope : Scope} {cl : List (Str × Addr)} {pos : Pos} {names' : List (Str × NameKind)} {Q : Value → Shared → Prop} (g : List (List UInt8) → List (List UInt8)) (yss : List (List (List UInt8)))
    (e : EnvIs env names L) (ci : CompIs scope names names' none [(nm, none)]) (hclos : closureFor scope env = pure cl) (hloc : (nm, .local) ∈ names') (hh : A.handled = none)
    (h : wpAny (model P w) A (eval iter env) (fun xv s₁ => ∃ (b : Addr) (l : List (Str × Option Value)) (W : List (Addr × Cell)), xv = .ref b ∧ At s₀ h₀ L l W s₁ ∧ ListLB s₁.heap b yss ∧ yss.length < 2 ^ 20 ∧
      (∀ C cenv, EnvIs cenv names' C → cenv.frame = env.frame → cenv.cells = cl → ∀ r ys hb N s E Q', ys ∈ yss → ListB hb r ys → At s₀ hb C [(nm, some (.ref r))] N s → (∀ b o, h₀.get? b = some o → hb.get? b = some o) → (∀ b o, s₁.heap.get? b = some o → hb.get? b = some o) →
        (∀ D us s', At s₀ hb C [(nm, some (.ref r))] ((D, .list us) :: N) s' → BytesAre us (g ys) → Q' (.ref D) s') → wpAny (model P w) A (eval elt cenv) Q' E s) ∧
      (∀ D h₁ s', (∀ b o, h₀.get? b = some o → h₁.get? b = some o) → At s₀ h₁ L l W s' → ListLB h₁ D (yss.map g) → Q (.ref D) s')) E s)
    (hs : ∀ x, foldedSetIterable iter env x = pure x := by intro _; rfl) :
    wpAny (model P w) A (eval (.ListComp elt [⟨.Name nm pn, iter, [], 0⟩] scope pos) env) Q E s := by
  refine x_comp (s₀ := s₀) (h₀ := h₀) (L := L) (names' := names') (ko := none) (l0 := [(nm, none)]) (cl := cl)
    (fun C i us l N => (∃ u, l = [(nm, u)]) ∧ NestOwn us N ((yss.take i).map g)) e ci hclos ?_ hs
  refine wpAny_mono h (fun xv s₁ h₁ => ?_) fun _ _ q => q
  obtain ⟨b, l, W, rfl, a, ⟨rs, hl, hlen, hrs⟩, hn, turn, fin⟩ := h₁
  refine k_pyIterL hl (fun I s₂ hk hI hbI hit => ?_)
  have a2 := a.kept hk
  have fI := a.fresh hI
  refine CompFrom.mk1 a2 (Itr.list hh I b hbI (rs.map Value.ref)) ⟨⟨_, hit, rfl, rfl⟩, hl.at fun o q => keeps_get hk q⟩ fI (by simp; lia) (fun C => ⟨⟨none, rfl⟩, .nil⟩) ?_ ?_
  · intro C cenv ec hcf hcc i v us lc N hb s₃ E₃ hi hv hJ a₃ k0 kI kk
    obtain ⟨⟨u, rfl⟩, hus⟩ := hJ
    obtain ⟨r, hr, rfl⟩ : ∃ r, rs[i]? = some r ∧ Value.ref r = v := by
      rw [List.getElem?_map] at hv
      cases q : rs[i]? with
      | none => rw [q] at hv; cases hv
      | some r => rw [q] at hv; exact ⟨r, rfl, Option.some.inj hv⟩
    have hi' : i < yss.length := by have := (List.getElem?_eq_some_iff.mp hr).1; lia
    obtain ⟨ys, hy⟩ : ∃ ys, yss[i]? = some ys := ⟨_, List.getElem?_eq_getElem hi'⟩
    have hym : ys ∈ yss := List.mem_of_getElem? hy
    have kI' : ∀ b o, s₁.heap.get? b = some o → hb.get? b = some o := fun b o q => kI b o (fun z => by rw [z, hI] at q; cases q) (keeps_get hk q)
    refine wpAny_assign_Name (st_local ec a₃ hloc Put.here fun s₄ a₄ => te_nil ?_)
    refine turn C cenv ec hcf hcc r ys hb N s₄ E₃ _ hym ((hrs i r ys hr hy).at fun o => kI' r o) a₄ k0 kI' (fun D us' s₅ a₅ hB => ?_)
    refine ⟨_, _, ⟨⟨_, rfl⟩, ?_⟩, a₅⟩
    rw [List.take_add_one, hy]
    show NestOwn _ _ (List.map g (yss.take i ++ [ys]))
    rw [List.map_append]
    exact hus.snoc hB
  · rintro C D us lc N s' ⟨⟨u, rfl⟩, hus⟩ hD a₅ _
    rw [show (rs.map Value.ref).length = yss.length by simpa using hlen, List.take_length] at hus
    have fD := a.fresh (b := D) (by
      cases q : s₁.heap.get? D with
      | none => rfl
      | some o => rw [keeps_get hk q] at hD; cases hD)
    have a6 : At s₀ h₀ L l W s' := a₅.only (W' := W) (fun p hp => List.mem_cons_of_mem _ (List.mem_append_right _ hp)) a2.fs.nd
    obtain ⟨h₁, k₁, a7, r₁⟩ := a6.rebase
    have inN : ∀ p ∈ ((D, Cell.list us) :: N), p.1 ≠ L ∧ p.1 ∉ W.map (·.1) := by
      intro p hp
      have nd := a₅.fs.nd
      rw [← List.cons_append, List.map_append, List.nodup_append] at nd
      refine ⟨(a₅.fs.newW p (by rw [← List.cons_append]; exact List.mem_append_left _ hp)).2, fun m => ?_⟩
      exact nd.2.2 _ (List.mem_map_of_mem hp) _ m rfl
    have cel : ∀ p ∈ ((D, Cell.list us) :: N), CellAt h₁ p.1 p.2 := fun p hp =>
      (a₅.cell (b := p.1) (c := p.2) (by rw [← List.cons_append]; exact List.mem_append_left _ hp)).at fun o q => r₁ _ _ (inN p hp).1 (inN p hp).2 q
    have hDl : h₁.PlainList D us.toArray := cel (D, Cell.list us) List.mem_cons_self
    exact fin D h₁ s' k₁ a7 (hus.listLB (h := h₁) hDl.isList fun p hp => cel p (List.mem_cons_of_mem _ hp))
end

/-- what a filter leaves -/
noncomputable def filterB (sk xs : List (List UInt8)) : List (List UInt8) := xs.filter fun x => decide (x ∉ sk)
theorem filterP_B {vs us : List Value} {xs sk : List (List UInt8)} (hv : BytesAre vs xs) (hu : BytesAre us sk) : BytesAre (filterP us vs) (filterB sk xs) := by
  induction hv with
  | nil => exact .nil
  | cons y t h ih =>
    unfold filterP filterB at ih ⊢
    have e : skips us (.bytes y.toArray t) = decide (y ∈ sk) := by
      unfold skips
      have := any_keyB hu y
      rw [← this]
      show (us.any fun z => keyB z == y.toArray.toList) = _
      simp
    rw [List.filter_cons, List.filter_cons, e]
    by_cases hy : y ∈ sk
    · simp only [hy, decide_true, Bool.not_true, Bool.false_eq_true, if_false, not_true_eq_false, decide_false]; exact ih
    · simp only [hy, decide_false, Bool.not_false, if_true, not_false_eq_true, decide_true]; exact .cons y t ih
theorem filt_enc {f : List UInt8 → List UInt8} {U X Y : List (List UInt8)} (hf : ∀ a ∈ U, ∀ b ∈ U, f a = f b → a = b) (hX : ∀ x ∈ X, x ∈ U) (hY : ∀ x ∈ Y, x ∈ U) : filterB (Y.map f) (X.map f) = (filterB Y X).map f := by
  unfold filterB
  induction X with
  | nil => rfl
  | cons x X ih =>
    have ih := ih fun y hy => hX y (List.mem_cons_of_mem _ hy)
    have e : f x ∈ Y.map f ↔ x ∈ Y := by
      constructor
      · intro m
        obtain ⟨y, hy, e⟩ := List.mem_map.mp m
        rw [hf y (hY y hy) x (hX x List.mem_cons_self) e] at hy
        exact hy
      · exact fun m => List.mem_map_of_mem m
    rw [List.map_cons, List.filter_cons, List.filter_cons, ih]
    by_cases hy : x ∈ Y
    · simp [hy, e.mpr hy]
    · have : f x ∉ Y.map f := fun m => hy (e.mp m)
      simp only [hy, this, not_false_eq_true, decide_true, if_true, List.map_cons]

/-- the frames' objects with other marks -/
inductive Ups : List (Addr × Cell) → List (Addr × Cell) → Prop
  | nil : Ups [] []
  | cons (a : Addr) (o : Obj) (sl : Array (Option Value)) {f f'} : Ups f f' → Ups ((a, .obj o) :: f) ((a, .obj { o with slots := sl }) :: f')
theorem Ups.fst {f f' : List (Addr × Cell)} (u : Ups f f') : f'.map (·.1) = f.map (·.1) := by
  induction u with
  | nil => rfl
  | cons _ _ _ _ ih => simp [ih]
theorem Ups.trans {f f' f'' : List (Addr × Cell)} (u : Ups f f') (v : Ups f' f'') : Ups f f'' := by
  induction u generalizing f'' with
  | nil => exact v
  | cons a o sl u ih =>
    cases v with
    | cons _ _ sl' v => exact .cons a o sl' (ih v)
theorem Ups.refl : ∀ {f : List (Addr × Cell)}, (∀ p ∈ f, ∃ o, p.2 = Cell.obj o ∧ ∀ vs, o.data ≠ .fields vs) → Ups f f
  | [], _ => .nil
  | (a, c) :: f, h => by
    obtain ⟨o, e, _⟩ := h (a, c) List.mem_cons_self
    dsimp only at e; subst e
    exact .cons a o o.slots (Ups.refl fun p hp => h p (List.mem_cons_of_mem _ hp))
theorem Ups.mem {f f' : List (Addr × Cell)} (u : Ups f f') {a : Addr} {o : Obj} (h : (a, Cell.obj o) ∈ f) : ∃ sl, (a, Cell.obj { o with slots := sl }) ∈ f' := by
  induction u with
  | nil => cases h
  | cons b o' sl u ih =>
    rcases List.mem_cons.mp h with e | h
    · cases e; exact ⟨sl, List.mem_cons_self⟩
    · obtain ⟨sl', m⟩ := ih h; exact ⟨sl', List.mem_cons_of_mem _ m⟩
theorem Ups.frames {f f' : List (Addr × Cell)} (u : Ups f f') {outer : List Env} (hF : FramesIn outer f) : FramesIn outer f' := by
  refine ⟨?_, fun e he => ?_⟩
  · have := hF.1
    clear hF
    induction u with
    | nil => exact fun p hp => nomatch hp
    | cons b o sl u ih =>
      intro p hp
      rcases List.mem_cons.mp hp with rfl | hp
      · obtain ⟨o', e, h⟩ := this _ List.mem_cons_self
        cases e
        exact ⟨_, rfl, h⟩
      · exact ih (fun q hq => this q (List.mem_cons_of_mem _ hq)) p hp
  · obtain ⟨hk, L, o, hf, hm, hd⟩ := hF.2 e he
    obtain ⟨sl, m⟩ := u.mem hm
    exact ⟨hk, L, _, hf, m, hd⟩
theorem ups_of {f : List (Addr × Cell)} {h' : Heap} (ho : ∀ p ∈ f, ∃ o, p.2 = Cell.obj o ∧ ∀ vs, o.data ≠ .fields vs) (hu : ∀ p ∈ f, CellUp h' p.1 p.2) : ∃ f', Ups f f' ∧ ∀ p ∈ f', CellAt h' p.1 p.2 := by
  induction f with
  | nil => exact ⟨[], .nil, fun _ h => nomatch h⟩
  | cons p f ih =>
    obtain ⟨f', u, c⟩ := ih (fun q hq => ho q (List.mem_cons_of_mem _ hq)) fun q hq => hu q (List.mem_cons_of_mem _ hq)
    obtain ⟨a, cc⟩ := p
    obtain ⟨o, e, _⟩ := ho (a, cc) List.mem_cons_self
    dsimp only at e; subst e
    obtain ⟨sl, hsl⟩ := hu (a, .obj o) List.mem_cons_self
    refine ⟨(a, .obj { o with slots := sl }) :: f', .cons a o sl u, fun q hq => ?_⟩
    rcases List.mem_cons.mp hq with rfl | hq
    · exact hsl
    · exact c q hq

section
variable {w : World} {A : Around} {E : Value → Shared → Prop} {s s₀ : Shared} {env : Env} {names : List (Str × NameKind)} {L : Addr} {h₀ hb : Heap} {l : List (Str × Option Value)} {W fcs : List (Addr × Cell)}

/-- the frame after a call that marked the frames -/
theorem At.rel (a : At s₀ h₀ L l (W ++ fcs) s) {oL : Obj} (hL : s.heap.get? L = some oL) (ho : ∀ p ∈ fcs, ∃ o, p.2 = Cell.obj o ∧ ∀ vs, o.data ≠ .fields vs) {s' : Shared} (r : Rel ((L, .obj oL) :: fcs) s s') :
    ∃ fcs', Ups fcs fcs' ∧ At s₀ h₀ L l (W ++ fcs') s' := by
  obtain ⟨h', tk, rfl, k, up⟩ := r
  obtain ⟨fcs', u, c⟩ := ups_of ho fun p hp => up p (List.mem_cons_of_mem _ hp)
  refine ⟨fcs', u, ?_⟩
  have hf := u.fst
  obtain ⟨h, tk', rfl, f⟩ := a
  have newf : ∀ b ∈ fcs.map (·.1), h₀.get? b = none ∧ b ≠ L := fun b hb => by
    obtain ⟨p, hp, rfl⟩ := List.mem_map.mp hb
    exact f.newW p (List.mem_append_right _ hp)
  have kk : ∀ b o, b ≠ L → b ∉ fcs.map (·.1) → h.get? b = some o → h'.get? b = some o := fun b o h1 h2 q => k b o (by rw [List.map_cons, List.mem_cons, not_or]; exact ⟨h1, h2⟩) q
  have hdis : ∀ p ∈ W, p.1 ∉ fcs.map (·.1) := fun p hp m => by
    have nd := f.nd
    rw [List.map_append, List.nodup_append] at nd
    exact nd.2.2 _ (List.mem_map_of_mem hp) _ m rfl
  refine ⟨h', tk, rfl, ?_, f.ln, fun b o q => ?_, fun p hp => ?_, ?_, f.newL, fun p hp => ?_⟩
  · obtain ⟨sl, hsl⟩ := up _ List.mem_cons_self
    obtain ⟨o, es, ep, h1, h2, r⟩ := f.ns
    rw [show h.get? L = some oL from hL] at h1; cases h1
    exact ⟨_, es, ep, hsl, h2, r⟩
  · refine kk b o (fun z => ?_) (fun m => ?_) (f.keep b o q)
    · rw [z, f.newL] at q; cases q
    · rw [(newf b m).1] at q; cases q
  · rcases List.mem_append.mp hp with hp | hp
    · exact (f.own p (List.mem_append_left _ hp)).at fun o q => kk _ _ (f.newW p (List.mem_append_left _ hp)).2 (hdis p hp) q
    · exact c p hp
  · rw [List.map_append, hf, ← List.map_append]; exact f.nd
  · rcases List.mem_append.mp hp with hp | hp
    · exact f.newW p (List.mem_append_left _ hp)
    · exact newf _ (hf ▸ List.mem_map_of_mem hp)

/-- _filter(fl, sk) on lists of bytes that are kept -/
theorem k_filter {fl sk : Addr} {xs ys : List (List UInt8)} {outer : List Env} {Q : Value → Shared → Prop} (a : At s₀ h₀ L l (W ++ fcs) s) (hG : G w h₀) (hl : ListB h₀ fl xs) (hs : ListB h₀ sk ys)
    (hfr : A.frames = some (env :: outer)) (hfe : env.frame = some L) (he : EnvIs env names L) (hF : FramesIn outer fcs) (hr : Room A 10 120) (hlen : xs.length < 2 ^ 20)
    (hQ : ∀ D h₁ fcs' s', (∀ b o, h₀.get? b = some o → h₁.get? b = some o) → At s₀ h₁ L l (W ++ fcs') s' → Ups fcs fcs' → ListB h₁ D (filterB ys xs) → Q (.ref D) s') : wpAny (model P w) A (call (.ref 82) [.ref fl, .ref sk]) Q E s := by
  obtain ⟨vs, hvl, hvB⟩ := hl
  obtain ⟨us, hul, huB⟩ := hs
  obtain ⟨oL, hoL, hoLd⟩ : ∃ o, s.heap.get? L = some o ∧ ∀ vs, o.data ≠ .fields vs := by
    obtain ⟨o, es, ep, ho, hd, r⟩ := a.fs.ns
    exact ⟨o, ho, fun vs q => by rw [hd] at q; cases q⟩
  have ndf : (fcs.map (·.1)).Nodup := by
    have nd := a.fs.nd
    rw [List.map_append, List.nodup_append] at nd
    exact nd.2.1
  have hLf : L ∉ fcs.map (·.1) := fun m => by
    obtain ⟨p, hp, e⟩ := List.mem_map.mp m
    exact (a.fs.newW p (List.mem_append_right _ hp)).2 e
  have hF' : FramesIn (env :: outer) ((L, .obj oL) :: fcs) := by
    refine ⟨fun p hp => ?_, fun e he' => ?_⟩
    · rcases List.mem_cons.mp hp with rfl | hp
      · exact ⟨oL, rfl, hoLd⟩
      · exact hF.1 p hp
    · rcases List.mem_cons.mp he' with rfl | he'
      · exact ⟨by rw [he.kind]; decide, L, oL, hfe, List.mem_cons_self, hoLd⟩
      · obtain ⟨hk, L', o, h1, h2, h3⟩ := hF.2 e he'
        exact ⟨hk, L', o, h1, List.mem_cons_of_mem _ h2, h3⟩
  refine filter_spec (fcs := (L, .obj oL) :: fcs) (outer := env :: outer) (hb := h₀) hG a.fs.keep (fun p hp => ?_) hvl.isList hul (fun p hp => ?_) (List.nodup_cons.mpr ⟨hLf, ndf⟩) hF' hfr hvB.all huB.all hr (by rw [hvB.length]; exact hlen) (fun D s' hD hpl hrel => ?_)
  · rcases List.mem_cons.mp hp with rfl | hp
    · exact a.fs.newL
    · exact (a.fs.newW p (List.mem_append_right _ hp)).1
  · rcases List.mem_cons.mp hp with rfl | hp
    · exact hoL
    · exact a.cell (List.mem_append_right _ hp)
  · obtain ⟨fcs', u, a'⟩ := a.rel hoL hF.1 hrel
    obtain ⟨h₁, k₁, a₁, r₁⟩ := a'.rebase
    have fD := a.fresh hD
    have hDl : h₁.PlainList D (filterP us vs).toArray := hpl.at fun o q => r₁ _ _ fD.2.1 (by
      rw [List.map_append, u.fst, ← List.map_append]; exact fD.2.2) q
    exact hQ D h₁ fcs' s' k₁ a₁ u ⟨_, hDl, filterP_B hvB huB⟩

theorem draw_list {I b : Addr} {xs : List Value} (hne : b ≠ I) : ∀ (n i : Nat) (s : Shared) (Q : List Value → Shared → Prop), s.heap.IsListIter I b i → s.heap.IsList b xs.toArray → i + n ≤ xs.length →
    (∀ s', KeepsBut [I] s s' → s'.heap.IsListIter I b (i + n) → Q ((xs.drop i).take n) s') → wpAny (model P w) A (draw (.ref I) n) Q E s
  | 0, i, s, Q, hit, _, _, hQ => by
    show wpAny _ _ (pure []) Q E s
    exact wpAny_pure (by simpa using hQ s (KeepsBut.refl _) hit)
  | n + 1, i, s, Q, hit, hl, hle, hQ => by
    have hlt : i < xs.length := by lia
    show wpAny _ _ (pyNext (.ref I) >>= _) Q E s
    refine wpAny_bind (wpAny_pyNext_list_item hit hl (x := xs[i]) (by simp [hlt]) fun h₁ hit₁ hs₁ => ?_)
    have k1 : KeepsBut [I] s { s with heap := h₁, toks := s.toks + 1 } := ⟨h₁, s.toks + 1, rfl, fun b o hb q => hs₁.extBut b o (by simpa using hb) q⟩
    refine wpAny_bind (wpAny_holding (draw_list hne n (i + 1) _ _ hit₁ (hl.extBut hs₁.extBut hne) (by lia) fun s₂ k2 hit₂ => wpAny_pure ?_))
    have hd : xs.drop i = xs[i] :: xs.drop (i + 1) := List.drop_eq_getElem_cons hlt
    have := hQ s₂ (k1.trans k2) (by rw [show i + (n + 1) = i + 1 + n by lia]; exact hit₂)
    rw [hd, List.take_succ_cons] at this
    exact this

/-- a tuple of targets takes the items of a list -/
theorem as_list {elts : List Expr} {k : Nat} {pos : Pos} {b : Addr} {xs : List Value} {Q : Unit → Shared → Prop} (hh : A.handled = none) (hl : s.heap.IsList b xs.toArray)
    (hn : (assignEach elts env).length = xs.length) (hstar : (assignEach elts env).findIdx? (·.1) = none)
    (h : ∀ s', Keeps s s' → wpAny (model P w) A (assignInOrder ((assignEach elts env).map (·.2)) xs) Q E s') : wpAny (model P w) A (assign (.Tuple elts k pos) env (.ref b)) Q E s := by
  rw [assign_Tuple]
  refine wpAny_bind (wpAny_standAt ?_)
  unfold unpack
  rw [hn, hstar]
  refine wpAny_bind (wpAny_holding ?_)
  unfold unpackItems
  refine wpAny_bind ?_
  unfold notIterableAtAll
  refine wpAny_bind (wpAny_specialOf hl.typeIs PySem.F.slot_list_iter.lookup ?_)
  refine wpAny_pure ?_
  simp only [Bool.false_eq_true, if_false]
  refine wpAny_bind (wpAny_holding (k_pyIterL hl fun I s₁ k₁ hI hbI hit => ?_))
  have hit' : s₁.heap.IsListIter I b 0 := ⟨_, hit, rfl, rfl⟩
  have hl1 : s₁.heap.IsList b xs.toArray := hl.at fun o q => keeps_get k₁ q
  refine wpAny_bind (wpAny_holding (draw_list hbI xs.length 0 _ _ hit' hl1 (by lia) fun s₂ k₂ hit₂ => ?_))
  rw [List.drop_zero, List.take_length, if_neg (Nat.lt_irrefl _)]
  have hl2 : s₂.heap.IsList b xs.toArray := hl1.at fun o q => k₂.get (by simpa using hbI) q
  refine wpAny_bind (wpAny_holding (wpAny_pyNext_list_end hh hit₂ hl2 (by rw [Nat.zero_add]; show xs.toArray[xs.length]? = none; rw [List.getElem?_toArray]; exact List.getElem?_eq_none (Nat.le_refl _)) fun h₃ he₃ => ?_))
  simp only [Option.isSome_none, Bool.false_eq_true, if_false]
  refine wpAny_pure (h _ ?_)
  obtain ⟨h1', t1, rfl, q1⟩ := k₁
  obtain ⟨h2', t2, rfl, q2⟩ := k₂
  refine ⟨h₃, _, rfl, fun c o e => ?_⟩
  have hc : c ≠ I := fun z => by rw [z, hI] at e; cases e
  exact he₃ c o hc (q2 c o (by simpa using hc) (q1 c o e))
end

/-- the def at R reads what enc writes, on U -/
structure ReadIs (w : World) (R : Addr) (enc rd : List UInt8 → List UInt8) (U : List (List UInt8)) : Prop where
  isF : ∃ o fd, (hx.heap_1 w.params).lookup R = some o ∧ o.data = .func fd
  rd : ∀ y ∈ U, rd (enc y) = y
  call : ∀ (A : Around) (s : Shared) (E Q : Value → Shared → Prop) (y : List UInt8) (t : Tok), y ∈ U → G w s.heap → Room A 12 150 → (∀ t s', Keeps s s' → Q (.bytes y.toArray t) s') → wpAny (model P w) A (call (.ref R) [.bytes (enc y).toArray t]) Q E s
theorem ReadIs.inj {w : World} {R : Addr} {enc rd : List UInt8 → List UInt8} {U : List (List UInt8)} (r : ReadIs w R enc rd U) : ∀ a ∈ U, ∀ b ∈ U, enc a = enc b → a = b := fun a ha b hb e => by
  rw [← r.rd a ha, ← r.rd b hb, e]
theorem ReadIs.map {w : World} {R : Addr} {enc rd : List UInt8 → List UInt8} {U X : List (List UInt8)} (r : ReadIs w R enc rd U) (hX : ∀ x ∈ X, x ∈ U) : ((X.map enc).filter fun _ => true).map rd = X := by
  rw [List.filter_eq_self.mpr (fun _ _ => rfl), List.map_map]
  conv => rhs; rw [← List.map_id X]
  exact List.map_congr_left fun x hx => r.rd x (hX x hx)

section
variable {w : World} {A : Around} {E : Value → Shared → Prop} {s s₀ : Shared} {env : Env} {names : List (Str × NameKind)} {L : Addr} {h₀ hb : Heap} {l : List (Str × Option Value)} {W fcs : List (Addr × Cell)}

theorem read_comp {iter : Expr} {scope : Scope} {pos pn p1 p2 p3 : Pos} {c R : Addr} {o : Obj} {enc rd : List UInt8 → List UInt8} {U : List (List UInt8)} {Q : Value → Shared → Prop} (X : List (List UInt8))
    (e : EnvIs env names L) (ci : CompIs scope names [(Str.ofString ".0", .local), (Str.ofString "text", .local), (Str.ofString "read", .cell)] none [("text", none)]) (hcx : env.cells.lookup (Str.ofString "read") = some c) (hnm : scope.names = [(Str.ofString ".0", .local), (Str.ofString "text", .local), (Str.ofString "read", .free)])
    (hr : Room A 14 160) (hG : G w h₀) (hR : ReadIs w R enc rd U) (hX : ∀ x ∈ X, x ∈ U) (hn : X.length < 2 ^ 20) (hd : o.data = .cell (some (.ref R)))
    (h : wpAny (model P w) A (eval iter env) (fun xv s₁ => ∃ (b : Addr) (l : List (Str × Option Value)) (W : List (Addr × Cell)), xv = .ref b ∧ At s₀ h₀ L l W s₁ ∧ ListB s₁.heap b (X.map enc) ∧ s₁.heap.get? c = some o ∧
      (∀ D us s', At s₀ h₀ L l ((D, .list us) :: W) s' → BytesAre us X → Q (.ref D) s')) E s)
    (hs : ∀ x, foldedSetIterable iter env x = pure x := by intro _; rfl) :
    wpAny (model P w) A (eval (.ListComp (.Call (.Name (Str.ofString "read") p1) [.Name (Str.ofString "text") p2] [] p3) [⟨.Name (Str.ofString "text") pn, iter, [], 0⟩] scope pos) env) Q E s := by
  have hclos : closureFor scope env = pure [(Str.ofString "read", c)] := by
    unfold closureFor cellOf; rw [hnm]; simp [hcx]
  refine b_comp (s₀ := s₀) (h₀ := h₀) (L := L) rd (fun _ => true) (X.map enc) e ci hclos (by simp) hr.handled (wpAny_mono h (fun xv s₁ h₁ => ?_) fun _ _ q => q) hs
  obtain ⟨b, l, W, rfl, a, ⟨vs, hvl, hvB⟩, hco, fin⟩ := h₁
  refine ⟨b, l, W, vs, rfl, a, hvl.isList, hvB, by simpa using hn, fun C cenv ec hcf hcc y t hb s E hy a₁ k0 k1 => ?_, fun D us s' a' hB => fin D us s' a' (by rwa [hR.map hX] at hB)⟩
  refine wpAny_tests_nil ⟨rfl, a₁, fun _ => ?_⟩
  have hco1 : s.heap.get? c = some o := a₁.fs.keep _ _ (k1 _ _ hco)
  have ccx : cenv.cells.lookup (Str.ofString "read") = some c := by rw [hcc]; rfl
  have hGb : G w hb := hG.keeps k0
  obtain ⟨z, hz, rfl⟩ := List.mem_map.mp hy
  obtain ⟨of, fd, hof, hfd⟩ := hR.isF
  refine x_call ?_
  refine ld_cell ec a₁ (by simp) ccx hco1 hd (by decide) ?_
  refine cw_def hof hfd rfl ?_
  repeat k_extra "m"
  refine hR.call _ _ _ _ z t (hX z hz) (hGb.of_at a₁) (hr.mono (by decide) (by decide)) (fun t' s' hk => ?_)
  exact ⟨⟨t', by rw [hR.rd z (hX z hz)]⟩, a₁.kept hk⟩

/-- [row for row in first if test] -/
theorem row_comp {iter : Expr} {test : Expr} {scope : Scope} {pos pn p1 : Pos} {cl : List (Str × Addr)} {names' : List (Str × NameKind)} {Q : Value → Shared → Prop} (p : List UInt8 → Bool) (X : List (List UInt8))
    (e : EnvIs env names L) (ci : CompIs scope names names' none [("row", none)]) (hclos : closureFor scope env = pure cl) (hloc : (Str.ofString "row", .local) ∈ names') (hh : A.handled = none) (hn : X.length < 2 ^ 20)
    (h : wpAny (model P w) A (eval iter env) (fun xv s₁ => ∃ (b : Addr) (l : List (Str × Option Value)) (W : List (Addr × Cell)), xv = .ref b ∧ At s₀ h₀ L l W s₁ ∧ ListB s₁.heap b X ∧
      (∀ C cenv, EnvIs cenv names' C → cenv.cells = cl → ∀ y t hb s E (Q' : Bool → Shared → Prop), y ∈ X → At s₀ hb C [("row", some (.bytes y.toArray t))] [] s → (∀ b o, h₀.get? b = some o → hb.get? b = some o) → (∀ s', At s₀ hb C [("row", some (.bytes y.toArray t))] [] s' → Q' (p y) s') →
        wpAny (model P w) A (isTrue test cenv (eval test cenv)) Q' E s) ∧
      (∀ D us s', At s₀ h₀ L l ((D, .list us) :: W) s' → BytesAre us (X.filter p) → Q (.ref D) s')) E s)
    (hs : ∀ x, foldedSetIterable iter env x = pure x := by intro _; rfl) :
    wpAny (model P w) A (eval (.ListComp (.Name (Str.ofString "row") p1) [⟨.Name (Str.ofString "row") pn, iter, [test], 0⟩] scope pos) env) Q E s := by
  refine b_comp (s₀ := s₀) (h₀ := h₀) (L := L) id p X e ci hclos hloc hh (wpAny_mono h (fun xv s₁ h₁ => ?_) fun _ _ q => q) hs
  obtain ⟨b, l, W, rfl, a, ⟨vs, hvl, hvB⟩, ht, fin⟩ := h₁
  refine ⟨b, l, W, vs, rfl, a, hvl.isList, hvB, hn, fun C cenv ec hcf hcc y t hb s E hy a₁ k0 k1 => ?_, fun D us s' a' hB => fin D us s' a' (by rwa [List.map_id] at hB)⟩
  refine wpAny_tests_one (ht C cenv ec hcc y t hb s E _ hy a₁ k0 fun s' a' => ⟨rfl, a', fun _ => ?_⟩)
  refine ld_local ec a' hloc List.mem_cons_self (by decide) ⟨⟨t, rfl⟩, a'⟩
end

theorem dbl_in (elt t1 i1 t2 i2 : Expr) (scope : Scope) (pos : Pos) (it acc : Value) (env : Env) :
    compTurn (.ListComp elt [⟨t1, i1, [], 0⟩, ⟨t2, i2, [], 0⟩] scope pos) 1 it acc env = (do
      standAt i2.pos
      match ← pyNext it with
      | none => pure (.done .next)
      | some v =>
        letOwnedTupleGo t2 it v
        assign t2 env v
        let mut ok := true
        for c in ([] : List Expr) do
          if ok then ok ← isTrue c env (eval c env)
        if ok then
          (do let _ ← call (.builtin "list.append") [acc, ← eval elt env])
        again (.compLoop (.ListComp elt [⟨t1, i1, [], 0⟩, ⟨t2, i2, [], 0⟩] scope pos) 1 it acc env)) := by rfl
theorem dbl_out (elt t1 i1 t2 i2 : Expr) (scope : Scope) (pos : Pos) (it acc : Value) (env : Env) :
    compTurn (.ListComp elt [⟨t1, i1, [], 0⟩, ⟨t2, i2, [], 0⟩] scope pos) 0 it acc env = (do
      standAt i1.pos
      match ← pyNext it with
      | none => pure (.done .next)
      | some v =>
        letOwnedTupleGo t1 it v
        assign t1 env v
        let ok ← testsOf [] env
        if ok = true then do
          let x ← eval i2 env
          standAt i2.pos
          let x ← foldedSetIterable i2 env x
          let y ← holding [x] (pyIter x)
          let _ ← runOwn (.compStart (.ListComp elt [⟨t1, i1, [], 0⟩, ⟨t2, i2, [], 0⟩] scope pos) 1 y acc env) env
          again (.compLoop (.ListComp elt [⟨t1, i1, [], 0⟩, ⟨t2, i2, [], 0⟩] scope pos) 0 it acc env)
        else again (.compLoop (.ListComp elt [⟨t1, i1, [], 0⟩, ⟨t2, i2, [], 0⟩] scope pos) 0 it acc env)) := by rfl

section
variable {w : World} {A : Around} {E : Value → Shared → Prop} {s s₀ : Shared} {env : Env} {names : List (Str × NameKind)} {L : Addr} {h₀ hb : Heap} {l : List (Str × Option Value)} {W : List (Addr × Cell)}

theorem comp_loop1 {X : List (Addr × Cell)} {target elt iter t1 i1 : Expr} {y0 : List Value} {scope : Scope} {pos : Pos} {I D C : Addr} {cenv : Env} {fp wr : List Addr} {n : Nat} {Pv : Nat → Value → Heap → Prop} {St : Nat → Heap → Prop} {N : List (Addr × Cell)}
    {R : Result → Shared → Prop} (J : Nat → List Value → List (Str × Option Value) → List (Addr × Cell) → Prop)
    (It : Itr w A target I fp wr n Pv St X) (hn : y0.length + n < 2 ^ 20) (a : At s₀ h₀ C l ((D, .list y0) :: N) s) (hst : St 0 s.heap) (hfp : ∀ b ∈ fp, b ≠ C ∧ b ≠ D ∧ b ∉ N.map (·.1)) (hwr : ∀ b ∈ wr, h₀.get? b = none) (hJ : J 0 y0 l N)
    (turn : CompTurn w A target elt [] cenv n Pv J s₀ h₀ C)
    (done : ∀ ys l N s, J n ys l N → At s₀ h₀ C l ((D, .list ys) :: N) s → (∀ b ∈ fp, b ≠ C ∧ b ≠ D ∧ b ∉ N.map (·.1)) → (∀ p ∈ X, CellAt s.heap p.1 p.2) → R (.ok .next) s) :
    codeAny (model P w) A (.compLoop (.ListComp elt [⟨t1, i1, [], 0⟩, ⟨target, iter, [], 0⟩] scope pos) 1 (.ref I) (.ref D) cenv) R s := by
  refine codeAny_loop rfl (fun k s => ∃ i ys l N, k = n - i ∧ i ≤ n ∧ ys.length ≤ y0.length + i ∧ J i ys l N ∧ At s₀ h₀ C l ((D, .list ys) :: N) s ∧ St i s.heap ∧ (∀ b ∈ fp, b ≠ C ∧ b ≠ D ∧ b ∉ N.map (·.1))) (fun k s₁ hI => ?_) n
    ⟨0, y0, l, N, by lia, by lia, by lia, hJ, a, hst, hfp⟩
  obtain ⟨i, ys, l, N, rfl, hi, hlen, hJ, a, hst, hfp⟩ := hI
  show wpAny _ A ((compTurn (.ListComp elt [⟨t1, i1, [], 0⟩, ⟨target, iter, [], 0⟩] scope pos) 1 (.ref I) (.ref D) cenv).onRaise (fun x => do noteFrame x cenv; theTreesLotGoes x)) _ _ s₁
  refine wpAny_noted ?_
  rw [dbl_in]
  refine wpAny_bind (wpAny_standAt ?_)
  have awr : ∀ h' tk, (∀ b o, b ∉ wr → s₁.heap.get? b = some o → h'.get? b = some o) → At s₀ h₀ C l ((D, .list ys) :: N) { s₁ with heap := h', toks := tk } := fun h' tk hk =>
    a.keptBut (bs := wr) ⟨h', tk, rfl, hk⟩ hwr (fun m => (hfp _ (It.sub _ m)).1 rfl) (fun p hp m => by
      have q := hfp _ (It.sub _ m)
      rcases List.mem_cons.mp hp with rfl | hp
      · exact q.2.1 rfl
      · exact q.2.2 (List.mem_map_of_mem hp))
  by_cases h : i < n
  · refine turn_item It h hst (fun v h' tk hv hst' hk => ?_)
    have a' := awr h' tk hk
    obtain ⟨hc, k₁, a₁, r₁⟩ := a'.tail.rebase
    have hDC : D ≠ C := (a'.fs.newW (D, .list ys) List.mem_cons_self).2
    have hDN : D ∉ N.map (·.1) := (List.nodup_cons.mp a'.fs.nd).1
    have hD : CellAt h' D (.list ys) := a'.cell List.mem_cons_self
    have fin : ∀ ys' l' N' s₂, ys'.length ≤ y0.length + (i + 1) → J (i + 1) ys' l' N' → At s₀ hc C l' N' s₂ → (∀ s₃, KeepsBut [D] s₂ s₃ → CellAt s₃.heap D (.list ys') → ∃ m, m < n - i ∧ ∃ i ys l N, m = n - i ∧ i ≤ n ∧ ys.length ≤ y0.length + i ∧ J i ys l N ∧ At s₀ h₀ C l ((D, .list ys) :: N) s₃ ∧ St i s₃.heap ∧ (∀ b ∈ fp, b ≠ C ∧ b ≠ D ∧ b ∉ N.map (·.1))) := by
      intro ys' l' N' s₂ hlen' hJ' a₂ s₃ k₃ hD₃
      have hDc : ∀ c, hc.get? D = some c → D ∉ N'.map (·.1) := fun c e m => by
        obtain ⟨p, hp, q⟩ := List.mem_map.mp m
        have := (a₂.fs.newW p hp).1
        rw [q, e] at this; cases this
      obtain ⟨oD, hoD⟩ := hD.some
      have hoD' : hc.get? D = some oD := r₁ D oD hDC hDN hoD
      have hDN' := hDc _ hoD'
      have hD2 : CellAt s₂.heap D (.list ys) := hD.at fun o e => a₂.fs.keep _ _ (r₁ _ _ hDC hDN e)
      have a₃ : At s₀ h₀ C l' ((D, .list ys) :: N') s₂ := (a₂.shrink k₁).add hD2 (a'.fs.newW (D, .list ys) List.mem_cons_self).1 hDC hDN'
      have a₄ : At s₀ h₀ C l' ((D, .list ys') :: N') s₃ := a₃.change (i := 0) rfl k₃ hD₃
      have fpN : ∀ b ∈ fp, b ≠ C ∧ b ≠ D ∧ b ∉ N'.map (·.1) := fun b hb => by
        refine ⟨(hfp b hb).1, (hfp b hb).2.1, fun m => ?_⟩
        obtain ⟨o, ho⟩ := It.ex _ _ hst' b hb
        have := r₁ b o (hfp b hb).1 (hfp b hb).2.2 ho
        obtain ⟨p, hp, q⟩ := List.mem_map.mp m
        have h2 := (a₂.fs.newW p hp).1
        rw [q, this] at h2; cases h2
      exact ⟨n - (i + 1), by lia, i + 1, ys', l', N', rfl, h, hlen', hJ', a₄, It.frame _ _ _ hst' fun b hb o e => k₃.get (by simpa using (hfp b hb).2.1) (a₂.fs.keep _ _ (r₁ _ _ (hfp b hb).1 (hfp b hb).2.2 e)), fpN⟩
    refine wpAny_bind (wpAny_mono (turn i v ys l N hc _ _ h hv hJ a₁ k₁ r₁) (fun _ s₂ h₂ => wpAny_bind (wpAny_mono h₂ (fun ok s₃ h₃ => ?_) fun _ _ h' => h')) fun _ _ h' => h')
    cases ok with
    | false =>
      obtain ⟨l', N', hJ', a₃⟩ := h₃.2 rfl
      have hD3 : CellAt s₃.heap D (.list ys) := hD.at fun o e => a₃.fs.keep _ _ (r₁ _ _ hDC hDN e)
      exact wpAny_pure ⟨rfl, fin ys l' N' s₃ (by lia) hJ' a₃ s₃ (KeepsBut.refl _) hD3⟩
    | true =>
      refine wpAny_bind (wpAny_bind (wpAny_mono (h₃.1 rfl) (fun y s₄ h₄ => wpAny_bind ?_) fun _ _ h' => h'))
      obtain ⟨l', N', hJ', a₄⟩ := h₄
      have hD4 : CellAt s₄.heap D (.list ys) := hD.at fun o e => a₄.fs.keep _ _ (r₁ _ _ hDC hDN e)
      refine k_append hD4 (by lia) (fun s₅ k₅ hD₅ => wpAny_pure (wpAny_pure ⟨rfl, ?_⟩))
      exact fin (ys ++ [y]) l' N' s₄ (by simp; lia) hJ' a₄ s₅ k₅ hD₅
  · obtain rfl : i = n := by lia
    exact turn_done It hst (fun h' tk hk hx => done ys l N _ hJ (awr h' tk hk) hfp hx)

theorem compStart1 {elt t1 i1 t2 i2 : Expr} {scope : Scope} {pos : Pos} {it acc : Value} {R : Result → Shared → Prop}
    (h0 : codeAny (model P w) A (.compLoop (.ListComp elt [⟨t1, i1, [], 0⟩, ⟨t2, i2, [], 0⟩] scope pos) 1 it acc env) R s)
    (h : wpAny (model P w) A (pyIter it) (fun it' s' => codeAny (model P w) A (.compLoop (.ListComp elt [⟨t1, i1, [], 0⟩, ⟨t2, i2, [], 0⟩] scope pos) 1 it' acc env) R s')
      (notedBy (model P w) A env fun x s' => R (.error x) s') s) :
    codeAny (model P w) A (.compStart (.ListComp elt [⟨t1, i1, [], 0⟩, ⟨t2, i2, [], 0⟩] scope pos) 1 it acc env) R s := by
  refine codeAny_of_tree ?_
  show wpAny _ _ ((compStart (.ListComp elt [⟨t1, i1, [], 0⟩, ⟨t2, i2, [], 0⟩] scope pos) 1 it acc env).onRaise (fun x => do noteFrame x env; standAt theWindowsPlace)) _ _ s
  refine wpAny_notedAt ?_
  unfold compStart
  show wpAny _ _ (ask >>= _) _ _ s
  refine wpAny_bind (wpAny_askSetting (wpAny_ite ?_))
  split
  · first
      | exact wpAny_bind (wpAny_pure (wpAny_pure (And.intro rfl h0)))
      | exact wpAny_pure (And.intro rfl h0)
  · first
      | exact wpAny_bind (wpAny_rule (wpAny_bind (wpAny_standAt (wpAny_bind (wpAny_mono h (fun it' s' h' => wpAny_pure (And.intro rfl h')) fun _ _ x => x)))))
      | (refine wpAny_bind (wpAny_rule ?_); show wpAny _ _ (standAt i2.pos >>= _) _ _ s; exact wpAny_bind (wpAny_standAt (wpAny_bind (wpAny_mono h (fun it' s' h' => wpAny_pure (And.intro rfl h')) fun _ _ x => x))))

theorem dbl_inner {elt i1 : Expr} {nm1 nm2 : Str} {p1 p2 : Pos} {scope : Scope} {pos : Pos} {C D I2 r : Addr} {cenv : Env} {names' : List (Str × NameKind)} {u : Option Value} {us vs : List Value} {ys : List (List UInt8)} {f : List UInt8 → List UInt8} {i2 : Expr} {R : Result → Shared → Prop}
    (hh : A.handled = none) (ec : EnvIs cenv names' C) (hloc2 : (nm2, .local) ∈ names') (a : At s₀ h₀ C [(nm1, some (.ref r)), (nm2, u)] [(D, .list us)] s) (hl : h₀.IsList r vs.toArray) (hB : BytesAre vs ys) (hit : s.heap.get? I2 = some (liObj r 0))
    (fI : h₀.get? I2 = none ∧ I2 ≠ C ∧ I2 ≠ D) (hn : us.length + vs.length < 2 ^ 20)
    (helt : ∀ y t hb s E Q', y ∈ ys → At s₀ hb C [(nm1, some (.ref r)), (nm2, some (.bytes y.toArray t))] [] s → (∀ b o, h₀.get? b = some o → hb.get? b = some o) → (∀ t' s', At s₀ hb C [(nm1, some (.ref r)), (nm2, some (.bytes y.toArray t))] [] s' → Q' (.bytes (f y).toArray t') s') → wpAny (model P w) A (eval elt cenv) Q' E s)
    (done : ∀ us' u' s', At s₀ h₀ C [(nm1, some (.ref r)), (nm2, u')] [(D, .list (us ++ us'))] s' → BytesAre us' (ys.map f) → R (.ok .next) s') :
    codeAny (model P w) A (.compStart (.ListComp elt [⟨.Name nm1 p1, i1, [], 0⟩, ⟨.Name nm2 p2, i2, [], 0⟩] scope pos) 1 (.ref I2) (.ref D) cenv) R s := by
  obtain ⟨ol, hol, hcl, nl, hdl⟩ := hl
  have hne12 : nm1 ≠ nm2 := by have := a.fs.ln; simp at this; exact this
  have hrC : r ≠ C := fun z => by have := a.fs.newL; rw [← z, hol] at this; cases this
  have hrD : r ≠ D := fun z => by have := (a.fs.newW (D, .list us) List.mem_cons_self).1; dsimp only at this; rw [← z, hol] at this; cases this
  have hrI : r ≠ I2 := fun z => by have := fI.1; rw [← z, hol] at this; cases this
  have hlen := hB.length
  have loop : codeAny (model P w) A (.compLoop (.ListComp elt [⟨.Name nm1 p1, i1, [], 0⟩, ⟨.Name nm2 p2, i2, [], 0⟩] scope pos) 1 (.ref I2) (.ref D) cenv) R s := by
    refine comp_loop1 (n := vs.length) (fun i zs l N => (∃ u, l = [(nm1, some (.ref r)), (nm2, u)]) ∧ N = [] ∧ ∃ us', zs = us ++ us' ∧ BytesAre us' ((ys.take i).map f)) (Itr.list hh I2 r hrI vs) hn a ⟨⟨_, hit, rfl, rfl⟩, ⟨ol, a.fs.keep _ _ hol, hcl, nl, hdl⟩⟩ (fun b hb => ?_) (fun b hb => by cases List.mem_singleton.mp hb; exact fI.1) ⟨⟨u, rfl⟩, rfl, [], by simp, .nil⟩ ?_ ?_
    · rcases List.mem_cons.mp hb with rfl | hb
      · exact ⟨fI.2.1, fI.2.2, fun m => nomatch m⟩
      · cases List.mem_singleton.mp hb
        exact ⟨hrC, hrD, fun m => nomatch m⟩
    · rintro i v zs l N hb s₃ E₃ hi hv ⟨⟨u', rfl⟩, rfl, us', rfl, hus⟩ a₃ k0 _
      obtain ⟨y, t, hy, rfl⟩ := hB.at hv
      have hym : y ∈ ys := List.mem_of_getElem? hy
      refine wpAny_assign_Name (st_local ec a₃ hloc2 (Put.there Put.here) fun s₄ a₄ => te_nil ?_)
      refine helt y t hb s₄ _ _ hym a₄ k0 (fun t' s₅ a₅ => ?_)
      refine ⟨_, _, ⟨⟨_, rfl⟩, rfl, us' ++ [.bytes (f y).toArray t'], by simp, ?_⟩, a₅⟩
      rw [List.take_add_one, hy]
      show BytesAre _ (List.map f (ys.take i ++ [y]))
      rw [List.map_append]
      exact hus.snoc _ _
    · rintro zs l N s₃ ⟨⟨u', rfl⟩, rfl, us', rfl, hus⟩ a₃ _ _
      rw [hlen, List.take_length] at hus
      exact done us' u' s₃ a₃ hus
  exact compStart1 loop (wpAny_pyIter_listiter ⟨_, hit, rfl, rfl⟩ loop)

theorem dbl_outer {elt i1 : Expr} {nm1 nm2 : Str} {p1 p2 pi : Pos} {scope : Scope} {pos : Pos} {C D I b : Addr} {cenv : Env} {names' : List (Str × NameKind)} {yss : List (List (List UInt8))} {f : List UInt8 → List UInt8} {R : Result → Shared → Prop}
    (hh : A.handled = none) (ec : EnvIs cenv names' C) (hloc1 : (nm1, .local) ∈ names') (hloc2 : (nm2, .local) ∈ names') (hdb : (nm1 == ("__debug__" : Str)) = false) (a : At s₀ h₀ C [(nm1, none), (nm2, none)] [(D, .list [])] s) (hl : ListLB h₀ b yss) (hit : s.heap.IsListIter I b 0)
    (fI : h₀.get? I = none ∧ I ≠ C ∧ I ≠ D) (hn : yss.flatten.length < 2 ^ 18)
    (helt : ∀ r y t hb s E Q', y ∈ yss.flatten → At s₀ hb C [(nm1, some (.ref r)), (nm2, some (.bytes y.toArray t))] [] s → (∀ b o, h₀.get? b = some o → hb.get? b = some o) → (∀ t' s', At s₀ hb C [(nm1, some (.ref r)), (nm2, some (.bytes y.toArray t))] [] s' → Q' (.bytes (f y).toArray t') s') → wpAny (model P w) A (eval elt cenv) Q' E s)
    (done : ∀ us u1 u2 s', At s₀ h₀ C [(nm1, u1), (nm2, u2)] [(D, .list us)] s' → BytesAre us (yss.flatten.map f) → R (.ok .next) s') :
    codeAny (model P w) A (.compLoop (.ListComp elt [⟨.Name nm1 p1, i1, [], 0⟩, ⟨.Name nm2 p2, .Name nm1 pi, [], 0⟩] scope pos) 0 (.ref I) (.ref D) cenv) R s := by
  obtain ⟨rs, hrl, hlen, hrs⟩ := hl
  refine codeAny_loop rfl (fun k s => ∃ i us u1 u2, k = yss.length - i ∧ i ≤ yss.length ∧ At s₀ h₀ C [(nm1, u1), (nm2, u2)] [(D, .list us)] s ∧ BytesAre us ((yss.take i).flatten.map f) ∧ s.heap.IsListIter I b i) (fun k s₁ hI => ?_) yss.length ⟨0, [], none, none, by lia, by lia, a, by simpa using BytesAre.nil, hit⟩
  obtain ⟨i, us, u1, u2, rfl, hi, a, hus, hit⟩ := hI
  show wpAny _ A ((compTurn (.ListComp elt [⟨.Name nm1 p1, i1, [], 0⟩, ⟨.Name nm2 p2, .Name nm1 pi, [], 0⟩] scope pos) 0 (.ref I) (.ref D) cenv).onRaise (fun x => do noteFrame x cenv; theTreesLotGoes x)) _ _ s₁
  refine wpAny_noted ?_
  rw [dbl_out]
  refine wpAny_bind (wpAny_standAt ?_)
  have hls : s₁.heap.IsList b (rs.map Value.ref).toArray := hrl.at fun o => a.fs.keep _ o
  have hull : us.length ≤ yss.flatten.length := by
    rw [hus.length, List.length_map]
    have : yss.flatten = (yss.take i).flatten ++ (yss.drop i).flatten := by rw [← List.flatten_append, List.take_append_drop]
    rw [this, List.length_append]; lia
  by_cases hlt : i < yss.length
  · have hri : i < rs.length := by lia
    obtain ⟨r, hr⟩ : ∃ r, rs[i]? = some r := ⟨_, List.getElem?_eq_getElem hri⟩
    obtain ⟨ys, hy⟩ : ∃ ys, yss[i]? = some ys := ⟨_, List.getElem?_eq_getElem hlt⟩
    have hym : ys ∈ yss := List.mem_of_getElem? hy
    obtain ⟨vs, hvl, hvB⟩ := hrs i r ys hr hy
    have hfl : ys.length ≤ yss.flatten.length := (List.sublist_flatten_of_mem hym).length_le
    refine wpAny_bind (wpAny_pyNext_list_item hit hls (x := .ref r) (by simp [hr]) fun h' hit' hs' => ?_)
    have a' : At s₀ h₀ C [(nm1, u1), (nm2, u2)] [(D, .list us)] { s₁ with heap := h' } := a.keptBut (bs := [I]) ⟨h', s₁.toks, rfl, fun c o hc q => hs'.extBut c o (by simpa using hc) q⟩ (fun c hc => by cases List.mem_singleton.mp hc; exact fI.1) (fun m => fI.2.1 (List.mem_singleton.mp m).symm) (fun p hp m => by
      cases List.mem_singleton.mp hp
      exact fI.2.2 (List.mem_singleton.mp m).symm)
    refine wpAny_bind (wpAny_of_eq (a := ()) rfl ?_)
    obtain ⟨oI, hoI, hcI, hdI⟩ := hit'
    obtain ⟨h₁, k₁, a₁, r₁⟩ := a'.rebase
    have hI₁ : h₁.get? I = some oI := r₁ _ _ fI.2.1 (by simpa using fI.2.2) hoI
    refine wpAny_bind (wpAny_assign_Name (st_local ec a₁ hloc1 Put.here fun s₂ a₂ => ?_))
    refine wpAny_bind (wpAny_tests_nil ?_)
    rw [if_pos rfl]
    refine wpAny_bind (ld_local ec a₂ hloc1 List.mem_cons_self hdb ?_)
    refine wpAny_bind (wpAny_standAt ?_)
    refine wpAny_bind (wpAny_of_eq (a := Value.ref r) rfl ?_)
    refine wpAny_bind (wpAny_holding (k_pyIterL (hvl.isList.at fun o q => a₂.fs.keep _ _ (k₁ _ _ q)) fun I2 s₃ k₃ hI2 hrI2 hit2 => ?_))
    have fI2 := a₂.fresh hI2
    have a₃ := a₂.kept k₃
    refine wpAny_bind (wpAny_runOwn (dbl_inner (f := f) hh ec hloc2 a₃ (hvl.isList.at fun o q => k₁ _ _ q) hvB hit2 ⟨fI2.1, fI2.2.1, by simpa using fI2.2.2⟩ (by rw [hvB.length]; lia) (fun y t hb s E Q' hyy a₄ k0 hq => helt r y t hb s E Q' (List.mem_flatten.mpr ⟨ys, hym, hyy⟩) a₄ (fun c o q => k0 _ _ (k₁ _ _ q)) hq) ?_))
    intro us' u' s₄ a₄ hB'
    refine wpAny_pure ⟨rfl, yss.length - (i + 1), by lia, i + 1, us ++ us', _, _, rfl, hlt, a₄.shrink k₁, ?_, ⟨oI, a₄.fs.keep _ _ hI₁, hcI, hdI⟩⟩
    rw [List.take_add_one, hy]
    show BytesAre _ (List.map f (yss.take i ++ [ys]).flatten)
    rw [List.flatten_append, List.map_append]
    refine hus.app ?_
    simpa using hB'
  · obtain rfl : i = yss.length := by lia
    refine wpAny_bind (wpAny_pyNext_list_end hh hit hls (by simp [hlen]) fun h' he' => ?_)
    rw [List.take_length] at hus
    refine wpAny_pure (done us u1 u2 _ (a.keptBut (bs := [I]) ⟨h', s₁.toks, rfl, fun c o hc q => he' c o (by simpa using hc) q⟩ (fun c hc => by cases List.mem_singleton.mp hc; exact fI.1) (fun m => fI.2.1 (List.mem_singleton.mp m).symm) (fun p hp m => by
      cases List.mem_singleton.mp hp
      exact fI.2.2 (List.mem_singleton.mp m).symm)) hus)

/-- [elt for nm1 in a list of lists for nm2 in nm1] -/
theorem dbl_comp {elt iter : Expr} {nm1 nm2 : Str} {p1 p2 pi : Pos} {scope : Scope} {pos : Pos} {names' : List (Str × NameKind)} {Q : Value → Shared → Prop} (f : List UInt8 → List UInt8) (yss : List (List (List UInt8)))
    (e : EnvIs env names L) (ci : CompIs scope names names' none [(nm1, none), (nm2, none)]) (hclos : closureFor scope env = pure []) (hloc1 : (nm1, .local) ∈ names') (hloc2 : (nm2, .local) ∈ names') (hdb : (nm1 == ("__debug__" : Str)) = false) (hh : A.handled = none) (hn : yss.flatten.length < 2 ^ 18)
    (h : wpAny (model P w) A (eval iter env) (fun xv s₁ => ∃ (b : Addr) (l : List (Str × Option Value)) (W : List (Addr × Cell)), xv = .ref b ∧ At s₀ h₀ L l W s₁ ∧ ListLB s₁.heap b yss ∧
      (∀ C cenv, EnvIs cenv names' C → ∀ r y t hb s E Q', y ∈ yss.flatten → At s₀ hb C [(nm1, some (.ref r)), (nm2, some (.bytes y.toArray t))] [] s → (∀ b o, h₀.get? b = some o → hb.get? b = some o) → (∀ t' s', At s₀ hb C [(nm1, some (.ref r)), (nm2, some (.bytes y.toArray t))] [] s' → Q' (.bytes (f y).toArray t') s') → wpAny (model P w) A (eval elt cenv) Q' E s) ∧
      (∀ D us s', At s₀ h₀ L l ((D, .list us) :: W) s' → BytesAre us (yss.flatten.map f) → Q (.ref D) s')) E s)
    (hs : ∀ x, foldedSetIterable iter env x = pure x := by intro _; rfl) :
    wpAny (model P w) A (eval (.ListComp elt [⟨.Name nm1 p1, iter, [], 0⟩, ⟨.Name nm2 p2, .Name nm1 pi, [], 0⟩] scope pos) env) Q E s := by
  rw [eval_ListComp]
  refine wpAny_comprehension_free (use := none) rfl hs hclos ci.kind ci.nms (wpAny_mono h (fun xv s₁ h₁ => ?_) fun _ _ e => e)
  obtain ⟨b, l, W, rfl, a, hl, helt, fin⟩ := h₁
  obtain ⟨rs, hrl, hlen, hrs⟩ := id hl
  refine k_pyIterL hrl (fun I s₂ hk hI hbI hit => ?_)
  have a2 := a.kept hk
  have fI := a.fresh hI
  refine comp_block (n := 0) (names' := names') (ko := none) (l0 := [(nm1, none), (nm2, none)]) (fp := [I, b]) (wr := [I]) (St := fun i h => h.IsListIter I b i) (RR := fun acc C => compPost (model P w) A E none Q acc C) e ci (fun s Q E st h => wpAny_pyIter_listiter st h)
    (fun c hc => ?_) (fun h' k => ⟨_, k I (by simp) _ hit, rfl, rfl⟩) (fun c hc => by simp at hc; simp [hc]) (let ⟨h, tk, q, _⟩ := a2; ⟨h, tk, q⟩) ?_
  · rcases List.mem_cons.mp hc with rfl | hc
    · exact ⟨_, hit⟩
    · cases List.mem_singleton.mp hc
      obtain ⟨o, ho, _⟩ := hrl
      exact ⟨o, keeps_get hk ho⟩
  rintro D C cenv hB s' rfl hD hC hDC ec hfr hcl ac st' hfp
  have neI : ∀ c o, s₁.heap.get? c = some o → (hideAll s₂.heap [I]).get? c = some o := fun c o q => hideAll_get _ (keeps_get hk q) (fun m => by
    cases List.mem_singleton.mp m
    rw [hI] at q; cases q)
  refine dbl_outer (yss := yss) (f := f) hh ec hloc1 hloc2 hdb ac (hl.at neI) st' ⟨hideAll_none _ List.mem_cons_self, (hfp I (by simp)).1, (hfp I (by simp)).2.1⟩ hn (fun r y t hb s E Q' hy a₄ k0 hq => helt C cenv ec r y t hb s E Q' hy a₄ (fun c o q => k0 _ _ (neI _ _ (a.fs.keep _ _ q))) hq) ?_
  intro us u1 u2 s₃ a₃ hus
  obtain ⟨a5, ns, k⟩ := comp_after (N := []) a2 (fun c hc => by cases List.mem_singleton.mp hc; exact fI) hD hC (fun p hp => nomatch hp) a₃
  have fC := a2.fresh hC
  refine post_none (Fin := fun l W D ys s' => Q (.ref D) s') (fun l' W' D ys s' q => q) l _ D C us _ s₃ a5 (fun s'' a'' => fin D us s'' a'' hus) ns fC.1 fC.2.1 (fun m => ?_)
  rw [List.map_cons, List.mem_cons] at m
  rcases m with m | m
  · exact hDC m.symm
  · exact fC.2.2 m
end

theorem fb1 (X Y : List (List UInt8)) : filterB Y X = X.filter fun y => !decide (y ∈ Y) := by
  unfold filterB; refine List.filter_congr fun x _ => ?_; simp
theorem fb2 (X Y : List (List UInt8)) : filterB (filterB Y X) X = X.filter fun y => decide (y ∈ Y) := by
  unfold filterB; refine List.filter_congr fun x hx => ?_
  simp only [List.mem_filter, hx, true_and, decide_eq_true_eq, decide_eq_decide, Decidable.not_not]
theorem fb3 (X Y Z : List (List UInt8)) : filterB Z (filterB Y X) = X.filter fun y => !decide (y ∈ Y) && !decide (y ∈ Z) := by
  unfold filterB; rw [List.filter_filter]; refine List.filter_congr fun x _ => ?_
  rw [Bool.and_comm]; simp
theorem fb4 (X Y Z : List (List UInt8)) : filterB Y (filterB Z X) = X.filter fun y => !decide (y ∈ Y) && !decide (y ∈ Z) := by
  unfold filterB; rw [List.filter_filter]; refine List.filter_congr fun x _ => ?_
  simp
theorem fb5 (X Y Z : List (List UInt8)) : filterB (Y ++ Z) X = X.filter fun y => !decide (y ∈ Y) && !decide (y ∈ Z) := by
  unfold filterB; refine List.filter_congr fun x _ => ?_
  simp only [List.mem_append, not_or, Bool.decide_and, decide_not]
theorem fb6 (X Y Z : List (List UInt8)) : filterB (filterB Z Y) X = X.filter fun y => !decide (y ∈ Y) || decide (y ∈ Z) := by
  unfold filterB; refine List.filter_congr fun x _ => ?_
  simp only [List.mem_filter, not_and, decide_eq_true_eq, Decidable.not_not]
  by_cases h : x ∈ Y <;> simp [h]

/-- what stands below a run of _law_parted -/
structure PB (w : World) (h : Heap) (one two three fa sa ta cr cs ct : Addr) (or os ot : Obj) (X Y Z X' Y' Z' : List (List UInt8)) : Prop where
  g : G w h
  l1 : ListB h one X'
  l2 : ListB h two Y'
  l3 : ListB h three Z'
  la : ListB h fa X
  ls : ListB h sa Y
  lt : ListB h ta Z
  r : h.get? cr = some or
  s : h.get? cs = some os
  t : h.get? ct = some ot
theorem PB.mono {w : World} {h h' : Heap} {one two three fa sa ta cr cs ct : Addr} {or os ot : Obj} {X Y Z X' Y' Z' : List (List UInt8)} (x : PB w h one two three fa sa ta cr cs ct or os ot X Y Z X' Y' Z') (k : ∀ b o, h.get? b = some o → h'.get? b = some o) :
    PB w h' one two three fa sa ta cr cs ct or os ot X Y Z X' Y' Z' :=
  ⟨x.g.keeps k, x.l1.at fun o => k _ o, x.l2.at fun o => k _ o, x.l3.at fun o => k _ o, x.la.at fun o => k _ o, x.ls.at fun o => k _ o, x.lt.at fun o => k _ o, k _ _ x.r, k _ _ x.s, k _ _ x.t⟩

section
variable {w : World} {A : Around} {E : Value → Shared → Prop} {s s₀ : Shared} {env : Env} {names : List (Str × NameKind)} {L : Addr} {h₀ hb : Heap} {l : List (Str × Option Value)} {W fcs : List (Addr × Cell)}

/-- a new list of bytes goes to the kept ones -/
theorem At.sink {D : Addr} {us : List Value} {ys : List (List UInt8)} (a : At s₀ h₀ L l ((D, .list us) :: W) s) (hB : BytesAre us ys) : ExA3 (fun h₁ => ∀ b o, h₀.get? b = some o → h₁.get? b = some o) (fun h₁ => At s₀ h₁ L l W s) (fun h₁ => ListB h₁ D ys) := by
  obtain ⟨h₁, k₁, a₁, r₁⟩ := a.tail.rebase
  have hD : CellAt s.heap D (.list us) := a.cell List.mem_cons_self
  have nD := (List.nodup_cons.mp a.fs.nd).1
  have hpl : h₁.PlainList D us.toArray := Heap.PlainList.at hD fun o q => r₁ _ _ (a.fs.newW (D, .list us) List.mem_cons_self).2 nD q
  exact ⟨h₁, k₁, a₁, us, hpl, hB⟩
theorem At.sinkL {D : Addr} {us : List Value} (a : At s₀ h₀ L l W s) (f : h₀.get? D = none ∧ D ≠ L ∧ D ∉ W.map (·.1)) (hD : s.heap.PlainList D us.toArray) : ExA3 (fun h₁ => ∀ b o, h₀.get? b = some o → h₁.get? b = some o) (fun h₁ => At s₀ h₁ L l W s) (fun h₁ => h₁.PlainList D us.toArray) := by
  obtain ⟨h₁, k₁, a₁, r₁⟩ := a.rebase
  exact ⟨h₁, k₁, a₁, hD.at fun o q => r₁ _ _ f.2.1 f.2.2 q⟩

theorem ListLB.three {h : Heap} {b a1 a2 a3 : Addr} {xs ys zs : List (List UInt8)} (hl : h.IsList b [Value.ref a1, .ref a2, .ref a3].toArray) (h1 : ListB h a1 xs) (h2 : ListB h a2 ys) (h3 : ListB h a3 zs) : ListLB h b [xs, ys, zs] := by
  refine ⟨[a1, a2, a3], hl, rfl, fun i r zs' e1 e2 => ?_⟩
  match i with
  | 0 => simp at e1 e2; subst e1 e2; exact h1
  | 1 => simp at e1 e2; subst e1 e2; exact h2
  | 2 => simp at e1 e2; subst e1 e2; exact h3
  | i + 3 => simp at e1
theorem Rel.of {s' : Shared} (a : At s h₀ L l W s') (u : Ups fcs W) (ho : ∀ p ∈ fcs, ∃ o, p.2 = Cell.obj o ∧ ∀ vs, o.data ≠ .fields vs) (hk : ∀ b o, b ∉ fcs.map (·.1) → s.heap.get? b = some o → h₀.get? b = some o) : Rel fcs s s' := by
  have cel : ∀ p ∈ W, CellAt s'.heap p.1 p.2 := fun p hp => a.cell hp
  obtain ⟨h', tk, rfl, f⟩ := a
  refine ⟨h', tk, rfl, fun b o hb q => f.keep b o (hk b o hb q), fun p hp => ?_⟩
  obtain ⟨o, e, _⟩ := ho p hp
  obtain ⟨c, cc⟩ := p
  dsimp only at e; subst e
  obtain ⟨sl, m⟩ := u.mem hp
  exact ⟨sl, cel _ m⟩

theorem parted_spec {one two three rows R fa sa ta : Addr} {X Y Z U : List (List UInt8)} {enc rd : List UInt8 → List UInt8} {outer : List Env} {Q : Value → Shared → Prop}
    (hG : G w hb) (hsub : ∀ b o, hb.get? b = some o → s.heap.get? b = some o) (hbf : ∀ p ∈ fcs, hb.get? p.1 = none) (hfc : ∀ p ∈ fcs, CellAt s.heap p.1 p.2) (nd : (fcs.map (·.1)).Nodup) (hF : FramesIn outer fcs) (hfr : A.frames = some outer)
    (h1 : ListB hb one (X.map enc)) (h2 : ListB hb two (Y.map enc)) (h3 : ListB hb three (Z.map enc)) (hrows : hb.IsList rows [Value.ref fa, .ref sa, .ref ta].toArray) (ha : ListB hb fa X) (hs' : ListB hb sa Y) (ht : ListB hb ta Z)
    (hX : ∀ x ∈ X, x ∈ U) (hY : ∀ x ∈ Y, x ∈ U) (hZ : ∀ x ∈ Z, x ∈ U) (nX : X.length < 1000) (nY : Y.length < 1000) (nZ : Z.length < 1000) (hR : ReadIs w R enc rd U) (hr : Room A 30 300)
    (hQ : ∀ s', Rel fcs s s' → Q (.bool true) s') : wpAny (model P w) A (call (.ref 301) [.ref one, .ref two, .ref three, .ref R, .ref rows]) Q E s := by
  refine call_bodyC (d := 29) (u := 297) (binds := [("one", .ref one), ("two", .ref two), ("three", .ref three), ("read", .ref R), ("rows", .ref rows)]) (lb := [("one", .ref one), ("two", .ref two), ("three", .ref three), ("rows", .ref rows)]) (cb := [("read", .ref R)])
    (l := [("one", some (.ref one)), ("two", some (.ref two)), ("three", some (.ref three)), ("rows", some (.ref rows)), ("first", none), ("left", none), ("both", none), ("neither", none)]) fcs ["first", "left", "both", "neither"] [("read", some (.ref R)), ("second", none), ("third", none)]
    hG hsub hbf hfc nd hr (by k_is) (by k_is) (BindsTo.of_eq rfl) (fun n => by intro y hy; simp only [List.mem_cons, List.not_mem_nil, or_false] at hy; rcases hy with rfl | rfl | rfl | rfl | rfl <;> first | exact .inl rfl | exact .inr ⟨rfl, rfl⟩) rfl rfl
    (fun n => by intro y hy; simp only [List.mem_cons, List.not_mem_nil, or_false] at hy; rcases hy with rfl | rfl | rfl <;> exact ⟨rfl, rfl⟩) (by simp only [List.map_cons, List.map_nil]; decide) rfl (by simp only [List.map_cons, List.map_nil]; decide) (by decide) ?_
  intro env L h₀ s₁ A' ca co he hfe hA' hcs hat hg₀ hk hr'
  dsimp only at he
  have hat : At s h₀ L [("one", some (.ref one)), ("two", some (.ref two)), ("three", some (.ref three)), ("rows", some (.ref rows)), ("first", none), ("left", none), ("both", none), ("neither", none)] ((ca "read", Cell.obj (co "read")) :: (ca "second", Cell.obj (co "second")) :: (ca "third", Cell.obj (co "third")) :: fcs) s₁ := hat
  have hbh : ∀ b o, hb.get? b = some o → h₀.get? b = some o := fun b o q => hk b o (fun m => by obtain ⟨p, hp, rfl⟩ := List.mem_map.mp m; rw [hbf p hp] at q; cases q) (hsub b o q)
  obtain ⟨hcr, hdr, _⟩ := hcs ("read", some (.ref R)) (by simp)
  obtain ⟨hcs2, hds, _⟩ := hcs ("second", none) (by simp)
  obtain ⟨hct, hdt, _⟩ := hcs ("third", none) (by simp)
  generalize ca "read" = cr at hcr hat
  generalize ca "second" = cs at hcs2 hat
  generalize ca "third" = ct at hct hat
  generalize co "read" = or at hdr hat
  generalize co "second" = os at hds hat
  generalize co "third" = ot at hdt hat
  have hfr' : A'.frames = some (env :: outer) := by rw [hA', hfr]; rfl
  repeat k_extra "m"
  refine x_assignT (by rfl) (by rw [swapped_env he]; rfl) ?_
  repeat k_extra "m"
  refine as_list hr'.handled (hrows.at fun o q => hat.fs.keep _ _ (hbh _ _ q)) rfl rfl (fun s₂ hk₂ => ?_)
  have hat₂ := hat.kept hk₂
  clear hat
  refine ao_cons (wpAny_assign_Name ?_)
  repeat k_extra "m"
  refine ao_cons (wpAny_assign_Name ?_)
  refine st_cell he (by assumption) (by k_extra "m:in") hcs2 (i := 1) rfl hds (fun os' s₃ hds' hat₃ => ?_)
  dsimp only [List.set_cons_zero, List.set_cons_succ] at hat₃
  refine ao_cons (wpAny_assign_Name ?_)
  refine st_cell he hat₃ (by k_extra "m:in") hct (i := 2) rfl hdt (fun ot' s₄ hdt' hat₄ => ?_)
  dsimp only [List.set_cons_zero, List.set_cons_succ] at hat₄
  refine ao_nil ?_
  clear hat₃ hat₂
  have ndf := hat₄.fs.nd
  have hin : ∀ p ∈ [(cr, Cell.obj or), (cs, Cell.obj os'), (ct, Cell.obj ot')], p.1 ≠ L ∧ p.1 ∉ fcs.map (·.1) ∧ CellAt s₄.heap p.1 p.2 := fun p hp => by
    have nd := hat₄.fs.nd
    have hp' : p ∈ ((cr, Cell.obj or) :: (cs, Cell.obj os') :: (ct, Cell.obj ot') :: fcs) := by
      show p ∈ [(cr, Cell.obj or), (cs, Cell.obj os'), (ct, Cell.obj ot')] ++ fcs
      exact List.mem_append_left _ hp
    rw [show (cr, Cell.obj or) :: (cs, Cell.obj os') :: (ct, Cell.obj ot') :: fcs = [(cr, Cell.obj or), (cs, Cell.obj os'), (ct, Cell.obj ot')] ++ fcs from rfl, List.map_append, List.nodup_append] at nd
    exact ⟨(hat₄.fs.newW p hp').2, fun m => nd.2.2 _ (List.mem_map_of_mem hp) _ m rfl, hat₄.cell hp'⟩
  have a4' := hat₄.only (W' := fcs) (fun p hp => by simp [hp]) (List.nodup_cons.mp (List.nodup_cons.mp (List.nodup_cons.mp ndf).2).2).2
  clear hat₄ ndf
  obtain ⟨g₁, k₁, a5, r₁⟩ := a4'.rebase
  clear a4'
  have hin' : ∀ p ∈ [(cr, Cell.obj or), (cs, Cell.obj os'), (ct, Cell.obj ot')], CellAt g₁ p.1 p.2 := fun p hp => (hin p hp).2.2.at fun o q => r₁ _ _ (hin p hp).1 (hin p hp).2.1 q
  have pb : PB w g₁ one two three fa sa ta cr cs ct or os' ot' X Y Z (X.map enc) (Y.map enc) (Z.map enc) :=
    ⟨hg₀.keeps k₁, h1.at fun o q => k₁ _ _ (hbh _ _ q), h2.at fun o q => k₁ _ _ (hbh _ _ q), h3.at fun o q => k₁ _ _ (hbh _ _ q), ha.at fun o q => k₁ _ _ (hbh _ _ q), hs'.at fun o q => k₁ _ _ (hbh _ _ q), ht.at fun o q => k₁ _ _ (hbh _ _ q),
      hin' (cr, Cell.obj or) (by simp), hin' (cs, Cell.obj os') (by simp), hin' (ct, Cell.obj ot') (by simp)⟩
  have hks : ∀ b o, b ∉ fcs.map (·.1) → s.heap.get? b = some o → g₁.get? b = some o := fun b o hb q => k₁ _ _ (hk b o hb q)
  clear hin hin' r₁ hds hdt hcs hk k₁ hbh
  have hrf : Room A' 10 120 := hr'.mono (by decide) (by decide)
  repeat k_extra "m"
  refine x_assignSw hr'.handled (by rfl) (by rw [swapped_env he]; rfl) ?_
  refine x_tuple ?_
  have hG1 := pb.g
  repeat k_extra "m"
  refine k_filter (W := []) a5 hG1 pb.l1 pb.l2 hfr' hfe he hF hrf (by simp; lia) (fun D1 g₂ f₂ s₅ k₂ a₂ u₂ hD1 => ?_)
  rw [filt_enc hR.inj hX hY] at hD1
  have a₂ : At s g₂ L _ f₂ s₅ := a₂
  replace pb := pb.mono k₂
  have hks2 : ∀ b o, b ∉ fcs.map (·.1) → s.heap.get? b = some o → g₂.get? b = some o := fun b o hb q => k₂ _ _ (hks b o hb q)
  have hF2 := u₂.frames hF
  clear a5 k₂ hks hG1
  have hG2 := pb.g
  repeat k_extra "m"
  refine k_filter (W := []) a₂ hG2 pb.l1 pb.l2 hfr' hfe he hF2 hrf (by simp; lia) (fun D2 g₃ f₃ s₆ k₃ a₃ u₃ hD2 => ?_)
  rw [filt_enc hR.inj hX hY] at hD2
  have a₃ : At s g₃ L _ f₃ s₆ := a₃
  replace pb := pb.mono k₃
  replace hD1 := hD1.at fun o => k₃ D1 o
  have hks3 : ∀ b o, b ∉ fcs.map (·.1) → s.heap.get? b = some o → g₃.get? b = some o := fun b o hb q => k₃ _ _ (hks2 b o hb q)
  have hF3 := u₃.frames hF2
  have hu3 := u₂.trans u₃
  clear a₂ k₃ hks2 hG2
  have hG3 := pb.g
  repeat k_extra "m"
  have hUf : ∀ {S T : List (List UInt8)}, (∀ x ∈ T, x ∈ U) → ∀ x ∈ filterB S T, x ∈ U := fun h x hx => h x (List.mem_filter.mp hx).1
  refine k_filter (W := []) a₃ hG3 pb.l1 hD2 hfr' hfe he hF3 hrf (by simp; lia) (fun D3 g₄ f₄ s₇ k₄ a₄ u₄ hD3 => ?_)
  rw [filt_enc hR.inj hX (hUf hX)] at hD3
  have a₄ : At s g₄ L _ f₄ s₇ := a₄
  replace pb := pb.mono k₄
  replace hD1 := hD1.at fun o => k₄ D1 o
  have hks4 : ∀ b o, b ∉ fcs.map (·.1) → s.heap.get? b = some o → g₄.get? b = some o := fun b o hb q => k₄ _ _ (hks3 b o hb q)
  have hF4 := u₄.frames hF3
  have hu4 := hu3.trans u₄
  clear a₃ k₄ hks3 hG3 hD2 hF3 hF2 u₂ u₃ u₄ hu3
  repeat k_extra "m"
  refine ⟨by simp, fun T s₈ hk₇ hT hTo => ⟨T, _, rfl, hTo, rfl, fun s₉ hk₈ => ?_⟩⟩
  have a₅ := (a₄.kept hk₇).kept hk₈
  clear a₄ hk₇ hk₈ hT hTo
  refine ao_cons (ao_bind ?_)
  repeat k_extra "m"
  refine ao_cons (ao_bind ?_)
  repeat k_extra "m"
  refine ao_nil ?_
  rename_i s₁₀ a₆
  clear a₅
  repeat k_extra "m"
  refine x_if ?_
  repeat k_extra "m"
  have hrc : Room A' 14 160 := hr'.mono (by decide) (by decide)
  have hrq : Room A' 14 160 := hrc
  have hlRr1 : (filterB Y X).length < 1000 := Nat.lt_of_le_of_lt (List.length_filter_le _ _) nX
  refine read_comp (s₀ := s) (h₀ := g₄) (L := L) (filterB Y X) he ?cir1 hcr rfl hrc pb.g hR (hUf hX) (by lia) hdr ?_
  case cir1 => exact ⟨rfl, by decide, by decide, rfl, ko_none (by decide), lk_none (by simp), by decide⟩
  repeat k_extra "m"
  refine ⟨_, _, _, rfl, a₆, hD1.at fun o => a₆.fs.keep _ o, a₆.fs.keep _ _ pb.r, fun E1 usr1 s₁₁ ar10 hBr1 => ?_⟩
  obtain ⟨g₅, kr1, a₇, hE1⟩ := ar10.sink hBr1
  clear ar10 hBr1 a₆
  replace pb := pb.mono kr1
  replace hD1 := hD1.at fun o => kr1 D1 o
  replace hD3 := hD3.at fun o => kr1 D3 o
  have hks5 : ∀ b o, b ∉ fcs.map (·.1) → s.heap.get? b = some o → g₅.get? b = some o := fun b o hb q => kr1 _ _ (hks4 b o hb q)
  clear hks4 kr1
  refine row_comp (s₀ := s) (h₀ := g₅) (L := L) (names' := [(Str.ofString ".0", .local), (Str.ofString "row", .local), (Str.ofString "second", .cell)]) (cl := [(Str.ofString "second", cs)]) (fun y => !decide (y ∈ Y)) X he ?ciw1 ?clw1 (by simp) hr'.handled (by lia) ?_
  case ciw1 => exact ⟨rfl, by decide, by decide, rfl, ko_none (by decide), lk_none (by simp), by decide⟩
  case clw1 => exact clo_one rfl hcs2
  repeat k_extra "m"
  refine ⟨_, _, _, rfl, a₇, pb.la.at fun o => a₇.fs.keep _ o, ?tew1, fun E2 usw1 s₁₂ aw10 hBw1 => ?_⟩
  case tew1 =>
    intro C cenv ec hcc y t hb s₀ E₀ Q' hy a₁ k0 hq
    have ccs : cenv.cells.lookup (Str.ofString "second") = some cs := by rw [hcc]; rfl
    repeat k_extra "m"
    refine ld_cell ec a₁ (by k_extra "m:in") ccs (a₁.fs.keep _ _ (k0 _ _ pb.s)) hds' (by decide) ?_
    refine c_notinL (pb.ls.at fun o q => a₁.fs.keep _ _ (k0 _ _ q)) ?_
    repeat k_extra "m"
    exact hq _ a₁
  obtain ⟨g₆, kw1, a₈, hE2⟩ := aw10.sink hBw1
  clear aw10 hBw1 a₇
  replace pb := pb.mono kw1
  replace hD1 := hD1.at fun o => kw1 D1 o
  replace hD3 := hD3.at fun o => kw1 D3 o
  replace hE1 := hE1.at fun o => kw1 E1 o
  have hks6 : ∀ b o, b ∉ fcs.map (·.1) → s.heap.get? b = some o → g₆.get? b = some o := fun b o hb q => kw1 _ _ (hks5 b o hb q)
  clear hks5 kw1
  refine c_neL (d := 14) (u := 159) hrq (hE1.at fun o => a₈.fs.keep _ o) (hE2.at fun o => a₈.fs.keep _ o) ?_
  rw [fb1, beq_self_eq_true, Bool.not_true]
  repeat k_extra "m"
  show wpAny _ _ (allTrue .Or _ env) _ _ _
  repeat k_extra "m"
  have hlRr2 : (filterB (filterB Y X) X).length < 1000 := Nat.lt_of_le_of_lt (List.length_filter_le _ _) nX
  refine read_comp (s₀ := s) (h₀ := g₆) (L := L) (filterB (filterB Y X) X) he ?cir2 hcr rfl hrc pb.g hR (hUf hX) (by lia) hdr ?_
  case cir2 => exact ⟨rfl, by decide, by decide, rfl, ko_none (by decide), lk_none (by simp), by decide⟩
  repeat k_extra "m"
  refine ⟨_, _, _, rfl, a₈, hD3.at fun o => a₈.fs.keep _ o, a₈.fs.keep _ _ pb.r, fun E3 usr2 s₁₃ ar20 hBr2 => ?_⟩
  obtain ⟨g₇, kr2, a₉, hE3⟩ := ar20.sink hBr2
  clear ar20 hBr2 a₈
  replace pb := pb.mono kr2
  replace hD1 := hD1.at fun o => kr2 D1 o
  have hks7 : ∀ b o, b ∉ fcs.map (·.1) → s.heap.get? b = some o → g₇.get? b = some o := fun b o hb q => kr2 _ _ (hks6 b o hb q)
  clear hks6 kr2
  refine row_comp (s₀ := s) (h₀ := g₇) (L := L) (names' := [(Str.ofString ".0", .local), (Str.ofString "row", .local), (Str.ofString "second", .cell)]) (cl := [(Str.ofString "second", cs)]) (fun y => decide (y ∈ Y)) X he ?ciw2 ?clw2 (by simp) hr'.handled (by lia) ?_
  case ciw2 => exact ⟨rfl, by decide, by decide, rfl, ko_none (by decide), lk_none (by simp), by decide⟩
  case clw2 => exact clo_one rfl hcs2
  repeat k_extra "m"
  refine ⟨_, _, _, rfl, a₉, pb.la.at fun o => a₉.fs.keep _ o, ?tew2, fun E4 usw2 s₁₄ aw20 hBw2 => ?_⟩
  case tew2 =>
    intro C cenv ec hcc y t hb s₀ E₀ Q' hy a₁ k0 hq
    have ccs : cenv.cells.lookup (Str.ofString "second") = some cs := by rw [hcc]; rfl
    repeat k_extra "m"
    refine ld_cell ec a₁ (by k_extra "m:in") ccs (a₁.fs.keep _ _ (k0 _ _ pb.s)) hds' (by decide) ?_
    refine c_inL (pb.ls.at fun o q => a₁.fs.keep _ _ (k0 _ _ q)) ?_
    repeat k_extra "m"
    exact hq _ a₁
  obtain ⟨g₈, kw2, a₁₀, hE4⟩ := aw20.sink hBw2
  clear aw20 hBw2 a₉
  replace pb := pb.mono kw2
  replace hD1 := hD1.at fun o => kw2 D1 o
  replace hE3 := hE3.at fun o => kw2 E3 o
  have hks8 : ∀ b o, b ∉ fcs.map (·.1) → s.heap.get? b = some o → g₈.get? b = some o := fun b o hb q => kw2 _ _ (hks7 b o hb q)
  clear hks7 kw2
  refine c_neL (d := 14) (u := 159) hrq (hE3.at fun o => a₁₀.fs.keep _ o) (hE4.at fun o => a₁₀.fs.keep _ o) ?_
  rw [fb2, beq_self_eq_true, Bool.not_true]
  repeat k_extra "m"
  refine o_ff rfl ?_
  refine x_or0 ?_
  refine w_ff rfl ?_
  have hG_8 := pb.g
  repeat k_extra "m"
  refine x_list ?_
  repeat k_extra "m"
  repeat k_extra "m"
  refine k_filter (W := []) a₁₀ pb.g hD1 pb.l3 hfr' hfe he hF4 hrf (by first | (simp; lia) | (simp only [List.length_map]; exact Nat.lt_of_le_of_lt (List.length_filter_le _ _) (by lia))) (fun D4 g₉ f₅ s₁₅ kq4 a₁₁ u₅ hD4 => ?_)
  rw [filt_enc hR.inj (hUf hX) hZ] at hD4
  replace a₁₁ : At s g₉ L _ f₅ s₁₅ := a₁₁
  replace pb := pb.mono kq4
  have hks9 : ∀ b o, b ∉ fcs.map (·.1) → s.heap.get? b = some o → g₉.get? b = some o := fun b o hb q => kq4 _ _ (hks8 b o hb q)
  have hG_hks9 := pb.g
  have hF5 := u₅.frames hF4
  have hu5 := hu4.trans u₅
  clear a₁₀ hks8 kq4 hF4 hu4 u₅
  repeat k_extra "m"
  refine k_filter (W := []) a₁₁ pb.g pb.l1 pb.l3 hfr' hfe he hF5 hrf (by first | (simp; lia) | (simp only [List.length_map]; exact Nat.lt_of_le_of_lt (List.length_filter_le _ _) (by lia))) (fun D5 g₁₀ f₆ s₁₆ kq5 a₁₂ u₆ hD5 => ?_)
  rw [filt_enc hR.inj hX hZ] at hD5
  replace a₁₂ : At s g₁₀ L _ f₆ s₁₆ := a₁₂
  replace pb := pb.mono kq5
  replace hD4 := hD4.at fun o => kq5 D4 o
  have hks10 : ∀ b o, b ∉ fcs.map (·.1) → s.heap.get? b = some o → g₁₀.get? b = some o := fun b o hb q => kq5 _ _ (hks9 b o hb q)
  have hG_hks10 := pb.g
  have hF6 := u₆.frames hF5
  have hu6 := hu5.trans u₆
  clear a₁₁ hks9 kq5 hF5 hu5 u₆
  repeat k_extra "m"
  refine k_filter (W := []) a₁₂ pb.g hD5 pb.l2 hfr' hfe he hF6 hrf (by first | (simp; lia) | (simp only [List.length_map]; exact Nat.lt_of_le_of_lt (List.length_filter_le _ _) (by lia))) (fun D6 g₁₁ f₇ s₁₇ kq6 a₁₃ u₇ hD6 => ?_)
  rw [filt_enc hR.inj (hUf hX) hY] at hD6
  replace a₁₃ : At s g₁₁ L _ f₇ s₁₇ := a₁₃
  replace pb := pb.mono kq6
  replace hD4 := hD4.at fun o => kq6 D4 o
  have hks11 : ∀ b o, b ∉ fcs.map (·.1) → s.heap.get? b = some o → g₁₁.get? b = some o := fun b o hb q => kq6 _ _ (hks10 b o hb q)
  have hG_hks11 := pb.g
  have hF7 := u₇.frames hF6
  have hu7 := hu6.trans u₇
  clear a₁₂ hks10 kq6 hF6 hu6 u₇
  repeat k_extra "m"
  have hYZ : ∀ x ∈ Y ++ Z, x ∈ U := fun x hx => (List.mem_append.mp hx).elim (hY x) (hZ x)
  obtain ⟨v2, hv2, hB2⟩ := pb.l2
  obtain ⟨v3, hv3, hB3⟩ := pb.l3
  refine k_addL (hv2.at fun o => a₁₃.fs.keep _ o).isList (hv3.at fun o => a₁₃.fs.keep _ o).isList (by rw [hB2.length, hB3.length]; simp; lia) (fun D7 s₁₈ hk18 hD7n hD7 => ?_)
  have f7 := a₁₃.fresh hD7n
  have a₁₄ := a₁₃.kept hk18
  obtain ⟨g₁₂, kq7, a₁₅, hpl7⟩ := a₁₄.sinkL f7 hD7
  have hD7' : ListB g₁₂ D7 ((Y ++ Z).map enc) := ⟨_, hpl7, by rw [List.map_append]; exact hB2.app hB3⟩
  replace pb := pb.mono kq7
  replace hD4 := hD4.at fun o => kq7 D4 o
  replace hD6 := hD6.at fun o => kq7 D6 o
  have hks12 : ∀ b o, b ∉ fcs.map (·.1) → s.heap.get? b = some o → g₁₂.get? b = some o := fun b o hb q => kq7 _ _ (hks11 b o hb q)
  have hG_hks12 := pb.g
  clear a₁₃ a₁₄ hks11 kq7 hpl7 hv2 hv3 hB2 hB3 hk18
  repeat k_extra "m"
  refine k_filter (W := []) a₁₅ pb.g pb.l1 hD7' hfr' hfe he hF7 hrf (by simp; lia) (fun D8 g₁₃ f₈ s₁₉ kq8 a₁₆ u₈ hD8 => ?_)
  rw [filt_enc hR.inj hX hYZ] at hD8
  replace a₁₆ : At s g₁₃ L _ f₈ s₁₉ := a₁₆
  replace pb := pb.mono kq8
  replace hD4 := hD4.at fun o => kq8 D4 o
  replace hD6 := hD6.at fun o => kq8 D6 o
  have hks13 : ∀ b o, b ∉ fcs.map (·.1) → s.heap.get? b = some o → g₁₃.get? b = some o := fun b o hb q => kq8 _ _ (hks12 b o hb q)
  have hG_hks13 := pb.g
  have hF8 := u₈.frames hF7
  have hu8 := hu7.trans u₈
  clear a₁₅ hks12 kq8 hF7 hu7 u₈ hD7'
  rw [fb3] at hD4
  rw [fb4] at hD6
  rw [fb5] at hD8
  have hXXU : ∀ x ∈ X.filter (fun y => !decide (y ∈ Y) && !decide (y ∈ Z)), x ∈ U := fun x hx => hX x (List.mem_filter.mp hx).1
  have hXXn : (X.filter (fun y => !decide (y ∈ Y) && !decide (y ∈ Z))).length < 1000 := Nat.lt_of_le_of_lt (List.length_filter_le _ _) nX
  generalize hXX : X.filter (fun y => !decide (y ∈ Y) && !decide (y ∈ Z)) = XX at hD4 hD6 hD8 hXXU hXXn
  repeat k_extra "m"
  refine ⟨by simp, fun N s₂₀ hk20 hNn hN => ?_⟩
  have fN := a₁₆.fresh hNn
  have a₁₇ := a₁₆.kept hk20
  obtain ⟨g₁₄, kq9, a₁₈, hplN⟩ := a₁₇.sinkL fN hN
  replace pb := pb.mono kq9
  replace hD4 := hD4.at fun o => kq9 D4 o
  replace hD6 := hD6.at fun o => kq9 D6 o
  replace hD8 := hD8.at fun o => kq9 D8 o
  have hks14 : ∀ b o, b ∉ fcs.map (·.1) → s.heap.get? b = some o → g₁₄.get? b = some o := fun b o hb q => kq9 _ _ (hks13 b o hb q)
  have hG_hks14 := pb.g
  clear a₁₆ a₁₇ hks13 kq9 hk20 hN hNn fN
  have hNL : ListLB g₁₄ N [XX.map enc, XX.map enc, XX.map enc] := ListLB.three hplN.isList hD4 hD6 hD8
  clear hD4 hD6 hD8 hplN
  repeat k_extra "m"
  rename_i s₂₁ a₁₉
  clear a₁₈
  refine x_if ?_
  repeat k_extra "m"
  refine nest_comp (s₀ := s) (h₀ := g₁₄) (L := L) (cl := [(Str.ofString "read", cr)]) (names' := [(Str.ofString ".0", .local), (Str.ofString "texts", .local), (Str.ofString "read", .cell)]) (fun _ => XX) [XX.map enc, XX.map enc, XX.map enc] he ?cin ?cln (by simp) hr'.handled ?_
  case cin => exact ⟨rfl, by decide, by decide, rfl, ko_none (by decide), lk_none (by simp), by decide⟩
  case cln => exact clo_one rfl hcr
  repeat k_extra "m"
  refine ⟨_, _, _, rfl, a₁₉, hNL.at fun b o => a₁₉.fs.keep _ _, (by show 3 < _; decide), ?ten, fun M g₁₅ s₂₂ kq10 a₂₀ hM => ?_⟩
  case ten =>
    intro C cenv ec hcf hcc r ys hb N' s₀ E₀ Q' hy hl a₁ k0 k1 hq
    have hye : ys = XX.map enc := by simpa using hy
    subst hye
    have ccx : cenv.cells.lookup (Str.ofString "read") = some cr := by rw [hcc]; rfl
    refine read_comp (s₀ := s) (h₀ := hb) (L := C) XX ec ?cir ccx rfl hrc (pb.g.keeps k0) hR hXXU (by lia) hdr ?_
    case cir => exact ⟨rfl, by decide, by decide, rfl, ko_none (by decide), lk_none (by simp), by decide⟩
    repeat k_extra "m"
    exact ⟨_, _, _, rfl, a₁, hl.at fun o => a₁.fs.keep _ o, a₁.fs.keep _ _ (k0 _ _ pb.r), fun D us s' a hB => hq D us s' a hB⟩
  replace pb := pb.mono kq10
  have hks15 : ∀ b o, b ∉ fcs.map (·.1) → s.heap.get? b = some o → g₁₅.get? b = some o := fun b o hb q => kq10 _ _ (hks14 b o hb q)
  have hG_hks15 := pb.g
  clear a₁₉ hks14 kq10 hNL
  replace hM : ListLB g₁₅ M [XX, XX, XX] := hM
  repeat k_extra "m"
  refine x_list ?_
  repeat k_extra "m"
  refine row_comp (s₀ := s) (h₀ := g₁₅) (L := L) (names' := [(Str.ofString ".0", .local), (Str.ofString "row", .local), (Str.ofString "second", .cell), (Str.ofString "third", .cell)]) (cl := [(Str.ofString "third", ct), (Str.ofString "second", cs)]) (fun y => !decide (y ∈ Y) && !decide (y ∈ Z)) X he ?ciw3 ?clw3 (by simp) hr'.handled (by lia) ?_
  case ciw3 => exact ⟨rfl, by decide, by decide, rfl, ko_none (by decide), lk_none (by simp), by decide⟩
  case clw3 => first | exact clo_one rfl hcs2 | exact clo_two rfl hcs2 hct
  repeat k_extra "m"
  refine ⟨_, _, _, rfl, a₂₀, pb.la.at fun o => a₂₀.fs.keep _ o, ?tew3, fun E5 usw3 s₂₃ aw30 hBw3 => ?_⟩
  case tew3 =>
    intro C cenv ec hcc y t hb s₀ E₀ Q' hy a₁ k0 hq
    have ccs : cenv.cells.lookup (Str.ofString "second") = some cs := by rw [hcc]; rfl
    have cct : cenv.cells.lookup (Str.ofString "third") = some ct := by rw [hcc]; rfl
    repeat k_extra "m"
    refine ld_cell ec a₁ (by k_extra "m:in") ccs (a₁.fs.keep _ _ (k0 _ _ pb.s)) hds' (by decide) ?_
    refine c_notinL (pb.ls.at fun o q => a₁.fs.keep _ _ (k0 _ _ q)) ?_
    repeat k_extra "m"
    refine a_split (fun hy1 => ?_) (fun hy1 => ?_)
    · repeat k_extra "m"
      refine ld_cell ec a₁ (by k_extra "m:in") cct (a₁.fs.keep _ _ (k0 _ _ pb.t)) hdt' (by decide) ?_
      refine c_notinL (pb.lt.at fun o q => a₁.fs.keep _ _ (k0 _ _ q)) ?_
      repeat k_extra "m"
      have hq := hq _ a₁
      refine a_split (fun hy2 => x_and0 ?_) (fun hy2 => ?_)
      · simpa only [hy1, hy2, Bool.true_and] using hq
      · simpa only [hy1, hy2, Bool.true_and] using hq
    · have hq := hq _ a₁
      simpa only [hy1, Bool.false_and] using hq
  obtain ⟨g₁₆, kw3, a₂₁, hE5⟩ := aw30.sink hBw3
  clear aw30 hBw3 a₂₀
  replace pb := pb.mono kw3
  have hks16 : ∀ b o, b ∉ fcs.map (·.1) → s.heap.get? b = some o → g₁₆.get? b = some o := fun b o hb q => kw3 _ _ (hks15 b o hb q)
  have hG_hks16 := pb.g
  clear hks15
  replace hM := hM.at fun b o => kw3 b o
  rw [hXX] at hE5
  repeat k_extra "m"
  refine ⟨by simp, fun E6 s₂₄ hk24 hn6 hpl6 => ?_⟩
  have f6 := a₂₁.fresh hn6
  have a₂₂ := a₂₁.kept hk24
  obtain ⟨g₁₇, kq11, a₂₃, hpl6'⟩ := a₂₂.sinkL f6 hpl6
  replace pb := pb.mono kq11
  replace hE5 := hE5.at fun o => kq11 E5 o
  have hks17 : ∀ b o, b ∉ fcs.map (·.1) → s.heap.get? b = some o → g₁₇.get? b = some o := fun b o hb q => kq11 _ _ (hks16 b o hb q)
  have hG_hks17 := pb.g
  replace hM := hM.at fun b o => kq11 b o
  clear a₂₁ a₂₂ hks16 kq11 hk24 hpl6 hn6 f6
  repeat k_extra "m"
  rename_i a₂₄
  clear a₂₃
  refine k_mul3 (hpl6'.at fun o => a₂₄.fs.keep _ o) rfl (fun E7 s₂₅ hk25 hn7 hpl7 => ?_)
  have f7 := a₂₄.fresh hn7
  have a₂₅ := a₂₄.kept hk25
  obtain ⟨g₁₈, kq12, a₂₆, hpl7'⟩ := a₂₅.sinkL f7 hpl7
  replace pb := pb.mono kq12
  replace hE5 := hE5.at fun o => kq12 E5 o
  have hks18 : ∀ b o, b ∉ fcs.map (·.1) → s.heap.get? b = some o → g₁₈.get? b = some o := fun b o hb q => kq12 _ _ (hks17 b o hb q)
  have hG_hks18 := pb.g
  replace hM := hM.at fun b o => kq12 b o
  clear a₂₄ a₂₅ hks17 kq12 hk25 hpl7 hn7 f7 hpl6'
  have hML : ListLB g₁₈ E7 [XX, XX, XX] := ListLB.three hpl7'.isList hE5 hE5 hE5
  refine c_neLL (d := 14) (u := 158) hrq (hM.at fun b o => a₂₆.fs.keep _ _) (hML.at fun b o => a₂₆.fs.keep _ _) ?_
  rw [beq_self_eq_true, Bool.not_true]
  clear hM hML hE5
  repeat k_extra "m"
  refine w_ff rfl ?_
  repeat k_extra "m"
  have hlR9 : (filterB (filterB Z Y) X).length < 1000 := Nat.lt_of_le_of_lt (List.length_filter_le _ _) nX
  refine read_comp (s₀ := s) (h₀ := g₁₈) (L := L) (filterB (filterB Z Y) X) he ?ci9 hcr rfl hrc pb.g hR (hUf hX) (by lia) hdr ?_
  case ci9 => exact ⟨rfl, by decide, by decide, rfl, ko_none (by decide), lk_none (by simp), by decide⟩
  repeat k_extra "m"
  refine k_filter (W := []) a₂₆ pb.g pb.l2 pb.l3 hfr' hfe he hF8 hrf (by simp; lia) (fun D9 g₁₉ f₉ s₂₆ kq13 a₂₇ u₉ hD9 => ?_)
  rw [filt_enc hR.inj hY hZ] at hD9
  replace a₂₇ : At s g₁₉ L _ f₉ s₂₆ := a₂₇
  have pb2 := pb.mono kq13
  have hG9 := pb2.g
  have hF9 := u₉.frames hF8
  have hu9 := hu8.trans u₉
  clear a₂₆
  repeat k_extra "m"
  refine k_filter (W := []) a₂₇ pb2.g pb2.l1 hD9 hfr' hfe he hF9 hrf (by simp; lia) (fun D10 g₂₀ f₁₀ s₂₇ kq14 a₂₈ u₁₀ hD10 => ?_)
  rw [filt_enc hR.inj hX (hUf hY)] at hD10
  replace a₂₈ : At s g₂₀ L _ f₁₀ s₂₇ := a₂₈
  have hu10 := hu9.trans u₁₀
  clear a₂₇
  repeat k_extra "m"
  have a₂₉ := a₂₈.shrink (fun b o q => kq14 _ _ (kq13 b o q))
  refine ⟨_, _, _, rfl, a₂₉, hD10.at fun o => a₂₈.fs.keep _ o, a₂₉.fs.keep _ _ pb.r, fun E8 us8 s₂₈ a80 hB8 => ?_⟩
  obtain ⟨g₂₁, k15, a₃₀, hE8⟩ := a80.sink hB8
  clear a₂₈ a₂₉ a80 hB8 hD10 hD9 pb2 hG9 kq13 kq14
  replace pb := pb.mono k15
  have hks19 : ∀ b o, b ∉ fcs.map (·.1) → s.heap.get? b = some o → g₂₁.get? b = some o := fun b o hb q => k15 _ _ (hks18 b o hb q)
  have hG_hks19 := pb.g
  refine row_comp (s₀ := s) (h₀ := g₂₁) (L := L) (names' := [(Str.ofString ".0", .local), (Str.ofString "row", .local), (Str.ofString "second", .cell), (Str.ofString "third", .cell)]) (cl := [(Str.ofString "third", ct), (Str.ofString "second", cs)]) (fun y => !decide (y ∈ Y) || decide (y ∈ Z)) X he ?ciw4 ?clw4 (by simp) hr'.handled (by lia) ?_
  case ciw4 => exact ⟨rfl, by decide, by decide, rfl, ko_none (by decide), lk_none (by simp), by decide⟩
  case clw4 => first | exact clo_one rfl hcs2 | exact clo_two rfl hcs2 hct
  repeat k_extra "m"
  refine ⟨_, _, _, rfl, a₃₀, pb.la.at fun o => a₃₀.fs.keep _ o, ?tew4, fun E9 usw4 s₂₉ aw40 hBw4 => ?_⟩
  case tew4 =>
    intro C cenv ec hcc y t hb s₀ E₀ Q' hy a₁ k0 hq
    have ccs : cenv.cells.lookup (Str.ofString "second") = some cs := by rw [hcc]; rfl
    have cct : cenv.cells.lookup (Str.ofString "third") = some ct := by rw [hcc]; rfl
    repeat k_extra "m"
    refine ld_cell ec a₁ (by k_extra "m:in") ccs (a₁.fs.keep _ _ (k0 _ _ pb.s)) hds' (by decide) ?_
    refine c_notinL (pb.ls.at fun o q => a₁.fs.keep _ _ (k0 _ _ q)) ?_
    repeat k_extra "m"
    have hq := hq _ a₁
    cases hy1 : (!decide (y ∈ Y)) with
    | true =>
      refine o_tt rfl ?_
      simpa only [hy1, Bool.true_or] using hq
    | false =>
      refine o_ff rfl ?_
      repeat k_extra "m"
      refine ld_cell ec a₁ (by k_extra "m:in") cct (a₁.fs.keep _ _ (k0 _ _ pb.t)) hdt' (by decide) ?_
      refine c_inL (pb.lt.at fun o q => a₁.fs.keep _ _ (k0 _ _ q)) ?_
      repeat k_extra "m"
      cases hy2 : decide (y ∈ Z) with
      | true => refine o_tt rfl ?_; simpa only [hy1, hy2, Bool.false_or] using hq
      | false => refine o_ff rfl (x_or0 ?_); simpa only [hy1, hy2, Bool.false_or] using hq
  obtain ⟨g₂₂, kw4, a₃₁, hE9⟩ := aw40.sink hBw4
  clear aw40 hBw4 a₃₀
  replace pb := pb.mono kw4
  replace hE8 := hE8.at fun o => kw4 E8 o
  have hks20 : ∀ b o, b ∉ fcs.map (·.1) → s.heap.get? b = some o → g₂₂.get? b = some o := fun b o hb q => kw4 _ _ (hks19 b o hb q)
  have hG_hks20 := pb.g
  clear hks19 kw4
  refine c_eqL (d := 14) (u := 159) hrq (hE8.at fun o => a₃₁.fs.keep _ o) (hE9.at fun o => a₃₁.fs.keep _ o) ?_
  rw [fb6, beq_self_eq_true]
  exact hQ _ (Rel.of a₃₁ hu10 hF.1 hks20)
end

section
variable (lt : Value → Value → Bool)
noncomputable def vD (xs : List Value) (i : Nat) : Value := xs.getD i .none
theorem vD_set {xs : List Value} {q i : Nat} {x : Value} (hq : q < xs.length) : vD (xs.set q x) i = if i = q then x else vD xs i := by
  unfold vD
  rw [List.getD_eq_getElem?_getD, List.getD_eq_getElem?_getD, List.getElem?_set]
  by_cases h : q = i
  · subst h; simp [hq]
  · have : ¬ i = q := fun e => h e.symm
    simp [h, this]
theorem vD_get {xs : List Value} {i : Nat} {x : Value} (h : xs[i]? = some x) : vD xs i = x := by
  unfold vD; rw [List.getD_eq_getElem?_getD, h]; rfl
theorem get_vD {xs : List Value} {i : Nat} (h : i < xs.length) : xs[i]? = some (vD xs i) := by
  unfold vD; rw [List.getD_eq_getElem?_getD, List.getElem?_eq_getElem h]; rfl

/-- parents from k on stand below their children -/
noncomputable def HeapFrom (k : Nat) (xs : List Value) : Prop := ∀ j, 1 ≤ j → j < xs.length → k ≤ (j - 1) / 2 → lt (vD xs j) (vD xs ((j - 1) / 2)) = false
/-- all but for the hole at q -/
structure Hole (sp q : Nat) (ys : List Value) : Prop where
  hq : q < ys.length
  a : ∀ j, 1 ≤ j → j < ys.length → sp ≤ (j - 1) / 2 → j ≠ q → (j - 1) / 2 ≠ q → lt (vD ys j) (vD ys ((j - 1) / 2)) = false
  b : q ≠ sp → ∀ j, 1 ≤ j → j < ys.length → (j - 1) / 2 = q → lt (vD ys j) (vD ys ((q - 1) / 2)) = false
inductive Desc (sp : Nat) : Nat → Prop
  | refl : Desc sp sp
  | step {q : Nat} : sp < q → Desc sp ((q - 1) / 2) → Desc sp q
theorem Desc.le {sp q : Nat} (d : Desc sp q) : sp ≤ q := by cases d <;> lia

structure Order : Prop where
  trans : ∀ a b c, lt b a = false → lt c b = false → lt c a = false
  asymm : ∀ a b, lt a b = true → lt b a = false

variable {lt}
theorem sdGo_heap (o : Order lt) {sp : Nat} {nw : Value} : ∀ (f q : Nat) (ys : List Value), q ≤ f → Hole lt sp q ys → Desc sp q → (∀ j, 1 ≤ j → j < ys.length → (j - 1) / 2 = q → lt (vD ys j) nw = false) → HeapFrom lt sp (sdGo lt sp nw f q ys)
  | f, q, ys, hf, h, d, c => by
    have stop : (sp < q → lt nw (vD ys ((q - 1) / 2)) = false) → HeapFrom lt sp (ys.set q nw) := by
      intro hs j h1 h2 h3
      rw [List.length_set] at h2
      rw [vD_set h.hq, vD_set h.hq]
      by_cases e1 : j = q
      · subst e1
        rw [if_pos rfl, if_neg (by lia)]
        exact hs (by lia)
      · rw [if_neg e1]
        by_cases e2 : (j - 1) / 2 = q
        · rw [if_pos e2]; exact c j h1 h2 e2
        · rw [if_neg e2]; exact h.a j h1 h2 h3 e1 e2
    cases f with
    | zero =>
      unfold sdGo
      exact stop fun hlt => by lia
    | succ f =>
      unfold sdGo
      by_cases hlt : sp < q
      · rw [if_pos hlt]
        have hq := h.hq
        have hp : (q - 1) / 2 < ys.length := by lia
        rw [get_vD hp]
        dsimp only
        have dp : Desc sp ((q - 1) / 2) := by
          cases d with
          | refl => lia
          | step _ d => exact d
        have hpsp := dp.le
        cases hnw : lt nw (vD ys ((q - 1) / 2)) with
        | false =>
          rw [if_neg (by simp)]
          exact stop fun _ => hnw
        | true =>
          rw [if_pos rfl]
          have hle := o.asymm _ _ hnw
          refine sdGo_heap o f ((q - 1) / 2) _ (by lia) ⟨by rw [List.length_set]; exact hp, fun j h1 h2 h3 h4 h5 => ?_, fun hne j h1 h2 h3 => ?_⟩ dp (fun j h1 h2 h3 => ?_)
          · rw [List.length_set] at h2
            rw [vD_set hq, vD_set hq]
            have e1 : j ≠ q := fun e => h5 (by rw [e])
            rw [if_neg e1]
            by_cases e2 : (j - 1) / 2 = q
            · rw [if_pos e2]; exact h.b (by lia) j h1 h2 e2
            · rw [if_neg e2]; exact h.a j h1 h2 h3 e1 e2
          · rw [List.length_set] at h2
            rw [vD_set hq, vD_set hq]
            have e3 : ((q - 1) / 2 - 1) / 2 ≠ q := by lia
            rw [if_neg e3]
            have hsp2 : sp < (q - 1) / 2 := by lia
            have hsp3 : sp ≤ ((q - 1) / 2 - 1) / 2 := by
              cases dp with
              | refl => lia
              | step _ d => exact d.le
            have hup := h.a ((q - 1) / 2) (by lia) hp hsp3 (by lia) e3
            by_cases e1 : j = q
            · rw [if_pos e1]; exact hup
            · rw [if_neg e1]
              have := h.a j h1 h2 (by lia) e1 (by lia)
              rw [h3] at this
              exact o.trans _ _ _ hup this
          · rw [List.length_set] at h2
            rw [vD_set hq]
            by_cases e1 : j = q
            · rw [if_pos e1]; exact hle
            · rw [if_neg e1]
              have := h.a j h1 h2 (by lia) e1 (by lia)
              rw [h3] at this
              exact o.trans _ _ _ hle this
      · rw [if_neg hlt]
        exact stop fun h' => absurd h' hlt

theorem childOf_min (o : Order lt) {xs : List Value} {c : Nat} (hc : c < xs.length) : ∀ j, j = c ∨ j = c + 1 → j < xs.length → lt (vD xs j) (vD xs (childOf lt xs c)) = false := by
  have refl : ∀ a, lt a a = false := fun a => by
    cases h : lt a a with
    | false => rfl
    | true => have := o.asymm _ _ h; rw [h] at this; exact this
  intro j hj hl
  unfold childOf
  by_cases h2 : c + 1 < xs.length
  · rw [get_vD hc, get_vD h2]
    dsimp only
    cases hlt : lt (vD xs c) (vD xs (c + 1)) with
    | true =>
      simp only [if_true]
      rcases hj with rfl | rfl
      · exact refl _
      · exact o.asymm _ _ hlt
    | false =>
      simp only [Bool.false_eq_true, if_false]
      rcases hj with rfl | rfl
      · exact hlt
      · exact refl _
  · have : xs[c + 1]? = none := List.getElem?_eq_none (by lia)
    rw [get_vD hc, this]
    dsimp only
    rcases hj with rfl | rfl
    · exact refl _
    · lia

theorem suGo_hole (o : Order lt) {sp : Nat} : ∀ (f q : Nat) (ys : List Value), ys.length ≤ q + f → Hole lt sp q ys → Desc sp q →
    Hole lt sp (suGo lt f q ys).2 (suGo lt f q ys).1 ∧ Desc sp (suGo lt f q ys).2 ∧ (suGo lt f q ys).1.length ≤ 2 * (suGo lt f q ys).2 + 1
  | 0, q, ys, hf, h, d => by have := h.hq; lia
  | f + 1, q, ys, hf, h, d => by
    have hq := h.hq
    unfold suGo
    by_cases hc : 2 * q + 1 < ys.length
    · rw [if_pos hc]
      have hcl := childOf_lt lt ys (2 * q + 1) hc
      have hcg := childOf_gt lt ys (2 * q + 1)
      have hmin := childOf_min o hc
      rw [get_vD hcl]
      dsimp only
      generalize childOf lt ys (2 * q + 1) = c at hcl hcg hmin ⊢
      have hcp : (c - 1) / 2 = q := by lia
      refine suGo_hole o f c _ (by rw [List.length_set]; lia) ⟨by rw [List.length_set]; exact hcl, fun j h1 h2 h3 h4 h5 => ?_, fun hne j h1 h2 h3 => ?_⟩ (.step (by have := d.le; lia) (by rw [hcp]; exact d))
      · rw [List.length_set] at h2
        rw [vD_set hq, vD_set hq]
        by_cases e1 : j = q
        · subst e1
          rw [if_pos rfl, if_neg (by lia)]
          exact h.b (by lia) c (by lia) hcl hcp
        · rw [if_neg e1]
          by_cases e2 : (j - 1) / 2 = q
          · rw [if_pos e2]
            exact hmin j (by lia) h2
          · rw [if_neg e2]; exact h.a j h1 h2 h3 e1 e2
      · rw [List.length_set] at h2
        rw [vD_set hq, vD_set hq, hcp, if_pos rfl, if_neg (by lia)]
        have := h.a j h1 h2 (by have := d.le; lia) (by lia) (by lia)
        rwa [h3] at this
    · rw [if_neg hc]
      exact ⟨h, d, by show ys.length ≤ 2 * q + 1; lia⟩

theorem siftup_heap (o : Order lt) {xs : List Value} {p : Nat} (hp : p < xs.length) (h : HeapFrom lt (p + 1) xs) : HeapFrom lt p (siftupP lt xs p) := by
  unfold siftupP
  rw [get_vD hp]
  dsimp only
  obtain ⟨h1, h2, h3⟩ := suGo_hole o (sp := p) xs.length p xs (by lia) ⟨hp, fun j a b c d e => h j a b (by lia), fun hne => absurd rfl hne⟩ .refl
  generalize (suGo lt xs.length p xs).2 = q at h1 h2 h3 ⊢
  generalize (suGo lt xs.length p xs).1 = ys at h1 h3 ⊢
  unfold siftdownP
  have hq := h1.hq
  have hg : (ys.set q (vD xs p))[q]? = some (vD xs p) := by rw [List.getElem?_set_self hq]
  rw [hg]
  dsimp only
  refine sdGo_heap o q q _ (Nat.le_refl _) ⟨by rw [List.length_set]; exact hq, fun j a b c d e => ?_, fun hne j a b c => ?_⟩ h2 (fun j a b c => ?_)
  · rw [List.length_set] at b
    rw [vD_set hq, vD_set hq, if_neg d, if_neg e]
    exact h1.a j a b c d e
  · rw [List.length_set] at b; lia
  · rw [List.length_set] at b; lia

theorem heapify_heap (o : Order lt) : ∀ (k : Nat) (xs : List Value), k ≤ xs.length → HeapFrom lt k xs → HeapFrom lt 0 (heapifyGo lt k xs)
  | 0, xs, _, h => h
  | k + 1, xs, hk, h => heapify_heap o k _ (by rw [(siftupP_perm lt xs k).length_eq]; lia) (siftup_heap o (by lia) h)
theorem heapifyP_heap (o : Order lt) (xs : List Value) : HeapFrom lt 0 (heapifyP lt xs) :=
  heapify_heap o _ xs (by lia) fun j a b c => by lia
theorem heap_min (o : Order lt) {xs : List Value} (h : HeapFrom lt 0 xs) : ∀ j, j < xs.length → lt (vD xs j) (vD xs 0) = false := by
  intro j
  induction j using Nat.strongRecOn with
  | ind j ih =>
    intro hj
    by_cases h0 : j = 0
    · subst h0
      cases hl : lt (vD xs 0) (vD xs 0) with
      | false => rfl
      | true => have := o.asymm _ _ hl; rw [hl] at this; exact this
    · exact o.trans _ _ _ (ih ((j - 1) / 2) (by lia) (by lia)) (h j (by lia) hj (by lia))
theorem heap_head (o : Order lt) {x : Value} {xs : List Value} (h : HeapFrom lt 0 (x :: xs)) : ∀ v ∈ xs, lt v x = false := by
  intro v hv
  obtain ⟨i, hi⟩ := List.getElem?_of_mem hv
  have hi' := (List.getElem?_eq_some_iff.mp hi).1
  have := heap_min o h (i + 1) (by simp; lia)
  rwa [vD_get (show (x :: xs)[i + 1]? = some v by simpa using hi), show vD (x :: xs) 0 = x from rfl] at this
theorem replace_heap (o : Order lt) {x y : Value} {xs : List Value} (h : HeapFrom lt 0 (x :: xs)) : HeapFrom lt 0 (siftupP lt (y :: xs) 0) := by
  refine siftup_heap o (by simp) fun j a b c => ?_
  have := h j a (by simpa using b) (by lia)
  obtain ⟨j', rfl⟩ : ∃ j', j = j' + 1 := ⟨j - 1, by lia⟩
  obtain ⟨i, hi⟩ : ∃ i, (j' + 1 - 1) / 2 = i + 1 := ⟨(j' + 1 - 1) / 2 - 1, by lia⟩
  rw [hi] at this ⊢
  exact this
theorem pop_heap (o : Order lt) {last : Value} {xs : List Value} (h : HeapFrom lt 0 (xs ++ [last])) : HeapFrom lt 0 (popRest lt last xs) ∧ (popItem last xs :: popRest lt last xs).Perm (xs ++ [last]) ∧ ∀ v ∈ popRest lt last xs, lt v (popItem last xs) = false := by
  cases xs with
  | nil => exact ⟨fun j a b c => by simp [popRest] at b, List.Perm.refl _, fun v hv => nomatch hv⟩
  | cons x r =>
    have hp : (siftupP lt (last :: r) 0).Perm (last :: r) := siftupP_perm lt _ 0
    refine ⟨?_, ?_, fun v hv => ?_⟩
    · show HeapFrom lt 0 (siftupP lt (last :: r) 0)
      refine siftup_heap o (Nat.succ_pos _) fun j a b c => ?_
      have hb : j < (last :: r).length := b
      have := h j a (by have hb2 : j < r.length + 1 := hb; show j < (x :: (r ++ [last])).length; rw [List.length_cons, List.length_append]; lia) (by lia)
      obtain ⟨j', rfl⟩ : ∃ j', j = j' + 1 := ⟨j - 1, by lia⟩
      obtain ⟨i, hi⟩ : ∃ i, (j' + 1 - 1) / 2 = i + 1 := ⟨(j' + 1 - 1) / 2 - 1, by lia⟩
      rw [hi] at this ⊢
      have e : ∀ k, k < r.length → vD (x :: r ++ [last]) (k + 1) = vD (last :: r) (k + 1) := fun k hk => by
        unfold vD
        rw [List.getD_eq_getElem?_getD, List.getD_eq_getElem?_getD]
        show (((r ++ [last])[k]?).getD _) = ((r[k]?).getD _)
        rw [List.getElem?_append_left hk]
      simp at hb
      rw [e j' (by lia), e i (by lia)] at this
      exact this
    · show (x :: siftupP lt (last :: r) 0).Perm (x :: r ++ [last])
      rw [List.cons_append]
      refine List.Perm.cons x (hp.trans ?_)
      exact (List.perm_append_comm (l₁ := [last]) (l₂ := r))
    · have hv' : v ∈ r ++ [last] := by
        have := hp.mem_iff.mp hv
        rcases List.mem_cons.mp this with rfl | h'
        · simp
        · simp [h']
      exact heap_head o (x := x) (xs := r ++ [last]) h v hv'
end
theorem orderB : Order ltB where
  trans a b c h1 h2 := by
    have := leB_trans (a := keyB a) (b := keyB b) (c := keyB c) h1 h2
    exact this
  asymm a b h := oltB_asymm h

theorem pick_upto (vs : List Value) (k : Nat) : slicePick vs.toArray none (some (k : Int)) none = (vs.take k).toArray := by
  rw [kms_pick_eq]
  have h1 : kms_lo none vs.length = 0 := rfl
  have h2 : kms_hi (some (k : Int)) vs.length = min k vs.length := by unfold kms_hi; dsimp only; rw [if_neg (by lia)]; simp
  show (List.take (kms_hi (some (k : Int)) vs.length - kms_lo none vs.length) (List.drop (kms_lo none vs.length) vs)).toArray = _
  rw [h1, h2, List.drop_zero, Nat.sub_zero]
  congr 1
  by_cases h : k ≤ vs.length
  · rw [Nat.min_eq_left h]
  · rw [Nat.min_eq_right (by lia), List.take_length, List.take_of_length_le (by lia)]
theorem pick_last (vs : List Value) : slicePick vs.toArray (some (-1)) none none = (vs.drop (vs.length - 1)).toArray := by
  rw [kms_pick_eq]
  have h1 : kms_lo (some (-1)) vs.length = vs.length - 1 := rfl
  have h2 : kms_hi none vs.length = vs.length := rfl
  show (List.take (kms_hi none vs.length - kms_lo (some (-1)) vs.length) (List.drop (kms_lo (some (-1)) vs.length) vs)).toArray = _
  rw [h1, h2]
  congr 1
  exact List.take_of_length_le (by rw [List.length_drop]; exact Nat.le_refl _)
theorem pick_init (vs : List Value) : slicePick vs.toArray none (some (-1)) none = (vs.take (vs.length - 1)).toArray := by
  rw [kms_pick_eq]
  rfl
theorem intsAt {vs : List Value} {ns : List Int} (h : IntsAre vs ns) : ∀ {i : Nat} {v : Value}, vs[i]? = some v → ∃ n t, ns[i]? = some n ∧ v = .int n t := by
  induction h with
  | nil => intro i v e; simp at e
  | cons n t h ih =>
    intro i v e
    cases i with
    | zero => exact ⟨n, t, rfl, by simpa using e.symm⟩
    | succ i => exact ih (by simpa using e)

theorem BytesAre.take {vs : List Value} {ys : List (List UInt8)} (h : BytesAre vs ys) : ∀ k, BytesAre (vs.take k) (ys.take k) := by
  induction h with
  | nil => intro k; simp; exact .nil
  | cons y t h ih =>
    intro k
    cases k with
    | zero => exact .nil
    | succ k => exact .cons y t (ih k)
theorem BytesAre.drop {vs : List Value} {ys : List (List UInt8)} (h : BytesAre vs ys) : ∀ k, BytesAre (vs.drop k) (ys.drop k) := by
  induction h with
  | nil => intro k; simp; exact .nil
  | cons y t h ih =>
    intro k
    cases k with
    | zero => exact .cons y t h
    | succ k => exact ih k
theorem BytesAre.reverse {vs : List Value} {ys : List (List UInt8)} (h : BytesAre vs ys) : BytesAre vs.reverse ys.reverse := by
  induction h with
  | nil => exact .nil
  | cons y t h ih => rw [List.reverse_cons, List.reverse_cons]; exact ih.snoc y t


theorem octV_mem (x : Int) (k : Nat) : octV x k ∈ octs := by
  unfold octV
  have h1 := Int.fmod_nonneg_of_pos ((x.fdiv 9).fdiv ((4 : Int) ^ k)) (b := 4) (by decide)
  have h2 := Int.fmod_lt_of_pos ((x.fdiv 9).fdiv ((4 : Int) ^ k)) (b := 4) (by decide)
  have h3 : (((x.fdiv 9).fdiv ((4 : Int) ^ k)).fmod 4).toNat < 4 := by omega
  generalize (((x.fdiv 9).fdiv ((4 : Int) ^ k)).fmod 4).toNat = m at h3
  obtain rfl | rfl | rfl | rfl : m = 0 ∨ m = 1 ∨ m = 2 ∨ m = 3 := by omega
  all_goals decide
theorem octL_mem (x : Int) : octL x ∈ rowsAll := by
  have hn := octN_lt x
  have h0 := octV_mem x 0
  have h1 := octV_mem x 1
  have e : octL x = [] ∨ octL x = [octV x 0] ∨ octL x = [octV x 0, octV x 1] := by
    unfold octL
    generalize octN x = n at hn
    obtain rfl | rfl | rfl : n = 0 ∨ n = 1 ∨ n = 2 := by omega
    · exact .inl rfl
    · exact .inr (.inl rfl)
    · exact .inr (.inr rfl)
  generalize octV x 0 = a at h0 e
  generalize octV x 1 = b at h1 e
  have ha : a = 0 ∨ a = 62 ∨ a = 251 ∨ a = 255 := by simpa [octs] using h0
  have hb : b = 0 ∨ b = 62 ∨ b = 251 ∨ b = 255 := by simpa [octs] using h1
  rcases e with e | e | e <;> rw [e]
  · decide
  · rcases ha with rfl | rfl | rfl | rfl <;> decide
  · rcases ha with rfl | rfl | rfl | rfl <;> rcases hb with rfl | rfl | rfl | rfl <;> decide
noncomputable def rowOk2 (r : List UInt8) : Bool :=
  (lawB r).cps.toList.all (fun c => decide (c < 128)) && ((lawB r).cps.map fun c => c.toUInt8).toList == e64 r && decide ((lawB r).cps.size ≤ 64) &&
  (figS r).cps.toList.all (fun c => decide (c < 128)) && ((figS r).cps.map fun c => c.toUInt8).toList == e16 r && decide ((figS r).cps.size ≤ 64) && oltB (e16 r) [90] &&
  rowsAll.all fun b => oltB (e16 r) (e16 b) == oltB r b
theorem rows_ok2 : rowsAll.all rowOk2 = true := by decide +kernel
structure RowFacts (r : List UInt8) : Prop where
  len : r.length ≤ 2
  b1 : ∀ c ∈ (lawB r).cps.toList, c < 128
  b2 : (lawB r).cps.map (fun c => c.toUInt8) = (e64 r).toArray
  b3 : (lawB r).cps.size ≤ 4096
  f1 : ∀ c ∈ (figS r).cps.toList, c < 128
  f2 : (figS r).cps.map (fun c => c.toUInt8) = (e16 r).toArray
  f3 : (figS r).cps.size ≤ 4096
  z : oltB (e16 r) [90] = true
  ord : ∀ b ∈ rowsAll, oltB (e16 r) (e16 b) = oltB r b
theorem row_facts {r : List UInt8} (h : r ∈ rowsAll) : RowFacts r := by
  have h1 := List.all_eq_true.mp rows_ok r h
  have h2 := List.all_eq_true.mp rows_ok2 r h
  unfold rowOk at h1
  unfold rowOk2 at h2
  simp only [Bool.and_eq_true, decide_eq_true_eq, List.all_eq_true, beq_iff_eq] at h1 h2
  obtain ⟨⟨⟨⟨⟨⟨⟨b1, b2⟩, b3⟩, f1⟩, f2⟩, f3⟩, z⟩, o⟩ := h2
  exact ⟨h1.1.1.1.1.1.1.1.1.1, b1, by rw [← b2, Array.toArray_toList], by omega, f1, by rw [← f2, Array.toArray_toList], by omega, z, o⟩
theorem read64 (w : World) : ReadIs w 191 e64 d64 rowsAll where
  isF := ⟨_, _, by k_is, rfl⟩
  rd y hy := by
    have h1 := List.all_eq_true.mp rows_ok y hy
    unfold rowOk at h1
    simp only [Bool.and_eq_true, decide_eq_true_eq] at h1
    exact h1.1.1.1.1.2
  call A s E Q y t hy hG hr hQ := by
    have h1 := List.all_eq_true.mp rows_ok y hy
    unfold rowOk at h1
    simp only [Bool.and_eq_true, decide_eq_true_eq] at h1
    refine b64decode_spec hG (hr.mono (by decide) (by decide)) (by have := h1.1.1.1.1.1.1.1.1.2; omega) ⟨h1.1.1.1.1.1.1.2, h1.1.1.1.1.1.2⟩ (fun t' s' hk => ?_)
    have e : (byteArr ((decP (e64 y)).out.map fun n : Nat => (n : Int))) = y.toArray := by
      have := h1.1.1.1.1.2
      unfold d64 at this
      have := congrArg List.toArray this
      rwa [Array.toArray_toList] at this
    rw [e]
    exact hQ t' s' hk
theorem read16 (w : World) : ReadIs w 206 e16 d16 rowsAll where
  isF := ⟨_, _, by k_is, rfl⟩
  rd y hy := by
    have h1 := List.all_eq_true.mp rows_ok y hy
    unfold rowOk at h1
    simp only [Bool.and_eq_true, decide_eq_true_eq] at h1
    exact h1.2
  call A s E Q y t hy hG hr hQ := by
    have h1 := List.all_eq_true.mp rows_ok y hy
    unfold rowOk at h1
    simp only [Bool.and_eq_true, decide_eq_true_eq, List.all_eq_true] at h1
    refine b16decode_spec hG (hr.mono (by decide) (by decide)) (by have := h1.1.1.1.1.1.1.1.2; omega) h1.1.1.1.2 h1.1.1.2 h1.1.2 (fun t' s' hk => ?_)
    have e : (byteArr ((unhexP (e16 y)).map fun n : Nat => (n : Int))) = y.toArray := by
      have := h1.2
      unfold d16 at this
      have := congrArg List.toArray this
      rwa [Array.toArray_toList] at this
    rw [e]
    exact hQ t' s' hk

theorem ltB_cases (a b : List UInt8) : oltB a b = true ∨ a = b ∨ oltB b a = true := by
  cases h1 : oltB a b with
  | true => exact .inl rfl
  | false =>
    cases h2 : oltB b a with
    | true => exact .inr (.inr rfl)
    | false => exact .inr (.inl (bytesKind.total a b h1 h2))
/-- strictly in order -/
noncomputable def StrictB (ys : List (List UInt8)) : Prop := ys.Pairwise fun a b => oltB a b = true
theorem oltB_trans {a b c : List UInt8} (h1 : oltB a b = true) (h2 : oltB b c = true) : oltB a c = true := bytesKind.trans a b c h1 h2
theorem strict_unique : ∀ {xs ys : List (List UInt8)}, StrictB xs → StrictB ys → (∀ x, x ∈ xs ↔ x ∈ ys) → xs = ys
  | [], [], _, _, _ => rfl
  | [], y :: ys, _, _, h => absurd ((h y).mpr List.mem_cons_self) (by simp)
  | x :: xs, [], _, _, h => absurd ((h x).mp List.mem_cons_self) (by simp)
  | x :: xs, y :: ys, hx, hy, h => by
    have hx' := List.pairwise_cons.mp hx
    have hy' := List.pairwise_cons.mp hy
    have e : x = y := by
      rcases List.mem_cons.mp ((h x).mp List.mem_cons_self) with e | m
      · exact e
      · have h1 := hy'.1 x m
        rcases List.mem_cons.mp ((h y).mpr List.mem_cons_self) with e | m2
        · exact e.symm
        · have h2 := hx'.1 y m2
          have := oltB_asymm h1
          rw [h2] at this; cases this
    subst e
    rw [strict_unique hx'.2 hy'.2 fun z => ?_]
    constructor
    · intro m
      rcases List.mem_cons.mp ((h z).mp (List.mem_cons_of_mem _ m)) with e | m2
      · subst e
        have := hx'.1 z m
        rw [oltB_irrefl] at this; cases this
      · exact m2
    · intro m
      rcases List.mem_cons.mp ((h z).mpr (List.mem_cons_of_mem _ m)) with e | m2
      · subst e
        have := hy'.1 z m
        rw [oltB_irrefl] at this; cases this
      · exact m2
theorem strict_of {ys : List (List UInt8)} (h : SortedB ys) (nd : ys.Nodup) : StrictB ys := by
  unfold StrictB SortedB at *
  induction ys with
  | nil => exact .nil
  | cons y ys ih =>
    have h' := List.pairwise_cons.mp h
    have n' := List.nodup_cons.mp nd
    refine List.pairwise_cons.mpr ⟨fun z hz => ?_, ih h'.2 n'.2⟩
    rcases ltB_cases y z with e | e | e
    · exact e
    · subst e; exact absurd hz n'.1
    · rw [h'.1 z hz] at e; cases e
theorem addB_mem (D : List (List UInt8)) (x z : List UInt8) : z ∈ addB D x ↔ z ∈ D ∨ z = x := by
  unfold addB
  split
  · rename_i h
    constructor
    · exact .inl
    · rintro (m | rfl)
      · exact m
      · exact h
  · simp
theorem foldB_mem : ∀ (ys D : List (List UInt8)) (z : List UInt8), z ∈ ys.foldl addB D ↔ z ∈ D ∨ z ∈ ys
  | [], D, z => by simp
  | y :: ys, D, z => by
    rw [List.foldl_cons, foldB_mem, addB_mem, List.mem_cons, or_assoc]
theorem dedB_mem (ys : List (List UInt8)) (z : List UInt8) : z ∈ dedB ys ↔ z ∈ ys := by
  unfold dedB; rw [foldB_mem]; simp
theorem foldB_nodup : ∀ (ys D : List (List UInt8)), D.Nodup → (ys.foldl addB D).Nodup
  | [], D, h => h
  | y :: ys, D, h => by
    rw [List.foldl_cons]
    refine foldB_nodup ys _ ?_
    unfold addB
    split
    · exact h
    · rename_i hy
      rw [List.nodup_append]
      exact ⟨h, by simp, fun a ha b hb e => by cases List.mem_singleton.mp hb; subst e; exact hy ha⟩
theorem dedB_nodup (ys : List (List UInt8)) : (dedB ys).Nodup := foldB_nodup ys [] List.nodup_nil
theorem ded_two {ys : List (List UInt8)} {a b : List UInt8} (ha : a ∈ ys) (hb : b ∈ ys) (hne : a ≠ b) : 2 ≤ (dedB ys).length := by
  have h1 := (dedB_mem ys a).mpr ha
  have h2 := (dedB_mem ys b).mpr hb
  match h : dedB ys with
  | [] => rw [h] at h1; cases h1
  | [x] =>
    rw [h] at h1 h2
    exact absurd ((List.mem_singleton.mp h1).trans (List.mem_singleton.mp h2).symm) hne
  | _ :: _ :: _ => simp
/-- the sorted list of a set -/
theorem sorted_set {ys zs : List (List UInt8)} (p : zs.Perm (dedB ys)) (h : SortedB zs) : StrictB zs ∧ ∀ x, x ∈ zs ↔ x ∈ ys :=
  ⟨strict_of h (p.nodup_iff.mpr (dedB_nodup ys)), fun x => by rw [p.mem_iff, dedB_mem]⟩

theorem two_first {ys zs rest : List (List UInt8)} {a b : List UInt8} (hs : SortedB zs) (hp : zs.Perm ys) (h2 : (a :: b :: rest).Perm ys) (hab : leB a b) (hr : ∀ x ∈ rest, leB b x) : zs.take 2 = [a, b] := by
  have p := h2.trans hp.symm
  match zs, hs, p with
  | [], _, p => have := p.length_eq; simp at this
  | [_], _, p => have := p.length_eq; simp at this
  | y0 :: y1 :: r, hs, p =>
    have h' := List.pairwise_cons.mp hs
    have h'' := List.pairwise_cons.mp h'.2
    have e0 : a = y0 := by
      have h1 : leB y0 a := by
        rcases List.mem_cons.mp (p.mem_iff.mp List.mem_cons_self) with e | m
        · rw [e]; exact leB_refl _
        · exact h'.1 a m
      have h3 : leB a y0 := by
        rcases List.mem_cons.mp (p.mem_iff.mpr List.mem_cons_self) with e | m
        · rw [e]; exact leB_refl _
        · rcases List.mem_cons.mp m with e | m
          · rw [e]; exact hab
          · exact leB_trans hab (hr y0 m)
      exact leB_antisymm h3 h1
    subst e0
    have p2 := p.cons_inv
    have e1 : b = y1 := by
      have h1 : leB y1 b := by
        rcases List.mem_cons.mp (p2.mem_iff.mp List.mem_cons_self) with e | m
        · rw [e]; exact leB_refl _
        · exact h''.1 b m
      have h3 : leB b y1 := by
        rcases List.mem_cons.mp (p2.mem_iff.mpr List.mem_cons_self) with e | m
        · rw [e]; exact leB_refl _
        · exact hr y1 m
      exact leB_antisymm h3 h1
    subst e1
    rfl
theorem two_last {ys zs rest : List (List UInt8)} {a b : List UInt8} (hs : SortedB zs) (hp : zs.Perm ys) (h2 : (a :: b :: rest).Perm ys) (hab : leB b a) (hr : ∀ x ∈ rest, leB x b) : zs.reverse.take 2 = [a, b] := by
  have hs' : zs.reverse.Pairwise fun x y => leB y x := by
    rw [List.pairwise_reverse]; exact hs
  have p := h2.trans (hp.symm.trans (List.reverse_perm zs).symm)
  match hz : zs.reverse, hs', p with
  | [], _, p => have := p.length_eq; simp at this
  | [_], _, p => have := p.length_eq; simp at this
  | y0 :: y1 :: r, hs, p =>
    have h' := List.pairwise_cons.mp hs
    have h'' := List.pairwise_cons.mp h'.2
    have e0 : a = y0 := by
      have h1 : leB a y0 := by
        rcases List.mem_cons.mp (p.mem_iff.mp List.mem_cons_self) with e | m
        · rw [e]; exact leB_refl _
        · exact h'.1 a m
      have h3 : leB y0 a := by
        rcases List.mem_cons.mp (p.mem_iff.mpr List.mem_cons_self) with e | m
        · rw [e]; exact leB_refl _
        · rcases List.mem_cons.mp m with e | m
          · rw [e]; exact hab
          · exact leB_trans (hr y0 m) hab
      exact leB_antisymm h1 h3
    subst e0
    have p2 := p.cons_inv
    have e1 : b = y1 := by
      have h1 : leB b y1 := by
        rcases List.mem_cons.mp (p2.mem_iff.mp List.mem_cons_self) with e | m
        · rw [e]; exact leB_refl _
        · exact h''.1 b m
      have h3 : leB y1 b := by
        rcases List.mem_cons.mp (p2.mem_iff.mpr List.mem_cons_self) with e | m
        · rw [e]; exact leB_refl _
        · exact hr y1 m
      exact leB_antisymm h1 h3
    subst e1
    rfl

/-- what the loop over the pops keeps -/
structure Told (al : List (List UInt8)) (told : List (List UInt8)) (hv : List Value) : Prop where
  st : StrictB told
  ne : told ≠ []
  mem : ∀ x, (x ∈ told ∨ x ∈ hv.map keyB) ↔ x ∈ al
  le : ∀ x ∈ told, ∀ y ∈ hv.map keyB, leB x y
  heap : HeapFrom ltB 0 hv
  isB : ∀ v ∈ hv, IsB v
/-- told, with one more text behind its last -/
noncomputable def tellB (told : List (List UInt8)) (x : List UInt8) : List (List UInt8) := told ++ filterB (told.drop (told.length - 1)) [x]
theorem last_drop {told : List (List UInt8)} (h : told ≠ []) : ∃ i z, told = i ++ [z] ∧ told.drop (told.length - 1) = [z] := by
  obtain ⟨i, z, rfl⟩ : ∃ i z, told = i ++ [z] := ⟨told.dropLast, told.getLast h, (List.dropLast_concat_getLast h).symm⟩
  refine ⟨i, z, rfl, ?_⟩
  rw [List.length_append, List.length_singleton, Nat.add_sub_cancel, List.drop_append_of_le_length (Nat.le_refl _), List.drop_length]
  rfl
theorem Told.step {al told : List (List UInt8)} {xs : List Value} {last : Value} (t : Told al told (xs ++ [last])) : Told al (tellB told (keyB (popItem last xs))) (popRest ltB last xs) ∧ IsB (popItem last xs) := by
  obtain ⟨hh, hp, hm⟩ := pop_heap orderB t.heap
  generalize popItem last xs = x at hp hm
  generalize popRest ltB last xs = r at hh hp hm
  have hpk : (keyB x :: r.map keyB).Perm ((xs ++ [last]).map keyB) := hp.map keyB
  have hxB : IsB x := t.isB x (hp.mem_iff.mp List.mem_cons_self)
  obtain ⟨i, z, e, ed⟩ := last_drop t.ne
  have hz : z ∈ told := by rw [e]; simp
  have hzx : leB z (keyB x) := t.le z hz _ (hpk.mem_iff.mp List.mem_cons_self)
  have hxr : ∀ y ∈ r.map keyB, leB (keyB x) y := fun y hy => by
    obtain ⟨v, hv, rfl⟩ := List.mem_map.mp hy
    exact hm v hv
  have htr : ∀ a ∈ told, ∀ y ∈ r.map keyB, leB a y := fun a ha y hy => t.le a ha y (hpk.mem_iff.mp (List.mem_cons_of_mem _ hy))
  have hmem : ∀ y, (y ∈ told ∨ y = keyB x ∨ y ∈ r.map keyB) ↔ y ∈ al := fun y => by
    rw [← t.mem y, ← hpk.mem_iff, List.mem_cons]
  refine ⟨?_, hxB⟩
  by_cases hxz : keyB x = z
  · have et : tellB told (keyB x) = told := by
      unfold tellB filterB
      rw [ed, hxz]; simp
    rw [et]
    refine ⟨t.st, t.ne, fun y => ?_, htr, hh, fun v hv => t.isB v (hp.mem_iff.mp (List.mem_cons_of_mem _ hv))⟩
    rw [← hmem y]
    constructor
    · rintro (m | m)
      · exact .inl m
      · exact .inr (.inr m)
    · rintro (m | rfl | m)
      · exact .inl m
      · exact .inl (hxz ▸ hz)
      · exact .inr m
  · have et : tellB told (keyB x) = told ++ [keyB x] := by
      unfold tellB filterB
      rw [ed]; simp [hxz]
    rw [et]
    have hlt : oltB z (keyB x) = true := by
      rcases ltB_cases z (keyB x) with h | h | h
      · exact h
      · exact absurd h.symm hxz
      · rw [show oltB (keyB x) z = false from hzx] at h; cases h
    refine ⟨?_, by simp, fun y => ?_, fun a ha y hy => ?_, hh, fun v hv => t.isB v (hp.mem_iff.mp (List.mem_cons_of_mem _ hv))⟩
    · unfold StrictB
      rw [List.pairwise_append]
      refine ⟨t.st, by simp, fun a ha b hb => ?_⟩
      cases List.mem_singleton.mp hb
      have hs := t.st
      rw [e] at ha hs
      rcases List.mem_append.mp ha with m | m
      · exact oltB_trans ((List.pairwise_append.mp hs).2.2 a m z (by simp)) hlt
      · cases List.mem_singleton.mp m; exact hlt
    · rw [← hmem y, List.mem_append, List.mem_singleton, or_assoc]
    · rcases List.mem_append.mp ha with m | m
      · exact htr a m y hy
      · cases List.mem_singleton.mp m; exact hxr y hy
theorem Told.start {al : List (List UInt8)} {x item : Value} {xs : List Value} (h : HeapFrom ltB 0 (x :: xs)) (hB : ∀ v ∈ x :: xs, IsB v) (hi : IsB item) (hz : ∀ v ∈ x :: xs, leB (keyB v) (keyB item)) (hal : ∀ y, (y ∈ (x :: xs).map keyB ∨ y = keyB item) ↔ y ∈ al) :
    Told al [keyB x] (siftupP ltB (item :: xs) 0) := by
  have hp : (siftupP ltB (item :: xs) 0).Perm (item :: xs) := siftupP_perm ltB _ 0
  have hpk := hp.map keyB
  refine ⟨by simp [StrictB], by simp, fun y => ?_, fun a ha y hy => ?_, replace_heap orderB h, fun v hv => ?_⟩
  · rw [← hal y, hpk.mem_iff]
    simp only [List.map_cons, List.mem_cons, List.not_mem_nil, or_false]
    constructor
    · rintro (h | h | h)
      · exact .inl (.inl h)
      · exact .inr h
      · exact .inl (.inr h)
    · rintro ((h | h) | h)
      · exact .inl h
      · exact .inr (.inr h)
      · exact .inr (.inl h)
  · cases List.mem_singleton.mp ha
    rcases List.mem_cons.mp (hpk.mem_iff.mp hy) with e | m
    · rw [e]; exact hz x List.mem_cons_self
    · obtain ⟨v, hv, rfl⟩ := List.mem_map.mp m
      exact heap_head orderB h v hv
  · rcases List.mem_cons.mp (hp.mem_iff.mp hv) with e | m
    · rw [e]; exact hi
    · exact hB v (List.mem_cons_of_mem _ m)

noncomputable def tailN : List Int := [0, 13, 26, 75, 13, 40, 14, 75, 5, 0]
/-- the shelf of the number k -/
noncomputable def shelfN (ns : List Int) (k : Nat) : List (List UInt8) := (ns.filter fun x => x.fmod 3 == (k : Int)).map octL
theorem shelfN_snoc {ns : List Int} {i : Nat} {n : Int} (k : Nat) (h : ns[i]? = some n) : shelfN (ns.take (i + 1)) k = shelfN (ns.take i) k ++ (if n.fmod 3 == (k : Int) then [octL n] else []) := by
  unfold shelfN
  rw [List.take_add_one, h]
  show List.map octL (List.filter _ (ns.take i ++ [n])) = _
  rw [List.filter_append, List.map_append, List.filter_cons]
  congr 1
  cases (n.fmod 3 == (k : Int)) <;> rfl

section
variable {w : World} {A : Around} {E : Value → Shared → Prop} {s s₀ : Shared} {env : Env} {names : List (Str × NameKind)} {L : Addr} {h₀ hb : Heap} {l : List (Str × Option Value)} {W fcs : List (Addr × Cell)}

/-- lists of bytes in a list go to the kept ones -/
theorem At.sinkN {D : Addr} {us : List Value} {NN R : List (Addr × Cell)} {yss : List (List (List UInt8))} (a : At s₀ h₀ L l ((D, .list us) :: (NN ++ R)) s) (hN : NestOwn us NN yss) : ExA3 (fun h₁ => ∀ b o, h₀.get? b = some o → h₁.get? b = some o) (fun h₁ => At s₀ h₁ L l [] s) (fun h₁ => ListLB h₁ D yss) := by
  have a1 := a.only (W' := []) (fun _ h => nomatch h) List.nodup_nil
  obtain ⟨h₁, k₁, a₁, r₁⟩ := a1.rebase
  have cel : ∀ p ∈ ((D, Cell.list us) :: (NN ++ R)), CellAt h₁ p.1 p.2 := fun p hp => (a.cell hp).at fun o q => r₁ _ _ (a.fs.newW p hp).2 (fun m => nomatch m) q
  have hD : h₁.PlainList D us.toArray := cel (D, Cell.list us) List.mem_cons_self
  exact ⟨h₁, k₁, a₁, hN.listLB (h := h₁) hD.isList fun p hp => cel p (List.mem_cons_of_mem _ (List.mem_append_left _ hp))⟩
theorem intsTake {vs : List Value} {ns : List Int} (h : IntsAre vs ns) : ∀ k, IntsAre (vs.take k) (ns.take k) := by
  induction h with
  | nil => intro k; simp; exact .nil
  | cons n t h ih =>
    intro k
    cases k with
    | zero => exact .nil
    | succ k => exact .cons n t (ih k)

theorem k_parted {one two three rows R fa sa ta : Addr} {X Y Z U : List (List UInt8)} {enc rd : List UInt8 → List UInt8} {Q : Value → Shared → Prop} (a : At s₀ h₀ L l W s) (hG : G w h₀)
    (h1 : ListB h₀ one (X.map enc)) (h2 : ListB h₀ two (Y.map enc)) (h3 : ListB h₀ three (Z.map enc)) (hrows : h₀.IsList rows [Value.ref fa, .ref sa, .ref ta].toArray) (ha : ListB h₀ fa X) (hs' : ListB h₀ sa Y) (ht : ListB h₀ ta Z)
    (hX : ∀ x ∈ X, x ∈ U) (hY : ∀ x ∈ Y, x ∈ U) (hZ : ∀ x ∈ Z, x ∈ U) (nX : X.length < 1000) (nY : Y.length < 1000) (nZ : Z.length < 1000) (hR : ReadIs w R enc rd U) (hr : Room A 30 300)
    (hfr : A.frames = some [env]) (hfe : env.frame = some L) (he : EnvIs env names L) (hQ : ∀ s', At s₀ h₀ L l W s' → Q (.bool true) s') : wpAny (model P w) A (call (.ref 301) [.ref one, .ref two, .ref three, .ref R, .ref rows]) Q E s := by
  obtain ⟨oL, hoL, hoLd⟩ : ∃ o, s.heap.get? L = some o ∧ ∀ vs, o.data ≠ .fields vs := by
    obtain ⟨o, es, ep, ho, hd, r⟩ := a.fs.ns
    exact ⟨o, ho, fun vs q => by rw [hd] at q; cases q⟩
  have hF' : FramesIn [env] [(L, Cell.obj oL)] := by
    refine ⟨fun p hp => ?_, fun e he' => ?_⟩
    · cases List.mem_singleton.mp hp
      exact ⟨oL, rfl, hoLd⟩
    · cases List.mem_singleton.mp he'
      exact ⟨by rw [he.kind]; decide, L, oL, hfe, List.mem_cons_self, hoLd⟩
  refine parted_spec (fcs := [(L, Cell.obj oL)]) (outer := [env]) (hb := h₀) hG a.fs.keep (fun p hp => by cases List.mem_singleton.mp hp; exact a.fs.newL) (fun p hp => by cases List.mem_singleton.mp hp; exact hoL) (by simp) hF' hfr h1 h2 h3 hrows ha hs' ht hX hY hZ nX nY nZ hR hr (fun s' hrel => ?_)
  obtain ⟨fcs', u, a'⟩ := (show At s₀ h₀ L l (W ++ []) s by simpa using a).rel (fcs := []) hoL (fun _ h => nomatch h) hrel
  cases u
  exact hQ s' (by simpa using a')
theorem ListLB.item {h : Heap} {b : Addr} {yss : List (List (List UInt8))} (x : ListLB h b yss) {p : Nat} {ys : List (List UInt8)} (hy : yss[p]? = some ys) : ∃ (us : List Value) (r : Addr), h.IsList b us.toArray ∧ us[p]? = some (.ref r) ∧ ListB h r ys := by
  obtain ⟨rs, hl, hn, hr⟩ := x
  have hp : p < rs.length := by have := (List.getElem?_eq_some_iff.mp hy).1; lia
  obtain ⟨r, e⟩ : ∃ r, rs[p]? = some r := ⟨_, List.getElem?_eq_getElem hp⟩
  exact ⟨_, r, hl, by rw [List.getElem?_map, e]; rfl, hr p r ys e hy⟩

theorem At.keptD (a : At s₀ h₀ L l W s) {s' : Shared} (k : KeepsD s s') : ∃ d, At { s₀ with drawn := d } h₀ L l W s' := by
  obtain ⟨h, tk, rfl, f⟩ := a
  obtain ⟨h', tk', d, rfl, kk⟩ := k
  have a' : At s₀ h₀ L l W { s₀ with heap := h', toks := tk' } := (show At s₀ h₀ L l W { s₀ with heap := h, toks := tk } from ⟨h, tk, rfl, f⟩).kept ⟨h', tk', rfl, kk⟩
  exact ⟨d, h', tk', rfl, a'.fs⟩
theorem strict_dec {zs : List (List UInt8)} (h : StrictB zs) (hm : ∀ z ∈ zs, ∃ r ∈ rowsAll, z = e16 r) (hd : ∀ r ∈ rowsAll, d16 (e16 r) = r) : StrictB (zs.map d16) := by
  unfold StrictB
  rw [List.pairwise_map]
  refine List.Pairwise.imp_of_mem (fun {a b} ha hb hab => ?_) h
  obtain ⟨r, hr, rfl⟩ := hm a ha
  obtain ⟨q, hq, rfl⟩ := hm b hb
  rw [hd r hr, hd q hq, ← (row_facts hr).ord q hq]
  exact hab

/-- _filter(fl, sk); the new list is the frame's own -/
theorem k_filterO {fl sk : Addr} {xs ys : List (List UInt8)} {outer : List Env} {Q : Value → Shared → Prop} (a : At s₀ h₀ L l (W ++ fcs) s) (hG : G w h₀) (hl : ListB h₀ fl xs) (hs : ListB h₀ sk ys)
    (hfr : A.frames = some (env :: outer)) (hfe : env.frame = some L) (he : EnvIs env names L) (hF : FramesIn outer fcs) (hr : Room A 10 120) (hlen : xs.length < 2 ^ 20)
    (hQ : ∀ D us fcs' s', At s₀ h₀ L l ((D, .list us) :: (W ++ fcs')) s' → Ups fcs fcs' → BytesAre us (filterB ys xs) → Q (.ref D) s') : wpAny (model P w) A (call (.ref 82) [.ref fl, .ref sk]) Q E s := by
  obtain ⟨vs, hvl, hvB⟩ := hl
  obtain ⟨us, hul, huB⟩ := hs
  obtain ⟨oL, hoL, hoLd⟩ : ∃ o, s.heap.get? L = some o ∧ ∀ vs, o.data ≠ .fields vs := by
    obtain ⟨o, es, ep, ho, hd, r⟩ := a.fs.ns
    exact ⟨o, ho, fun vs q => by rw [hd] at q; cases q⟩
  have ndf : (fcs.map (·.1)).Nodup := by
    have nd := a.fs.nd
    rw [List.map_append, List.nodup_append] at nd
    exact nd.2.1
  have hLf : L ∉ fcs.map (·.1) := fun m => by
    obtain ⟨p, hp, e⟩ := List.mem_map.mp m
    exact (a.fs.newW p (List.mem_append_right _ hp)).2 e
  have hF' : FramesIn (env :: outer) ((L, .obj oL) :: fcs) := by
    refine ⟨fun p hp => ?_, fun e he' => ?_⟩
    · rcases List.mem_cons.mp hp with rfl | hp
      · exact ⟨oL, rfl, hoLd⟩
      · exact hF.1 p hp
    · rcases List.mem_cons.mp he' with rfl | he'
      · exact ⟨by rw [he.kind]; decide, L, oL, hfe, List.mem_cons_self, hoLd⟩
      · obtain ⟨hk, L', o, h1, h2, h3⟩ := hF.2 e he'
        exact ⟨hk, L', o, h1, List.mem_cons_of_mem _ h2, h3⟩
  refine filter_spec (fcs := (L, .obj oL) :: fcs) (outer := env :: outer) (hb := h₀) hG a.fs.keep (fun p hp => ?_) hvl.isList hul (fun p hp => ?_) (List.nodup_cons.mpr ⟨hLf, ndf⟩) hF' hfr hvB.all huB.all hr (by rw [hvB.length]; exact hlen) (fun D s' hD hpl hrel => ?_)
  · rcases List.mem_cons.mp hp with rfl | hp
    · exact a.fs.newL
    · exact (a.fs.newW p (List.mem_append_right _ hp)).1
  · rcases List.mem_cons.mp hp with rfl | hp
    · exact hoL
    · exact a.cell (List.mem_append_right _ hp)
  · obtain ⟨fcs', u, a'⟩ := a.rel hoL hF.1 hrel
    have fD := a.fresh hD
    exact hQ D _ fcs' s' (a'.add (xs := Cell.list _) hpl fD.1 fD.2.1 (by rw [List.map_append, u.fst, ← List.map_append]; exact fD.2.2)) u (filterP_B hvB huB)

theorem law_spec {sc : Addr} {vs : List Value} {ns : List Int} {Q : Value → Shared → Prop}
    (hG : G w s.heap) (hsc : s.heap.IsList sc vs.toArray) (hi : IntsAre vs ns) (hn : vs.length ≤ 64) (hfr : A.frames = some []) (hr : Room A 40 400)
    (hQ : ∀ s', KeepsD s s' → Q (.bool true) s') : wpAny (model P w) A (call (.ref 306) [.ref sc]) Q E s := by
  refine call_bodyC (d := 39) (u := 397) (binds := [("script", .ref sc)]) (lb := [("script", .ref sc)]) (cb := [])
    (l := [("script", some (.ref sc)), ("k", none), ("shelves", none), ("letters", none), ("figures", none), ("j", none), ("n", none), ("rows", none), ("text", none), ("heap", none), ("told", none), ("due", none)]) [] ["k", "shelves", "letters", "figures", "j", "n", "rows", "text", "heap", "told", "due"] [("numbers", none)]
    hG (fun _ _ e => e) (fun _ h => nomatch h) (fun _ h => nomatch h) (by simp) hr (by k_is) (by k_is) (BindsTo.of_eq rfl) (fun n => by intro y hy; cases List.mem_singleton.mp hy; exact .inl rfl) rfl rfl
    (fun n => by intro y hy; cases List.mem_singleton.mp hy; exact ⟨rfl, rfl⟩) (by simp) rfl (by simp only [List.map_cons, List.map_nil]; decide) (by decide) ?_
  intro env L h₀ s₁ A' ca co he hfe hA' hcs hat hg₀ hk hr'
  dsimp only at he
  have hat : At s h₀ L [("script", some (.ref sc)), ("k", none), ("shelves", none), ("letters", none), ("figures", none), ("j", none), ("n", none), ("rows", none), ("text", none), ("heap", none), ("told", none), ("due", none)] [(ca "numbers", Cell.obj (co "numbers"))] s₁ := hat
  obtain ⟨hcn, hdn, _⟩ := hcs ("numbers", none) (by simp)
  generalize ca "numbers" = cn at hcn hat
  generalize co "numbers" = on at hdn hat
  have hfr' : A'.frames = some [env] := by rw [hA', hfr]; rfl
  have hks : ∀ b o, s.heap.get? b = some o → h₀.get? b = some o := fun b o q => hk b o (fun m => nomatch m) q
  repeat k_extra "n"
  refine x_slice ?_
  refine pt_none ?_
  refine pt_some ?_
  repeat k_extra "n"
  refine pt_none ?_
  rename_i hat2
  intro S s2 hk2 hS hS2
  have hat3 := hat2.kept hk2
  clear hat hat2
  refine k_sliceL (hsc.at fun o q => hat3.fs.keep _ _ (hks _ _ q)) hS2 .none (.int _ _) .none (by simp) (by lia) rfl (fun D1 s3 hk3 hn1 hpl1 => ?_)
  rw [show (some (8 : Int)) = some ((8 : Nat) : Int) from rfl, pick_upto] at hpl1
  have f1 := hat3.fresh hn1
  have hat4 := hat3.kept hk3
  obtain ⟨g1, k1, a1, hp1⟩ := hat4.sinkL f1 hpl1
  clear hat3 hat4 hk2 hk3 hS hS2 f1 hn1 hpl1
  have hg1 := hg₀.keeps k1
  repeat k_extra "n"
  refine x_list ?_
  repeat k_extra "n"
  rename_i a2
  refine ⟨by simp, fun D2 s4 hk4 hn2 hpl2 => ?_⟩
  have f2 := a2.fresh hn2
  have a3 := a2.kept hk4
  obtain ⟨g2, k2, a4, hp2⟩ := a3.sinkL f2 hpl2
  clear a2 a3 f2 hn2 hpl2 hk4
  repeat k_extra "n"
  obtain ⟨tvs, hti, hp2'⟩ : ∃ tvs, IntsAre tvs tailN ∧ g2.PlainList D2 tvs.toArray := by
    refine ⟨_, ?_, hp2⟩
    exact .cons 0 _ (.cons 13 _ (.cons 26 _ (.cons 75 _ (.cons 13 _ (.cons 40 _ (.cons 14 _ (.cons 75 _ (.cons 5 _ (.cons 0 _ .nil)))))))))
  have hI2 : IntsAre (vs.take 8 ++ tvs) (ns.take 8 ++ tailN) := IntsAre.append (intsTake hi 8) hti
  have htl : tvs.length = 10 := by rw [hti.length]; rfl
  refine k_addL (hp1.at fun o q => a4.fs.keep _ _ (k2 _ _ q)).isList (hp2'.at fun o q => a4.fs.keep _ _ q).isList (by rw [List.length_take]; lia) (fun D3 s5 hk5 hn3 hpl3 => ?_)
  have f3 := a4.fresh hn3
  have a5 := a4.kept hk5
  obtain ⟨g3, k3, a6, hp3⟩ := a5.sinkL f3 hpl3
  have hlenN : (vs.take 8 ++ tvs).length ≤ 18 := by rw [List.length_append, List.length_take]; lia
  generalize (vs.take 8 ++ tvs) = nvs at hI2 hp3 hlenN
  have hMN : ∀ x ∈ tailN, x ∈ ns.take 8 ++ tailN := fun x hx => List.mem_append_right _ hx
  have hML : (ns.take 8 ++ tailN).length ≤ 18 := by rw [← hI2.length]; exact hlenN
  generalize hMdef : ns.take 8 ++ tailN = M at hI2 hMN hML
  have hg3 := (hg1.keeps k2).keeps k3
  have hks3 : ∀ b o, s.heap.get? b = some o → g3.get? b = some o := fun b o q => k3 _ _ (k2 _ _ (k1 _ _ (hks _ _ q)))
  clear a4 a5 k1 k2 k3 hp1 hp2 hp2' hti htl hpl3 hk5 hn3 f3 hks hg1
  refine st_cell he a6 (by k_extra "m:in") hcn (i := 0) rfl hdn (fun on' s6 hdn' a7 => ?_)
  dsimp only [List.set_cons_zero] at a7
  have a8 := a7.only (W' := []) (fun _ h => nomatch h) List.nodup_nil
  obtain ⟨g4, k4, a9, r4⟩ := a8.rebase
  have hcno : g4.get? cn = some on' := r4 _ _ (a7.fs.newW (cn, Cell.obj on') List.mem_cons_self).2 (fun m => nomatch m) (a7.cell (b := cn) (c := Cell.obj on') List.mem_cons_self)
  have hp4 := hp3.at fun o => k4 D3 o
  have hg4 := hg3.keeps k4
  have hks4 : ∀ b o, s.heap.get? b = some o → g4.get? b = some o := fun b o q => k4 _ _ (hks3 _ _ q)
  clear a6 a7 a8 k4 r4 hg3 hks3 hp3 hdn hG
  repeat k_extra "m"
  have hclk : ∀ C : Addr, (koCells (some (Str.ofString "k")) C [(Str.ofString "numbers", cn)]).lookup (Str.ofString "numbers") = some cn := fun C => rfl
  refine x_compA (s₀ := s) (h₀ := g4) (L := L) (names' := [(Str.ofString ".0", .local), (Str.ofString "k", .cell), (Str.ofString "numbers", .cell)]) (ko := some (Str.ofString "k")) (l0 := []) (cl := [(Str.ofString "numbers", cn)])
    (fun C i us l N => l = ([] : List (Str × Option Value)) ∧ ∃ NN oc v, N = NN ++ [(C + 1, Cell.obj oc)] ∧ oc.data = .cell v ∧ NestOwn us NN ((List.range i).map (shelfN M))) he ?cia1 ?cib1 (by k_extra "m:in") ?cic1 ?_
  case cia1 => exact ⟨rfl, by decide, by decide, rfl, ⟨fun _ _ => rfl, fun _ => rfl⟩, lk_none (by simp), by decide⟩
  case cib1 => exact clo_one rfl hcn
  case cic1 => rw [swaps_env he]; rfl
  repeat k_extra "m"
  refine k_range1 (fun r t3 u3 v3 s7 hk7 hr7 hrr => ?_)
  have a11 := At.kept (by assumption) hk7
  refine k_pyIterR (n := 3) hrr (by decide) (by decide) (fun I s8 hk8 hI8 hit8 => ?_)
  have fI := a11.fresh hI8
  have a12 := a11.kept hk8
  refine CompFrom.mk1 (n := 3) a12 (Itr.range hr'.handled I 0 1 3) hit8 fI (by decide) (fun C => ⟨rfl, [], emptyCell, none, rfl, rfl, .nil⟩) ?_ ?_
  · intro C cenv ec hcf hcc i v ys lc N hb s₃ E₃ hi3 hv hJ' a₃ k0 kI kk
    obtain ⟨rfl, NN, oc, vv, rfl, hoc, hno⟩ := hJ'
    obtain ⟨tv, rfl⟩ : ∃ tv, v = .int (i : Int) tv := by simpa using hv
    have cck : cenv.cells.lookup (Str.ofString "k") = some (C + 1) := by rw [hcc]; rfl
    have ccn : cenv.cells.lookup (Str.ofString "numbers") = some cn := by rw [hcc]; rfl
    refine wpAny_assign_Name ?_
    refine st_cell ec a₃ (by k_extra "m:in") cck (i := NN.length) (by simp) hoc (fun oc' s₄ hoc' a₄ => ?_)
    rw [List.set_append_right _ _ (Nat.le_refl _), Nat.sub_self, List.set_cons_zero] at a₄
    refine te_nil ?_
    refine x_comp (s₀ := s) (h₀ := hb) (L := C) (names' := [(Str.ofString ".0", .local), (Str.ofString "x", .local), (Str.ofString "_law_octets", .globalImplicit), (Str.ofString "k", .cell)]) (ko := none) (l0 := [("x", none)]) (cl := [(Str.ofString "k", C + 1)])
      (fun C' m us l N => (∃ u, l = ([("x", u)] : List (Str × Option Value))) ∧ N = [] ∧ BytesAre us (shelfN (M.take m) i)) ec ?cid1 ?cie1 ?_
    case cid1 => exact ⟨rfl, by decide, by decide, rfl, ko_none (by decide), lk_none (by simp), by decide⟩
    case cie1 => exact clo_one rfl cck
    refine ld_cell ec a₄ (by k_extra "m:in") ccn (a₄.fs.keep _ _ (k0 _ _ hcno)) hdn' (by decide) ?_
    refine k_pyIterL (hp4.isList.at fun o q => a₄.fs.keep _ _ (k0 _ _ q)) (fun I2 s₅ hk5 hI2n hbI hit5 => ?_)
    have fI2 := a₄.fresh hI2n
    have a₅ := a₄.kept hk5
    refine CompFrom.mk1 a₅ (Itr.list hr'.handled I2 D3 hbI nvs) ⟨⟨_, hit5, rfl, rfl⟩, hp4.isList.at fun o q => a₅.fs.keep _ _ (k0 _ _ q)⟩ fI2 (by lia) (fun C' => ⟨⟨none, rfl⟩, rfl, .nil⟩) ?_ ?_
    · intro C2 cenv2 ec2 hcf2 hcc2 m v2 us lc N2 hb2 s₆ E₆ hm hv2 hJ2 a₆ k2 kI2 kk2
      obtain ⟨⟨u, rfl⟩, rfl, hus⟩ := hJ2
      obtain ⟨nv, tn, hnv, rfl⟩ := intsAt hI2 hv2
      have cck2 : cenv2.cells.lookup (Str.ofString "k") = some (C + 1) := by rw [hcc2]; rfl
      have hCI : C + 1 ≠ I2 := fun z => fI2.2.2 (by rw [← z]; simp)
      have hko : hb2.get? (C + 1) = some oc' := kI2 _ _ hCI (a₅.cell (b := C + 1) (c := Cell.obj oc') (by simp))
      have hgb : G w hb2 := (hg4.keeps k0).keeps k2
      refine wpAny_assign_Name ?_
      repeat k_extra "m"
      refine te_one ?_
      repeat k_extra "m"
      refine k_fmod (by decide) (fun t7 s₇ hk7' => ?_)
      have a₇ := At.kept (by assumption) hk7'
      repeat k_extra "m"
      refine ld_cell ec2 a₇ (by k_extra "m:in") cck2 (a₇.fs.keep _ _ hko) hoc' (by decide) ?_
      repeat k_extra "m"
      refine te_split (fun hp => ?_) (fun hp => ?_)
      · repeat k_extra "m"
        refine octets_spec (hgb.of_at a₇) (hr'.mono (by decide) (by decide)) (fun t8 s₈ hk8' => ⟨_, _, ⟨⟨_, rfl⟩, rfl, ?_⟩, a₇.kept hk8'⟩)
        rw [shelfN_snoc i hnv, if_pos hp]
        exact hus.snoc _ _
      · refine ⟨_, _, ⟨⟨_, rfl⟩, rfl, ?_⟩, a₇⟩
        rw [shelfN_snoc i hnv, if_neg (by rw [hp]; simp), List.append_nil]
        exact hus
    · rintro C2 D us lc N2 s' ⟨⟨u, rfl⟩, rfl, hus⟩ hD a₅' _
      rw [hI2.length, List.take_length] at hus
      refine ⟨_, _, ⟨rfl, (D, Cell.list us) :: NN, oc', _, rfl, hoc', ?_⟩, a₅'⟩
      rw [List.range_succ, List.map_append]
      exact hno.snoc hus
  · rintro C D ys lc N s' ⟨rfl, NN, oc, vv, rfl, hoc, hno⟩ hD a13
    refine ⟨_, by k_extra "m:put", fun s9 a14 => ?_⟩
    obtain ⟨g5, k5, a15, hS5⟩ := (show At s g4 L _ ((D, Cell.list ys) :: (NN ++ ([(C + 1, Cell.obj oc)] ++ []))) s9 from by simpa using a14).sinkN hno
    replace hS5 : ListLB g5 D [shelfN M 0, shelfN M 1, shelfN M 2] := hS5
    have hg5 := hg4.keeps k5
    have hks5 : ∀ b o, s.heap.get? b = some o → g5.get? b = some o := fun b o q => k5 _ _ (hks4 _ _ q)
    clear a14 a13 a12 a11 a9 hno hk8 hk7 hit8 hrr hr7 hI8 fI hclk
    repeat k_extra "m"
    have hRows : ∀ ys ∈ [shelfN M 0, shelfN M 1, shelfN M 2], ∀ y ∈ ys, y ∈ rowsAll := fun ys hys y hy => by
      have gen : ∀ k, ∀ y ∈ shelfN M k, y ∈ rowsAll := fun k y hy => by
        obtain ⟨x, _, rfl⟩ := List.mem_map.mp hy
        exact octL_mem x
      simp only [List.mem_cons, List.not_mem_nil, or_false] at hys
      rcases hys with rfl | rfl | rfl <;> exact gen _ y hy
    have hRLen : ∀ ys ∈ [shelfN M 0, shelfN M 1, shelfN M 2], ys.length ≤ 18 := fun ys hys => by
      have gen : ∀ k, (shelfN M k).length ≤ 18 := fun k => by
        unfold shelfN; rw [List.length_map]; exact Nat.le_trans (List.length_filter_le _ _) hML
      simp only [List.mem_cons, List.not_mem_nil, or_false] at hys
      rcases hys with rfl | rfl | rfl <;> exact gen _
    refine x_assignSw hr'.handled (by rfl) (by rw [swapped_env he]; rfl) ?_
    refine x_tuple ?_
    repeat k_extra "m"
    refine nest_comp (s₀ := s) (h₀ := g5) (L := L) (cl := []) (names' := [(Str.ofString ".0", .local), (Str.ofString "shelf", .local)]) (fun ys => ys.map e64) [shelfN M 0, shelfN M 1, shelfN M 2] he ?nal1 ?nbl1 (by simp) hr'.handled ?_
    case nal1 => exact ⟨rfl, by decide, by decide, rfl, ko_none (by decide), lk_none (by simp), by decide⟩
    case nbl1 => exact clo_none rfl
    repeat k_extra "m"
    refine ⟨_, _, _, rfl, a15, hS5.at fun b o => a15.fs.keep _ _, (by show 3 < _; decide), ?ncl1, fun ML g6 s10 kl1 a16 hML_ => ?_⟩
    case ncl1 =>
      intro C cenv ec hcf hcc r ys hb N s₀ E₀ Q' hy hl a₁ k0 k1 hq
      obtain ⟨vs', hvl, hvB⟩ := hl
      have hyr := hRows ys hy
      have hyl := hRLen ys hy
      refine b_comp (s₀ := s) (h₀ := hb) (L := C) (names' := [(Str.ofString ".0", .local), (Str.ofString "row", .local), (Str.ofString "b64encode", .globalImplicit)]) (cl := []) e64 (fun _ => true) ys ec ?ndl1 ?nel1 (by simp) hr'.handled ?_
      case ndl1 => exact ⟨rfl, by decide, by decide, rfl, ko_none (by decide), lk_none (by simp), by decide⟩
      case nel1 => exact clo_none rfl
      repeat k_extra "m"
      refine ⟨_, _, _, vs', rfl, a₁, hvl.isList.at fun o => a₁.fs.keep _ o, hvB, by lia, fun C2 cenv2 ec2 hcf2 hcc2 y t hb2 s2 E2 hy2 a₂ k2 k3 => ?_, fun D us s' a hB => hq D us s' a (by rwa [List.filter_eq_self.mpr (fun _ _ => rfl)] at hB)⟩
      refine wpAny_tests_nil ⟨rfl, a₂, fun _ => ?_⟩
      have hgb : G w hb2 := (hg5.keeps k0).keeps k2
      have hyf := row_facts (hyr y hy2)
      repeat k_extra "m"
      refine b64encode_spec (hgb.of_at a₂) (hr'.mono (by decide) (by decide)) (by have := hyf.len; lia) (fun t' s' hk => ⟨⟨t', ?_⟩, a₂.kept hk⟩)
      unfold e64; rw [Array.toArray_toList]
    have hg6 := hg5.keeps kl1
    have hks6 : ∀ b o, s.heap.get? b = some o → g6.get? b = some o := fun b o q => kl1 _ _ (hks5 _ _ q)
    replace hS5 := hS5.at fun b o => kl1 b o
    replace hML_ : ListLB g6 ML [(shelfN M 0).map e64, (shelfN M 1).map e64, (shelfN M 2).map e64] := hML_
    clear a15 kl1 hks5
    repeat k_extra "m"
    refine nest_comp (s₀ := s) (h₀ := g6) (L := L) (cl := []) (names' := [(Str.ofString ".0", .local), (Str.ofString "shelf", .local)]) (fun ys => ys.map e16) [shelfN M 0, shelfN M 1, shelfN M 2] he ?nal2 ?nbl2 (by simp) hr'.handled ?_
    case nal2 => exact ⟨rfl, by decide, by decide, rfl, ko_none (by decide), lk_none (by simp), by decide⟩
    case nbl2 => exact clo_none rfl
    repeat k_extra "m"
    refine ⟨_, _, _, rfl, a16, hS5.at fun b o => a16.fs.keep _ _, (by show 3 < _; decide), ?ncl2, fun MF g7 s11 kl2 a17 hMF => ?_⟩
    case ncl2 =>
      intro C cenv ec hcf hcc r ys hb N s₀ E₀ Q' hy hl a₁ k0 k1 hq
      obtain ⟨vs', hvl, hvB⟩ := hl
      have hyr := hRows ys hy
      have hyl := hRLen ys hy
      refine b_comp (s₀ := s) (h₀ := hb) (L := C) (names' := [(Str.ofString ".0", .local), (Str.ofString "row", .local), (Str.ofString "b16encode", .globalImplicit)]) (cl := []) e16 (fun _ => true) ys ec ?ndl2 ?nel2 (by simp) hr'.handled ?_
      case ndl2 => exact ⟨rfl, by decide, by decide, rfl, ko_none (by decide), lk_none (by simp), by decide⟩
      case nel2 => exact clo_none rfl
      repeat k_extra "m"
      refine ⟨_, _, _, vs', rfl, a₁, hvl.isList.at fun o => a₁.fs.keep _ o, hvB, by lia, fun C2 cenv2 ec2 hcf2 hcc2 y t hb2 s2 E2 hy2 a₂ k2 k3 => ?_, fun D us s' a hB => hq D us s' a (by rwa [List.filter_eq_self.mpr (fun _ _ => rfl)] at hB)⟩
      refine wpAny_tests_nil ⟨rfl, a₂, fun _ => ?_⟩
      have hgb : G w hb2 := (hg6.keeps k0).keeps k2
      have hyf := row_facts (hyr y hy2)
      repeat k_extra "m"
      refine b16encode_spec (hgb.of_at a₂) (hr'.mono (by decide) (by decide)) (by have := hyf.len; lia) (fun t' s' hk => ⟨⟨t', ?_⟩, a₂.kept hk⟩)
      rfl
    have hg7 := hg6.keeps kl2
    have hks7 : ∀ b o, s.heap.get? b = some o → g7.get? b = some o := fun b o q => kl2 _ _ (hks6 _ _ q)
    replace hS5 := hS5.at fun b o => kl2 b o
    replace hML_ := hML_.at fun b o => kl2 b o
    replace hMF : ListLB g7 MF [(shelfN M 0).map e16, (shelfN M 1).map e16, (shelfN M 2).map e16] := hMF
    clear a16 kl2 hks6
    repeat k_extra "m"
    refine ⟨by simp, fun T s12 hk12 hT hTo => ⟨T, _, rfl, hTo, rfl, fun s13 hk13 => ?_⟩⟩
    have a18 := (a17.kept hk12).kept hk13
    clear a17 hk12 hk13 hT hTo
    refine ao_cons (ao_bind ?_)
    repeat k_extra "m"
    refine ao_cons (ao_bind ?_)
    repeat k_extra "m"
    refine ao_nil ?_
    rename_i s14 a19
    clear a18
    repeat k_extra "m"
    refine x_if ?_
    repeat k_extra "m"
    refine nest_comp (s₀ := s) (h₀ := g7) (L := L) (cl := []) (names' := [(Str.ofString ".0", .local), (Str.ofString "shelf", .local)]) (fun ys => ys.map e64) [shelfN M 0, shelfN M 1, shelfN M 2] he ?nal3 ?nbl3 (by simp) hr'.handled ?_
    case nal3 => exact ⟨rfl, by decide, by decide, rfl, ko_none (by decide), lk_none (by simp), by decide⟩
    case nbl3 => exact clo_none rfl
    repeat k_extra "m"
    refine ⟨_, _, _, rfl, a19, hS5.at fun b o => a19.fs.keep _ _, (by show 3 < _; decide), ?ncl3, fun M3 g8 s15 kl3 a20 hM3 => ?_⟩
    case ncl3 =>
      intro C cenv ec hcf hcc r ys hb N s₀ E₀ Q' hy hl a₁ k0 k1 hq
      obtain ⟨vs', hvl, hvB⟩ := hl
      have hyr := hRows ys hy
      have hyl := hRLen ys hy
      refine b_comp (s₀ := s) (h₀ := hb) (L := C) (names' := [(Str.ofString ".0", .local), (Str.ofString "row", .local), (Str.ofString "_law_b64", .globalImplicit)]) (cl := []) e64 (fun _ => true) ys ec ?ndl3 ?nel3 (by simp) hr'.handled ?_
      case ndl3 => exact ⟨rfl, by decide, by decide, rfl, ko_none (by decide), lk_none (by simp), by decide⟩
      case nel3 => exact clo_none rfl
      repeat k_extra "m"
      refine ⟨_, _, _, vs', rfl, a₁, hvl.isList.at fun o => a₁.fs.keep _ o, hvB, by lia, fun C2 cenv2 ec2 hcf2 hcc2 y t hb2 s2 E2 hy2 a₂ k2 k3 => ?_, fun D us s' a hB => hq D us s' a (by rwa [List.filter_eq_self.mpr (fun _ _ => rfl)] at hB)⟩
      refine wpAny_tests_nil ⟨rfl, a₂, fun _ => ?_⟩
      have hgb : G w hb2 := (hg7.keeps k0).keeps k2
      have hyf := row_facts (hyr y hy2)
      repeat k_extra "m"
      refine lawb64_spec (hgb.of_at (by assumption)) (hr'.mono (by decide) (by decide)) hyf.len (fun t' s' hk => ?_)
      have a₃ := At.kept (by assumption) hk
      refine getMethod_builtin (typeIs_str _ _ _) PySem.F.plainAttrs_str PySem.F.slot_str_encode PySem.F.type_str_encode (fun _ e => nomatch e) ?_
      repeat k_extra "m"
      refine k_encode hyf.b1 hyf.b3 (fun t6 s6 hk6 => ?_)
      have a₄ := At.kept (by assumption) hk6
      rw [hyf.b2]
      exact ⟨⟨t6, rfl⟩, a₄⟩
    have hg8 := hg7.keeps kl3
    have hks8 : ∀ b o, s.heap.get? b = some o → g8.get? b = some o := fun b o q => kl3 _ _ (hks7 _ _ q)
    replace hS5 := hS5.at fun b o => kl3 b o
    replace hML_ := hML_.at fun b o => kl3 b o
    replace hMF := hMF.at fun b o => kl3 b o
    replace hM3 : ListLB g8 M3 [(shelfN M 0).map e64, (shelfN M 1).map e64, (shelfN M 2).map e64] := hM3
    clear a19 kl3 hks7
    refine c_neLL (d := 30) (u := 200) (hr'.mono (by decide) (by decide)) (hML_.at fun b o => a20.fs.keep _ _) (hM3.at fun b o => a20.fs.keep _ _) ?_
    rw [beq_self_eq_true, Bool.not_true]
    clear hM3
    repeat k_extra "m"
    refine w_ff rfl ?_
    repeat k_extra "m"
    refine x_if ?_
    repeat k_extra "m"
    refine nest_comp (s₀ := s) (h₀ := g8) (L := L) (cl := []) (names' := [(Str.ofString ".0", .local), (Str.ofString "shelf", .local)]) (fun ys => ys.map e16) [shelfN M 0, shelfN M 1, shelfN M 2] he ?nal4 ?nbl4 (by simp) hr'.handled ?_
    case nal4 => exact ⟨rfl, by decide, by decide, rfl, ko_none (by decide), lk_none (by simp), by decide⟩
    case nbl4 => exact clo_none rfl
    repeat k_extra "m"
    refine ⟨_, _, _, rfl, a20, hS5.at fun b o => a20.fs.keep _ _, (by show 3 < _; decide), ?ncl4, fun M4 g9 s16 kl4 a21 hM4 => ?_⟩
    case ncl4 =>
      intro C cenv ec hcf hcc r ys hb N s₀ E₀ Q' hy hl a₁ k0 k1 hq
      obtain ⟨vs', hvl, hvB⟩ := hl
      have hyr := hRows ys hy
      have hyl := hRLen ys hy
      refine b_comp (s₀ := s) (h₀ := hb) (L := C) (names' := [(Str.ofString ".0", .local), (Str.ofString "row", .local), (Str.ofString "_law_figures", .globalImplicit)]) (cl := []) e16 (fun _ => true) ys ec ?ndl4 ?nel4 (by simp) hr'.handled ?_
      case ndl4 => exact ⟨rfl, by decide, by decide, rfl, ko_none (by decide), lk_none (by simp), by decide⟩
      case nel4 => exact clo_none rfl
      repeat k_extra "m"
      refine ⟨_, _, _, vs', rfl, a₁, hvl.isList.at fun o => a₁.fs.keep _ o, hvB, by lia, fun C2 cenv2 ec2 hcf2 hcc2 y t hb2 s2 E2 hy2 a₂ k2 k3 => ?_, fun D us s' a hB => hq D us s' a (by rwa [List.filter_eq_self.mpr (fun _ _ => rfl)] at hB)⟩
      refine wpAny_tests_nil ⟨rfl, a₂, fun _ => ?_⟩
      have hgb : G w hb2 := (hg8.keeps k0).keeps k2
      have hyf := row_facts (hyr y hy2)
      repeat k_extra "m"
      refine figures_spec (hgb.of_at (by assumption)) (hr'.mono (by decide) (by decide)) (by have := hyf.len; lia) (fun t' s' hk => ?_)
      have a₃ := At.kept (by assumption) hk
      refine getMethod_builtin (typeIs_str _ _ _) PySem.F.plainAttrs_str PySem.F.slot_str_encode PySem.F.type_str_encode (fun _ e => nomatch e) ?_
      repeat k_extra "m"
      refine k_encode hyf.f1 hyf.f3 (fun t6 s6 hk6 => ?_)
      have a₄ := At.kept (by assumption) hk6
      rw [hyf.f2]
      exact ⟨⟨t6, rfl⟩, a₄⟩
    have hg9 := hg8.keeps kl4
    have hks9 : ∀ b o, s.heap.get? b = some o → g9.get? b = some o := fun b o q => kl4 _ _ (hks8 _ _ q)
    replace hS5 := hS5.at fun b o => kl4 b o
    replace hML_ := hML_.at fun b o => kl4 b o
    replace hMF := hMF.at fun b o => kl4 b o
    replace hM4 : ListLB g9 M4 [(shelfN M 0).map e16, (shelfN M 1).map e16, (shelfN M 2).map e16] := hM4
    clear a20 kl4 hks8
    refine c_neLL (d := 30) (u := 200) (hr'.mono (by decide) (by decide)) (hMF.at fun b o => a21.fs.keep _ _) (hM4.at fun b o => a21.fs.keep _ _) ?_
    rw [beq_self_eq_true, Bool.not_true]
    clear hM4
    repeat k_extra "m"
    refine w_ff rfl ?_
    repeat k_extra "m"
    refine wpAny_For ?_
    refine x_list ?_
    repeat k_extra "m"
    refine x_tuple ?_
    repeat k_extra "m"
    rename_i b01
    refine ⟨by simp, fun T0 s20 hk20 hT0 hTo0 => ?_⟩
    have fT0 := b01.fresh hT0
    have b02 := b01.kept hk20
    obtain ⟨g10, j0, b03, q0⟩ := b02.rebase
    have hTo0' := q0 _ _ fT0.2.1 fT0.2.2 hTo0
    clear b01 b02 q0 hk20 hT0 hTo0 fT0
    clear a21
    repeat k_extra "m"
    refine x_tuple ?_
    repeat k_extra "m"
    rename_i b11
    refine ⟨by simp, fun T1 s21 hk21 hT1 hTo1 => ?_⟩
    have fT1 := b11.fresh hT1
    have b12 := b11.kept hk21
    obtain ⟨g11, j1, b13, q1⟩ := b12.rebase
    have hTo1' := q1 _ _ fT1.2.1 fT1.2.2 hTo1
    clear b11 b12 q1 hk21 hT1 hTo1 fT1
    clear b03
    repeat k_extra "m"
    refine x_tuple ?_
    repeat k_extra "m"
    rename_i b21
    refine ⟨by simp, fun T2 s22 hk22 hT2 hTo2 => ?_⟩
    have fT2 := b21.fresh hT2
    have b22 := b21.kept hk22
    obtain ⟨g12, j2, b23, q2⟩ := b22.rebase
    have hTo2' := q2 _ _ fT2.2.1 fT2.2.2 hTo2
    clear b21 b22 q2 hk22 hT2 hTo2 fT2
    clear b13
    repeat k_extra "m"
    refine ⟨by simp, fun F s23 hk23 hFn hFp => ?_⟩
    have fF := b23.fresh hFn
    have b24 := b23.kept hk23
    obtain ⟨g13, j3, b25, hFp'⟩ := b24.sinkL fF hFp
    have kg : ∀ b o, g9.get? b = some o → g13.get? b = some o := fun b o q => j3 _ _ (j2 _ _ (j1 _ _ (j0 _ _ q)))
    have hTo0 := j3 _ _ (j2 _ _ (j1 _ _ hTo0'))
    have hTo1 := j3 _ _ (j2 _ _ hTo1')
    have hTo2 := j3 _ _ hTo2'
    replace hS5 := hS5.at fun b o => kg b o
    replace hML_ := hML_.at fun b o => kg b o
    replace hMF := hMF.at fun b o => kg b o
    have hg13 := hg9.keeps kg
    have hks13 : ∀ b o, s.heap.get? b = some o → g13.get? b = some o := fun b o q => kg _ _ (hks9 _ _ q)
    clear b23 b24 fF hFn hFp hTo0' hTo1' hTo2' j0 j1 j2 j3 kg hks9 hk23 hg9
    refine k_pyIterL (hFp'.isList.at fun o => b25.fs.keep _ o) (fun I3 s24 hk24 hI3 hFI3 hit3 => ?_)
    have fI3 := b25.fresh hI3
    have b26 := b25.kept hk24
    have hFne : F ≠ L := fun z => by have := b25.fs.newL; obtain ⟨nn, q⟩ := hFp'; rw [← z, q] at this; cases this
    refine x_for2 (fun i l W => (∃ uj uk un ur, l = ([("script", some (.ref sc)), ("k", uk), ("shelves", some (.ref D)), ("letters", some (.ref ML)), ("figures", some (.ref MF)), ("j", uj), ("n", un), ("rows", ur), ("text", none), ("heap", none), ("told", none), ("due", none)] : List (Str × Option Value))) ∧ W = []) b26 (Itr.listT hr'.handled I3 F hFI3 _ (fun v hv => by simp only [List.mem_cons, List.not_mem_nil, or_false] at hv; rcases hv with rfl | rfl | rfl <;> exact ⟨_, rfl⟩)) ⟨⟨_, hit3, rfl, rfl⟩, hFp'.isList.at fun o => b26.fs.keep _ o⟩
      (fun b hb => ?_) (fun b hb => by cases List.mem_singleton.mp hb; exact fI3.1) ⟨⟨_, _, _, _, rfl⟩, rfl⟩ ?_ ?_
    · rcases List.mem_cons.mp hb with rfl | hb
      · exact ⟨fI3.2.1, fun m => nomatch m⟩
      · cases List.mem_singleton.mp hb
        exact ⟨hFne, fun m => nomatch m⟩
    · intro i v l W h₁ s₅ E₅ hi3 hv hJ k0 r0 a₁
      obtain ⟨⟨uj, uk, un, ur, rfl⟩, rfl⟩ := hJ
      have hg1 : G w h₁ := hg13.keeps k0
      obtain ⟨T, p, q, r, tp, tq, tr, rfl, hT, hp, hq, hr3⟩ : ∃ (T : Addr) (p q r : Nat) (tp tq tr : Tok), v = .ref T ∧ h₁.get? T = some (tupObj [.int p tp, .int q tq, .int r tr]) ∧ p < 3 ∧ q < 3 ∧ r < 3 := by
        have : i = 0 ∨ i = 1 ∨ i = 2 := by simp only [List.length_cons, List.length_nil] at hi3; lia
        rcases this with rfl | rfl | rfl
        · exact ⟨T0, 0, 1, 2, _, _, _, by simpa using hv.symm, k0 _ _ hTo0, by decide, by decide, by decide⟩
        · exact ⟨T1, 1, 2, 0, _, _, _, by simpa using hv.symm, k0 _ _ hTo1, by decide, by decide, by decide⟩
        · exact ⟨T2, 2, 0, 1, _, _, _, by simpa using hv.symm, k0 _ _ hTo2, by decide, by decide, by decide⟩
      refine as_tuple hr'.handled (tup_is (a₁.fs.keep _ _ hT)) rfl rfl (fun s₆ hk6 => ?_)
      have a₂ := a₁.kept hk6
      clear a₁
      refine ao_cons (wpAny_assign_Name ?_)
      repeat k_extra "m"
      refine ao_cons (wpAny_assign_Name ?_)
      repeat k_extra "m"
      refine ao_cons (wpAny_assign_Name ?_)
      repeat k_extra "m"
      rename_i a₃
      clear a₂
      refine ao_nil ?_
      have look : ∀ p, p < 3 → ([shelfN M 0, shelfN M 1, shelfN M 2])[p]? = some (shelfN M p) ∧ ([(shelfN M 0).map e64, (shelfN M 1).map e64, (shelfN M 2).map e64])[p]? = some ((shelfN M p).map e64) ∧ ([(shelfN M 0).map e16, (shelfN M 1).map e16, (shelfN M 2).map e16])[p]? = some ((shelfN M p).map e16) ∧ shelfN M p ∈ [shelfN M 0, shelfN M 1, shelfN M 2] := fun p hp => by
        obtain rfl | rfl | rfl : p = 0 ∨ p = 1 ∨ p = 2 := by lia
        all_goals exact ⟨rfl, rfl, rfl, by simp⟩
      have hS1 := hS5.at fun b o => k0 b o
      have hL1 := hML_.at fun b o => k0 b o
      have hF1 := hMF.at fun b o => k0 b o
      obtain ⟨usSp, Sp, Spl, Spe, SpB⟩ := hS1.item (look p hp).1
      obtain ⟨usSq, Sq, Sql, Sqe, SqB⟩ := hS1.item (look q hq).1
      obtain ⟨usSr, Sr, Srl, Sre, SrB⟩ := hS1.item (look r hr3).1
      obtain ⟨usLp, Lp, Lpl, Lpe, LpB⟩ := hL1.item (look p hp).2.1
      obtain ⟨usLq, Lq, Lql, Lqe, LqB⟩ := hL1.item (look q hq).2.1
      obtain ⟨usLr, Lr, Lrl, Lre, LrB⟩ := hL1.item (look r hr3).2.1
      obtain ⟨usGp, Gp, Gpl, Gpe, GpB⟩ := hF1.item (look p hp).2.2.1
      obtain ⟨usGq, Gq, Gql, Gqe, GqB⟩ := hF1.item (look q hq).2.2.1
      obtain ⟨usGr, Gr, Grl, Gre, GrB⟩ := hF1.item (look r hr3).2.2.1
      repeat k_extra "m"
      refine x_list ?_
      repeat k_extra "m"
      refine sub_list (p := p) (Spl.at fun o => a₃.fs.keep _ o) rfl Spe (by lia) rfl ?_
      repeat k_extra "m"
      refine sub_list (p := q) (Sql.at fun o => a₃.fs.keep _ o) rfl Sqe (by lia) rfl ?_
      repeat k_extra "m"
      refine sub_list (p := r) (Srl.at fun o => a₃.fs.keep _ o) rfl Sre (by lia) rfl ?_
      repeat k_extra "m"
      refine ⟨by simp, fun R s₇ hk7 hRn hRp => ?_⟩
      have fR := a₃.fresh hRn
      have a₄ := a₃.kept hk7
      obtain ⟨h₂, k2, a₅, hRp'⟩ := a₄.sinkL fR hRp
      have hg2 : G w h₂ := hg1.keeps k2
      clear a₃ a₄ hk7 hRp hRn fR
      repeat k_extra "m"
      rename_i s₈ a₆
      clear a₅
      refine x_if ?_
      repeat k_extra "m"
      refine sub_list (p := p) (Lpl.at fun o q => a₆.fs.keep _ _ (k2 _ _ q)) rfl Lpe (by lia) rfl ?_
      repeat k_extra "m"
      refine sub_list (p := q) (Lql.at fun o q => a₆.fs.keep _ _ (k2 _ _ q)) rfl Lqe (by lia) rfl ?_
      repeat k_extra "m"
      refine sub_list (p := r) (Lrl.at fun o q => a₆.fs.keep _ _ (k2 _ _ q)) rfl Lre (by lia) rfl ?_
      repeat k_extra "m"
      refine k_parted a₆ hg2 (LpB.at fun o => k2 _ o) (LqB.at fun o => k2 _ o) (LrB.at fun o => k2 _ o) hRp'.isList (SpB.at fun o => k2 _ o) (SqB.at fun o => k2 _ o) (SrB.at fun o => k2 _ o) (hRows _ (look p hp).2.2.2) (hRows _ (look q hq).2.2.2) (hRows _ (look r hr3).2.2.2)
        (Nat.lt_of_le_of_lt (hRLen _ (look p hp).2.2.2) (by decide)) (Nat.lt_of_le_of_lt (hRLen _ (look q hq).2.2.2) (by decide)) (Nat.lt_of_le_of_lt (hRLen _ (look r hr3).2.2.2) (by decide)) (read64 w) (hr'.mono (by decide) (by decide)) hfr' hfe he (fun s₉ a₇ => ?_)
      clear a₆
      have a₆ := a₇
      clear a₇
      repeat k_extra "m"
      refine o_ff rfl ?_
      repeat k_extra "m"
      refine sub_list (p := p) (Gpl.at fun o q => a₆.fs.keep _ _ (k2 _ _ q)) rfl Gpe (by lia) rfl ?_
      repeat k_extra "m"
      refine sub_list (p := q) (Gql.at fun o q => a₆.fs.keep _ _ (k2 _ _ q)) rfl Gqe (by lia) rfl ?_
      repeat k_extra "m"
      refine sub_list (p := r) (Grl.at fun o q => a₆.fs.keep _ _ (k2 _ _ q)) rfl Gre (by lia) rfl ?_
      repeat k_extra "m"
      refine k_parted a₆ hg2 (GpB.at fun o => k2 _ o) (GqB.at fun o => k2 _ o) (GrB.at fun o => k2 _ o) hRp'.isList (SpB.at fun o => k2 _ o) (SqB.at fun o => k2 _ o) (SrB.at fun o => k2 _ o) (hRows _ (look p hp).2.2.2) (hRows _ (look q hq).2.2.2) (hRows _ (look r hr3).2.2.2)
        (Nat.lt_of_le_of_lt (hRLen _ (look p hp).2.2.2) (by decide)) (Nat.lt_of_le_of_lt (hRLen _ (look q hq).2.2.2) (by decide)) (Nat.lt_of_le_of_lt (hRLen _ (look r hr3).2.2.2) (by decide)) (read16 w) (hr'.mono (by decide) (by decide)) hfr' hfe he (fun s₉ a₇ => ?_)
      clear a₆
      have a₆ := a₇
      clear a₇
      repeat k_extra "m"
      refine o_ff rfl ?_
      repeat k_extra "m"
      refine w_ff rfl ?_
      repeat k_extra "m"
      exact f2_next (a₆.shrink k2) ⟨⟨_, _, _, _, rfl⟩, rfl⟩
    · rintro l W s25 ⟨⟨uj, uk, un, ur, rfl⟩, rfl⟩ c1
      clear b25 b26 hit3 hk24 hI3 fI3 hTo0 hTo1 hTo2 hFp'
      repeat k_extra "m"
      have hFF : ([(shelfN M 0).map e16, (shelfN M 1).map e16, (shelfN M 2).map e16]).flatten.map id = ([shelfN M 0, shelfN M 1, shelfN M 2].flatten).map e16 := by simp
      have hRWm : ∀ y ∈ [shelfN M 0, shelfN M 1, shelfN M 2].flatten, y ∈ rowsAll := fun y hy => by
        obtain ⟨ys, hys, hy'⟩ := List.mem_flatten.mp hy
        exact hRows ys hys y hy'
      have hRWl : ([shelfN M 0, shelfN M 1, shelfN M 2].flatten).length ≤ 54 := by
        have h0 := hRLen (shelfN M 0) (by simp)
        have h1 := hRLen (shelfN M 1) (by simp)
        have h2 := hRLen (shelfN M 2) (by simp)
        simp only [List.flatten_cons, List.flatten_nil, List.length_append, List.length_nil]
        lia
      have hRW3 : 2 < ([shelfN M 0, shelfN M 1, shelfN M 2].flatten).length := by
        have h0 : 4 ≤ (shelfN M 0).length := by
          rw [← hMdef]
          unfold shelfN
          rw [List.filter_append, List.map_append, List.length_append]
          have : (List.map octL (List.filter (fun x => x.fmod 3 == ((0 : Nat) : Int)) tailN)).length = 4 := by decide +kernel
          lia
        simp only [List.flatten_cons, List.flatten_nil, List.length_append, List.length_nil]
        lia
      have hR0 : ([] : List UInt8) ∈ [shelfN M 0, shelfN M 1, shelfN M 2].flatten := by
        refine List.mem_flatten.mpr ⟨shelfN M 0, by simp, List.mem_map.mpr ⟨0, List.mem_filter.mpr ⟨hMN 0 (by decide), by decide⟩, by decide +kernel⟩⟩
      have hR1 : ([0] : List UInt8) ∈ [shelfN M 0, shelfN M 1, shelfN M 2].flatten := by
        refine List.mem_flatten.mpr ⟨shelfN M 0, by simp, List.mem_map.mpr ⟨75, List.mem_filter.mpr ⟨hMN 75 (by decide), by decide⟩, by decide +kernel⟩⟩
      have hFl : ([(shelfN M 0).map e16, (shelfN M 1).map e16, (shelfN M 2).map e16]).flatten.length < 2 ^ 18 := by
        have := congrArg List.length hFF
        rw [List.length_map, List.length_map] at this
        lia
      refine x_assignSw hr'.handled (by rfl) (by rw [swapped_env he]; rfl) ?_
      refine x_tuple ?_
      repeat k_extra "m"
      refine dbl_comp (s₀ := s) (h₀ := g13) (L := L) (names' := [(Str.ofString ".0", .local), (Str.ofString "shelf", .local), (Str.ofString "text", .local)]) id [(shelfN M 0).map e16, (shelfN M 1).map e16, (shelfN M 2).map e16] he ?da ?db (by simp) (by simp) (by decide) hr'.handled hFl ?_
      case da => exact ⟨rfl, by decide, by decide, rfl, ko_none (by decide), lk_none (by simp), by decide⟩
      case db => exact clo_none rfl
      repeat k_extra "m"
      refine ⟨_, _, _, rfl, c1, hMF.at fun b o => c1.fs.keep _ _, ?dc, fun H hv s26 c2 hHB => ?_⟩
      case dc =>
        intro C cenv ec r y t hb s E Q' hy a k0 hq
        exact ld_local ec a (by simp) (List.mem_cons_of_mem _ List.mem_cons_self) (by decide) (hq t s a)
      rw [hFF] at hHB
      clear c1 hFF hFl
      repeat k_extra "m"
      refine x_list ?_
      repeat k_extra "m"
      refine ⟨by simp, fun T s27 hk27 hTn hTp => ?_⟩
      have fT := c2.fresh hTn
      have c3 := c2.kept hk27
      obtain ⟨g14, j4, c4, hTp'⟩ := c3.sinkL fT hTp
      replace hS5 := hS5.at fun b o => j4 b o
      have hg14 := hg13.keeps j4
      have hks14 : ∀ b o, s.heap.get? b = some o → g14.get? b = some o := fun b o q => j4 _ _ (hks13 _ _ q)
      clear c2 c3 fT hTn hTp hk27 j4 hks13
      repeat k_extra "m"
      refine ⟨by simp, fun TT s28 hk28 hTT hTo => ⟨TT, _, rfl, hTo, rfl, fun s29 hk29 => ?_⟩⟩
      have c5 := (c4.kept hk28).kept hk29
      clear c4 hk28 hk29 hTT hTo
      refine ao_cons (ao_bind ?_)
      repeat k_extra "m"
      refine ao_cons (ao_bind ?_)
      repeat k_extra "m"
      refine ao_nil ?_
      rename_i c6
      clear c5
      repeat k_extra "m"
      refine dbl_comp (s₀ := s) (h₀ := g14) (L := L) (names' := [(Str.ofString ".0", .local), (Str.ofString "shelf", .local), (Str.ofString "row", .local), (Str.ofString "_law_figures", .globalImplicit)]) e16 [shelfN M 0, shelfN M 1, shelfN M 2] he ?ea ?eb (by simp) (by simp) (by decide) hr'.handled (by lia) ?_
      case ea => exact ⟨rfl, by decide, by decide, rfl, ko_none (by decide), lk_none (by simp), by decide⟩
      case eb => exact clo_none rfl
      repeat k_extra "m"
      refine ⟨_, _, _, rfl, c6, hS5.at fun b o => c6.fs.keep _ _, ?ec, fun D2 us2 s30 c7 hB2 => ?_⟩
      case ec =>
        intro C cenv ec r y t hb s2 E2 Q' hy a₂ k0 hq
        have hgb : G w hb := hg14.keeps k0
        have hyf := row_facts (hRWm y hy)
        repeat k_extra "m"
        refine figures_spec (hgb.of_at (by assumption)) (hr'.mono (by decide) (by decide)) (by have := hyf.len; lia) (fun t' s' hk => ?_)
        have a₃ := At.kept (by assumption) hk
        refine getMethod_builtin (typeIs_str _ _ _) PySem.F.plainAttrs_str PySem.F.slot_str_encode PySem.F.type_str_encode (fun _ e => nomatch e) ?_
        repeat k_extra "m"
        refine k_encode hyf.f1 hyf.f3 (fun t6 s6 hk6 => ?_)
        have a₄ := At.kept (by assumption) hk6
        rw [hyf.f2]
        exact hq t6 s6 a₄
      clear c6
      repeat k_extra "m"
      refine k_sorted (CellAt.isListL (c7.cell (c := Cell.list us2) List.mem_cons_self)) hB2 (by rw [hB2.length, List.length_map]; lia) (fun D3 s31 vd yd hk31 hD3n hD3p hdB hdP hdS => ?_)
      have fD3 := c7.fresh hD3n
      have c8 := c7.kept hk31
      obtain ⟨g15, j5, c9, hD3p'⟩ := c8.sinkL fD3 hD3p
      have c10 := c9.tail
      replace hS5 := hS5.at fun b o => j5 b o
      have hg15 := hg14.keeps j5
      have hks15 : ∀ b o, s.heap.get? b = some o → g15.get? b = some o := fun b o q => j5 _ _ (hks14 _ _ q)
      replace hTp' := hTp'.at fun o => j5 T o
      clear c7 c8 c9 fD3 hD3n hD3p hk31 j5 hks14 hB2
      have hdl : yd.length ≤ 54 := by rw [hdP.length_eq, List.length_map]; exact hRWl
      repeat k_extra "m"
      rename_i c11
      clear c10
      refine x_if ?_
      repeat k_extra "m"
      rename_i c12
      refine nsmall_spec (hg15.of_at c12) (hr'.mono (by decide) (by decide)) (CellAt.isListL (c12.cell (b := H) (c := Cell.list hv) List.mem_cons_self)) hHB (by rw [hHB.length, List.length_map]; exact hRW3) (by rw [hHB.length, List.length_map]; lia) (fun R1 s33 us1 ta tb rest hk33 hR1n hR1p hR1B htwo => ?_)
      have fR1 := c12.fresh hR1n
      have c13 := c12.kept hk33
      obtain ⟨g16, j6, c14, hR1p'⟩ := c13.sinkL fR1 hR1p
      replace hS5 := hS5.at fun b o => j6 b o
      have hg16 := hg15.keeps j6
      have hks16 : ∀ b o, s.heap.get? b = some o → g16.get? b = some o := fun b o q => j6 _ _ (hks15 _ _ q)
      replace hTp' := hTp'.at fun o => j6 T o
      replace hD3p' := hD3p'.at fun o => j6 D3 o
      clear c11 c12 c13 fR1 hR1n hR1p hk33 j6 hks15
      repeat k_extra "m"
      refine x_slice ?_
      refine pt_none ?_
      refine pt_some ?_
      repeat k_extra "m"
      refine pt_none ?_
      rename_i c15
      intro S1 s34 hk34 hS1n hS1o
      have c16 := c15.kept hk34
      refine k_sliceL (hD3p'.isList.at fun o => c16.fs.keep _ o) hS1o .none (.int _ _) .none (by simp) (by rw [hdB.length]; lia) rfl (fun R2 s35 hk35 hR2n hR2p => ?_)
      rw [show (some (2 : Int)) = some ((2 : Nat) : Int) from rfl, pick_upto] at hR2p
      have c17 := c16.kept hk35
      refine c_neL (d := 30) (u := 200) (hr'.mono (by decide) (by decide)) ⟨_, hR1p'.at fun o => c17.fs.keep _ o, hR1B⟩ ⟨_, hR2p, hdB.take 2⟩ ?_
      rw [two_first hdS hdP htwo.perm htwo.le htwo.below, beq_self_eq_true, Bool.not_true]
      clear c14 c15 c16 hR1p' hR1B htwo hR2p hR2n hk35 hk34 hS1n hS1o
      repeat k_extra "m"
      refine o_ff rfl ?_
      repeat k_extra "m"
      rename_i c18
      refine nlarge_spec (hg16.of_at c18) (hr'.mono (by decide) (by decide)) (CellAt.isListL (c18.cell (b := H) (c := Cell.list hv) List.mem_cons_self)) hHB (by rw [hHB.length, List.length_map]; exact hRW3) (by rw [hHB.length, List.length_map]; lia) (fun R3 s36 us3 ta tb rest hk36 hR3n hR3p hR3B htwo => ?_)
      have fR3 := c18.fresh hR3n
      have c19 := c18.kept hk36
      obtain ⟨g17, j7, c20, hR3p'⟩ := c19.sinkL fR3 hR3p
      replace hS5 := hS5.at fun b o => j7 b o
      have hg17 := hg16.keeps j7
      have hks17 : ∀ b o, s.heap.get? b = some o → g17.get? b = some o := fun b o q => j7 _ _ (hks16 _ _ q)
      replace hTp' := hTp'.at fun o => j7 T o
      replace hD3p' := hD3p'.at fun o => j7 D3 o
      clear c17 c18 c19 fR3 hR3n hR3p hk36 j7 hks16
      repeat k_extra "m"
      refine x_slice ?_
      refine pt_none ?_
      refine pt_none ?_
      refine pt_some ?_
      refine x_un ?_
      repeat k_extra "m"
      refine k_negI (fun t1 s37 hk37 => ?_)
      have c21 := At.kept (by assumption) hk37
      intro S2 s38 hk38 hS2n hS2o
      have c22 := c21.kept hk38
      refine k_sliceL (hD3p'.isList.at fun o => c22.fs.keep _ o) hS2o .none .none (.int _ _) (by decide) (by rw [hdB.length]; lia) rfl (fun R4 s39 hk39 hR4n hR4p => ?_)
      have hR4q : s39.heap.PlainList R4 vd.reverse.toArray := by rw [← show slicePick vd.toArray none none (some (-1)) = vd.reverse.toArray from krv_pick vd.toArray]; exact hR4p
      have fR4 := c22.fresh hR4n
      have c23 := c22.kept hk39
      obtain ⟨g18, j8, c24, hR4p'⟩ := c23.sinkL fR4 hR4q
      replace hS5 := hS5.at fun b o => j8 b o
      replace hTp' := hTp'.at fun o => j8 T o
      replace hD3p' := hD3p'.at fun o => j8 D3 o
      replace hR3p' := hR3p'.at fun o => j8 R3 o
      have hg18 := hg17.keeps j8
      have hks18 : ∀ b o, s.heap.get? b = some o → g18.get? b = some o := fun b o q => j8 _ _ (hks17 _ _ q)
      clear c20 c21 c22 c23 fR4 hR4n hR4p hR4q hk39 hk38 hk37 hS2n hS2o j8 hks17
      repeat k_extra "m"
      refine x_slice ?_
      refine pt_none ?_
      refine pt_some ?_
      repeat k_extra "m"
      refine pt_none ?_
      rename_i c25
      intro S3 s40 hk40 hS3n hS3o
      have c26 := c25.kept hk40
      refine k_sliceL (hR4p'.isList.at fun o => c26.fs.keep _ o) hS3o .none (.int _ _) .none (by simp) (by rw [List.length_reverse, hdB.length]; lia) rfl (fun R5 s41 hk41 hR5n hR5p => ?_)
      rw [show (some (2 : Int)) = some ((2 : Nat) : Int) from rfl, pick_upto] at hR5p
      have c27 := c26.kept hk41
      refine c_neL (d := 30) (u := 200) (hr'.mono (by decide) (by decide)) ⟨_, hR3p'.at fun o => c27.fs.keep _ o, hR3B⟩ ⟨_, hR5p, hdB.reverse.take 2⟩ ?_
      rw [two_last hdS hdP htwo.perm htwo.le htwo.below, beq_self_eq_true, Bool.not_true]
      clear c24 c25 c26 hR3p' hR3B htwo hR5p hR5n hk41 hk40 hS3n hS3o hR4p'
      repeat k_extra "m"
      refine o_ff rfl ?_
      repeat k_extra "m"
      refine w_ff rfl ?_
      repeat k_extra "m"
      have hvl : hv.length = ([shelfN M 0, shelfN M 1, shelfN M 2].flatten).length := by rw [hHB.length, List.length_map]
      have hheap := heapifyP_heap orderB hv
      have hpx : (heapifyP ltB hv).Perm hv := heapifyGo_perm ltB _ hv
      obtain ⟨x, xs, hxs⟩ : ∃ x xs, heapifyP ltB hv = x :: xs := by
        cases hh : heapifyP ltB hv with
        | nil => have := hpx.length_eq; rw [hh] at this; simp at this; lia
        | cons x xs => exact ⟨x, xs, rfl⟩
      refine heapify_spec (hb := g18) (lt := ltB) (S := IsB) hg18 c27.fs.keep (c27.fs.newW (H, Cell.list hv) List.mem_cons_self).1 (c27.cell (b := H) (c := Cell.list hv) List.mem_cons_self) (hr'.mono (by decide) (by decide)) cmpB hHB.all (by lia) (fun s42 hk42 hp42 => ?_)
      rw [hxs] at hp42 hpx hheap
      have c28 := c27.changeL (i := 0) rfl hk42 hp42
      dsimp only [List.set_cons_zero] at c28
      have hxB : ∀ v ∈ x :: xs, IsB v := fun v hv' => hHB.all v (hpx.mem_iff.mp hv')
      have hxl : xs.length + 1 = ([shelfN M 0, shelfN M 1, shelfN M 2].flatten).length := by have := hpx.length_eq; simp at this; rw [this]; exact hvl
      have hxk : ∀ y, y ∈ (x :: xs).map keyB ↔ y ∈ ([shelfN M 0, shelfN M 1, shelfN M 2].flatten).map e16 := fun y => by
        rw [(hpx.map keyB).mem_iff, hHB.keys]
      clear c27 hk42 hp42 hxs
      repeat k_extra "m"
      refine x_list ?_
      repeat k_extra "m"
      rename_i tZ sZ c29
      refine heapreplace_spec (hb := g18) (lt := ltB) (S := IsB) hg18 c29.fs.keep (c29.fs.newW (H, Cell.list (x :: xs)) List.mem_cons_self).1 (c29.cell (b := H) (c := Cell.list (x :: xs)) List.mem_cons_self) (hr'.mono (by decide) (by decide)) cmpB (fun v hv' => hxB v (List.mem_cons_of_mem _ hv')) (IsB.mk _ _) (by lia) (fun s43 hk43 hp43 => ?_)
      have c30 := c29.changeL (i := 0) rfl hk43 hp43
      dsimp only [List.set_cons_zero] at c30
      have hZl : ∀ r ∈ [shelfN M 0, shelfN M 1, shelfN M 2].flatten, oltB (e16 r) [90] = true := fun r hr => (row_facts (hRWm r hr)).z
      have htold0 := Told.start (al := ([shelfN M 0, shelfN M 1, shelfN M 2].flatten).map e16 ++ [[90]]) (item := .bytes (List.toArray [90]) tZ) hheap hxB (IsB.mk (List.toArray [90]) tZ) (fun v hv' => by
        obtain ⟨r, hr, e⟩ := List.mem_map.mp ((hxk (keyB v)).mp (List.mem_map_of_mem hv'))
        rw [← e]
        exact leB_of_lt (hZl r hr)) (fun y => by rw [hxk y, List.mem_append, List.mem_singleton]; rfl)
      have hsl : (siftupP ltB (Value.bytes (List.toArray [90]) tZ :: xs) 0).length = ([shelfN M 0, shelfN M 1, shelfN M 2].flatten).length := by
        rw [(siftupP_perm ltB _ 0).length_eq, List.length_cons]; exact hxl
      have hxB1 := hxB x List.mem_cons_self
      clear c28 c29 hk43 hp43 hheap hpx hxk hxl
      generalize siftupP ltB (Value.bytes (List.toArray [90]) tZ :: xs) 0 = hv1 at c30 htold0 hsl
      repeat k_extra "m"
      refine ⟨by simp, fun T2 s44 hk44 hT2n hT2p => ?_⟩
      have fT2 := c30.fresh hT2n
      have c31 := c30.kept hk44
      obtain ⟨g19, j9, c32, hT2p'⟩ := c31.sinkL fT2 hT2p
      replace hS5 := hS5.at fun b o => j9 b o
      replace hTp' := hTp'.at fun o => j9 T o
      replace hD3p' := hD3p'.at fun o => j9 D3 o
      have hg19 := hg18.keeps j9
      have hks19 : ∀ b o, s.heap.get? b = some o → g19.get? b = some o := fun b o q => j9 _ _ (hks18 _ _ q)
      clear c30 c31 fT2 hT2n hT2p hk44 j9 hks18
      repeat k_extra "m"
      have hF0 : FramesIn [] [] := ⟨(fun _ h => nomatch h), (fun _ h => nomatch h)⟩
      refine k_filterO (W := [(H, Cell.list hv1)]) (fcs := []) c32 hg19 ⟨_, hT2p', bytesAre_of [x] (fun v hv' => by cases List.mem_singleton.mp hv'; exact hxB1)⟩ ⟨[], hTp', .nil⟩ hfr' hfe he hF0 (hr'.mono (by decide) (by decide)) (by simp) (fun T3 us0 f0 s45 c33 u0 hT3 => ?_)
      cases u0
      replace c33 : At s g19 L _ [(T3, Cell.list us0), (H, Cell.list hv1)] s45 := c33
      replace hT3 : BytesAre us0 [keyB x] := hT3
      clear c32 hT2p' hTp'
      repeat k_extra "m"
      rename_i s46 c34
      clear c33
      refine wpAny_For ?_
      repeat k_extra "m"
      refine k_pyIterL (hD3p'.isList.at fun o => c34.fs.keep _ o) (fun I4 s47 hk47 hI4 hDI4 hit4 => ?_)
      have fI4 := c34.fresh hI4
      have c35 := c34.kept hk47
      have hdlv : vd.length = ([shelfN M 0, shelfN M 1, shelfN M 2].flatten).length := by rw [hdB.length, hdP.length_eq, List.length_map]
      have hDold : D3 ≠ L ∧ D3 ∉ [(T3, Cell.list us0), (H, Cell.list hv1)].map (·.1) := by
        obtain ⟨nn, q⟩ := hD3p'
        exact c35.old q
      refine x_for2 (fun i l W => ∃ T us hvi tl ut, l = ([("script", some (.ref sc)), ("k", uk), ("shelves", some (.ref D)), ("letters", some (.ref ML)), ("figures", some (.ref MF)), ("j", uj), ("n", un), ("rows", ur), ("text", ut), ("heap", some (.ref H)), ("told", some (.ref T)), ("due", some (.ref D3))] : List (Str × Option Value)) ∧ W = [(T, Cell.list us), (H, Cell.list hvi)] ∧ BytesAre us tl ∧ Told (([shelfN M 0, shelfN M 1, shelfN M 2].flatten).map e16 ++ [[90]]) tl hvi ∧ hvi.length + i = vd.length ∧ tl.length ≤ i + 1) c35 (Itr.list hr'.handled I4 D3 hDI4 vd) ⟨⟨_, hit4, rfl, rfl⟩, hD3p'.isList.at fun o => c35.fs.keep _ o⟩
        (fun b hb => ?_) (fun b hb => by cases List.mem_singleton.mp hb; exact fI4.1) ⟨T3, us0, hv1, _, _, rfl, rfl, hT3, htold0, by rw [hdlv, hsl]; rfl, Nat.le_refl 1⟩ ?_ ?_
      · rcases List.mem_cons.mp hb with rfl | hb
        · exact fI4.2
        · cases List.mem_singleton.mp hb
          exact hDold
      · intro i v l W h₁ s₅ E₅ hi3 hv' hJ k0 r0 a₁
        obtain ⟨T4, us, hvi, tl, ut, rfl, rfl, hus, htold, hlen, htll⟩ := hJ
        have hg1 : G w h₁ := hg19.keeps k0
        obtain ⟨xs', last, rfl⟩ : ∃ xs' last, hvi = xs' ++ [last] := by
          have hne : hvi ≠ [] := fun e => by rw [e] at hlen; simp at hlen; lia
          exact ⟨_, _, (List.dropLast_concat_getLast hne).symm⟩
        have hsz : xs'.length + 1 ≤ 54 := by simp at hlen; lia
        have htl : tl.length ≤ 200 := by simp at hlen; lia
        refine wpAny_assign_Name ?_
        repeat k_extra "m"
        refine x_list ?_
        repeat k_extra "m"
        rename_i a₂
        refine heappop_spec (hb := h₁) (lt := ltB) (S := IsB) hg1 a₂.fs.keep (a₂.fs.newW (H, Cell.list (xs' ++ [last])) (by simp)).1 (a₂.cell (b := H) (c := Cell.list (xs' ++ [last])) (by simp)) (hr'.mono (by decide) (by decide)) cmpB (fun v hv' => htold.isB v (by simp [hv'])) (htold.isB last (by simp)) (by lia) (fun s₆ hk6 hp6 => ?_)
        have a₃ := a₂.changeL (i := 1) rfl hk6 hp6
        dsimp only [List.set_cons_succ, List.set_cons_zero] at a₃
        obtain ⟨hstep, hxB2⟩ := htold.step
        have hpl := (pop_heap orderB htold.heap).2.1.length_eq
        clear a₁ a₂ hk6 hp6
        generalize popItem last xs' = y at a₃ hstep hxB2 hpl
        generalize popRest ltB last xs' = hv2 at a₃ hstep hpl
        repeat k_extra "m"
        refine ⟨by simp, fun T5 s₇ hk7 hT5n hT5p => ?_⟩
        have fT5 := a₃.fresh hT5n
        have a₄ := a₃.kept hk7
        obtain ⟨h₂, k2, a₅, hT5p'⟩ := a₄.sinkL fT5 hT5p
        have hg2 := hg1.keeps k2
        clear a₃ a₄ fT5 hT5n hT5p hk7
        repeat k_extra "m"
        refine x_slice ?_
        refine pt_some ?_
        refine x_un ?_
        repeat k_extra "m"
        refine k_negI (fun t1 s₈ hk8 => ?_)
        have a₆ := At.kept (by assumption) hk8
        refine pt_none ?_
        refine pt_none ?_
        intro S5 s₉ hk9 hS5n hS5o
        have a₇ := a₆.kept hk9
        refine k_sliceL (CellAt.isListL (a₇.cell (b := T4) (c := Cell.list us) List.mem_cons_self)) hS5o (.int _ _) .none .none (by simp) (by rw [hus.length]; lia) rfl (fun R6 s₁₀ hk10 hR6n hR6p => ?_)
        have hR6q : s₁₀.heap.PlainList R6 (us.drop (us.length - 1)).toArray := by rw [← pick_last]; exact hR6p
        have fR6 := a₇.fresh hR6n
        have a₈ := a₇.kept hk10
        obtain ⟨h₃, k3, a₉, hR6p'⟩ := a₈.sinkL fR6 hR6q
        have hg3 := hg2.keeps k3
        have hT5q := hT5p'.at fun o => k3 T5 o
        clear a₅ a₆ a₇ a₈ fR6 hR6n hR6p hR6q hk10 hk9 hk8 hS5n hS5o hT5p'
        repeat k_extra "m"
        have hdr : BytesAre (us.drop (us.length - 1)) (tl.drop (tl.length - 1)) := by rw [hus.length]; exact hus.drop _
        refine k_filter (W := [(T4, Cell.list us), (H, Cell.list hv2)]) (fcs := []) a₉ hg3 ⟨_, hT5q, bytesAre_of [y] (fun v hv' => by cases List.mem_singleton.mp hv'; exact hxB2)⟩ ⟨_, hR6p', hdr⟩ hfr' hfe he hF0 (hr'.mono (by decide) (by decide)) (by simp) (fun D4 h₄ f4 s₁₁ k4 a10 u4 hD4 => ?_)
        cases u4
        replace a10 : At s h₄ L _ [(T4, Cell.list us), (H, Cell.list hv2)] s₁₁ := a10
        obtain ⟨us4, hD4p, hD4B⟩ := hD4
        repeat k_extra "m"
        refine k_addL (CellAt.isListL (a10.cell (b := T4) (c := Cell.list us) List.mem_cons_self)) (hD4p.isList.at fun o => a10.fs.keep _ o) (by rw [hus.length, hD4B.length]; have := List.length_filter_le (fun x => decide (x ∉ tl.drop (tl.length - 1))) [keyB y]; unfold filterB; simp only [List.length_singleton] at this; simp only [List.map_cons, List.map_nil]; lia) (fun T6 s₁₂ hk12 hT6n hT6p => ?_)
        have fT6 := a10.fresh hT6n
        have a11 := (a10.kept hk12).add (b := T6) (xs := Cell.list _) hT6p fT6.1 fT6.2.1 fT6.2.2
        have a12 := (a11.shrink (fun b o q => k4 _ _ (k3 _ _ (k2 b o q)))).only (W' := [(T6, Cell.list (us ++ us4)), (H, Cell.list hv2)]) (fun p hp => by
          simp only [List.mem_cons, List.not_mem_nil, or_false] at hp ⊢
          rcases hp with rfl | rfl
          · exact .inl rfl
          · exact .inr (.inr rfl)) (by
          have nd := a11.fs.nd
          simp only [List.map_cons, List.map_nil, List.nodup_cons, List.mem_cons, List.not_mem_nil, or_false, not_or] at nd ⊢
          exact ⟨nd.1.2, nd.2.2⟩)
        clear a₉ a10 a11 hk12 hT6p hT6n fT6
        repeat k_extra "m"
        have hfl1 : (filterB (tl.drop (tl.length - 1)) [keyB y]).length ≤ 1 := List.length_filter_le _ _
        refine f2_next (by assumption) ⟨T6, us ++ us4, hv2, _, _, rfl, rfl, hus.app hD4B, hstep, ?_, ?_⟩
        · simp at hpl hlen
          lia
        · show (tl ++ filterB (tl.drop (tl.length - 1)) [keyB y]).length ≤ _
          rw [List.length_append]
          lia
      · rintro l W s48 ⟨T4, us, hvi, tl, ut, rfl, rfl, hus, htold, hlen, htll⟩ d1
        have hvi0 : hvi = [] := List.eq_nil_of_length_eq_zero (by lia)
        subst hvi0
        clear c34 c35 hit4 hk47 hI4 fI4 hT3 htold0 hsl
        repeat k_extra "m"
        refine BoolOp_and ?_
        repeat k_extra "m"
        refine k_set hr'.handled (hD3p'.isList.at fun o => d1.fs.keep _ o) hdB (by lia) (fun S6 s49 hk49 hS6n hS6 => ?_)
        have d2 := d1.kept hk49
        clear d1
        repeat k_extra "m"
        have hd2 : 2 ≤ (dedB yd).length := ded_two (a := e16 []) (b := e16 [0]) (hdP.mem_iff.mpr (List.mem_map_of_mem hR0)) (hdP.mem_iff.mpr (List.mem_map_of_mem hR1)) (by decide +kernel)
        refine k_sortedSet hr'.handled hS6 hd2 (by have := dedB_len yd; lia) (fun R7 s50 v7 y7 hk50 hR7n hR7p hR7B hR7P hR7S => ?_)
        have fR7 := d2.fresh hR7n
        obtain ⟨dr1, d3⟩ := d2.keptD hk50
        obtain ⟨g20, k20, d4, hR7q⟩ := d3.sinkL fR7 hR7p
        have hg20 := hg19.keeps k20
        have hy7 : y7.length ≤ 54 := by rw [hR7P.length_eq]; have := dedB_len yd; lia
        clear d2 d3 fR7 hR7n hR7p hk50 hk49 hS6 hS6n hd2
        repeat k_extra "m"
        refine x_list ?_
        repeat k_extra "m"
        rename_i tZ2 sZ2 d5
        refine ⟨by simp, fun D8 s51 hk51 hD8n hD8p => ?_⟩
        have fD8 := d5.fresh hD8n
        have d6 := d5.kept hk51
        obtain ⟨g21, k21, d7, hD8q⟩ := d6.sinkL fD8 hD8p
        have hg21 := hg20.keeps k21
        have hS21 := (hS5.at fun b o => k20 b o).at fun b o => k21 b o
        clear d4 d5 d6 fD8 hD8n hD8p hk51
        repeat k_extra "m"
        refine k_addL (hR7q.isList.at fun o q => d7.fs.keep _ _ (k21 _ _ q)) (hD8q.isList.at fun o q => d7.fs.keep _ _ q) (by rw [hR7B.length]; simp; lia) (fun D9 s52 hk52 hD9n hD9p => ?_)
        have d8 := d7.kept hk52
        clear d7
        have hsp := sorted_set hR7P hR7S
        have hm7 : ∀ x, x ∈ y7 ↔ x ∈ ([shelfN M 0, shelfN M 1, shelfN M 2].flatten).map e16 := fun x => (hsp.2 x).trans hdP.mem_iff
        have hTl : tl = y7 ++ [[90]] := strict_unique htold.st (List.pairwise_append.mpr ⟨hsp.1, by simp, fun a ha b hb => by
          cases List.mem_singleton.mp hb
          obtain ⟨r, hr, rfl⟩ := List.mem_map.mp ((hm7 a).mp ha)
          exact hZl r hr⟩) (fun x => by
          have := htold.mem x
          simp only [List.map_nil, List.not_mem_nil, or_false] at this
          rw [this, List.mem_append, List.mem_append, hm7])
        refine c_eqL (d := 30) (u := 200) (hr'.mono (by decide) (by decide)) ⟨us, d8.cell (b := T4) (c := Cell.list us) List.mem_cons_self, hus⟩ ⟨_, hD9p, hR7B.app (.cons [90] tZ2 .nil)⟩ ?_
        rw [show (tl == y7 ++ [[90]]) = true from by rw [hTl]; exact beq_self_eq_true _]
        repeat k_extra "m"
        rw [if_pos rfl]
        refine BoolOp_and ?_
        repeat k_extra "m"
        refine x_list ?_
        repeat k_extra "m"
        refine ⟨by simp, fun D11 s53 hk53 hD11n hD11p => ?_⟩
        have d9 := d8.kept hk53
        clear d8
        refine c_eqL (d := 30) (u := 200) (hr'.mono (by decide) (by decide)) ⟨[], d9.cell (b := H) (c := Cell.list []) (by simp), .nil⟩ ⟨[], hD11p, .nil⟩ ?_
        rw [beq_self_eq_true]
        repeat k_extra "m"
        rw [if_pos rfl]
        refine BoolOp_one ?_
        repeat k_extra "m"
        refine b_comp (s₀ := { s with drawn := dr1 }) (h₀ := g21) (L := L) (names' := [(Str.ofString ".0", .local), (Str.ofString "text", .local), (Str.ofString "b16decode", .globalImplicit)]) (cl := []) d16 (fun _ => true) (tl.take (tl.length - 1)) he ?ra ?rb (by simp) hr'.handled ?_
        case ra => exact ⟨rfl, by decide, by decide, rfl, ko_none (by decide), lk_none (by simp), by decide⟩
        case rb => exact clo_none rfl
        repeat k_extra "m"
        refine x_slice ?_
        refine pt_none ?_
        refine pt_some ?_
        refine x_un ?_
        repeat k_extra "m"
        refine k_negI (fun t2 s54 hk54 => ?_)
        have d10 := At.kept (by assumption) hk54
        refine pt_none ?_
        intro S7 s55 hk55 hS7n hS7o
        have d11 := d10.kept hk55
        refine k_sliceL (CellAt.isListL (d11.cell (b := T4) (c := Cell.list us) List.mem_cons_self)) hS7o .none (.int _ _) .none (by simp) (by rw [hus.length, hTl]; simp; lia) rfl (fun R12 s56 hk56 hR12n hR12p => ?_)
        have hR12q : s56.heap.PlainList R12 (us.take (us.length - 1)).toArray := by rw [← pick_init]; exact hR12p
        have d12 := d11.kept hk56
        have htk : tl.take (tl.length - 1) = y7 := by rw [hTl]; simp
        refine ⟨R12, _, _, _, rfl, d12, hR12q.isList, (by rw [hus.length]; exact hus.take _), (by rw [htk]; lia), fun C cenv ec hcf hcc y t hb s2 E2 hy a₂ k0 k1 => ?_, fun D13 us13 s57 e1 hB13 => ?_⟩
        · refine wpAny_tests_nil ⟨rfl, a₂, fun _ => ?_⟩
          have hgb : G w hb := hg21.keeps k0
          rw [htk] at hy
          obtain ⟨r, hr5, rfl⟩ := List.mem_map.mp ((hm7 y).mp hy)
          repeat k_extra "m"
          refine (read16 w).call _ _ _ _ r t (hRWm r hr5) (hgb.of_at a₂) (hr'.mono (by decide) (by decide)) (fun t' s' hk => ⟨⟨t', by rw [(read16 w).rd r (hRWm r hr5)]⟩, a₂.kept hk⟩)
        rw [List.filter_eq_self.mpr (fun _ _ => rfl), htk] at hB13
        clear d9 d10 d11 d12
        repeat k_extra "m"
        refine dbl_comp (s₀ := { s with drawn := dr1 }) (h₀ := g21) (L := L) (names' := [(Str.ofString ".0", .local), (Str.ofString "shelf", .local), (Str.ofString "row", .local)]) id [shelfN M 0, shelfN M 1, shelfN M 2] he ?rc ?rd (by simp) (by simp) (by decide) hr'.handled (by lia) ?_
        case rc => exact ⟨rfl, by decide, by decide, rfl, ko_none (by decide), lk_none (by simp), by decide⟩
        case rd => exact clo_none rfl
        repeat k_extra "m"
        refine ⟨_, _, _, rfl, e1, hS21.at fun b o => e1.fs.keep _ _, ?re, fun D14 us14 s58 e2 hB14 => ?_⟩
        case re =>
          intro C cenv ec r y t hb s2 E2 Q' hy a k0 hq
          exact ld_local ec a (by simp) (List.mem_cons_of_mem _ List.mem_cons_self) (by decide) (hq t s2 a)
        rw [List.map_id] at hB14
        clear e1
        repeat k_extra "m"
        refine k_set hr'.handled (CellAt.isListL (e2.cell (c := Cell.list us14) List.mem_cons_self)) hB14 (by lia) (fun S8 s59 hk59 hS8n hS8 => ?_)
        have e3 := e2.kept hk59
        clear e2
        repeat k_extra "m"
        refine k_sortedSet hr'.handled hS8 (ded_two hR0 hR1 (by decide)) (by have := dedB_len ([shelfN M 0, shelfN M 1, shelfN M 2].flatten); lia) (fun R9 s60 v9 y9 hk60 hR9n hR9p hR9B hR9P hR9S => ?_)
        obtain ⟨dr2, e4⟩ := e3.keptD hk60
        clear e3
        repeat k_extra "m"
        have hs9 := sorted_set hR9P hR9S
        refine c_eqL (d := 30) (u := 200) (hr'.mono (by decide) (by decide)) ⟨us13, e4.cell (b := D13) (c := Cell.list us13) (by simp), hB13⟩ ⟨_, hR9p, hR9B⟩ ?_
        have heq : y7.map d16 = y9 := strict_unique (strict_dec hsp.1 (fun z hz => by
          obtain ⟨r, hr5, e⟩ := List.mem_map.mp ((hm7 z).mp hz)
          exact ⟨r, hRWm r hr5, e.symm⟩) (read16 w).rd) hs9.1 (fun z => by
          rw [hs9.2 z]
          constructor
          · intro m
            obtain ⟨q, hq, rfl⟩ := List.mem_map.mp m
            obtain ⟨r, hr5, rfl⟩ := List.mem_map.mp ((hm7 q).mp hq)
            rw [(read16 w).rd r (hRWm r hr5)]
            exact hr5
          · intro m
            exact List.mem_map.mpr ⟨e16 z, (hm7 _).mpr (List.mem_map_of_mem m), (read16 w).rd z (hRWm z m)⟩)
        rw [show (y7.map d16 == y9) = true from by rw [heq]; exact beq_self_eq_true _]
        obtain ⟨hZ, tkZ, q, f⟩ := e4
        exact hQ _ ⟨hZ, tkZ, dr2, q, fun b o qq => f.keep _ _ (k21 _ _ (k20 _ _ (hks19 b o qq)))⟩
end

theorem law_at (w : World) : nsIn (hx.heap_1 w.params) mainGlobals (Str.ofString "law") = some (some (.ref 306)) := by k_is
theorem caller_room : Room callerA 40 400 := ⟨rfl, by decide, by decide⟩
end Mine
theorem PySem.Challenge.cw_kq0069_01_holds : PySem.Challenge.rw_kq0069_01.Holds := by
  refine Mine.hx ?_
  intro w s₀ s₁ mg mb Gr Y fa o pm cd doc dV kV ho hd hcd hD hmg hg args vals as hpre hlay hrd hwl hlo
  have KX := kIn_of Y
  have hT := topRead_of (Ground.T Gr)
  have hG : Mine.G w s₁.heap := ⟨KX, mg, mb, hT⟩
  have hf : mg (Str.ofString "law") = some (.ref fa) := hmg
  have hfa : fa = 306 := by
    have := mg_of KX hT.g (Mine.law_at w)
    rw [hf] at this
    cases this
    rfl
  subst hfa
  clear hd hcd hD hmg
  wrow_args hpre hlay hrd hwl hlo
  rename_i ns hs0 hlay0 hL1 hr1 hl2 a1 a2 sc vs a3 hL ra w1 r0 hI hr3 hc1 hc2
  refine Mine.law_spec hG hL hI (by rw [hI.length]; omega) rfl Mine.caller_room (fun s' hk => ?_)
  obtain ⟨h', tk, d, rfl, kk⟩ := hk
  exact GoodW.toG ⟨.inl ⟨.bool true, .bool true, [], rfl, fun _ => rfl, .bool _, (by first | kernel_rfl | with_unfolding_all rfl), fun _ => ⟨List.nodup_nil, fun a h => nomatch h⟩⟩, kk, rfl, hg⟩
