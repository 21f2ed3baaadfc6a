import PyProof.Rows.All
import Wide.All
import OpenK.AllK
import Wide.FinOn
import PySem.Challenge.RW_be5011_01
set_option maxRecDepth 100000
set_option autoImplicit false
set_option Elab.async false
set_option linter.all false

section
namespace Mine
open PySem PySem.Spec PySem.Calls PyProof.Rows PySem.W PySem.W.X

/-- the caller's own place, exactly: nothing is below it -/
def topCtx : PySem.Ctx := ⟨.builtin "claim.caller" {}, none, none, [], none⟩
/-- the caller's tree runs, from its own place, to an end that R takes -/
def RunsTo (prog : Program) (w : World) (t : Sem Fin) (R : Result → Shared → Prop) (s : Shared) : Prop :=
  Sem.wp (model prog w) topCtx t (Sem.finPost (model prog w) topCtx R) (fun e _ s' => R (.error e) s') default s
theorem finPost_mono' {M : Model} {Γ : PySem.Ctx} {R R' : Result → Shared → Prop} (h : ∀ r s, R r s → R' r s) {fin : Fin} {p : Pos} {s : Shared} (x : Sem.finPost M Γ R fin p s) : Sem.finPost M Γ R' fin p s := by
  cases fin with
  | done f => exact h _ _ x
  | again c => exact ⟨x.1, wpCode_mono h x.2⟩
theorem RunsTo.mono {prog : Program} {w : World} {t : Sem Fin} {R R' : Result → Shared → Prop} {s : Shared} (h : RunsTo prog w t R s) (m : ∀ r s', R r s' → R' r s') : RunsTo prog w t R' s :=
  Sem.wp_mono _ _ _ (fun _ _ _ x => finPost_mono' m x) (fun _ _ _ x => m _ _ x) _ _ h

def callTree (name : Str) (vs : List Value) : Sem Fin := do
  match ← nsGet mainNs name with
  | some f => do ret (← PySem.call f vs)
  | none => unsupported "claim.caller:no-such-global"

theorem callFrom_exact {c : ClaimW} {tree : List Value → Sem Fin} {w : World} {s : Shared} {free : Addr → Prop} {gens : Prop} {kept : Heap → Prop} (hz : s.asleep) (hgens : s.gens = #[])
    (hspec : ∀ args, c.pre args = true → WData.layableAll args = true →
      ∀ ord : List DictEntry → List DictEntry, (∀ l, (ord l).Perm l) →
      ∃ vs s₁, layAllW c.records (classAt s.heap) w.params ord args s = some (vs, s₁) ∧
        RunsTo c.prog w (tree vs) (fun r s' => c.Ends s args vs s₁ r s' ∧ s'.os = s.os ∧ AllBare s'.gens ∧ kept s'.heap) s₁) :
    c.CallFrom (fun vs => ⟨tree vs, .builtin "claim.caller" {}, default, []⟩) w free gens kept s := by
  intro args hpre hlay ord hord
  obtain ⟨vs, s₁, hlaid, hrun⟩ := hspec args hpre hlay ord hord
  have hrest := layAllW_rest _ _ _ hlaid
  have hsleep : s₁.asleep := Shared.asleep_of_life hrest.2.2.2 hz
  have hfull : RunsTo c.prog w (tree vs) (fun r s' => (c.Ends s args vs s₁ r s' ∧ s'.os = s.os ∧ kept s'.heap) ∧ leftWithCleanup s'.gens = false) s₁ :=
    hrun.mono fun _ _ x => ⟨⟨x.1, x.2.1, x.2.2.2⟩, leftWithCleanup_false_of_bare x.2.2.1⟩
  obtain ⟨k, r, s₂, s', hsched, hn, hforget, hends, hos, hkept⟩ := wp_halts_full (M := model c.prog w)
    (R := fun r s' => c.Ends s args vs s₁ r s' ∧ s'.os = s.os ∧ kept s'.heap) hsleep hfull
  obtain ⟨eheap, _, _, eos, _⟩ := Shared.forget_eq hforget
  have hends := hends.congr eheap
  have hkept : kept s'.heap := by rw [eheap]; exact hkept
  have hos' : s'.os = s.os := eos.trans hos
  have hlife : s'.heap.life = s.heap.life := (runN_life _ _ _ hn).trans hrest.2.2.2
  refine ⟨vs, s₁, hlaid, k, _, s', hsched, ?_, (fun _ i x hx => by rw [hgens] at hx; simp at hx), hkept, by rw [hlife], Shared.rest_eq hos'⟩
  rcases hends with ⟨v, rfl, d1, d2, d3, d4, d5⟩ | ⟨e, ob, cls, rfl, d1, d2, d3, d4, d5⟩
  · exact .inl ⟨v, rfl, d1, d2, d3, fun b o y _ => d4 b o y, d5⟩
  · exact .inr ⟨e, ob, cls, rfl, d1, d2, d3, d4, fun b o y _ => d5 b o y⟩

/-- what is asked of the call, from the exact place -/
abbrev WalkE (q : Program) (loose : List Str) (XP : (Str → Option Value) → Heap → Prop) {α : Type} (Yf : Shared → α) (Ya : World → α) (r : RowW) : Prop :=
  ∀ (w : World) (s₀ s₁ : Shared) (mg mb : Str → Option Value), Ground q loose r.records XP w s₀ mg mb s₁.heap → Yf s₀ = Ya w → s₁.gens = #[] →
    ∀ (args : List WData) (vals : List Value) (as : List Addr), Laid r.records w s₀ s₁ args vals as → r.claim.pre args = true → WData.layableAll args = true →
      RunsTo r.prog w (callTree r.name vals) (GoodWG r.claim (classAt s₀.heap) (ExcName.means s₀.heap) args s₁) s₁

theorem PySem.W.holds_openX {r : OpenRow} {q : Program} {loose : List Str} {Xt : Shared → Bool} {XP : (Str → Option Value) → Heap → Prop} {α : Type} {Yf : Shared → α} {Ya : World → α} {d : DefRec} {kwd : List (Str × Expr)} {N : Nat}
    (left : LeftO r.prog q loose Xt Yf Ya N)
    (hX : ∀ s, Xt s = true → XP (s.heap.nsMap mainGlobals) s.heap) (hXk : ∀ mg h h', XP mg h → (∀ b o, h.get? b = some o → h'.get? b = some o) → XP mg h')
    (hdef : defOf q r.name = some (d, kwd)) (hp : r.prog.theDef r.name = some (d.params, d.body, d.scope)) (hk : kwWritten? d.params.kwonlyargs d.params.kw_defaults = some kwd) (hRf : ∀ s, Xt s = true → RecFacts r.records s.heap) (hwr : (!r.writes || r.records.isEmpty) = true)
    (k1 : r.wellSaid = true) (ok : (chainsOk q && opensWell r.prog && (frees r.toRowW && r.within.isEmpty)) = true) (hb : r.prog.bare) (hw : r.toRowW.promised)
    (call : WalkE q loose XP Yf Ya r.toRowW) : r.Holds := by
  obtain ⟨ok12, ok3⟩ := Bool.and_eq_true_iff.mp ok
  obtain ⟨hch, hopen⟩ := Bool.and_eq_true_iff.mp ok12
  obtain ⟨hfrees, hwithin⟩ := Bool.and_eq_true_iff.mp ok3
  obtain ⟨hsame, hu, ha, hap, hm⟩ := frees_parts hfrees
  have hwi : r.toRowW.claim.within = [] := List.isEmpty_iff.mp hwithin
  refine ⟨k1, hw, ⟨hb, hopen, by show r.makers.map _ = []; rw [hm]; rfl⟩, hw.witness, fun w => ⟨(left.behind hX hch w).1, fun s' hs' => ?_⟩⟩
  obtain ⟨s₀, hf, hg0, s, hT, hz, hgens, hg, G0, y⟩ := (left.behind (XP := fun mg h => XP mg h ∧ RecFacts r.records h) (fun s hs => ⟨hX s hs, hRf s hs⟩) hch w).2 s' hs'
  have Gbare : Ground q loose [] XP w s (s.heap.nsMap mainGlobals) (s.heap.nsMap builtinsNs) s.heap := ⟨G0.T, G0.B, G0.D, G0.TE, G0.TD, G0.W, G0.X.1, G0.cls, G0.has, G0.apart, G0.once, G0.K⟩
  have RF := G0.X.2
  have G : Ground q loose r.records XP w s _ _ s.heap := RF.ground Gbare
  have hge : s.gens = #[] := Array.eq_empty_of_size_eq_zero (beq_iff_eq.mp hgens)
  have hT' := hT
  refine ⟨s₀, hf, hg0, s, hT, fun n hn => ?_, RF.1, RF.2.1, ?_⟩
  · obtain rfl : n = r.name := by split at hn <;> simp_all
    exact pinned_of_view hg Gbare hdef hp hk
  · refine callFrom_exact (c := r.toRowW.claim) (tree := callTree r.name) hz hge fun args hpre hlay ord hord => ?_
    obtain ⟨⟨vs, s₁⟩, hlaid⟩ := Option.isSome_iff_exists.mp (layAllW_isSome (P := w.params) (ord := ord) G.has args r.args s (pre_splitW hpre).1)
    have keeps := layAllW_keeps _ _ _ hlaid
    have hal := layAllW_rest _ _ _ hlaid
    obtain ⟨as, hrd, hin, hold⟩ := reads_layAllW hord _ _ _ hlaid hlay s₁.heap (fun _ _ e => e)
    have L : Laid r.records w s s₁ args vs as := ⟨⟨ord, hord, hlaid⟩, hrd, hin, hold, keeps, hal.1.trans hge, hal.2.2.1⟩
    exact ⟨vs, s₁, hlaid, (call w s s₁ _ _ (G.keeps hXk keeps) y L.gens args vs as L hpre hlay).mono fun res s₂ g =>
      have z := g.laid (c := r.toRowW.claim) hsame hwi (ident_freeW hu ha hap) L
      ⟨z.1, z.2.1, z.2.2, fun q => ⟨namesKept_of hT' hg r.keeps keeps g.2.1.old, noTable hwr q⟩⟩⟩
end Mine
end

section
open PySem PySem.Spec PySem.Calls PyProof.Rows PySem.W PySem.W.X
namespace Mine

/-! the fast twins of the interpreter -/
noncomputable def dQ : Code → Sem PySem.Fin := PySem.W.Fast.tw11892475500146522536 PySem.W.Fast.tw14364793385576792824
theorem dQ_eq : denote table = dQ := by
  rw [PySem.table_eq_tree, PySem.W.Fast.te11892475500146522536, PySem.W.Fast.te14364793385576792824]; rfl
noncomputable def qQ : Code → Bool := PySem.W.ZFast.zw17772548960776305114
theorem qQ_eq : Code.quiet = qQ := PySem.W.ZFast.ze17772548960776305114

/-! the known part of the heap: a trie, ten deep; below 256 an object's place is its address less 529 -/
inductive OT where
  | nil
  | leaf (a : Nat) (o : Obj)
  | node (l r : OT)
namespace OT
def left : OT → OT
  | .node l _ => l
  | _ => .nil
def right : OT → OT
  | .node _ r => r
  | _ => .nil
def top : OT → Option (Nat × Obj)
  | .leaf a o => some (a, o)
  | _ => none
noncomputable def getK (k : Nat) : OT → Nat → Option (Nat × Obj) :=
  @Nat.rec (fun _ => OT → Nat → Option (Nat × Obj)) (fun t _ => t.top) (fun _ ih t i => @Bool.rec (fun _ => Option (Nat × Obj)) (ih t.left (i / 2)) (ih t.right (i / 2)) (Nat.beq (i % 2) 1)) k
noncomputable def putK (k : Nat) : OT → Nat → Nat → Obj → OT :=
  @Nat.rec (fun _ => OT → Nat → Nat → Obj → OT) (fun _ _ a o => .leaf a o)
    (fun _ ih t i a o => @Bool.rec (fun _ => OT) (.node (ih t.left (i / 2) a o) t.right) (.node t.left (ih t.right (i / 2) a o)) (Nat.beq (i % 2) 1)) k
noncomputable def get (t : OT) (i : Nat) : Option (Nat × Obj) := getK 10 t i
noncomputable def put (t : OT) (i a : Nat) (o : Obj) : OT := putK 10 t i a o
theorem beq_one (i : Nat) : Nat.beq (i % 2) 1 = decide (i % 2 = 1) := by
  cases h : Nat.beq (i % 2) 1 with
  | true => exact (decide_eq_true (Nat.eq_of_beq_eq_true h)).symm
  | false => exact (decide_eq_false (Nat.ne_of_beq_eq_false h)).symm
theorem getK_putK : ∀ (k : Nat) (t : OT) (i a : Nat) (o : Obj) (j : Nat), getK k (putK k t i a o) j = if i % 2 ^ k = j % 2 ^ k then some (a, o) else getK k t j
  | 0, t, i, a, o, j => by
    have e1 : i % 2 ^ 0 = j % 2 ^ 0 := by simp [Nat.mod_one]
    rw [if_pos e1]; rfl
  | k + 1, t, i, a, o, j => by
    have h1 : getK (k + 1) (putK (k + 1) t i a o) j = @Bool.rec (fun _ => Option (Nat × Obj)) (getK k (putK (k + 1) t i a o).left (j / 2)) (getK k (putK (k + 1) t i a o).right (j / 2)) (Nat.beq (j % 2) 1) := rfl
    have h2 : putK (k + 1) t i a o = @Bool.rec (fun _ => OT) (.node (putK k t.left (i / 2) a o) t.right) (.node t.left (putK k t.right (i / 2) a o)) (Nat.beq (i % 2) 1) := rfl
    have h3 : getK (k + 1) t j = @Bool.rec (fun _ => Option (Nat × Obj)) (getK k t.left (j / 2)) (getK k t.right (j / 2)) (Nat.beq (j % 2) 1) := rfl
    have key : (i % 2 ^ (k + 1) = j % 2 ^ (k + 1)) ↔ (i % 2 = j % 2 ∧ i / 2 % 2 ^ k = j / 2 % 2 ^ k) := by
      rw [Nat.pow_succ, Nat.mul_comm, Nat.mod_mul, Nat.mod_mul]
      constructor
      · intro h; constructor <;> omega
      · rintro ⟨h, h'⟩; rw [h, h']
    rw [h1, h2, h3, beq_one, beq_one]
    by_cases pi : i % 2 = 1 <;> by_cases pj : j % 2 = 1
    · rw [decide_eq_true pi, decide_eq_true pj]
      show getK k (putK k t.right (i / 2) a o) (j / 2) = _
      rw [getK_putK k]
      have : (i % 2 ^ (k + 1) = j % 2 ^ (k + 1)) ↔ i / 2 % 2 ^ k = j / 2 % 2 ^ k := by rw [key]; exact ⟨fun h => h.2, fun h => ⟨by omega, h⟩⟩
      by_cases q : i / 2 % 2 ^ k = j / 2 % 2 ^ k
      · rw [if_pos q, if_pos (this.mpr q)]
      · rw [if_neg q, if_neg (fun z => q (this.mp z))]
    · rw [decide_eq_true pi, decide_eq_false pj, if_neg (fun z => by have := (key.mp z).1; omega)]
      rfl
    · rw [decide_eq_false pi, decide_eq_true pj, if_neg (fun z => by have := (key.mp z).1; omega)]
      rfl
    · rw [decide_eq_false pi, decide_eq_false pj]
      show getK k (putK k t.left (i / 2) a o) (j / 2) = _
      rw [getK_putK k]
      have : (i % 2 ^ (k + 1) = j % 2 ^ (k + 1)) ↔ i / 2 % 2 ^ k = j / 2 % 2 ^ k := by rw [key]; exact ⟨fun h => h.2, fun h => ⟨by omega, h⟩⟩
      by_cases q : i / 2 % 2 ^ k = j / 2 % 2 ^ k
      · rw [if_pos q, if_pos (this.mpr q)]
      · rw [if_neg q, if_neg (fun z => q (this.mp z))]
theorem get_put (t : OT) (i a : Nat) (o : Obj) (j : Nat) : (t.put i a o).get j = if i % 1024 = j % 1024 then some (a, o) else t.get j := getK_putK 10 t i a o j
end OT

/-! what stands still through the call -/
structure Bx where
  prog : Program
  w : World
  /-- what stands still -/
  fz : Nat → Obj → Prop
  kt : KT
  d : Drawn
  os : OsState
  /-- the activations below -/
  acts : List (Code × Pos)
/-- n: how many more levels may be entered -/
structure Bx.Ok (B : Bx) (n : Nat) : Prop where
  kt : ∀ a o, B.kt.get a = some o → B.fz a o
  units : unitsOf B.acts + 620 * n ≤ 4000
def Bx.shr (B : Bx) (h : Heap) (tk : Nat) : Shared := ⟨h, #[], B.d, tk, B.os⟩
abbrev Bx.M (B : Bx) : Model := model B.prog B.w

/-- the heap is as the trie tells; places from 1000 on are read only, of things that stand still -/
structure Rp (B : Bx) (T : OT) (sz : Nat) (h : Heap) : Prop where
  size : h.objs.size = sz
  own : ∀ i a o, T.get i = some (a, o) → i % 1024 < 1000 → h.get? a = some o ∧ ∀ o', ¬ B.fz a o'
  ro : ∀ i a o, T.get i = some (a, o) → ¬ i % 1024 < 1000 → B.fz a o
  inj : ∀ i j a o o', T.get i = some (a, o) → T.get j = some (a, o') → i % 1024 < 1000 → j % 1024 < 1000 → i % 1024 = j % 1024
  keep : ∀ b o, B.fz b o → h.get? b = some o
theorem getK_nil : ∀ (k i : Nat), OT.getK k .nil i = none
  | 0, _ => rfl
  | k + 1, i => by
    show @Bool.rec (fun _ => Option (Nat × Obj)) (OT.getK k .nil (i / 2)) (OT.getK k .nil (i / 2)) (Nat.beq (i % 2) 1) = none
    rw [getK_nil k]; cases Nat.beq (i % 2) 1 <;> rfl
theorem get_nil (i : Nat) : OT.get .nil i = none := getK_nil 10 i
theorem Rp.start (B : Bx) (h : Heap) (keep : ∀ b o, B.fz b o → h.get? b = some o) : Rp B .nil h.objs.size h :=
  ⟨rfl, fun i a o e => (by rw [get_nil] at e; cases e), fun i a o e => (by rw [get_nil] at e; cases e), fun i j a o o' e => (by rw [get_nil] at e; cases e), keep⟩
section
variable {B : Bx} {T : OT} {sz : Nat} {h : Heap}
theorem Rp.at {i a : Nat} {o : Obj} (D : Rp B T sz h) (e : T.get i = some (a, o)) : h.get? a = some o := by
  by_cases q : i % 1024 < 1000
  · exact (D.own i a o e q).1
  · exact D.keep a o (D.ro i a o e q)
theorem Rp.old {n : Nat} (O : B.Ok n) {a : Addr} {o : Obj} (D : Rp B T sz h) (e : B.kt.get a = some o) : h.get? a = some o := D.keep a o (O.kt a o e)
theorem Rp.lt {i a : Nat} {o : Obj} (D : Rp B T sz h) (e : T.get i = some (a, o)) : a < sz := D.size ▸ Heap.lt_size (D.at e)
/-- the heap has grown -/
theorem Rp.grow (D : Rp B T sz h) {h' : Heap} (g : ∀ b o, h.get? b = some o → h'.get? b = some o) : Rp B T h'.objs.size h' :=
  ⟨rfl, fun i a o e q => ⟨g _ _ (D.own i a o e q).1, (D.own i a o e q).2⟩, D.ro, D.inj, fun b o e => g _ _ (D.keep b o e)⟩
theorem Rp.push (D : Rp B T sz h) {o : Obj} : Rp B T (sz + 1) (h.push o) := by
  have := D.grow (h' := h.push o) (fun b o' e => Heap.get?_push_of_some _ e)
  rw [Heap.size_push, D.size] at this
  exact this
/-- a thing nobody speaks of yet is written down -/
theorem Rp.put (D : Rp B T sz h) {i a : Nat} {o : Obj} (hi : i % 1024 < 1000) (ho : h.get? a = some o) (hz : ∀ o', ¬ B.fz a o') (new : ∀ j o', T.get j = some (a, o') → j % 1024 < 1000 → i % 1024 = j % 1024) : Rp B (T.put i a o) sz h := by
  refine ⟨D.size, fun j b o' e hj => ?_, fun j b o' e hj => ?_, fun j k b o' o'' e e' hj hk => ?_, D.keep⟩
  · rw [OT.get_put] at e
    by_cases q : i % 1024 = j % 1024
    · rw [if_pos q] at e; cases e; exact ⟨ho, hz⟩
    · rw [if_neg q] at e; exact D.own j b o' e hj
  · rw [OT.get_put] at e
    by_cases q : i % 1024 = j % 1024
    · rw [← q] at hj; exact absurd hi hj
    · rw [if_neg q] at e; exact D.ro j b o' e hj
  · rw [OT.get_put] at e e'
    by_cases q : i % 1024 = j % 1024 <;> by_cases q' : i % 1024 = k % 1024
    · rw [← q, ← q']
    · rw [if_pos q] at e; cases e
      rw [if_neg q'] at e'; exact absurd (new k o'' e' hk) q'
    · rw [if_pos q'] at e'; cases e'
      rw [if_neg q] at e; exact absurd (new j o' e hj) q
    · rw [if_neg q] at e; rw [if_neg q'] at e'; exact D.inj j k b o' o'' e e' hj hk
/-- what stands still may be written down to be read -/
theorem Rp.note (D : Rp B T sz h) {i a : Nat} {o : Obj} (hi : ¬ i % 1024 < 1000) (hz : B.fz a o) : Rp B (T.put i a o) sz h := by
  refine ⟨D.size, fun j b o' e hj => ?_, fun j b o' e hj => ?_, fun j k b o' o'' e e' hj hk => ?_, D.keep⟩
  · rw [OT.get_put] at e
    by_cases q : i % 1024 = j % 1024
    · rw [← q] at hj; exact absurd hj hi
    · rw [if_neg q] at e; exact D.own j b o' e hj
  · rw [OT.get_put] at e
    by_cases q : i % 1024 = j % 1024
    · rw [if_pos q] at e; cases e; exact hz
    · rw [if_neg q] at e; exact D.ro j b o' e hj
  · rw [OT.get_put] at e e'
    by_cases q : i % 1024 = j % 1024
    · rw [← q] at hj; exact absurd hj hi
    · by_cases q' : i % 1024 = k % 1024
      · rw [← q'] at hk; exact absurd hk hi
      · rw [if_neg q] at e; rw [if_neg q'] at e'; exact D.inj j k b o' o'' e e' hj hk
theorem Rp.alloc (D : Rp B T sz h) {o : Obj} (hf : o.isFreed = false) (i : Nat) (hi : i % 1024 < 1000) : Rp B (T.put i sz o) (sz + 1) (h.push o) := by
  have new : (h.push o).get? sz = some o := by rw [← D.size]; exact Heap.get?_push_size _ hf
  exact (D.push (o := o)).put hi new (fun o' e => Nat.lt_irrefl _ (D.size ▸ Heap.lt_size (D.keep _ _ e))) fun j o' e _ => absurd (D.lt e) (Nat.lt_irrefl _)
theorem Rp.update (D : Rp B T sz h) {i a : Nat} {o o1 : Obj} {h' : Heap} (e : T.get i = some (a, o)) (hi : i % 1024 < 1000) (hs : Heap.SameBut a h h') (new : h'.get? a = some o1) : Rp B (T.put i a o1) sz h' := by
  obtain ⟨ha, hz⟩ := D.own i a o e hi
  refine ⟨by rw [hs.1, D.size], fun j b o' e' hj => ?_, fun j b o' e' hj => ?_, fun j k b o' o'' e1 e2 hj hk => ?_, fun b o' e' => ?_⟩
  · rw [OT.get_put] at e'
    by_cases q : i % 1024 = j % 1024
    · rw [if_pos q] at e'; cases e'; exact ⟨new, hz⟩
    · rw [if_neg q] at e'
      obtain ⟨x, y⟩ := D.own j b o' e' hj
      refine ⟨(hs.2 b fun z => ?_).trans x, y⟩
      subst z
      exact q (D.inj i j _ _ _ e e' hi hj)
  · rw [OT.get_put] at e'
    by_cases q : i % 1024 = j % 1024
    · rw [← q] at hj; exact absurd hi hj
    · rw [if_neg q] at e'; exact D.ro j b o' e' hj
  · rw [OT.get_put] at e1 e2
    by_cases q : i % 1024 = j % 1024 <;> by_cases q' : i % 1024 = k % 1024
    · rw [← q, ← q']
    · rw [if_pos q] at e1; cases e1
      rw [if_neg q'] at e2; exact absurd (D.inj i k _ _ _ e e2 hi hk) q'
    · rw [if_pos q'] at e2; cases e2
      rw [if_neg q] at e1; exact absurd (D.inj i j _ _ _ e e1 hi hj) q
    · rw [if_neg q] at e1; rw [if_neg q'] at e2; exact D.inj j k b o' o'' e1 e2 hj hk
  · exact (hs.2 b fun z => hz o' (z ▸ e')).trans (D.keep b o' e')
end

/-! what is left to do: the activations below -/
inductive Kn where
  | base
  | ret (fl : Bool) (c : Code) (p : Pos) (k : Result → Sem PySem.Fin) (κ : Kn)
def Kn.acts (b : List (Code × Pos)) : Kn → List (Code × Pos)
  | .base => b
  | .ret _ c p _ κ => (c, p) :: κ.acts b
def ctxOf (b : List (Code × Pos)) (c : Code) (κ : Kn) : PySem.Ctx := ⟨c, none, none, κ.acts b, none⟩
def EndK (M : Model) (b : List (Code × Pos)) (R₀ : Result → Shared → Prop) : Kn → Result → Shared → Prop
  | .base => R₀
  | .ret _ c p k κ => fun r s => Sem.wp M (ctxOf b c κ) (k r) (Sem.finPost M (ctxOf b c κ) (EndK M b R₀ κ)) (fun e _ s' => EndK M b R₀ κ (.error e) s') p s
def Mn (M : Model) (b : List (Code × Pos)) (R₀ : Result → Shared → Prop) (c : Code) (κ : Kn) (t : Sem PySem.Fin) (p : Pos) (s : Shared) : Prop :=
  Sem.wp M (ctxOf b c κ) t (Sem.finPost M (ctxOf b c κ) (EndK M b R₀ κ)) (fun e _ s' => EndK M b R₀ κ (.error e) s') p s
theorem Mn.code {M : Model} {b : List (Code × Pos)} {R₀ : Result → Shared → Prop} {c : Code} {κ : Kn} {p : Pos} {s : Shared} (h : Mn M b R₀ c κ (M.den c) p s) : wpCode M (ctxOf b c κ) (EndK M b R₀ κ) p s :=
  (wpCode_iff_wp ..).mpr h

structure Cf where
  c : Code
  κ : Kn
  t : Sem PySem.Fin
  p : Pos
  T : OT
  m : Nat
  sz : Nat
  tk : Nat
def MnC (B : Bx) (R₀ : Result → Shared → Prop) (f : Cf) : Prop := ∀ h, Rp B f.T f.sz h → Mn B.M B.acts R₀ f.c f.κ f.t f.p (B.shr h f.tk)

/-- a check to be made: two things of one type are one -/
structure Ob where
  α : Type
  l : α
  r : α
def Ob.ok (o : Ob) : Prop := o.l = o.r
def lefts (obs : List Ob) : List (Sigma fun α : Type => α) := obs.map fun o => ⟨o.α, o.l⟩
def rights (obs : List Ob) : List (Sigma fun α : Type => α) := obs.map fun o => ⟨o.α, o.r⟩
theorem ok_of_same : ∀ {obs : List Ob}, lefts obs = rights obs → ∀ o ∈ obs, o.ok
  | [], _, _, h => nomatch h
  | o :: obs, e, x, h => by
    simp only [lefts, rights, List.map_cons, List.cons.injEq] at e
    rcases List.mem_cons.mp h with rfl | h
    · exact eq_of_heq (Sigma.mk.inj e.1).2
    · exact ok_of_same e.2 x h

/-- a call that is leapt over -/
structure JRes where
  v : Value
  T : OT
  m : Nat
  sz : Nat
  tk : Nat
  obs : List Ob
/-- the code, called from any place within A -/
def CodeAt (M : Model) (A : Around) (c : Code) (R : Result → Shared → Prop) (s : Shared) : Prop := ∀ (Γ : PySem.Ctx) (p : Pos), Γ.In A → wpCode M (Γ.enter c none p) R p s
theorem CodeAt.of_any {M : Model} {A : Around} {c : Code} {R : Result → Shared → Prop} {s : Shared} (h : codeAny M A c R s) : CodeAt M A c R s := fun Γ p hin =>
  h (Γ.enter c none p) p rfl (by have := hin.enter c none p (fun e => nomatch e); exact this)
theorem CodeAt.of_call {M : Model} {A : Around} {f : Value} {vs : List Value} {R : Result → Shared → Prop} {s : Shared} {Q E : Value → Shared → Prop} (h : wpAny M A (PySem.call f vs) Q E s)
    (hQ : ∀ v s', Q v s' → R (.ok (.ret v)) s') (hE : ∀ e s', E e s' → R (.error e) s') : CodeAt M A (.call f ⟨vs, []⟩) R s := fun Γ p hin => by
  have z := h Γ p hin
  unfold PySem.call runValue at z
  have z' : Sem.wp M Γ (Sem.bind (PySem.run (.call f ⟨vs, []⟩)) fun x => match x with | .ret v => pure v | _ => unsupported "internal:call-without-return-value") (fun a _ s' => Q a s') (fun e _ s' => E e s') p s := z
  rw [Sem.wp_bind] at z'
  unfold PySem.run at z'
  rw [Sem.wp_call] at z'
  refine wpCode_mono (fun r s' x => ?_) z'
  cases r with
  | ok f => cases f with
    | ret v => exact hQ _ _ x
    | _ => exact False.elim x
  | error e => exact hE _ _ x
structure Jm (B : Bx) where
  f : Code → OT → Nat → Nat → Nat → Option JRes
  ok : ∀ c T m sz tk r, f c T m sz tk = some r → (∀ o ∈ r.obs, o.ok) → ∀ (A : Around) (R : Result → Shared → Prop) (h : Heap), A.handled = none → A.units ≤ 4000 → Rp B T sz h →
    (∀ h', Rp B r.T r.sz h' → R (.ok (.ret r.v)) (B.shr h' r.tk)) → CodeAt B.M A c R (B.shr h tk)

inductive Hn (B : Bx) where
  | int (i i' : Int) (h : i = i')
  | bool (b b' : Bool) (h : b = b')
  | jump (j : Jm B)

structure Out where
  why : Nat
  left : Nat
  cf : Cf
  obs : List Ob
def Out.Ok (B : Bx) (R₀ : Result → Shared → Prop) (o : Out) : Prop := (∀ x ∈ o.obs, x.ok) ∧ MnC B R₀ o.cf

/-- the world's two sayings that are asked, laid open -/
def turned (P : Params) (b c : Bool) : Params :=
  { P with followText := fun r => match Nat.beq (PySem.code r) (PySem.code "special-get-raises") with
      | true => b
      | false => match Nat.beq (PySem.code r) (PySem.code "comprehension-iter-twice") with
        | true => c
        | false => P.followText r }
theorem turned_eq (P : Params) : turned P (P.followText "special-get-raises") (P.followText "comprehension-iter-twice") = P := by
  unfold turned
  have : (fun r => match Nat.beq (PySem.code r) (PySem.code "special-get-raises") with
      | true => P.followText "special-get-raises"
      | false => match Nat.beq (PySem.code r) (PySem.code "comprehension-iter-twice") with
        | true => P.followText "comprehension-iter-twice"
        | false => P.followText r) = P.followText := by
    funext r
    cases h : Nat.beq (PySem.code r) (PySem.code "special-get-raises") with
    | true => rw [PySem.code_inj _ _ (Nat.eq_of_beq_eq_true h)]
    | false =>
      cases h' : Nat.beq (PySem.code r) (PySem.code "comprehension-iter-twice") with
      | true => rw [PySem.code_inj _ _ (Nat.eq_of_beq_eq_true h')]
      | false => rfl
  rw [this]
/-- the setting as it is asked: P, b, c are the world's own -/
structure Gx where
  prog : Program
  P : Params
  b : Bool
  c : Bool
  kt : KT
  /-- the activations below -/
  acts : List (Code × Pos)
def Gx.of (G : Gx) (b : Bool) : Setting := ⟨G.prog, turned G.P b G.c⟩
structure Gx.Fits (G : Gx) (B : Bx) : Prop where
  prog : B.prog = G.prog
  P : B.w.params = turned G.P G.b G.c
  kt : B.kt = G.kt
  acts : B.acts = G.acts

abbrev Rn (B : Bx) := Code → Kn → Sem PySem.Fin → Pos → OT → Nat → Nat → Nat → Nat → List (Hn B) → List Ob → Out
def leaf (r : Result) : Sem PySem.Fin := match r with
  | .ok f => .pure (.done f)
  | .error e => .raise e
def lenOk (κ : Kn) (n : Nat) : Bool := match n with
  | 0 => false
  | n + 1 => match κ with
    | .base => true
    | .ret _ _ _ _ κ => lenOk κ n

noncomputable def hPure (B : Bx) (G : Gx) (lit : Bool) (n : Nat) (ih : Rn B) (c : Code) (κ : Kn) (p : Pos) (T : OT) (m sz tk hs : Nat) (js : List (Hn B)) (obs : List Ob) (fin : PySem.Fin) : Out :=
  match fin with
    | .done f => match κ with
      | .base => ⟨1, n, ⟨c, κ, (.pure fin), p, T, m, sz, tk⟩, obs⟩
      | .ret fl c' p' k κ' => match fl with
        | false => ih c' κ' (k (.ok f)) p' T m sz tk hs js obs
        | true => match f with
          | .ret v => match v with
            | .int x tok => match js with
              | j :: js => match j with
                | .int i i' _ => ih c' κ' (k (.ok (.ret (.int i' tok)))) p' T m sz tk hs js (⟨Int, x, i⟩ :: obs)
                | _ => ⟨2, n, ⟨c, κ, (.pure fin), p, T, m, sz, tk⟩, obs⟩
              | [] => ⟨2, n, ⟨c, κ, (.pure fin), p, T, m, sz, tk⟩, obs⟩
            | .bool x => match js with
              | j :: js => match j with
                | .bool b b' _ => ih c' κ' (k (.ok (.ret (.bool b')))) p' T m sz tk hs js (⟨Bool, x, b⟩ :: obs)
                | _ => ⟨2, n, ⟨c, κ, (.pure fin), p, T, m, sz, tk⟩, obs⟩
              | [] => ⟨2, n, ⟨c, κ, (.pure fin), p, T, m, sz, tk⟩, obs⟩
            | _ => ⟨2, n, ⟨c, κ, (.pure fin), p, T, m, sz, tk⟩, obs⟩
          | _ => ⟨2, n, ⟨c, κ, (.pure fin), p, T, m, sz, tk⟩, obs⟩
    | .again c' => match qQ c' with
      | true => ih c' κ (dQ c') p T m sz tk hs js obs
      | false => ⟨3, n, ⟨c, κ, (.pure fin), p, T, m, sz, tk⟩, obs⟩
noncomputable def hRaise (B : Bx) (G : Gx) (lit : Bool) (n : Nat) (ih : Rn B) (c : Code) (κ : Kn) (p : Pos) (T : OT) (m sz tk hs : Nat) (js : List (Hn B)) (obs : List Ob) (e : Value) : Out :=
  match κ with
    | .base => ⟨1, n, ⟨c, κ, (.raise e), p, T, m, sz, tk⟩, obs⟩
    | .ret _ c' p' k κ' => ih c' κ' (k (.error e)) p' T m sz tk hs js obs
noncomputable def hAsk (B : Bx) (G : Gx) (lit : Bool) (n : Nat) (ih : Rn B) (c : Code) (κ : Kn) (p : Pos) (T : OT) (m sz tk hs : Nat) (js : List (Hn B)) (obs : List Ob) (k : Setting → Sem PySem.Fin) : Out :=
  match Nat.beq (hs % 1024) 0 with
    | true => ih c κ (k (G.of G.b)) p T m sz tk (hs / 1024) js obs
    | false => ih c κ (k (G.of true)) p T m sz tk (hs / 1024) js (⟨Sem PySem.Fin, k (G.of true), k (G.of false)⟩ :: obs)
noncomputable def hLoad (B : Bx) (G : Gx) (lit : Bool) (n : Nat) (ih : Rn B) (c : Code) (κ : Kn) (p : Pos) (T : OT) (m sz tk hs : Nat) (js : List (Hn B)) (obs : List Ob) (a : Addr) (q : Option Value) (k : Obj → Sem PySem.Fin) : Out :=
  match Nat.beq (hs % 1024) 0 with
    | true => match Nat.blt a 529 with
      | true => match G.kt.get a with
        | some o => ih c κ (k o) p T m sz tk (hs / 1024) js obs
        | none => ⟨4, n, ⟨c, κ, (.load a q k), p, T, m, sz, tk⟩, obs⟩
      | false => match T.get (a - 529) with
        | some x => match x with
          | (a', o) => match Nat.beq a a' with
            | true => ih c κ (k o) p T m sz tk (hs / 1024) js obs
            | false => ⟨5, n, ⟨c, κ, (.load a q k), p, T, m, sz, tk⟩, obs⟩
        | none => ⟨5, n, ⟨c, κ, (.load a q k), p, T, m, sz, tk⟩, obs⟩
    | false => match T.get (hs % 1024) with
      | some x => match x with
        | (a', o) => ih c κ (k o) p T m sz tk (hs / 1024) js (⟨Nat, a, a'⟩ :: obs)
      | none => ⟨6, n, ⟨c, κ, (.load a q k), p, T, m, sz, tk⟩, obs⟩
noncomputable def hLoadIfAlive (B : Bx) (G : Gx) (lit : Bool) (n : Nat) (ih : Rn B) (c : Code) (κ : Kn) (p : Pos) (T : OT) (m sz tk hs : Nat) (js : List (Hn B)) (obs : List Ob) (a : Addr) (k : Option Obj → Sem PySem.Fin) : Out :=
  match Nat.beq (hs % 1024) 0 with
    | true => match Nat.blt a 529 with
      | true => match G.kt.get a with
        | some o => ih c κ (k (some o)) p T m sz tk (hs / 1024) js obs
        | none => ⟨4, n, ⟨c, κ, (.loadIfAlive a k), p, T, m, sz, tk⟩, obs⟩
      | false => match T.get (a - 529) with
        | some x => match x with
          | (a', o) => match Nat.beq a a' with
            | true => ih c κ (k (some o)) p T m sz tk (hs / 1024) js obs
            | false => ⟨5, n, ⟨c, κ, (.loadIfAlive a k), p, T, m, sz, tk⟩, obs⟩
        | none => ⟨5, n, ⟨c, κ, (.loadIfAlive a k), p, T, m, sz, tk⟩, obs⟩
    | false => match T.get (hs % 1024) with
      | some x => match x with
        | (a', o) => ih c κ (k (some o)) p T m sz tk (hs / 1024) js (⟨Nat, a, a'⟩ :: obs)
      | none => ⟨6, n, ⟨c, κ, (.loadIfAlive a k), p, T, m, sz, tk⟩, obs⟩
noncomputable def hAlloc (B : Bx) (G : Gx) (lit : Bool) (n : Nat) (ih : Rn B) (c : Code) (κ : Kn) (p : Pos) (T : OT) (m sz tk hs : Nat) (js : List (Hn B)) (obs : List Ob) (o : Obj) (k : Addr → Sem PySem.Fin) : Out :=
  match o.isFreed with
    | true => ⟨7, n, ⟨c, κ, (.alloc o k), p, T, m, sz, tk⟩, obs⟩
    | false => match lit with
      | true => match Nat.blt ((sz - 529) % 1024) 1000 with
        | true => ih c κ (k sz) p (T.put (sz - 529) sz o) m (sz + 1) tk hs js obs
        | false => ⟨7, n, ⟨c, κ, (.alloc o k), p, T, m, sz, tk⟩, obs⟩
      | false => match Nat.blt (m % 1024) 1000 with
        | true => ih c κ (k sz) p (T.put m sz o) (m + 1) (sz + 1) tk hs js obs
        | false => ⟨7, n, ⟨c, κ, (.alloc o k), p, T, m, sz, tk⟩, obs⟩
noncomputable def hUpdate (B : Bx) (G : Gx) (lit : Bool) (n : Nat) (ih : Rn B) (c : Code) (κ : Kn) (p : Pos) (T : OT) (m sz tk hs : Nat) (js : List (Hn B)) (obs : List Ob) (a : Addr) (q : Option Value) (f : Obj → Obj) (k : Unit → Sem PySem.Fin) : Out :=
  match Nat.beq (hs % 1024) 0 with
    | true => match T.get (a - 529) with
      | some x => match x with
        | (a', o) => match Nat.beq a a' with
          | true => match Nat.blt ((a - 529) % 1024) 1000 with
            | false => ⟨7, n, ⟨c, κ, (.update a q f k), p, T, m, sz, tk⟩, obs⟩
            | true => match (f o).isFreed with
              | true => ⟨7, n, ⟨c, κ, (.update a q f k), p, T, m, sz, tk⟩, obs⟩
              | false => ih c κ (k ()) p (T.put (a - 529) a' (f o)) m sz tk (hs / 1024) js obs
          | false => ⟨5, n, ⟨c, κ, (.update a q f k), p, T, m, sz, tk⟩, obs⟩
      | none => ⟨5, n, ⟨c, κ, (.update a q f k), p, T, m, sz, tk⟩, obs⟩
    | false => match T.get (hs % 1024) with
      | some x => match x with
        | (a', o) => match Nat.blt (hs % 1024) 1000 with
          | false => ⟨7, n, ⟨c, κ, (.update a q f k), p, T, m, sz, tk⟩, obs⟩
          | true => match (f o).isFreed with
            | true => ⟨7, n, ⟨c, κ, (.update a q f k), p, T, m, sz, tk⟩, obs⟩
            | false => ih c κ (k ()) p (T.put (hs % 1024) a' (f o)) m sz tk (hs / 1024) js (⟨Nat, a, a'⟩ :: obs)
      | none => ⟨6, n, ⟨c, κ, (.update a q f k), p, T, m, sz, tk⟩, obs⟩
noncomputable def hHandled (B : Bx) (G : Gx) (lit : Bool) (n : Nat) (ih : Rn B) (c : Code) (κ : Kn) (p : Pos) (T : OT) (m sz tk hs : Nat) (js : List (Hn B)) (obs : List Ob) (own : Bool) (k : Option Value → Sem PySem.Fin) : Out :=
  match own with
    | false => ih c κ (k none) p T m sz tk hs js obs
    | true => ⟨8, n, ⟨c, κ, (.handled own k), p, T, m, sz, tk⟩, obs⟩
noncomputable def hCall (B : Bx) (G : Gx) (lit : Bool) (n : Nat) (ih : Rn B) (c : Code) (κ : Kn) (p : Pos) (T : OT) (m sz tk hs : Nat) (js : List (Hn B)) (obs : List Ob) (c' : Code) (hd : Option Value) (g : Bool) (lv : List Value) (k : Result → Sem PySem.Fin) : Out :=
  match hd with
    | some _ => ⟨9, n, ⟨c, κ, (.call c' hd g lv k), p, T, m, sz, tk⟩, obs⟩
    | none => match Nat.beq (hs % 1024) 0 with
      | true => ih c' (.ret false c p k κ) (dQ c') p T m sz tk (hs / 1024) js obs
      | false => match Nat.beq (hs % 1024) 1 with
        | true => ih c' (.ret true c p k κ) (dQ c') p T m sz tk (hs / 1024) js obs
        | false => match js with
          | [] => ⟨10, n, ⟨c, κ, (.call c' hd g lv k), p, T, m, sz, tk⟩, obs⟩
          | j :: js => match j with
            | .jump j => match lenOk κ 60 with
              | false => ⟨10, n, ⟨c, κ, (.call c' hd g lv k), p, T, m, sz, tk⟩, obs⟩
              | true => match j.f c' T m sz tk with
                | none => ⟨11, n, ⟨c, κ, (.call c' hd g lv k), p, T, m, sz, tk⟩, obs⟩
                | some r => match r with
                  | ⟨v, T', m', sz', tk', obs'⟩ => ih c κ (k (.ok (.ret v))) p T' m' sz' tk' (hs / 1024) js (obs' ++ obs)
            | _ => ⟨10, n, ⟨c, κ, (.call c' hd g lv k), p, T, m, sz, tk⟩, obs⟩
/-- one step of the machine; lit: fresh objects lie at written addresses -/
noncomputable def stepK (B : Bx) (G : Gx) (lit : Bool) (n : Nat) (ih : Rn B) : Rn B := fun c κ t p T m sz tk hs js obs =>
  @Sem.casesOn PySem.Fin (fun _ => Out) t
    (fun fin => hPure B G lit n ih c κ p T m sz tk hs js obs fin)
    (fun e => hRaise B G lit n ih c κ p T m sz tk hs js obs e)
    (fun _ => ⟨12, n, ⟨c, κ, t, p, T, m, sz, tk⟩, obs⟩)
    (fun _ => ⟨12, n, ⟨c, κ, t, p, T, m, sz, tk⟩, obs⟩)
    (fun _ k => ih c κ (k ()) p T m sz tk hs js obs)
    (fun q k => ih c κ (k ()) q T m sz tk hs js obs)
    (fun a q k => hLoad B G lit n ih c κ p T m sz tk hs js obs a q k)
    (fun a q f k => hUpdate B G lit n ih c κ p T m sz tk hs js obs a q f k)
    (fun o k => hAlloc B G lit n ih c κ p T m sz tk hs js obs o k)
    (fun a k => hLoadIfAlive B G lit n ih c κ p T m sz tk hs js obs a k)
    (fun _ k => ih c κ (k ()) p T m sz tk hs js obs)
    (fun _ _ => ⟨12, n, ⟨c, κ, t, p, T, m, sz, tk⟩, obs⟩)
    (fun k => ih c κ (k tk) p T m sz (tk + 1) hs js obs)
    (fun k => hAsk B G lit n ih c κ p T m sz tk hs js obs k)
    (fun _ _ _ => ⟨12, n, ⟨c, κ, t, p, T, m, sz, tk⟩, obs⟩)
    (fun _ _ _ => ⟨12, n, ⟨c, κ, t, p, T, m, sz, tk⟩, obs⟩)
    (fun c' hd g lv k => hCall B G lit n ih c κ p T m sz tk hs js obs c' hd g lv k)
    (fun own k => hHandled B G lit n ih c κ p T m sz tk hs js obs own k)
    (fun _ _ => ⟨12, n, ⟨c, κ, t, p, T, m, sz, tk⟩, obs⟩)
    (fun _ _ => ⟨12, n, ⟨c, κ, t, p, T, m, sz, tk⟩, obs⟩)
    (fun _ _ _ _ => ⟨12, n, ⟨c, κ, t, p, T, m, sz, tk⟩, obs⟩)
    (fun _ _ _ _ => ⟨12, n, ⟨c, κ, t, p, T, m, sz, tk⟩, obs⟩)
    (fun k => ih c κ (k ((c, p) :: κ.acts G.acts)) p T m sz tk hs js obs)
    (fun _ _ => ⟨12, n, ⟨c, κ, t, p, T, m, sz, tk⟩, obs⟩)
    (fun _ => ⟨12, n, ⟨c, κ, t, p, T, m, sz, tk⟩, obs⟩)
    (fun _ _ _ _ _ => ⟨12, n, ⟨c, κ, t, p, T, m, sz, tk⟩, obs⟩)
noncomputable def runK (B : Bx) (G : Gx) (lit : Bool) (n : Nat) : Rn B :=
  @Nat.rec (fun _ => Rn B) (fun c κ t p T m sz tk _ _ obs => ⟨0, 0, ⟨c, κ, t, p, T, m, sz, tk⟩, obs⟩) (fun n ih => stepK B G lit n ih) n

section
variable {B : Bx} {G : Gx} {R₀ : Result → Shared → Prop}
def Hyp (B : Bx) (R₀ : Result → Shared → Prop) (o : Out) (c : Code) (κ : Kn) (t : Sem PySem.Fin) (p : Pos) (T : OT) (m sz tk : Nat) (obs : List Ob) : Prop :=
  Out.Ok B R₀ o → (∀ x ∈ obs, x.ok) ∧ MnC B R₀ ⟨c, κ, t, p, T, m, sz, tk⟩
theorem Hyp.stop {why n : Nat} {c : Code} {κ : Kn} {t : Sem PySem.Fin} {p : Pos} {T : OT} {m sz tk : Nat} {obs : List Ob} : Hyp B R₀ ⟨why, n, ⟨c, κ, t, p, T, m, sz, tk⟩, obs⟩ c κ t p T m sz tk obs := fun H => H
theorem Hyp.go {o : Out} {c c' : Code} {κ κ' : Kn} {t t' : Sem PySem.Fin} {p p' : Pos} {T T' : OT} {m m' sz sz' tk tk' : Nat} {obs obs' : List Ob} (H : Hyp B R₀ o c' κ' t' p' T' m' sz' tk' obs')
    (ho : (∀ x ∈ obs', x.ok) → (∀ x ∈ obs, x.ok) ∧ (MnC B R₀ ⟨c', κ', t', p', T', m', sz', tk'⟩ → MnC B R₀ ⟨c, κ, t, p, T, m, sz, tk⟩)) : Hyp B R₀ o c κ t p T m sz tk obs := fun h => by
  obtain ⟨a, b⟩ := H h
  exact ⟨(ho a).1, (ho a).2 b⟩
theorem Hyp.plain {o : Out} {c c' : Code} {κ κ' : Kn} {t t' : Sem PySem.Fin} {p p' : Pos} {T T' : OT} {m m' sz sz' tk tk' : Nat} {obs : List Ob} (H : Hyp B R₀ o c' κ' t' p' T' m' sz' tk' obs)
    (ho : MnC B R₀ ⟨c', κ', t', p', T', m', sz', tk'⟩ → MnC B R₀ ⟨c, κ, t, p, T, m, sz, tk⟩) : Hyp B R₀ o c κ t p T m sz tk obs := H.go fun x => ⟨x, ho⟩
theorem Hyp.ob {o : Out} {c c' : Code} {κ κ' : Kn} {t t' : Sem PySem.Fin} {p p' : Pos} {T T' : OT} {m m' sz sz' tk tk' : Nat} {obs : List Ob} {b : Ob} (H : Hyp B R₀ o c' κ' t' p' T' m' sz' tk' (b :: obs))
    (ho : b.ok → MnC B R₀ ⟨c', κ', t', p', T', m', sz', tk'⟩ → MnC B R₀ ⟨c, κ, t, p, T, m, sz, tk⟩) : Hyp B R₀ o c κ t p T m sz tk obs :=
  H.go fun x => ⟨fun y hy => x y (List.mem_cons_of_mem _ hy), ho (x b List.mem_cons_self)⟩

theorem mn_load (c : Code) (κ : Kn) (p : Pos) (T : OT) (m sz tk : Nat) (a : Addr) (q : Option Value) (k : Obj → Sem PySem.Fin) (o : Obj) (ho : ∀ h, Rp B T sz h → h.get? a = some o)
    (H : MnC B R₀ ⟨c, κ, k o, p, T, m, sz, tk⟩) : MnC B R₀ ⟨c, κ, .load a q k, p, T, m, sz, tk⟩ := fun h D => by
  have z := H h D
  unfold Mn at z ⊢
  rw [Sem.wp_load]
  exact ⟨o, ho h D, z⟩
theorem mn_alive (c : Code) (κ : Kn) (p : Pos) (T : OT) (m sz tk : Nat) (a : Addr) (k : Option Obj → Sem PySem.Fin) (o : Obj) (ho : ∀ h, Rp B T sz h → h.get? a = some o)
    (H : MnC B R₀ ⟨c, κ, k (some o), p, T, m, sz, tk⟩) : MnC B R₀ ⟨c, κ, .loadIfAlive a k, p, T, m, sz, tk⟩ := fun h D => by
  have z := H h D
  unfold Mn at z ⊢
  rw [Sem.wp_loadIfAlive]
  have e : (B.shr h tk).heap.get? a = some o := ho h D
  rw [e]
  exact z
theorem mn_alloc (c : Code) (κ : Kn) (p : Pos) (T : OT) (m m' sz tk : Nat) (o : Obj) (k : Addr → Sem PySem.Fin) (hf : o.isFreed = false) (i : Nat) (hi : i % 1024 < 1000)
    (H : MnC B R₀ ⟨c, κ, k sz, p, T.put i sz o, m', sz + 1, tk⟩) : MnC B R₀ ⟨c, κ, .alloc o k, p, T, m, sz, tk⟩ := fun h D => by
  have z := H (h.push o) (D.alloc hf i hi)
  unfold Mn at z ⊢
  rw [Sem.wp_alloc]
  have e : (B.shr h tk).heap.objs.size = sz := D.size
  rw [e]
  exact z
theorem mn_update (c : Code) (κ : Kn) (p : Pos) (T : OT) (m sz tk : Nat) (a : Addr) (q : Option Value) (f : Obj → Obj) (k : Unit → Sem PySem.Fin) (i : Nat) (o : Obj) (e : T.get i = some (a, o)) (hi : i % 1024 < 1000) (hf : (f o).isFreed = false)
    (H : MnC B R₀ ⟨c, κ, k (), p, T.put i a (f o), m, sz, tk⟩) : MnC B R₀ ⟨c, κ, .update a q f k, p, T, m, sz, tk⟩ := fun h D => by
  have hs : Heap.SameBut a h (h.update a f) := Heap.SameBut.update ..
  have ha := D.at e
  have new : (h.update a f).get? a = some (f o) := by first | exact Heap.get?_update_self f ha hf | exact Heap.get?_update_self _ ha hf
  have z := H (h.update a f) (D.update e hi hs new)
  unfold Mn at z ⊢
  rw [Sem.wp_update]
  exact ⟨by show (h.get? a).isSome = true; rw [D.at e]; rfl, z⟩

theorem cUnits_le (c : Code) : c.cUnits ≤ 10 := by
  have hfr : c.frames ≤ 3 := by
    unfold Code.frames
    split <;> first | omega | (split <;> omega)
  unfold Code.cUnits
  split <;> omega
def Kn.len : Kn → Nat
  | .base => 0
  | .ret _ _ _ _ κ => κ.len + 1
theorem acts_units (b : List (Code × Pos)) : ∀ κ : Kn, unitsOf (κ.acts b) ≤ 10 * κ.len + unitsOf b
  | .base => by show unitsOf b ≤ 10 * 0 + unitsOf b; omega
  | .ret fl c p k κ => by
    have ih := acts_units b κ
    have hc := cUnits_le c
    show unitsOf ((c, p) :: κ.acts b) ≤ 10 * (κ.len + 1) + unitsOf b
    rw [unitsOf_cons]
    omega
theorem lenOk_len : ∀ (n : Nat) (κ : Kn), lenOk κ n = true → κ.len < n
  | 0, κ, h => by
    rw [show lenOk κ 0 = false by unfold lenOk; rfl] at h; cases h
  | n + 1, .base, _ => Nat.succ_pos _
  | n + 1, .ret _ c p _ κ, h => by
    have := lenOk_len n κ h
    show κ.len + 1 < n + 1
    omega
def aroundIn (b : List (Code × Pos)) (c : Code) (κ : Kn) : Around := { handled := none, depth := frameCount (κ.acts b) + c.weight, frames := none, guards := none, units := c.cUnits + unitsOf (κ.acts b) }
theorem in_of (b : List (Code × Pos)) (c : Code) (κ : Kn) : (ctxOf b c κ).In (aroundIn b c κ) := ⟨rfl, Nat.le_refl _, (fun _ h => (by cases h)), (fun _ h => (by cases h)), Nat.le_refl _⟩
theorem acts_next {n : Nat} (O : B.Ok (n + 1)) (c : Code) (p : Pos) (κ : Kn) (hl : lenOk κ 60 = true) : unitsOf ((c, p) :: κ.acts B.acts) + 620 * n ≤ 4000 := by
  have hlen := lenOk_len 60 κ hl
  have hu := acts_units B.acts κ
  have hc := cUnits_le c
  have := O.units
  rw [unitsOf_cons]
  omega
theorem aroundIn_units {n : Nat} (O : B.Ok (n + 1)) (c : Code) (κ : Kn) (hl : lenOk κ 60 = true) : (aroundIn B.acts c κ).units ≤ 4000 := by
  have z := acts_next O c default κ hl
  rw [unitsOf_cons] at z
  show c.cUnits + unitsOf (κ.acts B.acts) ≤ 4000
  omega

theorem mn_open (c : Code) (κ : Kn) (p : Pos) (T : OT) (m sz tk : Nat) (c' : Code) (g : Bool) (l : List Value) (k : Result → Sem PySem.Fin)
    (H : ∀ h, Rp B T sz h → CodeAt B.M (aroundIn B.acts c κ) c' (fun r s => Mn B.M B.acts R₀ c κ (k r) p s) (B.shr h tk)) : MnC B R₀ ⟨c, κ, .call c' none g l k, p, T, m, sz, tk⟩ := fun h D => by
  unfold Mn
  rw [Sem.wp_call]
  exact H h D (ctxOf B.acts c κ) p (in_of B.acts c κ)
theorem mn_jump {n : Nat} (O : B.Ok (n + 1)) (c : Code) (κ : Kn) (p : Pos) (T : OT) (m sz tk : Nat) (c' : Code) (g : Bool) (l : List Value) (k : Result → Sem PySem.Fin) (j : Jm B) (r : JRes) (hl : lenOk κ 60 = true) (e : j.f c' T m sz tk = some r) (ho : ∀ o ∈ r.obs, o.ok)
    (H : MnC B R₀ ⟨c, κ, k (.ok (.ret r.v)), p, r.T, r.m, r.sz, r.tk⟩) : MnC B R₀ ⟨c, κ, .call c' none g l k, p, T, m, sz, tk⟩ :=
  mn_open c κ p T m sz tk c' g l k fun h D =>
    j.ok c' T m sz tk r e ho (aroundIn B.acts c κ) (fun r' s' => Mn B.M B.acts R₀ c κ (k r') p s') h rfl (aroundIn_units O c κ hl) D fun h' D' => H h' D'

theorem ob_ok_nat {a b : Nat} (h : (⟨Nat, a, b⟩ : Ob).ok) : a = b := h

theorem step_ok {n₀ : Nat} (O : B.Ok (n₀ + 1)) (F : G.Fits B) (lit : Bool) (n : Nat) (ih : Rn B)
    (IH : ∀ c κ t p T m sz tk hs js obs, Hyp B R₀ (ih c κ t p T m sz tk hs js obs) c κ t p T m sz tk obs) :
    ∀ c κ t p T m sz tk hs js obs, Hyp B R₀ (stepK B G lit n ih c κ t p T m sz tk hs js obs) c κ t p T m sz tk obs := by
  intro c κ t p T m sz tk hs js obs
  have hold : ∀ (a : Addr) (o : Obj), G.kt.get a = some o → ∀ h, Rp B T sz h → h.get? a = some o := fun a o e h D => D.old O (by rw [F.kt]; exact e)
  cases t with
  | pure fin =>
    cases fin with
    | done f =>
      cases κ with
      | base => exact .stop
      | ret fl c' p' k κ' =>
        cases fl with
        | false => exact (IH c' κ' (k (.ok f)) p' T m sz tk hs js obs).plain fun H => H
        | true =>
          cases f with
          | ret v =>
            cases v with
            | int x tok =>
              cases js with
              | nil => exact .stop
              | cons j js =>
                cases j with
                | int i i' hi =>
                  exact (IH c' κ' (k (.ok (.ret (.int i' tok)))) p' T m sz tk hs js (⟨Int, x, i⟩ :: obs)).ob fun hx H => by
                    have : x = i' := Eq.trans (show x = i from hx) hi
                    subst this; exact H
                | bool => exact .stop
                | jump => exact .stop
            | bool x =>
              cases js with
              | nil => exact .stop
              | cons j js =>
                cases j with
                | bool b b' hi =>
                  exact (IH c' κ' (k (.ok (.ret (.bool b')))) p' T m sz tk hs js (⟨Bool, x, b⟩ :: obs)).ob fun hx H => by
                    have : x = b' := Eq.trans (show x = b from hx) hi
                    subst this; exact H
                | int => exact .stop
                | jump => exact .stop
            | _ => exact .stop
          | _ => exact .stop
    | again c' =>
      show Hyp B R₀ (match qQ c' with
        | true => ih c' κ (dQ c') p T m sz tk hs js obs
        | false => ⟨3, n, ⟨c, κ, _, p, T, m, sz, tk⟩, obs⟩) c κ _ p T m sz tk obs
      cases q : qQ c' with
      | false => exact .stop
      | true =>
        exact (IH c' κ (dQ c') p T m sz tk hs js obs).plain fun H h D => by
          refine ⟨by rw [qQ_eq]; exact q, ?_⟩
          have z := H h D
          rw [← dQ_eq] at z
          exact Mn.code (M := B.M) z
  | raise e =>
    cases κ with
    | base => exact .stop
    | ret fl c' p' k κ' => exact (IH c' κ' (k (.error e)) p' T m sz tk hs js obs).plain fun H => H
  | rule tag k =>
    exact (IH c κ (k ()) p T m sz tk hs js obs).plain fun H h D => by
      have z := H h D
      unfold Mn at z ⊢
      rw [Sem.wp_rule]; exact z
  | «at» q k =>
    exact (IH c κ (k ()) q T m sz tk hs js obs).plain fun H h D => by
      have z := H h D
      unfold Mn at z ⊢
      rw [Sem.wp_at]; exact z
  | point l k =>
    exact (IH c κ (k ()) p T m sz tk hs js obs).plain fun H h D => by
      have z := H h D
      unfold Mn at z ⊢
      rw [Sem.wp_point]; exact z
  | fresh k =>
    exact (IH c κ (k tk) p T m sz (tk + 1) hs js obs).plain fun H h D => by
      have z := H h D
      unfold Mn at z ⊢
      rw [Sem.wp_fresh]; exact z
  | stack k =>
    exact (IH c κ (k ((c, p) :: κ.acts G.acts)) p T m sz tk hs js obs).plain fun H h D => by
      have z := H h D
      rw [← F.acts] at z
      unfold Mn at z ⊢
      rw [Sem.wp_stack]; exact z
  | handled own k =>
    cases own with
    | true => exact .stop
    | false =>
      exact (IH c κ (k none) p T m sz tk hs js obs).plain fun H h D => by
        have z := H h D
        unfold Mn at z ⊢
        rw [Sem.wp_handled]; exact z
  | ask k =>
    have key : ∀ s, Sem.wp B.M (ctxOf B.acts c κ) (.ask k) (Sem.finPost B.M (ctxOf B.acts c κ) (EndK B.M B.acts R₀ κ)) (fun e _ s' => EndK B.M B.acts R₀ κ (.error e) s') p s = Mn B.M B.acts R₀ c κ (k (G.of G.b)) p s := fun s => by
      rw [Sem.wp_ask]
      have e1 : B.M.prog = G.prog := F.prog
      have e2 : B.M.w.params = turned G.P G.b G.c := F.P
      rw [e1, e2]; rfl
    show Hyp B R₀ (match Nat.beq (hs % 1024) 0 with
      | true => ih c κ (k (G.of G.b)) p T m sz tk (hs / 1024) js obs
      | false => ih c κ (k (G.of true)) p T m sz tk (hs / 1024) js (⟨Sem PySem.Fin, k (G.of true), k (G.of false)⟩ :: obs)) c κ _ p T m sz tk obs
    cases Nat.beq (hs % 1024) 0 with
    | true =>
      exact (IH c κ (k (G.of G.b)) p T m sz tk (hs / 1024) js obs).plain fun H h D => by
        have z := H h D
        unfold Mn; rw [key]; exact z
    | false =>
      exact (IH c κ (k (G.of true)) p T m sz tk (hs / 1024) js _).ob fun ho H h D => by
        have z := H h D
        unfold Mn; rw [key]
        have e : k (G.of true) = k (G.of false) := ho
        cases hb : G.b with
        | true => exact z
        | false => rw [← e]; exact z
  | load a q k =>
    show Hyp B R₀ (match Nat.beq (hs % 1024) 0 with
    | true => match Nat.blt a 529 with
      | true => match G.kt.get a with
        | some o => ih c κ (k o) p T m sz tk (hs / 1024) js obs
        | none => ⟨4, n, ⟨c, κ, _, p, T, m, sz, tk⟩, obs⟩
      | false => match T.get (a - 529) with
        | some x => match x with
          | (a', o) => match Nat.beq a a' with
            | true => ih c κ (k o) p T m sz tk (hs / 1024) js obs
            | false => ⟨5, n, ⟨c, κ, _, p, T, m, sz, tk⟩, obs⟩
        | none => ⟨5, n, ⟨c, κ, _, p, T, m, sz, tk⟩, obs⟩
    | false => match T.get (hs % 1024) with
      | some x => match x with
        | (a', o) => ih c κ (k o) p T m sz tk (hs / 1024) js (⟨Nat, a, a'⟩ :: obs)
      | none => ⟨6, n, ⟨c, κ, _, p, T, m, sz, tk⟩, obs⟩) c κ _ p T m sz tk obs
    split
    · split
      · split
        · rename_i o e
          exact (IH c κ (k o) p T m sz tk (hs / 1024) js obs).plain fun H => mn_load c κ p T m sz tk a q k o (hold a o e) H
        · exact .stop
      · split
        · rename_i x e
          obtain ⟨a', o⟩ := x
          dsimp only
          split
          · rename_i hb
            obtain rfl := Nat.eq_of_beq_eq_true hb
            exact (IH c κ (k o) p T m sz tk (hs / 1024) js obs).plain fun H => mn_load c κ p T m sz tk a q k o (fun h D => D.at e) H
          · exact .stop
        · exact .stop
    · split
      · rename_i x e
        obtain ⟨a', o⟩ := x
        dsimp only
        exact (IH c κ (k o) p T m sz tk (hs / 1024) js _).ob fun ho H => by
          obtain rfl := ob_ok_nat ho
          exact mn_load c κ p T m sz tk a q k o (fun h D => D.at e) H
      · exact .stop
  | loadIfAlive a k =>
    show Hyp B R₀ (match Nat.beq (hs % 1024) 0 with
    | true => match Nat.blt a 529 with
      | true => match G.kt.get a with
        | some o => ih c κ (k (some o)) p T m sz tk (hs / 1024) js obs
        | none => ⟨4, n, ⟨c, κ, _, p, T, m, sz, tk⟩, obs⟩
      | false => match T.get (a - 529) with
        | some x => match x with
          | (a', o) => match Nat.beq a a' with
            | true => ih c κ (k (some o)) p T m sz tk (hs / 1024) js obs
            | false => ⟨5, n, ⟨c, κ, _, p, T, m, sz, tk⟩, obs⟩
        | none => ⟨5, n, ⟨c, κ, _, p, T, m, sz, tk⟩, obs⟩
    | false => match T.get (hs % 1024) with
      | some x => match x with
        | (a', o) => ih c κ (k (some o)) p T m sz tk (hs / 1024) js (⟨Nat, a, a'⟩ :: obs)
      | none => ⟨6, n, ⟨c, κ, _, p, T, m, sz, tk⟩, obs⟩) c κ _ p T m sz tk obs
    split
    · split
      · split
        · rename_i o e
          exact (IH c κ (k (some o)) p T m sz tk (hs / 1024) js obs).plain fun H => mn_alive c κ p T m sz tk a k o (hold a o e) H
        · exact .stop
      · split
        · rename_i x e
          obtain ⟨a', o⟩ := x
          dsimp only
          split
          · rename_i hb
            obtain rfl := Nat.eq_of_beq_eq_true hb
            exact (IH c κ (k (some o)) p T m sz tk (hs / 1024) js obs).plain fun H => mn_alive c κ p T m sz tk a k o (fun h D => D.at e) H
          · exact .stop
        · exact .stop
    · split
      · rename_i x e
        obtain ⟨a', o⟩ := x
        dsimp only
        exact (IH c κ (k (some o)) p T m sz tk (hs / 1024) js _).ob fun ho H => by
          obtain rfl := ob_ok_nat ho
          exact mn_alive c κ p T m sz tk a k o (fun h D => D.at e) H
      · exact .stop
  | alloc o k =>
    show Hyp B R₀ (match o.isFreed with
    | true => ⟨7, n, ⟨c, κ, _, p, T, m, sz, tk⟩, obs⟩
    | false => match lit with
      | true => match Nat.blt ((sz - 529) % 1024) 1000 with
        | true => ih c κ (k sz) p (T.put (sz - 529) sz o) m (sz + 1) tk hs js obs
        | false => ⟨7, n, ⟨c, κ, _, p, T, m, sz, tk⟩, obs⟩
      | false => match Nat.blt (m % 1024) 1000 with
        | true => ih c κ (k sz) p (T.put m sz o) (m + 1) (sz + 1) tk hs js obs
        | false => ⟨7, n, ⟨c, κ, _, p, T, m, sz, tk⟩, obs⟩) c κ _ p T m sz tk obs
    split
    · exact .stop
    · rename_i hf
      split
      · split
        · rename_i hi
          exact (IH _ _ _ _ _ _ _ _ _ _ _).plain fun H => mn_alloc c κ p T m m sz tk o k hf _ (blt_true hi) H
        · exact .stop
      · split
        · rename_i hi
          exact (IH _ _ _ _ _ _ _ _ _ _ _).plain fun H => mn_alloc c κ p T m (m + 1) sz tk o k hf _ (blt_true hi) H
        · exact .stop
  | update a q f k =>
    show Hyp B R₀ (match Nat.beq (hs % 1024) 0 with
    | true => match T.get (a - 529) with
      | some x => match x with
        | (a', o) => match Nat.beq a a' with
          | true => match Nat.blt ((a - 529) % 1024) 1000 with
            | false => ⟨7, n, ⟨c, κ, _, p, T, m, sz, tk⟩, obs⟩
            | true => match (f o).isFreed with
              | true => ⟨7, n, ⟨c, κ, _, p, T, m, sz, tk⟩, obs⟩
              | false => ih c κ (k ()) p (T.put (a - 529) a' (f o)) m sz tk (hs / 1024) js obs
          | false => ⟨5, n, ⟨c, κ, _, p, T, m, sz, tk⟩, obs⟩
      | none => ⟨5, n, ⟨c, κ, _, p, T, m, sz, tk⟩, obs⟩
    | false => match T.get (hs % 1024) with
      | some x => match x with
        | (a', o) => match Nat.blt (hs % 1024) 1000 with
          | false => ⟨7, n, ⟨c, κ, _, p, T, m, sz, tk⟩, obs⟩
          | true => match (f o).isFreed with
            | true => ⟨7, n, ⟨c, κ, _, p, T, m, sz, tk⟩, obs⟩
            | false => ih c κ (k ()) p (T.put (hs % 1024) a' (f o)) m sz tk (hs / 1024) js (⟨Nat, a, a'⟩ :: obs)
      | none => ⟨6, n, ⟨c, κ, _, p, T, m, sz, tk⟩, obs⟩) c κ _ p T m sz tk obs
    split
    · split
      · rename_i x e
        obtain ⟨a', o⟩ := x
        dsimp only
        split
        · rename_i hb
          obtain rfl := Nat.eq_of_beq_eq_true hb
          split
          · exact .stop
          · rename_i hi
            split
            · exact .stop
            · rename_i hf
              exact (IH _ _ _ _ _ _ _ _ _ _ _).plain fun H => mn_update c κ p T m sz tk a q f k _ o e (blt_true hi) hf H
        · exact .stop
      · exact .stop
    · split
      · rename_i x e
        obtain ⟨a', o⟩ := x
        dsimp only
        split
        · exact .stop
        · rename_i hi
          split
          · exact .stop
          · rename_i hf
            exact (IH _ _ _ _ _ _ _ _ _ _ _).ob fun ho H => by
              obtain rfl := ob_ok_nat ho
              exact mn_update c κ p T m sz tk a q f k _ o e (by rw [Nat.mod_mod]; exact blt_true hi) hf H
      · exact .stop
  | call c' hd g l k =>
    cases hd with
    | some v => exact .stop
    | none =>
      have enter : ∀ fl, MnC B R₀ ⟨c', .ret fl c p k κ, dQ c', p, T, m, sz, tk⟩ → MnC B R₀ ⟨c, κ, .call c' none g l k, p, T, m, sz, tk⟩ := fun fl H h D => by
        have z := H h D
        rw [← dQ_eq] at z
        have z := Mn.code (M := B.M) z
        unfold Mn
        rw [Sem.wp_call]
        exact z
      show Hyp B R₀ (match Nat.beq (hs % 1024) 0 with
      | true => ih c' (.ret false c p k κ) (dQ c') p T m sz tk (hs / 1024) js obs
      | false => match Nat.beq (hs % 1024) 1 with
        | true => ih c' (.ret true c p k κ) (dQ c') p T m sz tk (hs / 1024) js obs
        | false => match js with
          | [] => ⟨10, n, ⟨c, κ, _, p, T, m, sz, tk⟩, obs⟩
          | j :: js => match j with
            | .jump j => match lenOk κ 60 with
              | false => ⟨10, n, ⟨c, κ, _, p, T, m, sz, tk⟩, obs⟩
              | true => match j.f c' T m sz tk with
                | none => ⟨11, n, ⟨c, κ, _, p, T, m, sz, tk⟩, obs⟩
                | some r => match r with
                  | ⟨v, T', m', sz', tk', obs'⟩ => ih c κ (k (.ok (.ret v))) p T' m' sz' tk' (hs / 1024) js (obs' ++ obs)
            | _ => ⟨10, n, ⟨c, κ, _, p, T, m, sz, tk⟩, obs⟩) c κ _ p T m sz tk obs
      split
      · exact (IH _ _ _ _ _ _ _ _ _ _ _).plain (enter false)
      · split
        · exact (IH _ _ _ _ _ _ _ _ _ _ _).plain (enter true)
        · split
          · exact .stop
          · split
            · split
              · exact .stop
              · rename_i hl
                split
                · exact .stop
                · rename_i r e
                  obtain ⟨v, T', m', sz', tk', obs'⟩ := r
                  dsimp only
                  exact (IH _ _ _ _ _ _ _ _ _ _ _).go fun ho => ⟨fun x hx => ho x (List.mem_append_right _ hx), fun H => mn_jump O c κ p T m sz tk c' g l k _ ⟨v, T', m', sz', tk', obs'⟩ hl e (fun o hx => ho o (List.mem_append_left _ hx)) H⟩
            · exact .stop
  | _ => exact .stop
theorem run_ok {n₀ : Nat} (O : B.Ok (n₀ + 1)) (F : G.Fits B) (lit : Bool) : ∀ n c κ t p T m sz tk hs js obs, Hyp B R₀ (runK B G lit n c κ t p T m sz tk hs js obs) c κ t p T m sz tk obs
  | 0 => fun _ _ _ _ _ _ _ _ _ _ _ => .stop
  | n + 1 => step_ok O F lit n (runK B G lit n) (run_ok O F lit n)
/-- the run, closed to the elaborator -/
@[irreducible] noncomputable def run (B : Bx) (G : Gx) (lit : Bool) (n : Nat) : Rn B := runK B G lit n
theorem run_eq (B : Bx) (G : Gx) (lit : Bool) (n : Nat) : run B G lit n = runK B G lit n := by unfold run; rfl
/-- a run whose checks are made stands for its end -/
theorem run_to {n₀ : Nat} (O : B.Ok (n₀ + 1)) (F : G.Fits B) (lit : Bool) (n : Nat) (c : Code) (κ : Kn) (t : Sem PySem.Fin) (p : Pos) (T : OT) (m sz tk hs : Nat) (js : List (Hn B))
    (ho : lefts (run B G lit n c κ t p T m sz tk hs js []).obs = rights (run B G lit n c κ t p T m sz tk hs js []).obs)
    (H : MnC B R₀ (run B G lit n c κ t p T m sz tk hs js []).cf) : MnC B R₀ ⟨c, κ, t, p, T, m, sz, tk⟩ :=
  by rw [run_eq] at ho H; exact (run_ok O F lit n c κ t p T m sz tk hs js [] ⟨ok_of_same ho, H⟩).2
end
end Mine
end

section
open PySem PySem.Spec PySem.Calls PyProof.Rows PySem.W PySem.W.X
namespace Mine
noncomputable def execsQ : List Stmt → Env → Sem Flow := PySem.W.Fast.tw12563942051412417395
noncomputable def leavingQ : Env → Value → Sem Unit := PySem.W.Fast.tw9442747609961115081
noncomputable def tree0 : Sem PySem.Fin := callTree ⟨⟨[108, 97, 119]⟩⟩ [.ref 528]
def claimC : Code := .builtin "claim.caller" {}
def envOf : Code → Env
  | .func _ e => e
  | .forLoop _ _ _ _ e => e
  | .compLoop _ _ _ _ e => e
  | .compStart _ _ _ _ e => e
  | _ => default
def bodyOf : Code → List Stmt
  | .func b _ => b
  | _ => []
def finQ (f : Flow) : Sem PySem.Fin := match f with
  | .ret v => .pure (.done (.ret v))
  | _ => .pure (.done (.ret .none))
/-- what is left of a def from its k-th statement on -/
noncomputable def restOf (c : Code) (k : Nat) : Sem PySem.Fin := PySem.W.R.bindR (PySem.W.R.onRaiseR (execsQ ((bodyOf c).drop k) (envOf c)) (leavingQ (envOf c))) finQ
/-- a place that is taken over: its new number, its old one, the address, the thing -/
structure Row where
  new : Nat
  old : Nat
  a : Nat
  o : Obj
noncomputable def rowT (l : List Row) : OT := @List.rec Row (fun _ => OT) .nil (fun x _ t => t.put x.new x.a x.o) l
def row (i a : Nat) (o : Obj) : Row := ⟨i, i, a, o⟩
/-- printed by wip/tools/inv.py -/
def frameEs (τ : Nat → Nat → Nat) (η : Nat → Nat → Int) (first deeds : Value) : List DictEntry :=
  [⟨η 0 0, .str ⟨⟨[115, 99, 114, 105, 112, 116]⟩⟩ (τ 0 0), .ref 528⟩,
   ⟨η 0 1, .str ⟨⟨[102, 105, 114, 115, 116]⟩⟩ (τ 0 1), first⟩,
   ⟨η 0 2, .str ⟨⟨[102, 97, 99, 101, 115]⟩⟩ (τ 0 2), .ref 545⟩,
   ⟨η 0 3, .str ⟨⟨[109, 101, 109, 98, 101, 114, 115]⟩⟩ (τ 0 3), .ref 578⟩,
   ⟨η 0 4, .str ⟨⟨[102, 105, 101, 108, 100, 115]⟩⟩ (τ 0 4), .ref 611⟩,
   ⟨η 0 5, .str ⟨⟨[101, 110, 116, 114, 105, 101, 115]⟩⟩ (τ 0 5), .ref 635⟩,
   ⟨η 0 6, .str ⟨⟨[118, 97, 108, 117, 101, 115]⟩⟩ (τ 0 6), .ref 653⟩,
   ⟨η 0 7, .str ⟨⟨[112, 111, 111, 108, 115]⟩⟩ (τ 0 7), .ref 669⟩,
   ⟨η 0 8, .str ⟨⟨[100, 101, 101, 100, 115]⟩⟩ (τ 0 8), deeds⟩]
def instEs0 (τ : Nat → Nat → Nat) (η : Nat → Nat → Int) : List DictEntry :=
  [⟨η 152 0, .str ⟨⟨[110, 97, 109, 101]⟩⟩ (τ 152 0), .str ⟨⟨[79]⟩⟩ (τ 152 100)⟩,
   ⟨η 152 1, .str ⟨⟨[100, 101, 115, 99, 114, 105, 112, 116, 105, 111, 110]⟩⟩ (τ 152 1), .none⟩,
   ⟨η 152 2, .str ⟨⟨[101, 120, 116, 101, 110, 115, 105, 111, 110, 115]⟩⟩ (τ 152 2), .ref 687⟩,
   ⟨η 152 3, .str ⟨⟨[97, 115, 116, 95, 110, 111, 100, 101]⟩⟩ (τ 152 3), .none⟩,
   ⟨η 152 4, .str ⟨⟨[101, 120, 116, 101, 110, 115, 105, 111, 110, 95, 97, 115, 116, 95, 110, 111, 100, 101, 115]⟩⟩ (τ 152 4), .ref 688⟩,
   ⟨η 152 5, .str ⟨⟨[95, 102, 105, 101, 108, 100, 115]⟩⟩ (τ 152 5), .ref 670⟩,
   ⟨η 152 6, .str ⟨⟨[95, 105, 110, 116, 101, 114, 102, 97, 99, 101, 115]⟩⟩ (τ 152 6), .ref 672⟩,
   ⟨η 152 7, .str ⟨⟨[105, 115, 95, 116, 121, 112, 101, 95, 111, 102]⟩⟩ (τ 152 7), .none⟩]
def instEs1 (τ : Nat → Nat → Nat) (η : Nat → Nat → Int) : List DictEntry :=
  [⟨η 160 0, .str ⟨⟨[110, 97, 109, 101]⟩⟩ (τ 160 0), .str ⟨⟨[73]⟩⟩ (τ 160 100)⟩,
   ⟨η 160 1, .str ⟨⟨[100, 101, 115, 99, 114, 105, 112, 116, 105, 111, 110]⟩⟩ (τ 160 1), .none⟩,
   ⟨η 160 2, .str ⟨⟨[101, 120, 116, 101, 110, 115, 105, 111, 110, 115]⟩⟩ (τ 160 2), .ref 695⟩,
   ⟨η 160 3, .str ⟨⟨[97, 115, 116, 95, 110, 111, 100, 101]⟩⟩ (τ 160 3), .none⟩,
   ⟨η 160 4, .str ⟨⟨[101, 120, 116, 101, 110, 115, 105, 111, 110, 95, 97, 115, 116, 95, 110, 111, 100, 101, 115]⟩⟩ (τ 160 4), .ref 696⟩,
   ⟨η 160 5, .str ⟨⟨[95, 102, 105, 101, 108, 100, 115]⟩⟩ (τ 160 5), .ref 673⟩,
   ⟨η 160 6, .str ⟨⟨[95, 105, 110, 116, 101, 114, 102, 97, 99, 101, 115]⟩⟩ (τ 160 6), .ref 675⟩,
   ⟨η 160 7, .str ⟨⟨[114, 101, 115, 111, 108, 118, 101, 95, 116, 121, 112, 101]⟩⟩ (τ 160 7), .none⟩]
def instEs2 (τ : Nat → Nat → Nat) (η : Nat → Nat → Int) : List DictEntry :=
  [⟨η 168 0, .str ⟨⟨[110, 97, 109, 101]⟩⟩ (τ 168 0), .str ⟨⟨[73, 110]⟩⟩ (τ 168 100)⟩,
   ⟨η 168 1, .str ⟨⟨[100, 101, 115, 99, 114, 105, 112, 116, 105, 111, 110]⟩⟩ (τ 168 1), .none⟩,
   ⟨η 168 2, .str ⟨⟨[101, 120, 116, 101, 110, 115, 105, 111, 110, 115]⟩⟩ (τ 168 2), .ref 703⟩,
   ⟨η 168 3, .str ⟨⟨[97, 115, 116, 95, 110, 111, 100, 101]⟩⟩ (τ 168 3), .none⟩,
   ⟨η 168 4, .str ⟨⟨[101, 120, 116, 101, 110, 115, 105, 111, 110, 95, 97, 115, 116, 95, 110, 111, 100, 101, 115]⟩⟩ (τ 168 4), .ref 704⟩,
   ⟨η 168 5, .str ⟨⟨[95, 102, 105, 101, 108, 100, 115]⟩⟩ (τ 168 5), .ref 676⟩,
   ⟨η 168 6, .str ⟨⟨[105, 115, 95, 111, 110, 101, 95, 111, 102]⟩⟩ (τ 168 6), .bool false⟩]
def instEs3 (τ : Nat → Nat → Nat) (η : Nat → Nat → Int) : List DictEntry :=
  [⟨η 176 0, .str ⟨⟨[110, 97, 109, 101]⟩⟩ (τ 176 0), .str ⟨⟨[69]⟩⟩ (τ 176 100)⟩,
   ⟨η 176 1, .str ⟨⟨[100, 101, 115, 99, 114, 105, 112, 116, 105, 111, 110]⟩⟩ (τ 176 1), .none⟩,
   ⟨η 176 2, .str ⟨⟨[101, 120, 116, 101, 110, 115, 105, 111, 110, 115]⟩⟩ (τ 176 2), .ref 711⟩,
   ⟨η 176 3, .str ⟨⟨[97, 115, 116, 95, 110, 111, 100, 101]⟩⟩ (τ 176 3), .none⟩,
   ⟨η 176 4, .str ⟨⟨[101, 120, 116, 101, 110, 115, 105, 111, 110, 95, 97, 115, 116, 95, 110, 111, 100, 101, 115]⟩⟩ (τ 176 4), .ref 712⟩,
   ⟨η 176 5, .str ⟨⟨[95, 118, 97, 108, 117, 101, 115]⟩⟩ (τ 176 5), .ref 677⟩]
def instEs4 (τ : Nat → Nat → Nat) (η : Nat → Nat → Int) : List DictEntry :=
  [⟨η 184 0, .str ⟨⟨[110, 97, 109, 101]⟩⟩ (τ 184 0), .str ⟨⟨[85]⟩⟩ (τ 184 100)⟩,
   ⟨η 184 1, .str ⟨⟨[100, 101, 115, 99, 114, 105, 112, 116, 105, 111, 110]⟩⟩ (τ 184 1), .none⟩,
   ⟨η 184 2, .str ⟨⟨[101, 120, 116, 101, 110, 115, 105, 111, 110, 115]⟩⟩ (τ 184 2), .ref 719⟩,
   ⟨η 184 3, .str ⟨⟨[97, 115, 116, 95, 110, 111, 100, 101]⟩⟩ (τ 184 3), .none⟩,
   ⟨η 184 4, .str ⟨⟨[101, 120, 116, 101, 110, 115, 105, 111, 110, 95, 97, 115, 116, 95, 110, 111, 100, 101, 115]⟩⟩ (τ 184 4), .ref 720⟩,
   ⟨η 184 5, .str ⟨⟨[95, 116, 121, 112, 101, 115]⟩⟩ (τ 184 5), .ref 679⟩,
   ⟨η 184 6, .str ⟨⟨[114, 101, 115, 111, 108, 118, 101, 95, 116, 121, 112, 101]⟩⟩ (τ 184 6), .none⟩]
def lob (xs : Array Value) (e : Nat) : Obj := { cls := .type "list", data := .seq xs e }
def tob (xs : Array Value) (e : Nat) : Obj := { cls := .type "tuple", data := .seq xs e }
def dob (es : List DictEntry) (e : Nat) : Obj := { cls := .type "dict", data := .dict ⟨es⟩ e }
def dobS (es : List DictEntry) (e : Nat) (sl : Array (Option Value)) : Obj := { cls := .type "dict", data := .dict ⟨es⟩ e, slots := sl }
def fob (es : List DictEntry) (e : Nat) : Obj := { cls := .type "frame", data := .dict ⟨es⟩ e }
def rob (v left : Int) : Obj := { cls := .type "range_iterator", data := .fields #[.int v 0, .int left 0, .int 1 0] }
def arr7 (f : Nat → Value) : Array Value := #[f 0, f 1, f 2, f 3, f 4, f 5, f 6]
/-- another value at one place -/
noncomputable def upd {α : Type} (f : Nat → α) (i : Nat) (x : α) (j : Nat) : α := @Bool.rec (fun _ => α) (f j) x (Nat.beq i j)
theorem upd_at {α : Type} (f : Nat → α) (i : Nat) (x : α) : upd f i x i = x := by
  unfold upd; rw [Nat.beq_refl]
theorem upd_ne {α : Type} (f : Nat → α) (i j : Nat) (x : α) (h : i ≠ j) : upd f i x j = f j := by
  unfold upd
  have : Nat.beq i j = false := by
    cases hb : Nat.beq i j with
    | true => exact absurd (Nat.eq_of_beq_eq_true hb) h
    | false => rfl
  rw [this]
theorem upd_self {α : Type} (f : Nat → α) (i : Nat) (x : α) (h : f i = x) : upd f i x = f := by
  funext j
  by_cases q : i = j
  · subst q; rw [upd_at, h]
  · rw [upd_ne f i j x q]
theorem upd_upd {α : Type} (f : Nat → α) (i : Nat) (x y : α) : upd (upd f i x) i y = upd f i y := by
  funext j
  by_cases q : i = j
  · subst q; rw [upd_at, upd_at]
  · rw [upd_ne _ i j y q, upd_ne f i j x q, upd_ne f i j y q]
/-- the loop's data -/
structure Dt where
  τ : Nat → Nat → Nat
  η : Nat → Nat → Int
  first : Value
  dA : Nat
  deeds : Array Value
  dE : Nat
  lt : List DictEntry
  fE : Nat
  c : Nat → Obj
  u : Nat → List DictEntry
  e : Nat → Nat
  s : Nat → Array (Option Value)
  sn : Nat → Value
  snE : Nat
  kp : Nat → Value
  kpE : Nat
  v : Int
  left : Int
/-- the names of the loop -/
def ltM (τ : Nat → Nat) (η : Nat → Int) (v0 v1 v2 v3 v4 v5 v6 v7 : Value) (tl : List DictEntry) : List DictEntry :=
  ⟨η 0, .str ⟨⟨[115, 116, 101, 112]⟩⟩ (τ 0), v0⟩ ::
  ⟨η 1, .str ⟨⟨[110, 117, 109, 98, 101, 114]⟩⟩ (τ 1), v1⟩ ::
  ⟨η 2, .str ⟨⟨[109, 111, 114, 101]⟩⟩ (τ 2), v2⟩ ::
  ⟨η 3, .str ⟨⟨[119, 97, 121]⟩⟩ (τ 3), v3⟩ ::
  ⟨η 4, .str ⟨⟨[112, 105, 99, 107]⟩⟩ (τ 4), v4⟩ ::
  ⟨η 5, .str ⟨⟨[115, 108, 111, 116]⟩⟩ (τ 5), v5⟩ ::
  ⟨η 6, .str ⟨⟨[109, 97, 112, 112, 105, 110, 103]⟩⟩ (τ 6), v6⟩ ::
  ⟨η 7, .str ⟨⟨[111, 110, 101]⟩⟩ (τ 7), v7⟩ ::
  tl
def rowsB (D : Dt) : List Row :=
  row 0 529 (fob (frameEs D.τ D.η D.first (.ref D.dA) ++ D.lt) D.fE) ::
  row 2 531 ({ cls := .type "cell", dict := none, data := .cell (some (.ref 680)) } : Obj) ::
  row 3 532 ({ cls := .type "cell", dict := none, data := .cell (some (.ref 721)) } : Obj) ::
  row 4 533 ({ cls := .type "cell", dict := none, data := .cell (some (.ref 723)) } : Obj) ::
  row 5 534 ({ cls := .type "cell", dict := none, data := .cell (some (.ref 725)) } : Obj) ::
  row 16 545 ({ cls := .type "list", dict := none, data := .seq #[.ref 549, .ref 558, .ref 567] 3 } : Obj) ::
  row 49 578 ({ cls := .type "list", dict := none, data := .seq #[.ref 582, .ref 591, .ref 600] 3 } : Obj) ::
  row 82 611 ({ cls := .type "list", dict := none, data := .seq #[.ref 614, .ref 620, .ref 626] 3 } : Obj) ::
  row 106 635 ({ cls := .type "list", dict := none, data := .seq #[.ref 638, .ref 642, .ref 646] 3 } : Obj) ::
  row 124 653 ({ cls := .type "list", dict := none, data := .seq #[.ref 656, .ref 660, .ref 664] 3 } : Obj) ::
  row 140 669 ({ cls := .type "list", dict := none, data := .seq #[.ref 611, .ref 545, .ref 611, .ref 545, .ref 635, .ref 653, .ref 578] 0 } : Obj) ::
  row 141 670 (D.c 0) ::
  row 143 672 (D.c 1) ::
  row 144 673 (D.c 2) ::
  row 146 675 (D.c 3) ::
  row 147 676 (D.c 4) ::
  row 148 677 (D.c 5) ::
  row 150 679 (D.c 6) ::
  row 151 680 ({ cls := .type "list", dict := none, data := .seq #[.ref 670, .ref 672, .ref 673, .ref 675, .ref 676, .ref 677, .ref 679] 0 } : Obj) ::
  row 152 681 (dobS (instEs0 D.τ D.η ++ D.u 0) (D.e 0) (D.s 0)) ::
  row 153 682 ({ cls := .ref 289, dict := some 681, data := .plain } : Obj) ::
  row 160 689 (dobS (instEs1 D.τ D.η ++ D.u 1) (D.e 1) (D.s 1)) ::
  row 161 690 ({ cls := .ref 340, dict := some 689, data := .plain } : Obj) ::
  row 168 697 (dobS (instEs2 D.τ D.η ++ D.u 2) (D.e 2) (D.s 2)) ::
  row 169 698 ({ cls := .ref 470, dict := some 697, data := .plain } : Obj) ::
  row 176 705 (dobS (instEs3 D.τ D.η ++ D.u 3) (D.e 3) (D.s 3)) ::
  row 177 706 ({ cls := .ref 415, dict := some 705, data := .plain } : Obj) ::
  row 184 713 (dobS (instEs4 D.τ D.η ++ D.u 4) (D.e 4) (D.s 4)) ::
  row 185 714 ({ cls := .ref 374, dict := some 713, data := .plain } : Obj) ::
  row 192 721 ({ cls := .type "list", dict := none, data := .seq #[.ref 682, .ref 690, .ref 698, .ref 706, .ref 714] 0 } : Obj) ::
  row 194 723 (lob (arr7 D.sn) D.snE) ::
  row 196 725 (lob (arr7 D.kp) D.kpE) ::
  row 200 729 (rob D.v D.left) ::
  row 1000 D.dA (lob D.deeds D.dE) :: []
end Mine
end

section
open PySem PySem.Spec PySem.Calls PyProof.Rows PySem.W PySem.W.X
namespace Mine
section
variable {prog : Program} {w : World} {A : Around} {s : Shared} {R : Result → Shared → Prop}
theorem code_meets {T : String} {name : Str} {id : String} {Bb : Builtin} {self : Value} {rest : List Value} {S : PySem.Spec} (slot : Slot T name id) (hT : s.TypeIs self T)
    (entry : entryFor table id = some Bb) (args : argsOk id ⟨self :: rest, []⟩) (g : MeetsIn prog w (Bb ⟨self :: rest, []⟩) S) (h : S A R s) :
    codeAny (model prog w) A (.call (.builtin id) ⟨self :: rest, []⟩) R s :=
  codeAny_call_builtin slot.plain entry (slot.check _ _ _ _ _ _ _ _ hT args (g A R s h))

theorem meets_getitem {l : Addr} {items : Array Value} {k : Int} {t : Tok} {x : Value} {o : Obj} {e : Nat} (ho : o.data = .seq items e)
    (h0 : 0 ≤ k) (hfit : k < 2 ^ 63) (hx : items[k.toNat]? = some x) :
    MeetsIn prog w (Builtin.«list.__getitem__» ⟨[.ref l, .int k t], []⟩) (fun _ R s => s.heap.get? l = some o ∧ R (.ok (.ret x)) s) :=
  .of_wp fun A R s ⟨hl, h⟩ => by
    show wpAny _ _ (Builtin.List.listSubscript? (.int k t) >>= _) _ _ s
    refine wpAny_bind (wpAny_listSubscript_int (fitsIndex_of h0 hfit) ?_)
    clear hfit
    obtain ⟨j, rfl⟩ := Int.eq_ofNat_of_zero_le h0
    have hx' : items[j]? = some x := hx
    show wpAny _ _ ((seqItemAt l j >>= fun r => pure (r.map (j, ·))) >>= _) _ _ s
    refine wpAny_bind (wpAny_bind (wpAny_seqItemAt hl ho (wpAny_pure ?_)))
    rw [hx']
    first
      | exact wpAny_bind (wpAny_pure (wpAny_pure ⟨x, rfl, h⟩))
      | exact wpAny_pure ⟨x, rfl, h⟩
      | exact wpAny_pure ⟨x, rfl, wpAny_pure h⟩

/-! dicts, written out -/
variable {K : Type} [DecidableEq K] {knd : KeyKind prog w K} {E : Value → Shared → Prop}
theorem wp_dGet {d : Addr} {o : Obj} {es : Array DictEntry} {ep : Nat} {k : K} {key : Value} {Q : Option Value → Shared → Prop} (hkey : knd.is k key = true) (ho : s.heap.get? d = some o) (hd : o.data = .dict es ep) (hk : KeysOf knd es)
    (h : Q (((es.findIdx? fun e => knd.is k e.key).bind fun i => es[i]?).map (·.val)) { s with toks := s.toks + 1 }) : wpAny (model prog w) A (dictGet d key) Q E s := by
  unfold dictGet
  try with_reducible refine wpAny_holding ?_
  refine wpAny_bind (knd.pyHash hkey (wpAny_bind (wpAny_dictFind_of (s := { s with toks := s.toks + 1 }) hkey ho hd hk ?_)))
  cases hi : es.findIdx? fun e => knd.is k e.key with
  | none => rw [hi] at h; exact wpAny_pure h
  | some i => rw [hi] at h; exact wpAny_bind (wpAny_dictEntries (s := { s with toks := s.toks + 1 }) ho hd (wpAny_pure h))
theorem wp_dSetNew {d : Addr} {o : Obj} {es : Array DictEntry} {ep : Nat} {k : K} {key v : Value} {Q : Unit → Shared → Prop} (hkey : knd.is k key = true) (ho : s.heap.get? d = some o) (hd : o.data = .dict es ep) (hk : KeysOf knd es)
    (hn : (es.findIdx? fun e => knd.is k e.key) = none) (hes : es.size ≤ sizeLine)
    (h : Q () { s with heap := s.heap.update d (Obj.mapDictKeys fun es => es.push ⟨knd.hash k, key, v⟩), toks := s.toks + 1 }) : wpAny (model prog w) A (dictSet d key v) Q E s := by
  unfold dictSet
  try with_reducible refine wpAny_holding ?_
  refine wpAny_bind (knd.pyHash hkey ?_)
  unfold dictSetHashed
  try with_reducible refine wpAny_holding ?_
  refine wpAny_bind (wpAny_dictFind_of (s := { s with toks := s.toks + 1 }) hkey ho hd hk ?_)
  rw [hn]
  exact wpAny_bind (wpAny_rule (wpAny_updateDictKeys (hz := hes) (s := { s with toks := s.toks + 1 }) ho hd h))
theorem wp_takeOut0 {d : Addr} {o : Obj} {es : Array DictEntry} {ep : Nat} {k : K} {key : Value} {e : DictEntry} {Q : Option DictEntry → Shared → Prop} (hkey : knd.is k key = true) (ho : s.heap.get? d = some o) (hd : o.data = .dict es ep) (hk : KeysOf knd es)
    (hn : (es.findIdx? fun e => knd.is k e.key) = some 0) (he : es[0]? = some e) (hes : es.size ≤ sizeLine)
    (h : Q (some e) { s with heap := s.heap.update d (Obj.mapDictKeys fun es => es.eraseIdxIfInBounds 0), toks := s.toks + 1 }) : wpAny (model prog w) A (Builtin.Dict.takeOut d key) Q E s := by
  unfold Builtin.Dict.takeOut
  try with_reducible refine wpAny_holding ?_
  refine wpAny_bind (knd.pyHash hkey ?_)
  refine wpAny_bind (wpAny_dictFind_of (s := { s with toks := s.toks + 1 }) hkey ho hd hk ?_)
  rw [hn]
  refine wpAny_bind (wpAny_dictEntries (s := { s with toks := s.toks + 1 }) ho hd ?_)
  rw [he]
  exact wpAny_bind (wpAny_updateDictKeys (hz := hes) (s := { s with toks := s.toks + 1 }) ho hd (wpAny_pure h))

theorem meets_dget {d : Addr} {o : Obj} {es : Array DictEntry} {ep : Nat} {k : K} {key dflt x : Value} (hkey : knd.is k key = true) (hd : (d == sysModules) = false) (hdat : o.data = .dict es ep) (hk : KeysOf knd es)
    (hx : (((es.findIdx? fun e => knd.is k e.key).bind fun i => es[i]?).map (·.val)).getD dflt = x) :
    MeetsIn prog w (Builtin.«dict.get» ⟨[.ref d, key, dflt], []⟩) (fun _ R s => s.heap.get? d = some o ∧ R (.ok (.ret x)) { s with toks := s.toks + 1 }) :=
  .of_wp fun A R s ⟨ho, h⟩ => by
    show wpAny _ _ (dictGet d key >>= _) _ _ s
    refine wpAny_bind (wp_dGet hkey ho hdat hk ?_)
    cases hf : ((es.findIdx? fun e => knd.is k e.key).bind fun i => es[i]?).map (·.val) with
    | some v =>
      rw [hf] at hx
      exact wpAny_pure ⟨v, rfl, by rw [show v = x from hx]; exact h⟩
    | none =>
      rw [hf] at hx
      show wpAny _ _ (Builtin.Dict.missed d key >>= _) _ _ _
      exact wpAny_bind (wpAny_missed_other hd (wpAny_pure ⟨dflt, rfl, by rw [show dflt = x from hx]; exact h⟩))
theorem meets_ditem {d : Addr} {o : Obj} {es : Array DictEntry} {ep : Nat} {k : K} {key x : Value} (hkey : knd.is k key = true) (hdat : o.data = .dict es ep) (hk : KeysOf knd es)
    (hx : (((es.findIdx? fun e => knd.is k e.key).bind fun i => es[i]?).map (·.val)) = some x) :
    MeetsIn prog w (Builtin.«dict.__getitem__» ⟨[.ref d, key], []⟩) (fun _ R s => s.heap.get? d = some o ∧ R (.ok (.ret x)) { s with toks := s.toks + 1 }) :=
  .of_wp fun A R s ⟨ho, h⟩ => by
    show wpAny _ _ (dictGet d key >>= _) _ _ s
    refine wpAny_bind (wp_dGet hkey ho hdat hk ?_)
    rw [hx]
    exact wpAny_pure ⟨x, rfl, h⟩
theorem meets_dset {d : Addr} {o : Obj} {es : Array DictEntry} {ep : Nat} {k : K} {key v : Value} (hkey : knd.is k key = true) (hc : o.cls = .type "dict") (hdat : o.data = .dict es ep) (hk : KeysOf knd es)
    (hn : (es.findIdx? fun e => knd.is k e.key) = none) (hes : es.size ≤ sizeLine) :
    MeetsIn prog w (Builtin.«dict.__setitem__» ⟨[.ref d, key, v], []⟩) (fun _ R s => s.heap.get? d = some o ∧ R (.ok (.ret .none)) { s with heap := s.heap.update d (Obj.mapDictKeys fun es => es.push ⟨knd.hash k, key, v⟩), toks := s.toks + 1 }) :=
  .of_wp fun A R s ⟨ho, h⟩ => by
    show wpAny _ _ (Builtin.Dict.notOrdered "__setitem__" ⟨[.ref d, key, v], []⟩ >>= _) _ _ s
    refine wpAny_bind (wpAny_notOrdered_dict ⟨o, ho, hc⟩ ?_)
    show wpAny _ _ (dictSet d key v >>= _) _ _ s
    exact wpAny_bind (wp_dSetNew hkey ho hdat hk hn hes (wpAny_pure ⟨.none, rfl, h⟩))
theorem meets_dpop0 {d : Addr} {o : Obj} {es : Array DictEntry} {ep : Nat} {k : K} {key : Value} {e : DictEntry} (hkey : knd.is k key = true) (hpart : (keyPart key).isSome = true) (hc : o.cls = .type "dict") (hdat : o.data = .dict es ep) (hk : KeysOf knd es)
    (hn : (es.findIdx? fun e => knd.is k e.key) = some 0) (he : es[0]? = some e) (hes : es.size ≤ sizeLine) :
    MeetsIn prog w (Builtin.«dict.pop» ⟨[.ref d, key], []⟩) (fun _ R s => s.heap.get? d = some o ∧ R (.ok (.ret e.val)) { s with heap := s.heap.update d (Obj.mapDictKeys fun es => es.eraseIdxIfInBounds 0), toks := s.toks + 1 }) :=
  .of_wp fun A R s ⟨ho, h⟩ => by
    unfold Builtin.«dict.pop»
    refine wpAny_bind ?_
    unfold Builtin.Dict.keyAndDefault
    refine wpAny_bind (wpAny_notOrdered_dict ⟨o, ho, hc⟩ ?_)
    show wpAny _ _ (pure (d, key, none)) _ _ s
    refine wpAny_pure ?_
    simp only [hpart, if_true]
    refine wpAny_bind (wpAny_pure ?_)
    refine wpAny_bind ?_
    refine wp_takeOut0 hkey ho hdat hk hn he hes ?_
    exact wpAny_bind (wpAny_letGo (wpAny_pure ⟨e.val, rfl, h⟩))
end
variable (B : Bx)
theorem typeIs_of {h : Heap} {tk : Nat} {a : Addr} {o : Obj} {T : String} (ho : h.get? a = some o) (hc : o.cls = .type T) : (B.shr h tk).TypeIs (.ref a) T := ⟨o, ho, hc⟩

/-- the tokens of a code's arguments -/
def argsOf (c : Code) : List Value := match c with
  | .call _ a => a.pos
  | .builtin _ a => a.pos
  | _ => []
def tokV (v : Value) : Tok := match v with
    | .int _ t => t
    | .str _ t => t
    | _ => 0
def valN (l : List Value) (n : Nat) : Value := match l with
  | [] => .none
  | v :: l => match n with
    | 0 => v
    | n + 1 => valN l n
def tkA (c : Code) (n : Nat) : Tok := tokV (valN (argsOf c) n)
noncomputable abbrev obT (T : OT) (idx a : Nat) (o : Obj) : Ob := ⟨Option (Nat × Obj), T.get idx, some (a, o)⟩
abbrev obC (c c' : Code) : Ob := ⟨Code, c, c'⟩
/-- xs[i] -/
noncomputable def jGet (idx : Nat) (a : Nat) (xs : Array Value) (e : Nat) (i : Int) (v : Value) (h0 : 0 ≤ i) (hf : i < 2 ^ 63) (hx : xs[i.toNat]? = some v) : Jm B where
  f c T m sz tk := some ⟨v, T, m, sz, tk, [obT T idx a (lob xs e), obC c (.call (.builtin "list.__getitem__") ⟨[.ref a, .int i (tkA c 1)], []⟩)]⟩
  ok c T m sz tk r hr ho A R h hh hu D H := by
    cases hr
    have h1 : T.get idx = some (a, lob xs e) := ho _ List.mem_cons_self
    have h2 : c = _ := ho (obC c _) (List.mem_cons_of_mem _ List.mem_cons_self)
    rw [h2]
    have hg := D.at h1
    exact .of_any <| code_meets F.slot_list_getitem (typeIs_of B hg rfl) F.entry_list_getitem (F.args_list_getitem_2 _ _) (meets_getitem (o := lob xs e) rfl h0 hf hx) ⟨hg, H h D⟩
/-- t[i], t a tuple -/
noncomputable def jGetT (idx : Nat) (a : Nat) (xs : Array Value) (e : Nat) (i : Int) (v : Value) (h0 : 0 ≤ i) (hf : i < 2 ^ 63) (hx : xs[i.toNat]? = some v) : Jm B where
  f c T m sz tk := some ⟨v, T, m, sz, tk, [obT T idx a (tob xs e), obC c (.call (.builtin "tuple.__getitem__") ⟨[.ref a, .int i (tkA c 1)], []⟩)]⟩
  ok c T m sz tk r hr ho A R h hh hu D H := by
    cases hr
    have h1 : T.get idx = some (a, tob xs e) := ho _ List.mem_cons_self
    have h2 : c = _ := ho (obC c _) (List.mem_cons_of_mem _ List.mem_cons_self)
    rw [h2]
    have hg := D.at h1
    have hlt : i.toNat < xs.size := (Array.getElem?_eq_some_iff.mp hx).1
    exact .of_any <| code_meets F.slot_tuple_getitem (typeIs_of B hg rfl) F.entry_tuple_getitem (F.args_tuple_getitem_2 _ _) (Meets.inModel (MeetsSeq.tuple_getitem_at a xs e i (tkA c 1) i.toNat v (by omega) hf (by unfold seqIndex?; simp; omega) hx) _ _) ⟨hg, H h D⟩
def addrN (c : Code) (n : Nat) : Nat := match valN (argsOf c) n with
  | .ref a => a
  | _ => 0
def strN (c : Code) (n : Nat) : Str := match valN (argsOf c) n with
  | .str s _ => s
  | _ => ⟨#[]⟩
def elemsOf (o : Obj) : List Value := match o.data with
  | .seq xs _ => xs.toList
  | _ => []
def epochOf (o : Obj) : Nat := match o.data with
  | .seq _ e => e
  | .dict _ e => e
  | _ => 0
abbrev obO (o o' : Obj) : Ob := ⟨Obj, o, o'⟩
/-- slot in [0, 2, 4, 5] -/
noncomputable def jIn (idx : Nat) (slot : Int) (b : Bool) (hb : ((0 : Int) == slot || ((2 : Int) == slot || ((4 : Int) == slot || ((5 : Int) == slot || false)))) = b) : Jm B where
  f c T m sz tk := match T.get idx with
    | none => none
    | some x => match x with
      | (a, o) => some ⟨.bool b, T, m, sz, tk, [obO o (lob #[.int 0 (tokV (valN (elemsOf o) 0)), .int 2 (tokV (valN (elemsOf o) 1)), .int 4 (tokV (valN (elemsOf o) 2)), .int 5 (tokV (valN (elemsOf o) 3))] 0),
        obC c (.call (.builtin "list.__contains__") ⟨[.ref a, .int slot (tkA c 1)], []⟩)]⟩
  ok c T m sz tk r hr ho A R h hh hu D H := by
    split at hr
    · cases hr
    · rename_i x e
      obtain ⟨a, o⟩ := x
      dsimp only at hr
      cases hr
      have h1 : o = _ := ho (obO o _) List.mem_cons_self
      have h2 : c = _ := ho (obC c _) (List.mem_cons_of_mem _ List.mem_cons_self)
      rw [h2]
      have hg := D.at e
      generalize tokV (valN (elemsOf o) 0) = t0 at h1
      generalize tokV (valN (elemsOf o) 1) = t1 at h1
      generalize tokV (valN (elemsOf o) 2) = t2 at h1
      generalize tokV (valN (elemsOf o) 3) = t3 at h1
      rw [h1] at hg
      refine .of_any <| code_meets F.slot_list_contains (typeIs_of B hg rfl) F.entry_list_contains (F.args_list_contains_2 _ _)
        (Meets.inModel (MeetsSeq.list_contains a _ 0 (.int slot (tkA c 1)) (fun v => match v with | .int i _ => i == slot | _ => false) ?_) _ _) ⟨hg, ?_⟩
      · intro y hy
        simp only [List.mem_toArray, List.mem_cons, List.not_mem_nil, or_false] at hy
        rcases hy with rfl | rfl | rfl | rfl <;> exact MeetsSeq.EqGives.int _ _ _ _
      · have : (#[Value.int 0 t0, .int 2 t1, .int 4 t2, .int 5 t3].any fun v => match v with | .int i _ => i == slot | _ => false) = b := by
          rw [← hb]
          simp [List.any]
        rw [this]
        exact H h D

section
variable {B}
theorem isList_of {h : Heap} {a : Addr} {xs : Array Value} {e : Nat} (hg : h.get? a = some (lob xs e)) : h.IsList a xs := ⟨_, hg, rfl, e, rfl⟩
abbrev SK (B : Bx) : KeyKind B.prog B.w Str := strKind B.prog B.w
/-- the entries of a dict, as keys and values -/
structure DK (B : Bx) (es : List DictEntry) (kvs : List (Str × Value)) : Prop where
  keys : KeysOf (SK B) ⟨es⟩
  pairs : Pairs (SK B) es kvs
  nodup : (kvs.map (·.1)).Nodup
theorem DK.at {es : List DictEntry} {kvs : List (Str × Value)} (d : DK B es kvs) {h : Heap} {a : Addr} {e : Nat} (hg : h.get? a = some (dobS es e #[])) : h.DictAt (SK B) a kvs e :=
  ⟨_, _, hg, ⟨rfl, rfl, rfl⟩, rfl, d.keys, d.pairs, d.nodup⟩
theorem DK.of {h : Heap} {a : Addr} {kvs : List (Str × Value)} (d : h.DictOf (SK B) a kvs) : ∃ es e, h.get? a = some (dobS es e #[]) ∧ DK B es kvs := by
  obtain ⟨⟨c, dd, dat, sl⟩, ⟨es⟩, ep, ho, ⟨h1, h2, h3⟩, h4, h5, h6, h7⟩ := d
  simp only at h1 h2 h3 h4
  subst h1 h2 h3 h4
  exact ⟨es, ep, ho, h5, h6, h7⟩
theorem DK.find {es : List DictEntry} {kvs : List (Str × Value)} (d : DK B es kvs) (k : Str) : (((⟨es⟩ : Array DictEntry).findIdx? fun e => (SK B).is k e.key).bind fun i => (⟨es⟩ : Array DictEntry)[i]?).map (·.val) = valueAt kvs k := by
  rw [← d.pairs.find k]
  have e := findBy_of_findIdx? (SK B).is ⟨es⟩ k
  simp only [findBy, List.find?_toArray] at e
  rw [e]
  cases Array.findIdx? (fun e => (SK B).is k e.key) ⟨es⟩ <;> rfl
theorem toks_at {M : Model} {A : Around} {c : Code} {R : Result → Shared → Prop} {s : Shared} (h : CodeAt M A c (fun r s' => s.toks ≤ s'.toks → R r s') s) : CodeAt M A c R s := fun Γ p hin => by
  obtain ⟨r, s', hr, hR⟩ := h Γ p hin
  exact ⟨r, s', hr, hR hr.toks_le⟩
end
/-- len(xs) -/
noncomputable def jLenL (idx : Nat) (a : Nat) (xs : Array Value) (e : Nat) (n : Int) (hn : (xs.size : Int) = n) (hf : n < 2 ^ 63) : Jm B where
  f c T m sz tk := some ⟨.int n (tk + 1), T, m, sz, tk + 1 + 1, [obT T idx a (lob xs e), obC c (.call (.builtin "len") ⟨[.ref a], []⟩)]⟩
  ok c T m sz tk r hr ho A R h hh hu D H := by
    cases hr
    have h1 : T.get idx = some (a, lob xs e) := ho _ List.mem_cons_self
    have h2 : c = _ := ho (obC c _) (List.mem_cons_of_mem _ List.mem_cons_self)
    rw [h2]
    subst hn
    exact .of_call (Q := fun v s' => R (.ok (.ret v)) s') (E := fun e s' => R (.error e) s') (Calls.call_function_entry kind_len plain_len entry_len (args_len1 _) (wpAny_len_body_list (isList_of (D.at h1)) hf (H h D))) (fun _ _ x => x) fun _ _ x => x
noncomputable def jLenT (idx : Nat) (a : Nat) (xs : Array Value) (e : Nat) (n : Int) (hn : (xs.size : Int) = n) (hf : n < 2 ^ 63) : Jm B where
  f c T m sz tk := some ⟨.int n (tk + 1), T, m, sz, tk + 1 + 1, [obT T idx a (tob xs e), obC c (.call (.builtin "len") ⟨[.ref a], []⟩)]⟩
  ok c T m sz tk r hr ho A R h hh hu D H := by
    cases hr
    have h1 : T.get idx = some (a, tob xs e) := ho _ List.mem_cons_self
    have h2 : c = _ := ho (obC c _) (List.mem_cons_of_mem _ List.mem_cons_self)
    rw [h2]
    subst hn
    exact .of_call (Q := fun v s' => R (.ok (.ret v)) s') (E := fun e s' => R (.error e) s') (Calls.call_function_entry kind_len plain_len entry_len (args_len1 _) (len_entry_tuple ⟨_, D.at h1, rfl, e, rfl⟩ hf (H h D))) (fun _ _ x => x) fun _ _ x => x
noncomputable def jLenD (idx : Nat) (a : Nat) (es : List DictEntry) (e : Nat) (kvs : List (Str × Value)) (dk : DK B es kvs) (hs : (a == sysModules) = false) (n : Int) (hn : (kvs.length : Int) = n) (hf : n < 2 ^ 63) : Jm B where
  f c T m sz tk := some ⟨.int n (tk + 1), T, m, sz, tk + 1 + 1, [obT T idx a (dobS es e #[]), obC c (.call (.builtin "len") ⟨[.ref a], []⟩)]⟩
  ok c T m sz tk r hr ho A R h hh hu D H := by
    cases hr
    have h1 : T.get idx = some (a, dobS es e #[]) := ho _ List.mem_cons_self
    have h2 : c = _ := ho (obC c _) (List.mem_cons_of_mem _ List.mem_cons_self)
    rw [h2]
    subst hn
    exact .of_call (Q := fun v s' => R (.ok (.ret v)) s') (E := fun e s' => R (.error e) s') (call_len_dict (knd := SK B) hs (dk.at (D.at h1)).dictOf hf (H h D)) (fun _ _ x => x) fun _ _ x => x
noncomputable def jLenB (idx : Nat) (a : Nat) (xs : Array Value) (e : Nat) (n : Int) (hn : (xs.size : Int) = n) (hf : n < 2 ^ 63) : Jm B where
  f c T m sz tk := some ⟨.int n (tk + 1), T, m, sz, tk + 1 + 1, [obT T idx a (lob xs e), obC c (.builtin "len" ⟨[.ref a], []⟩)]⟩
  ok c T m sz tk r hr ho A R h hh hu D H := by
    cases hr
    have h1 : T.get idx = some (a, lob xs e) := ho _ List.mem_cons_self
    have h2 : c = _ := ho (obC c _) (List.mem_cons_of_mem _ List.mem_cons_self)
    rw [h2]
    subst hn
    refine .of_any (codeAny_builtin entry_len ?_)
    rw [Around.under_plainId plain_len _]
    exact wpAny_mono (wpAny_len_body_list (Q := fun v s' => R (.ok (.ret v)) s') (E := fun e s' => R (.error e) s') (isList_of (D.at h1)) hf (H h D)) (fun fin s' x => by obtain ⟨v, rfl, x⟩ := x; exact x) fun _ _ x => x
/-- xs.append(v) -/
noncomputable def jApp (idx : Nat) (a : Nat) (xs : Array Value) (e : Nat) (v : Value) (hs : xs.size ≤ sizeLine) (hi : idx % 1024 < 1000) : Jm B where
  f c T m sz tk := some ⟨.none, T.put idx a (lob (xs.push v) (e + 1)), m, sz, tk, [obT T idx a (lob xs e), obC c (.call (.builtin "list.append") ⟨[.ref a, v], []⟩)]⟩
  ok c T m sz tk r hr ho A R h hh hu D H := by
    cases hr
    have h1 : T.get idx = some (a, lob xs e) := ho _ List.mem_cons_self
    have h2 : c = _ := ho (obC c _) (List.mem_cons_of_mem _ List.mem_cons_self)
    rw [h2]
    have hg := D.at h1
    exact .of_any <| code_meets F.slot_list_append (typeIs_of B hg rfl) F.entry_list_append (F.args_list_append_2 _ _) (Meets.inModel (AutoListH.list_append_list_val_0 a xs e v hs) _ _)
      ⟨hg, H _ (D.update h1 hi (Heap.SameBut.update ..) ((Heap.get?_update_self (Obj.mapSeq fun x_1 => x_1.push v) hg rfl).trans (by
        show some ({ cls := .type "list", data := .seq (xs.push v) (if (xs.push v).size == xs.size then e else e + 1) } : Obj) = _
        rw [Array.size_push, if_neg (by simp)]; rfl)))⟩
/-- xs.pop(0) -/
noncomputable def jPop0 (idx : Nat) (a : Nat) (x : Value) (xs : List Value) (e : Nat) (hs : xs.length + 1 ≤ sizeLine) (hi : idx % 1024 < 1000) : Jm B where
  f c T m sz tk := some ⟨x, T.put idx a (lob ⟨xs⟩ (e + 1)), m, sz, tk, [obT T idx a (lob ⟨x :: xs⟩ e), obC c (.call (.builtin "list.pop") ⟨[.ref a, .int 0 (tkA c 1)], []⟩)]⟩
  ok c T m sz tk r hr ho A R h hh hu D H := by
    cases hr
    have h1 : T.get idx = some (a, lob ⟨x :: xs⟩ e) := ho _ List.mem_cons_self
    have h2 : c = _ := ho (obC c _) (List.mem_cons_of_mem _ List.mem_cons_self)
    rw [h2]
    have hg := D.at h1
    have e1 : (⟨x :: xs⟩ : Array Value).eraseIdxIfInBounds 0 = ⟨xs⟩ := by simp [Array.eraseIdxIfInBounds]
    exact .of_any <| code_meets F.slot_list_pop (typeIs_of B hg rfl) F.entry_list_pop (F.args_list_pop_2 _ _) (Meets.inModel (MeetsSeq.list_pop_at a ⟨x :: xs⟩ e 0 (tkA c 1) 0 x (by decide) (by simp [seqIndex?]) (by simp) hs) _ _)
      ⟨hg, H _ (D.update h1 hi (Heap.SameBut.update ..) ((Heap.get?_update_self (Obj.mapSeq fun xs => xs.eraseIdxIfInBounds 0) hg rfl).trans (by
        show some ({ cls := .type "list", data := .seq ((⟨x :: xs⟩ : Array Value).eraseIdxIfInBounds 0) (if ((⟨x :: xs⟩ : Array Value).eraseIdxIfInBounds 0).size == (⟨x :: xs⟩ : Array Value).size then e else e + 1) } : Obj) = _
        rw [e1, if_neg (by simp)]; rfl)))⟩
/-- d.get(k, dflt): in the dict of a thing, or any other -/
noncomputable def jDGet (idx : Nat) (a : Nat) (es : List DictEntry) (e : Nat) (sl : Array (Option Value)) (kvs : List (Str × Value)) (dk : DK B es kvs) (hs : (a == sysModules) = false) (k : Str) (dflt v : Value) (hv : (valueAt kvs k).getD dflt = v) : Jm B where
  f c T m sz tk := some ⟨v, T, m, sz, tk + 1, [obT T idx a (dobS es e sl), obC c (.call (.builtin "dict.get") ⟨[.ref a, .str k (tkA c 1), dflt], []⟩)]⟩
  ok c T m sz tk r hr ho A R h hh hu D H := by
    cases hr
    have h1 : T.get idx = some (a, dobS es e sl) := ho _ List.mem_cons_self
    have h2 : c = _ := ho (obC c _) (List.mem_cons_of_mem _ List.mem_cons_self)
    rw [h2]
    have hg := D.at h1
    exact .of_any <| code_meets F.slot_dict_get (typeIs_of B hg rfl) F.entry_dict_get (F.args_dict_get_3 _ _ _) (meets_dget (knd := SK B) (o := dobS es e sl) (strKind_is _ _ k _) hs rfl dk.keys (by rw [dk.find k]; exact hv)) ⟨hg, H h D⟩
/-- d[k] -/
noncomputable def jDItem (idx : Nat) (a : Nat) (es : List DictEntry) (e : Nat) (kvs : List (Str × Value)) (dk : DK B es kvs) (k : Str) (v : Value) (hv : valueAt kvs k = some v) : Jm B where
  f c T m sz tk := some ⟨v, T, m, sz, tk + 1, [obT T idx a (dobS es e #[]), obC c (.call (.builtin "dict.__getitem__") ⟨[.ref a, .str k (tkA c 1)], []⟩)]⟩
  ok c T m sz tk r hr ho A R h hh hu D H := by
    cases hr
    have h1 : T.get idx = some (a, dobS es e #[]) := ho _ List.mem_cons_self
    have h2 : c = _ := ho (obC c _) (List.mem_cons_of_mem _ List.mem_cons_self)
    rw [h2]
    have hg := D.at h1
    exact .of_any <| code_meets F.slot_dict_getitem (typeIs_of B hg rfl) F.entry_dict_getitem (F.args_dict_getitem_2 _ _) (meets_ditem (knd := SK B) (o := dobS es e #[]) (strKind_is _ _ k _) rfl dk.keys (by rw [dk.find k]; exact hv)) ⟨hg, H h D⟩
theorem DK.fresh {es : List DictEntry} {kvs : List (Str × Value)} (d : DK B es kvs) {k : Str} (hk : k ∉ kvs.map (·.1)) : ((⟨es⟩ : Array DictEntry).findIdx? fun e => (SK B).is k e.key) = none := by
  have h1 : (es.findIdx? fun e => (SK B).is k e.key) = none := by
    rw [d.pairs.findIdx k]
    rw [List.findIdx?_eq_none_iff]
    intro kv hkv
    exact decide_eq_false fun e => hk (List.mem_map.mpr ⟨kv, hkv, e⟩)
  simpa using h1
theorem DK.add {es : List DictEntry} {kvs : List (Str × Value)} (d : DK B es kvs) {k : Str} (t : Tok) (v : Value) (hk : k ∉ kvs.map (·.1)) : DK B (es ++ [⟨(SK B).hash k, .str k t, v⟩]) (kvs ++ [(k, v)]) where
  keys := by
    have := d.keys.push (strKind_is B.prog B.w k t) v
    simpa using this
  pairs := d.pairs.append (strKind_is B.prog B.w k t) _ v
  nodup := by
    rw [List.map_append, List.nodup_append]
    refine ⟨d.nodup, by simp, ?_⟩
    intro a ha b hb
    simp only [List.map_cons, List.map_nil, List.mem_singleton] at hb
    subst hb
    exact fun e => hk (e ▸ ha)
/-- d[k] = v, a new key -/
noncomputable def jDSet (idx : Nat) (a : Nat) (es : List DictEntry) (e : Nat) (sl : Array (Option Value)) (kvs : List (Str × Value)) (dk : DK B es kvs) (k : Str) (v : Value) (hk : k ∉ kvs.map (·.1)) (hs : es.length ≤ sizeLine) (hi : idx % 1024 < 1000) : Jm B where
  f c T m sz tk := some ⟨.none, T.put idx a (dobS (es ++ [⟨(SK B).hash k, .str k (tkA c 1), v⟩]) (e + 1) sl), m, sz, tk + 1, [obT T idx a (dobS es e sl), obC c (.call (.builtin "dict.__setitem__") ⟨[.ref a, .str k (tkA c 1), v], []⟩)]⟩
  ok c T m sz tk r hr ho A R h hh hu D H := by
    cases hr
    have h1 : T.get idx = some (a, dobS es e sl) := ho _ List.mem_cons_self
    have h2 : c = _ := ho (obC c _) (List.mem_cons_of_mem _ List.mem_cons_self)
    rw [h2]
    have hg := D.at h1
    exact .of_any <| code_meets F.slot_dict_setitem (typeIs_of B hg rfl) F.entry_dict_setitem (F.args_dict_setitem_3 _ _ _) (meets_dset (knd := SK B) (o := dobS es e sl) (es := ⟨es⟩) (strKind_is _ _ k _) rfl rfl dk.keys (dk.fresh B hk) hs)
      ⟨hg, H _ (D.update h1 hi (Heap.SameBut.update ..) ((Heap.get?_update_self _ hg rfl).trans (by show some (dobS _ _ _) = some (dobS _ _ _); simp)))⟩

theorem DK.popFirst {x : DictEntry} {es : List DictEntry} {kv : Str × Value} {kvs : List (Str × Value)} (d : DK B (x :: es) (kv :: kvs)) : DK B es kvs where
  keys := fun e he => d.keys e (by simp at he ⊢; exact .inr he)
  pairs := by cases d.pairs with | cons _ _ h => exact h
  nodup := (List.nodup_cons.mp d.nodup).2
/-- d.pop(first key) -/
noncomputable def jDPop0 (idx : Nat) (a : Nat) (x : DictEntry) (es : List DictEntry) (e : Nat) (k : Str) (v : Value) (kvs : List (Str × Value)) (dk : DK B (x :: es) ((k, v) :: kvs)) (hs : es.length + 1 ≤ sizeLine) (hi : idx % 1024 < 1000) : Jm B where
  f c T m sz tk := some ⟨v, T.put idx a (dobS es (e + 1) #[]), m, sz, tk + 1, [obT T idx a (dobS (x :: es) e #[]), obC c (.call (.builtin "dict.pop") ⟨[.ref a, .str k (tkA c 1)], []⟩)]⟩
  ok c T m sz tk r hr ho A R h hh hu D H := by
    cases hr
    have h1 : T.get idx = some (a, dobS (x :: es) e #[]) := ho _ List.mem_cons_self
    have h2 : c = _ := ho (obC c _) (List.mem_cons_of_mem _ List.mem_cons_self)
    rw [h2]
    have hg := D.at h1
    have hp : (SK B).is k x.key = true ∧ x.val = v := by cases dk.pairs with | cons a b _ => exact ⟨a, b⟩
    obtain ⟨hp1, rfl⟩ := hp
    exact .of_any <| code_meets F.slot_dict_pop (typeIs_of B hg rfl) F.entry_dict_pop (F.args_dict_pop_2 _ _) (meets_dpop0 (knd := SK B) (o := dobS (x :: es) e #[]) (es := ⟨x :: es⟩) (e := x) (strKind_is _ _ k _) rfl rfl rfl dk.keys
        (by have hp1' := hp1; simp only [List.findIdx?_toArray, List.findIdx?_cons, hp1', if_true]) (by simp) hs)
      ⟨hg, H _ (D.update h1 hi (Heap.SameBut.update ..) ((Heap.get?_update_self (Obj.mapDictKeys fun es => es.eraseIdxIfInBounds 0) hg rfl).trans (by
        show some (dobS ((⟨x :: es⟩ : Array DictEntry).eraseIdxIfInBounds 0).toList (e + 1) #[]) = _
        simp)))⟩
/-- str(i) -/
noncomputable def jStr (i : Int) (r : Str) (hr : Str.ofString (toString i) = r) (ha : i.natAbs.log2 < 1920) : Jm B where
  f c T m sz tk := some ⟨.str r tk, T, m, sz, tk + 1, [obC c (.call (.type "str") ⟨[.int i (tkA c 0)], []⟩)]⟩
  ok c T m sz tk r' hr' ho A R h hh hu D H := by
    cases hr'
    have h2 : c = _ := ho (obC c _) List.mem_cons_self
    rw [h2]
    subst hr
    exact .of_call (Q := fun v s' => R (.ok (.ret v)) s') (E := fun e s' => R (.error e) s') (P.str_of_int ha (H h D)) (fun _ _ x => x) fun _ _ x => x
/-- x + y -/
noncomputable def jAdd (x y r : Str) (hr : x ++ y = r) (hx : (x.length == 0) = false) (hy : (y.length == 0) = false) (hs : r.length ≤ sizeLine) : Jm B where
  f c T m sz tk := some ⟨.str r tk, T, m, sz, tk + 1, [obC c (.call (.builtin "str.__add__") ⟨[.str x (tkA c 0), .str y (tkA c 1)], []⟩)]⟩
  ok c T m sz tk r' hr' ho A R h hh hu D H := by
    cases hr'
    have h2 : c = _ := ho (obC c _) List.mem_cons_self
    rw [h2]
    subst hr
    refine .of_any <| codeAny_call_builtin F.slot_str_add.plain F.entry_str_add (F.slot_str_add.check _ _ _ _ _ _ _ _ (by first | rfl | exact ⟨rfl⟩ | exact trivial) (F.args_str_add_2 _ _) (gives_str_add x y (tkA c 0) (tkA c 1) B.prog B.w A R (B.shr h tk) ?_))
    rw [hx, hy]
    exact ⟨hs, H h D⟩

def rangeO (n : Int) (t u v : Tok) : Obj := { cls := .type "range", data := .fields #[.int 0 t, .int n u, .int 1 v] }
abbrev obB (b b' : Bool) : Ob := ⟨Bool, b, b'⟩
/-- range(n) -/
noncomputable def jRange (n : Int) : Jm B where
  f c T m sz tk := some ⟨.ref sz, T.put m sz (rangeO n tk (tkA c 0) (tk + 1)), m + 1, sz + 1, tk + 1 + 1, [obC c (.call (.type "range") ⟨[.int n (tkA c 0)], []⟩), obB (Nat.blt (m % 1024) 1000) true]⟩
  ok c T m sz tk r' hr' ho A R h hh hu D H := by
    cases hr'
    have h2 : c = _ := ho (obC c _) List.mem_cons_self
    have h3 : Nat.blt (m % 1024) 1000 = true := ho (obB _ _) (List.mem_cons_of_mem _ List.mem_cons_self)
    rw [h2]
    refine .of_call (Q := fun v s' => R (.ok (.ret v)) s') (E := fun e s' => R (.error e) s') (call_range_1 ?_) (fun _ _ x => x) fun _ _ x => x
    have := H _ (D.alloc (o := rangeO n tk (tkA c 0) (tk + 1)) rfl m (Nat.le_of_ble_eq_true h3))
    rw [← D.size] at this
    exact this
/-- iter(range(n)) -/
noncomputable def jRIter (idx : Nat) (n : Int) (h0 : 0 ≤ n) (hn : n < 2 ^ 62) : Jm B where
  f c T m sz tk := match T.get idx with
    | none => none
    | some x => match x with
      | (a, o) => match o.data with
        | .fields xs => some ⟨.ref sz, T.put m sz (rob 0 n), m + 1, sz + 1, tk, [obO o (rangeO n (tokV (valN xs.toList 0)) (tokV (valN xs.toList 1)) (tokV (valN xs.toList 2))), obC c (.call (.builtin "range.__iter__") ⟨[.ref a], []⟩), obB (Nat.blt (m % 1024) 1000) true]⟩
        | _ => none
  ok c T m sz tk r' hr' ho A R h hh hu D H := by
    split at hr'
    · cases hr'
    · rename_i x e
      obtain ⟨a, o⟩ := x
      dsimp only at hr'
      split at hr'
      · rename_i xs hx
        cases hr'
        have h1 : o = _ := ho (obO o _) List.mem_cons_self
        have h2 : c = _ := ho (obC c _) (List.mem_cons_of_mem _ List.mem_cons_self)
        have h3 : Nat.blt (m % 1024) 1000 = true := ho (obB _ _) (List.mem_cons_of_mem _ (List.mem_cons_of_mem _ List.mem_cons_self))
        rw [h2]
        have hg := D.at e
        rw [h1] at hg
        have hsm : Builtin.Range.small 0 n 1 = true := small_one (by omega) (by omega) (by omega) hn
        unfold Builtin.Range.small at hsm
        refine .of_any <| code_meets F.slot_range_iter (typeIs_of B hg rfl) F.entry_range_iter (F.args_range_iter_1 _) (Meets.inModel (AutoRange.range___iter___range_1 a 0 n 1 _ _ _ (by rw [hsm]; decide)) _ _) ⟨hg, ?_⟩
        simp only [hsm, if_true]
        have := H _ (D.alloc (o := rob 0 n) rfl m (Nat.le_of_ble_eq_true h3))
        rw [← D.size] at this
        have e2 : Builtin.Range.rangeSize 0 n 1 = n := by
          rw [rangeSize_one]; split <;> omega
        rw [e2]
        exact this
      · cases hr'

/-! calls whose end is not known beforehand -/
def isC (t : Sem PySem.Fin) : Bool := match t with
  | .call _ hd _ _ _ => hd.isNone
  | _ => false
def callC (t : Sem PySem.Fin) : Code := match t with
  | .call c _ _ _ _ => c
  | _ => default
def kOf (t : Sem PySem.Fin) (r : Result) : Sem PySem.Fin := match t with
  | .call _ _ _ _ k => k r
  | _ => t
section
variable {B} {R₀ : Result → Shared → Prop}
theorem mnc_call (cf : Cf) (h : isC cf.t = true) (H : ∀ h, Rp B cf.T cf.sz h → CodeAt B.M (aroundIn B.acts cf.c cf.κ) (callC cf.t) (fun r s => s.toks ≥ cf.tk → Mn B.M B.acts R₀ cf.c cf.κ (kOf cf.t r) cf.p s) (B.shr h cf.tk)) : MnC B R₀ cf := by
  obtain ⟨c, κ, t, p, T, m, sz, tk⟩ := cf
  cases t with
  | call c' hd g l k =>
    cases hd with
    | none => exact mn_open c κ p T m sz tk c' g l k fun h' D => toks_at (H h' D)
    | some v => cases h
  | _ => cases h
/-- the machine goes on after an open call with a new thing at a + 730 -/
noncomputable def After (cf : Cf) (i : Nat) (a : Nat) (o : Obj) (y tk : Nat) : Cf := ⟨cf.c, cf.κ, kOf cf.t (.ok (.ret (.ref (a + 730)))), cf.p, cf.T.put i (a + 730) o, i + 1, y + 730, tk + 1046⟩
structure OpenAt (cf : Cf) (c : Code) : Prop where
  call : isC cf.t = true
  code : callC cf.t = c
  sz : Nat.ble 730 cf.sz = true
  tk : Nat.ble 1046 cf.tk = true
theorem OpenAt.mk' {cf : Cf} {c : Code} (h : (isC cf.t, callC cf.t, Nat.ble 730 cf.sz, Nat.ble 1046 cf.tk) = (true, c, true, true)) : OpenAt cf c := by
  simp only [Prod.mk.injEq] at h
  exact ⟨h.1, h.2.1, h.2.2.1, h.2.2.2⟩
theorem after_of {cf : Cf} {c : Code} (O : OpenAt cf c) {i : Nat} (hi : i % 1024 < 1000) {h h' : Heap} (D : Rp B cf.T cf.sz h) (hk : ∀ b o, h.get? b = some o → h'.get? b = some o) {x : Addr} (hx : ∀ o, h.get? x ≠ some o) (h730 : 730 ≤ x) {o : Obj} (ho : h'.get? x = some o) {s : Shared} (hs : s = B.shr h' s.toks)
    (ht : s.toks ≥ cf.tk) (H : ∀ a y tk, MnC B R₀ (After cf i a o y tk)) : Mn B.M B.acts R₀ cf.c cf.κ (kOf cf.t (.ok (.ret (.ref x)))) cf.p s := by
  have h2000 : 1046 ≤ cf.tk := Nat.le_of_ble_eq_true O.tk
  obtain ⟨a, rfl⟩ : ∃ a, x = a + 730 := ⟨x - 730, (Nat.sub_add_cancel h730).symm⟩
  obtain ⟨tk, e⟩ : ∃ tk, s.toks = tk + 1046 := ⟨s.toks - 1046, (Nat.sub_add_cancel (Nat.le_trans h2000 ht)).symm⟩
  have G := D.grow hk
  have hlt := Heap.lt_size ho
  obtain ⟨y, ey⟩ : ∃ y, h'.objs.size = y + 730 := ⟨h'.objs.size - 730, (Nat.sub_add_cancel (Nat.le_trans (Nat.le_add_left 730 a) (Nat.le_of_lt hlt))).symm⟩
  rw [ey] at G
  have hnz : ∀ o', ¬ B.fz (a + 730) o' := fun o' z => hx _ (D.keep _ _ z)
  have P := G.put hi ho hnz fun j o' e' _ => absurd (D.at e') (hx _)
  have := H a y tk h' P
  rw [hs, e]
  exact this
variable {cf : Cf} {i idx : Nat} {a : Nat}
/-- dict(d) -/
theorem oDict {es : List DictEntry} {e : Nat} {kvs : List (Str × Value)} (dk : DK B es kvs) (hs : (a == sysModules) = false) (hsz : kvs.length ≤ sizeLine) (O : OpenAt cf (.call (.type "dict") ⟨[.ref a], []⟩)) (hT : cf.T.get idx = some (a, dobS es e #[])) (hi : i % 1024 < 1000)
    (H : ∀ es' e', DK B es' kvs → ∀ a y tk, MnC B R₀ (After cf i a (dobS es' e' #[]) y tk)) : MnC B R₀ cf :=
  mnc_call cf O.call fun h D => by
    rw [O.code]
    refine .of_call (kt_call_dict (knd := SK B) (Q := fun v s' => s'.toks ≥ cf.tk → Mn B.M B.acts R₀ cf.c cf.κ (kOf cf.t (.ok (.ret v))) cf.p s') (E := fun _ _ => False) hs (dk.at (D.at hT)).dictOf hsz fun h' hd hb => ?_) (fun _ _ x => x) (fun _ _ x => x.elim)
    intro ht
    obtain ⟨es', e', ho', dk'⟩ := DK.of hd
    refine after_of O hi D (h' := h') (fun b o q => (hb.2 b fun z => ?_).trans (Heap.get?_push_of_some _ q)) (fun o q => Nat.lt_irrefl _ (Heap.lt_size q)) (by show 730 ≤ h.objs.size; rw [D.size]; exact Nat.le_of_ble_eq_true O.sz) ho' rfl ht (H es' e' dk')
    subst z
    exact Nat.lt_irrefl _ (Heap.lt_size q)
/-- tuple(xs) -/
theorem oTuple {xs : Array Value} {e : Nat} (hsz : xs.size ≤ sizeLine) (O : OpenAt cf (.call (.type "tuple") ⟨[.ref a], []⟩)) (hT : cf.T.get idx = some (a, lob xs e)) {oL : Obj} (hL : cf.T.get 200 = some (729, oL)) (hi : i % 1024 < 1000)
    (H : ∀ a y tk, MnC B R₀ (After cf i a (tob xs 0) y tk)) : MnC B R₀ cf :=
  mnc_call cf O.call fun h D => by
    rw [O.code]
    refine .of_call (call_tuple_list (Q := fun v s' => s'.toks ≥ cf.tk → Mn B.M B.acts R₀ cf.c cf.κ (kOf cf.t (.ok (.ret v))) cf.p s') (E := fun _ _ => False) (isList_of (D.at hT)) (fun h' hk => ?_) hsz) (fun _ _ x => x) (fun _ _ x => x.elim)
    intro ht
    exact after_of O hi D (h' := h'.push _) (fun b o q => Heap.get?_push_of_some _ (hk b o q)) (fun o q => Nat.lt_irrefl _ (Heap.lt_size (hk _ _ q))) (Heap.lt_size (hk _ _ (D.at hL))) (Heap.get?_push_size _ rfl) rfl ht H
theorem str_of_is {k : Str} {v : Value} (h : (SK B).is k v = true) : ∃ t, v = Value.str k t := Value.isStrOf_shape h
/-- list(d) -/
theorem oListD {es : List DictEntry} {e : Nat} {kvs : List (Str × Value)} (dk : DK B es kvs) (hs : (a == sysModules) = false) (hsz : kvs.length ≤ sizeLine) (O : OpenAt cf (.call (.type "list") ⟨[.ref a], []⟩)) (hT : cf.T.get idx = some (a, dobS es e #[])) (hi : i % 1024 < 1000)
    (H : ∀ (xs : List Value) (e' : Nat), xs.length = kvs.length → (∀ (j : Nat) (v : Value), xs[j]? = some v → ∃ (k : Str) (x : Value) (t : Tok), kvs[j]? = some (k, x) ∧ v = Value.str k t) → ∀ a y tk, MnC B R₀ (After cf i a (lob ⟨xs⟩ e') y tk)) : MnC B R₀ cf :=
  mnc_call cf O.call fun h D => by
    rw [O.code]
    refine .of_call (kdl_call (A := aroundIn B.acts cf.c cf.κ) (Q := fun v s' => s'.toks ≥ cf.tk → Mn B.M B.acts R₀ cf.c cf.κ (kOf cf.t (.ok (.ret v))) cf.p s') (E := fun _ _ => False) (kdl_dict (knd := SK B) hs) rfl (dk.at (D.at hT)) hsz fun h' tk acc' c' hk hS hacc => ?_) (fun _ _ x => x) (fun _ _ x => x.elim)
    intro ht
    obtain ⟨xs⟩ := acc'
    refine after_of O hi D (h' := h') hk (fun o q => Nat.lt_irrefl _ (Heap.lt_size q)) (by show 730 ≤ h.objs.size; rw [D.size]; exact Nat.le_of_ble_eq_true O.sz) (o := lob ⟨xs⟩ c') hS rfl ht (H xs c' hacc.1 fun j v q => ?_)
    obtain ⟨k, x, e1, e2⟩ := hacc.2 j v (by simpa using q)
    obtain ⟨t, rfl⟩ := str_of_is e2
    exact ⟨k, x, t, e1, rfl⟩
/-- list(xs) -/
theorem oListL {xs : Array Value} {e : Nat} (hsz : xs.size ≤ sizeLine) (O : OpenAt cf (.call (.type "list") ⟨[.ref a], []⟩)) (hT : cf.T.get idx = some (a, lob xs e)) (hi : i % 1024 < 1000)
    (H : ∀ e' a y tk, MnC B R₀ (After cf i a (lob xs e') y tk)) : MnC B R₀ cf :=
  mnc_call cf O.call fun h D => by
    rw [O.code]
    refine .of_call (call_list_seq (Q := fun v s' => s'.toks ≥ cf.tk → Mn B.M B.acts R₀ cf.c cf.κ (kOf cf.t (.ok (.ret v))) cf.p s') (E := fun _ _ => False) a (.inl rfl) (D.at hT) rfl rfl (fun h' c' hk hS => ?_) hsz) (fun _ _ x => x) (fun _ _ x => x.elim)
    intro ht
    exact after_of O hi D (h' := h') hk (fun o q => Nat.lt_irrefl _ (Heap.lt_size q)) (by show 730 ≤ h.objs.size; rw [D.size]; exact Nat.le_of_ble_eq_true O.sz) hS rfl ht (H c')
/-- more stands still -/
def Bx.add (B : Bx) (F : Nat → Obj → Prop) : Bx := { B with fz := fun a o => B.fz a o ∨ F a o }
theorem Bx.Ok.add {n : Nat} (O : B.Ok n) (F : Nat → Obj → Prop) : (B.add F).Ok n := ⟨fun a o e => .inl (O.kt a o e), O.units⟩
theorem Gx.Fits.add {G : Gx} (O : G.Fits B) (F : Nat → Obj → Prop) : G.Fits (B.add F) := ⟨O.1, O.2, O.3, O.4⟩
def viewO (d : Nat) : Obj := { cls := .type "dict_items", data := .fields #[.ref d] }
/-- list(d.items()) -/
theorem oItems {es : List DictEntry} {e : Nat} {kvs : List (Str × Value)} (dk : DK B es kvs) (hsz : kvs.length ≤ sizeLine) {v iv : Nat} (O : OpenAt cf (.call (.type "list") ⟨[.ref v], []⟩)) (hV : cf.T.get iv = some (v, viewO a)) (hT : cf.T.get idx = some (a, dobS es e #[])) (hi : i % 1024 < 1000)
    (H : ∀ (F : Nat → Obj → Prop) (as : List Nat) (e' : Nat), as.length = kvs.length → (∀ (j : Nat) (b : Nat), as[j]? = some b → ∃ (k : Str) (x : Value) (t : Tok), kvs[j]? = some (k, x) ∧ F b (tob #[.str k t, x] 0) ∧ 730 ≤ b) → ∀ a y tk, MnC (B.add F) R₀ (After cf i a (lob ⟨as.map .ref⟩ e') y tk)) : MnC B R₀ cf :=
  mnc_call cf O.call fun h D => by
    rw [O.code]
    refine .of_call (kdx_call (A := aroundIn B.acts cf.c cf.κ) (knd := SK B) (Q := fun v s' => s'.toks ≥ cf.tk → Mn B.M B.acts R₀ cf.c cf.κ (kOf cf.t (.ok (.ret v))) cf.p s') (E := fun _ _ => False) rfl (r := v) (d := a) ⟨_, D.at hV, rfl, rfl⟩ (dk.at (D.at hT)) hsz fun h' tk acc c' as hk hS hl hG hacc => ?_) (fun _ _ x => x) (fun _ _ x => x.elim)
    intro ht
    obtain ⟨xs⟩ := acc
    simp only at hacc
    subst hacc
    let F : Nat → Obj → Prop := fun b o => b ∈ as ∧ h'.get? b = some o
    have DF : Rp (B.add F) cf.T h'.objs.size h' := by
      have G := D.grow hk
      refine ⟨G.size, fun j b o e' hj => ⟨(G.own j b o e' hj).1, fun o' z => ?_⟩, fun j b o e' hj => .inl (G.ro j b o e' hj), G.inj, fun b o z => ?_⟩
      · rcases z with z | z
        · exact (G.own j b o e' hj).2 o' z
        · have h1 := hG.above b z.1
          have h2 := D.lt e'
          have h3 : h.objs.size < b := h1
          rw [D.size] at h3
          exact absurd h2 (Nat.not_lt.mpr (Nat.le_of_lt h3))
      · rcases z with z | z
        · exact G.keep b o z
        · exact z.2
    have h2000 : 1046 ≤ cf.tk := Nat.le_of_ble_eq_true O.tk
    have h730 : 730 ≤ h.objs.size := by rw [D.size]; exact Nat.le_of_ble_eq_true O.sz
    obtain ⟨a1, ea⟩ : ∃ a1, h.objs.size = a1 + 730 := ⟨h.objs.size - 730, (Nat.sub_add_cancel h730).symm⟩
    obtain ⟨tk1, et⟩ : ∃ tk1, tk = tk1 + 1046 := ⟨tk - 1046, (Nat.sub_add_cancel (Nat.le_trans h2000 ht)).symm⟩
    have hlt := Heap.lt_size hS
    obtain ⟨y, ey⟩ : ∃ y, h'.objs.size = y + 730 := ⟨h'.objs.size - 730, (Nat.sub_add_cancel (Nat.le_trans h730 (Nat.le_of_lt hlt))).symm⟩
    have hnew : ∀ o, h.get? h.objs.size ≠ some o := fun o q => Nat.lt_irrefl _ (Heap.lt_size q)
    have P := DF.put (i := i) (a := h.objs.size) (o := lob ⟨as.map .ref⟩ c') hi hS (fun o' z => by
      rcases z with z | z
      · exact hnew _ (D.keep _ _ z)
      · exact Nat.lt_irrefl _ (hG.above _ z.1)) fun j o' e' _ => absurd (D.at e') (hnew _)
    rw [ey, ea] at P
    have z := H F as c' hl (fun j b q => ?_) a1 y tk1 h' P
    · have ed : (B.shr h cf.tk).heap.objs.size = a1 + 730 := ea
      rw [ed, et]
      exact z
    · obtain ⟨key, k, x, e1, e2, e3⟩ := hG.pairs j b q
      obtain ⟨t, rfl⟩ := str_of_is e2
      exact ⟨k, x, t, e1, ⟨List.mem_of_getElem? q, e3⟩, Nat.le_trans h730 (Nat.le_of_lt (hG.above b (List.mem_of_getElem? q)))⟩
end
end Mine
end

section
open PySem PySem.Spec PySem.Calls PyProof.Rows PySem.W PySem.W.X
namespace Mine
def memB (n : Nat) (l : List Nat) : Bool := match l with
  | [] => false
  | x :: l => match Nat.beq n x with
    | true => true
    | false => memB n l
theorem memB_of : ∀ {n : Nat} {l : List Nat}, n ∈ l → memB n l = true
  | n, [], h => by cases h
  | n, x :: l, h => by
    unfold memB
    cases hb : Nat.beq n x with
    | true => rfl
    | false =>
      rcases List.mem_cons.mp h with rfl | h
      · rw [Nat.beq_refl] at hb; cases hb
      · exact memB_of h
def olds (l : List Row) : List Nat := match l with
  | [] => []
  | r :: l => r.old :: olds l
theorem olds_mem : ∀ {l : List Row} {r : Row}, r ∈ l → r.old ∈ olds l
  | [], r, h => by cases h
  | x :: l, r, h => by
    unfold olds
    rcases List.mem_cons.mp h with rfl | h
    · exact List.mem_cons_self
    · exact List.mem_cons_of_mem _ (olds_mem h)
def eqB (a b : Bool) : Bool := match a with
  | true => b
  | false => match b with
    | true => false
    | false => true
theorem eqB_of {a b : Bool} (h : eqB a b = true) : a = b := by cases a <;> cases b <;> first | rfl | cases h
def allLt (J : List Nat) : Bool := match J with
  | [] => true
  | j :: J => match Nat.blt j 1024 with
    | true => allLt J
    | false => false
theorem allLt_of : ∀ {J : List Nat}, allLt J = true → ∀ j ∈ J, j < 1024
  | [], _, j, h => by cases h
  | x :: J, e, j, h => by
    unfold allLt at e
    split at e
    · rename_i hx
      rcases List.mem_cons.mp h with rfl | h
      · exact Nat.le_of_ble_eq_true hx
      · exact allLt_of e j h
    · cases e
def rowsB1 (J : List Nat) (l : List Row) : Bool := match l with
  | [] => true
  | r :: l => match Nat.blt r.old 1024 with
    | false => false
    | true => match Nat.blt r.new 1024 with
      | false => false
      | true => match eqB (Nat.blt r.old 1000) (Nat.blt r.new 1000) with
        | false => false
        | true => match memB r.old J with
          | true => false
          | false => match memB r.old (olds l) with
            | true => false
            | false => rowsB1 J l
/-- the rows are sound, and apart from J -/
def rowsOkB (J : List Nat) (l : List Row) : Bool := match allLt J with
  | true => rowsB1 J l
  | false => false
structure RowsOk (l : List Row) : Prop where
  hi : ∀ r ∈ l, r.old < 1024 ∧ r.new < 1024 ∧ (r.old < 1000 ↔ r.new < 1000)
  inc : l.Pairwise fun r s => r.old ≠ s.old
theorem rowsB1_ok : ∀ (J : List Nat) (l : List Row), rowsB1 J l = true → RowsOk l ∧ ∀ r ∈ l, r.old ∉ J
  | J, [], _ => ⟨⟨(fun _ h => (by cases h)), List.Pairwise.nil⟩, (fun _ h => (by cases h))⟩
  | J, r :: l, e => by
    unfold rowsB1 at e
    split at e
    · cases e
    · rename_i h1
      split at e
      · cases e
      · rename_i h2
        split at e
        · cases e
        · rename_i h3
          split at e
          · cases e
          · rename_i h4
            split at e
            · cases e
            · rename_i h5
              obtain ⟨O, P⟩ := rowsB1_ok J l e
              have h1 : r.old < 1024 := Nat.le_of_ble_eq_true h1
              have h2 : r.new < 1024 := Nat.le_of_ble_eq_true h2
              have h3 := eqB_of h3
              have h4 : r.old ∉ J := fun z => by rw [memB_of z] at h4; cases h4
              refine ⟨⟨fun s hs => ?_, List.Pairwise.cons (fun s hs z => ?_) O.inc⟩, fun s hs => ?_⟩
              · rcases List.mem_cons.mp hs with rfl | hs
                · refine ⟨h1, h2, fun q => ?_, fun q => ?_⟩
                  · have : Nat.blt s.old 1000 = true := Nat.ble_eq_true_of_le q
                    rw [this] at h3
                    exact Nat.le_of_ble_eq_true h3.symm
                  · have : Nat.blt s.new 1000 = true := Nat.ble_eq_true_of_le q
                    rw [this] at h3
                    exact Nat.le_of_ble_eq_true h3
                · exact O.hi s hs
              · have := memB_of (olds_mem hs)
                rw [← z, h5] at this; cases this
              · rcases List.mem_cons.mp hs with rfl | hs
                · exact h4
                · exact P s hs
theorem rowsOkB_ok {J : List Nat} {l : List Row} (e : rowsOkB J l = true) : RowsOk l ∧ (∀ r ∈ l, r.old ∉ J) ∧ ∀ j ∈ J, j < 1024 := by
  unfold rowsOkB at e
  split at e
  · rename_i h
    have z := rowsB1_ok J l e
    exact ⟨z.1, z.2, allLt_of h⟩
  · cases e
/-- what lies beside: at places of J -/
structure ExtOk (J : List Nat) (ext : List Row) : Prop where
  mem : ∀ r ∈ ext, r.new = r.old ∧ r.old ∈ J
  inc : ext.Pairwise fun r s => r.old ≠ s.old
theorem ExtOk.nil (J : List Nat) : ExtOk J [] := ⟨(fun _ h => (by cases h)), List.Pairwise.nil⟩
theorem RowsOk.app {J : List Nat} {l ext : List Row} (O : RowsOk l) (P : ∀ r ∈ l, r.old ∉ J) (hJ : ∀ j ∈ J, j < 1024) (E : ExtOk J ext) : RowsOk (l ++ ext) where
  hi r hr := by
    rcases List.mem_append.mp hr with h | h
    · exact O.hi r h
    · obtain ⟨e, m⟩ := E.mem r h
      have := hJ _ m
      rw [e]
      exact ⟨by omega, by omega, Iff.rfl⟩
  inc := List.pairwise_append.mpr ⟨O.inc, E.inc, fun r hr s hs z => P r hr (z ▸ (E.mem s hs).2)⟩
section
variable {B : Bx} {T : OT} {sz : Nat} {h : Heap}
theorem Rp.sel0 (D : Rp B T sz h) : ∀ (l : List Row), RowsOk l → (∀ r ∈ l, T.get r.old = some (r.a, r.o)) → Rp B (rowT l) sz h ∧ ∀ j a o, (rowT l).get j = some (a, o) → ∃ r ∈ l, r.a = a ∧ r.new % 1024 = j % 1024
  | [], _, _ => ⟨by have := Rp.start B h D.keep; rw [D.size] at this; exact this, fun j a o e => by rw [show (rowT []).get j = none from get_nil j] at e; cases e⟩
  | r :: l, O, e => by
    have O' : RowsOk l := ⟨fun s hs => O.hi s (List.mem_cons_of_mem _ hs), (List.pairwise_cons.mp O.inc).2⟩
    obtain ⟨P, src⟩ := Rp.sel0 D l O' fun s hs => e s (List.mem_cons_of_mem _ hs)
    have er := e r List.mem_cons_self
    obtain ⟨h1, h2, h3⟩ := O.hi r List.mem_cons_self
    have o1 : r.old % 1024 = r.old := Nat.mod_eq_of_lt h1
    have o2 : r.new % 1024 = r.new := Nat.mod_eq_of_lt h2
    refine ⟨?_, fun j a o ej => ?_⟩
    · show Rp B ((rowT l).put r.new r.a r.o) sz h
      by_cases q : r.old < 1000
      · refine P.put (by rw [o2]; exact h3.mp q) (D.at er) (D.own _ _ _ er (by rw [o1]; exact q)).2 fun j o' ej hj => ?_
        exfalso
        obtain ⟨s, hs, ha, hn⟩ := src j r.a o' ej
        have hlt := (List.pairwise_cons.mp O.inc).1 s hs
        obtain ⟨g1, g2, g3⟩ := O.hi s (List.mem_cons_of_mem _ hs)
        have es := e s (List.mem_cons_of_mem _ hs)
        rw [ha] at es
        have q1 : s.old % 1024 = s.old := Nat.mod_eq_of_lt g1
        have q2 : s.new % 1024 = s.new := Nat.mod_eq_of_lt g2
        have := D.inj _ _ _ _ _ er es (by rw [o1]; exact q) (by rw [q1]; exact g3.mpr (by rw [← q2, hn]; exact hj))
        omega
      · exact P.note (by rw [o2]; exact fun z => q (h3.mpr z)) (D.ro _ _ _ er (by rw [o1]; exact q))
    · rw [show (rowT (r :: l)) = (rowT l).put r.new r.a r.o from rfl, OT.get_put] at ej
      by_cases q : r.new % 1024 = j % 1024
      · rw [if_pos q] at ej
        cases ej
        exact ⟨r, List.mem_cons_self, rfl, q⟩
      · rw [if_neg q] at ej
        obtain ⟨s, hs, x⟩ := src j a o ej
        exact ⟨s, List.mem_cons_of_mem _ hs, x⟩
theorem Rp.sel (D : Rp B T sz h) {l : List Row} (O : RowsOk l) (e : ∀ r ∈ l, T.get r.old = some (r.a, r.o)) : Rp B (rowT l) sz h := (D.sel0 l O e).1
theorem rowT_at : ∀ (l : List Row), (∀ r ∈ l, r.new < 1024) → (l.Pairwise fun r s => r.new ≠ s.new) → ∀ r ∈ l, (rowT l).get r.new = some (r.a, r.o)
  | [], _, _, r, h => by cases h
  | x :: l, hl, hp, r, h => by
    rw [show (rowT (x :: l)) = (rowT l).put x.new x.a x.o from rfl, OT.get_put]
    have hx := hl x List.mem_cons_self
    have hr := hl r h
    rw [Nat.mod_eq_of_lt hx, Nat.mod_eq_of_lt hr]
    rcases List.mem_cons.mp h with rfl | h
    · rw [if_pos rfl]
    · rw [if_neg ((List.pairwise_cons.mp hp).1 r h)]
      exact rowT_at l (fun s hs => hl s (List.mem_cons_of_mem _ hs)) (List.pairwise_cons.mp hp).2 r h
theorem ExtOk.at {J : List Nat} {ext : List Row} (E : ExtOk J ext) (hJ : ∀ j ∈ J, j < 1024) {r : Row} (hr : r ∈ ext) : (rowT ext).get r.old = some (r.a, r.o) := by
  rw [← (E.mem r hr).1]
  refine rowT_at ext (fun s hs => ?_) ?_ r hr
  · rw [(E.mem s hs).1]; exact hJ _ (E.mem s hs).2
  · refine E.inc.imp_of_mem fun {a b} ha hb q => ?_
    rw [(E.mem a ha).1, (E.mem b hb).1]; exact q
end
/-- a run's end, and what it is to be -/
structure Pk where
  ok : Bool
  obs : List (Sigma fun α : Type => α)
  c : Code
  κ : Kn
  t : Sem PySem.Fin
  sz : Bool
  tk : Bool
  rows : List (Option (Nat × Obj))
  keep : List (Option (Nat × Obj))
noncomputable def pk (o : Out) (J : List Nat) (l : List Row) : Pk := match o with
  | ⟨_, _, ⟨c, κ, t, _, T, _, sz, tk⟩, obs⟩ => ⟨rowsOkB J l, lefts obs, c, κ, t, Nat.ble 730 sz, Nat.ble 1046 tk, l.map fun r => T.get r.old, J.map T.get⟩
noncomputable def pkTo (o : Out) (c : Code) (κ : Kn) (t : Sem PySem.Fin) (J : List Nat) (l ext : List Row) : Pk := ⟨true, rights o.obs, c, κ, t, true, true, l.map fun r => some (r.a, r.o), J.map (rowT ext).get⟩
/-- the end of a run at an open call -/
structure Op where
  ok : Bool
  obs : List (Sigma fun α : Type => α)
  call : Bool
  code : Code
  len : Bool
  sz : Bool
  tk : Bool
  rows : List (Option (Nat × Obj))
  keep : List (Option (Nat × Obj))
noncomputable def op (o : Out) (J : List Nat) (l : List Row) : Op := match o with
  | ⟨_, _, ⟨_, κ, t, _, T, _, sz, tk⟩, obs⟩ => ⟨rowsOkB J l, lefts obs, isC t, callC t, lenOk κ 60, Nat.ble 730 sz, Nat.ble 1046 tk, l.map fun r => T.get r.old, J.map T.get⟩
noncomputable def opTo (o : Out) (c : Code) (J : List Nat) (l ext : List Row) : Op := ⟨true, rights o.obs, true, c, true, true, true, l.map fun r => some (r.a, r.o), J.map (rowT ext).get⟩
/-- at an open call of the library's: nothing of what lies beside is asked -/
noncomputable def opJ (o : Out) (l : List Row) : Op := op o [] l
section
variable {B : Bx} {G : Gx} {R₀ : Result → Shared → Prop}
theorem keep_of {T : OT} {J : List Nat} {ext : List Row} (e : J.map T.get = J.map (rowT ext).get) (E : ExtOk J ext) (hJ : ∀ j ∈ J, j < 1024) : ∀ r ∈ ext, T.get r.old = some (r.a, r.o) := fun r hr => by
  rw [List.map_inj_left.mp e _ (E.mem r hr).2]
  exact E.at hJ hr
theorem seg_end (o : Out) (c : Code) (κ : Kn) (t : Sem PySem.Fin) (J : List Nat) (l ext : List Row) (e : pk o J l = pkTo o c κ t J l ext) (E : ExtOk J ext) :
    lefts o.obs = rights o.obs ∧ ((∀ p y m tk, MnC B R₀ ⟨c, κ, t, p, rowT (l ++ ext), m, y + 730, tk + 1046⟩) → MnC B R₀ o.cf) := by
  obtain ⟨why, left, ⟨c0, κ0, t0, p, T, m, sz, tk⟩, obs⟩ := o
  simp only [pk, pkTo, Pk.mk.injEq] at e
  obtain ⟨e0, e1, rfl, rfl, rfl, e5, e6, e7, e8⟩ := e
  refine ⟨e1, fun H h D => ?_⟩
  have h730 : 730 ≤ sz := Nat.le_of_ble_eq_true e5
  have h2000 : 1046 ≤ tk := Nat.le_of_ble_eq_true e6
  have D : Rp B T sz h := D
  obtain ⟨y, rfl⟩ : ∃ y, sz = y + 730 := ⟨sz - 730, (Nat.sub_add_cancel h730).symm⟩
  obtain ⟨k, rfl⟩ : ∃ k, tk = k + 1046 := ⟨tk - 1046, (Nat.sub_add_cancel h2000).symm⟩
  obtain ⟨RO, RJ, hJ⟩ := rowsOkB_ok e0
  have hr : ∀ r ∈ l, T.get r.old = some (r.a, r.o) := List.map_inj_left.mp e7
  have hx := keep_of e8 E hJ
  refine H p y m k h (D.sel (RO.app RJ hJ E) fun r h => ?_)
  rcases List.mem_append.mp h with h | h
  · exact hr r h
  · exact hx r h
/-- from a start to an end -/
theorem seg_to {n₀ : Nat} (O : B.Ok (n₀ + 1)) (F : G.Fits B) (lit : Bool) (n : Nat) (c0 : Code) (κ0 : Kn) (t0 : Sem PySem.Fin) (p : Pos) (T : OT) (m sz tk hs : Nat) (js : List (Hn B)) (c : Code) (κ : Kn) (t : Sem PySem.Fin) (J : List Nat) (l ext : List Row)
    (e : pk (run B G lit n c0 κ0 t0 p T m sz tk hs js []) J l = pkTo (run B G lit n c0 κ0 t0 p T m sz tk hs js []) c κ t J l ext) (E : ExtOk J ext)
    (H : ∀ p y m tk, MnC B R₀ ⟨c, κ, t, p, rowT (l ++ ext), m, y + 730, tk + 1046⟩) : MnC B R₀ ⟨c0, κ0, t0, p, T, m, sz, tk⟩ :=
  have z := seg_end (B := B) (R₀ := R₀) _ c κ t J l ext e E
  run_to O F lit n c0 κ0 t0 p T m sz tk hs js z.1 (z.2 H)
/-- within a call -/
def Bx.at (B : Bx) (cf : Cf) : Bx := { B with acts := (cf.c, cf.p) :: cf.κ.acts B.acts }
def Gx.at (G : Gx) (cf : Cf) : Gx := { G with acts := (cf.c, cf.p) :: cf.κ.acts G.acts }
/-- what the caller wants of a call's end -/
def Ret (B : Bx) (R₀ : Result → Shared → Prop) (cf : Cf) : Result → Shared → Prop := fun r s => Mn B.M B.acts R₀ cf.c cf.κ (kOf cf.t r) cf.p s
theorem Bx.Ok.at {n : Nat} (O : B.Ok (n + 1)) {cf : Cf} (hl : lenOk cf.κ 60 = true) : (B.at cf).Ok n := ⟨O.kt, acts_next O cf.c cf.p cf.κ hl⟩
theorem Gx.Fits.at (F : G.Fits B) (cf : Cf) : (G.at cf).Fits (B.at cf) := ⟨F.1, F.2, F.3, by show _ :: cf.κ.acts B.acts = _ :: cf.κ.acts G.acts; rw [F.acts]⟩
theorem op_parts (o : Out) (c : Code) (J : List Nat) (l ext : List Row) (e : op o J l = opTo o c J l ext) (E : ExtOk J ext) :
    lefts o.obs = rights o.obs ∧ OpenAt o.cf c ∧ lenOk o.cf.κ 60 = true ∧ (∀ r ∈ l, o.cf.T.get r.old = some (r.a, r.o)) ∧ (∀ h, Rp B o.cf.T o.cf.sz h → Rp B (rowT (l ++ ext)) o.cf.sz h) := by
  obtain ⟨why, left, ⟨c0, κ0, t0, p, T, m, sz, tk⟩, obs⟩ := o
  simp only [op, opTo, Op.mk.injEq] at e
  obtain ⟨e0, e1, e2, e3, e4, e5, e6, e7, e8⟩ := e
  obtain ⟨RO, RJ, hJ⟩ := rowsOkB_ok e0
  have hr : ∀ r ∈ l, T.get r.old = some (r.a, r.o) := List.map_inj_left.mp e7
  have hx := keep_of e8 E hJ
  refine ⟨e1, ⟨e2, e3, e5, e6⟩, e4, hr, fun h D => D.sel (RO.app RJ hJ E) fun r h => ?_⟩
  rcases List.mem_append.mp h with h | h
  · exact hr r h
  · exact hx r h
/-- an open run: its checks are made, and it goes on -/
theorem open_to {n₀ : Nat} (O : B.Ok (n₀ + 1)) (F : G.Fits B) (lit : Bool) (n : Nat) (c0 : Code) (κ0 : Kn) (t0 : Sem PySem.Fin) (p : Pos) (T : OT) (m sz tk hs : Nat) (js : List (Hn B)) {c : Code} {l : List Row}
    (e : op (run B G lit n c0 κ0 t0 p T m sz tk hs js []) [] l = opTo (run B G lit n c0 κ0 t0 p T m sz tk hs js []) c [] l [])
    (H : OpenAt (run B G lit n c0 κ0 t0 p T m sz tk hs js []).cf c → (∀ r ∈ l, (run B G lit n c0 κ0 t0 p T m sz tk hs js []).cf.T.get r.old = some (r.a, r.o)) → MnC B R₀ (run B G lit n c0 κ0 t0 p T m sz tk hs js []).cf) : MnC B R₀ ⟨c0, κ0, t0, p, T, m, sz, tk⟩ :=
  have z := op_parts (B := B) _ c [] l [] e (ExtOk.nil _)
  run_to O F lit n c0 κ0 t0 p T m sz tk hs js z.1 (H z.2.1 z.2.2.2.1)
theorem mnc_enter (cf : Cf) (h : isC cf.t = true) (H : MnC (B.at cf) (Ret B R₀ cf) ⟨callC cf.t, .base, dQ (callC cf.t), cf.p, cf.T, cf.m, cf.sz, cf.tk⟩) : MnC B R₀ cf := by
  obtain ⟨c, κ, t, p, T, m, sz, tk⟩ := cf
  cases t with
  | call c' hd g l k =>
    cases hd with
    | none =>
      intro h D
      have z := H h ⟨D.1, D.2, D.3, D.4, D.5⟩
      rw [show dQ (callC (Sem.call c' none g l k)) = denote table c' from congrFun dQ_eq.symm c'] at z
      have z := Mn.code (M := B.M) z
      unfold Mn
      rw [Sem.wp_call]
      exact z
    | some v => cases h
  | _ => cases h
/-- into a call of one's own -/
theorem enter_to {n₀ : Nat} (O : B.Ok (n₀ + 1)) (F : G.Fits B) (lit : Bool) (n : Nat) (c0 : Code) (κ0 : Kn) (t0 : Sem PySem.Fin) (p : Pos) (T : OT) (m sz tk hs : Nat) (js : List (Hn B)) (c : Code) (J : List Nat) (l ext : List Row)
    (e : op (run B G lit n c0 κ0 t0 p T m sz tk hs js []) J l = opTo (run B G lit n c0 κ0 t0 p T m sz tk hs js []) c J l ext) (E : ExtOk J ext)
    (H : lenOk (run B G lit n c0 κ0 t0 p T m sz tk hs js []).cf.κ 60 = true → ∀ y tk', MnC (B.at (run B G lit n c0 κ0 t0 p T m sz tk hs js []).cf) (Ret B R₀ (run B G lit n c0 κ0 t0 p T m sz tk hs js []).cf) ⟨c, .base, dQ c, (run B G lit n c0 κ0 t0 p T m sz tk hs js []).cf.p, rowT (l ++ ext), (run B G lit n c0 κ0 t0 p T m sz tk hs js []).cf.m, y + 730, tk' + 1046⟩) : MnC B R₀ ⟨c0, κ0, t0, p, T, m, sz, tk⟩ := by
  have z := op_parts (B := B) _ c J l ext e E
  refine run_to O F lit n c0 κ0 t0 p T m sz tk hs js z.1 ?_
  generalize run B G lit n c0 κ0 t0 p T m sz tk hs js [] = o at z H
  obtain ⟨z1, z2, z3, z4, z5⟩ := z
  obtain ⟨y, ey⟩ : ∃ y, o.cf.sz = y + 730 := ⟨o.cf.sz - 730, (Nat.sub_add_cancel (Nat.le_of_ble_eq_true z2.sz)).symm⟩
  obtain ⟨k, ek⟩ : ∃ k, o.cf.tk = k + 1046 := ⟨o.cf.tk - 1046, (Nat.sub_add_cancel (Nat.le_of_ble_eq_true z2.tk)).symm⟩
  refine mnc_enter o.cf z2.call fun h D => ?_
  have D' := z5 h ⟨D.1, D.2, D.3, D.4, D.5⟩
  have H := H z3 y k h (by
    have := D'
    rw [ey] at this
    exact ⟨this.1, this.2, this.3, this.4, this.5⟩)
  rw [z2.code]
  show Mn _ _ _ _ _ _ _ (Bx.shr _ h o.cf.tk)
  rw [ek]
  exact H
/-- the end of a call -/
theorem MnC.done {c : Code} {f : Flow} {p : Pos} {T : OT} {m sz tk : Nat} (H : ∀ h, Rp B T sz h → R₀ (.ok f) (B.shr h tk)) : MnC B R₀ ⟨c, .base, .pure (.done f), p, T, m, sz, tk⟩ := fun h D => H h D
/-- back to the caller -/
theorem MnC.back {cf : Cf} {c : Code} {f : Flow} {p : Pos} {T : OT} {m m' sz tk : Nat} (H : MnC B R₀ ⟨cf.c, cf.κ, kOf cf.t (.ok f), cf.p, T, m', sz, tk⟩) : MnC (B.at cf) (Ret B R₀ cf) ⟨c, .base, .pure (.done f), p, T, m, sz, tk⟩ :=
  MnC.done fun h D => H h ⟨D.1, D.2, D.3, D.4, D.5⟩
/-- one level on -/
def Bx.within (B : Bx) (c : Code) (p : Pos) : Bx := { B with acts := (c, p) :: B.acts }
def Gx.within (G : Gx) (c : Code) (p : Pos) : Gx := { G with acts := (c, p) :: G.acts }
theorem Bx.Ok.within {n : Nat} (O : B.Ok (n + 1)) (c : Code) (p : Pos) : (B.within c p).Ok n := ⟨O.kt, acts_next O c p .base rfl⟩
theorem Gx.Fits.within (F : G.Fits B) (c : Code) (p : Pos) : (G.within c p).Fits (B.within c p) := ⟨F.1, F.2, F.3, by show _ :: B.acts = _ :: G.acts; rw [F.acts]⟩
theorem MnC.backF {cf : Cf} {F : Nat → Obj → Prop} {c : Code} {f : Flow} {p : Pos} {T : OT} {m m' sz tk : Nat} (H : MnC (B.add F) R₀ ⟨cf.c, cf.κ, kOf cf.t (.ok f), cf.p, T, m', sz, tk⟩) : MnC ((B.at cf).add F) (Ret B R₀ cf) ⟨c, .base, .pure (.done f), p, T, m, sz, tk⟩ :=
  MnC.done fun h D => H h ⟨D.1, D.2, D.3, D.4, D.5⟩
/-- a call of one's own, of a run that stands at it -/
theorem call_at (o : Out) {code c1 : Code} {J : List Nat} {l ext : List Row} (e : op o J l = opTo o code J l ext) (E : ExtOk J ext) (hc : o.cf.c = c1) (hκ : o.cf.κ = .base)
    (H : ∀ p1 R₁, (∀ F f T m sz tk, MnC (B.add F) R₀ ⟨o.cf.c, o.cf.κ, kOf o.cf.t (.ok f), o.cf.p, T, m, sz, tk⟩ → ∀ c p m', MnC ((B.within c1 p1).add F) R₁ ⟨c, .base, .pure (.done f), p, T, m', sz, tk⟩) →
      (∀ f T m sz tk, MnC B R₀ ⟨o.cf.c, o.cf.κ, kOf o.cf.t (.ok f), o.cf.p, T, m, sz, tk⟩ → ∀ c p m', MnC (B.within c1 p1) R₁ ⟨c, .base, .pure (.done f), p, T, m', sz, tk⟩) →
      ∀ p y m tk, MnC (B.within c1 p1) R₁ ⟨code, .base, dQ code, p, rowT (l ++ ext), m, y + 730, tk + 1046⟩) : MnC B R₀ o.cf := by
  obtain ⟨z1, z2, z3, z4, z5⟩ := op_parts (B := B) o code J l ext e E
  have hB : B.at o.cf = B.within c1 o.cf.p := by
    unfold Bx.at
    rw [hc, hκ]; rfl
  obtain ⟨y, ey⟩ : ∃ y, o.cf.sz = y + 730 := ⟨o.cf.sz - 730, (Nat.sub_add_cancel (Nat.le_of_ble_eq_true z2.sz)).symm⟩
  obtain ⟨k, ek⟩ : ∃ k, o.cf.tk = k + 1046 := ⟨o.cf.tk - 1046, (Nat.sub_add_cancel (Nat.le_of_ble_eq_true z2.tk)).symm⟩
  have H := H o.cf.p (Ret B R₀ o.cf) (fun F f T m sz tk h c p m' => by rw [← hB]; exact MnC.backF h) (fun f T m sz tk h c p m' => by rw [← hB]; exact MnC.back h) o.cf.p y o.cf.m k
  refine mnc_enter o.cf z2.call fun h D => ?_
  have D' := z5 h ⟨D.1, D.2, D.3, D.4, D.5⟩
  rw [← hB] at H
  have H := H h (by
    have := D'
    rw [ey] at this
    exact ⟨this.1, this.2, this.3, this.4, this.5⟩)
  rw [z2.code]
  show Mn _ _ _ _ _ _ _ (Bx.shr _ h o.cf.tk)
  rw [ek]
  exact H
end
end Mine
end

section
open PySem PySem.Spec PySem.Calls PyProof.Rows PySem.W PySem.W.X
namespace Mine
def lawC : Code := .call (.ref 527) ⟨[.ref 528], []⟩
/-- with nothing below -/
def Gx.bare (G : Gx) : Gx := { G with acts := [] }
noncomputable def cF0 (B : Bx) (G : Gx) : Code := (run B G.bare true 15 lawC .base (dQ lawC) default .nil 256 529 1046 0 [] []).cf.c
/-- the law's code -/
noncomputable def cF (B : Bx) (G : Gx) : Code := .func (bodyOf (cF0 B G)) (envOf (cF0 B G))
def forT (l : List Stmt) : Expr := match l with
  | .For t _ _ _ _ :: _ => t
  | _ => default
def forB (l : List Stmt) : List Stmt := match l with
  | .For _ _ b _ _ :: _ => b
  | _ => []
def forO (l : List Stmt) : List Stmt := match l with
  | .For _ _ _ o _ :: _ => o
  | _ => []
/-- the loop's code -/
noncomputable def cL (B : Bx) (G : Gx) : Code := .forLoop (forT ((bodyOf (cF0 B G)).drop 13)) (.ref 729) (forB ((bodyOf (cF0 B G)).drop 13)) (forO ((bodyOf (cF0 B G)).drop 13)) (envOf (cF0 B G))
/-- the call of _law_asked -/
def cAsk (i : Nat) (t : Nat) : Code := .call (.ref 522) ⟨[.int i (t + 1), .ref 721, .ref 680, .ref 723, .ref 725], []⟩
noncomputable def cA0 (B : Bx) (G : Gx) (y : Nat) : Code := (run B G.bare false 26 (cAsk 0 0) .base (dQ (cAsk 0 0)) default .nil 400 (y + 730) 1046 585171554554427030013268171944557630669549731840000 [] []).cf.c
noncomputable def cA (B : Bx) (G : Gx) (y : Nat) : Code := .func (bodyOf (cA0 B G y)) (envOf (cA0 B G y))
def cSame (a b : Nat) (m : Bool) : Code := .call (.ref 515) ⟨[.ref (a + 730), .ref (b + 730), .bool m], []⟩
/-- the four names of _law_asked's arguments, and the slot -/
def askEs (τ : Nat → Nat) (η : Nat → Int) (i : Nat) (t : Nat) (tl : List DictEntry) : List DictEntry :=
  ⟨η 0, .str ⟨⟨[115, 108, 111, 116]⟩⟩ (τ 0), .int i (t + 1)⟩ ::
  ⟨η 1, .str ⟨⟨[116, 104, 105, 110, 103, 115]⟩⟩ (τ 1), .ref 721⟩ ::
  ⟨η 2, .str ⟨⟨[104, 97, 110, 100, 101, 100]⟩⟩ (τ 2), .ref 680⟩ ::
  ⟨η 3, .str ⟨⟨[115, 110, 97, 112, 115]⟩⟩ (τ 3), .ref 723⟩ ::
  ⟨η 4, .str ⟨⟨[107, 101, 112, 116]⟩⟩ (τ 4), .ref 725⟩ ::
  tl
/-! reading of a run's end -/
noncomputable def objA (o : Out) (i : Nat) : Option (Nat × Obj) := o.cf.T.get i
def entsOf (x : Option (Nat × Obj)) : List DictEntry := match x with
  | none => []
  | some x => match x with
    | (_, o) => match o.data with
      | .dict es _ => es.toList
      | _ => []
def epA (x : Option (Nat × Obj)) : Nat := match x with
  | none => 0
  | some x => match x with
    | (_, o) => epochOf o
def entN (l : List DictEntry) (n : Nat) : DictEntry := match l with
  | [] => ⟨0, .none, .none⟩
  | v :: l => match n with
    | 0 => v
    | n + 1 => entN l n
def lastE (l : List DictEntry) (d : DictEntry) : DictEntry := match l with
  | [] => d
  | x :: l => lastE l x
def ktA (x : Option (Nat × Obj)) (n : Nat) : Tok := tokV (entN (entsOf x) n).key
def khA (x : Option (Nat × Obj)) (n : Nat) : Int := (entN (entsOf x) n).hash
def vtA (x : Option (Nat × Obj)) (n : Nat) : Tok := tokV (entN (entsOf x) n).val
def adA (x : Option (Nat × Obj)) : Nat := match x with
  | none => 0
  | some x => x.1
def obA (x : Option (Nat × Obj)) : Obj := match x with
  | none => lob #[] 0
  | some x => x.2
/-! the slots -/
def slotA (i : Nat) : Nat := match i with
  | 0 => 670 | 1 => 672 | 2 => 673 | 3 => 675 | 4 => 676 | 5 => 677 | _ => 679
def isMap (i : Nat) : Bool := Nat.beq 0 i || (Nat.beq 2 i || (Nat.beq 4 i || Nat.beq 5 i))
def poolA (i : Nat) : Nat := match i with
  | 0 => 611 | 1 => 545 | 2 => 611 | 3 => 545 | 4 => 635 | 5 => 653 | _ => 578
def poolX (i : Nat) : Array Value := match i with
  | 0 => #[.ref 614, .ref 620, .ref 626] | 1 => #[.ref 549, .ref 558, .ref 567] | 2 => #[.ref 614, .ref 620, .ref 626] | 3 => #[.ref 549, .ref 558, .ref 567]
  | 4 => #[.ref 638, .ref 642, .ref 646] | 5 => #[.ref 656, .ref 660, .ref 664] | _ => #[.ref 582, .ref 591, .ref 600]
/-- the thing that a slot asks -/
def tj (i : Nat) : Nat := match i with
  | 0 => 0 | 1 => 0 | 2 => 1 | 3 => 1 | 4 => 2 | 5 => 3 | _ => 4
def thI (i : Nat) : Nat := match i with
  | 0 => 152 | 1 => 152 | 2 => 160 | 3 => 160 | 4 => 168 | 5 => 176 | _ => 184
def thA (i : Nat) : Nat := match i with
  | 0 => 681 | 1 => 681 | 2 => 689 | 3 => 689 | 4 => 697 | 5 => 705 | _ => 713
def atS (i : Nat) : Str := match i with
  | 0 => ⟨⟨[102, 105, 101, 108, 100, 115]⟩⟩ | 2 => ⟨⟨[102, 105, 101, 108, 100, 115]⟩⟩ | 4 => ⟨⟨[102, 105, 101, 108, 100, 115]⟩⟩
  | 1 => ⟨⟨[105, 110, 116, 101, 114, 102, 97, 99, 101, 115]⟩⟩ | 3 => ⟨⟨[105, 110, 116, 101, 114, 102, 97, 99, 101, 115]⟩⟩
  | 5 => ⟨⟨[118, 97, 108, 117, 101, 115]⟩⟩ | _ => ⟨⟨[116, 121, 112, 101, 115]⟩⟩
def instE (i : Nat) (τ : Nat → Nat → Nat) (η : Nat → Nat → Int) : List DictEntry := match i with
  | 0 => instEs0 τ η | 1 => instEs0 τ η | 2 => instEs1 τ η | 3 => instEs1 τ η | 4 => instEs2 τ η | 5 => instEs3 τ η | _ => instEs4 τ η
/-- places of what lies beside -/
def Jall : List Nat := [310, 311, 312, 313, 314, 315, 316, 317, 318, 319, 320, 321, 322, 323, 325, 331, 332, 333]
def Jx (i : Nat) : List Nat := match i with
  | 0 => [312, 313, 314, 315, 316, 317, 318, 319, 320, 321, 322, 323, 325, 331, 332, 333]
  | 1 => [310, 311, 314, 315, 316, 317, 318, 319, 320, 321, 322, 323, 325, 331, 332, 333]
  | 2 => [310, 311, 312, 313, 316, 317, 318, 319, 320, 321, 322, 323, 325, 331, 332, 333]
  | 3 => [310, 311, 312, 313, 314, 315, 318, 319, 320, 321, 322, 323, 325, 331, 332, 333]
  | 4 => [310, 311, 312, 313, 314, 315, 316, 317, 320, 321, 322, 323, 325, 331, 332, 333]
  | 5 => [310, 311, 312, 313, 314, 315, 316, 317, 318, 319, 322, 323, 325, 331, 332, 333]
  | _ => [310, 311, 312, 313, 314, 315, 316, 317, 318, 319, 320, 321, 325, 331, 332, 333]
def pT (i : Nat) : Nat := match i with
  | 0 => 310 | 1 => 312 | 2 => 314 | 3 => 316 | 4 => 318 | 5 => 320 | _ => 322
def pR (i : Nat) : Nat := match i with
  | 0 => 311 | 1 => 313 | 2 => 315 | 3 => 317 | 4 => 319 | 5 => 321 | _ => 323
theorem inB : ∀ i : Nat, ((0 : Int) == i || ((2 : Int) == i || ((4 : Int) == i || ((5 : Int) == i || false)))) = (Nat.beq 0 i || (Nat.beq 2 i || (Nat.beq 4 i || Nat.beq 5 i))) := by
  intro i
  have e : ∀ n : Nat, ((n : Int) == (i : Int)) = Nat.beq n i := fun n => by
    cases hb : Nat.beq n i with
    | true =>
      obtain rfl := Nat.eq_of_beq_eq_true hb
      simp
    | false =>
      have := Nat.ne_of_beq_eq_false hb
      rw [beq_eq_false_iff_ne]
      exact fun z => this (Int.ofNat.inj z)
  show (((0 : Nat) : Int) == i || (((2 : Nat) : Int) == i || (((4 : Nat) : Int) == i || (((5 : Nat) : Int) == i || false)))) = _
  rw [e, e, e, e, Bool.or_false]
end Mine
end

section
open PySem PySem.Spec PySem.Calls PyProof.Rows PySem.W PySem.W.X
namespace Mine
/-- a turn's numbers -/
structure Hy1 (k number way more slot q pick : Int) (xs : Array Value) (nt : Nat) : Prop where
  h0 : 0 ≤ k
  hf : k < 2 ^ 63
  hx : xs[k.toNat]? = some (.int number (nt + 1))
  hw : Int.fmod number 4 = way
  hm : Int.fdiv number 4 = more
  hs : Int.fmod more 7 = slot
  hq : Int.fdiv more 7 = q
  hp : Int.fmod q 3 = pick
structure HyP (i : Nat) (pick : Int) (x : Nat) : Prop where
  h0 : 0 ≤ pick
  hf : pick < 2 ^ 63
  hx : (poolX i)[pick.toNat]? = some (.ref x)
structure HyN (k : Int) (ch : Nat) (ks kk : Str) : Prop where
  hr : Str.ofString (toString k) = ks
  ha : k.natAbs.log2 < 1920
  hk : (⟨#[ch]⟩ : Str) ++ ks = kk
  h0 : (ks.length == 0) = false
  hl : kk.length ≤ sizeLine
theorem gt0 (m : Nat) : decide (Int.ofNat (Nat.succ m) > 0) = true := decide_eq_true (Int.ofNat_lt.mpr (Nat.succ_pos m))
noncomputable def js1 (B : Bx) (D : Dt) (k number way more : Int) (i : Nat) (q pick : Int) (nt : Nat) (H : Hy1 k number way more i q pick D.deeds nt) : List (Hn B) :=
  [.jump (jGet B 1000 D.dA D.deeds D.dE k (.int number (nt + 1)) H.h0 H.hf H.hx), .int _ _ H.hw, .int _ _ H.hm, .int _ _ H.hs, .int _ _ H.hq, .int _ _ H.hp, .jump (jIn B 409 i _ (inB i))]
def headD (D : Dt) (lt : List DictEntry) (k : Int) (r : Nat) : Dt := { D with lt := lt, v := k, left := Int.ofNat (Nat.succ r) }
noncomputable def runT (B : Bx) (G : Gx) (D : Dt) (lt : List DictEntry) (beside : List Row) (k : Int) (r : Nat) (p : Pos) (y tk : Nat) (js : List (Hn B)) (n hs : Nat) : Out :=
  run B G false n (cL B G) .base (dQ (cL B G)) p (rowT (rowsB (headD D lt k r) ++ beside)) 400 (y + 730) (tk + 1046) hs js []
/-- the names of a turn -/
def midL (i : Nat) (τ : Nat → Nat) (η : Nat → Int) (θ : Nat → Nat) (k number more way pick : Int) (tl : List DictEntry) : List DictEntry :=
  ltM τ η (.int k (θ 0 + 1)) (.int number (θ 1 + 1)) (.int more (θ 2 + 1)) (.int way (θ 3 + 1)) (.int pick (θ 4 + 1)) (.int i (θ 5 + 1)) (.bool (isMap i)) (.ref (slotA i)) tl
/-- the data at a turn's end; x: the frame's object -/
def nextD (D : Dt) (i : Nat) (tl : List DictEntry) (k number way more pick : Int) (r : Nat) (x : Option (Nat × Obj)) : Dt :=
  { D with lt := midL i (fun j => ktA x (9 + j)) (fun j => khA x (9 + j)) (fun j => vtA x (9 + j) - 1) k number more way pick tl, fE := epA x, v := k + 1, left := Int.ofNat (Nat.succ r) - 1 }
noncomputable def lastK (o : Out) (i : Nat) : Nat := tokV (lastE (entsOf (objA o i)) default).key
noncomputable def setC (D : Dt) (i : Nat) (o : Obj) : Dt := { D with c := upd D.c i o }
section
variable (G : Gx) (i : Nat) (lt tl : List DictEntry)
/-- way 0, a mapping -/
def EvW0m (kn n hs : Nat) : Prop := ∀ (B : Bx) (D : Dt) (ext : List Row) (r : Nat) (k number more q pick : Int) (nt : Nat) (H : Hy1 k number 0 more i q pick D.deeds nt)
    (x : Nat) (ks kk : Str) (es : List DictEntry) (e : Nat) (kvs : List (Str × Value)) (HP : HyP i pick x) (HN : HyN k 107 ks kk) (dk : DK B es kvs) (hk : kk ∉ kvs.map (·.1)) (hz : es.length ≤ sizeLine) (hi : (slotA i - 529) % 1024 < 1000) (p : Pos) (y tk : Nat),
  let o := runT B G (setC D i (dobS es e #[])) lt ext k r p y tk (js1 B D k number 0 more i q pick nt H ++
    [.jump (jGet B (poolA i - 529) (poolA i) (poolX i) 3 pick (.ref x) HP.h0 HP.hf HP.hx), .jump (jStr B k ks HN.hr HN.ha), .jump (jAdd B ⟨#[107]⟩ ks kk HN.hk rfl HN.h0 HN.hl), .jump (jDSet B (slotA i - 529) (slotA i) es e #[] kvs dk kk (.ref x) hk hz hi)]) n hs
  let l := rowsB (nextD (setC D i (dobS (es ++ [⟨(SK B).hash kk, .str kk (tk + kn), .ref x⟩]) (e + 1) #[])) i tl k number 0 more pick r (objA o 0))
  pk o Jall l = pkTo o (cL B G) .base (dQ (cL B G)) Jall l ext
/-- way 0, a list -/
def EvW0l (n hs : Nat) : Prop := ∀ (B : Bx) (D : Dt) (ext : List Row) (r : Nat) (k number more q pick : Int) (nt : Nat) (H : Hy1 k number 0 more i q pick D.deeds nt)
    (x : Nat) (xs : Array Value) (e : Nat) (HP : HyP i pick x) (hz : xs.size ≤ sizeLine) (hi : (slotA i - 529) % 1024 < 1000) (p : Pos) (y tk : Nat),
  let o := runT B G (setC D i (lob xs e)) lt ext k r p y tk (js1 B D k number 0 more i q pick nt H ++
    [.jump (jGet B (poolA i - 529) (poolA i) (poolX i) 3 pick (.ref x) HP.h0 HP.hf HP.hx), .jump (jApp B (slotA i - 529) (slotA i) xs e (.ref x) hz hi)]) n hs
  let l := rowsB (nextD (setC D i (lob (xs.push (.ref x)) (e + 1))) i tl k number 0 more pick r (objA o 0))
  pk o Jall l = pkTo o (cL B G) .base (dQ (cL B G)) Jall l ext
/-- way 1, a list with something in it -/
def EvW1l (n hs : Nat) : Prop := ∀ (B : Bx) (D : Dt) (ext : List Row) (r : Nat) (k number more q pick : Int) (nt : Nat) (H : Hy1 k number 1 more i q pick D.deeds nt)
    (x : Nat) (xs : List Value) (e m : Nat) (hn : ((⟨Value.ref x :: xs⟩ : Array Value).size : Int) = Int.ofNat (Nat.succ m)) (hf : Int.ofNat (Nat.succ m) < 2 ^ 63) (hz : xs.length + 1 ≤ sizeLine) (hi : (slotA i - 529) % 1024 < 1000) (p : Pos) (y tk : Nat),
  let o := runT B G (setC D i (lob ⟨Value.ref x :: xs⟩ e)) lt ext k r p y tk (js1 B D k number 1 more i q pick nt H ++
    [.jump (jLenL B (slotA i - 529) (slotA i) ⟨Value.ref x :: xs⟩ e _ hn hf), .bool _ _ (gt0 m), .jump (jPop0 B (slotA i - 529) (slotA i) (.ref x) xs e hz hi)]) n hs
  let l := rowsB (nextD (setC D i (lob ⟨xs⟩ (e + 1))) i tl k number 1 more pick r (objA o 0))
  pk o Jall l = pkTo o (cL B G) .base (dQ (cL B G)) Jall l ext
/-- on from an open call -/
noncomputable def goOn (B : Bx) (G : Gx) (o : Out) (i a : Nat) (ob : Obj) (y tk n hs : Nat) (js : List (Hn B)) : Out :=
  run B G false n o.cf.c o.cf.κ (kOf o.cf.t (.ok (.ret (.ref (a + 730))))) o.cf.p (o.cf.T.put i (a + 730) ob) (i + 1) (y + 730) (tk + 1046) hs js []
/-- back from a call of one's own -/
noncomputable def goBk (B : Bx) (G : Gx) (o : Out) (f : Flow) (l : List Row) (y tk n hs : Nat) (js : List (Hn B)) : Out :=
  run B G false n o.cf.c o.cf.κ (kOf o.cf.t (.ok f)) o.cf.p (rowT l) 400 (y + 730) (tk + 1046) hs js []
/-- way 1, a mapping with something in it -/
noncomputable def rW1m (B : Bx) (D : Dt) (ext : List Row) (r : Nat) (k number more q pick : Int) (nt : Nat) (H : Hy1 k number 1 more i q pick D.deeds nt)
    (x : DictEntry) (es : List DictEntry) (e : Nat) (kvs : List (Str × Value)) (dk : DK B (x :: es) kvs) (hs0 : (slotA i == sysModules) = false) (m : Nat) (hn : (kvs.length : Int) = Int.ofNat (Nat.succ m)) (hf : Int.ofNat (Nat.succ m) < 2 ^ 63) (p : Pos) (y tk n hs : Nat) : Out :=
  runT B G (setC D i (dobS (x :: es) e #[])) lt ext k r p y tk (js1 B D k number 1 more i q pick nt H ++ [.jump (jLenD B (slotA i - 529) (slotA i) (x :: es) e kvs dk hs0 _ hn hf), .bool _ _ (gt0 m)]) n hs
def EvW1m (n hs n2 hs2 : Nat) : Prop := ∀ (B : Bx) (D : Dt) (ext : List Row) (r : Nat) (k number more q pick : Int) (nt : Nat) (H : Hy1 k number 1 more i q pick D.deeds nt)
    (x : DictEntry) (es : List DictEntry) (e : Nat) (k0 : Str) (v0 : Nat) (kvs : List (Str × Value)) (dk : DK B (x :: es) ((k0, Value.ref v0) :: kvs)) (hs0 : (slotA i == sysModules) = false) (m : Nat) (hn : (((k0, Value.ref v0) :: kvs).length : Int) = Int.ofNat (Nat.succ m)) (hf : Int.ofNat (Nat.succ m) < 2 ^ 63) (hz : es.length + 1 ≤ sizeLine) (hi : (slotA i - 529) % 1024 < 1000) (p : Pos) (y tk : Nat)
    (t0 : Nat) (ks : List Value) (e' a y' tk' : Nat) (hx : (⟨.str k0 t0 :: ks⟩ : Array Value)[(0 : Int).toNat]? = some (.str k0 t0)),
  let o := rW1m G i lt B D ext r k number more q pick nt H x es e ((k0, Value.ref v0) :: kvs) dk hs0 m hn hf p y tk n hs
  let l0 := [row (slotA i - 529) (slotA i) (dobS (x :: es) e #[])]
  let o2 := goOn B G o 450 a (lob ⟨.str k0 t0 :: ks⟩ e') y' tk' n2 hs2 [.jump (jGet B 450 (a + 730) ⟨.str k0 t0 :: ks⟩ e' 0 (.str k0 t0) (by decide) (by decide) hx), .jump (jDPop0 B (slotA i - 529) (slotA i) x es e k0 (.ref v0) kvs dk hz hi)]
  let l := rowsB (nextD (setC D i (dobS es (e + 1) #[])) i tl k number 1 more pick r (objA o2 0))
  (op o [] l0, pk o2 Jall l) = (opTo o (.call (.type "list") ⟨[.ref (slotA i)], []⟩) [] l0 [], pkTo o2 (cL B G) .base (dQ (cL B G)) Jall l ext)
/-- a turn that asks: to the door of _law_asked, and back -/
noncomputable def rTA (way : Int) (md : Nat → Dt → Dt) (B : Bx) (D : Dt) (ext : List Row) (e r : Nat) (k number more q pick : Int) (nt : Nat) (H : Hy1 k number way more i q pick D.deeds nt) (p : Pos) (y tk n hs : Nat) : Out :=
  runT B G (md e D) lt ext k r p y tk (js1 B D k number way more i q pick nt H) n hs
def EvTA (way : Int) (md : Nat → Dt → Dt) (n hs n2 hs2 : Nat) : Prop := ∀ (B : Bx) (D : Dt) (ext : List Row) (e r : Nat) (k number more q pick : Int) (nt : Nat) (H : Hy1 k number way more i q pick D.deeds nt) (p : Pos) (y tk : Nat) (B2 : Bx) (D2 : Dt) (ext2 : List Row) (y2 tk2 : Nat),
  let o := rTA G i lt way md B D ext e r k number more q pick nt H p y tk n hs
  let x := objA o 0
  let l := rowsB (nextD (md e D) i tl k number way more pick r x)
  let o2 := goBk B2 G o (.ret (.bool true)) (rowsB D2 ++ ext2) y2 tk2 n2 hs2 []
  (op o Jall l, o.cf.c, o.cf.κ, pk o2 Jall (rowsB D2)) = (opTo o (cAsk i (vtA x 14 - 1)) Jall l ext, cL B G, Kn.base, pkTo o2 (cL B2 G) .base (dQ (cL B2 G)) Jall (rowsB D2) ext2)
end
/-! the four kinds -/
def md0 (_ : Nat) (D : Dt) : Dt := D
noncomputable def mdL (i : Nat) (e : Nat) (D : Dt) : Dt := setC D i (lob #[] e)
noncomputable def mdM (i : Nat) (e : Nat) (D : Dt) : Dt := setC D i (dobS [] e #[])
noncomputable def mdN (i : Nat) (_ : Nat) (D : Dt) : Dt := { D with sn := upd D.sn i .none }
/-- what was told is told again by its name in the thing's dict -/
def mineE (i : Nat) (h : Int) (t a : Nat) : DictEntry := ⟨h, .str (atS i) t, .ref (a + 730)⟩
/-- the other entry that a thing may have put by -/
def otherE (i : Nat) (h : Int) (t v : Nat) : DictEntry := match i with
  | 0 => ⟨h, .str ⟨⟨[105, 110, 116, 101, 114, 102, 97, 99, 101, 115]⟩⟩ t, .ref v⟩
  | 2 => ⟨h, .str ⟨⟨[105, 110, 116, 101, 114, 102, 97, 99, 101, 115]⟩⟩ t, .ref v⟩
  | _ => ⟨h, .str ⟨⟨[102, 105, 101, 108, 100, 115]⟩⟩ t, .ref v⟩
def toldE (η : Int) (τ : Nat) (v : Value) : DictEntry := ⟨η, .str ⟨⟨[116, 111, 108, 100]⟩⟩ τ, v⟩
/-- the thing's tail, with what was told: first or second -/
def uA (i : Nat) (two : Bool) (h' : Int) (t' v' : Nat) (h : Int) (tt a : Nat) (l : List DictEntry) : List DictEntry := match two with
  | false => mineE i h tt a :: l
  | true => otherE i h' t' v' :: mineE i h tt a :: l
/-- what was told is changed -/
def EvW3 (G : Gx) (i : Nat) (lt : List DictEntry) (two : Bool) (tn ti kn n hs : Nat) : Prop := ∀ (B B2 : Bx) (D : Dt) (ext : List Row) (r : Nat) (k number more q pick : Int) (nt : Nat) (H : Hy1 k number 3 more i q pick D.deeds nt)
    (h' : Int) (t' v' : Nat) (h : Int) (tt : Nat) (u : List DictEntry) (x : Nat) (ks kk : Str) (a b : Nat) (es : List DictEntry) (e : Nat) (kvs : List (Str × Value)) (HP : HyP i pick x) (HN : HyN k 119 ks kk) (dk : DK B es kvs) (hk : kk ∉ kvs.map (·.1)) (hz : es.length ≤ sizeLine) (h3 : pT i % 1024 < 1000) (h4 : pR i % 1024 < 1000)
    (xs : Array Value) (er : Nat) (hx : xs.size ≤ sizeLine) (p : Pos) (y tk : Nat),
  let D0 := { D with u := upd D.u (tj i) (uA i two h' t' v' h tt a u), sn := upd D.sn i (.ref (b + 730)) }
  let o := runT B G D0 lt ([row (pT i) (a + 730) (dobS es e #[]), row (pR i) (b + 730) (lob xs er)] ++ ext) k r p y tk (js1 B D k number 3 more i q pick nt H ++
    [.jump (jGet B (poolA i - 529) (poolA i) (poolX i) 3 pick (.ref x) HP.h0 HP.hf HP.hx), .jump (jStr B k ks HN.hr HN.ha), .jump (jAdd B ⟨#[119]⟩ ks kk HN.hk rfl HN.h0 HN.hl), .jump (jDSet B (pT i) (a + 730) es e #[] kvs dk kk (.ref x) hk hz h3),
     .jump (jStr B k ks HN.hr HN.ha), .jump (jAdd B ⟨#[119]⟩ ks kk HN.hk rfl HN.h0 HN.hl), .jump (jGet B (poolA i - 529) (poolA i) (poolX i) 3 pick (.ref x) HP.h0 HP.hf HP.hx), .jump (jApp B (pR i) (b + 730) xs er (.ref (y + 730 + tn)) hx h4)]) n hs
  let w := objA o 0
  let l := rowsB (nextD D0 i [toldE (khA w 17) (ktA w 17) (.ref (a + 730))] k number 3 more pick r w) ++ [row (pT i) (a + 730) (dobS (es ++ [⟨(SK B).hash kk, .str kk (tk + kn), .ref x⟩]) (e + 1) #[]), row (pR i) (b + 730) (lob (xs.push (.ref (y + 730 + tn))) (er + 1)),
    ⟨340, ti, y + 730 + tn, tob #[.str kk (tokV (valN (elemsOf (obA (objA o ti))) 0)), .ref x] 0⟩]
  pk o (Jx i) l = pkTo o (cL B2 G) .base (dQ (cL B2 G)) (Jx i) l ext
/-! the statements for the world at hand -/
def scriptO (l : List Value) : Obj := { cls := .type "list", data := .seq ⟨l⟩ }
noncomputable def Gof (kt : Params → KT) (P : Params) (b c : Bool) (l : List Value) (acts : List (Code × Pos)) : Gx := ⟨PySem.Challenge.pw_be5011_01, P, b, c, KT.put 40 (kt P) 528 (scriptO l), acts⟩
/-- below the loop -/
def actF (f : List Stmt) (g : Env) (p2 p3 : Pos) : List (Code × Pos) := [(.func f g, p2), (claimC, p3)]
section
variable (kt : Params → KT) (i : Nat)
def QTA (E : Gx → List DictEntry → List DictEntry → Prop) : Prop := ∀ P b c l f g p2 p3, E (Gof kt P b c l (actF f g p2 p3)) [] []
def QTB (E : Gx → List DictEntry → List DictEntry → Prop) : Prop := ∀ P b c l f g p2 p3 τ η v0 v1 v2 v3 v4 v5 v6 v7 tl, E (Gof kt P b c l (actF f g p2 p3)) (ltM τ η v0 v1 v2 v3 v4 v5 v6 v7 tl) tl
def QTC (E : Gx → List DictEntry → Prop) : Prop := ∀ P b c l f g p2 p3 τ η v0 v1 v2 v3 v4 v5 v6 v7, E (Gof kt P b c l (actF f g p2 p3)) (ltM τ η v0 v1 v2 v3 v4 v5 v6 v7 [])
def QTD (E : Gx → List DictEntry → Prop) : Prop := ∀ P b c l f g p2 p3 τ η v0 v1 v2 v3 v4 v5 v6 v7 ηt τt vt, E (Gof kt P b c l (actF f g p2 p3)) (ltM τ η v0 v1 v2 v3 v4 v5 v6 v7 [toldE ηt τt vt])
end
end Mine
end

section
open PySem PySem.Spec PySem.Calls PyProof.Rows PySem.W PySem.W.X
namespace Mine
/-- the frame of _law_asked, its row -/
def tailEs (τ : Nat → Nat) (η : Nat → Int) (i a : Nat) : List DictEntry :=
  [⟨η 5, .str ⟨⟨[109, 97, 112, 112, 105, 110, 103]⟩⟩ (τ 5), .bool (isMap i)⟩, ⟨η 6, .str ⟨⟨[116, 111, 108, 100]⟩⟩ (τ 6), .ref (a + 730)⟩]
def fO (τ : Nat → Nat) (η : Nat → Int) (i t a e : Nat) : Obj := fob (askEs τ η i t (tailEs τ η i a)) e
def fOf (x : Option (Nat × Obj)) (i t a : Nat) : Obj := fO (fun j => ktA x j) (fun j => khA x j) i t a (epA x)
/-- what a slot's thing has put by newly -/
noncomputable def uNew (B : Bx) (i : Nat) (u : List DictEntry) (tt a : Nat) : List DictEntry := u ++ [⟨(SK B).hash (atS i), .str (atS i) tt, .ref (a + 730)⟩]
def ownR (i a b : Nat) (told rows : Obj) : List Row := [row (pT i) (a + 730) told, row (pR i) (b + 730) rows]
noncomputable def retD (D : Dt) (i a b : Nat) : Dt := { D with sn := upd D.sn i (.ref (b + 730)), kp := upd D.kp i (.ref (a + 730)) }
/-- the data once a slot is asked for the first time, but for the two lists -/
noncomputable def askU (B : Bx) (D : Dt) (i : Nat) (u : List DictEntry) (tt a e : Nat) : Dt :=
  { D with u := upd D.u (tj i) (uNew B i u tt a), e := upd D.e (tj i) (e + 1), s := upd D.s (tj i) #[none] }
noncomputable def askD (B : Bx) (D : Dt) (i : Nat) (u : List DictEntry) (tt a b e : Nat) : Dt := retD (askU B D i u tt a e) i a b
/-- the data before -/
noncomputable def preA (D : Dt) (i : Nat) (u : List DictEntry) (e : Nat) (sl : Array (Option Value)) (c : Obj) : Dt :=
  { D with c := upd D.c i c, u := upd D.u (tj i) u, e := upd D.e (tj i) e, s := upd D.s (tj i) sl, sn := upd D.sn i .none }
section
variable (G : Gx) (i : Nat) (li : Nat)
noncomputable def runA (B : Bx) (G : Gx) (D : Dt) (i t : Nat) (beside : List Row) (p : Pos) (y tk : Nat) (js : List (Hn B)) (n hs : Nat) : Out :=
  run B G false n (cAsk i t) .base (dQ (cAsk i t)) p (rowT (rowsB D ++ beside)) 400 (y + 730) (tk + 1046) hs js []
noncomputable def jA (B : Bx) (D : Dt) (i : Nat) (u : List DictEntry) (e : Nat) (kvs : List (Str × Value)) (dk : DK B (instE i D.τ D.η ++ u) kvs) (hs : (thA i == sysModules) = false) (hv : (valueAt kvs (atS i)).getD (.ref 205) = .ref 205) (li : Nat) : List (Hn B) :=
  [.jump (jIn B li i _ (inB i)), .jump (jDGet B (thI i) (thA i) (instE i D.τ D.η ++ u) e #[none] kvs dk hs (atS i) (.ref 205) (.ref 205) hv)]
noncomputable def jP (B : Bx) (D : Dt) (i : Nat) (u : List DictEntry) (e : Nat) (kvs : List (Str × Value)) (dk : DK B (instE i D.τ D.η ++ u) kvs) (hk : atS i ∉ kvs.map (·.1)) (hz : (instE i D.τ D.η ++ u).length ≤ sizeLine) (hi : thI i % 1024 < 1000) (a : Nat) : List (Hn B) :=
  [.jump (jDSet B (thI i) (thA i) (instE i D.τ D.η ++ u) e #[none] kvs dk (atS i) (.ref (a + 730)) hk hz hi)]
noncomputable def rA1 (B : Bx) (D : Dt) (u : List DictEntry) (sl : Array (Option Value)) (n hs : Nat) (ext : List Row) (t : Nat) (ces : List DictEntry) (ce e : Nat) (kvs : List (Str × Value)) (dk : DK B (instE i D.τ D.η ++ u) kvs) (hs0 : (thA i == sysModules) = false) (hv : (valueAt kvs (atS i)).getD (.ref 205) = .ref 205) (p : Pos) (y tk : Nat) : Out :=
  runA B G (preA D i u e sl (dobS ces ce #[])) i t ext p y tk (jA B D i u e kvs dk hs0 hv li) n hs
noncomputable def rA2 (B : Bx) (D : Dt) (u : List DictEntry) (sl : Array (Option Value)) (n hs : Nat) (ext : List Row) (t : Nat) (ces : List DictEntry) (ce e : Nat) (kvs : List (Str × Value)) (dk : DK B (instE i D.τ D.η ++ u) kvs) (hs0 : (thA i == sysModules) = false) (hv : (valueAt kvs (atS i)).getD (.ref 205) = .ref 205) (hk : atS i ∉ kvs.map (·.1)) (hz : (instE i D.τ D.η ++ u).length ≤ sizeLine) (hi : thI i % 1024 < 1000) (p : Pos) (y tk : Nat) (es' : List DictEntry) (e' a y1 tk1 n2 hs2 : Nat) : Out :=
  goOn B G (rA1 G i li B D u sl n hs ext t ces ce e kvs dk hs0 hv p y tk) 450 a (dobS es' e' #[]) y1 tk1 n2 hs2 (jP B D i u e kvs dk hk hz hi a)
/-- asked for the first time: a mapping -/
def EvAm (u : List DictEntry) (sl : Array (Option Value)) (n hs n2 hs2 n3 hs3 : Nat) : Prop := ∀ (B : Bx) (D : Dt) (ext : List Row) (t : Nat) (ces : List DictEntry) (ce e : Nat) (kvs : List (Str × Value)) (dk : DK B (instE i D.τ D.η ++ u) kvs) (hs0 : (thA i == sysModules) = false) (hv : (valueAt kvs (atS i)).getD (.ref 205) = .ref 205) (hk : atS i ∉ kvs.map (·.1)) (hz : (instE i D.τ D.η ++ u).length ≤ sizeLine) (hi : thI i % 1024 < 1000) (p : Pos) (y tk : Nat) (es' : List DictEntry) (e' a y1 tk1 : Nat)
    (B2 : Bx) (rows : Obj) (b y2 tk2 : Nat),
  let o1 := rA1 G i li B D u sl n hs ext t ces ce e kvs dk hs0 hv p y tk
  let l1 := [row (slotA i - 529) (slotA i) (dobS ces ce #[])]
  let o2 := rA2 G i li B D u sl n hs ext t ces ce e kvs dk hs0 hv hk hz hi p y tk es' e' a y1 tk1 n2 hs2
  let v := addrN (callC o2.cf.t) 0
  let l2 := [row (slotA i - 529) (slotA i) (dobS ces ce #[]), row 451 v (viewO (slotA i))]
  let o3 := goOn B2 G o2 460 b rows y2 tk2 n3 hs3 []
  let l3 := rowsB (askD B (setC D i (dobS ces ce #[])) i u (lastK o3 (thI i)) a b e) ++ [⟨210, 400, y + 730, fOf (objA o3 400) i t a⟩, ⟨pT i, 450, a + 730, dobS es' e' #[]⟩, ⟨pR i, 460, b + 730, rows⟩]
  (op o1 [] l1, op o2 [] l2, pk o3 (Jx i) l3) = (opTo o1 (.call (.type "dict") ⟨[.ref (slotA i)], []⟩) [] l1 [], opTo o2 (.call (.type "list") ⟨[.ref v], []⟩) [] l2 [], pkTo o3 (cA B2 G y) .base (restOf (cA B2 G y) 3) (Jx i) l3 ext)
noncomputable def rAl1 (B : Bx) (D : Dt) (u : List DictEntry) (sl : Array (Option Value)) (n hs : Nat) (ext : List Row) (t : Nat) (x : Value) (xs : List Value) (ce e : Nat) (m : Nat) (hn : ((⟨x :: xs⟩ : Array Value).size : Int) = Int.ofNat (Nat.succ m)) (hf : Int.ofNat (Nat.succ m) < 2 ^ 63) (kvs : List (Str × Value)) (dk : DK B (instE i D.τ D.η ++ u) kvs) (hs0 : (thA i == sysModules) = false) (hv : (valueAt kvs (atS i)).getD (.ref 205) = .ref 205) (p : Pos) (y tk : Nat) : Out :=
  runA B G (preA D i u e sl (lob ⟨x :: xs⟩ ce)) i t ext p y tk (jA B D i u e kvs dk hs0 hv li ++ [.jump (jLenB B (slotA i - 529) (slotA i) ⟨x :: xs⟩ ce _ hn hf)]) n hs
noncomputable def rAl2 (B : Bx) (D : Dt) (u : List DictEntry) (sl : Array (Option Value)) (n hs : Nat) (ext : List Row) (t : Nat) (x : Value) (xs : List Value) (ce e : Nat) (m : Nat) (hn : ((⟨x :: xs⟩ : Array Value).size : Int) = Int.ofNat (Nat.succ m)) (hf : Int.ofNat (Nat.succ m) < 2 ^ 63) (kvs : List (Str × Value)) (dk : DK B (instE i D.τ D.η ++ u) kvs) (hs0 : (thA i == sysModules) = false) (hv : (valueAt kvs (atS i)).getD (.ref 205) = .ref 205) (hk : atS i ∉ kvs.map (·.1)) (hz : (instE i D.τ D.η ++ u).length ≤ sizeLine) (hi : thI i % 1024 < 1000) (p : Pos) (y tk a y1 tk1 n2 hs2 : Nat) : Out :=
  goOn B G (rAl1 G i li B D u sl n hs ext t x xs ce e m hn hf kvs dk hs0 hv p y tk) 450 a (tob ⟨x :: xs⟩ 0) y1 tk1 n2 hs2 (jP B D i u e kvs dk hk hz hi a)
/-- a list with something in it -/
def EvAl (u : List DictEntry) (sl : Array (Option Value)) (n hs n2 hs2 n3 hs3 : Nat) : Prop := ∀ (B : Bx) (D : Dt) (ext : List Row) (t : Nat) (x : Value) (xs : List Value) (ce e : Nat) (m : Nat) (hn : ((⟨x :: xs⟩ : Array Value).size : Int) = Int.ofNat (Nat.succ m)) (hf : Int.ofNat (Nat.succ m) < 2 ^ 63) (kvs : List (Str × Value)) (dk : DK B (instE i D.τ D.η ++ u) kvs) (hs0 : (thA i == sysModules) = false) (hv : (valueAt kvs (atS i)).getD (.ref 205) = .ref 205) (hk : atS i ∉ kvs.map (·.1)) (hz : (instE i D.τ D.η ++ u).length ≤ sizeLine) (hi : thI i % 1024 < 1000) (p : Pos) (y tk a y1 tk1 er b y2 tk2 : Nat),
  let o1 := rAl1 G i li B D u sl n hs ext t x xs ce e m hn hf kvs dk hs0 hv p y tk
  let l1 := [row (slotA i - 529) (slotA i) (lob ⟨x :: xs⟩ ce), row 200 729 (rob D.v D.left)]
  let o2 := rAl2 G i li B D u sl n hs ext t x xs ce e m hn hf kvs dk hs0 hv hk hz hi p y tk a y1 tk1 n2 hs2
  let l2 := [row (slotA i - 529) (slotA i) (lob ⟨x :: xs⟩ ce)]
  let o3 := goOn B G o2 460 b (lob ⟨x :: xs⟩ er) y2 tk2 n3 hs3 []
  let l3 := rowsB (askD B (setC D i (lob ⟨x :: xs⟩ ce)) i u (lastK o3 (thI i)) a b e) ++ [⟨210, 400, y + 730, fOf (objA o3 400) i t a⟩, ⟨pT i, 450, a + 730, tob ⟨x :: xs⟩ 0⟩, ⟨pR i, 460, b + 730, lob ⟨x :: xs⟩ er⟩]
  (op o1 [] l1, op o2 [] l2, pk o3 (Jx i) l3) = (opTo o1 (.call (.type "tuple") ⟨[.ref (slotA i)], []⟩) [] l1 [], opTo o2 (.call (.type "list") ⟨[.ref (slotA i)], []⟩) [] l2 [], pkTo o3 (cA B G y) .base (restOf (cA B G y) 3) (Jx i) l3 ext)
noncomputable def rAe1 (B : Bx) (D : Dt) (u : List DictEntry) (sl : Array (Option Value)) (k n hs : Nat) (ext : List Row) (t ce e : Nat) (kvs : List (Str × Value)) (dk : DK B (instE i D.τ D.η ++ u) kvs) (hs0 : (thA i == sysModules) = false) (hv : (valueAt kvs (atS i)).getD (.ref 205) = .ref 205) (hk : atS i ∉ kvs.map (·.1)) (hz : (instE i D.τ D.η ++ u).length ≤ sizeLine) (hi : thI i % 1024 < 1000) (p : Pos) (y tk : Nat) : Out :=
  runA B G (preA D i u e sl (lob #[] ce)) i t ext p y tk (jA B D i u e kvs dk hs0 hv li ++ jP B D i u e kvs dk hk hz hi (y + k)) n hs
/-- an empty list; told lies at old, k past the heap's end -/
def EvAe (u : List DictEntry) (sl : Array (Option Value)) (k old n hs n3 hs3 : Nat) : Prop := ∀ (B : Bx) (D : Dt) (ext : List Row) (t ce e : Nat) (kvs : List (Str × Value)) (dk : DK B (instE i D.τ D.η ++ u) kvs) (hs0 : (thA i == sysModules) = false) (hv : (valueAt kvs (atS i)).getD (.ref 205) = .ref 205) (hk : atS i ∉ kvs.map (·.1)) (hz : (instE i D.τ D.η ++ u).length ≤ sizeLine) (hi : thI i % 1024 < 1000) (p : Pos) (y tk er b y2 tk2 : Nat),
  let o1 := rAe1 G i li B D u sl k n hs ext t ce e kvs dk hs0 hv hk hz hi p y tk
  let l1 := [row (slotA i - 529) (slotA i) (lob #[] ce)]
  let o3 := goOn B G o1 460 b (lob #[] er) y2 tk2 n3 hs3 []
  let l3 := rowsB (askD B (setC D i (lob #[] ce)) i u (lastK o3 (thI i)) (y + k) b e) ++ [⟨210, 400, y + 730, fOf (objA o3 400) i t (y + k)⟩, ⟨pT i, old, y + k + 730, tob #[] 0⟩, ⟨pR i, 460, b + 730, lob #[] er⟩]
  (op o1 [] l1, pk o3 (Jx i) l3) = (opTo o1 (.call (.type "list") ⟨[.ref (slotA i)], []⟩) [] l1 [], pkTo o3 (cA B G y) .base (restOf (cA B G y) 3) (Jx i) l3 ext)
/-- asked again -/
def EvAg (two : Bool) (n hs : Nat) : Prop := ∀ (B : Bx) (D : Dt) (ext : List Row) (t : Nat) (h' : Int) (t' v' : Nat) (h : Int) (tt a : Nat) (u : List DictEntry) (b : Nat) (told rows : Obj) (p : Pos) (y tk : Nat),
  let D0 := { D with u := upd D.u (tj i) (uA i two h' t' v' h tt a u), sn := upd D.sn i (.ref (b + 730)), kp := upd D.kp i (.ref (a + 730)) }
  let o := runA B G D0 i t (ownR i a b told rows ++ ext) p y tk [.jump (jIn B li i _ (inB i))] n hs
  let l := rowsB D0 ++ (⟨210, 400, y + 730, fOf (objA o 400) i t a⟩ :: ownR i a b told rows)
  pk o (Jx i) l = pkTo o (cA B G y) .base (restOf (cA B G y) 3) (Jx i) l ext
end
end Mine
end

section
open PySem PySem.Spec PySem.Calls PyProof.Rows PySem.W PySem.W.X
namespace Mine
noncomputable def evalQ : Expr → Env → Sem Value := PySem.W.Fast.tw14044960220447912780
noncomputable def isQ (x : Nat) : Sem Value := PySem.W.Fast.tw8004119333741010377 [.ref x, .ref x] (PySem.W.Fast.tw12886488535604756494 .Is (.ref x) (.ref x))
/-- on, if the first part was True -/
def Kc (t : Sem PySem.Fin) (v : Value) : Sem PySem.Fin := match v with
  | .bool b => match b with
    | true => t
    | false => .unsupported ""
  | _ => .unsupported ""
noncomputable def wrapQ (env : Env) (m : Sem Flow) : Sem PySem.Fin := PySem.W.R.bindR (PySem.W.R.onRaiseR m (leavingQ env)) finQ
section
variable {M : Model} {Γ : PySem.Ctx} {Q : PySem.Fin → Pos → Shared → Prop} {E : Value → Pos → Shared → Prop} {s : Shared} {p : Pos}
theorem wp_wrapQ (env : Env) (m : Sem Flow) : Sem.wp M Γ (wrapQ env m) Q E p s = Sem.wp M Γ m (fun f p s => Sem.wp M Γ (finQ f) Q E p s) (fun e p' s' => Sem.wp M Γ (leavingQ env e) (fun _ p'' s'' => E e p'' s'') E p' s') p s := by
  unfold wrapQ
  rw [← PySem.W.R.bindR_eq, ← PySem.W.R.onRaiseR_eq, Sem.wp_bind, Sem.wp_onRaise]
theorem execsQ_eq : execsQ = execs := PySem.W.Fast.te12563942051412417395.symm
theorem evalQ_eq : evalQ = eval := PySem.W.Fast.te14044960220447912780.symm
theorem ret_cut (e1 e2 e3 : Expr) (bp rp : Pos) (env : Env)
    (h : Sem.wp M Γ (PySem.W.R.bindR (PySem.W.R.onRaiseR (evalQ e1 env) (leavingQ env)) (Kc (wrapQ env (execsQ [.Return (some (.BoolOp .And [e2, e3] bp)) bp] env)))) Q E rp s) :
    Sem.wp M Γ (wrapQ env (execsQ [.Return (some (.BoolOp .And [e1, e2, e3] bp)) rp] env)) Q E p s := by
  rw [← PySem.W.R.bindR_eq, ← PySem.W.R.onRaiseR_eq, Sem.wp_bind, Sem.wp_onRaise, evalQ_eq] at h
  rw [wp_wrapQ, execsQ_eq, execs_cons, exec_Return_some, PySem.arm_eval_BoolOp]
  simp only [Sem.wp_bind', Sem.wp_cmd_standAt]
  show Sem.wp M Γ (boolOp bp .And [eval e1 env, eval e2 env, eval e3 env]) _ _ rp s
  have e0 : boolOp bp .And [eval e1 env, eval e2 env, eval e3 env] = Sem.bind (eval e1 env) fun v => Sem.bind (standAt bp) fun _ => Sem.bind (holding [v] (truthy v)) fun t => match BoolOp.And, t with | .And, false | .Or, true => pure v | _, _ => boolOp bp .And [eval e2 env, eval e3 env] := rfl
  rw [e0, Sem.wp_bind]
  refine Sem.wp_mono M Γ _ (fun v p' s' x => ?_) (fun _ _ _ x => x) _ _ h
  cases v with
  | bool b =>
    cases b with
    | true =>
      have x : Sem.wp M Γ (wrapQ env (execsQ [.Return (some (.BoolOp .And [e2, e3] bp)) bp] env)) Q E p' s' := x
      rw [wp_wrapQ, execsQ_eq, execs_cons, exec_Return_some, PySem.arm_eval_BoolOp] at x
      simp only [Sem.wp_bind', Sem.wp_cmd_standAt] at x
      exact x
    | false => exact False.elim x
  | _ => exact False.elim x
theorem is_self (x : Nat) {Q : Value → Pos → Shared → Prop} {E : Value → Pos → Shared → Prop} (h : Q (.bool true) p s) : Sem.wp M Γ (isQ x) Q E p s := by
  unfold isQ
  rw [← PySem.W.Fast.te8004119333741010377, ← PySem.W.Fast.te12886488535604756494]
  have e1 : isSame (.ref x) (.ref x) = pure true := by
    show (if x == x then (return true : Sem Bool) else _) = _
    rw [if_pos (beq_self_eq_true x)]
  have e2 : compareOp .Is (.ref x) (.ref x) = pure (.bool true) := by
    show (do return Value.bool (← isSame (.ref x) (.ref x)) : Sem Value) = _
    rw [e1]; rfl
  rw [e2]
  show Sem.wp M Γ (operate [.ref x, .ref x] (pure (.bool true))) Q E p s
  unfold operate
  simp only [Sem.wp_bind', Sem.wp_holding, Sem.wp_release, Sem.wp_pure']
  exact h
end
/-- the parts of the last return of _law_asked -/
structure RetP where
  e1 : Expr
  e2 : Expr
  e3 : Expr
  bp : Pos
  rp : Pos
def retP (l : List Stmt) : RetP := match l with
  | [.Return (some (.BoolOp .And [e1, e2, e3] bp)) rp] => ⟨e1, e2, e3, bp, rp⟩
  | _ => ⟨default, default, default, default, default⟩
noncomputable def aP (c : Code) : RetP := retP ((bodyOf c).drop 3)
/-- the return without its first part -/
noncomputable def tR (c : Code) : Sem PySem.Fin := wrapQ (envOf c) (execsQ [.Return (some (.BoolOp .And [(aP c).e2, (aP c).e3] (aP c).bp)) (aP c).bp] (envOf c))
/-- its first part, and then on -/
noncomputable def tC (c : Code) : Sem PySem.Fin := PySem.W.R.bindR (PySem.W.R.onRaiseR (evalQ (aP c).e1 (envOf c)) (leavingQ (envOf c))) (Kc (tR c))
noncomputable def tI (c : Code) (x : Nat) : Sem PySem.Fin := PySem.W.R.bindR (PySem.W.R.onRaiseR (isQ x) (leavingQ (envOf c))) (Kc (tR c))
section
variable {B : Bx} {R₀ : Result → Shared → Prop}
theorem mnc_cut {c : Code} {κ : Kn} {p : Pos} {T : OT} {m sz tk : Nat} (hb : (bodyOf c).drop 3 = [.Return (some (.BoolOp .And [(aP c).e1, (aP c).e2, (aP c).e3] (aP c).bp)) (aP c).rp]) (H : MnC B R₀ ⟨c, κ, tC c, (aP c).rp, T, m, sz, tk⟩) : MnC B R₀ ⟨c, κ, restOf c 3, p, T, m, sz, tk⟩ := fun h D => by
  have z := H h D
  unfold Mn at z ⊢
  have e : restOf c 3 = wrapQ (envOf c) (execsQ ((bodyOf c).drop 3) (envOf c)) := rfl
  rw [e, hb]
  exact ret_cut _ _ _ _ _ _ z
theorem mnc_is {c : Code} {κ : Kn} {p : Pos} {T : OT} {m sz tk x : Nat} (H : ∀ p, MnC B R₀ ⟨c, κ, tR c, p, T, m, sz, tk⟩) : MnC B R₀ ⟨c, κ, tI c x, p, T, m, sz, tk⟩ := fun h D => by
  unfold Mn tI
  rw [← PySem.W.R.bindR_eq, ← PySem.W.R.onRaiseR_eq, Sem.wp_bind, Sem.wp_onRaise]
  exact is_self x (H p h D)
end
end Mine
end

section
open PySem PySem.Spec PySem.Calls PyProof.Rows PySem.W PySem.W.X
namespace Mine
section
variable (G : Gx) (i : Nat)
def EvCut : Prop := ∀ (B : Bx) (y : Nat), (bodyOf (cA B G y)).drop 3 = [.Return (some (.BoolOp .And [(aP (cA B G y)).e1, (aP (cA B G y)).e2, (aP (cA B G y)).e3] (aP (cA B G y)).bp)) (aP (cA B G y)).rp]
/-- the rows at the return of _law_asked -/
noncomputable def retL (D : Dt) (i fa a b : Nat) (told rows fo : Obj) : List Row := rowsB (retD D i a b) ++ (row 210 (fa + 730) fo :: ownR i a b told rows)
def EvC (n hs : Nat) : Prop := ∀ (B : Bx) (D : Dt) (ext : List Row) (τ : Nat → Nat) (η : Nat → Int) (t e fa a b : Nat) (told rows : Obj) (y tk : Nat),
  let l := retL D i fa a b told rows (fO τ η i t a e)
  let o := run B G false n (cA B G fa) .base (tC (cA B G fa)) (aP (cA B G fa)).rp (rowT (l ++ ext)) 400 (y + 730) (tk + 1046) hs [] []
  pk o (Jx i) l = pkTo o (cA B G fa) .base (tI (cA B G fa) (a + 730)) (Jx i) l ext
/-- what was told: a dict or a tuple -/
def toldO (m : Bool) (es : List DictEntry) (e : Nat) (xs : Array Value) : Obj := match m with
  | true => dobS es e #[]
  | false => tob xs e
/-- what was handed: a dict or a list -/
def handO (m : Bool) (es : List DictEntry) (e : Nat) (xs : Array Value) : Obj := match m with
  | true => dobS es e #[]
  | false => lob xs e
noncomputable def rR (B : Bx) (D : Dt) (ext : List Row) (τ : Nat → Nat) (η : Nat → Int) (t e fa a b : Nat) (told rows : Obj) (p : Pos) (y tk n hs : Nat) : Out :=
  run B G false n (cA B G fa) .base (tR (cA B G fa)) p (rowT (retL D i fa a b told rows (fO τ η i t a e) ++ ext)) 400 (y + 730) (tk + 1046) hs [] []
/-- to the call of _law_same, and back, to the end of _law_asked -/
def EvR (n hs n2 hs2 : Nat) : Prop := ∀ (B : Bx) (D' : Dt) (ces : List DictEntry) (ce : Nat) (cxs : Array Value) (ext : List Row) (τ : Nat → Nat) (η : Nat → Int) (t e fa a b : Nat) (es : List DictEntry) (ep : Nat) (xs : Array Value) (rows : Obj) (p : Pos) (y tk y2 tk2 : Nat),
  let D := setC D' i (handO (isMap i) ces ce cxs)
  let told := toldO (isMap i) es ep xs
  let o := rR G i B D ext τ η t e fa a b told rows p y tk n hs
  let l0 := [⟨300, pT i, a + 730, told⟩, ⟨301, pR i, b + 730, rows⟩] ++ (rowsB (retD D i a b) ++ [row 210 (fa + 730) (fO τ η i t a e)])
  let o2 := goBk B G o (.ret (.bool true)) ([row 300 (a + 730) told, row 301 (b + 730) rows] ++ ((rowsB (retD D i a b) ++ [row 210 (fa + 730) (fO τ η i t a e)]) ++ ext)) y2 tk2 n2 hs2 []
  let l := rowsB (retD D i a b) ++ [⟨pT i, 300, a + 730, told⟩, ⟨pR i, 301, b + 730, rows⟩]
  (op o (Jx i) l0, o.cf.c, o.cf.κ, pk o2 (Jx i) l) = (opTo o (cSame a b (isMap i)) (Jx i) l0 ext, cA B G fa, Kn.base, pkTo o2 o2.cf.c .base (.pure (.done (.ret (.bool true)))) (Jx i) l ext)
end
/-! _law_same -/
def Js : List Nat := [0, 2, 3, 4, 5, 16, 49, 82, 106, 124, 140, 141, 143, 144, 146, 147, 148, 150, 151, 152, 153, 160, 161, 168, 169, 176, 177, 184, 185, 192, 194, 196, 200, 1000, 210,
  310, 311, 312, 313, 314, 315, 316, 317, 318, 319, 320, 321, 322, 323, 325, 331, 332, 333]
def Jc : List Nat := 309 :: Js
def cellS (a : Nat) : Obj := { cls := .type "cell", data := .cell (some (.ref a)) }
noncomputable def runS (B : Bx) (G : Gx) (a b : Nat) (m : Bool) (told rows : Obj) (ext : List Row) (p : Pos) (y tk : Nat) (js : List (Hn B)) (n hs : Nat) : Out :=
  run B G false n (cSame a b m) .base (dQ (cSame a b m)) p (rowT ([row 300 (a + 730) told, row 301 (b + 730) rows] ++ ext)) 400 (y + 730) (tk + 1046) hs js []
theorem DK.nil (B : Bx) : DK B [] [] := ⟨(fun e he => (by simp at he)), .nil, List.nodup_nil⟩
noncomputable def rSm1 (B : Bx) (G : Gx) (a b : Nat) (es : List DictEntry) (e : Nat) (kvs : List (Str × Value)) (dk : DK B es kvs) (hs0 : (a + 730 == sysModules) = false) (N : Nat) (hn : (kvs.length : Int) = Int.ofNat N) (hf : Int.ofNat N < 2 ^ 63) (xs : List Value) (er : Nat) (hx : ((⟨xs⟩ : Array Value).size : Int) = Int.ofNat N) (hne : (Int.ofNat N != Int.ofNat N) = false) (ext : List Row) (p : Pos) (y tk n hs : Nat) : Out :=
  runS B G a b true (dobS es e #[]) (lob ⟨xs⟩ er) ext p y tk [.jump (jLenD B 300 (a + 730) es e kvs dk hs0 _ hn hf), .jump (jLenL B 301 (b + 730) ⟨xs⟩ er _ hx hf), .bool _ _ hne] n hs
noncomputable def rSm2 (B : Bx) (G : Gx) (a b : Nat) (es : List DictEntry) (e : Nat) (kvs : List (Str × Value)) (dk : DK B es kvs) (hs0 : (a + 730 == sysModules) = false) (N : Nat) (hn : (kvs.length : Int) = Int.ofNat N) (hf : Int.ofNat N < 2 ^ 63) (xs : List Value) (er : Nat) (hx : ((⟨xs⟩ : Array Value).size : Int) = Int.ofNat N) (hne : (Int.ofNat N != Int.ofNat N) = false) (h0 : 0 ≤ Int.ofNat N) (hf' : Int.ofNat N < 2 ^ 62) (ext : List Row) (p : Pos) (y tk n hs : Nat)
    (ka : Nat) (ks : List Value) (ke y2 tk2 n2 hs2 : Nat) : Out :=
  goOn B G (rSm1 B G a b es e kvs dk hs0 N hn hf xs er hx hne ext p y tk n hs) 470 ka (lob ⟨ks⟩ ke) y2 tk2 n2 hs2 [.jump (jLenL B 301 (b + 730) ⟨xs⟩ er _ hx hf), .jump (jRange B (Int.ofNat N)), .jump (jRIter B 471 _ h0 hf')]
def wdEs (ηk : Int) (τk : Nat) (v : Value) : List DictEntry := [⟨ηk, .str ⟨⟨[107]⟩⟩ τk, v⟩]
def wdO (two : Bool) (ηk : Int) (τk : Nat) (v : Value) : Obj := match two with
  | false => dob [] 0
  | true => dob (wdEs ηk τk v) 1
/-- the comprehension of _law_same for a mapping, out of a small run -/
noncomputable def cC0 (B : Bx) (G : Gx) (y y2 : Nat) : Code := callC (rSm2 B G.bare 0 0 [] 0 [] (DK.nil B) rfl 0 rfl (by decide) [] 0 rfl rfl (by decide) (by decide) [] default y 0
  68 816851426512027915185914015368084205485699424856775292384477100226827299365753461872524263424 0 [] 0 y2 0 29 642455769098444108370979732707892848381331).cf.t
def eOf (c : Code) : Expr := match c with
  | .compStart e _ _ _ _ => e
  | _ => default
noncomputable def cC (B : Bx) (G : Gx) (y y2 : Nat) : Code := .compStart (eOf (cC0 B G y y2)) 0 (.ref (y2 + 731)) (.ref (y2 + 732)) (envOf (cC0 B G y y2))
noncomputable def cCL (B : Bx) (G : Gx) (y y2 : Nat) : Code := .compLoop (eOf (cC0 B G y y2)) 0 (.ref (y2 + 731)) (.ref (y2 + 732)) (envOf (cC0 B G y y2))
/-- its rows -/
def cRows (f : Nat → Nat) (y y2 a b ka : Nat) (told rows keys it wd : Obj) : List Row :=
  [⟨300, f 300, a + 730, told⟩, ⟨301, f 301, b + 730, rows⟩, ⟨302, f 302, ka + 730, keys⟩, ⟨303, f 303, y + 731, cellS (a + 730)⟩, ⟨304, f 304, y + 732, cellS (b + 730)⟩, ⟨305, f 305, y + 733, cellS (ka + 730)⟩,
   ⟨306, f 306, y2 + 731, it⟩, ⟨307, f 307, y2 + 732, lob #[] 0⟩, ⟨308, f 308, y2 + 733, wd⟩]
def fSm (n : Nat) : Nat := match n with
  | 302 => 470 | 303 => 401 | 304 => 402 | 305 => 403 | 306 => 472 | 307 => 473 | 308 => 474 | n => n
section
variable (G : Gx)
def EvSm (two : Bool) (n hs n2 hs2 n3 hs3 : Nat) : Prop := ∀ (B B1 : Bx) (a b : Nat) (es : List DictEntry) (e : Nat) (kvs : List (Str × Value)) (dk : DK B es kvs) (hs0 : (a + 730 == sysModules) = false) (N : Nat) (hn : (kvs.length : Int) = Int.ofNat N) (hf : Int.ofNat N < 2 ^ 63) (xs : List Value) (er : Nat) (hx : ((⟨xs⟩ : Array Value).size : Int) = Int.ofNat N) (hne : (Int.ofNat N != Int.ofNat N) = false) (h0 : 0 ≤ Int.ofNat N) (hf' : Int.ofNat N < 2 ^ 62) (ext : List Row) (p : Pos) (y tk : Nat)
    (ka : Nat) (ks : List Value) (ke y2 tk2 : Nat) (v : Int) (ηk : Int) (τk : Nat) (kv : Value) (y3 tk3 : Nat),
  let o1 := rSm1 B G a b es e kvs dk hs0 N hn hf xs er hx hne ext p y tk n hs
  let l1 := [row 300 (a + 730) (dobS es e #[])]
  let o := rSm2 B G a b es e kvs dk hs0 N hn hf xs er hx hne h0 hf' ext p y tk n hs ka ks ke y2 tk2 n2 hs2
  let l := cRows fSm y y2 a b ka (dobS es e #[]) (lob ⟨xs⟩ er) (lob ⟨ks⟩ ke) (rob 0 (Int.ofNat N)) (dob [] 0) ++ [⟨309, 400, y + 730, obA (objA o 400)⟩]
  let o3 := goBk B G o .next (cRows id y y2 a b ka (dobS es e #[]) (lob ⟨xs⟩ er) (lob ⟨ks⟩ ke) (rob v 0) (wdO two ηk τk kv) ++ ([row 309 (y + 730) (obA (objA o 400))] ++ ext)) y3 tk3 n3 hs3 []
  let l3 := [row 300 (a + 730) (dobS es e #[]), row 301 (b + 730) (lob ⟨xs⟩ er)]
  (op o1 [] l1, op o Js l, pk o3 Js l3) = (opTo o1 (.call (.type "list") ⟨[.ref (a + 730)], []⟩) [] l1 [], opTo o (cC B1 G y y2) Js l ext, pkTo o3 o3.cf.c .base (.pure (.done (.ret (.bool true)))) Js l3 ext)
/-- to the comprehension's head -/
def EvSm3 (n hs : Nat) : Prop := ∀ (B : Bx) (ext : List Row) (y y2 a b ka : Nat) (told rows keys : Obj) (v left : Int) (p : Pos) (z tk : Nat),
  let l := cRows id y y2 a b ka told rows keys (rob v left) (dob [] 0)
  let o := run B G false n (cC B G y y2) .base (dQ (cC B G y y2)) p (rowT (l ++ ext)) 500 (z + 730) (tk + 1046) hs [] []
  pk o Jc l = pkTo o (cCL B G y y2) .base (dQ (cCL B G y y2)) Jc l ext
/-- one turn of the comprehension -/
structure TP (ks xs : List Value) (kvs : List (Str × Value)) (x : Nat) where
  j : Int
  h0 : 0 ≤ j
  hf : j < 2 ^ 63
  k : Str
  tk1 : Nat
  tk2 : Nat
  ta : Nat
  hk : (⟨ks⟩ : Array Value)[j.toNat]? = some (.str k tk1)
  hx : (⟨xs⟩ : Array Value)[j.toNat]? = some (.ref (ta + 730))
  hv : valueAt kvs k = some (.ref x)
  hne : (k.cps.toList != k.cps.toList) = false
def EvSm4 (x : Nat) (two : Bool) (n hs : Nat) : Prop := ∀ (B : Bx) (ext : List Row) (y y2 a b ka : Nat) (es : List DictEntry) (e : Nat) (kvs : List (Str × Value)) (dk : DK B es kvs) (xs : List Value) (er : Nat) (ks : List Value) (ke : Nat) (Z : TP ks xs kvs x) (m : Nat) (ηk : Int) (τk : Nat) (v : Value) (p : Pos) (z tk : Nat),
  let l0 := cRows id y y2 a b ka (dobS es e #[]) (lob ⟨xs⟩ er) (lob ⟨ks⟩ ke) (rob Z.j (Int.ofNat (Nat.succ m))) (wdO two ηk τk v)
  let o := run B G false n (cCL B G y y2) .base (dQ (cCL B G y y2)) p (rowT (row 1001 (Z.ta + 730) (tob #[.str Z.k Z.tk2, .ref x] 0) :: (l0 ++ ext))) 500 (z + 730) (tk + 1046) hs
    [.jump (jGet B 302 (ka + 730) ⟨ks⟩ ke Z.j (.str Z.k Z.tk1) Z.h0 Z.hf Z.hk), .jump (jGet B 301 (b + 730) ⟨xs⟩ er Z.j (.ref (Z.ta + 730)) Z.h0 Z.hf Z.hx), .bool _ _ Z.hne,
     .jump (jGet B 302 (ka + 730) ⟨ks⟩ ke Z.j (.str Z.k Z.tk1) Z.h0 Z.hf Z.hk), .jump (jDItem B 300 (a + 730) es e kvs dk Z.k (.ref x) Z.hv), .jump (jGet B 301 (b + 730) ⟨xs⟩ er Z.j (.ref (Z.ta + 730)) Z.h0 Z.hf Z.hx)] []
  let w := objA o 308
  let l := cRows id y y2 a b ka (dobS es e #[]) (lob ⟨xs⟩ er) (lob ⟨ks⟩ ke) (rob (Z.j + 1) (Int.ofNat (Nat.succ m) - 1)) (wdO true (khA w 0) (ktA w 0) (.int Z.j (vtA w 0)))
  pk o Jc l = pkTo o (cCL B G y y2) .base (dQ (cCL B G y y2)) Jc l ext
/-- the end of the comprehension -/
def EvSm5 (two : Bool) (n hs : Nat) : Prop := ∀ (B : Bx) (ext : List Row) (y y2 a b ka : Nat) (told rows keys : Obj) (v : Int) (ηk : Int) (τk : Nat) (kv : Value) (p : Pos) (z tk : Nat),
  let l := cRows id y y2 a b ka told rows keys (rob v 0) (wdO two ηk τk kv)
  let o := run B G false n (cCL B G y y2) .base (dQ (cCL B G y y2)) p (rowT (l ++ ext)) 500 (z + 730) (tk + 1046) hs [] []
  pk o Jc l = pkTo o o.cf.c .base (.pure (.done .next)) Jc l ext
end
/-! tuples -/
noncomputable def rSt (B : Bx) (G : Gx) (a b : Nat) (xs : List Value) (te er N : Nat) (hf : Int.ofNat N < 2 ^ 63) (hx : ((⟨xs⟩ : Array Value).size : Int) = Int.ofNat N) (heq : (Int.ofNat N == Int.ofNat N) = true) (h0 : 0 ≤ Int.ofNat N) (hf' : Int.ofNat N < 2 ^ 62) (ext : List Row) (p : Pos) (y tk n hs : Nat) : Out :=
  runS B G a b false (tob ⟨xs⟩ te) (lob ⟨xs⟩ er) ext p y tk [.jump (jLenT B 300 (a + 730) ⟨xs⟩ te _ hx hf), .jump (jLenL B 301 (b + 730) ⟨xs⟩ er _ hx hf), .bool _ _ heq, .jump (jLenL B 301 (b + 730) ⟨xs⟩ er _ hx hf), .jump (jRange B (Int.ofNat N)), .jump (jRIter B 404 _ h0 hf')] n hs
noncomputable def cD0 (B : Bx) (G : Gx) (y : Nat) : Code := callC (rSt B G.bare 0 0 [] 0 0 0 (by decide) rfl rfl (by decide) (by decide) [] default y 0 84 1021304929215964836618790745186218702454919153983700931150749202971859600354619250650917773962726189483035783393413431296).cf.t
noncomputable def cD (B : Bx) (G : Gx) (y : Nat) : Code := .compStart (eOf (cD0 B G y)) 0 (.ref (y + 735)) (.ref (y + 736)) (envOf (cD0 B G y))
noncomputable def cDL (B : Bx) (G : Gx) (y : Nat) : Code := .compLoop (eOf (cD0 B G y)) 0 (.ref (y + 735)) (.ref (y + 736)) (envOf (cD0 B G y))
def dRows (f : Nat → Nat) (y a b : Nat) (told rows it wd : Obj) : List Row :=
  [⟨300, f 300, a + 730, told⟩, ⟨301, f 301, b + 730, rows⟩, ⟨303, f 303, y + 731, cellS (a + 730)⟩, ⟨304, f 304, y + 732, cellS (b + 730)⟩,
   ⟨306, f 306, y + 735, it⟩, ⟨307, f 307, y + 736, lob #[] 0⟩, ⟨308, f 308, y + 737, wd⟩]
def fSt (n : Nat) : Nat := match n with
  | 303 => 401 | 304 => 402 | 306 => 405 | 307 => 406 | 308 => 407 | n => n
section
variable (G : Gx)
def EvSt3 (n hs : Nat) : Prop := ∀ (B : Bx) (ext : List Row) (y a b : Nat) (told rows : Obj) (v left : Int) (p : Pos) (z tk : Nat),
  let l := dRows id y a b told rows (rob v left) (dob [] 0)
  let o := run B G false n (cD B G y) .base (dQ (cD B G y)) p (rowT (l ++ ext)) 500 (z + 730) (tk + 1046) hs [] []
  pk o Jc l = pkTo o (cDL B G y) .base (dQ (cDL B G y)) Jc l ext
def EvSt4 (x : Nat) (two : Bool) (n hs : Nat) : Prop := ∀ (B : Bx) (ext : List Row) (y a b : Nat) (xs : List Value) (te er : Nat) (j : Int) (h0 : 0 ≤ j) (hf : j < 2 ^ 63) (hx : (⟨xs⟩ : Array Value)[j.toNat]? = some (.ref x)) (m : Nat) (ηk : Int) (τk : Nat) (v : Value) (p : Pos) (z tk : Nat),
  let l0 := dRows id y a b (tob ⟨xs⟩ te) (lob ⟨xs⟩ er) (rob j (Int.ofNat (Nat.succ m))) (wdO two ηk τk v)
  let o := run B G false n (cDL B G y) .base (dQ (cDL B G y)) p (rowT (l0 ++ ext)) 500 (z + 730) (tk + 1046) hs
    [.jump (jGetT B 300 (a + 730) ⟨xs⟩ te j (.ref x) h0 hf hx), .jump (jGet B 301 (b + 730) ⟨xs⟩ er j (.ref x) h0 hf hx)] []
  let w := objA o 308
  let l := dRows id y a b (tob ⟨xs⟩ te) (lob ⟨xs⟩ er) (rob (j + 1) (Int.ofNat (Nat.succ m) - 1)) (wdO true (khA w 0) (ktA w 0) (.int j (vtA w 0)))
  pk o Jc l = pkTo o (cDL B G y) .base (dQ (cDL B G y)) Jc l ext
def EvSt5 (two : Bool) (n hs : Nat) : Prop := ∀ (B : Bx) (ext : List Row) (y a b : Nat) (told rows : Obj) (v : Int) (ηk : Int) (τk : Nat) (kv : Value) (p : Pos) (z tk : Nat),
  let l := dRows id y a b told rows (rob v 0) (wdO two ηk τk kv)
  let o := run B G false n (cDL B G y) .base (dQ (cDL B G y)) p (rowT (l ++ ext)) 500 (z + 730) (tk + 1046) hs [] []
  pk o Jc l = pkTo o o.cf.c .base (.pure (.done .next)) Jc l ext
def EvSt (two : Bool) (n hs n3 hs3 : Nat) : Prop := ∀ (B B1 : Bx) (a b : Nat) (xs : List Value) (te er N : Nat) (hf : Int.ofNat N < 2 ^ 63) (hx : ((⟨xs⟩ : Array Value).size : Int) = Int.ofNat N) (heq : (Int.ofNat N == Int.ofNat N) = true) (h0 : 0 ≤ Int.ofNat N) (hf' : Int.ofNat N < 2 ^ 62) (ext : List Row) (p : Pos) (y tk : Nat)
    (v : Int) (ηk : Int) (τk : Nat) (kv : Value) (y3 tk3 : Nat),
  let o := rSt B G a b xs te er N hf hx heq h0 hf' ext p y tk n hs
  let l := dRows fSt y a b (tob ⟨xs⟩ te) (lob ⟨xs⟩ er) (rob 0 (Int.ofNat N)) (dob [] 0) ++ [⟨309, 400, y + 730, obA (objA o 400)⟩]
  let o3 := goBk B G o .next (dRows id y a b (tob ⟨xs⟩ te) (lob ⟨xs⟩ er) (rob v 0) (wdO two ηk τk kv) ++ ([row 309 (y + 730) (obA (objA o 400))] ++ ext)) y3 tk3 n3 hs3 []
  let l3 := [row 300 (a + 730) (tob ⟨xs⟩ te), row 301 (b + 730) (lob ⟨xs⟩ er)]
  (op o Js l, pk o3 Js l3) = (opTo o (cD B1 G y) Js l ext, pkTo o3 o3.cf.c .base (.pure (.done (.ret (.bool true)))) Js l3 ext)
end
/-- below _law_asked and _law_same: from the loop or from the last comprehension -/
def actL (tg : Expr) (it : Value) (b o : List Stmt) (e : Env) (p1 : Pos) (f : List Stmt) (g : Env) (p2 p3 : Pos) : List (Code × Pos) := (.forLoop tg it b o e, p1) :: actF f g p2 p3
def actC (el : Expr) (gs : List Comprehension) (sc : Scope) (cp : Pos) (d : Nat) (it acc : Value) (e : Env) (p1 : Pos) (f : List Stmt) (g : Env) (p2 p3 : Pos) : List (Code × Pos) := (.compLoop (.ListComp el gs sc cp) d it acc e, p1) :: actF f g p2 p3
def QAL (kt : Params → KT) (E : Gx → Prop) : Prop := ∀ P b c l tg it bd oe en p1 f g p2 p3, E (Gof kt P b c l (actL tg it bd oe en p1 f g p2 p3))
def QAC (kt : Params → KT) (E : Gx → Prop) : Prop := ∀ P b c l el gs sc cp d it acc en p1 f g p2 p3, E (Gof kt P b c l (actC el gs sc cp d it acc en p1 f g p2 p3))
def QSL (kt : Params → KT) (E : Gx → Prop) : Prop := ∀ P b c l f0 g0 p0 tg it bd oe en p1 f g p2 p3, E (Gof kt P b c l ((.func f0 g0, p0) :: actL tg it bd oe en p1 f g p2 p3))
def QSC (kt : Params → KT) (E : Gx → Prop) : Prop := ∀ P b c l f0 g0 p0 el gs sc cp d it acc en p1 f g p2 p3, E (Gof kt P b c l ((.func f0 g0, p0) :: actC el gs sc cp d it acc en p1 f g p2 p3))
/-- whatever lies below -/
def QX (kt : Params → KT) (E : Gx → Prop) : Prop := ∀ P b c l acts, E (Gof kt P b c l acts)
/-- whatever lies below, the world's word on comprehensions told -/
def QW (c : Bool) (kt : Params → KT) (E : Gx → Prop) : Prop := ∀ P b l acts, E (Gof kt P b c l acts)
end Mine
end

section
open PySem PySem.Spec PySem.Calls PyProof.Rows PySem.W PySem.W.X
namespace Mine
section
variable {prog : Program} {w : World} {A : Around} {s : Shared}
def sliceO (t u : Tok) : Obj := { cls := .type "slice", data := .fields #[.int 1 t, .int 61 u, .none] }
theorem pick61 (items : Array Value) : slicePick items (some 1) (some 61) none = ⟨(items.toList.drop 1).take 60⟩ := by
  rw [slicePick_plain]
  simp only [Option.elim]
  have h1 : clipAt items.size 1 = min 1 items.size := clipAt_nat items.size 1
  have h2 : clipAt items.size 61 = min 61 items.size := clipAt_nat items.size 61
  rw [h1, h2]
  have e : items.size = items.toList.length := by simp
  rw [e]
  congr 1
  generalize items.toList = l
  by_cases h : l.length ≤ 1
  · rw [List.drop_of_length_le (l := l) h, List.take_nil, List.drop_of_length_le (by omega), List.take_nil]
  · have q : min 1 l.length = 1 := by omega
    rw [q]
    by_cases h' : l.length ≤ 61
    · have q' : min 61 l.length = l.length := by omega
      rw [q', List.take_of_length_le (by rw [List.length_drop]; omega), List.take_of_length_le (by rw [List.length_drop]; omega)]
    · have q' : min 61 l.length = 61 := by omega
      rw [q']
theorem meets_slice {l sl : Addr} {xs : Array Value} {e : Nat} {t u : Tok} (hsz : xs.size ≤ sizeLine) :
    MeetsIn prog w (Builtin.«list.__getitem__» ⟨[.ref l, .ref sl], []⟩) (fun _ R s => (s.heap.get? l = some (lob xs e) ∧ s.heap.get? sl = some (sliceO t u)) ∧ R (.ok (.ret (.ref s.heap.objs.size))) { s with heap := s.heap.push (lob ⟨(xs.toList.drop 1).take 60⟩ 0) }) :=
  .of_wp fun A R s ⟨⟨hl, hs⟩, h⟩ => by
    have hT : s.TypeIs (.ref sl) "slice" := ⟨_, hs, rfl⟩
    show wpAny _ _ (Builtin.List.listSubscript? (.ref sl) >>= _) _ _ s
    refine wpAny_bind ?_
    unfold Builtin.List.listSubscript?
    refine wpAny_bind (wpAny_specialOf hT slice_no_index ?_)
    simp only [Option.isNone_none, if_true]
    refine wpAny_pure ?_
    show wpAny _ _ (typeOf (.ref sl) >>= _) _ _ s
    refine wpAny_bind (wpAny_typeOf hT ?_)
    rw [if_neg (by decide)]
    rw [listSliceParts_eq]
    refine wpAny_bind (wpAny_bind (wpAny_field hs rfl (x := .none) rfl (wpAny_bind (wpAny_listPart .none ?_))))
    rw [if_neg (by decide)]
    refine wpAny_bind (wpAny_field hs rfl (x := .int 1 t) rfl (wpAny_bind (wpAny_listPart (.int 1 t) ?_)))
    refine wpAny_bind (wpAny_field hs rfl (x := .int 61 u) rfl (wpAny_bind (wpAny_listPart (.int 61 u) (wpAny_pure ?_))))
    refine wpAny_bind (m := Builtin.List.listItems (.ref l)) ?_
    unfold Builtin.List.listItems
    refine wpAny_bind (wpAny_seqItems hl rfl (wpAny_pure ?_))
    refine wpAny_bind (wpAny_of_eq (sliceIndices_raw (some 1) (some 61) none xs.size (by simp)) ?_)
    have z : R (.ok (.ret (.ref s.heap.objs.size))) { s with heap := s.heap.push { cls := .type "list", data := .seq (slicePick xs (some 1) (some 61) none) } } := by
      rw [pick61]; exact h
    exact wpAny_bind (wpAny_newObj_type (wpAny_pure ⟨_, rfl, z⟩) (Nat.le_trans (slicePick_size_le xs (some 1) (some 61) none) hsz))
end
/-- xs[1:61] -/
noncomputable def jSlice (B : Bx) (idx a : Nat) (xs : Array Value) (e : Nat) (is : Nat) (hs : xs.size ≤ sizeLine) : Jm B where
  f c T m sz tk := match T.get is with
    | none => none
    | some x => match x with
      | (sl, o) => match o.data with
        | .fields vs => some ⟨.ref sz, T.put m sz (lob ⟨(xs.toList.drop 1).take 60⟩ 0), m + 1, sz + 1, tk, [obT T idx a (lob xs e), obO o (sliceO (tokV (valN vs.toList 0)) (tokV (valN vs.toList 1))), obC c (.call (.builtin "list.__getitem__") ⟨[.ref a, .ref sl], []⟩), obB (Nat.blt (m % 1024) 1000) true]⟩
        | _ => none
  ok c T m sz tk r hr ho A R h hh hu D H := by
    split at hr
    · cases hr
    · rename_i x e'
      obtain ⟨sl, o⟩ := x
      dsimp only at hr
      split at hr
      · rename_i vs hx
        cases hr
        have h1 : T.get idx = some (a, lob xs e) := ho (obT T idx a (lob xs e)) List.mem_cons_self
        have h2 : o = _ := ho (obO o _) (List.mem_cons_of_mem _ List.mem_cons_self)
        have h3 : c = _ := ho (obC c _) (List.mem_cons_of_mem _ (List.mem_cons_of_mem _ List.mem_cons_self))
        have h4 : Nat.blt (m % 1024) 1000 = true := ho (obB _ _) (List.mem_cons_of_mem _ (List.mem_cons_of_mem _ (List.mem_cons_of_mem _ List.mem_cons_self)))
        rw [h3]
        have hg := D.at h1
        have hg' := D.at e'
        rw [h2] at hg'
        refine .of_any <| code_meets F.slot_list_getitem (typeIs_of B hg rfl) F.entry_list_getitem (F.args_list_getitem_2 _ _) (meets_slice hs) ⟨⟨hg, hg'⟩, ?_⟩
        have := H _ (D.alloc (o := lob ⟨(xs.toList.drop 1).take 60⟩ 0) rfl m (Nat.le_of_ble_eq_true h4))
        rw [← D.size] at this
        exact this
      · cases hr
end Mine
end

section
open PySem PySem.Spec PySem.Calls PyProof.Rows PySem.W PySem.W.X
namespace Mine
/-- the seven handed things and their lengths -/
structure HP7 (B : Bx) where
  es0 : List DictEntry
  es2 : List DictEntry
  es4 : List DictEntry
  es5 : List DictEntry
  e0 : Nat
  e2 : Nat
  e4 : Nat
  e5 : Nat
  k0 : List (Str × Value)
  k2 : List (Str × Value)
  k4 : List (Str × Value)
  k5 : List (Str × Value)
  d0 : DK B es0 k0
  d2 : DK B es2 k2
  d4 : DK B es4 k4
  d5 : DK B es5 k5
  x1 : Array Value
  x3 : Array Value
  x6 : Array Value
  e1 : Nat
  e3 : Nat
  e6 : Nat
  n0 : Int
  n1 : Int
  n2 : Int
  n3 : Int
  n4 : Int
  n5 : Int
  n6 : Int
  h0 : (k0.length : Int) = n0
  h1 : (x1.size : Int) = n1
  h2 : (k2.length : Int) = n2
  h3 : (x3.size : Int) = n3
  h4 : (k4.length : Int) = n4
  h5 : (k5.length : Int) = n5
  h6 : (x6.size : Int) = n6
  f0 : n0 < 2 ^ 63
  f1 : n1 < 2 ^ 63
  f2 : n2 < 2 ^ 63
  f3 : n3 < 2 ^ 63
  f4 : n4 < 2 ^ 63
  f5 : n5 < 2 ^ 63
  f6 : n6 < 2 ^ 63
  s0 : ((670 : Nat) == sysModules) = false
  s2 : ((673 : Nat) == sysModules) = false
  s4 : ((676 : Nat) == sysModules) = false
  s5 : ((677 : Nat) == sysModules) = false
/-- the seven things themselves -/
def HP7.cc {B : Bx} (H : HP7 B) (j : Nat) : Obj := match j with
  | 0 => dobS H.es0 H.e0 #[]
  | 1 => lob H.x1 H.e1
  | 2 => dobS H.es2 H.e2 #[]
  | 3 => lob H.x3 H.e3
  | 4 => dobS H.es4 H.e4 #[]
  | 5 => dobS H.es5 H.e5 #[]
  | _ => lob H.x6 H.e6
noncomputable def js7 (B : Bx) (H : HP7 B) : List (Hn B) :=
  [.jump (jLenD B 141 670 H.es0 H.e0 H.k0 H.d0 H.s0 _ H.h0 H.f0), .jump (jLenL B 143 672 H.x1 H.e1 _ H.h1 H.f1), .jump (jLenD B 144 673 H.es2 H.e2 H.k2 H.d2 H.s2 _ H.h2 H.f2), .jump (jLenL B 146 675 H.x3 H.e3 _ H.h3 H.f3),
   .jump (jLenD B 147 676 H.es4 H.e4 H.k4 H.d4 H.s4 _ H.h4 H.f4), .jump (jLenD B 148 677 H.es5 H.e5 H.k5 H.d5 H.s5 _ H.h5 H.f5), .jump (jLenL B 150 679 H.x6 H.e6 _ H.h6 H.f6)]
def befE (η : Int) (τ a : Nat) : DictEntry := ⟨η, .str ⟨⟨[98, 101, 102, 111, 114, 101]⟩⟩ τ, .ref (a + 730)⟩
def ints7 {B : Bx} (H : HP7 B) (θ : Nat → Nat) : Array Value := #[.int H.n0 (θ 0), .int H.n1 (θ 1), .int H.n2 (θ 2), .int H.n3 (θ 3), .int H.n4 (θ 4), .int H.n5 (θ 5), .int H.n6 (θ 6)]
/-- before == [..]: the same numbers -/
noncomputable def jEq7 (B : Bx) (H : HP7 B) (ia ib : Nat) : Jm B where
  f c T m sz tk := match T.get ia with
    | none => none
    | some x => match x with
      | (a, o) => match T.get ib with
        | none => none
        | some x' => match x' with
          | (b, o') => some ⟨.bool true, T, m, sz, tk, [obO o (lob (ints7 H fun j => tokV (valN (elemsOf o) j)) (epochOf o)), obO o' (lob (ints7 H fun j => tokV (valN (elemsOf o') j)) (epochOf o')), obC c (.call (.builtin "list.__eq__") ⟨[.ref a, .ref b], []⟩)]⟩
  ok c T m sz tk r hr ho A R h hh hu D Hk := by
    split at hr
    · cases hr
    · rename_i x e
      obtain ⟨a, o⟩ := x
      dsimp only at hr
      split at hr
      · cases hr
      · rename_i x' e'
        obtain ⟨b, o'⟩ := x'
        dsimp only at hr
        cases hr
        have h1 : o = _ := ho (obO o _) List.mem_cons_self
        have h2 : o' = _ := ho (obO o' _) (List.mem_cons_of_mem _ List.mem_cons_self)
        have h3 : c = _ := ho (obC c _) (List.mem_cons_of_mem _ (List.mem_cons_of_mem _ List.mem_cons_self))
        rw [h3]
        have hg := D.at e
        have hg' := D.at e'
        generalize (fun j => tokV (valN (elemsOf o) j)) = θ at h1
        generalize (fun j => tokV (valN (elemsOf o') j)) = θ' at h2
        generalize epochOf o = ep at h1
        generalize epochOf o' = ep' at h2
        rw [h1] at hg
        rw [h2] at hg'
        refine .of_any <| code_meets F.slot_list_eq (typeIs_of B hg rfl) F.entry_list_eq (F.args_list_eq_2 _ _) (Meets.inModel (PySem.SeqAt.list_eqAt a b (ints7 H θ) (ints7 H θ') ep ep' none none #[] #[] rfl (fun _ => true)) _ _) ⟨hg, hg', ?_, ?_⟩
        · intro j h1 h2
          have : ∀ (n : Int) (t u : Tok), PySem.SeqAt.EqAt A.in1 (B.shr h tk) (.int n t) (.int n u) true := fun n t u => by
            have := PySem.SeqAt.EqAt.int_int (A := A.in1) (s := B.shr h tk) n t n u
            simpa using this
          have h1' : j < 7 := h1
          match j, h1' with
          | 0, _ => exact this _ _ _
          | 1, _ => exact this _ _ _
          | 2, _ => exact this _ _ _
          | 3, _ => exact this _ _ _
          | 4, _ => exact this _ _ _
          | 5, _ => exact this _ _ _
          | 6, _ => exact this _ _ _
        · have : ((List.range (ints7 H θ).size).all fun _ => true) = true := by simp
          rw [this]
          exact Hk h D
/-- the row of the loop's iterator taken from another place -/
def from257 (r : Row) : Row := match Nat.beq r.new 200 with
  | true => ⟨r.new, 257, r.a, r.o⟩
  | false => r
/-- all but the loop's iterator -/
def preL (D : Dt) : List Row := (rowsB D).filter fun r => !(Nat.beq r.new 200)
def Jo : List Nat := [310, 311, 312, 313, 314, 315, 316, 317, 318, 319, 320, 321, 322, 323]
section
variable (G : Gx)
noncomputable def rL (B : Bx) (D : Dt) (N : Nat) (hn : (D.deeds.size : Int) = Int.ofNat N) (hf : Int.ofNat N < 2 ^ 63) (h0 : 0 ≤ Int.ofNat N) (hf' : Int.ofNat N < 2 ^ 62) (p : Pos) (tk n hs : Nat) : Out :=
  run B G true n (cF B G) .base (restOf (cF B G) 13) p (rowT (preL D)) 256 728 (tk + 1046) hs [.jump (jLenL B 1000 D.dA D.deeds D.dE _ hn hf), .jump (jRange B (Int.ofNat N)), .jump (jRIter B 256 _ h0 hf')] []
/-- into the loop, and on in the law -/
def EvL (n hs n2 hs2 : Nat) : Prop := ∀ (B B1 : Bx) (D : Dt) (N : Nat) (hn : (D.deeds.size : Int) = Int.ofNat N) (hf : Int.ofNat N < 2 ^ 63) (h0 : 0 ≤ Int.ofNat N) (hf' : Int.ofNat N < 2 ^ 62) (p : Pos) (tk : Nat) (B2 : Bx) (D2 : Dt) (ext : List Row) (y2 tk2 : Nat),
  let o := rL G B D N hn hf h0 hf' p tk n hs
  let l := (rowsB { D with v := 0, left := Int.ofNat N }).map from257
  let o2 := goBk B2 G o .next (rowsB D2 ++ ext) y2 tk2 n2 hs2 []
  (op o [] l, o.cf.c, o.cf.κ, pk o2 Jall (rowsB D2)) = (opTo o (cL B1 G) [] l [], cF B G, Kn.base, pkTo o2 (cF B2 G) .base (restOf (cF B2 G) 14) Jall (rowsB D2) ext)
/-- out of the loop -/
def EvL2 (n hs : Nat) : Prop := ∀ (B : Bx) (D : Dt) (ext : List Row) (v : Int) (p : Pos) (y tk : Nat),
  let l := rowsB { D with v := v, left := Int.ofNat 0 }
  let o := run B G false n (cL B G) .base (dQ (cL B G)) p (rowT (l ++ ext)) 400 (y + 730) (tk + 1046) hs [] []
  pk o Jall l = pkTo o o.cf.c .base (.pure (.done .next)) Jall l ext
/-- the lengths before -/
def EvB (tl : List DictEntry) (nl old k n hs : Nat) : Prop := ∀ (B : Bx) (D : Dt) (ext : List Row) (H : HP7 B) (τ : Nat → Nat) (η : Nat → Int) (v0 v1 v2 v3 v4 v5 v6 v7 : Value) (p : Pos) (y tk : Nat),
  let o := run B G false n (cF B G) .base (restOf (cF B G) 14) p (rowT (rowsB { D with c := H.cc, lt := ltM τ η v0 v1 v2 v3 v4 v5 v6 v7 tl } ++ ext)) 400 (y + 730) (tk + 1046) hs (js7 B H) []
  let w := objA o 0
  let x := elemsOf (obA (objA o old))
  let l := rowsB { D with c := H.cc, lt := ltM τ η v0 v1 v2 v3 v4 v5 v6 v7 (tl ++ [befE (khA w nl) (ktA w nl) (y + k)]), fE := epA w } ++ [⟨325, old, y + k + 730, lob (ints7 H fun j => tokV (valN x j)) (epA (objA o old))⟩]
  pk o Jo l = pkTo o (cF B G) .base (restOf (cF B G) 15) Jo l ext
/-! the last comprehension -/
/-- a small state -/
def DM : Dt := ⟨fun _ _ => 0, fun _ _ => 0, .none, 727, #[.int 0 1000], 0, [], 0, fun _ => lob #[] 0, fun _ => [], fun _ => 0, fun _ => #[], fun _ => .none, 0, fun _ => .none, 0, 0, 1⟩
noncomputable def rW (B : Bx) (D : Dt) (ext : List Row) (ba : Nat) (bx : Obj) (p : Pos) (y tk n hs : Nat) : Out :=
  run B G false n (cF B G) .base (restOf (cF B G) 15) p (rowT (rowsB D ++ (row 325 (ba + 730) bx :: ext))) 400 (y + 730) (tk + 1046) hs [] []
end
noncomputable def cW0 (B : Bx) (G : Gx) (y : Nat) : Code := callC (rW G.bare B DM [] 0 (lob #[] 0) default y 0 40 600712820439437205187848488191482925621994104236802048).cf.t
def elOf (e : Expr) : Expr := match e with
  | .ListComp a _ _ _ => a
  | _ => default
def gsOf (e : Expr) : List Comprehension := match e with
  | .ListComp _ g _ _ => g
  | _ => []
def scOf (e : Expr) : Scope := match e with
  | .ListComp _ _ s _ => s
  | _ => default
def cpOf (e : Expr) : Pos := match e with
  | .ListComp _ _ _ p => p
  | _ => default
noncomputable def eW (B : Bx) (G : Gx) (y : Nat) : Expr := .ListComp (elOf (eOf (cW0 B G y))) (gsOf (eOf (cW0 B G y))) (scOf (eOf (cW0 B G y))) (cpOf (eOf (cW0 B G y)))
/-- the last comprehension -/
noncomputable def cW (B : Bx) (G : Gx) (y : Nat) : Code := .compStart (eW B G y) 0 (.ref (y + 731)) (.ref (y + 732)) (envOf (cW0 B G y))
noncomputable def cWL (B : Bx) (G : Gx) (y : Nat) : Code := .compLoop (eW B G y) 0 (.ref (y + 731)) (.ref (y + 732)) (envOf (cW0 B G y))
def slotEs (η : Int) (τ : Nat) (v : Value) : List DictEntry := [⟨η, .str ⟨⟨[115, 108, 111, 116]⟩⟩ τ, v⟩]
def wsO (two : Bool) (η : Int) (τ : Nat) (v : Value) : Obj := match two with
  | false => dob [] 0
  | true => dob (slotEs η τ v) 1
/-- its rows -/
def wRows (w ba : Nat) (bx : Obj) (v left : Int) (wd : Obj) : List Row := [row 325 (ba + 730) bx, row 331 (w + 731) (rob v left), row 332 (w + 732) (lob #[] 0), row 333 (w + 733) wd]
def wrongE (η : Int) (τ w : Nat) : DictEntry := ⟨η, .str ⟨⟨[119, 114, 111, 110, 103]⟩⟩ τ, .ref (w + 732)⟩
section
variable (G : Gx)
def EvW2 (n hs : Nat) : Prop := ∀ (B : Bx) (D : Dt) (ext : List Row) (w ba : Nat) (bx : Obj) (v left : Int) (p : Pos) (y tk : Nat),
  let l := rowsB D ++ wRows w ba bx v left (dob [] 0)
  let o := run B G false n (cW B G w) .base (dQ (cW B G w)) p (rowT (l ++ ext)) 400 (y + 730) (tk + 1046) hs [] []
  pk o Jo l = pkTo o (cWL B G w) .base (dQ (cWL B G w)) Jo l ext
noncomputable def rWj (B : Bx) (D : Dt) (ext : List Row) (j w ba : Nat) (bx : Obj) (two : Bool) (η : Int) (τ : Nat) (v : Value) (p : Pos) (y tk n hs : Nat) : Out :=
  run B G false n (cWL B G w) .base (dQ (cWL B G w)) p (rowT ((rowsB D ++ wRows w ba bx j (7 - j) (wsO two η τ v)) ++ ext)) 400 (y + 730) (tk + 1046) hs [] []
/-- the j-th slot is asked -/
def EvW4 (j : Nat) (two : Bool) (n hs n2 hs2 : Nat) : Prop := ∀ (B : Bx) (D : Dt) (ext : List Row) (w ba : Nat) (bx : Obj) (η : Int) (τ : Nat) (v : Value) (p : Pos) (y tk : Nat) (B2 : Bx) (D2 : Dt) (ext2 : List Row) (wd : Obj) (v2 l2 : Int) (y2 tk2 : Nat),
  let o := rWj G B D ext j w ba bx two η τ v p y tk n hs
  let z := objA o 333
  let l := rowsB D ++ wRows w ba bx (j + 1) (6 - j) (dob (slotEs (khA z 0) (ktA z 0) (.int j (vtA z 0 - 1 + 1))) 1)
  let l2 := rowsB D2 ++ wRows w ba bx v2 l2 wd
  let o2 := goBk B2 G o (.ret (.bool true)) (l2 ++ ext2) y2 tk2 n2 hs2 []
  (op o Jo l, o.cf.c, o.cf.κ, pk o2 Jo l2) = (opTo o (cAsk j (vtA z 0 - 1)) Jo l ext, cWL B G w, Kn.base, pkTo o2 (cWL B2 G w) .base (dQ (cWL B2 G w)) Jo l2 ext2)
/-- out of the last comprehension -/
def EvW6 (n hs : Nat) : Prop := ∀ (B : Bx) (D : Dt) (ext : List Row) (w ba : Nat) (bx : Obj) (η : Int) (τ : Nat) (v : Value) (p : Pos) (y tk : Nat),
  let l := rowsB D ++ wRows w ba bx 7 0 (wsO true η τ v)
  let o := run B G false n (cWL B G w) .base (dQ (cWL B G w)) p (rowT (l ++ ext)) 400 (y + 730) (tk + 1046) hs [] []
  pk o Jo l = pkTo o o.cf.c .base (.pure (.done .next)) Jo l ext
/-- to the last comprehension, and on in the law -/
def EvW7 (tl2 : List DictEntry) (nl n hs n2 hs2 : Nat) : Prop := ∀ (B B1 : Bx) (D : Dt) (ext : List Row) (τ : Nat → Nat) (η : Nat → Int) (v0 v1 v2 v3 v4 v5 v6 v7 : Value) (tl : List DictEntry) (ba : Nat) (bx : Obj) (p : Pos) (y tk : Nat)
    (B2 : Bx) (D2 : Dt) (ext2 : List Row) (τ2 : Nat → Nat) (η2 : Nat → Int) (z0 z1 z2 z3 z4 z5 z6 z7 : Value) (ηs : Int) (τs : Nat) (vs : Value) (y2 tk2 : Nat),
  let D1 := { D with lt := ltM τ η v0 v1 v2 v3 v4 v5 v6 v7 tl }
  let o := rW G B D1 ext ba bx p y tk n hs
  let l := rowsB D1 ++ [row 325 (ba + 730) bx, ⟨331, 401, y + 731, rob 0 7⟩, ⟨332, 402, y + 732, lob #[] 0⟩, ⟨333, 403, y + 733, dob [] 0⟩]
  let D3 := { D2 with lt := ltM τ2 η2 z0 z1 z2 z3 z4 z5 z6 z7 tl2 }
  let o2 := goBk B2 G o .next ((rowsB D3 ++ wRows y ba bx 7 0 (wsO true ηs τs vs)) ++ ext2) y2 tk2 n2 hs2 []
  let x := objA o2 0
  let l2 := rowsB { D2 with lt := ltM τ2 η2 z0 z1 z2 z3 z4 z5 z6 z7 (tl2 ++ [wrongE (khA x nl) (ktA x nl) y]), fE := epA x } ++ [row 325 (ba + 730) bx, row 332 (y + 732) (lob #[] 0)]
  (op o Jo l, o.cf.c, o.cf.κ, pk o2 Jo l2) = (opTo o (cW B1 G y) Jo l ext, cF B G, Kn.base, pkTo o2 (cF B2 G) .base (restOf (cF B2 G) 16) Jo l2 ext2)
/-- the last return -/
def EvFin (tl : List DictEntry) (li n hs : Nat) : Prop := ∀ (B : Bx) (D : Dt) (ext : List Row) (H : HP7 B) (τ : Nat → Nat) (η : Nat → Int) (v0 v1 v2 v3 v4 v5 v6 v7 : Value) (w ba : Nat) (ηb ηw : Int) (τb τw : Nat) (θ : Nat → Nat) (be : Nat) (p : Pos) (y tk : Nat),
  let o := run B G false n (cF B G) .base (restOf (cF B G) 16) p (rowT ((rowsB { D with c := H.cc, lt := ltM τ η v0 v1 v2 v3 v4 v5 v6 v7 (tl ++ [befE ηb τb ba, wrongE ηw τw w]) } ++ [row 325 (ba + 730) (lob (ints7 H θ) be), row 332 (w + 732) (lob #[] 0)]) ++ ext)) 400 (y + 730) (tk + 1046) hs (js7 B H ++ [.jump (jEq7 B H 325 li)]) []
  pk o [] [] = pkTo o o.cf.c .base (.pure (.done (.ret (.bool true)))) [] [] []
end
end Mine
namespace Mine
/-- below the law's body -/
def QK (kt : Params → KT) (E : Gx → Prop) : Prop := ∀ P b c l p3, E (Gof kt P b c l [(claimC, p3)])
def QKW (c : Bool) (kt : Params → KT) (E : Gx → Prop) : Prop := ∀ P b l p3, E (Gof kt P b c l [(claimC, p3)])
/-- below the loop, or the last comprehension -/
def QF (kt : Params → KT) (E : Gx → Prop) : Prop := ∀ P b c l f g p2 p3, E (Gof kt P b c l (actF f g p2 p3))
end Mine
end

section
open PySem PySem.Spec PySem.Calls PyProof.Rows PySem.W PySem.W.X
namespace Mine
/-- the frame of law in the beginning -/
def beg (τ : Nat → Nat) (η : Nat → Int) (first : Value) (tl : List DictEntry) : List DictEntry :=
  ⟨η 0, .str ⟨⟨[115, 99, 114, 105, 112, 116]⟩⟩ (τ 0), .ref 528⟩ :: ⟨η 1, .str ⟨⟨[102, 105, 114, 115, 116]⟩⟩ (τ 1), first⟩ :: tl
def cellO : Obj := { cls := .type "cell", data := .cell none }
def begR (τ : Nat → Nat) (η : Nat → Int) (first : Value) (e : Nat) : List Row :=
  [row 0 529 (fob (beg τ η first []) e), row 1 530 cellO, row 2 531 cellO, row 3 532 cellO, row 4 533 cellO, row 5 534 cellO]
/-- the lists of the beginning -/
def begL (τ : Nat → Nat) (η : Nat → Int) : List DictEntry :=
  [⟨η 2, .str ⟨⟨[102, 97, 99, 101, 115]⟩⟩ (τ 2), .ref 545⟩,
   ⟨η 3, .str ⟨⟨[109, 101, 109, 98, 101, 114, 115]⟩⟩ (τ 3), .ref 578⟩,
   ⟨η 4, .str ⟨⟨[102, 105, 101, 108, 100, 115]⟩⟩ (τ 4), .ref 611⟩,
   ⟨η 5, .str ⟨⟨[101, 110, 116, 114, 105, 101, 115]⟩⟩ (τ 5), .ref 635⟩,
   ⟨η 6, .str ⟨⟨[118, 97, 108, 117, 101, 115]⟩⟩ (τ 6), .ref 653⟩]
def listsR (tail : List Row) : List Row :=
  row 16 545 (lob #[.ref 549, .ref 558, .ref 567] 3) :: row 49 578 (lob #[.ref 582, .ref 591, .ref 600] 3) :: row 82 611 (lob #[.ref 614, .ref 620, .ref 626] 3) :: row 106 635 (lob #[.ref 638, .ref 642, .ref 646] 3) :: row 124 653 (lob #[.ref 656, .ref 660, .ref 664] 3) :: tail
def begP (τ : Nat → Nat) (η : Nat → Int) : List DictEntry := begL τ η ++ [⟨η 7, .str ⟨⟨[112, 111, 111, 108, 115]⟩⟩ (τ 7), .ref 669⟩]
/-- the dicts and lists that are handed out -/
def dictO (k : Nat) (h : Int) (t v : Nat) : Obj := dobS [⟨h, .str ⟨⟨[k]⟩⟩ t, .ref v⟩] 1 #[]
def faceN (r : Nat) : List Value := match r with
  | 0 => []
  | 1 => [.ref 549]
  | _ => [.ref 549, .ref 558]
def valN' (r : Nat) : Nat := match r with
  | 0 => 656
  | 1 => 660
  | _ => 664
/-- the seven things in the beginning -/
def c0 (τ : Nat → Nat → Nat) (η : Nat → Nat → Int) (ε : Nat → Nat) (r : Nat) (j : Nat) : Obj := match j with
  | 0 => dictO 97 (η 141 0) (τ 141 0) 614
  | 1 => lob ⟨faceN r⟩ (ε 143)
  | 2 => dictO 97 (η 144 0) (τ 144 0) 620
  | 3 => lob #[.ref 549] (ε 146)
  | 4 => dictO 97 (η 147 0) (τ 147 0) 638
  | 5 => dictO 88 (η 148 0) (τ 148 0) (valN' r)
  | _ => lob #[.ref 582, .ref 591] (ε 150)
def handR (c : Nat → Obj) (tail : List Row) : List Row :=
  row 140 669 (lob #[.ref 611, .ref 545, .ref 611, .ref 545, .ref 635, .ref 653, .ref 578] 0) :: row 141 670 (c 0) :: row 143 672 (c 1) :: row 144 673 (c 2) :: row 146 675 (c 3) ::
  row 147 676 (c 4) :: row 148 677 (c 5) :: row 150 679 (c 6) :: row 151 680 (lob #[.ref 670, .ref 672, .ref 673, .ref 675, .ref 676, .ref 677, .ref 679] 0) :: tail
noncomputable def τO (o : Out) (i j : Nat) : Nat := match Nat.beq j 100 with
  | true => vtA (objA o i) 0
  | false => ktA (objA o i) j
noncomputable def ηO (o : Out) (i j : Nat) : Int := khA (objA o i) j
/-- ends at written addresses -/
noncomputable def pkS (o : Out) (sz : Nat) (l : List Row) : Pk := ⟨rowsOkB [] l, lefts o.obs, o.cf.c, o.cf.κ, o.cf.t, Nat.beq o.cf.sz sz, Nat.ble 1046 o.cf.tk, l.map fun r => o.cf.T.get r.old, []⟩
noncomputable def pkSTo (o : Out) (c : Code) (t : Sem PySem.Fin) (l : List Row) : Pk := ⟨true, rights o.obs, c, .base, t, true, true, l.map fun r => some (r.a, r.o), []⟩
/-- the hash of a key as the world says it -/
def hP (P : Params) (v : Value) : Int := match v with
  | .str s _ => match s.cps.isEmpty with
    | true => 0
    | false => reduceHash (P.strHash s.cps)
  | _ => 0
section
variable (G : Gx)
/-- to the law's call -/
def EvI0 (n hs : Nat) : Prop := ∀ (B : Bx) (tk : Nat),
  let o := run B G true n claimC .base tree0 default .nil 256 529 (tk + 1046) hs [] []
  (lefts o.obs, isC o.cf.t, callC o.cf.t, lenOk o.cf.κ 60, o.cf.T, Nat.beq o.cf.sz 529, Nat.ble 1046 o.cf.tk, o.cf.c, o.cf.κ) = (rights o.obs, true, lawC, true, OT.nil, true, true, claimC, Kn.base)
/-- and from it -/
def EvI9 (n hs n2 hs2 : Nat) : Prop := ∀ (B : Bx) (tk : Nat) (T : OT) (m sz tk2 : Nat),
  let o := run B G true n claimC .base tree0 default .nil 256 529 (tk + 1046) hs [] []
  let o2 := run B G true n2 o.cf.c o.cf.κ (kOf o.cf.t (.ok (.ret (.bool true)))) o.cf.p T m sz tk2 hs2 [] []
  (lefts o2.obs, o2.cf.κ, o2.cf.t, o2.cf.T, o2.cf.sz) = (rights o2.obs, Kn.base, Sem.pure (PySem.Fin.done (.ret (.bool true))), T, sz)
/-- statement 0: no script -/
def EvI1 (n hs : Nat) : Prop := ∀ (B : Bx) (p : Pos) (tk : Nat),
  let o := run B G true n lawC .base (dQ lawC) p .nil 256 529 (tk + 1046) hs [] []
  let x := objA o 0
  let l := begR (fun j => ktA x j) (fun j => khA x j) (.int 0 (vtA x 1 - 1 + 1)) (epA x)
  pkS o 535 l = pkSTo o (cF B G) (restOf (cF B G) 1) l
/-- statement 0: a script -/
def EvI1' (n hs : Nat) : Prop := ∀ (B : Bx) (l : List Value) (f : Int) (t : Nat) (m : Nat) (hn : ((⟨.int f (t + 1) :: l⟩ : Array Value).size : Int) = Int.ofNat (Nat.succ m)) (hf : Int.ofNat (Nat.succ m) < 2 ^ 63) (hx : (⟨.int f (t + 1) :: l⟩ : Array Value)[(0 : Int).toNat]? = some (.int f (t + 1))) (p : Pos) (tk : Nat),
  let a : Array Value := ⟨.int f (t + 1) :: l⟩
  let o := run B G true n lawC .base (dQ lawC) p (rowT [row 1000 528 (lob a 0)]) 256 529 (tk + 1046) hs [.jump (jLenB B 1000 528 a 0 _ hn hf), .jump (jGet B 1000 528 a 0 0 (.int f (t + 1)) (by decide) (by decide) hx)] []
  let x := objA o 0
  let l := begR (fun j => ktA x j) (fun j => khA x j) (.int f (t + 1)) (epA x)
  pkS o 535 l = pkSTo o (cF B G) (restOf (cF B G) 1) l
/-- the statements 1 to 6 -/
def EvI2 (n hs : Nat) : Prop := ∀ (B : Bx) (τ : Nat → Nat) (η : Nat → Int) (f : Int) (t e : Nat) (p : Pos) (tk : Nat),
  let o := run B G true n (cF B G) .base (restOf (cF B G) 1) p (rowT (begR τ η (.int f (t + 1)) e)) 256 535 (tk + 1046) hs [] []
  let x := objA o 0
  let l := row 0 529 (fob (beg (fun j => ktA x j) (fun j => khA x j) (.int f (t + 1)) (begL (fun j => ktA x j) (fun j => khA x j))) (epA x)) :: row 2 531 cellO :: row 3 532 cellO :: row 4 533 cellO :: row 5 534 cellO :: listsR []
  pkS o 669 l = pkSTo o (cF B G) (restOf (cF B G) 7) l
/-- the statements 7 and 8 -/
def EvI3 (r : Nat) (n hs : Nat) : Prop := ∀ (B : Bx) (τ : Nat → Nat) (η : Nat → Int) (f : Int) (t e : Nat) (hr : Int.fmod f 3 = (r : Int)) (p : Pos) (tk : Nat),
  let o := run B G true n (cF B G) .base (restOf (cF B G) 7) p (rowT (row 0 529 (fob (beg τ η (.int f (t + 1)) (begL τ η)) e) :: row 2 531 cellO :: row 3 532 cellO :: row 4 533 cellO :: row 5 534 cellO :: listsR [])) 256 669 (tk + 1046) hs [.int _ _ hr, .int _ _ hr] []
  let x := objA o 0
  let l := row 0 529 (fob (beg (fun j => ktA x j) (fun j => khA x j) (.int f (t + 1)) (begP (fun j => ktA x j) (fun j => khA x j))) (epA x)) :: row 2 531 (cellS 680) :: row 3 532 cellO :: row 4 533 cellO :: row 5 534 cellO :: listsR (handR (c0 (τO o) (ηO o) (fun i => epA (objA o i)) r) [])
  (pkS o 681 l, [ηO o 141 0, ηO o 144 0, ηO o 147 0, ηO o 148 0]) = (pkSTo o (cF B G) (restOf (cF B G) 9) l, [hP G.P (.str ⟨⟨[97]⟩⟩ 0), hP G.P (.str ⟨⟨[97]⟩⟩ 0), hP G.P (.str ⟨⟨[97]⟩⟩ 0), hP G.P (.str ⟨⟨[88]⟩⟩ 0)])
def instR (τ' : Nat → Nat → Nat) (η' : Nat → Nat → Int) (ε : Nat → Nat) : List Row :=
  [row 152 681 (dobS (instEs0 τ' η') (ε 152) #[]), row 153 682 { cls := .ref 289, dict := some 681 }, row 160 689 (dobS (instEs1 τ' η') (ε 160) #[]), row 161 690 { cls := .ref 340, dict := some 689 },
    row 168 697 (dobS (instEs2 τ' η') (ε 168) #[]), row 169 698 { cls := .ref 470, dict := some 697 }, row 176 705 (dobS (instEs3 τ' η') (ε 176) #[]), row 177 706 { cls := .ref 415, dict := some 705 },
    row 184 713 (dobS (instEs4 τ' η') (ε 184) #[]), row 185 714 { cls := .ref 374, dict := some 713 }, row 192 721 (lob #[.ref 682, .ref 690, .ref 698, .ref 706, .ref 714] 0),
    row 194 723 (lob #[.none, .none, .none, .none, .none, .none, .none] (ε 194)), row 196 725 (lob #[.none, .none, .none, .none, .none, .none, .none] (ε 196))]
/-- the statements 9 to 11: the handed containers stand still -/
def EvI4 (n hs : Nat) : Prop := ∀ (B : Bx) (τ : Nat → Nat) (η : Nat → Int) (f : Int) (t e : Nat) (c : Nat → Obj) (p : Pos) (tk : Nat),
  let o := run B G true n (cF B G) .base (restOf (cF B G) 9) p (rowT (row 0 529 (fob (beg τ η (.int f (t + 1)) (begP τ η)) e) :: row 2 531 (cellS 680) :: row 3 532 cellO :: row 4 533 cellO :: row 5 534 cellO :: listsR (handR c []))) 256 681 (tk + 1046) hs [] []
  let x := objA o 0
  let l := row 0 529 (fob (beg (fun j => ktA x j) (fun j => khA x j) (.int f (t + 1)) (begP (fun j => ktA x j) (fun j => khA x j))) (epA x)) :: row 2 531 (cellS 680) :: row 3 532 (cellS 721) :: row 4 533 (cellS 723) :: row 5 534 (cellS 725) :: listsR (handR c (instR (τO o) (ηO o) (fun i => epA (objA o i))))
  (pkS o 726 l, (instEs0 (τO o) (ηO o)).map (·.hash), (instEs1 (τO o) (ηO o)).map (·.hash), (instEs2 (τO o) (ηO o)).map (·.hash), (instEs3 (τO o) (ηO o)).map (·.hash), (instEs4 (τO o) (ηO o)).map (·.hash)) =
    (pkSTo o (cF B G) (restOf (cF B G) 12) l, (instEs0 (τO o) (ηO o)).map (fun e => hP G.P e.key), (instEs1 (τO o) (ηO o)).map (fun e => hP G.P e.key), (instEs2 (τO o) (ηO o)).map (fun e => hP G.P e.key), (instEs3 (τO o) (ηO o)).map (fun e => hP G.P e.key), (instEs4 (τO o) (ηO o)).map (fun e => hP G.P e.key))
/-- the data before the loop -/
def preD (τ : Nat → Nat) (η : Nat → Int) (first : Value) (τ' : Nat → Nat → Nat) (η' : Nat → Nat → Int) (ε : Nat → Nat) (c : Nat → Obj) (fE dA : Nat) (deeds : Array Value) (dE : Nat) : Dt where
  τ i j := match Nat.beq i 0 with
    | true => τ j
    | false => τ' i j
  η i j := match Nat.beq i 0 with
    | true => η j
    | false => η' i j
  first := first
  dA := dA
  deeds := deeds
  dE := dE
  lt := []
  fE := fE
  c := c
  u _ := []
  e i := match i with
    | 0 => ε 152 | 1 => ε 160 | 2 => ε 168 | 3 => ε 176 | _ => ε 184
  s _ := #[]
  sn _ := .none
  snE := ε 194
  kp _ := .none
  kpE := ε 196
  v := 0
  left := 0
noncomputable def preR (τ : Nat → Nat) (η : Nat → Int) (first : Value) (e : Nat) (τ' : Nat → Nat → Nat) (η' : Nat → Nat → Int) (ε : Nat → Nat) (c : Nat → Obj) : List Row :=
  row 0 529 (fob (beg τ η first (begP τ η)) e) :: row 2 531 (cellS 680) :: row 3 532 (cellS 721) :: row 4 533 (cellS 723) :: row 5 534 (cellS 725) :: listsR (handR c (instR τ' η' ε))
/-- all but the loop's iterator and the deeds -/
def preL0 (D : Dt) : List Row := (rowsB D).filter fun r => !(Nat.beq r.new 200) && !(Nat.beq r.new 1000)
/-- the deeds out of the script -/
def EvI5 (n hs : Nat) : Prop := ∀ (B B2 : Bx) (xs : Array Value) (se : Nat) (hz : xs.size ≤ sizeLine) (m : Nat) (hn : ((⟨(xs.toList.drop 1).take 60⟩ : Array Value).size : Int) = Int.ofNat (Nat.succ m)) (hf : Int.ofNat (Nat.succ m) < 2 ^ 63) (τ : Nat → Nat) (η : Nat → Int) (first : Value) (e : Nat) (τ' : Nat → Nat → Nat) (η' : Nat → Nat → Int) (ε : Nat → Nat) (c : Nat → Obj) (p : Pos) (tk : Nat),
  let o := run B G true n (cF B G) .base (restOf (cF B G) 12) p (rowT (row 1001 528 (lob xs se) :: preR τ η first e τ' η' ε c)) 256 726 (tk + 1046) hs [.jump (jSlice B 1001 528 xs se 197 hz), .jump (jLenB B 256 727 ⟨(xs.toList.drop 1).take 60⟩ 0 _ hn hf)] []
  let x := objA o 0
  let D := preD (fun j => ktA x j) (fun j => khA x j) first τ' η' ε c (epA x) 727 ⟨(xs.toList.drop 1).take 60⟩ 0
  let l := preL0 D ++ [⟨198, 256, 727, lob ⟨(xs.toList.drop 1).take 60⟩ 0⟩]
  pkS o 728 l = pkSTo o (cF B2 G) (restOf (cF B2 G) 13) l
/-- the law's own deeds -/
def EvI6 (n hs : Nat) : Prop := ∀ (B : Bx) (xs : Array Value) (se : Nat) (hz : xs.size ≤ sizeLine) (hn : ((⟨(xs.toList.drop 1).take 60⟩ : Array Value).size : Int) = Int.ofNat 0) (hf : Int.ofNat 0 < 2 ^ 63) (τ : Nat → Nat) (η : Nat → Int) (first : Value) (e : Nat) (τ' : Nat → Nat → Nat) (η' : Nat → Nat → Int) (ε : Nat → Nat) (c : Nat → Obj) (p : Pos) (tk : Nat),
  let o := run B G true n (cF B G) .base (restOf (cF B G) 12) p (rowT (row 1001 528 (lob xs se) :: preR τ η first e τ' η' ε c)) 256 726 (tk + 1046) hs [.jump (jSlice B 1001 528 xs se 197 hz), .jump (jLenB B 256 727 ⟨(xs.toList.drop 1).take 60⟩ 0 _ hn hf)] []
  let x := objA o 0
  let D := preD (fun j => ktA x j) (fun j => khA x j) first τ' η' ε c (epA x) 496 #[] 0
  let l := preL0 D
  pkS o 728 l = pkSTo o (cF B G) (restOf (cF B G) 13) l
end
end Mine
namespace Mine
def Q0 (kt : Params → KT) (n hs : Nat) : Prop := ∀ P b c l, EvI0 (Gof kt P b c l []) n hs
def Q9 (kt : Params → KT) (n hs n2 hs2 : Nat) : Prop := ∀ P b c l, EvI9 (Gof kt P b c l []) n hs n2 hs2
def Q1 (kt : Params → KT) (n hs : Nat) : Prop := ∀ P b c p3, EvI1 (Gof kt P b c [] [(claimC, p3)]) n hs
end Mine
end

section
open PySem PySem.Spec PySem.Calls PyProof.Rows PySem.W PySem.W.X
namespace Mine
section
variable {B : Bx} {G : Gx} {R₀ : Result → Shared → Prop} {n₀ : Nat}
theorem MnC.anyM {c : Code} {κ : Kn} {t : Sem PySem.Fin} {p : Pos} {T : OT} {m sz tk : Nat} (m' : Nat) (H : MnC B R₀ ⟨c, κ, t, p, T, m', sz, tk⟩) : MnC B R₀ ⟨c, κ, t, p, T, m, sz, tk⟩ := H
/-- the head of the loop -/
def AtHead (B : Bx) (G : Gx) (R₀ : Result → Shared → Prop) (D : Dt) (ext : List Row) : Prop := ∀ p y m tk, MnC B R₀ ⟨cL B G, .base, dQ (cL B G), p, rowT (rowsB D ++ ext), m, y + 730, tk + 1046⟩
/-- the door of _law_asked -/
def AtAsk (B : Bx) (R₀ : Result → Shared → Prop) (D : Dt) (i : Nat) (ext : List Row) : Prop := ∀ p t y m tk, MnC B R₀ ⟨cAsk i t, .base, dQ (cAsk i t), p, rowT (rowsB D ++ ext), m, y + 730, tk + 1046⟩
/-- its end -/
def AskEnd (B : Bx) (R₀ : Result → Shared → Prop) (D : Dt) (ext : List Row) : Prop := ∀ c p y m tk, MnC B R₀ ⟨c, .base, .pure (.done (.ret (.bool true))), p, rowT (rowsB D ++ ext), m, y + 730, tk + 1046⟩
variable {i : Nat} {lt tl : List DictEntry}
theorem stW0m (O : B.Ok (n₀ + 1)) (F : G.Fits B) {kn n hs : Nat} (h : EvW0m G i lt tl kn n hs) (D : Dt) (ext : List Row) (E : ExtOk Jall ext) (r : Nat) (k number more q pick : Int) (nt : Nat) (Hy : Hy1 k number 0 more i q pick D.deeds nt)
    (x : Nat) (ks kk : Str) (es : List DictEntry) (e : Nat) (kvs : List (Str × Value)) (HP : HyP i pick x) (HN : HyN k 107 ks kk) (dk : DK B es kvs) (hk : kk ∉ kvs.map (·.1)) (hz : es.length ≤ sizeLine) (hi : (slotA i - 529) % 1024 < 1000)
    (H : ∀ tt w, AtHead B G R₀ (nextD (setC D i (dobS (es ++ [⟨(SK B).hash kk, .str kk tt, .ref x⟩]) (e + 1) #[])) i tl k number 0 more pick r w) ext) :
    AtHead B G R₀ (headD (setC D i (dobS es e #[])) lt k r) ext := fun p y m tk =>
  .anyM 400 (seg_to O F false n _ _ _ p _ 400 _ _ hs _ _ _ _ Jall _ ext (h B D ext r k number more q pick nt Hy x ks kk es e kvs HP HN dk hk hz hi p y tk) E (H _ _))
theorem stW0l (O : B.Ok (n₀ + 1)) (F : G.Fits B) {n hs : Nat} (h : EvW0l G i lt tl n hs) (D : Dt) (ext : List Row) (E : ExtOk Jall ext) (r : Nat) (k number more q pick : Int) (nt : Nat) (Hy : Hy1 k number 0 more i q pick D.deeds nt)
    (x : Nat) (xs : Array Value) (e : Nat) (HP : HyP i pick x) (hz : xs.size ≤ sizeLine) (hi : (slotA i - 529) % 1024 < 1000)
    (H : ∀ w, AtHead B G R₀ (nextD (setC D i (lob (xs.push (.ref x)) (e + 1))) i tl k number 0 more pick r w) ext) :
    AtHead B G R₀ (headD (setC D i (lob xs e)) lt k r) ext := fun p y m tk =>
  .anyM 400 (seg_to O F false n _ _ _ p _ 400 _ _ hs _ _ _ _ Jall _ ext (h B D ext r k number more q pick nt Hy x xs e HP hz hi p y tk) E (H _))
theorem stW1l (O : B.Ok (n₀ + 1)) (F : G.Fits B) {n hs : Nat} (h : EvW1l G i lt tl n hs) (D : Dt) (ext : List Row) (E : ExtOk Jall ext) (r : Nat) (k number more q pick : Int) (nt : Nat) (Hy : Hy1 k number 1 more i q pick D.deeds nt)
    (x : Nat) (xs : List Value) (e : Nat) (hf : Int.ofNat (Nat.succ xs.length) < 2 ^ 63) (hz : xs.length + 1 ≤ sizeLine) (hi : (slotA i - 529) % 1024 < 1000)
    (H : ∀ w, AtHead B G R₀ (nextD (setC D i (lob ⟨xs⟩ (e + 1))) i tl k number 1 more pick r w) ext) :
    AtHead B G R₀ (headD (setC D i (lob ⟨.ref x :: xs⟩ e)) lt k r) ext := fun p y m tk =>
  .anyM 400 (seg_to O F false n _ _ _ p _ 400 _ _ hs _ _ _ _ Jall _ ext (h B D ext r k number more q pick nt Hy x xs e xs.length rfl hf hz hi p y tk) E (H _))
theorem stW1m (O : B.Ok (n₀ + 1)) (F : G.Fits B) {n hs n2 hs2 : Nat} (h : EvW1m G i lt tl n hs n2 hs2) (D : Dt) (ext : List Row) (E : ExtOk Jall ext) (r : Nat) (k number more q pick : Int) (nt : Nat) (Hy : Hy1 k number 1 more i q pick D.deeds nt)
    (x : DictEntry) (es : List DictEntry) (e : Nat) (k0 : Str) (v0 : Nat) (kvs : List (Str × Value)) (dk : DK B (x :: es) ((k0, .ref v0) :: kvs)) (hs0 : (slotA i == sysModules) = false) (hf : Int.ofNat (Nat.succ kvs.length) < 2 ^ 63) (hz : es.length + 1 ≤ sizeLine) (hz' : kvs.length + 1 ≤ sizeLine) (hi : (slotA i - 529) % 1024 < 1000)
    (H : ∀ w, AtHead B G R₀ (nextD (setC D i (dobS es (e + 1) #[])) i tl k number 1 more pick r w) ext) :
    AtHead B G R₀ (headD (setC D i (dobS (x :: es) e #[])) lt k r) ext := fun p y m tk =>
  .anyM 400 (open_to O F false n _ _ _ p _ 400 _ _ hs _ (congrArg Prod.fst (h B D ext r k number more q pick nt Hy x es e k0 v0 kvs dk hs0 kvs.length rfl hf hz hi p y tk 0 [] 0 0 0 0 rfl)) fun OA hT =>
    oListD dk hs0 hz' OA (hT _ List.mem_cons_self) (i := 450) (by decide) fun xs e' hl hx a y' tk' => by
      match xs, hl, hx with
      | w :: ks, _, hx =>
        obtain ⟨k', x', t0, e1, rfl⟩ := hx 0 w rfl
        cases e1
        exact seg_to O F false n2 _ _ _ _ _ 451 _ _ hs2 _ _ _ _ Jall _ ext (congrArg Prod.snd (h B D ext r k number more q pick nt Hy x es e k0 v0 kvs dk hs0 kvs.length rfl hf hz hi p y tk t0 ks e' a y' tk' rfl)) E (H _))
end
end Mine
end

section
open PySem PySem.Spec PySem.Calls PyProof.Rows PySem.W PySem.W.X
namespace Mine
/-- what a row is in the trie -/
def strip (r : Row) : Nat × Nat × Obj := (r.new, r.a, r.o)
theorem rowT_strip : ∀ (X Y : List Row) (T : List Row), X.map strip = Y.map strip → rowT (X ++ T) = rowT (Y ++ T)
  | [], [], _, _ => rfl
  | [], _ :: _, _, h => by cases h
  | _ :: _, [], _, h => by cases h
  | x :: X, y :: Y, T, h => by
    simp only [List.map_cons, List.cons.injEq, strip, Prod.mk.injEq] at h
    show (rowT (X ++ T)).put x.new x.a x.o = (rowT (Y ++ T)).put y.new y.a y.o
    rw [h.1.1, h.1.2.1, h.1.2.2, rowT_strip X Y T h.2]
theorem rowT_mid : ∀ (A X Y T : List Row), X.map strip = Y.map strip → rowT ((A ++ X) ++ T) = rowT ((A ++ Y) ++ T)
  | [], X, Y, T, h => rowT_strip X Y T h
  | a :: A, X, Y, T, h => by
    show (rowT ((A ++ X) ++ T)).put a.new a.a a.o = (rowT ((A ++ Y) ++ T)).put a.new a.a a.o
    rw [rowT_mid A X Y T h]
section
variable {B : Bx} {G : Gx} {R₀ : Result → Shared → Prop} {n₀ : Nat} {i : Nat} {lt tl : List DictEntry}
theorem MnC.mid {c : Code} {κ : Kn} {t : Sem PySem.Fin} {p : Pos} {m sz tk : Nat} (A X Y T : List Row) (h : X.map strip = Y.map strip) (H : MnC B R₀ ⟨c, κ, t, p, rowT ((A ++ Y) ++ T), m, sz, tk⟩) : MnC B R₀ ⟨c, κ, t, p, rowT ((A ++ X) ++ T), m, sz, tk⟩ := by
  rw [rowT_mid A X Y T h]; exact H
/-- at its own place -/
def norm (r : Row) : Row := row r.new r.a r.o
theorem strip_norm : ∀ X : List Row, X.map strip = (X.map norm).map strip
  | [] => rfl
  | x :: X => by rw [List.map_cons, List.map_cons, List.map_cons, ← strip_norm X]; rfl
theorem MnC.norm {c : Code} {κ : Kn} {t : Sem PySem.Fin} {p : Pos} {m sz tk : Nat} (A X T : List Row) (H : MnC B R₀ ⟨c, κ, t, p, rowT ((A ++ X.map Mine.norm) ++ T), m, sz, tk⟩) : MnC B R₀ ⟨c, κ, t, p, rowT ((A ++ X) ++ T), m, sz, tk⟩ :=
  MnC.mid A X (X.map Mine.norm) T (strip_norm X) H
/-- a turn that asks -/
theorem stTA (O : B.Ok (n₀ + 1)) (F : G.Fits B) {way : Int} {md : Nat → Dt → Dt} {n hs n2 hs2 : Nat} (h : EvTA G i lt tl way md n hs n2 hs2) (D : Dt) (ext : List Row) (E : ExtOk Jall ext) (e r : Nat) (k number more q pick : Int) (nt : Nat) (Hy : Hy1 k number way more i q pick D.deeds nt)
    (H : ∀ w p1 R₁, (∀ F' D2 ext2, ExtOk Jall ext2 → AtHead (B.add F') G R₀ D2 ext2 → AskEnd ((B.within (cL B G) p1).add F') R₁ D2 ext2) → (∀ D2 ext2, ExtOk Jall ext2 → AtHead B G R₀ D2 ext2 → AskEnd (B.within (cL B G) p1) R₁ D2 ext2) →
      AtAsk (B.within (cL B G) p1) R₁ (nextD (md e D) i tl k number way more pick r w) i ext) :
    AtHead B G R₀ (headD (md e D) lt k r) ext := fun p y m tk => by
  have z := fun B2 D2 ext2 y2 tk2 => h B D ext e r k number more q pick nt Hy p y tk B2 D2 ext2 y2 tk2
  have z0 := z B D ext 0 0
  simp only [Prod.mk.injEq] at z0
  obtain ⟨e1, e2, e3, _⟩ := z0
  have ho := (op_parts (B := B) _ _ _ _ _ e1 E).1
  refine .anyM 400 (run_to O F false n _ _ _ p _ 400 _ _ hs _ ho (call_at _ e1 E e2 e3 fun p1 R₁ KF K => ?_))
  refine fun p y m tk => H _ p1 R₁ (fun F' D2 ext2 E2 hH c p y2 m tk2 => KF F' _ _ 400 _ _ ?_ c p m) (fun D2 ext2 E2 hH c p y2 m tk2 => K _ _ 400 _ _ ?_ c p m) p _ y m tk
  · have z1 := z (B.add F') D2 ext2 y2 tk2
    simp only [Prod.mk.injEq] at z1
    exact seg_to (O.add F') (F.add F') false n2 _ _ _ _ _ 400 _ _ hs2 _ _ _ _ Jall _ ext2 z1.2.2.2 E2 hH
  · have z1 := z B D2 ext2 y2 tk2
    simp only [Prod.mk.injEq] at z1
    exact seg_to O F false n2 _ _ _ _ _ 400 _ _ hs2 _ _ _ _ Jall _ ext2 z1.2.2.2 E2 hH
/-- what was told is changed -/
theorem stW3 (O : B.Ok (n₀ + 1)) (F : G.Fits B) {two : Bool} {tn ti kn n hs : Nat} (h : EvW3 G i lt two tn ti kn n hs) (D : Dt) (ext : List Row) (E : ExtOk (Jx i) ext) (r : Nat) (k number more q pick : Int) (nt : Nat) (Hy : Hy1 k number 3 more i q pick D.deeds nt)
    (h' : Int) (t' v' : Nat) (hh : Int) (tt : Nat) (u : List DictEntry) (x : Nat) (ks kk : Str) (a b : Nat) (es : List DictEntry) (e : Nat) (kvs : List (Str × Value)) (HP : HyP i pick x) (HN : HyN k 119 ks kk) (dk : DK B es kvs) (hk : kk ∉ kvs.map (·.1)) (hz : es.length ≤ sizeLine) (h3 : pT i % 1024 < 1000) (h4 : pR i % 1024 < 1000)
    (xs : Array Value) (er : Nat) (hx : xs.size ≤ sizeLine)
    (B2 : Nat → Tok → Bx) (H : ∀ y tk' t2 η τ w p m (y' tk'' : Nat), MnC B R₀ ⟨cL (B2 y t2) G, .base, dQ (cL (B2 y t2) G), p, rowT ((rowsB (nextD { D with u := upd D.u (tj i) (uA i two h' t' v' hh tt a u), sn := upd D.sn i (.ref (b + 730)) } i [toldE η τ (.ref (a + 730))] k number 3 more pick r w) ++
      [row (pT i) (a + 730) (dobS (es ++ [⟨(SK B).hash kk, .str kk tk', .ref x⟩]) (e + 1) #[]), row (pR i) (b + 730) (lob (xs.push (.ref (y + 730 + tn))) (er + 1)), row 340 (y + 730 + tn) (tob #[.str kk t2, .ref x] 0)]) ++ ext), m, y' + 730, tk'' + 1046⟩) :
    ∀ p y m tk, MnC B R₀ ⟨cL B G, .base, dQ (cL B G), p, rowT (rowsB (headD { D with u := upd D.u (tj i) (uA i two h' t' v' hh tt a u), sn := upd D.sn i (.ref (b + 730)) } lt k r) ++ ([row (pT i) (a + 730) (dobS es e #[]), row (pR i) (b + 730) (lob xs er)] ++ ext)), m, y + 730, tk + 1046⟩ := fun p y m tk => by
  have z := fun B2 => h B B2 D ext r k number more q pick nt Hy h' t' v' hh tt u x ks kk a b es e kvs HP HN dk hk hz h3 h4 xs er hx p y tk
  generalize ho : runT B G { D with u := upd D.u (tj i) (uA i two h' t' v' hh tt a u), sn := upd D.sn i (.ref (b + 730)) } lt ([row (pT i) (a + 730) (dobS es e #[]), row (pR i) (b + 730) (lob xs er)] ++ ext) k r p y tk (js1 B D k number 3 more i q pick nt Hy ++
    [.jump (jGet B (poolA i - 529) (poolA i) (poolX i) 3 pick (.ref x) HP.h0 HP.hf HP.hx), .jump (jStr B k ks HN.hr HN.ha), .jump (jAdd B ⟨#[119]⟩ ks kk HN.hk rfl HN.h0 HN.hl), .jump (jDSet B (pT i) (a + 730) es e #[] kvs dk kk (.ref x) hk hz h3),
     .jump (jStr B k ks HN.hr HN.ha), .jump (jAdd B ⟨#[119]⟩ ks kk HN.hk rfl HN.h0 HN.hl), .jump (jGet B (poolA i - 529) (poolA i) (poolX i) 3 pick (.ref x) HP.h0 HP.hf HP.hx), .jump (jApp B (pR i) (b + 730) xs er (.ref (y + 730 + tn)) hx h4)]) n hs = o at z
  refine .anyM 400 (seg_to O F false n _ _ _ p _ 400 _ _ hs _ _ _ _ (Jx i) _ ext (by
    have z := z (B2 y (tokV (valN (elemsOf (obA (objA o ti))) 0)))
    rw [← ho] at z
    exact z) E fun p y' m tk' => ?_)
  refine MnC.norm _ _ _ ?_
  simp only [List.map_cons, List.map_nil, Mine.norm]
  exact H y _ _ _ _ _ p m y' tk'
/-! _law_asked -/
/-- the return of _law_asked -/
def AtRet (B : Bx) (G : Gx) (R₀ : Result → Shared → Prop) (D : Dt) (i fa a b : Nat) (told rows : Obj) (ext : List Row) : Prop :=
  ∀ τ η t e p y m tk, MnC B R₀ ⟨cA B G fa, .base, restOf (cA B G fa) 3, p, rowT (retL D i fa a b told rows (fO τ η i t a e) ++ ext), m, y + 730, tk + 1046⟩
variable {li : Nat} {u : List DictEntry} {sl : Array (Option Value)}
theorem stAm (O : B.Ok (n₀ + 1)) (F : G.Fits B) {n hs n2 hs2 n3 hs3 : Nat} (h : EvAm G i li u sl n hs n2 hs2 n3 hs3) (D : Dt) (ext : List Row) (E : ExtOk (Jx i) ext) (ces : List DictEntry) (ce e : Nat) (kvs : List (Str × Value)) (dk : DK B (instE i D.τ D.η ++ u) kvs) (hs0 : (thA i == sysModules) = false) (hv : (valueAt kvs (atS i)).getD (.ref 205) = .ref 205) (hk : atS i ∉ kvs.map (·.1)) (hz : (instE i D.τ D.η ++ u).length ≤ sizeLine) (hi : thI i % 1024 < 1000)
    (kvs0 : List (Str × Value)) (dk0 : DK B ces kvs0) (hS : (slotA i == sysModules) = false) (hz0 : kvs0.length ≤ sizeLine)
    (H : ∀ (F' : Nat → Obj → Prop) (as : List Nat) (er : Nat) (es' : List DictEntry) (e' a b tt fa : Nat), DK B es' kvs0 → as.length = kvs0.length →
      (∀ (j : Nat) (b : Nat), as[j]? = some b → ∃ (k : Str) (x : Value) (t : Tok), kvs0[j]? = some (k, x) ∧ F' b (tob #[.str k t, x] 0) ∧ 730 ≤ b) →
      AtRet (B.add F') G R₀ (askU B (setC D i (dobS ces ce #[])) i u tt a e) i fa a b (dobS es' e' #[]) (lob ⟨as.map .ref⟩ er) ext) :
    AtAsk B R₀ (preA D i u e sl (dobS ces ce #[])) i ext := fun p t y m tk => by
  have z := fun es' e' a y1 tk1 B2 rows b y2 tk2 => h B D ext t ces ce e kvs dk hs0 hv hk hz hi p y tk es' e' a y1 tk1 B2 rows b y2 tk2
  refine .anyM 400 (open_to O F false n _ _ _ p _ 400 _ _ hs _ (congrArg Prod.fst (z [] 0 0 0 0 B (lob #[] 0) 0 0 0)) fun OA hT => ?_)
  refine oDict dk0 hS hz0 OA (hT _ List.mem_cons_self) (i := 450) (by decide) fun es' e' dk' a y1 tk1 => ?_
  refine open_to O F false n2 _ _ _ _ _ 451 _ _ hs2 _ (congrArg (fun z => z.2.1) (z es' e' a y1 tk1 B (lob #[] 0) 0 0 0)) fun OB hT2 => ?_
  refine oItems dk0 hz0 OB (hT2 _ (List.mem_cons_of_mem _ List.mem_cons_self)) (hT2 _ List.mem_cons_self) (i := 460) (by decide) fun F' as er hl hF b y2 tk2 => ?_
  refine seg_to (O.add F') (F.add F') false n3 _ _ _ _ _ 461 _ _ hs3 _ _ _ _ (Jx i) _ ext (congrArg (fun z => z.2.2) (z es' e' a y1 tk1 (B.add F') (lob ⟨as.map .ref⟩ er) b y2 tk2)) E fun p y' m tk' => ?_
  refine MnC.norm _ _ _ ?_
  simp only [List.map_cons, List.map_nil, Mine.norm]
  exact H F' as er es' e' a b _ y dk' hl hF _ _ t _ p y' m tk'
end
end Mine
end

section
open PySem PySem.Spec PySem.Calls PyProof.Rows PySem.W PySem.W.X
namespace Mine
section
variable {B : Bx} {G : Gx} {R₀ : Result → Shared → Prop} {n₀ : Nat} {i : Nat} {li : Nat} {u : List DictEntry} {sl : Array (Option Value)}
theorem stAl (O : B.Ok (n₀ + 1)) (F : G.Fits B) {n hs n2 hs2 n3 hs3 : Nat} (h : EvAl G i li u sl n hs n2 hs2 n3 hs3) (D : Dt) (ext : List Row) (E : ExtOk (Jx i) ext) (x : Value) (xs : List Value) (ce e : Nat) (hf : Int.ofNat (Nat.succ xs.length) < 2 ^ 63) (kvs : List (Str × Value)) (dk : DK B (instE i D.τ D.η ++ u) kvs) (hs0 : (thA i == sysModules) = false) (hv : (valueAt kvs (atS i)).getD (.ref 205) = .ref 205) (hk : atS i ∉ kvs.map (·.1)) (hz : (instE i D.τ D.η ++ u).length ≤ sizeLine) (hi : thI i % 1024 < 1000)
    (hz0 : xs.length + 1 ≤ sizeLine)
    (H : ∀ (er a b tt fa : Nat), AtRet B G R₀ (askU B (setC D i (lob ⟨x :: xs⟩ ce)) i u tt a e) i fa a b (tob ⟨x :: xs⟩ 0) (lob ⟨x :: xs⟩ er) ext) :
    AtAsk B R₀ (preA D i u e sl (lob ⟨x :: xs⟩ ce)) i ext := fun p t y m tk => by
  have z := fun a y1 tk1 er b y2 tk2 => h B D ext t x xs ce e xs.length rfl hf kvs dk hs0 hv hk hz hi p y tk a y1 tk1 er b y2 tk2
  refine .anyM 400 (open_to O F false n _ _ _ p _ 400 _ _ hs _ (congrArg Prod.fst (z 0 0 0 0 0 0 0)) fun OA hT => ?_)
  refine oTuple (xs := ⟨x :: xs⟩) hz0 OA (hT _ List.mem_cons_self) (hT _ (List.mem_cons_of_mem _ List.mem_cons_self)) (i := 450) (by decide) fun a y1 tk1 => ?_
  refine open_to O F false n2 _ _ _ _ _ 451 _ _ hs2 _ (congrArg (fun z => z.2.1) (z a y1 tk1 0 0 0 0)) fun OB hT2 => ?_
  refine oListL (xs := ⟨x :: xs⟩) hz0 OB (hT2 _ List.mem_cons_self) (i := 460) (by decide) fun er b y2 tk2 => ?_
  refine seg_to O F false n3 _ _ _ _ _ 461 _ _ hs3 _ _ _ _ (Jx i) _ ext (congrArg (fun z => z.2.2) (z a y1 tk1 er b y2 tk2)) E fun p y' m tk' => ?_
  refine MnC.norm _ _ _ ?_
  simp only [List.map_cons, List.map_nil, Mine.norm]
  exact H er a b _ y _ _ t _ p y' m tk'
theorem stAe (O : B.Ok (n₀ + 1)) (F : G.Fits B) {k old n hs n3 hs3 : Nat} (h : EvAe G i li u sl k old n hs n3 hs3) (D : Dt) (ext : List Row) (E : ExtOk (Jx i) ext) (ce e : Nat) (kvs : List (Str × Value)) (dk : DK B (instE i D.τ D.η ++ u) kvs) (hs0 : (thA i == sysModules) = false) (hv : (valueAt kvs (atS i)).getD (.ref 205) = .ref 205) (hk : atS i ∉ kvs.map (·.1)) (hz : (instE i D.τ D.η ++ u).length ≤ sizeLine) (hi : thI i % 1024 < 1000)
    (H : ∀ (er a b tt fa : Nat), AtRet B G R₀ (askU B (setC D i (lob #[] ce)) i u tt a e) i fa a b (tob #[] 0) (lob #[] er) ext) :
    AtAsk B R₀ (preA D i u e sl (lob #[] ce)) i ext := fun p t y m tk => by
  have z := fun er b y2 tk2 => h B D ext t ce e kvs dk hs0 hv hk hz hi p y tk er b y2 tk2
  refine .anyM 400 (open_to O F false n _ _ _ p _ 400 _ _ hs _ (congrArg Prod.fst (z 0 0 0 0)) fun OA hT => ?_)
  refine oListL (xs := #[]) (Nat.zero_le _) OA (hT _ List.mem_cons_self) (i := 460) (by decide) fun er b y2 tk2 => ?_
  refine seg_to O F false n3 _ _ _ _ _ 461 _ _ hs3 _ _ _ _ (Jx i) _ ext (congrArg Prod.snd (z er b y2 tk2)) E fun p y' m tk' => ?_
  refine MnC.norm _ _ _ ?_
  simp only [List.map_cons, List.map_nil, Mine.norm]
  exact H er (y + k) b _ y _ _ t _ p y' m tk'
theorem stAg (O : B.Ok (n₀ + 1)) (F : G.Fits B) {two : Bool} {n hs : Nat} (h : EvAg G i li two n hs) (D : Dt) (ext : List Row) (E : ExtOk (Jx i) ext) (h' : Int) (t' v' : Nat) (hh : Int) (tt a : Nat) (u : List DictEntry) (b : Nat) (told rows : Obj)
    (H : ∀ fa, AtRet B G R₀ { D with u := upd D.u (tj i) (uA i two h' t' v' hh tt a u) } i fa a b told rows ext) :
    AtAsk B R₀ { D with u := upd D.u (tj i) (uA i two h' t' v' hh tt a u), sn := upd D.sn i (.ref (b + 730)), kp := upd D.kp i (.ref (a + 730)) } i (ownR i a b told rows ++ ext) := fun p t y m tk => by
  refine .anyM 400 (seg_to O F false n _ _ _ p _ 400 _ _ hs _ _ _ _ (Jx i) _ ext (h B D ext t h' t' v' hh tt a u b told rows p y tk) E fun p y' m tk' => ?_)
  refine MnC.norm _ _ _ ?_
  exact H y _ _ t _ p y' m tk'
/-- the door of _law_same, and its end -/
def AtSame (B : Bx) (R₀ : Result → Shared → Prop) (a b : Nat) (m : Bool) (told rows : Obj) (ext : List Row) : Prop := ∀ p y n tk, MnC B R₀ ⟨cSame a b m, .base, dQ (cSame a b m), p, rowT ([row 300 (a + 730) told, row 301 (b + 730) rows] ++ ext), n, y + 730, tk + 1046⟩
def SameEnd (B : Bx) (R₀ : Result → Shared → Prop) (a b : Nat) (told rows : Obj) (ext : List Row) : Prop := ∀ c p y n tk, MnC B R₀ ⟨c, .base, .pure (.done (.ret (.bool true))), p, rowT ([row 300 (a + 730) told, row 301 (b + 730) rows] ++ ext), n, y + 730, tk + 1046⟩
/-- what lies beside in _law_same -/
noncomputable def extS (D : Dt) (i a b fa : Nat) (fo : Obj) (ext : List Row) : List Row := (rowsB (retD D i a b) ++ [row 210 (fa + 730) fo]) ++ ext
/-- from the return to the end of _law_asked -/
theorem stRet (O : B.Ok (n₀ + 1)) (F : G.Fits B) {n1 hs1 n hs n2 hs2 : Nat} (hcut : EvCut G) (hc : EvC G i n1 hs1) (h : EvR G i n hs n2 hs2) (D : Dt) (ext : List Row) (E : ExtOk (Jx i) ext) (ces : List DictEntry) (ce : Nat) (cxs : Array Value) (es : List DictEntry) (ep : Nat) (xs : Array Value) (rows : Obj) (fa a b : Nat)
    (HS : ∀ fo p1 R₁, (SameEnd (B.within (cA B G fa) p1) R₁ a b (toldO (isMap i) es ep xs) rows (extS (setC D i (handO (isMap i) ces ce cxs)) i a b fa fo ext)) → AtSame (B.within (cA B G fa) p1) R₁ a b (isMap i) (toldO (isMap i) es ep xs) rows (extS (setC D i (handO (isMap i) ces ce cxs)) i a b fa fo ext))
    (H : AskEnd B R₀ (retD (setC D i (handO (isMap i) ces ce cxs)) i a b) (ownR i a b (toldO (isMap i) es ep xs) rows ++ ext)) :
    AtRet B G R₀ (setC D i (handO (isMap i) ces ce cxs)) i fa a b (toldO (isMap i) es ep xs) rows ext := fun τ η t e p y m tk => by
  refine mnc_cut (hcut B fa) ?_
  refine .anyM 400 (seg_to O F false n1 _ _ _ _ _ 400 _ _ hs1 _ _ _ _ (Jx i) _ ext (hc B _ ext τ η t e fa a b _ rows y tk) E fun p y m tk => ?_)
  refine mnc_is fun p => ?_
  have z := fun y2 tk2 => h B D ces ce cxs ext τ η t e fa a b es ep xs rows p y tk y2 tk2
  have z0 := z 0 0
  simp only [Prod.mk.injEq] at z0
  obtain ⟨e1, e2, e3, _⟩ := z0
  have ho := (op_parts (B := B) _ _ _ _ _ e1 E).1
  refine .anyM 400 (run_to O F false n _ _ _ p _ 400 _ _ hs _ ho (call_at _ e1 E e2 e3 fun p1 R₁ _ K => ?_))
  refine HS (fO τ η i t a e) p1 R₁ fun c p2 y2 m2 tk2 => K _ _ 400 _ _ ?_ c p2 m2
  have z1 := z y2 tk2
  simp only [Prod.mk.injEq] at z1
  refine seg_to O F false n2 _ _ _ _ _ 400 _ _ hs2 _ _ _ _ (Jx i) _ ext z1.2.2.2 E fun p y m tk => ?_
  refine MnC.norm _ _ _ ?_
  simp only [List.map_cons, List.map_nil, Mine.norm, List.append_assoc]
  exact H _ p y m tk
end
end Mine
end

section
open PySem PySem.Spec PySem.Calls PyProof.Rows PySem.W PySem.W.X
namespace Mine
/-- the same with other activations below -/
def Gx.on (G : Gx) (acts : List (Code × Pos)) : Gx := { G with acts := acts }
def poolAll : List Nat := [614, 620, 626, 638, 642, 646, 656, 660, 664]
def poolTup : List Nat := [549, 558, 567, 582, 591, 600]
section
variable {B : Bx} {G : Gx} {R₀ : Result → Shared → Prop} {n₀ : Nat}
/-- a call of one's own, where it does not matter from where -/
theorem call_any (O : B.Ok (n₀ + 1)) (F : G.Fits B) (o : Out) {code : Bx → Code} {J : List Nat} {l ext : List Row} (e : ∀ B1, op o J l = opTo o (code B1) J l ext) (E : ExtOk J ext)
    (H : ∀ (B1 : Bx) acts R₁, B1.Ok n₀ → (G.on acts).Fits B1 → (∀ a o, B.fz a o → B1.fz a o) → B1.prog = B.prog → B1.w = B.w →
      (∀ f T m sz tk, MnC B R₀ ⟨o.cf.c, o.cf.κ, kOf o.cf.t (.ok f), o.cf.p, T, m, sz, tk⟩ → ∀ c p m', MnC B1 R₁ ⟨c, .base, .pure (.done f), p, T, m', sz, tk⟩) →
      ∀ p y m tk, MnC B1 R₁ ⟨code B1, .base, dQ (code B1), p, rowT (l ++ ext), m, y + 730, tk + 1046⟩) : MnC B R₀ o.cf := by
  obtain ⟨z1, z2, z3, z4, z5⟩ := op_parts (B := B) o (code (B.at o.cf)) J l ext (e _) E
  obtain ⟨y, ey⟩ : ∃ y, o.cf.sz = y + 730 := ⟨o.cf.sz - 730, (Nat.sub_add_cancel (Nat.le_of_ble_eq_true z2.sz)).symm⟩
  obtain ⟨k, ek⟩ : ∃ k, o.cf.tk = k + 1046 := ⟨o.cf.tk - 1046, (Nat.sub_add_cancel (Nat.le_of_ble_eq_true z2.tk)).symm⟩
  have H := H (B.at o.cf) _ (Ret B R₀ o.cf) (O.at z3) (F.at o.cf) (fun _ _ h => h) rfl rfl (fun f T m sz tk h c p m' => MnC.back h) o.cf.p y o.cf.m k
  refine mnc_enter o.cf z2.call fun h D => ?_
  have D' := z5 h ⟨D.1, D.2, D.3, D.4, D.5⟩
  have H := H h (by
    have := D'
    rw [ey] at this
    exact ⟨this.1, this.2, this.3, this.4, this.5⟩)
  rw [z2.code]
  show Mn _ _ _ _ _ _ _ (Bx.shr _ h o.cf.tk)
  rw [ek]
  exact H
/-- what stands still may be read -/
theorem MnC.note {c : Code} {κ : Kn} {t : Sem PySem.Fin} {p : Pos} {m sz tk : Nat} (j a : Nat) (o : Obj) (l : List Row) (hj : ¬ j % 1024 < 1000) (hz : B.fz a o) (H : MnC B R₀ ⟨c, κ, t, p, rowT (row j a o :: l), m, sz, tk⟩) : MnC B R₀ ⟨c, κ, t, p, rowT l, m, sz, tk⟩ := fun h D => H h (Rp.note D hj hz)
theorem ExtOk.cons {J : List Nat} {ext : List Row} (E : ExtOk J ext) (j a : Nat) (o : Obj) (hj : j ∉ J) : ExtOk (j :: J) (row j a o :: ext) where
  mem r hr := by
    rcases List.mem_cons.mp hr with rfl | hr
    · exact ⟨rfl, List.mem_cons_self⟩
    · exact ⟨(E.mem r hr).1, List.mem_cons_of_mem _ (E.mem r hr).2⟩
  inc := List.Pairwise.cons (fun s hs z => hj (by rw [show j = s.old from z]; exact (E.mem s hs).2)) E.inc
/-- the comprehension over a mapping, from its head -/
theorem compM (O : B.Ok (n₀ + 1)) (F : G.Fits B) (h4 : ∀ x ∈ poolAll, ∀ two, ∃ n hs, EvSm4 G x two n hs) (h5 : ∀ two, ∃ n hs, EvSm5 G two n hs)
    (ext : List Row) (E : ExtOk Jc ext) (y y2 a b ka : Nat) (es : List DictEntry) (e : Nat) (kvs : List (Str × Value)) (dk : DK B es kvs) (xs : List Value) (er : Nat) (ks : List Value) (ke : Nat) (N : Nat) (hN : N < 2 ^ 62)
    (hk : ∀ j, j < N → ∃ (x : Nat) (k : Str) (t1 t2 ta : Nat), x ∈ poolAll ∧ ks[j]? = some (.str k t1) ∧ xs[j]? = some (.ref (ta + 730)) ∧ valueAt kvs k = some (.ref x) ∧ B.fz (ta + 730) (tob #[.str k t2, .ref x] 0))
    (H : ∀ (v : Int) ηk τk kv c p z m tk, MnC B R₀ ⟨c, .base, .pure (.done .next), p, rowT (cRows id y y2 a b ka (dobS es e #[]) (lob ⟨xs⟩ er) (lob ⟨ks⟩ ke) (rob v 0) (wdO (decide (N ≠ 0)) ηk τk kv) ++ ext), m, z + 730, tk + 1046⟩) :
    ∀ (left j : Nat), j + left = N → ∀ ηk τk kv p z m tk, MnC B R₀ ⟨cCL B G y y2, .base, dQ (cCL B G y y2), p, rowT (cRows id y y2 a b ka (dobS es e #[]) (lob ⟨xs⟩ er) (lob ⟨ks⟩ ke) (rob j (Int.ofNat left)) (wdO (decide (j ≠ 0)) ηk τk kv) ++ ext), m, z + 730, tk + 1046⟩
  | 0, j, hj, ηk, τk, kv, p, z, m, tk => by
    obtain rfl : j = N := hj
    obtain ⟨n, hs, h⟩ := h5 (decide (j ≠ 0))
    exact .anyM 500 (seg_to O F false n _ _ _ p _ 500 _ _ hs _ _ _ _ Jc _ ext (h B ext y y2 a b ka _ _ _ j ηk τk kv p z tk) E (H _ _ _ _ _))
  | left + 1, j, hj, ηk, τk, kv, p, z, m, tk => by
    obtain ⟨x, k, t1, t2, ta, hx, h1, h2, h3, hz⟩ := hk j (by omega)
    obtain ⟨n, hs, h⟩ := h4 x hx (decide (j ≠ 0))
    have hf : (j : Int) < 2 ^ 63 := by omega
    refine MnC.note 1001 (ta + 730) (tob #[.str k t2, .ref x] 0) _ (by decide) hz (.anyM 500 ?_)
    refine seg_to O F false n _ _ _ p _ 500 _ _ hs _ _ _ _ Jc _ ext (h B ext y y2 a b ka es e kvs dk xs er ks ke ⟨j, Int.natCast_nonneg j, hf, k, t1, t2, ta, by simpa using h1, by simpa using h2, h3, by simp⟩ left ηk τk kv p z tk) E fun p z m tk => ?_
    have e1 : Int.ofNat (Nat.succ left) - 1 = Int.ofNat left := by show ((left + 1 : Nat) : Int) - 1 = left; omega
    have e2 : decide (j + 1 ≠ 0) = true := by simp
    have ih := compM O F h4 h5 ext E y y2 a b ka es e kvs dk xs er ks ke N hN hk H left (j + 1) (by omega)
    rw [e2] at ih
    simp only [e1]
    exact ih _ _ _ p z m tk
theorem compT (O : B.Ok (n₀ + 1)) (F : G.Fits B) (h4 : ∀ x ∈ poolTup, ∀ two, ∃ n hs, EvSt4 G x two n hs) (h5 : ∀ two, ∃ n hs, EvSt5 G two n hs)
    (ext : List Row) (E : ExtOk Jc ext) (y a b : Nat) (xs : List Value) (te er : Nat) (N : Nat) (hN : N < 2 ^ 62)
    (hk : ∀ j, j < N → ∃ x : Nat, x ∈ poolTup ∧ xs[j]? = some (.ref x))
    (H : ∀ (v : Int) ηk τk kv c p z m tk, MnC B R₀ ⟨c, .base, .pure (.done .next), p, rowT (dRows id y a b (tob ⟨xs⟩ te) (lob ⟨xs⟩ er) (rob v 0) (wdO (decide (N ≠ 0)) ηk τk kv) ++ ext), m, z + 730, tk + 1046⟩) :
    ∀ (left j : Nat), j + left = N → ∀ ηk τk kv p z m tk, MnC B R₀ ⟨cDL B G y, .base, dQ (cDL B G y), p, rowT (dRows id y a b (tob ⟨xs⟩ te) (lob ⟨xs⟩ er) (rob j (Int.ofNat left)) (wdO (decide (j ≠ 0)) ηk τk kv) ++ ext), m, z + 730, tk + 1046⟩
  | 0, j, hj, ηk, τk, kv, p, z, m, tk => by
    obtain rfl : j = N := hj
    obtain ⟨n, hs, h⟩ := h5 (decide (j ≠ 0))
    exact .anyM 500 (seg_to O F false n _ _ _ p _ 500 _ _ hs _ _ _ _ Jc _ ext (h B ext y a b _ _ j ηk τk kv p z tk) E (H _ _ _ _ _))
  | left + 1, j, hj, ηk, τk, kv, p, z, m, tk => by
    obtain ⟨x, hx, h1⟩ := hk j (by omega)
    obtain ⟨n, hs, h⟩ := h4 x hx (decide (j ≠ 0))
    have hf : (j : Int) < 2 ^ 63 := by omega
    refine .anyM 500 (seg_to O F false n _ _ _ p _ 500 _ _ hs _ _ _ _ Jc _ ext (h B ext y a b xs te er j (Int.natCast_nonneg j) hf (by simpa using h1) left ηk τk kv p z tk) E fun p z m tk => ?_)
    have e1 : Int.ofNat (Nat.succ left) - 1 = Int.ofNat left := by show ((left + 1 : Nat) : Int) - 1 = left; omega
    have e2 : decide (j + 1 ≠ 0) = true := by simp
    have ih := compT O F h4 h5 ext E y a b xs te er N hN hk H left (j + 1) (by omega)
    rw [e2] at ih
    simp only [e1]
    exact ih _ _ _ p z m tk
end
end Mine
end

section
open PySem PySem.Spec PySem.Calls PyProof.Rows PySem.W PySem.W.X
namespace Mine
/-- the equations of _law_same, for one world -/
structure EvSame (G : Gx) : Prop where
  m1 : ∀ two, ∃ n hs n2 hs2 n3 hs3, EvSm G two n hs n2 hs2 n3 hs3
  m3 : ∃ n hs, ∀ acts, EvSm3 (G.on acts) n hs
  m4 : ∀ x ∈ poolAll, ∀ two, ∃ n hs, ∀ acts, EvSm4 (G.on acts) x two n hs
  m5 : ∀ two, ∃ n hs, ∀ acts, EvSm5 (G.on acts) two n hs
  t1 : ∀ two, ∃ n hs n3 hs3, EvSt G two n hs n3 hs3
  t3 : ∃ n hs, ∀ acts, EvSt3 (G.on acts) n hs
  t4 : ∀ x ∈ poolTup, ∀ two, ∃ n hs, ∀ acts, EvSt4 (G.on acts) x two n hs
  t5 : ∀ two, ∃ n hs, ∀ acts, EvSt5 (G.on acts) two n hs
theorem cC_on (B : Bx) (G : Gx) (acts : List (Code × Pos)) (y y2 : Nat) : cC B (G.on acts) y y2 = cC B G y y2 := rfl
theorem cD_on (B : Bx) (G : Gx) (acts : List (Code × Pos)) (y : Nat) : cD B (G.on acts) y = cD B G y := rfl
section
variable {B : Bx} {G : Gx} {R₀ : Result → Shared → Prop} {n₀ : Nat}
theorem MnC.same {c : Code} {κ : Kn} {t : Sem PySem.Fin} {p : Pos} {m sz tk : Nat} {l l' : List Row} (h : rowT l = rowT l') (H : MnC B R₀ ⟨c, κ, t, p, rowT l', m, sz, tk⟩) : MnC B R₀ ⟨c, κ, t, p, rowT l, m, sz, tk⟩ := by
  rw [h]; exact H
theorem sameM (V : EvSame G) (O : B.Ok (n₀ + 2)) (F : G.Fits B) (ext : List Row) (E : ExtOk Js ext) (a b : Nat) (es : List DictEntry) (e : Nat) (kvs : List (Str × Value)) (dk : DK B es kvs) (as : List Nat) (er : Nat) (hl : as.length = kvs.length) (hN : kvs.length < 2 ^ 20)
    (hk : ∀ (j b : Nat), as[j]? = some b → ∃ (k : Str) (x : Nat) (t : Tok), kvs[j]? = some (k, Value.ref x) ∧ x ∈ poolAll ∧ B.fz b (tob #[Value.str k t, Value.ref x] 0) ∧ 730 ≤ b)
    (H : SameEnd B R₀ a b (dobS es e #[]) (lob ⟨as.map Value.ref⟩ er) ext) : AtSame B R₀ a b true (dobS es e #[]) (lob ⟨as.map Value.ref⟩ er) ext := fun p y m tk => by
  obtain ⟨n, hs, n2, hs2, n3, hs3, h⟩ := V.m1 (decide (kvs.length ≠ 0))
  have hs0 : (a + 730 == sysModules) = false := by
    rw [beq_eq_false_iff_ne]
    intro z
    have : (sysModules : Nat) < 730 := by decide
    exact Nat.not_lt.mpr (Nat.le_add_left 730 a) (by rw [← z] at this; exact this)
  have hf : Int.ofNat kvs.length < 2 ^ 63 := by show (kvs.length : Int) < 2 ^ 63; omega
  have hf' : Int.ofNat kvs.length < 2 ^ 62 := by show (kvs.length : Int) < 2 ^ 62; omega
  have h0 : 0 ≤ Int.ofNat kvs.length := Int.natCast_nonneg _
  have hne : (Int.ofNat kvs.length != Int.ofNat kvs.length) = false := by simp
  have hx : ((⟨as.map Value.ref⟩ : Array Value).size : Int) = Int.ofNat kvs.length := by
    show (((⟨as.map Value.ref⟩ : Array Value).size : Nat) : Int) = ((kvs.length : Nat) : Int)
    simp [hl]
  have hline : kvs.length ≤ sizeLine := by
    have : 2 ^ 20 ≤ sizeLine := by decide
    omega
  have z := fun B1 ka ks ke y2 tk2 v ηk τk kv y3 tk3 => h B B1 a b es e kvs dk hs0 kvs.length rfl hf (as.map Value.ref) er hx hne h0 hf' ext p y tk ka ks ke y2 tk2 v ηk τk kv y3 tk3
  refine .anyM 400 (open_to O F false n _ _ _ p _ 400 _ _ hs _ (congrArg Prod.fst (z B 0 [] 0 0 0 0 0 0 .none 0 0)) fun OA hT => ?_)
  refine oListD dk hs0 hline OA (hT _ List.mem_cons_self) (i := 470) (by decide) fun ks ke hkl hks ka y2 tk2 => ?_
  have e1 := fun B1 => congrArg (fun z => z.2.1) (z B1 ka ks ke y2 tk2 0 0 0 .none 0 0)
  have ho := (op_parts (B := B) _ _ _ _ _ (e1 B) E).1
  refine run_to O F false n2 _ _ _ _ _ 471 _ _ hs2 _ ho (call_any O F _ (fun B1 => e1 B1) E fun B1 acts R₁ O1 F1 hfz hp hw K p1 y1 m1 tk1 => ?_)
  have E' : ExtOk Jc ([row 309 (y + 730) (obA (objA (rSm2 B G a b es e kvs dk hs0 kvs.length rfl hf (as.map Value.ref) er hx hne h0 hf' ext p y tk n hs ka ks ke y2 tk2 n2 hs2) 400))] ++ ext) := E.cons 309 _ _ (by decide)
  refine MnC.same (l' := cRows id y y2 a b ka (dobS es e #[]) (lob ⟨as.map Value.ref⟩ er) (lob ⟨ks⟩ ke) (rob 0 (Int.ofNat kvs.length)) (dob [] 0) ++ ([row 309 (y + 730) (obA (objA (rSm2 B G a b es e kvs dk hs0 kvs.length rfl hf (as.map Value.ref) er hx hne h0 hf' ext p y tk n hs ka ks ke y2 tk2 n2 hs2) 400))] ++ ext)) ?_ ?_
  · rw [← List.append_assoc]
    exact rowT_strip _ _ ext rfl
  obtain ⟨n4, hs4, h3⟩ := V.m3
  have dk1 : DK B1 es kvs := by
    refine ⟨?_, ?_, dk.nodup⟩
    · have := dk.keys
      revert this
      rw [show (SK B1) = strKind B1.prog B1.w from rfl, hp, hw]
      exact id
    · have := dk.pairs
      revert this
      rw [show (SK B1) = strKind B1.prog B1.w from rfl, hp, hw]
      exact id
  rw [← cC_on B1 G acts]
  refine .anyM 500 (seg_to O1 F1 false n4 _ _ _ p1 _ 500 _ _ hs4 _ _ _ _ Jc _ _ (h3 acts B1 _ y y2 a b ka _ _ _ 0 (Int.ofNat kvs.length) p1 y1 tk1) E' fun p zz m tk => ?_)
  refine compM (N := kvs.length) O1 F1 (fun x hx two => (V.m4 x hx two).imp fun n => Exists.imp fun hs q => q acts) (fun two => (V.m5 two).imp fun n => Exists.imp fun hs q => q acts) _ E' y y2 a b ka es e kvs dk1 (as.map Value.ref) er ks ke (by omega) (fun j hj => ?_) (fun v ηk τk kv c p zz m tk => ?_) kvs.length 0 (Nat.zero_add _) 0 0 .none p zz m tk
  · have hja : j < as.length := by omega
    obtain ⟨k, x, t, q1, q2, q3, q4⟩ := hk j as[j] (List.getElem?_eq_getElem hja)
    have hjk : j < ks.length := by omega
    obtain ⟨k', x', t', w1, w2⟩ := hks j ks[j] (List.getElem?_eq_getElem hjk)
    rw [q1] at w1
    cases w1
    have e730 : as[j] - 730 + 730 = as[j] := by omega
    refine ⟨x, k, t', t, as[j] - 730, q2, ?_, ?_, valueAt_of_get dk.nodup q1, ?_⟩
    · rw [List.getElem?_eq_getElem hjk, w2]
    · rw [List.getElem?_map, List.getElem?_eq_getElem hja, e730]; rfl
    · rw [e730]; exact hfz _ _ q3
  · refine K _ _ 400 _ _ ?_ c p m
    exact seg_to O F false n3 _ _ _ _ _ 400 _ _ hs3 _ _ _ _ Js _ ext (congrArg (fun z => z.2.2) (z B ka ks ke y2 tk2 v ηk τk kv _ _)) E (H _)
theorem sameT (V : EvSame G) (O : B.Ok (n₀ + 2)) (F : G.Fits B) (ext : List Row) (E : ExtOk Js ext) (a b : Nat) (xs : List Value) (te er : Nat) (hN : xs.length < 2 ^ 20)
    (hk : ∀ v ∈ xs, ∃ x ∈ poolTup, v = .ref x)
    (H : SameEnd B R₀ a b (tob ⟨xs⟩ te) (lob ⟨xs⟩ er) ext) : AtSame B R₀ a b false (tob ⟨xs⟩ te) (lob ⟨xs⟩ er) ext := fun p y m tk => by
  obtain ⟨n, hs, n3, hs3, h⟩ := V.t1 (decide (xs.length ≠ 0))
  have hf : Int.ofNat xs.length < 2 ^ 63 := by show (xs.length : Int) < 2 ^ 63; omega
  have hf' : Int.ofNat xs.length < 2 ^ 62 := by show (xs.length : Int) < 2 ^ 62; omega
  have h0 : 0 ≤ Int.ofNat xs.length := Int.natCast_nonneg _
  have heq : (Int.ofNat xs.length == Int.ofNat xs.length) = true := by simp
  have z := fun B1 v ηk τk kv y3 tk3 => h B B1 a b xs te er xs.length hf rfl heq h0 hf' ext p y tk v ηk τk kv y3 tk3
  have e1 := fun B1 => congrArg Prod.fst (z B1 0 0 0 .none 0 0)
  have ho := (op_parts (B := B) _ _ _ _ _ (e1 B) E).1
  refine .anyM 400 (run_to O F false n _ _ _ p _ 400 _ _ hs _ ho (call_any O F _ (fun B1 => e1 B1) E fun B1 acts R₁ O1 F1 hfz hp hw K p1 y1 m1 tk1 => ?_))
  have E' : ExtOk Jc ([row 309 (y + 730) (obA (objA (rSt B G a b xs te er xs.length hf rfl heq h0 hf' ext p y tk n hs) 400))] ++ ext) := E.cons 309 _ _ (by decide)
  refine MnC.same (l' := dRows id y a b (tob ⟨xs⟩ te) (lob ⟨xs⟩ er) (rob 0 (Int.ofNat xs.length)) (dob [] 0) ++ ([row 309 (y + 730) (obA (objA (rSt B G a b xs te er xs.length hf rfl heq h0 hf' ext p y tk n hs) 400))] ++ ext)) ?_ ?_
  · rw [← List.append_assoc]
    exact rowT_strip _ _ ext rfl
  obtain ⟨n4, hs4, h3⟩ := V.t3
  rw [← cD_on B1 G acts]
  refine .anyM 500 (seg_to O1 F1 false n4 _ _ _ p1 _ 500 _ _ hs4 _ _ _ _ Jc _ _ (h3 acts B1 _ y a b _ _ 0 (Int.ofNat xs.length) p1 y1 tk1) E' fun p zz m tk => ?_)
  refine compT (N := xs.length) O1 F1 (fun x hx two => (V.t4 x hx two).imp fun n => Exists.imp fun hs q => q acts) (fun two => (V.t5 two).imp fun n => Exists.imp fun hs q => q acts) _ E' y a b xs te er (by omega) (fun j hj => ?_) (fun v ηk τk kv c p zz m tk => ?_) xs.length 0 (Nat.zero_add _) 0 0 .none p zz m tk
  · obtain ⟨x, q1, q2⟩ := hk xs[j] (List.getElem_mem hj)
    exact ⟨x, q1, by rw [List.getElem?_eq_getElem hj, q2]⟩
  · refine K _ _ 400 _ _ ?_ c p m
    exact seg_to O F false n3 _ _ _ _ _ 400 _ _ hs3 _ _ _ _ Js _ ext (congrArg Prod.snd (z B v ηk τk kv _ _)) E (H _)
end
end Mine
end

section
open PySem PySem.Spec PySem.Calls PyProof.Rows PySem.W PySem.W.X
namespace Mine
/-! the order of rows does not matter -/
theorem rowT_perm : ∀ {l l' : List Row}, l.Perm l' → (l.Pairwise fun r s => r.new % 1024 ≠ s.new % 1024) → ∀ j, (rowT l).get j = (rowT l').get j := by
  intro l l' h
  induction h with
  | nil => intro _ j; rfl
  | @cons x l₁ l₂ h ih =>
    intro hp j
    show OT.get ((rowT l₁).put x.new x.a x.o) j = OT.get ((rowT l₂).put x.new x.a x.o) j
    rw [OT.get_put, OT.get_put, ih (List.pairwise_cons.mp hp).2 j]
  | swap x y l =>
    intro hp j
    have hxy : y.new % 1024 ≠ x.new % 1024 := (List.pairwise_cons.mp hp).1 x List.mem_cons_self
    show OT.get (OT.put (OT.put (rowT l) x.new x.a x.o) y.new y.a y.o) j = OT.get (OT.put (OT.put (rowT l) y.new y.a y.o) x.new x.a x.o) j
    rw [OT.get_put, OT.get_put, OT.get_put, OT.get_put]
    by_cases q : y.new % 1024 = j % 1024
    · rw [if_pos q, if_neg (fun z => hxy (q.trans z.symm)), if_pos q]
    · rw [if_neg q, if_neg q]
  | trans h1 h2 ih1 ih2 =>
    intro hp j
    rw [ih1 hp j]
    exact ih2 (hp.perm h1 fun {a b} z => fun e => z e.symm) j
section
variable {B : Bx} {G : Gx} {R₀ : Result → Shared → Prop} {n₀ : Nat}
theorem Rp.congr {T T' : OT} {sz : Nat} {h : Heap} (e : ∀ j, T.get j = T'.get j) (D : Rp B T sz h) : Rp B T' sz h :=
  ⟨D.size, fun i a o q => D.own i a o ((e i).trans q), fun i a o q => D.ro i a o ((e i).trans q), fun i j a o o' q q' => D.inj i j a o o' ((e i).trans q) ((e j).trans q'), D.keep⟩
theorem MnC.perm {c : Code} {κ : Kn} {t : Sem PySem.Fin} {p : Pos} {m sz tk : Nat} {l l' : List Row} (hp : l.Perm l') (hd : l.Pairwise fun r s => r.new % 1024 ≠ s.new % 1024) (H : MnC B R₀ ⟨c, κ, t, p, rowT l', m, sz, tk⟩) : MnC B R₀ ⟨c, κ, t, p, rowT l, m, sz, tk⟩ :=
  fun h D => H h (Rp.congr (rowT_perm hp hd) D)
end
/-! what was told -/
structure Told where
  a : Nat
  b : Nat
  told : Obj
  rows : Obj
  tt : Nat
def ownX (i : Nat) (x : Option Told) : List Row := match x with
  | none => []
  | some x => ownR i x.a x.b x.told x.rows
/-- the rows of all that was told -/
def extOf (X : Nat → Option Told) : List Row := ownX 0 (X 0) ++ (ownX 1 (X 1) ++ (ownX 2 (X 2) ++ (ownX 3 (X 3) ++ (ownX 4 (X 4) ++ (ownX 5 (X 5) ++ ownX 6 (X 6))))))
/-- of all but one -/
def extBut (X : Nat → Option Told) (i : Nat) : List Row := extOf (fun j => if j = i then none else X j)
theorem ext_split (X : Nat → Option Told) (i : Nat) (hi : i < 7) : (extOf X).Perm (ownX i (X i) ++ extBut X i) := by
  have key : ∀ (A B C : List Row), (A ++ (B ++ C)).Perm (B ++ (A ++ C)) := fun A B C => by
    rw [← List.append_assoc, ← List.append_assoc]
    exact List.Perm.append_right C List.perm_append_comm
  unfold extBut extOf
  match i, hi with
  | 0, _ => simp [ownX]
  | 1, _ => simp only [ownX, if_true, if_neg (show ¬ (0 : Nat) = 1 by decide), if_neg (show ¬ (2 : Nat) = 1 by decide), if_neg (show ¬ (3 : Nat) = 1 by decide), if_neg (show ¬ (4 : Nat) = 1 by decide), if_neg (show ¬ (5 : Nat) = 1 by decide), if_neg (show ¬ (6 : Nat) = 1 by decide), List.nil_append]; exact key _ _ _
  | 2, _ =>
    simp only [ownX, if_true, if_neg (show ¬ (0 : Nat) = 2 by decide), if_neg (show ¬ (1 : Nat) = 2 by decide), if_neg (show ¬ (3 : Nat) = 2 by decide), if_neg (show ¬ (4 : Nat) = 2 by decide), if_neg (show ¬ (5 : Nat) = 2 by decide), if_neg (show ¬ (6 : Nat) = 2 by decide), List.nil_append]
    exact (List.Perm.append_left _ (key _ _ _)).trans (key _ _ _)
  | 3, _ =>
    simp only [ownX, if_true, if_neg (show ¬ (0 : Nat) = 3 by decide), if_neg (show ¬ (1 : Nat) = 3 by decide), if_neg (show ¬ (2 : Nat) = 3 by decide), if_neg (show ¬ (4 : Nat) = 3 by decide), if_neg (show ¬ (5 : Nat) = 3 by decide), if_neg (show ¬ (6 : Nat) = 3 by decide), List.nil_append]
    exact (List.Perm.append_left _ ((List.Perm.append_left _ (key _ _ _)).trans (key _ _ _))).trans (key _ _ _)
  | 4, _ =>
    simp only [ownX, if_true, if_neg (show ¬ (0 : Nat) = 4 by decide), if_neg (show ¬ (1 : Nat) = 4 by decide), if_neg (show ¬ (2 : Nat) = 4 by decide), if_neg (show ¬ (3 : Nat) = 4 by decide), if_neg (show ¬ (5 : Nat) = 4 by decide), if_neg (show ¬ (6 : Nat) = 4 by decide), List.nil_append]
    exact (List.Perm.append_left _ ((List.Perm.append_left _ ((List.Perm.append_left _ (key _ _ _)).trans (key _ _ _))).trans (key _ _ _))).trans (key _ _ _)
  | 5, _ =>
    simp only [ownX, if_true, if_neg (show ¬ (0 : Nat) = 5 by decide), if_neg (show ¬ (1 : Nat) = 5 by decide), if_neg (show ¬ (2 : Nat) = 5 by decide), if_neg (show ¬ (3 : Nat) = 5 by decide), if_neg (show ¬ (4 : Nat) = 5 by decide), if_neg (show ¬ (6 : Nat) = 5 by decide), List.nil_append]
    exact (List.Perm.append_left _ ((List.Perm.append_left _ ((List.Perm.append_left _ ((List.Perm.append_left _ (key _ _ _)).trans (key _ _ _))).trans (key _ _ _))).trans (key _ _ _))).trans (key _ _ _)
  | 6, _ =>
    simp only [ownX, if_true, if_neg (show ¬ (0 : Nat) = 6 by decide), if_neg (show ¬ (1 : Nat) = 6 by decide), if_neg (show ¬ (2 : Nat) = 6 by decide), if_neg (show ¬ (3 : Nat) = 6 by decide), if_neg (show ¬ (4 : Nat) = 6 by decide), if_neg (show ¬ (5 : Nat) = 6 by decide), List.append_nil]
    have : ∀ (A0 A1 A2 A3 A4 A5 A6 : List Row), (A0 ++ (A1 ++ (A2 ++ (A3 ++ (A4 ++ (A5 ++ A6)))))).Perm (A6 ++ (A0 ++ (A1 ++ (A2 ++ (A3 ++ (A4 ++ A5)))))) := fun A0 A1 A2 A3 A4 A5 A6 => by
      have e : A0 ++ (A1 ++ (A2 ++ (A3 ++ (A4 ++ (A5 ++ A6))))) = (A0 ++ (A1 ++ (A2 ++ (A3 ++ (A4 ++ A5))))) ++ A6 := by simp
      rw [e]; exact List.perm_append_comm
    exact this _ _ _ _ _ _ _
/-- the other slot of the same thing -/
def pa (i : Nat) : Nat := match i with
  | 0 => 1 | 1 => 0 | 2 => 3 | 3 => 2 | _ => 7
end Mine
end

section
open PySem PySem.Spec PySem.Calls PyProof.Rows PySem.W PySem.W.X
namespace Mine
theorem ExtOk.of_sub {J : List Nat} {ext : List Row} (h1 : ∀ r ∈ ext, r.new = r.old) (h2 : (ext.map (·.old)).Sublist J) (hJ : J.Nodup) : ExtOk J ext where
  mem r hr := ⟨h1 r hr, h2.subset (List.mem_map.mpr ⟨r, hr, rfl⟩)⟩
  inc := List.pairwise_map.mp (hJ.sublist h2)
/-- rows at their own places, out of a list -/
structure Sub (J : List Nat) (ext : List Row) : Prop where
  own : ∀ r ∈ ext, r.new = r.old
  sub : (ext.map (·.old)).Sublist J
theorem Sub.app {J K : List Nat} {x y : List Row} (a : Sub J x) (b : Sub K y) : Sub (J ++ K) (x ++ y) where
  own r hr := (List.mem_append.mp hr).elim (a.own r) (b.own r)
  sub := by rw [List.map_append]; exact a.sub.append b.sub
theorem Sub.ok {J : List Nat} {ext : List Row} (S : Sub J ext) (hJ : J.Nodup) : ExtOk J ext := .of_sub S.own S.sub hJ
theorem Sub.nil (J : List Nat) : Sub J [] := ⟨(fun _ h => (by cases h)), List.nil_sublist J⟩
theorem sub_own (i : Nat) (x : Option Told) : Sub [pT i, pR i] (ownX i x) := by
  cases x with
  | none => exact Sub.nil _
  | some x =>
    refine ⟨fun r hr => ?_, List.Sublist.refl _⟩
    rcases List.mem_cons.mp hr with rfl | hr
    · rfl
    · rcases List.mem_cons.mp hr with rfl | hr
      · rfl
      · cases hr
theorem sub_ext (X : Nat → Option Told) : Sub Jo (extOf X) :=
  (sub_own 0 _).app ((sub_own 1 _).app ((sub_own 2 _).app ((sub_own 3 _).app ((sub_own 4 _).app ((sub_own 5 _).app (sub_own 6 _))))))
def Jw : List Nat := [325, 331, 332, 333]
theorem sub_all (X : Nat → Option Told) {rest : List Row} (S : Sub Jw rest) : Sub Jall (extOf X ++ rest) := (sub_ext X).app S
theorem sub_but (X : Nat → Option Told) (i : Nat) (hi : i < 7) {rest : List Row} (S : Sub Jw rest) : Sub (Jx i) (extBut X i ++ rest) := by
  have N : ∀ j, Sub [] (ownX j none) := fun j => Sub.nil _
  unfold extBut extOf
  match i, hi with
  | 0, _ => exact ((N 0).app ((sub_own 1 _).app ((sub_own 2 _).app ((sub_own 3 _).app ((sub_own 4 _).app ((sub_own 5 _).app (sub_own 6 _))))))).app S
  | 1, _ => exact ((sub_own 0 _).app ((N 1).app ((sub_own 2 _).app ((sub_own 3 _).app ((sub_own 4 _).app ((sub_own 5 _).app (sub_own 6 _))))))).app S
  | 2, _ => exact ((sub_own 0 _).app ((sub_own 1 _).app ((N 2).app ((sub_own 3 _).app ((sub_own 4 _).app ((sub_own 5 _).app (sub_own 6 _))))))).app S
  | 3, _ => exact ((sub_own 0 _).app ((sub_own 1 _).app ((sub_own 2 _).app ((N 3).app ((sub_own 4 _).app ((sub_own 5 _).app (sub_own 6 _))))))).app S
  | 4, _ => exact ((sub_own 0 _).app ((sub_own 1 _).app ((sub_own 2 _).app ((sub_own 3 _).app ((N 4).app ((sub_own 5 _).app (sub_own 6 _))))))).app S
  | 5, _ => exact ((sub_own 0 _).app ((sub_own 1 _).app ((sub_own 2 _).app ((sub_own 3 _).app ((sub_own 4 _).app ((N 5).app (sub_own 6 _))))))).app S
  | 6, _ => exact ((sub_own 0 _).app ((sub_own 1 _).app ((sub_own 2 _).app ((sub_own 3 _).app ((sub_own 4 _).app ((sub_own 5 _).app (N 6))))))).app S
/-- the places of the law's own rows -/
def JB : List Nat := [0, 2, 3, 4, 5, 16, 49, 82, 106, 124, 140, 141, 143, 144, 146, 147, 148, 150, 151, 152, 153, 160, 161, 168, 169, 176, 177, 184, 185, 192, 194, 196, 200, 1000]
theorem sub_rowsB (D : Dt) : Sub JB (rowsB D) := by
  refine ⟨fun r hr => ?_, List.Sublist.refl _⟩
  have : ∀ l : List Row, (∀ r ∈ l, r.new = r.old) = (∀ r ∈ l, (fun r : Row => r.new = r.old) r) := fun _ => rfl
  have key : (rowsB D).map (fun r => (r.new, r.old)) = JB.map fun j => (j, j) := rfl
  have hm : (r.new, r.old) ∈ (rowsB D).map (fun r => (r.new, r.old)) := List.mem_map.mpr ⟨r, hr, rfl⟩
  rw [key] at hm
  obtain ⟨j, _, e⟩ := List.mem_map.mp hm
  have e1 := congrArg Prod.fst e
  have e2 := congrArg Prod.snd e
  simp only at e1 e2
  rw [← e1, ← e2]
theorem Sub.apart {J : List Nat} {l : List Row} (S : Sub J l) (hJ : (J.map (· % 1024)).Nodup) : l.Pairwise fun r s => r.new % 1024 ≠ s.new % 1024 := by
  have h : (l.map fun r => r.new % 1024).Sublist (J.map (· % 1024)) := by
    have e : l.map (fun r => r.new % 1024) = (l.map (·.old)).map (· % 1024) := by
      rw [List.map_map]
      exact List.map_congr_left fun r hr => by show r.new % 1024 = r.old % 1024; rw [S.own r hr]
    rw [e]
    exact S.sub.map _
  exact List.pairwise_map.mp (hJ.sublist h)
section
variable {B : Bx} {G : Gx} {R₀ : Result → Shared → Prop} {n₀ : Nat}
/-- the slot's own rows first -/
theorem MnC.split {c : Code} {κ : Kn} {t : Sem PySem.Fin} {p : Pos} {m sz tk : Nat} (D : Dt) (X : Nat → Option Told) (i : Nat) (hi : i < 7) {rest : List Row} (S : Sub Jw rest) (H : MnC B R₀ ⟨c, κ, t, p, rowT (rowsB D ++ (ownX i (X i) ++ (extBut X i ++ rest))), m, sz, tk⟩) :
    MnC B R₀ ⟨c, κ, t, p, rowT (rowsB D ++ (extOf X ++ rest)), m, sz, tk⟩ := by
  refine MnC.perm ?_ ((sub_rowsB D).app (sub_all X S) |>.apart (by decide)) H
  refine List.Perm.append_left _ ?_
  rw [← List.append_assoc]
  exact List.Perm.append_right _ (ext_split X i hi)
theorem MnC.join {c : Code} {κ : Kn} {t : Sem PySem.Fin} {p : Pos} {m sz tk : Nat} (D : Dt) (X : Nat → Option Told) (i : Nat) (hi : i < 7) {rest : List Row} (S : Sub Jw rest) (H : MnC B R₀ ⟨c, κ, t, p, rowT (rowsB D ++ (extOf X ++ rest)), m, sz, tk⟩) :
    MnC B R₀ ⟨c, κ, t, p, rowT (rowsB D ++ (ownX i (X i) ++ (extBut X i ++ rest))), m, sz, tk⟩ := by
  have P : (rowsB D ++ (ownX i (X i) ++ (extBut X i ++ rest))).Perm (rowsB D ++ (extOf X ++ rest)) := by
    refine List.Perm.append_left _ ?_
    rw [← List.append_assoc]
    exact List.Perm.append_right _ (ext_split X i hi).symm
  refine MnC.perm P ?_ H
  exact ((sub_rowsB D).app (sub_all X S) |>.apart (by decide)).perm P.symm fun {a b} z e => z e.symm
theorem sub_row (j a : Nat) (o : Obj) : Sub [j] [row j a o] := ⟨fun r hr => by rw [List.mem_singleton.mp hr]; rfl, List.Sublist.refl _⟩
/-- what lies beside in _law_same -/
theorem extS_ok (D : Dt) (i a b fa : Nat) (fo : Obj) {ext : List Row} (hi : i < 7) (S : Sub (Jx i) ext) : ExtOk Js (extS D i a b fa fo ext) := by
  have s1 : Sub ((JB ++ [210]) ++ Jx i) (extS D i a b fa fo ext) := ((sub_rowsB _).app (sub_row 210 (fa + 730) fo)).app S
  have s2 : ((JB ++ [210]) ++ Jx i).Sublist Js := by
    have e : Js = (JB ++ [210]) ++ Jall := rfl
    rw [e]
    refine List.Sublist.append (List.Sublist.refl _) ?_
    match i, hi with
    | 0, _ => decide
    | 1, _ => decide
    | 2, _ => decide
    | 3, _ => decide
    | 4, _ => decide
    | 5, _ => decide
    | 6, _ => decide
  exact .of_sub s1.own (s1.sub.trans s2) (by decide)
end
end Mine
end

section
open PySem PySem.Spec PySem.Calls PyProof.Rows PySem.W PySem.W.X
namespace Mine
/-! the keys -/
def kstr (ch n : Nat) : Str := (⟨#[ch]⟩ : Str) ++ Str.ofString (toString (n : Int))
def kid (n : Nat) : Str := match n with
  | 0 => ⟨#[97]⟩
  | 1 => ⟨#[88]⟩
  | n + 2 => kstr (if n % 2 = 0 then 107 else 119) (n / 2)
theorem kid_len : ∀ n : Nat, n < 64 → ((Str.ofString (toString (n : Int))).length == 0) = false ∧ (kstr 107 n).length ≤ 21 ∧ (kstr 119 n).length ≤ 21 := by decide +kernel
theorem kid_nodup : ((List.range 130).map fun n => (kid n).cps.toList).Nodup := by decide +kernel
theorem kid_inj {a b : Nat} (ha : a < 130) (hb : b < 130) (h : kid a = kid b) : a = b := by
  have e : ∀ n, n < 130 → ((List.range 130).map fun n => (kid n).cps.toList)[n]? = some (kid n).cps.toList := fun n hn => by
    rw [List.getElem?_map, List.getElem?_range hn]; rfl
  have ea := e a ha
  have eb := e b hb
  rw [← h] at eb
  obtain ⟨la, xa⟩ := List.getElem?_eq_some_iff.mp ea
  obtain ⟨lb, xb⟩ := List.getElem?_eq_some_iff.mp eb
  rcases Nat.lt_trichotomy a b with q | q | q
  · exact absurd (xa.trans xb.symm) (List.pairwise_iff_getElem.mp kid_nodup a b la lb q)
  · exact q
  · exact absurd (xb.trans xa.symm) (List.pairwise_iff_getElem.mp kid_nodup b a lb la q)
theorem kid_even (k : Nat) : kid (2 * k + 2) = kstr 107 k := by
  show kstr (if 2 * k % 2 = 0 then 107 else 119) (2 * k / 2) = _
  rw [if_pos (by omega), show 2 * k / 2 = k by omega]
theorem kid_odd (k : Nat) : kid (2 * k + 1 + 2) = kstr 119 k := by
  show kstr (if (2 * k + 1) % 2 = 0 then 107 else 119) ((2 * k + 1) / 2) = _
  rw [if_neg (by omega), show (2 * k + 1) / 2 = k by omega]
/-- a key that may lie there before step k -/
def Old (k : Nat) (s : Str) : Prop := ∃ j, j < 2 * k + 2 ∧ s = kid j
theorem Old.mono {k k' : Nat} (h : k ≤ k') {s : Str} : Old k s → Old k' s := fun ⟨j, hj, e⟩ => ⟨j, by omega, e⟩
theorem old_a (k : Nat) : Old k ⟨#[97]⟩ := ⟨0, by omega, rfl⟩
theorem old_X (k : Nat) : Old k ⟨#[88]⟩ := ⟨1, by omega, rfl⟩
theorem old_k (k : Nat) : Old (k + 1) (kstr 107 k) := ⟨2 * k + 2, by omega, (kid_even k).symm⟩
theorem old_w (k : Nat) : Old (k + 1) (kstr 119 k) := ⟨2 * k + 1 + 2, by omega, (kid_odd k).symm⟩
theorem new_k {k : Nat} (hk : k < 63) : ¬ Old k (kstr 107 k) := fun ⟨j, hj, e⟩ => by
  rw [← kid_even] at e
  have := kid_inj (by omega) (by omega) e
  omega
theorem new_w {k : Nat} (hk : k < 63) : ¬ Old k (kstr 119 k) := fun ⟨j, hj, e⟩ => by
  rw [← kid_odd] at e
  have := kid_inj (by omega) (by omega) e
  omega
/-! what holds between the turns -/
def pool (i : Nat) : List Nat := match i with
  | 0 => [614, 620, 626] | 1 => [549, 558, 567] | 2 => [614, 620, 626] | 3 => [549, 558, 567]
  | 4 => [638, 642, 646] | 5 => [656, 660, 664] | _ => [582, 591, 600]
def OkC (B : Bx) (i k : Nat) (c : Obj) : Prop := match isMap i with
  | true => ∃ (es : List DictEntry) (e : Nat) (kvs : List (Str × Value)), c = dobS es e #[] ∧ DK B es kvs ∧ kvs.length ≤ k + 1 ∧ ∀ kv ∈ kvs, (∃ x ∈ pool i, kv.2 = Value.ref x) ∧ Old k kv.1
  | false => ∃ (xs : List Value) (e : Nat), c = lob ⟨xs⟩ e ∧ xs.length ≤ k + 3 ∧ ∀ v ∈ xs, ∃ x ∈ pool i, v = Value.ref x
def OkT (B : Bx) (i k : Nat) (x : Told) : Prop := match isMap i with
  | true => ∃ (es : List DictEntry) (e : Nat) (kvs : List (Str × Value)) (as : List Nat) (er : Nat), x.told = dobS es e #[] ∧ x.rows = lob ⟨as.map Value.ref⟩ er ∧ DK B es kvs ∧ as.length = kvs.length ∧ kvs.length ≤ 2 * k + 2 ∧ (∀ kv ∈ kvs, Old k kv.1) ∧
      ∀ (j b : Nat), as[j]? = some b → ∃ (k' : Str) (x : Nat) (t : Tok), kvs[j]? = some (k', Value.ref x) ∧ x ∈ pool i ∧ B.fz b (tob #[Value.str k' t, Value.ref x] 0) ∧ 730 ≤ b
  | false => ∃ (xs : List Value) (te er : Nat), x.told = tob ⟨xs⟩ te ∧ x.rows = lob ⟨xs⟩ er ∧ xs.length ≤ k + 3 ∧ ∀ v ∈ xs, ∃ x ∈ pool i, v = Value.ref x
def OkX (B : Bx) (i k : Nat) (x : Option Told) (sn kp : Value) : Prop := match x with
  | none => sn = .none
  | some x => sn = .ref (x.b + 730) ∧ kp = .ref (x.a + 730) ∧ OkT B i k x
/-- what a slot has put by in its thing's dict -/
noncomputable def ent (B : Bx) (i : Nat) (x : Option Told) : List DictEntry := match x with
  | none => []
  | some x => [⟨(SK B).hash (atS i), .str (atS i) x.tt, .ref (x.a + 730)⟩]
def slotsOf (u : List DictEntry) : Array (Option Value) := match u with
  | [] => #[]
  | _ :: _ => #[none]
def UOk (B : Bx) (X : Nat → Option Told) (D : Dt) (i : Nat) : Prop :=
  (D.u (tj i) = ent B i (X i) ++ ent B (pa i) (X (pa i)) ∨ D.u (tj i) = ent B (pa i) (X (pa i)) ++ ent B i (X i)) ∧ D.s (tj i) = slotsOf (D.u (tj i))
structure Inst (B : Bx) (D : Dt) (i : Nat) : Prop where
  ex : ∃ kvs, DK B (instE i D.τ D.η) kvs ∧ atS i ∉ kvs.map (·.1) ∧ (i < 4 → atS (pa i) ∉ kvs.map (·.1))
structure Inv (B : Bx) (k : Nat) (D : Dt) (X : Nat → Option Told) : Prop where
  c : ∀ i, i < 7 → OkC B i k (D.c i)
  x : ∀ i, i < 7 → OkX B i k (X i) (D.sn i) (D.kp i)
  u : ∀ i, i < 7 → UOk B X D i
  x7 : X 7 = none
  inst : ∀ i, i < 7 → Inst B D i
/-- what an asking leaves as it is -/
structure Keep (D D' : Dt) : Prop where
  τ : D'.τ = D.τ
  η : D'.η = D.η
  first : D'.first = D.first
  dA : D'.dA = D.dA
  deeds : D'.deeds = D.deeds
  dE : D'.dE = D.dE
  lt : D'.lt = D.lt
  fE : D'.fE = D.fE
  c : D'.c = D.c
  v : D'.v = D.v
  left : D'.left = D.left
theorem Keep.refl (D : Dt) : Keep D D := ⟨rfl, rfl, rfl, rfl, rfl, rfl, rfl, rfl, rfl, rfl, rfl⟩
theorem Keep.trans {D D' D'' : Dt} (a : Keep D D') (b : Keep D' D'') : Keep D D'' :=
  ⟨b.τ.trans a.τ, b.η.trans a.η, b.first.trans a.first, b.dA.trans a.dA, b.deeds.trans a.deeds, b.dE.trans a.dE, b.lt.trans a.lt, b.fE.trans a.fE, b.c.trans a.c, b.v.trans a.v, b.left.trans a.left⟩
/-- more may stand still -/
def Grow (B B' : Bx) : Prop := B' = B ∨ ∃ F, B' = B.add F
theorem DK.more {B : Bx} {es : List DictEntry} {kvs : List (Str × Value)} (d : DK B es kvs) (F : Nat → Obj → Prop) : DK (B.add F) es kvs := ⟨d.keys, d.pairs, d.nodup⟩
theorem OkC.more {B : Bx} {i k : Nat} {c : Obj} (F : Nat → Obj → Prop) (h : OkC B i k c) : OkC (B.add F) i k c := by
  unfold OkC at h ⊢
  cases hm : isMap i with
  | true =>
    rw [hm] at h
    obtain ⟨es, e, kvs, h1, h2, h3⟩ := h
    exact ⟨es, e, kvs, h1, h2.more F, h3⟩
  | false =>
    rw [hm] at h
    exact h
theorem OkT.more {B : Bx} {i k : Nat} {x : Told} (F : Nat → Obj → Prop) (h : OkT B i k x) : OkT (B.add F) i k x := by
  unfold OkT at h ⊢
  cases hm : isMap i with
  | true =>
    rw [hm] at h
    obtain ⟨es, e, kvs, as, er, h1, h2, h3, h4, h5, h6, h7⟩ := h
    refine ⟨es, e, kvs, as, er, h1, h2, h3.more F, h4, h5, h6, fun j b q => ?_⟩
    obtain ⟨k', x, t, q1, q2, q3, q4⟩ := h7 j b q
    exact ⟨k', x, t, q1, q2, .inl q3, q4⟩
  | false =>
    rw [hm] at h
    exact h
theorem OkX.more {B : Bx} {i k : Nat} {x : Option Told} {sn kp : Value} (F : Nat → Obj → Prop) (h : OkX B i k x sn kp) : OkX (B.add F) i k x sn kp := by
  cases x with
  | none => exact h
  | some x => exact ⟨h.1, h.2.1, h.2.2.more F⟩
theorem Inst.more {B : Bx} {D : Dt} {i : Nat} (F : Nat → Obj → Prop) (h : Inst B D i) : Inst (B.add F) D i := ⟨h.ex.imp fun _ z => ⟨z.1.more F, z.2⟩⟩
theorem Inv.more {B : Bx} {k : Nat} {D : Dt} {X : Nat → Option Told} (F : Nat → Obj → Prop) (I : Inv B k D X) : Inv (B.add F) k D X :=
  ⟨fun i hi => (I.c i hi).more F, fun i hi => (I.x i hi).more F, I.u, I.x7, fun i hi => (I.inst i hi).more F⟩
def setX (X : Nat → Option Told) (i : Nat) (x : Told) : Nat → Option Told := fun j => if j = i then some x else X j
theorem extBut_set (X : Nat → Option Told) (i : Nat) (x : Told) : extBut (setX X i x) i = extBut X i := by
  unfold extBut
  congr 1
  funext j
  by_cases h : j = i
  · rw [if_pos h, if_pos h]
  · rw [if_neg h, if_neg h]; unfold setX; rw [if_neg h]
theorem preA_self {D : Dt} {i : Nat} {u : List DictEntry} {sl : Array (Option Value)} {c : Obj} (h1 : D.u (tj i) = u) (h2 : D.s (tj i) = sl) (h3 : D.c i = c) (h4 : D.sn i = .none) : preA D i u (D.e (tj i)) sl c = D := by
  unfold preA
  rw [upd_self _ _ _ h1, upd_self _ _ _ h2, upd_self _ _ _ h3, upd_self _ _ _ h4, upd_self _ _ _ rfl]
theorem setC_self {D : Dt} {i : Nat} {c : Obj} (h : D.c i = c) : setC D i c = D := by
  unfold setC; rw [upd_self _ _ _ h]
theorem pool_map {i x : Nat} (hi : i < 7) (hm : isMap i = true) (h : x ∈ pool i) : x ∈ poolAll := by
  match i, hi with
  | 0, _ => revert h; revert x; decide
  | 2, _ => revert h; revert x; decide
  | 4, _ => revert h; revert x; decide
  | 5, _ => revert h; revert x; decide
  | 1, _ => cases hm
  | 3, _ => cases hm
  | 6, _ => cases hm
theorem pool_tup {i x : Nat} (hi : i < 7) (hm : isMap i = false) (h : x ∈ pool i) : x ∈ poolTup := by
  match i, hi with
  | 0, _ => cases hm
  | 2, _ => cases hm
  | 4, _ => cases hm
  | 5, _ => cases hm
  | 1, _ => revert h; revert x; decide
  | 3, _ => revert h; revert x; decide
  | 6, _ => revert h; revert x; decide
end Mine
end

section
open PySem PySem.Spec PySem.Calls PyProof.Rows PySem.W PySem.W.X
namespace Mine
/-- the equations of _law_asked, for one world -/
structure EvAsk (G : Gx) : Prop where
  cut : EvCut G
  c : ∀ i, i < 7 → ∃ n hs, EvC G i n hs
  r : ∀ i, i < 7 → ∃ n hs n2 hs2, EvR G i n hs n2 hs2
  am : ∀ i, i < 7 → isMap i = true → ∃ n hs n2 hs2 n3 hs3, EvAm G i 402 [] #[] n hs n2 hs2 n3 hs3
  am' : ∀ i, i < 4 → isMap i = true → ∃ n hs n2 hs2 n3 hs3, ∀ h t v, EvAm G i 402 [otherE i h t v] #[none] n hs n2 hs2 n3 hs3
  al : ∀ i, i < 7 → isMap i = false → ∃ n hs n2 hs2 n3 hs3, EvAl G i 402 [] #[] n hs n2 hs2 n3 hs3
  al' : ∀ i, i < 4 → isMap i = false → ∃ n hs n2 hs2 n3 hs3, ∀ h t v, EvAl G i 402 [otherE i h t v] #[none] n hs n2 hs2 n3 hs3
  ae : ∀ i, i < 7 → isMap i = false → ∃ k old n hs n3 hs3, EvAe G i 402 [] #[] k old n hs n3 hs3
  ae' : ∀ i, i < 4 → isMap i = false → ∃ k old n hs n3 hs3, ∀ h t v, EvAe G i 402 [otherE i h t v] #[none] k old n hs n3 hs3
  ag : ∀ i, i < 7 → ∃ n hs, EvAg G i 402 false n hs
  ag' : ∀ i, i < 4 → ∃ n hs, EvAg G i 402 true n hs
section
variable {B : Bx} {G : Gx} {R₀ : Result → Shared → Prop} {n₀ : Nat}
theorem line20 : 2 ^ 20 ≤ sizeLine := by decide
/-- from the return of _law_asked to its end -/
theorem retSpec (V : EvAsk G) (VS : ∀ (B : Bx) fa p1, EvSame (G.within (cA B G fa) p1)) (O : B.Ok (n₀ + 3)) (F : G.Fits B) {k i : Nat} (hk : k ≤ 62) (hi : i < 7) {ext : List Row} (S : Sub (Jx i) ext) (D : Dt) (C : OkC B i k (D.c i)) (x : Told) (T : OkT B i k x) (fa : Nat)
    (H : AskEnd B R₀ (retD D i x.a x.b) (ownR i x.a x.b x.told x.rows ++ ext)) : AtRet B G R₀ D i fa x.a x.b x.told x.rows ext := by
  have E : ExtOk (Jx i) ext := S.ok (by
    match i, hi with
    | 0, _ => decide
    | 1, _ => decide
    | 2, _ => decide
    | 3, _ => decide
    | 4, _ => decide
    | 5, _ => decide
    | 6, _ => decide)
  obtain ⟨n1, hs1, hc⟩ := V.c i hi
  obtain ⟨n, hs, n2, hs2, hr⟩ := V.r i hi
  have hline := line20
  have st := fun ces ce cxs es ep xs HS => stRet (R₀ := R₀) O F V.cut hc hr D ext E ces ce cxs es ep xs x.rows fa x.a x.b HS
  unfold OkT at T
  unfold OkC at C
  cases hm : isMap i with
  | true =>
    rw [hm] at T C st
    obtain ⟨es, e, kvs, as, er, t1, t2, t3, t4, t5, t6, t7⟩ := T
    obtain ⟨ces, ce, kvs0, c1, c2, c3, c4⟩ := C
    have hD : setC D i (handO true ces ce #[]) = D := setC_self c1
    have st := st ces ce #[] es e #[]
    rw [hD, show toldO true es e #[] = x.told from t1.symm] at st
    refine st (fun fo p1 R₁ HE => ?_) H
    rw [t1, t2] at HE ⊢
    refine sameM (VS B fa p1) (O.within _ _) (F.within _ _) _ (extS_ok D i x.a x.b fa fo hi S) x.a x.b es e kvs ⟨t3.keys, t3.pairs, t3.nodup⟩ as er t4 (by omega) (fun j b q => ?_) HE
    obtain ⟨k', y, t, q1, q2, q3, q4⟩ := t7 j b q
    exact ⟨k', y, t, q1, pool_map hi hm q2, q3, q4⟩
  | false =>
    rw [hm] at T C st
    obtain ⟨xs, te, er, t1, t2, t3, t4⟩ := T
    obtain ⟨cxs, ce, c1, c2, c3⟩ := C
    have hD : setC D i (handO false [] ce ⟨cxs⟩) = D := setC_self c1
    have st := st [] ce ⟨cxs⟩ [] te ⟨xs⟩
    rw [hD, show toldO false [] te ⟨xs⟩ = x.told from t1.symm] at st
    refine st (fun fo p1 R₁ HE => ?_) H
    rw [t1, t2] at HE ⊢
    refine sameT (VS B fa p1) (O.within _ _) (F.within _ _) _ (extS_ok D i x.a x.b fa fo hi S) x.a x.b xs te er (by omega) (fun v hv => ?_) HE
    obtain ⟨y, q1, q2⟩ := t4 v hv
    exact ⟨y, pool_tup hi hm q1, q2⟩
/-- where the thing's dict stands when a slot is asked for the first time -/
theorem firstDK {D : Dt} {i : Nat} (hi : i < 7) (I : Inst B D i) {k : Nat} {X : Nat → Option Told} (U : UOk B X D i) (x7 : X 7 = none) (hx : X i = none) :
    ∃ u sl kvs, D.u (tj i) = u ∧ D.s (tj i) = sl ∧ DK B (instE i D.τ D.η ++ u) kvs ∧ (valueAt kvs (atS i)).getD (.ref 205) = .ref 205 ∧ atS i ∉ kvs.map (·.1) ∧ (instE i D.τ D.η ++ u).length ≤ 20 ∧ u = ent B (pa i) (X (pa i)) ∧
      ((u = [] ∧ sl = #[]) ∨ (i < 4 ∧ sl = #[none] ∧ ∃ h t v, u = [otherE i h t v])) := by
  obtain ⟨kvs, d1, d2, d3⟩ := I.ex
  obtain ⟨U1, U2⟩ := U
  have hu : D.u (tj i) = ent B (pa i) (X (pa i)) := by
    rw [hx] at U1
    rcases U1 with h | h
    · simpa [ent] using h
    · simpa [ent] using h
  have hlen : (instE i D.τ D.η).length ≤ 8 := by
    match i, hi with
    | 0, _ => exact Nat.le_of_ble_eq_true rfl
    | 1, _ => exact Nat.le_of_ble_eq_true rfl
    | 2, _ => exact Nat.le_of_ble_eq_true rfl
    | 3, _ => exact Nat.le_of_ble_eq_true rfl
    | 4, _ => exact Nat.le_of_ble_eq_true rfl
    | 5, _ => exact Nat.le_of_ble_eq_true rfl
    | 6, _ => exact Nat.le_of_ble_eq_true rfl
  cases hp : X (pa i) with
  | none =>
    rw [hp] at hu
    refine ⟨[], #[], kvs, hu, by rw [U2, hu]; rfl, by simpa using d1, ?_, d2, by simp; omega, by simp [ent], .inl ⟨rfl, rfl⟩⟩
    rw [valueAt_none_of_not_mem d2]; rfl
  | some y =>
    rw [hp] at hu
    have h4 : i < 4 := by
      match i, hi with
      | 0, _ => decide
      | 1, _ => decide
      | 2, _ => decide
      | 3, _ => decide
      | 4, _ => rw [show pa 4 = 7 from rfl, x7] at hp; cases hp
      | 5, _ => rw [show pa 5 = 7 from rfl, x7] at hp; cases hp
      | 6, _ => rw [show pa 6 = 7 from rfl, x7] at hp; cases hp
    have hne : atS i ≠ atS (pa i) := by
      match i, h4 with
      | 0, _ => decide
      | 1, _ => decide
      | 2, _ => decide
      | 3, _ => decide
    have hnot : atS i ∉ (kvs ++ [(atS (pa i), Value.ref (y.a + 730))]).map (·.1) := by
      rw [List.map_append]
      intro h
      rcases List.mem_append.mp h with h | h
      · exact d2 h
      · simp at h
        exact hne h
    refine ⟨ent B (pa i) (some y), #[none], kvs ++ [(atS (pa i), Value.ref (y.a + 730))], hu, by rw [U2, hu]; rfl, DK.add B d1 y.tt (.ref (y.a + 730)) (d3 h4), ?_, hnot, ?_, rfl, .inr ⟨h4, rfl, (SK B).hash (atS (pa i)), y.tt, y.a + 730, ?_⟩⟩
    · rw [valueAt_none_of_not_mem hnot]; rfl
    · simp [ent]; omega
    · match i, h4 with
      | 0, _ => rfl
      | 1, _ => rfl
      | 2, _ => rfl
      | 3, _ => rfl
end
end Mine
end

section
open PySem PySem.Spec PySem.Calls PyProof.Rows PySem.W PySem.W.X
namespace Mine
theorem tj_same : ∀ i, i < 7 → ∀ j, j < 7 → tj j = tj i → j = i ∨ (j = pa i ∧ pa j = i) := by decide
theorem pa_same : ∀ i, i < 7 → ∀ j, j < 7 → pa j = i → j = pa i ∧ tj j = tj i := by decide
theorem pa_ne : ∀ i, i < 7 → pa i ≠ i := by decide
theorem thA_ok : ∀ i, i < 7 → (thA i == sysModules) = false := by decide
theorem thI_ok : ∀ i, i < 7 → thI i % 1024 < 1000 := by decide
theorem slotA_ok : ∀ i, i < 7 → (slotA i == sysModules) = false := by decide
theorem Jx_nodup : ∀ i, i < 7 → (Jx i).Nodup := by decide
theorem setX_at (X : Nat → Option Told) (i : Nat) (x : Told) : setX X i x i = some x := by unfold setX; rw [if_pos rfl]
theorem setX_ne (X : Nat → Option Told) {i j : Nat} (x : Told) (h : j ≠ i) : setX X i x j = X j := by unfold setX; rw [if_neg h]
section
variable {B : Bx} {G : Gx} {R₀ : Result → Shared → Prop} {n₀ : Nat}
theorem ent_more (F : Nat → Obj → Prop) (i : Nat) (x : Option Told) : ent (B.add F) i x = ent B i x := by cases x <;> rfl
theorem ent_grow {B' : Bx} (g : Grow B B') (i : Nat) (x : Option Told) : ent B' i x = ent B i x := by
  rcases g with rfl | ⟨F, rfl⟩
  · rfl
  · exact ent_more F i x
theorem Inv.grow {B' : Bx} {k : Nat} {D : Dt} {X : Nat → Option Told} (g : Grow B B') (I : Inv B k D X) : Inv B' k D X := by
  rcases g with rfl | ⟨F, rfl⟩
  · exact I
  · exact I.more F
theorem afterAsk {B' : Bx} (g : Grow B B') {k : Nat} {D : Dt} {X : Nat → Option Told} (I : Inv B k D X) {i : Nat} (hi : i < 7) (x : Told) (T : OkT B' i k x) (u : List DictEntry) (hu : u = ent B (pa i) (X (pa i))) :
    Inv B' k (retD (askU B D i u x.tt x.a (D.e (tj i))) i x.a x.b) (setX X i x) := by
  have I' := I.grow g
  refine ⟨I'.c, fun j hj => ?_, fun j hj => ?_, ?_, fun j hj => ⟨(I'.inst j hj).ex⟩⟩
  · by_cases q : j = i
    · subst q
      rw [setX_at]
      exact ⟨upd_at _ _ _, upd_at _ _ _, T⟩
    · rw [setX_ne X x q]
      show OkX B' j k (X j) (upd D.sn i _ j) (upd D.kp i _ j)
      rw [upd_ne _ _ _ _ (fun z => q z.symm), upd_ne _ _ _ _ (fun z => q z.symm)]
      exact I'.x j hj
  · unfold UOk
    show (upd D.u (tj i) (uNew B i u x.tt x.a) (tj j) = _ ∨ upd D.u (tj i) (uNew B i u x.tt x.a) (tj j) = _) ∧ upd D.s (tj i) #[none] (tj j) = slotsOf (upd D.u (tj i) (uNew B i u x.tt x.a) (tj j))
    by_cases q : tj j = tj i
    · rw [q, upd_at, upd_at]
      have hs : (#[none] : Array (Option Value)) = slotsOf (uNew B i u x.tt x.a) := by
        unfold uNew
        cases u <;> rfl
      refine ⟨?_, hs⟩
      have hn : uNew B i u x.tt x.a = ent B (pa i) (X (pa i)) ++ ent B i (some x) := by rw [hu]; rfl
      rcases tj_same i hi j hj q with rfl | ⟨e1, e2⟩
      · right
        rw [setX_at, setX_ne X x (pa_ne j hi), ent_grow g, ent_grow g, hn]
      · left
        rw [e2, setX_at, setX_ne X x (by rw [e1]; exact pa_ne i hi), ent_grow g, ent_grow g, hn, e1]
    · rw [upd_ne _ _ _ _ (fun z => q z.symm), upd_ne _ _ _ _ (fun z => q z.symm)]
      have q1 : j ≠ i := fun z => q (by rw [z])
      have q2 : pa j ≠ i := fun z => q (pa_same i hi j hj z).2
      rw [setX_ne X x q1, setX_ne X x q2]
      exact I'.u j hj
  · rw [setX_ne X x (by omega)]
    exact I.x7
/-- what an asking comes to -/
theorem askSpec (V : EvAsk G) (VS : ∀ (B : Bx) fa p1, EvSame (G.within (cA B G fa) p1)) (O : B.Ok (n₀ + 3)) (F : G.Fits B) {k : Nat} {D : Dt} {X : Nat → Option Told} (I : Inv B k D X) (hk : k ≤ 62) {i : Nat} (hi : i < 7) {rest : List Row} (S : Sub Jw rest)
    (K : ∀ B', Grow B B' → ∀ D' X', Inv B' k D' X' → Keep D D' → AskEnd B' R₀ D' (extOf X' ++ rest)) : AtAsk B R₀ D i (extOf X ++ rest) := by
  have hline := line20
  have Sb := sub_but X i hi S
  have E : ExtOk (Jx i) (extBut X i ++ rest) := Sb.ok (Jx_nodup i hi)
  have C := I.c i hi
  have XX := I.x i hi
  have U := I.u i hi
  -- back from the asking
  have back : ∀ (B' : Bx), Grow B B' → ∀ (x : Told) (u : List DictEntry), OkT B' i k x → u = ent B (pa i) (X (pa i)) → ∀ B2, B2 = B → AskEnd B' R₀ (retD (askU B2 D i u x.tt x.a (D.e (tj i))) i x.a x.b) (ownR i x.a x.b x.told x.rows ++ (extBut X i ++ rest)) := fun B' g x u T hu B2 hB2 c p y m tk => by
    subst hB2
    have z := K B' g _ _ (afterAsk g I hi x T u hu) ⟨rfl, rfl, rfl, rfl, rfl, rfl, rfl, rfl, rfl, rfl, rfl⟩ c p y m tk
    have z := MnC.join _ (setX X i x) i hi S z
    rw [setX_at, extBut_set] at z
    exact z
  cases hx : X i with
  | some x =>
    rw [hx] at XX
    obtain ⟨x1, x2, x3⟩ := XX
    have key : ∃ (two : Bool) (h' : Int) (t' v' : Nat) (hh : Int) (u : List DictEntry), D.u (tj i) = uA i two h' t' v' hh x.tt x.a u ∧ ∃ n hs, EvAg G i 402 two n hs := by
      rcases U.1 with h | h
      · rw [hx] at h
        obtain ⟨n, hs, z⟩ := V.ag i hi
        exact ⟨false, 0, 0, 0, (SK B).hash (atS i), _, h, n, hs, z⟩
      · rw [hx] at h
        cases hp : X (pa i) with
        | none =>
          rw [hp] at h
          obtain ⟨n, hs, z⟩ := V.ag i hi
          exact ⟨false, 0, 0, 0, (SK B).hash (atS i), [], h, n, hs, z⟩
        | some y =>
          rw [hp] at h
          have h4 : i < 4 := by
            match i, hi with
            | 0, _ => decide
            | 1, _ => decide
            | 2, _ => decide
            | 3, _ => decide
            | 4, _ => rw [show pa 4 = 7 from rfl, I.x7] at hp; cases hp
            | 5, _ => rw [show pa 5 = 7 from rfl, I.x7] at hp; cases hp
            | 6, _ => rw [show pa 6 = 7 from rfl, I.x7] at hp; cases hp
          obtain ⟨n, hs, z⟩ := V.ag' i h4
          refine ⟨true, (SK B).hash (atS (pa i)), y.tt, y.a + 730, (SK B).hash (atS i), [], ?_, n, hs, z⟩
          rw [h]
          match i, h4 with
          | 0, _ => rfl
          | 1, _ => rfl
          | 2, _ => rfl
          | 3, _ => rfl
    obtain ⟨two, h', t', v', hh, u, hu, n, hs, hev⟩ := key
    have st := stAg (R₀ := R₀) O F hev D (extBut X i ++ rest) E h' t' v' hh x.tt x.a u x.b x.told x.rows
    rw [upd_self D.u (tj i) _ hu, upd_self D.sn i _ x1, upd_self D.kp i _ x2] at st
    have hret : retD D i x.a x.b = D := by
      unfold retD
      rw [upd_self D.sn i _ x1, upd_self D.kp i _ x2]
    refine fun p t y m tk => MnC.split D X i hi S ?_
    rw [hx]
    refine st (fun fa => retSpec V VS O F hk hi Sb D C x x3 fa ?_) p t y m tk
    rw [hret]
    intro c p y m tk
    have z := MnC.join D X i hi S (K B (.inl rfl) D X I (Keep.refl D) c p y m tk)
    rw [hx] at z
    exact z
  | none =>
    rw [hx] at XX
    obtain ⟨u, sl, kvs, hu, hsl, dk, hv, hnot, hlen, hue, alt⟩ := firstDK hi (I.inst i hi) (k := k) U I.x7 hx
    refine fun p t y m tk => MnC.split D X i hi S ?_
    rw [hx]
    show MnC B R₀ ⟨_, _, _, _, rowT (rowsB D ++ (extBut X i ++ rest)), _, _, _⟩
    unfold OkC at C
    cases hm : isMap i with
    | true =>
      rw [hm] at C
      obtain ⟨ces, ce, kvs0, c1, c2, c3, c4⟩ := C
      have hD := preA_self hu hsl c1 XX
      have hS : setC D i (dobS ces ce #[]) = D := setC_self c1
      have hev : ∃ n hs n2 hs2 n3 hs3, EvAm G i 402 u sl n hs n2 hs2 n3 hs3 := by
        rcases alt with ⟨rfl, rfl⟩ | ⟨h4, rfl, h, t, v, rfl⟩
        · exact V.am i hi hm
        · obtain ⟨n, hs, n2, hs2, n3, hs3, z⟩ := V.am' i h4 hm
          exact ⟨n, hs, n2, hs2, n3, hs3, z h t v⟩
      obtain ⟨n, hs, n2, hs2, n3, hs3, hev⟩ := hev
      have st := stAm (R₀ := R₀) O F hev D (extBut X i ++ rest) E ces ce (D.e (tj i)) kvs dk (thA_ok i hi) hv hnot (by omega) (thI_ok i hi) kvs0 c2 (slotA_ok i hi) (by omega)
      rw [hD, hS] at st
      refine st (fun F' as er es' e' a b tt fa dk' hl hF => ?_) p t y m tk
      have T : OkT (B.add F') i k ⟨a, b, dobS es' e' #[], lob ⟨as.map .ref⟩ er, tt⟩ := by
        unfold OkT
        rw [hm]
        refine ⟨es', e', kvs0, as, er, rfl, rfl, dk'.more F', hl, by omega, fun kv hkv => (c4 kv hkv).2, fun j b q => ?_⟩
        obtain ⟨k', x, t, q1, q2, q3⟩ := hF j b q
        obtain ⟨⟨x', hx', ex⟩, _⟩ := c4 (k', x) (List.mem_of_getElem? q1)
        simp only at ex
        subst ex
        exact ⟨k', x', t, q1, hx', .inr q2, q3⟩
      exact retSpec V VS (O.add F') (F.add F') hk hi Sb (askU B D i u tt a (D.e (tj i))) ((I.c i hi).more F') ⟨a, b, _, _, tt⟩ T fa (back _ (.inr ⟨F', rfl⟩) ⟨a, b, _, _, tt⟩ u T hue B rfl)
    | false =>
      rw [hm] at C
      obtain ⟨cxs, ce, c1, c2, c3⟩ := C
      have hD := preA_self hu hsl c1 XX
      cases cxs with
      | nil =>
        have hS : setC D i (lob #[] ce) = D := setC_self c1
        have hev : ∃ k old n hs n3 hs3, EvAe G i 402 u sl k old n hs n3 hs3 := by
          rcases alt with ⟨rfl, rfl⟩ | ⟨h4, rfl, h, t, v, rfl⟩
          · exact V.ae i hi hm
          · obtain ⟨k', old, n, hs, n3, hs3, z⟩ := V.ae' i h4 hm
            exact ⟨k', old, n, hs, n3, hs3, z h t v⟩
        obtain ⟨k', old, n, hs, n3, hs3, hev⟩ := hev
        have st := stAe (R₀ := R₀) O F hev D (extBut X i ++ rest) E ce (D.e (tj i)) kvs dk (thA_ok i hi) hv hnot (by omega) (thI_ok i hi)
        rw [hS] at st
        have hD' : preA D i u (D.e (tj i)) sl (lob #[] ce) = D := hD
        rw [hD'] at st
        refine st (fun er a b tt fa => ?_) p t y m tk
        have T : OkT B i k ⟨a, b, tob #[] 0, lob #[] er, tt⟩ := by
          unfold OkT
          rw [hm]
          exact ⟨[], 0, er, rfl, rfl, by simp, (fun v hv => (by cases hv))⟩
        exact retSpec V VS O F hk hi Sb (askU B D i u tt a (D.e (tj i))) (I.c i hi) ⟨a, b, _, _, tt⟩ T fa (back _ (.inl rfl) ⟨a, b, _, _, tt⟩ u T hue B rfl)
      | cons w ws =>
        have hS : setC D i (lob ⟨w :: ws⟩ ce) = D := setC_self c1
        have hev : ∃ n hs n2 hs2 n3 hs3, EvAl G i 402 u sl n hs n2 hs2 n3 hs3 := by
          rcases alt with ⟨rfl, rfl⟩ | ⟨h4, rfl, h, t, v, rfl⟩
          · exact V.al i hi hm
          · obtain ⟨n, hs, n2, hs2, n3, hs3, z⟩ := V.al' i h4 hm
            exact ⟨n, hs, n2, hs2, n3, hs3, z h t v⟩
        obtain ⟨n, hs, n2, hs2, n3, hs3, hev⟩ := hev
        have hwl : (w :: ws).length = ws.length + 1 := rfl
        have st := stAl (R₀ := R₀) O F hev D (extBut X i ++ rest) E w ws ce (D.e (tj i)) (by show ((ws.length + 1 : Nat) : Int) < 2 ^ 63; omega) kvs dk (thA_ok i hi) hv hnot (by omega) (thI_ok i hi) (by omega)
        rw [hD, hS] at st
        refine st (fun er a b tt fa => ?_) p t y m tk
        have T : OkT B i k ⟨a, b, tob ⟨w :: ws⟩ 0, lob ⟨w :: ws⟩ er, tt⟩ := by
          unfold OkT
          rw [hm]
          exact ⟨w :: ws, 0, er, rfl, rfl, c2, c3⟩
        exact retSpec V VS O F hk hi Sb (askU B D i u tt a (D.e (tj i))) (I.c i hi) ⟨a, b, _, _, tt⟩ T fa (back _ (.inl rfl) ⟨a, b, _, _, tt⟩ u T hue B rfl)
end
end Mine
end

section
open PySem PySem.Spec PySem.Calls PyProof.Rows PySem.W PySem.W.X
namespace Mine
section
variable {B B' : Bx} {G : Gx} {R₀ : Result → Shared → Prop} {n₀ : Nat}
/-! another world of the same kind -/
theorem DK.to (hp : B'.prog = B.prog) (hw : B'.w = B.w) {es : List DictEntry} {kvs : List (Str × Value)} (d : DK B es kvs) : DK B' es kvs := by
  refine ⟨?_, ?_, d.nodup⟩
  · have := d.keys
    revert this
    rw [show (SK B') = strKind B'.prog B'.w from rfl, hp, hw]
    exact id
  · have := d.pairs
    revert this
    rw [show (SK B') = strKind B'.prog B'.w from rfl, hp, hw]
    exact id
theorem hash_to (hp : B'.prog = B.prog) (hw : B'.w = B.w) (s : Str) : (SK B').hash s = (SK B).hash s := by
  rw [show (SK B') = strKind B'.prog B'.w from rfl, hp, hw]
theorem ent_to (hp : B'.prog = B.prog) (hw : B'.w = B.w) (i : Nat) (x : Option Told) : ent B' i x = ent B i x := by
  cases x with
  | none => rfl
  | some x => unfold ent; simp only; rw [hash_to hp hw]
theorem OkC.to (hp : B'.prog = B.prog) (hw : B'.w = B.w) {i k k' : Nat} (hk : k ≤ k') {c : Obj} (h : OkC B i k c) : OkC B' i k' c := by
  unfold OkC at h ⊢
  cases hm : isMap i with
  | true =>
    rw [hm] at h
    obtain ⟨es, e, kvs, h1, h2, h3, h4⟩ := h
    exact ⟨es, e, kvs, h1, h2.to hp hw, by omega, fun kv hkv => ⟨(h4 kv hkv).1, (h4 kv hkv).2.mono hk⟩⟩
  | false =>
    rw [hm] at h
    obtain ⟨xs, e, h1, h2, h3⟩ := h
    exact ⟨xs, e, h1, by omega, h3⟩
theorem OkT.to (hp : B'.prog = B.prog) (hw : B'.w = B.w) (hf : ∀ a o, B.fz a o → B'.fz a o) {i k k' : Nat} (hk : k ≤ k') {x : Told} (h : OkT B i k x) : OkT B' i k' x := by
  unfold OkT at h ⊢
  cases hm : isMap i with
  | true =>
    rw [hm] at h
    obtain ⟨es, e, kvs, as, er, h1, h2, h3, h4, h5, h6, h7⟩ := h
    refine ⟨es, e, kvs, as, er, h1, h2, h3.to hp hw, h4, by omega, fun kv hkv => (h6 kv hkv).mono hk, fun j b q => ?_⟩
    obtain ⟨k', x, t, q1, q2, q3, q4⟩ := h7 j b q
    exact ⟨k', x, t, q1, q2, hf _ _ q3, q4⟩
  | false =>
    rw [hm] at h
    obtain ⟨xs, te, er, h1, h2, h3, h4⟩ := h
    exact ⟨xs, te, er, h1, h2, by omega, h4⟩
theorem OkX.to (hp : B'.prog = B.prog) (hw : B'.w = B.w) (hf : ∀ a o, B.fz a o → B'.fz a o) {i k k' : Nat} (hk : k ≤ k') {x : Option Told} {sn kp : Value} (h : OkX B i k x sn kp) : OkX B' i k' x sn kp := by
  cases x with
  | none => exact h
  | some x => exact ⟨h.1, h.2.1, h.2.2.to hp hw hf hk⟩
theorem Inv.to (hp : B'.prog = B.prog) (hw : B'.w = B.w) (hf : ∀ a o, B.fz a o → B'.fz a o) {k k' : Nat} (hk : k ≤ k') {D : Dt} {X : Nat → Option Told} (I : Inv B k D X) : Inv B' k' D X :=
  ⟨fun i hi => (I.c i hi).to hp hw hk, fun i hi => (I.x i hi).to hp hw hf hk, fun i hi => by
    have := I.u i hi
    unfold UOk at this ⊢
    rw [ent_to hp hw, ent_to hp hw]
    exact this, I.x7, fun i hi => ⟨(I.inst i hi).ex.imp fun _ z => ⟨z.1.to hp hw, z.2⟩⟩⟩
/-- only what the invariant asks -/
theorem Inv.like {k : Nat} {D D' : Dt} {X : Nat → Option Told} (I : Inv B k D X) (h1 : D'.c = D.c) (h2 : D'.sn = D.sn) (h3 : D'.kp = D.kp) (h4 : D'.u = D.u) (h5 : D'.s = D.s) (h6 : D'.τ = D.τ) (h7 : D'.η = D.η) : Inv B k D' X := by
  refine ⟨fun i hi => ?_, fun i hi => ?_, fun i hi => ?_, I.x7, fun i hi => ⟨?_⟩⟩
  · rw [h1]; exact I.c i hi
  · rw [h2, h3]; exact I.x i hi
  · unfold UOk; rw [h4, h5]; exact I.u i hi
  · rw [h6, h7]; exact (I.inst i hi).ex
/-- another thing is handed -/
theorem Inv.setC {k : Nat} {D : Dt} {X : Nat → Option Told} (I : Inv B k D X) {i : Nat} {c : Obj} (C : OkC B i (k + 1) c) : Inv B (k + 1) (setC D i c) X := by
  have I' := I.to (B' := B) rfl rfl (fun _ _ h => h) (Nat.le_succ k)
  refine ⟨fun j hj => ?_, I'.x, I'.u, I'.x7, fun j hj => ⟨(I'.inst j hj).ex⟩⟩
  show OkC B j (k + 1) (upd D.c i c j)
  by_cases q : i = j
  · subst q; rw [upd_at]; exact C
  · rw [upd_ne _ _ _ _ q]; exact I'.c j hj
/-! a new thing that stands still from now on -/
theorem rowT_none : ∀ (l : List Row) (j : Nat), (∀ r ∈ l, r.new % 1024 ≠ j % 1024) → (rowT l).get j = none
  | [], j, _ => get_nil j
  | r :: l, j, h => by
    rw [show (rowT (r :: l)) = (rowT l).put r.new r.a r.o from rfl, OT.get_put, if_neg (h r List.mem_cons_self)]
    exact rowT_none l j fun s hs => h s (List.mem_cons_of_mem _ hs)
def only (a : Nat) (o : Obj) : Nat → Obj → Prop := fun a' o' => a' = a ∧ o' = o
theorem MnC.freeze {c : Code} {κ : Kn} {t : Sem PySem.Fin} {p : Pos} {m sz tk : Nat} (j a : Nat) (o : Obj) (l : List Row) (hj : j % 1024 < 1000) (hn : ∀ r ∈ l, r.new % 1024 ≠ j % 1024) (H : MnC (B.add (only a o)) R₀ ⟨c, κ, t, p, rowT l, m, sz, tk⟩) : MnC B R₀ ⟨c, κ, t, p, rowT (row j a o :: l), m, sz, tk⟩ := fun h D => by
  have D : Rp B ((rowT l).put j a o) sz h := D
  have up : ∀ i x, (rowT l).get i = some x → i % 1024 ≠ j % 1024 ∧ ((rowT l).put j a o).get i = some x := fun i x e => by
    have q : i % 1024 ≠ j % 1024 := fun z => by
      have := rowT_none l i (fun r hr w => hn r hr (w.trans z))
      rw [this] at e; cases e
    exact ⟨q, by rw [OT.get_put, if_neg (fun z => q z.symm)]; exact e⟩
  have self : ((rowT l).put j a o).get j = some (a, o) := by rw [OT.get_put, if_pos rfl]
  refine H h ⟨D.size, fun i a' o' e q => ?_, fun i a' o' e q => .inl (D.ro i a' o' (up i _ e).2 q), fun i i' a' o' o'' e e' q q' => D.inj i i' a' o' o'' (up i _ e).2 (up i' _ e').2 q q', fun b o' z => ?_⟩
  · obtain ⟨w1, w2⟩ := up i _ e
    refine ⟨(D.own i a' o' w2 q).1, fun o'' z => ?_⟩
    rcases z with z | ⟨rfl, _⟩
    · exact (D.own i a' o' w2 q).2 o'' z
    · exact w1 (D.inj i j _ _ _ w2 self q hj)
  · rcases z with z | ⟨rfl, rfl⟩
    · exact D.keep b o' z
    · exact (D.own j _ _ self hj).1
end
/-! the numbers of a turn -/
theorem poolAt : ∀ i, i < 7 → ∀ p : Nat, p < 3 → ∃ x ∈ pool i, HyP i p x := by
  intro i hi p hp
  have hh : ∀ p : Nat, p < 3 → (0 : Int) ≤ (p : Int) ∧ (p : Int) < 2 ^ 63 := fun p hp => ⟨Int.natCast_nonneg p, by omega⟩
  match i, hi, p, hp with
  | 0, _, 0, hp => exact ⟨614, by decide, (hh 0 hp).1, (hh 0 hp).2, rfl⟩
  | 0, _, 1, hp => exact ⟨620, by decide, (hh 1 hp).1, (hh 1 hp).2, rfl⟩
  | 0, _, 2, hp => exact ⟨626, by decide, (hh 2 hp).1, (hh 2 hp).2, rfl⟩
  | 1, _, 0, hp => exact ⟨549, by decide, (hh 0 hp).1, (hh 0 hp).2, rfl⟩
  | 1, _, 1, hp => exact ⟨558, by decide, (hh 1 hp).1, (hh 1 hp).2, rfl⟩
  | 1, _, 2, hp => exact ⟨567, by decide, (hh 2 hp).1, (hh 2 hp).2, rfl⟩
  | 2, _, 0, hp => exact ⟨614, by decide, (hh 0 hp).1, (hh 0 hp).2, rfl⟩
  | 2, _, 1, hp => exact ⟨620, by decide, (hh 1 hp).1, (hh 1 hp).2, rfl⟩
  | 2, _, 2, hp => exact ⟨626, by decide, (hh 2 hp).1, (hh 2 hp).2, rfl⟩
  | 3, _, 0, hp => exact ⟨549, by decide, (hh 0 hp).1, (hh 0 hp).2, rfl⟩
  | 3, _, 1, hp => exact ⟨558, by decide, (hh 1 hp).1, (hh 1 hp).2, rfl⟩
  | 3, _, 2, hp => exact ⟨567, by decide, (hh 2 hp).1, (hh 2 hp).2, rfl⟩
  | 4, _, 0, hp => exact ⟨638, by decide, (hh 0 hp).1, (hh 0 hp).2, rfl⟩
  | 4, _, 1, hp => exact ⟨642, by decide, (hh 1 hp).1, (hh 1 hp).2, rfl⟩
  | 4, _, 2, hp => exact ⟨646, by decide, (hh 2 hp).1, (hh 2 hp).2, rfl⟩
  | 5, _, 0, hp => exact ⟨656, by decide, (hh 0 hp).1, (hh 0 hp).2, rfl⟩
  | 5, _, 1, hp => exact ⟨660, by decide, (hh 1 hp).1, (hh 1 hp).2, rfl⟩
  | 5, _, 2, hp => exact ⟨664, by decide, (hh 2 hp).1, (hh 2 hp).2, rfl⟩
  | 6, _, 0, hp => exact ⟨582, by decide, (hh 0 hp).1, (hh 0 hp).2, rfl⟩
  | 6, _, 1, hp => exact ⟨591, by decide, (hh 1 hp).1, (hh 1 hp).2, rfl⟩
  | 6, _, 2, hp => exact ⟨600, by decide, (hh 2 hp).1, (hh 2 hp).2, rfl⟩
theorem nameOf (ch : Nat) {k : Nat} (hk : k < 64) (hl : (kstr ch k).length ≤ 21) : HyN k ch (Str.ofString (toString (k : Int))) (kstr ch k) := by
  refine ⟨rfl, ?_, rfl, (kid_len k hk).1, ?_⟩
  · have := Nat.log2_le_self k
    show Nat.log2 (Int.natAbs (k : Int)) < 1920
    rw [Int.natAbs_natCast]; omega
  · have := line20; omega
end Mine
end

section
open PySem PySem.Spec PySem.Calls PyProof.Rows PySem.W PySem.W.X
namespace Mine
/-- the names of the loop in the law's frame: none yet, or all -/
def LT (lt tl : List DictEntry) : Prop := (lt = [] ∧ tl = []) ∨ ∃ τ η v0 v1 v2 v3 v4 v5 v6 v7, lt = ltM τ η v0 v1 v2 v3 v4 v5 v6 v7 tl
def TL (tl : List DictEntry) : Prop := tl = [] ∨ ∃ ηt τt vt, tl = [toldE ηt τt vt]
def LT3 (lt : List DictEntry) : Prop := ∃ τ η v0 v1 v2 v3 v4 v5 v6 v7 tl, TL tl ∧ lt = ltM τ η v0 v1 v2 v3 v4 v5 v6 v7 tl
/-- the equations of a turn, for one world -/
structure EvTurn (G : Gx) : Prop where
  w0m : ∀ i, i < 7 → isMap i = true → ∀ lt tl, LT lt tl → ∃ kn n hs, EvW0m G i lt tl kn n hs
  w0l : ∀ i, i < 7 → isMap i = false → ∀ lt tl, LT lt tl → ∃ n hs, EvW0l G i lt tl n hs
  w1m : ∀ i, i < 7 → isMap i = true → ∀ lt tl, LT lt tl → ∃ n hs n2 hs2, EvW1m G i lt tl n hs n2 hs2
  w1l : ∀ i, i < 7 → isMap i = false → ∀ lt tl, LT lt tl → ∃ n hs, EvW1l G i lt tl n hs
  k2 : ∀ i, i < 7 → ∀ lt tl, LT lt tl → ∃ n hs n2 hs2, EvTA G i lt tl 2 md0 n hs n2 hs2
  k3l : ∀ i, i < 7 → isMap i = false → ∀ lt tl, LT lt tl → ∃ n hs n2 hs2, EvTA G i lt tl 3 md0 n hs n2 hs2
  k1l : ∀ i, i < 7 → isMap i = false → ∀ lt tl, LT lt tl → ∃ n hs n2 hs2, EvTA G i lt tl 1 (mdL i) n hs n2 hs2
  k1m : ∀ i, i < 7 → isMap i = true → ∀ lt tl, LT lt tl → ∃ n hs n2 hs2, EvTA G i lt tl 1 (mdM i) n hs n2 hs2
  k3m : ∀ i, i < 7 → isMap i = true → ∀ lt tl, LT lt tl → ∃ n hs n2 hs2, EvTA G i lt tl 3 (mdN i) n hs n2 hs2
  w3 : ∀ i, i < 7 → isMap i = true → ∀ two, (two = true → i < 4) → ∀ lt, LT3 lt → ∃ tn ti kn n hs, EvW3 G i lt two tn ti kn n hs
theorem head_self {D : Dt} {k : Int} {r : Nat} (hv : D.v = k) (hl : D.left = Int.ofNat (Nat.succ r)) : headD D D.lt k r = D := by
  subst hv
  cases D
  simp only at hl
  subst hl
  rfl
theorem LT3.next (D : Dt) (i : Nat) {tl : List DictEntry} (h : TL tl) (k number way more pick : Int) (r : Nat) (x : Option (Nat × Obj)) : LT3 (nextD D i tl k number way more pick r x).lt :=
  by
  have e : (nextD D i tl k number way more pick r x).lt = midL i (fun j => ktA x (9 + j)) (fun j => khA x (9 + j)) (fun j => vtA x (9 + j) - 1) k number more way pick tl := rfl
  unfold midL at e
  exact ⟨_, _, _, _, _, _, _, _, _, _, tl, h, e⟩
theorem slot_lt : ∀ i, i < 7 → (slotA i - 529) % 1024 < 1000 := by decide +kernel
theorem push_eq (xs : List Value) (v : Value) : (⟨xs⟩ : Array Value).push v = ⟨xs ++ [v]⟩ := by
  apply Array.ext'
  simp
section
variable {B : Bx} {G : Gx} {R₀ : Result → Shared → Prop} {n₀ : Nat}
theorem Jall_nodup : Jall.Nodup := by decide
theorem ext_ok (X : Nat → Option Told) : ExtOk Jall (extOf X ++ []) := (sub_all X (Sub.nil Jw)).ok Jall_nodup
/-- what goes on after a turn -/
def Next (B : Bx) (G : Gx) (R₀ : Result → Shared → Prop) (k r : Nat) (D : Dt) : Prop :=
  ∀ B', Grow B B' → ∀ D' X', Inv B' (k + 1) D' X' → D'.v = ((k + 1 : Nat) : Int) → D'.left = Int.ofNat r → D'.deeds = D.deeds → LT3 D'.lt → AtHead B' G R₀ D' (extOf X' ++ [])
theorem left_pred (r : Nat) : Int.ofNat (Nat.succ r) - 1 = Int.ofNat r := by show ((r + 1 : Nat) : Int) - 1 = r; omega
/-- a turn that asks -/
theorem turnAsk (VA : ∀ (B : Bx) p1, EvAsk (G.within (cL B G) p1)) (VS : ∀ (B B' : Bx) p1 fa p2, EvSame ((G.within (cL B G) p1).within (cA B' (G.within (cL B G) p1) fa) p2)) (O : B.Ok (n₀ + 4)) (F : G.Fits B) {k r : Nat} (hk : k ≤ 61) {D : Dt} {X : Nat → Option Told} (I : Inv B k D X)
    (hv : D.v = (k : Int)) (hl : D.left = Int.ofNat (Nat.succ r)) {i : Nat} (hi : i < 7) {lt tl : List DictEntry} (hlt : D.lt = lt) (htl : TL tl) {way : Int} {md : Nat → Dt → Dt} {e n hs n2 hs2 : Nat} (h : EvTA G i lt tl way md n hs n2 hs2) (hmd : md e D = D) {number more q pick : Int} {nt : Nat} (Hy : Hy1 (k : Int) number way more i q pick D.deeds nt)
    (K : Next B G R₀ k r D) : AtHead B G R₀ D (extOf X ++ []) := by
  have st := stTA (R₀ := R₀) O F h D (extOf X ++ []) (ext_ok X) e r (k : Int) number more q pick nt Hy
  rw [hmd] at st
  have hh := head_self hv hl
  rw [hlt] at hh
  rw [hh] at st
  refine st fun w p1 R₁ KF K0 => ?_
  have I1 : Inv B k (nextD D i tl (k : Int) number way more pick r w) X := I.like rfl rfl rfl rfl rfl rfl rfl
  have I2 : Inv (B.within (cL B G) p1) k (nextD D i tl (k : Int) number way more pick r w) X := Inv.to (B := B) (B' := B.within (cL B G) p1) rfl rfl (fun _ _ h => h) (Nat.le_refl k) I1
  refine askSpec (VA B p1) (fun B' fa p2 => VS B B' p1 fa p2) (O.within _ _) (F.within _ _) I2 (by omega) hi (Sub.nil Jw) fun B' g D' X' I' P => ?_
  rcases g with rfl | ⟨F', rfl⟩
  · refine K0 D' _ (ext_ok X') (K B (.inl rfl) D' X' (Inv.to (B := B.within (cL B G) p1) (B' := B) rfl rfl (fun _ _ h => h) (Nat.le_succ k) I') ?_ ?_ P.deeds ?_)
    · rw [P.v]; show (k : Int) + 1 = ((k + 1 : Nat) : Int); omega
    · rw [P.left]; exact left_pred r
    · rw [P.lt]; exact LT3.next D i htl _ _ _ _ _ _ _
  · refine KF F' D' _ (ext_ok X') (K (B.add F') (.inr ⟨F', rfl⟩) D' X' (Inv.to (B := (B.within (cL B G) p1).add F') (B' := B.add F') rfl rfl (fun _ _ h => h) (Nat.le_succ k) I') ?_ ?_ P.deeds ?_)
    · rw [P.v]; show (k : Int) + 1 = ((k + 1 : Nat) : Int); omega
    · rw [P.left]; exact left_pred r
    · rw [P.lt]; exact LT3.next D i htl _ _ _ _ _ _ _
/-- the end of a turn that asks nothing -/
theorem nextOf {k r : Nat} {D : Dt} {X : Nat → Option Told} (I : Inv B k D X) {i : Nat} {tl : List DictEntry} (htl : TL tl) (K : Next B G R₀ k r D) (c : Obj) (C : OkC B i (k + 1) c) (number way more pick : Int) (w : Option (Nat × Obj)) :
    AtHead B G R₀ (nextD (setC D i c) i tl (k : Int) number way more pick r w) (extOf X ++ []) :=
  K B (.inl rfl) (nextD (setC D i c) i tl (k : Int) number way more pick r w) X ((I.setC C).like (D' := nextD (setC D i c) i tl (k : Int) number way more pick r w) rfl rfl rfl rfl rfl rfl rfl) (by show (k : Int) + 1 = ((k + 1 : Nat) : Int); omega) (left_pred r) rfl (LT3.next (setC D i c) i htl _ _ _ _ _ _ _)
theorem turn0 (V : EvTurn G) (O : B.Ok (n₀ + 4)) (F : G.Fits B) {k r : Nat} (hk : k ≤ 61) {D : Dt} {X : Nat → Option Told} (I : Inv B k D X)
    (hv : D.v = (k : Int)) (hl : D.left = Int.ofNat (Nat.succ r)) {i : Nat} (hi : i < 7) {lt tl : List DictEntry} (hlt : D.lt = lt) (hLT : LT lt tl) (htl : TL tl) {number more q : Int} {pk' : Nat} (hp3 : pk' < 3) {nt : Nat} (Hy : Hy1 (k : Int) number 0 more i q pk' D.deeds nt)
    (K : Next B G R₀ k r D) : AtHead B G R₀ D (extOf X ++ []) := by
  have hline := line20
  have hh := head_self hv hl
  rw [hlt] at hh
  obtain ⟨x, hx, HP⟩ := poolAt i hi pk' hp3
  have C := I.c i hi
  unfold OkC at C
  have hsl := slot_lt i hi
  cases hm : isMap i with
  | true =>
    rw [hm] at C
    obtain ⟨es, e, kvs, c1, c2, c3, c4⟩ := C
    obtain ⟨kn, n, hs, h⟩ := V.w0m i hi hm lt tl hLT
    have hes : es.length = kvs.length := c2.pairs.length
    have hnew : kstr 107 k ∉ kvs.map (·.1) := fun hq => by
      obtain ⟨kv, q1, q2⟩ := List.mem_map.mp hq
      exact new_k (by omega) (q2 ▸ (c4 kv q1).2)
    have st := stW0m (R₀ := R₀) O F h D (extOf X ++ []) (ext_ok X) r (k : Int) number more q pk' nt Hy x _ (kstr 107 k) es e kvs HP (nameOf 107 (by omega) (kid_len k (by omega)).2.1) c2 hnew (by omega) hsl
    rw [setC_self c1, hh] at st
    refine st fun tt w => nextOf I htl K _ ?_ _ _ _ _ _
    unfold OkC
    rw [hm]
    refine ⟨_, _, kvs ++ [(kstr 107 k, Value.ref x)], rfl, DK.add B c2 tt (.ref x) hnew, by simp; omega, fun kv hkv => ?_⟩
    rcases List.mem_append.mp hkv with hkv | hkv
    · exact ⟨(c4 kv hkv).1, (c4 kv hkv).2.mono (Nat.le_succ k)⟩
    · rw [List.mem_singleton] at hkv
      subst hkv
      exact ⟨⟨x, hx, rfl⟩, old_k k⟩
  | false =>
    rw [hm] at C
    obtain ⟨xs, e, c1, c2, c3⟩ := C
    obtain ⟨n, hs, h⟩ := V.w0l i hi hm lt tl hLT
    have st := stW0l (R₀ := R₀) O F h D (extOf X ++ []) (ext_ok X) r (k : Int) number more q pk' nt Hy x ⟨xs⟩ e HP (by show xs.length ≤ sizeLine; omega) hsl
    rw [setC_self c1, hh] at st
    refine st fun w => nextOf I htl K _ ?_ _ _ _ _ _
    unfold OkC
    rw [hm]
    refine ⟨xs ++ [.ref x], _, by rw [push_eq], by simp; omega, fun v hv => ?_⟩
    rcases List.mem_append.mp hv with hv | hv
    · exact c3 v hv
    · rw [List.mem_singleton] at hv
      exact ⟨x, hx, hv⟩
theorem turn1 (V : EvTurn G) (VA : ∀ (B : Bx) p1, EvAsk (G.within (cL B G) p1)) (VS : ∀ (B B' : Bx) p1 fa p2, EvSame ((G.within (cL B G) p1).within (cA B' (G.within (cL B G) p1) fa) p2)) (O : B.Ok (n₀ + 4)) (F : G.Fits B) {k r : Nat} (hk : k ≤ 61) {D : Dt} {X : Nat → Option Told} (I : Inv B k D X)
    (hv : D.v = (k : Int)) (hl : D.left = Int.ofNat (Nat.succ r)) {i : Nat} (hi : i < 7) {lt tl : List DictEntry} (hlt : D.lt = lt) (hLT : LT lt tl) (htl : TL tl) {number more q pick : Int} {nt : Nat} (Hy : Hy1 (k : Int) number 1 more i q pick D.deeds nt)
    (K : Next B G R₀ k r D) : AtHead B G R₀ D (extOf X ++ []) := by
  have hline := line20
  have hh := head_self hv hl
  rw [hlt] at hh
  have C := I.c i hi
  unfold OkC at C
  have hsl := slot_lt i hi
  cases hm : isMap i with
  | true =>
    rw [hm] at C
    obtain ⟨es, e, kvs, c1, c2, c3, c4⟩ := C
    cases kvs with
    | nil =>
      have : es = [] := List.eq_nil_of_length_eq_zero c2.pairs.length
      subst this
      obtain ⟨n, hs, n2, hs2, h⟩ := V.k1m i hi hm lt tl hLT
      exact turnAsk VA VS O F hk I hv hl hi hlt htl h (e := e) (setC_self c1) Hy K
    | cons kv kvs =>
      obtain ⟨k0, v0⟩ := kv
      obtain ⟨⟨v, hv0, ev⟩, _⟩ := c4 _ List.mem_cons_self
      simp only at ev
      subst ev
      cases es with
      | nil => exact absurd c2.pairs.length (by simp)
      | cons x es =>
        obtain ⟨n, hs, n2, hs2, h⟩ := V.w1m i hi hm lt tl hLT
        have hlen : (x :: es).length = ((k0, Value.ref v) :: kvs).length := c2.pairs.length
        simp only [List.length_cons] at hlen c3
        have st := stW1m (R₀ := R₀) O F h D (extOf X ++ []) (ext_ok X) r (k : Int) number more q pick nt Hy x es e k0 v kvs c2 (slotA_ok i hi) (by show ((kvs.length + 1 : Nat) : Int) < 2 ^ 63; omega) (by omega) (by omega) hsl
        rw [setC_self c1, hh] at st
        refine st fun w => nextOf I htl K _ ?_ _ _ _ _ _
        unfold OkC
        rw [hm]
        exact ⟨es, _, kvs, rfl, DK.popFirst B c2, by omega, fun kv hkv => ⟨(c4 kv (List.mem_cons_of_mem _ hkv)).1, (c4 kv (List.mem_cons_of_mem _ hkv)).2.mono (Nat.le_succ k)⟩⟩
  | false =>
    rw [hm] at C
    obtain ⟨xs, e, c1, c2, c3⟩ := C
    cases xs with
    | nil =>
      obtain ⟨n, hs, n2, hs2, h⟩ := V.k1l i hi hm lt tl hLT
      exact turnAsk VA VS O F hk I hv hl hi hlt htl h (e := e) (setC_self c1) Hy K
    | cons x xs =>
      obtain ⟨x', hx', ex⟩ := c3 x List.mem_cons_self
      subst ex
      obtain ⟨n, hs, h⟩ := V.w1l i hi hm lt tl hLT
      simp only [List.length_cons] at c2
      have st := stW1l (R₀ := R₀) O F h D (extOf X ++ []) (ext_ok X) r (k : Int) number more q pick nt Hy x' xs e (by show ((xs.length + 1 : Nat) : Int) < 2 ^ 63; omega) (by omega) hsl
      rw [setC_self c1, hh] at st
      refine st fun w => nextOf I htl K _ ?_ _ _ _ _ _
      unfold OkC
      rw [hm]
      exact ⟨xs, _, rfl, by omega, fun v hv => c3 v (List.mem_cons_of_mem _ hv)⟩
end
end Mine
end

section
open PySem PySem.Spec PySem.Calls PyProof.Rows PySem.W PySem.W.X
namespace Mine
theorem w3_apart : ∀ i, i < 7 → (((JB ++ [pT i, pR i, 340]) ++ Jx i).map (· % 1024)).Nodup := by decide +kernel
theorem w3_new : ∀ i, i < 7 → ∀ j ∈ JB ++ ([pT i, pR i] ++ Jx i), j % 1024 ≠ 340 % 1024 := by decide +kernel
theorem p_lt : ∀ i, i < 7 → pT i % 1024 < 1000 ∧ pR i % 1024 < 1000 := by decide +kernel
theorem w3_far (i : Nat) (hi : i < 7) (l : List Row) (S : Sub (JB ++ ([pT i, pR i] ++ Jx i)) l) : ∀ r ∈ l, r.new % 1024 ≠ 340 % 1024 := fun r hr => by
  rw [S.own r hr]
  exact w3_new i hi _ (S.sub.subset (List.mem_map.mpr ⟨r, hr, rfl⟩))
section
variable {B : Bx} {G : Gx} {R₀ : Result → Shared → Prop} {n₀ : Nat}
theorem uForm {k : Nat} {D : Dt} {X : Nat → Option Told} (I : Inv B k D X) {i : Nat} (hi : i < 7) {x : Told} (hx : X i = some x) :
    ∃ (two : Bool) (h' : Int) (t' v' : Nat) (hh : Int) (u : List DictEntry), D.u (tj i) = uA i two h' t' v' hh x.tt x.a u ∧ (two = true → i < 4) := by
  rcases (I.u i hi).1 with h | h
  · rw [hx] at h
    exact ⟨false, 0, 0, 0, (SK B).hash (atS i), _, h, fun z => (by cases z)⟩
  · rw [hx] at h
    cases hp : X (pa i) with
    | none =>
      rw [hp] at h
      exact ⟨false, 0, 0, 0, (SK B).hash (atS i), [], h, fun z => (by cases z)⟩
    | some y =>
      rw [hp] at h
      have h4 : i < 4 := by
        match i, hi with
        | 0, _ => decide
        | 1, _ => decide
        | 2, _ => decide
        | 3, _ => decide
        | 4, _ => rw [show pa 4 = 7 from rfl, I.x7] at hp; cases hp
        | 5, _ => rw [show pa 5 = 7 from rfl, I.x7] at hp; cases hp
        | 6, _ => rw [show pa 6 = 7 from rfl, I.x7] at hp; cases hp
      refine ⟨true, (SK B).hash (atS (pa i)), y.tt, y.a + 730, (SK B).hash (atS i), [], ?_, fun _ => h4⟩
      rw [h]
      match i, h4 with
      | 0, _ => rfl
      | 1, _ => rfl
      | 2, _ => rfl
      | 3, _ => rfl
theorem ent_set (X : Nat → Option Told) {i : Nat} {x x' : Told} (hx : X i = some x) (ha : x'.a = x.a) (ht : x'.tt = x.tt) (j l : Nat) : ent B l (setX X i x' j) = ent B l (X j) := by
  by_cases q : j = i
  · subst q
    rw [setX_at, hx]
    unfold ent
    simp only
    rw [ha, ht]
  · rw [setX_ne X x' q]
theorem Inv.told {k : Nat} {D : Dt} {X : Nat → Option Told} (I : Inv B k D X) {i : Nat} (hi : i < 7) {x : Told} (hx : X i = some x) (x' : Told) (ha : x'.a = x.a) (hb : x'.b = x.b) (ht : x'.tt = x.tt) (T : OkT B i k x') : Inv B k D (setX X i x') := by
  refine ⟨I.c, fun j hj => ?_, fun j hj => ?_, ?_, I.inst⟩
  · by_cases q : j = i
    · subst q
      have := I.x j hj
      rw [hx] at this
      rw [setX_at]
      exact ⟨by rw [hb]; exact this.1, by rw [ha]; exact this.2.1, T⟩
    · rw [setX_ne X x' q]
      exact I.x j hj
  · unfold UOk
    rw [ent_set X hx ha ht, ent_set X hx ha ht]
    exact I.u j hj
  · rw [setX_ne X x' (by omega)]
    exact I.x7
theorem turn3 (V : EvTurn G) (VA : ∀ (B : Bx) p1, EvAsk (G.within (cL B G) p1)) (VS : ∀ (B B' : Bx) p1 fa p2, EvSame ((G.within (cL B G) p1).within (cA B' (G.within (cL B G) p1) fa) p2)) (O : B.Ok (n₀ + 4)) (F : G.Fits B) {k r : Nat} (hk : k ≤ 61) {D : Dt} {X : Nat → Option Told} (I : Inv B k D X)
    (hv : D.v = (k : Int)) (hl : D.left = Int.ofNat (Nat.succ r)) {i : Nat} (hi : i < 7) {lt tl : List DictEntry} (hlt : D.lt = lt) (hLT : LT lt tl) (htl : TL tl) (hT : X i = none ∨ LT3 lt) {number more q : Int} {pk' : Nat} (hp3 : pk' < 3) {nt : Nat} (Hy : Hy1 (k : Int) number 3 more i q pk' D.deeds nt)
    (K : Next B G R₀ k r D) : AtHead B G R₀ D (extOf X ++ []) := by
  have hline := line20
  cases hm : isMap i with
  | false =>
    obtain ⟨n, hs, n2, hs2, h⟩ := V.k3l i hi hm lt tl hLT
    exact turnAsk VA VS O F hk I hv hl hi hlt htl h (e := 0) rfl Hy K
  | true =>
    have XX := I.x i hi
    cases hx : X i with
    | none =>
      rw [hx] at XX
      obtain ⟨n, hs, n2, hs2, h⟩ := V.k3m i hi hm lt tl hLT
      refine turnAsk VA VS O F hk I hv hl hi hlt htl h (e := 0) ?_ Hy K
      show ({ D with sn := upd D.sn i .none } : Dt) = D
      rw [upd_self D.sn i _ XX]
    | some x =>
      rw [hx] at XX hT
      obtain ⟨x1, x2, T⟩ := XX
      have hL3 : LT3 lt := hT.resolve_left (fun z => by cases z)
      obtain ⟨two, h', t', v', hh, u, hu, h4⟩ := uForm I hi hx
      obtain ⟨tn, ti, kn, n, hs, h⟩ := V.w3 i hi hm two h4 lt hL3
      obtain ⟨a, b, told, rows, tt⟩ := x
      have T0 := T
      unfold OkT at T
      rw [hm] at T
      obtain ⟨es, e, kvs, as, er, t1, t2, t3, t4, t5, t6, t7⟩ := T
      simp only at t1 t2 x1 x2 hu
      subst t1 t2
      obtain ⟨y0, hy0, HP⟩ := poolAt i hi pk' hp3
      have hes : es.length = kvs.length := t3.pairs.length
      have hnew : kstr 119 k ∉ kvs.map (·.1) := fun hq => by
        obtain ⟨kv, q1, q2⟩ := List.mem_map.mp hq
        exact new_w (by omega) (q2 ▸ t6 kv q1)
      have Sb := sub_but X i hi (Sub.nil Jw)
      have hhd := head_self hv hl
      rw [hlt] at hhd
      have st := stW3 (R₀ := R₀) O F h D (extBut X i ++ []) (Sb.ok (Jx_nodup i hi)) r (k : Int) number more q pk' nt Hy h' t' v' hh tt u y0 _ (kstr 119 k) a b es e kvs HP (nameOf 119 (by omega) (kid_len k (by omega)).2.2) t3 hnew (by omega) (p_lt i hi).1 (p_lt i hi).2 ⟨as.map .ref⟩ er (by show (as.map Value.ref).length ≤ sizeLine; rw [List.length_map]; omega) (fun y t2 => B.add (only (y + 730 + tn) (tob #[.str (kstr 119 k) t2, .ref y0] 0)))
      rw [upd_self D.u (tj i) _ hu, upd_self D.sn i _ x1, hhd] at st
      refine fun p y m tk => MnC.split D X i hi (Sub.nil Jw) ?_
      rw [hx]
      refine st (fun y tk' t2 η τ w p m y' tk'' => ?_) p y m tk
      have hp : ∀ (A : List Row) (r1 r2 r3 : Row) (E : List Row), ((A ++ [r1, r2, r3]) ++ E).Perm (r3 :: (A ++ ([r1, r2] ++ E))) := fun A r1 r2 r3 E => by
        have e1 : (A ++ [r1, r2, r3]) ++ E = (A ++ [r1, r2]) ++ (r3 :: E) := by simp
        have e2 : r3 :: (A ++ ([r1, r2] ++ E)) = r3 :: ((A ++ [r1, r2]) ++ E) := by simp
        rw [e1, e2]
        exact List.perm_middle
      have sub3 : ∀ (D' : Dt) (o1 o2 o3 : Obj) (a1 a2 a3 : Nat), Sub ((JB ++ [pT i, pR i, 340]) ++ Jx i) ((rowsB D' ++ [row (pT i) a1 o1, row (pR i) a2 o2, row 340 a3 o3]) ++ (extBut X i ++ [])) := fun D' o1 o2 o3 a1 a2 a3 =>
        ((sub_rowsB D').app (((sub_row (pT i) a1 o1).app (sub_row (pR i) a2 o2)).app (sub_row 340 a3 o3))).app Sb
      have sub2 : ∀ (D' : Dt) (o1 o2 : Obj) (a1 a2 : Nat), Sub (JB ++ ([pT i, pR i] ++ Jx i)) (rowsB D' ++ ([row (pT i) a1 o1, row (pR i) a2 o2] ++ (extBut X i ++ []))) := fun D' o1 o2 a1 a2 =>
        (sub_rowsB D').app (((sub_row (pT i) a1 o1).app (sub_row (pR i) a2 o2)).app Sb)
      refine MnC.perm (hp _ _ _ _ _) ((sub3 _ _ _ _ _ _ _).apart (w3_apart i hi)) (MnC.freeze 340 _ _ _ (by decide) (w3_far i hi _ (sub2 _ _ _ _ _)) ?_)
      · have T' : OkT (B.add (only (y + 730 + tn) (tob #[.str (kstr 119 k) t2, .ref y0] 0))) i (k + 1) ⟨a, b, dobS (es ++ [⟨(SK B).hash (kstr 119 k), .str (kstr 119 k) tk', .ref y0⟩]) (e + 1) #[], lob ((⟨as.map .ref⟩ : Array Value).push (.ref (y + 730 + tn))) (er + 1), tt⟩ := by
          unfold OkT
          rw [hm]
          refine ⟨_, _, kvs ++ [(kstr 119 k, Value.ref y0)], as ++ [y + 730 + tn], _, rfl, by rw [push_eq, List.map_append]; rfl, (DK.add B t3 tk' (.ref y0) hnew).more _, by simp; omega, by simp; omega, fun kv hkv => ?_, fun j b' q => ?_⟩
          · rcases List.mem_append.mp hkv with hkv | hkv
            · exact (t6 kv hkv).mono (Nat.le_succ k)
            · rw [List.mem_singleton] at hkv
              subst hkv
              exact old_w k
          · by_cases hj : j < as.length
            · rw [List.getElem?_append_left hj] at q
              obtain ⟨k', x, t, q1, q2, q3, q4⟩ := t7 j b' q
              exact ⟨k', x, t, by rw [List.getElem?_append_left (by omega)]; exact q1, q2, .inl q3, q4⟩
            · rw [List.getElem?_append_right (by omega)] at q
              have hj0 : j - as.length = 0 := by
                rcases Nat.eq_zero_or_pos (j - as.length) with z | z
                · exact z
                · rw [List.getElem?_eq_none (by simp; omega)] at q; cases q
              rw [hj0] at q
              simp only [List.getElem?_cons_zero, Option.some.injEq] at q
              subst q
              refine ⟨kstr 119 k, y0, t2, ?_, hy0, .inr ⟨rfl, rfl⟩, by omega⟩
              rw [List.getElem?_append_right (by omega), show j - kvs.length = 0 by omega]; rfl
        have I1 : Inv (B.add (only (y + 730 + tn) (tob #[.str (kstr 119 k) t2, .ref y0] 0))) (k + 1) (nextD D i [toldE η τ (.ref (a + 730))] (k : Int) number 3 more pk' r w) X :=
          Inv.like (D := D) (Inv.to (B := B) (B' := B.add (only (y + 730 + tn) (tob #[.str (kstr 119 k) t2, .ref y0] 0))) rfl rfl (fun _ _ h => .inl h) (Nat.le_succ k) I) rfl rfl rfl rfl rfl rfl rfl
        have z := K (B.add (only (y + 730 + tn) (tob #[.str (kstr 119 k) t2, .ref y0] 0))) (.inr ⟨_, rfl⟩) _ _ (I1.told hi hx ⟨a, b, dobS (es ++ [⟨(SK B).hash (kstr 119 k), .str (kstr 119 k) tk', .ref y0⟩]) (e + 1) #[], lob ((⟨as.map .ref⟩ : Array Value).push (.ref (y + 730 + tn))) (er + 1), tt⟩ rfl rfl rfl T') (by show (k : Int) + 1 = ((k + 1 : Nat) : Int); omega) (left_pred r) rfl (LT3.next D i (.inr ⟨η, τ, .ref (a + 730), rfl⟩) _ _ _ _ _ _ _) p y' m tk''
        have z := MnC.join _ (setX X i _) i hi (Sub.nil Jw) z
        rw [setX_at, extBut_set] at z
        exact z
end
end Mine
end

section
open PySem PySem.Spec PySem.Calls PyProof.Rows PySem.W PySem.W.X
namespace Mine
/-- the deeds are ints -/
def Deeds (xs : Array Value) : Prop := ∀ j, j < xs.size → ∃ (number : Int) (nt : Nat), xs[j]? = some (.int number (nt + 1))
/-- the names, and what was told -/
def Hl (D : Dt) (X : Nat → Option Told) : Prop := (D.lt = [] ∧ ∀ i, i < 7 → X i = none) ∨ LT3 D.lt
section
variable {B : Bx} {G : Gx} {R₀ : Result → Shared → Prop} {n₀ : Nat}
theorem Grow.trans {B' B'' : Bx} (a : Grow B B') (b : Grow B' B'') : Grow B B'' := by
  rcases a with rfl | ⟨F, rfl⟩
  · exact b
  · rcases b with rfl | ⟨F', rfl⟩
    · exact .inr ⟨F, rfl⟩
    · refine .inr ⟨fun a o => F a o ∨ F' a o, ?_⟩
      unfold Bx.add
      simp only [Bx.mk.injEq, true_and, and_true]
      funext a o
      exact propext or_assoc
theorem turnSpec (V : EvTurn G) (VA : ∀ (B : Bx) p1, EvAsk (G.within (cL B G) p1)) (VS : ∀ (B B' : Bx) p1 fa p2, EvSame ((G.within (cL B G) p1).within (cA B' (G.within (cL B G) p1) fa) p2)) (O : B.Ok (n₀ + 4)) (F : G.Fits B) {k r : Nat} (hk : k ≤ 61) {D : Dt} {X : Nat → Option Told} (I : Inv B k D X)
    (hv : D.v = (k : Int)) (hl : D.left = Int.ofNat (Nat.succ r)) (hL : Hl D X) {number : Int} {nt : Nat} (hd : D.deeds[k]? = some (.int number (nt + 1)))
    (K : Next B G R₀ k r D) : AtHead B G R₀ D (extOf X ++ []) := by
  obtain ⟨tl, htl, hLT, hT⟩ : ∃ tl, TL tl ∧ LT D.lt tl ∧ ∀ i, i < 7 → X i = none ∨ LT3 D.lt := by
    rcases hL with ⟨h1, h2⟩ | h
    · exact ⟨[], .inl rfl, .inl ⟨h1, rfl⟩, fun i hi => .inl (h2 i hi)⟩
    · have h' := h
      obtain ⟨τ, η, v0, v1, v2, v3, v4, v5, v6, v7, tl, t1, t2⟩ := h
      exact ⟨tl, t1, .inr ⟨τ, η, v0, v1, v2, v3, v4, v5, v6, v7, t2⟩, fun i hi => .inr h'⟩
  -- the numbers
  have w0 : 0 ≤ Int.fmod number 4 := Int.fmod_nonneg_of_pos number (by decide)
  have w1 : Int.fmod number 4 < 4 := Int.fmod_lt_of_pos number (by decide)
  generalize hm : Int.fdiv number 4 = more
  have s0 : 0 ≤ Int.fmod more 7 := Int.fmod_nonneg_of_pos more (by decide)
  have s1 : Int.fmod more 7 < 7 := Int.fmod_lt_of_pos more (by decide)
  obtain ⟨i, hi⟩ := Int.eq_ofNat_of_zero_le s0
  have hi7 : i < 7 := by omega
  generalize hq : Int.fdiv more 7 = q
  have p0 : 0 ≤ Int.fmod q 3 := Int.fmod_nonneg_of_pos q (by decide)
  have p1 : Int.fmod q 3 < 3 := Int.fmod_lt_of_pos q (by decide)
  obtain ⟨pk', hp⟩ := Int.eq_ofNat_of_zero_le p0
  have hp3 : pk' < 3 := by omega
  have Hy : ∀ way : Int, Int.fmod number 4 = way → Hy1 (k : Int) number way more i q pk' D.deeds nt := fun way hw => ⟨Int.natCast_nonneg k, by omega, by simpa using hd, hw, hm, hi, hq, hp⟩
  obtain ⟨w, hw⟩ := Int.eq_ofNat_of_zero_le w0
  have hw4 : w < 4 := by omega
  match w, hw4, hw with
  | 0, _, hw => exact turn0 V O F hk I hv hl hi7 rfl hLT htl hp3 (Hy 0 hw) K
  | 1, _, hw => exact turn1 V VA VS O F hk I hv hl hi7 rfl hLT htl (Hy 1 hw) K
  | 2, _, hw =>
    obtain ⟨n, hs, n2, hs2, h⟩ := V.k2 i hi7 D.lt tl hLT
    exact turnAsk VA VS O F hk I hv hl hi7 rfl htl h (e := 0) rfl (Hy 2 hw) K
  | 3, _, hw => exact turn3 V VA VS O F hk I hv hl hi7 rfl hLT htl (hT i hi7) hp3 (Hy 3 hw) K
/-- out of the loop -/
def LoopEnd (B : Bx) (R₀ : Result → Shared → Prop) (D : Dt) (ext : List Row) : Prop := ∀ c p y m tk, MnC B R₀ ⟨c, .base, .pure (.done .next), p, rowT (rowsB D ++ ext), m, y + 730, tk + 1046⟩
theorem loopSpec (V : EvTurn G) (VA : ∀ (B : Bx) p1, EvAsk (G.within (cL B G) p1)) (VS : ∀ (B B' : Bx) p1 fa p2, EvSame ((G.within (cL B G) p1).within (cA B' (G.within (cL B G) p1) fa) p2)) (V2 : ∃ n hs, EvL2 G n hs) :
    ∀ (r k : Nat) (B : Bx) (_ : B.Ok (n₀ + 4)) (_ : G.Fits B) (D : Dt) (X : Nat → Option Told), Inv B k D X → D.v = (k : Int) → D.left = Int.ofNat r → Hl D X → Deeds D.deeds → D.deeds.size = k + r → k + r ≤ 61 →
      (∀ B', Grow B B' → ∀ D' X', Inv B' (k + r) D' X' → (LT3 D.lt ∨ 0 < r → LT3 D'.lt) → LoopEnd B' R₀ D' (extOf X' ++ [])) → AtHead B G R₀ D (extOf X ++ [])
  | 0, k, B, O, F, D, X, I, hv, hl, hL, hd, hs, hk, K => by
    obtain ⟨n, hs', h⟩ := V2
    have z := K B (.inl rfl) D X I (fun z => z.elim id fun q => absurd q (Nat.lt_irrefl 0))
    have hD : ({ D with v := D.v, left := Int.ofNat 0 } : Dt) = D := by
      rw [← hl]
    intro p y m tk
    have e := h B D (extOf X ++ []) D.v p y tk
    rw [hD] at e
    exact .anyM 400 (seg_to O F false n _ _ _ p _ 400 _ _ hs' _ _ _ _ Jall _ _ e (ext_ok X) (z _))
  | r + 1, k, B, O, F, D, X, I, hv, hl, hL, hd, hs, hk, K => by
    obtain ⟨number, nt, hx⟩ := hd k (by omega)
    refine turnSpec V VA VS O F (by omega) I hv hl hL hx fun B' g D' X' I' v' l' d' L' => ?_
    have O' : B'.Ok (n₀ + 4) := by
      rcases g with rfl | ⟨F', rfl⟩
      · exact O
      · exact O.add F'
    have F' : G.Fits B' := by
      rcases g with rfl | ⟨F', rfl⟩
      · exact F
      · exact F.add F'
    refine loopSpec V VA VS V2 r (k + 1) B' O' F' D' X' I' v' l' (.inr L') (by rw [d']; exact hd) (by rw [d']; omega) (by omega) fun B'' g' D'' X'' I'' hL'' => ?_
    exact K B'' (g.trans g') D'' X'' (by rw [show k + (r + 1) = k + 1 + r by omega]; exact I'') fun _ => hL'' (.inl L')
end
end Mine
end

section
open PySem PySem.Spec PySem.Calls PyProof.Rows PySem.W PySem.W.X
namespace Mine
theorem from257_strip : ∀ l : List Row, (l.map from257).map strip = l.map strip
  | [] => rfl
  | r :: l => by
    rw [List.map_cons, List.map_cons, List.map_cons, from257_strip l]
    congr 1
    unfold from257
    split <;> rfl
theorem fin_apart : (((JB ++ Jw) ++ (Jo ++ [])).map (· % 1024)).Nodup := by decide +kernel
theorem rowsB_c {D : Dt} {c : Nat → Obj} (h : ∀ j, j < 7 → c j = D.c j) : rowsB { D with c := c } = rowsB D := by
  unfold rowsB
  simp only [h 0 (by decide), h 1 (by decide), h 2 (by decide), h 3 (by decide), h 4 (by decide), h 5 (by decide), h 6 (by decide)]
section
variable {B : Bx} {G : Gx} {R₀ : Result → Shared → Prop} {n₀ : Nat}
/-- a call of one's own, whose code is told for each world -/
theorem call_at2 (o : Out) {code : Bx → Code} {c1 : Code} {J : List Nat} {l ext : List Row} (e : ∀ B1, op o J l = opTo o (code B1) J l ext) (E : ExtOk J ext) (hc : o.cf.c = c1) (hκ : o.cf.κ = .base)
    (H : ∀ p1 R₁, (∀ B', Grow B B' → ∀ f T m sz tk, MnC B' R₀ ⟨o.cf.c, o.cf.κ, kOf o.cf.t (.ok f), o.cf.p, T, m, sz, tk⟩ → ∀ c p m', MnC (B'.within c1 p1) R₁ ⟨c, .base, .pure (.done f), p, T, m', sz, tk⟩) →
      ∀ p y m tk, MnC (B.within c1 p1) R₁ ⟨code (B.within c1 p1), .base, dQ (code (B.within c1 p1)), p, rowT (l ++ ext), m, y + 730, tk + 1046⟩) : MnC B R₀ o.cf := by
  obtain ⟨z1, z2, z3, z4, z5⟩ := op_parts (B := B) o (code (B.within c1 o.cf.p)) J l ext (e _) E
  have hB : B.at o.cf = B.within c1 o.cf.p := by
    unfold Bx.at
    rw [hc, hκ]; rfl
  obtain ⟨y, ey⟩ : ∃ y, o.cf.sz = y + 730 := ⟨o.cf.sz - 730, (Nat.sub_add_cancel (Nat.le_of_ble_eq_true z2.sz)).symm⟩
  obtain ⟨k, ek⟩ : ∃ k, o.cf.tk = k + 1046 := ⟨o.cf.tk - 1046, (Nat.sub_add_cancel (Nat.le_of_ble_eq_true z2.tk)).symm⟩
  have H := H o.cf.p (Ret B R₀ o.cf) (fun B' g f T m sz tk h c p m' => by
    rcases g with rfl | ⟨F, rfl⟩
    · rw [← hB]; exact MnC.back h
    · have : (B.add F).within c1 o.cf.p = (B.within c1 o.cf.p).add F := rfl
      rw [this, ← hB]; exact MnC.backF h) o.cf.p y o.cf.m k
  refine mnc_enter o.cf z2.call fun h D => ?_
  have D' := z5 h ⟨D.1, D.2, D.3, D.4, D.5⟩
  rw [← hB] at H
  have H := H h (by
    have := D'
    rw [ey] at this
    exact ⟨this.1, this.2, this.3, this.4, this.5⟩)
  rw [z2.code]
  show Mn _ _ _ _ _ _ _ (Bx.shr _ h o.cf.tk)
  rw [ek, ← hB]
  exact H
theorem Grow.within {B' : Bx} {c : Code} {p : Pos} (g : Grow (B.within c p) B') : ∃ B'', Grow B B'' ∧ B' = B''.within c p := by
  rcases g with rfl | ⟨F, rfl⟩
  · exact ⟨B, .inl rfl, rfl⟩
  · exact ⟨B.add F, .inr ⟨F, rfl⟩, rfl⟩
theorem Grow.ok {B' : Bx} {n : Nat} (g : Grow B B') (O : B.Ok n) : B'.Ok n := by
  rcases g with rfl | ⟨F, rfl⟩
  · exact O
  · exact O.add F
theorem Grow.fits {B' : Bx} (g : Grow B B') (F : G.Fits B) : G.Fits B' := by
  rcases g with rfl | ⟨F', rfl⟩
  · exact F
  · exact F.add F'
/-- the law from its loop on -/
def At13 (B : Bx) (G : Gx) (R₀ : Result → Shared → Prop) (D : Dt) : Prop := ∀ p m tk, MnC B R₀ ⟨cF B G, .base, restOf (cF B G) 13, p, rowT (preL D), m, 728, tk + 1046⟩
def At14 (B : Bx) (G : Gx) (R₀ : Result → Shared → Prop) (D : Dt) (ext : List Row) : Prop := ∀ p y m tk, MnC B R₀ ⟨cF B G, .base, restOf (cF B G) 14, p, rowT (rowsB D ++ ext), m, y + 730, tk + 1046⟩
theorem lawLoop (VL : ∃ n hs n2 hs2, EvL G n hs n2 hs2) (V : ∀ (B : Bx) p, EvTurn (G.within (cF B G) p)) (V2 : ∀ (B : Bx) p, ∃ n hs, EvL2 (G.within (cF B G) p) n hs) (VA : ∀ (B B' : Bx) p p1, EvAsk ((G.within (cF B G) p).within (cL B' (G.within (cF B G) p)) p1))
    (VS : ∀ (B B' B'' : Bx) p p1 fa p2, EvSame (((G.within (cF B G) p).within (cL B' (G.within (cF B G) p)) p1).within (cA B'' ((G.within (cF B G) p).within (cL B' (G.within (cF B G) p)) p1) fa) p2))
    (O : B.Ok (n₀ + 5)) (F : G.Fits B) (D : Dt) (I : Inv B 0 D (fun _ => none)) (hlt : D.lt = []) (hd : Deeds D.deeds) (hs : D.deeds.size ≤ 61) (h0 : 0 < D.deeds.size)
    (K : ∀ B', Grow B B' → ∀ D' X', Inv B' D.deeds.size D' X' → LT3 D'.lt → At14 B' G R₀ D' (extOf X' ++ [])) : At13 B G R₀ D := fun p m tk => by
  obtain ⟨n, hs1, n2, hs2, h⟩ := VL
  have hf : Int.ofNat D.deeds.size < 2 ^ 63 := by show ((D.deeds.size : Nat) : Int) < 2 ^ 63; omega
  have hf' : Int.ofNat D.deeds.size < 2 ^ 62 := by show ((D.deeds.size : Nat) : Int) < 2 ^ 62; omega
  have z := fun B1 B2 D2 ext y2 tk2 => h B B1 D D.deeds.size rfl hf (Int.natCast_nonneg _) hf' p tk B2 D2 ext y2 tk2
  have e1 := fun B1 => congrArg Prod.fst (z B1 B D [] 0 0)
  have e2 := congrArg (fun z => z.2.1) (z B B D [] 0 0)
  have e3 := congrArg (fun z => z.2.2.1) (z B B D [] 0 0)
  have ho := (op_parts (B := B) _ _ _ _ _ (e1 B) (ExtOk.nil [])).1
  refine .anyM 256 (run_to O F true n _ _ _ p _ 256 _ _ hs1 _ ho (call_at2 _ (code := fun B1 => cL B1 G) (fun B1 => e1 B1) (ExtOk.nil []) e2 e3 fun p1 R₁ KK => ?_))
  have D0 := Inv.like (D' := { D with v := 0, left := Int.ofNat D.deeds.size }) I rfl rfl rfl rfl rfl rfl rfl
  have I0 := Inv.to (B := B) (B' := B.within (cF B G) p1) rfl rfl (fun _ _ h => h) (Nat.le_refl 0) D0
  have lp := loopSpec (R₀ := R₁) (V B p1) (fun B' p2 => VA B B' p1 p2) (fun B' B'' p2 fa p3 => VS B B' B'' p1 p2 fa p3) (V2 B p1) D.deeds.size 0 (B.within (cF B G) p1) (O.within _ _) (F.within _ _) { D with v := 0, left := Int.ofNat D.deeds.size } (fun _ => none) I0 rfl rfl (.inl ⟨hlt, fun _ _ => rfl⟩) hd (Nat.zero_add _).symm (by omega) fun B' g D' X' I' hL' => ?_
  · intro p y m tk
    refine MnC.same ?_ (lp p y m tk)
    exact rowT_strip _ _ [] (from257_strip _)
  · obtain ⟨B2, g2, rfl⟩ := g.within
    refine fun c p3 y3 m3 tk3 => KK B2 g2 _ _ 400 _ _ ?_ c p3 m3
    have e4 := congrArg (fun z => z.2.2.2) (z B B2 D' (extOf X' ++ []) y3 tk3)
    refine seg_to (g2.ok O) (g2.fits F) false n2 _ _ _ _ _ 400 _ _ hs2 _ _ _ _ Jall _ _ e4 (ext_ok X') ?_
    refine K B2 g2 D' X' ?_ (hL' (.inr h0))
    have := Inv.to (B := B2.within (cF B G) p1) (B' := B2) rfl rfl (fun _ _ h => h) (Nat.le_refl _) I'
    rwa [Nat.zero_add] at this
end
end Mine
end

section
open PySem PySem.Spec PySem.Calls PyProof.Rows PySem.W PySem.W.X
namespace Mine
/-- the equations of the law's end -/
structure EvEnd (G : Gx) : Prop where
  b0 : ∃ nl old k n hs, EvB G [] nl old k n hs
  b1 : ∃ nl old k n hs, ∀ ηt τt vt, EvB G [toldE ηt τt vt] nl old k n hs
  w7 : ∃ nl n hs n2 hs2, ∀ ηb τb bb, EvW7 G [befE ηb τb bb] nl n hs n2 hs2
  w7' : ∃ nl n hs n2 hs2, ∀ ηt τt vt ηb τb bb, EvW7 G [toldE ηt τt vt, befE ηb τb bb] nl n hs n2 hs2
  f0 : ∃ li n hs, EvFin G [] li n hs
  f1 : ∃ li n hs, ∀ ηt τt vt, EvFin G [toldE ηt τt vt] li n hs
/-- the equations of the last comprehension -/
structure EvComp (G : Gx) : Prop where
  w2 : ∃ n hs, EvW2 G n hs
  w4 : ∀ j, j < 7 → ∃ n hs n2 hs2, EvW4 G j (decide (j ≠ 0)) n hs n2 hs2
  w6 : ∃ n hs, EvW6 G n hs
theorem sub_wRows (w ba : Nat) (bx : Obj) (v left : Int) (wd : Obj) : Sub Jw (wRows w ba bx v left wd) :=
  (sub_row 325 _ _).app ((sub_row 331 _ _).app ((sub_row 332 _ _).app (sub_row 333 _ _)))
section
variable {B : Bx} {G : Gx} {R₀ : Result → Shared → Prop} {n₀ : Nat}
/-- the rows of the comprehension beside, or among the law's -/
theorem MnC.beside {c : Code} {κ : Kn} {t : Sem PySem.Fin} {p : Pos} {m sz tk : Nat} (D : Dt) (X : Nat → Option Told) {W : List Row} (S : Sub Jw W) (H : MnC B R₀ ⟨c, κ, t, p, rowT (rowsB D ++ (extOf X ++ W)), m, sz, tk⟩) :
    MnC B R₀ ⟨c, κ, t, p, rowT ((rowsB D ++ W) ++ (extOf X ++ [])), m, sz, tk⟩ := by
  refine MnC.perm ?_ ((((sub_rowsB D).app S).app ((sub_ext X).app (Sub.nil []))).apart fin_apart) H
  rw [List.append_nil, List.append_assoc]
  exact List.Perm.append_left _ List.perm_append_comm
theorem MnC.among {c : Code} {κ : Kn} {t : Sem PySem.Fin} {p : Pos} {m sz tk : Nat} (D : Dt) (X : Nat → Option Told) {W : List Row} (S : Sub Jw W) (H : MnC B R₀ ⟨c, κ, t, p, rowT ((rowsB D ++ W) ++ (extOf X ++ [])), m, sz, tk⟩) :
    MnC B R₀ ⟨c, κ, t, p, rowT (rowsB D ++ (extOf X ++ W)), m, sz, tk⟩ := by
  have P : (rowsB D ++ (extOf X ++ W)).Perm ((rowsB D ++ W) ++ (extOf X ++ [])) := by
    rw [List.append_nil, List.append_assoc]
    exact List.Perm.append_left _ List.perm_append_comm
  refine MnC.perm P ?_ H
  exact ((((sub_rowsB D).app S).app ((sub_ext X).app (Sub.nil []))).apart fin_apart).perm P.symm fun {a b} z e => z e.symm
theorem ext_okJo (X : Nat → Option Told) : ExtOk Jo (extOf X ++ []) := by
  have h : Sub Jo (extOf X ++ []) := by rw [List.append_nil]; exact sub_ext X
  exact h.ok (by decide)
/-- the head of the last comprehension -/
def AtW (B : Bx) (G : Gx) (R₀ : Result → Shared → Prop) (w : Nat) (D : Dt) (l : List Row) (ext : List Row) : Prop := ∀ p y m tk, MnC B R₀ ⟨cWL B G w, .base, dQ (cWL B G w), p, rowT ((rowsB D ++ l) ++ ext), m, y + 730, tk + 1046⟩
theorem compW (V : EvComp G) (VA : ∀ (B : Bx) w p1, EvAsk (G.within (cWL B G w) p1)) (VS : ∀ (B B' : Bx) w p1 fa p2, EvSame ((G.within (cWL B G w) p1).within (cA B' (G.within (cWL B G w) p1) fa) p2)) (w ba : Nat) (bx : Obj) {k : Nat} (hk : k ≤ 61) (D0 : Dt) :
    ∀ (r j : Nat), j + r = 7 → ∀ (B : Bx) (_ : B.Ok (n₀ + 4)) (_ : G.Fits B) (D : Dt) (X : Nat → Option Told), Inv B k D X → Keep D0 D → ∀ (η : Int) (τ : Nat) (v : Value),
      (∀ B', Grow B B' → ∀ D' X', Inv B' k D' X' → Keep D0 D' → ∀ ηs τs vs, LoopEnd B' R₀ D' (wRows w ba bx 7 0 (wsO true ηs τs vs) ++ (extOf X' ++ []))) →
      AtW B G R₀ w D (wRows w ba bx (j : Int) (7 - (j : Int)) (wsO (decide (j ≠ 0)) η τ v)) (extOf X ++ [])
  | 0, j, hj, B, O, F, D, X, I, P, η, τ, v, K => by
    obtain rfl : j = 7 := hj
    obtain ⟨n, hs, h⟩ := V.w6
    intro p y m tk
    have z := K B (.inl rfl) D X I P η τ v
    refine .anyM 400 (seg_to O F false n _ _ _ p _ 400 _ _ hs _ _ _ _ Jo _ _ (h B D (extOf X ++ []) w ba bx η τ v p y tk) (ext_okJo X) fun p y m tk => ?_)
    have := z (run B G false n (cWL B G w) .base (dQ (cWL B G w)) p (rowT ((rowsB D ++ wRows w ba bx 7 0 (wsO true η τ v)) ++ (extOf X ++ []))) 400 (y + 730) (tk + 1046) hs [] []).cf.c p y m tk
    rw [← List.append_assoc] at this
    exact z _ p y m tk |> fun q => by rw [List.append_assoc]; exact q
  | r + 1, j, hj, B, O, F, D, X, I, P, η, τ, v, K => by
    have hj7 : j < 7 := by omega
    obtain ⟨n, hs, n2, hs2, h⟩ := V.w4 j hj7
    intro p0 y0 m0 tk0
    have z := fun B2 D2 ext2 wd v2 l2 y2 tk2 => h B D (extOf X ++ []) w ba bx η τ v p0 y0 tk0 B2 D2 ext2 wd v2 l2 y2 tk2
    have z0 := z B D [] (lob #[] 0) 0 0 0 0
    have e1 := congrArg Prod.fst z0
    have e2 := congrArg (fun z => z.2.1) z0
    have e3 := congrArg (fun z => z.2.2.1) z0
    have ho := (op_parts (B := B) _ _ _ _ _ e1 (ext_okJo X)).1
    refine .anyM 400 (run_to O F false n _ _ _ p0 _ 400 _ _ hs _ ho (call_at2 _ (code := fun _ => cAsk j _) (fun _ => e1) (ext_okJo X) e2 e3 fun p1 R₁ KK p y m tk => ?_))
    have I2 := Inv.to (B := B) (B' := B.within (cWL B G w) p1) rfl rfl (fun _ _ h => h) (Nat.le_refl k) I
    refine MnC.beside D X (sub_wRows _ _ _ _ _ _) ?_
    refine askSpec (VA B w p1) (fun B' fa p2 => VS B B' w p1 fa p2) (O.within _ _) (F.within _ _) I2 (by omega) hj7 (sub_wRows _ _ _ _ _ _) (fun B' g D' X' I' P' => ?_) p _ y m tk
    obtain ⟨B2, g2, rfl⟩ := g.within
    intro c p y m tk
    refine MnC.among D' X' (sub_wRows _ _ _ _ _ _) (KK B2 g2 _ _ 400 _ _ ?_ c p m)
    have e4 := congrArg (fun z => z.2.2.2) (z B2 D' (extOf X' ++ []) (wsO true (khA (objA (rWj G B D (extOf X ++ []) j w ba bx (decide (j ≠ 0)) η τ v p0 y0 tk0 n hs) 333) 0) (ktA (objA (rWj G B D (extOf X ++ []) j w ba bx (decide (j ≠ 0)) η τ v p0 y0 tk0 n hs) 333) 0) (.int j (vtA (objA (rWj G B D (extOf X ++ []) j w ba bx (decide (j ≠ 0)) η τ v p0 y0 tk0 n hs) 333) 0 - 1 + 1))) ((j : Int) + 1) (6 - (j : Int)) y tk)
    refine seg_to (g2.ok O) (g2.fits F) false n2 _ _ _ _ _ 400 _ _ hs2 _ _ _ _ Jo _ _ e4 (ext_okJo X') ?_
    have I3 := Inv.to (B := B2.within (cWL B G w) p1) (B' := B2) rfl rfl (fun _ _ h => h) (Nat.le_refl k) I'
    have ih := fun η τ v => compW V VA VS w ba bx hk D0 r (j + 1) (by omega) B2 (g2.ok O) (g2.fits F) D' X' I3 (P.trans P') η τ v (fun B'' g'' D'' X'' I'' P'' => K B'' (g2.trans g'') D'' X'' I'' P'')
    have q1 : ((j + 1 : Nat) : Int) = (j : Int) + 1 := by omega
    have q2 : 7 - ((j + 1 : Nat) : Int) = 6 - (j : Int) := by omega
    have q3 : decide (j + 1 ≠ 0) = true := by simp
    rw [q2, q1, q3] at ih
    exact ih _ _ _
end
end Mine
end

section
open PySem PySem.Spec PySem.Calls PyProof.Rows PySem.W PySem.W.X
namespace Mine
theorem map_is : isMap 0 = true ∧ isMap 1 = false ∧ isMap 2 = true ∧ isMap 3 = false ∧ isMap 4 = true ∧ isMap 5 = true ∧ isMap 6 = false := by decide
section
variable {B : Bx} {G : Gx} {R₀ : Result → Shared → Prop} {n₀ : Nat}
theorem dictOf {k i : Nat} {c : Obj} (hm : isMap i = true) (h : OkC B i k c) : ∃ es e kvs, c = dobS es e #[] ∧ DK B es kvs ∧ kvs.length ≤ k + 1 := by
  unfold OkC at h
  rw [hm] at h
  obtain ⟨es, e, kvs, h1, h2, h3, _⟩ := h
  exact ⟨es, e, kvs, h1, h2, h3⟩
theorem listOf' {k i : Nat} {c : Obj} (hm : isMap i = false) (h : OkC B i k c) : ∃ xs e, c = lob ⟨xs⟩ e ∧ xs.length ≤ k + 3 := by
  unfold OkC at h
  rw [hm] at h
  obtain ⟨xs, e, h1, h2, _⟩ := h
  exact ⟨xs, e, h1, h2⟩
theorem seven {k : Nat} {D : Dt} {X : Nat → Option Told} (I : Inv B k D X) (hk : k ≤ 61) : ∃ H : HP7 B, ∀ j, j < 7 → H.cc j = D.c j := by
  obtain ⟨m0, m1, m2, m3, m4, m5, m6⟩ := map_is
  obtain ⟨es0, e0, k0, a0, d0, l0⟩ := dictOf m0 (I.c 0 (by decide))
  obtain ⟨x1, e1, a1, l1⟩ := listOf' m1 (I.c 1 (by decide))
  obtain ⟨es2, e2, k2, a2, d2, l2⟩ := dictOf m2 (I.c 2 (by decide))
  obtain ⟨x3, e3, a3, l3⟩ := listOf' m3 (I.c 3 (by decide))
  obtain ⟨es4, e4, k4, a4, d4, l4⟩ := dictOf m4 (I.c 4 (by decide))
  obtain ⟨es5, e5, k5, a5, d5, l5⟩ := dictOf m5 (I.c 5 (by decide))
  obtain ⟨x6, e6, a6, l6⟩ := listOf' m6 (I.c 6 (by decide))
  refine ⟨{ es0 := es0, es2 := es2, es4 := es4, es5 := es5, e0 := e0, e2 := e2, e4 := e4, e5 := e5, k0 := k0, k2 := k2, k4 := k4, k5 := k5, d0 := d0, d2 := d2, d4 := d4, d5 := d5, x1 := ⟨x1⟩, x3 := ⟨x3⟩, x6 := ⟨x6⟩, e1 := e1, e3 := e3, e6 := e6, n0 := (k0.length : Int), n1 := ((⟨x1⟩ : Array Value).size : Int), n2 := (k2.length : Int), n3 := ((⟨x3⟩ : Array Value).size : Int), n4 := (k4.length : Int), n5 := (k5.length : Int), n6 := ((⟨x6⟩ : Array Value).size : Int), h0 := rfl, h1 := rfl, h2 := rfl, h3 := rfl, h4 := rfl, h5 := rfl, h6 := rfl, f0 := (by omega), f1 := (by show ((x1.length : Nat) : Int) < 2 ^ 63; omega), f2 := (by omega), f3 := (by show ((x3.length : Nat) : Int) < 2 ^ 63; omega), f4 := (by omega), f5 := (by omega), f6 := (by show ((x6.length : Nat) : Int) < 2 ^ 63; omega), s0 := slotA_ok 0 (by decide), s2 := slotA_ok 2 (by decide), s4 := slotA_ok 4 (by decide), s5 := slotA_ok 5 (by decide) }, fun j hj => ?_⟩
  match j, hj with
  | 0, _ => exact a0.symm
  | 1, _ => exact a1.symm
  | 2, _ => exact a2.symm
  | 3, _ => exact a3.symm
  | 4, _ => exact a4.symm
  | 5, _ => exact a5.symm
  | 6, _ => exact a6.symm
/-- the same seven things in a like world -/
def HP7.to {B' : Bx} (hp : B'.prog = B.prog) (hw : B'.w = B.w) (H : HP7 B) : HP7 B' :=
  { es0 := H.es0, es2 := H.es2, es4 := H.es4, es5 := H.es5, e0 := H.e0, e2 := H.e2, e4 := H.e4, e5 := H.e5, k0 := H.k0, k2 := H.k2, k4 := H.k4, k5 := H.k5, d0 := H.d0.to hp hw, d2 := H.d2.to hp hw, d4 := H.d4.to hp hw, d5 := H.d5.to hp hw, x1 := H.x1, x3 := H.x3, x6 := H.x6, e1 := H.e1, e3 := H.e3, e6 := H.e6, n0 := H.n0, n1 := H.n1, n2 := H.n2, n3 := H.n3, n4 := H.n4, n5 := H.n5, n6 := H.n6, h0 := H.h0, h1 := H.h1, h2 := H.h2, h3 := H.h3, h4 := H.h4, h5 := H.h5, h6 := H.h6, f0 := H.f0, f1 := H.f1, f2 := H.f2, f3 := H.f3, f4 := H.f4, f5 := H.f5, f6 := H.f6, s0 := H.s0, s2 := H.s2, s4 := H.s4, s5 := H.s5 }
theorem HP7.to_cc {B' : Bx} (hp : B'.prog = B.prog) (hw : B'.w = B.w) (H : HP7 B) : (H.to hp hw).cc = H.cc := by
  funext j
  unfold HP7.cc
  rfl
theorem HP7.to_ints {B' : Bx} (hp : B'.prog = B.prog) (hw : B'.w = B.w) (H : HP7 B) (θ : Nat → Nat) : ints7 (H.to hp hw) θ = ints7 H θ := by
  unfold ints7
  rfl
/-- the law's return -/
def LawEnd (B : Bx) (R₀ : Result → Shared → Prop) : Prop := ∀ c p m y tk, MnC B R₀ ⟨c, .base, .pure (.done (.ret (.bool true))), p, rowT ([] ++ []), m, y + 730, tk + 1046⟩
theorem lawEnd1 {tl : List DictEntry} {nl old kk n hs nl7 n7 hs7 n8 hs8 li nF hsF : Nat} (hB : EvB G tl nl old kk n hs) (h7 : ∀ ηb τb bb, EvW7 G (tl ++ [befE ηb τb bb]) nl7 n7 hs7 n8 hs8) (hF : EvFin G tl li nF hsF)
    (VC : ∀ (B : Bx) p, EvComp (G.within (cF B G) p)) (VA : ∀ (B B' : Bx) p w p1, EvAsk ((G.within (cF B G) p).within (cWL B' (G.within (cF B G) p) w) p1))
    (VS : ∀ (B B' B'' : Bx) p w p1 fa p2, EvSame (((G.within (cF B G) p).within (cWL B' (G.within (cF B G) p) w) p1).within (cA B'' ((G.within (cF B G) p).within (cWL B' (G.within (cF B G) p) w) p1) fa) p2))
    (O : B.Ok (n₀ + 5)) (F : G.Fits B) {k : Nat} (hk : k ≤ 61) (D : Dt) (X : Nat → Option Told) (I : Inv B k D X) (H : HP7 B) (hc : D.c = H.cc) (τ : Nat → Nat) (η : Nat → Int) (v0 v1 v2 v3 v4 v5 v6 v7 : Value) (hlt : D.lt = ltM τ η v0 v1 v2 v3 v4 v5 v6 v7 tl)
    (K : ∀ B', Grow B B' → LawEnd B' R₀) : At14 B G R₀ D (extOf X ++ []) := fun p y m tk => by
  have hD : ({ D with c := H.cc, lt := ltM τ η v0 v1 v2 v3 v4 v5 v6 v7 tl } : Dt) = D := by rw [← hlt, ← hc]
  have e := hB B D (extOf X ++ []) H τ η v0 v1 v2 v3 v4 v5 v6 v7 p y tk
  rw [hD] at e
  refine .anyM 400 (seg_to O F false n _ _ _ p _ 400 _ _ hs _ _ _ _ Jo _ _ e (ext_okJo X) fun p y1 m tk1 => ?_)
  refine MnC.norm _ _ _ ?_
  simp only [List.map_cons, List.map_nil, Mine.norm]
  rw [List.append_assoc, List.singleton_append]
  -- to the last comprehension
  generalize (fun j => tokV (valN _ j)) = θ
  generalize epA (objA _ old) = be
  generalize hbx : lob (ints7 H θ) be = bx
  generalize hηb : khA _ nl = ηb
  generalize hτb : ktA _ nl = τb
  generalize hfE : epA _ = fE
  have I1 : Inv B k { D with c := H.cc, lt := ltM τ η v0 v1 v2 v3 v4 v5 v6 v7 (tl ++ [befE ηb τb (y + kk)]), fE := fE } X := I.like hc.symm rfl rfl rfl rfl rfl rfl
  have z := fun B1 B2 D2 ext2 ηs τs vs y2 tk2 => h7 ηb τb (y + kk) B B1 { D with c := H.cc, fE := fE } (extOf X ++ []) τ η v0 v1 v2 v3 v4 v5 v6 v7 (tl ++ [befE ηb τb (y + kk)]) (y + kk) bx p y1 tk1 B2 D2 ext2 τ η v0 v1 v2 v3 v4 v5 v6 v7 ηs τs vs y2 tk2
  have e1 := fun B1 => congrArg Prod.fst (z B1 B D [] 0 0 .none 0 0)
  have e2 := congrArg (fun z => z.2.1) (z B B D [] 0 0 .none 0 0)
  have e3 := congrArg (fun z => z.2.2.1) (z B B D [] 0 0 .none 0 0)
  have ho := (op_parts (B := B) _ _ _ _ _ (e1 B) (ext_okJo X)).1
  refine .anyM 400 (run_to O F false n7 _ _ _ p _ 400 _ _ hs7 _ ho (call_at2 _ (code := fun B1 => cW B1 G y1) (fun B1 => e1 B1) (ext_okJo X) e2 e3 fun p1 R₁ KK p2 y2 m2 tk2 => ?_))
  refine MnC.norm _ _ _ ?_
  simp only [List.map_cons, List.map_nil, Mine.norm]
  obtain ⟨n2, hs2, h2⟩ := (VC B p1).w2
  refine .anyM 400 (seg_to (O.within (cF B G) p1) (F.within (cF B G) p1) false n2 _ _ _ p2 _ 400 _ _ hs2 _ _ _ _ Jo _ _ (h2 (B.within (cF B G) p1) { D with c := H.cc, lt := ltM τ η v0 v1 v2 v3 v4 v5 v6 v7 (tl ++ [befE ηb τb (y + kk)]), fE := fE } (extOf X ++ []) y1 (y + kk) bx 0 7 p2 y2 tk2) (ext_okJo X) fun p3 y3 m3 tk3 => ?_)
  have I2 := Inv.to (B := B) (B' := B.within (cF B G) p1) rfl rfl (fun _ _ h => h) (Nat.le_refl k) I1
  refine compW (VC B p1) (fun B' w p2 => VA B B' p1 w p2) (fun B' B'' w p2 fa p3 => VS B B' B'' p1 w p2 fa p3) y1 (y + kk) bx hk { D with c := H.cc, lt := ltM τ η v0 v1 v2 v3 v4 v5 v6 v7 (tl ++ [befE ηb τb (y + kk)]), fE := fE } 7 0 rfl (B.within (cF B G) p1) (O.within _ _) (F.within _ _) _ X I2 (Keep.refl _) 0 0 .none (fun B' g D' X' I' P ηs τs vs => ?_) p3 y3 m3 tk3
  obtain ⟨B2, g2, rfl⟩ := g.within
  intro c p4 y4 m4 tk4
  rw [← List.append_assoc]
  refine KK B2 g2 _ _ 400 _ _ ?_ c p4 m4
  have e4 := congrArg (fun z => z.2.2.2) (z B B2 D' (extOf X' ++ []) ηs τs vs y4 tk4)
  have hD' : ({ D' with lt := ltM τ η v0 v1 v2 v3 v4 v5 v6 v7 (tl ++ [befE ηb τb (y + kk)]) } : Dt) = D' := by
    have := P.lt
    simp only at this
    rw [← this]
  simp only [hD'] at e4
  refine seg_to (g2.ok O) (g2.fits F) false n8 _ _ _ _ _ 400 _ _ hs8 _ _ _ _ Jo _ _ e4 (ext_okJo X') fun p5 y5 m5 tk5 => ?_
  -- the last return
  have hp2 : B2.prog = B.prog := by
    rcases g2 with rfl | ⟨F', rfl⟩ <;> rfl
  have hw2 : B2.w = B.w := by
    rcases g2 with rfl | ⟨F', rfl⟩ <;> rfl
  subst hbx
  rw [List.append_assoc tl]
  generalize khA _ nl7 = ηw
  generalize ktA _ nl7 = τw
  generalize epA _ = fE'
  have hD'' : ({ D' with c := (H.to hp2 hw2).cc, lt := ltM τ η v0 v1 v2 v3 v4 v5 v6 v7 (tl ++ [befE ηb τb (y + kk), wrongE ηw τw y1]), fE := fE' } : Dt) = { D' with lt := ltM τ η v0 v1 v2 v3 v4 v5 v6 v7 (tl ++ [befE ηb τb (y + kk), wrongE ηw τw y1]), fE := fE' } := by
    have hcc : (H.to hp2 hw2).cc = D'.c := by
      rw [P.c, HP7.to_cc]
    rw [hcc]
  have e5 := hF B2 { D' with fE := fE' } (extOf X' ++ []) (H.to hp2 hw2) τ η v0 v1 v2 v3 v4 v5 v6 v7 y1 (y + kk) ηb ηw τb τw θ be p5 y5 tk5
  simp only [hD'', HP7.to_ints] at e5
  exact .anyM 400 (seg_to (g2.ok O) (g2.fits F) false nF _ _ _ p5 _ 400 _ _ hsF _ _ _ _ [] [] [] e5 (ExtOk.nil []) fun p y m tk => K B2 g2 _ p m y tk)
end
end Mine
end

section
open PySem PySem.Spec PySem.Calls PyProof.Rows PySem.W PySem.W.X
namespace Mine
/-- for the asked from the loop and from the last comprehension -/
def QA (kt : Params → KT) (E : Gx → Prop) : Prop := QAL kt E ∧ QAC kt E
def QS (kt : Params → KT) (E : Gx → Prop) : Prop := QSL kt E ∧ QSC kt E
def QT (kt : Params → KT) (E : Gx → List DictEntry → List DictEntry → Prop) : Prop := QTA kt E ∧ QTB kt E
def QT3 (kt : Params → KT) (E : Gx → List DictEntry → Prop) : Prop := QTC kt E ∧ QTD kt E
/-- all equations -/
structure Evs (kt : Params → KT) : Prop where
  w0m : ∀ i, i < 7 → isMap i = true → ∃ kn n hs, QT kt fun G lt tl => EvW0m G i lt tl kn n hs
  w0l : ∀ i, i < 7 → isMap i = false → ∃ n hs, QT kt fun G lt tl => EvW0l G i lt tl n hs
  w1m : ∀ i, i < 7 → isMap i = true → ∃ n hs n2 hs2, QT kt fun G lt tl => EvW1m G i lt tl n hs n2 hs2
  w1l : ∀ i, i < 7 → isMap i = false → ∃ n hs, QT kt fun G lt tl => EvW1l G i lt tl n hs
  k2 : ∀ i, i < 7 → ∃ n hs n2 hs2, QT kt fun G lt tl => EvTA G i lt tl 2 md0 n hs n2 hs2
  k3l : ∀ i, i < 7 → isMap i = false → ∃ n hs n2 hs2, QT kt fun G lt tl => EvTA G i lt tl 3 md0 n hs n2 hs2
  k1l : ∀ i, i < 7 → isMap i = false → ∃ n hs n2 hs2, QT kt fun G lt tl => EvTA G i lt tl 1 (mdL i) n hs n2 hs2
  k1m : ∀ i, i < 7 → isMap i = true → ∃ n hs n2 hs2, QT kt fun G lt tl => EvTA G i lt tl 1 (mdM i) n hs n2 hs2
  k3m : ∀ i, i < 7 → isMap i = true → ∃ n hs n2 hs2, QT kt fun G lt tl => EvTA G i lt tl 3 (mdN i) n hs n2 hs2
  w3 : ∀ i, i < 7 → isMap i = true → (∃ tn ti kn n hs, QTC kt fun G lt => EvW3 G i lt false tn ti kn n hs) ∧ (∃ tn ti kn n hs, QTD kt fun G lt => EvW3 G i lt false tn ti kn n hs)
  w3' : ∀ i, i < 4 → isMap i = true → (∃ tn ti kn n hs, QTC kt fun G lt => EvW3 G i lt true tn ti kn n hs) ∧ (∃ tn ti kn n hs, QTD kt fun G lt => EvW3 G i lt true tn ti kn n hs)
  cut : QX kt fun G => EvCut G
  c : ∀ i, i < 7 → ∃ n hs, QX kt fun G => EvC G i n hs
  r : ∀ i, i < 7 → ∃ n hs n2 hs2, QX kt fun G => EvR G i n hs n2 hs2
  am : ∀ i, i < 7 → isMap i = true → ∃ n hs n2 hs2 n3 hs3, QA kt fun G => EvAm G i 402 [] #[] n hs n2 hs2 n3 hs3
  am' : ∀ i, i < 4 → isMap i = true → ∃ n hs n2 hs2 n3 hs3, QA kt fun G => ∀ h t v, EvAm G i 402 [otherE i h t v] #[none] n hs n2 hs2 n3 hs3
  al : ∀ i, i < 7 → isMap i = false → ∃ n hs n2 hs2 n3 hs3, QA kt fun G => EvAl G i 402 [] #[] n hs n2 hs2 n3 hs3
  al' : ∀ i, i < 4 → isMap i = false → ∃ n hs n2 hs2 n3 hs3, QA kt fun G => ∀ h t v, EvAl G i 402 [otherE i h t v] #[none] n hs n2 hs2 n3 hs3
  ae : ∀ i, i < 7 → isMap i = false → ∃ k old n hs n3 hs3, QA kt fun G => EvAe G i 402 [] #[] k old n hs n3 hs3
  ae' : ∀ i, i < 4 → isMap i = false → ∃ k old n hs n3 hs3, QA kt fun G => ∀ h t v, EvAe G i 402 [otherE i h t v] #[none] k old n hs n3 hs3
  ag : ∀ i, i < 7 → ∃ n hs, QA kt fun G => EvAg G i 402 false n hs
  ag' : ∀ i, i < 4 → ∃ n hs, QA kt fun G => EvAg G i 402 true n hs
  m1 : ∀ two, ∃ n hs n2 hs2 n3 hs3, QS kt fun G => EvSm G two n hs n2 hs2 n3 hs3
  m3 : ∀ c, ∃ n hs, QW c kt fun G => EvSm3 G n hs
  m4 : ∀ x ∈ poolAll, ∀ two, ∃ n hs, QX kt fun G => EvSm4 G x two n hs
  m5 : ∀ two, ∃ n hs, QX kt fun G => EvSm5 G two n hs
  t1 : ∀ two, ∃ n hs n3 hs3, QS kt fun G => EvSt G two n hs n3 hs3
  t3 : ∀ c, ∃ n hs, QW c kt fun G => EvSt3 G n hs
  t4 : ∀ x ∈ poolTup, ∀ two, ∃ n hs, QX kt fun G => EvSt4 G x two n hs
  t5 : ∀ two, ∃ n hs, QX kt fun G => EvSt5 G two n hs
  l1 : ∃ n hs n2 hs2, QK kt fun G => EvL G n hs n2 hs2
  l2 : ∃ n hs, QX kt fun G => EvL2 G n hs
  b0 : ∀ c, ∃ nl old k n hs, QW c kt fun G => EvB G [] nl old k n hs
  b1 : ∀ c, ∃ nl old k n hs, QW c kt fun G => ∀ ηt τt vt, EvB G [toldE ηt τt vt] nl old k n hs
  w7 : ∃ nl n hs n2 hs2, QK kt fun G => ∀ ηb τb bb, EvW7 G [befE ηb τb bb] nl n hs n2 hs2
  w7' : ∃ nl n hs n2 hs2, QK kt fun G => ∀ ηt τt vt ηb τb bb, EvW7 G [toldE ηt τt vt, befE ηb τb bb] nl n hs n2 hs2
  f0 : ∀ c, ∃ li n hs, QKW c kt fun G => EvFin G [] li n hs
  f1 : ∀ c, ∃ li n hs, QKW c kt fun G => ∀ ηt τt vt, EvFin G [toldE ηt τt vt] li n hs
  w2 : ∀ c, ∃ n hs, QW c kt fun G => EvW2 G n hs
  w4 : ∀ j, j < 7 → ∃ n hs n2 hs2, QF kt fun G => EvW4 G j (decide (j ≠ 0)) n hs n2 hs2
  w6 : ∃ n hs, QX kt fun G => EvW6 G n hs
  i0 : ∃ n hs n2 hs2, Q0 kt n hs ∧ Q9 kt n hs n2 hs2
  i1 : ∃ n hs, Q1 kt n hs
  i1' : ∃ n hs, QK kt fun G => EvI1' G n hs
  i2 : ∀ c, ∃ n hs, QKW c kt fun G => EvI2 G n hs
  i3 : ∀ r, r < 3 → ∃ n hs, QK kt fun G => EvI3 G r n hs
  i4 : ∃ n hs, QK kt fun G => EvI4 G n hs
  i5 : ∃ n hs, QK kt fun G => EvI5 G n hs
  i6 : ∃ n hs, QK kt fun G => EvI6 G n hs
section
variable {kt : Params → KT} (V : Evs kt) (P : Params) (b c : Bool) (l : List Value)
include V
theorem Evs.turn (f : List Stmt) (g : Env) (p2 p3 : Pos) : EvTurn (Gof kt P b c l (actF f g p2 p3)) := by
  have two : ∀ {E : Gx → List DictEntry → List DictEntry → Prop}, QT kt E → ∀ lt tl, LT lt tl → E (Gof kt P b c l (actF f g p2 p3)) lt tl := fun {E} q lt tl h => by
    rcases h with ⟨rfl, rfl⟩ | ⟨τ, η, v0, v1, v2, v3, v4, v5, v6, v7, rfl⟩
    · exact q.1 P b c l f g p2 p3
    · exact q.2 P b c l f g p2 p3 τ η v0 v1 v2 v3 v4 v5 v6 v7 tl
  refine ⟨fun i hi hm lt tl h => ?_, fun i hi hm lt tl h => ?_, fun i hi hm lt tl h => ?_, fun i hi hm lt tl h => ?_, fun i hi lt tl h => ?_, fun i hi hm lt tl h => ?_, fun i hi hm lt tl h => ?_, fun i hi hm lt tl h => ?_, fun i hi hm lt tl h => ?_, fun i hi hm two' h4 lt h => ?_⟩
  · obtain ⟨kn, n, hs, q⟩ := V.w0m i hi hm; exact ⟨kn, n, hs, two q lt tl h⟩
  · obtain ⟨n, hs, q⟩ := V.w0l i hi hm; exact ⟨n, hs, two q lt tl h⟩
  · obtain ⟨n, hs, n2, hs2, q⟩ := V.w1m i hi hm; exact ⟨n, hs, n2, hs2, two q lt tl h⟩
  · obtain ⟨n, hs, q⟩ := V.w1l i hi hm; exact ⟨n, hs, two q lt tl h⟩
  · obtain ⟨n, hs, n2, hs2, q⟩ := V.k2 i hi; exact ⟨n, hs, n2, hs2, two q lt tl h⟩
  · obtain ⟨n, hs, n2, hs2, q⟩ := V.k3l i hi hm; exact ⟨n, hs, n2, hs2, two q lt tl h⟩
  · obtain ⟨n, hs, n2, hs2, q⟩ := V.k1l i hi hm; exact ⟨n, hs, n2, hs2, two q lt tl h⟩
  · obtain ⟨n, hs, n2, hs2, q⟩ := V.k1m i hi hm; exact ⟨n, hs, n2, hs2, two q lt tl h⟩
  · obtain ⟨n, hs, n2, hs2, q⟩ := V.k3m i hi hm; exact ⟨n, hs, n2, hs2, two q lt tl h⟩
  · obtain ⟨τ, η, v0, v1, v2, v3, v4, v5, v6, v7, tl, ht, rfl⟩ := h
    cases two' with
    | false =>
      obtain ⟨⟨tn, ti, kn, n, hs, q⟩, ⟨tn', ti', kn', n', hs', q'⟩⟩ := V.w3 i hi hm
      rcases ht with rfl | ⟨ηt, τt, vt, rfl⟩
      · exact ⟨tn, ti, kn, n, hs, q P b c l f g p2 p3 τ η v0 v1 v2 v3 v4 v5 v6 v7⟩
      · exact ⟨tn', ti', kn', n', hs', q' P b c l f g p2 p3 τ η v0 v1 v2 v3 v4 v5 v6 v7 ηt τt vt⟩
    | true =>
      obtain ⟨⟨tn, ti, kn, n, hs, q⟩, ⟨tn', ti', kn', n', hs', q'⟩⟩ := V.w3' i (h4 rfl) hm
      rcases ht with rfl | ⟨ηt, τt, vt, rfl⟩
      · exact ⟨tn, ti, kn, n, hs, q P b c l f g p2 p3 τ η v0 v1 v2 v3 v4 v5 v6 v7⟩
      · exact ⟨tn', ti', kn', n', hs', q' P b c l f g p2 p3 τ η v0 v1 v2 v3 v4 v5 v6 v7 ηt τt vt⟩
theorem Evs.ask (A : List (Code × Pos)) (get : ∀ {E : Gx → Prop}, QA kt E → E (Gof kt P b c l A)) : EvAsk (Gof kt P b c l A) := by
  refine ⟨V.cut P b c l A, fun i hi => ?_, fun i hi => ?_, fun i hi hm => ?_, fun i hi hm => ?_, fun i hi hm => ?_, fun i hi hm => ?_, fun i hi hm => ?_, fun i hi hm => ?_, fun i hi => ?_, fun i hi => ?_⟩
  · obtain ⟨n, hs, q⟩ := V.c i hi; exact ⟨n, hs, q P b c l A⟩
  · obtain ⟨n, hs, n2, hs2, q⟩ := V.r i hi; exact ⟨n, hs, n2, hs2, q P b c l A⟩
  · obtain ⟨n, hs, n2, hs2, n3, hs3, q⟩ := V.am i hi hm; exact ⟨n, hs, n2, hs2, n3, hs3, get q⟩
  · obtain ⟨n, hs, n2, hs2, n3, hs3, q⟩ := V.am' i hi hm; exact ⟨n, hs, n2, hs2, n3, hs3, get q⟩
  · obtain ⟨n, hs, n2, hs2, n3, hs3, q⟩ := V.al i hi hm; exact ⟨n, hs, n2, hs2, n3, hs3, get q⟩
  · obtain ⟨n, hs, n2, hs2, n3, hs3, q⟩ := V.al' i hi hm; exact ⟨n, hs, n2, hs2, n3, hs3, get q⟩
  · obtain ⟨n, hs, n2, hs2, n3, hs3, q⟩ := V.ae i hi hm; exact ⟨n, hs, n2, hs2, n3, hs3, get q⟩
  · obtain ⟨n, hs, n2, hs2, n3, hs3, q⟩ := V.ae' i hi hm; exact ⟨n, hs, n2, hs2, n3, hs3, get q⟩
  · obtain ⟨n, hs, q⟩ := V.ag i hi; exact ⟨n, hs, get q⟩
  · obtain ⟨n, hs, q⟩ := V.ag' i hi; exact ⟨n, hs, get q⟩
theorem Evs.same (A : List (Code × Pos)) (get : ∀ {E : Gx → Prop}, QS kt E → E (Gof kt P b c l A)) : EvSame (Gof kt P b c l A) := by
  refine ⟨fun two => ?_, ?_, fun x hx two => ?_, fun two => ?_, fun two => ?_, ?_, fun x hx two => ?_, fun two => ?_⟩
  · obtain ⟨n, hs, n2, hs2, n3, hs3, q⟩ := V.m1 two; exact ⟨n, hs, n2, hs2, n3, hs3, get q⟩
  · obtain ⟨n, hs, q⟩ := V.m3 c; exact ⟨n, hs, fun acts => q P b l acts⟩
  · obtain ⟨n, hs, q⟩ := V.m4 x hx two; exact ⟨n, hs, fun acts => q P b c l acts⟩
  · obtain ⟨n, hs, q⟩ := V.m5 two; exact ⟨n, hs, fun acts => q P b c l acts⟩
  · obtain ⟨n, hs, n3, hs3, q⟩ := V.t1 two; exact ⟨n, hs, n3, hs3, get q⟩
  · obtain ⟨n, hs, q⟩ := V.t3 c; exact ⟨n, hs, fun acts => q P b l acts⟩
  · obtain ⟨n, hs, q⟩ := V.t4 x hx two; exact ⟨n, hs, fun acts => q P b c l acts⟩
  · obtain ⟨n, hs, q⟩ := V.t5 two; exact ⟨n, hs, fun acts => q P b c l acts⟩
theorem Evs.comp (f : List Stmt) (g : Env) (p2 p3 : Pos) : EvComp (Gof kt P b c l (actF f g p2 p3)) := by
  refine ⟨?_, fun j hj => ?_, ?_⟩
  · obtain ⟨n, hs, q⟩ := V.w2 c; exact ⟨n, hs, q P b l _⟩
  · obtain ⟨n, hs, n2, hs2, q⟩ := V.w4 j hj; exact ⟨n, hs, n2, hs2, q P b c l f g p2 p3⟩
  · obtain ⟨n, hs, q⟩ := V.w6; exact ⟨n, hs, q P b c l _⟩
theorem Evs.end' (p3 : Pos) : EvEnd (Gof kt P b c l [(claimC, p3)]) := by
  refine ⟨?_, ?_, ?_, ?_, ?_, ?_⟩
  · obtain ⟨nl, old, k, n, hs, q⟩ := V.b0 c; exact ⟨nl, old, k, n, hs, q P b l _⟩
  · obtain ⟨nl, old, k, n, hs, q⟩ := V.b1 c; exact ⟨nl, old, k, n, hs, q P b l _⟩
  · obtain ⟨nl, n, hs, n2, hs2, q⟩ := V.w7; exact ⟨nl, n, hs, n2, hs2, q P b c l p3⟩
  · obtain ⟨nl, n, hs, n2, hs2, q⟩ := V.w7'; exact ⟨nl, n, hs, n2, hs2, q P b c l p3⟩
  · obtain ⟨li, n, hs, q⟩ := V.f0 c; exact ⟨li, n, hs, q P b l p3⟩
  · obtain ⟨li, n, hs, q⟩ := V.f1 c; exact ⟨li, n, hs, q P b l p3⟩
end
end Mine
end

open PySem PySem.Spec PySem.Calls PyProof.Rows PySem.W PySem.W.X PySem.W.ZRun
namespace Mine
/-- what is asked of the law's call -/
abbrev WalkT (kt : Params → KT) : Prop := ∀ (w : World) (s0 s1 : Shared) (args : List WData) (vals : List Value) (as : List Addr), s1.gens = #[] →
  Laid PySem.Challenge.rw_be5011_01.row.records w s0 s1 args vals as → PySem.Challenge.rw_be5011_01.row.claim.pre args = true → WData.layableAll args = true →
  KT.Holds s1.heap 1 0 (kt w.params) → s0.heap.objs.size = 528 → s0.toks = 1046 →
  RunsTo PySem.Challenge.rw_be5011_01.row.prog w (callTree PySem.Challenge.rw_be5011_01.row.name vals) (GoodWG PySem.Challenge.rw_be5011_01.row.claim (classAt s0.heap) (ExcName.means s0.heap) args s1) s1
local macro_rules | `(tactic| k_head) => `(tactic| z_head)
set_option maxHeartbeats 0 in
open_top hd for PySem.Challenge.rw_be5011_01
set_option maxHeartbeats 0 in
noncomputable def topK : (kt : Params → KT) ×' (WalkT kt → PySem.Challenge.rw_be5011_01.Holds) :=
  ⟨_, fun H => hd (by
    intro w s0 s1 mg mb G y hg args vals as L hpre hlay
    z_open y L KX ZH ZN ZT
    exact H w s0 s1 args vals as hg L hpre hlay ZH ZN ZT)⟩
/-- the law's own objects -/
noncomputable def ktM : Params → KT := topK.1
end Mine

section
open PySem PySem.Spec PySem.Calls PyProof.Rows PySem.W PySem.W.X
namespace Mine
theorem ev_w0m_0_a : QTA ktM fun G lt tl => EvW0m G 0 lt tl 1072 309 82817704451351119464828916293087196205866885816239581957697948911537114440227278458955598847872462839049488852810682700861386102223915587836850763008543375878711035651155196267043649424049813414501623040634258424475906148409803820227909059546074137098767458100140312296382920141086376484517802787296733224167991062481611192898744139996316531315810820435096053756863364774826722173439866362555943680007161233969745525715266106745786437878871322640819443160571971199628738560 := by
  repeat intro _
  kernel_rfl
theorem ev_w0m_0_b : QTB ktM fun G lt tl => EvW0m G 0 lt tl 1072 309 82817704451351119464828916293087196205866885816239581957697948911537114440227278458955598847872462839049488852810682700861386102223915587836850763008543375878711035651155196267043649424049813414501623040634258424475906148409803820227909059546074137098767458100140312296382920141086376484517802787296733224167991062481611192898744139996316531315810820435096053756863364774826722173439866362555943680007161233969745525715266106745786437878871322640819443160571971199628738560 := by
  repeat intro _
  kernel_rfl
theorem ev_w0m_2_a : QTA ktM fun G lt tl => EvW0m G 2 lt tl 1072 309 82817704451351119464828916293087196205866885816239581957697948911537114440227278458955598847872462839049488852810682700861386102223915587836850763008543375878711035651155196267043649424049813414501623040634258424475906148409803820227909059546074137098767458100140312296382920141086376484517802787296733224167991062481611192898744139996316531315810820435096053756863364774826722173439866362555943680007161233969745525715266106745786437878871322640819443160571971199628738560 := by
  repeat intro _
  kernel_rfl
theorem ev_w0m_2_b : QTB ktM fun G lt tl => EvW0m G 2 lt tl 1072 309 82817704451351119464828916293087196205866885816239581957697948911537114440227278458955598847872462839049488852810682700861386102223915587836850763008543375878711035651155196267043649424049813414501623040634258424475906148409803820227909059546074137098767458100140312296382920141086376484517802787296733224167991062481611192898744139996316531315810820435096053756863364774826722173439866362555943680007161233969745525715266106745786437878871322640819443160571971199628738560 := by
  repeat intro _
  kernel_rfl
theorem ev_w0m_4_a : QTA ktM fun G lt tl => EvW0m G 4 lt tl 1072 309 82817704451351119464828916293087196205866885816239581957697948911537114440227278458955598847872462839049488852810682700861386102223915587836850763008543375878711035651155196267043649424049813414501623040634258424475906148409803820227909059546074137098767458100140312296382920141086376484517802787296733224167991062481611192898744139996316531315810820435096053756863364774826722173439866362555943680007161233969745525715266106745786437878871322640819443160571971199628738560 := by
  repeat intro _
  kernel_rfl
theorem ev_w0m_4_b : QTB ktM fun G lt tl => EvW0m G 4 lt tl 1072 309 82817704451351119464828916293087196205866885816239581957697948911537114440227278458955598847872462839049488852810682700861386102223915587836850763008543375878711035651155196267043649424049813414501623040634258424475906148409803820227909059546074137098767458100140312296382920141086376484517802787296733224167991062481611192898744139996316531315810820435096053756863364774826722173439866362555943680007161233969745525715266106745786437878871322640819443160571971199628738560 := by
  repeat intro _
  kernel_rfl
theorem ev_w0m_5_a : QTA ktM fun G lt tl => EvW0m G 5 lt tl 1072 309 82817704451351119464828916293087196205866885816239581957697948911537114440227278458955598847872462839049488852810682700861386102223915587836850763008543375878711035651155196267043649424049813414501623040634258424475906148409803820227909059546074137098767458100140312296382920141086376484517802787296733224167991062481611192898744139996316531315810820435096053756863364774826722173439866362555943680007161233969745525715266106745786437878871322640819443160571971199628738560 := by
  repeat intro _
  kernel_rfl
theorem ev_w0m_5_b : QTB ktM fun G lt tl => EvW0m G 5 lt tl 1072 309 82817704451351119464828916293087196205866885816239581957697948911537114440227278458955598847872462839049488852810682700861386102223915587836850763008543375878711035651155196267043649424049813414501623040634258424475906148409803820227909059546074137098767458100140312296382920141086376484517802787296733224167991062481611192898744139996316531315810820435096053756863364774826722173439866362555943680007161233969745525715266106745786437878871322640819443160571971199628738560 := by
  repeat intro _
  kernel_rfl
theorem ev_w0l_1_a : QTA ktM fun G lt tl => EvW0l G 1 lt tl 310 82817783355263404888410453783325950855578386486104774526562270386778939261905865724407794877846363363121205690400366525455107967043490404437521616857717471982375546996593294052333892144535668612332062139040683861523946596162578663965516832359098648918414001594599626306280411846150704668378841818737100768006082857032662770516921110583534833836886069833318862194163884849848376283093303998291230391681802009346321438618202493214089834285419863122782346148505942406763380736 := by
  repeat intro _
  kernel_rfl
theorem ev_w0l_1_b : QTB ktM fun G lt tl => EvW0l G 1 lt tl 310 82817783355263404888410453783325950855578386486104774526562270386778939261905865724407794877846363363121205690400366525455107967043490404437521616857717471982375546996593294052333892144535668612332062139040683861523946596162578663965516832359098648918414001594599626306280411846150704668378841818737100768006082857032662770516921110583534833836886069833318862194163884849848376283093303998291230391681802009346321438618202493214089834285419863122782346148505942406763380736 := by
  repeat intro _
  kernel_rfl
theorem ev_w0l_3_a : QTA ktM fun G lt tl => EvW0l G 3 lt tl 310 82817783355263404888410453783325950855578386486104774526562270386778939261905865724407794877846363363121205690400366525455107967043490404437521616857717471982375546996593294052333892144535668612332062139040683861523946596162578663965516832359098648918414001594599626306280411846150704668378841818737100768006082857032662770516921110583534833836886069833318862194163884849848376283093303998291230391681802009346321438618202493214089834285419863122782346148505942406763380736 := by
  repeat intro _
  kernel_rfl
theorem ev_w0l_3_b : QTB ktM fun G lt tl => EvW0l G 3 lt tl 310 82817783355263404888410453783325950855578386486104774526562270386778939261905865724407794877846363363121205690400366525455107967043490404437521616857717471982375546996593294052333892144535668612332062139040683861523946596162578663965516832359098648918414001594599626306280411846150704668378841818737100768006082857032662770516921110583534833836886069833318862194163884849848376283093303998291230391681802009346321438618202493214089834285419863122782346148505942406763380736 := by
  repeat intro _
  kernel_rfl
theorem ev_w0l_6_a : QTA ktM fun G lt tl => EvW0l G 6 lt tl 310 82817783355263404888410453783325950855578386486104774526562270386778939261905865724407794877846363363121205690400366525455107967043490404437521616857717471982375546996593294052333892144535668612332062139040683861523946596162578663965516832359098648918414001594599626306280411846150704668378841818737100768006082857032662770516921110583534833836886069833318862194163884849848376283093303998291230391681802009346321438618202493214089834285419863122782346148505942406763380736 := by
  repeat intro _
  kernel_rfl
theorem ev_w0l_6_b : QTB ktM fun G lt tl => EvW0l G 6 lt tl 310 82817783355263404888410453783325950855578386486104774526562270386778939261905865724407794877846363363121205690400366525455107967043490404437521616857717471982375546996593294052333892144535668612332062139040683861523946596162578663965516832359098648918414001594599626306280411846150704668378841818737100768006082857032662770516921110583534833836886069833318862194163884849848376283093303998291230391681802009346321438618202493214089834285419863122782346148505942406763380736 := by
  repeat intro _
  kernel_rfl
theorem ev_w1m_0_a : QTA ktM fun G lt tl => EvW1m G 0 lt tl 314 31183039803437468671437814357029838444977972906103899755035670292631217842697873006617026811749759474121755578421794700578273685757638132200186156435238775071301563733040318245055776250911939283432041004461346668670526132672954815823732985605427090045264692638525904003755620149634613268036295805144325039995964945883543728701301898286770970541354741798430783926304905349679508358827834418680316970973046984011189223177799924793330368512 16 2251802433489346 := by
  repeat intro _
  kernel_rfl
theorem ev_w1m_0_b : QTB ktM fun G lt tl => EvW1m G 0 lt tl 314 31183039803437468671437814357029838444977972906103899755035670292631217842697873006617026811749759474121755578421794700578273685757638132200186156435238775071301563733040318245055776250911939283432041004461346668670526132672954815823732985605427090045264692638525904003755620149634613268036295805144325039995964945883543728701301898286770970541354741798430783926304905349679508358827834418680316970973046984011189223177799924793330368512 16 2251802433489346 := by
  repeat intro _
  kernel_rfl
theorem ev_w1m_2_a : QTA ktM fun G lt tl => EvW1m G 2 lt tl 314 31183039803437468671437814357029838444977972906103899755035670292631217842697873006617026811749759474121755578421794700578273685757638132200186156435238775071301563733040318245055776250911939283432041004461346668670526132672954815823732985605427090045264692638525904003755620149634613268036295805144325039995964945883543728701301898286770970541354741798430783926304905349679508358827834418680316970973046984011189223177799924793330368512 16 2251802433489346 := by
  repeat intro _
  kernel_rfl
theorem ev_w1m_2_b : QTB ktM fun G lt tl => EvW1m G 2 lt tl 314 31183039803437468671437814357029838444977972906103899755035670292631217842697873006617026811749759474121755578421794700578273685757638132200186156435238775071301563733040318245055776250911939283432041004461346668670526132672954815823732985605427090045264692638525904003755620149634613268036295805144325039995964945883543728701301898286770970541354741798430783926304905349679508358827834418680316970973046984011189223177799924793330368512 16 2251802433489346 := by
  repeat intro _
  kernel_rfl
theorem ev_w1m_4_a : QTA ktM fun G lt tl => EvW1m G 4 lt tl 314 31183039803437468671437814357029838444977972906103899755035670292631217842697873006617026811749759474121755578421794700578273685757638132200186156435238775071301563733040318245055776250911939283432041004461346668670526132672954815823732985605427090045264692638525904003755620149634613268036295805144325039995964945883543728701301898286770970541354741798430783926304905349679508358827834418680316970973046984011189223177799924793330368512 16 2251802433489346 := by
  repeat intro _
  kernel_rfl
theorem ev_w1m_4_b : QTB ktM fun G lt tl => EvW1m G 4 lt tl 314 31183039803437468671437814357029838444977972906103899755035670292631217842697873006617026811749759474121755578421794700578273685757638132200186156435238775071301563733040318245055776250911939283432041004461346668670526132672954815823732985605427090045264692638525904003755620149634613268036295805144325039995964945883543728701301898286770970541354741798430783926304905349679508358827834418680316970973046984011189223177799924793330368512 16 2251802433489346 := by
  repeat intro _
  kernel_rfl
theorem ev_w1m_5_a : QTA ktM fun G lt tl => EvW1m G 5 lt tl 314 31183039803437468671437814357029838444977972906103899755035670292631217842697873006617026811749759474121755578421794700578273685757638132200186156435238775071301563733040318245055776250911939283432041004461346668670526132672954815823732985605427090045264692638525904003755620149634613268036295805144325039995964945883543728701301898286770970541354741798430783926304905349679508358827834418680316970973046984011189223177799924793330368512 16 2251802433489346 := by
  repeat intro _
  kernel_rfl
theorem ev_w1m_5_b : QTB ktM fun G lt tl => EvW1m G 5 lt tl 314 31183039803437468671437814357029838444977972906103899755035670292631217842697873006617026811749759474121755578421794700578273685757638132200186156435238775071301563733040318245055776250911939283432041004461346668670526132672954815823732985605427090045264692638525904003755620149634613268036295805144325039995964945883543728701301898286770970541354741798430783926304905349679508358827834418680316970973046984011189223177799924793330368512 16 2251802433489346 := by
  repeat intro _
  kernel_rfl
theorem ev_w1l_1_a : QTA ktM fun G lt tl => EvW1l G 1 lt tl 316 73556897794220965227695874385882359371506314765824588168513185952192523320891607956336485713306139330021044708723615139963087117480123403738957576294729032524754304179556125761484328843935722803500351892504202346314601043015710098788463834302213603161704337274616067886843157615051167151922278690455599895566893995671525915099024041470625928069539302015806942897875713978756640964026251920879262491215898947913334793860193353762753966457102146447529071345664 := by
  repeat intro _
  kernel_rfl
theorem ev_w1l_1_b : QTB ktM fun G lt tl => EvW1l G 1 lt tl 316 73556897794220965227695874385882359371506314765824588168513185952192523320891607956336485713306139330021044708723615139963087117480123403738957576294729032524754304179556125761484328843935722803500351892504202346314601043015710098788463834302213603161704337274616067886843157615051167151922278690455599895566893995671525915099024041470625928069539302015806942897875713978756640964026251920879262491215898947913334793860193353762753966457102146447529071345664 := by
  repeat intro _
  kernel_rfl
theorem ev_w1l_3_a : QTA ktM fun G lt tl => EvW1l G 3 lt tl 316 73556897794220965227695874385882359371506314765824588168513185952192523320891607956336485713306139330021044708723615139963087117480123403738957576294729032524754304179556125761484328843935722803500351892504202346314601043015710098788463834302213603161704337274616067886843157615051167151922278690455599895566893995671525915099024041470625928069539302015806942897875713978756640964026251920879262491215898947913334793860193353762753966457102146447529071345664 := by
  repeat intro _
  kernel_rfl
theorem ev_w1l_3_b : QTB ktM fun G lt tl => EvW1l G 3 lt tl 316 73556897794220965227695874385882359371506314765824588168513185952192523320891607956336485713306139330021044708723615139963087117480123403738957576294729032524754304179556125761484328843935722803500351892504202346314601043015710098788463834302213603161704337274616067886843157615051167151922278690455599895566893995671525915099024041470625928069539302015806942897875713978756640964026251920879262491215898947913334793860193353762753966457102146447529071345664 := by
  repeat intro _
  kernel_rfl
theorem ev_w1l_6_a : QTA ktM fun G lt tl => EvW1l G 6 lt tl 316 73556897794220965227695874385882359371506314765824588168513185952192523320891607956336485713306139330021044708723615139963087117480123403738957576294729032524754304179556125761484328843935722803500351892504202346314601043015710098788463834302213603161704337274616067886843157615051167151922278690455599895566893995671525915099024041470625928069539302015806942897875713978756640964026251920879262491215898947913334793860193353762753966457102146447529071345664 := by
  repeat intro _
  kernel_rfl
theorem ev_w1l_6_b : QTB ktM fun G lt tl => EvW1l G 6 lt tl 316 73556897794220965227695874385882359371506314765824588168513185952192523320891607956336485713306139330021044708723615139963087117480123403738957576294729032524754304179556125761484328843935722803500351892504202346314601043015710098788463834302213603161704337274616067886843157615051167151922278690455599895566893995671525915099024041470625928069539302015806942897875713978756640964026251920879262491215898947913334793860193353762753966457102146447529071345664 := by
  repeat intro _
  kernel_rfl
theorem ev_k2_0_a : QTA ktM fun G lt tl => EvTA G 0 lt tl 2 md0 305 28333086442011558041984860759175708301674211458903577526707657229140707277197381253302357510115751108634302905302461842264979174894253966209121391284355945219841930666322707975562575808942795426128338132829193134994681347972692750770439759360663571603517611280704551116541904984277605625172172452833004087303971486942917560609789477542650715880014199623104246367432194008496844037849181318931627751198948594114018777380159488 3 0 := by
  repeat intro _
  kernel_rfl
theorem ev_k2_0_b : QTB ktM fun G lt tl => EvTA G 0 lt tl 2 md0 305 28333086442011558041984860759175708301674211458903577526707657229140707277197381253302357510115751108634302905302461842264979174894253966209121391284355945219841930666322707975562575808942795426128338132829193134994681347972692750770439759360663571603517611280704551116541904984277605625172172452833004087303971486942917560609789477542650715880014199623104246367432194008496844037849181318931627751198948594114018777380159488 3 0 := by
  repeat intro _
  kernel_rfl
theorem ev_k2_1_a : QTA ktM fun G lt tl => EvTA G 1 lt tl 2 md0 305 28333086442011558041984860759175708301674211458903577526707657229140707277197381253302357510115751108634302905302461842264979174894253966209121391284355945219841930666322707975562575808942795426128338132829193134994681347972692750770439759360663571603517611280704551116541904984277605625172172452833004087303971486942917560609789477542650715880014199623104246367432194008496844037849181318931627751198948594114018777380159488 3 0 := by
  repeat intro _
  kernel_rfl
theorem ev_k2_1_b : QTB ktM fun G lt tl => EvTA G 1 lt tl 2 md0 305 28333086442011558041984860759175708301674211458903577526707657229140707277197381253302357510115751108634302905302461842264979174894253966209121391284355945219841930666322707975562575808942795426128338132829193134994681347972692750770439759360663571603517611280704551116541904984277605625172172452833004087303971486942917560609789477542650715880014199623104246367432194008496844037849181318931627751198948594114018777380159488 3 0 := by
  repeat intro _
  kernel_rfl
theorem ev_k2_2_a : QTA ktM fun G lt tl => EvTA G 2 lt tl 2 md0 305 28333086442011558041984860759175708301674211458903577526707657229140707277197381253302357510115751108634302905302461842264979174894253966209121391284355945219841930666322707975562575808942795426128338132829193134994681347972692750770439759360663571603517611280704551116541904984277605625172172452833004087303971486942917560609789477542650715880014199623104246367432194008496844037849181318931627751198948594114018777380159488 3 0 := by
  repeat intro _
  kernel_rfl
theorem ev_k2_2_b : QTB ktM fun G lt tl => EvTA G 2 lt tl 2 md0 305 28333086442011558041984860759175708301674211458903577526707657229140707277197381253302357510115751108634302905302461842264979174894253966209121391284355945219841930666322707975562575808942795426128338132829193134994681347972692750770439759360663571603517611280704551116541904984277605625172172452833004087303971486942917560609789477542650715880014199623104246367432194008496844037849181318931627751198948594114018777380159488 3 0 := by
  repeat intro _
  kernel_rfl
theorem ev_k2_3_a : QTA ktM fun G lt tl => EvTA G 3 lt tl 2 md0 305 28333086442011558041984860759175708301674211458903577526707657229140707277197381253302357510115751108634302905302461842264979174894253966209121391284355945219841930666322707975562575808942795426128338132829193134994681347972692750770439759360663571603517611280704551116541904984277605625172172452833004087303971486942917560609789477542650715880014199623104246367432194008496844037849181318931627751198948594114018777380159488 3 0 := by
  repeat intro _
  kernel_rfl
theorem ev_k2_3_b : QTB ktM fun G lt tl => EvTA G 3 lt tl 2 md0 305 28333086442011558041984860759175708301674211458903577526707657229140707277197381253302357510115751108634302905302461842264979174894253966209121391284355945219841930666322707975562575808942795426128338132829193134994681347972692750770439759360663571603517611280704551116541904984277605625172172452833004087303971486942917560609789477542650715880014199623104246367432194008496844037849181318931627751198948594114018777380159488 3 0 := by
  repeat intro _
  kernel_rfl
theorem ev_k2_4_a : QTA ktM fun G lt tl => EvTA G 4 lt tl 2 md0 305 28333086442011558041984860759175708301674211458903577526707657229140707277197381253302357510115751108634302905302461842264979174894253966209121391284355945219841930666322707975562575808942795426128338132829193134994681347972692750770439759360663571603517611280704551116541904984277605625172172452833004087303971486942917560609789477542650715880014199623104246367432194008496844037849181318931627751198948594114018777380159488 3 0 := by
  repeat intro _
  kernel_rfl
theorem ev_k2_4_b : QTB ktM fun G lt tl => EvTA G 4 lt tl 2 md0 305 28333086442011558041984860759175708301674211458903577526707657229140707277197381253302357510115751108634302905302461842264979174894253966209121391284355945219841930666322707975562575808942795426128338132829193134994681347972692750770439759360663571603517611280704551116541904984277605625172172452833004087303971486942917560609789477542650715880014199623104246367432194008496844037849181318931627751198948594114018777380159488 3 0 := by
  repeat intro _
  kernel_rfl
theorem ev_k2_5_a : QTA ktM fun G lt tl => EvTA G 5 lt tl 2 md0 305 28333086442011558041984860759175708301674211458903577526707657229140707277197381253302357510115751108634302905302461842264979174894253966209121391284355945219841930666322707975562575808942795426128338132829193134994681347972692750770439759360663571603517611280704551116541904984277605625172172452833004087303971486942917560609789477542650715880014199623104246367432194008496844037849181318931627751198948594114018777380159488 3 0 := by
  repeat intro _
  kernel_rfl
theorem ev_k2_5_b : QTB ktM fun G lt tl => EvTA G 5 lt tl 2 md0 305 28333086442011558041984860759175708301674211458903577526707657229140707277197381253302357510115751108634302905302461842264979174894253966209121391284355945219841930666322707975562575808942795426128338132829193134994681347972692750770439759360663571603517611280704551116541904984277605625172172452833004087303971486942917560609789477542650715880014199623104246367432194008496844037849181318931627751198948594114018777380159488 3 0 := by
  repeat intro _
  kernel_rfl
theorem ev_k2_6_a : QTA ktM fun G lt tl => EvTA G 6 lt tl 2 md0 305 28333086442011558041984860759175708301674211458903577526707657229140707277197381253302357510115751108634302905302461842264979174894253966209121391284355945219841930666322707975562575808942795426128338132829193134994681347972692750770439759360663571603517611280704551116541904984277605625172172452833004087303971486942917560609789477542650715880014199623104246367432194008496844037849181318931627751198948594114018777380159488 3 0 := by
  repeat intro _
  kernel_rfl
theorem ev_k2_6_b : QTB ktM fun G lt tl => EvTA G 6 lt tl 2 md0 305 28333086442011558041984860759175708301674211458903577526707657229140707277197381253302357510115751108634302905302461842264979174894253966209121391284355945219841930666322707975562575808942795426128338132829193134994681347972692750770439759360663571603517611280704551116541904984277605625172172452833004087303971486942917560609789477542650715880014199623104246367432194008496844037849181318931627751198948594114018777380159488 3 0 := by
  repeat intro _
  kernel_rfl
theorem ev_k3l_1_a : QTA ktM fun G lt tl => EvTA G 1 lt tl 3 md0 308 28333086442011558041984860759175708301674211458903577526707657229140707277197381253302357510115751108634302905302461842264979174894253966209121391284355945219841930666322707975562575808942795426128338132829193134994681347972692750770439759360663571603517611280704551116541904984277605625172172452833004087303971486942917560609789477542650715880014199623104246367432194008496844037849181318931627751198948594114018777380159488 3 0 := by
  repeat intro _
  kernel_rfl
theorem ev_k3l_1_b : QTB ktM fun G lt tl => EvTA G 1 lt tl 3 md0 308 28333086442011558041984860759175708301674211458903577526707657229140707277197381253302357510115751108634302905302461842264979174894253966209121391284355945219841930666322707975562575808942795426128338132829193134994681347972692750770439759360663571603517611280704551116541904984277605625172172452833004087303971486942917560609789477542650715880014199623104246367432194008496844037849181318931627751198948594114018777380159488 3 0 := by
  repeat intro _
  kernel_rfl
theorem ev_k3l_3_a : QTA ktM fun G lt tl => EvTA G 3 lt tl 3 md0 308 28333086442011558041984860759175708301674211458903577526707657229140707277197381253302357510115751108634302905302461842264979174894253966209121391284355945219841930666322707975562575808942795426128338132829193134994681347972692750770439759360663571603517611280704551116541904984277605625172172452833004087303971486942917560609789477542650715880014199623104246367432194008496844037849181318931627751198948594114018777380159488 3 0 := by
  repeat intro _
  kernel_rfl
theorem ev_k3l_3_b : QTB ktM fun G lt tl => EvTA G 3 lt tl 3 md0 308 28333086442011558041984860759175708301674211458903577526707657229140707277197381253302357510115751108634302905302461842264979174894253966209121391284355945219841930666322707975562575808942795426128338132829193134994681347972692750770439759360663571603517611280704551116541904984277605625172172452833004087303971486942917560609789477542650715880014199623104246367432194008496844037849181318931627751198948594114018777380159488 3 0 := by
  repeat intro _
  kernel_rfl
theorem ev_k3l_6_a : QTA ktM fun G lt tl => EvTA G 6 lt tl 3 md0 308 28333086442011558041984860759175708301674211458903577526707657229140707277197381253302357510115751108634302905302461842264979174894253966209121391284355945219841930666322707975562575808942795426128338132829193134994681347972692750770439759360663571603517611280704551116541904984277605625172172452833004087303971486942917560609789477542650715880014199623104246367432194008496844037849181318931627751198948594114018777380159488 3 0 := by
  repeat intro _
  kernel_rfl
theorem ev_k3l_6_b : QTB ktM fun G lt tl => EvTA G 6 lt tl 3 md0 308 28333086442011558041984860759175708301674211458903577526707657229140707277197381253302357510115751108634302905302461842264979174894253966209121391284355945219841930666322707975562575808942795426128338132829193134994681347972692750770439759360663571603517611280704551116541904984277605625172172452833004087303971486942917560609789477542650715880014199623104246367432194008496844037849181318931627751198948594114018777380159488 3 0 := by
  repeat intro _
  kernel_rfl
theorem ev_k1l_1_a : QTA ktM fun G lt tl => EvTA G 1 lt tl 1 (mdL 1) 330 35916454034534260088919029919452663397369369528201992661930205488236643249372203858632498325635246103718355956324055072199440186335301457908383920827959842881941137039743500134684320071472841239000533187822921506200990096439454409033414342681242334538966334717425803020274677400567908754558607481276956801728326360896373267811098227233470075428540484726428727506604383323033634163511774981137165074584128182286815850983207070279572922207929573514793713664 3 0 := by
  repeat intro _
  kernel_rfl
theorem ev_k1l_1_b : QTB ktM fun G lt tl => EvTA G 1 lt tl 1 (mdL 1) 330 35916454034534260088919029919452663397369369528201992661930205488236643249372203858632498325635246103718355956324055072199440186335301457908383920827959842881941137039743500134684320071472841239000533187822921506200990096439454409033414342681242334538966334717425803020274677400567908754558607481276956801728326360896373267811098227233470075428540484726428727506604383323033634163511774981137165074584128182286815850983207070279572922207929573514793713664 3 0 := by
  repeat intro _
  kernel_rfl
theorem ev_k1l_3_a : QTA ktM fun G lt tl => EvTA G 3 lt tl 1 (mdL 3) 330 35916454034534260088919029919452663397369369528201992661930205488236643249372203858632498325635246103718355956324055072199440186335301457908383920827959842881941137039743500134684320071472841239000533187822921506200990096439454409033414342681242334538966334717425803020274677400567908754558607481276956801728326360896373267811098227233470075428540484726428727506604383323033634163511774981137165074584128182286815850983207070279572922207929573514793713664 3 0 := by
  repeat intro _
  kernel_rfl
theorem ev_k1l_3_b : QTB ktM fun G lt tl => EvTA G 3 lt tl 1 (mdL 3) 330 35916454034534260088919029919452663397369369528201992661930205488236643249372203858632498325635246103718355956324055072199440186335301457908383920827959842881941137039743500134684320071472841239000533187822921506200990096439454409033414342681242334538966334717425803020274677400567908754558607481276956801728326360896373267811098227233470075428540484726428727506604383323033634163511774981137165074584128182286815850983207070279572922207929573514793713664 3 0 := by
  repeat intro _
  kernel_rfl
theorem ev_k1l_6_a : QTA ktM fun G lt tl => EvTA G 6 lt tl 1 (mdL 6) 330 35916454034534260088919029919452663397369369528201992661930205488236643249372203858632498325635246103718355956324055072199440186335301457908383920827959842881941137039743500134684320071472841239000533187822921506200990096439454409033414342681242334538966334717425803020274677400567908754558607481276956801728326360896373267811098227233470075428540484726428727506604383323033634163511774981137165074584128182286815850983207070279572922207929573514793713664 3 0 := by
  repeat intro _
  kernel_rfl
theorem ev_k1l_6_b : QTB ktM fun G lt tl => EvTA G 6 lt tl 1 (mdL 6) 330 35916454034534260088919029919452663397369369528201992661930205488236643249372203858632498325635246103718355956324055072199440186335301457908383920827959842881941137039743500134684320071472841239000533187822921506200990096439454409033414342681242334538966334717425803020274677400567908754558607481276956801728326360896373267811098227233470075428540484726428727506604383323033634163511774981137165074584128182286815850983207070279572922207929573514793713664 3 0 := by
  repeat intro _
  kernel_rfl
theorem ev_k1m_0_a : QTA ktM fun G lt tl => EvTA G 0 lt tl 1 (mdM 0) 330 35916454034534260088919029919452663397369369528201992661930205488236643249372203858632498325635246103718355956324055072199440186335301457908383920827959842881941137039743500134684320071472841239000533187822921506200990096439454409033414342681242334538966334717425803020274677400567908754558607481276956801728326360896373267811098227233470075428540484726428727506604383323033634163511774981137165074584128182286815850983207070279572922207929573514793713664 3 0 := by
  repeat intro _
  kernel_rfl
theorem ev_k1m_0_b : QTB ktM fun G lt tl => EvTA G 0 lt tl 1 (mdM 0) 330 35916454034534260088919029919452663397369369528201992661930205488236643249372203858632498325635246103718355956324055072199440186335301457908383920827959842881941137039743500134684320071472841239000533187822921506200990096439454409033414342681242334538966334717425803020274677400567908754558607481276956801728326360896373267811098227233470075428540484726428727506604383323033634163511774981137165074584128182286815850983207070279572922207929573514793713664 3 0 := by
  repeat intro _
  kernel_rfl
theorem ev_k1m_2_a : QTA ktM fun G lt tl => EvTA G 2 lt tl 1 (mdM 2) 330 35916454034534260088919029919452663397369369528201992661930205488236643249372203858632498325635246103718355956324055072199440186335301457908383920827959842881941137039743500134684320071472841239000533187822921506200990096439454409033414342681242334538966334717425803020274677400567908754558607481276956801728326360896373267811098227233470075428540484726428727506604383323033634163511774981137165074584128182286815850983207070279572922207929573514793713664 3 0 := by
  repeat intro _
  kernel_rfl
theorem ev_k1m_2_b : QTB ktM fun G lt tl => EvTA G 2 lt tl 1 (mdM 2) 330 35916454034534260088919029919452663397369369528201992661930205488236643249372203858632498325635246103718355956324055072199440186335301457908383920827959842881941137039743500134684320071472841239000533187822921506200990096439454409033414342681242334538966334717425803020274677400567908754558607481276956801728326360896373267811098227233470075428540484726428727506604383323033634163511774981137165074584128182286815850983207070279572922207929573514793713664 3 0 := by
  repeat intro _
  kernel_rfl
theorem ev_k1m_4_a : QTA ktM fun G lt tl => EvTA G 4 lt tl 1 (mdM 4) 330 35916454034534260088919029919452663397369369528201992661930205488236643249372203858632498325635246103718355956324055072199440186335301457908383920827959842881941137039743500134684320071472841239000533187822921506200990096439454409033414342681242334538966334717425803020274677400567908754558607481276956801728326360896373267811098227233470075428540484726428727506604383323033634163511774981137165074584128182286815850983207070279572922207929573514793713664 3 0 := by
  repeat intro _
  kernel_rfl
theorem ev_k1m_4_b : QTB ktM fun G lt tl => EvTA G 4 lt tl 1 (mdM 4) 330 35916454034534260088919029919452663397369369528201992661930205488236643249372203858632498325635246103718355956324055072199440186335301457908383920827959842881941137039743500134684320071472841239000533187822921506200990096439454409033414342681242334538966334717425803020274677400567908754558607481276956801728326360896373267811098227233470075428540484726428727506604383323033634163511774981137165074584128182286815850983207070279572922207929573514793713664 3 0 := by
  repeat intro _
  kernel_rfl
theorem ev_k1m_5_a : QTA ktM fun G lt tl => EvTA G 5 lt tl 1 (mdM 5) 330 35916454034534260088919029919452663397369369528201992661930205488236643249372203858632498325635246103718355956324055072199440186335301457908383920827959842881941137039743500134684320071472841239000533187822921506200990096439454409033414342681242334538966334717425803020274677400567908754558607481276956801728326360896373267811098227233470075428540484726428727506604383323033634163511774981137165074584128182286815850983207070279572922207929573514793713664 3 0 := by
  repeat intro _
  kernel_rfl
theorem ev_k1m_5_b : QTB ktM fun G lt tl => EvTA G 5 lt tl 1 (mdM 5) 330 35916454034534260088919029919452663397369369528201992661930205488236643249372203858632498325635246103718355956324055072199440186335301457908383920827959842881941137039743500134684320071472841239000533187822921506200990096439454409033414342681242334538966334717425803020274677400567908754558607481276956801728326360896373267811098227233470075428540484726428727506604383323033634163511774981137165074584128182286815850983207070279572922207929573514793713664 3 0 := by
  repeat intro _
  kernel_rfl
theorem ev_k3m_0_a : QTA ktM fun G lt tl => EvTA G 0 lt tl 3 (mdN 0) 322 28333086442011558041984860759175708301674211458903577526707657229140707277197381253302357510115751108634302905302461842264979174894253966209121391284355945219841930666322707975562575808942795426128338132829193134994681347972692750770439759360663571603517611280704551116541904984277605625172172452833004087303971486942917560609789477542650715880014199623104246367432194008496844037849181318931627751198948594114018777380159488 3 0 := by
  repeat intro _
  kernel_rfl
theorem ev_k3m_0_b : QTB ktM fun G lt tl => EvTA G 0 lt tl 3 (mdN 0) 322 28333086442011558041984860759175708301674211458903577526707657229140707277197381253302357510115751108634302905302461842264979174894253966209121391284355945219841930666322707975562575808942795426128338132829193134994681347972692750770439759360663571603517611280704551116541904984277605625172172452833004087303971486942917560609789477542650715880014199623104246367432194008496844037849181318931627751198948594114018777380159488 3 0 := by
  repeat intro _
  kernel_rfl
theorem ev_k3m_2_a : QTA ktM fun G lt tl => EvTA G 2 lt tl 3 (mdN 2) 322 28333086442011558041984860759175708301674211458903577526707657229140707277197381253302357510115751108634302905302461842264979174894253966209121391284355945219841930666322707975562575808942795426128338132829193134994681347972692750770439759360663571603517611280704551116541904984277605625172172452833004087303971486942917560609789477542650715880014199623104246367432194008496844037849181318931627751198948594114018777380159488 3 0 := by
  repeat intro _
  kernel_rfl
theorem ev_k3m_2_b : QTB ktM fun G lt tl => EvTA G 2 lt tl 3 (mdN 2) 322 28333086442011558041984860759175708301674211458903577526707657229140707277197381253302357510115751108634302905302461842264979174894253966209121391284355945219841930666322707975562575808942795426128338132829193134994681347972692750770439759360663571603517611280704551116541904984277605625172172452833004087303971486942917560609789477542650715880014199623104246367432194008496844037849181318931627751198948594114018777380159488 3 0 := by
  repeat intro _
  kernel_rfl
theorem ev_k3m_4_a : QTA ktM fun G lt tl => EvTA G 4 lt tl 3 (mdN 4) 322 28333086442011558041984860759175708301674211458903577526707657229140707277197381253302357510115751108634302905302461842264979174894253966209121391284355945219841930666322707975562575808942795426128338132829193134994681347972692750770439759360663571603517611280704551116541904984277605625172172452833004087303971486942917560609789477542650715880014199623104246367432194008496844037849181318931627751198948594114018777380159488 3 0 := by
  repeat intro _
  kernel_rfl
theorem ev_k3m_4_b : QTB ktM fun G lt tl => EvTA G 4 lt tl 3 (mdN 4) 322 28333086442011558041984860759175708301674211458903577526707657229140707277197381253302357510115751108634302905302461842264979174894253966209121391284355945219841930666322707975562575808942795426128338132829193134994681347972692750770439759360663571603517611280704551116541904984277605625172172452833004087303971486942917560609789477542650715880014199623104246367432194008496844037849181318931627751198948594114018777380159488 3 0 := by
  repeat intro _
  kernel_rfl
theorem ev_k3m_5_a : QTA ktM fun G lt tl => EvTA G 5 lt tl 3 (mdN 5) 322 28333086442011558041984860759175708301674211458903577526707657229140707277197381253302357510115751108634302905302461842264979174894253966209121391284355945219841930666322707975562575808942795426128338132829193134994681347972692750770439759360663571603517611280704551116541904984277605625172172452833004087303971486942917560609789477542650715880014199623104246367432194008496844037849181318931627751198948594114018777380159488 3 0 := by
  repeat intro _
  kernel_rfl
theorem ev_k3m_5_b : QTB ktM fun G lt tl => EvTA G 5 lt tl 3 (mdN 5) 322 28333086442011558041984860759175708301674211458903577526707657229140707277197381253302357510115751108634302905302461842264979174894253966209121391284355945219841930666322707975562575808942795426128338132829193134994681347972692750770439759360663571603517611280704551116541904984277605625172172452833004087303971486942917560609789477542650715880014199623104246367432194008496844037849181318931627751198948594114018777380159488 3 0 := by
  repeat intro _
  kernel_rfl
theorem ev_w3c_0_false : QTC ktM fun G lt => EvW3 G 0 lt false 11 411 1085 534 1328062546743088120274216322588723027625529524557650980923399300633705389265215925874082943187909449218769343109080688091567277205485807173378052850004859880971939855722485163109064425038482627773603024859758451966886142539387287133955555324137834163496132530130639032740782153101566199248239421295291938242979271678713562027451593926531891488596628781795232188172191119596251452675723330776034603371802908957408512822195847651423836087105558579038417869575662503044270658323687546398087662506844991363525555403804573787363363123138150175290360035135034371441761795824463678827211650641393213828058766137119372729812415658391565154052793435655711532214752234818229803028765930611486045595399486160123808584880581154576472777560600380914584018267091624778540061372739614617810004562422989584676918836018957018319383563018960896 := by
  repeat intro _
  kernel_rfl
theorem ev_w3c_2_false : QTC ktM fun G lt => EvW3 G 2 lt false 11 411 1085 534 1328062546743088120274216322588723027625529524557650980923400955158579665798295164760864193863937733576485524459862350661978724483128013587222319409725029124598887216167247779180433411034805094221573688832195011529980748637330816482731265187969177764295748001687442846737491308827742454972533535031668615032011528861601899073618934646221938706662891321666690739748746386979122389957498038233869128246321467238172254352755548029215386081342861711672718341891516591270634340734756532995447606884208717193702706700441286412586351325164542008398918052979036639605669618475243572767287466933055009279681785376284814950560994992190541214930413272687797644065534124635829382740977394288693446415358443984205624642129812881953956855432718757580173848488021856925730142147235316641468551397020470759009251698195383702169577446279479296 := by
  repeat intro _
  kernel_rfl
theorem ev_w3c_4_false : QTC ktM fun G lt => EvW3 G 4 lt false 11 411 1085 534 1328062546743088120274216322588723027625529524557650980923402609683453942331374403647645444539966017934201705810644013232390171760770220001066585969445198368225834576612010395251802397031127560669544352804631571093075354735274345831506975051800521365095363473244246660734200464553918710696827648768045291821043786044490236119786275365911985924729153861538149291325301654361993327239272745691703653120840025518935995883315248407006936075580164844307018814207370679496998023145825519592807551261572443023879857997077999037809339527190933841507476070823038907769577441126023466707363283224716804731304804615450257171309574325989517275808033109719883755916316014453428962453188857965900847235317401808287440699379044609331440933304837134245763678708952089072920222921731018665127098231617951933341584560371810386019771329539997696 := by
  repeat intro _
  kernel_rfl
theorem ev_w3c_5_false : QTC ktM fun G lt => EvW3 G 5 lt false 11 411 1083 518 1179556494029199704941938196068849567077955886203045371128620144092994231319972107644243726090476229829082474230648042838961138478374233791602349485310415202511887373079694632671531886484651602392341449379786633921638612484846673661116183126044093012914234472019579918129532674002245421493385248532230895791482026445134623788692963535345989524643848192688829628678855939570091844608559926094626558829946593204584746943736443362528724364646349468001144292994291032055426580201609503943722899017441533032629036671627384780360535246515711136840951624691115301901276207460518100863749497186879471159357309666471842563582635708945610080135358271958219623480743429638603878955130635488721029792663142126673094590968805401934407578048871204769157801923763275386021739787758017387132556527593126949464842620777271394304 := by
  repeat intro _
  kernel_rfl
theorem ev_w3d_0_false : QTD ktM fun G lt => EvW3 G 0 lt false 11 411 1085 534 1328062546743088120274216322588723027625529524557650980923399300633705389265215925874082943187909449218769343109080688091567277205485807173378052850004859880971939855722485163109064425038482627773603024859758451966886142539387287133955555324137834163496132530130639032740782153101566199248239421295291938242979271678713562027451593926531891488596628781795232188172191119596251452675723330776034603371802908957408512822195847651423836087105558579038417869575662503044270658323687546398087662506844991363525555403804573787363363123138150175290360035135034371441761795824463678827211650641393213828058766137119372729812415658391565154052793435655711532214752234818229803028765930611486045595399486160123808584880581154576472777560600380914584018267091624778540061372739614617810004562422989584676918836018957018319383563018960896 := by
  repeat intro _
  kernel_rfl
theorem ev_w3d_2_false : QTD ktM fun G lt => EvW3 G 2 lt false 11 411 1085 534 1328062546743088120274216322588723027625529524557650980923400955158579665798295164760864193863937733576485524459862350661978724483128013587222319409725029124598887216167247779180433411034805094221573688832195011529980748637330816482731265187969177764295748001687442846737491308827742454972533535031668615032011528861601899073618934646221938706662891321666690739748746386979122389957498038233869128246321467238172254352755548029215386081342861711672718341891516591270634340734756532995447606884208717193702706700441286412586351325164542008398918052979036639605669618475243572767287466933055009279681785376284814950560994992190541214930413272687797644065534124635829382740977394288693446415358443984205624642129812881953956855432718757580173848488021856925730142147235316641468551397020470759009251698195383702169577446279479296 := by
  repeat intro _
  kernel_rfl
theorem ev_w3d_4_false : QTD ktM fun G lt => EvW3 G 4 lt false 11 411 1085 534 1328062546743088120274216322588723027625529524557650980923402609683453942331374403647645444539966017934201705810644013232390171760770220001066585969445198368225834576612010395251802397031127560669544352804631571093075354735274345831506975051800521365095363473244246660734200464553918710696827648768045291821043786044490236119786275365911985924729153861538149291325301654361993327239272745691703653120840025518935995883315248407006936075580164844307018814207370679496998023145825519592807551261572443023879857997077999037809339527190933841507476070823038907769577441126023466707363283224716804731304804615450257171309574325989517275808033109719883755916316014453428962453188857965900847235317401808287440699379044609331440933304837134245763678708952089072920222921731018665127098231617951933341584560371810386019771329539997696 := by
  repeat intro _
  kernel_rfl
theorem ev_w3d_5_false : QTD ktM fun G lt => EvW3 G 5 lt false 11 411 1083 518 1179556494029199704941938196068849567077955886203045371128620144092994231319972107644243726090476229829082474230648042838961138478374233791602349485310415202511887373079694632671531886484651602392341449379786633921638612484846673661116183126044093012914234472019579918129532674002245421493385248532230895791482026445134623788692963535345989524643848192688829628678855939570091844608559926094626558829946593204584746943736443362528724364646349468001144292994291032055426580201609503943722899017441533032629036671627384780360535246515711136840951624691115301901276207460518100863749497186879471159357309666471842563582635708945610080135358271958219623480743429638603878955130635488721029792663142126673094590968805401934407578048871204769157801923763275386021739787758017387132556527593126949464842620777271394304 := by
  repeat intro _
  kernel_rfl
theorem ev_w3c_0_true : QTC ktM fun G lt => EvW3 G 0 lt true 11 411 1085 534 1328062546743088120274216322588723027625529524557650980923399300633705389265215925874082943187909449218769343109080688091567277205485807173378052850004859880971939855722485163109064425038482627773603024859758451966886142539387287133955555324137834163496132530130639032740782153101566199248239421295291938242979271678713562027451593926531891488596628781795232188172191119596251452675723330776034603371802908957408512822195847651423836087105558579038417869575662503044270658323687546398087662506844991363525555403804573787363363123138150175290360035135034371441761795824463678827211650641393213828058766137119372729812415658391565154052793435655711532214752234818229803028765930611486045595399486160123808584880581154576472777560600380914584018267091624778540061372739614617810004562422989584676918836018957018319383563018960896 := by
  repeat intro _
  kernel_rfl
theorem ev_w3c_2_true : QTC ktM fun G lt => EvW3 G 2 lt true 11 411 1085 534 1328062546743088120274216322588723027625529524557650980923400955158579665798295164760864193863937733576485524459862350661978724483128013587222319409725029124598887216167247779180433411034805094221573688832195011529980748637330816482731265187969177764295748001687442846737491308827742454972533535031668615032011528861601899073618934646221938706662891321666690739748746386979122389957498038233869128246321467238172254352755548029215386081342861711672718341891516591270634340734756532995447606884208717193702706700441286412586351325164542008398918052979036639605669618475243572767287466933055009279681785376284814950560994992190541214930413272687797644065534124635829382740977394288693446415358443984205624642129812881953956855432718757580173848488021856925730142147235316641468551397020470759009251698195383702169577446279479296 := by
  repeat intro _
  kernel_rfl
theorem ev_w3d_0_true : QTD ktM fun G lt => EvW3 G 0 lt true 11 411 1085 534 1328062546743088120274216322588723027625529524557650980923399300633705389265215925874082943187909449218769343109080688091567277205485807173378052850004859880971939855722485163109064425038482627773603024859758451966886142539387287133955555324137834163496132530130639032740782153101566199248239421295291938242979271678713562027451593926531891488596628781795232188172191119596251452675723330776034603371802908957408512822195847651423836087105558579038417869575662503044270658323687546398087662506844991363525555403804573787363363123138150175290360035135034371441761795824463678827211650641393213828058766137119372729812415658391565154052793435655711532214752234818229803028765930611486045595399486160123808584880581154576472777560600380914584018267091624778540061372739614617810004562422989584676918836018957018319383563018960896 := by
  repeat intro _
  kernel_rfl
theorem ev_w3d_2_true : QTD ktM fun G lt => EvW3 G 2 lt true 11 411 1085 534 1328062546743088120274216322588723027625529524557650980923400955158579665798295164760864193863937733576485524459862350661978724483128013587222319409725029124598887216167247779180433411034805094221573688832195011529980748637330816482731265187969177764295748001687442846737491308827742454972533535031668615032011528861601899073618934646221938706662891321666690739748746386979122389957498038233869128246321467238172254352755548029215386081342861711672718341891516591270634340734756532995447606884208717193702706700441286412586351325164542008398918052979036639605669618475243572767287466933055009279681785376284814950560994992190541214930413272687797644065534124635829382740977394288693446415358443984205624642129812881953956855432718757580173848488021856925730142147235316641468551397020470759009251698195383702169577446279479296 := by
  repeat intro _
  kernel_rfl
theorem ev_cut : QX ktM fun G => EvCut G := by
  repeat intro _
  kernel_rfl
theorem ev_c_0 : QX ktM fun G => EvC G 0 16 220416210 := by
  repeat intro _
  kernel_rfl
theorem ev_c_1 : QX ktM fun G => EvC G 1 16 220416210 := by
  repeat intro _
  kernel_rfl
theorem ev_c_2 : QX ktM fun G => EvC G 2 16 220416210 := by
  repeat intro _
  kernel_rfl
theorem ev_c_3 : QX ktM fun G => EvC G 3 16 220416210 := by
  repeat intro _
  kernel_rfl
theorem ev_c_4 : QX ktM fun G => EvC G 4 16 220416210 := by
  repeat intro _
  kernel_rfl
theorem ev_c_5 : QX ktM fun G => EvC G 5 16 220416210 := by
  repeat intro _
  kernel_rfl
theorem ev_c_6 : QX ktM fun G => EvC G 6 16 220416210 := by
  repeat intro _
  kernel_rfl
theorem ev_r_0 : QX ktM fun G => EvR G 0 42 345555957037453268852836511734100413562010242808317891611092797650 1 0 := by
  repeat intro _
  kernel_rfl
theorem ev_r_1 : QX ktM fun G => EvR G 1 42 345555957037453268852836511734100413564486122886888652160891046098 1 0 := by
  repeat intro _
  kernel_rfl
theorem ev_r_2 : QX ktM fun G => EvR G 2 42 345555957037453268852836511734100413566962002965459412710689294546 1 0 := by
  repeat intro _
  kernel_rfl
theorem ev_r_3 : QX ktM fun G => EvR G 3 42 345555957037453268852836511734100413569437883044030173260487542994 1 0 := by
  repeat intro _
  kernel_rfl
theorem ev_r_4 : QX ktM fun G => EvR G 4 42 345555957037453268852836511734100413571913763122600933810285791442 1 0 := by
  repeat intro _
  kernel_rfl
theorem ev_r_5 : QX ktM fun G => EvR G 5 42 345555957037453268852836511734100413574389643201171694360084039890 1 0 := by
  repeat intro _
  kernel_rfl
theorem ev_r_6 : QX ktM fun G => EvR G 6 42 345555957037453268852836511734100413576865523279742454909882288338 1 0 := by
  repeat intro _
  kernel_rfl
theorem ev_am_0_false_l : QAL ktM fun G => EvAm G 0 402 [] #[] 419 125905450135768747511692313898951489251810748192196452665309386012794012042427697192642208486434615332027124501249895503835914390111227230921843681239094547784738929756582601433865360379109983758876598586714911209620912988817787549141917319179265743622942078694776841042242991935344555096933813040984836208725471175976408850576203824088861968501677551149501414533051370644658131799178245576167869908630801694972855844759473176981252393717095168754715804106612032891066914873501991103960597671661990343393271245446307947769374665963994220805151294836879718776927327135792832696454291200486596626997943612593599421337597309584757480163053840769183977200916377658598090568311667425502399845925894196835690616044498875623818673898127360 106 1009676408783525929261046431170825209940442872970976720593396473984800520136422479878529938129847004861615770296807477248 34 519737241269589768765758273854259600 := by
  repeat intro _
  kernel_rfl
theorem ev_am_0_false_c : QAC ktM fun G => EvAm G 0 402 [] #[] 419 125905450135768747511692313898951489251810748192196452665309386012794012042427697192642208486434615332027124501249895503835914390111227230921843681239094547784738929756582601433865360379109983758876598586714911209620912988817787549141917319179265743622942078694776841042242991935344555096933813040984836208725471175976408850576203824088861968501677551149501414533051370644658131799178245576167869908630801694972855844759473176981252393717095168754715804106612032891066914873501991103960597671661990343393271245446307947769374665963994220805151294836879718776927327135792832696454291200486596626997943612593599421337597309584757480163053840769183977200916377658598090568311667425502399845925894196835690616044498875623818673898127360 106 1009676408783525929261046431170825209940442872970976720593396473984800520136422479878529938129847004861615770296807477248 34 519737241269589768765758273854259600 := by
  repeat intro _
  kernel_rfl
theorem ev_am_2_false_l : QAL ktM fun G => EvAm G 2 402 [] #[] 419 125905450135768747511692313898951489251810748192196452665309386012794012042427697192642208486434615332027124501249895503835914390111227230921843681239094547784738929756582601433865360379109983758876598586714911209620912988817787549141917319179265743622942078694776841042242991935344555096933813040984836208725471175976408850576203824088861968501677551149501414533051370644658131799178245576167869908630801694972855844759473176981252393717095168754715804106612032891066914873501991103960597671661990343393271245446307947769374665963994220805151294836879718776927327135792832696454291200486596626997943612593599421337597309584757480163053840769183977200916377658598090568311667425502399845925894196835690616044498875623818673898127360 106 1009676408783525929261046431170825209940442872970976720593396473984800520136422479878529938129847004861615770296807477248 34 519737241269589768765758273854259600 := by
  repeat intro _
  kernel_rfl
theorem ev_am_2_false_c : QAC ktM fun G => EvAm G 2 402 [] #[] 419 125905450135768747511692313898951489251810748192196452665309386012794012042427697192642208486434615332027124501249895503835914390111227230921843681239094547784738929756582601433865360379109983758876598586714911209620912988817787549141917319179265743622942078694776841042242991935344555096933813040984836208725471175976408850576203824088861968501677551149501414533051370644658131799178245576167869908630801694972855844759473176981252393717095168754715804106612032891066914873501991103960597671661990343393271245446307947769374665963994220805151294836879718776927327135792832696454291200486596626997943612593599421337597309584757480163053840769183977200916377658598090568311667425502399845925894196835690616044498875623818673898127360 106 1009676408783525929261046431170825209940442872970976720593396473984800520136422479878529938129847004861615770296807477248 34 519737241269589768765758273854259600 := by
  repeat intro _
  kernel_rfl
theorem ev_am_4_false_l : QAL ktM fun G => EvAm G 4 402 [] #[] 419 125905450135768747511692313898951489251810748192196452665309386012794012042427697192642208486434615332027124501249895503835914390111227230921843681239094547784738929756582601433865360379109983758876598586714911209620912988817787549141917319179265743622942078694776841042242991935344555096933813040984836208725471175976408850576203824088861968501677551149501414533051370644658131799178245576167869908630801694972855844759473176981252393717095168754715804106612032891066914873501991103960597671661990343393271245446307947769374665963994220805151294836879718776927327135792832696454291200486596626997943612593599421337597309584757480163053840769183977200916377658598090568311667425502399845925894196835690616044498875623818673898127360 106 1009676408783525929261046431170825209940442872970976720593396473984800520136422479878529938129847004861615770296807477248 34 519737241269589768765758273854259600 := by
  repeat intro _
  kernel_rfl
theorem ev_am_4_false_c : QAC ktM fun G => EvAm G 4 402 [] #[] 419 125905450135768747511692313898951489251810748192196452665309386012794012042427697192642208486434615332027124501249895503835914390111227230921843681239094547784738929756582601433865360379109983758876598586714911209620912988817787549141917319179265743622942078694776841042242991935344555096933813040984836208725471175976408850576203824088861968501677551149501414533051370644658131799178245576167869908630801694972855844759473176981252393717095168754715804106612032891066914873501991103960597671661990343393271245446307947769374665963994220805151294836879718776927327135792832696454291200486596626997943612593599421337597309584757480163053840769183977200916377658598090568311667425502399845925894196835690616044498875623818673898127360 106 1009676408783525929261046431170825209940442872970976720593396473984800520136422479878529938129847004861615770296807477248 34 519737241269589768765758273854259600 := by
  repeat intro _
  kernel_rfl
theorem ev_am_5_false_l : QAL ktM fun G => EvAm G 5 402 [] #[] 403 111826503733220004043584617913388514100435198798951976919821570189123260556865077923875702913422905144382401677605094917421192937211340306655177273532948010434696799248206568074928455639769339099555443960833854797006481786086051809851509126029670099120975804658308342214072965190880419947324687016440979377951833107808362699998564537019573677857733385776041336730425408991481123698699780511993990746893602845600007218215908346242717280564966814142305477114735652658221200959955502355534482525156283777250784124254241856072921970945083654673936108669424305476784431511025092960460443506886806019353751860803496858629663510217870073960338254735943001055221392235277250451221857774405829631249978226856339974326543450112 106 1009676408783525929261046431170825209940442872970976720593396473984800520136422479878529938129847004861615770296807477248 34 519737241269589768765758273854259600 := by
  repeat intro _
  kernel_rfl
theorem ev_am_5_false_c : QAC ktM fun G => EvAm G 5 402 [] #[] 403 111826503733220004043584617913388514100435198798951976919821570189123260556865077923875702913422905144382401677605094917421192937211340306655177273532948010434696799248206568074928455639769339099555443960833854797006481786086051809851509126029670099120975804658308342214072965190880419947324687016440979377951833107808362699998564537019573677857733385776041336730425408991481123698699780511993990746893602845600007218215908346242717280564966814142305477114735652658221200959955502355534482525156283777250784124254241856072921970945083654673936108669424305476784431511025092960460443506886806019353751860803496858629663510217870073960338254735943001055221392235277250451221857774405829631249978226856339974326543450112 106 1009676408783525929261046431170825209940442872970976720593396473984800520136422479878529938129847004861615770296807477248 34 519737241269589768765758273854259600 := by
  repeat intro _
  kernel_rfl
theorem ev_am_0_true_l : QAL ktM fun G => ∀ h t v, EvAm G 0 402 [otherE 0 h t v] #[none] 417 122954541148211667491887025291944813722471433781441848305966197278119152385183298039689656725033804035182738770751851077964760146592995342697112969960053269321034111090412696712759140995224593514527928307338780478145422840642370653458903632011001702756779373725368008830315421811859917086849426797836754110083467945289461768140824055982710287528444080640587120202070448678544781929223386561111565743179810811314582260764399073453242556794761871769454993350202765432736208347266482401420803696890440643874831123750853965155362660390540840755987910072562080427364324150869419156847583844406546667453305577485853836693310569792445213413194219417170363165838619466497933577790745354690805538642475814529033875538962438648899754262528 106 1009676408783525929261046431170825209940442872970976720593396473984800520136422479878529938129847004861615770296807477248 34 519737241269589768765758273854259600 := by
  repeat intro _
  kernel_rfl
theorem ev_am_0_true_c : QAC ktM fun G => ∀ h t v, EvAm G 0 402 [otherE 0 h t v] #[none] 417 122954541148211667491887025291944813722471433781441848305966197278119152385183298039689656725033804035182738770751851077964760146592995342697112969960053269321034111090412696712759140995224593514527928307338780478145422840642370653458903632011001702756779373725368008830315421811859917086849426797836754110083467945289461768140824055982710287528444080640587120202070448678544781929223386561111565743179810811314582260764399073453242556794761871769454993350202765432736208347266482401420803696890440643874831123750853965155362660390540840755987910072562080427364324150869419156847583844406546667453305577485853836693310569792445213413194219417170363165838619466497933577790745354690805538642475814529033875538962438648899754262528 106 1009676408783525929261046431170825209940442872970976720593396473984800520136422479878529938129847004861615770296807477248 34 519737241269589768765758273854259600 := by
  repeat intro _
  kernel_rfl
theorem ev_am_2_true_l : QAL ktM fun G => ∀ h t v, EvAm G 2 402 [otherE 2 h t v] #[none] 417 122954541148211667491887025291944813722471433781441848305966197278119152385183298039689656725033804035182738770751851077964760146592995342697112969960053269321034111090412696712759140995224593514527928307338780478145422840642370653458903632011001702756779373725368008830315421811859917086849426797836754110083467945289461768140824055982710287528444080640587120202070448678544781929223386561111565743179810811314582260764399073453242556794761871769454993350202765432736208347266482401420803696890440643874831123750853965155362660390540840755987910072562080427364324150869419156847583844406546667453305577485853836693310569792445213413194219417170363165838619466497933577790745354690805538642475814529033875538962438648899754262528 106 1009676408783525929261046431170825209940442872970976720593396473984800520136422479878529938129847004861615770296807477248 34 519737241269589768765758273854259600 := by
  repeat intro _
  kernel_rfl
theorem ev_am_2_true_c : QAC ktM fun G => ∀ h t v, EvAm G 2 402 [otherE 2 h t v] #[none] 417 122954541148211667491887025291944813722471433781441848305966197278119152385183298039689656725033804035182738770751851077964760146592995342697112969960053269321034111090412696712759140995224593514527928307338780478145422840642370653458903632011001702756779373725368008830315421811859917086849426797836754110083467945289461768140824055982710287528444080640587120202070448678544781929223386561111565743179810811314582260764399073453242556794761871769454993350202765432736208347266482401420803696890440643874831123750853965155362660390540840755987910072562080427364324150869419156847583844406546667453305577485853836693310569792445213413194219417170363165838619466497933577790745354690805538642475814529033875538962438648899754262528 106 1009676408783525929261046431170825209940442872970976720593396473984800520136422479878529938129847004861615770296807477248 34 519737241269589768765758273854259600 := by
  repeat intro _
  kernel_rfl
theorem ev_al_1_false_l : QAL ktM fun G => EvAl G 1 402 [] #[] 401 192949540904489867551593184832300269038208300146607644732190990199806636651069917852851146262491979537460890400935926455089117177180324867916994838953726972466564635752069001932256814854247140132896214224903635405054558969560847253394041528076063923309423323746337646883171949749522858023148307666088671077260527924941289595861845428069024145454362516407862727246537208187462263058316484338212943514513787294408526116595301917219690607292811370849435070451555338351745667639706306468095820011097730353433468288537774075435574454633483583352178360832764774986652327008526096450555176570125231026534406808443489384668183259004465090330603810722270452106237549081853758680994191836945819948435954833589259255493234951954172440504825338390705152639980978950873728542062536823122934911467520 92 1009676408783525929261046431170825209940442872970976720593396473984800520136422479878529938129847004861615770296807477248 34 519737241269589768765758273854259600 := by
  repeat intro _
  kernel_rfl
theorem ev_al_1_false_c : QAC ktM fun G => EvAl G 1 402 [] #[] 401 192949540904489867551593184832300269038208300146607644732190990199806636651069917852851146262491979537460890400935926455089117177180324867916994838953726972466564635752069001932256814854247140132896214224903635405054558969560847253394041528076063923309423323746337646883171949749522858023148307666088671077260527924941289595861845428069024145454362516407862727246537208187462263058316484338212943514513787294408526116595301917219690607292811370849435070451555338351745667639706306468095820011097730353433468288537774075435574454633483583352178360832764774986652327008526096450555176570125231026534406808443489384668183259004465090330603810722270452106237549081853758680994191836945819948435954833589259255493234951954172440504825338390705152639980978950873728542062536823122934911467520 92 1009676408783525929261046431170825209940442872970976720593396473984800520136422479878529938129847004861615770296807477248 34 519737241269589768765758273854259600 := by
  repeat intro _
  kernel_rfl
theorem ev_al_3_false_l : QAL ktM fun G => EvAl G 3 402 [] #[] 410 207177991990749560174366080387803224992776505891357959867086745333506502485025065146850553388378920893923932787765032979017242760375333200589753118976761051014246891006322181908600956818029618393079583464542775704054260967491824608844708341088140087754856316027535098284204964229689016703468298095899232628233764177329395383572920761940894783840208517125008452695311359603073464267404560262580198869683004442646235833584676150426167601390250983423812841916221532638740546755556024331356203585491777231955816902780707828658107309405961914262624027533903008457117645255979274354419041103048329470852446365256130892818252727289718770235907298746281432665854950921610464795446455947178049276680584281762371374371107202536562463581262479994322842650522344098465737450414524845827989805679383070900224 92 1009676408783525929261046431170825209940442872970976720593396473984800520136422479878529938129847004861615770296807477248 34 519737241269589768765758273854259600 := by
  repeat intro _
  kernel_rfl
theorem ev_al_3_false_c : QAC ktM fun G => EvAl G 3 402 [] #[] 410 207177991990749560174366080387803224992776505891357959867086745333506502485025065146850553388378920893923932787765032979017242760375333200589753118976761051014246891006322181908600956818029618393079583464542775704054260967491824608844708341088140087754856316027535098284204964229689016703468298095899232628233764177329395383572920761940894783840208517125008452695311359603073464267404560262580198869683004442646235833584676150426167601390250983423812841916221532638740546755556024331356203585491777231955816902780707828658107309405961914262624027533903008457117645255979274354419041103048329470852446365256130892818252727289718770235907298746281432665854950921610464795446455947178049276680584281762371374371107202536562463581262479994322842650522344098465737450414524845827989805679383070900224 92 1009676408783525929261046431170825209940442872970976720593396473984800520136422479878529938129847004861615770296807477248 34 519737241269589768765758273854259600 := by
  repeat intro _
  kernel_rfl
theorem ev_al_6_false_l : QAL ktM fun G => EvAl G 6 402 [] #[] 428 238859962247400274936907234212435086015033572678043324136350053007242251774135368096178866944331375846584106737885930007060620027081925979116735430689671388821581909088910502199214018643438160990023232759908512189850284110900768743770700911648477576928335288896774255622423413931591833697018741463957704925552151580072121241149020042959309413162255989544978707120946819954449049399240015890911110565410589126800129281809572192095967353776361574919308576288331320913866922259102973175563573161581306510595499771180593505063237917914413515354887888852369528434394573232966358681357198475417846328427309746748918993126757230765901193476931189283239254616901698120609733533964466668763740842726259357457218667037112135339593785344798668780570615354344546422696105993474852387393711777494408932110136832669415767015424 92 1009676408783525929261046431170825209940442872970976720593396473984800520136422479878529938129847004861615770296807477248 34 519737241269589768765758273854259600 := by
  repeat intro _
  kernel_rfl
theorem ev_al_6_false_c : QAC ktM fun G => EvAl G 6 402 [] #[] 428 238859962247400274936907234212435086015033572678043324136350053007242251774135368096178866944331375846584106737885930007060620027081925979116735430689671388821581909088910502199214018643438160990023232759908512189850284110900768743770700911648477576928335288896774255622423413931591833697018741463957704925552151580072121241149020042959309413162255989544978707120946819954449049399240015890911110565410589126800129281809572192095967353776361574919308576288331320913866922259102973175563573161581306510595499771180593505063237917914413515354887888852369528434394573232966358681357198475417846328427309746748918993126757230765901193476931189283239254616901698120609733533964466668763740842726259357457218667037112135339593785344798668780570615354344546422696105993474852387393711777494408932110136832669415767015424 92 1009676408783525929261046431170825209940442872970976720593396473984800520136422479878529938129847004861615770296807477248 34 519737241269589768765758273854259600 := by
  repeat intro _
  kernel_rfl
theorem ev_al_1_true_l : QAL ktM fun G => ∀ h t v, EvAl G 1 402 [otherE 1 h t v] #[none] 399 188427286039540886280852719562793231482625293111921528058780263866998668604560466653174947521964823767051650782163990678797965993340161003825190272415748996549379527101629884699469545756100722786031459204007456450248592743711764895892618679761781175106858714596032858284347607177268416038230769205164717848887234301700478120958833425848656392045275894929553444576696492370568616267887191736536077650892370404695826285744549001007010924743411790539250054956870173554974291466676081609710897820376874154942725424894120283864953877898600187473916562762032889458670973267396175018766361850230327558252346855572803476367005329417249900642232816102567484550885218093633463806503245721013399304145777284410308867463345133866219734788083838720099021348471961151199690074206104817160354267136 92 1009676408783525929261046431170825209940442872970976720593396473984800520136422479878529938129847004861615770296807477248 34 519737241269589768765758273854259600 := by
  repeat intro _
  kernel_rfl
theorem ev_al_1_true_c : QAC ktM fun G => ∀ h t v, EvAl G 1 402 [otherE 1 h t v] #[none] 399 188427286039540886280852719562793231482625293111921528058780263866998668604560466653174947521964823767051650782163990678797965993340161003825190272415748996549379527101629884699469545756100722786031459204007456450248592743711764895892618679761781175106858714596032858284347607177268416038230769205164717848887234301700478120958833425848656392045275894929553444576696492370568616267887191736536077650892370404695826285744549001007010924743411790539250054956870173554974291466676081609710897820376874154942725424894120283864953877898600187473916562762032889458670973267396175018766361850230327558252346855572803476367005329417249900642232816102567484550885218093633463806503245721013399304145777284410308867463345133866219734788083838720099021348471961151199690074206104817160354267136 92 1009676408783525929261046431170825209940442872970976720593396473984800520136422479878529938129847004861615770296807477248 34 519737241269589768765758273854259600 := by
  repeat intro _
  kernel_rfl
theorem ev_al_3_true_l : QAL ktM fun G => ∀ h t v, EvAl G 3 402 [otherE 3 h t v] #[none] 408 202322257803466367357779375378714086907008306534529257682701899739752443833032290182471243543338789935472590613051790018571526133179036328700930780250743213881100479498361505770118121892607049211991780727092554398490489226066234969574910489343886804448101871120639744418168910380555680374480759859276594363509535329423237679270430431582905062343953630004891067085264999612376429948637265881425975458674809026021714681242497242398645747121917707956720297601490021484114659992536411084783835538329089222546660613256987720472553346530716252344985122523915672675343743451989208695273427602910326732515341164983406569507849195826198765379409835394627381943562508061780446274951048892335098568650009225884166376672552021916021853095993743722108357314075657628320066987948593639117242898250421239808 92 1009676408783525929261046431170825209940442872970976720593396473984800520136422479878529938129847004861615770296807477248 34 519737241269589768765758273854259600 := by
  repeat intro _
  kernel_rfl
theorem ev_al_3_true_c : QAC ktM fun G => ∀ h t v, EvAl G 3 402 [otherE 3 h t v] #[none] 408 202322257803466367357779375378714086907008306534529257682701899739752443833032290182471243543338789935472590613051790018571526133179036328700930780250743213881100479498361505770118121892607049211991780727092554398490489226066234969574910489343886804448101871120639744418168910380555680374480759859276594363509535329423237679270430431582905062343953630004891067085264999612376429948637265881425975458674809026021714681242497242398645747121917707956720297601490021484114659992536411084783835538329089222546660613256987720472553346530716252344985122523915672675343743451989208695273427602910326732515341164983406569507849195826198765379409835394627381943562508061780446274951048892335098568650009225884166376672552021916021853095993743722108357314075657628320066987948593639117242898250421239808 92 1009676408783525929261046431170825209940442872970976720593396473984800520136422479878529938129847004861615770296807477248 34 519737241269589768765758273854259600 := by
  repeat intro _
  kernel_rfl
theorem ev_ae_1_false_l : QAL ktM fun G => EvAe G 1 402 [] #[] 6 406 498 504395088086516339646387609687173610662089973682936214243807477678459966497571334115101285930845489672004138368018006396532738492429557989214316760026532450710753249167503548850414655162698410158510621689639843629784308216371836118354164885217051321496087884109452190679339884956439717078662906705564384693329518077129156113923580689404772333056934600424844630714069950558794686906499529105830081388609209962616920493396779967666647423335450767928893436419420772998071838472944564536053445001982456292396160580072961395202153846065802358280061246137155630506736098736131436896140322404228294480141088098227239887625269330014327314080164905331974329150915884202537673064299761000447249473071166081390243676865504312974993704262105643686859113769975469272391205626333001477291290645971996273039787427175323549452015469015888592084719847678186571795790638539520761381548766423724157747387654359341207736538890240 34 519737241269589768765758273854259600 := by
  repeat intro _
  kernel_rfl
theorem ev_ae_1_false_c : QAC ktM fun G => EvAe G 1 402 [] #[] 6 406 498 504395088086516339646387609687173610662089973682936214243807477678459966497571334115101285930845489672004138368018006396532738492429557989214316760026532450710753249167503548850414655162698410158510621689639843629784308216371836118354164885217051321496087884109452190679339884956439717078662906705564384693329518077129156113923580689404772333056934600424844630714069950558794686906499529105830081388609209962616920493396779967666647423335450767928893436419420772998071838472944564536053445001982456292396160580072961395202153846065802358280061246137155630506736098736131436896140322404228294480141088098227239887625269330014327314080164905331974329150915884202537673064299761000447249473071166081390243676865504312974993704262105643686859113769975469272391205626333001477291290645971996273039787427175323549452015469015888592084719847678186571795790638539520761381548766423724157747387654359341207736538890240 34 519737241269589768765758273854259600 := by
  repeat intro _
  kernel_rfl
theorem ev_ae_3_false_l : QAL ktM fun G => EvAe G 3 402 [] #[] 6 406 507 541590101898656724337715747036505862116978335994427928357800621787308889938081135862862280700131573942590885266824037453056729904576323786852752804824659242021354290175041742069117334990726807685499324056407847602119383830825281975950680881849707321844819813547983810860830207189077742362087460927174533370053317373177632769345057326052657719201288453708883848699531891176590026360493721837235080624273705928459264023842838478209047028297107071418170740722616889822439604324972871375827739797912326235397730791844439621565945519403309848203134465259022440872172862943577863756602608338264154227515823711935207723424311718900841756353457147671941441703680792774205586504776894659384294464998472750038892701402033203693636606402909887933022189650396976811793285970777859437621443800713280815783003294898269009754832666368898325520407970860542951595222275587898988279101603157193982986315730662715880637691786422862741504 34 519737241269589768765758273854259600 := by
  repeat intro _
  kernel_rfl
theorem ev_ae_3_false_c : QAC ktM fun G => EvAe G 3 402 [] #[] 6 406 507 541590101898656724337715747036505862116978335994427928357800621787308889938081135862862280700131573942590885266824037453056729904576323786852752804824659242021354290175041742069117334990726807685499324056407847602119383830825281975950680881849707321844819813547983810860830207189077742362087460927174533370053317373177632769345057326052657719201288453708883848699531891176590026360493721837235080624273705928459264023842838478209047028297107071418170740722616889822439604324972871375827739797912326235397730791844439621565945519403309848203134465259022440872172862943577863756602608338264154227515823711935207723424311718900841756353457147671941441703680792774205586504776894659384294464998472750038892701402033203693636606402909887933022189650396976811793285970777859437621443800713280815783003294898269009754832666368898325520407970860542951595222275587898988279101603157193982986315730662715880637691786422862741504 34 519737241269589768765758273854259600 := by
  repeat intro _
  kernel_rfl
theorem ev_ae_6_false_l : QAL ktM fun G => EvAe G 6 402 [] #[] 6 406 525 624410875161174881771884334624220285293407831102074444237610284177035286842531085069880882950688992975117101547699886893065614691404130202170161841527126186482122459596572526946457421658396414898186190968175940348513429333803364925656768783579186285752649888791328716501797703678913891179167676213039170194674081025901230238274098544234402059680460516448239778440924899989830963559014807451768613318810172824649661720100753909980464156028633328592358679161046456889089475962785278453064175289187758616731356111796979350825884390174403595799017390973759086063911433852312562249942054376908742345063488739928796050779749412011871636097367233991109082779239085888108414362598791547877176567282823678655717264774560948094700681396574303010719497249762323033147742776310186481192877536843464509062139765203398794783590478245191567056243190897768394679991084922445346501072648976284381311571853269125762696687967888284384481809545086006984704 34 519737241269589768765758273854259600 := by
  repeat intro _
  kernel_rfl
theorem ev_ae_6_false_c : QAC ktM fun G => EvAe G 6 402 [] #[] 6 406 525 624410875161174881771884334624220285293407831102074444237610284177035286842531085069880882950688992975117101547699886893065614691404130202170161841527126186482122459596572526946457421658396414898186190968175940348513429333803364925656768783579186285752649888791328716501797703678913891179167676213039170194674081025901230238274098544234402059680460516448239778440924899989830963559014807451768613318810172824649661720100753909980464156028633328592358679161046456889089475962785278453064175289187758616731356111796979350825884390174403595799017390973759086063911433852312562249942054376908742345063488739928796050779749412011871636097367233991109082779239085888108414362598791547877176567282823678655717264774560948094700681396574303010719497249762323033147742776310186481192877536843464509062139765203398794783590478245191567056243190897768394679991084922445346501072648976284381311571853269125762696687967888284384481809545086006984704 34 519737241269589768765758273854259600 := by
  repeat intro _
  kernel_rfl
theorem ev_ae_1_true_l : QAL ktM fun G => ∀ h t v, EvAe G 1 402 [otherE 1 h t v] #[none] 6 406 496 492573328209488612935925400085130479162197239924742396722468239920371061032784505971778599541841298507816541375017584371614002434013240223842106210963410596397219969890140184424233061682322666170420528993788909794711238492550621209330239145719776681148523324325636904960292856402773161209631744829652719427079607497196441517503496766996847981500912695727387334681708936092572936432128446392412188856063681604118086419332792937174460374351026140555559996503340598630929529758734926304739692384748492473043125566477501362502103365298635115507879260153288202232793497108197454962856056761325041491175056737624500026349841326948784371705779990651578581510986882042147251234116521390885035373719193035311430912919936462273544629525164751037100335906537371172185789276659922001333163633025413262985012264606147900772485146603062001083504959124327547230184385792948669557392207747062609864728104368994977543356416 34 519737241269589768765758273854259600 := by
  repeat intro _
  kernel_rfl
theorem ev_ae_1_true_c : QAC ktM fun G => ∀ h t v, EvAe G 1 402 [otherE 1 h t v] #[none] 6 406 496 492573328209488612935925400085130479162197239924742396722468239920371061032784505971778599541841298507816541375017584371614002434013240223842106210963410596397219969890140184424233061682322666170420528993788909794711238492550621209330239145719776681148523324325636904960292856402773161209631744829652719427079607497196441517503496766996847981500912695727387334681708936092572936432128446392412188856063681604118086419332792937174460374351026140555559996503340598630929529758734926304739692384748492473043125566477501362502103365298635115507879260153288202232793497108197454962856056761325041491175056737624500026349841326948784371705779990651578581510986882042147251234116521390885035373719193035311430912919936462273544629525164751037100335906537371172185789276659922001333163633025413262985012264606147900772485146603062001083504959124327547230184385792948669557392207747062609864728104368994977543356416 34 519737241269589768765758273854259600 := by
  repeat intro _
  kernel_rfl
theorem ev_ae_3_true_l : QAL ktM fun G => ∀ h t v, EvAe G 3 402 [otherE 3 h t v] #[none] 6 406 505 528896583885406957361050534215337755973611656244558523786914669714168837830157359241076445996222240178311411393382849075250712797437816198098391410961581291036478798999064201239372397451881648130370433648835788673944710772290314429639336798681354806489081849167952940293779499208083732775476036061693880244192692747243782001313532544973298553907508255575081883495636612477138697617669650231674883422142290945761000023284021951376022488571393624431807363986930556467226176098606319702956777146398756089255596476410585567935493671292294773635880963168762193863120562200294660643974914636352682707609985324760420085380926688508568085858058198504928934590939730764008034416706524706783914856481767993543392236488637742965702997451754653679082006347298130446587787444800465277408004744186458523411237024430509864660595401889102871597411676687937886239464170606910258197598334264166911130332983884527840531849526827286528 34 519737241269589768765758273854259600 := by
  repeat intro _
  kernel_rfl
theorem ev_ae_3_true_c : QAC ktM fun G => ∀ h t v, EvAe G 3 402 [otherE 3 h t v] #[none] 6 406 505 528896583885406957361050534215337755973611656244558523786914669714168837830157359241076445996222240178311411393382849075250712797437816198098391410961581291036478798999064201239372397451881648130370433648835788673944710772290314429639336798681354806489081849167952940293779499208083732775476036061693880244192692747243782001313532544973298553907508255575081883495636612477138697617669650231674883422142290945761000023284021951376022488571393624431807363986930556467226176098606319702956777146398756089255596476410585567935493671292294773635880963168762193863120562200294660643974914636352682707609985324760420085380926688508568085858058198504928934590939730764008034416706524706783914856481767993543392236488637742965702997451754653679082006347298130446587787444800465277408004744186458523411237024430509864660595401889102871597411676687937886239464170606910258197598334264166911130332983884527840531849526827286528 34 519737241269589768765758273854259600 := by
  repeat intro _
  kernel_rfl
theorem ev_ag_0_false_l : QAL ktM fun G => EvAg G 0 402 false 202 4290224100714525186691768877151959599837185172642943063117038783657822884577579603077617430593861504359376841513312809875149720168883205308483592748462963857069965413854837156741914022346235500580232930986242113693829624713326815283087941092894545418520146321797495804069983838794900917791638374158696448 := by
  repeat intro _
  kernel_rfl
theorem ev_ag_0_false_c : QAC ktM fun G => EvAg G 0 402 false 202 4290224100714525186691768877151959599837185172642943063117038783657822884577579603077617430593861504359376841513312809875149720168883205308483592748462963857069965413854837156741914022346235500580232930986242113693829624713326815283087941092894545418520146321797495804069983838794900917791638374158696448 := by
  repeat intro _
  kernel_rfl
theorem ev_ag_1_false_l : QAL ktM fun G => EvAg G 1 402 false 168 3305068425479161776893349186951622771777656202366358206148026061702922491468800319401976148947635135199000610188905235404291550365088665347981753010262063459585181031751350403147484082914493100531333329937326955044485035944053379184446604605999457326613487097153086029824 := by
  repeat intro _
  kernel_rfl
theorem ev_ag_1_false_c : QAC ktM fun G => EvAg G 1 402 false 168 3305068425479161776893349186951622771777656202366358206148026061702922491468800319401976148947635135199000610188905235404291550365088665347981753010262063459585181031751350403147484082914493100531333329937326955044485035944053379184446604605999457326613487097153086029824 := by
  repeat intro _
  kernel_rfl
theorem ev_ag_2_false_l : QAL ktM fun G => EvAg G 2 402 false 202 4290224100714525186691768877151959599837185172642943063117038783657822884577579603077617430593861504359376841513312809875149720168883205308483592748462963857069965413854837156741914022346235500580232930986242113693829624713326815283087941092894545418520146321797495804069983838794900917791638374158696448 := by
  repeat intro _
  kernel_rfl
theorem ev_ag_2_false_c : QAC ktM fun G => EvAg G 2 402 false 202 4290224100714525186691768877151959599837185172642943063117038783657822884577579603077617430593861504359376841513312809875149720168883205308483592748462963857069965413854837156741914022346235500580232930986242113693829624713326815283087941092894545418520146321797495804069983838794900917791638374158696448 := by
  repeat intro _
  kernel_rfl
theorem ev_ag_3_false_l : QAL ktM fun G => EvAg G 3 402 false 177 3548790199618803240312545809466352434728476293173766576506749517492432542120334094046460459375529430555061518161348092026153386716798169451270715367240926797017013334336872967714906462823249626719014783575882153473671712905140845989623764109226430632323964679501917407861769502720 := by
  repeat intro _
  kernel_rfl
theorem ev_ag_3_false_c : QAC ktM fun G => EvAg G 3 402 false 177 3548790199618803240312545809466352434728476293173766576506749517492432542120334094046460459375529430555061518161348092026153386716798169451270715367240926797017013334336872967714906462823249626719014783575882153473671712905140845989623764109226430632323964679501917407861769502720 := by
  repeat intro _
  kernel_rfl
theorem ev_ag_4_false_l : QAL ktM fun G => EvAg G 4 402 false 202 4290224100714525186691768877151959599837185172642943063117038783657822884577579603077617430593861504359376841513312809875149720168883205308483592748462963857069965413854837156741914022346235500580232930986242113693829624713326815283087941092894545418520146321797495804069983838794900917791638374158696448 := by
  repeat intro _
  kernel_rfl
theorem ev_ag_4_false_c : QAC ktM fun G => EvAg G 4 402 false 202 4290224100714525186691768877151959599837185172642943063117038783657822884577579603077617430593861504359376841513312809875149720168883205308483592748462963857069965413854837156741914022346235500580232930986242113693829624713326815283087941092894545418520146321797495804069983838794900917791638374158696448 := by
  repeat intro _
  kernel_rfl
theorem ev_ag_5_false_l : QAL ktM fun G => EvAg G 5 402 false 186 3810484461932017895950303267539957729892195079773158872808592775223444423973244357630833994393758871729873086942775026631081793157072237906468497035009295757764173716561466580744472848757415806424268638118818510616851104071810620219669114219138957305134779173315799509819145932687775105024 := by
  repeat intro _
  kernel_rfl
theorem ev_ag_5_false_c : QAC ktM fun G => EvAg G 5 402 false 186 3810484461932017895950303267539957729892195079773158872808592775223444423973244357630833994393758871729873086942775026631081793157072237906468497035009295757764173716561466580744472848757415806424268638118818510616851104071810620219669114219138957305134779173315799509819145932687775105024 := by
  repeat intro _
  kernel_rfl
theorem ev_ag_6_false_l : QAL ktM fun G => EvAg G 6 402 false 195 4091476536478543459598320843841514205777344868319457114331282409341643223359660723760240011781560425147415963662445840716506339677665463229453425404909473082700359219558216194441884324477239852892616687983370685233786634359462665417079144647990008397025976804367090673127350964690650470739890667520 := by
  repeat intro _
  kernel_rfl
theorem ev_ag_6_false_c : QAC ktM fun G => EvAg G 6 402 false 195 4091476536478543459598320843841514205777344868319457114331282409341643223359660723760240011781560425147415963662445840716506339677665463229453425404909473082700359219558216194441884324477239852892616687983370685233786634359462665417079144647990008397025976804367090673127350964690650470739890667520 := by
  repeat intro _
  kernel_rfl
theorem ev_ag_0_true_l : QAL ktM fun G => EvAg G 0 402 true 202 4290224100714525186691768877151959599837185172642943063117038783657822884577579603077617430593861504359376841513312809875149720168883205308483592748462963857069965413854837156741914022346235500580232930986242113693829624713326815283087941092894545418520146321797495804069983838794900917791638374158696448 := by
  repeat intro _
  kernel_rfl
theorem ev_ag_0_true_c : QAC ktM fun G => EvAg G 0 402 true 202 4290224100714525186691768877151959599837185172642943063117038783657822884577579603077617430593861504359376841513312809875149720168883205308483592748462963857069965413854837156741914022346235500580232930986242113693829624713326815283087941092894545418520146321797495804069983838794900917791638374158696448 := by
  repeat intro _
  kernel_rfl
theorem ev_ag_1_true_l : QAL ktM fun G => EvAg G 1 402 true 168 3305068425479161776893349186951622771777656202366358206148026061702922491468800319401976148947635135199000610188905235404291550365088665347981753010262063459585181031751350403147484082914493100531333329937326955044485035944053379184446604605999457326613487097153086029824 := by
  repeat intro _
  kernel_rfl
theorem ev_ag_1_true_c : QAC ktM fun G => EvAg G 1 402 true 168 3305068425479161776893349186951622771777656202366358206148026061702922491468800319401976148947635135199000610188905235404291550365088665347981753010262063459585181031751350403147484082914493100531333329937326955044485035944053379184446604605999457326613487097153086029824 := by
  repeat intro _
  kernel_rfl
theorem ev_ag_2_true_l : QAL ktM fun G => EvAg G 2 402 true 202 4290224100714525186691768877151959599837185172642943063117038783657822884577579603077617430593861504359376841513312809875149720168883205308483592748462963857069965413854837156741914022346235500580232930986242113693829624713326815283087941092894545418520146321797495804069983838794900917791638374158696448 := by
  repeat intro _
  kernel_rfl
theorem ev_ag_2_true_c : QAC ktM fun G => EvAg G 2 402 true 202 4290224100714525186691768877151959599837185172642943063117038783657822884577579603077617430593861504359376841513312809875149720168883205308483592748462963857069965413854837156741914022346235500580232930986242113693829624713326815283087941092894545418520146321797495804069983838794900917791638374158696448 := by
  repeat intro _
  kernel_rfl
theorem ev_ag_3_true_l : QAL ktM fun G => EvAg G 3 402 true 177 3548790199618803240312545809466352434728476293173766576506749517492432542120334094046460459375529430555061518161348092026153386716798169451270715367240926797017013334336872967714906462823249626719014783575882153473671712905140845989623764109226430632323964679501917407861769502720 := by
  repeat intro _
  kernel_rfl
theorem ev_ag_3_true_c : QAC ktM fun G => EvAg G 3 402 true 177 3548790199618803240312545809466352434728476293173766576506749517492432542120334094046460459375529430555061518161348092026153386716798169451270715367240926797017013334336872967714906462823249626719014783575882153473671712905140845989623764109226430632323964679501917407861769502720 := by
  repeat intro _
  kernel_rfl
theorem ev_sm_true_l : QSL ktM fun G => EvSm G true 68 816851426512027915185914015368084205485699424856775292384477100226827299365753461872524263424 29 642455769098444108370979732707892848381331 26 571327517491260446312488227526547276472409968948 := by
  repeat intro _
  kernel_rfl
theorem ev_sm_true_c : QSC ktM fun G => EvSm G true 68 816851426512027915185914015368084205485699424856775292384477100226827299365753461872524263424 29 642455769098444108370979732707892848381331 26 571327517491260446312488227526547276472409968948 := by
  repeat intro _
  kernel_rfl
theorem ev_sm_false_l : QSL ktM fun G => EvSm G false 68 816851426512027915185914015368084205485699424856775292384477100226827299365753461872524263424 29 642455769098444108370979732707892848381331 22 544860379687557646095741488958880688164148 := by
  repeat intro _
  kernel_rfl
theorem ev_sm_false_c : QSC ktM fun G => EvSm G false 68 816851426512027915185914015368084205485699424856775292384477100226827299365753461872524263424 29 642455769098444108370979732707892848381331 22 544860379687557646095741488958880688164148 := by
  repeat intro _
  kernel_rfl
theorem ev_sm3_false : QW false ktM fun G => EvSm3 G 12 353138505782583937024 := by
  repeat intro _
  kernel_rfl
theorem ev_sm3_true : QW true ktM fun G => EvSm3 G 2 0 := by
  repeat intro _
  kernel_rfl
theorem ev_sm5_true : QX ktM fun G => EvSm5 G true 14 577958535958968140082 := by
  repeat intro _
  kernel_rfl
theorem ev_sm5_false : QX ktM fun G => EvSm5 G false 14 577958535958968140082 := by
  repeat intro _
  kernel_rfl
theorem ev_st_true_l : QSL ktM fun G => EvSt G true 84 1021304929215964836618790745186218702454919153983700931150749202971859600354619250650917773962726189483035783393413431296 26 571327517491260446312488227526547276472409968948 := by
  repeat intro _
  kernel_rfl
theorem ev_st_true_c : QSC ktM fun G => EvSt G true 84 1021304929215964836618790745186218702454919153983700931150749202971859600354619250650917773962726189483035783393413431296 26 571327517491260446312488227526547276472409968948 := by
  repeat intro _
  kernel_rfl
theorem ev_st_false_l : QSL ktM fun G => EvSt G false 84 1021304929215964836618790745186218702454919153983700931150749202971859600354619250650917773962726189483035783393413431296 22 544860379687557646095741488958880688164148 := by
  repeat intro _
  kernel_rfl
theorem ev_st_false_c : QSC ktM fun G => EvSt G false 84 1021304929215964836618790745186218702454919153983700931150749202971859600354619250650917773962726189483035783393413431296 22 544860379687557646095741488958880688164148 := by
  repeat intro _
  kernel_rfl
theorem ev_st3_false : QW false ktM fun G => EvSt3 G 12 353138505782583937024 := by
  repeat intro _
  kernel_rfl
theorem ev_st3_true : QW true ktM fun G => EvSt3 G 2 0 := by
  repeat intro _
  kernel_rfl
theorem ev_st5_true : QX ktM fun G => EvSt5 G true 14 577958535958968140082 := by
  repeat intro _
  kernel_rfl
theorem ev_st5_false : QX ktM fun G => EvSt5 G false 14 577958535958968140082 := by
  repeat intro _
  kernel_rfl
theorem ev_sm4_614_false : QX ktM fun G => EvSm4 G 614 false 96 3781425586458763534786270131255795283321863664531810379283848185787806766317900721094472590237900546884814576760451803801683021850822972125686319509398901772627545050579250 := by
  repeat intro _
  kernel_rfl
theorem ev_sm4_614_true : QX ktM fun G => EvSm4 G 614 true 96 3781425586458763534786270131255795283321863664531810379283848185787806766317900721094472590237900546884814576760451803801683021850822972125686319509398901772627545050579250 := by
  repeat intro _
  kernel_rfl
theorem ev_sm4_620_false : QX ktM fun G => EvSm4 G 620 false 96 3781425586458763534786270131255795283321863664531810379283848185787806766317900721094472590237900546884814576760451803801683021850822972125686319509398901772627545050579250 := by
  repeat intro _
  kernel_rfl
theorem ev_sm4_620_true : QX ktM fun G => EvSm4 G 620 true 96 3781425586458763534786270131255795283321863664531810379283848185787806766317900721094472590237900546884814576760451803801683021850822972125686319509398901772627545050579250 := by
  repeat intro _
  kernel_rfl
theorem ev_sm4_626_false : QX ktM fun G => EvSm4 G 626 false 96 3781425586458763534786270131255795283321863664531810379283848185787806766317900721094472590237900546884814576760451803801683021850822972125686319509398901772627545050579250 := by
  repeat intro _
  kernel_rfl
theorem ev_sm4_626_true : QX ktM fun G => EvSm4 G 626 true 96 3781425586458763534786270131255795283321863664531810379283848185787806766317900721094472590237900546884814576760451803801683021850822972125686319509398901772627545050579250 := by
  repeat intro _
  kernel_rfl
theorem ev_sm4_638_false : QX ktM fun G => EvSm4 G 638 false 96 3781425586458763534786270131255795283321863664531810379283848185787806766317900721094472590237900546884814576760451803801683021850822972125686319509398901772627545050579250 := by
  repeat intro _
  kernel_rfl
theorem ev_sm4_638_true : QX ktM fun G => EvSm4 G 638 true 96 3781425586458763534786270131255795283321863664531810379283848185787806766317900721094472590237900546884814576760451803801683021850822972125686319509398901772627545050579250 := by
  repeat intro _
  kernel_rfl
theorem ev_sm4_642_false : QX ktM fun G => EvSm4 G 642 false 96 3781425586458763534786270131255795283321863664531810379283848185787806766317900721094472590237900546884814576760451803801683021850822972125686319509398901772627545050579250 := by
  repeat intro _
  kernel_rfl
theorem ev_sm4_642_true : QX ktM fun G => EvSm4 G 642 true 96 3781425586458763534786270131255795283321863664531810379283848185787806766317900721094472590237900546884814576760451803801683021850822972125686319509398901772627545050579250 := by
  repeat intro _
  kernel_rfl
theorem ev_sm4_646_false : QX ktM fun G => EvSm4 G 646 false 96 3781425586458763534786270131255795283321863664531810379283848185787806766317900721094472590237900546884814576760451803801683021850822972125686319509398901772627545050579250 := by
  repeat intro _
  kernel_rfl
theorem ev_sm4_646_true : QX ktM fun G => EvSm4 G 646 true 96 3781425586458763534786270131255795283321863664531810379283848185787806766317900721094472590237900546884814576760451803801683021850822972125686319509398901772627545050579250 := by
  repeat intro _
  kernel_rfl
theorem ev_sm4_656_false : QX ktM fun G => EvSm4 G 656 false 96 3781425586458763534786270131255795283321863664531810379283848185787806766317900721094472590237900546884814576760451803801683021850822972125686319509398901772627545050579250 := by
  repeat intro _
  kernel_rfl
theorem ev_sm4_656_true : QX ktM fun G => EvSm4 G 656 true 96 3781425586458763534786270131255795283321863664531810379283848185787806766317900721094472590237900546884814576760451803801683021850822972125686319509398901772627545050579250 := by
  repeat intro _
  kernel_rfl
theorem ev_sm4_660_false : QX ktM fun G => EvSm4 G 660 false 96 3781425586458763534786270131255795283321863664531810379283848185787806766317900721094472590237900546884814576760451803801683021850822972125686319509398901772627545050579250 := by
  repeat intro _
  kernel_rfl
theorem ev_sm4_660_true : QX ktM fun G => EvSm4 G 660 true 96 3781425586458763534786270131255795283321863664531810379283848185787806766317900721094472590237900546884814576760451803801683021850822972125686319509398901772627545050579250 := by
  repeat intro _
  kernel_rfl
theorem ev_sm4_664_false : QX ktM fun G => EvSm4 G 664 false 96 3781425586458763534786270131255795283321863664531810379283848185787806766317900721094472590237900546884814576760451803801683021850822972125686319509398901772627545050579250 := by
  repeat intro _
  kernel_rfl
theorem ev_sm4_664_true : QX ktM fun G => EvSm4 G 664 true 96 3781425586458763534786270131255795283321863664531810379283848185787806766317900721094472590237900546884814576760451803801683021850822972125686319509398901772627545050579250 := by
  repeat intro _
  kernel_rfl
theorem ev_st4_549_false : QX ktM fun G => EvSt4 G 549 false 42 4053558221941720090143277898409247900908449476494628341320963636919796018 := by
  repeat intro _
  kernel_rfl
theorem ev_st4_549_true : QX ktM fun G => EvSt4 G 549 true 42 4053558221941720090143277898409247900908449476494628341320963636919796018 := by
  repeat intro _
  kernel_rfl
theorem ev_st4_558_false : QX ktM fun G => EvSt4 G 558 false 42 4053558221941720090143277898409247900908449476494628341320963636919796018 := by
  repeat intro _
  kernel_rfl
theorem ev_st4_558_true : QX ktM fun G => EvSt4 G 558 true 42 4053558221941720090143277898409247900908449476494628341320963636919796018 := by
  repeat intro _
  kernel_rfl
theorem ev_st4_567_false : QX ktM fun G => EvSt4 G 567 false 42 4053558221941720090143277898409247900908449476494628341320963636919796018 := by
  repeat intro _
  kernel_rfl
theorem ev_st4_567_true : QX ktM fun G => EvSt4 G 567 true 42 4053558221941720090143277898409247900908449476494628341320963636919796018 := by
  repeat intro _
  kernel_rfl
theorem ev_st4_582_false : QX ktM fun G => EvSt4 G 582 false 42 4053558221941720090143277898409247900908449476494628341320963636919796018 := by
  repeat intro _
  kernel_rfl
theorem ev_st4_582_true : QX ktM fun G => EvSt4 G 582 true 42 4053558221941720090143277898409247900908449476494628341320963636919796018 := by
  repeat intro _
  kernel_rfl
theorem ev_st4_591_false : QX ktM fun G => EvSt4 G 591 false 42 4053558221941720090143277898409247900908449476494628341320963636919796018 := by
  repeat intro _
  kernel_rfl
theorem ev_st4_591_true : QX ktM fun G => EvSt4 G 591 true 42 4053558221941720090143277898409247900908449476494628341320963636919796018 := by
  repeat intro _
  kernel_rfl
theorem ev_st4_600_false : QX ktM fun G => EvSt4 G 600 false 42 4053558221941720090143277898409247900908449476494628341320963636919796018 := by
  repeat intro _
  kernel_rfl
theorem ev_st4_600_true : QX ktM fun G => EvSt4 G 600 true 42 4053558221941720090143277898409247900908449476494628341320963636919796018 := by
  repeat intro _
  kernel_rfl
theorem ev_l : QK ktM fun G => EvL G 21 333607610009790414461611192503762944 0 0 := by
  repeat intro _
  kernel_rfl
theorem ev_l2 : QX ktM fun G => EvL2 G 15 462321523347345637376 := by
  repeat intro _
  kernel_rfl
theorem ev_b0_false : QW false ktM fun G => EvB G [] 17 401 1 297 22148435161957104778799809187310986185622674636984150230125838062414110049361236458698322780759755752746373852000881656588721697945814221548332659867720576800673679287832180121619329549212727413097896986719099091480519328115714511771501571173628856019260658150789782021234687277008486453311831359647795727513828013393962306159886467262845095796172186103055860604974079931725813006957688278057038139638274350447118862189604913623611128945652692883096143631913542861542792031749645860782344312485052460649406267392 := by
  repeat intro _
  kernel_rfl
theorem ev_b0_true : QW true ktM fun G => EvB G [] 17 401 1 287 19210705215798582599570466431056723297119098248390964131277826017220071137607224613217465539159522138571550366887495713508136970260239807056373718154481334414203432751765288877282668267645830186255131467459085398385049942116433688090155310045800733670437342648700826068896673687505938279029691628490939439144667017460613780074808801311523044453588049843575803585378203249446106739212962696541421355292291557644647882569653817040274062498451852837221112371626724880191295117756373438805959507968 := by
  repeat intro _
  kernel_rfl
theorem ev_b1_false : QW false ktM fun G => ∀ ηt τt vt, EvB G [toldE ηt τt vt] 18 401 1 297 22148435161957104778799809187310986185622674636984150230125838062414110049361236458698322780759755752746373852000881656588721697945814221548332659867720576800673679287832180121619329549212727413097896986719099091480519328115714511771501571173628856019260658150789782021234687277008486453311831359647795727513828013393962306159886467262845095796172186103055860604974079931725813006957688278057038139638274350447118862189604913623611128945652692883096143631913542861542792031749645860782344312485052460649406267392 := by
  repeat intro _
  kernel_rfl
theorem ev_b1_true : QW true ktM fun G => ∀ ηt τt vt, EvB G [toldE ηt τt vt] 18 401 1 287 19210705215798582599570466431056723297119098248390964131277826017220071137607224613217465539159522138571550366887495713508136970260239807056373718154481334414203432751765288877282668267645830186255131467459085398385049942116433688090155310045800733670437342648700826068896673687505938279029691628490939439144667017460613780074808801311523044453588049843575803585378203249446106739212962696541421355292291557644647882569653817040274062498451852837221112371626724880191295117756373438805959507968 := by
  repeat intro _
  kernel_rfl
theorem ev_w7_false : QK ktM fun G => ∀ ηb τb bb, EvW7 G [befE ηb τb bb] 18 40 600712820439437205187848488191482925621994104236802048 13 375291163906670592 := by
  repeat intro _
  kernel_rfl
theorem ev_w7_true : QK ktM fun G => ∀ ηt τt vt ηb τb bb, EvW7 G [toldE ηt τt vt, befE ηb τb bb] 19 40 600712820439437205187848488191482925621994104236802048 13 375291163906670592 := by
  repeat intro _
  kernel_rfl
theorem ev_f0_false : QKW false ktM fun G => EvFin G [] 402 457 88651189342751449120525122721681989893340798599930176778508139131775614635856168423666746609092908513222137668844648683704195180817180083791222144627149577342418907986233441014005762394028522183336211245463738384853542087678941686896700370060262334791187742619041607262314431156822357305422153293452441111306140925360390952783524463679393461071325521594602062721626151439443779839881170116348158447389641130045139008324487112279556647762943130383104562031659250493569554668172083413425362719957101291414714541732060355512691838417555258404455697374442798643362528749622838825630477302763248654577234394580051601996742282413778756109048932593970431595313806806780124614265224604177215488 := by
  repeat intro _
  kernel_rfl
theorem ev_f0_true : QKW true ktM fun G => EvFin G [] 402 447 76892649663067935278848721443527630241746016921617291171264212064850539423435806330997139599718698006419520589488227662204769524715766083013837373638611047187168847499011276927163296280126373267428857611348098203459622008714339439370330136058284630280041298445865844605954408198819590319740343865040043811695994022612283193953839885159158453145048577044054895492120528035579433145837629119286880982090567485496018618477693303235213785412404475363202171020164709611789638037959093893312717132822437386871767523697420890487531085226397038066538118321372948171940037804409187974256989931180803500718568604474652015647674849787129038186788061378894807755941615966611648512 := by
  repeat intro _
  kernel_rfl
theorem ev_f1_false : QKW false ktM fun G => ∀ ηt τt vt, EvFin G [toldE ηt τt vt] 402 457 88651189342751449120525122721681989893340798599930176778508139131775614635856168423666746609092908513222137668844648683704195180817180083791222144627149577342418907986233441014005762394028522183336211245463738384853542087678941686896700370060262334791187742619041607262314431156822357305422153293452441111306140925360390952783524463679393461071325521594602062721626151439443779839881170116348158447389641130045139008324487112279556647762943130383104562031659250493569554668172083413425362719957101291414714541732060355512691838417555258404455697374442798643362528749622838825630477302763248654577234394580051601996742282413778756109048932593970431595313806806780124614265224604177215488 := by
  repeat intro _
  kernel_rfl
theorem ev_f1_true : QKW true ktM fun G => ∀ ηt τt vt, EvFin G [toldE ηt τt vt] 402 447 76892649663067935278848721443527630241746016921617291171264212064850539423435806330997139599718698006419520589488227662204769524715766083013837373638611047187168847499011276927163296280126373267428857611348098203459622008714339439370330136058284630280041298445865844605954408198819590319740343865040043811695994022612283193953839885159158453145048577044054895492120528035579433145837629119286880982090567485496018618477693303235213785412404475363202171020164709611789638037959093893312717132822437386871767523697420890487531085226397038066538118321372948171940037804409187974256989931180803500718568604474652015647674849787129038186788061378894807755941615966611648512 := by
  repeat intro _
  kernel_rfl
theorem ev_w2_false : QW false ktM fun G => EvW2 G 12 381989690895452417024 := by
  repeat intro _
  kernel_rfl
theorem ev_w2_true : QW true ktM fun G => EvW2 G 2 0 := by
  repeat intro _
  kernel_rfl
theorem ev_w4_0 : QF ktM fun G => EvW4 G 0 false 35 464134702509600314141920821162234816320504139 3 0 := by
  repeat intro _
  kernel_rfl
theorem ev_w4_1 : QF ktM fun G => EvW4 G 1 true 35 464134702509600314141920821162234816320504139 3 0 := by
  repeat intro _
  kernel_rfl
theorem ev_w4_2 : QF ktM fun G => EvW4 G 2 true 35 464134702509600314141920821162234816320504139 3 0 := by
  repeat intro _
  kernel_rfl
theorem ev_w4_3 : QF ktM fun G => EvW4 G 3 true 35 464134702509600314141920821162234816320504139 3 0 := by
  repeat intro _
  kernel_rfl
theorem ev_w4_4 : QF ktM fun G => EvW4 G 4 true 35 464134702509600314141920821162234816320504139 3 0 := by
  repeat intro _
  kernel_rfl
theorem ev_w4_5 : QF ktM fun G => EvW4 G 5 true 35 464134702509600314141920821162234816320504139 3 0 := by
  repeat intro _
  kernel_rfl
theorem ev_w4_6 : QF ktM fun G => EvW4 G 6 true 35 464134702509600314141920821162234816320504139 3 0 := by
  repeat intro _
  kernel_rfl
theorem ev_w6 : QX ktM fun G => EvW6 G 14 462694560510614962507 := by
  repeat intro _
  kernel_rfl
theorem ev_i0 : Q0 ktM 1 0 := by
  repeat intro _
  kernel_rfl
theorem ev_i9 : Q9 ktM 1 0 0 0 := by
  repeat intro _
  kernel_rfl
theorem ev_i1 : Q1 ktM 41 0 := by
  repeat intro _
  kernel_rfl
theorem ev_i1s : QK ktM fun G => EvI1' G 38 4150053143570084982111763959599616491520000 := by
  repeat intro _
  kernel_rfl
theorem ev_i2_false : QKW false ktM fun G => EvI2 G 7381 21852690884613259681537013311120031344091829813858132215890031643716602034895445661067338227199044096528210345708055548374701472900894244628189757685219501519585580245490909212263702201995926931460161425082227838649649501638010092954344974279265091973504881052843849367399595176037721631129929956262600918266813533321701793833583520395735512954799694469836073146273962234121219771354259542469808883208876500196517231958184327851223549506554799936262446024000021285118889587003520928184074927338762024640827316488314872743222038169285804646252340533872325955299476149249849386275165147917866206050972154181302911892330724206061919983851585881293390255699426323645743810685428114107809539846485211936976685157513624077244367852743667501084328487161075619119429372942210149930137115209643648700424466451873525089446446378375575807951234672510000145787140894846884431474558215475945629649048355823105189177356310297774480416763363410233132626049235059131999607232276501182281976425920341798585391348101673405788035456994166937030505248201489244338144163629151819206273043600567520884856849570658506052298475725076166368623342426647958533215813409554339052682320403937570518026377680365582924154907376290851678370115944893049600605789196434043813323483397570029793369911305686281822067591492774798438973448692961323762263934704601266099468524602862308618218952980474222665518076260423268783799435509013316501694140150533701393565830899577793430895048749232527056819304109308003605635071817338163057426421229518448771703943002594971999150799713889031687973892422626944129586660491772134664810479660584160599558331503141634562054754021158988200845387152353837484470056822405783371981186876225542586604920407321498987444921685632366306762333086603180160923262381798546547135204302231352819538523244404829323277705411742690777892974663935027792580893750601194500995042871845863905565224210141902780607962358386379257414442451270781398488942840675000612318718329796944028448563252054789642957626903575846927378461816516311880059520406604338585895239955092809324286324416844383268339267125270325276633488716944540478130535512135868180016916066136526819269886957156586695234092563555923506654235984592120957605097831590035648378561741062962138369749620517046286509598479219003941056348859773806471696253721299132895213672971575967566702951051502938354209362273611148563695731451391472895531123717024829945577228622876351033536569771007720999199799266103018765127895539993766139713720449645091888634361600510804765060713837636054198372680704181531444746588362293240415300498685418707857760517131080958880597108538637233471351704159315170987105793183289110063637641723942069156851892423247034716397254950394781324099736428997930986823771783008339716650390535770468093559130788784989409676775238337967371087708282005216451535405195182309811237652995787449136284814575132298776849479632538669495521952021480724999296462867379266208464136150893907737610251585998280295017921956449785548953744064163266431397475232994719684858425398858535761061805317800394350743069228745559525886801779916756521830123621494399374708126241953623746851682800879009597034473265584100735081162122378316039003600368502055821815968948249418171973672664032043343580004568760781934399849245005905311032948466488006637676228954992361902685482176713981630230619086214399934407574802684931740834669874005364901832970355417786414365545212634139212272319093564359512952020563981045309212343535819393595321788250938600322806607224144397222333542073702100206560626805742490632109210063337022597219526537114619049575892061401953028363808707750648620655719447201058275148754272126512520924533902997109864453491702714073677624383674164568431217952211901669342807892293158334832327277346247905826090228265090286796144762027282594937434409994605172936089251819613618434758666174499373579316182419842382653123962151822988346342259085258988205186022049103995341714183837559856448044703754178760149821547505819065119756010233338250899191756873817090030264630732289216158111914292678066973045784732773825450136743767994750060605389382115607203116581263836955429651366520620220662083573174726764667979430592345855395252151972806309295719783995076735931906970310720910559729817085359152182990728346843598951411357894022203107891415529105579546800467082674660120479501711761632342438453179737636970882830106090452560297342390487067716785954287337676584332323738111392022420894853117195763346358294077023833463225911714356823437936227785559973274581877965248814199659048962439683353419435978799652475389138933085007741028197358709401815382708382206267193764583429893934262845693473119753168474933330419977904482712618511131888490250662115917459667887484974184212647630305806896495994120098063760620331508369568227555930389171649676347741666554926935848435032409369084486591968987327888999420557710190304224398670746673345855063674570037968093849949682699751028229883902830433426799500930326059297256283363626559511058954627431782472810891174988154025853628671684168512565547857360183319042631353030334092907307480542040238752499979021018312588351371542257972925042647260240489621781457900754056016720329266038070007966155100833772645956441226147750659751284248721180626736169371291969857844455423853761873621429959513342297485251955535122868134876712245907305172696030759403127362897190175379847526600267335109106148865341159856347207309709484196030546671764923392288492906725236919473008020650074970140046338582186258025453425234966051096895531283382591574199099054216774991133973087330820776885732885684149884455155050452865386938815195225332072766703091972158700083610409212326342355279860898622401255461252440401062501451614565828862061033915995718761831629646030818741875169144415609413290185267788571382262239352189866397319044305821049588699495725358376844890885552257011624084276963202473987126129485738364671469828555403712375055827762887135513091302337145200317824883190173994524658144476023259942206063248270973060744689657657989421221229637910233161219875618027759861910148645092341537182288038558966249378565350353411573635261365897370984483604934507868659207375314176721663015249626921565873387280967628946414792741376480205726976318372417654391430228902080383929549167028881773319730431505416345258282184687704378191624836591954667045610739044525156101489005360647499373922306505511358195917120435955659652856559044029021319348472380531016404793863910612955452666237913345001898792852337385618640502044400259348957387382011623699268402449229923220305007539969532367280753915314432825139824793208853365690125246011436102814577475001430379417748922073255369988941422439918311121341923454455105059708290359371216377874132517118573547692445658694640311561400742211669734116184393242645050830346301988236085685475181021873737577594740418907786451773104441279069003513814517596281537304176928867291554258927677789619632053535357973171742942789221617192076148986030061000710227639915907203717104818968262673691386877412630798529628917721977299605318176408739853627858661845561553575148283790849782914981806244392495831349868137817140945661830758511676866815298045933786324247968257077140478135905443494436665859539109055955157071875744841225373185073930452107808718792273218840470075607243247797006133101168498372365279429384980401410281333116264161409716777657648352748466710566645447391989556196741171882694828709866043931199824931110785873763382178114016147506898745811096914983143166410650863672022116148399981912931221971880821759772716087535790644019159245929537764464172191289495585807640918025122851392268603527927862177391546435676254517702088333123585548457531910016471924182016818744209535888764898041946182703576880028678457484534031675295141691769782624464188703665537096042807884175025378688805407068144237667750203664268377307118165250327166246732355828103538922993494188109077168337766326865462938616206404389927396417730488223214816170907917029417571629311134610946582555694779414894876558765150333299334839785341907931111543759889301986537696393462975310332798177808569570892157228171054753458261097478517676549963311947712114395139480784425160233882437026132166806030431358033883952914880182174568039246290990328972871654880113560486754463088623865235819973904770442476985987163317572711643574711655306971529316032651293794073983287256318494922414513316464218405171991353649544573509548183067761887835416768774659995668435764675203489679033195063212398287256222318035433078607227463783847422531325954978130635605683868314444761070436904446100488849065331631333339112226868561888307447655956711353129341819231882981463658047130986075851143122867257082656937909788896274686993120610884365599794975199464222293670921711023327887479364252794169815808047871558624392436132825017974156030904441172813652166797062408603185474190019770046265726090450014521308678818952545308326255227171271727133379008801864085887832066046266551373337939847552438636759221066102672139381827353925464477833340322320809180645183817351802661945072930483819391516244081005766244158635308691257877271720651899277094114658589024581898587386974568768105899471614019948267805279177855624797360984924404309568610406352768113885919141163410953661667501328682689633533108688270020636706219767133376499964099169342245232228131328939661831064036249163487056621095782296690117635087755941515454831892877870626167555234984354281819749862569488318099623609056280979251971680616080799314948633064653864917096169829859394996514810596135586473716132347540003916832543372370519877140855615608764002498908449144018415622261130521985383652432170698177437861306752741185025378465780935359631503244410526113079533520591586247993760614749515769185313426701284331300108904642568237823247518463397628452929891056933187219949863808714836451818231845254754180293009886002544798873691545545986627591983056094703284539973297319885359372447928376846163315909385363994757681863489074768815159181303916646341610152221983163897046459937625558113149089581239891252831929760829992747449077234354908228908412465411286187715544122086755305295537640972541248940541587896760083063907406024756297003763978063628709682297580643890103477457564197895512250036771301905646456916025509448020991890968644097698018987017727241455776756009387589095188617992081852457923494726487880096861027809124897878427188597795752346368331541307807701836641819105154494507658914794007999149025675897445630911576650740228596665424889609987527967963379508129052391421098969818761327686092201752903331673438739743264683059563210931704982223237547848363573189930814925613215348934840663722270894550511713702682227005557938618936112721814633833009831791264251583166468123945284125061557388491426097701237272359109147272931434606393124785229875534616388315936828408871889988357341522346521875754338637854446383675554052942203237891509503474067297598055714301307223567815151732642857968944687760832518968714357253634760342068314247895580859648958695129827372909271712709643919629703728820951251232783873477012738587159504476856126377583651919361544978494076243367782438637717514751854941555548596705737540205265883746989051390393280597860306478532289112266842501551015488725791360072150914912186394397592691135946860251229691762174722553106460143192231116051670281449168185159246739760150667014389855558425242545880390392513257995672983240564916573211153562094765494459383957762309396248257148711084268652323828187163771205002743349540446136527222489680671674637804002150824854042165461949074603702253048076066782640295923780919224788463975422790676331005786668724341910401135604864444435237037362594743069739901863097629428747270124107243881144267515336451653673299757087125052919587988189187420925255574116237156622945756597384966748199048122314744988406938129194587978684251325933212076786797338327086351315613654312240583683889390715517853538948803200797161722452104062870505659504325092763630994698582538725625447910568141989003648671618895310233005564478473024200997935198104428669722583342569592067914095440872614412882872130827381824192850185049824129318169889046108194020851052769211595050823710005226730202074816553835395152967299301739599721920991171386227909642798703741668741646193897542468216143469647401094043042103320960520481214793689846992949187408027420059113497024372040150097392533198111557382621907631293426091821661673365274016105314356392476112211066894326740756953666980464498434238696019618811199466958986027469788785641669318777622754214235852486904259861258156003358145125294249369321702321769393388773611160207827699294429828901855408523931347808110387332809113722855781700305840471033430737814016554145589787542214284358329952610635584344069936017255071868120448447756977136474209018216864316033974281410842931080042107251574425875528116268822410963990626800745087188921389111887602669428197036521323453606182655061434728655946378769214548157527398602578003011023382475382748157958239120395773101333227317035364938343088186518637873290656819124925526864979659001919120672279229766065321863983753788095043273613034774806263831280391606371936021737511744042304823838107648751934738768840397844824864276129567570991119499637368440522492497109083949491183511920135301686143785823616413566438289444401190060956359092788231370031351259380087669554952309745028677101453762096831086030617347903534817612187140563726550250160028633449744027316672108424572940127206546656189995377921574850019604865928141091115301834241747196485921501063908780767483148506621394592501340728610800877903964449446574933928196857991306648899837710669834324980552812409651200 := by
  repeat intro _
  kernel_rfl
theorem ev_i2_true : QKW true ktM fun G => EvI2 G 7331 9528102930718253958979303301650296104409220422701918804723089739902534621641225957277875642756930743417634225374300078101249694939905254015693050294471007043624682618668837111502524180375972140597672927381413873083764937634826998192764600507490657003817042174300642743174202062813487747284447674737233396832041713494042315115310896100668956479784776042378294254956955987043060571925250276175496005903347508343392033379350088870582060156515665234848780583020941514645364446399226098905817484475297109665263187201297429029172473339189069287399581103364052799101766788499878420245389148666478087820403891517888887282421187065406687785405551042902577230394317263952363076158539273207109052827849640162087680591340470816424689193075260735587464327200046476759594577203945376948313072370137189976204540096793399019052648309535537460656090922609928259495074609856848222544321396222894541125572550540254887723469159095353146169832313605946530367321299922103275317156983349040337747349244620221940173563861286383355051649985775100770975702020338073500004772124457713999152370343564359014189402438973855339287177599155968819215491880302362901835688645686242661675570151992118911738576166892759838610608172073474860767098973009402220251441230179292109403687700338835830473318272993669755973664393963154581193241457836593334504363415810284601180238950411387456802014972518572623219720563915589687612060553144809770939832167106068493120033874813179090684997242073414347007654143032363064306418973920714128572949909876021776726228975368310963649888866868242454385731064167608414415319907202742159601663220141442996840543837283564071278241861831711576490922053281344570793765308250811950568398722423163481830725922053776277268817720587686904087813445564151915434976448366057148316066007599214723103037707166543699851762467515562529564668608052578128272712605022680872758006008722473409766205365845790347491268122043128389705898883902160137757157586506942147750394070447507608695568511458011261375750696217121863058914267922506384625498103210551281321801077364334551909106444834103327447308889309891577929366060266481127481701901127213193908233871068698025085314525149934722811829718340346764879261925272727343780654842678995526564623637736946678489858892371009471147949828020483760586629481613258914952910509011654166505337091812681826786703493271782135628339921010468468402452453551033576889298961329512167618211349823730351982518666585258520775545316109700096304335779177301510713011080263098776283016099483513177431141942190013005541921430361616941808840392157765293151877833581202112438858491811923540198909033542830082846938617996974971400184403693413460991084577839770709102774021660265026022025631931493042475432439762891442493807826684906547389612898427552675233720971263821643479788643514256600889257992987393683276037065449168979829035426821429845734691356101447604737586308158763231848888578292458514116647624891287160530258173577662331430668756237244944773731062840434751050978494734848827086995579867151125607867604505247726859526417046676139196253595242611108034560187949548565600403812829759475136460468570053001235392089328864646688098012423321496656868743580547033146026267873084193834521825538850819263515850643639306943114327593311500228748160637052642723344039867460884019213651981881672220333749869067808522308028029946460648602361210938727682130703617573331166363393898377178462503974666934560589551278870512039357776211985180897377098403389605484343535336339393068582889737435999939068946636906847599946246979343251938550521263189345577271138249786497365981392103006417385489616906524757536290335941139923688131870576896918023427064154144272596413265288218002211109627931185647669292891993645779573305186207873660791347870216856712209342655892502465084993015652758068546195498800161346719079176903289751734599341804061757305981472186129713474594025053774663649087742546161215516799919292567359208469836197635882965923635855155341574315939340420401086264553900900166867685021331055595391774410345888512964504171243060957447186890330137425422696698807788469826616085821947362568443487859950765411864308927142490396042871869597636592792452302330810324512498484925388422229878615840572674953299803152089228637289129710128330493432843046071493718479066041472874139960020259576384271005751126006308833745789556607279708597796210516833387857889102709620071068276281472012743131639964073877155433071695400237939833150649187783670035835383914582532207370246228079138598892846953972670050272303628439010562073522227946558951332952940536432964097852831678157144894864503718746117200907160529680563578193642204583267552848091554949415039370530413972443578763521223352286543694201375423473110526899964483463978337850216638888428591720298453968432723350483741412007761566917018066405287268315593895343905398962913821113093822377445576538381844674278128033951795461391057535866020913662798715869283030359316819290653228711067165756803349688332274455338617172080354043304218281340655265812513584388405114543927511950070197091838620246286367429791875322911111026600159605429074255370666633815677183427795760920788597745069191966108446033508593850129213305976005758746048388190631354914542371076990845400880469116872261299690456288821146661291614279590564544466301723123702706852305358604034092000311803801514397111438266156945749635546548526950734784588506199211273190889279189506529010819361003394817086890553952885580848464707480665980032533074792517017568347488349634299566850755318668977069712789286699895479565491766673761571481780842014637186359767948335907654667311854137022163323718753380330168576189788437999906552486700951253476485316363640958067557957301375747773809021650476823367801679599432699471698272758224735905135563494995115744493906630599248303986457349085663457239998125996702770942724820992400485634869374329344968386241003911894222268629006607240488814031860913121347699709510058225497770751237291964506997014964001135195029001919602674940124947676178586708306139383337982053797595696627546474675902202999262012755804859108128950227101531985917740297748524100758836988515039892196706108355230987300787392190859293183474060192882639754315645657775461053599752873210646495235918951684620501748145238891720522997157571150604103800927087905053967104490522070413048542414371693047735160764753280630081938391178219503861471390928632853448513401684057511277623688891372554439479135600011943723489011800953455724172448864970975822438794989724852983798734108256613330910928889368778386001739522767558353331604720108778866615618466730122032216908422442101693226703328811798388677629021084591176718575219929402661602300596388146014914807812361697587925292189631047777667174985658026727901642343558306515276163658681140976945565376631505318959594251067583601101133908474211758828291260701064962054768383338993837754999399766871186524711202421436819443831123719416656564034416649734159559575512674780523412243124862166098332425394834329179521305279395275220185499518752405237794105096506181401097731038382508165541395533437195687855033627135011593622707040002081414465786702012916361607038611946949546600862564802809509592172549281955038307764028582482747819811723010145781435347604975453822663087084065831519533212719556145364086634471137923034755146016373582226761680975669636526977722342367141210660423942711112022428693406061211642316707373615381955679515701266940571395801555803237050663277524720901903349817511477505067389175106476992469590551904981484800485479849538433165097652026474767990850027422207425125959458454561993889656820849119789502454184076422178900886890693267667883824405451039669474260357727916850059465121005247129428741645512140034779156716905779320683322526314592624584988795914039185612576134197759355120781896297272245287503172713682246287153702871823736476390850857303419678478515692060687287757658254350698611144403779369191266482895332567443880655994199009499979120441668889008013552352840827999794820270502189343835716908178802663606412659331453002127270422431020048962008096530031431175207429644785561997447991196934926438930275781997225381080209551053496202819079271122572320378786347741659932847829870311063016046367486803197427947505421993799766621562256106119700408777149782976889422439208342264491984533114928101317265026532465415928385218629657816664148578179819071468672157574576338323415526572835826629781904508132070181397634716241712312235446626226434744296502522590940273907749028856205410916353163132027084813325610734723050516992227018882452756900763223913689084742375567347885408358108944401459410112559636351771127138076541610180233596745477542560763089691461293424219273220093964542643748993982628913233081080369567335965586084870276536347549777889715647868824671217567744983092484154272013016500527747650397725221157811913407303666892306680618497685080912991918921090982469865879641030581833517916634856304857713213174001679219865111261257336522111444962559574329366970224872302556526148068382298553596722312792334246617340962651760769696751799719691089524260955494258326009649984319170357840651995645155141931706978245516822661725698527215841732634189771921367432863427672342132924131371238383831316641612408769278462894546699123370766489095524595478412727822158922659225215210666888004020146260797208453484434567923759276337540622378707054560710454931464146050189402849166269044653411481861280902742440632605616777148415504894606325579535801823341363294387885547948187225894128462882071320876754848609933975201936520953584274334527170558932650541691973650498900979869974264532807361325417954909054019308928613018866206085682861478173901704785740244932781888777433684346871680744925769461888124167974411851229758213889106857949869879142027635116504317699813259025258919637877674942813017108869035386494422990767292629043505989567277089869748331917738619727815827945866025809669601569333077541045415037912234181179241834155832971801303028673759204823000704706304980227710590322059837659894248843806307497394601553479802872776938308079811317034413264079507036356817241539394653934767169123613842872169009001529797456107640556791093524583669154545722514799160458861854191373770408448724070403547703929667205415429628511925595223654997870412402857096274669327542493684970342745877582850061922685553441763173389814082543582754431769378090247853598079725950664728996144718080553954676702824077721775873160902746834192573909277054980724820327653147076522488681841870437207743972307725189271516388602696986612986979925966657027278321460580931263017329881540496340208821738852641841116250444004563166977306980128465870501768096419602124605129320887906900523151326366710063092474893095506606824332439145197550520343643406023340949350006797936480840244205411728862913129909522540333331412130188405485490594759327155565572619122387547351946206835566319327526336230425579194214215184355107142485486000742146618183251471260212666251118496776160798700039720438099675853336041983587323743632894269839450137649881601434100748123059166140916781055798479287080016043545689590008859648665824289533535169629912937248715595022325169655208786123714924399315493323100470898180981306118536439240509958356832494349905389742416094418211176762832062264135820489732007232430907840826019325512152517328849485051637533189543419067523004137716790997078834394575607172417864759218323567560976427776723894067808724603183172528493029363596994068797442561985040885519640875305656960169279246115379805182500155428558487434967517976817144289112260847266757487324590748673391299684876300584324605076439347128734625518807222802840934992018693249207058472242776636949658457748252314104067977346196588807650011600842541198139545482818509223244077954338168181313889349899288708118126726181963743062317101509836701685582169597441489858909852319882080608822706542277557193235241755814383840417866776803978059380128482470574751450490612136737054358648490693041385470195762572427038154383414372803331549867584188315780361587112227772374793165456057539596438415924323347126477570421010379244653775215772383938055214350291199764925582078565006188556349016666070861479994130823470975570135250788477958169048586653389423583249807385425097686583421988994965724156783274686603289725267174761152353745370673639733024022273790269798522298201932697834123861424558985029633817005311216677440555308287859068047163918683995448928058928955431255738903083282142980254113614743377636517896014115718918174228700259932590656279843257572162177881795755639080495190197896222617546277240945692446670675547934676638363568304537588850768855070075632665981272166892544154702634883075881347225534490746125734959945531558890820971209085887683487309423026606194594870516027109914433264433676681911600801334886531691728607463122178981012930614052594546416338874133531984984258130332686962576849582096364933045224071845788184392588463093091393621068472951156575139708620896781757108438609405062357553630389371101962821203350280403757616831515394963197430503002121049669644552690647343056085498925318221342822840313259519888015808884821706414570203488404788239624624740261342223298183714477282093717517073245201531319527354712903383908574412584419353552563757416851142949002618149024871367361022293679162503640999167101509341053885378772875350593247854983442595706460350140322864822504900669952933460236295344049685561771976285604691610730353930878493194013253332736283150877751427076100936891298654875111682587387512612086224739413523941205642140871993512165376 := by
  repeat intro _
  kernel_rfl
theorem ev_i3_2 : QK ktM fun G => EvI3 G 2 218 8452712498170643941644596284643884444602661912561368711697969195654819002257642523271980562911676935509676007762431941343635623226350507405283928136413933400757404035060341253211939512956627993973565363451619918433575140501307589564238551809803472973801370164862908366848 := by
  repeat intro _
  kernel_rfl
theorem ev_i3_0 : QK ktM fun G => EvI3 G 0 218 8452712498170643941644596284643884444602661912561368711697969195654819002257642523271980562911676935509676007762431941343635623226350507405283928136413933400757404035060341253211939512956627993973565363451619918433575140501307589564238551809803472973801370164862908366848 := by
  repeat intro _
  kernel_rfl
theorem ev_i3_1 : QK ktM fun G => EvI3 G 1 218 8452712498170643941644596284643884444602661912561368711697969195654819002257642523271980562911676935509676007762431941343635623226350507405283928136413933400757404035060341253211939512956627993973565363451619918433575140501307589564238551809803472973801370164862908366848 := by
  repeat intro _
  kernel_rfl
theorem ev_i4 : QK ktM fun G => EvI4 G 2538 0 := by
  repeat intro _
  kernel_rfl
theorem ev_i5 : QK ktM fun G => EvI5 G 23 2656619380265216615424 := by
  repeat intro _
  kernel_rfl
theorem ev_i6 : QK ktM fun G => EvI6 G 25 2656619380265216615424 := by
  repeat intro _
  kernel_rfl
theorem evs : Evs ktM where
  w0m := fun i hi hm => by
    match i, hi with
    | 0, _ => exact ⟨1072, 309, 82817704451351119464828916293087196205866885816239581957697948911537114440227278458955598847872462839049488852810682700861386102223915587836850763008543375878711035651155196267043649424049813414501623040634258424475906148409803820227909059546074137098767458100140312296382920141086376484517802787296733224167991062481611192898744139996316531315810820435096053756863364774826722173439866362555943680007161233969745525715266106745786437878871322640819443160571971199628738560, ev_w0m_0_a, ev_w0m_0_b⟩
    | 1, _ => exact absurd hm (by decide)
    | 2, _ => exact ⟨1072, 309, 82817704451351119464828916293087196205866885816239581957697948911537114440227278458955598847872462839049488852810682700861386102223915587836850763008543375878711035651155196267043649424049813414501623040634258424475906148409803820227909059546074137098767458100140312296382920141086376484517802787296733224167991062481611192898744139996316531315810820435096053756863364774826722173439866362555943680007161233969745525715266106745786437878871322640819443160571971199628738560, ev_w0m_2_a, ev_w0m_2_b⟩
    | 3, _ => exact absurd hm (by decide)
    | 4, _ => exact ⟨1072, 309, 82817704451351119464828916293087196205866885816239581957697948911537114440227278458955598847872462839049488852810682700861386102223915587836850763008543375878711035651155196267043649424049813414501623040634258424475906148409803820227909059546074137098767458100140312296382920141086376484517802787296733224167991062481611192898744139996316531315810820435096053756863364774826722173439866362555943680007161233969745525715266106745786437878871322640819443160571971199628738560, ev_w0m_4_a, ev_w0m_4_b⟩
    | 5, _ => exact ⟨1072, 309, 82817704451351119464828916293087196205866885816239581957697948911537114440227278458955598847872462839049488852810682700861386102223915587836850763008543375878711035651155196267043649424049813414501623040634258424475906148409803820227909059546074137098767458100140312296382920141086376484517802787296733224167991062481611192898744139996316531315810820435096053756863364774826722173439866362555943680007161233969745525715266106745786437878871322640819443160571971199628738560, ev_w0m_5_a, ev_w0m_5_b⟩
    | 6, _ => exact absurd hm (by decide)
  w0l := fun i hi hm => by
    match i, hi with
    | 0, _ => exact absurd hm (by decide)
    | 1, _ => exact ⟨310, 82817783355263404888410453783325950855578386486104774526562270386778939261905865724407794877846363363121205690400366525455107967043490404437521616857717471982375546996593294052333892144535668612332062139040683861523946596162578663965516832359098648918414001594599626306280411846150704668378841818737100768006082857032662770516921110583534833836886069833318862194163884849848376283093303998291230391681802009346321438618202493214089834285419863122782346148505942406763380736, ev_w0l_1_a, ev_w0l_1_b⟩
    | 2, _ => exact absurd hm (by decide)
    | 3, _ => exact ⟨310, 82817783355263404888410453783325950855578386486104774526562270386778939261905865724407794877846363363121205690400366525455107967043490404437521616857717471982375546996593294052333892144535668612332062139040683861523946596162578663965516832359098648918414001594599626306280411846150704668378841818737100768006082857032662770516921110583534833836886069833318862194163884849848376283093303998291230391681802009346321438618202493214089834285419863122782346148505942406763380736, ev_w0l_3_a, ev_w0l_3_b⟩
    | 4, _ => exact absurd hm (by decide)
    | 5, _ => exact absurd hm (by decide)
    | 6, _ => exact ⟨310, 82817783355263404888410453783325950855578386486104774526562270386778939261905865724407794877846363363121205690400366525455107967043490404437521616857717471982375546996593294052333892144535668612332062139040683861523946596162578663965516832359098648918414001594599626306280411846150704668378841818737100768006082857032662770516921110583534833836886069833318862194163884849848376283093303998291230391681802009346321438618202493214089834285419863122782346148505942406763380736, ev_w0l_6_a, ev_w0l_6_b⟩
  w1m := fun i hi hm => by
    match i, hi with
    | 0, _ => exact ⟨314, 31183039803437468671437814357029838444977972906103899755035670292631217842697873006617026811749759474121755578421794700578273685757638132200186156435238775071301563733040318245055776250911939283432041004461346668670526132672954815823732985605427090045264692638525904003755620149634613268036295805144325039995964945883543728701301898286770970541354741798430783926304905349679508358827834418680316970973046984011189223177799924793330368512, 16, 2251802433489346, ev_w1m_0_a, ev_w1m_0_b⟩
    | 1, _ => exact absurd hm (by decide)
    | 2, _ => exact ⟨314, 31183039803437468671437814357029838444977972906103899755035670292631217842697873006617026811749759474121755578421794700578273685757638132200186156435238775071301563733040318245055776250911939283432041004461346668670526132672954815823732985605427090045264692638525904003755620149634613268036295805144325039995964945883543728701301898286770970541354741798430783926304905349679508358827834418680316970973046984011189223177799924793330368512, 16, 2251802433489346, ev_w1m_2_a, ev_w1m_2_b⟩
    | 3, _ => exact absurd hm (by decide)
    | 4, _ => exact ⟨314, 31183039803437468671437814357029838444977972906103899755035670292631217842697873006617026811749759474121755578421794700578273685757638132200186156435238775071301563733040318245055776250911939283432041004461346668670526132672954815823732985605427090045264692638525904003755620149634613268036295805144325039995964945883543728701301898286770970541354741798430783926304905349679508358827834418680316970973046984011189223177799924793330368512, 16, 2251802433489346, ev_w1m_4_a, ev_w1m_4_b⟩
    | 5, _ => exact ⟨314, 31183039803437468671437814357029838444977972906103899755035670292631217842697873006617026811749759474121755578421794700578273685757638132200186156435238775071301563733040318245055776250911939283432041004461346668670526132672954815823732985605427090045264692638525904003755620149634613268036295805144325039995964945883543728701301898286770970541354741798430783926304905349679508358827834418680316970973046984011189223177799924793330368512, 16, 2251802433489346, ev_w1m_5_a, ev_w1m_5_b⟩
    | 6, _ => exact absurd hm (by decide)
  w1l := fun i hi hm => by
    match i, hi with
    | 0, _ => exact absurd hm (by decide)
    | 1, _ => exact ⟨316, 73556897794220965227695874385882359371506314765824588168513185952192523320891607956336485713306139330021044708723615139963087117480123403738957576294729032524754304179556125761484328843935722803500351892504202346314601043015710098788463834302213603161704337274616067886843157615051167151922278690455599895566893995671525915099024041470625928069539302015806942897875713978756640964026251920879262491215898947913334793860193353762753966457102146447529071345664, ev_w1l_1_a, ev_w1l_1_b⟩
    | 2, _ => exact absurd hm (by decide)
    | 3, _ => exact ⟨316, 73556897794220965227695874385882359371506314765824588168513185952192523320891607956336485713306139330021044708723615139963087117480123403738957576294729032524754304179556125761484328843935722803500351892504202346314601043015710098788463834302213603161704337274616067886843157615051167151922278690455599895566893995671525915099024041470625928069539302015806942897875713978756640964026251920879262491215898947913334793860193353762753966457102146447529071345664, ev_w1l_3_a, ev_w1l_3_b⟩
    | 4, _ => exact absurd hm (by decide)
    | 5, _ => exact absurd hm (by decide)
    | 6, _ => exact ⟨316, 73556897794220965227695874385882359371506314765824588168513185952192523320891607956336485713306139330021044708723615139963087117480123403738957576294729032524754304179556125761484328843935722803500351892504202346314601043015710098788463834302213603161704337274616067886843157615051167151922278690455599895566893995671525915099024041470625928069539302015806942897875713978756640964026251920879262491215898947913334793860193353762753966457102146447529071345664, ev_w1l_6_a, ev_w1l_6_b⟩
  k2 := fun i hi => by
    match i, hi with
    | 0, _ => exact ⟨305, 28333086442011558041984860759175708301674211458903577526707657229140707277197381253302357510115751108634302905302461842264979174894253966209121391284355945219841930666322707975562575808942795426128338132829193134994681347972692750770439759360663571603517611280704551116541904984277605625172172452833004087303971486942917560609789477542650715880014199623104246367432194008496844037849181318931627751198948594114018777380159488, 3, 0, ev_k2_0_a, ev_k2_0_b⟩
    | 1, _ => exact ⟨305, 28333086442011558041984860759175708301674211458903577526707657229140707277197381253302357510115751108634302905302461842264979174894253966209121391284355945219841930666322707975562575808942795426128338132829193134994681347972692750770439759360663571603517611280704551116541904984277605625172172452833004087303971486942917560609789477542650715880014199623104246367432194008496844037849181318931627751198948594114018777380159488, 3, 0, ev_k2_1_a, ev_k2_1_b⟩
    | 2, _ => exact ⟨305, 28333086442011558041984860759175708301674211458903577526707657229140707277197381253302357510115751108634302905302461842264979174894253966209121391284355945219841930666322707975562575808942795426128338132829193134994681347972692750770439759360663571603517611280704551116541904984277605625172172452833004087303971486942917560609789477542650715880014199623104246367432194008496844037849181318931627751198948594114018777380159488, 3, 0, ev_k2_2_a, ev_k2_2_b⟩
    | 3, _ => exact ⟨305, 28333086442011558041984860759175708301674211458903577526707657229140707277197381253302357510115751108634302905302461842264979174894253966209121391284355945219841930666322707975562575808942795426128338132829193134994681347972692750770439759360663571603517611280704551116541904984277605625172172452833004087303971486942917560609789477542650715880014199623104246367432194008496844037849181318931627751198948594114018777380159488, 3, 0, ev_k2_3_a, ev_k2_3_b⟩
    | 4, _ => exact ⟨305, 28333086442011558041984860759175708301674211458903577526707657229140707277197381253302357510115751108634302905302461842264979174894253966209121391284355945219841930666322707975562575808942795426128338132829193134994681347972692750770439759360663571603517611280704551116541904984277605625172172452833004087303971486942917560609789477542650715880014199623104246367432194008496844037849181318931627751198948594114018777380159488, 3, 0, ev_k2_4_a, ev_k2_4_b⟩
    | 5, _ => exact ⟨305, 28333086442011558041984860759175708301674211458903577526707657229140707277197381253302357510115751108634302905302461842264979174894253966209121391284355945219841930666322707975562575808942795426128338132829193134994681347972692750770439759360663571603517611280704551116541904984277605625172172452833004087303971486942917560609789477542650715880014199623104246367432194008496844037849181318931627751198948594114018777380159488, 3, 0, ev_k2_5_a, ev_k2_5_b⟩
    | 6, _ => exact ⟨305, 28333086442011558041984860759175708301674211458903577526707657229140707277197381253302357510115751108634302905302461842264979174894253966209121391284355945219841930666322707975562575808942795426128338132829193134994681347972692750770439759360663571603517611280704551116541904984277605625172172452833004087303971486942917560609789477542650715880014199623104246367432194008496844037849181318931627751198948594114018777380159488, 3, 0, ev_k2_6_a, ev_k2_6_b⟩
  k3l := fun i hi hm => by
    match i, hi with
    | 0, _ => exact absurd hm (by decide)
    | 1, _ => exact ⟨308, 28333086442011558041984860759175708301674211458903577526707657229140707277197381253302357510115751108634302905302461842264979174894253966209121391284355945219841930666322707975562575808942795426128338132829193134994681347972692750770439759360663571603517611280704551116541904984277605625172172452833004087303971486942917560609789477542650715880014199623104246367432194008496844037849181318931627751198948594114018777380159488, 3, 0, ev_k3l_1_a, ev_k3l_1_b⟩
    | 2, _ => exact absurd hm (by decide)
    | 3, _ => exact ⟨308, 28333086442011558041984860759175708301674211458903577526707657229140707277197381253302357510115751108634302905302461842264979174894253966209121391284355945219841930666322707975562575808942795426128338132829193134994681347972692750770439759360663571603517611280704551116541904984277605625172172452833004087303971486942917560609789477542650715880014199623104246367432194008496844037849181318931627751198948594114018777380159488, 3, 0, ev_k3l_3_a, ev_k3l_3_b⟩
    | 4, _ => exact absurd hm (by decide)
    | 5, _ => exact absurd hm (by decide)
    | 6, _ => exact ⟨308, 28333086442011558041984860759175708301674211458903577526707657229140707277197381253302357510115751108634302905302461842264979174894253966209121391284355945219841930666322707975562575808942795426128338132829193134994681347972692750770439759360663571603517611280704551116541904984277605625172172452833004087303971486942917560609789477542650715880014199623104246367432194008496844037849181318931627751198948594114018777380159488, 3, 0, ev_k3l_6_a, ev_k3l_6_b⟩
  k1l := fun i hi hm => by
    match i, hi with
    | 0, _ => exact absurd hm (by decide)
    | 1, _ => exact ⟨330, 35916454034534260088919029919452663397369369528201992661930205488236643249372203858632498325635246103718355956324055072199440186335301457908383920827959842881941137039743500134684320071472841239000533187822921506200990096439454409033414342681242334538966334717425803020274677400567908754558607481276956801728326360896373267811098227233470075428540484726428727506604383323033634163511774981137165074584128182286815850983207070279572922207929573514793713664, 3, 0, ev_k1l_1_a, ev_k1l_1_b⟩
    | 2, _ => exact absurd hm (by decide)
    | 3, _ => exact ⟨330, 35916454034534260088919029919452663397369369528201992661930205488236643249372203858632498325635246103718355956324055072199440186335301457908383920827959842881941137039743500134684320071472841239000533187822921506200990096439454409033414342681242334538966334717425803020274677400567908754558607481276956801728326360896373267811098227233470075428540484726428727506604383323033634163511774981137165074584128182286815850983207070279572922207929573514793713664, 3, 0, ev_k1l_3_a, ev_k1l_3_b⟩
    | 4, _ => exact absurd hm (by decide)
    | 5, _ => exact absurd hm (by decide)
    | 6, _ => exact ⟨330, 35916454034534260088919029919452663397369369528201992661930205488236643249372203858632498325635246103718355956324055072199440186335301457908383920827959842881941137039743500134684320071472841239000533187822921506200990096439454409033414342681242334538966334717425803020274677400567908754558607481276956801728326360896373267811098227233470075428540484726428727506604383323033634163511774981137165074584128182286815850983207070279572922207929573514793713664, 3, 0, ev_k1l_6_a, ev_k1l_6_b⟩
  k1m := fun i hi hm => by
    match i, hi with
    | 0, _ => exact ⟨330, 35916454034534260088919029919452663397369369528201992661930205488236643249372203858632498325635246103718355956324055072199440186335301457908383920827959842881941137039743500134684320071472841239000533187822921506200990096439454409033414342681242334538966334717425803020274677400567908754558607481276956801728326360896373267811098227233470075428540484726428727506604383323033634163511774981137165074584128182286815850983207070279572922207929573514793713664, 3, 0, ev_k1m_0_a, ev_k1m_0_b⟩
    | 1, _ => exact absurd hm (by decide)
    | 2, _ => exact ⟨330, 35916454034534260088919029919452663397369369528201992661930205488236643249372203858632498325635246103718355956324055072199440186335301457908383920827959842881941137039743500134684320071472841239000533187822921506200990096439454409033414342681242334538966334717425803020274677400567908754558607481276956801728326360896373267811098227233470075428540484726428727506604383323033634163511774981137165074584128182286815850983207070279572922207929573514793713664, 3, 0, ev_k1m_2_a, ev_k1m_2_b⟩
    | 3, _ => exact absurd hm (by decide)
    | 4, _ => exact ⟨330, 35916454034534260088919029919452663397369369528201992661930205488236643249372203858632498325635246103718355956324055072199440186335301457908383920827959842881941137039743500134684320071472841239000533187822921506200990096439454409033414342681242334538966334717425803020274677400567908754558607481276956801728326360896373267811098227233470075428540484726428727506604383323033634163511774981137165074584128182286815850983207070279572922207929573514793713664, 3, 0, ev_k1m_4_a, ev_k1m_4_b⟩
    | 5, _ => exact ⟨330, 35916454034534260088919029919452663397369369528201992661930205488236643249372203858632498325635246103718355956324055072199440186335301457908383920827959842881941137039743500134684320071472841239000533187822921506200990096439454409033414342681242334538966334717425803020274677400567908754558607481276956801728326360896373267811098227233470075428540484726428727506604383323033634163511774981137165074584128182286815850983207070279572922207929573514793713664, 3, 0, ev_k1m_5_a, ev_k1m_5_b⟩
    | 6, _ => exact absurd hm (by decide)
  k3m := fun i hi hm => by
    match i, hi with
    | 0, _ => exact ⟨322, 28333086442011558041984860759175708301674211458903577526707657229140707277197381253302357510115751108634302905302461842264979174894253966209121391284355945219841930666322707975562575808942795426128338132829193134994681347972692750770439759360663571603517611280704551116541904984277605625172172452833004087303971486942917560609789477542650715880014199623104246367432194008496844037849181318931627751198948594114018777380159488, 3, 0, ev_k3m_0_a, ev_k3m_0_b⟩
    | 1, _ => exact absurd hm (by decide)
    | 2, _ => exact ⟨322, 28333086442011558041984860759175708301674211458903577526707657229140707277197381253302357510115751108634302905302461842264979174894253966209121391284355945219841930666322707975562575808942795426128338132829193134994681347972692750770439759360663571603517611280704551116541904984277605625172172452833004087303971486942917560609789477542650715880014199623104246367432194008496844037849181318931627751198948594114018777380159488, 3, 0, ev_k3m_2_a, ev_k3m_2_b⟩
    | 3, _ => exact absurd hm (by decide)
    | 4, _ => exact ⟨322, 28333086442011558041984860759175708301674211458903577526707657229140707277197381253302357510115751108634302905302461842264979174894253966209121391284355945219841930666322707975562575808942795426128338132829193134994681347972692750770439759360663571603517611280704551116541904984277605625172172452833004087303971486942917560609789477542650715880014199623104246367432194008496844037849181318931627751198948594114018777380159488, 3, 0, ev_k3m_4_a, ev_k3m_4_b⟩
    | 5, _ => exact ⟨322, 28333086442011558041984860759175708301674211458903577526707657229140707277197381253302357510115751108634302905302461842264979174894253966209121391284355945219841930666322707975562575808942795426128338132829193134994681347972692750770439759360663571603517611280704551116541904984277605625172172452833004087303971486942917560609789477542650715880014199623104246367432194008496844037849181318931627751198948594114018777380159488, 3, 0, ev_k3m_5_a, ev_k3m_5_b⟩
    | 6, _ => exact absurd hm (by decide)
  w3 := fun i hi hm => by
    match i, hi with
    | 0, _ => exact ⟨⟨11, 411, 1085, 534, 1328062546743088120274216322588723027625529524557650980923399300633705389265215925874082943187909449218769343109080688091567277205485807173378052850004859880971939855722485163109064425038482627773603024859758451966886142539387287133955555324137834163496132530130639032740782153101566199248239421295291938242979271678713562027451593926531891488596628781795232188172191119596251452675723330776034603371802908957408512822195847651423836087105558579038417869575662503044270658323687546398087662506844991363525555403804573787363363123138150175290360035135034371441761795824463678827211650641393213828058766137119372729812415658391565154052793435655711532214752234818229803028765930611486045595399486160123808584880581154576472777560600380914584018267091624778540061372739614617810004562422989584676918836018957018319383563018960896, ev_w3c_0_false⟩, ⟨11, 411, 1085, 534, 1328062546743088120274216322588723027625529524557650980923399300633705389265215925874082943187909449218769343109080688091567277205485807173378052850004859880971939855722485163109064425038482627773603024859758451966886142539387287133955555324137834163496132530130639032740782153101566199248239421295291938242979271678713562027451593926531891488596628781795232188172191119596251452675723330776034603371802908957408512822195847651423836087105558579038417869575662503044270658323687546398087662506844991363525555403804573787363363123138150175290360035135034371441761795824463678827211650641393213828058766137119372729812415658391565154052793435655711532214752234818229803028765930611486045595399486160123808584880581154576472777560600380914584018267091624778540061372739614617810004562422989584676918836018957018319383563018960896, ev_w3d_0_false⟩⟩
    | 1, _ => exact absurd hm (by decide)
    | 2, _ => exact ⟨⟨11, 411, 1085, 534, 1328062546743088120274216322588723027625529524557650980923400955158579665798295164760864193863937733576485524459862350661978724483128013587222319409725029124598887216167247779180433411034805094221573688832195011529980748637330816482731265187969177764295748001687442846737491308827742454972533535031668615032011528861601899073618934646221938706662891321666690739748746386979122389957498038233869128246321467238172254352755548029215386081342861711672718341891516591270634340734756532995447606884208717193702706700441286412586351325164542008398918052979036639605669618475243572767287466933055009279681785376284814950560994992190541214930413272687797644065534124635829382740977394288693446415358443984205624642129812881953956855432718757580173848488021856925730142147235316641468551397020470759009251698195383702169577446279479296, ev_w3c_2_false⟩, ⟨11, 411, 1085, 534, 1328062546743088120274216322588723027625529524557650980923400955158579665798295164760864193863937733576485524459862350661978724483128013587222319409725029124598887216167247779180433411034805094221573688832195011529980748637330816482731265187969177764295748001687442846737491308827742454972533535031668615032011528861601899073618934646221938706662891321666690739748746386979122389957498038233869128246321467238172254352755548029215386081342861711672718341891516591270634340734756532995447606884208717193702706700441286412586351325164542008398918052979036639605669618475243572767287466933055009279681785376284814950560994992190541214930413272687797644065534124635829382740977394288693446415358443984205624642129812881953956855432718757580173848488021856925730142147235316641468551397020470759009251698195383702169577446279479296, ev_w3d_2_false⟩⟩
    | 3, _ => exact absurd hm (by decide)
    | 4, _ => exact ⟨⟨11, 411, 1085, 534, 1328062546743088120274216322588723027625529524557650980923402609683453942331374403647645444539966017934201705810644013232390171760770220001066585969445198368225834576612010395251802397031127560669544352804631571093075354735274345831506975051800521365095363473244246660734200464553918710696827648768045291821043786044490236119786275365911985924729153861538149291325301654361993327239272745691703653120840025518935995883315248407006936075580164844307018814207370679496998023145825519592807551261572443023879857997077999037809339527190933841507476070823038907769577441126023466707363283224716804731304804615450257171309574325989517275808033109719883755916316014453428962453188857965900847235317401808287440699379044609331440933304837134245763678708952089072920222921731018665127098231617951933341584560371810386019771329539997696, ev_w3c_4_false⟩, ⟨11, 411, 1085, 534, 1328062546743088120274216322588723027625529524557650980923402609683453942331374403647645444539966017934201705810644013232390171760770220001066585969445198368225834576612010395251802397031127560669544352804631571093075354735274345831506975051800521365095363473244246660734200464553918710696827648768045291821043786044490236119786275365911985924729153861538149291325301654361993327239272745691703653120840025518935995883315248407006936075580164844307018814207370679496998023145825519592807551261572443023879857997077999037809339527190933841507476070823038907769577441126023466707363283224716804731304804615450257171309574325989517275808033109719883755916316014453428962453188857965900847235317401808287440699379044609331440933304837134245763678708952089072920222921731018665127098231617951933341584560371810386019771329539997696, ev_w3d_4_false⟩⟩
    | 5, _ => exact ⟨⟨11, 411, 1083, 518, 1179556494029199704941938196068849567077955886203045371128620144092994231319972107644243726090476229829082474230648042838961138478374233791602349485310415202511887373079694632671531886484651602392341449379786633921638612484846673661116183126044093012914234472019579918129532674002245421493385248532230895791482026445134623788692963535345989524643848192688829628678855939570091844608559926094626558829946593204584746943736443362528724364646349468001144292994291032055426580201609503943722899017441533032629036671627384780360535246515711136840951624691115301901276207460518100863749497186879471159357309666471842563582635708945610080135358271958219623480743429638603878955130635488721029792663142126673094590968805401934407578048871204769157801923763275386021739787758017387132556527593126949464842620777271394304, ev_w3c_5_false⟩, ⟨11, 411, 1083, 518, 1179556494029199704941938196068849567077955886203045371128620144092994231319972107644243726090476229829082474230648042838961138478374233791602349485310415202511887373079694632671531886484651602392341449379786633921638612484846673661116183126044093012914234472019579918129532674002245421493385248532230895791482026445134623788692963535345989524643848192688829628678855939570091844608559926094626558829946593204584746943736443362528724364646349468001144292994291032055426580201609503943722899017441533032629036671627384780360535246515711136840951624691115301901276207460518100863749497186879471159357309666471842563582635708945610080135358271958219623480743429638603878955130635488721029792663142126673094590968805401934407578048871204769157801923763275386021739787758017387132556527593126949464842620777271394304, ev_w3d_5_false⟩⟩
    | 6, _ => exact absurd hm (by decide)
  w3' := fun i hi hm => by
    match i, hi with
    | 0, _ => exact ⟨⟨11, 411, 1085, 534, 1328062546743088120274216322588723027625529524557650980923399300633705389265215925874082943187909449218769343109080688091567277205485807173378052850004859880971939855722485163109064425038482627773603024859758451966886142539387287133955555324137834163496132530130639032740782153101566199248239421295291938242979271678713562027451593926531891488596628781795232188172191119596251452675723330776034603371802908957408512822195847651423836087105558579038417869575662503044270658323687546398087662506844991363525555403804573787363363123138150175290360035135034371441761795824463678827211650641393213828058766137119372729812415658391565154052793435655711532214752234818229803028765930611486045595399486160123808584880581154576472777560600380914584018267091624778540061372739614617810004562422989584676918836018957018319383563018960896, ev_w3c_0_true⟩, ⟨11, 411, 1085, 534, 1328062546743088120274216322588723027625529524557650980923399300633705389265215925874082943187909449218769343109080688091567277205485807173378052850004859880971939855722485163109064425038482627773603024859758451966886142539387287133955555324137834163496132530130639032740782153101566199248239421295291938242979271678713562027451593926531891488596628781795232188172191119596251452675723330776034603371802908957408512822195847651423836087105558579038417869575662503044270658323687546398087662506844991363525555403804573787363363123138150175290360035135034371441761795824463678827211650641393213828058766137119372729812415658391565154052793435655711532214752234818229803028765930611486045595399486160123808584880581154576472777560600380914584018267091624778540061372739614617810004562422989584676918836018957018319383563018960896, ev_w3d_0_true⟩⟩
    | 1, _ => exact absurd hm (by decide)
    | 2, _ => exact ⟨⟨11, 411, 1085, 534, 1328062546743088120274216322588723027625529524557650980923400955158579665798295164760864193863937733576485524459862350661978724483128013587222319409725029124598887216167247779180433411034805094221573688832195011529980748637330816482731265187969177764295748001687442846737491308827742454972533535031668615032011528861601899073618934646221938706662891321666690739748746386979122389957498038233869128246321467238172254352755548029215386081342861711672718341891516591270634340734756532995447606884208717193702706700441286412586351325164542008398918052979036639605669618475243572767287466933055009279681785376284814950560994992190541214930413272687797644065534124635829382740977394288693446415358443984205624642129812881953956855432718757580173848488021856925730142147235316641468551397020470759009251698195383702169577446279479296, ev_w3c_2_true⟩, ⟨11, 411, 1085, 534, 1328062546743088120274216322588723027625529524557650980923400955158579665798295164760864193863937733576485524459862350661978724483128013587222319409725029124598887216167247779180433411034805094221573688832195011529980748637330816482731265187969177764295748001687442846737491308827742454972533535031668615032011528861601899073618934646221938706662891321666690739748746386979122389957498038233869128246321467238172254352755548029215386081342861711672718341891516591270634340734756532995447606884208717193702706700441286412586351325164542008398918052979036639605669618475243572767287466933055009279681785376284814950560994992190541214930413272687797644065534124635829382740977394288693446415358443984205624642129812881953956855432718757580173848488021856925730142147235316641468551397020470759009251698195383702169577446279479296, ev_w3d_2_true⟩⟩
    | 3, _ => exact absurd hm (by decide)
  cut := ev_cut
  c := fun i hi => by
    match i, hi with
    | 0, _ => exact ⟨16, 220416210, ev_c_0⟩
    | 1, _ => exact ⟨16, 220416210, ev_c_1⟩
    | 2, _ => exact ⟨16, 220416210, ev_c_2⟩
    | 3, _ => exact ⟨16, 220416210, ev_c_3⟩
    | 4, _ => exact ⟨16, 220416210, ev_c_4⟩
    | 5, _ => exact ⟨16, 220416210, ev_c_5⟩
    | 6, _ => exact ⟨16, 220416210, ev_c_6⟩
  r := fun i hi => by
    match i, hi with
    | 0, _ => exact ⟨42, 345555957037453268852836511734100413562010242808317891611092797650, 1, 0, ev_r_0⟩
    | 1, _ => exact ⟨42, 345555957037453268852836511734100413564486122886888652160891046098, 1, 0, ev_r_1⟩
    | 2, _ => exact ⟨42, 345555957037453268852836511734100413566962002965459412710689294546, 1, 0, ev_r_2⟩
    | 3, _ => exact ⟨42, 345555957037453268852836511734100413569437883044030173260487542994, 1, 0, ev_r_3⟩
    | 4, _ => exact ⟨42, 345555957037453268852836511734100413571913763122600933810285791442, 1, 0, ev_r_4⟩
    | 5, _ => exact ⟨42, 345555957037453268852836511734100413574389643201171694360084039890, 1, 0, ev_r_5⟩
    | 6, _ => exact ⟨42, 345555957037453268852836511734100413576865523279742454909882288338, 1, 0, ev_r_6⟩
  am := fun i hi hm => by
    match i, hi with
    | 0, _ => exact ⟨419, 125905450135768747511692313898951489251810748192196452665309386012794012042427697192642208486434615332027124501249895503835914390111227230921843681239094547784738929756582601433865360379109983758876598586714911209620912988817787549141917319179265743622942078694776841042242991935344555096933813040984836208725471175976408850576203824088861968501677551149501414533051370644658131799178245576167869908630801694972855844759473176981252393717095168754715804106612032891066914873501991103960597671661990343393271245446307947769374665963994220805151294836879718776927327135792832696454291200486596626997943612593599421337597309584757480163053840769183977200916377658598090568311667425502399845925894196835690616044498875623818673898127360, 106, 1009676408783525929261046431170825209940442872970976720593396473984800520136422479878529938129847004861615770296807477248, 34, 519737241269589768765758273854259600, ev_am_0_false_l, ev_am_0_false_c⟩
    | 1, _ => exact absurd hm (by decide)
    | 2, _ => exact ⟨419, 125905450135768747511692313898951489251810748192196452665309386012794012042427697192642208486434615332027124501249895503835914390111227230921843681239094547784738929756582601433865360379109983758876598586714911209620912988817787549141917319179265743622942078694776841042242991935344555096933813040984836208725471175976408850576203824088861968501677551149501414533051370644658131799178245576167869908630801694972855844759473176981252393717095168754715804106612032891066914873501991103960597671661990343393271245446307947769374665963994220805151294836879718776927327135792832696454291200486596626997943612593599421337597309584757480163053840769183977200916377658598090568311667425502399845925894196835690616044498875623818673898127360, 106, 1009676408783525929261046431170825209940442872970976720593396473984800520136422479878529938129847004861615770296807477248, 34, 519737241269589768765758273854259600, ev_am_2_false_l, ev_am_2_false_c⟩
    | 3, _ => exact absurd hm (by decide)
    | 4, _ => exact ⟨419, 125905450135768747511692313898951489251810748192196452665309386012794012042427697192642208486434615332027124501249895503835914390111227230921843681239094547784738929756582601433865360379109983758876598586714911209620912988817787549141917319179265743622942078694776841042242991935344555096933813040984836208725471175976408850576203824088861968501677551149501414533051370644658131799178245576167869908630801694972855844759473176981252393717095168754715804106612032891066914873501991103960597671661990343393271245446307947769374665963994220805151294836879718776927327135792832696454291200486596626997943612593599421337597309584757480163053840769183977200916377658598090568311667425502399845925894196835690616044498875623818673898127360, 106, 1009676408783525929261046431170825209940442872970976720593396473984800520136422479878529938129847004861615770296807477248, 34, 519737241269589768765758273854259600, ev_am_4_false_l, ev_am_4_false_c⟩
    | 5, _ => exact ⟨403, 111826503733220004043584617913388514100435198798951976919821570189123260556865077923875702913422905144382401677605094917421192937211340306655177273532948010434696799248206568074928455639769339099555443960833854797006481786086051809851509126029670099120975804658308342214072965190880419947324687016440979377951833107808362699998564537019573677857733385776041336730425408991481123698699780511993990746893602845600007218215908346242717280564966814142305477114735652658221200959955502355534482525156283777250784124254241856072921970945083654673936108669424305476784431511025092960460443506886806019353751860803496858629663510217870073960338254735943001055221392235277250451221857774405829631249978226856339974326543450112, 106, 1009676408783525929261046431170825209940442872970976720593396473984800520136422479878529938129847004861615770296807477248, 34, 519737241269589768765758273854259600, ev_am_5_false_l, ev_am_5_false_c⟩
    | 6, _ => exact absurd hm (by decide)
  am' := fun i hi hm => by
    match i, hi with
    | 0, _ => exact ⟨417, 122954541148211667491887025291944813722471433781441848305966197278119152385183298039689656725033804035182738770751851077964760146592995342697112969960053269321034111090412696712759140995224593514527928307338780478145422840642370653458903632011001702756779373725368008830315421811859917086849426797836754110083467945289461768140824055982710287528444080640587120202070448678544781929223386561111565743179810811314582260764399073453242556794761871769454993350202765432736208347266482401420803696890440643874831123750853965155362660390540840755987910072562080427364324150869419156847583844406546667453305577485853836693310569792445213413194219417170363165838619466497933577790745354690805538642475814529033875538962438648899754262528, 106, 1009676408783525929261046431170825209940442872970976720593396473984800520136422479878529938129847004861615770296807477248, 34, 519737241269589768765758273854259600, ev_am_0_true_l, ev_am_0_true_c⟩
    | 1, _ => exact absurd hm (by decide)
    | 2, _ => exact ⟨417, 122954541148211667491887025291944813722471433781441848305966197278119152385183298039689656725033804035182738770751851077964760146592995342697112969960053269321034111090412696712759140995224593514527928307338780478145422840642370653458903632011001702756779373725368008830315421811859917086849426797836754110083467945289461768140824055982710287528444080640587120202070448678544781929223386561111565743179810811314582260764399073453242556794761871769454993350202765432736208347266482401420803696890440643874831123750853965155362660390540840755987910072562080427364324150869419156847583844406546667453305577485853836693310569792445213413194219417170363165838619466497933577790745354690805538642475814529033875538962438648899754262528, 106, 1009676408783525929261046431170825209940442872970976720593396473984800520136422479878529938129847004861615770296807477248, 34, 519737241269589768765758273854259600, ev_am_2_true_l, ev_am_2_true_c⟩
    | 3, _ => exact absurd hm (by decide)
  al := fun i hi hm => by
    match i, hi with
    | 0, _ => exact absurd hm (by decide)
    | 1, _ => exact ⟨401, 192949540904489867551593184832300269038208300146607644732190990199806636651069917852851146262491979537460890400935926455089117177180324867916994838953726972466564635752069001932256814854247140132896214224903635405054558969560847253394041528076063923309423323746337646883171949749522858023148307666088671077260527924941289595861845428069024145454362516407862727246537208187462263058316484338212943514513787294408526116595301917219690607292811370849435070451555338351745667639706306468095820011097730353433468288537774075435574454633483583352178360832764774986652327008526096450555176570125231026534406808443489384668183259004465090330603810722270452106237549081853758680994191836945819948435954833589259255493234951954172440504825338390705152639980978950873728542062536823122934911467520, 92, 1009676408783525929261046431170825209940442872970976720593396473984800520136422479878529938129847004861615770296807477248, 34, 519737241269589768765758273854259600, ev_al_1_false_l, ev_al_1_false_c⟩
    | 2, _ => exact absurd hm (by decide)
    | 3, _ => exact ⟨410, 207177991990749560174366080387803224992776505891357959867086745333506502485025065146850553388378920893923932787765032979017242760375333200589753118976761051014246891006322181908600956818029618393079583464542775704054260967491824608844708341088140087754856316027535098284204964229689016703468298095899232628233764177329395383572920761940894783840208517125008452695311359603073464267404560262580198869683004442646235833584676150426167601390250983423812841916221532638740546755556024331356203585491777231955816902780707828658107309405961914262624027533903008457117645255979274354419041103048329470852446365256130892818252727289718770235907298746281432665854950921610464795446455947178049276680584281762371374371107202536562463581262479994322842650522344098465737450414524845827989805679383070900224, 92, 1009676408783525929261046431170825209940442872970976720593396473984800520136422479878529938129847004861615770296807477248, 34, 519737241269589768765758273854259600, ev_al_3_false_l, ev_al_3_false_c⟩
    | 4, _ => exact absurd hm (by decide)
    | 5, _ => exact absurd hm (by decide)
    | 6, _ => exact ⟨428, 238859962247400274936907234212435086015033572678043324136350053007242251774135368096178866944331375846584106737885930007060620027081925979116735430689671388821581909088910502199214018643438160990023232759908512189850284110900768743770700911648477576928335288896774255622423413931591833697018741463957704925552151580072121241149020042959309413162255989544978707120946819954449049399240015890911110565410589126800129281809572192095967353776361574919308576288331320913866922259102973175563573161581306510595499771180593505063237917914413515354887888852369528434394573232966358681357198475417846328427309746748918993126757230765901193476931189283239254616901698120609733533964466668763740842726259357457218667037112135339593785344798668780570615354344546422696105993474852387393711777494408932110136832669415767015424, 92, 1009676408783525929261046431170825209940442872970976720593396473984800520136422479878529938129847004861615770296807477248, 34, 519737241269589768765758273854259600, ev_al_6_false_l, ev_al_6_false_c⟩
  al' := fun i hi hm => by
    match i, hi with
    | 0, _ => exact absurd hm (by decide)
    | 1, _ => exact ⟨399, 188427286039540886280852719562793231482625293111921528058780263866998668604560466653174947521964823767051650782163990678797965993340161003825190272415748996549379527101629884699469545756100722786031459204007456450248592743711764895892618679761781175106858714596032858284347607177268416038230769205164717848887234301700478120958833425848656392045275894929553444576696492370568616267887191736536077650892370404695826285744549001007010924743411790539250054956870173554974291466676081609710897820376874154942725424894120283864953877898600187473916562762032889458670973267396175018766361850230327558252346855572803476367005329417249900642232816102567484550885218093633463806503245721013399304145777284410308867463345133866219734788083838720099021348471961151199690074206104817160354267136, 92, 1009676408783525929261046431170825209940442872970976720593396473984800520136422479878529938129847004861615770296807477248, 34, 519737241269589768765758273854259600, ev_al_1_true_l, ev_al_1_true_c⟩
    | 2, _ => exact absurd hm (by decide)
    | 3, _ => exact ⟨408, 202322257803466367357779375378714086907008306534529257682701899739752443833032290182471243543338789935472590613051790018571526133179036328700930780250743213881100479498361505770118121892607049211991780727092554398490489226066234969574910489343886804448101871120639744418168910380555680374480759859276594363509535329423237679270430431582905062343953630004891067085264999612376429948637265881425975458674809026021714681242497242398645747121917707956720297601490021484114659992536411084783835538329089222546660613256987720472553346530716252344985122523915672675343743451989208695273427602910326732515341164983406569507849195826198765379409835394627381943562508061780446274951048892335098568650009225884166376672552021916021853095993743722108357314075657628320066987948593639117242898250421239808, 92, 1009676408783525929261046431170825209940442872970976720593396473984800520136422479878529938129847004861615770296807477248, 34, 519737241269589768765758273854259600, ev_al_3_true_l, ev_al_3_true_c⟩
  ae := fun i hi hm => by
    match i, hi with
    | 0, _ => exact absurd hm (by decide)
    | 1, _ => exact ⟨6, 406, 498, 504395088086516339646387609687173610662089973682936214243807477678459966497571334115101285930845489672004138368018006396532738492429557989214316760026532450710753249167503548850414655162698410158510621689639843629784308216371836118354164885217051321496087884109452190679339884956439717078662906705564384693329518077129156113923580689404772333056934600424844630714069950558794686906499529105830081388609209962616920493396779967666647423335450767928893436419420772998071838472944564536053445001982456292396160580072961395202153846065802358280061246137155630506736098736131436896140322404228294480141088098227239887625269330014327314080164905331974329150915884202537673064299761000447249473071166081390243676865504312974993704262105643686859113769975469272391205626333001477291290645971996273039787427175323549452015469015888592084719847678186571795790638539520761381548766423724157747387654359341207736538890240, 34, 519737241269589768765758273854259600, ev_ae_1_false_l, ev_ae_1_false_c⟩
    | 2, _ => exact absurd hm (by decide)
    | 3, _ => exact ⟨6, 406, 507, 541590101898656724337715747036505862116978335994427928357800621787308889938081135862862280700131573942590885266824037453056729904576323786852752804824659242021354290175041742069117334990726807685499324056407847602119383830825281975950680881849707321844819813547983810860830207189077742362087460927174533370053317373177632769345057326052657719201288453708883848699531891176590026360493721837235080624273705928459264023842838478209047028297107071418170740722616889822439604324972871375827739797912326235397730791844439621565945519403309848203134465259022440872172862943577863756602608338264154227515823711935207723424311718900841756353457147671941441703680792774205586504776894659384294464998472750038892701402033203693636606402909887933022189650396976811793285970777859437621443800713280815783003294898269009754832666368898325520407970860542951595222275587898988279101603157193982986315730662715880637691786422862741504, 34, 519737241269589768765758273854259600, ev_ae_3_false_l, ev_ae_3_false_c⟩
    | 4, _ => exact absurd hm (by decide)
    | 5, _ => exact absurd hm (by decide)
    | 6, _ => exact ⟨6, 406, 525, 624410875161174881771884334624220285293407831102074444237610284177035286842531085069880882950688992975117101547699886893065614691404130202170161841527126186482122459596572526946457421658396414898186190968175940348513429333803364925656768783579186285752649888791328716501797703678913891179167676213039170194674081025901230238274098544234402059680460516448239778440924899989830963559014807451768613318810172824649661720100753909980464156028633328592358679161046456889089475962785278453064175289187758616731356111796979350825884390174403595799017390973759086063911433852312562249942054376908742345063488739928796050779749412011871636097367233991109082779239085888108414362598791547877176567282823678655717264774560948094700681396574303010719497249762323033147742776310186481192877536843464509062139765203398794783590478245191567056243190897768394679991084922445346501072648976284381311571853269125762696687967888284384481809545086006984704, 34, 519737241269589768765758273854259600, ev_ae_6_false_l, ev_ae_6_false_c⟩
  ae' := fun i hi hm => by
    match i, hi with
    | 0, _ => exact absurd hm (by decide)
    | 1, _ => exact ⟨6, 406, 496, 492573328209488612935925400085130479162197239924742396722468239920371061032784505971778599541841298507816541375017584371614002434013240223842106210963410596397219969890140184424233061682322666170420528993788909794711238492550621209330239145719776681148523324325636904960292856402773161209631744829652719427079607497196441517503496766996847981500912695727387334681708936092572936432128446392412188856063681604118086419332792937174460374351026140555559996503340598630929529758734926304739692384748492473043125566477501362502103365298635115507879260153288202232793497108197454962856056761325041491175056737624500026349841326948784371705779990651578581510986882042147251234116521390885035373719193035311430912919936462273544629525164751037100335906537371172185789276659922001333163633025413262985012264606147900772485146603062001083504959124327547230184385792948669557392207747062609864728104368994977543356416, 34, 519737241269589768765758273854259600, ev_ae_1_true_l, ev_ae_1_true_c⟩
    | 2, _ => exact absurd hm (by decide)
    | 3, _ => exact ⟨6, 406, 505, 528896583885406957361050534215337755973611656244558523786914669714168837830157359241076445996222240178311411393382849075250712797437816198098391410961581291036478798999064201239372397451881648130370433648835788673944710772290314429639336798681354806489081849167952940293779499208083732775476036061693880244192692747243782001313532544973298553907508255575081883495636612477138697617669650231674883422142290945761000023284021951376022488571393624431807363986930556467226176098606319702956777146398756089255596476410585567935493671292294773635880963168762193863120562200294660643974914636352682707609985324760420085380926688508568085858058198504928934590939730764008034416706524706783914856481767993543392236488637742965702997451754653679082006347298130446587787444800465277408004744186458523411237024430509864660595401889102871597411676687937886239464170606910258197598334264166911130332983884527840531849526827286528, 34, 519737241269589768765758273854259600, ev_ae_3_true_l, ev_ae_3_true_c⟩
  ag := fun i hi => by
    match i, hi with
    | 0, _ => exact ⟨202, 4290224100714525186691768877151959599837185172642943063117038783657822884577579603077617430593861504359376841513312809875149720168883205308483592748462963857069965413854837156741914022346235500580232930986242113693829624713326815283087941092894545418520146321797495804069983838794900917791638374158696448, ev_ag_0_false_l, ev_ag_0_false_c⟩
    | 1, _ => exact ⟨168, 3305068425479161776893349186951622771777656202366358206148026061702922491468800319401976148947635135199000610188905235404291550365088665347981753010262063459585181031751350403147484082914493100531333329937326955044485035944053379184446604605999457326613487097153086029824, ev_ag_1_false_l, ev_ag_1_false_c⟩
    | 2, _ => exact ⟨202, 4290224100714525186691768877151959599837185172642943063117038783657822884577579603077617430593861504359376841513312809875149720168883205308483592748462963857069965413854837156741914022346235500580232930986242113693829624713326815283087941092894545418520146321797495804069983838794900917791638374158696448, ev_ag_2_false_l, ev_ag_2_false_c⟩
    | 3, _ => exact ⟨177, 3548790199618803240312545809466352434728476293173766576506749517492432542120334094046460459375529430555061518161348092026153386716798169451270715367240926797017013334336872967714906462823249626719014783575882153473671712905140845989623764109226430632323964679501917407861769502720, ev_ag_3_false_l, ev_ag_3_false_c⟩
    | 4, _ => exact ⟨202, 4290224100714525186691768877151959599837185172642943063117038783657822884577579603077617430593861504359376841513312809875149720168883205308483592748462963857069965413854837156741914022346235500580232930986242113693829624713326815283087941092894545418520146321797495804069983838794900917791638374158696448, ev_ag_4_false_l, ev_ag_4_false_c⟩
    | 5, _ => exact ⟨186, 3810484461932017895950303267539957729892195079773158872808592775223444423973244357630833994393758871729873086942775026631081793157072237906468497035009295757764173716561466580744472848757415806424268638118818510616851104071810620219669114219138957305134779173315799509819145932687775105024, ev_ag_5_false_l, ev_ag_5_false_c⟩
    | 6, _ => exact ⟨195, 4091476536478543459598320843841514205777344868319457114331282409341643223359660723760240011781560425147415963662445840716506339677665463229453425404909473082700359219558216194441884324477239852892616687983370685233786634359462665417079144647990008397025976804367090673127350964690650470739890667520, ev_ag_6_false_l, ev_ag_6_false_c⟩
  ag' := fun i hi => by
    match i, hi with
    | 0, _ => exact ⟨202, 4290224100714525186691768877151959599837185172642943063117038783657822884577579603077617430593861504359376841513312809875149720168883205308483592748462963857069965413854837156741914022346235500580232930986242113693829624713326815283087941092894545418520146321797495804069983838794900917791638374158696448, ev_ag_0_true_l, ev_ag_0_true_c⟩
    | 1, _ => exact ⟨168, 3305068425479161776893349186951622771777656202366358206148026061702922491468800319401976148947635135199000610188905235404291550365088665347981753010262063459585181031751350403147484082914493100531333329937326955044485035944053379184446604605999457326613487097153086029824, ev_ag_1_true_l, ev_ag_1_true_c⟩
    | 2, _ => exact ⟨202, 4290224100714525186691768877151959599837185172642943063117038783657822884577579603077617430593861504359376841513312809875149720168883205308483592748462963857069965413854837156741914022346235500580232930986242113693829624713326815283087941092894545418520146321797495804069983838794900917791638374158696448, ev_ag_2_true_l, ev_ag_2_true_c⟩
    | 3, _ => exact ⟨177, 3548790199618803240312545809466352434728476293173766576506749517492432542120334094046460459375529430555061518161348092026153386716798169451270715367240926797017013334336872967714906462823249626719014783575882153473671712905140845989623764109226430632323964679501917407861769502720, ev_ag_3_true_l, ev_ag_3_true_c⟩
  m1 := fun two => by
    cases two with
    | false => exact ⟨68, 816851426512027915185914015368084205485699424856775292384477100226827299365753461872524263424, 29, 642455769098444108370979732707892848381331, 22, 544860379687557646095741488958880688164148, ev_sm_false_l, ev_sm_false_c⟩
    | true => exact ⟨68, 816851426512027915185914015368084205485699424856775292384477100226827299365753461872524263424, 29, 642455769098444108370979732707892848381331, 26, 571327517491260446312488227526547276472409968948, ev_sm_true_l, ev_sm_true_c⟩
  m3 := fun c => by
    cases c with
    | false => exact ⟨12, 353138505782583937024, ev_sm3_false⟩
    | true => exact ⟨2, 0, ev_sm3_true⟩
  m4 := fun x hx two => by
    simp only [poolAll, List.mem_cons, List.not_mem_nil, or_false] at hx
    rcases hx with rfl | rfl | rfl | rfl | rfl | rfl | rfl | rfl | rfl
    · cases two with
      | false => exact ⟨96, 3781425586458763534786270131255795283321863664531810379283848185787806766317900721094472590237900546884814576760451803801683021850822972125686319509398901772627545050579250, ev_sm4_614_false⟩
      | true => exact ⟨96, 3781425586458763534786270131255795283321863664531810379283848185787806766317900721094472590237900546884814576760451803801683021850822972125686319509398901772627545050579250, ev_sm4_614_true⟩
    · cases two with
      | false => exact ⟨96, 3781425586458763534786270131255795283321863664531810379283848185787806766317900721094472590237900546884814576760451803801683021850822972125686319509398901772627545050579250, ev_sm4_620_false⟩
      | true => exact ⟨96, 3781425586458763534786270131255795283321863664531810379283848185787806766317900721094472590237900546884814576760451803801683021850822972125686319509398901772627545050579250, ev_sm4_620_true⟩
    · cases two with
      | false => exact ⟨96, 3781425586458763534786270131255795283321863664531810379283848185787806766317900721094472590237900546884814576760451803801683021850822972125686319509398901772627545050579250, ev_sm4_626_false⟩
      | true => exact ⟨96, 3781425586458763534786270131255795283321863664531810379283848185787806766317900721094472590237900546884814576760451803801683021850822972125686319509398901772627545050579250, ev_sm4_626_true⟩
    · cases two with
      | false => exact ⟨96, 3781425586458763534786270131255795283321863664531810379283848185787806766317900721094472590237900546884814576760451803801683021850822972125686319509398901772627545050579250, ev_sm4_638_false⟩
      | true => exact ⟨96, 3781425586458763534786270131255795283321863664531810379283848185787806766317900721094472590237900546884814576760451803801683021850822972125686319509398901772627545050579250, ev_sm4_638_true⟩
    · cases two with
      | false => exact ⟨96, 3781425586458763534786270131255795283321863664531810379283848185787806766317900721094472590237900546884814576760451803801683021850822972125686319509398901772627545050579250, ev_sm4_642_false⟩
      | true => exact ⟨96, 3781425586458763534786270131255795283321863664531810379283848185787806766317900721094472590237900546884814576760451803801683021850822972125686319509398901772627545050579250, ev_sm4_642_true⟩
    · cases two with
      | false => exact ⟨96, 3781425586458763534786270131255795283321863664531810379283848185787806766317900721094472590237900546884814576760451803801683021850822972125686319509398901772627545050579250, ev_sm4_646_false⟩
      | true => exact ⟨96, 3781425586458763534786270131255795283321863664531810379283848185787806766317900721094472590237900546884814576760451803801683021850822972125686319509398901772627545050579250, ev_sm4_646_true⟩
    · cases two with
      | false => exact ⟨96, 3781425586458763534786270131255795283321863664531810379283848185787806766317900721094472590237900546884814576760451803801683021850822972125686319509398901772627545050579250, ev_sm4_656_false⟩
      | true => exact ⟨96, 3781425586458763534786270131255795283321863664531810379283848185787806766317900721094472590237900546884814576760451803801683021850822972125686319509398901772627545050579250, ev_sm4_656_true⟩
    · cases two with
      | false => exact ⟨96, 3781425586458763534786270131255795283321863664531810379283848185787806766317900721094472590237900546884814576760451803801683021850822972125686319509398901772627545050579250, ev_sm4_660_false⟩
      | true => exact ⟨96, 3781425586458763534786270131255795283321863664531810379283848185787806766317900721094472590237900546884814576760451803801683021850822972125686319509398901772627545050579250, ev_sm4_660_true⟩
    · cases two with
      | false => exact ⟨96, 3781425586458763534786270131255795283321863664531810379283848185787806766317900721094472590237900546884814576760451803801683021850822972125686319509398901772627545050579250, ev_sm4_664_false⟩
      | true => exact ⟨96, 3781425586458763534786270131255795283321863664531810379283848185787806766317900721094472590237900546884814576760451803801683021850822972125686319509398901772627545050579250, ev_sm4_664_true⟩
  m5 := fun two => by
    cases two with
    | false => exact ⟨14, 577958535958968140082, ev_sm5_false⟩
    | true => exact ⟨14, 577958535958968140082, ev_sm5_true⟩
  t1 := fun two => by
    cases two with
    | false => exact ⟨84, 1021304929215964836618790745186218702454919153983700931150749202971859600354619250650917773962726189483035783393413431296, 22, 544860379687557646095741488958880688164148, ev_st_false_l, ev_st_false_c⟩
    | true => exact ⟨84, 1021304929215964836618790745186218702454919153983700931150749202971859600354619250650917773962726189483035783393413431296, 26, 571327517491260446312488227526547276472409968948, ev_st_true_l, ev_st_true_c⟩
  t3 := fun c => by
    cases c with
    | false => exact ⟨12, 353138505782583937024, ev_st3_false⟩
    | true => exact ⟨2, 0, ev_st3_true⟩
  t4 := fun x hx two => by
    simp only [poolTup, List.mem_cons, List.not_mem_nil, or_false] at hx
    rcases hx with rfl | rfl | rfl | rfl | rfl | rfl
    · cases two with
      | false => exact ⟨42, 4053558221941720090143277898409247900908449476494628341320963636919796018, ev_st4_549_false⟩
      | true => exact ⟨42, 4053558221941720090143277898409247900908449476494628341320963636919796018, ev_st4_549_true⟩
    · cases two with
      | false => exact ⟨42, 4053558221941720090143277898409247900908449476494628341320963636919796018, ev_st4_558_false⟩
      | true => exact ⟨42, 4053558221941720090143277898409247900908449476494628341320963636919796018, ev_st4_558_true⟩
    · cases two with
      | false => exact ⟨42, 4053558221941720090143277898409247900908449476494628341320963636919796018, ev_st4_567_false⟩
      | true => exact ⟨42, 4053558221941720090143277898409247900908449476494628341320963636919796018, ev_st4_567_true⟩
    · cases two with
      | false => exact ⟨42, 4053558221941720090143277898409247900908449476494628341320963636919796018, ev_st4_582_false⟩
      | true => exact ⟨42, 4053558221941720090143277898409247900908449476494628341320963636919796018, ev_st4_582_true⟩
    · cases two with
      | false => exact ⟨42, 4053558221941720090143277898409247900908449476494628341320963636919796018, ev_st4_591_false⟩
      | true => exact ⟨42, 4053558221941720090143277898409247900908449476494628341320963636919796018, ev_st4_591_true⟩
    · cases two with
      | false => exact ⟨42, 4053558221941720090143277898409247900908449476494628341320963636919796018, ev_st4_600_false⟩
      | true => exact ⟨42, 4053558221941720090143277898409247900908449476494628341320963636919796018, ev_st4_600_true⟩
  t5 := fun two => by
    cases two with
    | false => exact ⟨14, 577958535958968140082, ev_st5_false⟩
    | true => exact ⟨14, 577958535958968140082, ev_st5_true⟩
  l1 := ⟨21, 333607610009790414461611192503762944, 0, 0, ev_l⟩
  l2 := ⟨15, 462321523347345637376, ev_l2⟩
  b0 := fun c => by
    cases c with
    | false => exact ⟨17, 401, 1, 297, 22148435161957104778799809187310986185622674636984150230125838062414110049361236458698322780759755752746373852000881656588721697945814221548332659867720576800673679287832180121619329549212727413097896986719099091480519328115714511771501571173628856019260658150789782021234687277008486453311831359647795727513828013393962306159886467262845095796172186103055860604974079931725813006957688278057038139638274350447118862189604913623611128945652692883096143631913542861542792031749645860782344312485052460649406267392, ev_b0_false⟩
    | true => exact ⟨17, 401, 1, 287, 19210705215798582599570466431056723297119098248390964131277826017220071137607224613217465539159522138571550366887495713508136970260239807056373718154481334414203432751765288877282668267645830186255131467459085398385049942116433688090155310045800733670437342648700826068896673687505938279029691628490939439144667017460613780074808801311523044453588049843575803585378203249446106739212962696541421355292291557644647882569653817040274062498451852837221112371626724880191295117756373438805959507968, ev_b0_true⟩
  b1 := fun c => by
    cases c with
    | false => exact ⟨18, 401, 1, 297, 22148435161957104778799809187310986185622674636984150230125838062414110049361236458698322780759755752746373852000881656588721697945814221548332659867720576800673679287832180121619329549212727413097896986719099091480519328115714511771501571173628856019260658150789782021234687277008486453311831359647795727513828013393962306159886467262845095796172186103055860604974079931725813006957688278057038139638274350447118862189604913623611128945652692883096143631913542861542792031749645860782344312485052460649406267392, ev_b1_false⟩
    | true => exact ⟨18, 401, 1, 287, 19210705215798582599570466431056723297119098248390964131277826017220071137607224613217465539159522138571550366887495713508136970260239807056373718154481334414203432751765288877282668267645830186255131467459085398385049942116433688090155310045800733670437342648700826068896673687505938279029691628490939439144667017460613780074808801311523044453588049843575803585378203249446106739212962696541421355292291557644647882569653817040274062498451852837221112371626724880191295117756373438805959507968, ev_b1_true⟩
  w7 := ⟨18, 40, 600712820439437205187848488191482925621994104236802048, 13, 375291163906670592, ev_w7_false⟩
  w7' := ⟨19, 40, 600712820439437205187848488191482925621994104236802048, 13, 375291163906670592, ev_w7_true⟩
  f0 := fun c => by
    cases c with
    | false => exact ⟨402, 457, 88651189342751449120525122721681989893340798599930176778508139131775614635856168423666746609092908513222137668844648683704195180817180083791222144627149577342418907986233441014005762394028522183336211245463738384853542087678941686896700370060262334791187742619041607262314431156822357305422153293452441111306140925360390952783524463679393461071325521594602062721626151439443779839881170116348158447389641130045139008324487112279556647762943130383104562031659250493569554668172083413425362719957101291414714541732060355512691838417555258404455697374442798643362528749622838825630477302763248654577234394580051601996742282413778756109048932593970431595313806806780124614265224604177215488, ev_f0_false⟩
    | true => exact ⟨402, 447, 76892649663067935278848721443527630241746016921617291171264212064850539423435806330997139599718698006419520589488227662204769524715766083013837373638611047187168847499011276927163296280126373267428857611348098203459622008714339439370330136058284630280041298445865844605954408198819590319740343865040043811695994022612283193953839885159158453145048577044054895492120528035579433145837629119286880982090567485496018618477693303235213785412404475363202171020164709611789638037959093893312717132822437386871767523697420890487531085226397038066538118321372948171940037804409187974256989931180803500718568604474652015647674849787129038186788061378894807755941615966611648512, ev_f0_true⟩
  f1 := fun c => by
    cases c with
    | false => exact ⟨402, 457, 88651189342751449120525122721681989893340798599930176778508139131775614635856168423666746609092908513222137668844648683704195180817180083791222144627149577342418907986233441014005762394028522183336211245463738384853542087678941686896700370060262334791187742619041607262314431156822357305422153293452441111306140925360390952783524463679393461071325521594602062721626151439443779839881170116348158447389641130045139008324487112279556647762943130383104562031659250493569554668172083413425362719957101291414714541732060355512691838417555258404455697374442798643362528749622838825630477302763248654577234394580051601996742282413778756109048932593970431595313806806780124614265224604177215488, ev_f1_false⟩
    | true => exact ⟨402, 447, 76892649663067935278848721443527630241746016921617291171264212064850539423435806330997139599718698006419520589488227662204769524715766083013837373638611047187168847499011276927163296280126373267428857611348098203459622008714339439370330136058284630280041298445865844605954408198819590319740343865040043811695994022612283193953839885159158453145048577044054895492120528035579433145837629119286880982090567485496018618477693303235213785412404475363202171020164709611789638037959093893312717132822437386871767523697420890487531085226397038066538118321372948171940037804409187974256989931180803500718568604474652015647674849787129038186788061378894807755941615966611648512, ev_f1_true⟩
  w2 := fun c => by
    cases c with
    | false => exact ⟨12, 381989690895452417024, ev_w2_false⟩
    | true => exact ⟨2, 0, ev_w2_true⟩
  w4 := fun i hi => by
    match i, hi with
    | 0, _ => exact ⟨35, 464134702509600314141920821162234816320504139, 3, 0, ev_w4_0⟩
    | 1, _ => exact ⟨35, 464134702509600314141920821162234816320504139, 3, 0, ev_w4_1⟩
    | 2, _ => exact ⟨35, 464134702509600314141920821162234816320504139, 3, 0, ev_w4_2⟩
    | 3, _ => exact ⟨35, 464134702509600314141920821162234816320504139, 3, 0, ev_w4_3⟩
    | 4, _ => exact ⟨35, 464134702509600314141920821162234816320504139, 3, 0, ev_w4_4⟩
    | 5, _ => exact ⟨35, 464134702509600314141920821162234816320504139, 3, 0, ev_w4_5⟩
    | 6, _ => exact ⟨35, 464134702509600314141920821162234816320504139, 3, 0, ev_w4_6⟩
  w6 := ⟨14, 462694560510614962507, ev_w6⟩
  i0 := ⟨1, 0, 0, 0, ev_i0, ev_i9⟩
  i1 := ⟨41, 0, ev_i1⟩
  i1' := ⟨38, 4150053143570084982111763959599616491520000, ev_i1s⟩
  i2 := fun c => by
    cases c with
    | false => exact ⟨7381, 21852690884613259681537013311120031344091829813858132215890031643716602034895445661067338227199044096528210345708055548374701472900894244628189757685219501519585580245490909212263702201995926931460161425082227838649649501638010092954344974279265091973504881052843849367399595176037721631129929956262600918266813533321701793833583520395735512954799694469836073146273962234121219771354259542469808883208876500196517231958184327851223549506554799936262446024000021285118889587003520928184074927338762024640827316488314872743222038169285804646252340533872325955299476149249849386275165147917866206050972154181302911892330724206061919983851585881293390255699426323645743810685428114107809539846485211936976685157513624077244367852743667501084328487161075619119429372942210149930137115209643648700424466451873525089446446378375575807951234672510000145787140894846884431474558215475945629649048355823105189177356310297774480416763363410233132626049235059131999607232276501182281976425920341798585391348101673405788035456994166937030505248201489244338144163629151819206273043600567520884856849570658506052298475725076166368623342426647958533215813409554339052682320403937570518026377680365582924154907376290851678370115944893049600605789196434043813323483397570029793369911305686281822067591492774798438973448692961323762263934704601266099468524602862308618218952980474222665518076260423268783799435509013316501694140150533701393565830899577793430895048749232527056819304109308003605635071817338163057426421229518448771703943002594971999150799713889031687973892422626944129586660491772134664810479660584160599558331503141634562054754021158988200845387152353837484470056822405783371981186876225542586604920407321498987444921685632366306762333086603180160923262381798546547135204302231352819538523244404829323277705411742690777892974663935027792580893750601194500995042871845863905565224210141902780607962358386379257414442451270781398488942840675000612318718329796944028448563252054789642957626903575846927378461816516311880059520406604338585895239955092809324286324416844383268339267125270325276633488716944540478130535512135868180016916066136526819269886957156586695234092563555923506654235984592120957605097831590035648378561741062962138369749620517046286509598479219003941056348859773806471696253721299132895213672971575967566702951051502938354209362273611148563695731451391472895531123717024829945577228622876351033536569771007720999199799266103018765127895539993766139713720449645091888634361600510804765060713837636054198372680704181531444746588362293240415300498685418707857760517131080958880597108538637233471351704159315170987105793183289110063637641723942069156851892423247034716397254950394781324099736428997930986823771783008339716650390535770468093559130788784989409676775238337967371087708282005216451535405195182309811237652995787449136284814575132298776849479632538669495521952021480724999296462867379266208464136150893907737610251585998280295017921956449785548953744064163266431397475232994719684858425398858535761061805317800394350743069228745559525886801779916756521830123621494399374708126241953623746851682800879009597034473265584100735081162122378316039003600368502055821815968948249418171973672664032043343580004568760781934399849245005905311032948466488006637676228954992361902685482176713981630230619086214399934407574802684931740834669874005364901832970355417786414365545212634139212272319093564359512952020563981045309212343535819393595321788250938600322806607224144397222333542073702100206560626805742490632109210063337022597219526537114619049575892061401953028363808707750648620655719447201058275148754272126512520924533902997109864453491702714073677624383674164568431217952211901669342807892293158334832327277346247905826090228265090286796144762027282594937434409994605172936089251819613618434758666174499373579316182419842382653123962151822988346342259085258988205186022049103995341714183837559856448044703754178760149821547505819065119756010233338250899191756873817090030264630732289216158111914292678066973045784732773825450136743767994750060605389382115607203116581263836955429651366520620220662083573174726764667979430592345855395252151972806309295719783995076735931906970310720910559729817085359152182990728346843598951411357894022203107891415529105579546800467082674660120479501711761632342438453179737636970882830106090452560297342390487067716785954287337676584332323738111392022420894853117195763346358294077023833463225911714356823437936227785559973274581877965248814199659048962439683353419435978799652475389138933085007741028197358709401815382708382206267193764583429893934262845693473119753168474933330419977904482712618511131888490250662115917459667887484974184212647630305806896495994120098063760620331508369568227555930389171649676347741666554926935848435032409369084486591968987327888999420557710190304224398670746673345855063674570037968093849949682699751028229883902830433426799500930326059297256283363626559511058954627431782472810891174988154025853628671684168512565547857360183319042631353030334092907307480542040238752499979021018312588351371542257972925042647260240489621781457900754056016720329266038070007966155100833772645956441226147750659751284248721180626736169371291969857844455423853761873621429959513342297485251955535122868134876712245907305172696030759403127362897190175379847526600267335109106148865341159856347207309709484196030546671764923392288492906725236919473008020650074970140046338582186258025453425234966051096895531283382591574199099054216774991133973087330820776885732885684149884455155050452865386938815195225332072766703091972158700083610409212326342355279860898622401255461252440401062501451614565828862061033915995718761831629646030818741875169144415609413290185267788571382262239352189866397319044305821049588699495725358376844890885552257011624084276963202473987126129485738364671469828555403712375055827762887135513091302337145200317824883190173994524658144476023259942206063248270973060744689657657989421221229637910233161219875618027759861910148645092341537182288038558966249378565350353411573635261365897370984483604934507868659207375314176721663015249626921565873387280967628946414792741376480205726976318372417654391430228902080383929549167028881773319730431505416345258282184687704378191624836591954667045610739044525156101489005360647499373922306505511358195917120435955659652856559044029021319348472380531016404793863910612955452666237913345001898792852337385618640502044400259348957387382011623699268402449229923220305007539969532367280753915314432825139824793208853365690125246011436102814577475001430379417748922073255369988941422439918311121341923454455105059708290359371216377874132517118573547692445658694640311561400742211669734116184393242645050830346301988236085685475181021873737577594740418907786451773104441279069003513814517596281537304176928867291554258927677789619632053535357973171742942789221617192076148986030061000710227639915907203717104818968262673691386877412630798529628917721977299605318176408739853627858661845561553575148283790849782914981806244392495831349868137817140945661830758511676866815298045933786324247968257077140478135905443494436665859539109055955157071875744841225373185073930452107808718792273218840470075607243247797006133101168498372365279429384980401410281333116264161409716777657648352748466710566645447391989556196741171882694828709866043931199824931110785873763382178114016147506898745811096914983143166410650863672022116148399981912931221971880821759772716087535790644019159245929537764464172191289495585807640918025122851392268603527927862177391546435676254517702088333123585548457531910016471924182016818744209535888764898041946182703576880028678457484534031675295141691769782624464188703665537096042807884175025378688805407068144237667750203664268377307118165250327166246732355828103538922993494188109077168337766326865462938616206404389927396417730488223214816170907917029417571629311134610946582555694779414894876558765150333299334839785341907931111543759889301986537696393462975310332798177808569570892157228171054753458261097478517676549963311947712114395139480784425160233882437026132166806030431358033883952914880182174568039246290990328972871654880113560486754463088623865235819973904770442476985987163317572711643574711655306971529316032651293794073983287256318494922414513316464218405171991353649544573509548183067761887835416768774659995668435764675203489679033195063212398287256222318035433078607227463783847422531325954978130635605683868314444761070436904446100488849065331631333339112226868561888307447655956711353129341819231882981463658047130986075851143122867257082656937909788896274686993120610884365599794975199464222293670921711023327887479364252794169815808047871558624392436132825017974156030904441172813652166797062408603185474190019770046265726090450014521308678818952545308326255227171271727133379008801864085887832066046266551373337939847552438636759221066102672139381827353925464477833340322320809180645183817351802661945072930483819391516244081005766244158635308691257877271720651899277094114658589024581898587386974568768105899471614019948267805279177855624797360984924404309568610406352768113885919141163410953661667501328682689633533108688270020636706219767133376499964099169342245232228131328939661831064036249163487056621095782296690117635087755941515454831892877870626167555234984354281819749862569488318099623609056280979251971680616080799314948633064653864917096169829859394996514810596135586473716132347540003916832543372370519877140855615608764002498908449144018415622261130521985383652432170698177437861306752741185025378465780935359631503244410526113079533520591586247993760614749515769185313426701284331300108904642568237823247518463397628452929891056933187219949863808714836451818231845254754180293009886002544798873691545545986627591983056094703284539973297319885359372447928376846163315909385363994757681863489074768815159181303916646341610152221983163897046459937625558113149089581239891252831929760829992747449077234354908228908412465411286187715544122086755305295537640972541248940541587896760083063907406024756297003763978063628709682297580643890103477457564197895512250036771301905646456916025509448020991890968644097698018987017727241455776756009387589095188617992081852457923494726487880096861027809124897878427188597795752346368331541307807701836641819105154494507658914794007999149025675897445630911576650740228596665424889609987527967963379508129052391421098969818761327686092201752903331673438739743264683059563210931704982223237547848363573189930814925613215348934840663722270894550511713702682227005557938618936112721814633833009831791264251583166468123945284125061557388491426097701237272359109147272931434606393124785229875534616388315936828408871889988357341522346521875754338637854446383675554052942203237891509503474067297598055714301307223567815151732642857968944687760832518968714357253634760342068314247895580859648958695129827372909271712709643919629703728820951251232783873477012738587159504476856126377583651919361544978494076243367782438637717514751854941555548596705737540205265883746989051390393280597860306478532289112266842501551015488725791360072150914912186394397592691135946860251229691762174722553106460143192231116051670281449168185159246739760150667014389855558425242545880390392513257995672983240564916573211153562094765494459383957762309396248257148711084268652323828187163771205002743349540446136527222489680671674637804002150824854042165461949074603702253048076066782640295923780919224788463975422790676331005786668724341910401135604864444435237037362594743069739901863097629428747270124107243881144267515336451653673299757087125052919587988189187420925255574116237156622945756597384966748199048122314744988406938129194587978684251325933212076786797338327086351315613654312240583683889390715517853538948803200797161722452104062870505659504325092763630994698582538725625447910568141989003648671618895310233005564478473024200997935198104428669722583342569592067914095440872614412882872130827381824192850185049824129318169889046108194020851052769211595050823710005226730202074816553835395152967299301739599721920991171386227909642798703741668741646193897542468216143469647401094043042103320960520481214793689846992949187408027420059113497024372040150097392533198111557382621907631293426091821661673365274016105314356392476112211066894326740756953666980464498434238696019618811199466958986027469788785641669318777622754214235852486904259861258156003358145125294249369321702321769393388773611160207827699294429828901855408523931347808110387332809113722855781700305840471033430737814016554145589787542214284358329952610635584344069936017255071868120448447756977136474209018216864316033974281410842931080042107251574425875528116268822410963990626800745087188921389111887602669428197036521323453606182655061434728655946378769214548157527398602578003011023382475382748157958239120395773101333227317035364938343088186518637873290656819124925526864979659001919120672279229766065321863983753788095043273613034774806263831280391606371936021737511744042304823838107648751934738768840397844824864276129567570991119499637368440522492497109083949491183511920135301686143785823616413566438289444401190060956359092788231370031351259380087669554952309745028677101453762096831086030617347903534817612187140563726550250160028633449744027316672108424572940127206546656189995377921574850019604865928141091115301834241747196485921501063908780767483148506621394592501340728610800877903964449446574933928196857991306648899837710669834324980552812409651200, ev_i2_false⟩
    | true => exact ⟨7331, 9528102930718253958979303301650296104409220422701918804723089739902534621641225957277875642756930743417634225374300078101249694939905254015693050294471007043624682618668837111502524180375972140597672927381413873083764937634826998192764600507490657003817042174300642743174202062813487747284447674737233396832041713494042315115310896100668956479784776042378294254956955987043060571925250276175496005903347508343392033379350088870582060156515665234848780583020941514645364446399226098905817484475297109665263187201297429029172473339189069287399581103364052799101766788499878420245389148666478087820403891517888887282421187065406687785405551042902577230394317263952363076158539273207109052827849640162087680591340470816424689193075260735587464327200046476759594577203945376948313072370137189976204540096793399019052648309535537460656090922609928259495074609856848222544321396222894541125572550540254887723469159095353146169832313605946530367321299922103275317156983349040337747349244620221940173563861286383355051649985775100770975702020338073500004772124457713999152370343564359014189402438973855339287177599155968819215491880302362901835688645686242661675570151992118911738576166892759838610608172073474860767098973009402220251441230179292109403687700338835830473318272993669755973664393963154581193241457836593334504363415810284601180238950411387456802014972518572623219720563915589687612060553144809770939832167106068493120033874813179090684997242073414347007654143032363064306418973920714128572949909876021776726228975368310963649888866868242454385731064167608414415319907202742159601663220141442996840543837283564071278241861831711576490922053281344570793765308250811950568398722423163481830725922053776277268817720587686904087813445564151915434976448366057148316066007599214723103037707166543699851762467515562529564668608052578128272712605022680872758006008722473409766205365845790347491268122043128389705898883902160137757157586506942147750394070447507608695568511458011261375750696217121863058914267922506384625498103210551281321801077364334551909106444834103327447308889309891577929366060266481127481701901127213193908233871068698025085314525149934722811829718340346764879261925272727343780654842678995526564623637736946678489858892371009471147949828020483760586629481613258914952910509011654166505337091812681826786703493271782135628339921010468468402452453551033576889298961329512167618211349823730351982518666585258520775545316109700096304335779177301510713011080263098776283016099483513177431141942190013005541921430361616941808840392157765293151877833581202112438858491811923540198909033542830082846938617996974971400184403693413460991084577839770709102774021660265026022025631931493042475432439762891442493807826684906547389612898427552675233720971263821643479788643514256600889257992987393683276037065449168979829035426821429845734691356101447604737586308158763231848888578292458514116647624891287160530258173577662331430668756237244944773731062840434751050978494734848827086995579867151125607867604505247726859526417046676139196253595242611108034560187949548565600403812829759475136460468570053001235392089328864646688098012423321496656868743580547033146026267873084193834521825538850819263515850643639306943114327593311500228748160637052642723344039867460884019213651981881672220333749869067808522308028029946460648602361210938727682130703617573331166363393898377178462503974666934560589551278870512039357776211985180897377098403389605484343535336339393068582889737435999939068946636906847599946246979343251938550521263189345577271138249786497365981392103006417385489616906524757536290335941139923688131870576896918023427064154144272596413265288218002211109627931185647669292891993645779573305186207873660791347870216856712209342655892502465084993015652758068546195498800161346719079176903289751734599341804061757305981472186129713474594025053774663649087742546161215516799919292567359208469836197635882965923635855155341574315939340420401086264553900900166867685021331055595391774410345888512964504171243060957447186890330137425422696698807788469826616085821947362568443487859950765411864308927142490396042871869597636592792452302330810324512498484925388422229878615840572674953299803152089228637289129710128330493432843046071493718479066041472874139960020259576384271005751126006308833745789556607279708597796210516833387857889102709620071068276281472012743131639964073877155433071695400237939833150649187783670035835383914582532207370246228079138598892846953972670050272303628439010562073522227946558951332952940536432964097852831678157144894864503718746117200907160529680563578193642204583267552848091554949415039370530413972443578763521223352286543694201375423473110526899964483463978337850216638888428591720298453968432723350483741412007761566917018066405287268315593895343905398962913821113093822377445576538381844674278128033951795461391057535866020913662798715869283030359316819290653228711067165756803349688332274455338617172080354043304218281340655265812513584388405114543927511950070197091838620246286367429791875322911111026600159605429074255370666633815677183427795760920788597745069191966108446033508593850129213305976005758746048388190631354914542371076990845400880469116872261299690456288821146661291614279590564544466301723123702706852305358604034092000311803801514397111438266156945749635546548526950734784588506199211273190889279189506529010819361003394817086890553952885580848464707480665980032533074792517017568347488349634299566850755318668977069712789286699895479565491766673761571481780842014637186359767948335907654667311854137022163323718753380330168576189788437999906552486700951253476485316363640958067557957301375747773809021650476823367801679599432699471698272758224735905135563494995115744493906630599248303986457349085663457239998125996702770942724820992400485634869374329344968386241003911894222268629006607240488814031860913121347699709510058225497770751237291964506997014964001135195029001919602674940124947676178586708306139383337982053797595696627546474675902202999262012755804859108128950227101531985917740297748524100758836988515039892196706108355230987300787392190859293183474060192882639754315645657775461053599752873210646495235918951684620501748145238891720522997157571150604103800927087905053967104490522070413048542414371693047735160764753280630081938391178219503861471390928632853448513401684057511277623688891372554439479135600011943723489011800953455724172448864970975822438794989724852983798734108256613330910928889368778386001739522767558353331604720108778866615618466730122032216908422442101693226703328811798388677629021084591176718575219929402661602300596388146014914807812361697587925292189631047777667174985658026727901642343558306515276163658681140976945565376631505318959594251067583601101133908474211758828291260701064962054768383338993837754999399766871186524711202421436819443831123719416656564034416649734159559575512674780523412243124862166098332425394834329179521305279395275220185499518752405237794105096506181401097731038382508165541395533437195687855033627135011593622707040002081414465786702012916361607038611946949546600862564802809509592172549281955038307764028582482747819811723010145781435347604975453822663087084065831519533212719556145364086634471137923034755146016373582226761680975669636526977722342367141210660423942711112022428693406061211642316707373615381955679515701266940571395801555803237050663277524720901903349817511477505067389175106476992469590551904981484800485479849538433165097652026474767990850027422207425125959458454561993889656820849119789502454184076422178900886890693267667883824405451039669474260357727916850059465121005247129428741645512140034779156716905779320683322526314592624584988795914039185612576134197759355120781896297272245287503172713682246287153702871823736476390850857303419678478515692060687287757658254350698611144403779369191266482895332567443880655994199009499979120441668889008013552352840827999794820270502189343835716908178802663606412659331453002127270422431020048962008096530031431175207429644785561997447991196934926438930275781997225381080209551053496202819079271122572320378786347741659932847829870311063016046367486803197427947505421993799766621562256106119700408777149782976889422439208342264491984533114928101317265026532465415928385218629657816664148578179819071468672157574576338323415526572835826629781904508132070181397634716241712312235446626226434744296502522590940273907749028856205410916353163132027084813325610734723050516992227018882452756900763223913689084742375567347885408358108944401459410112559636351771127138076541610180233596745477542560763089691461293424219273220093964542643748993982628913233081080369567335965586084870276536347549777889715647868824671217567744983092484154272013016500527747650397725221157811913407303666892306680618497685080912991918921090982469865879641030581833517916634856304857713213174001679219865111261257336522111444962559574329366970224872302556526148068382298553596722312792334246617340962651760769696751799719691089524260955494258326009649984319170357840651995645155141931706978245516822661725698527215841732634189771921367432863427672342132924131371238383831316641612408769278462894546699123370766489095524595478412727822158922659225215210666888004020146260797208453484434567923759276337540622378707054560710454931464146050189402849166269044653411481861280902742440632605616777148415504894606325579535801823341363294387885547948187225894128462882071320876754848609933975201936520953584274334527170558932650541691973650498900979869974264532807361325417954909054019308928613018866206085682861478173901704785740244932781888777433684346871680744925769461888124167974411851229758213889106857949869879142027635116504317699813259025258919637877674942813017108869035386494422990767292629043505989567277089869748331917738619727815827945866025809669601569333077541045415037912234181179241834155832971801303028673759204823000704706304980227710590322059837659894248843806307497394601553479802872776938308079811317034413264079507036356817241539394653934767169123613842872169009001529797456107640556791093524583669154545722514799160458861854191373770408448724070403547703929667205415429628511925595223654997870412402857096274669327542493684970342745877582850061922685553441763173389814082543582754431769378090247853598079725950664728996144718080553954676702824077721775873160902746834192573909277054980724820327653147076522488681841870437207743972307725189271516388602696986612986979925966657027278321460580931263017329881540496340208821738852641841116250444004563166977306980128465870501768096419602124605129320887906900523151326366710063092474893095506606824332439145197550520343643406023340949350006797936480840244205411728862913129909522540333331412130188405485490594759327155565572619122387547351946206835566319327526336230425579194214215184355107142485486000742146618183251471260212666251118496776160798700039720438099675853336041983587323743632894269839450137649881601434100748123059166140916781055798479287080016043545689590008859648665824289533535169629912937248715595022325169655208786123714924399315493323100470898180981306118536439240509958356832494349905389742416094418211176762832062264135820489732007232430907840826019325512152517328849485051637533189543419067523004137716790997078834394575607172417864759218323567560976427776723894067808724603183172528493029363596994068797442561985040885519640875305656960169279246115379805182500155428558487434967517976817144289112260847266757487324590748673391299684876300584324605076439347128734625518807222802840934992018693249207058472242776636949658457748252314104067977346196588807650011600842541198139545482818509223244077954338168181313889349899288708118126726181963743062317101509836701685582169597441489858909852319882080608822706542277557193235241755814383840417866776803978059380128482470574751450490612136737054358648490693041385470195762572427038154383414372803331549867584188315780361587112227772374793165456057539596438415924323347126477570421010379244653775215772383938055214350291199764925582078565006188556349016666070861479994130823470975570135250788477958169048586653389423583249807385425097686583421988994965724156783274686603289725267174761152353745370673639733024022273790269798522298201932697834123861424558985029633817005311216677440555308287859068047163918683995448928058928955431255738903083282142980254113614743377636517896014115718918174228700259932590656279843257572162177881795755639080495190197896222617546277240945692446670675547934676638363568304537588850768855070075632665981272166892544154702634883075881347225534490746125734959945531558890820971209085887683487309423026606194594870516027109914433264433676681911600801334886531691728607463122178981012930614052594546416338874133531984984258130332686962576849582096364933045224071845788184392588463093091393621068472951156575139708620896781757108438609405062357553630389371101962821203350280403757616831515394963197430503002121049669644552690647343056085498925318221342822840313259519888015808884821706414570203488404788239624624740261342223298183714477282093717517073245201531319527354712903383908574412584419353552563757416851142949002618149024871367361022293679162503640999167101509341053885378772875350593247854983442595706460350140322864822504900669952933460236295344049685561771976285604691610730353930878493194013253332736283150877751427076100936891298654875111682587387512612086224739413523941205642140871993512165376, ev_i2_true⟩
  i3 := fun i hi => by
    match i, hi with
    | 0, _ => exact ⟨218, 8452712498170643941644596284643884444602661912561368711697969195654819002257642523271980562911676935509676007762431941343635623226350507405283928136413933400757404035060341253211939512956627993973565363451619918433575140501307589564238551809803472973801370164862908366848, ev_i3_0⟩
    | 1, _ => exact ⟨218, 8452712498170643941644596284643884444602661912561368711697969195654819002257642523271980562911676935509676007762431941343635623226350507405283928136413933400757404035060341253211939512956627993973565363451619918433575140501307589564238551809803472973801370164862908366848, ev_i3_1⟩
    | 2, _ => exact ⟨218, 8452712498170643941644596284643884444602661912561368711697969195654819002257642523271980562911676935509676007762431941343635623226350507405283928136413933400757404035060341253211939512956627993973565363451619918433575140501307589564238551809803472973801370164862908366848, ev_i3_2⟩
  i4 := ⟨2538, 0, ev_i4⟩
  i5 := ⟨23, 2656619380265216615424, ev_i5⟩
  i6 := ⟨25, 2656619380265216615424, ev_i6⟩
end Mine
end

section
open PySem PySem.Spec PySem.Calls PyProof.Rows PySem.W PySem.W.X
namespace Mine
/-! the start of the law -/
def nameS (v : Value) : Str := match v with
  | .str s _ => s
  | _ => ⟨#[]⟩
def isS (v : Value) : Bool := match v with
  | .str _ _ => true
  | _ => false
section
variable {B : Bx} {G : Gx} {R₀ : Result → Shared → Prop} {n₀ : Nat}
theorem hash_eq (F : G.Fits B) (s : Str) (t : Tok) : hP G.P (.str s t) = (SK B).hash s := by
  show _ = hashStr B.w s
  unfold hashStr hP
  rw [F.P]
  show (match s.cps.isEmpty with | true => 0 | false => reduceHash (G.P.strHash s.cps)) = if s.cps.isEmpty = true then 0 else reduceHash (G.P.strHash s.cps)
  cases s.cps.isEmpty <;> rfl
theorem dk_of (F : G.Fits B) : ∀ (es : List DictEntry), es.all (fun e => isS e.key) = true → es.map (·.hash) = es.map (fun e => hP G.P e.key) → (es.map fun e => nameS e.key).Nodup → DK B es (es.map fun e => (nameS e.key, e.val))
  | [], _, _, _ => DK.nil B
  | e :: es, h1, h2, h3 => by
    simp only [List.all_cons, Bool.and_eq_true] at h1
    simp only [List.map_cons, List.cons.injEq] at h2
    simp only [List.map_cons, List.nodup_cons] at h3
    have ih := dk_of F es h1.2 h2.2 h3.2
    have hk : ∃ s t, e.key = .str s t := by
      have := h1.1
      unfold isS at this
      split at this
      · exact ⟨_, _, by assumption⟩
      · cases this
    obtain ⟨s, t, hk⟩ := hk
    have hn : nameS e.key = s := by rw [hk]; rfl
    have his : (SK B).is s e.key = true := by rw [hk]; exact strKind_is _ _ s t
    refine ⟨?_, ?_, ?_⟩
    · intro x hx
      simp only [List.mem_toArray, List.mem_cons, Array.mem_def] at hx
      rcases hx with rfl | hx
      · exact ⟨s, his, by rw [h2.1, hk, hash_eq F]⟩
      · exact ih.keys x (by simpa using hx)
    · simp only [List.map_cons]
      exact .cons (by rw [hn]; exact his) rfl ih.pairs
    · simp only [List.map_cons, List.map_map]
      refine List.nodup_cons.mpr ⟨?_, ?_⟩
      · exact h3.1
      · exact h3.2
theorem segS_to {n₁ : Nat} (O : B.Ok (n₁ + 1)) (F : G.Fits B) (lit : Bool) (n : Nat) (c0 : Code) (κ0 : Kn) (t0 : Sem PySem.Fin) (p : Pos) (T : OT) (m sz0 tk hs : Nat) (js : List (Hn B)) (c : Code) (t : Sem PySem.Fin) (l : List Row) (sz : Nat)
    (e : pkS (run B G lit n c0 κ0 t0 p T m sz0 tk hs js []) sz l = pkSTo (run B G lit n c0 κ0 t0 p T m sz0 tk hs js []) c t l)
    (H : ∀ p m tk, MnC B R₀ ⟨c, .base, t, p, rowT l, m, sz, tk + 1046⟩) : MnC B R₀ ⟨c0, κ0, t0, p, T, m, sz0, tk⟩ := by
  refine run_to O F lit n c0 κ0 t0 p T m sz0 tk hs js (congrArg Pk.obs e) ?_
  revert e
  generalize run B G lit n c0 κ0 t0 p T m sz0 tk hs js [] = o
  intro e
  obtain ⟨why, left, ⟨c1, κ1, t1, p1, T1, m1, sz1, tk1⟩, obs⟩ := o
  simp only [pkS, pkSTo, Pk.mk.injEq] at e
  obtain ⟨e0, e1, rfl, rfl, rfl, e5, e6, e7, _⟩ := e
  intro h D
  obtain rfl := Nat.eq_of_beq_eq_true e5
  have h1046 : 1046 ≤ tk1 := Nat.le_of_ble_eq_true e6
  have D : Rp B T1 sz1 h := D
  obtain ⟨k, rfl⟩ : ∃ k, tk1 = k + 1046 := ⟨tk1 - 1046, (Nat.sub_add_cancel h1046).symm⟩
  have hr : ∀ r ∈ l, T1.get r.old = some (r.a, r.o) := List.map_inj_left.mp e7
  exact H p1 m1 k h (D.sel (rowsOkB_ok e0).1 hr)
end
/-! the places of the rows before the loop -/
theorem preL0_eq (D : Dt) : ∃ A : List Row, preL0 D = A ∧ preL D = A ++ [row 1000 D.dA (lob D.deeds D.dE)] := ⟨preL0 D, rfl, rfl⟩
theorem sub_preL0 (D : Dt) : Sub (JB.filter fun j => !(Nat.beq j 200) && !(Nat.beq j 1000)) (preL0 D) := by
  refine ⟨fun r hr => (sub_rowsB D).own r (List.mem_filter.mp hr).1, ?_⟩
  have : (preL0 D).map (·.old) = JB.filter fun j => !(Nat.beq j 200) && !(Nat.beq j 1000) := rfl
  rw [this]
  exact List.Sublist.refl _
theorem preL0_deeds (D : Dt) (xs : Array Value) (e : Nat) : preL0 { D with deeds := xs, dE := e } = preL0 D := rfl
section
variable {B : Bx} {G : Gx} {R₀ : Result → Shared → Prop} {n₀ : Nat}
theorem MnC.deeds {c : Code} {κ : Kn} {t : Sem PySem.Fin} {p : Pos} {m sz tk : Nat} (D : Dt) (hz : B.fz D.dA (lob D.deeds D.dE)) (H : MnC B R₀ ⟨c, κ, t, p, rowT (preL D), m, sz, tk⟩) : MnC B R₀ ⟨c, κ, t, p, rowT (preL0 D), m, sz, tk⟩ := by
  refine MnC.note 1000 D.dA (lob D.deeds D.dE) _ (by decide) hz ?_
  obtain ⟨A, h1, h2⟩ := preL0_eq D
  rw [h2] at H
  rw [h1]
  refine MnC.perm (List.perm_append_singleton _ A).symm ?_ H
  have S := (sub_row 1000 D.dA (lob D.deeds D.dE)).app (sub_preL0 D)
  rw [h1] at S
  exact S.apart (by decide +kernel)
theorem MnC.tail198 {c : Code} {κ : Kn} {t : Sem PySem.Fin} {p : Pos} {m sz tk : Nat} (D : Dt) (a : Nat) (o : Obj) (H : MnC B R₀ ⟨c, κ, t, p, rowT (row 198 a o :: preL0 D), m, sz, tk⟩) : MnC B R₀ ⟨c, κ, t, p, rowT (preL0 D ++ [⟨198, 256, a, o⟩]), m, sz, tk⟩ := by
  have e : rowT (preL0 D ++ [⟨198, 256, a, o⟩]) = rowT (preL0 D ++ [row 198 a o]) := by
    have := rowT_strip (preL0 D ++ [⟨198, 256, a, o⟩]) (preL0 D ++ [row 198 a o]) [] (by rw [List.map_append, List.map_append]; rfl)
    simpa using this
  refine MnC.same e (MnC.perm (List.perm_append_singleton _ _) ?_ H)
  exact ((sub_preL0 D).app (sub_row 198 a o)).apart (by decide +kernel)
theorem far198 (D : Dt) : ∀ r ∈ preL0 D, r.new % 1024 ≠ 198 % 1024 := fun r hr => by
  have S := sub_preL0 D
  rw [S.own r hr]
  have : ∀ j ∈ (JB.filter fun j => !(Nat.beq j 200) && !(Nat.beq j 1000)), j % 1024 ≠ 198 % 1024 := by decide +kernel
  exact this _ (S.sub.subset (List.mem_map.mpr ⟨r, hr, rfl⟩))
/-- the law's start to its loop, from statement 12 on -/
def At12 (B : Bx) (G : Gx) (R₀ : Result → Shared → Prop) (τ : Nat → Nat) (η : Nat → Int) (first : Value) (e : Nat) (τ' : Nat → Nat → Nat) (η' : Nat → Nat → Int) (ε : Nat → Nat) (c : Nat → Obj) : Prop :=
  ∀ p m tk, MnC B R₀ ⟨cF B G, .base, restOf (cF B G) 12, p, rowT (preR τ η first e τ' η' ε c), m, 726, tk + 1046⟩
def docV : Array Value := #[.int (0) 991, .int (2) 992, .int (32) 993, .int (7) 994, .int (9) 995, .int (28) 996, .int (16) 997, .int (30) 998, .int (44) 999, .int (3) 1000, .int (11) 1001, .int (13) 1002, .int (50) 1003, .int (5) 1004, .int (19) 1005]
theorem doc_deeds : Deeds docV := by
  intro j hj
  have hj : j < 15 := hj
  match j, hj with
  | 0, _ => exact ⟨0, 990, rfl⟩
  | 1, _ => exact ⟨2, 991, rfl⟩
  | 2, _ => exact ⟨32, 992, rfl⟩
  | 3, _ => exact ⟨7, 993, rfl⟩
  | 4, _ => exact ⟨9, 994, rfl⟩
  | 5, _ => exact ⟨28, 995, rfl⟩
  | 6, _ => exact ⟨16, 996, rfl⟩
  | 7, _ => exact ⟨30, 997, rfl⟩
  | 8, _ => exact ⟨44, 998, rfl⟩
  | 9, _ => exact ⟨3, 999, rfl⟩
  | 10, _ => exact ⟨11, 1000, rfl⟩
  | 11, _ => exact ⟨13, 1001, rfl⟩
  | 12, _ => exact ⟨50, 1002, rfl⟩
  | 13, _ => exact ⟨5, 1003, rfl⟩
  | 14, _ => exact ⟨19, 1004, rfl⟩
/-- the deeds are made -/
theorem from12 (V5 : ∃ n hs, EvI5 G n hs) (V6 : ∃ n hs, EvI6 G n hs) (O : B.Ok (n₀ + 1)) (F : G.Fits B) (xs : List Value) (hx : B.fz 528 (lob ⟨xs⟩ 0)) (hd : B.fz 496 (lob docV 0)) (hl : xs.length ≤ 63) (hi : ∀ v ∈ xs, ∃ (n : Int) (t : Nat), v = .int n (t + 1))
    (τ : Nat → Nat) (η : Nat → Int) (first : Value) (e : Nat) (τ' : Nat → Nat → Nat) (η' : Nat → Nat → Int) (ε : Nat → Nat) (c : Nat → Obj)
    (K : ∀ B', Grow B B' → ∀ τ η e dA deeds dE, Deeds deeds → deeds.size ≤ 61 → 0 < deeds.size → At13 B' G R₀ (preD τ η first τ' η' ε c e dA deeds dE)) : At12 B G R₀ τ η first e τ' η' ε c := fun p m tk => by
  have hline := line20
  have hz : (⟨xs⟩ : Array Value).size ≤ sizeLine := by show xs.length ≤ sizeLine; omega
  refine MnC.note 1001 528 (lob ⟨xs⟩ 0) _ (by decide) hx ?_
  have hlen : ((xs.drop 1).take 60).length ≤ 60 := by rw [List.length_take]; omega
  cases hds : (xs.drop 1).take 60 with
  | nil =>
    obtain ⟨n, hs, h⟩ := V6
    have hn : ((⟨((⟨xs⟩ : Array Value).toList.drop 1).take 60⟩ : Array Value).size : Int) = Int.ofNat 0 := by
      show (((xs.drop 1).take 60).length : Int) = 0
      rw [hds]; rfl
    refine .anyM 256 (segS_to O F true n _ _ _ p _ 256 _ _ hs _ _ _ _ 728 (h B ⟨xs⟩ 0 hz hn (by decide) τ η first e τ' η' ε c p tk) fun p m tk => ?_)
    have z := fun (τ2 : Nat → Nat) (η2 : Nat → Int) (e2 : Nat) => K B (.inl rfl) τ2 η2 e2 496 docV 0 doc_deeds (by decide) (by decide) p m tk
    refine MnC.deeds (preD _ _ first τ' η' ε c _ 496 docV 0) hd ?_
    exact z _ _ _
  | cons d ds =>
    obtain ⟨n, hs, h⟩ := V5
    have hn : ((⟨((⟨xs⟩ : Array Value).toList.drop 1).take 60⟩ : Array Value).size : Int) = Int.ofNat (Nat.succ ds.length) := by
      show (((xs.drop 1).take 60).length : Int) = ((ds.length + 1 : Nat) : Int)
      rw [hds]; rfl
    have hf : Int.ofNat (Nat.succ ds.length) < 2 ^ 63 := by
      rw [hds] at hlen
      simp only [List.length_cons] at hlen
      show ((ds.length + 1 : Nat) : Int) < 2 ^ 63
      omega
    have D5 : Deeds ⟨((⟨xs⟩ : Array Value).toList.drop 1).take 60⟩ := fun j hj => by
      have hj : j < ((xs.drop 1).take 60).length := hj
      obtain ⟨n, t, e⟩ := hi (((xs.drop 1).take 60)[j]) (List.mem_of_mem_drop (List.mem_of_mem_take (List.getElem_mem hj)))
      refine ⟨n, t, ?_⟩
      have q : (⟨((⟨xs⟩ : Array Value).toList.drop 1).take 60⟩ : Array Value)[j]? = ((xs.drop 1).take 60)[j]? := List.getElem?_toArray
      rw [q, List.getElem?_eq_getElem hj, e]
    have h61 : (⟨((⟨xs⟩ : Array Value).toList.drop 1).take 60⟩ : Array Value).size ≤ 61 := by show ((xs.drop 1).take 60).length ≤ 61; omega
    have h0 : 0 < (⟨((⟨xs⟩ : Array Value).toList.drop 1).take 60⟩ : Array Value).size := by show 0 < ((xs.drop 1).take 60).length; rw [hds]; simp
    refine .anyM 256 (segS_to O F true n _ _ _ p _ 256 _ _ hs _ _ _ _ 728 (h B (B.add (only 727 (lob ⟨((⟨xs⟩ : Array Value).toList.drop 1).take 60⟩ 0))) ⟨xs⟩ 0 hz ds.length hn hf τ η first e τ' η' ε c p tk) fun p m tk => ?_)
    generalize (⟨((⟨xs⟩ : Array Value).toList.drop 1).take 60⟩ : Array Value) = ys at *
    refine MnC.tail198 _ _ _ (MnC.freeze 198 727 (lob ys 0) _ (by decide) (far198 _) ?_)
    refine MnC.deeds (preD _ _ first τ' η' ε c _ 727 ys 0) (.inr ⟨rfl, rfl⟩) ?_
    exact K (B.add (only 727 (lob ys 0))) (.inr ⟨_, rfl⟩) _ _ _ 727 ys 0 D5 h61 h0 p m tk
end
end Mine
end

section
open PySem PySem.Spec PySem.Calls PyProof.Rows PySem.W PySem.W.X
namespace Mine
/-- the names in a thing's dict -/
def nm (i : Nat) : List Str := (instE i (fun _ _ => 0) (fun _ _ => 0)).map fun e => nameS e.key
theorem nm_ok : ∀ i, i < 7 → (nm i).Nodup ∧ atS i ∉ nm i ∧ (i < 4 → atS (pa i) ∉ nm i) := by decide +kernel
theorem nm_eq (τ : Nat → Nat → Nat) (η : Nat → Nat → Int) : ∀ i, i < 7 → (instE i τ η).map (fun e => nameS e.key) = nm i ∧ (instE i τ η).all (fun e => isS e.key) = true := by
  intro i hi
  match i, hi with
  | 0, _ => exact ⟨rfl, rfl⟩
  | 1, _ => exact ⟨rfl, rfl⟩
  | 2, _ => exact ⟨rfl, rfl⟩
  | 3, _ => exact ⟨rfl, rfl⟩
  | 4, _ => exact ⟨rfl, rfl⟩
  | 5, _ => exact ⟨rfl, rfl⟩
  | 6, _ => exact ⟨rfl, rfl⟩
section
variable {B : Bx} {G : Gx} {R₀ : Result → Shared → Prop} {n₀ : Nat}
theorem dict0 (F : G.Fits B) (i k v : Nat) (hm : isMap i = true) (hv : v ∈ pool i) (hk : Old 0 ⟨⟨[k]⟩⟩) (h : Int) (t : Nat) (hh : h = hP G.P (.str ⟨⟨[k]⟩⟩ 0)) : OkC B i 0 (dictO k h t v) := by
  unfold OkC
  rw [hm]
  refine ⟨[⟨h, .str ⟨⟨[k]⟩⟩ t, .ref v⟩], 1, [(⟨⟨[k]⟩⟩, Value.ref v)], rfl, ?_, Nat.le_refl 1, fun kv hkv => ?_⟩
  · have := dk_of F [⟨h, .str ⟨⟨[k]⟩⟩ t, .ref v⟩] rfl (by rw [hh]; rfl) (by simp)
    exact this
  · rw [List.mem_singleton] at hkv
    subst hkv
    exact ⟨⟨v, hv, rfl⟩, hk⟩
theorem list0 (i : Nat) (xs : List Value) (e : Nat) (hm : isMap i = false) (hl : xs.length ≤ 3) (hx : ∀ v ∈ xs, ∃ x ∈ pool i, v = Value.ref x) : OkC B i 0 (lob ⟨xs⟩ e) := by
  unfold OkC
  rw [hm]
  exact ⟨xs, e, rfl, by omega, hx⟩
theorem inv0 (F : G.Fits B) (τ : Nat → Nat) (η : Nat → Int) (first : Value) (τ' : Nat → Nat → Nat) (η' : Nat → Nat → Int) (ε : Nat → Nat) (τ'' : Nat → Nat → Nat) (η'' : Nat → Nat → Int) (ε'' : Nat → Nat) (r : Nat) (hr : r < 3) (e dA : Nat) (deeds : Array Value) (dE : Nat)
    (h1 : [η'' 141 0, η'' 144 0, η'' 147 0, η'' 148 0] = [hP G.P (.str ⟨⟨[97]⟩⟩ 0), hP G.P (.str ⟨⟨[97]⟩⟩ 0), hP G.P (.str ⟨⟨[97]⟩⟩ 0), hP G.P (.str ⟨⟨[88]⟩⟩ 0)])
    (h2 : ∀ i, i < 7 → (instE i τ' η').map (·.hash) = (instE i τ' η').map (fun e => hP G.P e.key)) :
    Inv B 0 (preD τ η first τ' η' ε (c0 τ'' η'' ε'' r) e dA deeds dE) (fun _ => none) := by
  simp only [List.cons.injEq, and_true] at h1
  obtain ⟨a0, a2, a4, a5⟩ := h1
  obtain ⟨m0, m1, m2, m3, m4, m5, m6⟩ := map_is
  refine ⟨fun i hi => ?_, fun i hi => rfl, fun i hi => ⟨.inl rfl, rfl⟩, rfl, fun i hi => ?_⟩
  · match i, hi with
    | 0, _ => exact dict0 F 0 97 614 m0 (by decide) (old_a 0) _ _ a0
    | 1, _ =>
      match r, hr with
      | 0, _ => exact list0 1 [] _ m1 (by decide) (fun v hv => by cases hv)
      | 1, _ => exact list0 1 [.ref 549] _ m1 (by decide) (fun v hv => by rw [List.mem_singleton] at hv; exact ⟨549, by decide, hv⟩)
      | 2, _ => exact list0 1 [.ref 549, .ref 558] _ m1 (by decide) (fun v hv => by
          rcases List.mem_cons.mp hv with hv | hv
          · exact ⟨549, by decide, hv⟩
          · rw [List.mem_singleton] at hv; exact ⟨558, by decide, hv⟩)
    | 2, _ => exact dict0 F 2 97 620 m2 (by decide) (old_a 0) _ _ a2
    | 3, _ => exact list0 3 [.ref 549] _ m3 (by decide) (fun v hv => by rw [List.mem_singleton] at hv; exact ⟨549, by decide, hv⟩)
    | 4, _ => exact dict0 F 4 97 638 m4 (by decide) (old_a 0) _ _ a4
    | 5, _ =>
      match r, hr with
      | 0, _ => exact dict0 F 5 88 656 m5 (by decide) (old_X 0) _ _ a5
      | 1, _ => exact dict0 F 5 88 660 m5 (by decide) (old_X 0) _ _ a5
      | 2, _ => exact dict0 F 5 88 664 m5 (by decide) (old_X 0) _ _ a5
    | 6, _ => exact list0 6 [.ref 582, .ref 591] _ m6 (by decide) (fun v hv => by
          rcases List.mem_cons.mp hv with hv | hv
          · exact ⟨582, by decide, hv⟩
          · rw [List.mem_singleton] at hv; exact ⟨591, by decide, hv⟩)
  · obtain ⟨q1, q2⟩ := nm_eq τ' η' i hi
    obtain ⟨n1, n2, n3⟩ := nm_ok i hi
    have hI : instE i (preD τ η first τ' η' ε (c0 τ'' η'' ε'' r) e dA deeds dE).τ (preD τ η first τ' η' ε (c0 τ'' η'' ε'' r) e dA deeds dE).η = instE i τ' η' := by
      match i, hi with
      | 0, _ => rfl
      | 1, _ => rfl
      | 2, _ => rfl
      | 3, _ => rfl
      | 4, _ => rfl
      | 5, _ => rfl
      | 6, _ => rfl
    have hk : ((instE i τ' η').map fun e => (nameS e.key, e.val)).map (·.1) = nm i := by
      rw [List.map_map]
      exact q1
    refine ⟨_, by rw [hI]; exact dk_of F _ q2 (h2 i hi) (by rw [q1]; exact n1), ?_, fun h4 => ?_⟩
    · rw [hk]; exact n2
    · rw [hk]; exact n3 h4
/-- the law's end -/
theorem lawEnd (V : EvEnd G) (VC : ∀ (B : Bx) p, EvComp (G.within (cF B G) p)) (VA : ∀ (B B' : Bx) p w p1, EvAsk ((G.within (cF B G) p).within (cWL B' (G.within (cF B G) p) w) p1))
    (VS : ∀ (B B' B'' : Bx) p w p1 fa p2, EvSame (((G.within (cF B G) p).within (cWL B' (G.within (cF B G) p) w) p1).within (cA B'' ((G.within (cF B G) p).within (cWL B' (G.within (cF B G) p) w) p1) fa) p2))
    (O : B.Ok (n₀ + 5)) (F : G.Fits B) {k : Nat} (hk : k ≤ 61) (D : Dt) (X : Nat → Option Told) (I : Inv B k D X) (L : LT3 D.lt) (K : ∀ B', Grow B B' → LawEnd B' R₀) : At14 B G R₀ D (extOf X ++ []) := by
  obtain ⟨H, hH⟩ := seven I hk
  obtain ⟨τ, η, v0, v1, v2, v3, v4, v5, v6, v7, tl, ht, hlt⟩ := L
  have I1 : Inv B k { D with c := H.cc } X := ⟨fun i hi => by show OkC B i k (H.cc i); rw [hH i hi]; exact I.c i hi, I.x, I.u, I.x7, fun i hi => ⟨(I.inst i hi).ex⟩⟩
  have key : At14 B G R₀ { D with c := H.cc } (extOf X ++ []) := by
    rcases ht with rfl | ⟨ηt, τt, vt, rfl⟩
    · obtain ⟨nl, old, kk, n, hs, hB⟩ := V.b0
      obtain ⟨nl7, n7, hs7, n8, hs8, h7⟩ := V.w7
      obtain ⟨li, nF, hsF, hF⟩ := V.f0
      exact lawEnd1 hB (fun ηb τb bb => h7 ηb τb bb) hF VC VA VS O F hk { D with c := H.cc } X I1 H rfl τ η v0 v1 v2 v3 v4 v5 v6 v7 hlt K
    · obtain ⟨nl, old, kk, n, hs, hB⟩ := V.b1
      obtain ⟨nl7, n7, hs7, n8, hs8, h7⟩ := V.w7'
      obtain ⟨li, nF, hsF, hF⟩ := V.f1
      exact lawEnd1 (hB ηt τt vt) (fun ηb τb bb => h7 ηt τt vt ηb τb bb) (hF ηt τt vt) VC VA VS O F hk { D with c := H.cc } X I1 H rfl τ η v0 v1 v2 v3 v4 v5 v6 v7 hlt K
  intro p y m tk
  have z := key p y m tk
  rw [rowsB_c hH] at z
  exact z
theorem lawSpec {kt : Params → KT} (V : Evs kt) {P : Params} {b c : Bool} {xs : List Value} {p3 : Pos} (O : B.Ok (n₀ + 5)) (F : (Gof kt P b c xs [(claimC, p3)]).Fits B)
    (hx : B.fz 528 (lob ⟨xs⟩ 0)) (hd : B.fz 496 (lob docV 0)) (hl : xs.length ≤ 63) (hi : ∀ v ∈ xs, ∃ (n : Int) (t : Nat), v = .int n (t + 1))
    (K : ∀ B', Grow B B' → LawEnd B' R₀) : ∀ p m tk, MnC B R₀ ⟨lawC, .base, dQ lawC, p, .nil, m, 529, tk + 1046⟩ := by
  have S12 : ∀ (τ : Nat → Nat) (η : Nat → Int) (f : Int) (t e : Nat) (τ' : Nat → Nat → Nat) (η' : Nat → Nat → Int) (ε : Nat → Nat) (τ'' : Nat → Nat → Nat) (η'' : Nat → Nat → Int) (ε'' : Nat → Nat) (r : Nat), r < 3 →
      [η'' 141 0, η'' 144 0, η'' 147 0, η'' 148 0] = [hP P (.str ⟨⟨[97]⟩⟩ 0), hP P (.str ⟨⟨[97]⟩⟩ 0), hP P (.str ⟨⟨[97]⟩⟩ 0), hP P (.str ⟨⟨[88]⟩⟩ 0)] →
      ((instEs0 τ' η').map (·.hash), (instEs1 τ' η').map (·.hash), (instEs2 τ' η').map (·.hash), (instEs3 τ' η').map (·.hash), (instEs4 τ' η').map (·.hash)) =
        ((instEs0 τ' η').map (fun e => hP P e.key), (instEs1 τ' η').map (fun e => hP P e.key), (instEs2 τ' η').map (fun e => hP P e.key), (instEs3 τ' η').map (fun e => hP P e.key), (instEs4 τ' η').map (fun e => hP P e.key)) →
      At12 B (Gof kt P b c xs [(claimC, p3)]) R₀ τ η (.int f (t + 1)) e τ' η' ε (c0 τ'' η'' ε'' r) := by
    intro τ η f t e τ' η' ε τ'' η'' ε'' r hr3 hh1 hh2
    have h2' : ∀ i, i < 7 → (instE i τ' η').map (·.hash) = (instE i τ' η').map (fun e => hP P e.key) := fun i hi => by
      simp only [Prod.mk.injEq] at hh2
      obtain ⟨w0, w1, w2, w3, w4⟩ := hh2
      match i, hi with
      | 0, _ => exact w0
      | 1, _ => exact w0
      | 2, _ => exact w1
      | 3, _ => exact w1
      | 4, _ => exact w2
      | 5, _ => exact w3
      | 6, _ => exact w4
    refine from12 ((V.i5).imp fun n => Exists.imp fun hs q => q P b c xs p3) ((V.i6).imp fun n => Exists.imp fun hs q => q P b c xs p3) O F xs hx hd hl hi τ η _ e τ' η' ε _ (fun B' g τ2 η2 e2 dA deeds dE q1 q2 q3 => ?_)
    refine lawLoop (G := Gof kt P b c xs [(claimC, p3)]) ((V.l1).imp fun n => Exists.imp fun hs => Exists.imp fun n2 => Exists.imp fun hs2 q => q P b c xs p3) (fun B p => V.turn P b c xs _ _ p p3)
      (fun B p => (V.l2).imp fun n => Exists.imp fun hs q => q P b c xs _) (fun B B' p p1 => V.ask P b c xs _ fun {E} q => q.1 P b c xs _ _ _ _ _ _ _ _ _ _)
      (fun B B' B'' p p1 fa p2 => V.same P b c xs _ fun {E} q => q.1 P b c xs _ _ _ _ _ _ _ _ _ _ _ _ _)
      (g.ok O) (g.fits F) _ (inv0 (g.fits F) τ2 η2 _ τ' η' ε τ'' η'' ε'' r hr3 e2 dA deeds dE hh1 h2') rfl q1 q2 q3 (fun B'' g'' D' X' I' L => ?_)
    refine lawEnd (G := Gof kt P b c xs [(claimC, p3)]) (V.end' P b c xs p3) (fun B p => V.comp P b c xs _ _ p p3) (fun B B' p w p1 => V.ask P b c xs _ fun {E} q => q.2 P b c xs _ _ _ _ _ _ _ _ _ _ _ _ _)
      (fun B B' B'' p w p1 fa p2 => V.same P b c xs _ fun {E} q => q.2 P b c xs _ _ _ _ _ _ _ _ _ _ _ _ _ _ _ _)
      (g''.ok (g.ok O)) (g''.fits (g.fits F)) q2 D' X' I' L (fun B3 g3 => K B3 ((g.trans g'').trans g3))
  have S9 : ∀ (τ : Nat → Nat) (η : Nat → Int) (f : Int) (t e : Nat) (τ'' : Nat → Nat → Nat) (η'' : Nat → Nat → Int) (ε'' : Nat → Nat) (r : Nat), r < 3 →
      [η'' 141 0, η'' 144 0, η'' 147 0, η'' 148 0] = [hP P (.str ⟨⟨[97]⟩⟩ 0), hP P (.str ⟨⟨[97]⟩⟩ 0), hP P (.str ⟨⟨[97]⟩⟩ 0), hP P (.str ⟨⟨[88]⟩⟩ 0)] → ∀ p m tk,
      MnC B R₀ ⟨cF B (Gof kt P b c xs [(claimC, p3)]), .base, restOf (cF B (Gof kt P b c xs [(claimC, p3)])) 9, p, rowT (row 0 529 (fob (beg τ η (.int f (t + 1)) (begP τ η)) e) :: row 2 531 (cellS 680) :: row 3 532 cellO :: row 4 533 cellO :: row 5 534 cellO :: listsR (handR (c0 τ'' η'' ε'' r) [])), m, 681, tk + 1046⟩ := by
    intro τ η f t e τ'' η'' ε'' r hr3 hh1 p m tk
    obtain ⟨n4, hs4, h4⟩ := V.i4
    have e4 := h4 P b c xs p3 B τ η f t e (c0 τ'' η'' ε'' r) p tk
    refine .anyM 256 (segS_to O F true n4 _ _ _ p _ 256 _ _ hs4 _ _ _ _ 726 (congrArg Prod.fst e4) fun p m tk => ?_)
    exact S12 _ _ f t _ _ _ _ τ'' η'' ε'' r hr3 hh1 (congrArg Prod.snd e4) p m tk
  have S7 : ∀ (τ : Nat → Nat) (η : Nat → Int) (f : Int) (t e : Nat) p m tk,
      MnC B R₀ ⟨cF B (Gof kt P b c xs [(claimC, p3)]), .base, restOf (cF B (Gof kt P b c xs [(claimC, p3)])) 7, p, rowT (row 0 529 (fob (beg τ η (.int f (t + 1)) (begL τ η)) e) :: row 2 531 cellO :: row 3 532 cellO :: row 4 533 cellO :: row 5 534 cellO :: listsR []), m, 669, tk + 1046⟩ := by
    intro τ η f t e p m tk
    have r0 : 0 ≤ Int.fmod f 3 := Int.fmod_nonneg_of_pos f (by decide)
    have r1 : Int.fmod f 3 < 3 := Int.fmod_lt_of_pos f (by decide)
    obtain ⟨r, hr⟩ := Int.eq_ofNat_of_zero_le r0
    have hr3 : r < 3 := by omega
    obtain ⟨n3, hs3, h3⟩ := V.i3 r hr3
    have e3 := h3 P b c xs p3 B τ η f t e hr p tk
    refine .anyM 256 (segS_to O F true n3 _ _ _ p _ 256 _ _ hs3 _ _ _ _ 681 (congrArg Prod.fst e3) fun p m tk => ?_)
    exact S9 _ _ f t _ _ _ _ r hr3 (congrArg Prod.snd e3) p m tk
  -- from statement 1 on
  have S1 : ∀ (τ : Nat → Nat) (η : Nat → Int) (f : Int) (t e : Nat) p m tk, MnC B R₀ ⟨cF B (Gof kt P b c xs [(claimC, p3)]), .base, restOf (cF B (Gof kt P b c xs [(claimC, p3)])) 1, p, rowT (begR τ η (.int f (t + 1)) e), m, 535, tk + 1046⟩ := by
    intro τ η f t e p m tk
    obtain ⟨n2, hs2, h2⟩ := V.i2 c
    refine .anyM 256 (segS_to O F true n2 _ _ _ p _ 256 _ _ hs2 _ _ _ _ 669 (h2 P b xs p3 B τ η f t e p tk) fun p m tk => ?_)
    exact S7 _ _ f t _ p m tk
  intro p m tk
  cases xs with
  | nil =>
    obtain ⟨n1, hs1, h1⟩ := V.i1
    exact .anyM 256 (segS_to O F true n1 _ _ _ p _ 256 _ _ hs1 _ _ _ _ 535 (h1 P b c p3 B p tk) (S1 _ _ _ _ _))
  | cons v l =>
    obtain ⟨f, t, rfl⟩ := hi v List.mem_cons_self
    obtain ⟨n1, hs1, h1⟩ := V.i1'
    have hl' : l.length ≤ 62 := by simpa using hl
    refine MnC.note (l := []) 1000 528 (lob ⟨.int f (t + 1) :: l⟩ 0) (by decide) hx ?_
    exact .anyM 256 (segS_to O F true n1 _ _ _ p _ 256 _ _ hs1 _ _ _ _ 535 (h1 P b c (.int f (t + 1) :: l) p3 B l f t l.length rfl (by show ((l.length + 1 : Nat) : Int) < 2 ^ 63; omega) rfl p tk) (S1 _ _ _ _ _))
end
end Mine
end

section
open PySem PySem.Spec PySem.Calls PyProof.Rows PySem.W PySem.W.X PySem.W.ZRun
namespace Mine
/-! the beginning and the end of all -/
theorem lay_ints_vals {R : WRecords} {cl : Str → Option Addr} {P : Params} {ord : List DictEntry → List DictEntry} : ∀ (ns : List Int) (s : Shared) (r : List Value × Shared), 1 ≤ s.toks → layAllW R cl P ord (ofPys (ns.map PyData.int)) s = some r → r.1.length = ns.length ∧ ∀ v ∈ r.1, ∃ (n : Int) (t : Nat), v = .int n (t + 1)
  | [], s, r, _, e => by
    have : layAllW R cl P ord (ofPys (List.map PyData.int [])) s = some ([], s) := by simp [ofPys, layAllW]
    rw [this] at e
    cases e; exact ⟨rfl, fun v hv => by cases hv⟩
  | n :: ns, s, r, h, e => by
    simp only [List.map_cons, ofPys, ofPy, layAllW, layW] at e
    cases q : layAllW R cl P ord (ofPys (List.map PyData.int ns)) { s with toks := s.toks + 1 } with
    | none => rw [q] at e; cases e
    | some r' =>
      rw [q] at e
      cases e
      have z := lay_ints_vals ns { s with toks := s.toks + 1 } r' (Nat.le_add_left _ _) q
      refine ⟨by simp [z.1], fun v hv => ?_⟩
      rcases List.mem_cons.mp hv with rfl | hv
      · obtain ⟨k, hk⟩ : ∃ k, s.toks = k + 1 := ⟨s.toks - 1, by omega⟩
        exact ⟨n, k, by rw [hk]⟩
      · exact z.2 v hv
theorem script_vals {R : WRecords} {w : World} {s₀ s₁ : Shared} {ns : List Int} {a : Addr} {as : List Addr} (L : Laid R w s₀ s₁ [ofPy (PyData.list (ns.map PyData.int))] [.ref a] as) (ht : 1 ≤ s₀.toks) :
    ∃ vs : List Value, s₁.heap.get? a = some (scriptO vs) ∧ vs.length = ns.length ∧ ∀ v ∈ vs, ∃ (n : Int) (t : Nat), v = .int n (t + 1) := by
  obtain ⟨ord, _, e⟩ := L.laid
  simp only [ofPy, layAllW, layW] at e
  cases q : layAllW R (classAt s₀.heap) w.params ord (ofPys (List.map PyData.int ns)) s₀ with
  | none => rw [q] at e; cases e
  | some r =>
    rw [q] at e
    simp only [Option.some.injEq, Prod.mk.injEq, List.cons.injEq, Value.ref.injEq] at e
    obtain ⟨⟨ea, _⟩, es⟩ := e
    have z := lay_ints_vals ns s₀ r ht q
    refine ⟨r.1, ?_, z.1, z.2⟩
    rw [← es, ← ea]
    exact Heap.get?_push_size _ rfl
section
variable {B : Bx} {R₀ : Result → Shared → Prop} {n₀ : Nat}
theorem MnC.less {B' : Bx} {c : Code} {κ : Kn} {t : Sem PySem.Fin} {p : Pos} {m sz tk : Nat} (g : Grow B B') (H : MnC B R₀ ⟨c, κ, t, p, .nil, m, sz, tk⟩) : MnC B' R₀ ⟨c, κ, t, p, .nil, m, sz, tk⟩ := by
  rcases g with rfl | ⟨F, rfl⟩
  · exact H
  · intro h D
    have z := Rp.start B h (fun b o e => D.keep b o (.inl e))
    have hs : h.objs.size = sz := D.size
    rw [hs] at z
    exact H h z
theorem enter0 (o : Out) (h1 : isC o.cf.t = true) (h2 : callC o.cf.t = lawC) (h3 : o.cf.T = .nil) (h4 : o.cf.sz = 529) (h5 : Nat.ble 1046 o.cf.tk = true) (h6 : o.cf.c = claimC) (h7 : o.cf.κ = .base)
    (H : B.at o.cf = B.within claimC o.cf.p → ∀ m tk, MnC (B.within claimC o.cf.p) (Ret B R₀ o.cf) ⟨lawC, .base, dQ lawC, o.cf.p, .nil, m, 529, tk + 1046⟩) : MnC B R₀ o.cf := by
  refine mnc_enter o.cf h1 ?_
  have hB : B.at o.cf = B.within claimC o.cf.p := by
    unfold Bx.at
    rw [h6, h7]; rfl
  obtain ⟨k, hk⟩ : ∃ k, o.cf.tk = k + 1046 := ⟨o.cf.tk - 1046, (Nat.sub_add_cancel (Nat.le_of_ble_eq_true h5)).symm⟩
  have H := H hB o.cf.m k
  rw [← hB] at H
  rw [h2, h3, h4, hk]
  exact H
theorem MnC.ends (cf : Cf) (h1 : cf.κ = .base) (h2 : cf.t = .pure (.done (.ret (.bool true)))) (H : ∀ h tk, (∀ b o, B.fz b o → h.get? b = some o) → R₀ (.ok (.ret (.bool true))) (B.shr h tk)) : MnC B R₀ cf := by
  obtain ⟨c, κ, t, p, T, m, sz, tk⟩ := cf
  cases h1
  cases h2
  exact MnC.done fun h D => H h tk D.keep
theorem start {kt : Params → KT} (V : Evs kt) {P : Params} {b c : Bool} {xs : List Value} (O : B.Ok (n₀ + 6)) (F : (Gof kt P b c xs []).Fits B)
    (hx : B.fz 528 (lob ⟨xs⟩ 0)) (hd : B.fz 496 (lob docV 0)) (hl : xs.length ≤ 63) (hi : ∀ v ∈ xs, ∃ (n : Int) (t : Nat), v = .int n (t + 1))
    (K : ∀ h tk, (∀ b o, B.fz b o → h.get? b = some o) → R₀ (.ok (.ret (.bool true))) (B.shr h tk)) : ∀ tk, MnC B R₀ ⟨claimC, .base, tree0, default, .nil, 256, 529, tk + 1046⟩ := by
  intro tk
  obtain ⟨n, hs, n2, hs2, q0, q9⟩ := V.i0
  have e := q0 P b c xs B tk
  have e9 := q9 P b c xs B tk
  refine run_to O F true n claimC .base tree0 default .nil 256 529 (tk + 1046) hs [] (congrArg Prod.fst e) ?_
  revert e e9
  generalize run B (Gof kt P b c xs []) true n claimC .base tree0 default .nil 256 529 (tk + 1046) hs [] [] = o
  intro e e9
  simp only [Prod.mk.injEq] at e
  obtain ⟨_, h1, h2, _, h3, h4, h5, h6, h7⟩ := e
  refine enter0 o h1 h2 h3 (Nat.eq_of_beq_eq_true h4) h5 h6 h7 fun hB m tk' => ?_
  refine lawSpec (n₀ := n₀) V (O.within claimC o.cf.p) (F.within claimC o.cf.p) hx hd hl hi (fun B' g c' p' m' y tk2 => ?_) o.cf.p m tk'
  refine MnC.less g ?_
  rw [← hB]
  refine MnC.back (m' := 256) ?_
  have e9 := e9 .nil 256 (y + 730) (tk2 + 1046)
  refine run_to O F true n2 o.cf.c o.cf.κ _ o.cf.p .nil 256 (y + 730) (tk2 + 1046) hs2 [] (congrArg Prod.fst e9) ?_
  exact MnC.ends _ (congrArg (fun z => z.2.1) e9) (congrArg (fun z => z.2.2.1) e9) K
end
end Mine
end

section
open PySem PySem.Spec PySem.Calls PyProof.Rows PySem.W PySem.W.X PySem.W.ZRun
namespace Mine
/-- the law's own doc list -/
theorem doc_at : ∀ (P : Params), (ktM P).get 496 = some (lob docV 0) := by
  repeat intro _
  kernel_rfl
set_option maxHeartbeats 0 in
theorem mainWalk (V : Evs ktM) : WalkT ktM := by
  intro w s0 s1 args vals as hg L hpre hlay ZH ZN ZT
  have hrd := L.reads
  have hwl := L.well
  have hlo : ∀ a ∈ as, (a == sysModules) = false := L.low (by rw [ZN]; decide)
  wrow_args hpre hlay hrd hwl hlo
  obtain ⟨hat, hsz⟩ := script_at L
  have htk := script_toks L ZT
  obtain ⟨vs, hv, hvl, hvi⟩ := script_vals L (by omega)
  rw [ZN] at hat hsz
  subst hat
  have hle : vs.length ≤ 63 := by omega
  let P := w.params
  let G : Gx := Gof ktM P (P.followText "special-get-raises") (P.followText "comprehension-iter-twice") vs []
  let B : Bx := { prog := PySem.Challenge.pw_be5011_01, w := w, fz := fun a o => s1.heap.get? a = some o, kt := KT.put 40 (ktM P) 528 (scriptO vs), d := s1.drawn, os := s1.os, acts := [] }
  have HK : KT.Holds s1.heap 1 0 (KT.put 40 (ktM P) 528 (scriptO vs)) := KT.Holds.put 40 ZH (by rw [Nat.one_mul, Nat.add_zero]; exact hv)
  have O : B.Ok (0 + 6) := ⟨fun a o e => kt_at HK e, by show 0 + 620 * (0 + 6) ≤ 4000; decide⟩
  have F : G.Fits B := ⟨rfl, (turned_eq P).symm, rfl, rfl⟩
  have hd : B.fz 496 (lob docV 0) := kt_at ZH (doc_at P)
  obtain ⟨k, hk⟩ : ∃ k, s1.toks = k + 1046 := ⟨s1.toks - 1046, by omega⟩
  have hs1 : s1 = B.shr s1.heap (k + 1046) := by
    show s1 = ⟨s1.heap, #[], s1.drawn, k + 1046, s1.os⟩
    rw [← hg, ← hk]
  have key : ∀ R : Result → Shared → Prop, (∀ h tk, (∀ b o, B.fz b o → h.get? b = some o) → R (.ok (.ret (.bool true))) (B.shr h tk)) → RunsTo PySem.Challenge.rw_be5011_01.row.prog w (callTree PySem.Challenge.rw_be5011_01.row.name [Value.ref 528]) R s1 := fun R K => by
    have z := start (n₀ := 0) (B := B) (R₀ := R) V O F hv hd hle hvi K k s1.heap (by have := Rp.start B s1.heap (fun b o e => e); rw [hsz] at this; exact this)
    rw [hs1]
    exact z
  refine key _ (fun h tk keep => ?_)
  refine ⟨.inl ⟨_, .bool true, [], rfl, raisesW_false (by wrow_none_raised), .bool true, ?_, fun _ => ⟨List.nodup_nil, fun a ha => by cases ha⟩⟩, .of_keep keep, rfl, .empty⟩
  wrow_post
end Mine
end

theorem PySem.Challenge.cw_be5011_01_holds : PySem.Challenge.rw_be5011_01.Holds :=
  Mine.topK.2 (Mine.mainWalk Mine.evs)
