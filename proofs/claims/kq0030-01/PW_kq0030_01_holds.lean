import PyProof.Rows.All
import Wide.All
import OpenK.AllK
import Wide.FinOn
import KE.KItem
import Lean
import PySem.Challenge.RW_kq0030_01
open PySem PySem.W PyProof.Rows PySem.Calls
set_option Elab.async false
set_option linter.unusedVariables false
-- MH
namespace Mine
set_option maxRecDepth 100000 in
set_option maxHeartbeats 8000000 in
open_top hd for PySem.Challenge.rw_kq0030_01
end Mine
-- MA
namespace Mine

noncomputable abbrev Kf (w : World) : Frag := hd.heap_39 w.params

/-- the ground: the written part and the names of the top -/
structure Gd (w : World) (G : Heap) : Prop where
  K : (Kf w).In G
  T : ∃ mg mb, TopRead hd.view_39 (looseW hd.view_39 [PySem.Str.ofString "Flags"]) mg mb G
theorem Gd.keeps {w : World} {G G' : Heap} (g : Gd w G) (hk : G.StaysIn G') : Gd w G' := by
  obtain ⟨K, mg, mb, T⟩ := g
  exact ⟨K.keeps hk, mg, mb, ⟨T.g.keeps hk, T.b.keeps hk, T.nolimit.keeps hk, T.builtins, T.free⟩⟩
theorem Gd.nolimit {w : World} {G : Heap} (g : Gd w G) : G.NoLimit := let ⟨_, _, _, T⟩ := g; T.nolimit

open Classical in
/-- a heap minusW the objects at W -/
noncomputable def minusW (h : Heap) (W : Addr → Prop) : Heap := ⟨h.objs.mapIdx fun i o => if W i then { o with data := .freed } else o, h.life⟩
theorem minusW_size (h : Heap) (W : Addr → Prop) : (minusW h W).objs.size = h.objs.size := by simp [minusW]
theorem minusW_get {h : Heap} {W : Addr → Prop} {b : Addr} {o : Obj} : (minusW h W).get? b = some o ↔ h.get? b = some o ∧ ¬ W b := by
  rw [Heap.get?_some_iff, Heap.get?_some_iff]
  simp only [minusW, Array.getElem?_mapIdx]
  cases hx : h.objs[b]? with
  | none => simp
  | some x =>
    by_cases hW : W b
    · simp only [Option.map_some, hW, if_true, Option.some.injEq, not_true_eq_false, and_false, iff_false]
      rintro ⟨rfl, hf⟩
      simp [Obj.isFreed] at hf
    · simp [hW]

/-- all but W stands -/
noncomputable def Kept (W : Addr → Prop) (h h' : Heap) : Prop := ∀ b o, ¬ W b → h.get? b = some o → h'.get? b = some o
theorem Kept.refl {W : Addr → Prop} {h : Heap} : Kept W h h := fun _ _ _ e => e
theorem Kept.trans {W : Addr → Prop} {h₁ h₂ h₃ : Heap} (x : Kept W h₁ h₂) (y : Kept W h₂ h₃) : Kept W h₁ h₃ := fun b o hb e => y b o hb (x b o hb e)
theorem Kept.mono {W W' : Addr → Prop} {h h' : Heap} (x : Kept W h h') (hw : ∀ b, W b → W' b) : Kept W' h h' := fun b o hb e => x b o (fun q => hb (hw b q)) e
theorem Kept.of_stays {W : Addr → Prop} {h h' : Heap} (x : h.StaysIn h') : Kept W h h' := fun b o _ e => x b o e
theorem Kept.of_sameBut {a : Addr} {h h' : Heap} (x : Heap.SameBut a h h') : Kept (· = a) h h' := fun b o hb e => (x.2 b hb).trans e
theorem Kept.of_extBut {a : Addr} {h h' : Heap} (x : Heap.ExtBut a h h') : Kept (· = a) h h' := fun b o hb e => x b o hb e
theorem Kept.of_push {W : Addr → Prop} {h : Heap} (o : Obj) : Kept W h (h.push o) := fun b o' _ e => Heap.get?_push_of_some o e
theorem Kept.of_minusW {W : Addr → Prop} {h h' : Heap} (x : (minusW h W).StaysIn h') : Kept W h h' := fun b o hb e => x b o (minusW_get.mpr ⟨e, hb⟩)
theorem Kept.stays {h h' : Heap} (x : Kept (fun _ => False) h h') : h.StaysIn h' := fun b o e => x b o id e

/- plain numbers, each said once: a proof by omega is long -/
theorem n_step {i n : Nat} (h : i < n) : n + 1 - (i + 1) < n + 1 - i := Nat.sub_lt_sub_left (Nat.lt_succ_of_lt h) (Nat.lt_succ_self i)
theorem n_end {i n : Nat} (h : i ≤ n) (h' : ¬ i < n) : i = n := Nat.le_antisymm h (Nat.le_of_not_lt h')
theorem n_back (n : Nat) : (-1 + ((n : Int) + 1)).toNat = n := by omega
theorem n_back2 (n : Nat) : (0 ≤ -1 + ((n : Int) + 1) ∧ -1 + ((n : Int) + 1) < (n : Int) + 1) ∧ (-1 + ((n : Int) + 1)).toNat = n := by omega
theorem n_one (i : Nat) : (0 + (i : Int) * 1) = (i : Int) := by omega
theorem u_less {a n m c : Nat} (h : a + n < c) (hm : m ≤ n) : a + m < c := Nat.lt_of_le_of_lt (Nat.add_le_add_left hm a) h
theorem n_minI {k : Int} (n : Nat) (h : ¬ k < 0) : min k (n : Int) = ((min k.toNat n : Nat) : Int) := by
  obtain ⟨m, rfl⟩ := Int.eq_ofNat_of_zero_le (Int.not_lt.mp h)
  rw [Int.toNat_natCast]
  rcases Nat.le_total m n with q | q
  · rw [Nat.min_eq_left q, Int.min_eq_left (Int.ofNat_le.mpr q)]
  · rw [Nat.min_eq_right q, Int.min_eq_right (Int.ofNat_le.mpr q)]
theorem n_le3 {n : Nat} {x : Int} (h : (n : Int) < x) (h' : x < 4) : n ≤ 3 := by omega
theorem n_toNat_le {n : Nat} {x : Int} (h : ¬ (n : Int) < x) : x.toNat ≤ n := by omega
theorem n_toNat3 {x : Int} (h : x < 4) : x.toNat ≤ 3 := by omega
theorem n_sz {a b p : Nat} (h : p ≤ 31) (ha : a = p) (hb : b = p) : a + b ≤ 16777216 := by
  subst ha hb
  exact Nat.le_trans (Nat.add_le_add h h) (by decide)
theorem n_sz3 {a b c p : Nat} (h : p ≤ 31) (ha : a = p) (hb : b = p) (hc : c = p) : a + b + c ≤ 16777216 := by
  subst ha hb hc
  exact Nat.le_trans (Nat.add_le_add (Nat.add_le_add h h) h) (by decide)

/-- what is asked of the end, under a name: the proof's terms stay small -/
theorem wpAny_abs {α : Type} {M : Model} {A : Around} {t : Sem α} {Q : α → Shared → Prop} {E : Value → Shared → Prop} {s : Shared} (h : let Q₀ := Q; let E₀ := E; wpAny M A t Q₀ E₀ s) : wpAny M A t Q E s := h

section
variable {prog : Program} {w : World} {A : Around} {s : Shared} {G : Heap} {R : Result → Shared → Prop}

theorem enter {name qual : PySem.Str} {params : Arguments} {body : List Stmt} {scope : Scope} {dV kV doc pm cdv ct oc : Value} {an od : Option Addr} {osl : Array (Option Value)} {f : Addr} {args : Args} {binds : List (PySem.Str × Value)}
    (W : Addr → Prop) (g : Gd w G) (hk : G.StaysIn s.heap) (hW : ∀ b, W b → G.get? b = none)
    (ho : (Kf w).lookup f = some ⟨oc, od, .func (fnOf name qual params body scope dV kV doc pm an cdv ct), osl⟩) (hcd : codeIn (Kf w) cdv qual = true) (hroom : A.depth < recursionLimit)
    (hbind : BindsTo s (fnOf name qual params body scope dV kV doc pm an cdv ct) args binds) (hloc : ∀ y ∈ binds, scope.names.lookup y.1 = some .local)
    (h : ∀ L h₁, s.heap.get? L = none → L = s.heap.objs.size → Gd w (minusW s.heap W) → Fr (minusW s.heap W) L h₁ (fun y => binds.reverse.lookup y) → s.heap.StaysIn h₁ →
      wpAny (model prog w) (A.deeper (envOf qual scope L f cdv)) (execs body (envOf qual scope L f cdv))
        (fun fl s' => R (.ok (.ret (match fl with | .ret v => v | _ => .none))) s')
        (fun e s' => wpAny (model prog w) (A.deeper (envOf qual scope L f cdv)) (leaving (envOf qual scope L f cdv) e) (fun _ s'' => R (.error e) s'') (fun e' s'' => R (.error e') s'') s')
        { s with heap := h₁, toks := s.toks + binds.length })
    (hco : scope.isCoroutine = false := by rfl) (hgen : scope.isGenerator = false := by rfl) (hkn : scope.kind = .function := by rfl)
    (hcell : ∀ x ∈ scope.names, x.2 ≠ .cell := by decide) : codeAny (model prog w) A (.call (.ref f) args) R s := by
  have gW : Gd w (minusW s.heap W) := g.keeps fun b o e => minusW_get.mpr ⟨hk b o e, fun q => by rw [hW b q] at e; cases e⟩
  refine codeAny_call_def (fd := fnOf name qual params body scope dV kV doc pm an cdv ct) (body := body) (binds := binds) hroom (hk _ _ (g.K _ _ ho)) rfl (g.nolimit.keeps hk)
    (codeRec_of (g.K.keeps hk) hcd) rfl hbind hcell hloc (fun h₁ hns hk₁ => ?_) hco hgen hkn
  refine h _ h₁ ?_ rfl gW ⟨hns, fun b o e => hk₁ b o (minusW_get.mp e).1, Nat.le_of_eq (minusW_size _ _)⟩ hk₁
  cases q : s.heap.get? s.heap.objs.size with
  | none => rfl
  | some o => exact absurd (Heap.lt_size q) (Nat.lt_irrefl _)
end
end Mine
-- MB
namespace Mine

/-- a frame over a ghost heap: what G holds, stands; the frame's own names are m -/
structure Fq (w : World) (G : Heap) (L : Addr) (h : Heap) (m : PySem.Str → Option Value) : Prop where
  ns : h.Ns L m
  keep : G.StaysIn h
  off : G.get? L = none
  gd : ∃ G0, Gd w G0 ∧ G0.StaysIn G ∧ G0.objs.size ≤ L

section
variable {w : World} {G h h' : Heap} {L : Addr} {m m' : PySem.Str → Option Value}
theorem Fq.g (F : Fq w G L h m) : Gd w G := let ⟨_, g, k, _⟩ := F.gd; g.keeps k
theorem Fq.fr (F : Fq w G L h m) : ∃ G0, Gd w G0 ∧ Fr G0 L h m := let ⟨G0, g, k, l⟩ := F.gd; ⟨G0, g, F.ns, fun b o e => F.keep b o (k b o e), l⟩
theorem Fq.keeps (F : Fq w G L h m) (k : h.StaysIn h') : Fq w G L h' m := ⟨F.ns.keeps k, fun b o e => k b o (F.keep b o e), F.off, F.gd⟩
theorem Fq.set (F : Fq w G L h m) (hn : h'.Ns L m') (hs : Heap.SameBut L h h') : Fq w G L h' m' :=
  ⟨hn, fun b o e => (hs.2 b (fun q => by rw [q, F.off] at e; cases e)).trans (F.keep b o e), F.off, F.gd⟩
theorem Fq.kept {W : Addr → Prop} (F : Fq w G L h m) (k : Kept W h h') (hL : ¬ W L) (hW : ∀ b, W b → G.get? b = none) : Fq w G L h' m :=
  ⟨F.ns.at' fun o e => k L o hL e, fun b o e => k b o (fun q => by rw [hW b q] at e; cases e) (F.keep b o e), F.off, F.gd⟩
theorem Fq.of_fr {L : Addr} (g : Gd w G) (F : Fr G L h m) (hL : G.get? L = none) : Fq w G L h m := ⟨F.ns, F.keep, hL, G, g, fun _ _ e => e, F.above⟩
/-- a new ghost: all of the heap but the frame's names and W -/
theorem Fq.rebase (F : Fq w G L h m) (W : Addr → Prop) (hW : ∀ b, W b → G.get? b = none) : Fq w (minusW h (fun b => b = L ∨ W b)) L h m ∧ G.StaysIn (minusW h (fun b => b = L ∨ W b)) := by
  have sub : G.StaysIn (minusW h (fun b => b = L ∨ W b)) := fun b o e => minusW_get.mpr ⟨F.keep b o e, fun q => by
    rcases q with rfl | q
    · rw [F.off] at e; cases e
    · rw [hW b q] at e; cases e⟩
  obtain ⟨G0, g, k, l⟩ := F.gd
  refine ⟨⟨F.ns, fun b o e => (minusW_get.mp e).1, ?_, G0, g, fun b o e => sub b o (k b o e), l⟩, sub⟩
  cases q : (minusW h (fun b => b = L ∨ W b)).get? L with
  | none => rfl
  | some o => exact absurd (.inl rfl) (minusW_get.mp q).2
theorem Fq.lt (F : Fq w G L h m) : L < h.objs.size := F.ns.lt
theorem Fq.ne {b : Addr} {o : Obj} (F : Fq w G L h m) (e : G.get? b = some o) : b ≠ L := fun q => by rw [q, F.off] at e; cases e
end

section
variable {prog : Program} {w : World} {A : Around} {E : Value → Shared → Prop} {s : Shared} {G : Heap} {L f : Addr} {m : PySem.Str → Option Value} {cn : PySem.Str} {cs : Scope} {ccd : Value} {cl : List (PySem.Str × Addr)} {x : PySem.Str} {pos : Pos} {v : Value}

theorem q_ld {Q : Value → Shared → Prop} (F : Fq w G L s.heap m) (hv : m x = some v) (h : Q v s)
    (hk : cs.kind = .function := by rfl) (hx : (envX cn cs L f ccd cl).kindOf x = some .local := by rfl) (hd : (x == ("__debug__" : PySem.Str)) = false := by decide) :
    wpAny (model prog w) A (eval (.Name x pos) (envX cn cs L f ccd cl)) Q E s := wpAny_Name (wpAny_loadName_local hk hx F.ns hv h) hd
theorem q_st {Q : Unit → Shared → Prop} (F : Fq w G L s.heap m)
    (h : ∀ h' tk, Fq w G L h' (fun y => if y = x then some v else m y) → Heap.SameBut L s.heap h' → Q () { s with heap := h', toks := tk })
    (hk : cs.kind = .function := by rfl) (hx : (envX cn cs L f ccd cl).kindOf x = some .local := by rfl) : wpAny (model prog w) A (storeName (envX cn cs L f ccd cl) x v) Q E s :=
  wpAny_storeName_local hx F.ns (fun h' hn hs => h h' _ (F.set hn hs) hs) (by show (cs.kind == .class || (cs.kind == .module && L != mainGlobals)) = false; rw [hk]; rfl)
theorem q_glob {Q : Value → Shared → Prop} (F : Fq w G L s.heap m) (e : nsIn (hd.heap_39 w.params) mainGlobals x = some (some v)) (h : Q v s)
    (hk : cs.kind = .function := by rfl) (hx : (envX cn cs L f ccd cl).kindOf x = some .globalImplicit := by rfl) (hd : (x == ("__debug__" : PySem.Str)) = false := by decide) :
    wpAny (model prog w) A (eval (.Name x pos) (envX cn cs L f ccd cl)) Q E s := by
  obtain ⟨G0, g, Fr⟩ := F.fr
  obtain ⟨K, mg, mb, T⟩ := g
  exact nameX_K Fr K T e h hk hx hd
theorem q_bi {Q : Value → Shared → Prop} (F : Fq w G L s.heap m) (e : nsIn (hd.heap_39 w.params) mainGlobals x = some none) (hv : bootBuiltins x = some v) (hn : x ≠ "__name__") (h : Q v s)
    (hk : cs.kind = .function := by rfl) (hx : (envX cn cs L f ccd cl).kindOf x = some .globalImplicit := by rfl) (hd : (x == ("__debug__" : PySem.Str)) = false := by decide) :
    wpAny (model prog w) A (eval (.Name x pos) (envX cn cs L f ccd cl)) Q E s := by
  obtain ⟨G0, g, Fr⟩ := F.fr
  obtain ⟨K, mg, mb, T⟩ := g
  exact nameX_B Fr K T e hv hn h hk hx hd
end

/-- a machine's object: its two fields -/
structure Mc where
  x : Addr
  dx : Addr
  root : Addr
  pend : Addr
noncomputable def Inst (h : Heap) (c : Mc) : Prop := ∃ sl h1 h2 t1 t2 n, h.get? c.x = some ⟨.ref 66, some c.dx, .plain, sl⟩ ∧
  h.get? c.dx = some (dictOf [⟨h1, .str "_flags" t1, .ref c.root⟩, ⟨h2, .str "_pending_flags" t2, .ref c.pend⟩] n)
theorem Inst.keeps {h h' : Heap} {c : Mc} (i : Inst h c) (k : h.StaysIn h') : Inst h' c := by
  obtain ⟨sl, h1, h2, t1, t2, n, a, b⟩ := i
  exact ⟨sl, h1, h2, t1, t2, n, k _ _ a, k _ _ b⟩

section
variable {prog : Program} {w : World} {A : Around} {E : Value → Shared → Prop} {s : Shared} {G : Heap} {L : Addr} {m : PySem.Str → Option Value}
theorem pg_flags (w : World) : plainGet (hd.heap_39 w.params) 66 "_flags" = true := by kernel_rfl
theorem hdict (w : World) : hasDictIn (hd.heap_39 w.params) 66 = true := by kernel_rfl
theorem fi_flags (w : World) : findIn (hd.heap_39 w.params) (.ref 66) "_flags" = some none := by kernel_rfl
theorem pg_pend (w : World) : plainGet (hd.heap_39 w.params) 66 "_pending_flags" = true := by kernel_rfl
theorem fi_pend (w : World) : findIn (hd.heap_39 w.params) (.ref 66) "_pending_flags" = some none := by kernel_rfl

theorem get_flags {c : Mc} {expr : Bool} {Q : Value → Shared → Prop} (F : Fq w G L s.heap m) (i : Inst s.heap c) (h : ∀ tk, Q (.ref c.root) { s with toks := tk }) :
    wpAny (model prog w) A (getAttr (.ref c.x) "_flags" expr) Q E s := by
  obtain ⟨sl, h1, h2, t1, t2, n, a, b⟩ := i
  obtain ⟨G0, g, Fr⟩ := F.fr
  exact get_own (n := n) Fr g.K ⟨a, rfl, rfl, b⟩ (pg_flags w) (hdict w) (fi_flags w) rfl (by rfl) rfl (h _)
theorem get_pend {c : Mc} {expr : Bool} {Q : Value → Shared → Prop} (F : Fq w G L s.heap m) (i : Inst s.heap c) (h : ∀ tk, Q (.ref c.pend) { s with toks := tk }) :
    wpAny (model prog w) A (getAttr (.ref c.x) "_pending_flags" expr) Q E s := by
  obtain ⟨sl, h1, h2, t1, t2, n, a, b⟩ := i
  obtain ⟨G0, g, Fr⟩ := F.fr
  exact get_own (n := n) Fr g.K ⟨a, rfl, rfl, b⟩ (pg_pend w) (hdict w) (fi_pend w) rfl (by rfl) rfl (h _)
end
end Mine
-- MC
namespace Mine

/-- nothing outside the heap has turned but what no claim asks of -/
noncomputable def SameX (s s' : Shared) : Prop := s'.os = s.os ∧ s'.gens = s.gens
theorem SameX.refl {s : Shared} : SameX s s := ⟨rfl, rfl⟩
theorem SameX.trans {s₁ s₂ s₃ : Shared} (x : SameX s₁ s₂) (y : SameX s₂ s₃) : SameX s₁ s₃ := ⟨y.1.trans x.1, y.2.trans x.2⟩

section
variable {prog : Program} {w : World} {A : Around} {E : Value → Shared → Prop} {s : Shared} {G : Heap} {L : Addr} {m : PySem.Str → Option Value} {R : Result → Shared → Prop} {env : Env}

theorem forL {target : Expr} {body : List Stmt} {I : Addr} {fp wr : List Addr} {n : Nat} {P : Nat → Value → Prop} {St : Nat → Heap → Prop} (W : Walks prog w A I fp wr n P St)
    (hgo : ∀ i (s : Shared) v (Q : Unit → Shared → Prop) (E : Value → Shared → Prop), St i s.heap → Q () s → wpAny (model prog w) A (letOwnedTupleGo target (.ref I) v) Q E s)
    (J : Nat → Shared → Prop) (hst : St 0 s.heap) (h0 : J 0 s)
    (step : ∀ i v s₀ h' tk, i < n → P i v → J i s₀ → St (i + 1) h' → (∀ b o, b ∉ wr → s₀.heap.get? b = some o → h'.get? b = some o) →
      wpAny (model prog w) A (assign target env v) (fun _ s₂ => wpAny (model prog w) A (execs body env) (fun f s₃ => match f with
          | .next | .cont => J (i + 1) s₃ ∧ St (i + 1) s₃.heap
          | .brk => R (.ok .next) s₃
          | .ret v => R (.ok (.ret v)) s₃) (notedBy (model prog w) A env fun e s' => R (.error e) s') s₂) (notedBy (model prog w) A env fun e s' => R (.error e) s') { s₀ with heap := h', toks := tk })
    (done : ∀ s₀ h' tk, J n s₀ → (∀ b o, b ∉ wr → s₀.heap.get? b = some o → h'.get? b = some o) → R (.ok .next) { s₀ with heap := h', toks := tk }) :
    codeAny (model prog w) A (.forLoop target (.ref I) body [] env) R s := by
  refine codeAny_forLoop_any (fun k s' => ∃ i, J i s' ∧ St i s'.heap ∧ i ≤ n ∧ k = n + 1 - i) ?_ (n + 1) ⟨0, h0, hst, Nat.zero_le _, rfl⟩
  rintro k s' ⟨i, hJ, hS, hi, rfl⟩
  by_cases hlt : i < n
  · refine W.item i _ _ _ hlt hS fun v h' tk hP hS' hk => ?_
    refine hgo (i + 1) _ _ _ _ hS' ?_
    refine wpAny_mono (step i v s' h' tk hlt hP hJ hS' hk) (fun _ s₂ h₂ => wpAny_mono h₂ (fun f s₃ h₃ => ?_) fun _ _ e => e) fun _ _ e => e
    cases f with
    | next => exact ⟨n + 1 - (i + 1), n_step hlt, i + 1, h₃.1, h₃.2, hlt, rfl⟩
    | cont => exact ⟨n + 1 - (i + 1), n_step hlt, i + 1, h₃.1, h₃.2, hlt, rfl⟩
    | brk => exact h₃
    | ret v => exact h₃
  · have : i = n := n_end hi hlt
    subst this
    exact W.done _ _ _ hS fun h' tk hk => wpAny_execs_nil (done s' h' tk hJ hk)

/-- a loop whose body stores the frame's own names alone -/
theorem forQ {target : Expr} {body : List Stmt} {I : Addr} {fp wr : List Addr} {n : Nat} {P : Nat → Value → Prop} {St : Nat → Heap → Prop} (W : Walks prog w A I fp wr n P St)
    (hgo : ∀ i (s : Shared) v (Q : Unit → Shared → Prop) (E : Value → Shared → Prop), St i s.heap → Q () s → wpAny (model prog w) A (letOwnedTupleGo target (.ref I) v) Q E s)
    (F : Fq w G L s.heap m) (hst : St 0 s.heap) (hwr : ∀ b ∈ wr, G.get? b = none) (hLf : L ∉ fp) (Jm : Nat → (PySem.Str → Option Value) → Prop) (h0 : Jm 0 m)
    (step : ∀ i v G' s₁ m₁, i < n → P i v → Jm i m₁ → Fq w G' L s₁.heap m₁ → G.StaysIn G' → SameX s s₁ →
      wpAny (model prog w) A (assign target env v) (fun _ s₂ => wpAny (model prog w) A (execs body env) (fun f s₃ => match f with
          | .next | .cont => (∃ m₂, Fq w G' L s₃.heap m₂ ∧ Jm (i + 1) m₂) ∧ SameX s₁ s₃
          | .brk => R (.ok .next) s₃
          | .ret v => R (.ok (.ret v)) s₃) (notedBy (model prog w) A env fun e s' => R (.error e) s') s₂) (notedBy (model prog w) A env fun e s' => R (.error e) s') s₁)
    (done : ∀ s₁ m₁, Jm n m₁ → Fq w G L s₁.heap m₁ → SameX s s₁ → R (.ok .next) s₁) :
    codeAny (model prog w) A (.forLoop target (.ref I) body [] env) R s := by
  have hLw : L ∉ wr := fun q => hLf (W.sub _ q)
  refine forL W hgo (fun i s₁ => ∃ m₁, Fq w G L s₁.heap m₁ ∧ Jm i m₁ ∧ SameX s s₁) hst ⟨m, F, h0, .refl⟩ ?_ ?_
  · rintro i v s₀ h' tk hi hP ⟨m₁, F₁, hJ, hX⟩ hS hk
    have F₂ : Fq w G L h' m₁ := F₁.kept (W := fun b => b ∈ wr) (fun b o hb e => hk b o hb e) hLw hwr
    obtain ⟨F₃, hsub⟩ := F₂.rebase (fun _ => False) (fun _ q => q.elim)
    refine wpAny_mono (step i v _ { s₀ with heap := h', toks := tk } m₁ hi hP hJ F₃ hsub hX) (fun _ s₂ h₂ => wpAny_mono h₂ (fun f s₃ h₃ => ?_) fun _ _ e => e) fun _ _ e => e
    have fin : (∃ m₂, Fq w (minusW h' fun b => b = L ∨ False) L s₃.heap m₂ ∧ Jm (i + 1) m₂) ∧ SameX { s₀ with heap := h', toks := tk } s₃ →
        (∃ m₁, Fq w G L s₃.heap m₁ ∧ Jm (i + 1) m₁ ∧ SameX s s₃) ∧ St (i + 1) s₃.heap := by
      rintro ⟨⟨m₂, F₄, hJ'⟩, hX'⟩
      refine ⟨⟨m₂, ⟨F₄.ns, fun b o e => F₄.keep b o (hsub b o e), F.off, F.gd⟩, hJ', hX.trans hX'⟩, ?_⟩
      refine W.frame _ _ _ hS fun b hb o e => F₄.keep b o (minusW_get.mpr ⟨e, ?_⟩)
      rintro (rfl | q)
      · exact hLf hb
      · exact q
    cases f with
    | next => exact fin h₃
    | cont => exact fin h₃
    | brk => exact h₃
    | ret v => exact h₃
  · rintro s₀ h' tk ⟨m₁, F₁, hJ, hX⟩ hk
    exact done _ m₁ hJ (F₁.kept (W := fun b => b ∈ wr) (fun b o hb e => hk b o hb e) hLw hwr) hX

theorem goName {x : PySem.Str} {px : Pos} {I : Addr} {St : Nat → Heap → Prop} : ∀ i (s : Shared) v (Q : Unit → Shared → Prop) (E : Value → Shared → Prop), St i s.heap → Q () s → wpAny (model prog w) A (letOwnedTupleGo (.Name x px) (.ref I) v) Q E s :=
  fun _ _ _ _ _ _ h => wpAny_pure h
end

section
variable {prog : Program} {w : World} {A : Around} {E : Value → Shared → Prop} {s : Shared}

/-- what is handled (if anything is) is an exception that has no context -/
noncomputable def F2 (h : Heap) (e : Addr) : Prop := ∃ o vs, h.get? e = some o ∧ o.data = .fields vs ∧ vs[2]? = some .none
noncomputable def Hok (A : Around) (h : Heap) : Prop := A.handled = none ∨ ∃ e, A.handled = some (.ref e) ∧ F2 h e
theorem F2.keeps {h h' : Heap} {e : Addr} (x : F2 h e) (k : ∀ o, h.get? e = some o → h'.get? e = some o) : F2 h' e := let ⟨o, vs, a, b⟩ := x; ⟨o, vs, k o a, b⟩

theorem entry_unchain : entryFor table "proto.unchain" = some Builtin.«proto.unchain» := entryFor_of_tree (by kernel_rfl)
theorem raiseNew_ok {α : Type} {e : Addr} {o : Obj} {vs : Array Value} {Q : α → Shared → Prop} (hh : Hok A s.heap) (he : s.heap.get? e = some o) (hd : o.data = .fields vs) (h2 : 2 < vs.size) (hn : ∀ x, A.handled = some (.ref x) → x ≠ e)
    (h : ∀ h' o', h'.get? e = some o' → o'.cls = o.cls → Heap.SameBut e s.heap h' → E (.ref e) { s with heap := h' }) : wpAny (model prog w) A (raiseNew (.ref e) : Sem α) Q E s := by
  unfold raiseNew
  refine wpAny_bind (wpAny_handled ?_)
  rcases hh with hh | ⟨x, hh, ox, xs, hx, hxd, hx2⟩
  · rw [hh]
    exact wpAny_bind (wpAny_pure (wpAny_throw (by simpa using h s.heap o he rfl (Heap.SameBut.refl ..))))
  · rw [hh]
    have hne := hn x hh
    dsimp only
    have hb : (Value.ref x != Value.ref e) = true := by simpa using hne
    rw [if_pos hb]
    refine wpAny_bind (wpAny_holding (wpAny_runValue (codeAny_builtin entry_unchain ?_)))
    rw [Around.under_plainId (by decide +kernel)]
    unfold Builtin.«proto.unchain»
    dsimp only
    refine wpAny_bind (wpAny_field hx hxd hx2 ?_)
    rw [if_pos (by rfl)]
    refine wpAny_pure ?_
    show wpAny (model prog w) A (do updateField e 2 (Value.ref x); throw (Value.ref e)) Q E s
    refine wpAny_bind ?_
    show wpAny (model prog w) A (setField (.ref e) 2 (Value.ref x)) _ _ s
    refine wpAny_setField he hd h2 (wpAny_throw (h _ (Obj.mapFields (·.setIfInBounds 2 (Value.ref x)) o) (Heap.get?_update_self _ he (Obj.isFreed_of_fields (Obj.data_mapFields hd _))) (Obj.cls_mapFields ..) (Heap.SameBut.update ..)))
end
end Mine
-- MD
namespace Mine

noncomputable def hadr (A : Around) : List Addr := match A.handled with | some (.ref e) => [e] | _ => []
theorem mem_hadr {A : Around} {e : Addr} (h : A.handled = some (.ref e)) : e ∈ hadr A := by simp [hadr, h]
theorem hadr_mem {A : Around} {e : Addr} (h : e ∈ hadr A) : A.handled = some (.ref e) := by
  unfold hadr at h
  split at h
  · rename_i q; rw [q]; simp at h; rw [h]
  · cases h
theorem Hok.frame {A : Around} {h h' : Heap} (x : Hok A h) (k : ∀ b ∈ hadr A, ∀ o, h.get? b = some o → h'.get? b = some o) : Hok A h' := by
  rcases x with x | ⟨e, x, f⟩
  · exact .inl x
  · exact .inr ⟨e, x, f.keeps fun o => k e (mem_hadr x) o⟩
theorem Hok.none {A : Around} {h : Heap} (x : A.handled = none) : Hok A h := .inl x

section
variable {prog : Program} {w : World} {A : Around} {E : Value → Shared → Prop} {s : Shared}

/-- StopIteration raised: what stood, stands -/
theorem stop_raise {α : Type} {Q : α → Shared → Prop} (hh : Hok A s.heap)
    (h : ∀ h' e o, s.heap.StaysIn h' → h'.get? e = some o → o.cls = .type "StopIteration" → E (.ref e) { s with heap := h' }) :
    wpAny (model prog w) A (newExc (.type "StopIteration") [] >>= fun e => (raiseNew e : Sem α)) Q E s := by
  refine wpAny_bind ?_
  simp only [newExc, newTuple]
  refine wpAny_bind (wpAny_newObj_type ?_ (by size_fits))
  refine wpAny_bind (m := firstArgMember _ _) (wpAny_of_eq (a := Value.none) (by first | rfl | (simp only [firstArgMember]; rfl)) ?_)
  refine wpAny_newObj_type ?_ (by size_fits)
  refine raiseNew_ok (hh.frame fun b _ o e => ?_) (Heap.get?_push_size _ rfl) rfl (by simp [ownMembersOf]) (fun x hx => ?_) (fun h' o' ho' hc' hs => ?_)
  · exact Heap.get?_push_of_some _ (Heap.get?_push_of_some _ e)
  · rcases hh with hh | ⟨y, hh, o, vs, hy, _⟩
    · rw [hh] at hx; cases hx
    · rw [hh] at hx; cases hx
      exact Nat.ne_of_lt (Nat.lt_of_lt_of_le (Heap.lt_size hy) (by simp))
  · refine h h' _ o' (fun b o e => ?_) ho' hc'
    exact (hs.2 b (Nat.ne_of_lt (Nat.lt_of_lt_of_le (Heap.lt_size e) (by simp)))).trans (Heap.get?_push_of_some _ (Heap.get?_push_of_some _ e))

theorem caught_stop {e : Addr} {o : Obj} {Q : Option Value → Shared → Prop} (he : s.heap.get? e = some o) (hc : o.cls = .type "StopIteration") (h : Q none s) :
    wpAny (model prog w) A (do if ← isInstance (.ref e) (.type "StopIteration") then pure none else throw (.ref e)) Q E s :=
  wpAny_bind (wpAny_isInstance (T := "StopIteration") (b := true) ⟨o, he, hc⟩ isSubtype_stop (wpAny_pure h))

theorem list_end {it l : Addr} {i : Nat} {items : Array Value} {Q : Option Value → Shared → Prop} (hh : Hok A s.heap) (hne : it ∉ hadr A)
    (hit : s.heap.IsListIter it l i) (hl : s.heap.IsList l items) (hx : items[i]? = none)
    (hQ : ∀ h', Heap.ExtBut it s.heap h' → Q none { s with heap := h' }) : wpAny (model prog w) A (pyNext (.ref it)) Q E s := by
  obtain ⟨o, ho, hc, hd⟩ := id hit
  obtain ⟨ol, hol, _, nl, hdl⟩ := hl
  unfold pyNext
  refine wpAny_bind (wpAny_attempt (wpAny_callSpecial?_slot (name := PySem.Str.ofString "__next__") hit.typeIs slot_listiter_next
    (wpAny_call_entry slot_listiter_next hit.typeIs entry_listiter_next ?_ (args_listiter_next _))))
  show wpAny _ _ (field (.ref it) 0 >>= _) _ _ s
  refine wpAny_bind (wpAny_field ho hd (x := .ref l) rfl ?_)
  show wpAny _ _ (if (Value.ref l == Value.none) = true then _ else _) _ _ s
  rw [if_neg (show ¬ ((Value.ref l == Value.none) = true) from Bool.false_ne_true)]
  show wpAny _ _ (field (.ref it) 1 >>= _) _ _ s
  refine wpAny_bind (wpAny_field ho hd (x := .int i 0) rfl ?_)
  show wpAny _ _ (seqItems? (.ref l) >>= _) _ _ s
  refine wpAny_bind (wpAny_seqItems hol hdl ?_)
  simp only [Int.toNat_natCast, hx]
  refine wpAny_bind (wpAny_rule (wpAny_bind (wpAny_setField ho hd (by simp) ?_)))
  show wpAny _ _ (newExc (.type "StopIteration") [] >>= _) _ _ _
  refine stop_raise (Hok.frame (A := A.in1) hh fun b hb o e => ?_) fun h' e o' hk he hc' => caught_stop he hc' (hQ _ fun b o hb e => hk b o (by rw [Heap.get?_update_other _ _ (Ne.symm hb)]; exact e))
  exact (Heap.get?_update_other _ _ (fun q => hne (by subst q; exact hb))).trans e

theorem walksList {A : Around} (I ax : Addr) (hne : ax ≠ I) (hn2 : I ∉ hadr A) (items : Array Value) :
    Walks prog w A I ([I, ax] ++ hadr A) [I] items.size (fun i v => items[i]? = some v) (fun i h => h.IsListIter I ax i ∧ h.IsList ax items ∧ Hok A h) where
  sub := fun b hb => by simp at hb; simp [hb]
  frame := fun _ _ _ st hk => ⟨st.1.at fun o e => hk I (by simp) o e, st.2.1.at fun o e => hk ax (by simp) o e, st.2.2.frame fun b hb o e => hk b (by simp [hb]) o e⟩
  item := fun i s Q E hi st hQ => by
    refine wpAny_pyNext_list_item st.1 st.2.1 (x := items[i]) (by simp [hi]) fun h' hit' hs' => ?_
    exact hQ _ h' s.toks (by simp [hi]) ⟨hit', st.2.1.extBut hs'.extBut hne, st.2.2.frame fun b hb o e => hs'.extBut b o (fun q => hn2 (q ▸ hb)) e⟩ fun b o hb e => hs'.extBut b o (fun h => hb (by simp [h])) e
  done := fun s Q E st hQ => list_end st.2.2 hn2 st.1 st.2.1 (by simp) fun h' he' => hQ h' s.toks fun b o hb e => he' b o (fun h => hb (by simp [h])) e
  self := fun _ _ _ _ st hQ => wpAny_pyIter_listiter st.1 hQ

theorem tuple_end {it t : Addr} {i : Nat} {items : Array Value} {Q : Option Value → Shared → Prop} (hh : Hok A s.heap) (hne : it ∉ hadr A)
    (hit : s.heap.IsTupleIter it t i) (ht : s.heap.IsTuple t items) (hx : items[i]? = none)
    (hQ : ∀ h', Heap.ExtBut it s.heap h' → Q none { s with heap := h' }) : wpAny (model prog w) A (pyNext (.ref it)) Q E s := by
  obtain ⟨o, ho, hc, hd⟩ := id hit
  obtain ⟨ol, hol, _, nl, hdl⟩ := ht
  unfold pyNext
  refine wpAny_bind (wpAny_attempt (wpAny_callSpecial?_slot (name := PySem.Str.ofString "__next__") hit.typeIs PySem.F.slot_tuple_iterator_next
    (wpAny_call_entry PySem.F.slot_tuple_iterator_next hit.typeIs PySem.F.entry_tuple_iterator_next ?_ (PySem.F.args_tuple_iterator_next_1 _))))
  show wpAny _ _ (field (.ref it) 0 >>= _) _ _ s
  refine wpAny_bind (wpAny_field ho hd (x := .ref t) rfl ?_)
  show wpAny _ _ (if (Value.ref t == Value.none) = true then _ else _) _ _ s
  rw [if_neg (show ¬ ((Value.ref t == Value.none) = true) from Bool.false_ne_true)]
  show wpAny _ _ (field (.ref it) 1 >>= _) _ _ s
  refine wpAny_bind (wpAny_field ho hd (x := .int i 0) rfl ?_)
  show wpAny _ _ (seqItems? (.ref t) >>= _) _ _ s
  refine wpAny_bind (wpAny_seqItems hol hdl ?_)
  simp only [Int.toNat_natCast, hx]
  refine wpAny_bind (wpAny_rule (wpAny_bind (wpAny_setField ho hd (by simp) ?_)))
  show wpAny _ _ (newExc (.type "StopIteration") [] >>= _) _ _ _
  refine stop_raise (Hok.frame (A := A.in1) hh fun b hb o e => ?_) fun h' e o' hk he hc' => caught_stop he hc' (hQ _ fun b o hb e => hk b o (by rw [Heap.get?_update_other _ _ (Ne.symm hb)]; exact e))
  exact (Heap.get?_update_other _ _ (fun q => hne (by subst q; exact hb))).trans e

theorem walksTuple {A : Around} (I ax : Addr) (hne : ax ≠ I) (hn2 : I ∉ hadr A) (items : Array Value) :
    Walks prog w A I ([I, ax] ++ hadr A) [I] items.size (fun i v => items[i]? = some v) (fun i h => h.IsTupleIter I ax i ∧ h.IsTuple ax items ∧ Hok A h) where
  sub := fun b hb => by simp at hb; simp [hb]
  frame := fun _ _ _ st hk => ⟨let ⟨o, e, r⟩ := st.1; ⟨o, hk I (by simp) o e, r⟩, let ⟨o, e, r⟩ := st.2.1; ⟨o, hk ax (by simp) o e, r⟩, st.2.2.frame fun b hb o e => hk b (by simp [hb]) o e⟩
  item := fun i s Q E hi st hQ => by
    refine wpAny_pyNext_tuple_item st.1 st.2.1 (x := items[i]) (by simp [hi]) fun h' hit' hs' => ?_
    exact hQ _ h' s.toks (by simp [hi]) ⟨hit', st.2.1.extBut hs'.extBut hne, st.2.2.frame fun b hb o e => hs'.extBut b o (fun q => hn2 (q ▸ hb)) e⟩ fun b o hb e => hs'.extBut b o (fun h => hb (by simp [h])) e
  done := fun s Q E st hQ => tuple_end st.2.2 hn2 st.1 st.2.1 (by simp) fun h' he' => hQ h' s.toks fun b o hb e => he' b o (fun h => hb (by simp [h])) e
  self := fun _ _ _ _ st hQ => wpAny_pyIter_tupleiter st.1 hQ
end
end Mine
-- ME
namespace Mine

section
variable {prog : Program} {w : World} {A : Around} {E : Value → Shared → Prop} {s : Shared} {G : Heap} {L f : Addr} {m : PySem.Str → Option Value} {cn : PySem.Str} {cs : Scope} {ccd : Value} {cl : List (PySem.Str × Addr)}

theorem fresh_size (h : Heap) : h.get? h.objs.size = none := by
  cases q : h.get? h.objs.size with
  | none => rfl
  | some o => exact absurd (Heap.lt_size q) (Nat.lt_irrefl _)
theorem hadr_alive {h : Heap} (hh : Hok A h) {b : Addr} (hb : b ∈ hadr A) : b ≠ h.objs.size := by
  have := hadr_mem hb
  rcases hh with hh | ⟨e, hh, o, vs, he, _⟩
  · rw [hh] at this; cases this
  · rw [hh] at this; cases this; exact Nat.ne_of_lt (Heap.lt_size he)

theorem unpackH {t : Addr} {items : Array Value} {n : Nat} {Q : List Value → Shared → Prop} (hh : Hok A s.heap) (ht : s.heap.IsTuple t items) (hn : n = items.size)
    (hQ : ∀ h', s.heap.StaysIn h' → Q items.toList { s with heap := h' }) : wpAny (model prog w) A (unpackItems (.ref t) n none) Q E s := by
  subst hn
  have hlt : t ≠ s.heap.objs.size := by obtain ⟨o, ho, _⟩ := ht; exact Nat.ne_of_lt (Heap.lt_size ho)
  unfold unpackItems
  refine wpAny_bind ?_
  unfold notIterableAtAll
  refine wpAny_bind (wpAny_specialOf ht.typeIs PySem.F.slot_tuple_iter.lookup ?_)
  refine wpAny_pure ?_
  simp only [Bool.false_eq_true, if_false]
  refine wpAny_bind (wpAny_holding (wpAny_pyIter_tuple ht ?_))
  refine wpAny_bind (wpAny_holding (wpAny_draw_tuple hlt items.size 0 _ _ ⟨_, Heap.get?_push_size _ rfl, rfl, rfl⟩ (ht.push _) (by omega) fun h₁ hit₁ hs₁ => ?_))
  have hall : List.take items.size (List.drop 0 items.toList) = items.toList := by
    rw [List.drop_zero]; exact List.take_of_length_le (by simp)
  rw [hall]
  rw [if_neg (by simp)]
  have ht₁ : h₁.IsTuple t items := (ht.push _).extBut hs₁.extBut hlt
  have hh₁ : Hok A h₁ := hh.frame fun b hb o e => hs₁.extBut b o (hadr_alive hh hb) (Heap.get?_push_of_some _ e)
  refine wpAny_bind (wpAny_holding (tuple_end hh₁ (fun q => hadr_alive hh q rfl) hit₁ ht₁ (by simp) fun h₂ he₂ => ?_))
  simp only [Option.isSome_none, Bool.false_eq_true, if_false]
  refine wpAny_pure (hQ h₂ fun b o e => ?_)
  have hb : b ≠ s.heap.objs.size := Nat.ne_of_lt (Heap.lt_size e)
  exact he₂ b o hb (hs₁.extBut b o hb (Heap.get?_push_of_some _ e))

theorem q_assignName {x : PySem.Str} {p : Pos} {v : Value} {Q : Unit → Shared → Prop} (F : Fq w G L s.heap m)
    (h : ∀ h' tk, Fq w G L h' (fun y => if y = x then some v else m y) → Heap.SameBut L s.heap h' → Q () { s with heap := h', toks := tk })
    (hk : cs.kind = .function := by rfl) (hx : (envX cn cs L f ccd cl).kindOf x = some .local := by rfl) : wpAny (model prog w) A (assign (.Name x p) (envX cn cs L f ccd cl) v) Q E s :=
  wpAny_assign_Name (q_st F h hk hx)

theorem q_tup2 {x y : PySem.Str} {p q : Pos} {k : Nat} {pos : Pos} {t : Addr} {a b : Value} {Q : Unit → Shared → Prop} (hh : Hok A s.heap) (F : Fq w G L s.heap m) (ht : s.heap.IsTuple t #[a, b])
    (h : ∀ h' tk, Fq w G L h' (fun z => if z = y then some b else if z = x then some a else m z) → Kept (· = L) s.heap h' → Q () { s with heap := h', toks := tk })
    (hk : cs.kind = .function := by rfl) (hx : (envX cn cs L f ccd cl).kindOf x = some .local := by rfl) (hy : (envX cn cs L f ccd cl).kindOf y = some .local := by rfl) :
    wpAny (model prog w) A (assign (.Tuple [.Name x p, .Name y q] k pos) (envX cn cs L f ccd cl) (.ref t)) Q E s := by
  rw [arm_assign_Tuple]
  refine wpAny_bind (wpAny_standAt ?_)
  show wpAny _ _ (do assignInOrder [assign (.Name x p) (envX cn cs L f ccd cl), assign (.Name y q) (envX cn cs L f ccd cl)] (← holding [.ref t] (unpackItems (.ref t) 2 none))) Q E s
  refine wpAny_bind (wpAny_holding (unpackH hh ht rfl fun h₁ k₁ => ?_))
  show wpAny _ _ (do holding [b] (assign (.Name x p) (envX cn cs L f ccd cl) a); assignInOrder [assign (.Name y q) (envX cn cs L f ccd cl)] [b]) Q E _
  refine wpAny_bind (wpAny_holding (q_assignName (F.keeps k₁) (fun h₂ tk₂ F₂ s₂ => ?_) hk hx))
  show wpAny _ _ (do holding [] (assign (.Name y q) (envX cn cs L f ccd cl) b); assignInOrder [] []) Q E _
  refine wpAny_bind (wpAny_holding (q_assignName F₂ (fun h₃ tk₃ F₃ s₃ => ?_) hk hy))
  show wpAny _ _ (pure ()) Q E _
  exact wpAny_pure (h h₃ tk₃ F₃ fun b o hb e => s₃.extBut b o hb (s₂.extBut b o hb (k₁ b o e)))

theorem q_tup4 {x₁ x₂ x₃ x₄ : PySem.Str} {p₁ p₂ p₃ p₄ : Pos} {k : Nat} {pos : Pos} {t : Addr} {a b c d : Value} {Q : Unit → Shared → Prop} (hh : Hok A s.heap) (F : Fq w G L s.heap m) (ht : s.heap.IsTuple t #[a, b, c, d])
    (h : ∀ h' tk, Fq w G L h' (fun z => if z = x₄ then some d else if z = x₃ then some c else if z = x₂ then some b else if z = x₁ then some a else m z) → Kept (· = L) s.heap h' → Q () { s with heap := h', toks := tk })
    (hk : cs.kind = .function := by rfl) (h1 : (envX cn cs L f ccd cl).kindOf x₁ = some .local := by rfl) (h2 : (envX cn cs L f ccd cl).kindOf x₂ = some .local := by rfl)
    (h3 : (envX cn cs L f ccd cl).kindOf x₃ = some .local := by rfl) (h4 : (envX cn cs L f ccd cl).kindOf x₄ = some .local := by rfl) :
    wpAny (model prog w) A (assign (.Tuple [.Name x₁ p₁, .Name x₂ p₂, .Name x₃ p₃, .Name x₄ p₄] k pos) (envX cn cs L f ccd cl) (.ref t)) Q E s := by
  rw [arm_assign_Tuple]
  refine wpAny_bind (wpAny_standAt ?_)
  show wpAny _ _ (do assignInOrder [assign (.Name x₁ p₁) (envX cn cs L f ccd cl), assign (.Name x₂ p₂) (envX cn cs L f ccd cl), assign (.Name x₃ p₃) (envX cn cs L f ccd cl), assign (.Name x₄ p₄) (envX cn cs L f ccd cl)] (← holding [.ref t] (unpackItems (.ref t) 4 none))) Q E s
  refine wpAny_bind (wpAny_holding (unpackH hh ht rfl fun h₁ k₁ => ?_))
  refine wpAny_bind (m := holding [b, c, d] (assign (.Name x₁ p₁) (envX cn cs L f ccd cl) a)) (wpAny_holding (q_assignName (F.keeps k₁) (fun h₂ tk₂ F₂ s₂ => ?_) hk h1))
  refine wpAny_bind (m := holding [c, d] (assign (.Name x₂ p₂) (envX cn cs L f ccd cl) b)) (wpAny_holding (q_assignName F₂ (fun h₃ tk₃ F₃ s₃ => ?_) hk h2))
  refine wpAny_bind (m := holding [d] (assign (.Name x₃ p₃) (envX cn cs L f ccd cl) c)) (wpAny_holding (q_assignName F₃ (fun h₄ tk₄ F₄ s₄ => ?_) hk h3))
  refine wpAny_bind (m := holding [] (assign (.Name x₄ p₄) (envX cn cs L f ccd cl) d)) (wpAny_holding (q_assignName F₄ (fun h₅ tk₅ F₅ s₅ => ?_) hk h4))
  show wpAny _ _ (pure ()) Q E _
  exact wpAny_pure (h h₅ tk₅ F₅ fun b o hb e => s₅.extBut b o hb (s₄.extBut b o hb (s₃.extBut b o hb (s₂.extBut b o hb (k₁ b o e)))))

theorem goListTup {elts : List PySem.Expr} {k : Nat} {pos : Pos} {I l : Addr} {i : Nat} {v : Value} {Q : Unit → Shared → Prop} (hit : s.heap.IsListIter I l i) (hQ : Q () s) :
    wpAny (model prog w) A (letOwnedTupleGo (.Tuple elts k pos) (.ref I) v) Q E s := by
  cases v with
  | ref a => exact wpAny_letOwnedTupleGo_listiter hit hQ
  | _ => exact wpAny_pure hQ
end

section
variable {prog : Program} {w : World} {A : Around} {E : Value → Shared → Prop} {s : Shared}

/-- t[:k] -/
noncomputable def upto (k : Int) (n : Nat) : Nat := if k < 0 then (k + n).toNat else min k.toNat n
theorem upto_le (k : Int) (n : Nat) : upto k n ≤ n := by unfold upto; split <;> omega
theorem adjust_upto (k : Int) (n : Nat) : Builtin.Slice.sliceAdjust none (some k) 1 (n : Int) = (0, (upto k n : Int)) := by
  unfold Builtin.Slice.sliceAdjust upto
  simp
  split
  · omega
  · rename_i h; exact n_minI n h
theorem places_upto (b : Nat) : Builtin.Slice.slicePlaces 0 (b : Int) 1 = b := by
  unfold Builtin.Slice.slicePlaces
  have h1 : (1 : Int) > 0 := by omega
  simp only [h1, if_true, Int.ediv_one]
  split <;> omega

theorem pick_upto (xs : Array Value) (b : Nat) : ((List.range b).filterMap fun (k : Nat) => xs[((0 : Int) + (k : Int) * 1).toNat]?).toArray = (xs.toList.take b).toArray := by
  have e : (fun (k : Nat) => xs[((0 : Int) + (k : Int) * 1).toNat]?) = fun k => xs[0 + k]? := by
    funext k
    have : ((0 : Int) + (k : Int) * 1).toNat = 0 + k := by omega
    rw [this]
  rw [e]
  have := pick_run xs 0 b
  rw [List.filterMap_map] at this
  have e2 : ((fun x => xs[x]?) ∘ fun x => 0 + x) = fun k => xs[0 + k]? := rfl
  rw [e2] at this
  rw [this, List.drop_zero]

theorem getItem_upto {t sl : Addr} {items : Array Value} {k : Int} {u : Tok} {Q : Value → Shared → Prop} (ht : IsTup s.heap t items) (hs : s.heap.IsSliceOf sl .none (.int k u) .none) (hsz : items.size ≤ sizeLine)
    (h : ∀ a' h', s.heap.StaysIn h' → IsTup h' a' (items.toList.take (upto k items.size)).toArray → Q (.ref a') { s with heap := h' }) :
    wpAny (model prog w) A (getItem (.ref t) (.ref sl)) Q E s := by
  have hdrop : sizeOk (.seq (items.toList.take (upto k items.size)).toArray) := by
    show (items.toList.take (upto k items.size)).toArray.size ≤ sizeLine
    rw [List.size_toArray, List.length_take, Array.length_toList]
    omega
  obtain ⟨os, hos, hcs, hds⟩ := id hs
  have hTs : s.TypeIs (.ref sl) "slice" := ⟨os, hos, hcs⟩
  unfold getItem
  try with_reducible refine wpAny_holding ?_
  first | refine wpAny_bind (wpAny_pure ?_) | skip
  refine wpAny_bind (wpAny_sequenceKey ht.typeIs (by decide) ?_)
  refine wpAny_bind (wpAny_callSpecial?_slot (name := PySem.Str.ofString "__getitem__") ht.typeIs slot_tuple_getitem
    (wpAny_call_entry slot_tuple_getitem ht.typeIs entry_tuple_getitem ?_ (args_tuple_getitem _ _)))
  show wpAny _ _ (Builtin.Tuple.tupleItemsOf (.ref t) >>= _) _ _ s
  refine wpAny_bind (tupleItemsOf_ ht ?_)
  refine wpAny_bind (wpAny_typeOf hTs ?_)
  rw [if_pos (by decide)]
  refine wpAny_bind ?_
  unfold Builtin.Slice.sliceApplied Builtin.Slice.sliceFields
  refine wpAny_bind (wpAny_bind (wpAny_field hos hds (x := .none) rfl (wpAny_bind (wpAny_field hos hds (x := .int k u) rfl (wpAny_bind (wpAny_field hos hds (x := .none) rfl (wpAny_pure ?_)))))))
  refine wpAny_bind (slicePart_none ?_)
  show wpAny _ _ (if ((1 : Int) == 0) = true then _ else _) _ _ s
  rw [if_neg (by decide)]
  refine wpAny_bind (slicePart_none (wpAny_bind (slicePart_int (wpAny_bind (wpAny_pure ?_)))))
  show wpAny _ _ (match Builtin.Slice.sliceAdjust none (some k) 1 (items.size : Int) with | (lo, hi) => pure (lo, (1 : Int), Builtin.Slice.slicePlaces lo hi 1)) _ _ s
  rw [adjust_upto]
  show wpAny _ _ (pure ((0 : Int), (1 : Int), Builtin.Slice.slicePlaces 0 (upto k items.size : Int) 1)) _ _ s
  rw [places_upto]
  refine wpAny_pure ?_
  show wpAny _ _ (if ((0 : Int) == 0 && (1 : Int) == 1 && (upto k items.size) == items.size) = true then _ else _) _ _ s
  by_cases hw : upto k items.size = items.size
  · rw [if_pos (by simp [hw])]
    have fin : Q (.ref t) s := h t s.heap (fun _ _ e => e) (by rw [hw, List.take_of_length_le (by simp)]; exact ht)
    refine wpAny_bind ?_
    unfold Builtin.Tuple.tupleIsExact
    refine wpAny_bind (wpAny_typeOf ht.typeIs (wpAny_pure ?_))
    rw [if_pos (by decide)]
    exact wpAny_bind (wpAny_rule (wpAny_pure ⟨_, rfl, wpAny_pure fin⟩))
  · rw [if_neg (by simp [hw]), pick_upto items]
    have fin : Q (.ref s.heap.objs.size) { s with heap := s.heap.push { cls := .type "tuple", data := .seq (items.toList.take (upto k items.size)).toArray } } :=
      h _ _ (fun _ _ e => Heap.get?_push_of_some _ e) (IsTup.new ..)
    first
      | exact wpAny_bind (m := Builtin.Tuple.tupleExact _) (wpAny_newObj_type (wpAny_pure ⟨_, rfl, wpAny_pure fin⟩) hdrop)
      | exact wpAny_bind (m := Builtin.Tuple.tupleExact _) (wpAny_newObj_type (wpAny_bind (wpAny_pure (wpAny_pure ⟨_, rfl, wpAny_pure fin⟩))) hdrop)
      | exact wpAny_bind (wpAny_bind (m := Builtin.Tuple.tupleExact _) (wpAny_newObj_type (wpAny_pure (wpAny_pure ⟨_, rfl, wpAny_pure fin⟩)) hdrop))
      | exact wpAny_bind (wpAny_bind (m := Builtin.Tuple.tupleExact _) (wpAny_newObj_type (wpAny_pure ⟨_, rfl, wpAny_pure fin⟩) hdrop))

/-- value[:upper] of a tuple -/
theorem q_slice {value upper : PySem.Expr} {p pos : Pos} {env : Env} {Q : Value → Shared → Prop}
    (h : wpAny (model prog w) A (eval value env) (fun o s₁ => wpAny (model prog w) A (eval upper env) (fun vu s₂ =>
      ∃ t items k u, o = .ref t ∧ vu = .int k u ∧ IsTup s₂.heap t items ∧ items.size ≤ sizeLine ∧
        ∀ a' h', s₂.heap.StaysIn h' → IsTup h' a' (items.toList.take (upto k items.size)).toArray → Q (.ref a') { s₂ with heap := h' }) E s₁) E s)
    (hg : ∀ t r, letTemporaryGo value (.ref t) r = pure () := by intro _ _; rfl) :
    wpAny (model prog w) A (eval (.Subscript value (.Slice none (some upper) none p) pos) env) Q E s := by
  refine Subscript_ (wpAny_mono h (fun o s₁ h₁ => wpAny_Slice ?_) fun _ _ e => e)
  refine wpAny_pure (wpAny_mono h₁ (fun vu s₂ h₂ => ?_) fun _ _ e => e)
  obtain ⟨t, items, k, u, rfl, rfl, ht, hsz, hQ⟩ := h₂
  refine wpAny_pure ?_
  have ht' : IsTup (s₂.heap.push { cls := .type "slice", data := .fields #[.none, .int k u, .none] }) t items := ht.keeps fun _ _ e => Heap.get?_push_of_some _ e
  refine subscriptTail_ops (s := { s₂ with heap := s₂.heap.push { cls := .type "slice", data := .fields #[.none, .int k u, .none] } }) ht'.typeIs slot_tuple_getitem.lookup
    (getItem_upto ht' (Heap.IsSliceOf.new ..) hsz fun a' h' hk hi => hQ a' h' (fun b o e => hk b o (Heap.get?_push_of_some _ e)) hi) rfl (hg t)
end
end Mine
-- MF
namespace Mine

noncomputable abbrev Way := List PySem.Str
noncomputable def nms : Way := ["", "a", "a.a", "flags", "nested", "recursive_flags", "z"]

/-- a value that is a tuple of names -/
noncomputable def WayAt (h : Heap) (v : Value) (p : Way) : Prop := ∃ a vs, v = .ref a ∧ IsTup h a vs.toArray ∧ StrsAre vs p ∧ (∀ x ∈ p, x ∈ nms) ∧ p.length ≤ 60
theorem WayAt.keeps {h h' : Heap} {v : Value} {p : Way} (x : WayAt h v p) (k : h.StaysIn h') : WayAt h' v p :=
  let ⟨a, vs, e, t, r⟩ := x; ⟨a, vs, e, t.keeps k, r⟩

/-- what stands at a way: its own dict, the two sets, the dict of those below -/
structure Nd where
  n : Addr
  f : Addr
  r : Addr
  d : Addr
  fl : List Int
  rc : List Int

noncomputable abbrev Tr := Way → Option Nd

section
variable (prog : Program) (w : World)

/-- a dict of names, at most seven -/
noncomputable def DictF (h : Heap) (d : Addr) (f : PySem.Str → Option Value) : Prop :=
  ∃ kvs, h.DictOf (PySem.strKind prog w) d kvs ∧ (∀ k, valueAt kvs k = f k) ∧ (∀ kv ∈ kvs, kv.1 ∈ nms) ∧ d ≠ sysModules

noncomputable def IntS (h : Heap) (a : Addr) (l : List Int) : Prop := h.SetOf (PySem.intKind prog w) a (fun i => decide (i ∈ l)) l.length

noncomputable def kids (M : Tr) (p : Way) (k : PySem.Str) : Option Value := (M (p ++ [k])).map fun nd => .ref nd.n
noncomputable def inner (nd : Nd) (k : PySem.Str) : Option Value := if k = "flags" then some (.ref nd.f) else if k = "recursive_flags" then some (.ref nd.r) else if k = "nested" then some (.ref nd.d) else none

noncomputable def dAt (root : Addr) (M : Tr) (p : Way) : Option Addr := if p = [] then some root else (M p).map Nd.d
/-- the addresses that a tree holds, each under its way and place -/
noncomputable def adr (root : Addr) (M : Tr) (p : Way) (i : Nat) : Option Addr :=
  if i = 3 then dAt root M p else (M p).bind fun nd => if i = 0 then some nd.n else if i = 1 then some nd.f else if i = 2 then some nd.r else none
noncomputable def Foot (root : Addr) (M : Tr) (a : Addr) : Prop := ∃ p i, adr root M p i = some a

structure Tree (fs : List Int) (h : Heap) (root : Addr) (M : Tr) : Prop where
  nil : M [] = none
  closed : ∀ p k nd, M (p ++ [k]) = some nd → p ≠ [] → (M p).isSome
  kid : ∀ p d, dAt root M p = some d → DictF prog w h d (kids M p)
  node : ∀ p nd, M p = some nd → DictF prog w h nd.n (inner nd)
  setf : ∀ p nd, M p = some nd → IntS prog w h nd.f nd.fl
  setr : ∀ p nd, M p = some nd → IntS prog w h nd.r nd.rc
  few : ∀ p nd, M p = some nd → nd.fl.Nodup ∧ nd.rc.Nodup ∧ (∀ i ∈ nd.fl, i ∈ fs) ∧ (∀ i ∈ nd.rc, i ∈ fs)
  apart : ∀ p i q j a, adr root M p i = some a → adr root M q j = some a → p = q ∧ i = j
end

/-- what is_ says -/
noncomputable def Told (M : Tr) (p : Way) (i : Int) : Prop := (∃ nd, M p = some nd ∧ i ∈ nd.fl) ∨ ∃ q nd, q <+: p ∧ M q = some nd ∧ i ∈ nd.rc

section
variable {prog : Program} {w : World} {A : Around} {E : Value → Shared → Prop} {s : Shared} {h h' : Heap} {d a : Addr} {f : PySem.Str → Option Value} {l : List Int} {k : PySem.Str} {t : Tok}
theorem DictF.at' (x : DictF prog w h d f) (e : ∀ o, h.get? d = some o → h'.get? d = some o) : DictF prog w h' d f :=
  let ⟨kvs, ⟨o, es, ep, ho, r⟩, r'⟩ := x; ⟨kvs, ⟨o, es, ep, e o ho, r⟩, r'⟩
theorem IntS.at' (x : IntS prog w h a l) (e : ∀ o, h.get? a = some o → h'.get? a = some o) : IntS prog w h' a l :=
  let ⟨o, es, ep, t, ho, r⟩ := x; ⟨o, es, ep, t, e o ho, r⟩
theorem DictF.map (x : DictF prog w h d f) : h.MapOf (PySem.strKind prog w) d f := by
  obtain ⟨kvs, x, e, _⟩ := x
  have := x.mapOf
  rwa [show valueAt kvs = f from funext e] at this
theorem DictF.alive (x : DictF prog w h d f) : ∃ o, h.get? d = some o ∧ o.cls = .type "dict" := let ⟨_, ⟨o, _, _, ho, hc, _⟩, _⟩ := x; ⟨o, ho, hc.1⟩
theorem IntS.alive (x : IntS prog w h a l) : ∃ o, h.get? a = some o ∧ o.cls = .type "set" := let ⟨o, _, _, _, ho, hc, _⟩ := x; ⟨o, ho, hc.1⟩

theorem dict_in {Q : Value → Shared → Prop} (x : DictF prog w s.heap d f) (h : ∀ tk, Q (.bool (f k).isSome) { s with toks := tk }) : wpAny (model prog w) A (compareOp .In (.str k t) (.ref d)) Q E s :=
  wpAny_in_of (strKind_is prog w k t) (by obtain ⟨_, _, _, _, hs⟩ := x; simpa using hs) x.map (h _)
theorem dict_notin {Q : Value → Shared → Prop} (x : DictF prog w s.heap d f) (h : ∀ tk, Q (.bool (!(f k).isSome)) { s with toks := tk }) : wpAny (model prog w) A (compareOp .NotIn (.str k t) (.ref d)) Q E s :=
  wpAny_notIn_of (strKind_is prog w k t) (by obtain ⟨_, _, _, _, hs⟩ := x; simpa using hs) x.map (h _)
theorem dict_item {value slice : PySem.Expr} {v : Value} {Q : Value → Shared → Prop} (x : DictF prog w s.heap d f) (hv : f k = some v) (h : ∀ tk, Q v { s with toks := tk })
    (hs : subscripted slice false (.ref d) (.str k t) = operate [.ref d, .str k t] (getItem (.ref d) (.str k t)) := by with_unfolding_all rfl) :
    wpAny (model prog w) A (subscriptTail value slice (.ref d) (.str k t)) Q E s :=
  tail_any x.map.typeIs slot_dict_getitem.lookup (wpAny_getItem_of (strKind_is prog w k t) x.map hv (h _)) hs
theorem int_in {i : Int} {Q : Value → Shared → Prop} (x : IntS prog w s.heap a l) (h : ∀ tk, Q (.bool (decide (i ∈ l))) { s with toks := tk }) : wpAny (model prog w) A (compareOp .In (.int i t) (.ref a)) Q E s :=
  wpAny_inSet_of (intKind_is prog w i t) rfl x (h _)
end

section
variable {prog : Program} {w : World} {h h' : Heap} {root : Addr} {M : Tr} {fs : List Int}
theorem adr0 {p : Way} {nd : Nd} (e : M p = some nd) : adr root M p 0 = some nd.n := by simp [adr, e]
theorem adr1 {p : Way} {nd : Nd} (e : M p = some nd) : adr root M p 1 = some nd.f := by simp [adr, e]
theorem adr2 {p : Way} {nd : Nd} (e : M p = some nd) : adr root M p 2 = some nd.r := by simp [adr, e]
theorem adr3 {p : Way} {d : Addr} (e : dAt root M p = some d) : adr root M p 3 = some d := by simp [adr, e]
theorem dAt_root : dAt root M [] = some root := by simp [dAt]
theorem dAt_node {p : Way} {nd : Nd} (hn : M [] = none) (e : M p = some nd) : dAt root M p = some nd.d := by
  unfold dAt
  split
  · rename_i q; subst q; rw [hn] at e; cases e
  · rw [e]; rfl
theorem Tree.kept {W : Addr → Prop} (T : Tree prog w fs h root M) (k : Kept W h h') (hW : ∀ a, Foot root M a → ¬ W a) : Tree prog w fs h' root M where
  nil := T.nil
  closed := T.closed
  kid := fun p d e => (T.kid p d e).at' fun o => k d o (hW d ⟨p, 3, adr3 e⟩)
  node := fun p nd e => (T.node p nd e).at' fun o => k _ o (hW _ ⟨p, 0, adr0 e⟩)
  setf := fun p nd e => (T.setf p nd e).at' fun o => k _ o (hW _ ⟨p, 1, adr1 e⟩)
  setr := fun p nd e => (T.setr p nd e).at' fun o => k _ o (hW _ ⟨p, 2, adr2 e⟩)
  few := T.few
  apart := T.apart
theorem Tree.keeps (T : Tree prog w fs h root M) (k : h.StaysIn h') : Tree prog w fs h' root M := T.kept (W := fun _ => False) (fun b o _ e => k b o e) fun _ _ => id
/-- what a tree holds is a dict or a set -/
theorem Tree.alive (T : Tree prog w fs h root M) {a : Addr} (x : Foot root M a) : ∃ o, h.get? a = some o ∧ (o.cls = .type "dict" ∨ o.cls = .type "set") := by
  obtain ⟨p, i, e⟩ := x
  unfold adr at e
  split at e
  · obtain ⟨o, ho, hc⟩ := (T.kid p a e).alive; exact ⟨o, ho, .inl hc⟩
  · cases hM : M p with
    | none => rw [hM] at e; cases e
    | some nd =>
      rw [hM] at e
      simp only [Option.bind_some] at e
      split at e
      · cases e; obtain ⟨o, ho, hc⟩ := (T.node p nd hM).alive; exact ⟨o, ho, .inl hc⟩
      · split at e
        · cases e; obtain ⟨o, ho, hc⟩ := (T.setf p nd hM).alive; exact ⟨o, ho, .inr hc⟩
        · split at e
          · cases e; obtain ⟨o, ho, hc⟩ := (T.setr p nd hM).alive; exact ⟨o, ho, .inr hc⟩
          · cases e
end

section
variable {prog : Program} {w : World} {A : Around} {E : Value → Shared → Prop} {s : Shared} {G : Heap} {L : Addr} {m : PySem.Str → Option Value} {R : Result → Shared → Prop} {env : Env}
theorem Fq.ne_tup {h : Heap} {a : Addr} {items : Array Value} (F : Fq w G L h m) (t : IsTup h a items) : L ≠ a := fun q => by
  subst q
  obtain ⟨o, ho, _, n, hd⟩ := t
  obtain ⟨o', es, ep, ho', hd', _⟩ := F.ns
  rw [ho] at ho'; cases ho'; rw [hd] at hd'; cases hd'
theorem Fq.ne_list {h : Heap} {a : Addr} {items : Array Value} (F : Fq w G L h m) (t : h.IsList a items) : L ≠ a := fun q => by
  subst q
  obtain ⟨o, ho, _, n, hd⟩ := t
  obtain ⟨o', es, ep, ho', hd', _⟩ := F.ns
  rw [ho] at ho'; cases ho'; rw [hd] at hd'; cases hd'
theorem Fq.not_hadr {h : Heap} (F : Fq w G L h m) (hh : Hok A h) : L ∉ hadr A := fun q => by
  have := hadr_mem q
  rcases hh with hh | ⟨e, hh, o, vs, ho, hd, _⟩
  · rw [hh] at this; cases this
  · rw [hh] at this; cases this
    obtain ⟨o', es, ep, ho', hd', _⟩ := F.ns
    rw [ho] at ho'; cases ho'; rw [hd] at hd'; cases hd'

theorem forTup {x : PySem.Str} {px : Pos} {body : List Stmt} {t : Addr} {items : Array Value} (hh : Hok A s.heap) (F : Fq w G env.locals s.heap m) (ht : IsTup s.heap t items)
    (Jm : Nat → (PySem.Str → Option Value) → Prop) (h0 : Jm 0 m)
    (step : ∀ i v G' s₁ m₁, items[i]? = some v → Jm i m₁ → Fq w G' env.locals s₁.heap m₁ → G.StaysIn G' → SameX s s₁ →
      wpAny (model prog w) A (assign (.Name x px) env v) (fun _ s₂ => wpAny (model prog w) A (execs body env) (fun f s₃ => match f with
          | .next | .cont => (∃ m₂, Fq w G' env.locals s₃.heap m₂ ∧ Jm (i + 1) m₂) ∧ SameX s₁ s₃
          | .brk => R (.ok .next) s₃
          | .ret v => R (.ok (.ret v)) s₃) (notedBy (model prog w) A env fun e s' => R (.error e) s') s₂) (notedBy (model prog w) A env fun e s' => R (.error e) s') s₁)
    (done : ∀ s₁ m₁, Jm items.size m₁ → Fq w G env.locals s₁.heap m₁ → SameX s s₁ → R (.ok .next) s₁) :
    wpAny (model prog w) A (pyIter (.ref t)) (fun it s₂ => codeAny (model prog w) A (.forLoop (.Name x px) it body [] env) R s₂) E s := by
  refine iter_tuple ht ?_
  have hne : t ≠ s.heap.objs.size := Nat.ne_of_lt ht.lt
  have k₁ : s.heap.StaysIn (s.heap.push { cls := .type "tuple_iterator", data := .fields #[.ref t, .int 0 0] }) := fun b o e => Heap.get?_push_of_some _ e
  refine forQ (s := { s with heap := s.heap.push { cls := .type "tuple_iterator", data := .fields #[.ref t, .int 0 0] } }) (L := env.locals) (walksTuple s.heap.objs.size t hne (fun q => hadr_alive hh q rfl) items) (fun _ _ _ _ _ _ h => wpAny_pure h) (F.keeps k₁) ⟨⟨_, Heap.get?_push_size _ rfl, rfl, rfl⟩, ht.keeps k₁, hh.frame fun b _ o e => k₁ b o e⟩ ?_ ?_ Jm h0 (fun i v G' s₁ m₁ _ hv hJ F' sub hX => step i v G' s₁ m₁ hv hJ F' sub hX) done
  · intro b hb
    rw [List.mem_singleton.mp hb]
    cases q : G.get? s.heap.objs.size with
    | none => rfl
    | some o => have := F.keep _ _ q; rw [fresh_size] at this; cases this
  · simp only [List.cons_append, List.nil_append, List.mem_cons, not_or]
    exact ⟨Nat.ne_of_lt F.lt, F.ne_tup ht, F.not_hadr hh⟩
end
end Mine
-- MG
namespace Mine
section
variable {prog : Program} {w : World} {A : Around} {s : Shared} {G : Heap} {R : Result → Shared → Prop}
theorem sizeLine_is : sizeLine = 16777216 := by decide
theorem strs_lt {vs : List Value} {p : Way} (h : StrsAre vs p) (hp : p.length ≤ 60) : (vs.toArray.size : Int) < 2 ^ 63 ∧ vs.toArray.size ≤ sizeLine := by
  have := h.length
  rw [List.size_toArray, this, sizeLine_is]
  omega


theorem enterQ {name qual : PySem.Str} {params : Arguments} {body : List Stmt} {scope : Scope} {dV kV doc pm cdv ct oc : Value} {an od : Option Addr} {osl : Array (Option Value)} {f : Addr} {args : Args} (binds : List (PySem.Str × Value))
    (W : Addr → Prop) (g : Gd w G) (hk : G.StaysIn s.heap) (hW : ∀ b, W b → G.get? b = none)
    (ho : (hd.heap_39 w.params).lookup f = some ⟨oc, od, .func (fnOf name qual params body scope dV kV doc pm an cdv ct), osl⟩) (hcd : codeIn (hd.heap_39 w.params) cdv qual = true) (hroom : A.depth < recursionLimit)
    (hbind : bindArgs (fnOf name qual params body scope dV kV doc pm an cdv ct) args = pure binds) (hloc : ∀ y ∈ binds, scope.names.lookup y.1 = some .local)
    (h : ∀ L h₁ G₁ tk, L = s.heap.objs.size → Fq w G₁ L h₁ (fun y => binds.reverse.lookup y) → Kept W s.heap G₁ → G₁.StaysIn s.heap → (∀ b, W b → G₁.get? b = none) → s.heap.StaysIn h₁ →
      wpAny (model prog w) (A.deeper (envX qual scope L f cdv [])) (execs body (envX qual scope L f cdv []))
        (fun fl s' => R (.ok (.ret (match fl with | .ret v => v | _ => .none))) s')
        (fun e s' => wpAny (model prog w) (A.deeper (envX qual scope L f cdv [])) (leaving (envX qual scope L f cdv []) e) (fun _ s'' => R (.error e) s'') (fun e' s'' => R (.error e') s'') s')
        { s with heap := h₁, toks := tk })
    (hco : scope.isCoroutine = false := by rfl) (hgen : scope.isGenerator = false := by rfl) (hkn : scope.kind = .function := by rfl)
    (hcell : ∀ x ∈ scope.names, x.2 ≠ .cell := by decide) : codeAny (model prog w) A (.call (.ref f) args) R s := by
  refine enter W g hk hW ho hcd hroom (BindsTo.of_eq hbind) hloc (fun L h₁ hL hLs g' F S => ?_) hco hgen hkn hcell
  refine h L h₁ _ _ hLs (Fq.of_fr g' F ?_) (fun b o hb e => minusW_get.mpr ⟨e, hb⟩) (fun b o e => (minusW_get.mp e).1) (fun b hb => ?_) S
  · cases q : (minusW s.heap W).get? L with
    | none => rfl
    | some o => have := (minusW_get.mp q).1; rw [hL] at this; cases this
  · cases q : (minusW s.heap W).get? b with
    | none => rfl
    | some o => exact absurd hb (minusW_get.mp q).2


theorem Tree.ext_none {fs : List Int} {h : Heap} {root : Addr} {M : Tr} (T : Tree prog w fs h root M) {r : Way} (hr : r ≠ []) (e : M r = none) : ∀ x : Way, M (r ++ x) = none := by
  intro x
  induction hl : x.length generalizing x with
  | zero => rw [List.length_eq_zero_iff.mp hl, List.append_nil]; exact e
  | succ n ih =>
    rcases List.eq_nil_or_concat x with rfl | ⟨y, k, rfl⟩
    · simp at hl
    · cases q : M (r ++ (y.concat k)) with
      | none => rfl
      | some nd =>
        have hy : y.length = n := by simpa using hl
        rw [List.concat_eq_append, ← List.append_assoc] at q
        have := T.closed (r ++ y) k nd q (by simp [hr])
        rw [ih y hy] at this
        cases this
theorem prefix_cases {q' p : Way} {i : Nat} (h : q' <+: p) : q' <+: p.take i ∨ p.take (i + 1) <+: q' := by
  rw [List.prefix_iff_eq_take] at h
  by_cases hl : q'.length ≤ i
  · left; rw [h, List.prefix_take_iff]; exact ⟨List.take_prefix _ _, by rw [← h]; exact hl⟩
  · right; rw [h]; exact (by rw [List.prefix_take_iff]; exact ⟨List.take_prefix _ _, by rw [List.length_take]; omega⟩)

set_option maxRecDepth 100000 in
set_option maxHeartbeats 8000000 in
theorem is_spec {fs : List Int} {c : Mc} {M : Tr} {p : Way} {kv : Value} {fl : Int} {t : Tok} (g : Gd w G) (hk : G.StaysIn s.heap) (hroom : A.depth < recursionLimit) (hh : Hok A s.heap)
    (hi : Inst s.heap c) (hT : Tree prog w fs s.heap c.root M) (hw : WayAt s.heap kv p)
    (k : ∀ b s', (b = true ↔ Told M p fl) → s.heap.StaysIn s'.heap → SameX s s' → R (.ok (.ret (.bool b))) s') :
    codeAny (model prog w) A (.call (.ref 63) ⟨[.ref c.x, kv, .int fl t], []⟩) R s := by
  refine enterQ [("self", .ref c.x), ("key", kv), ("flag", .int fl t)] (fun _ => False) g hk (by simp) (f := 63) rfl (by with_unfolding_all rfl) hroom rfl (locs rfl) ?_
  intro L h₁ G₁ tk hL F sG _ _ _
  replace sG := sG.stays
  replace hi := hi.keeps sG
  replace hT := hT.keeps sG
  replace hw := hw.keeps sG
  replace hh : Hok A G₁ := hh.frame fun b _ o e => sG b o e
  obtain ⟨ka, vs, rfl, ht, hs, hn, hp⟩ := hw
  refine wpAny_abs ?_; intro Q₀ E₀
  refine wpAny_execs_cons (wpAny_If (isTrue_not (isTrue_plain (q_ld F rfl (truthy_tuple (ht.keeps F.keep) (strs_lt hs hp).1 ?_)))))
  rcases List.eq_nil_or_concat p with rfl | ⟨q, stem, hq⟩
  · obtain rfl : vs = [] := by cases hs; rfl
    rw [if_pos (by rfl)]
    refine wpAny_execs_cons (wpAny_Return_some (wpAny_Constant_bool ?_))
    refine k false _ ?_ (fun b o e => F.keep b o (sG b o e)) .refl
    simp only [Bool.false_eq_true, false_iff]
    rintro (⟨nd, e, _⟩ | ⟨q', nd, hp', e, _⟩)
    · rw [hT.nil] at e; cases e
    · rw [List.prefix_nil.mp hp', hT.nil] at e; cases e
  · rw [List.concat_eq_append] at hq
    have hvs : vs ≠ [] := by rintro rfl; cases hs; simp at hq
    rw [if_neg (by simp [hvs])]
    refine wpAny_execs_nil ?_
    dsimp only
    refine wpAny_execs_cons (wpAny_Assign_Name (Attribute_Name_ (q_ld F rfl (get_flags F (hi.keeps F.keep) fun tk₁ => ?_))))
    refine q_st F fun h₂ tk₂ F₂ s₂ => ?_
    dsimp only
    refine wpAny_execs_cons (wpAny_For (q_slice (q_ld F₂ rfl (wpAny_UnaryOp (wpAny_Constant_int (neg_int ?_))))))
    refine ⟨ka, vs.toArray, _, _, rfl, rfl, ht.keeps F₂.keep, (strs_lt hs hp).2, fun a' h₃ k₃ ht' => ?_⟩
    have hlen := hs.length
    have hup : upto (-1) vs.toArray.size = q.length := by simp [upto, hlen, hq]; exact n_back _
    rw [hup] at ht'
    have hs' : StrsAre (vs.take q.length) q := by have := hs.take' q.length; rwa [hq, List.take_left] at this
    refine forTup (A := A.deeper _) (hh.frame fun b _ o e => k₃ b o (F₂.keep b o e)) (F₂.keeps k₃) ht'
      (fun i m₁ => m₁ "key" = some (.ref ka) ∧ m₁ "flag" = some (.int fl t) ∧ ∃ d, m₁ "cont" = some (.ref d) ∧ dAt c.root M (q.take i) = some d ∧ ∀ q' nd, q' <+: q.take i → M q' = some nd → fl ∉ nd.rc)
      ⟨rfl, rfl, c.root, rfl, by simp [dAt], fun q' nd hq' e => by rw [List.take_zero, List.prefix_nil] at hq'; rw [hq', hT.nil] at e; cases e⟩ ?_ ?_
    · rintro i v G' s₃ m₃ hv ⟨m1, m2, d, m3, hd, hno⟩ F₃ sub hX
      have hT' := hT.keeps sub
      obtain ⟨y, ty, rfl, hy⟩ := hs'.item i v (by simpa using hv)
      have hlt : i < q.length := (List.getElem?_eq_some_iff.mp hy).1
      have htk : q.take (i + 1) = q.take i ++ [y] := by rw [List.take_add_one, hy]; rfl
      have hpre : q.take (i + 1) <+: p := (List.take_prefix _ _).trans (hq ▸ List.prefix_append _ _)
      refine q_assignName F₃ fun h₄ tk₄ F₄ s₄ => ?_
      have hkid := (hT'.kid _ d hd).at' (h' := h₄) fun o e => F₄.keep d o e
      refine wpAny_abs ?_; intro Q₀ E₀
      refine wpAny_execs_cons (wpAny_If (wpAny_isTrue_Compare1 (q_ld F₄ rfl (q_ld F₄ m3 (dict_notin hkid fun tk₅ => wpAny_truthy_bool ?_)))))
      cases hM : M (q.take i ++ [y]) with
      | none =>
        rw [if_pos (by simp [kids, hM])]
        refine wpAny_execs_cons (wpAny_Return_some (wpAny_Constant_bool ?_))
        refine k false _ ?_ (fun b o e => F₄.keep b o (sub b o (sG b o e))) hX
        simp only [Bool.false_eq_true, false_iff]
        rw [← htk] at hM
        have none_of : ∀ q', q.take (i + 1) <+: q' → M q' = none := fun q' ⟨z, hz⟩ => by rw [← hz]; exact hT.ext_none (by rw [htk]; simp) hM z
        rintro (⟨nd, e, _⟩ | ⟨q', nd, hp', e, hin⟩)
        · rw [none_of p hpre] at e; cases e
        · have hqi : p.take i = q.take i := by rw [hq, List.take_append_of_le_length (Nat.le_of_lt hlt)]
          have hqi' : p.take (i + 1) = q.take (i + 1) := by rw [hq, List.take_append_of_le_length hlt]
          rcases prefix_cases (i := i) hp' with h1 | h1
          · exact hno q' nd (hqi ▸ h1) e hin
          · rw [none_of q' (hqi' ▸ h1)] at e; cases e
      | some nd =>
        rw [if_neg (by simp [kids, hM])]
        refine wpAny_execs_nil ?_
        dsimp only
        refine wpAny_execs_cons (wpAny_Assign_Name (Subscript_ (q_ld F₄ m3 (q_ld F₄ rfl (dict_item hkid (by simp [kids, hM]; rfl) fun tk₆ => ?_)))))
        refine q_st F₄ fun h₅ tk₇ F₅ s₅ => ?_
        dsimp only
        have hnode := (hT'.node _ nd hM).at' (h' := h₅) fun o e => F₅.keep _ o e
        have hsetr := (hT'.setr _ nd hM).at' (h' := h₅) fun o e => F₅.keep _ o e
        refine wpAny_execs_cons (wpAny_If (wpAny_isTrue_Compare1 (q_ld F₅ m2 (Subscript_ (q_ld F₅ rfl (Constant_str (dict_item hnode rfl fun tk₈ => int_in hsetr fun tk₉ => wpAny_truthy_bool ?_)))))))
        have hpre' : q.take (i + 1) <+: p := hpre
        by_cases hin : fl ∈ nd.rc
        · rw [if_pos (by simpa using hin)]
          refine wpAny_execs_cons (wpAny_Return_some (wpAny_Constant_bool ?_))
          refine k true _ ?_ (fun b o e => F₅.keep b o (sub b o (sG b o e))) hX
          simp only [true_iff]
          exact .inr ⟨_, nd, hpre, htk ▸ hM, hin⟩
        · rw [if_neg (by simpa using hin)]
          refine wpAny_execs_nil ?_
          dsimp only
          refine wpAny_execs_cons (wpAny_Assign_Name (Subscript_ (q_ld F₅ rfl (Constant_str (dict_item hnode rfl fun tk₁₀ => ?_)))))
          refine q_st F₅ fun h₆ tk₁₁ F₆ s₆ => ?_
          dsimp only
          refine wpAny_execs_nil ⟨⟨_, F₆, m1, m2, nd.d, rfl, ?_, ?_⟩, .refl⟩
          · rw [htk]; exact dAt_node hT.nil hM
          · intro q' nd' hq' e
            rcases prefix_cases (i := i) hq' with h1 | h1
            · rw [List.take_take, Nat.min_eq_left (Nat.le_succ i)] at h1
              exact hno q' nd' h1 e
            · rw [List.take_take, Nat.min_self] at h1
              have := List.IsPrefix.eq_of_length hq' (Nat.le_antisymm hq'.length_le h1.length_le)
              rw [this, htk, hM] at e
              cases e; exact hin
    · rintro s₃ m₃ ⟨m1, m2, d, m3, hd, hno⟩ F₃ hX
      have hsz : (q.take (List.take q.length vs.toArray.toList).toArray.size) = q := List.take_of_length_le (by simp [hlen, hq])
      rw [hsz] at hd hno
      dsimp only
      have hitem : vs.toArray[q.length]? = vs[q.length]? := by simp
      obtain ⟨ts, hstem⟩ := hs.at (j := q.length) (y := stem) (by rw [hq]; simp)
      refine wpAny_execs_cons (wpAny_Assign_Name (Subscript_ (q_ld F₃ m1 (wpAny_UnaryOp (wpAny_Constant_int (neg_int ?_))))))
      refine tail_any (ht.keeps F₃.keep).typeIs slot_tuple_getitem.lookup (PyProof.Rows.getItem_tuple (ht.keeps F₃.keep) (by decide) (by decide) (j := q.length) (by simp [seqIndex?, hlen, hq]; exact n_back2 _) (hitem.trans hstem) ?_) rfl
      refine q_st F₃ fun h₄ tk₄ F₄ s₄ => ?_
      dsimp only
      have hkid := (hT.kid _ d hd).at' (h' := h₄) fun o e => F₄.keep d o e
      refine wpAny_execs_cons (wpAny_If (wpAny_isTrue_Compare1 (q_ld F₄ rfl (q_ld F₄ m3 (dict_in hkid fun tk₅ => wpAny_truthy_bool ?_)))))
      cases hM : M (q ++ [stem]) with
      | none =>
        rw [if_neg (by simp [kids, hM])]
        refine wpAny_execs_nil ?_
        dsimp only
        refine wpAny_execs_cons (wpAny_Return_some (wpAny_Constant_bool ?_))
        refine k false _ ?_ (fun b o e => F₄.keep b o (sG b o e)) hX
        simp only [Bool.false_eq_true, false_iff]
        rw [← hq] at hM
        rintro (⟨nd, e, _⟩ | ⟨q', nd, hp', e, hin⟩)
        · rw [hM] at e; cases e
        · rw [hq] at hp'
          rcases List.prefix_concat_iff.mp hp' with h1 | h1
          · rw [h1, ← hq, hM] at e; cases e
          · exact hno q' nd h1 e hin
      | some nd =>
        rw [if_pos (by simp [kids, hM])]
        refine wpAny_execs_cons (wpAny_Assign_Name (Subscript_ (q_ld F₄ m3 (q_ld F₄ rfl (dict_item hkid (by simp [kids, hM]; rfl) fun tk₆ => ?_)))))
        refine q_st F₄ fun h₅ tk₇ F₅ s₅ => ?_
        dsimp only
        have hnode := (hT.node _ nd hM).at' (h' := h₅) fun o e => F₅.keep _ o e
        have hsetr := (hT.setr _ nd hM).at' (h' := h₅) fun o e => F₅.keep _ o e
        have hsetf := (hT.setf _ nd hM).at' (h' := h₅) fun o e => F₅.keep _ o e
        refine wpAny_execs_cons (wpAny_Return_some (BoolOp_or (wpAny_Compare1 (q_ld F₅ m2 (Subscript_ (q_ld F₅ rfl (Constant_str (dict_item hnode rfl fun tk₈ => int_in hsetf fun tk₉ => wpAny_truthy_bool ?_))))))))
        have told : Told M p fl ↔ fl ∈ nd.fl ∨ fl ∈ nd.rc := by
          constructor
          · rintro (⟨nd', e, h⟩ | ⟨q', nd', hp', e, h⟩)
            · rw [hq, hM] at e; cases e; exact .inl h
            · rw [hq] at hp'
              rcases List.prefix_concat_iff.mp hp' with h1 | h1
              · rw [h1, hM] at e; cases e; exact .inr h
              · exact absurd h (hno q' nd' h1 e)
          · rintro (h | h)
            · exact .inl ⟨nd, hq ▸ hM, h⟩
            · exact .inr ⟨p, nd, List.prefix_refl _, hq ▸ hM, h⟩
        by_cases hf : fl ∈ nd.fl
        · rw [if_pos (by simpa using hf)]
          refine k _ _ ?_ (fun b o e => F₅.keep b o (sG b o e)) hX
          rw [told]; simp [hf]
        · rw [if_neg (by simpa using hf)]
          refine BoolOp_one (wpAny_Compare1 (q_ld F₅ m2 (Subscript_ (q_ld F₅ rfl (Constant_str (dict_item hnode rfl fun tk₈ => int_in hsetr fun tk₉ => ?_))))))
          refine k _ _ ?_ (fun b o e => F₅.keep b o (sG b o e)) hX
          rw [told]; simp [hf]
end
end Mine
-- MI
namespace Mine
open PySem.Sem (wp)

/-- a tree that leaves an exception's context where it is none -/
noncomputable def Pres {α : Type} (t : Sem α) : Prop := ∀ (M : Model) (Γ : Ctx) (Q : α → Pos → Shared → Prop) (E : Value → Pos → Shared → Prop) (p : Pos) (s : Shared) (b : Addr), F2 s.heap b → wp M Γ t Q E p s →
  wp M Γ t (fun a p' s' => Q a p' s' ∧ F2 s'.heap b) (fun e p' s' => E e p' s' ∧ F2 s'.heap b) p s

section
variable {α β : Type}
theorem pres_pure (a : α) : Pres (pure a : Sem α) := fun M Γ Q E p s b hb h => ⟨h, hb⟩
theorem pres_unsupported (what : String) : Pres (PySem.unsupported what : Sem α) := fun M Γ Q E p s b hb h => by
  rw [Sem.wp_cmd_unsupported] at h; exact h.elim
theorem pres_bind {m : Sem α} {f : α → Sem β} (hm : Pres m) (hf : ∀ a, Pres (f a)) : Pres (m >>= f) := fun M Γ Q E p s b hb h => by
  rw [Sem.wp_bind'] at h ⊢
  refine Sem.wp_mono M Γ m (fun a p' s' h' => hf a M Γ Q E p' s' b h'.2 h'.1) (fun e p' s' h' => h') p s (hm M Γ _ E p s b hb h)
theorem pres_load (a : Addr) : Pres (PySem.load a) := fun M Γ Q E p s b hb h => by
  rw [Sem.wp_cmd_load] at h ⊢
  obtain ⟨o, ho, q⟩ := h; exact ⟨o, ho, q, hb⟩
theorem pres_loadPart (a : Addr) (x : Option Value) : Pres (PySem.loadPart a x) := fun M Γ Q E p s b hb h => by
  rw [Sem.wp_cmd_loadPart] at h ⊢
  obtain ⟨o, ho, q⟩ := h; exact ⟨o, ho, q, hb⟩
noncomputable def Keeps2 (f : Obj → Obj) : Prop := ∀ o vs, o.data = .fields vs → vs[2]? = some Value.none → ∃ vs', (f o).data = .fields vs' ∧ vs'[2]? = some Value.none
theorem F2.update {h : Heap} {a b : Addr} {f : Obj → Obj} (x : F2 h b) (k : Keeps2 f) : F2 (h.update a f) b := by
  obtain ⟨o, vs, ho, hd, h2⟩ := x
  by_cases q : a = b
  · subst q
    obtain ⟨vs', e, e2⟩ := k o vs hd h2
    exact ⟨_, vs', Heap.get?_update_self f ho (Obj.isFreed_of_fields e), e, e2⟩
  · exact ⟨o, vs, (Heap.get?_update_other h f q).trans ho, hd, h2⟩
theorem pres_update (a : Addr) {f : Obj → Obj} (k : Keeps2 f) : Pres (PySem.update a f) := fun M Γ Q E p s b hb h => by
  rw [Sem.wp_cmd_update] at h ⊢
  exact ⟨h.1, h.2, hb.update k⟩
theorem pres_alloc (o : Obj) : Pres (PySem.alloc o) := fun M Γ Q E p s b hb h => by
  rw [Sem.wp_cmd_alloc] at h ⊢
  exact ⟨h, hb.keeps fun o' e => Heap.get?_push_of_some o e⟩
theorem pres_stack : Pres PySem.stack := fun M Γ Q E p s b hb h => ⟨h, hb⟩
theorem pres_ite {c : Prop} [Decidable c] {a b : Sem α} (ha : Pres a) (hb : Pres b) : Pres (if c then a else b) := by split; exact ha; exact hb
theorem pres_standAt (p : Pos) : Pres (PySem.standAt p) := fun M Γ Q E p s b hb h => ⟨h, hb⟩
theorem pres_ask : Pres PySem.ask := fun M Γ Q E p s b hb h => ⟨h, hb⟩

theorem keeps2_set (i : Nat) (hi : i ≠ 2) (x : Value) : Keeps2 (Obj.mapFields (·.setIfInBounds i x)) := fun o vs hd h2 =>
  ⟨vs.setIfInBounds i x, Obj.data_mapFields hd _, by rw [Array.getElem?_setIfInBounds_ne hi]; exact h2⟩
theorem pres_fieldsOf (v : Value) : Pres (fieldsOf v) := by
  unfold fieldsOf
  split
  · refine pres_bind (pres_load _) fun o => ?_
    split
    · exact pres_pure _
    · exact pres_unsupported _
  · exact pres_unsupported _
theorem pres_field (v : Value) (i : Nat) : Pres (field v i) := by
  unfold field
  refine pres_bind (pres_fieldsOf v) fun vs => ?_
  split
  · exact pres_pure _
  · exact pres_unsupported _
theorem pres_setField (v : Value) (i : Nat) (hi : i ≠ 2) (x : Value) : Pres (setField v i x) := by
  unfold setField
  split
  · unfold updateField
    refine pres_bind (pres_load _) fun o => ?_
    split
    · exact pres_ite (pres_update _ (keeps2_set i hi x)) (pres_unsupported _)
    · exact pres_unsupported _
  · exact pres_unsupported _
theorem pres_newTraceback (vs : List Value) : Pres (newFields "traceback" vs) := by
  have fin : Pres (newObjAsIs (.type "traceback") (.fields vs.toArray)) := by
    unfold newObjAsIs
    exact pres_bind (pres_alloc _) fun a => pres_pure _
  unfold newFields newObj
  dsimp only
  refine pres_ite ?_ fin
  exact pres_bind (pres_unsupported _) fun _ => fin
theorem pres_behindIsImport (env : Env) (outer : List Env) : Pres (behindIsImport env outer) := by
  unfold behindIsImport
  refine pres_ite (pres_pure _) ?_
  refine pres_ite (pres_pure _) ?_
  exact pres_bind (pres_field _ _) fun _ => pres_pure _
theorem pres_keptBack (env : Env) (i : Bool) (outer : List Env) : Pres (keptBack env i outer) := by
  unfold keptBack
  split
  · refine pres_ite (pres_pure _) ?_
    unfold underTheClaimsCaller
    refine pres_bind (pres_bind pres_stack fun _ => pres_pure _) fun _ => ?_
    exact pres_pure _
  · exact pres_pure _
theorem pres_readyFrames : ∀ l : List Env, Pres (readyFrames l)
  | [] => pres_pure _
  | env :: outer => by
    unfold readyFrames
    split
    · refine pres_bind (pres_load _) fun o => ?_
      refine pres_ite (pres_pure _) ?_
      refine pres_bind (pres_behindIsImport _ _) fun i => pres_bind (pres_keptBack _ _ _) fun b => pres_bind (pres_update _ ?_) fun _ => pres_readyFrames outer
      exact fun o vs hd h2 => ⟨vs, hd, h2⟩
    · exact pres_unsupported _
theorem pres_frameOf (env : Env) : Pres (PySem.frameOf env) := by
  unfold PySem.frameOf frameEnvs
  refine pres_bind (pres_bind pres_stack fun _ => pres_pure _) fun l => pres_bind ?_ fun r => ?_
  · unfold frameObject
    split
    · exact pres_pure _
    · exact pres_bind (pres_readyFrames _) fun _ => pres_pure _
  · split
    · exact pres_pure _
    · exact pres_unsupported _
theorem pres_entryPlaceOf (f : Addr) (b : Bool) : Pres (entryPlaceOf f b) := by
  unfold entryPlaceOf
  refine pres_bind pres_stack fun _ => ?_
  split
  · exact pres_pure _
  · exact pres_pure _
theorem pres_noteFrame (e : Value) (env : Env) : Pres (noteFrame e env) := by
  unfold noteFrame
  split
  · rename_i fr _
    refine pres_bind (pres_field _ _) fun head => ?_
    have tail : Pres (do
        let a ← PySem.frameOf env
        let pl ← entryPlaceOf fr (head != .none)
        let b ← EntryCells.newEntry head a .none (rawInt fr) .none pl
        setField e 1 b) :=
      pres_bind (pres_frameOf _) fun a => pres_bind (pres_entryPlaceOf _ _) fun pl => pres_bind (pres_newTraceback _) fun b => pres_setField _ _ (by decide) _
    refine pres_ite ?_ tail
    refine pres_bind (pres_field _ _) fun x => ?_
    refine pres_ite (pres_pure _) ?_
    exact pres_bind (pres_setField _ _ (by decide) _) fun _ => tail
  · exact pres_unsupported _
theorem pres_setFlight (e : Value) (f : Option Addr) : Pres (setFlight e f) := by
  unfold setFlight
  refine pres_bind (pres_field _ _) fun tb => ?_
  exact pres_ite (pres_setField _ _ (by decide) _) (pres_pure _)
theorem pres_leaving (env : Env) (e : Value) : Pres (leaving env e) := by
  unfold leaving
  exact pres_bind (pres_noteFrame _ _) fun _ => pres_setFlight _ _
end

/-- what a tree keeps besides its end -/
theorem Pres.any {α : Type} {t : Sem α} (x : Pres t) {M : Model} {A : Around} {Q : α → Shared → Prop} {E : Value → Shared → Prop} {s : Shared} {b : Addr} (hb : F2 s.heap b) (h : wpAny M A t (fun a s' => F2 s'.heap b → Q a s') E s)
    : wpAny M A t Q E s := fun Γ p hΓ =>
  Sem.wp_mono M Γ t (fun a p' s' h' => h'.1 h'.2) (fun e p' s' h' => h'.1) p s (x M Γ _ _ p s b hb (h Γ p hΓ))
end Mine
-- MJ
namespace Mine

theorem valueAt_stored {kvs : List (PySem.Str × Value)} {k x : PySem.Str} {v : Value} : valueAt (stored kvs k v) x = if x = k then some v else valueAt kvs x := by
  unfold stored
  split
  · rename_i h
    induction kvs with
    | nil => simp at h
    | cons kv r ih =>
      simp only [List.map_cons, valueAt, List.find?_cons] at ih ⊢
      by_cases hk : kv.1 = k
      · by_cases hx : x = k
        · simp [hk, hx]
        · have hkx : ¬ k = x := fun q => hx q.symm
          simp only [hk, if_true, hx, if_false, decide_eq_true_eq, hkx, decide_false, Bool.false_eq_true]
          by_cases hr : r.any (fun kv => decide (kv.1 = k)) = true
          · have := ih hr
            simp only [hx, if_false] at this
            exact this
          · have hm : r.map (fun kv => if kv.1 = k then (kv.1, v) else kv) = r := by
              conv => rhs; rw [← List.map_id r]
              refine List.map_congr_left fun y hy => ?_
              have : ¬ y.1 = k := fun q => hr (List.any_eq_true.mpr ⟨y, hy, by simpa using q⟩)
              simp [this]
            rw [hm]
      · have hr : r.any (fun kv => decide (kv.1 = k)) = true := by simpa [hk] using h
        have := ih hr
        simp only [hk, if_false]
        by_cases hx : kv.1 = x
        · have : ¬ x = k := fun q => hk (hx.trans q)
          simp [hx, this]
        · simp only [hx, decide_false, Bool.false_eq_true, if_false]
          exact this
  · rename_i h
    have hn : ∀ kv ∈ kvs, ¬ kv.1 = k := fun kv hm q => h (List.any_eq_true.mpr ⟨kv, hm, by simpa using q⟩)
    simp only [valueAt, List.find?_append]
    by_cases hx : x = k
    · subst hx
      rw [List.find?_eq_none.mpr (by simpa using hn)]
      simp
    · have hkx : ¬ k = x := fun q => hx q.symm
      cases hf : kvs.find? (fun kv => decide (kv.1 = x)) with
      | none => simp [hx, hkx]
      | some y => simp [hx]
theorem mem_stored {kvs : List (PySem.Str × Value)} {k : PySem.Str} {v : Value} {x : PySem.Str × Value} (h : x ∈ stored kvs k v) : x.1 = k ∨ x ∈ kvs ∨ ∃ y ∈ kvs, y.1 = x.1 := by
  unfold stored at h
  split at h
  · obtain ⟨y, hy, e⟩ := List.mem_map.mp h
    split at e
    · rename_i q; subst e; exact .inl q
    · subst e; exact .inr (.inl hy)
  · rcases List.mem_append.mp h with h | h
    · exact .inr (.inl h)
    · rw [List.mem_singleton.mp h]; exact .inl rfl
theorem nodup_sub_le {α : Type} [DecidableEq α] : ∀ (l r : List α), l.Nodup → (∀ x ∈ l, x ∈ r) → l.length ≤ r.length
  | [], r, _, _ => Nat.zero_le _
  | a :: l, r, hn, hs => by
    have hn' := List.nodup_cons.mp hn
    have ha : a ∈ r := hs a (.head _)
    have := nodup_sub_le l (r.erase a) hn'.2 fun x hx => (List.mem_erase_of_ne (fun q => hn'.1 (by subst q; exact hx))).mpr (hs x (.tail _ hx))
    rw [List.length_erase_of_mem ha] at this
    have hp := List.length_pos_of_mem ha
    simp only [List.length_cons]
    omega

section
variable {prog : Program} {w : World} {A : Around} {E : Value → Shared → Prop} {s : Shared} {h h' : Heap} {d a : Addr} {f : PySem.Str → Option Value} {l : List Int} {k : PySem.Str} {t : Tok} {v : Value}
theorem DictF.few (x : DictF prog w h d f) : ∃ kvs, h.DictOf (PySem.strKind prog w) d kvs ∧ (∀ k, valueAt kvs k = f k) ∧ (∀ kv ∈ kvs, kv.1 ∈ nms) ∧ d ≠ sysModules ∧ kvs.length ≤ 7 := by
  obtain ⟨kvs, x, e, hn, hs⟩ := x
  refine ⟨kvs, x, e, hn, hs, ?_⟩
  obtain ⟨_, _, _, _, _, _, _, _, hd⟩ := x
  have := nodup_sub_le (kvs.map (·.1)) nms hd fun x hx => by obtain ⟨kv, hm, rfl⟩ := List.mem_map.mp hx; exact hn kv hm
  simpa [nms] using this
theorem DictF.stored {kvs : List (PySem.Str × Value)} (hx : h'.DictOf (PySem.strKind prog w) d (stored kvs k v)) (e : ∀ k, valueAt kvs k = f k) (hn : ∀ kv ∈ kvs, kv.1 ∈ nms) (hs : d ≠ sysModules) (hk : k ∈ nms) :
    DictF prog w h' d (fun x => if x = k then some v else f x) := by
  refine ⟨_, hx, fun x => ?_, fun kv hm => ?_, hs⟩
  · rw [valueAt_stored, e]
  · rcases mem_stored hm with q | q | ⟨y, hy, q⟩
    · rw [q]; exact hk
    · exact hn _ q
    · rw [← q]; exact hn _ hy
theorem dict_set {Q : Unit → Shared → Prop} (x : DictF prog w s.heap d f) (hk : k ∈ nms)
    (h : ∀ h' tk, DictF prog w h' d (fun x => if x = k then some v else f x) → Heap.SameBut d s.heap h' → Q () { s with heap := h', toks := tk }) : wpAny (model prog w) A (setItem (.ref d) (.str k t) v) Q E s := by
  obtain ⟨kvs, x, e, hn, hs, hl⟩ := x.few
  exact wpAny_setItem_pairs (strKind_is prog w k t) x (fun h' hx hsb => h h' _ (DictF.stored hx e hn hs hk) hsb) (by rw [sizeLine_is]; omega)

theorem set_add {i : Int} {Q : Value → Shared → Prop} (x : IntS prog w s.heap a l) (hl : l.length ≤ 3)
    (h : ∀ h' tk, IntS prog w h' a (if i ∈ l then l else i :: l) → Heap.SameBut a s.heap h' → Q .none { s with heap := h', toks := tk }) : wpAny (model prog w) A (call (.builtin "set.add") [.ref a, .int i t]) Q E s := by
  refine call_set_add (intKind_is prog w i t) rfl x (by unfold scanBound; omega) fun h' hs hx => h h' _ ?_ hs
  by_cases hi : i ∈ l
  · rw [if_pos hi]
    refine PyProof.Rows.SetOf_congr hx (fun j => ?_) ?_
    · by_cases hj : j = i
      · subst hj; simp [hi]
      · simp [hj]
    · simp [hi]
  · rw [if_neg hi]
    refine PyProof.Rows.SetOf_congr hx (fun j => ?_) ?_
    · by_cases hj : j = i
      · subst hj; simp
      · simp [hj]
    · simp [hi]
end
end Mine
-- MK
namespace Mine

section
variable {prog : Program} {w : World} {A : Around} {E : Value → Shared → Prop} {s : Shared} {G : Heap} {L f : Addr} {m : PySem.Str → Option Value} {cn : PySem.Str} {cs : Scope} {ccd : Value} {cl : List (PySem.Str × Addr)}

theorem Gd.big {G : Heap} (g : Gd w G) : 106 < G.objs.size := by
  have : ∃ o, (hd.heap_39 w.params).lookup 106 = some o := ⟨_, rfl⟩
  obtain ⟨o, e⟩ := this
  exact Heap.lt_size (g.K _ _ e)
theorem Fq.big {h : Heap} (F : Fq w G L h m) : 106 < h.objs.size := by
  obtain ⟨G0, g, k, l⟩ := F.gd
  exact Nat.lt_of_lt_of_le g.big (Nat.le_trans l (Nat.le_of_lt F.lt))
theorem get_fresh {h : Heap} {a : Addr} (h1 : h.objs.size ≤ a) : h.get? a = none := by
  cases q : h.get? a with
  | none => rfl
  | some o => exact absurd (Heap.lt_size q) (Nat.not_lt.mpr h1)

theorem boot_set : bootBuiltins "set" = some (.type "set") := by decide +kernel

/-- four new objects: a node that holds nothing yet -/
structure Fresh4 (h : Heap) (nd : Nd) : Prop where
  n : h.objs.size ≤ nd.n
  f : h.objs.size ≤ nd.f
  r : h.objs.size ≤ nd.r
  d : h.objs.size ≤ nd.d
  nf : nd.n ≠ nd.f
  nr : nd.n ≠ nd.r
  nd_ : nd.n ≠ nd.d
  fr : nd.f ≠ nd.r
  fd : nd.f ≠ nd.d
  rd : nd.r ≠ nd.d

theorem IntS.new {h : Heap} {led : Bool} : IntS prog w (h.push { cls := .type "set", dict := none, data := .set #[] 0 (.fresh 0 0 led) }) h.objs.size [] :=
  ⟨_, #[], 0, _, Heap.get?_push_size _ rfl, ⟨rfl, rfl, rfl⟩, rfl, fun _ he => by simp at he, fun k => by simp, by decide, by cases led <;> rfl, rfl⟩
theorem DictF.new {h : Heap} (hb : 106 < h.objs.size) : DictF prog w (h.push { cls := .type "dict", data := .dict #[] }) h.objs.size (fun _ => none) :=
  ⟨[], Heap.DictOf.new h, fun _ => rfl, fun _ x => by simp at x, fun q => by rw [q] at hb; exact absurd hb (by decide)⟩

theorem q_set0 {p pos : Pos} {Q : Value → Shared → Prop} (F : Fq w G L s.heap m)
    (h : ∀ led : Bool, Q (.ref s.heap.objs.size) { s with heap := s.heap.push { cls := .type "set", dict := none, data := .set #[] 0 (.fresh 0 0 led) } })
    (hk : cs.kind = .function := by rfl) (hx : (envX cn cs L f ccd cl).kindOf "set" = some .globalImplicit := by rfl) :
    wpAny (model prog w) A (eval (.Call (.Name "set" p) [] [] pos) (envX cn cs L f ccd cl)) Q E s :=
  Call_ (q_bi F (by kernel_rfl) boot_set (by decide) (callWith_type0 (call_set_0 h)) hk hx)

set_option maxHeartbeats 4000000 in
theorem q_node {k1 k2 k3 : Nat} {a1 a2 a3 b1 b2 b3 c1 c2 pos : Pos} {Q : Value → Shared → Prop} (F : Fq w G L s.heap m)
    (h : ∀ h' tk nd, s.heap.StaysIn h' → Fresh4 s.heap nd → DictF prog w h' nd.n (inner nd) → IntS prog w h' nd.f nd.fl → IntS prog w h' nd.r nd.rc → DictF prog w h' nd.d (fun _ => none) → nd.fl = [] → nd.rc = [] →
      Q (.ref nd.n) { s with heap := h', toks := tk })
    (hk : cs.kind = .function := by rfl) (hx : (envX cn cs L f ccd cl).kindOf "set" = some .globalImplicit := by rfl) :
    wpAny (model prog w) A (eval (.Dict [some (.Constant (.str "flags") k1 a1), some (.Constant (.str "recursive_flags") k2 a2), some (.Constant (.str "nested") k3 a3)]
      [.Call (.Name "set" b1) [] [] b2, .Call (.Name "set" c1) [] [] c2, .Dict [] [] b3] pos) (envX cn cs L f ccd cl)) Q E s := by
  have hb := F.big
  refine wpAny_Dict_pairs (knd := PySem.strKind prog w) (pairs := [(eval (.Constant (.str "flags") k1 a1) (envX cn cs L f ccd cl), do let x ← eval (.Call (.Name "set" b1) [] [] b2) (envX cn cs L f ccd cl); standAt pos; pure x),
    (eval (.Constant (.str "recursive_flags") k2 a2) (envX cn cs L f ccd cl), do let x ← eval (.Call (.Name "set" c1) [] [] c2) (envX cn cs L f ccd cl); standAt pos; pure x),
    (eval (.Constant (.str "nested") k3 a3) (envX cn cs L f ccd cl), do let x ← eval (.Dict [] [] b3) (envX cn cs L f ccd cl); standAt pos; pure x)]) rfl (by simp) (by simp) ?_
  have K0 : s.heap.StaysIn (s.heap.push { cls := .type "dict", data := .dict #[] }) := fun b o e => Heap.get?_push_of_some _ e
  refine evalPairs_cons (Constant_str (wpAny_bind (q_set0 (F.keeps K0) (fun led1 => wpAny_bind (wpAny_standAt (wpAny_pure ?_))) hk hx)))
  refine evalPairs_cons (Constant_str (wpAny_bind (q_set0 (F.keeps fun b o e => Heap.get?_push_of_some _ (K0 b o e)) (fun led2 => wpAny_bind (wpAny_standAt (wpAny_pure ?_))) hk hx)))
  refine evalPairs_cons (Constant_str (wpAny_bind (wpAny_Dict_empty (wpAny_bind (wpAny_standAt (wpAny_pure ?_))))))
  refine evalPairs_nil ⟨[("flags", .ref _), ("recursive_flags", .ref _), ("nested", .ref _)], ⟨strKind_is prog w _ _, rfl, strKind_is prog w _ _, rfl, strKind_is prog w _ _, rfl, trivial⟩, (((Heap.DictOf.new s.heap).push _).push _).push _, fun h' hd hs => ?_⟩
  dsimp only at hd hs ⊢
  have hsz : ∀ (h : Heap) (o : Obj), (h.push o).objs.size = h.objs.size + 1 := fun h o => by simp
  simp only [hsz] at hd ⊢
  have S : ∀ b, b ≠ s.heap.objs.size → ∀ o, _ → h'.get? b = some o := fun b hb o e => hs.extBut b o hb e
  refine h h' _ ⟨s.heap.objs.size, s.heap.objs.size + 1, s.heap.objs.size + 1 + 1, s.heap.objs.size + 1 + 1 + 1, [], []⟩ ?_ ?_ ?_ ?_ ?_ ?_ rfl rfl
  · intro b o e
    exact S b (Nat.ne_of_lt (Heap.lt_size e)) o (Heap.get?_push_of_some _ (Heap.get?_push_of_some _ (Heap.get?_push_of_some _ (K0 b o e))))
  · constructor <;> dsimp only <;> first | exact Nat.le_refl _ | exact Nat.ne_of_lt (by omega) | omega
  · refine ⟨_, hd, fun k => ?_, fun kv hm => ?_, fun q => by have q' : s.heap.objs.size = sysModules := q; rw [q'] at hb; exact absurd hb (by decide)⟩
    · show valueAt [(("flags" : PySem.Str), _), ("recursive_flags", _), ("nested", _)] k = _
      unfold inner valueAt
      simp only [List.find?_cons, List.find?_nil]
      by_cases e1 : k = "flags"
      · subst e1; rfl
      · by_cases e2 : k = "recursive_flags"
        · subst e2; rfl
        · by_cases e3 : k = "nested"
          · subst e3; rfl
          · have f1 : ¬ ("flags" : PySem.Str) = k := fun q => e1 q.symm
            have f2 : ¬ ("recursive_flags" : PySem.Str) = k := fun q => e2 q.symm
            have f3 : ¬ ("nested" : PySem.Str) = k := fun q => e3 q.symm
            simp [e1, e2, e3, f1, f2, f3]
    · have hm' : kv ∈ [(("flags" : PySem.Str), Value.ref (s.heap.objs.size + 1)), ("recursive_flags", .ref (s.heap.objs.size + 1 + 1)), ("nested", .ref (s.heap.objs.size + 1 + 1 + 1))] := hm
      simp only [List.mem_cons, List.not_mem_nil, or_false] at hm'
      rcases hm' with rfl | rfl | rfl <;> simp only [] <;> decide
  · have i1 := IntS.new (prog := prog) (w := w) (h := s.heap.push { cls := .type "dict", data := .dict #[] }) (led := led1)
    rw [hsz] at i1
    exact i1.at' fun o e => S _ (by omega) o (Heap.get?_push_of_some _ (Heap.get?_push_of_some _ e))
  · have i1 := IntS.new (prog := prog) (w := w) (h := (s.heap.push { cls := .type "dict", data := .dict #[] }).push { cls := .type "set", dict := none, data := .set #[] 0 (.fresh 0 0 led1) }) (led := led2)
    rw [hsz, hsz] at i1
    exact i1.at' fun o e => S _ (by omega) o (Heap.get?_push_of_some _ e)
  · have i1 := DictF.new (prog := prog) (w := w) (h := ((s.heap.push { cls := .type "dict", data := .dict #[] }).push { cls := .type "set", dict := none, data := .set #[] 0 (.fresh 0 0 led1) }).push { cls := .type "set", dict := none, data := .set #[] 0 (.fresh 0 0 led2) }) (by simp only [hsz]; omega)
    rw [hsz, hsz, hsz] at i1
    exact i1.at' fun o e => S _ (by omega) o e
end
end Mine
-- ML
namespace Mine

noncomputable def upd (M : Tr) (p : Way) (nd : Nd) : Tr := fun q => if q = p then some nd else M q
theorem upd_self {M : Tr} {p : Way} {nd : Nd} : upd M p nd p = some nd := by simp [upd]
theorem upd_ne {M : Tr} {p q : Way} {nd : Nd} (h : q ≠ p) : upd M p nd q = M q := by simp [upd, h]

/-- the marks that stand in a tree -/
noncomputable def V (M : Tr) (p : Way) (b : Bool) (i : Int) : Prop := ∃ nd, M p = some nd ∧ i ∈ (if b then nd.rc else nd.fl)
theorem told_iff {M : Tr} {p : Way} {i : Int} : Told M p i ↔ V M p false i ∨ ∃ q, q <+: p ∧ V M q true i := by
  unfold Told V
  simp only [if_true, Bool.false_eq_true, if_false]
  constructor
  · rintro (h | ⟨q, nd, a, b, c⟩)
    · exact .inl h
    · exact .inr ⟨q, a, nd, b, c⟩
  · rintro (h | ⟨q, a, nd, b, c⟩)
    · exact .inl h
    · exact .inr ⟨q, nd, a, b, c⟩

section
variable {prog : Program} {w : World} {h h' : Heap} {root : Addr} {M : Tr} {fs : List Int}

theorem adr_upd_ne {p q : Way} {nd : Nd} {i : Nat} (e : q ≠ p) : adr root (upd M p nd) q i = adr root M q i := by
  unfold adr dAt
  rw [upd_ne e]
theorem adr_node {p : Way} {nd : Nd} {i : Nat} (hp : p ≠ []) (e : M p = some nd) : adr root M p i = if i = 0 then some nd.n else if i = 1 then some nd.f else if i = 2 then some nd.r else if i = 3 then some nd.d else none := by
  unfold adr dAt
  rw [e, if_neg hp]
  by_cases h3 : i = 3
  · subst h3; rfl
  · rw [if_neg h3]
    simp only [Option.bind_some, h3, if_false]
theorem node_cases {p : Way} {nd : Nd} {i : Nat} {a : Addr} (hp : p ≠ []) (e : M p = some nd) (h : adr root M p i = some a) : (i = 0 ∧ a = nd.n) ∨ (i = 1 ∧ a = nd.f) ∨ (i = 2 ∧ a = nd.r) ∨ (i = 3 ∧ a = nd.d) := by
  rw [adr_node hp e] at h
  split at h
  · rename_i q; cases h; exact .inl ⟨q, rfl⟩
  · split at h
    · rename_i q; cases h; exact .inr (.inl ⟨q, rfl⟩)
    · split at h
      · rename_i q; cases h; exact .inr (.inr (.inl ⟨q, rfl⟩))
      · split at h
        · rename_i q; cases h; exact .inr (.inr (.inr ⟨q, rfl⟩))
        · cases h
theorem concat_ne_nil {r : Way} {k : PySem.Str} : r ++ [k] ≠ [] := by simp
theorem concat_ne_self {r : Way} {k : PySem.Str} : r ≠ r ++ [k] := fun q => by simpa using congrArg List.length q

/-- a new node under a way that stands -/
theorem Tree.add (T : Tree prog w fs h root M) {r : Way} {k : PySem.Str} {d : Addr} {nd : Nd} (hd : dAt root M r = some d) (hno : M (r ++ [k]) = none)
    (hfl : nd.fl = []) (hrc : nd.rc = []) (hfr : ∀ a, Foot root M a → a < h.objs.size) (h4 : Fresh4 h nd)
    (kp : ∀ a, Foot root M a → a ≠ d → ∀ o, h.get? a = some o → h'.get? a = some o)
    (hcont : DictF prog w h' d (fun x => if x = k then some (.ref nd.n) else kids M r x))
    (hn : DictF prog w h' nd.n (inner nd)) (hf : IntS prog w h' nd.f nd.fl) (hr : IntS prog w h' nd.r nd.rc) (hdd : DictF prog w h' nd.d (fun _ => none)) :
    Tree prog w fs h' root (upd M (r ++ [k]) nd) := by
  have app_ne : ∀ {p : Way} {k' : PySem.Str}, p ≠ r → p ++ [k'] ≠ r ++ [k] := fun hp q => hp (List.append_inj' q rfl).1
  have hM_r : r ≠ [] → (M r).isSome := fun hr' => by
    unfold dAt at hd; rw [if_neg hr'] at hd
    cases q : M r with
    | none => rw [q] at hd; cases hd
    | some x => rfl
  have up : ∀ p, (M p).isSome → (upd M (r ++ [k]) nd p).isSome := fun p hp => by
    unfold upd; split
    · rfl
    · exact hp
  have far : ∀ {p : Way} {i : Nat} {a : Addr}, adr root M p i = some a → (p ≠ r ∨ i ≠ 3) → ∀ o, h.get? a = some o → h'.get? a = some o := fun {p i a} e hne => kp a ⟨p, i, e⟩ fun q => by
    subst q
    have := T.apart _ _ _ _ _ e (adr3 hd)
    rcases hne with x | x
    · exact x this.1
    · exact x this.2
  constructor
  · rw [upd_ne (Ne.symm concat_ne_nil)]; exact T.nil
  · intro p k' nd' e hp
    by_cases q : p ++ [k'] = r ++ [k]
    · have : p = r := (List.append_inj' q rfl).1
      subst this
      exact up _ (hM_r hp)
    · rw [upd_ne q] at e
      exact up _ (T.closed _ _ _ e hp)
  · intro p d' e
    by_cases q : p = r ++ [k]
    · subst q
      have e' : d' = nd.d := by unfold dAt at e; rw [if_neg concat_ne_nil, upd_self] at e; exact (Option.some.inj e).symm
      subst e'
      have : kids (upd M (r ++ [k]) nd) (r ++ [k]) = fun _ => none := funext fun k' => by
        unfold kids
        rw [upd_ne (by exact fun q => concat_ne_self q.symm), T.ext_none concat_ne_nil hno]; rfl
      rw [this]; exact hdd
    · have e' : dAt root M p = some d' := by unfold dAt at e ⊢; rw [upd_ne q] at e; exact e
      by_cases q2 : p = r
      · subst q2
        rw [hd] at e'; cases e'
        have : kids (upd M (p ++ [k]) nd) p = fun x => if x = k then some (.ref nd.n) else kids M p x := funext fun k' => by
          unfold kids upd
          by_cases x : k' = k
          · subst x; simp
          · simp [x]
        rw [this]; exact hcont
      · have : kids (upd M (r ++ [k]) nd) p = kids M p := funext fun k' => by unfold kids; rw [upd_ne (app_ne q2)]
        rw [this]
        exact (T.kid p d' e').at' (far (adr3 e') (.inl q2))
  · intro p nd' e
    by_cases q : p = r ++ [k]
    · subst q; rw [upd_self] at e; cases e; exact hn
    · rw [upd_ne q] at e
      exact (T.node p nd' e).at' (far (adr0 e) (.inr (by decide)))
  · intro p nd' e
    by_cases q : p = r ++ [k]
    · subst q; rw [upd_self] at e; cases e; exact hf
    · rw [upd_ne q] at e
      exact (T.setf p nd' e).at' (far (adr1 e) (.inr (by decide)))
  · intro p nd' e
    by_cases q : p = r ++ [k]
    · subst q; rw [upd_self] at e; cases e; exact hr
    · rw [upd_ne q] at e
      exact (T.setr p nd' e).at' (far (adr2 e) (.inr (by decide)))
  · intro p nd' e
    by_cases q : p = r ++ [k]
    · subst q; rw [upd_self] at e; cases e; rw [hfl, hrc]; simp
    · rw [upd_ne q] at e; exact T.few p nd' e
  · have new_big : ∀ {i : Nat} {a : Addr}, adr root (upd M (r ++ [k]) nd) (r ++ [k]) i = some a → h.objs.size ≤ a := fun {i a} e => by
      rw [adr_node concat_ne_nil upd_self] at e
      split at e
      · cases e; exact h4.n
      · split at e
        · cases e; exact h4.f
        · split at e
          · cases e; exact h4.r
          · split at e
            · cases e; exact h4.d
            · cases e
    have new_inj : ∀ {i j : Nat} {a : Addr}, adr root (upd M (r ++ [k]) nd) (r ++ [k]) i = some a → adr root (upd M (r ++ [k]) nd) (r ++ [k]) j = some a → i = j := fun {i j a} e e' => by
      have c1 := node_cases concat_ne_nil upd_self e
      have c2 := node_cases concat_ne_nil upd_self e'
      rcases c1 with ⟨rfl, rfl⟩ | ⟨rfl, rfl⟩ | ⟨rfl, rfl⟩ | ⟨rfl, rfl⟩ <;> rcases c2 with ⟨rfl, x⟩ | ⟨rfl, x⟩ | ⟨rfl, x⟩ | ⟨rfl, x⟩ <;>
        first | rfl | exact absurd x h4.nf | exact absurd x h4.nr | exact absurd x h4.nd_ | exact absurd x h4.fr | exact absurd x h4.fd | exact absurd x h4.rd | exact absurd x.symm h4.nf | exact absurd x.symm h4.nr | exact absurd x.symm h4.nd_ | exact absurd x.symm h4.fr | exact absurd x.symm h4.fd | exact absurd x.symm h4.rd
    intro p i q j a e e'
    by_cases hp : p = r ++ [k]
    · by_cases hq : q = r ++ [k]
      · subst hp; subst hq; exact ⟨rfl, new_inj e e'⟩
      · subst hp
        rw [adr_upd_ne hq] at e'
        exact absurd (hfr a ⟨q, j, e'⟩) (Nat.not_lt.mpr (new_big e))
    · by_cases hq : q = r ++ [k]
      · subst hq
        rw [adr_upd_ne hp] at e
        exact absurd (hfr a ⟨p, i, e⟩) (Nat.not_lt.mpr (new_big e'))
      · rw [adr_upd_ne hp] at e
        rw [adr_upd_ne hq] at e'
        exact T.apart _ _ _ _ _ e e'
end
end Mine
-- MM
namespace Mine

section
variable {prog : Program} {w : World} {h h' : Heap} {root : Addr} {M : Tr} {fs : List Int}

theorem foot_add {r : Way} {nd : Nd} {a : Addr} (hr : r ≠ []) (x : Foot root (upd M r nd) a) : Foot root M a ∨ a = nd.n ∨ a = nd.f ∨ a = nd.r ∨ a = nd.d := by
  obtain ⟨p, i, e⟩ := x
  by_cases q : p = r
  · subst q
    rcases node_cases hr upd_self e with x | x | x | x
    · exact .inr (.inl x.2)
    · exact .inr (.inr (.inl x.2))
    · exact .inr (.inr (.inr (.inl x.2)))
    · exact .inr (.inr (.inr (.inr x.2)))
  · rw [adr_upd_ne q] at e; exact .inl ⟨p, i, e⟩
theorem V_upd {r : Way} {nd : Nd} {p : Way} {b : Bool} {i : Int} : V (upd M r nd) p b i ↔ if p = r then i ∈ (if b then nd.rc else nd.fl) else V M p b i := by
  unfold V upd
  by_cases q : p = r
  · simp [q]
  · simp [q]

/-- other sets at a node -/
theorem Tree.put (T : Tree prog w fs h root M) {r : Way} {nd nd' : Nd} (e : M r = some nd) (hn : nd'.n = nd.n) (hf : nd'.f = nd.f) (hr : nd'.r = nd.r) (hdd : nd'.d = nd.d)
    (few : nd'.fl.Nodup ∧ nd'.rc.Nodup ∧ (∀ i ∈ nd'.fl, i ∈ fs) ∧ (∀ i ∈ nd'.rc, i ∈ fs))
    (kp : Kept (fun a => a = nd.f ∨ a = nd.r) h h') (h1 : IntS prog w h' nd.f nd'.fl) (h2 : IntS prog w h' nd.r nd'.rc) :
    Tree prog w fs h' root (upd M r nd') ∧ (∀ a, Foot root (upd M r nd') a ↔ Foot root M a) := by
  have rn : r ≠ [] := fun q => by rw [q, T.nil] at e; cases e
  have hadr : ∀ p i, adr root (upd M r nd') p i = adr root M p i := fun p i => by
    by_cases q : p = r
    · subst q
      rw [adr_node rn upd_self, adr_node rn e, hn, hf, hr, hdd]
    · exact adr_upd_ne q
  have hd : ∀ p, dAt root (upd M r nd') p = dAt root M p := fun p => by
    have := hadr p 3
    unfold adr at this
    simpa using this
  have hsome : ∀ p, (upd M r nd' p).isSome = (M p).isSome := fun p => by
    unfold upd; split
    · rename_i q; rw [q, e]; rfl
    · rfl
  have hkid : ∀ p, kids (upd M r nd') p = kids M p := fun p => funext fun k => by
    unfold kids upd
    split
    · rename_i q; rw [q, e]; simp [hn]
    · rfl
  have far : ∀ {p : Way} {i : Nat} {a : Addr}, adr root M p i = some a → (p ≠ r ∨ (i ≠ 1 ∧ i ≠ 2)) → ∀ o, h.get? a = some o → h'.get? a = some o := fun {p i a} x hne o => kp a o fun q => by
    rcases q with rfl | rfl
    · have := T.apart _ _ _ _ _ x (adr1 e)
      rcases hne with z | z
      · exact z this.1
      · exact z.1 this.2
    · have := T.apart _ _ _ _ _ x (adr2 e)
      rcases hne with z | z
      · exact z this.1
      · exact z.2 this.2
  refine ⟨⟨?_, ?_, ?_, ?_, ?_, ?_, ?_, ?_⟩, fun a => ?_⟩
  · rw [upd_ne (Ne.symm rn)]; exact T.nil
  · intro p k nd₁ e₁ hp
    rw [hsome]
    have : (M (p ++ [k])).isSome := by rw [← hsome, e₁]; rfl
    obtain ⟨x, hx⟩ := Option.isSome_iff_exists.mp this
    exact T.closed p k x hx hp
  · intro p d hd'
    rw [hd] at hd'
    rw [hkid]
    exact (T.kid p d hd').at' (far (adr3 hd') (.inr (by decide)))
  · intro p nd₁ e₁
    by_cases q : p = r
    · subst q
      rw [upd_self] at e₁; cases e₁
      have := (T.node p nd e).at' (h' := h') (far (adr0 e) (.inr (by decide)))
      rw [hn]
      have hi : inner nd' = inner nd := by unfold inner; rw [hf, hr, hdd]
      rw [hi]; exact this
    · rw [upd_ne q] at e₁
      exact (T.node p nd₁ e₁).at' (far (adr0 e₁) (.inl q))
  · intro p nd₁ e₁
    by_cases q : p = r
    · subst q
      rw [upd_self] at e₁; cases e₁
      rw [hf]; exact h1
    · rw [upd_ne q] at e₁
      exact (T.setf p nd₁ e₁).at' (far (adr1 e₁) (.inl q))
  · intro p nd₁ e₁
    by_cases q : p = r
    · subst q
      rw [upd_self] at e₁; cases e₁
      rw [hr]; exact h2
    · rw [upd_ne q] at e₁
      exact (T.setr p nd₁ e₁).at' (far (adr2 e₁) (.inl q))
  · intro p nd₁ e₁
    by_cases q : p = r
    · subst q
      rw [upd_self] at e₁; cases e₁
      exact few
    · rw [upd_ne q] at e₁
      exact T.few p nd₁ e₁
  · intro p i q j a e₁ e₂
    rw [hadr] at e₁ e₂
    exact T.apart _ _ _ _ _ e₁ e₂
  · unfold Foot; simp only [hadr]

/-- a node taken off, and all below it -/
noncomputable def cut (M : Tr) (r : Way) : Tr := fun q => if r.isPrefixOf q then none else M q
theorem cut_some {r q : Way} {nd : Nd} (e : cut M r q = some nd) : ¬ r <+: q ∧ M q = some nd := by
  unfold cut at e
  split at e
  · cases e
  · rename_i x; exact ⟨fun z => x (List.isPrefixOf_iff_prefix.mpr z), e⟩
theorem cut_ne {r q : Way} (x : ¬ r <+: q) : cut M r q = M q := by
  unfold cut
  rw [if_neg (fun z => x (List.isPrefixOf_iff_prefix.mp z))]
theorem cut_in {r q : Way} (x : r <+: q) : cut M r q = none := by
  unfold cut
  rw [if_pos (List.isPrefixOf_iff_prefix.mpr x)]
theorem V_cut {r p : Way} {b : Bool} {i : Int} : V (cut M r) p b i ↔ V M p b i ∧ ¬ r <+: p := by
  unfold V
  constructor
  · rintro ⟨nd, e, x⟩
    exact ⟨⟨nd, (cut_some e).2, x⟩, (cut_some e).1⟩
  · rintro ⟨⟨nd, e, x⟩, hn⟩
    exact ⟨nd, by rw [cut_ne hn]; exact e, x⟩

theorem Tree.cut (T : Tree prog w fs h root M) {r : Way} {k : PySem.Str} {d : Addr} (hd : dAt root M r = some d)
    (kp : Kept (· = d) h h') (hcont : DictF prog w h' d (fun x => if x = k then none else kids M r x)) :
    Tree prog w fs h' root (cut M (r ++ [k])) ∧ (∀ a, Foot root (Mine.cut M (r ++ [k])) a → Foot root M a) := by
  have hdat : ∀ {p : Way} {d' : Addr}, dAt root (Mine.cut M (r ++ [k])) p = some d' → dAt root M p = some d' ∧ ¬ (r ++ [k]) <+: p := fun {p d'} e => by
    unfold dAt at e ⊢
    split
    · rename_i q; rw [if_pos q] at e; exact ⟨e, by rw [q]; intro z; exact concat_ne_nil (List.prefix_nil.mp z)⟩
    · rename_i q
      rw [if_neg q] at e
      cases x : Mine.cut M (r ++ [k]) p with
      | none => rw [x] at e; cases e
      | some nd => rw [x] at e; rw [(cut_some x).2]; exact ⟨e, (cut_some x).1⟩
  have hadr : ∀ {p : Way} {i : Nat} {a : Addr}, adr root (Mine.cut M (r ++ [k])) p i = some a → adr root M p i = some a := fun {p i a} e => by
    unfold adr at e ⊢
    split
    · rename_i q; rw [if_pos q] at e; exact (hdat e).1
    · rename_i q
      rw [if_neg q] at e
      cases x : Mine.cut M (r ++ [k]) p with
      | none => rw [x] at e; cases e
      | some nd => rw [x] at e; rw [(cut_some x).2]; exact e
  have far : ∀ {p : Way} {i : Nat} {a : Addr}, adr root M p i = some a → (p ≠ r ∨ i ≠ 3) → ∀ o, h.get? a = some o → h'.get? a = some o := fun {p i a} e hne o => kp a o fun q => by
    subst q
    have := T.apart _ _ _ _ _ e (adr3 hd)
    rcases hne with x | x
    · exact x this.1
    · exact x this.2
  refine ⟨⟨?_, ?_, ?_, ?_, ?_, ?_, ?_, ?_⟩, fun a ⟨p, i, e⟩ => ⟨p, i, hadr e⟩⟩
  · rw [cut_ne (fun z => concat_ne_nil (List.prefix_nil.mp z))]; exact T.nil
  · intro p k' nd' e hp
    obtain ⟨x, e'⟩ := cut_some e
    rw [cut_ne (fun z => x (z.trans (List.prefix_append _ _)))]
    exact T.closed _ _ _ e' hp
  · intro p d' e
    obtain ⟨e', x⟩ := hdat e
    by_cases q2 : p = r
    · subst q2
      rw [hd] at e'; cases e'
      have : kids (Mine.cut M (p ++ [k])) p = fun x => if x = k then none else kids M p x := funext fun k' => by
        unfold kids
        by_cases z : k' = k
        · subst z; rw [cut_in (List.prefix_refl _)]; simp
        · rw [cut_ne]
          · simp [z]
          · intro y
            have := List.IsPrefix.eq_of_length y (by simp)
            have := (List.append_inj' this rfl).2
            simp at this
            exact z this.symm
      rw [this]; exact hcont
    · have : kids (Mine.cut M (r ++ [k])) p = kids M p := funext fun k' => by
        unfold kids
        rw [cut_ne]
        intro y
        rcases List.prefix_concat_iff.mp y with y | y
        · exact q2 (List.append_inj' y rfl).1.symm
        · exact x y
      rw [this]
      exact (T.kid p d' e').at' (far (adr3 e') (.inl q2))
  · intro p nd' e
    obtain ⟨x, e'⟩ := cut_some e
    exact (T.node p nd' e').at' (far (adr0 e') (.inr (by decide)))
  · intro p nd' e
    obtain ⟨x, e'⟩ := cut_some e
    exact (T.setf p nd' e').at' (far (adr1 e') (.inr (by decide)))
  · intro p nd' e
    obtain ⟨x, e'⟩ := cut_some e
    exact (T.setr p nd' e').at' (far (adr2 e') (.inr (by decide)))
  · intro p nd' e
    exact T.few p nd' (cut_some e).2
  · intro p i q j a e e'
    exact T.apart _ _ _ _ _ (hadr e) (hadr e')

noncomputable def leer : Tr := fun _ => none
theorem Tree.new {d : Addr} (hd : DictF prog w h d (fun _ => none)) : Tree prog w fs h d leer ∧ (∀ a, Foot d leer a → a = d) := by
  have hdat : ∀ {p : Way} {d' : Addr}, dAt d leer p = some d' → p = [] ∧ d' = d := fun {p d'} e => by
    unfold dAt at e
    split at e
    · rename_i q; cases e; exact ⟨q, rfl⟩
    · cases e
  have hadr : ∀ {p : Way} {i : Nat} {a : Addr}, adr d leer p i = some a → p = [] ∧ i = 3 ∧ a = d := fun {p i a} e => by
    unfold adr at e
    split at e
    · rename_i q; exact ⟨(hdat e).1, q, (hdat e).2⟩
    · cases e
  refine ⟨⟨rfl, nofun, fun p d' e => ?_, nofun, nofun, nofun, nofun, fun p i q j a e e' => ?_⟩, fun a ⟨p, i, e⟩ => (hadr e).2.2⟩
  · obtain ⟨rfl, rfl⟩ := hdat e
    exact hd
  · obtain ⟨rfl, rfl, _⟩ := hadr e
    obtain ⟨rfl, rfl, _⟩ := hadr e'
    exact ⟨rfl, rfl⟩
theorem Tree.foot_lt (T : Tree prog w fs h root M) {a : Addr} (x : Foot root M a) : a < h.objs.size := let ⟨o, e, _⟩ := T.alive x; Heap.lt_size e
end
end Mine
-- MN
namespace Mine

noncomputable def isFrame (outer : List Env) (b : Addr) : Prop := ∃ env ∈ outer, env.frame = some b
structure Fs (A : Around) (outer : List Env) (h : Heap) : Prop where
  stack : A.frames = some outer
  fr : ∀ env ∈ outer, env.scope.kind ≠ .module ∧ ∃ L o, env.frame = some L ∧ h.get? L = some o ∧ ∃ es ep, o.data = .dict es ep

section
variable {A : Around} {outer : List Env} {h h' base : Heap} {env : Env}
theorem Fs.up (x : Fs A outer h) (k : ∀ b o, isFrame outer b → h.get? b = some o → (∀ vs, o.data ≠ .fields vs) → ∃ sl, h'.get? b = some { o with slots := sl }) : Fs A outer h' := by
  refine ⟨x.stack, fun env he => ?_⟩
  obtain ⟨a, L, o, b, c, d⟩ := x.fr env he
  obtain ⟨sl, e⟩ := k L o ⟨env, he, b⟩ c (fun vs q => by obtain ⟨es, ep, d⟩ := d; rw [d] at q; cases q)
  exact ⟨a, L, _, b, e, d⟩
theorem Fs.keeps (x : Fs A outer h) (k : h.StaysIn h') : Fs A outer h' := x.up fun b o _ e _ => ⟨o.slots, k b o e⟩
theorem Fs.kept {W : Addr → Prop} (x : Fs A outer h) (k : Kept W h h') (n : ∀ b, isFrame outer b → ¬ W b) : Fs A outer h' := x.up fun b o hb e _ => ⟨o.slots, k b o (n b hb) e⟩
theorem Fs.mark {v : Option Value} (x : Fs A outer h) : Fs (A.mark v) outer h := ⟨x.stack, x.fr⟩
theorem Fs.alive (x : Fs A outer h) {b : Addr} (hb : isFrame outer b) : b < h.objs.size := by
  obtain ⟨env, he, hf⟩ := hb
  obtain ⟨a, L, o, b', c, d⟩ := x.fr env he
  rw [hf] at b'; cases b'
  exact Heap.lt_size c
theorem Fs.obj (x : Fs A outer h) {b : Addr} (hb : isFrame outer b) : ∃ o es ep, h.get? b = some o ∧ o.data = .dict es ep := by
  obtain ⟨env, he, hf⟩ := hb
  obtain ⟨a, L, o, b', c, es, ep, d⟩ := x.fr env he
  rw [hf] at b'; cases b'
  exact ⟨o, es, ep, c, d⟩
theorem Fs.fun (x : Fs A outer h) (hb : ∀ b, isFrame outer b → base.get? b = none) : h.FunFrames base outer := by
  have fr := x.fr
  clear x
  induction outer with
  | nil => trivial
  | cons env rest ih =>
    obtain ⟨a, L, o, b, c, d⟩ := fr env (.head _)
    exact ⟨a, ⟨L, o, b, hb L ⟨env, .head _, b⟩, c, fun vs q => by obtain ⟨es, ep, d⟩ := d; rw [d] at q; cases q⟩, ih (fun b ⟨e, m, f⟩ => hb b ⟨e, .tail _ m, f⟩) fun e m => fr e (.tail _ m)⟩
theorem Fs.push {w : World} {G : Heap} {L f : Addr} {m : PySem.Str → Option Value} {cn : PySem.Str} {cs : Scope} {ccd : Value} {cl : List (PySem.Str × Addr)} (x : Fs A outer h) (F : Fq w G L h m)
    (hk : cs.kind = .function := by rfl) : Fs (A.deeper (envX cn cs L f ccd cl)) (envX cn cs L f ccd cl :: outer) h := by
  refine ⟨Around.frames_deeper x.stack, fun env he => ?_⟩
  rcases List.mem_cons.mp he with rfl | he
  · obtain ⟨o, es, ep, ho, hd, r⟩ := F.ns
    exact ⟨by show cs.kind ≠ .module; rw [hk]; decide, L, o, rfl, ho, es, ep, hd⟩
  · exact x.fr env he
end

theorem Fq.up {w : World} {G : Heap} {L : Addr} {h h' : Heap} {m : PySem.Str → Option Value} (F : Fq w G L h m) (k : G.StaysIn h') (u : ∀ o, h.get? L = some o → (∀ vs, o.data ≠ .fields vs) → ∃ sl, h'.get? L = some { o with slots := sl }) : Fq w G L h' m := by
  refine ⟨?_, k, F.off, F.gd⟩
  obtain ⟨o, es, ep, ho, hd, r⟩ := F.ns
  obtain ⟨sl, e⟩ := u o ho fun vs q => by rw [hd] at q; cases q
  exact ⟨_, es, ep, e, hd, r⟩

/-- an IndexError on its way out of the frames `outer`: what base holds, stands -/
noncomputable def Flew (outer : List Env) (base h : Heap) (e : Addr) : Prop := (∃ a0, Heap.FlyingW base outer e (.type "IndexError") a0 h) ∧ F2 h e

section
variable {prog : Program} {w : World} {A : Around} {E : Value → Shared → Prop} {s : Shared} {outer : List Env} {base : Heap} {env : Env} {e L : Addr}
theorem Flew.stays {h : Heap} (x : Flew outer base h e) : base.StaysIn h := let ⟨⟨_, f⟩, _⟩ := x; f.1
theorem Flew.is {h : Heap} (x : Flew outer base h e) : ∃ ob, h.get? e = some ob ∧ ob.cls = .type "IndexError" := let ⟨⟨_, f⟩, _⟩ := x; f.there

theorem leave_first {hp : Heap} {Q : Unit → Shared → Prop} (x : Fs A (env :: outer) hp) (hx : Heap.NewExc hp s.heap e "IndexError") (hb : base.StaysIn hp) (hfr : ∀ b, isFrame (env :: outer) b → base.get? b = none)
    (hQ : ∀ h', Flew outer base h' e → hp.UpToSlots h' → Q () { s with heap := h' }) : wpAny (model prog w) A (leaving env (.ref e)) Q E s := by
  obtain ⟨ob, t, he, hc, hd⟩ := hx.there
  refine Pres.any (pres_leaving _ _) (b := e) ⟨ob, _, he, hd, rfl⟩ ?_
  obtain ⟨_, L, _, hf, _⟩ := x.fr env (.head _)
  have hn : base.get? e = none := by
    cases q : base.get? e with
    | none => rfl
    | some o => have := hb e o q; rw [hx.new] at this; cases this
  refine wpAny_leaving_firstW x.stack ((x.keeps hx.keeps).fun hfr) hf he (fun b o e => hx.keeps b o (hb b o e)) hn hd rfl rfl fun h' hl f2 => ?_
  obtain ⟨k1, ⟨_, _, k2⟩, k3, k4⟩ := hl
  rw [hc] at k3
  exact hQ h' ⟨⟨t, k1, hn, k2, k3⟩, f2⟩ ((Heap.UpToSlots.of_keeps hx.keeps).trans k4)
theorem leave_on {Q : Unit → Shared → Prop} (hs : A.frames = some (env :: outer)) (hf : env.frame = some L) (x : Flew (env :: outer) base s.heap e)
    (hQ : ∀ h', Flew outer base h' e → s.heap.UpToSlots h' → Q () { s with heap := h' }) : wpAny (model prog w) A (leaving env (.ref e)) Q E s := by
  obtain ⟨⟨a0, fl⟩, f2⟩ := x
  refine Pres.any (pres_leaving _ _) f2 ?_
  exact wpAny_leaves_onW hs hf fl fun h' fl' u f2' => hQ h' ⟨⟨a0, fl'⟩, f2'⟩ u
theorem look_catch {Q : Unit → Shared → Prop} (hs : A.frames = some (env :: outer)) (hf : env.frame = some L) (x : Flew (env :: outer) base s.heap e)
    (hQ : ∀ h', Flew (env :: outer) base h' e → s.heap.UpToSlots h' → Q () { s with heap := h' }) :
    wpAny (model prog w) A (noteFrame (.ref e) env) (fun _ s₂ => wpAny (model prog w) A (setFlight (.ref e) none) Q E s₂) E s := by
  obtain ⟨⟨a0, fl⟩, f2⟩ := x
  refine Pres.any (pres_noteFrame _ _) f2 ?_
  refine wpAny_looks_onW hs hf fl fun h' hl u f2' => ?_
  refine Pres.any (pres_setFlight _ _) f2' ?_
  exact wpAny_landsW hl fun h'' fl' u' f2'' => hQ h'' ⟨⟨a0, fl'⟩, f2''⟩ (u.trans u')
end

section
variable {prog : Program} {w : World} {A : Around} {E : Value → Shared → Prop} {s : Shared} {outer : List Env} {base G : Heap} {e L f : Addr} {m : PySem.Str → Option Value} {cn : PySem.Str} {cs : Scope} {ccd : Value} {cl : List (PySem.Str × Addr)}
theorem handle {np pos : Pos} {b₀ : Stmt} {suite : List Stmt} {rest : List ExceptHandler} {Q : Flow → Shared → Prop} (F : Fq w G L s.heap m) (x : Flew (envX cn cs L f ccd cl :: outer) base s.heap e)
    (h : ∀ h', Flew (envX cn cs L f ccd cl :: outer) base h' e → s.heap.UpToSlots h' →
      wpAny (model prog w) (A.mark (some (.ref e))) (execs (b₀ :: suite) (envX cn cs L f ccd cl)) Q (notedBy (model prog w) (A.mark (some (.ref e))) (envX cn cs L f ccd cl) (cameBackBy (model prog w) A (envX cn cs L f ccd cl) E)) { s with heap := h' })
    (hk : cs.kind = .function := by rfl) (hx : (envX cn cs L f ccd cl).kindOf "IndexError" = some .globalImplicit := by rfl) :
    wpAny (model prog w) A (handleBy (.ref e) (envX cn cs L f ccd cl) (.ExceptHandler (some (.Name "IndexError" np)) none (b₀ :: suite) pos :: rest)) Q E s := by
  obtain ⟨ob, he, hc⟩ := x.is
  refine wpAny_handleBy_builtin (X := "IndexError") (T := "IndexError") (b := true) PySem.F.isExc_IndexError PySem.F.notTuple_IndexError PySem.F.self_IndexError
    (q_bi F (by kernel_rfl) Boot.«IndexError» (by decide) ⟨rfl, ⟨ob, he, hc⟩, ?_⟩ hk hx)
  rw [if_pos rfl]
  obtain ⟨⟨a0, fl⟩, f2⟩ := x
  refine Pres.any (pres_setFlight _ _) f2 ?_
  exact lands_againW fl fun h' fl' u f2' => h h' ⟨⟨a0, fl'⟩, f2'⟩ u
end

section
variable {prog : Program} {w : World} {A : Around} {E : Value → Shared → Prop} {s : Shared}
theorem getItem_out {t : Addr} {items : Array Value} {k : Int} {u : Tok} {Q : Value → Shared → Prop} (hh : A.handled = none) (ht : IsTup s.heap t items)
    (hlo : -(2 ^ 63) ≤ k) (hhi : k < 2 ^ 63) (hj : seqIndex? k items.size = none) (h : ∀ h' tk e, Heap.NewExc s.heap h' e "IndexError" → E (.ref e) { s with heap := h', toks := tk }) :
    wpAny (model prog w) A (getItem (.ref t) (.int k u)) Q E s := by
  unfold getItem
  try with_reducible refine wpAny_holding ?_
  first | refine wpAny_bind (wpAny_pure ?_) | skip
  refine wpAny_bind (wpAny_sequenceKey ht.typeIs (by decide) ?_)
  refine wpAny_bind (wpAny_callSpecial?_slot (name := PySem.Str.ofString "__getitem__") ht.typeIs slot_tuple_getitem
    (wpAny_call_entry slot_tuple_getitem ht.typeIs entry_tuple_getitem ?_ (args_tuple_getitem _ _)))
  show wpAny _ _ (Builtin.Tuple.tupleItemsOf (.ref t) >>= _) _ _ s
  refine wpAny_bind (tupleItemsOf_ ht ?_)
  refine wpAny_bind (wpAny_typeOf (typeIs_int s k u) ?_)
  rw [if_neg (by decide)]
  refine wpAny_bind (wpAny_specialOf (T := "int") (typeIs_int s k u) int_index ?_)
  rw [if_neg (by simp)]
  refine wpAny_bind (wpAny_of_eq (a := k) rfl ?_)
  rw [if_neg (by simp only [Bool.or_eq_true, decide_eq_true_eq]; omega)]
  simp only [hj, Option.bind_none]
  first
    | exact wpAny_bind (wpAny_rule (by exact_raiseError plainExc_IndexError hh h))
    | exact wpAny_bind (wpAny_rule (wpAny_bind (by exact_raiseError plainExc_IndexError hh h)))
end
end Mine
-- MO
namespace Mine

noncomputable def Grow (root : Addr) (M M₁ : Tr) (n : Nat) : Prop := ∀ a, Foot root M₁ a → Foot root M a ∨ n ≤ a
noncomputable def SameV (M M₁ : Tr) : Prop := ∀ q b j, V M₁ q b j ↔ V M q b j

theorem sameV_add {M M₁ : Tr} {r : Way} {nd : Nd} (x : SameV M M₁) (hno : M₁ r = none) (hf : nd.fl = []) (hr : nd.rc = []) : SameV M (upd M₁ r nd) := fun q b j => by
  rw [V_upd]
  by_cases e : q = r
  · subst e
    rw [if_pos rfl, ← x]
    constructor
    · intro y
      cases b
      · simp [hf] at y
      · simp [hr] at y
    · rintro ⟨nd', e, _⟩
      rw [hno] at e; cases e
  · rw [if_neg e]; exact x q b j

section
variable {prog : Program} {w : World} {A : Around} {E : Value → Shared → Prop} {s : Shared} {G : Heap} {L f : Addr} {m : PySem.Str → Option Value} {cn : PySem.Str} {cs : Scope} {ccd : Value} {cl : List (PySem.Str × Addr)}
  {fs : List Int} {root : Addr} {M : Tr}

theorem hidden_of {G h : Heap} (hk : G.StaysIn h) {a : Addr} (ha : h.objs.size ≤ a) : G.get? a = none := by
  cases q : G.get? a with
  | none => rfl
  | some o => exact absurd (Heap.lt_size (hk a o q)) (Nat.not_lt.mpr ha)

set_option maxHeartbeats 2000000 in
theorem q_addNode {x y : PySem.Str} {r : Way} {k : PySem.Str} {tk0 : Tok} {d : Addr} {k1 k2 k3 : Nat} {px py p1 a1 a2 a3 b1 b2 b3 c1 c2 dp pos : Pos} {Q : Flow → Shared → Prop} (F : Fq w G L s.heap m) (T : Tree prog w fs s.heap root M)
    (hx : m x = some (.ref d)) (hy : m y = some (.str k tk0)) (hd : dAt root M r = some d) (hno : M (r ++ [k]) = none) (hkn : k ∈ nms) (hL : ¬ Foot root M L) (hG : ∀ b, Foot root M b → G.get? b = none)
    (h : ∀ h' tk nd, Fq w G L h' m → Tree prog w fs h' root (upd M (r ++ [k]) nd) → nd.fl = [] → nd.rc = [] → Fresh4 s.heap nd → Kept (· = d) s.heap h' → Q .next { s with heap := h', toks := tk })
    (hk : cs.kind = .function := by rfl) (hxk : (envX cn cs L f ccd cl).kindOf x = some .local := by rfl) (hyk : (envX cn cs L f ccd cl).kindOf y = some .local := by rfl)
    (hset : (envX cn cs L f ccd cl).kindOf "set" = some .globalImplicit := by rfl)
    (hdx : (x == ("__debug__" : PySem.Str)) = false := by decide) (hdy : (y == ("__debug__" : PySem.Str)) = false := by decide) :
    wpAny (model prog w) A (exec (.Assign [.Subscript (.Name x px) (.Name y py) p1] (.Dict [some (.Constant (.str "flags") k1 a1), some (.Constant (.str "recursive_flags") k2 a2), some (.Constant (.str "nested") k3 a3)]
      [.Call (.Name "set" b1) [] [] b2, .Call (.Name "set" c1) [] [] c2, .Dict [] [] b3] dp) pos) (envX cn cs L f ccd cl)) Q E s := by
  refine wpAny_Assign_Subscript (q_node F (fun h₁ tk₁ nd k₁ f4 dn sf sr dd e1 e2 => ?_) hk hset)
  have F₁ := F.keeps k₁
  have hdf : Foot root M d := ⟨r, 3, adr3 hd⟩
  refine q_ld F₁ hx (q_ld F₁ hy ?_ hk hyk hdy) hk hxk hdx
  refine dict_set ((T.kid r d hd).at' fun o e => k₁ d o e) hkn fun h₂ tk₂ hcont s₂ => ?_
  have hdlt : d < s.heap.objs.size := T.foot_lt hdf
  have keep2 : Kept (· = d) h₁ h₂ := Kept.of_sameBut s₂
  have nod : ∀ a, s.heap.objs.size ≤ a → a ≠ d := fun a ha => Ne.symm (Nat.ne_of_lt (Nat.lt_of_lt_of_le hdlt ha))
  refine h h₂ tk₂ nd (F₁.kept keep2 (fun q => hL (q ▸ hdf)) fun b q => q ▸ hG d hdf) ?_ e1 e2 f4 (fun b o hb e => keep2 b o hb (k₁ b o e))
  refine T.add hd hno e1 e2 (fun a ha => T.foot_lt ha) f4 (fun a _ hne o e => keep2 a o hne (k₁ a o e)) hcont ?_ ?_ ?_ ?_
  · exact dn.at' fun o e => keep2 _ o (nod _ f4.n) e
  · exact sf.at' fun o e => keep2 _ o (nod _ f4.f) e
  · exact sr.at' fun o e => keep2 _ o (nod _ f4.r) e
  · exact dd.at' fun o e => keep2 _ o (nod _ f4.d) e

theorem node_keys {M : Tr} {p : Way} {b : Bool} {nd : Nd} : inner nd (if b then "recursive_flags" else "flags") = some (.ref (if b then nd.r else nd.f)) := by
  cases b <;> rfl

theorem few3 (hfs : fs.length ≤ 3) {l : List Int} (h : l.Nodup) (hm : ∀ i ∈ l, i ∈ fs) : l.length ≤ 3 := Nat.le_trans (nodup_sub_le l fs h hm) hfs

/-- a flag set at a node -/
noncomputable def put1 (nd : Nd) (b : Bool) (i : Int) : Nd := if b then { nd with rc := if i ∈ nd.rc then nd.rc else i :: nd.rc } else { nd with fl := if i ∈ nd.fl then nd.fl else i :: nd.fl }
theorem ins_mem {l : List Int} {i j : Int} : j ∈ (if i ∈ l then l else i :: l) ↔ j ∈ l ∨ j = i := by
  split
  · rename_i h
    constructor
    · exact .inl
    · rintro (x | rfl)
      · exact x
      · exact h
  · simp [or_comm]
theorem ins_nodup {l : List Int} {i : Int} (h : l.Nodup) : (if i ∈ l then l else i :: l).Nodup := by
  split
  · exact h
  · rename_i x; exact List.nodup_cons.mpr ⟨x, h⟩
theorem V_put {p : Way} {nd : Nd} {b : Bool} {i : Int} (e : M p = some nd) : ∀ q b' j, V (upd M p (put1 nd b i)) q b' j ↔ V M q b' j ∨ (q = p ∧ b' = b ∧ j = i) := fun q b' j => by
  rw [V_upd]
  by_cases hq : q = p
  · subst hq
    rw [if_pos rfl]
    have hV : V M q b' j ↔ j ∈ (if b' then nd.rc else nd.fl) := ⟨fun ⟨nd', e', x⟩ => by rw [e] at e'; cases e'; exact x, fun x => ⟨nd, e, x⟩⟩
    rw [hV]
    cases b <;> cases b' <;> simp [put1, ins_mem]
  · simp [hq]

theorem put1_n {nd : Nd} {b : Bool} {i : Int} : (put1 nd b i).n = nd.n ∧ (put1 nd b i).f = nd.f ∧ (put1 nd b i).r = nd.r ∧ (put1 nd b i).d = nd.d := by cases b <;> exact ⟨rfl, rfl, rfl, rfl⟩
theorem Tree.put1 (T : Tree prog w fs s.heap root M) {p : Way} {nd : Nd} {b : Bool} {i : Int} {h' : Heap} (e : M p = some nd) (hi : i ∈ fs) (hs : Heap.SameBut (if b then nd.r else nd.f) s.heap h')
    (hx : IntS prog w h' (if b then nd.r else nd.f) (if i ∈ (if b then nd.rc else nd.fl) then (if b then nd.rc else nd.fl) else i :: (if b then nd.rc else nd.fl))) :
    Tree prog w fs h' root (upd M p (Mine.put1 nd b i)) ∧ (∀ a, Foot root (upd M p (Mine.put1 nd b i)) a ↔ Foot root M a) := by
  have fw := T.few p nd e
  have hfr : nd.f ≠ nd.r := fun q => absurd (T.apart p 1 p 2 nd.f (adr1 e) (q ▸ adr2 e)).2 (by decide)
  obtain ⟨e1, e2, e3, e4⟩ := put1_n (nd := nd) (b := b) (i := i)
  refine T.put e e1 e2 e3 e4 ?_ (fun a o ha => hs.extBut a o fun q => ha (by cases b <;> simp_all)) ?_ ?_
  · cases b
    · refine ⟨ins_nodup fw.1, fw.2.1, fun j hj => ?_, fw.2.2.2⟩
      rcases ins_mem.mp hj with x | rfl
      · exact fw.2.2.1 j x
      · exact hi
    · refine ⟨fw.1, ins_nodup fw.2.1, fw.2.2.1, fun j hj => ?_⟩
      rcases ins_mem.mp hj with x | rfl
      · exact fw.2.2.2 j x
      · exact hi
  · cases b
    · exact hx
    · exact (T.setf p nd e).at' fun o => hs.extBut _ o hfr
  · cases b
    · exact (T.setr p nd e).at' fun o => hs.extBut _ o (Ne.symm hfr)
    · exact hx
end
end Mine
-- MO2
namespace Mine

/-- a tree M₁ on its way from M: its marks are M's, what it holds was M's or is new, Av is none of it -/
structure Run (prog : Program) (w : World) (fs : List Int) (root : Addr) (M : Tr) (h₀ : Heap) (Av : Addr → Prop) (h : Heap) (M₁ : Tr) : Prop where
  tree : Tree prog w fs h root M₁
  sv : SameV M M₁
  gr : Grow root M M₁ h₀.objs.size
  av : ∀ a, Av a → ¬ Foot root M₁ a
  kp : Kept (Foot root M) h₀ h

section
variable {prog : Program} {w : World} {A : Around} {E : Value → Shared → Prop} {s : Shared} {G h₀ : Heap} {L f : Addr} {m : PySem.Str → Option Value} {cn : PySem.Str} {cs : Scope} {ccd : Value} {cl : List (PySem.Str × Addr)}
  {fs : List Int} {root : Addr} {M M₁ : Tr} {Av : Addr → Prop}
theorem Run.kept {h h' : Heap} {W : Addr → Prop} (X : Run prog w fs root M h₀ Av h M₁) (k : Kept W h h') (hW : ∀ a, W a → Av a ∧ h₀.objs.size ≤ a) : Run prog w fs root M h₀ Av h' M₁ :=
  ⟨X.tree.kept k fun a x q => X.av a (hW a q).1 x, X.sv, X.gr, X.av, fun b o hb e => k b o (fun q => absurd (Heap.lt_size e) (Nat.not_lt.mpr (hW b q).2)) (X.kp b o hb e)⟩

set_option maxHeartbeats 2000000 in
theorem q_ensure {x y : PySem.Str} {r : Way} {k : PySem.Str} {tk0 : Tok} {d : Addr} {k1 k2 k3 : Nat} {qx qy q1 px py p1 a1 a2 a3 b1 b2 b3 c1 c2 dp pos pos' : Pos} {Q : Flow → Shared → Prop} (F : Fq w G L s.heap m) (X : Run prog w fs root M h₀ Av s.heap M₁)
    (hx : m x = some (.ref d)) (hy : m y = some (.str k tk0)) (hd : dAt root M₁ r = some d) (hkn : k ∈ nms) (hLA : Av L) (hav : ∀ a, Av a → a < s.heap.objs.size) (hn0 : h₀.objs.size ≤ s.heap.objs.size)
    (hG : ∀ b, Foot root M b ∨ h₀.objs.size ≤ b → G.get? b = none)
    (h : ∀ h' tk M₂ nd, Fq w G L h' m → Run prog w fs root M h₀ Av h' M₂ → M₂ (r ++ [k]) = some nd → dAt root M₂ r = some d → Kept (Foot root M₁) s.heap h' → Q .next { s with heap := h', toks := tk })
    (hk : cs.kind = .function := by rfl) (hxk : (envX cn cs L f ccd cl).kindOf x = some .local := by rfl) (hyk : (envX cn cs L f ccd cl).kindOf y = some .local := by rfl)
    (hset : (envX cn cs L f ccd cl).kindOf "set" = some .globalImplicit := by rfl)
    (hdx : (x == ("__debug__" : PySem.Str)) = false := by decide) (hdy : (y == ("__debug__" : PySem.Str)) = false := by decide) :
    wpAny (model prog w) A (exec (.If (.Compare (.Name y qy) [.NotIn] [.Name x qx] q1) [.Assign [.Subscript (.Name x px) (.Name y py) p1] (.Dict [some (.Constant (.str "flags") k1 a1), some (.Constant (.str "recursive_flags") k2 a2), some (.Constant (.str "nested") k3 a3)]
      [.Call (.Name "set" b1) [] [] b2, .Call (.Name "set" c1) [] [] c2, .Dict [] [] b3] dp) pos] [] pos') (envX cn cs L f ccd cl)) Q E s := by
  refine wpAny_If (wpAny_isTrue_Compare1 (q_ld F hy (q_ld F hx (dict_notin (X.tree.kid r d hd) fun tk₅ => wpAny_truthy_bool ?_) hk hxk hdx) hk hyk hdy))
  cases hM : M₁ (r ++ [k]) with
  | some nd =>
    rw [if_neg (by simp [kids, hM])]
    exact wpAny_execs_nil (h _ _ M₁ nd F X hM hd .refl)
  | none =>
    rw [if_pos (by simp [kids, hM])]
    have hG' : ∀ b, Foot root M₁ b → G.get? b = none := fun b hb => hG b (X.gr b hb)
    refine wpAny_execs_cons (q_addNode F X.tree hx hy hd hM hkn (X.av L hLA) hG' (fun h' tk nd F' T' e1 e2 f4 kp => wpAny_execs_nil ?_) hk hxk hyk hset hdx hdy)
    have hdf : Foot root M₁ d := ⟨r, 3, adr3 hd⟩
    refine h h' tk _ nd F' ⟨T', sameV_add X.sv hM e1 e2, fun a ha => ?_, fun a ha hf => ?_, fun b o hb e => ?_⟩ upd_self ?_ (fun b o hb e => kp b o (fun q => hb (q ▸ hdf)) e)
    · rcases foot_add concat_ne_nil ha with z | z | z | z | z
      · exact X.gr a z
      · exact .inr (Nat.le_trans hn0 (z ▸ f4.n))
      · exact .inr (Nat.le_trans hn0 (z ▸ f4.f))
      · exact .inr (Nat.le_trans hn0 (z ▸ f4.r))
      · exact .inr (Nat.le_trans hn0 (z ▸ f4.d))
    · have hlt := hav a ha
      rcases foot_add concat_ne_nil hf with z | z | z | z | z
      · exact X.av a ha z
      · exact absurd hlt (Nat.not_lt.mpr (z ▸ f4.n))
      · exact absurd hlt (Nat.not_lt.mpr (z ▸ f4.f))
      · exact absurd hlt (Nat.not_lt.mpr (z ▸ f4.r))
      · exact absurd hlt (Nat.not_lt.mpr (z ▸ f4.d))
    · refine kp b o (fun q => ?_) (X.kp b o hb e)
      rcases X.gr d hdf with z | z
      · exact hb (q ▸ z)
      · exact absurd (Heap.lt_size e) (Nat.not_lt.mpr (q ▸ z))
    · unfold dAt at hd ⊢
      rw [upd_ne concat_ne_self]; exact hd
end
end Mine
-- MP
namespace Mine

theorem minusW_stays {h : Heap} {W : Addr → Prop} : (minusW h W).StaysIn h := fun b o e => (minusW_get.mp e).1
theorem minusW_none {h : Heap} {W : Addr → Prop} {b : Addr} (hb : W b) : (minusW h W).get? b = none := by
  cases q : (minusW h W).get? b with
  | none => rfl
  | some o => exact absurd hb (minusW_get.mp q).2
theorem Kept.minusW {h : Heap} {W : Addr → Prop} : Kept W h (minusW h W) := fun b o hb e => minusW_get.mpr ⟨e, hb⟩

section
variable {prog : Program} {w : World} {A : Around} {s : Shared} {G : Heap} {R : Result → Shared → Prop}
set_option maxRecDepth 100000 in
set_option maxHeartbeats 8000000 in
theorem set_spec {outer : List Env} {fs : List Int} {c : Mc} {M : Tr} {p : Way} {kv : Value} {fl : Int} {t : Tok} {b : Bool} (g : Gd w G) (hk : G.StaysIn s.heap) (hroom : A.depth < recursionLimit) (hh : A.handled = none)
    (hF : Fs A outer s.heap) (hi : Inst s.heap c) (hT : Tree prog w fs s.heap c.root M) (hw : WayAt s.heap kv p) (hfl : fl ∈ fs) (hfs : fs.length ≤ 3) (hGf : ∀ b, Foot c.root M b → G.get? b = none)
    (good : p ≠ [] → ∀ s' M', Tree prog w fs s'.heap c.root M' → (∀ q b' j, V M' q b' j ↔ V M q b' j ∨ (q = p ∧ b' = b ∧ j = fl)) → Grow c.root M M' s.heap.objs.size → Kept (Foot c.root M) s.heap s'.heap → SameX s s' →
      R (.ok (.ret .none)) s')
    (bad : p = [] → ∀ s' e, Flew outer (minusW s.heap (isFrame outer)) s'.heap e → s.heap.UpToSlots s'.heap → SameX s s' → R (.error (.ref e)) s') :
    codeAny (model prog w) A (.call (.ref 56) ⟨[.ref c.x, kv, .int fl t], [("recursive", .bool b)]⟩) R s := by
  refine enterQ [("self", .ref c.x), ("key", kv), ("flag", .int fl t), ("recursive", .bool b)] (fun a => Foot c.root M a) g hk hGf (f := 56) rfl (by with_unfolding_all rfl) hroom rfl (locs rfl) ?_
  intro L h₁ G₁ tk hLe F sG hG1 hGF S
  have hL : s.heap.get? L = none := by rw [hLe]; exact fresh_size _
  have hroot : Foot c.root M c.root := ⟨[], 3, adr3 dAt_root⟩
  have hnf : ∀ {b o}, s.heap.get? b = some o → (o.cls ≠ .type "dict" ∧ o.cls ≠ .type "set") → ¬ Foot c.root M b := fun {b o} e hc hb => by
    obtain ⟨o', e', hc'⟩ := hT.alive hb
    rw [e] at e'; cases e'
    rcases hc' with x | x
    · exact hc.1 x
    · exact hc.2 x
  have hLs : ∀ b o, s.heap.get? b = some o → b ≠ L := fun b o e q => by rw [q, hL] at e; cases e
  obtain ⟨ka, vs, rfl, ht, hs, hn, hp⟩ := hw
  refine wpAny_abs ?_; intro Q₀ E₀
  refine wpAny_execs_cons (wpAny_Assign_Name (Attribute_Name_ (q_ld F rfl (get_flags F (hi.keeps S) fun tk₁ => ?_))))
  refine q_st F fun h₂ tk₂ F₂ s₂ => ?_
  dsimp only
  have S₂ : s.heap.StaysIn h₂ := fun b o e => s₂.extBut b o (hLs b o e) (S b o e)
  refine wpAny_execs_cons (Assign_Tuple_swapped (names := ["key_parent", "key_stem"]) (Tuple_ (args_cons (q_slice (q_ld F₂ rfl (wpAny_UnaryOp (wpAny_Constant_int (neg_int ?_))))))))
  refine ⟨ka, vs.toArray, _, _, rfl, rfl, ht.keeps S₂, (strs_lt hs hp).2, fun a' h₃ k₃ ht' => ?_⟩
  have F₃ := F₂.keeps k₃
  have S₃ : s.heap.StaysIn h₃ := fun b o e => k₃ b o (S₂ b o e)
  refine args_cons (Subscript_ (q_ld F₃ rfl (wpAny_UnaryOp (wpAny_Constant_int (neg_int ?_)))))
  have hlen := hs.length
  rcases List.eq_nil_or_concat p with rfl | ⟨q, stem, hq⟩
  · obtain rfl : vs = [] := by cases hs; rfl
    refine tail_any (ht.keeps S₃).typeIs slot_tuple_getitem.lookup (getItem_out hh (ht.keeps S₃) (by decide) (by decide) rfl fun h₄ tk₄ e hx => ?_) rfl
    refine leave_first ((hF.keeps S₃).push F₃) hx (base := minusW s.heap (isFrame outer)) (fun b o e => S₃ b o (minusW_stays b o e)) ?_ fun h₅ fl₅ u => ?_
    · rintro b ⟨env, he, hf⟩
      rcases List.mem_cons.mp he with rfl | he
      · cases hf
        cases q : (minusW s.heap (isFrame outer)).get? L with
        | none => rfl
        | some o => have := minusW_stays _ _ q; rw [hL] at this; cases this
      · exact minusW_none ⟨env, he, hf⟩
    · exact bad rfl _ e fl₅ ((Heap.UpToSlots.of_keeps S₃).trans u) .refl
  · rw [List.concat_eq_append] at hq
    have hpn : p ≠ [] := by rw [hq]; simp
    have hup : upto (-1) vs.toArray.size = q.length := by simp [upto, hlen, hq]; exact n_back _
    rw [hup] at ht'
    have hs' : StrsAre (vs.take q.length) q := by have := hs.take' q.length; rwa [hq, List.take_left] at this
    obtain ⟨ts, hstem⟩ := hs.at (j := q.length) (y := stem) (by rw [hq]; simp)
    refine tail_any (ht.keeps S₃).typeIs slot_tuple_getitem.lookup (PyProof.Rows.getItem_tuple (ht.keeps S₃) (by decide) (by decide) (j := q.length) (by simp [seqIndex?, hlen, hq]; exact n_back2 _) ((by simp : vs.toArray[q.length]? = vs[q.length]?).trans hstem) ?_) rfl
    refine args_nil ?_
    simp only [newTuple]
    refine wpAny_newObj_type ?_ (by size_fits)
    have k₄ : h₃.StaysIn (h₃.push { cls := .type "tuple", data := .seq [Value.ref a', .str stem ts].toArray }) := fun b o e => Heap.get?_push_of_some _ e
    refine unpackH (items := #[Value.ref a', .str stem ts]) (.inl hh) (IsTup.new ..) rfl fun h₄ k₅ => ?_
    refine wpAny_bind (m := holding [Value.ref a'] (bindName _ "key_stem" (.str stem ts))) (wpAny_holding (wpAny_bindName (q_st ((F₃.keeps k₄).keeps k₅) (fun h₅ tk₅ F₅ s₅ => ?_))))
    refine wpAny_bind (m := holding [] (bindName _ "key_parent" (.ref a'))) (wpAny_holding (wpAny_bindName (q_st F₅ (fun h₆ tk₆ F₆ s₆ => ?_))))
    refine wpAny_pure ?_
    have S₆ : s.heap.StaysIn h₆ := fun b o e => s₆.extBut b o (hLs b o e) (s₅.extBut b o (hLs b o e) (k₅ b o (k₄ b o (S₃ b o e))))
    have ht₆ : IsTup h₆ a' (List.take q.length vs.toArray.toList).toArray := by
      have hne := F₃.ne_tup ht'
      obtain ⟨o, e, r⟩ := ht'
      exact ⟨o, s₆.extBut a' o (Ne.symm hne) (s₅.extBut a' o (Ne.symm hne) (k₅ a' o (k₄ a' o e))), r⟩
    refine wpAny_execs_cons (wpAny_For (q_ld F₆ rfl (iter_tuple ht₆ ?_)))
    have hneI : a' ≠ h₆.objs.size := Nat.ne_of_lt ht₆.lt
    have kI : h₆.StaysIn (h₆.push { cls := .type "tuple_iterator", data := .fields #[.ref a', .int 0 0] }) := fun b o e => Heap.get?_push_of_some _ e
    have hLI : L < h₆.objs.size := F₆.lt
    have hszle : s.heap.objs.size ≤ L := Nat.le_of_eq hLe.symm
    have Lh : (∀ a, Foot c.root M a → a < s.heap.objs.size) := fun a x => hT.foot_lt x
    have hGa : ∀ a, Foot c.root M a ∨ s.heap.objs.size ≤ a → G₁.get? a = none := fun a ha => by
      rcases ha with z | z
      · exact hGF a z
      · exact hidden_of hG1 z
    have hsl := Nat.le_trans hszle (Nat.le_of_lt hLI)
    refine forL (walksTuple (A := A.deeper _) h₆.objs.size a' hneI (fun q => hadr_alive (.inl hh) q rfl) (List.take q.length vs.toArray.toList).toArray) (fun _ _ _ _ _ _ h => wpAny_pure h)
      (fun i s₁ => ∃ m₁ M₁ d, Fq w G₁ L s₁.heap m₁ ∧ Run prog w fs c.root M s.heap (fun a => a = L ∨ a = h₆.objs.size) s₁.heap M₁ ∧
        m₁ "cont" = some (.ref d) ∧ dAt c.root M₁ (q.take i) = some d ∧ m₁ "flag" = some (.int fl t) ∧ m₁ "recursive" = some (.bool b) ∧ m₁ "key_stem" = some (.str stem ts) ∧ SameX s s₁)
      ?_ ?_ ?_ ?_
    · exact ⟨⟨_, Heap.get?_push_size _ rfl, rfl, rfl⟩, ht₆.keeps kI, .inl hh⟩
    · refine ⟨_, M, c.root, F₆.keeps kI, ⟨(hT.keeps S₆).keeps kI, fun _ _ _ => Iff.rfl, fun a x => .inl x, fun x hx hf => ?_, Kept.of_stays fun b o e => kI b o (S₆ b o e)⟩, rfl, by simp [dAt], rfl, rfl, rfl, .refl⟩
      rcases hx with rfl | rfl
      · exact absurd (Lh _ hf) (Nat.not_lt.mpr hszle)
      · exact absurd (Lh _ hf) (Nat.not_lt.mpr hsl)
    · rintro i v s₀ h' tk' hi hv ⟨m₁, M₁, d, F₁, X₁, m1, hd, m2, m3, m4, hX⟩ hSt hkp
      have F' := F₁.kept (W := fun b => b ∈ [h₆.objs.size]) (fun b o hb e => hkp b o hb e) (by simpa using Nat.ne_of_lt hLI) (fun b hb => hGa b (.inr (by rw [List.mem_singleton.mp hb]; exact hsl)))
      have X' := X₁.kept (W := fun b => b ∈ [h₆.objs.size]) (fun b o hb e => hkp b o hb e) (fun a ha => by rw [List.mem_singleton.mp ha]; exact ⟨.inr rfl, hsl⟩)
      obtain ⟨y, ty, rfl, hy⟩ := hs'.item i v (by simpa using hv)
      have hlt : i < q.length := (List.getElem?_eq_some_iff.mp hy).1
      have htk : q.take (i + 1) = q.take i ++ [y] := by rw [List.take_add_one, hy]; rfl
      refine q_assignName F' fun h₇ tk₇ F₇ s₇ => ?_
      have X₇ := X'.kept (Kept.of_sameBut s₇) (fun a ha => by subst ha; exact ⟨.inl rfl, hszle⟩)
      have hIlt : h₆.objs.size < h₇.objs.size := by
        obtain ⟨⟨o, e, _⟩, _⟩ := hSt
        exact Heap.lt_size (s₇.extBut _ o (Nat.ne_of_gt hLI) e)
      refine wpAny_abs ?_; intro Q₀ E₀
      refine wpAny_execs_cons (q_ensure F₇ X₇ m1 rfl hd (hn y (by rw [hq]; exact List.mem_append_left _ (List.mem_of_getElem? hy))) (.inl rfl) (fun a ha => by rcases ha with rfl | rfl; exact F₇.lt; exact hIlt) (Nat.le_of_lt (Nat.lt_of_le_of_lt hszle F₇.lt)) hGa fun h₈ tk₈ M₂ nd F₈ X₈ hM hd₂ kp₈ => ?_)
      dsimp only
      have hkid := X₈.tree.kid _ d hd₂
      have hnode := X₈.tree.node _ nd hM
      refine wpAny_execs_cons (wpAny_Assign_Name (Subscript_ (Subscript_ (q_ld F₈ m1 (q_ld F₈ rfl (dict_item hkid (v := .ref nd.n) (by simp [kids, hM]) fun tk₉ => Constant_str (dict_item hnode rfl fun tk₁₀ => ?_)))))))
      refine q_st F₈ fun h₉ tk₁₁ F₉ s₉ => ?_
      dsimp only
      refine wpAny_execs_nil ⟨⟨_, M₂, nd.d, F₉, X₈.kept (Kept.of_sameBut s₉) (fun a ha => by subst ha; exact ⟨.inl rfl, hszle⟩), rfl, ?_, m2, m3, m4, hX⟩, ?_⟩
      · rw [htk]; exact dAt_node X₈.tree.nil hM
      · have keep : ∀ b o, h'.get? b = some o → b ≠ L → ¬ Foot c.root M₁ b → h₉.get? b = some o := fun b o e hb hf => s₉.extBut b o hb (kp₈ b o hf (s₇.extBut b o hb e))
        obtain ⟨⟨oi, ei, ri⟩, hta, _⟩ := hSt
        refine ⟨⟨oi, keep _ oi ei (Nat.ne_of_gt hLI) (X₁.av _ (.inr rfl)), ri⟩, ?_, .inl hh⟩
        have hne := F'.ne_tup hta
        obtain ⟨oa, ea, ca, ra⟩ := hta
        refine ⟨oa, keep _ oa ea (Ne.symm hne) (fun hf => ?_), ca, ra⟩
        obtain ⟨o', e', hc'⟩ := X'.tree.alive hf
        rw [ea] at e'; cases e'
        rw [ca] at hc'
        exact absurd hc' (by decide)
    · rintro s₀ h' tk' ⟨m₁, M₁, d, F₁, X₁, m1, hd, m2, m3, m4, hX⟩ hkp
      have F' := F₁.kept (W := fun b => b ∈ [h₆.objs.size]) (fun b o hb e => hkp b o hb e) (by simpa using Nat.ne_of_lt hLI) (fun b hb => hGa b (.inr (by rw [List.mem_singleton.mp hb]; exact hsl)))
      have X' := X₁.kept (W := fun b => b ∈ [h₆.objs.size]) (fun b o hb e => hkp b o hb e) (fun a ha => by rw [List.mem_singleton.mp ha]; exact ⟨.inr rfl, hsl⟩)
      have hsz : (q.take (List.take q.length vs.toArray.toList).toArray.size) = q := List.take_of_length_le (by simp [hlen, hq])
      rw [hsz] at hd
      have X'' : Run prog w fs c.root M s.heap (· = L) h' M₁ := ⟨X'.tree, X'.sv, X'.gr, fun a ha => X'.av a (.inl ha), X'.kp⟩
      refine wpAny_execs_cons (q_ensure F' X'' m1 m4 hd (hn stem (by rw [hq]; simp)) rfl (fun a ha => by rw [ha]; exact F'.lt) (Nat.le_of_lt (Nat.lt_of_le_of_lt hszle F'.lt)) hGa fun h₈ tk₈ M₂ nd F₈ X₈ hM hd₂ kp₈ => ?_)
      dsimp only
      have hkid := X₈.tree.kid _ d hd₂
      have hnode := X₈.tree.node _ nd hM
      have few := X₈.tree.few _ nd hM
      rw [← hq] at hM
      have fin : ∀ h₉ tk₉, IntS prog w h₉ (if b then nd.r else nd.f) (if fl ∈ (if b then nd.rc else nd.fl) then (if b then nd.rc else nd.fl) else fl :: (if b then nd.rc else nd.fl)) → Heap.SameBut (if b then nd.r else nd.f) h₈ h₉ →
          R (.ok (.ret .none)) { s₀ with heap := h₉, toks := tk₉ } := fun h₉ tk₉ hset hsb => by
        obtain ⟨T₉, hft⟩ := Tree.put1 (s := { s₀ with heap := h₈ }) (b := b) (i := fl) X₈.tree hM hfl hsb hset
        have hmem : Foot c.root M₂ (if b then nd.r else nd.f) := by
          cases b
          · exact ⟨p, 1, adr1 hM⟩
          · exact ⟨p, 2, adr2 hM⟩
        refine good hpn _ _ T₉ (fun q' b' j => ?_) (fun a ha => X₈.gr a ((hft a).mp ha)) (fun o ob ho e => ?_) hX
        · rw [V_put hM, X₈.sv]
        · refine hsb.extBut o ob (fun z => ?_) (X₈.kp o ob ho e)
          rcases X₈.gr _ hmem with y | y
          · exact ho (z ▸ y)
          · exact absurd (Heap.lt_size e) (Nat.not_lt.mpr (z ▸ y))
      refine wpAny_execs_cons (wpAny_Expr (MethodCall_ (Subscript_ (Subscript_ (q_ld F₈ m1 (q_ld F₈ m4 (dict_item hkid (v := .ref nd.n) (by simp [kids, hM, ← hq]) fun tk₉ => IfExp_ (isTrue_plain (q_ld F₈ m3 (wpAny_truthy_bool ?_))))))))))
      cases b
      · rw [if_neg (by decide)]
        have hset := X₈.tree.setf _ nd hM
        refine Constant_str (dict_item hnode rfl fun tk₁₀ => getMethod_set_add hset (callWith_method1 (args_cons (q_ld F₈ m2 (args_nil (set_add hset (few3 hfs few.1 few.2.2.1) fun h₉ tk₁₁ hs₉ sb₉ => ?_))))))
        exact wpAny_execs_nil (fin _ _ hs₉ sb₉)
      · rw [if_pos rfl]
        have hset := X₈.tree.setr _ nd hM
        refine Constant_str (dict_item hnode rfl fun tk₁₀ => getMethod_set_add hset (callWith_method1 (args_cons (q_ld F₈ m2 (args_nil (set_add hset (few3 hfs few.2.1 few.2.2.2) fun h₉ tk₁₁ hs₉ sb₉ => ?_))))))
        exact wpAny_execs_nil (fin _ _ hs₉ sb₉)
end
end Mine
-- MQ
namespace Mine

theorem valueAt_without {kvs : List (PySem.Str × Value)} {k x : PySem.Str} : valueAt (without kvs k) x = if x = k then none else valueAt kvs x := by
  unfold valueAt without
  rw [List.find?_filter]
  by_cases h : x = k
  · subst h
    rw [if_pos rfl]
    simp
  · rw [if_neg h]
    congr 2
    funext kv
    by_cases hk : kv.1 = x
    · have : ¬ kv.1 = k := fun q => h (hk ▸ q)
      simp [hk, h]
    · simp [hk]

section
variable {prog : Program} {w : World} {A : Around} {E : Value → Shared → Prop} {s : Shared} {d : Addr} {f : PySem.Str → Option Value} {k : PySem.Str} {t : Tok}
theorem DictF.noDict (x : DictF prog w s.heap d f) : ∀ b, Value.ref d = .ref b → ∃ ob, s.heap.get? b = some ob ∧ ob.dict = none := fun b e => by
  injection e with e; subst e
  obtain ⟨_, ⟨o, _, _, ho, hc, _⟩, _⟩ := x
  exact ⟨o, ho, hc.2.1⟩
theorem getMethod_pop {pl : Sem Bool} {Q : Value × List Value → Shared → Prop} (x : DictF prog w s.heap d f) (h : Q (.builtin "dict.pop", [.ref d]) s) : wpAny (model prog w) A (getMethod (.ref d) "pop" pl) Q E s :=
  getMethod_builtin x.map.typeIs PySem.F.plainAttrs_dict PySem.F.slot_dict_pop PySem.F.type_dict_pop x.noDict h
theorem dict_pop {dflt : Value} {Q : Value → Shared → Prop} (x : DictF prog w s.heap d f)
    (h : ∀ v h' tk, DictF prog w h' d (fun y => if y = k then none else f y) → Heap.SameBut d s.heap h' → Q v { s with heap := h', toks := tk }) :
    wpAny (model prog w) A (call (.builtin "dict.pop") [.ref d, .str k t, dflt]) Q E s := by
  obtain ⟨kvs, x, e, hn, hs, hl⟩ := x.few
  have hT : s.TypeIs (.ref d) "dict" := x.typeIs
  cases hv : valueAt kvs k with
  | some v =>
    refine call_meetsIn PySem.F.slot_dict_pop hT PySem.F.entry_dict_pop (PySem.F.args_dict_pop_3 _ _ _) (meets_dict_pop_there (PySem.strKind prog w) d (strKind_is prog w k t) [dflt] (.inr ⟨_, rfl⟩) (by rfl)) ⟨kvs, v, x, by rw [sizeLine_is]; omega, hv, fun h' hd hsb => ?_⟩
    refine h v h' _ ⟨_, hd, fun y => ?_, fun kv hm => hn kv (List.mem_filter.mp hm).1, hs⟩ hsb
    rw [valueAt_without, e]
  | none =>
    refine call_meetsIn PySem.F.slot_dict_pop hT PySem.F.entry_dict_pop (PySem.F.args_dict_pop_3 _ _ _) (meets_dict_pop_default (PySem.strKind prog w) d (strKind_is prog w k t) (by simpa using hs) (by rfl) dflt) ⟨kvs, x, hv, ?_⟩
    refine h dflt s.heap _ ⟨kvs, x, fun y => ?_, hn, hs⟩ (Heap.SameBut.refl ..)
    by_cases q : y = k
    · subst q; rw [hv]; simp
    · rw [e]; simp [q]
end

section
variable {prog : Program} {w : World} {A : Around} {s : Shared} {G : Heap} {R : Result → Shared → Prop}
set_option maxRecDepth 100000 in
set_option maxHeartbeats 8000000 in
theorem unset_spec {outer : List Env} {fs : List Int} {c : Mc} {M : Tr} {p : Way} {kv : Value} (g : Gd w G) (hk : G.StaysIn s.heap) (hroom : A.depth < recursionLimit) (hh : A.handled = none)
    (hF : Fs A outer s.heap) (hi : Inst s.heap c) (hT : Tree prog w fs s.heap c.root M) (hw : WayAt s.heap kv p)
    (good : p ≠ [] → ∀ s' M', Tree prog w fs s'.heap c.root M' → (∀ q b' j, V M' q b' j ↔ V M q b' j ∧ ¬ p <+: q) → Grow c.root M M' s.heap.objs.size → Kept (Foot c.root M) s.heap s'.heap → SameX s s' →
      R (.ok (.ret .none)) s')
    (bad : p = [] → ∀ s' e, Flew outer (minusW s.heap (isFrame outer)) s'.heap e → s.heap.UpToSlots s'.heap → SameX s s' → R (.error (.ref e)) s') :
    codeAny (model prog w) A (.call (.ref 49) ⟨[.ref c.x, kv], []⟩) R s := by
  refine enterQ [("self", .ref c.x), ("key", kv)] (fun _ => False) g hk (by simp) (f := 49) rfl (by with_unfolding_all rfl) hroom rfl (locs rfl) ?_
  intro L h₁ G₁ tk hLe F sG _ _ S
  replace sG := sG.stays
  have hL : s.heap.get? L = none := by rw [hLe]; exact fresh_size _
  have hLs : ∀ b o, s.heap.get? b = some o → b ≠ L := fun b o e q => by rw [q, hL] at e; cases e
  obtain ⟨ka, vs, rfl, ht, hs, hn, hp⟩ := hw
  replace hi := hi.keeps sG
  replace hT' := hT.keeps sG
  replace ht' := ht.keeps sG
  refine wpAny_abs ?_; intro Q₀ E₀
  refine wpAny_execs_cons (wpAny_Assign_Name (Attribute_Name_ (q_ld F rfl (get_flags F (hi.keeps F.keep) fun tk₁ => ?_))))
  refine q_st F fun h₂ tk₂ F₂ s₂ => ?_
  dsimp only
  have hlen := hs.length
  have stays : ∀ {h : Heap} {m}, Fq w G₁ L h m → s.heap.StaysIn h := fun F b o e => F.keep b o (sG b o e)
  refine wpAny_execs_cons (wpAny_For (q_slice (q_ld F₂ rfl (wpAny_UnaryOp (wpAny_Constant_int (neg_int ?_))))))
  refine ⟨ka, vs.toArray, _, _, rfl, rfl, ht'.keeps F₂.keep, (strs_lt hs hp).2, fun a' h₃ k₃ htk => ?_⟩
  have F₃ := F₂.keeps k₃
  rcases List.eq_nil_or_concat p with rfl | ⟨q, stem, hq⟩
  · obtain rfl : vs = [] := by cases hs; rfl
    refine forTup (A := A.deeper _) (.inl hh) F₃ htk (fun i m₁ => m₁ "key" = some (.ref ka) ∧ m₁ "cont" = some (.ref c.root)) ⟨rfl, rfl⟩ ?_ ?_
    · rintro i v G' s₃ m₃ hv _ _ _ _
      simp at hv
    · rintro s₃ m₃ ⟨m1, m2⟩ F₄ hX
      have S₄ := stays F₄
      refine wpAny_execs_cons (wpAny_Expr_any (MethodCall_ (q_ld F₄ m2 (getMethod_pop ((hT.kid [] c.root dAt_root).at' (S₄ _)) (callWith_method1 (args_cons (Subscript_ (q_ld F₄ m1 (wpAny_UnaryOp (wpAny_Constant_int (neg_int ?_)))))))))))
      refine tail_any (ht.keeps S₄).typeIs slot_tuple_getitem.lookup (getItem_out hh (ht.keeps S₄) (by decide) (by decide) rfl fun h₄ tk₄ e hx => ?_) rfl
      refine leave_first ((hF.keeps S₄).push F₄) hx (base := minusW s.heap (isFrame outer)) (fun b o e => S₄ b o (minusW_stays b o e)) ?_ fun h₅ fl₅ u => ?_
      · rintro b ⟨env, he, hf⟩
        rcases List.mem_cons.mp he with rfl | he
        · cases hf
          cases q : (minusW s.heap (isFrame outer)).get? L with
          | none => rfl
          | some o => have := minusW_stays _ _ q; rw [hL] at this; cases this
        · exact minusW_none ⟨env, he, hf⟩
      · exact bad rfl _ e fl₅ ((Heap.UpToSlots.of_keeps S₄).trans u) hX
  · rw [List.concat_eq_append] at hq
    have hpn : p ≠ [] := by rw [hq]; simp
    have hup : upto (-1) vs.toArray.size = q.length := by simp [upto, hlen, hq]; omega
    rw [hup] at htk
    have hs' : StrsAre (vs.take q.length) q := by have := hs.take' q.length; rwa [hq, List.take_left] at this
    have gone : ∀ s', s.heap.StaysIn s'.heap → SameX s s' → (∀ r, p <+: r → M r = none) → R (.ok (.ret .none)) s' := fun s' S' X hno =>
      good hpn s' M (hT.keeps S') (fun r b' j => ⟨fun x => ⟨x, fun y => by obtain ⟨nd, e, _⟩ := x; rw [hno r y] at e; cases e⟩, fun x => x.1⟩) (fun a x => .inl x) (Kept.of_stays S') X
    refine forTup (A := A.deeper _) (.inl hh) F₃ htk (fun i m₁ => m₁ "key" = some (.ref ka) ∧ ∃ d, m₁ "cont" = some (.ref d) ∧ dAt c.root M (q.take i) = some d) ⟨rfl, c.root, rfl, by simp [dAt]⟩ ?_ ?_
    · rintro i v G' s₃ m₃ hv ⟨m1, d, m2, hd⟩ F₄ sub hX
      obtain ⟨y, ty, rfl, hy⟩ := hs'.item i v (by simpa using hv)
      have hlt : i < q.length := (List.getElem?_eq_some_iff.mp hy).1
      have hstk : q.take (i + 1) = q.take i ++ [y] := by rw [List.take_add_one, hy]; rfl
      have hpre : q.take (i + 1) <+: p := (List.take_prefix _ _).trans (hq ▸ List.prefix_append _ _)
      refine q_assignName F₄ fun h₅ tk₅ F₅ s₅ => ?_
      have S₅ : s.heap.StaysIn h₅ := fun b o e => F₅.keep b o (sub b o (sG b o e))
      have hkid := (hT.kid _ d hd).at' (S₅ d)
      refine wpAny_abs ?_; intro Q₀ E₀
      refine wpAny_execs_cons (wpAny_If (wpAny_isTrue_Compare1 (q_ld F₅ rfl (q_ld F₅ m2 (dict_notin hkid fun tk₆ => wpAny_truthy_bool ?_)))))
      cases hM : M (q.take i ++ [y]) with
      | none =>
        rw [if_pos (by simp [kids, hM])]
        refine wpAny_execs_cons (wpAny_Return_none ?_)
        refine gone _ S₅ hX fun r ⟨z, hz⟩ => ?_
        obtain ⟨z', hz'⟩ := hpre
        rw [← hz, ← hz', List.append_assoc, hstk]
        exact hT.ext_none concat_ne_nil hM _
      | some nd =>
        rw [if_neg (by simp [kids, hM])]
        refine wpAny_execs_nil ?_
        dsimp only
        have hnode := (hT.node _ nd hM).at' (S₅ _)
        refine wpAny_execs_cons (wpAny_Assign_Name (Subscript_ (Subscript_ (q_ld F₅ m2 (q_ld F₅ rfl (dict_item hkid (v := .ref nd.n) (by simp [kids, hM]) fun tk₉ => Constant_str (dict_item hnode rfl fun tk₁₀ => ?_)))))))
        refine q_st F₅ fun h₆ tk₁₁ F₆ s₆ => ?_
        dsimp only
        exact wpAny_execs_nil ⟨⟨_, F₆, m1, nd.d, rfl, by rw [hstk]; exact dAt_node hT.nil hM⟩, .refl⟩
    · rintro s₃ m₃ ⟨m1, d, m2, hd⟩ F₄ hX
      have hsz : (q.take (List.take q.length vs.toArray.toList).toArray.size) = q := List.take_of_length_le (by simp [hlen, hq])
      rw [hsz] at hd
      have S₄ := stays F₄
      obtain ⟨ts, hstem⟩ := hs.at (j := q.length) (y := stem) (by rw [hq]; simp)
      refine wpAny_execs_cons (wpAny_Expr_any (MethodCall_ (q_ld F₄ m2 (getMethod_pop ((hT.kid q d hd).at' (S₄ _)) (callWith_method1 (args_cons (Subscript_ (q_ld F₄ m1 (wpAny_UnaryOp (wpAny_Constant_int (neg_int ?_)))))))))))
      refine tail_any (ht.keeps S₄).typeIs slot_tuple_getitem.lookup (PyProof.Rows.getItem_tuple (ht.keeps S₄) (by decide) (by decide) (j := q.length) (by simp [seqIndex?, hlen, hq]; omega) ((by simp : vs.toArray[q.length]? = vs[q.length]?).trans hstem) ?_) rfl
      refine args_cons (wpAny_Constant_none (args_nil ?_))
      refine dict_pop ((hT.kid q d hd).at' (S₄ _)) fun v h₅ tk₅ hdd hsb => ?_
      refine wpAny_execs_nil ?_
      obtain ⟨T₅, hft⟩ := (hT.keeps S₄).cut hd (Kept.of_sameBut hsb) hdd
      rw [← hq] at T₅ hft
      refine good hpn _ _ T₅ (fun r b' j => V_cut) (fun a ha => .inl (hft a ha)) (fun b o hb e => hsb.extBut b o (fun z => hb ?_) (S₄ b o e)) hX
      rw [z]; exact ⟨q, 3, adr3 hd⟩
end
end Mine
-- MR
namespace Mine

noncomputable def nx (mask i : Nat) : Nat := (i * 5 + 1) % (mask + 1)
noncomputable def it (mask : Nat) : Nat → Nat → Nat
  | 0, i => i
  | n + 1, i => it mask n (nx mask i)
theorem it_add (mask a b i : Nat) : it mask (a + b) i = it mask b (it mask a i) := by
  induction a generalizing i with
  | zero => simp [it]
  | succ a ih => rw [Nat.succ_add]; exact ih _
noncomputable def orb (mask : Nat) : Nat → Nat → List Nat
  | 0, _ => []
  | n + 1, i => i :: orb mask n (nx mask i)
theorem orb_it {mask x : Nat} : ∀ {n i : Nat}, x ∈ orb mask n i → ∃ b, b < n ∧ it mask b i = x
  | 0, _, h => by simp [orb] at h
  | n + 1, i, h => by
    rcases List.mem_cons.mp h with rfl | h
    · exact ⟨0, by omega, rfl⟩
    · obtain ⟨b, hb, e⟩ := orb_it h
      exact ⟨b + 1, by omega, e⟩
/-- every slot is met from every slot -/
noncomputable def Full (mask : Nat) : Prop := it mask (mask + 1) 0 = 0 ∧ ∀ j, j ≤ mask → ∃ b, b < mask + 1 ∧ it mask b 0 = j
theorem full_of {mask : Nat} (h1 : it mask (mask + 1) 0 = 0) (h2 : (List.range (mask + 1)).all (fun j => (orb mask (mask + 1) 0).contains j) = true) : Full mask :=
  ⟨h1, fun j hj => orb_it (by have := List.all_eq_true.mp h2 j (List.mem_range.mpr (by omega)); simpa using this)⟩
theorem full7 : Full 7 := full_of (by decide +kernel) (by decide +kernel)
theorem full31 : Full 31 := full_of (by decide +kernel) (by decide +kernel)
theorem full127 : Full 127 := full_of (by decide +kernel) (by decide +kernel)
theorem Full.meets {mask : Nat} (f : Full mask) {c j : Nat} (hc : c ≤ mask) (hj : j ≤ mask) : ∃ n, n ≤ mask ∧ it mask n c = j := by
  obtain ⟨a, ha, ea⟩ := f.2 c hc
  obtain ⟨b, hb, eb⟩ := f.2 j hj
  by_cases h : a ≤ b
  · exact ⟨b - a, by omega, by rw [← ea, ← it_add, ← eb]; congr 1; omega⟩
  · refine ⟨b + (mask + 1) - a, by omega, ?_⟩
    rw [← ea, ← it_add, show a + (b + (mask + 1) - a) = (mask + 1) + b by omega, it_add, f.1, eb]

/-- the heads of the runs -/
noncomputable def heads (mask : Nat) : Nat → Nat × Nat → Nat × Nat
  | 0, x => x
  | n + 1, x => heads mask n (SetTable.leap mask x.1 x.2)
theorem heads_add (mask a b : Nat) (x : Nat × Nat) : heads mask (a + b) x = heads mask b (heads mask a x) := by
  induction a generalizing x with
  | zero => simp [heads]
  | succ a ih => rw [Nat.succ_add]; exact ih _
theorem heads_le {mask : Nat} : ∀ (n : Nat) {x : Nat × Nat}, x.1 ≤ mask → (heads mask n x).1 ≤ mask
  | 0, _, h => h
  | n + 1, x, h => heads_le n (by
    show (x.1 * 5 + 1 + x.2 / 32) % (mask + 1) ≤ mask
    exact Nat.le_of_lt_succ (Nat.mod_lt _ (Nat.succ_pos _)))
theorem heads_perturb {mask : Nat} : ∀ (n : Nat) {x : Nat × Nat}, (heads mask n x).2 = x.2 / 32 ^ n
  | 0, x => by simp [heads]
  | n + 1, x => by
    show (heads mask n (SetTable.leap mask x.1 x.2)).2 = _
    rw [heads_perturb n]
    show x.2 / 32 / 32 ^ n = _
    rw [Nat.div_div_eq_div_mul, Nat.pow_succ, Nat.mul_comm]
theorem heads_zero {mask : Nat} : ∀ (n i : Nat), heads mask n (i, 0) = (it mask n i, 0)
  | 0, _ => rfl
  | n + 1, i => by
    show heads mask n (SetTable.leap mask i 0) = _
    have : SetTable.leap mask i 0 = (nx mask i, 0) := by simp [SetTable.leap, nx]
    rw [this, heads_zero n]
    rfl
theorem Full.heads {mask : Nat} (f : Full mask) {i pt j : Nat} (hi : i ≤ mask) (hp : pt < 2 ^ 64) (hj : j ≤ mask) : ∃ k, k ≤ mask + 13 ∧ (heads mask k (i, pt)).1 = j := by
  have h2 : (Mine.heads mask 13 (i, pt)).2 = 0 := by
    rw [heads_perturb]
    exact Nat.div_eq_of_lt (Nat.lt_of_lt_of_le hp (by decide))
  obtain ⟨n, hn, e⟩ := f.meets (c := (Mine.heads mask 13 (i, pt)).1) (heads_le 13 hi) hj
  refine ⟨13 + n, by omega, ?_⟩
  rw [heads_add]
  have : Mine.heads mask 13 (i, pt) = ((Mine.heads mask 13 (i, pt)).1, 0) := by rw [← h2]
  rw [this, heads_zero]; exact e

/-- an empty slot is met within n steps -/
noncomputable def Hits (t : SetTable) : Nat → SetTable.Probe → Prop
  | 0, p => t.slot p.j = .empty
  | n + 1, p => t.slot p.j = .empty ∨ Hits t n (t.advance p)
theorem Hits.mono {t : SetTable} : ∀ {n m : Nat} {p : SetTable.Probe}, Hits t n p → n ≤ m → Hits t m p
  | 0, 0, _, h, _ => h
  | 0, _ + 1, _, h, _ => .inl h
  | n + 1, m + 1, _, h, hm => by
    rcases h with h | h
    · exact .inl h
    · exact .inr (h.mono (by omega))
theorem hits_run {t : SetTable} {n i pt : Nat} {d : Option Nat} (h : ∀ d', Hits t n { j := (SetTable.leap t.mask i pt).1, more := SetTable.runEnd t.mask (SetTable.leap t.mask i pt).1 - (SetTable.leap t.mask i pt).1, i := (SetTable.leap t.mask i pt).1, perturb := (SetTable.leap t.mask i pt).2, dummy := d' }) :
    ∀ (more j : Nat), Hits t (n + more + 1) { j, more, i, perturb := pt, dummy := d }
  | 0, j => by
    refine .inr ?_
    exact h d
  | more + 1, j => by
    refine .inr ?_
    have := hits_run (d := d) h more (j + 1)
    have e : t.advance { j := j, more := more + 1, i := i, perturb := pt, dummy := d } = { j := j + 1, more := more, i := i, perturb := pt, dummy := d } := by
      unfold SetTable.advance
      rw [if_pos (Nat.succ_pos _)]
      rfl
    rw [e]
    exact this.mono (by omega)
theorem runEnd_le (mask i : Nat) : SetTable.runEnd mask i - i ≤ 9 := by unfold SetTable.runEnd; split <;> omega
theorem hits_heads {t : SetTable} : ∀ (k i pt : Nat), t.slot (heads t.mask k (i, pt)).1 = .empty → ∀ d, Hits t (10 * k) { j := i, more := SetTable.runEnd t.mask i - i, i, perturb := pt, dummy := d }
  | 0, i, pt, h, d => h
  | k + 1, i, pt, h, d => by
    have ih := hits_heads (t := t) k (SetTable.leap t.mask i pt).1 (SetTable.leap t.mask i pt).2 h
    have := hits_run (t := t) (d := d) (n := 10 * k) (i := i) (pt := pt) ih (SetTable.runEnd t.mask i - i) i
    exact this.mono (by have := runEnd_le t.mask i; omega)
theorem bits_lt (h : Int) : SetTable.bits h < 2 ^ 64 := by
  unfold SetTable.bits
  have h1 : 0 ≤ h % (2 ^ 64 : Int) := Int.emod_nonneg _ (by decide)
  have h2 : h % (2 ^ 64 : Int) < 2 ^ 64 := Int.emod_lt_of_pos _ (by decide)
  omega
theorem hits_start {t : SetTable} (f : Full t.mask) {j : Nat} (hj : j ≤ t.mask) (he : t.slot j = .empty) (h : Int) : Hits t (10 * (t.mask + 13)) (t.probeStart h) := by
  have hi : SetTable.bits h % (t.mask + 1) ≤ t.mask := Nat.le_of_lt_succ (Nat.mod_lt _ (Nat.succ_pos _))
  obtain ⟨k, hk, e⟩ := f.heads (i := SetTable.bits h % (t.mask + 1)) (pt := SetTable.bits h) (j := j) hi (bits_lt h) hj
  have := hits_heads (t := t) k (SetTable.bits h % (t.mask + 1)) (SetTable.bits h) (by rw [e]; exact he) none
  exact this.mono (by omega)

theorem slot_dummy {t : SetTable} (hd : t.dummies = #[]) (j : Nat) : t.slot j ≠ .dummy := by
  unfold SetTable.slot SetTable.has
  rw [hd]
  dsimp only
  split
  · exact fun q => nomatch q
  · rw [if_neg (by simp)]
    exact fun q => nomatch q

theorem probe_go {t : SetTable} (hd : t.dummies = #[]) (hashAt : Nat → Int) (h : Int) : ∀ (fuel n : Nat) (p : SetTable.Probe), Hits t n p → n < fuel → p.dummy = none →
    (∃ j, SetTable.probe.go t hashAt h fuel p = some (.empty j none)) ∨
    (∃ j i next n', SetTable.probe.go t hashAt h fuel p = some (.candidate j i next) ∧ t.slot j = .live i ∧ hashAt i = h ∧ n' < n ∧ Hits t n' next ∧ next.dummy = none)
  | 0, _, _, _, hf, _ => absurd hf (Nat.not_lt_zero _)
  | fuel + 1, n, p, hh, hf, hp => by
    have adv : (t.advance p).dummy = none := by
      unfold SetTable.advance
      split
      · exact hp
      · exact hp
    unfold SetTable.probe.go
    cases hs : t.slot p.j with
    | empty => exact .inl ⟨p.j, by rw [hp]⟩
    | dummy => exact absurd hs (slot_dummy hd _)
    | live i =>
      dsimp only
      cases n with
      | zero => have hh' : t.slot p.j = .empty := hh; rw [hs] at hh'; cases hh'
      | succ n =>
        have h' : Hits t n (t.advance p) := by
          rcases hh with x | x
          · rw [hs] at x; cases x
          · exact x
        by_cases q : (hashAt i == h) = true
        · rw [if_pos q]
          exact .inr ⟨p.j, i, t.advance p, n, rfl, hs, by simpa using q, Nat.lt_succ_self _, h', adv⟩
        · rw [if_neg q]
          rcases probe_go hd hashAt h fuel n (t.advance p) h' (by omega) adv with x | ⟨j, i', next, n', a, b, c, d, e, f⟩
          · exact .inl x
          · exact .inr ⟨j, i', next, n', a, b, c, by omega, e, f⟩

theorem slot_live {t : SetTable} {j i : Nat} (h : t.slot j = .live i) : t.place[i]? = some j := by
  unfold SetTable.slot at h
  dsimp only at h
  split at h
  · rename_i q
    cases h
    simpa using q
  · split at h <;> cases h
/-- a table with room has an empty slot -/
theorem empty_slot {t : SetTable} (hd : t.dummies = #[]) (hn : t.place.size ≤ t.mask) : ∃ j, j ≤ t.mask ∧ t.slot j = .empty := by
  by_cases h : ∃ j, j ≤ t.mask ∧ t.slot j = .empty
  · exact h
  · exfalso
    have all : ∀ j ∈ List.range (t.mask + 1), j ∈ t.place.toList := fun j hj => by
      have hj' : j ≤ t.mask := by have := List.mem_range.mp hj; omega
      cases hs : t.slot j with
      | empty => exact absurd ⟨j, hj', hs⟩ h
      | dummy => exact absurd hs (slot_dummy hd _)
      | live i => exact Array.mem_toList_iff.mpr (Array.mem_of_getElem? (slot_live hs))
    have := nodup_sub_le _ _ List.nodup_range all
    simp at this
    omega
end Mine
-- MS
namespace Mine

theorem set_perm {k : Nat} : ∀ (l : List (Option Nat)) (j : Nat), l[j]? = some none → ((l.set j (some k)).filterMap id).Perm (k :: l.filterMap id)
  | [], j, h => by simp at h
  | x :: l, 0, h => by
    have : x = none := by simpa using h
    subst this
    simp
  | x :: l, j + 1, h => by
    have ih := set_perm (k := k) l j (by simpa using h)
    cases x with
    | none => simpa using ih
    | some y =>
      have e1 : (((some y : Option Nat) :: l).set (j + 1) (some k)).filterMap id = y :: (l.set j (some k)).filterMap id := by simp
      have e2 : ((some y : Option Nat) :: l).filterMap id = y :: l.filterMap id := by simp
      rw [e1, e2]
      exact (List.Perm.cons y ih).trans (List.Perm.swap k y _)

theorem free_some {mask : Nat} {owner : Array (Option Nat)} (hs : owner.size = mask + 1) : ∀ (k fuel i pt : Nat), k < fuel → owner[(heads mask k (i, pt)).1]? = some none → i ≤ mask →
    ∃ j, SetTable.layClean.free mask owner fuel i pt = some j ∧ owner[j]? = some none
  | k, 0, i, pt, hk, _, _ => absurd hk (Nat.not_lt_zero _)
  | k, fuel + 1, i, pt, hk, h, hi => by
    unfold SetTable.layClean.free
    cases hf : (List.range (SetTable.runEnd mask i + 1 - i)).find? fun k => (owner.getD (i + k) (some 0)).isNone with
    | some d =>
      dsimp only
      refine ⟨i + d, rfl, ?_⟩
      have := List.find?_some hf
      have hg : owner.getD (i + d) (some 0) = none := by simpa using this
      rw [Array.getD_eq_getD_getElem?] at hg
      cases q : owner[i + d]? with
      | none => rw [q] at hg; simp at hg
      | some x => rw [q] at hg; simp at hg; rw [hg]
    | none =>
      dsimp only
      cases k with
      | zero =>
        exfalso
        have h' : owner[i]? = some none := h
        have := List.find?_eq_none.mp hf 0 (List.mem_range.mpr (by unfold SetTable.runEnd; split <;> omega))
        rw [Array.getD_eq_getD_getElem?, Nat.add_zero, h'] at this
        simp at this
      | succ k =>
        exact free_some hs k fuel (SetTable.leap mask i pt).1 (SetTable.leap mask i pt).2 (by omega) h (heads_le 1 (x := (i, pt)) hi)

theorem exists_none {l : List (Option Nat)} {k : Nat} (h : (l.filterMap id).length = k) (hk : k < l.length) : ∃ j : Nat, l[j]? = some none := by
  by_cases q : none ∈ l
  · obtain ⟨j, hj⟩ := List.mem_iff_getElem?.mp q
    exact ⟨j, hj⟩
  · exfalso
    have : (l.filterMap id).length = l.length := by
      clear h hk
      induction l with
      | nil => rfl
      | cons x l ih =>
        cases x with
        | none => exact absurd (.head _) q
        | some y => simpa using ih fun z => q (.tail _ z)
    omega

noncomputable def lay1 (mask : Nat) : Option (Array (Option Nat) × Nat) → Int → Option (Array (Option Nat) × Nat) := fun acc h => do
    let (owner, k) ← acc
    let j ← SetTable.layClean.free mask owner (SetTable.turns mask) (SetTable.bits h % (mask + 1)) (SetTable.bits h)
    pure (owner.setIfInBounds j (some k), k + 1)
theorem layClean_eq (mask : Nat) (hashes : Array Int) : SetTable.layClean mask hashes = (hashes.toList.foldl (lay1 mask) (some (Array.replicate (mask + 1) none, 0))).map (·.1) := by
  unfold SetTable.layClean
  rw [← Array.foldl_toList]
  rfl
theorem lay_fold {mask : Nat} (f : Full mask) : ∀ (hs : List Int) (owner : Array (Option Nat)) (k : Nat), owner.size = mask + 1 → (owner.toList.filterMap id).Perm (List.range k) → k + hs.length ≤ mask →
    ∃ owner', hs.foldl (lay1 mask) (some (owner, k)) = some (owner', k + hs.length) ∧ owner'.size = mask + 1 ∧ (owner'.toList.filterMap id).Perm (List.range (k + hs.length))
  | [], owner, k, h1, h2, _ => ⟨owner, rfl, h1, h2⟩
  | h :: hs, owner, k, h1, h2, h3 => by
    have hlen : (owner.toList.filterMap id).length = k := by rw [h2.length_eq]; simp
    rw [List.length_cons] at h3
    obtain ⟨j, hj⟩ := exists_none hlen (by rw [Array.length_toList, h1]; omega)
    rw [Array.getElem?_toList] at hj
    have hjl : j ≤ mask := by
      have := (Array.getElem?_eq_some_iff.mp hj).1
      omega
    have hi : SetTable.bits h % (mask + 1) ≤ mask := Nat.le_of_lt_succ (Nat.mod_lt _ (Nat.succ_pos _))
    obtain ⟨n, hn, e⟩ := f.heads (i := SetTable.bits h % (mask + 1)) (pt := SetTable.bits h) (j := j) hi (bits_lt h) hjl
    obtain ⟨j', e', hj'⟩ := free_some h1 n (SetTable.turns mask) _ _ (by unfold SetTable.turns; omega) (by rw [e]; exact hj) hi
    have step : lay1 mask (some (owner, k)) h = some (owner.setIfInBounds j' (some k), k + 1) := by
      unfold lay1
      show (SetTable.layClean.free mask owner (SetTable.turns mask) (SetTable.bits h % (mask + 1)) (SetTable.bits h) >>= fun j => pure (owner.setIfInBounds j (some k), k + 1)) = _
      rw [e']; rfl
    obtain ⟨o', a, b, c⟩ := lay_fold f hs (owner.setIfInBounds j' (some k)) (k + 1) (by simp [h1]) (by
      rw [Array.toList_setIfInBounds]
      refine (set_perm _ _ (by rw [Array.getElem?_toList]; exact hj')).trans ?_
      rw [List.range_succ]
      exact (List.Perm.cons k h2).trans (List.perm_append_comm (l₁ := [k]) (l₂ := List.range k))) (by omega)
    refine ⟨o', ?_, b, ?_⟩
    · rw [List.foldl_cons, step, a, List.length_cons]; congr 2; omega
    · rw [List.length_cons, show k + (hs.length + 1) = k + 1 + hs.length by omega]; exact c

theorem filterMap_getD (owner : Array (Option Nat)) : (List.range owner.size).filterMap (fun j => owner.getD j none) = owner.toList.filterMap id := by
  have : owner.toList = (List.range owner.size).map fun j => owner.getD j none := by
    refine List.ext_getElem? fun j => ?_
    rw [Array.getElem?_toList, List.getElem?_map]
    by_cases h : j < owner.size
    · rw [List.getElem?_range h, Option.map_some, Array.getD_eq_getD_getElem?]
      rw [Array.getElem?_eq_getElem h]; simp
    · rw [Array.getElem?_eq_none (by omega), List.getElem?_eq_none (by simp; omega)]; rfl
  rw [this, List.filterMap_map]
  rfl

theorem laid_some {mask finger moves : Nat} {led plain : Bool} {hashes : Array Int} (f : Full mask) (hn : hashes.size ≤ mask) :
    ∃ t order, SetTable.laid mask finger moves led plain hashes = some (t, order) ∧ t.mask = mask ∧ t.dummies = #[] ∧ t.led = led ∧ t.plain = plain ∧ t.place.size = hashes.size ∧ order.toList.Perm (List.range hashes.size) := by
  obtain ⟨owner, e, hs, hp⟩ := lay_fold f hashes.toList (Array.replicate (mask + 1) none) 0 (by simp) (by simp) (by simpa using hn)
  have ec : SetTable.layClean mask hashes = some owner := by rw [layClean_eq, e]; rfl
  simp only [Nat.zero_add, Array.length_toList] at hp
  refine ⟨_, _, by unfold SetTable.laid; rw [ec]; rfl, rfl, rfl, rfl, rfl, ?_, ?_⟩
  · have hl := hp.length_eq
    rw [List.length_range, ← filterMap_getD, hs] at hl
    rw [← hl]
    simp only [List.size_toArray, List.length_map]
    rw [← List.length_map (f := Prod.snd), List.map_filterMap]
    congr 1
    refine congrArg (fun g => List.filterMap g (List.range (mask + 1))) (funext fun j => ?_)
    cases owner.getD j none <;> rfl
  · refine List.Perm.trans (List.Perm.of_eq ?_) hp
    rw [← filterMap_getD, hs]
    show List.map Prod.snd _ = _
    rw [List.map_filterMap]
    refine congrArg (fun g => List.filterMap g (List.range (mask + 1))) (funext fun j => ?_)
    cases owner.getD j none <;> rfl

theorem filterMap_range_list {α : Type} : ∀ l : List α, (List.range l.length).filterMap (fun i => l[i]?) = l
  | [] => rfl
  | x :: l => by
    rw [List.length_cons, List.range_succ_eq_map, List.filterMap_cons, List.filterMap_map]
    have ih := filterMap_range_list l
    show x :: (List.range l.length).filterMap (fun i => l[i]?) = x :: l
    rw [ih]
theorem order_perm {α : Type} {es : Array α} {order : Array Nat} (h : order.toList.Perm (List.range es.size)) : (order.filterMap (es[·]?)).toList.Perm es.toList := by
  rw [Array.toList_filterMap]
  have e : (List.range es.size).filterMap (es[·]?) = es.toList := by
    have := filterMap_range_list es.toList
    rw [Array.length_toList] at this
    simpa using this
  exact (h.filterMap _).trans (List.Perm.of_eq e)
end Mine
-- MT
namespace Mine

/-- tuples of texts and ints, of tuples of them, and so on -/
inductive PT (h : Heap) : Nat → Value → Prop
  | str (n x t) : PT h n (.str x t)
  | int (n i t) : PT h n (.int i t)
  | tup {n a items} : IsTup h a items → (∀ v ∈ items.toList, PT h n v) → PT h (n + 1) (.ref a)

section
variable {prog : Program} {w : World}
theorem hash_PT : ∀ (n : Nat) {v : Value} {A : Around} {E : Value → Shared → Prop} {s : Shared} {Q : Int → Shared → Prop}, PT s.heap n v → A.units + n < cLine → (∀ k tk, Q k { s with toks := tk }) → wpAny (model prog w) A (pyHash v) Q E s := by
  intro n
  induction n with
  | zero =>
    intro v A E s Q x hu h
    cases x with
    | str _ x t => exact wpAny_pyHash_str (h _ _)
    | int _ i t => exact wpAny_pyHash_int (h _ _)
  | succ n ih =>
    intro v A E s Q x hu h
    cases x with
    | str _ x t => exact wpAny_pyHash_str (h _ _)
    | int _ i t => exact wpAny_pyHash_int (h _ _)
    | @tup _ a items ht hall =>
      refine pyHash_slot (T := "tuple") ht.typeIs PySem.F.slot_tuple_hash PySem.F.entry_tuple_hash (PySem.F.args_tuple_hash_1 _) (beq_builtin_none _) (.inr (by omega)) ?_
      show wpAny _ _ (Builtin.Tuple.tupleItemsOf (.ref a) >>= _) _ _ s
      refine wpAny_bind (tupleItemsOf_ ht ?_)
      refine wpAny_bind ?_
      rw [← Array.forIn_toList]
      refine wpAny_forIn_list _ (fun rest (b : Array Int) s' => (∀ v ∈ rest, PT s.heap n v) ∧ ∃ tk, s' = { s with toks := tk }) _ ?_ ?_ _ _ ⟨hall, s.toks, rfl⟩
      · rintro x rest b s' ⟨hr, tk, rfl⟩
        refine wpAny_bind (ih (s := { s with toks := tk }) (hr x (.head _)) (by show A.units + 1 + n < cLine; omega) fun k tk' => ?_)
        first
          | exact wpAny_pure ⟨fun v hv => hr v (.tail _ hv), tk', rfl⟩
          | exact wpAny_bind (wpAny_pure (wpAny_pure ⟨fun v hv => hr v (.tail _ hv), tk', rfl⟩))
      · rintro b s' ⟨_, tk, rfl⟩
        show wpAny _ _ (retInt (Builtin.Tuple.tupleHashOf b.toList)) _ _ _
        exact wpAny_bind (wpAny_mkInt (wpAny_pure ⟨_, _, rfl, h _ _⟩))

theorem quiet_PT : ∀ (n d : Nat) {v : Value} {A : Around} {E : Value → Shared → Prop} {s : Shared} {Q : Bool → Shared → Prop}, PT s.heap n v → n ≤ d → Q true s → wpAny (model prog w) A (eqIsQuiet d v) Q E s := by
  intro n
  induction n with
  | zero =>
    intro d v A E s Q x hd h
    cases x with
    | str _ x t => rw [eqIsQuiet_byValue _ rfl]; exact wpAny_pure h
    | int _ i t => rw [eqIsQuiet_byValue _ rfl]; exact wpAny_pure h
  | succ n ih =>
    intro d v A E s Q x hd h
    cases x with
    | str _ x t => rw [eqIsQuiet_byValue _ rfl]; exact wpAny_pure h
    | int _ i t => rw [eqIsQuiet_byValue _ rfl]; exact wpAny_pure h
    | @tup _ a items ht hall =>
      cases d with
      | zero => omega
      | succ d =>
        have hT := ht.typeIs
        obtain ⟨o, ho, hc, k, hdat⟩ := id ht
        unfold eqIsQuiet
        refine wpAny_bind (wpAny_specialOf hT PySem.F.slot_tuple_eq.lookup ?_)
        show wpAny _ _ (isInstance (.ref a) (.type "tuple") >>= _) _ _ s
        refine wpAny_bind (wpAny_isInstance hT isSubtype_tuple_tuple ?_)
        simp only [Bool.not_true, Bool.false_eq_true, if_false]
        refine wpAny_bind (wpAny_seqItems ho hdat ?_)
        refine wpAny_bind ?_
        show wpAny _ _ (forIn items _ _) _ _ s
        rw [← Array.forIn_toList]
        refine wpAny_forIn_list _ (fun rest r s' => r.1 = none ∧ s' = s ∧ ∀ v ∈ rest, PT s.heap n v) _ ?_ ?_ _ _ ⟨rfl, rfl, hall⟩
        · rintro v rest r s' ⟨hr, rfl, hal⟩
          refine wpAny_bind (ih d (hal v (.head _)) (by omega) ?_)
          simp only [Bool.not_true, Bool.false_eq_true, if_false]
          exact wpAny_pure ⟨rfl, rfl, fun u hu' => hal u (.tail _ hu')⟩
        · rintro ⟨r1, r2⟩ s' ⟨hr, rfl, _⟩
          simp only at hr
          subst hr
          exact wpAny_pure h

theorem plain_PT : ∀ (n d : Nat) {v : Value} {A : Around} {E : Value → Shared → Prop} {s : Shared} {Q : Bool → Shared → Prop}, PT s.heap n v → n ≤ d → Q false s → wpAny (model prog w) A (ofAClassStatement d v) Q E s := by
  intro n
  induction n with
  | zero =>
    intro d v A E s Q x hd h
    cases x with
    | str _ x t => unfold ofAClassStatement; exact wpAny_pure h
    | int _ i t => unfold ofAClassStatement; exact wpAny_pure h
  | succ n ih =>
    intro d v A E s Q x hd h
    cases x with
    | str _ x t => unfold ofAClassStatement; exact wpAny_pure h
    | int _ i t => unfold ofAClassStatement; exact wpAny_pure h
    | @tup _ a items ht hall =>
      cases d with
      | zero => omega
      | succ d =>
        have hT := ht.typeIs
        obtain ⟨o, ho, hc, k, hdat⟩ := id ht
        unfold ofAClassStatement
        refine wpAny_bind (wpAny_typeOf hT ?_)
        dsimp only
        rw [if_pos (by decide)]
        refine wpAny_bind (wpAny_pure ?_)
        simp only [Bool.not_true, Bool.false_eq_true, if_false]
        refine wpAny_bind (wpAny_seqItems ho hdat ?_)
        dsimp only
        refine wpAny_bind ?_
        rw [← Array.forIn_toList]
        refine wpAny_forIn_list _ (fun rest r s' => r.1 = none ∧ s' = s ∧ ∀ v ∈ rest, PT s.heap n v) _ ?_ ?_ _ _ ⟨rfl, rfl, hall⟩
        · rintro v rest r s' ⟨hr, rfl, hal⟩
          refine wpAny_bind (ih d (hal v (.head _)) (by omega) ?_)
          simp only [Bool.false_eq_true, if_false]
          exact wpAny_pure ⟨rfl, rfl, fun u hu' => hal u (.tail _ hu')⟩
        · rintro ⟨r1, r2⟩ s' ⟨hr, rfl, _⟩
          simp only at hr
          subst hr
          exact wpAny_pure h

/-- a search that can be asked for without showing the table -/
theorem unseen_PT {x : Value} {l : List Value} {A : Around} {E : Value → Shared → Prop} {s : Shared} {Q : Bool → Shared → Prop} (hx : PT s.heap 2 x) (hl : ∀ y ∈ l, PT s.heap 2 y) (h : Q false s) :
    wpAny (model prog w) A (searchCouldBeSeen x l) Q E s := by
  unfold searchCouldBeSeen
  refine wpAny_bind ?_
  refine wpAny_forIn_list _ (fun rest r s' => r.1 = none ∧ s' = s ∧ ∀ v ∈ rest, PT s.heap 2 v) _ ?_ ?_ _ _ ⟨rfl, rfl, hl⟩
  · rintro y rest r s' ⟨hr, rfl, hal⟩
    dsimp only
    split <;> split
    all_goals first
      | exact wpAny_pure ⟨rfl, rfl, fun u hu' => hal u (.tail _ hu')⟩
      | (refine wpAny_bind (quiet_PT 2 8 hx (by decide) ?_)
         simp only [Bool.not_true, Bool.false_eq_true, if_false]
         refine wpAny_bind (quiet_PT 2 8 (hal _ (.head _)) (by decide) ?_)
         simp only [Bool.not_true, Bool.false_eq_true, if_false]
         refine wpAny_bind (plain_PT 2 8 hx (by decide) ?_)
         simp only [Bool.false_eq_true, if_false]
         refine wpAny_bind (plain_PT 2 8 (hal _ (.head _)) (by decide) ?_)
         simp only [Bool.false_eq_true, if_false]
         exact wpAny_pure ⟨rfl, rfl, fun u hu' => hal u (.tail _ hu')⟩)
  · rintro ⟨r1, r2⟩ s' ⟨hr, rfl, _⟩
    simp only at hr
    subst hr
    exact wpAny_pure h
end
end Mine
-- MU
namespace Mine

/-- a value that is a pair of a way and a flag -/
noncomputable def PairAt (h : Heap) (v : Value) (p : Way) (i : Int) : Prop := ∃ a wv t, v = .ref a ∧ IsTup h a #[wv, .int i t] ∧ WayAt h wv p
theorem PairAt.keeps {h h' : Heap} {v : Value} {p : Way} {i : Int} (x : PairAt h v p i) (k : h.StaysIn h') : PairAt h' v p i :=
  let ⟨a, wv, t, e, y, z⟩ := x; ⟨a, wv, t, e, y.keeps k, z.keeps k⟩
theorem WayAt.tups {h h' : Heap} {v : Value} {p : Way} (x : WayAt h v p) (k : ∀ b o, o.cls = .type "tuple" → h.get? b = some o → h'.get? b = some o) : WayAt h' v p := by
  obtain ⟨a, vs, e, ⟨o, ho, hc, r⟩, r'⟩ := x
  exact ⟨a, vs, e, ⟨o, k a o hc ho, hc, r⟩, r'⟩
theorem PairAt.tups {h h' : Heap} {v : Value} {p : Way} {i : Int} (x : PairAt h v p i) (k : ∀ b o, o.cls = .type "tuple" → h.get? b = some o → h'.get? b = some o) : PairAt h' v p i := by
  obtain ⟨a, wv, t, e, ⟨o, ho, hc, r⟩, z⟩ := x
  exact ⟨a, wv, t, e, ⟨o, k a o hc ho, hc, r⟩, z.tups k⟩
theorem strs_pt {h : Heap} : ∀ {vs : List Value} {p : Way}, StrsAre vs p → ∀ v ∈ vs, PT h 0 v := by
  intro vs p hs v hv
  obtain ⟨j, hj⟩ := List.mem_iff_getElem?.mp hv
  obtain ⟨x, t, rfl, _⟩ := hs.item j v hj
  exact .str ..
theorem WayAt.pt {h : Heap} {v : Value} {p : Way} (x : WayAt h v p) : PT h 1 v := by
  obtain ⟨a, vs, rfl, ht, hs, _⟩ := x
  exact .tup ht fun v hv => strs_pt hs v (by simpa using hv)
theorem PairAt.pt {h : Heap} {v : Value} {p : Way} {i : Int} (x : PairAt h v p i) : PT h 2 v := by
  obtain ⟨a, wv, t, rfl, ht, hw⟩ := x
  refine .tup ht fun v hv => ?_
  simp only [List.mem_cons, List.not_mem_nil, or_false] at hv
  rcases hv with rfl | rfl
  · exact hw.pt
  · exact .int ..

noncomputable def wd (p : Way) : PyData := .tuple (p.map .str)
noncomputable def pd (p : Way) (i : Int) : PyData := .tuple [wd p, .int i]
theorem strs_reads {h : Heap} : ∀ {vs : List Value} {p : Way}, StrsAre vs p → ReadsAll h vs (p.map .str) [] := by
  intro vs p hs
  induction hs with
  | nil => exact .nil
  | cons y t _ ih => exact .cons (as := []) (bs := []) (.str _ t) ih
theorem WayAt.reads {h : Heap} {v : Value} {p : Way} (x : WayAt h v p) : Reads h v (wd p) [] := by
  obtain ⟨a, vs, rfl, ⟨o, ho, hc, n, hd⟩, hs, _⟩ := x
  exact .tuple ho hc hd (by simpa using strs_reads hs)
theorem PairAt.reads {h : Heap} {v : Value} {p : Way} {i : Int} (x : PairAt h v p i) : Reads h v (pd p i) [] := by
  obtain ⟨a, wv, t, rfl, ⟨o, ho, hc, n, hd⟩, hw⟩ := x
  exact .tuple ho hc hd (.cons (as := []) (bs := []) hw.reads (.cons (as := []) (bs := []) (.int _ _) .nil))
theorem eqvAll_strs : ∀ p q : Way, PyData.eqvAll (p.map .str) (q.map .str) = decide (p = q)
  | [], [] => by simp [PyData.eqvAll]
  | [], _ :: _ => by simp [PyData.eqvAll]
  | _ :: _, [] => by simp [PyData.eqvAll]
  | x :: p, y :: q => by
    simp only [List.map_cons, PyData.eqvAll, eqvAll_strs p q, PyData.eqv]
    by_cases h1 : x = y <;> by_cases h2 : p = q <;> simp [h1, h2]
theorem eqv_wd (p q : Way) : PyData.eqv (wd p) (wd q) = decide (p = q) := by
  unfold wd; rw [PyData.eqv]; exact eqvAll_strs p q
theorem eqv_pd (p q : Way) (i j : Int) : PyData.eqv (pd p i) (pd q j) = decide (p = q ∧ i = j) := by
  unfold pd
  rw [PyData.eqv]
  simp only [PyData.eqvAll, eqv_wd, PyData.eqv]
  by_cases h1 : p = q <;> by_cases h2 : i = j <;> simp [h1, h2]
theorem nms_ok : ∀ x ∈ nms, PyData.strOk x = true := by decide +kernel
theorem lay_strs : ∀ {p : Way}, (∀ x ∈ p, x ∈ nms) → PyData.canLayAll0 (p.map .str) = true
  | [], _ => rfl
  | x :: p, h => by
    have h1 := nms_ok x (h x (.head _))
    have h2 := lay_strs (p := p) fun y hy => h y (.tail _ hy)
    simp [PyData.canLayAll0, PyData.canLay0, h1, h2]
theorem lay_wd {p : Way} (h : ∀ x ∈ p, x ∈ nms) : (wd p).canLay0 = true := by unfold wd; simp [PyData.canLay0, lay_strs h]
theorem lay_pd {p : Way} {i : Int} (h : ∀ x ∈ p, x ∈ nms) : (pd p i).canLay0 = true := by unfold pd; simp [PyData.canLay0, PyData.canLayAll0, lay_wd h]
theorem WayAt.names {h : Heap} {v : Value} {p : Way} (x : WayAt h v p) : ∀ x ∈ p, x ∈ nms := let ⟨_, _, _, _, _, n, _⟩ := x; n
theorem PairAt.names {h : Heap} {v : Value} {p : Way} {i : Int} (x : PairAt h v p i) : ∀ x ∈ p, x ∈ nms := let ⟨_, _, _, _, _, y⟩ := x; y.names
theorem depth_strs : ∀ p : Way, PyData.depthAll (p.map .str) ≤ 1
  | [] => by simp [PyData.depthAll]
  | x :: p => by simp [PyData.depthAll, PyData.depth, depth_strs p]
theorem depth_wd (p : Way) : (wd p).depth ≤ 2 := by unfold wd; simp [PyData.depth]; have := depth_strs p; omega
theorem depth_pd (p : Way) (i : Int) : (pd p i).depth ≤ 3 := by unfold pd; simp [PyData.depth, PyData.depthAll]; have := depth_wd p; omega
theorem shaped_wd {p : Way} (h : ∀ x ∈ p, x ∈ nms) : SeqAt.shaped (wd p) = true := by unfold SeqAt.shaped; rw [lay_wd h]; have := depth_wd p; simp; omega

section
variable {prog : Program} {w : World} {A : Around} {E : Value → Shared → Prop} {s : Shared}
theorem eqBool_pair {a b : Value} {p q : Way} {i j : Int} {Q : Bool → Shared → Prop} (x : PairAt s.heap a p i) (y : PairAt s.heap b q j) (hu : A.units + 3 < cLine) (h : Q (decide (p = q ∧ i = j)) s) :
    wpAny (model prog w) A (eqBool a b) Q E s := by
  refine SeqAt.eqAt_reads (pd p i) (pd q j) A s a b [] [] x.reads y.reads (lay_pd x.names) (lay_pd y.names) (by have := depth_pd p i; omega) prog w E Q ?_
  rw [eqv_pd]; exact h

theorem isSame_self {r : Addr} {Q : Bool → Shared → Prop} (h : Q true s) : wpAny (model prog w) A (isSame (.ref r) (.ref r)) Q E s := by
  unfold isSame
  dsimp only
  rw [if_pos (by simp)]
  exact wpAny_pure h

/-- the table of a set that has n elements -/
structure TabOk (w : World) (t : SetTable) (n : Nat) : Prop where
  place : t.place.size = n
  none_ : t.dummies = #[]
  led : t.led = !w.params.followText "set-order"
  room : (t.mask = 7 ∧ n ≤ 4) ∨ (t.mask = 31 ∧ n ≤ 18) ∨ (t.mask = 127 ∧ n ≤ 76)
theorem TabOk.full {t : SetTable} {n : Nat} (x : TabOk w t n) : Full t.mask := by
  rcases x.room with ⟨e, _⟩ | ⟨e, _⟩ | ⟨e, _⟩ <;> rw [e]
  · exact full7
  · exact full31
  · exact full127
theorem TabOk.less {t : SetTable} {n : Nat} (x : TabOk w t n) : n ≤ t.mask := by rcases x.room with ⟨e, _⟩ | ⟨e, _⟩ | ⟨e, _⟩ <;> omega
theorem TabOk.small {t : SetTable} {n : Nat} (x : TabOk w t n) : t.mask ≤ 127 := by rcases x.room with ⟨e, _⟩ | ⟨e, _⟩ | ⟨e, _⟩ <;> omega
theorem TabOk.way {t : SetTable} {n : Nat} (x : TabOk w t n) : t.gaveWay = false := by
  unfold SetTable.gaveWay
  rcases x.room with ⟨e, _⟩ | ⟨e, _⟩ | ⟨e, _⟩ <;> rw [e] <;> rfl
theorem TabOk.fits {t : SetTable} {n : Nat} (x : TabOk w t n) : t.fits n = true := by
  unfold SetTable.fits SetTable.fill
  have := x.less
  have := x.place
  rw [x.none_]
  simp
  omega

theorem setState_ok {a : Addr} {o : Obj} {es : Array (Int × Value)} {ep : Nat} {t : SetTable} {Q : (Array (Int × Value) × Nat × SetTable) → Shared → Prop}
    (ho : s.heap.get? a = some o) (hd : o.data = .set es ep t) (hf : TabOk w t es.size) (h : Q (es, ep, t) s) : wpAny (model prog w) A (setState a) Q E s :=
  wpAny_setState_of ho hd hf.fits h

theorem search_ok {a : Addr} {o : Obj} {es : Array (Int × Value)} {ep : Nat} {t : SetTable} {x : Value} {hx : Int} {p : Way} {i : Int} {Q : SetFound → Shared → Prop}
    (ho : s.heap.get? a = some o) (hd : o.data = .set es ep t) (hf : TabOk w t es.size) (hall : ∀ e ∈ es.toList, ∃ q j, PairAt s.heap e.2 q j) (px : PairAt s.heap x p i) (hu : A.units + 3 < cLine)
    (found : (∃ e ∈ es.toList, PairAt s.heap e.2 p i) → Q (.there none) s) (free : ∀ j, Q (.free j false) s) :
    ∀ (n fuel : Nat) (stand : Option SetTable.Probe), Hits t n (stand.getD (t.probeStart hx)) → (stand.getD (t.probeStart hx)).dummy = none → n < fuel → n < 10 * SetTable.turns t.mask →
      wpAny (model prog w) A (setSearchFrom a x hx true fuel stand) Q E s := by
  intro n
  induction n using Nat.strongRecOn with
  | ind n ih =>
    intro fuel stand hh hdm hfu hn
    cases fuel with
    | zero => omega
    | succ fuel =>
      unfold setSearchFrom
      refine wpAny_bind (setState_ok ho hd hf ?_)
      dsimp only
      rw [hf.way]
      simp only [Bool.false_eq_true, if_false]
      unfold SetTable.probe
      rcases probe_go hf.none_ _ hx (10 * SetTable.turns t.mask) n _ hh hn hdm with ⟨j, e⟩ | ⟨j, i', next, n', e, hl, hha, hn', hh', hdm'⟩
      · rw [e]
        dsimp only
        exact wpAny_pure (free j)
      · rw [e]
        dsimp only
        have hpl := slot_live hl
        have hlt : i' < es.size := by
          have := (Array.getElem?_eq_some_iff.mp hpl).1
          rw [hf.place] at this; exact this
        have he : es[i']? = some es[i'] := by simp [hlt]
        obtain ⟨q, k, pe⟩ := hall es[i'] (by simp)
        have cont : wpAny (model prog w) A (setSearchFrom a x hx true fuel (some next)) Q E s := ih n' hn' fuel (some next) hh' hdm' (by omega) (by omega)
        have fin : PairAt s.heap es[i'].2 q k → decide (q = p ∧ k = i) = true → Q (.there none) s := fun pe hq => by
          obtain ⟨rfl, rfl⟩ := of_decide_eq_true hq
          exact found ⟨es[i'], by simp, pe⟩
        have hsame : t.sameMemory t.moves t.mask = some true := by unfold SetTable.sameMemory; rw [if_pos (by simp)]
        rw [he]
        have block : wpAny (model prog w) A (eqBool es[i'].2 x) (fun equal s₁ => s₁ = s ∧ equal = decide (q = p ∧ k = i)) E s := eqBool_pair pe px hu ⟨rfl, rfl⟩
        have hrf : ∃ r, es[i'].2 = .ref r := let ⟨r, _, _, e, _⟩ := pe; ⟨r, e⟩
        rcases hled : t.led
        · simp only [Bool.not_false, if_true]
          refine wpAny_bind (unseen_PT px.pt (fun y hy => ?_) ?_)
          · obtain ⟨e', he', rfl⟩ := List.mem_map.mp hy
            obtain ⟨q', k', pe'⟩ := hall e' (by simpa using (Array.mem_filter.mp (Array.mem_toList_iff.mp he')).1)
            exact pe'.pt
          simp only [Bool.false_eq_true, if_false]
          refine wpAny_bind (wpAny_holding (wpAny_mono block (fun equal s₁ hq => ?_) fun _ _ e => e))
          obtain ⟨rfl, hq⟩ := hq
          refine wpAny_bind (setState_ok ho hd hf ?_)
          dsimp only
          cases equal with
          | true => simp only [Bool.and_self, if_true]; exact wpAny_pure (fin pe hq.symm)
          | false =>
            simp only [Bool.and_false, Bool.false_eq_true, if_false]
            rw [hsame]
            dsimp only
            simp only [if_true, hl, he]
            obtain ⟨r, hr⟩ := hrf
            rw [hr]
            refine wpAny_bind (isSame_self ?_)
            exact wpAny_bind (wpAny_pure cont)
        · simp only [Bool.not_true, Bool.false_eq_true, if_false]
          refine wpAny_bind (wpAny_holding (wpAny_mono block (fun equal s₁ hq => ?_) fun _ _ e => e))
          obtain ⟨rfl, hq⟩ := hq
          refine wpAny_bind (setState_ok ho hd hf ?_)
          dsimp only
          cases equal with
          | true => simp only [Bool.and_self, if_true]; exact wpAny_pure (fin pe hq.symm)
          | false =>
            simp only [Bool.and_false, Bool.false_eq_true, if_false]
            rw [hsame]
            dsimp only
            simp only [if_true, hl, he]
            obtain ⟨r, hr⟩ := hrf
            rw [hr]
            refine wpAny_bind (isSame_self ?_)
            exact wpAny_bind (wpAny_pure cont)
end
end Mine
-- MV
namespace Mine

theorem strs_inj : ∀ {vs : List Value} {p q : Way}, StrsAre vs p → StrsAre vs q → p = q := by
  intro vs p q hp hq
  induction hp generalizing q with
  | nil => cases hq; rfl
  | cons y t _ ih => cases hq with | cons _ _ h => rw [ih h]
theorem WayAt.inj {h : Heap} {v : Value} {p q : Way} (x : WayAt h v p) (y : WayAt h v q) : p = q := by
  obtain ⟨a, vs, rfl, ⟨o, ho, _, n, hd⟩, hs, _⟩ := x
  obtain ⟨a', vs', e, ⟨o', ho', _, n', hd'⟩, hs', _⟩ := y
  cases e
  rw [ho] at ho'; cases ho'
  rw [hd] at hd'
  injection hd' with h1 h2
  have : vs = vs' := by simpa using h1
  subst this
  exact strs_inj hs hs'
theorem PairAt.inj {h : Heap} {v : Value} {p q : Way} {i j : Int} (x : PairAt h v p i) (y : PairAt h v q j) : p = q ∧ i = j := by
  obtain ⟨a, wv, t, rfl, ⟨o, ho, _, n, hd⟩, hw⟩ := x
  obtain ⟨a', wv', t', e, ⟨o', ho', _, n', hd'⟩, hw'⟩ := y
  cases e
  rw [ho] at ho'; cases ho'
  rw [hd] at hd'
  injection hd' with h1 h2
  have h3 : [wv, Value.int i t] = [wv', Value.int j t'] := by simpa using congrArg Array.toList h1
  injection h3 with e1 e2
  injection e2 with e3 _
  injection e3 with e4 _
  subst e1
  exact ⟨hw.inj hw', e4⟩

section
variable {prog : Program} {w : World} {A : Around} {E : Value → Shared → Prop} {s : Shared}

theorem hashByValue_strs {vs : List Value} {p : Way} {a : Addr} {n : Nat} {Q : Bool → Shared → Prop} (ht : IsTup s.heap a vs.toArray) (hs : StrsAre vs p) (h : Q (decide (p = [])) s) :
    wpAny (model prog w) A (hashByValue (n + 1) (.ref a)) Q E s := by
  have hT := ht.typeIs
  obtain ⟨o, ho, hc, k, hdat⟩ := id ht
  unfold hashByValue
  refine wpAny_bind (wpAny_specialOf hT PySem.F.slot_tuple_hash.lookup ?_)
  dsimp only
  refine wpAny_bind (wpAny_seqItems ho hdat ?_)
  refine wpAny_bind ?_
  show wpAny _ _ (forIn vs.toArray _ _) _ _ s
  rw [← Array.forIn_toList]
  cases hs with
  | nil =>
    exact wpAny_pure (wpAny_pure h)
  | cons y t _ =>
    rw [List.forIn_cons]
    refine wpAny_bind (wpAny_bind ?_)
    show wpAny _ _ (hashByValue n (.str y t)) _ _ s
    have : hashByValue n (.str y t) = pure false := by cases n <;> rfl
    rw [this]
    refine wpAny_pure ?_
    simp only [Bool.not_false, if_true]
    exact wpAny_pure (wpAny_pure (wpAny_pure h))
theorem hashByValue_pair {x : Value} {p : Way} {i : Int} {Q : Bool → Shared → Prop} (px : PairAt s.heap x p i) (h : Q (decide (p = [])) s) : wpAny (model prog w) A (hashByValue 8 x) Q E s := by
  obtain ⟨a, wv, t, rfl, ht, wa, vs, rfl, htw, hs, _⟩ := px
  have hT := ht.typeIs
  obtain ⟨o, ho, hc, k, hdat⟩ := id ht
  unfold hashByValue
  refine wpAny_bind (wpAny_specialOf hT PySem.F.slot_tuple_hash.lookup ?_)
  dsimp only
  refine wpAny_bind (wpAny_seqItems ho hdat ?_)
  refine wpAny_bind ?_
  show wpAny _ _ (forIn #[Value.ref wa, .int i t] _ _) _ _ s
  rw [← Array.forIn_toList]
  rw [List.forIn_cons]
  refine wpAny_bind (wpAny_bind (hashByValue_strs htw hs ?_))
  by_cases hp : p = []
  · rw [decide_eq_true hp] at h ⊢
    simp only [Bool.not_true, Bool.false_eq_true, if_false]
    refine wpAny_pure ?_
    dsimp only
    rw [List.forIn_cons]
    refine wpAny_bind (wpAny_bind ?_)
    show wpAny _ _ (hashByValue 7 (.int i t)) _ _ s
    have : hashByValue 7 (.int i t) = pure true := rfl
    rw [this]
    refine wpAny_pure ?_
    simp only [Bool.not_true, Bool.false_eq_true, if_false]
    exact wpAny_pure (wpAny_pure (wpAny_pure h))
  · rw [decide_eq_false hp] at h ⊢
    simp only [Bool.not_false, if_true]
    exact wpAny_pure (wpAny_pure (wpAny_pure h))

/-- a set that holds the pairs of l -/
noncomputable def PendAt (w : World) (h : Heap) (a : Addr) (l : List (Way × Int)) : Prop :=
  ∃ es ep t, h.get? a = some { cls := .type "set", dict := none, data := .set es ep t } ∧ TabOk w t es.size ∧ (t.plain = true → ∀ x ∈ l, x.1 = []) ∧
    (∀ e ∈ es.toList, ∃ p i, PairAt h e.2 p i ∧ (p, i) ∈ l) ∧ (∀ x ∈ l, ∃ e ∈ es.toList, PairAt h e.2 x.1 x.2) ∧ es.size ≤ l.length
theorem PendAt.tups {h h' : Heap} {a : Addr} {l : List (Way × Int)} (x : PendAt w h a l) (ka : ∀ o, h.get? a = some o → h'.get? a = some o) (k : ∀ b o, o.cls = .type "tuple" → h.get? b = some o → h'.get? b = some o) : PendAt w h' a l := by
  obtain ⟨es, ep, t, ho, h1, h2, h3, h4, h5⟩ := x
  refine ⟨es, ep, t, ka _ ho, h1, h2, fun e he => ?_, fun x hx => ?_, h5⟩
  · obtain ⟨p, i, y, z⟩ := h3 e he; exact ⟨p, i, y.tups k, z⟩
  · obtain ⟨e, he, y⟩ := h4 x hx; exact ⟨e, he, y.tups k⟩
theorem PendAt.typeIs {a : Addr} {l : List (Way × Int)} (x : PendAt w s.heap a l) : s.TypeIs (.ref a) "set" := let ⟨_, _, _, ho, _⟩ := x; ⟨_, ho, rfl⟩

theorem TabOk.put {t : SetTable} {n j : Nat} (x : TabOk w t n) : (t.put j).1.place.size = n + 1 ∧ (t.put j).1.dummies = #[] ∧ (t.put j).1.led = t.led ∧ (t.put j).1.mask = t.mask ∧ (t.put j).1.plain = t.plain := by
  refine ⟨?_, ?_, rfl, rfl, rfl⟩
  · show (SetTable.insertAt t.place (SetTable.below t.place j) j).size = _
    rw [← Array.length_toList, (SetTable.insertAt_perm _ _ _).length_eq]
    simp [x.place]
  · show (if SetTable.has t.dummies j then _ else t.dummies) = _
    rw [x.none_]
    unfold SetTable.has
    rw [if_neg (by simp)]
theorem sizeAbove20 : SetTable.sizeAbove 20 = 32 := by decide +kernel
theorem sizeAbove76 : SetTable.sizeAbove 76 = 128 := by decide +kernel

theorem relay_ok {a : Addr} {es : Array (Int × Value)} {ep : Nat} {t : SetTable} {wanted mask : Nat} {Q : Unit → Shared → Prop}
    (ho : s.heap.get? a = some { cls := .type "set", dict := none, data := .set es ep t }) (hfits : t.fits es.size = true) (hw : SetTable.sizeAbove wanted = mask + 1) (hf : Full mask) (hm : mask ≤ 127) (hn : es.size ≤ mask)
    (h : ∀ es' t', t'.mask = mask → t'.dummies = #[] → t'.led = t.led → t'.plain = t.plain → t'.place.size = es'.size → es'.toList.Perm es.toList →
      Q () { s with heap := s.heap.update a (Obj.putSet es' t') }) :
    wpAny (model prog w) A (setRelay a wanted) Q E s := by
  unfold setRelay
  refine wpAny_bind (wpAny_setState_of ho rfl hfits ?_)
  dsimp only
  rw [if_neg (by rw [hw, sizeLine_is]; omega)]
  obtain ⟨t', order, e, e1, e2, e3, e4, e5, e6⟩ := laid_some (finger := t.finger) (moves := t.movedTo (SetTable.sizeAbove wanted - 1)) (led := t.led) (plain := t.plain) (hashes := es.map (·.1)) hf (by simpa using hn)
  have er : t.relaid (es.map (·.1)) wanted = some (t', order) := by
    unfold SetTable.relaid
    rw [show SetTable.sizeAbove wanted - 1 = mask by omega] at e ⊢
    exact e
  rw [Array.size_map] at e5 e6
  have hp := order_perm (es := es) e6
  have hsz : (order.filterMap (es[·]?)).size = es.size := by rw [← Array.length_toList, hp.length_eq, Array.length_toList]
  have hif : (if ((order.filterMap (es[·]?)).size != es.size) = true then (unsupported "internal:set-table-lost-an-element" >>= fun (_ : Unit) => pure (order.filterMap (es[·]?), t') : Sem (Array (Int × Value) × SetTable)) else pure (order.filterMap (es[·]?), t')) = pure (order.filterMap (es[·]?), t') := by
    rw [if_neg (by rw [hsz]; simp)]
  rw [er]
  refine wpAny_bind (wpAny_of_eq (a := (order.filterMap (es[·]?), t')) hif ?_)
  exact wpAny_storeSet_of ho rfl (h _ t' e1 e2 e3 e4 (by rw [e5, hsz]) hp) (by rw [hsz, sizeLine_is]; omega)
end
end Mine
-- MW
namespace Mine

section
variable {prog : Program} {w : World} {A : Around} {E : Value → Shared → Prop} {s : Shared}

theorem pend_store {h h' : Heap} {a : Addr} {es : Array (Int × Value)} {l : List (Way × Int)} {x : Value} {p : Way} {i hx : Int} {es' : Array (Int × Value)} {ep' : Nat} {t' : SetTable}
    (hg : h'.get? a = some { cls := .type "set", dict := none, data := .set es' ep' t' }) (kt : ∀ b o, o.cls = .type "tuple" → h.get? b = some o → h'.get? b = some o)
    (hall : ∀ e ∈ es.toList, ∃ p i, PairAt h e.2 p i ∧ (p, i) ∈ l) (hl : ∀ x ∈ l, ∃ e ∈ es.toList, PairAt h e.2 x.1 x.2) (hn : es.size ≤ l.length)
    (px : PairAt h x p i) (hp : es'.toList.Perm (es.push (hx, x)).toList) (ht : TabOk w t' es'.size) (hpl : t'.plain = true → ∀ y ∈ l ++ [(p, i)], y.1 = []) :
    PendAt w h' a (l ++ [(p, i)]) := by
  have hmem : ∀ e, e ∈ es'.toList ↔ e ∈ es.toList ∨ e = (hx, x) := fun e => by rw [hp.mem_iff, Array.toList_push]; simp
  refine ⟨es', ep', t', hg, ht, hpl, fun e he => ?_, fun y hy => ?_, ?_⟩
  · rcases (hmem e).mp he with he | rfl
    · obtain ⟨q, j, y, z⟩ := hall e he
      exact ⟨q, j, y.tups kt, List.mem_append_left _ z⟩
    · exact ⟨p, i, px.tups kt, by simp⟩
  · rcases List.mem_append.mp hy with hy | hy
    · obtain ⟨e, he, z⟩ := hl y hy
      exact ⟨e, (hmem e).mpr (.inl he), z.tups kt⟩
    · rw [List.mem_singleton.mp hy]
      exact ⟨_, (hmem _).mpr (.inr rfl), px.tups kt⟩
  · rw [← Array.length_toList, hp.length_eq]
    simp
    exact hn
theorem tups_update {h : Heap} {a : Addr} {o : Obj} {f : Obj → Obj} (ho : h.get? a = some o) (hc : o.cls ≠ .type "tuple") : ∀ b ob, ob.cls = .type "tuple" → h.get? b = some ob → (h.update a f).get? b = some ob := fun b ob hb e => by
  rw [Heap.get?_update_other]
  · exact e
  · intro q; subst q; rw [ho] at e; cases e; exact hc hb
theorem set_not_tuple {es : Array (Int × Value)} {ep : Nat} {t : SetTable} : (({ cls := .type "set", dict := none, data := .set es ep t } : Obj)).cls ≠ .type "tuple" := fun q => by
  have : Value.type "set" = Value.type "tuple" := q
  exact absurd this (by decide)

theorem update_update {h : Heap} {a : Addr} {es es' : Array (Int × Value)} {t t' : SetTable} : Heap.SameBut a h ((h.update a (Obj.putSet es t)).update a (Obj.putSet es' t')) :=
  (Heap.SameBut.update h a _).trans (Heap.SameBut.update _ a _)

theorem room_on {m n : Nat} (h : (m = 7 ∧ n ≤ 4) ∨ (m = 31 ∧ n ≤ 18) ∨ (m = 127 ∧ n ≤ 76)) (hq : ¬ (n + 1) * 5 ≥ m * 3) : (m = 7 ∧ n + 1 ≤ 4) ∨ (m = 31 ∧ n + 1 ≤ 18) ∨ (m = 127 ∧ n + 1 ≤ 76) := by
  rcases h with ⟨rfl, z⟩ | ⟨rfl, z⟩ | ⟨rfl, z⟩
  · exact .inl ⟨rfl, by omega⟩
  · exact .inr (.inl ⟨rfl, by omega⟩)
  · exact .inr (.inr ⟨rfl, by omega⟩)
theorem room_fits {m n : Nat} (h : (m = 7 ∧ n ≤ 4) ∨ (m = 31 ∧ n ≤ 18) ∨ (m = 127 ∧ n ≤ 76)) : n + 1 ≤ m := by
  rcases h with ⟨rfl, z⟩ | ⟨rfl, z⟩ | ⟨rfl, z⟩
  · exact Nat.le_trans (Nat.succ_le_succ z) (by decide)
  · exact Nat.le_trans (Nat.succ_le_succ z) (by decide)
  · exact Nat.le_trans (Nat.succ_le_succ z) (by decide)
theorem room_five {n : Nat} (z : n ≤ 4) (hq : (n + 1) * 5 ≥ 7 * 3) : n + 1 = 5 := by omega
theorem room_nineteen {n : Nat} (z : n ≤ 18) (hq : (n + 1) * 5 ≥ 31 * 3) : n + 1 = 19 := by omega
theorem room_last {n l : Nat} (z : l + 1 ≤ 76) (y : n ≤ l) (hq : (n + 1) * 5 ≥ 127 * 3) : False := by omega

set_option maxHeartbeats 1000000 in
theorem pend_add {a : Addr} {l : List (Way × Int)} {x : Value} {p : Way} {i : Int} {Q : Value → Shared → Prop} (hP : PendAt w s.heap a l) (px : PairAt s.heap x p i) (hu : A.units + 8 < cLine) (hlen : l.length + 1 ≤ 76)
    (h : ∀ h' tk, PendAt w h' a (l ++ [(p, i)]) → Heap.SameBut a s.heap h' → Q .none { s with heap := h', toks := tk }) :
    wpAny (model prog w) A (call (.builtin "set.add") [.ref a, x]) Q E s := by
  have hT := hP.typeIs
  obtain ⟨es, ep, t, ho, hf, hpl, hall, hl, hn⟩ := hP
  refine wpAny_call_entry PySem.F.slot_set_add hT PySem.F.entry_set_add ?_ (PySem.F.args_set_add_2 _ _)
  unfold Builtin.«set.add» Builtin.Frozenset.oneOther
  simp only [List.isEmpty_nil, bind_assoc]
  unfold Builtin.Frozenset.addrOf setAdd
  refine wpAny_bind (wpAny_pure ?_)
  try dsimp only
  refine wpAny_bind (wpAny_pure ?_)
  try dsimp only
  refine wpAny_bind ?_
  refine wpAny_holding ?_
  refine wpAny_bind (hash_PT 2 px.pt (by show A.units + 1 + 2 < cLine; exact u_less (a := A.units) (m := 3) hu (by decide)) fun hx tk => ?_)
  have hend : ∀ (b : Bool) h' tk', PendAt w h' a (l ++ [(p, i)]) → Heap.SameBut a s.heap h' → wpAny (model prog w) A.in1 (ret Value.none) (fun fin s' => ∃ v, fin = .done (.ret v) ∧ Q v s') E { s with heap := h', toks := tk' } := fun b h' tk' hP' hs' =>
    wpAny_pure ⟨_, rfl, h h' tk' hP' hs'⟩
  unfold setAddHashed setAddHashedIn
  refine wpAny_holding (wpAny_bind (setState_ok (s := { s with toks := tk }) ho rfl hf ?_))
  dsimp only
  have hns : byScan x es = false := by
    obtain ⟨r, _, _, rfl, _⟩ := px
    rfl
  rw [hns]
  simp only [Bool.false_eq_true, if_false]
  obtain ⟨j, hj, hej⟩ := empty_slot hf.none_ (by rw [hf.place]; exact hf.less)
  have hst := hits_start hf.full hj hej hx
  have hsm := hf.small
  refine wpAny_bind ?_
  unfold setSearch
  refine search_ok (s := { s with toks := tk }) (hx := hx) ho rfl hf (fun e he => let ⟨q, k, y, _⟩ := hall e he; ⟨q, k, y⟩) px (by show A.units + 1 + 3 < cLine; exact u_less (a := A.units) (m := 4) hu (by decide)) ?_ ?_ (10 * (t.mask + 13)) 100000 none hst rfl (by omega) (by unfold SetTable.turns; omega)
  · rintro ⟨e, he, pe⟩
    dsimp only
    refine wpAny_pure (hend false s.heap tk ⟨es, ep, t, ho, hf, fun z y hy => ?_, fun e' he' => ?_, fun y hy => ?_, ?_⟩ (Heap.SameBut.refl ..))
    · rcases List.mem_append.mp hy with hy | hy
      · exact hpl z y hy
      · rw [List.mem_singleton.mp hy]
        obtain ⟨q, k, pe', hm⟩ := hall e he
        obtain ⟨rfl, rfl⟩ := pe.inj pe'
        exact hpl z _ hm
    · obtain ⟨q, k, y, z⟩ := hall e' he'
      exact ⟨q, k, y, List.mem_append_left _ z⟩
    · rcases List.mem_append.mp hy with hy | hy
      · exact hl y hy
      · rw [List.mem_singleton.mp hy]; exact ⟨e, he, pe⟩
    · simp; omega
  · intro slot
    dsimp only
    refine wpAny_bind (setState_ok (s := { s with toks := tk }) ho rfl hf ?_)
    dsimp only
    obtain ⟨g1, g2, g3, g4, g5⟩ := hf.put (j := slot)
    have hperm := SetTable.insertAt_perm es (t.put slot).2 (hx, x)
    have hsz : (SetTable.insertAt es (t.put slot).2 (hx, x)).size = es.size + 1 := by rw [← Array.length_toList, hperm.length_eq]; simp
    have main : ∀ (t1 : SetTable), t1.place.size = es.size + 1 → t1.dummies = #[] → t1.led = t.led → t1.mask = t.mask → (t1.plain = true → t.plain = true ∧ p = []) →
        wpAny (model prog w) A.in1 (do
          storeSet a (SetTable.insertAt es (t.put slot).2 (hx, x)) t1
          if (!false && t1.tooFull) = true then setRelay a (SetTable.grown (es.size + 1)); pure true else pure true)
          (fun _ s' => wpAny (model prog w) A.in1 (ret Value.none) (fun fin s' => ∃ v, fin = .done (.ret v) ∧ Q v s') E s') E { s with toks := tk } := fun t1 k1 k2 k3 k4 k5 => by
      have hpl' : t1.plain = true → ∀ y ∈ l ++ [(p, i)], y.1 = [] := fun z y hy => by
        obtain ⟨z1, z2⟩ := k5 z
        rcases List.mem_append.mp hy with hy | hy
        · exact hpl z1 y hy
        · rw [List.mem_singleton.mp hy]; exact z2
      have hfill : t1.fill = es.size + 1 := by unfold SetTable.fill; rw [k1, k2]; rfl
      have hfull : t1.tooFull = decide ((es.size + 1) * 5 ≥ t.mask * 3) := by unfold SetTable.tooFull; rw [hfill, k4]
      refine wpAny_bind (wpAny_storeSet_of (s := { s with toks := tk }) ho rfl ?_ (by rw [hsz, sizeLine_is]; have := hf.less; omega))
      have hled : t1.led = !w.params.followText "set-order" := by rw [k3]; exact hf.led
      by_cases hq : (es.size + 1) * 5 ≥ t.mask * 3
      · rw [if_pos (by rw [hfull]; simpa using hq)]
        have hg : (s.heap.update a (Obj.putSet (SetTable.insertAt es (t.put slot).2 (hx, x)) t1)).get? a = some { cls := .type "set", dict := none, data := .set (SetTable.insertAt es (t.put slot).2 (hx, x)) (ep + 1) t1 } :=
          Heap.get?_update_self (Obj.putSet (SetTable.insertAt es (t.put slot).2 (hx, x)) t1) ho rfl
        have hfits : t1.fits (SetTable.insertAt es (t.put slot).2 (hx, x)).size = true := by
          unfold SetTable.fits
          rw [hfill, k1, hsz, k4]
          simp
          exact room_fits hf.room
        have fin : ∀ mask', Full mask' → mask' ≤ 127 → es.size + 1 ≤ mask' → SetTable.sizeAbove (SetTable.grown (es.size + 1)) = mask' + 1 → ((mask' = 31 ∧ es.size + 1 ≤ 18) ∨ (mask' = 127 ∧ es.size + 1 ≤ 76)) →
            wpAny (model prog w) A.in1 (do setRelay a (SetTable.grown (es.size + 1)); pure true) (fun _ s' => wpAny (model prog w) A.in1 (ret Value.none) (fun fin s' => ∃ v, fin = .done (.ret v) ∧ Q v s') E s') E
              { s with heap := s.heap.update a (Obj.putSet (SetTable.insertAt es (t.put slot).2 (hx, x)) t1), toks := tk } := fun mask' f1 f2 f3 f4 f5 => by
          refine wpAny_bind (relay_ok (s := { s with heap := s.heap.update a (Obj.putSet (SetTable.insertAt es (t.put slot).2 (hx, x)) t1), toks := tk }) hg hfits f4 f1 f2 (by rw [hsz]; exact f3) fun es2 t2 r1 r2 r3 r4 r5 r6 => wpAny_pure (hend true _ tk ?_ update_update))
          have hsz2 : es2.size = es.size + 1 := by rw [← Array.length_toList, r6.length_eq, Array.length_toList, hsz]
          have hg2 : ((s.heap.update a (Obj.putSet (SetTable.insertAt es (t.put slot).2 (hx, x)) t1)).update a (Obj.putSet es2 t2)).get? a = some { cls := .type "set", dict := none, data := .set es2 (ep + 1 + 1) t2 } :=
            Heap.get?_update_self (Obj.putSet es2 t2) hg rfl
          refine pend_store hg2 (fun b o hc e => tups_update hg set_not_tuple b o hc (tups_update ho set_not_tuple b o hc e)) hall hl hn px (r6.trans hperm) ⟨by rw [r5], r2, by rw [r3]; exact hled, ?_⟩ (by rw [r4]; exact hpl')
          rw [r1, hsz2]
          rcases f5 with ⟨z1, z2⟩ | ⟨z1, z2⟩
          · exact .inr (.inl ⟨z1, z2⟩)
          · exact .inr (.inr ⟨z1, z2⟩)
        have hgr : SetTable.grown (es.size + 1) = (es.size + 1) * 4 := by unfold SetTable.grown; rw [if_neg (by have := hf.less; omega)]
        rcases hf.room with ⟨z1, z2⟩ | ⟨z1, z2⟩ | ⟨z1, z2⟩
        · have : es.size + 1 = 5 := room_five z2 (z1 ▸ hq)
          exact fin 31 full31 (by decide) (this ▸ by decide) (by rw [hgr, this]; exact sizeAbove20) (.inl ⟨rfl, this ▸ by decide⟩)
        · have : es.size + 1 = 19 := room_nineteen z2 (z1 ▸ hq)
          exact fin 127 full127 (by decide) (this ▸ by decide) (by rw [hgr, this]; exact sizeAbove76) (.inr ⟨rfl, this ▸ by decide⟩)
        · exact (room_last hlen hn (z1 ▸ hq)).elim
      · rw [if_neg (by rw [hfull]; simpa using hq)]
        refine wpAny_pure (hend true _ tk (pend_store (Heap.get?_update_self (Obj.putSet (SetTable.insertAt es (t.put slot).2 (hx, x)) t1) ho rfl) (tups_update ho set_not_tuple) hall hl hn px hperm ⟨by rw [k1, hsz], k2, hled, ?_⟩ hpl') (Heap.SameBut.update ..))
        rw [k4, hsz]
        exact room_on hf.room hq
    cases hplain : t.plain with
    | true =>
      rw [g5, hplain]
      simp only [if_true]
      refine wpAny_bind (hashByValue_pair (s := { s with toks := tk }) px ?_)
      refine main _ ?_ ?_ ?_ ?_ ?_
      · split
        · exact (by rw [g1])
        · exact (by rw [← g1])
      · split
        · exact g2
        · exact g2
      · split
        · exact g3
        · exact g3
      · split
        · exact g4
        · exact g4
      · split
        · rename_i q; exact fun _ => ⟨hplain, of_decide_eq_true q⟩
        · intro z; cases z
    | false =>
      rw [g5, hplain]
      simp only [Bool.false_eq_true, if_false]
      refine wpAny_bind (wpAny_pure ?_)
      simp only [if_true]
      exact main _ g1 g2 g3 g4 fun z => by rw [g5, hplain] at z; cases z
end
end Mine
-- MX
namespace Mine

noncomputable abbrev freshSet (w : World) : Obj := { cls := .type "set", dict := none, data := .set #[] 0 (.fresh 0 0 (!w.params.followText "set-order")) }

section
variable {prog : Program} {w : World} {A : Around} {E : Value → Shared → Prop} {s : Shared}

theorem code_led {Q₁ : Value → Shared → Prop} (h : Q₁ (.ref s.heap.objs.size) { s with heap := s.heap.push (freshSet w) }) :
    codeAny (model prog w) A (.call (.builtin "set.__new__") ⟨[.type "set"], []⟩) (wants Q₁ E) s := by
  refine codeAny_of_tree ?_
  show wpAny _ A.in1 (do checkBuiltinCall "set.__new__" ⟨[.type "set"], []⟩; again (.builtin "set.__new__" ⟨[.type "set"], []⟩)) _ _ s
  refine wpAny_bind (wpAny_of_eq PySem.F.newCall_set_0 (wpAny_pure ⟨plainId_quiet PySem.F.plain_set_new _, codeAny_builtin PySem.F.entry_set_new ?_⟩))
  rw [Around.under_plainId PySem.F.plain_set_new _]
  unfold Builtin.«set.__new__» Builtin.Frozenset.newClass
  have hsub := sub_set_self
  obtain ⟨hp, g, d, tk, os⟩ := s
  dsimp only
  wp_walk
  refine wpAny_askSetting (wpAny_pure ?_)
  dsimp only
  simp only [newObj]
  refine wpAny_bind (wpAny_alloc (wpAny_pure ?_))
  exact wpAny_pure h

set_option maxHeartbeats 1000000 in
set_option maxRecDepth 100000 in
theorem set_led {Q : Value → Shared → Prop} (h : Q (.ref s.heap.objs.size) { s with heap := s.heap.push (freshSet w) }) : wpAny (model prog w) A (call (.type "set") []) Q E s := by
  obtain ⟨c, tl, hmro⟩ := PySem.F.called_set.mro
  have hmade := PySem.F.called_set.made
  have hsub := PySem.F.called_set.sub
  refine wpAny_call (codeAny_of_tree ?_)
  show wpAny _ _ (callAny (.type "set") _) _ _ _
  refine wpAny_pure ⟨Code.quiet_builtin _ (by decide +kernel), codeAny_builtin PySem.F.entry_type_call ?_⟩
  rw [Around.under_plain (weight_type_call_type "set" [] []) rfl]
  have h1 := PySem.F.called_set.notType
  have h2 := PySem.F.called_set.canCreate
  have hct := PySem.F.typeCall_set_0
  repeat (any_goals (first | assumption | wp_step))
  refine codeAny_mono (code_led (E := E) (Q₁ := fun obj s₁ => obj = .ref s.heap.objs.size ∧ s₁ = { s with heap := s.heap.push (freshSet w) }) ⟨rfl, rfl⟩) fun r s₁ hr => ?_
  cases r with
  | error e => exact hr
  | ok fl =>
    cases fl with
    | ret obj =>
      obtain ⟨rfl, rfl⟩ := hr
      have hS : (s.heap.push (freshSet w)).get? s.heap.objs.size = some (freshSet w) := Heap.get?_push_size _ rfl
      have hT : Shared.TypeIs { s with heap := s.heap.push (freshSet w) } (.ref s.heap.objs.size) "set" := ⟨_, hS, rfl⟩
      have hli := PySem.F.called_set.init.lookup
      have hbi := PySem.F.called_set.init.bind (.ref s.heap.objs.size)
      repeat (any_goals (first | assumption | wp_step))
      refine codeAny_mono (codeAny_call_builtin (R := wants (fun r s₂ => r = .none ∧ Q (.ref s.heap.objs.size) s₂) E) PySem.F.called_set.init.plain PySem.F.entry_set_init (check_set_init hT ?_)) fun r₂ s₂ hr₂ => ?_
      · unfold Builtin.«set.__init__» noKeywords
        wp_walk
        exact ⟨rfl, h⟩
      · cases r₂ with
        | error e => exact hr₂
        | ok fl₂ =>
          cases fl₂ with
          | ret r =>
            obtain ⟨rfl, hq⟩ := hr₂
            repeat (any_goals (first | assumption | wp_step))
          | _ => exact hr₂.elim
    | _ => exact hr.elim

theorem PendAt.new {h : Heap} : PendAt w (h.push (freshSet w)) h.objs.size [] :=
  ⟨#[], 0, _, Heap.get?_push_size _ rfl, ⟨rfl, rfl, rfl, .inl ⟨rfl, by simp⟩⟩, fun _ _ hx => by simp at hx, fun _ he => by simp at he, fun _ hx => by simp at hx, by simp⟩

theorem byText_ok {Q : Bool → Shared → Prop} (h : Q (w.params.followText "set-order") s) : wpAny (model prog w) A setsByText Q E s := by
  unfold setsByText
  exact wpAny_bind (wpAny_askSetting (wpAny_pure h))

theorem drawn_not {es : Array (Int × Value)} {t : SetTable} (h : t.plain = true ∨ es.size ≤ 1) : (!t.plain && decide (es.size > 1)) = false := by
  rcases h with h | h
  · rw [h]; rfl
  · simp; omega

/-- what a walk over the set gives -/
theorem walk_ok {a : Addr} {es : Array (Int × Value)} {ep : Nat} {t : SetTable} {Q : Array (Int × Value) → Shared → Prop} (ho : s.heap.get? a = some { cls := .type "set", dict := none, data := .set es ep t }) (hf : TabOk w t es.size)
    (hk : w.params.followText "set-order" = true ∨ t.plain = true ∨ es.size ≤ 1) (h : ∀ r, (w.params.followText "set-order" = true → r = pickOrder (w.params.setOrder a ep) es) → Q r s) : wpAny (model prog w) A (setWalk a) Q E s := by
  unfold setWalk
  refine wpAny_bind (setState_ok ho rfl hf ?_)
  dsimp only
  refine wpAny_bind (byText_ok ?_)
  by_cases hb : w.params.followText "set-order" = true
  · rw [if_pos hb]
    exact wpAny_bind (wpAny_askSetting (wpAny_pure (h _ fun _ => rfl)))
  · rw [if_neg hb]
    have hd := drawn_not (hk.resolve_left hb)
    have hl : (!t.led && decide (es.size > 1)) = false := by rw [hf.led]; simp [hb]
    have fin : wpAny (model prog w) A (if (!t.led && decide (es.size > 1)) = true then unsupported "set:maker-not-led" else pure ()) (fun _ s' => wpAny (model prog w) A (pure es) Q E s') E s := by
      rw [hl]
      simp only [Bool.false_eq_true, if_false]
      exact wpAny_pure (wpAny_pure (h _ fun q => absurd q hb))
    split
    · rename_i q
      have q' : (!t.plain && decide (es.size > 1)) = true := q
      rw [hd] at q'; cases q'
    · exact wpAny_bind fin

theorem wpAny_choose {src : Source} {n : Nat} {Q : Nat → Shared → Prop} (hn : n ≠ 0) (h : ∀ i d, i < n → Q i { s with drawn := d }) : wpAny (model prog w) A (choose src n) Q E s :=
  fun _ _ _ => ⟨hn, h _ _ (Nat.mod_lt _ (Nat.pos_of_ne_zero hn))⟩
theorem eraseIdx_perm {α : Type} : ∀ (xs : List α) (i : Nat) (x : α), xs[i]? = some x → (x :: xs.eraseIdx i).Perm xs
  | [], i, x, h => by simp at h
  | y :: ys, 0, x, h => by
    have : y = x := by simpa using h
    subst this
    simp
  | y :: ys, i + 1, x, h => by
    have ih := eraseIdx_perm ys i x (by simpa using h)
    rw [List.eraseIdx_cons_succ]
    exact (List.Perm.swap y x _).trans (List.Perm.cons y ih)
theorem draw_ok {α : Type} : ∀ (n : Nat) (xs : List α) (s : Shared) (Q : List α → Shared → Prop), n = xs.length → (∀ r d, r.Perm xs → Q r { s with drawn := d }) → wpAny (model prog w) A (drawOrder n xs) Q E s
  | 0, [], s, Q, _, h => wpAny_pure (h [] s.drawn (List.Perm.refl _))
  | n + 1, [], s, Q, hn, h => by simp at hn
  | 0, _ :: _, s, Q, hn, h => by simp at hn
  | n + 1, x :: xs, s, Q, hn, h => by
    unfold drawOrder
    refine wpAny_bind (wpAny_choose (by simp) fun i d hi => ?_)
    have e : (x :: xs)[i]? = some (x :: xs)[i] := List.getElem?_eq_getElem hi
    rw [e]
    dsimp only
    refine wpAny_bind (draw_ok n ((x :: xs).eraseIdx i) _ _ ?_ fun r d' hp => ?_)
    · rw [List.length_eraseIdx, if_pos hi]; omega
    · exact wpAny_pure (h _ d' ((List.Perm.cons _ hp).trans (eraseIdx_perm _ _ _ e)))
theorem pick_go {α : Type} (next : Nat → Nat) : ∀ (fuel k : Nat) (left : List α) (out : Array α), fuel = left.length → (pickOrder.go next fuel k left out).toList.Perm (out.toList ++ left)
  | 0, k, left, out, h => by
    have : left = [] := List.eq_nil_of_length_eq_zero h.symm
    subst this
    simp [pickOrder.go]
  | fuel + 1, k, left, out, h => by
    unfold pickOrder.go
    have hlt : next k % left.length < left.length := Nat.mod_lt _ (by omega)
    have e : left[next k % left.length]? = some left[next k % left.length] := List.getElem?_eq_getElem hlt
    rw [e]
    dsimp only
    refine (pick_go next fuel (k + 1) _ _ ?_).trans ?_
    · rw [List.length_eraseIdx, if_pos hlt]; omega
    · rw [Array.toList_push, List.append_assoc]
      exact List.Perm.append_left _ (eraseIdx_perm _ _ _ e)
theorem pick_perm {α : Type} (next : Nat → Nat) (xs : Array α) : (pickOrder next xs).toList.Perm xs.toList := by
  unfold pickOrder
  exact (pick_go next xs.size 0 xs.toList #[] (by simp)).trans (by simp)
end

set_option maxRecDepth 100000 in
theorem slot_setiter_next : Slot "set_iterator" "__next__" "set_iterator.__next__" :=
  .of (owner := "set_iterator") (n := "__next__") (by rw [typeLookup_type, builtinLookup_eq_fast]; kernel_rfl) (by decide +kernel) (by decide +kernel) (by decide +kernel)
    (by first | exact .inl (by decide +kernel) | exact .inr (by decide +kernel)) (by rw [isSubtype_type]; kernel_rfl)
theorem entry_setiter_next : entryFor table "set_iterator.__next__" = some Builtin.«set_iterator.__next__» := entryFor_of_tree (by kernel_rfl)
theorem args_setiter_next (a : Value) : argsOk "set_iterator.__next__" ⟨[a], []⟩ := by unfold argsOk; kernel_rfl
theorem entry_set_iter : entryFor table "set.__iter__" = some Builtin.«frozenset.__iter__» :=
  entryFor_alias (id' := "frozenset.__iter__") (by rw [fastTable_eq_tree]; kernel_rfl) rfl (by decide +kernel) (by rw [fastTable_eq_tree]; kernel_rfl)

section
variable {prog : Program} {w : World} {A : Around} {E : Value → Shared → Prop} {s : Shared}
theorem known_ok {a : Addr} {es : Array (Int × Value)} {ep : Nat} {t : SetTable} {Q : Bool → Shared → Prop} (ho : s.heap.get? a = some { cls := .type "set", dict := none, data := .set es ep t }) (hf : TabOk w t es.size)
    (h : ∀ b, (b = true → w.params.followText "set-order" = true ∨ t.plain = true ∨ es.size ≤ 1) → Q b s) : wpAny (model prog w) A (setDeathsKnown a) Q E s := by
  unfold setDeathsKnown
  refine wpAny_bind (setState_ok ho rfl hf ?_)
  dsimp only
  refine wpAny_bind (byText_ok (wpAny_pure (h _ fun q => ?_)))
  simp only [Bool.or_eq_true, Bool.and_eq_true, decide_eq_true_eq] at q
  rcases q with (q | q) | q
  · exact .inl q
  · exact .inr (.inl q.2)
  · exact .inr (.inr q)
theorem pend_clear {a : Addr} {l : List (Way × Int)} {Q : Value → Shared → Prop} (hP : PendAt w s.heap a l)
    (h : ∀ h', PendAt w h' a [] → Heap.SameBut a s.heap h' → Q .none { s with heap := h' }) : wpAny (model prog w) A (call (.builtin "set.clear") [.ref a]) Q E s := by
  have hT := hP.typeIs
  obtain ⟨es, ep, t, ho, hf, hpl, hall, hl, hn⟩ := hP
  refine wpAny_call_entry PySem.F.slot_set_clear hT PySem.F.entry_set_clear ?_ (PySem.F.args_set_clear_1 _)
  unfold Builtin.«set.clear» Builtin.Frozenset.noArgs
  simp only [List.isEmpty_nil, bind_assoc]
  unfold Builtin.Frozenset.addrOf Builtin.Frozenset.clearAll
  refine wpAny_bind (wpAny_pure ?_)
  refine wpAny_bind ?_
  have hend : ∀ t', TabOk w t' 0 → wpAny (model prog w) A.in1 (ret Value.none) (fun fin s' => ∃ v, fin = .done (.ret v) ∧ Q v s') E { s with heap := s.heap.update a (Obj.putSet #[] t') } := fun t' ht' =>
    wpAny_pure ⟨_, rfl, h _ ⟨#[], ep + 1, t', Heap.get?_update_self (Obj.putSet #[] t') ho rfl, ht', fun _ _ hx => by simp at hx, fun _ he => by simp at he, fun _ hx => by simp at hx, by simp⟩ (Heap.SameBut.update ..)⟩
  have hok : TabOk w (t.cleared (!w.params.followText "set-order" && (t.led || t.finger == 0))) 0 := by
    refine ⟨rfl, rfl, ?_, .inl ⟨rfl, by simp⟩⟩
    show (!w.params.followText "set-order" && (t.led || t.finger == 0)) = _
    rw [hf.led]
    cases w.params.followText "set-order" <;> rfl
  refine wpAny_bind ?_
  unfold setClear
  refine wpAny_bind (known_ok ho hf fun b hb => ?_)
  cases b with
  | true =>
    simp only [if_true]
    refine wpAny_bind ?_
    unfold setItems
    refine wpAny_bind (walk_ok ho hf (hb rfl) fun r _ => ?_)
    refine wpAny_pure (wpAny_bind (wpAny_pure ?_))
    refine wpAny_bind (setState_ok ho rfl hf ?_)
    refine wpAny_bind (byText_ok ?_)
    refine wpAny_bind (wpAny_storeSet_of ho rfl (wpAny_pure ?_) (by simp))
    exact wpAny_letGo (hend _ hok)
  | false =>
    simp only [Bool.false_eq_true, if_false]
    refine wpAny_bind (wpAny_pure ?_)
    refine wpAny_bind (setState_ok ho rfl hf ?_)
    refine wpAny_bind (byText_ok ?_)
    refine wpAny_bind (wpAny_storeSet_of ho rfl (wpAny_pure ?_) (by simp))
    exact wpAny_point (hend _ hok)
end
end Mine
-- MY
namespace Mine

noncomputable def SetIt (h : Heap) (I a : Addr) (first : Value) (i n ep : Nat) : Prop := h.get? I = some { cls := .type "set_iterator", data := .fields #[first, .int i 0, .ref a, .int n 0, .int ep 0] }

section
variable {prog : Program} {w : World} {A : Around} {E : Value → Shared → Prop} {s : Shared}
theorem drawn_ok {a : Addr} {es : Array (Int × Value)} {ep : Nat} {t : SetTable} {Q : Bool → Shared → Prop} (ho : s.heap.get? a = some { cls := .type "set", dict := none, data := .set es ep t }) (hf : TabOk w t es.size)
    (h : Q (!w.params.followText "set-order" && (!t.plain && decide (es.size > 1))) s) : wpAny (model prog w) A (setDrawn a) Q E s := by
  unfold setDrawn
  refine wpAny_bind (setState_ok ho rfl hf ?_)
  exact wpAny_bind (byText_ok (wpAny_pure h))

/-- what is first in the iterator, and the order in which it gives the elements -/
noncomputable def Order (w : World) (h : Heap) (a : Addr) (es : Array (Int × Value)) (ep : Nat) (t : SetTable) (first : Value) (ord : List (Int × Value)) : Prop :=
  (w.params.followText "set-order" = true ∧ first = .int 0 0 ∧ ord = (pickOrder (w.params.setOrder a ep) es).toList) ∨
  (w.params.followText "set-order" = false ∧ ∃ (T : Addr) (places : List Nat), first = .ref T ∧ IsTup h T (places.map fun (k : Nat) => Value.int k 0).toArray ∧ places.Perm (List.range es.size) ∧ ord = places.map fun k => (es[k]?).getD (0, .none))

theorem Order.perm {h : Heap} {a : Addr} {es : Array (Int × Value)} {ep : Nat} {t : SetTable} {first : Value} {ord : List (Int × Value)} (x : Order w h a es ep t first ord) : ord.Perm es.toList := by
  rcases x with ⟨_, _, rfl⟩ | ⟨_, T, places, _, _, hp, rfl⟩
  · exact pick_perm _ _
  · refine (hp.map _).trans (List.Perm.of_eq ?_)
    refine List.ext_getElem? fun j => ?_
    rw [List.getElem?_map]
    by_cases hj : j < es.size
    · rw [List.getElem?_range hj, List.getElem?_eq_getElem (by simpa using hj)]; simp [hj]
    · rw [List.getElem?_eq_none (by simp; omega), List.getElem?_eq_none (by simp; omega)]; rfl

theorem set_iter {a : Addr} {es : Array (Int × Value)} {ep : Nat} {t : SetTable} {Q : Value → Shared → Prop} (ho : s.heap.get? a = some { cls := .type "set", dict := none, data := .set es ep t }) (hf : TabOk w t es.size)
    (h : ∀ h' d I first, s.heap.StaysIn h' → s.heap.get? I = none → s.heap.objs.size ≤ I → SetIt h' I a first 0 es.size ep →
      ((∃ ord, Order w h' a es ep t first ord) ∨ (w.params.followText "set-order" = false ∧ first = .int 0 0 ∧ (t.plain = true ∨ es.size ≤ 1))) → Q (.ref I) { s with heap := h', drawn := d }) :
    wpAny (model prog w) A (pyIter (.ref a)) Q E s := by
  have hT : s.TypeIs (.ref a) "set" := ⟨_, ho, rfl⟩
  refine wpAny_pyIter_slot hT PySem.F.slot_set_iter (wpAny_call_entry PySem.F.slot_set_iter hT entry_set_iter ?_ (PySem.F.args_set_iter_1 _))
  unfold Builtin.«frozenset.__iter__»
  show wpAny _ _ (Builtin.Frozenset.sizeOf a >>= _) _ _ s
  refine wpAny_bind ?_
  unfold Builtin.Frozenset.sizeOf setEntries
  refine wpAny_bind (wpAny_bind (setState_ok ho rfl hf (wpAny_pure (wpAny_pure ?_))))
  refine wpAny_bind (drawn_ok ho hf ?_)
  have fin : ∀ (s₁ : Shared) (first : Value) d, s₁ = { s with heap := s₁.heap, drawn := d } → s.heap.StaysIn s₁.heap → s.heap.objs.size ≤ s₁.heap.objs.size →
      ((∃ ord, Order w s₁.heap a es ep t first ord) ∨ (w.params.followText "set-order" = false ∧ first = .int 0 0 ∧ (t.plain = true ∨ es.size ≤ 1))) →
      wpAny (model prog w) A.in1 (do ret (← newFields "set_iterator" [first, rawInt 0, .ref a, rawInt es.size, rawInt (← setEpoch a)])) (fun fin s' => ∃ v, fin = .done (.ret v) ∧ ∃ T m, s'.TypeIs v T ∧ typeLookup (.type T) "__next__" = pure (some m) ∧ Q v s') E s₁ := fun s₁ first d es₁ k₁ ksz hor => by
    have ho₁ := k₁ _ _ ho
    refine wpAny_bind ?_
    unfold setEpoch
    refine wpAny_bind (setState_ok ho₁ rfl hf (wpAny_pure ?_))
    refine wpAny_bind (m := newFields "set_iterator" [first, rawInt 0, .ref a, rawInt es.size, rawInt ep]) (wpAny_newObj_type (wpAny_pure ⟨_, rfl, "set_iterator", _, ⟨_, Heap.get?_push_size _ rfl, rfl⟩, slot_setiter_next.lookup, ?_⟩))
    have := h (s₁.heap.push { cls := .type "set_iterator", data := .fields #[first, .int 0 0, .ref a, .int es.size 0, .int ep 0] }) d s₁.heap.objs.size first (fun b o e => Heap.get?_push_of_some _ (k₁ b o e)) (get_fresh ksz) ksz (Heap.get?_push_size _ rfl) ?_
    · rw [es₁]
      exact this
    · rcases hor with ⟨ord, hx⟩ | hx
      · refine .inl ⟨ord, ?_⟩
        rcases hx with hx | ⟨x1, T, places, x2, x3, x4⟩
        · exact .inl hx
        · exact .inr ⟨x1, T, places, x2, x3.keeps fun _ _ e => Heap.get?_push_of_some _ e, x4⟩
      · exact .inr hx
  dsimp only
  by_cases hc : (!w.params.followText "set-order" && (!t.plain && decide (es.size > 1))) = true
  · rw [if_pos hc]
    have hbt : w.params.followText "set-order" = false := by simp only [Bool.and_eq_true, Bool.not_eq_true'] at hc; exact hc.1
    refine wpAny_bind (draw_ok _ _ _ _ (by simp) fun places d hp => ?_)
    simp only [newTuple]
    have hlen : places.length = es.size := by rw [hp.length_eq]; simp
    refine wpAny_bind (wpAny_newObj_type ?_ (by show (List.map (fun (i : Nat) => rawInt i) places).toArray.size ≤ sizeLine; rw [List.size_toArray, List.length_map, hlen, sizeLine_is]; have := hf.less; have := hf.small; omega))
    refine fin _ (.ref s.heap.objs.size) d rfl (fun b o e => Heap.get?_push_of_some _ e) (by simp) (.inl ⟨_, .inr ⟨hbt, s.heap.objs.size, places, rfl, IsTup.new .., hp, rfl⟩⟩)
  · rw [if_neg hc]
    refine wpAny_bind (wpAny_pure ?_)
    refine fin s (.int 0 0) s.drawn rfl (fun _ _ e => e) (Nat.le_refl _) ?_
    cases hbt : w.params.followText "set-order" with
    | true => exact .inl ⟨_, .inl ⟨hbt, rfl, rfl⟩⟩
    | false =>
      refine .inr ⟨rfl, rfl, ?_⟩
      rw [hbt] at hc
      cases hpl : t.plain with
      | true => exact .inl rfl
      | false => rw [hpl] at hc; right; simpa using hc
end
end Mine
-- MZ
namespace Mine

section
variable {prog : Program} {w : World} {A : Around} {E : Value → Shared → Prop} {s : Shared}
theorem SetIt.typeIs {I a : Addr} {first : Value} {i n ep : Nat} (x : SetIt s.heap I a first i n ep) : s.TypeIs (.ref I) "set_iterator" := ⟨_, x, rfl⟩

theorem setIt_step {h : Heap} {I a : Addr} {first : Value} {i n ep : Nat} (hit : SetIt h I a first i n ep) : SetIt (h.update I (Obj.mapFields (·.setIfInBounds 1 (rawInt ((i : Int) + 1))))) I a first (i + 1) n ep := by
  have := Heap.get?_update_self (Obj.mapFields (·.setIfInBounds 1 (rawInt ((i : Int) + 1)))) hit rfl
  unfold SetIt
  rw [this]
  simp [Obj.mapFields, rawInt]
theorem setIt_first {h : Heap} {I a : Addr} {first v : Value} {i n ep : Nat} (hit : SetIt h I a first i n ep) : SetIt (h.update I (Obj.mapFields (·.setIfInBounds 0 v))) I a v i n ep := by
  have := Heap.get?_update_self (Obj.mapFields (·.setIfInBounds 0 v)) hit rfl
  unfold SetIt
  rw [this]
  simp [Obj.mapFields]

theorem setNext_text {a : Addr} {slot i ep : Nat} {es : Array (Int × Value)} {t : SetTable} {Q : Option (Value × Nat) → Shared → Prop}
    (ho : s.heap.get? a = some { cls := .type "set", dict := none, data := .set es ep t }) (hf : TabOk w t es.size) (hb : w.params.followText "set-order" = true)
    (h : Q (((pickOrder (w.params.setOrder a ep) es)[i]?).map fun e => (e.2, slot)) s) : wpAny (model prog w) A (setNext a slot i ep) Q E s := by
  unfold setNext
  refine wpAny_bind (setState_ok ho rfl hf ?_)
  dsimp only
  refine wpAny_bind (byText_ok ?_)
  rw [if_pos hb]
  simp only [bne_self_eq_false, Bool.false_eq_true, if_false]
  refine wpAny_bind (walk_ok ho hf (.inl hb) fun r hr => ?_)
  rw [hr hb]
  exact wpAny_pure h
theorem setNext_slots {a : Addr} {slot i ep : Nat} {es : Array (Int × Value)} {t : SetTable} {Q : Option (Value × Nat) → Shared → Prop}
    (ho : s.heap.get? a = some { cls := .type "set", dict := none, data := .set es ep t }) (hf : TabOk w t es.size) (hb : w.params.followText "set-order" = false) (hp : t.plain = true ∨ es.size ≤ 1)
    (h : Q (match es[SetTable.below t.place slot]?, t.place[SetTable.below t.place slot]? with | some (_, x), some j => some (x, j + 1) | _, _ => none) s) : wpAny (model prog w) A (setNext a slot i ep) Q E s := by
  unfold setNext
  refine wpAny_bind (setState_ok ho rfl hf ?_)
  dsimp only
  refine wpAny_bind (byText_ok ?_)
  rw [if_neg (by rw [hb]; simp)]
  have hd := drawn_not hp
  have hl : (!t.led && !es.isEmpty) = false := by rw [hf.led, hb]; simp
  have fin : wpAny (model prog w) A (if (!t.led && !es.isEmpty) = true then unsupported "set:maker-not-led" else pure ()) (fun _ s' => s' = s) E s := by
    rw [hl]
    simp only [Bool.false_eq_true, if_false]
    exact wpAny_pure rfl
  split
  · rename_i q
    have q' : (!t.plain && decide (es.size > 1)) = true := q
    rw [hd] at q'; cases q'
  · refine wpAny_bind (wpAny_mono fin (fun _ s' e => ?_) fun _ _ e => e)
    subst e
    exact wpAny_pure h

theorem next_item {I a : Addr} {first : Value} {i ep : Nat} {es : Array (Int × Value)} {t : SetTable} {ord : List (Int × Value)} {e : Int × Value} {Q : Option Value → Shared → Prop} (hit : SetIt s.heap I a first i es.size ep)
    (ho : s.heap.get? a = some { cls := .type "set", dict := none, data := .set es ep t }) (hf : TabOk w t es.size) (hord : Order w s.heap a es ep t first ord) (he : ord[i]? = some e)
    (hQ : ∀ h', SetIt h' I a first (i + 1) es.size ep → Heap.SameBut I s.heap h' → Q (some e.2) { s with heap := h' }) : wpAny (model prog w) A (pyNext (.ref I)) Q E s := by
  unfold pyNext
  refine wpAny_bind (wpAny_attempt (wpAny_callSpecial?_slot (name := PySem.Str.ofString "__next__") hit.typeIs slot_setiter_next
    (wpAny_call_entry slot_setiter_next hit.typeIs entry_setiter_next ?_ (args_setiter_next _))))
  unfold Builtin.«set_iterator.__next__»
  show wpAny _ _ (fieldsOf (.ref I) >>= _) _ _ s
  refine wpAny_bind (wpAny_fieldsOf hit rfl ?_)
  dsimp only
  refine wpAny_bind (wpAny_setEntries_of ho rfl hf.fits ?_)
  rw [if_neg (by simp)]
  rcases hord with ⟨hb, rfl, rfl⟩ | ⟨hb, T, places, rfl, hT, hp, rfl⟩
  · dsimp only
    refine wpAny_bind (setNext_text ho hf hb ?_)
    rw [show ((i : Int).toNat) = i from Int.toNat_natCast i, show ((ep : Int).toNat) = ep from Int.toNat_natCast ep]
    have he' : (pickOrder (w.params.setOrder a ep) es)[i]? = some e := by rw [← he, Array.getElem?_toList]
    rw [he']
    dsimp only [Option.map]
    refine wpAny_bind (wpAny_setField hit rfl (by simp) ?_)
    have h1 := setIt_first (v := rawInt ((0 : Int).toNat : Int)) hit
    refine wpAny_bind (wpAny_setField h1 rfl (by simp) (wpAny_pure ⟨_, rfl, wpAny_pure (hQ _ (setIt_step h1) ((Heap.SameBut.update ..).trans (Heap.SameBut.update ..)))⟩))
  · dsimp only
    obtain ⟨oT, hoT, _, nT, hdT⟩ := hT
    refine wpAny_bind (wpAny_seqItems hoT hdT ?_)
    dsimp only
    rw [show ((i : Int).toNat) = i from Int.toNat_natCast i]
    rw [List.getElem?_map] at he
    cases hpl : places[i]? with
    | none => rw [hpl] at he; cases he
    | some k =>
      rw [hpl] at he
      have hk : k < es.size := List.mem_range.mp (hp.mem_iff.mp (List.mem_of_getElem? hpl))
      have hee : es[k] = e := by simpa [hk] using he
      have hpi : ((places.map fun (k : Nat) => Value.int k 0).toArray)[i]? = some (.int k 0) := by simp [hpl]
      rw [hpi]
      dsimp only
      refine wpAny_bind ?_
      unfold setNextDrawn
      refine wpAny_bind (setState_ok ho rfl hf ?_)
      dsimp only
      rw [if_neg (by simp)]
      rw [show ((k : Int).toNat) = k from Int.toNat_natCast k, Array.getElem?_eq_getElem hk, hee]
      dsimp only
      refine wpAny_pure (wpAny_bind (wpAny_setField hit rfl (by simp) (wpAny_pure ⟨_, rfl, wpAny_pure (hQ _ (setIt_step hit) (Heap.SameBut.update ..))⟩)))

theorem stop_end {I : Addr} {h₀ : Heap} {Q : Option Value → Shared → Prop} (hh : Hok A s.heap) (hx : Heap.ExtBut I h₀ s.heap) (hQ : ∀ h', Heap.ExtBut I h₀ h' → Q none { s with heap := h' }) :
    wpAny (model prog w) A.in1 (do let e ← newExc (.type "StopIteration") []; (raiseNew e : Sem Fin)) (fun fin s' => ∃ r, fin = .done (.ret r) ∧ wpAny (model prog w) A (pure (some r)) Q E s')
      (fun e s' => wpAny (model prog w) A (do if ← isInstance e (.type "StopIteration") then pure none else throw e) Q E s') s :=
  stop_raise hh fun h' e o hk he hc => caught_stop he hc (hQ _ fun b o hb e' => hk b o (hx b o hb e'))
theorem next_end {I a : Addr} {first : Value} {i ep : Nat} {es : Array (Int × Value)} {t : SetTable} {ord : List (Int × Value)} {Q : Option Value → Shared → Prop} (hh : Hok A s.heap) (hI : I ∉ hadr A) (hit : SetIt s.heap I a first i es.size ep)
    (ho : s.heap.get? a = some { cls := .type "set", dict := none, data := .set es ep t }) (hf : TabOk w t es.size) (hord : Order w s.heap a es ep t first ord) (he : ord[i]? = none)
    (hQ : ∀ h', Heap.ExtBut I s.heap h' → Q none { s with heap := h' }) : wpAny (model prog w) A (pyNext (.ref I)) Q E s := by
  unfold pyNext
  refine wpAny_bind (wpAny_attempt (wpAny_callSpecial?_slot (name := PySem.Str.ofString "__next__") hit.typeIs slot_setiter_next
    (wpAny_call_entry slot_setiter_next hit.typeIs entry_setiter_next ?_ (args_setiter_next _))))
  unfold Builtin.«set_iterator.__next__»
  show wpAny _ _ (fieldsOf (.ref I) >>= _) _ _ s
  refine wpAny_bind (wpAny_fieldsOf hit rfl ?_)
  dsimp only
  refine wpAny_bind (wpAny_setEntries_of ho rfl hf.fits ?_)
  rw [if_neg (by simp)]
  rcases hord with ⟨hb, rfl, rfl⟩ | ⟨hb, T, places, rfl, hT, hp, rfl⟩
  · dsimp only
    refine wpAny_bind (setNext_text ho hf hb ?_)
    rw [show ((i : Int).toNat) = i from Int.toNat_natCast i, show ((ep : Int).toNat) = ep from Int.toNat_natCast ep]
    have he' : (pickOrder (w.params.setOrder a ep) es)[i]? = none := by rw [← he, Array.getElem?_toList]
    rw [he']
    dsimp only [Option.map]
    refine wpAny_bind (wpAny_setField hit rfl (by simp) ?_)
    exact stop_end (hh.frame fun b hb o e => (Heap.get?_update_other _ _ (fun q => hI (by subst q; exact hb))).trans e) (Heap.SameBut.update ..).extBut hQ
  · dsimp only
    obtain ⟨oT, hoT, _, nT, hdT⟩ := hT
    refine wpAny_bind (wpAny_seqItems hoT hdT ?_)
    dsimp only
    rw [show ((i : Int).toNat) = i from Int.toNat_natCast i]
    have hpl : places[i]? = none := by simpa using he
    have hpi : ((places.map fun (k : Nat) => Value.int k 0).toArray)[i]? = none := by simpa using hpl
    rw [hpi]
    dsimp only
    refine wpAny_bind (wpAny_setField hit rfl (by simp) ?_)
    have h1 := setIt_first (v := rawInt (0 : Int)) hit
    refine wpAny_bind (wpAny_setField h1 rfl (by simp) ?_)
    exact stop_end (hh.frame fun b hb o e => (Heap.get?_update_other _ _ (fun q => hI (by subst q; exact hb))).trans ((Heap.get?_update_other _ _ (fun q => hI (by subst q; exact hb))).trans e)) ((Heap.SameBut.update ..).trans (Heap.SameBut.update ..)).extBut hQ
end
end Mine
-- NA
namespace Mine

theorem below_go0 (xs : Array Nat) : ∀ (fuel hi : Nat), SetTable.below.go xs 0 fuel 0 hi = 0
  | 0, hi => rfl
  | fuel + 1, hi => by
    unfold SetTable.below.go
    split
    · dsimp only
      rw [if_neg (Nat.not_lt_zero _)]
      exact below_go0 xs fuel _
    · rfl
theorem below_zero (xs : Array Nat) : SetTable.below xs 0 = 0 := below_go0 xs _ _
theorem below_one {xs : Array Nat} {j : Nat} (hs : xs.size = 1) (h : xs[0]? = some j) : SetTable.below xs (j + 1) = 1 := by
  unfold SetTable.below
  rw [hs]
  unfold SetTable.below.go
  rw [if_pos (by decide)]
  dsimp only
  rw [Array.getD_eq_getD_getElem?, show (0 + 1) / 2 = 0 from rfl, h]
  rw [if_pos (by simp)]
  rfl

section
variable {prog : Program} {w : World} {A : Around} {E : Value → Shared → Prop} {s : Shared}
theorem next_first {I a : Addr} {n ep : Nat} {es : Array (Int × Value)} {t : SetTable} {e : Int × Value} {j : Nat} {Q : Option Value → Shared → Prop} (hit : SetIt s.heap I a (.int 0 0) 0 es.size ep)
    (ho : s.heap.get? a = some { cls := .type "set", dict := none, data := .set es ep t }) (hf : TabOk w t es.size) (hb : w.params.followText "set-order" = false) (hp : t.plain = true ∨ es.size ≤ 1) (he : es[0]? = some e) (hj : t.place[0]? = some j)
    (hQ : ∀ h', SetIt h' I a (.int (j + 1 : Nat) 0) 1 es.size ep → Heap.SameBut I s.heap h' → Q (some e.2) { s with heap := h' }) : wpAny (model prog w) A (pyNext (.ref I)) Q E s := by
  unfold pyNext
  refine wpAny_bind (wpAny_attempt (wpAny_callSpecial?_slot (name := PySem.Str.ofString "__next__") hit.typeIs slot_setiter_next
    (wpAny_call_entry slot_setiter_next hit.typeIs entry_setiter_next ?_ (args_setiter_next _))))
  unfold Builtin.«set_iterator.__next__»
  show wpAny _ _ (fieldsOf (.ref I) >>= _) _ _ s
  refine wpAny_bind (wpAny_fieldsOf hit rfl ?_)
  dsimp only
  refine wpAny_bind (wpAny_setEntries_of ho rfl hf.fits ?_)
  rw [if_neg (by simp)]
  refine wpAny_bind (setNext_slots ho hf hb hp ?_)
  rw [show ((0 : Int).toNat) = 0 from rfl, below_zero, he, hj]
  dsimp only
  refine wpAny_bind (wpAny_setField hit rfl (by simp) ?_)
  have h1 := setIt_first (v := rawInt ((j + 1 : Nat) : Int)) hit
  refine wpAny_bind (wpAny_setField h1 rfl (by simp) (wpAny_pure ⟨_, rfl, wpAny_pure (hQ _ (setIt_step h1) ((Heap.SameBut.update ..).trans (Heap.SameBut.update ..)))⟩))
theorem next_over {I a : Addr} {slot i ep : Nat} {es : Array (Int × Value)} {t : SetTable} {Q : Option Value → Shared → Prop} (hh : Hok A s.heap) (hI : I ∉ hadr A) (hit : SetIt s.heap I a (.int (slot : Nat) 0) i es.size ep)
    (ho : s.heap.get? a = some { cls := .type "set", dict := none, data := .set es ep t }) (hf : TabOk w t es.size) (hb : w.params.followText "set-order" = false) (hp : t.plain = true ∨ es.size ≤ 1) (he : es[SetTable.below t.place slot]? = none)
    (hQ : ∀ h', Heap.ExtBut I s.heap h' → Q none { s with heap := h' }) : wpAny (model prog w) A (pyNext (.ref I)) Q E s := by
  unfold pyNext
  refine wpAny_bind (wpAny_attempt (wpAny_callSpecial?_slot (name := PySem.Str.ofString "__next__") hit.typeIs slot_setiter_next
    (wpAny_call_entry slot_setiter_next hit.typeIs entry_setiter_next ?_ (args_setiter_next _))))
  unfold Builtin.«set_iterator.__next__»
  show wpAny _ _ (fieldsOf (.ref I) >>= _) _ _ s
  refine wpAny_bind (wpAny_fieldsOf hit rfl ?_)
  dsimp only
  refine wpAny_bind (wpAny_setEntries_of ho rfl hf.fits ?_)
  rw [if_neg (by simp)]
  refine wpAny_bind (setNext_slots ho hf hb hp ?_)
  rw [show (((slot : Nat) : Int).toNat) = slot from Int.toNat_natCast slot, he]
  dsimp only
  refine wpAny_bind (wpAny_setField hit rfl (by simp) ?_)
  exact stop_end (hh.frame fun b hb o e => (Heap.get?_update_other _ _ (fun q => hI (by subst q; exact hb))).trans e) (Heap.SameBut.update ..).extBut hQ
end

/-- a walk whose items and end are known -/
structure Steps (prog : Program) (w : World) (A : Around) (I : Addr) (n : Nat) (P : Nat → Value → Prop) (St : Nat → Heap → Prop) : Prop where
  item : ∀ i (s : Shared) (Q : Option Value → Shared → Prop) (E : Value → Shared → Prop), i < n → St i s.heap →
    (∀ v h', P i v → St (i + 1) h' → Heap.ExtBut I s.heap h' → Q (some v) { s with heap := h' }) → wpAny (model prog w) A (pyNext (.ref I)) Q E s
  done : ∀ (s : Shared) (Q : Option Value → Shared → Prop) (E : Value → Shared → Prop), St n s.heap →
    (∀ h', Heap.ExtBut I s.heap h' → Q none { s with heap := h' }) → wpAny (model prog w) A (pyNext (.ref I)) Q E s

section
variable {prog : Program} {w : World} {A : Around} {E : Value → Shared → Prop} {s : Shared} {R : Result → Shared → Prop} {env : Env}
theorem forS {target : PySem.Expr} {body : List Stmt} {I : Addr} {n : Nat} {P : Nat → Value → Prop} {St : Nat → Heap → Prop} (W : Steps prog w A I n P St)
    (hgo : ∀ i (s : Shared) v (Q : Unit → Shared → Prop) (E : Value → Shared → Prop), St i s.heap → Q () s → wpAny (model prog w) A (letOwnedTupleGo target (.ref I) v) Q E s)
    (J : Nat → Shared → Prop) (hst : St 0 s.heap) (h0 : J 0 s)
    (step : ∀ i v s₀ h', i < n → P i v → J i s₀ → St (i + 1) h' → Heap.ExtBut I s₀.heap h' →
      wpAny (model prog w) A (assign target env v) (fun _ s₂ => wpAny (model prog w) A (execs body env) (fun f s₃ => match f with
          | .next | .cont => J (i + 1) s₃ ∧ St (i + 1) s₃.heap
          | .brk => R (.ok .next) s₃
          | .ret v => R (.ok (.ret v)) s₃) (notedBy (model prog w) A env fun e s' => R (.error e) s') s₂) (notedBy (model prog w) A env fun e s' => R (.error e) s') { s₀ with heap := h' })
    (done : ∀ s₀ h', J n s₀ → Heap.ExtBut I s₀.heap h' → R (.ok .next) { s₀ with heap := h' }) :
    codeAny (model prog w) A (.forLoop target (.ref I) body [] env) R s := by
  refine codeAny_forLoop_any (fun k s' => ∃ i, J i s' ∧ St i s'.heap ∧ i ≤ n ∧ k = n + 1 - i) ?_ (n + 1) ⟨0, h0, hst, Nat.zero_le _, rfl⟩
  rintro k s' ⟨i, hJ, hS, hi, rfl⟩
  by_cases hlt : i < n
  · refine W.item i _ _ _ hlt hS fun v h' hP hS' hk => ?_
    refine hgo (i + 1) _ _ _ _ hS' ?_
    refine wpAny_mono (step i v s' h' hlt hP hJ hS' hk) (fun _ s₂ h₂ => wpAny_mono h₂ (fun f s₃ h₃ => ?_) fun _ _ e => e) fun _ _ e => e
    cases f with
    | next => exact ⟨n + 1 - (i + 1), n_step hlt, i + 1, h₃.1, h₃.2, hlt, rfl⟩
    | cont => exact ⟨n + 1 - (i + 1), n_step hlt, i + 1, h₃.1, h₃.2, hlt, rfl⟩
    | brk => exact h₃
    | ret v => exact h₃
  · have : i = n := n_end hi hlt
    subst this
    exact W.done _ _ _ hS fun h' hk => wpAny_execs_nil (done s' h' hJ hk)

/-- the elements of a set, one after another -/
noncomputable def StO (w : World) (I a : Addr) (es : Array (Int × Value)) (ep : Nat) (t : SetTable) (ord : List (Int × Value)) (A : Around) (i : Nat) (h : Heap) : Prop :=
  h.get? a = some { cls := .type "set", dict := none, data := .set es ep t } ∧ Hok A h ∧
  ((∃ first, SetIt h I a first i es.size ep ∧ Order w h a es ep t first ord) ∨
   (w.params.followText "set-order" = false ∧ es.size ≤ 1 ∧ ord = es.toList ∧ ∃ slot : Nat, SetIt h I a (.int slot 0) i es.size ep ∧ (i = 0 → slot = 0) ∧ (i = es.size → es[SetTable.below t.place slot]? = none)))
theorem stO_perm {I a : Addr} {es : Array (Int × Value)} {ep i : Nat} {t : SetTable} {ord : List (Int × Value)} {h : Heap} (x : StO w I a es ep t ord A i h) : ord.Perm es.toList := by
  rcases x.2.2 with ⟨first, _, h⟩ | ⟨_, _, rfl, _⟩
  · exact h.perm
  · exact List.Perm.refl _
theorem stepsSet {I a : Addr} {es : Array (Int × Value)} {ep : Nat} {t : SetTable} {ord : List (Int × Value)} (hf : TabOk w t es.size) (hne : a ≠ I) (hI : I ∉ hadr A) (hperm : ord.Perm es.toList) :
    Steps prog w A I es.size (fun i v => ∃ e, ord[i]? = some e ∧ v = e.2) (StO w I a es ep t ord A) where
  item := fun i s Q E hi st hQ => by
    obtain ⟨ho, hh, st⟩ := st
    have hlen : ord.length = es.size := by rw [hperm.length_eq]; simp
    have keepH : ∀ h', Heap.SameBut I s.heap h' → Hok A h' := fun h' hs => hh.frame fun b hb o e => hs.extBut b o (fun q => hI (q ▸ hb)) e
    rcases st with ⟨first, hit, hord⟩ | ⟨hb, hsz, hoe, slot, hit, hs0, hs1⟩
    · have he : ord[i]? = some ord[i] := List.getElem?_eq_getElem (by omega)
      refine next_item hit ho hf hord he fun h' hit' hs => hQ _ h' ⟨_, he, rfl⟩ ⟨hs.extBut a _ hne ho, keepH h' hs, .inl ⟨first, hit', ?_⟩⟩ hs.extBut
      rcases hord with hx | ⟨x1, T, places, x2, x3, x4⟩
      · exact .inl hx
      · refine .inr ⟨x1, T, places, x2, ?_, x4⟩
        obtain ⟨oT, eT, cT, rT⟩ := x3
        refine ⟨oT, hs.extBut T oT (fun q => ?_) eT, cT, rT⟩
        subst q
        have hit2 : s.heap.get? T = _ := hit
        rw [eT] at hit2; cases hit2
        have cT' : Value.type "set_iterator" = Value.type "tuple" := cT
        exact absurd cT' (by decide)
    · have h1 : i = 0 := by omega
      subst h1
      have h2 : es.size = 1 := by omega
      have hsl := hs0 rfl
      subst hsl
      have he : es[0]? = some es[0] := Array.getElem?_eq_getElem (by omega)
      have hpl := hf.place
      have hj : t.place[0]? = some (t.place[0]'(by omega)) := Array.getElem?_eq_getElem (by omega)
      refine next_first (n := es.size) hit ho hf hb (.inr hsz) he hj fun h' hit' hs => hQ _ h' ⟨es[0], by rw [hoe, Array.getElem?_toList]; exact he, rfl⟩ ⟨hs.extBut a _ hne ho, keepH h' hs, .inr ⟨hb, hsz, hoe, _, hit', fun q => by omega, fun _ => ?_⟩⟩ hs.extBut
      rw [below_one (by rw [hf.place, h2]) hj]
      exact Array.getElem?_eq_none (by omega)
  done := fun s Q E st hQ => by
    obtain ⟨ho, hh, st⟩ := st
    have hlen : ord.length = es.size := by rw [hperm.length_eq]; simp
    rcases st with ⟨first, hit, hord⟩ | ⟨hb, hsz, hoe, slot, hit, hs0, hs1⟩
    · exact next_end hh hI hit ho hf hord (List.getElem?_eq_none (by omega)) hQ
    · exact next_over hh hI hit ho hf hb (.inr hsz) (hs1 rfl) hQ
end
end Mine
-- NB
namespace Mine

section
variable {prog : Program} {w : World} {A : Around} {E : Value → Shared → Prop} {s : Shared} {G : Heap} {L : Addr} {m : PySem.Str → Option Value}

theorem q_method {c : Mc} {name : PySem.Str} {f : Addr} {pl : Sem Bool} {Q : Value × List Value → Shared → Prop} (F : Fq w G L s.heap m) (i : Inst s.heap c) (hg : plainGet (hd.heap_39 w.params) 66 name = true)
    (hf : findIn (hd.heap_39 w.params) (.ref 66) name = some (some (.ref f))) (ht : isFn (hd.heap_39 w.params) (.ref f) = true) (hl : ∀ h1 h2 t1 t2, getL name [⟨h1, .str "_flags" t1, .ref c.root⟩, ⟨h2, .str "_pending_flags" t2, .ref c.pend⟩] = some none)
    (h : Q (.ref f, [.ref c.x]) s) : wpAny (model prog w) A (getMethod (.ref c.x) name pl) Q E s := by
  obtain ⟨sl, h1, h2, t1, t2, n, a, b⟩ := i
  obtain ⟨G0, g, Fr⟩ := F.fr
  exact method_inst (n := n) Fr g.K ⟨a, rfl, rfl, b⟩ hg hf ht (hl ..) h
theorem pg_set (w : World) : plainGet (hd.heap_39 w.params) 66 "set" = true := by kernel_rfl
theorem fi_set (w : World) : findIn (hd.heap_39 w.params) (.ref 66) "set" = some (some (.ref 56)) := by kernel_rfl
theorem fn_set (w : World) : isFn (hd.heap_39 w.params) (.ref 56) = true := by kernel_rfl
theorem kp_set (w : World) : keepIn (hd.heap_39 w.params) (.ref 56) = true := by kernel_rfl
theorem meth_set {c : Mc} {pl : Sem Bool} {Q : Value × List Value → Shared → Prop} (F : Fq w G L s.heap m) (i : Inst s.heap c) (h : Q (.ref 56, [.ref c.x]) s) : wpAny (model prog w) A (getMethod (.ref c.x) "set" pl) Q E s :=
  q_method F i (pg_set w) (fi_set w) (fn_set w) (fun _ _ _ _ => rfl) h
end
end Mine
-- NC
namespace Mine

/-- what a machine turns -/
noncomputable def Area (c : Mc) (M : Tr) (a : Addr) : Prop := Foot c.root M a ∨ a = c.pend
/-- a machine: its marks M, what waits l -/
structure Mach (prog : Program) (w : World) (fs : List Int) (h : Heap) (c : Mc) (M : Tr) (l : List (Way × Int)) : Prop where
  inst : Inst h c
  tree : Tree prog w fs h c.root M
  pend : PendAt w h c.pend l
  offp : ¬ Foot c.root M c.pend
  offd : ¬ Area c M c.dx
  flags : ∀ x ∈ l, x.2 ∈ fs

section
variable {prog : Program} {w : World} {A : Around} {E : Value → Shared → Prop} {s : Shared} {h h' : Heap} {c : Mc} {M : Tr} {l : List (Way × Int)} {fs : List Int}
theorem PendAt.alive {a : Addr} (x : PendAt w h a l) : ∃ o, h.get? a = some o ∧ o.cls = .type "set" := let ⟨_, _, _, ho, _⟩ := x; ⟨_, ho, rfl⟩
theorem Mach.alive (X : Mach prog w fs h c M l) {a : Addr} (ha : Area c M a) : ∃ o, h.get? a = some o ∧ (o.cls = .type "dict" ∨ o.cls = .type "set") := by
  rcases ha with ha | rfl
  · exact X.tree.alive ha
  · obtain ⟨o, e, q⟩ := X.pend.alive; exact ⟨o, e, .inr q⟩
theorem Mach.area_lt (X : Mach prog w fs h c M l) {a : Addr} (ha : Area c M a) : a < h.objs.size := let ⟨_, e, _⟩ := X.alive ha; Heap.lt_size e
theorem Mach.offx (X : Mach prog w fs h c M l) : ¬ Area c M c.x := fun ha => by
  obtain ⟨o, e, hc⟩ := X.alive ha
  obtain ⟨sl, _, _, _, _, _, hx, _⟩ := X.inst
  rw [e] at hx; cases hx
  rcases hc with q | q <;> cases q
theorem Mach.not_tup (X : Mach prog w fs h c M l) {a : Addr} {o : Obj} (ha : Area c M a) (e : h.get? a = some o) : o.cls ≠ .type "tuple" := fun q => by
  obtain ⟨o', e', hc⟩ := X.alive ha
  rw [e] at e'; cases e'
  rw [q] at hc
  exact absurd hc (by decide)
theorem Mach.kept {W : Addr → Prop} (X : Mach prog w fs h c M l) (k : Kept W h h') (hW : ∀ a, W a → ¬ Area c M a ∧ a ≠ c.x ∧ a ≠ c.dx ∧ ∀ o, h.get? a = some o → o.cls ≠ .type "tuple") : Mach prog w fs h' c M l := by
  refine ⟨?_, X.tree.kept k fun a ha q => (hW a q).1 (.inl ha), X.pend.tups (fun o => k _ o fun q => (hW _ q).1 (.inr rfl)) (fun b o hc e => k b o (fun q => (hW b q).2.2.2 o e hc) e), X.offp, X.offd, X.flags⟩
  obtain ⟨sl, h1, h2, t1, t2, n, a, b⟩ := X.inst
  exact ⟨sl, h1, h2, t1, t2, n, k _ _ (fun q => (hW _ q).2.1 rfl) a, k _ _ (fun q => (hW _ q).2.2.1 rfl) b⟩
theorem Mach.keeps (X : Mach prog w fs h c M l) (k : h.StaysIn h') : Mach prog w fs h' c M l := X.kept (W := fun _ => False) (fun b o _ e => k b o e) fun _ q => q.elim

theorem wpAny_callK {f : Value} {pos : List Value} {kw : List (PySem.Str × Value)} {Q : Value → Shared → Prop} (h : codeAny (model prog w) A (.call f ⟨pos, kw⟩) (wants Q E) s) : wpAny (model prog w) A (call f pos kw) Q E s := wpAny_call h

theorem goSet {elts : List PySem.Expr} {k n ep i : Nat} {pos : Pos} {I a : Addr} {first v : Value} {Q : Unit → Shared → Prop} (hit : SetIt s.heap I a first i n ep) (hQ : Q () s) :
    wpAny (model prog w) A (letOwnedTupleGo (.Tuple elts k pos) (.ref I) v) Q E s := by
  cases v with
  | ref T =>
    unfold letOwnedTupleGo
    refine wpAny_bind (wpAny_load hit ?_)
    dsimp only
    rw [if_neg (by
      intro h
      rw [show (["enumerate", "zip", "dict_itemiterator", "dict_reverseitemiterator", "odict_iterator", "itertools.zip_longest", "itertools.pairwise"].contains "set_iterator") = false from by decide, Bool.false_and] at h
      cases h)]
    exact wpAny_pure hQ
  | _ => exact wpAny_pure hQ

theorem pg_addp (w : World) : plainGet (hd.heap_39 w.params) 66 "add_pending" = true := by kernel_rfl
theorem fi_addp (w : World) : findIn (hd.heap_39 w.params) (.ref 66) "add_pending" = some (some (.ref 35)) := by kernel_rfl
theorem fn_addp (w : World) : isFn (hd.heap_39 w.params) (.ref 35) = true := by kernel_rfl
theorem pg_fin (w : World) : plainGet (hd.heap_39 w.params) 66 "finalize_pending" = true := by kernel_rfl
theorem fi_fin (w : World) : findIn (hd.heap_39 w.params) (.ref 66) "finalize_pending" = some (some (.ref 42)) := by kernel_rfl
theorem fn_fin (w : World) : isFn (hd.heap_39 w.params) (.ref 42) = true := by kernel_rfl
theorem pg_is (w : World) : plainGet (hd.heap_39 w.params) 66 "is_" = true := by kernel_rfl
theorem fi_is (w : World) : findIn (hd.heap_39 w.params) (.ref 66) "is_" = some (some (.ref 63)) := by kernel_rfl
theorem fn_is (w : World) : isFn (hd.heap_39 w.params) (.ref 63) = true := by kernel_rfl
theorem pg_unset (w : World) : plainGet (hd.heap_39 w.params) 66 "unset_all" = true := by kernel_rfl
theorem fi_unset (w : World) : findIn (hd.heap_39 w.params) (.ref 66) "unset_all" = some (some (.ref 49)) := by kernel_rfl
theorem fn_unset (w : World) : isFn (hd.heap_39 w.params) (.ref 49) = true := by kernel_rfl
theorem kp_addp (w : World) : keepIn (hd.heap_39 w.params) (.ref 35) = true := by kernel_rfl
theorem kp_fin (w : World) : keepIn (hd.heap_39 w.params) (.ref 42) = true := by kernel_rfl
theorem kp_is (w : World) : keepIn (hd.heap_39 w.params) (.ref 63) = true := by kernel_rfl
theorem kp_unset (w : World) : keepIn (hd.heap_39 w.params) (.ref 49) = true := by kernel_rfl

theorem getMethod_pset {a : Addr} {name : PySem.Str} {id : String} {pl : Sem Bool} {Q : Value × List Value → Shared → Prop} (hP : PendAt w s.heap a l) (slot : Slot "set" name id) (ty : typeOf (.builtin id) = pure (.type "method_descriptor"))
    (h : Q (.builtin id, [.ref a]) s) : wpAny (model prog w) A (getMethod (.ref a) name pl) Q E s := by
  obtain ⟨es, ep, t, ho, _⟩ := hP
  exact getMethod_builtin ⟨_, ho, rfl⟩ PySem.F.plainAttrs_set slot ty (fun b e => by injection e with e; subst e; exact ⟨_, ho, rfl⟩) h
end

section
variable {prog : Program} {w : World} {A : Around} {s : Shared} {G : Heap} {R : Result → Shared → Prop}
set_option maxRecDepth 100000 in
set_option maxHeartbeats 8000000 in
theorem add_spec {fs : List Int} {c : Mc} {M : Tr} {l : List (Way × Int)} {p : Way} {kv : Value} {fl : Int} {t : Tok} (g : Gd w G) (hk : G.StaysIn s.heap) (hroom : A.depth < recursionLimit) (hu : A.units + 20 < cLine)
    (X : Mach prog w fs s.heap c M l) (hw : WayAt s.heap kv p) (hfl : fl ∈ fs) (hlen : l.length + 1 ≤ 76)
    (good : ∀ s', Mach prog w fs s'.heap c M (l ++ [(p, fl)]) → Kept (· = c.pend) s.heap s'.heap → SameX s s' → R (.ok (.ret .none)) s') :
    codeAny (model prog w) A (.call (.ref 35) ⟨[.ref c.x, kv, .int fl t], []⟩) R s := by
  refine enterQ [("self", .ref c.x), ("key", kv), ("flag", .int fl t)] (fun _ => False) g hk (by simp) (f := 35) rfl (by with_unfolding_all rfl) hroom rfl (locs rfl) ?_
  intro L h₁ G₁ tk hLe F sG _ _ S
  have X₁ := X.keeps S
  refine wpAny_execs_cons (wpAny_Expr (MethodCall_ (Attribute_Name_ (q_ld F rfl (get_pend F X₁.inst fun tk₁ => getMethod_pset X₁.pend PySem.F.slot_set_add PySem.F.type_set_add
    (callWith_method1 (args_cons (Tuple_ (args_cons (q_ld F rfl (args_cons (q_ld F rfl (args_nil ?_)))))))))))))
  simp only [newTuple]
  refine wpAny_newObj_type (args_nil ?_) (by size_fits)
  have k₂ : h₁.StaysIn (h₁.push { cls := .type "tuple", data := .seq [kv, Value.int fl t].toArray }) := fun b o e => Heap.get?_push_of_some _ e
  have X₂ := X₁.keeps k₂
  refine pend_add X₂.pend (p := p) (i := fl) ⟨_, kv, t, rfl, IsTup.new .., (hw.keeps S).keeps k₂⟩ (by show A.units + 3 + 8 < cLine; exact u_less (a := A.units) (m := 11) hu (by decide)) hlen fun h₃ tk₃ hP hs => ?_
  refine wpAny_execs_nil (good _ ⟨?_, ?_, hP, X.offp, X.offd, fun x hx => ?_⟩ (fun b o hb e => hs.extBut b o hb (k₂ b o (S b o e))) .refl)
  · obtain ⟨sl, a1, a2, t1, t2, n, a, b⟩ := X₂.inst
    exact ⟨sl, a1, a2, t1, t2, n, hs.extBut _ _ (fun q => X.offx (.inr q)) a, hs.extBut _ _ (fun q => X.offd (.inr q)) b⟩
  · exact X₂.tree.kept (Kept.of_sameBut hs) fun a ha q => X.offp (q ▸ ha)
  · rcases List.mem_append.mp hx with hx | hx
    · exact X.flags x hx
    · rw [List.mem_singleton.mp hx]; exact hfl
end
end Mine
-- ND
namespace Mine

theorem StO.of {w : World} {I a : Addr} {es : Array (Int × Value)} {ep i : Nat} {t : SetTable} {ord : List (Int × Value)} {A : Around} {h h' : Heap} (x : StO w I a es ep t ord A i h)
    (ka : ∀ o, h.get? a = some o → h'.get? a = some o) (kI : ∀ o, h.get? I = some o → h'.get? I = some o) (kt : ∀ b items, IsTup h b items → ∀ o, h.get? b = some o → h'.get? b = some o) (hh : Hok A h') : StO w I a es ep t ord A i h' := by
  obtain ⟨ho, _, st⟩ := x
  refine ⟨ka _ ho, hh, ?_⟩
  rcases st with ⟨first, hit, hord⟩ | ⟨hb, hsz, hoe, slot, hit, r⟩
  · refine .inl ⟨first, kI _ hit, ?_⟩
    rcases hord with hx | ⟨x1, T, places, x2, x3, x4⟩
    · exact .inl hx
    · obtain ⟨oT, eT, cT, rT⟩ := id x3
      exact .inr ⟨x1, T, places, x2, ⟨oT, kt T _ x3 oT eT, cT, rT⟩, x4⟩
  · exact .inr ⟨hb, hsz, hoe, slot, kI _ hit, r⟩

noncomputable abbrev finEnv (L : Addr) : Env := envX "Flags.finalize_pending" { kind := .function, names := [("self", .local), ("key", .local), ("flag", .local)], isGenerator := false, isCoroutine := false } L 42 (.ref 41) []

section
variable {prog : Program} {w : World} {A : Around} {s : Shared} {G : Heap} {R : Result → Shared → Prop} {L f : Addr} {m : PySem.Str → Option Value}

set_option maxHeartbeats 2000000 in
/-- one turn of finalize_pending's loop -/
theorem fin_turn {outer : List Env} {fs : List Int} {c : Mc} {M : Tr} {p : Way} {v : Value} {fl : Int} {p1 p2 p3 p4 p5 p6 p7 p8 q1 q2 q3 : Pos} {k0 k5 : Nat} {Qf : Flow → Shared → Prop} {Ee E1 : Value → Shared → Prop} {pl : Sem Bool}
    (hE : ∀ {α : Type} (t : Sem α) (Q : α → Shared → Prop) (s : Shared), wpAny (model prog w) A t Q (fun e s' => wpAny (model prog w) A (leaving (finEnv L) e) (fun _ s'' => R (.error e) s'') E1 s') s → wpAny (model prog w) A t Q Ee s)
    (F : Fq w G L s.heap m) (hself : m "self" = some (.ref c.x)) (hroom : A.depth < recursionLimit) (hh : A.handled = none) (hF : Fs A (finEnv L :: outer) s.heap) (hi : Inst G c) (hT : Tree prog w fs s.heap c.root M)
    (hpair : PairAt s.heap v p fl) (hfl : fl ∈ fs) (hfs : fs.length ≤ 3) (hGf : ∀ b, Foot c.root M b → G.get? b = none) (hL : ¬ Foot c.root M L)
    (good : p ≠ [] → ∀ s₃ M₃ m₃, Fq w G L s₃.heap m₃ → m₃ "self" = some (.ref c.x) → Tree prog w fs s₃.heap c.root M₃ → (∀ q b' j, V M₃ q b' j ↔ V M q b' j ∨ (q = p ∧ b' = false ∧ j = fl)) → (∀ a, Foot c.root M₃ a → Foot c.root M a ∨ (L < a ∧ s.heap.get? a = none)) →
      Kept (fun b => Foot c.root M b ∨ b = L) s.heap s₃.heap → SameX s s₃ → Qf .next s₃)
    (bad : p = [] → ∀ s₃ e h₂, Flew outer (minusW h₂ (isFrame (finEnv L :: outer))) s₃.heap e → Kept (· = L) s.heap h₂ → h₂.UpToSlots s₃.heap → SameX s s₃ → R (.error (.ref e)) s₃)
    (he : eval (.Call (.Attribute (.Name "self" p1) "set" p2) [.Name "key" p3, .Name "flag" p4] [⟨some "recursive", .Constant (.bool false) k5 p5, p6⟩] p7) (finEnv L) = (do
      let ov ← eval (.Name "self" p1) (finEnv L)
      standAt p2.atName
      let (f, first) ← holding [ov] (getMethod ov "set" pl)
      callWith p7 f first (backTo p7 (starEach [.Name "key" p3, .Name "flag" p4] (finEnv L))) (backToKw p7 (keywordEach [⟨some "recursive", .Constant (.bool false) k5 p5, p6⟩] (finEnv L)))))
    (hs2 : swapsWith (.Call (.Attribute (.Name "self" p1) "set" p2) [.Name "key" p3, .Name "flag" p4] [⟨some "recursive", .Constant (.bool false) k5 p5, p6⟩] p7) none p8.line (finEnv L) = pure false) :
    wpAny (model prog w) A (assign (.Tuple [.Name "key" q1, .Name "flag" q2] k0 q3) (finEnv L) v) (fun _ s₂ => wpAny (model prog w) A (execs
      [.Expr (.Call (.Attribute (.Name "self" p1) "set" p2) [.Name "key" p3, .Name "flag" p4] [⟨some "recursive", .Constant (.bool false) k5 p5, p6⟩] p7) p8] (finEnv L)) Qf Ee s₂) Ee s := by
  obtain ⟨ta, wv, t, rfl, ht, hw⟩ := hpair
  refine q_tup2 (.inl hh) F ht (fun h₂ tk₂ F₂ kp₂ => ?_)
  refine hE _ _ _ ?_
  have T₂ := hT.kept kp₂ fun a ha q => hL (q ▸ ha)
  have hLd : ∀ o, s.heap.get? L = some o → o.cls ≠ .type "tuple" ∨ True := fun _ _ => .inr trivial
  have w₂ : WayAt h₂ wv p := by
    obtain ⟨a, vs, e, htw, r⟩ := hw
    have hne := F.ne_tup htw
    obtain ⟨o, eo, ro⟩ := htw
    exact ⟨a, vs, e, ⟨o, kp₂ a o (Ne.symm hne) eo, ro⟩, r⟩
  have K₂ := F₂.g.K.keeps F₂.keep
  have Fs₂ : Fs A (finEnv L :: outer) h₂ := by
    refine ⟨hF.stack, fun env he => ?_⟩
    rcases List.mem_cons.mp he with rfl | he'
    · obtain ⟨o, es, ep, ho, hd, r⟩ := F₂.ns
      exact ⟨(hF.fr _ (.head _)).1, L, o, rfl, ho, es, ep, hd⟩
    · obtain ⟨a, L', o, b, cc, es, ep, d⟩ := hF.fr env he
      by_cases q : L' = L
      · subst q
        obtain ⟨o', es', ep', ho', hd', r⟩ := F₂.ns
        exact ⟨a, L', o', b, ho', es', ep', hd'⟩
      · exact ⟨a, L', o, b, kp₂ _ _ q cc, es, ep, d⟩
  refine wpAny_execs_cons (wpAny_Expr (methodCall_KW (q_ld F₂ (x := "self") (v := .ref c.x) ?_ (meth_set F₂ (hi.keeps F₂.keep) (callWith_KW K₂ (kp_set w) (by rfl) (args_cons (q_ld F₂ (x := "key") (v := wv) ?_ (args_cons (q_ld F₂ (x := "flag") (v := .int fl t) ?_ (args_nil (kws_cons (wpAny_Constant_bool (kws_nil ⟨K₂, ?_⟩))))))))))) he) (by rfl) hs2)
  · exact hself
  · rfl
  · rfl
  refine wpAny_callK ?_
  refine set_spec (outer := finEnv L :: outer) F₂.g F₂.keep hroom hh Fs₂ (hi.keeps F₂.keep) T₂ w₂ hfl hfs hGf (fun hp s₃ M₃ T₃ V₃ G₃ kp₃ hX => ?_) (fun hp s₃ e fl₃ u hX => ?_)
  · refine wpAny_execs_nil ?_
    have F₃ := F₂.kept kp₃ hL hGf
    refine good hp s₃ M₃ _ F₃ ?_ T₃ V₃ (fun a ha => ?_) (fun b o hb e => kp₃ b o (fun q => hb (.inl q)) (kp₂ b o (fun q => hb (.inr q)) e)) hX
    · exact hself
    · rcases G₃ a ha with z | z
      · exact .inl z
      · refine .inr ⟨Nat.lt_of_lt_of_le F₂.lt z, ?_⟩
        cases q : s.heap.get? a with
        | none => rfl
        | some o => exact absurd (Heap.lt_size (kp₂ a o (fun x => absurd F₂.lt (Nat.not_lt.mpr (x ▸ z))) q)) (Nat.not_lt.mpr z)
  · refine leave_on hF.stack rfl fl₃ fun h₄ fl₄ u₄ => ?_
    exact bad hp { s₃ with heap := h₄ } e h₂ fl₄ kp₂ (u.trans u₄) hX
end
end Mine
-- NE
namespace Mine

theorem WayAt.tups2 {h h' : Heap} {v : Value} {p : Way} (x : WayAt h v p) (k : ∀ b items, IsTup h b items → ∀ o, h.get? b = some o → h'.get? b = some o) : WayAt h' v p := by
  obtain ⟨a, vs, e, ht, r'⟩ := x
  obtain ⟨o, ho, r⟩ := id ht
  exact ⟨a, vs, e, ⟨o, k a _ ht o ho, r⟩, r'⟩
theorem PairAt.tups2 {h h' : Heap} {v : Value} {p : Way} {i : Int} (x : PairAt h v p i) (k : ∀ b items, IsTup h b items → ∀ o, h.get? b = some o → h'.get? b = some o) : PairAt h' v p i := by
  obtain ⟨a, wv, t, e, ht, z⟩ := x
  obtain ⟨o, ho, r⟩ := id ht
  exact ⟨a, wv, t, e, ⟨o, k a _ ht o ho, r⟩, z.tups2 k⟩
theorem PendAt.tups2 {w : World} {h h' : Heap} {a : Addr} {l : List (Way × Int)} (x : PendAt w h a l) (ka : ∀ o, h.get? a = some o → h'.get? a = some o) (k : ∀ b items, IsTup h b items → ∀ o, h.get? b = some o → h'.get? b = some o) : PendAt w h' a l := by
  obtain ⟨es, ep, t, ho, h1, h2, h3, h4, h5⟩ := x
  refine ⟨es, ep, t, ka _ ho, h1, h2, fun e he => ?_, fun x hx => ?_, h5⟩
  · obtain ⟨p, i, y, z⟩ := h3 e he; exact ⟨p, i, y.tups2 k, z⟩
  · obtain ⟨e, he, y⟩ := h4 x hx; exact ⟨e, he, y.tups2 k⟩

theorem V_fin {M M₁ M₃ : Tr} {ord : List (Int × Value)} {h : Heap} {i : Nat} {e : Int × Value} {p : Way} {fl : Int}
    (h1 : ∀ q b j, V M₁ q b j ↔ V M q b j ∨ (b = false ∧ ∃ k e, k < i ∧ ord[k]? = some e ∧ PairAt h e.2 q j)) (he : ord[i]? = some e) (pe : PairAt h e.2 p fl)
    (h3 : ∀ q b j, V M₃ q b j ↔ V M₁ q b j ∨ (q = p ∧ b = false ∧ j = fl)) : ∀ q b j, V M₃ q b j ↔ V M q b j ∨ (b = false ∧ ∃ k e, k < i + 1 ∧ ord[k]? = some e ∧ PairAt h e.2 q j) := fun q b j => by
  rw [h3, h1]
  constructor
  · rintro ((x | ⟨x, k, e', hk, y⟩) | ⟨rfl, rfl, rfl⟩)
    · exact .inl x
    · exact .inr ⟨x, k, e', by omega, y⟩
    · exact .inr ⟨rfl, i, e, by omega, he, pe⟩
  · rintro (x | ⟨x, k, e', hk, y, z⟩)
    · exact .inl (.inl x)
    · by_cases hki : k = i
      · subst hki
        rw [he] at y; cases y
        obtain ⟨rfl, rfl⟩ := pe.inj z
        exact .inr ⟨rfl, x, rfl⟩
      · exact .inl (.inr ⟨x, k, e', by omega, y, z⟩)

section
variable {prog : Program} {w : World} {A : Around} {s : Shared} {G : Heap} {R : Result → Shared → Prop}
set_option maxRecDepth 100000 in
set_option maxHeartbeats 16000000 in
theorem fin_spec {outer : List Env} {fs : List Int} {c : Mc} {M : Tr} {l : List (Way × Int)} (g : Gd w G) (hk : G.StaysIn s.heap) (hroom : A.depth + 1 < recursionLimit) (hh : A.handled = none)
    (hF : Fs A outer s.heap) (X : Mach prog w fs s.heap c M l) (hfs : fs.length ≤ 3) (hGf : ∀ b, Area c M b → G.get? b = none) (hGF : ∀ b, isFrame outer b → G.get? b = none)
    (hFa : ∀ b, isFrame outer b → ¬ Area c M b ∧ b ≠ c.dx)
    (good : (∀ x ∈ l, x.1 ≠ []) → ∀ s' M', Mach prog w fs s'.heap c M' [] → (∀ q b j, V M' q b j ↔ V M q b j ∨ (b = false ∧ (q, j) ∈ l)) → Grow c.root M M' s.heap.objs.size → Kept (Area c M) s.heap s'.heap → SameX s s' →
      R (.ok (.ret .none)) s')
    (bad : (∃ x ∈ l, x.1 = []) → ∀ s' e base M', Flew outer base s'.heap e → Kept (fun b => isFrame outer b ∨ Foot c.root M b) s.heap base → Mach prog w fs base c M' l →
      (∀ q b j, V M q b j → V M' q b j) → (∀ q b j, V M' q b j → V M q b j ∨ (b = false ∧ (q, j) ∈ l)) → Grow c.root M M' s.heap.objs.size →
      (∀ b o, ¬ Foot c.root M b → s.heap.get? b = some o → (∀ vs, o.data ≠ .fields vs) → ∃ sl, s'.heap.get? b = some { o with slots := sl }) → SameX s s' → R (.error (.ref e)) s') :
    codeAny (model prog w) A (.call (.ref 42) ⟨[.ref c.x], []⟩) R s := by
  have hW : ∀ b, (Area c M b ∨ isFrame outer b) → G.get? b = none := fun b hb => hb.elim (hGf b) (hGF b)
  refine enterQ [("self", .ref c.x)] (fun b => Area c M b ∨ isFrame outer b) g hk hW (f := 42) rfl (by with_unfolding_all rfl) (by omega) rfl (locs rfl) ?_
  intro L h₁ G₁ tk hLe F sG hG1 hGW S
  have hL : s.heap.get? L = none := by rw [hLe]; exact fresh_size _
  have hLs : ∀ b o, s.heap.get? b = some o → b ≠ L := fun b o e q => by rw [q, hL] at e; cases e
  have hLF : ¬ isFrame outer L := fun q => by obtain ⟨o, _, _, e, _⟩ := hF.obj q; rw [hL] at e; cases e
  have hLA : ¬ Area c M L := fun q => by obtain ⟨o, e, _⟩ := X.alive q; rw [hL] at e; cases e
  have hiG : Inst G₁ c := by
    obtain ⟨sl, a1, a2, t1, t2, n, a, b⟩ := X.inst
    refine ⟨sl, a1, a2, t1, t2, n, sG _ _ (fun q => ?_) a, sG _ _ (fun q => ?_) b⟩
    · rcases q with q | q
      · exact X.offx q
      · obtain ⟨o, es, ep, e, d⟩ := hF.obj q
        rw [a] at e; cases e; cases d
    · rcases q with q | q
      · exact X.offd q
      · exact (hFa _ q).2 rfl
  have hGf₁ : ∀ a, Foot c.root M a ∨ L ≤ a → G₁.get? a = none := fun a ha => by
    rcases ha with z | z
    · exact hGW a (.inl (.inl z))
    · exact hidden_of hG1 (hLe ▸ z)
  obtain ⟨es, ep, t, ho, hf, hpl, hall, hl, hn⟩ := id X.pend
  refine wpAny_abs ?_; intro Q₀ E₀
  refine wpAny_execs_cons (wpAny_For (Attribute_Name_ (q_ld F rfl (get_pend F (hiG.keeps F.keep) fun tk₁ => ?_))))
  refine set_iter (s := { s with heap := h₁, toks := tk₁ }) (S _ _ ho) hf fun h₂ dr I first k₂ hI hIle hit hord => ?_
  dsimp only at k₂ hI hIle
  have F₂ := F.keeps k₂
  have S₂ : s.heap.StaysIn h₂ := fun b o e => k₂ b o (S b o e)
  have hLI : L < I := Nat.lt_of_lt_of_le F.lt hIle
  have hIp : c.pend ≠ I := fun q => by rw [← q] at hI; rw [S _ _ ho] at hI; cases hI
  have foot_lt : ∀ a, Foot c.root M a → a < L := fun a ha => hLe ▸ X.tree.foot_lt ha
  -- what the running state is
  let Jr : Shared → Tr → Prop := fun s₁ M₁ => (∃ m₁, Fq w G₁ L s₁.heap m₁ ∧ m₁ "self" = some (.ref c.x)) ∧ Tree prog w fs s₁.heap c.root M₁ ∧ Grow c.root M M₁ L ∧ ¬ Foot c.root M₁ L ∧ ¬ Foot c.root M₁ I ∧
    Kept (Foot c.root M) s.heap s₁.heap ∧ SameX s s₁
  have J0 : Jr { s with heap := h₂, drawn := dr, toks := tk₁ } M := ⟨⟨_, F₂, rfl⟩, X.tree.keeps S₂, fun a ha => .inl ha, fun q => hLA (.inl q), fun q => absurd (foot_lt _ q) (Nat.not_lt.mpr (Nat.le_of_lt hLI)), Kept.of_stays S₂, .refl⟩
  have turn : ∀ (e : Int × Value) (p : Way) (fl : Int) (M₁ : Tr) (s₀ : Shared) (h' : Heap), e ∈ es.toList → PairAt s.heap e.2 p fl → Jr s₀ M₁ → Heap.ExtBut I s₀.heap h' → I < h'.objs.size → Jr { s₀ with heap := h' } M₁ ∧ PairAt h' e.2 p fl ∧ Fs (A.deeper (finEnv L)) (finEnv L :: outer) h' := by
    rintro e p fl M₁ s₀ h' he hp ⟨⟨m₁, F₁, hm⟩, T₁, gr, nL, nI, kp, hX⟩ hext hIlt
    have kI : Kept (· = I) s₀.heap h' := fun b o hb e => hext b o hb e
    have F' := F₁.kept kI (Nat.ne_of_lt hLI) (fun b q => hGf₁ b (.inr (by rw [q]; exact Nat.le_of_lt hLI)))
    have kp' : Kept (Foot c.root M) s.heap h' := fun b o hb e => hext b o (fun q => absurd (Heap.lt_size e) (Nat.not_lt.mpr (by rw [q, ← hLe]; exact Nat.le_of_lt hLI))) (kp b o hb e)
    refine ⟨⟨⟨m₁, F', hm⟩, T₁.kept kI (fun a ha q => nI (q ▸ ha)), gr, nL, nI, kp', hX⟩, hp.tups fun b o hc e => kp' b o (fun q => X.not_tup (.inl q) e hc) e, ?_⟩
    exact (hF.kept kp' fun b hb q => (hFa b hb).1 (.inl q)).push F'
  have machPend : ∀ h', Kept (Foot c.root M) s.heap h' → PendAt w h' c.pend l := fun h' kp => X.pend.tups (fun o e => kp _ o X.offp e) fun b o hc e => kp b o (fun q => X.not_tup (.inl q) e hc) e
  have badEnd : ∀ s₃ e h₃ M₁, (∃ x ∈ l, x.1 = []) → Flew outer (minusW h₃ (isFrame (finEnv L :: outer))) s₃.heap e → Tree prog w fs h₃ c.root M₁ → Grow c.root M M₁ L → ¬ Foot c.root M₁ L → Kept (Foot c.root M) s.heap h₃ → h₃.UpToSlots s₃.heap → SameX s s₃ →
      (∀ q b j, V M q b j → V M₁ q b j) → (∀ q b j, V M₁ q b j → V M q b j ∨ (b = false ∧ (q, j) ∈ l)) → R (.error (.ref e)) s₃ := fun s₃ e h₃ M₁ hx fl₃ T₃ gr nL kp u hX v1 v2 => by
    have offF : ∀ b, isFrame (finEnv L :: outer) b → ¬ Foot c.root M₁ b ∧ b ≠ c.pend ∧ b ≠ c.x ∧ b ≠ c.dx := fun b hb => by
      obtain ⟨env, he, hf'⟩ := hb
      rcases List.mem_cons.mp he with rfl | he
      · cases hf'
        refine ⟨nL, fun q => hLs _ _ ho q.symm, fun q => ?_, fun q => ?_⟩
        · obtain ⟨sl, _, _, _, _, _, a, b⟩ := X.inst; exact hLs _ _ a q.symm
        · obtain ⟨sl, _, _, _, _, _, a, b⟩ := X.inst; exact hLs _ _ b q.symm
      · have hb : isFrame outer b := ⟨env, he, hf'⟩
        refine ⟨fun q => ?_, fun q => (hFa b hb).1 (.inr q), fun q => ?_, (hFa b hb).2⟩
        · rcases gr b q with z | z
          · exact (hFa b hb).1 (.inl z)
          · exact absurd (hF.alive hb) (Nat.not_lt.mpr (hLe ▸ z))
        · obtain ⟨sl, _, _, _, _, _, a, _⟩ := X.inst
          obtain ⟨o, es', ep', e', d'⟩ := hF.obj hb
          rw [q, a] at e'; cases e'; cases d'
    have kb : Kept (fun b => isFrame outer b ∨ Foot c.root M b) s.heap (minusW h₃ (isFrame (finEnv L :: outer))) := fun b o hb e => by
      refine minusW_get.mpr ⟨kp b o (fun q => hb (.inr q)) e, ?_⟩
      rintro ⟨env, he, hf'⟩
      rcases List.mem_cons.mp he with rfl | he
      · cases hf'; exact hLs _ _ e rfl
      · exact hb (.inl ⟨env, he, hf'⟩)
    have P₃ := machPend h₃ kp
    refine bad hx s₃ e _ M₁ fl₃ kb ⟨?_, T₃.kept Kept.minusW (fun a ha q => (offF a q).1 ha), ?_, ?_, ?_, X.flags⟩ v1 v2 (fun a ha => (gr a ha).imp id fun z => hLe ▸ z) (fun b o hb e hn => ?_) hX
    · obtain ⟨sl, a1, a2, t1, t2, n, a, b⟩ := X.inst
      exact ⟨sl, a1, a2, t1, t2, n, minusW_get.mpr ⟨kp _ _ (fun q => X.offx (.inl q)) a, fun q => (offF _ q).2.2.1 rfl⟩, minusW_get.mpr ⟨kp _ _ (fun q => X.offd (.inl q)) b, fun q => (offF _ q).2.2.2 rfl⟩⟩
    · refine X.pend.tups2 (fun o e => minusW_get.mpr ⟨kp _ o X.offp e, fun q => (offF _ q).2.1 rfl⟩) fun b items hb o e => kb b o (fun q => ?_) e
      obtain ⟨o', e', hc', n', d'⟩ := hb
      rw [e] at e'; cases e'
      rcases q with q | q
      · obtain ⟨o2, es2, ep2, e2, d2⟩ := hF.obj q
        rw [e] at e2; cases e2
        rw [d'] at d2; cases d2
      · exact X.not_tup (.inl q) e hc'
    · intro q
      rcases gr _ q with z | z
      · exact X.offp z
      · exact absurd (Heap.lt_size ho) (Nat.not_lt.mpr (hLe ▸ z))
    · rintro (q | q)
      · rcases gr _ q with z | z
        · exact X.offd (.inl z)
        · obtain ⟨sl, _, _, _, _, _, _, b⟩ := X.inst
          exact absurd (Heap.lt_size b) (Nat.not_lt.mpr (hLe ▸ z))
      · exact X.offd (.inr q)
    · exact u b o (kp b o hb e) hn
  have toL : ∀ e ∈ es.toList, ∀ q j, PairAt s.heap e.2 q j → (q, j) ∈ l := fun e he q j pe => by
    obtain ⟨q', j', pe', hm⟩ := hall e he
    obtain ⟨rfl, rfl⟩ := pe.inj pe'
    exact hm
  by_cases hmode : (∃ ord, Order w h₂ c.pend es ep t first ord) ∨ es.size ≤ 1
  · have hst : ∃ ord, StO w I c.pend es ep t ord (A.deeper (finEnv L)) 0 h₂ := by
      have hso : h₂.get? c.pend = some _ := S₂ _ _ ho
      by_cases ho' : ∃ ord, Order w h₂ c.pend es ep t first ord
      · obtain ⟨ord, hord'⟩ := ho'
        exact ⟨ord, hso, .inl hh, .inl ⟨first, hit, hord'⟩⟩
      · have hsz := hmode.resolve_left ho'
        obtain ⟨hb, rfl, _⟩ := hord.resolve_left ho'
        refine ⟨es.toList, hso, .inl hh, .inr ⟨hb, hsz, rfl, 0, hit, fun _ => rfl, fun q => ?_⟩⟩
        exact Array.getElem?_eq_none (by omega)
    obtain ⟨ord, hst⟩ := hst
    have hperm := stO_perm hst
    refine forS (s := { s with heap := h₂, drawn := dr, toks := tk₁ }) (stepsSet (A := A.deeper (finEnv L)) hf hIp (fun q => by have := hadr_mem q; rw [show (A.deeper (finEnv L)).handled = none from hh] at this; cases this) hperm)
      (fun i s v Q E st hQ => by
        rcases st.2.2 with ⟨_, hit, _⟩ | ⟨_, _, _, _, hit, _⟩
        · exact goSet hit hQ
        · exact goSet hit hQ)
      (fun i s₁ => ∃ M₁, Jr s₁ M₁ ∧ (∀ q b j, V M₁ q b j ↔ V M q b j ∨ (b = false ∧ ∃ k e, k < i ∧ ord[k]? = some e ∧ PairAt s.heap e.2 q j)) ∧ (∀ k e q j, k < i → ord[k]? = some e → PairAt s.heap e.2 q j → q ≠ []))
      hst ⟨M, J0, fun q b j => ⟨.inl, fun x => x.elim id fun ⟨_, k, e, hk, _⟩ => absurd hk (Nat.not_lt_zero k)⟩, fun k e q j hk => absurd hk (Nat.not_lt_zero k)⟩ ?_ ?_
    · rintro i v s₀ h' hi ⟨e, he, rfl⟩ ⟨M₁, hJ, hV, hne⟩ hS' hext
      have hmem : e ∈ es.toList := hperm.mem_iff.mp (List.mem_of_getElem? he)
      obtain ⟨p, fl, hp, hpl'⟩ := hall e hmem
      have hIlt : I < h'.objs.size := by
        rcases hS'.2.2 with ⟨_, hit, _⟩ | ⟨_, _, _, _, hit, _⟩ <;> exact Heap.lt_size hit
      obtain ⟨⟨⟨m₁, F', hm⟩, T', gr, nL, nI, kp', hX⟩, hp', hFs⟩ := turn e p fl M₁ s₀ h' hmem hp hJ hext hIlt
      refine fin_turn (R := R) (s := { s₀ with heap := h' }) (fun t Q s h => wpAny_passesOwn PassesOwn.leaving h) F' hm (by show A.depth + 1 < recursionLimit; exact hroom) hh hFs hiG T' hp' (X.flags _ hpl') hfs (fun b hb => hGf₁ b (gr b hb)) nL ?_ ?_ (by rfl) (by rfl)
      · intro hpn s₃ M₃ m₃ F₃ hm₃ T₃ V₃ gr₃ kp₃ hX₃
        have gr' : Grow c.root M M₃ L := fun a ha => (gr₃ a ha).elim (gr a) fun z => .inr (Nat.le_of_lt z.1)
        have nL₃ : ¬ Foot c.root M₃ L := fun q => (gr₃ _ q).elim nL fun z => Nat.lt_irrefl _ z.1
        have hIal : ∃ o, h'.get? I = some o := by
          rcases hS'.2.2 with ⟨_, hit, _⟩ | ⟨_, _, _, _, hit, _⟩ <;> exact ⟨_, hit⟩
        have nI₃ : ¬ Foot c.root M₃ I := fun q => (gr₃ _ q).elim nI fun z => by
          obtain ⟨o, e'⟩ := hIal
          have := z.2
          rw [e'] at this; cases this
        have nP : ¬ Foot c.root M₁ c.pend := fun q => (gr _ q).elim X.offp fun z => absurd (Heap.lt_size ho) (Nat.not_lt.mpr (hLe ▸ z))
        refine ⟨⟨M₃, ⟨⟨m₃, F₃, hm₃⟩, T₃, gr', nL₃, nI₃, ?_, hX.trans hX₃⟩, V_fin hV he hp V₃, ?_⟩, ?_⟩
        · intro b o hb e'
          refine kp₃ b o (fun q => ?_) (kp' b o hb e')
          rcases q with q | q
          · rcases gr b q with z | z
            · exact hb z
            · exact absurd (Heap.lt_size e') (Nat.not_lt.mpr (hLe ▸ z))
          · exact hLs _ _ e' q
        · intro k e' q j hk hke pe
          by_cases hki : k = i
          · subst hki
            rw [he] at hke; cases hke
            obtain ⟨rfl, rfl⟩ := hp.inj pe
            exact hpn
          · exact hne k e' q j (by omega) hke pe
        · refine hS'.of (fun o e' => kp₃ _ o (fun q => q.elim nP fun z => hLs _ _ ho z) e') (fun o e' => kp₃ _ o (fun q => q.elim nI fun z => Nat.ne_of_gt hLI z) e') (fun b items hb o e' => kp₃ b o (fun q => ?_) e') (.inl hh)
          rcases q with q | q
          · obtain ⟨o', e2, hc'⟩ := T'.alive q
            obtain ⟨o3, e3, c3, _⟩ := hb
            rw [e3] at e2; cases e2
            rw [c3] at hc'
            exact absurd hc' (by decide)
          · exact F'.ne_tup hb q.symm
      · intro hpn s₃ e' h₃ fl₃ kp₃ u hX₃
        refine badEnd s₃ e' h₃ M₁ ⟨_, hpl', hpn⟩ fl₃ (T'.kept kp₃ fun a ha q => nL (q ▸ ha)) gr nL (fun b o hb e2 => kp₃ b o (hLs _ _ e2) (kp' b o hb e2)) u (hX.trans hX₃) (fun q b j hv => (hV q b j).mpr (.inl hv)) fun q b j hv => ?_
        rcases (hV q b j).mp hv with z | ⟨z, k, e2, hk, hke, pe⟩
        · exact .inl z
        · exact .inr ⟨z, toL e2 (hperm.mem_iff.mp (List.mem_of_getElem? hke)) q j pe⟩
    · rintro s₀ h' ⟨M₁, hJ, hV, hne⟩ hext
      obtain ⟨⟨m₁, F₁, hm⟩, T₁, gr, nL, nI, kp, hX⟩ := hJ
      have kI : Kept (· = I) s₀.heap h' := fun b o hb e => hext b o hb e
      have F' := F₁.kept kI (Nat.ne_of_lt hLI) (fun b q => hGf₁ b (.inr (by rw [q]; exact Nat.le_of_lt hLI)))
      have T' := T₁.kept kI (fun a ha q => nI (q ▸ ha))
      have kp' : Kept (Foot c.root M) s.heap h' := fun b o hb e => hext b o (fun q => absurd (Heap.lt_size e) (Nat.not_lt.mpr (by rw [q, ← hLe]; exact Nat.le_of_lt hLI))) (kp b o hb e)
      have P' := machPend h' kp'
      have nP : ¬ Foot c.root M₁ c.pend := fun q => (gr _ q).elim X.offp fun z => absurd (Heap.lt_size ho) (Nat.not_lt.mpr (hLe ▸ z))
      dsimp only
      refine wpAny_execs_cons (wpAny_Expr (MethodCall_ (Attribute_Name_ (q_ld (s := { s₀ with heap := h' }) F' hm (get_pend F' (hiG.keeps F'.keep) fun tk₃ => getMethod_pset P' PySem.F.slot_set_clear PySem.F.type_set_clear
        (callWith_method0 (pend_clear (s := { s₀ with heap := h', toks := tk₃ }) P' fun h₄ P₄ hs₄ => ?_)))))))
      refine wpAny_execs_nil ?_
      refine good ?_ _ M₁ ⟨?_, T'.kept (Kept.of_sameBut hs₄) (fun a ha q => nP (q ▸ ha)), P₄, nP, ?_, fun x hx => by cases hx⟩ ?_ (fun a ha => (gr a ha).imp id fun z => hLe ▸ z) (fun b o hb e => hs₄.extBut b o (fun q => hb (.inr q)) (kp' b o (fun q => hb (.inl q)) e)) hX
      · intro x hx
        obtain ⟨e, he, pe⟩ := hl x hx
        obtain ⟨k, hk⟩ := List.mem_iff_getElem?.mp (hperm.mem_iff.mpr he)
        exact hne k e x.1 x.2 (by have := (List.getElem?_eq_some_iff.mp hk).1; rw [hperm.length_eq] at this; simpa using this) hk pe
      · obtain ⟨sl, a1, a2, t1, t2, n, a, b⟩ := X.inst
        exact ⟨sl, a1, a2, t1, t2, n, hs₄.extBut _ _ (fun q => X.offx (.inr q)) (kp' _ _ (fun q => X.offx (.inl q)) a), hs₄.extBut _ _ (fun q => X.offd (.inr q)) (kp' _ _ (fun q => X.offd (.inl q)) b)⟩
      · rintro (q | q)
        · rcases gr _ q with z | z
          · exact X.offd (.inl z)
          · obtain ⟨sl, _, _, _, _, _, _, b⟩ := X.inst
            exact absurd (Heap.lt_size b) (Nat.not_lt.mpr (hLe ▸ z))
        · exact X.offd (.inr q)
      · intro q b j
        rw [hV]
        constructor
        · rintro (z | ⟨z, k, e2, hk, hke, pe⟩)
          · exact .inl z
          · exact .inr ⟨z, toL e2 (hperm.mem_iff.mp (List.mem_of_getElem? hke)) q j pe⟩
        · rintro (z | ⟨z, hm⟩)
          · exact .inl z
          · obtain ⟨e, he, pe⟩ := hl _ hm
            obtain ⟨k, hk⟩ := List.mem_iff_getElem?.mp (hperm.mem_iff.mpr he)
            exact .inr ⟨z, k, e, by have := (List.getElem?_eq_some_iff.mp hk).1; rw [hperm.length_eq] at this; simpa using this, hk, pe⟩
  · have hno : ¬ ∃ ord, Order w h₂ c.pend es ep t first ord := fun q => hmode (.inl q)
    have hsz : ¬ es.size ≤ 1 := fun q => hmode (.inr q)
    obtain ⟨hb, rfl, hpl2⟩ := hord.resolve_left hno
    have hplain := hpl2.resolve_right hsz
    have hpl' := hf.place
    have he : es[0]? = some (es[0]'(by omega)) := Array.getElem?_eq_getElem (by omega)
    have hj : t.place[0]? = some (t.place[0]'(by omega)) := Array.getElem?_eq_getElem (by omega)
    have hmem : es[0]'(by omega) ∈ es.toList := by simp
    obtain ⟨p, fl, hp, hpm⟩ := hall _ hmem
    have hp0 : p = [] := hpl hplain _ hpm
    refine codeAny_forLoop_any (fun k s' => k = 1 ∧ s' = { s with heap := h₂, drawn := dr, toks := tk₁ }) ?_ 1 ⟨rfl, rfl⟩
    rintro k s' ⟨rfl, rfl⟩
    refine next_first (n := es.size) (s := { s with heap := h₂, drawn := dr, toks := tk₁ }) hit (S₂ _ _ ho) hf hb (.inl hplain) he hj fun h' hit' hs' => ?_
    refine goSet hit' ?_
    obtain ⟨⟨⟨m₁, F', hm⟩, T', gr, nL, nI, kp', hX⟩, hp', hFs⟩ := turn _ p fl M { s with heap := h₂, drawn := dr, toks := tk₁ } h' hmem hp J0 hs'.extBut (Heap.lt_size hit')
    refine fin_turn (R := R) (s := { s with heap := h', drawn := dr, toks := tk₁ }) (fun t Q s h => wpAny_passesOwn PassesOwn.leaving h) F' hm (by show A.depth + 1 < recursionLimit; exact hroom) hh hFs hiG T' hp' (X.flags _ hpm) hfs (fun b hb => hGf₁ b (gr b hb)) nL ?_ ?_ (by rfl) (by rfl)
    · intro hpn; exact absurd hp0 hpn
    · intro hpn s₃ e' h₃ fl₃ kp₃ u hX₃
      exact badEnd s₃ e' h₃ M ⟨_, hpm, hpn⟩ fl₃ (T'.kept kp₃ fun a ha q => nL (q ▸ ha)) gr nL (fun b o hb e2 => kp₃ b o (hLs _ _ e2) (kp' b o hb e2)) u (hX.trans hX₃) (fun q b j hv => hv) fun q b j hv => .inl hv
end
end Mine
-- NF
namespace Mine

theorem sa_cls (w : World) : findIn (hd.heap_39 w.params) (.ref 66) "__setattr__" = some (some (.builtin "object.__setattr__")) := by kernel_rfl
theorem po_cls (w : World) : plainOver (hd.heap_39 w.params) 66 = true := by kernel_rfl
theorem tk_flags (w : World) : takerIn (hd.heap_39 w.params) 66 "_flags" = some none := by kernel_rfl
theorem tk_pend (w : World) : takerIn (hd.heap_39 w.params) 66 "_pending_flags" = some none := by kernel_rfl
theorem mk_cls (w : World) : makesIn (hd.heap_39 w.params) 66 = true := by kernel_rfl
theorem fi_init (w : World) : findIn (hd.heap_39 w.params) (.ref 66) "__init__" = some (some (.ref 28)) := by kernel_rfl
theorem ty_init (w : World) : typeIn (hd.heap_39 w.params) (.ref 28) = some (.type "function") := by kernel_rfl

section
variable {prog : Program} {w : World} {A : Around} {s : Shared} {G : Heap} {R : Result → Shared → Prop}
set_option maxRecDepth 100000 in
set_option maxHeartbeats 8000000 in
theorem init_spec {x dx : Addr} (g : Gd w G) (hk : G.StaysIn s.heap) (hroom : A.depth < recursionLimit) (hx : s.heap.get? x = some (instObj 66 dx)) (hdx : s.heap.get? dx = some (dictOf [] 0))
    (hGx : G.get? x = none) (hGd : G.get? dx = none)
    (good : ∀ s' root pend, Inst s'.heap ⟨x, dx, root, pend⟩ → DictF prog w s'.heap root (fun _ => none) → PendAt w s'.heap pend [] → s.heap.objs.size < root → root < pend → Kept (fun b => b = x ∨ b = dx) s.heap s'.heap → SameX s s' → R (.ok (.ret .none)) s') :
    codeAny (model prog w) A (.call (.ref 28) ⟨[.ref x], []⟩) R s := by
  have hne : x ≠ dx := fun q => by subst q; rw [hx] at hdx; cases hdx
  refine enter (fun b => b = x ∨ b = dx) g hk (by rintro b (rfl | rfl); exact hGx; exact hGd) (f := 28) (binds := [("self", .ref x)]) rfl (by with_unfolding_all rfl) hroom (BindsTo.of_eq rfl) (locs rfl) (fun L h₁ hL hLe g' F S => ?_)
  have hLs : ∀ b o, s.heap.get? b = some o → b ≠ L := fun b o e q => by rw [q, hL] at e; cases e
  have hidx : (minusW s.heap (fun b => b = x ∨ b = dx)).get? x = none := minusW_none (.inl rfl)
  have hidd : (minusW s.heap (fun b => b = x ∨ b = dx)).get? dx = none := minusW_none (.inr rfl)
  have hfr : ∀ a, s.heap.objs.size ≤ a → (minusW s.heap (fun b => b = x ∨ b = dx)).get? a = none := fun a ha => get_fresh (by rw [minusW_size]; exact ha)
  have Lsz : s.heap.objs.size = L := hLe.symm
  have offL : (minusW s.heap (fun b => b = x ∨ b = dx)).get? L = none := hfr L (Nat.le_of_eq Lsz)
  have hsz : ∀ (h : Heap) (o : Obj), (h.push o).objs.size = h.objs.size + 1 := fun h o => by simp
  have hL₁ : L < h₁.objs.size := F.ns.lt
  -- self._flags = {}
  refine wpAny_execs_cons (plainObj_wpAny_Assign_Attribute (wpAny_Dict_empty ?_))
  have k₂ : h₁.StaysIn (h₁.push { cls := .type "dict", data := .dict #[] }) := fun b o e => Heap.get?_push_of_some _ e
  have F₂ : Fr (minusW s.heap (fun b => b = x ∨ b = dx)) L (h₁.push { cls := .type "dict", data := .dict #[] }) _ := ⟨F.ns.keeps k₂, fun b o e => k₂ b o (F.keep b o e), F.above⟩
  have N₂ : News (minusW s.heap (fun b => b = x ∨ b = dx)) L (h₁.push { cls := .type "dict", data := .dict #[] }) [(x, instObj 66 dx), (dx, dictOf [] 0), (h₁.objs.size, dictOf [] 0)] := by
    intro p hp
    simp only [List.mem_cons, List.not_mem_nil, or_false] at hp
    rcases hp with rfl | rfl | rfl
    · exact ⟨k₂ _ _ (S _ _ hx), hLs _ _ hx, hidx⟩
    · exact ⟨k₂ _ _ (S _ _ hdx), hLs _ _ hdx, hidd⟩
    · exact ⟨Heap.get?_push_size _ rfl, Nat.ne_of_gt hL₁, hfr _ (by rw [Lsz]; exact Nat.le_of_lt hL₁)⟩
  refine q_ld (cl := []) (Fq.of_fr g' F₂ offL) rfl ?_
  refine set_dict F₂ g'.K N₂ (InstAt.of_news N₂ (.head _) (.tail _ (.head _))) rfl (sa_cls w) (po_cls w) (tk_flags w) (hdict w) (by rfl) rfl (.tail hne (.head (by
    intro p hp
    simp only [List.mem_cons, List.not_mem_nil, or_false] at hp
    subst hp
    exact fun q => absurd (Heap.lt_size (S _ _ hdx)) (by rw [← q]; exact Nat.lt_irrefl _)))) (by simp [putL]) fun h₃ F₃ N₃ => ?_
  dsimp only
  replace N₃ : ∃ hh t1 nn, News (minusW s.heap (fun b => b = x ∨ b = dx)) L h₃ [(x, instObj 66 dx), (dx, dictOf [⟨hh, .str "_flags" t1, .ref h₁.objs.size⟩] nn), (h₁.objs.size, dictOf [] 0)] := ⟨_, _, _, N₃⟩
  obtain ⟨hh, t1, nn, N₃⟩ := N₃
  -- self._pending_flags = set()
  refine wpAny_execs_cons (plainObj_wpAny_Assign_Attribute (Call_ (q_bi (cl := []) (Fq.of_fr g' F₃ offL) (by kernel_rfl) boot_set (by decide) (callWith_type0 (set_led ?_)))))
  have k₄ : h₃.StaysIn (h₃.push (freshSet w)) := fun b o e => Heap.get?_push_of_some _ e
  have F₄ : Fr (minusW s.heap (fun b => b = x ∨ b = dx)) L (h₃.push (freshSet w)) _ := ⟨F₃.ns.keeps k₄, fun b o e => k₄ b o (F₃.keep b o e), F₃.above⟩
  have lt₃ : ∀ p ∈ [(x, instObj 66 dx), (dx, dictOf [⟨hh, .str "_flags" t1, .ref h₁.objs.size⟩] nn), (h₁.objs.size, dictOf [] 0)], p.1 < h₃.objs.size := fun p hp => Heap.lt_size (N₃ p hp).1
  have N₄ : News (minusW s.heap (fun b => b = x ∨ b = dx)) L (h₃.push (freshSet w)) [(x, instObj 66 dx), (dx, dictOf [⟨hh, .str "_flags" t1, .ref h₁.objs.size⟩] nn), (h₁.objs.size, dictOf [] 0), (h₃.objs.size, freshSet w)] := by
    intro p hp
    simp only [List.mem_cons, List.not_mem_nil, or_false] at hp
    rcases hp with rfl | rfl | rfl | rfl
    · exact ⟨k₄ _ _ (N₃ _ (.head _)).1, (N₃ _ (.head _)).2⟩
    · exact ⟨k₄ _ _ (N₃ _ (.tail _ (.head _))).1, (N₃ _ (.tail _ (.head _))).2⟩
    · exact ⟨k₄ _ _ (N₃ _ (.tail _ (.tail _ (.head _)))).1, (N₃ _ (.tail _ (.tail _ (.head _)))).2⟩
    · exact ⟨Heap.get?_push_size _ rfl, Nat.ne_of_gt F₃.ns.lt, hfr _ (by rw [Lsz]; exact Nat.le_of_lt F₃.ns.lt)⟩
  refine q_ld (cl := []) (Fq.of_fr g' F₄ offL) rfl ?_
  refine set_dict F₄ g'.K N₄ (InstAt.of_news N₄ (.head _) (.tail _ (.head _))) rfl (sa_cls w) (po_cls w) (tk_pend w) (hdict w) (by rfl) rfl (.tail hne (.head (by
    intro p hp
    simp only [List.mem_cons, List.not_mem_nil, or_false] at hp
    rcases hp with rfl | rfl
    · exact fun q => absurd (Heap.lt_size (S _ _ hdx)) (by rw [← q]; exact Nat.lt_irrefl _)
    · exact fun q => absurd (lt₃ _ (.tail _ (.head _))) (by rw [← q]; exact Nat.lt_irrefl _)))) (by simp only [putL]; split <;> simp) fun h₅ F₅ N₅ => ?_
  refine wpAny_execs_nil ?_
  refine good _ h₁.objs.size h₃.objs.size ?_ ?_ ?_ (by rw [Lsz]; exact hL₁) (lt₃ _ (.tail _ (.tail _ (.head _)))) (fun b o hb e => F₅.keep b o (minusW_get.mpr ⟨e, hb⟩)) ⟨rfl, rfl⟩
  · exact ⟨#[], _, _, _, _, _, (N₅ _ (.head _)).1, (N₅ _ (.tail _ (.head _))).1⟩
  · refine ⟨[], ⟨_, #[], 0, (N₅ _ (.tail _ (.tail _ (.head _)))).1, ⟨rfl, rfl, rfl⟩, rfl, fun _ he => by simp at he, Pairs.nil, List.nodup_nil⟩, fun _ => rfl, fun _ x => by simp at x, fun q => ?_⟩
    have := g'.big
    rw [minusW_size, Lsz] at this
    rw [q] at hL₁
    exact absurd (Nat.lt_trans this hL₁) (by decide)
  · exact ⟨#[], 0, _, (N₅ _ (.tail _ (.tail _ (.tail _ (.head _))))).1, ⟨rfl, rfl, rfl, .inl ⟨rfl, by simp⟩⟩, fun _ _ hx => by simp at hx, fun _ he => by simp at he, fun _ hx => by simp at hx, by simp⟩
end
end Mine
-- NG
namespace Mine

theorem boot_tuple : bootBuiltins "tuple" = some (.type "tuple") := by decide +kernel
theorem boot_len : bootBuiltins "len" = some (.builtin "len") := by decide +kernel
theorem boot_max : bootBuiltins "max" = some (.builtin "max") := by decide +kernel
theorem boot_min : bootBuiltins "min" = some (.builtin "min") := by decide +kernel
theorem boot_abs : bootBuiltins "abs" = some (.builtin "abs") := by decide +kernel
theorem boot_range : bootBuiltins "range" = some (.type "range") := by decide +kernel
theorem boot_bool : bootBuiltins "bool" = some (.type "bool") := by decide +kernel
theorem boot_isi : bootBuiltins "isinstance" = some (.builtin "isinstance") := by decide +kernel

theorem weight_new : (Code.builtin "type.__call__" ⟨[.ref 66], []⟩).weight = 1 := by kernel_rfl
section
variable {prog : Program} {w : World} {A : Around} {s : Shared} {G : Heap} {R : Result → Shared → Prop}
theorem Fq.ne_plain {h : Heap} {a : Addr} {items : Array Value} {L : Addr} {m : PySem.Str → Option Value} (F : Fq w G L h m) (t : h.PlainList a items) : a ≠ L := Ne.symm (F.ne_list t.isList)

theorem new_spec {fs : List Int} (g : Gd w G) (hk : G.StaysIn s.heap) (hroom : A.depth + 1 < recursionLimit)
    (good : ∀ s' c, Mach prog w fs s'.heap c leer [] → s.heap.StaysIn s'.heap → s.heap.objs.size ≤ c.dx → c.dx < c.x → c.x < c.root → c.root < c.pend → SameX s s' → R (.ok (.ret (.ref c.x))) s') :
    codeAny (model prog w) A (.call (.ref 66) ⟨[], []⟩) R s := by
  obtain ⟨h, gg, d, t, os⟩ := s
  have K := g.K.keeps hk
  refine make_core (makes_of K (mk_cls w)) (looks_findIn K (fi_init w)) (fun self => bind_fn K self (ty_init w)) (.inl rfl) ?_
  have k₁ : h.StaysIn ((h.push emptyDict).push (instObj 66 h.objs.size)) := fun b o e => Heap.get?_push_of_some _ (Heap.get?_push_of_some _ e)
  have hsz : ∀ (h : Heap) (o : Obj), (h.push o).objs.size = h.objs.size + 1 := fun h o => by simp
  have hx : ((h.push emptyDict).push (instObj 66 h.objs.size)).get? (h.objs.size + 1) = some (instObj 66 h.objs.size) := by
    have := Heap.get?_push_size (h.push emptyDict) (o := instObj 66 h.objs.size) rfl
    rwa [hsz] at this
  have hdx : ((h.push emptyDict).push (instObj 66 h.objs.size)).get? h.objs.size = some (dictOf [] 0) := Heap.get?_push_of_some _ (Heap.get?_push_size _ rfl)
  refine init_spec (s := ⟨(h.push emptyDict).push (instObj 66 h.objs.size), gg, d, t, os⟩) g (fun b o e => k₁ b o (hk b o e)) (by show A.depth + (Code.builtin "type.__call__" ⟨[.ref 66], []⟩).weight < recursionLimit; rw [weight_new]; exact hroom) hx hdx (hidden_of hk (Nat.le_succ _)) (hidden_of hk (Nat.le_refl _)) fun s' root pend hi hd hp hr1 hr2 kp hX => ?_
  have hr1' : h.objs.size + 1 + 1 < root := by have := hr1; simp only [hsz] at this; exact this
  obtain ⟨T, hft⟩ := Tree.new (fs := fs) hd
  refine ⟨rfl, good s' ⟨h.objs.size + 1, h.objs.size, root, pend⟩ ⟨hi, T, hp, fun q => ?_, ?_, fun x hx => by cases hx⟩ (fun b o e => kp b o ?_ (k₁ b o e)) (Nat.le_refl _) (Nat.lt_succ_self _) (by show h.objs.size + 1 < root; omega) hr2 hX⟩
  · have e : pend = root := hft _ q
    exact absurd hr2 (by rw [e]; exact Nat.lt_irrefl _)
  · rintro (q | q)
    · have e : h.objs.size = root := hft _ q
      exact absurd hr1' (by rw [← e]; omega)
    · have e : h.objs.size = pend := q
      exact absurd (Nat.lt_trans hr1' hr2) (by rw [← e]; omega)
  · rintro (q | q)
    · exact absurd (Heap.lt_size e) (by rw [q]; show ¬ h.objs.size + 1 < h.objs.size; omega)
    · exact absurd (Heap.lt_size e) (by rw [q]; exact Nat.lt_irrefl _)
end
end Mine
-- NH
namespace Mine

noncomputable def six : Way := ["", "a", "a.a", "flags", "nested", "recursive_flags"]
theorem six_in {x : PySem.Str} (h : x ∈ six) : x ∈ nms := by
  have : six.all (fun x => decide (x ∈ nms)) = true := by decide +kernel
  exact of_decide_eq_true (List.all_eq_true.mp this x h)
theorem strs_push {vs : List Value} {p : Way} {x : PySem.Str} {t : Tok} (h : StrsAre vs p) : StrsAre (vs ++ [.str x t]) (p ++ [x]) := by
  induction h with
  | nil => exact .cons _ _ .nil
  | cons y u _ ih => exact .cons _ _ ih

/-- what stands between two turns of the loop of `_law_way` -/
structure WayJ (w : World) (G₁ : Heap) (L a1 a3 : Addr) (items : Array Value) (k : Nat) (s s₁ : Shared) (m₁ : PySem.Str → Option Value) (N : Int) (u : Tok) (vs : Array Value) (p : Way) : Prop where
  fq : Fq w G₁ L s₁.heap m₁
  e1 : m₁ "number" = some (.int N u)
  e2 : m₁ "names" = some (.ref a1)
  e3 : m₁ "way" = some (.ref a3)
  l1 : s₁.heap.PlainList a1 items
  l2 : s₁.heap.PlainList a3 vs
  hs : StrsAre vs.toList p
  hn : ∀ x ∈ p, x ∈ nms
  h0 : 0 ≤ N
  h6 : N < 6 ^ (30 - p.length)
  h30 : p.length ≤ 30
  hk : k = N.toNat
  hX : SameX s s₁
theorem way_lt {N : Int} {n : Nat} (h30 : n ≤ 30) (h6 : N < 6 ^ (30 - n)) (hpos : 0 < N) : n < 30 := by
  rcases Nat.lt_or_ge n 30 with z | z
  · exact z
  · exfalso
    rw [show 30 - n = 0 from Nat.sub_eq_zero_of_le z] at h6
    exact Int.lt_irrefl _ (Int.lt_of_lt_of_le h6 hpos)
theorem way_mul {N : Int} {n : Nat} (hlt : n < 30) (h6 : N < 6 ^ (30 - n)) : N < 6 * 6 ^ (30 - (n + 1)) := by
  rw [show 30 - n = (30 - (n + 1)) + 1 from (Nat.sub_add_cancel (Nat.sub_pos_of_lt hlt)).symm, Int.pow_succ, Int.mul_comm] at h6
  exact h6
theorem way_div {N x : Int} (h : N < 6 * x) : (N - 1) / 6 < x := by omega
theorem way_nat {N : Int} (h : 0 < N) : ((N - 1) / 6).toNat < N.toNat := by omega
theorem way_div0 {N : Int} (h : 0 < N) : 0 ≤ (N - 1) / 6 := by omega

section
variable {prog : Program} {w : World} {A : Around} {s : Shared} {G : Heap} {R : Result → Shared → Prop}
set_option maxRecDepth 100000 in
set_option maxHeartbeats 8000000 in
theorem way_spec {n : Int} {t : Tok} (g : Gd w G) (hk : G.StaysIn s.heap) (hroom : A.depth < recursionLimit)
    (good : ∀ s' v p, WayAt s'.heap v p → p.length ≤ 30 → s.heap.StaysIn s'.heap → SameX s s' → R (.ok (.ret v)) s') :
    codeAny (model prog w) A (.call (.ref 77) ⟨[.int n t], []⟩) R s := by
  refine enterQ [("number", .int n t)] (fun a => False) g hk (by simp) (f := 77) rfl (by with_unfolding_all rfl) hroom rfl (locs rfl) ?_
  intro L h₁ G₁ tk hLe F sG hG1 _ _
  replace sG := sG.stays
  refine wpAny_abs ?_; intro Q₀ E₀
  refine wpAny_execs_cons (wpAny_Assign_Name (List_ ?_))
  refine args_cons (Constant_str ?_)
  refine args_cons (Constant_str ?_)
  refine args_cons (Constant_str ?_)
  refine args_cons (Constant_str ?_)
  refine args_cons (Constant_str ?_)
  refine args_cons (Constant_str ?_)
  refine args_nil (wpAny_newList ?_)
  dsimp only
  refine q_st (F.keeps fun b o e => Heap.get?_push_of_some _ e) fun h₂ tk₂ F₂ s₂ => ?_
  dsimp only at s₂ ⊢
  obtain ⟨items, hit, hl1⟩ : ∃ items : Array Value, StrsAre items.toList six ∧ h₂.PlainList h₁.objs.size items :=
    ⟨_, .cons _ _ (.cons _ _ (.cons _ _ (.cons _ _ (.cons _ _ (.cons _ _ .nil))))), 0, s₂.extBut _ _ (Nat.ne_of_gt F.lt) (Heap.get?_push_size _ rfl)⟩
  refine wpAny_execs_cons (wpAny_Assign_Name (wpAny_BinOp (q_ld F₂ rfl (wpAny_BinOp (wpAny_Constant_int (wpAny_Constant_int (pow_int_small (by decide) (by decide) (by decide) (mod_int' (by decide) ?_))))))))
  refine q_st F₂ fun h₃ tk₃ F₃ s₃ => ?_
  dsimp only
  refine wpAny_execs_cons (wpAny_Assign_Name (List_ (args_nil (wpAny_newList ?_))))
  have k₃ : h₃.StaysIn _ := fun b o e => Heap.get?_push_of_some { cls := .type "list", data := .seq ([] : List Value).toArray } e
  refine q_st (F₃.keeps k₃) fun h₄ tk₄ F₄ s₄ => ?_
  dsimp only
  have hl1' : h₄.PlainList h₁.objs.size items := hl1.at fun o e => s₄.extBut _ _ (Nat.ne_of_gt F.lt) (k₃ _ o (s₃.extBut _ _ (Nat.ne_of_gt F.lt) e))
  have hl2 : h₄.PlainList h₃.objs.size #[] := ⟨0, s₄.extBut _ _ (Nat.ne_of_gt F₃.lt) (Heap.get?_push_size _ rfl)⟩
  have hGl : G₁.get? h₃.objs.size = none := hidden_of F₃.keep (Nat.le_refl _)
  refine wpAny_execs_cons (wpAny_While ?_)
  refine codeAny_whileLoop (fun k s₁ => ∃ m₁ N u vs p, WayJ w G₁ L h₁.objs.size h₃.objs.size items k s s₁ m₁ N u vs p) ?_ _ ⟨_, n.fmod (6 ^ 30), _, #[], [], F₄, rfl, rfl, rfl, hl1', hl2, .nil, by simp, ?_, ?_, by simp, rfl, .refl⟩
  · rintro k s₁ ⟨m₁, N, u, vs, p, F₅, e1, e2, e3, l1, l2, hs, hn, h0, h6, h30, rfl, hX⟩
    refine wpAny_isTrue_Compare1 (q_ld F₅ e1 (wpAny_Constant_int (PyProof.Rows.gt_int (wpAny_truthy_bool ?_))))
    by_cases hpos : 0 < N
    · rw [if_pos (by simpa using hpos)]
      have hlt : p.length < 30 := way_lt h30 h6 hpos
      have hM : N < 6 * 6 ^ (30 - (p.length + 1)) := way_mul hlt h6
      have hmod : (N - 1).fmod 6 = (N - 1) % 6 := Int.fmod_eq_emod_of_nonneg _ (by decide)
      have hdiv : (N - 1).fdiv 6 = (N - 1) / 6 := Int.fdiv_eq_ediv_of_nonneg _ (by decide)
      have hr0 : 0 ≤ (N - 1) % 6 := Int.emod_nonneg _ (by decide)
      have hr6 : (N - 1) % 6 < 6 := Int.emod_lt_of_pos _ (by decide)
      have hidx : ((N - 1) % 6).toNat < six.length := by show ((N - 1) % 6).toNat < 6; omega
      obtain ⟨ux, hux⟩ := hit.at (j := ((N - 1) % 6).toNat) (y := six[((N - 1) % 6).toNat]) (List.getElem?_eq_getElem hidx)
      refine wpAny_execs_cons (wpAny_Expr (MethodCall_ (q_ld F₅ e3 (getMethod_list_append l2.choose_spec rfl rfl (callWith_method1 ?_)))))
      refine args_cons (Subscript_ (q_ld F₅ e2 (wpAny_BinOp (wpAny_BinOp (q_ld F₅ e1 (wpAny_Constant_int (sub_int' ?_)))))))
      refine wpAny_Constant_int (mod_int' (by decide) ?_)
      dsimp only
      refine tail_any l1.isList.typeIs slot_list_getitem.lookup (wpAny_getItem_list l1.isList (by rw [hmod]; exact hr0) (by rw [hmod]; omega) (x := .str six[((N - 1) % 6).toNat] ux) (by rw [hmod, ← hux, Array.getElem?_toList]) ?_) rfl
      refine args_nil (wpAny_list_append_plain l2 (fun h₆ l2' s₆ => ?_) ?_)
      · refine wpAny_execs_cons (wpAny_Assign_Name (wpAny_BinOp (wpAny_BinOp (q_ld (F₅.kept (Kept.of_sameBut s₆) (Ne.symm (F₅.ne_plain l2)) (fun b hb => hb ▸ hGl)) e1 (wpAny_Constant_int (sub_int' ?_))))))
        refine wpAny_Constant_int (floordiv_int (by decide) ?_)
        refine q_st (F₅.kept (Kept.of_sameBut s₆) (Ne.symm (F₅.ne_plain l2)) (fun b hb => hb ▸ hGl)) fun h₇ tk₇ F₇ s₇ => ?_
        dsimp only
        have l1L := F₅.ne_plain l1
        have l2L := F₅.ne_plain l2
        have l12 : h₁.objs.size ≠ h₃.objs.size := Nat.ne_of_lt (Nat.lt_of_lt_of_le (Heap.lt_size hl1.choose_spec) (by rw [s₃.1]; exact Nat.le_refl _))
        refine wpAny_execs_nil ⟨((N - 1) / 6).toNat, way_nat hpos, _, (N - 1).fdiv 6, _, vs.push (.str six[((N - 1) % 6).toNat] ux), p ++ [six[((N - 1) % 6).toNat]], F₇, rfl, e2, e3, (l1.at fun o e => s₇.extBut _ _ l1L (s₆.extBut _ _ l12 e)), (l2'.at fun o e => s₇.extBut _ _ l2L e), ?_, ?_, ?_, ?_, ?_, ?_, hX⟩
        · rw [Array.toList_push]; exact strs_push hs
        · intro x hx
          rcases List.mem_append.mp hx with hx | hx
          · exact hn x hx
          · rw [List.mem_singleton.mp hx]; exact six_in (List.getElem_mem hidx)
        · rw [hdiv]; exact way_div0 hpos
        · rw [hdiv, List.length_append, List.length_singleton]; exact way_div hM
        · simp; omega
        · rw [hdiv]
      · have := hs.length
        rw [Array.length_toList] at this
        rw [sizeLine_is]; omega
    · rw [if_neg (by simpa using hpos)]
      refine wpAny_execs_nil ?_
      dsimp only
      refine wpAny_execs_cons (wpAny_Return_some (Call_ (q_bi F₅ (by kernel_rfl) boot_tuple (by decide) (PySem.Pv.callWith_type1 ?_))))
      refine args_cons (q_ld F₅ e3 (args_nil (call_tuple_list l2.isList (fun h' hk' => ?_) ?_)))
      · refine good _ _ p ⟨h'.objs.size, vs.toList, rfl, by simpa using (IsTup.new (h := h') (items := vs)), hs, hn, by omega⟩ h30 (fun b o e => Heap.get?_push_of_some _ (hk' b o (F₅.keep b o (sG b o e)))) hX
      · have := hs.length
        rw [Array.length_toList] at this
        rw [sizeLine_is]; omega
  · exact Int.fmod_nonneg_of_pos _ (by decide)
  · exact Int.fmod_lt_of_pos _ (by decide)
end
end Mine
-- NI
namespace Mine

structure Mark where
  place : Way
  its : Int
  deep : Bool
  sure : Int
noncomputable def MarkAt (h : Heap) (v : Value) (m : Mark) : Prop := ∃ a pv t u, v = .ref a ∧ IsTup h a #[pv, .int m.its t, .bool m.deep, .int m.sure u] ∧ WayAt h pv m.place
theorem MarkAt.keeps {h h' : Heap} {v : Value} {m : Mark} (x : MarkAt h v m) (k : h.StaysIn h') : MarkAt h' v m :=
  let ⟨a, pv, t, u, e, y, z⟩ := x; ⟨a, pv, t, u, e, y.keeps k, z.keeps k⟩
theorem MarkAt.tups2 {h h' : Heap} {v : Value} {m : Mark} (x : MarkAt h v m) (k : ∀ b items, IsTup h b items → ∀ o, h.get? b = some o → h'.get? b = some o) : MarkAt h' v m := by
  obtain ⟨a, pv, t, u, e, ht, z⟩ := x
  obtain ⟨o, ho, r⟩ := id ht
  exact ⟨a, pv, t, u, e, ⟨o, k a _ ht o ho, r⟩, z.tups2 k⟩
/-- a list whose items are as told -/
inductive AllAt {α : Type} (P : Value → α → Prop) : List Value → List α → Prop
  | nil : AllAt P [] []
  | cons {v x vs xs} : P v x → AllAt P vs xs → AllAt P (v :: vs) (x :: xs)
theorem AllAt.imp {α : Type} {P Q : Value → α → Prop} {vs : List Value} {xs : List α} (h : AllAt P vs xs) (k : ∀ v x, P v x → Q v x) : AllAt Q vs xs := by
  induction h with
  | nil => exact .nil
  | cons a _ ih => exact .cons (k _ _ a) ih
theorem AllAt.length {α : Type} {P : Value → α → Prop} {vs : List Value} {xs : List α} (h : AllAt P vs xs) : vs.length = xs.length := by
  induction h with
  | nil => rfl
  | cons _ _ ih => simp [ih]
theorem AllAt.get {α : Type} {P : Value → α → Prop} : ∀ {vs : List Value} {xs : List α}, AllAt P vs xs → ∀ {i : Nat} {v : Value}, vs[i]? = some v → ∃ x, xs[i]? = some x ∧ P v x := by
  intro vs xs h
  induction h with
  | nil => intro i v e; simp at e
  | cons a _ ih =>
    intro i v e
    cases i with
    | zero => simp at e; subst e; exact ⟨_, rfl, a⟩
    | succ i => exact ih (by simpa using e)
theorem AllAt.push {α : Type} {P : Value → α → Prop} {vs : List Value} {xs : List α} {v : Value} {x : α} (h : AllAt P vs xs) (hv : P v x) : AllAt P (vs ++ [v]) (xs ++ [x]) := by
  induction h with
  | nil => exact .cons hv .nil
  | cons a _ ih => exact .cons a ih

noncomputable def BookAt (h : Heap) (a : Addr) (ms : List Mark) : Prop := ∃ items : Array Value, h.PlainList a items ∧ AllAt (MarkAt h) items.toList ms
theorem BookAt.keeps {h h' : Heap} {a : Addr} {ms : List Mark} (x : BookAt h a ms) (k : h.StaysIn h') : BookAt h' a ms :=
  let ⟨items, l, y⟩ := x; ⟨items, l.at fun o e => k _ o e, y.imp fun _ _ z => z.keeps k⟩

/-- the mark speaks of this way and flag -/
noncomputable abbrev Speaks (m : Mark) (p : Way) (i : Int) : Prop := m.its = i ∧ (m.place = p ∨ (m.deep = true ∧ m.place <+: p))
noncomputable def due (ms : List Mark) (p : Way) (i : Int) : Int := ms.foldl (fun d m => if Speaks m p i then (if m.sure > d then m.sure else d) else d) 0

section
variable {prog : Program} {w : World} {A : Around} {E : Value → Shared → Prop} {s : Shared} {G : Heap} {R : Result → Shared → Prop}
theorem max_ok {a b : Int} {t u : Tok} {Q : Value → Shared → Prop} (hh : Hok A s.heap)
    (h : ∀ h' tk ut, s.heap.StaysIn h' → Q (.int (if b > a then b else a) ut) { s with heap := h', toks := tk }) :
    wpAny (model prog w) A (call (.builtin "max") [.int a t, .int b u]) Q E s := by
  have hT : (s.heap.push { cls := .type "tuple", data := .seq #[.int a t, .int b u] }).IsTuple s.heap.objs.size (intItems #[(a, t), (b, u)]) := ⟨_, Heap.get?_push_size _ rfl, rfl, 0, by simp [intItems]⟩
  refine call_max_two (wpAny_pyIter_tuple hT ?_)
  have hsz : (s.heap.push { cls := .type "tuple", data := .seq #[.int a t, .int b u] }).objs.size = s.heap.objs.size + 1 := Heap.size_push ..
  have hal : ∀ c ∈ hadr A, c < s.heap.objs.size := fun c hc => by
    have := hadr_mem hc
    rcases hh with hh | ⟨e, hh, o, vs, he, _⟩
    · rw [hh] at this; cases this
    · rw [hh] at this; cases this; exact Heap.lt_size he
  refine ⟨_, _, _, _, _, _, _, rfl, walksTuple (A := A.in1) (s.heap.push { cls := .type "tuple", data := .seq #[.int a t, .int b u] }).objs.size s.heap.objs.size (by rw [hsz]; exact Nat.ne_of_lt (Nat.lt_succ_self _)) (fun q => ?_) (intItems #[(a, t), (b, u)]),
    ⟨⟨_, Heap.get?_push_size _ rfl, rfl, rfl⟩, hT.push _, hh.frame fun c hc o e => Heap.get?_push_of_some _ (Heap.get?_push_of_some _ e)⟩, fun c hc => ?_, by simp [intItems], CmpOf.ints_gt (numAt #[(a, t), (b, u)]) (fun _ _ => intItems_at), fun v h' tk hP hk => ?_⟩
  · exact absurd (hal _ q) (by rw [hsz]; exact fun z => Nat.lt_irrefl _ (Nat.lt_of_succ_lt z))
  · show c < ((s.heap.push _).push _).objs.size
    rw [Heap.size_push, hsz]
    rcases List.mem_append.mp hc with hc | hc
    · rcases List.mem_cons.mp hc with rfl | hc
      · rw [hsz]; exact Nat.lt_succ_self _
      · rcases List.mem_cons.mp hc with rfl | hc
        · exact Nat.lt_succ_of_lt (Nat.lt_succ_self _)
        · cases hc
    · exact Nat.lt_succ_of_lt (Nat.lt_succ_of_lt (hal c hc))
  · have hold : s.heap.StaysIn h' := fun c o e => by
      refine hk c o (fun hm => ?_) (Heap.get?_push_of_some _ (Heap.get?_push_of_some _ e))
      rcases List.mem_cons.mp hm with e1 | hm
      · have := Heap.lt_size e; rw [e1, hsz] at this; exact Nat.lt_irrefl _ (Nat.lt_of_succ_lt this)
      · cases hm
    have hP' : (intItems #[(a, t), (b, u)])[argBest (fun i j => decide (numAt #[(a, t), (b, u)] i > numAt #[(a, t), (b, u)] j)) 1]? = some v := by
      have hsz2 : (intItems #[(a, t), (b, u)]).size - 1 = 1 := by simp [intItems]
      rw [← hsz2]; exact hP
    by_cases hba : b > a
    · have e : argBest (fun i j => decide (numAt #[(a, t), (b, u)] i > numAt #[(a, t), (b, u)] j)) 1 = 1 := by simp [argBest, numAt, hba]
      rw [e] at hP'
      have hv : v = .int b u := by simpa [intItems] using hP'.symm
      have := h h' tk u hold
      rw [if_pos hba] at this
      rw [hv]; exact this
    · have e : argBest (fun i j => decide (numAt #[(a, t), (b, u)] i > numAt #[(a, t), (b, u)] j)) 1 = 0 := by simp [argBest, numAt, hba]
      rw [e] at hP'
      have hv : v = .int a t := by simpa [intItems] using hP'.symm
      have := h h' tk t hold
      rw [if_neg hba] at this
      rw [hv]; exact this

theorem forLst {env : Env} {m : PySem.Str → Option Value} {target : PySem.Expr} {body : List Stmt} {l : Addr} {items : Array Value} (hh : Hok A s.heap) (F : Fq w G env.locals s.heap m) (hl : s.heap.IsList l items)
    (hgo : ∀ (I l : Addr) (i : Nat) (s : Shared) v (Q : Unit → Shared → Prop) (E : Value → Shared → Prop), s.heap.IsListIter I l i → Q () s → wpAny (model prog w) A (letOwnedTupleGo target (.ref I) v) Q E s)
    (Jm : Nat → (PySem.Str → Option Value) → Prop) (h0 : Jm 0 m)
    (step : ∀ i v G' s₁ m₁, items[i]? = some v → Jm i m₁ → Fq w G' env.locals s₁.heap m₁ → G.StaysIn G' → SameX s s₁ → Hok A G' →
      wpAny (model prog w) A (assign target env v) (fun _ s₂ => wpAny (model prog w) A (execs body env) (fun f s₃ => match f with
          | .next | .cont => (∃ m₂, Fq w G' env.locals s₃.heap m₂ ∧ Jm (i + 1) m₂) ∧ SameX s₁ s₃
          | .brk => R (.ok .next) s₃
          | .ret v => R (.ok (.ret v)) s₃) (notedBy (model prog w) A env fun e s' => R (.error e) s') s₂) (notedBy (model prog w) A env fun e s' => R (.error e) s') s₁)
    (done : ∀ s₁ m₁, Jm items.size m₁ → Fq w G env.locals s₁.heap m₁ → SameX s s₁ → R (.ok .next) s₁) (hG : ∀ b ∈ hadr A, ∀ o, s.heap.get? b = some o → G.get? b = some o) :
    wpAny (model prog w) A (pyIter (.ref l)) (fun it s₂ => codeAny (model prog w) A (.forLoop target it body [] env) R s₂) E s := by
  refine wpAny_pyIter_list hl ?_
  have hlt : l < s.heap.objs.size := by obtain ⟨o, e, _⟩ := hl; exact Heap.lt_size e
  have hne : l ≠ s.heap.objs.size := Nat.ne_of_lt hlt
  have k₁ : s.heap.StaysIn (s.heap.push { cls := .type "list_iterator", data := .fields #[.ref l, .int 0 0] }) := fun b o e => Heap.get?_push_of_some _ e
  have hG' : Hok A G := by
    rcases hh with hh | ⟨e, hh, o, vs, he, r⟩
    · exact .inl hh
    · exact .inr ⟨e, hh, o, vs, hG e (mem_hadr hh) o he, r⟩
  refine forQ (s := { s with heap := s.heap.push { cls := .type "list_iterator", data := .fields #[.ref l, .int 0 0] } }) (L := env.locals) (walksList s.heap.objs.size l hne (fun q => hadr_alive hh q rfl) items) (fun i s v Q E st hQ => hgo _ _ _ s v Q E st.1 hQ) (F.keeps k₁)
    ⟨⟨_, Heap.get?_push_size _ rfl, rfl, rfl⟩, hl.push _, hh.frame fun b _ o e => k₁ b o e⟩ ?_ ?_ Jm h0 (fun i v G' s₁ m₁ _ hv hJ F' sub hX => step i v G' s₁ m₁ hv hJ F' sub hX (hG'.frame fun b _ o e => sub b o e)) done
  · intro b hb
    rw [List.mem_singleton.mp hb]
    exact hidden_of F.keep (Nat.le_refl _)
  · simp only [List.cons_append, List.nil_append, List.mem_cons, not_or]
    exact ⟨Nat.ne_of_lt F.lt, F.ne_list hl, F.not_hadr hh⟩
end
end Mine
-- NJ
namespace Mine

theorem due_snoc {ms : List Mark} {m : Mark} {p : Way} {i : Int} : due (ms ++ [m]) p i = if Speaks m p i then (if m.sure > due ms p i then m.sure else due ms p i) else due ms p i := by
  unfold due; rw [List.foldl_append]; rfl
theorem due_succ {ms : List Mark} {m : Mark} {p : Way} {i : Int} {k : Nat} (h : ms[k]? = some m) : due (ms.take (k + 1)) p i = if Speaks m p i then (if m.sure > due (ms.take k) p i then m.sure else due (ms.take k) p i) else due (ms.take k) p i := by
  rw [List.take_add_one, h]
  exact due_snoc

section
variable {prog : Program} {w : World} {A : Around} {E : Value → Shared → Prop} {s : Shared} {G : Heap} {R : Result → Shared → Prop}
theorem eq_ways {a b : Value} {p q : Way} {Q : Value → Shared → Prop} (x : WayAt s.heap a p) (y : WayAt s.heap b q) (hu : A.units + 64 < cLine) (h : Q (.bool (decide (p = q))) s) : wpAny (model prog w) A (compareOp .Eq a b) Q E s :=
  eq_dataH x.reads y.reads (shaped_wd x.names) (shaped_wd y.names) hu (by rw [eqv_wd]; exact h)
theorem ne_ways {a b : Value} {p q : Way} {Q : Value → Shared → Prop} (x : WayAt s.heap a p) (y : WayAt s.heap b q) (hu : A.units + 64 < cLine) (h : Q (.bool (!decide (p = q))) s) : wpAny (model prog w) A (compareOp .NotEq a b) Q E s :=
  ne_dataH x.reads y.reads (shaped_wd x.names) (shaped_wd y.names) hu (by rw [eqv_wd]; exact h)

set_option maxRecDepth 100000 in
set_option maxHeartbeats 8000000 in
theorem due_spec {b : Addr} {ms : List Mark} {kv : Value} {p : Way} {i : Int} {t : Tok} (g : Gd w G) (hk : G.StaysIn s.heap) (hroom : A.depth < recursionLimit) (hu : A.units + 80 < cLine) (hh : Hok A s.heap)
    (hb : BookAt s.heap b ms) (hw : WayAt s.heap kv p)
    (good : ∀ s' u, s.heap.StaysIn s'.heap → SameX s s' → R (.ok (.ret (.int (due ms p i) u))) s') :
    codeAny (model prog w) A (.call (.ref 84) ⟨[.ref b, kv, .int i t], []⟩) R s := by
  refine enterQ [("marks", .ref b), ("way", kv), ("flag", .int i t)] (fun a => False) g hk (by simp) (f := 84) rfl (by with_unfolding_all rfl) hroom rfl (locs rfl) ?_
  intro L h₁ G₁ tk hLe F sG hG1 _ _
  replace sG := sG.stays
  have hu' : A.units + 3 + 64 < cLine := by omega
  have hh₁ : Hok A G₁ := hh.frame fun b _ o e => sG b o e
  obtain ⟨items, hl, hall⟩ := hb
  have hall₁ := hall.imp fun _ _ z => z.keeps sG
  have hw₁ := hw.keeps sG
  refine wpAny_abs ?_; intro Q₀ E₀
  refine wpAny_execs_cons (wpAny_Assign_Name (wpAny_Constant_int ?_))
  refine q_st F fun h₂ tk₂ F₂ s₂ => ?_
  dsimp only
  have hl₂ : h₂.IsList b items := (hl.at fun o e => F₂.keep _ o (sG _ o e)).isList
  refine wpAny_execs_cons (wpAny_For (q_ld F₂ rfl ?_))
  refine forLst (A := A.deeper _) (hh₁.frame fun b _ o e => F₂.keep b o e) F₂ hl₂ (fun I l i s v Q E hit hQ => goListTup hit hQ)
    (fun k m₁ => m₁ "way" = some kv ∧ m₁ "flag" = some (.int i t) ∧ ∃ u, m₁ "due" = some (.int (due (ms.take k) p i) u)) ⟨rfl, rfl, _, rfl⟩ ?_ ?_ ?_
  · rintro k v G' s₃ m₃ hv ⟨e1, e2, ud, e3⟩ F₃ sub hX hG'
    obtain ⟨mk, hmk, a, pv, tt, uu, rfl, ht, hpv⟩ := hall₁.get (i := k) (by rw [Array.getElem?_toList]; exact hv)
    refine q_tup4 (A := A.deeper _) (hG'.frame fun b _ o e => F₃.keep b o e) F₃ ((ht.keeps sub).keeps F₃.keep) fun h₄ tk₄ F₄ kp₄ => ?_
    dsimp only at F₄ ⊢
    have hw₄ : WayAt h₄ kv p := (hw₁.keeps sub).keeps F₄.keep
    have hp₄ : WayAt h₄ pv mk.place := (hpv.keeps sub).keeps F₄.keep
    refine wpAny_abs ?_; intro Q₀ E₀
    refine wpAny_execs_cons (wpAny_If (wpAny_mono (Q := fun c s' => (c = true ↔ Speaks mk p i) ∧ ∃ h' tk', s' = { s₃ with heap := h', toks := tk' } ∧ h₄.StaysIn h') ?_ (fun c s' hc => ?_) fun _ _ e => e))
    · refine isTrue_and (wpAny_isTrue_Compare1 (q_ld F₄ rfl (q_ld F₄ e2 (eq_int (wpAny_truthy_bool ?_)))))
      by_cases hi : mk.its = i
      · rw [if_pos (by simpa using hi)]
        refine isTrue_and (isTrue_or (wpAny_isTrue_Compare1 (q_ld F₄ rfl (q_ld F₄ e1 (eq_ways hp₄ hw₄ hu' (wpAny_truthy_bool ?_))))))
        by_cases hpl : mk.place = p
        · rw [if_pos (by simpa using hpl), if_pos rfl]
          exact isTrue_and_nil ⟨⟨fun _ => ⟨hi, .inl hpl⟩, fun _ => rfl⟩, h₄, _, rfl, fun _ _ e => e⟩
        · rw [if_neg (by simpa using hpl)]
          refine isTrue_or (isTrue_and (isTrue_plain (q_ld F₄ rfl (wpAny_truthy_bool ?_))))
          cases hd : mk.deep with
          | false =>
            rw [if_neg (by decide), if_neg (by decide)]
            refine isTrue_or_nil ?_
            rw [if_neg (by decide)]
            refine ⟨⟨fun q => (Bool.false_ne_true q).elim, fun q => ?_⟩, h₄, _, rfl, fun _ _ e => e⟩
            rcases q.2 with q | q
            · exact absurd q hpl
            · rw [hd] at q; cases q.1
          | true =>
            rw [if_pos rfl]
            refine isTrue_and (wpAny_isTrue_Compare1 (q_ld F₄ rfl (q_slice (q_ld F₄ e1 (Call_ (q_bi F₄ (by kernel_rfl) boot_len (by decide) (PyProof.Rows.callWith_builtin1 ?_)))))))
            obtain ⟨wa, wvs, rfl, htw, hsw, hnw, hpw⟩ := hw₄
            obtain ⟨pa, pvs, rfl, htp, hsp, hnp, hpp⟩ := hp₄
            refine args_cons (q_ld F₄ rfl (args_nil (len_tuple htp (strs_lt hsp hpp).1 ?_)))
            refine ⟨wa, wvs.toArray, _, _, rfl, rfl, htw, (strs_lt hsw hpw).2, fun a' h₅ k₅ ht' => ?_⟩
            have hlp := hsp.length
            have hlw := hsw.length
            have hup : upto (pvs.toArray.size : Int) wvs.toArray.size = min mk.place.length p.length := by simp [upto, hlp, hlw]; omega
            rw [hup] at ht'
            have hw₅ : WayAt h₅ (.ref a') (p.take mk.place.length) := by
              refine ⟨a', wvs.take (min mk.place.length p.length), rfl, by simpa using ht', ?_, fun x hx => hnw x (List.mem_of_mem_take hx), by rw [List.length_take]; omega⟩
              have := hsw.take' (min mk.place.length p.length)
              have e : p.take (min mk.place.length p.length) = p.take mk.place.length := by
                rcases Nat.le_total mk.place.length p.length with z | z
                · rw [Nat.min_eq_left z]
                · rw [Nat.min_eq_right z, List.take_length, List.take_of_length_le z]
              rwa [e] at this
            have hp₅ : WayAt h₅ (.ref pa) mk.place := ⟨pa, pvs, rfl, htp.keeps k₅, hsp, hnp, hpp⟩
            refine eq_ways hp₅ hw₅ hu' (wpAny_truthy_bool ?_)
            by_cases hpre : mk.place <+: p
            · have he : mk.place = p.take mk.place.length := List.prefix_iff_eq_take.mp hpre
              rw [if_pos (by simpa using he)]
              refine isTrue_and_nil ?_
              rw [if_pos rfl, if_pos rfl]
              exact isTrue_and_nil ⟨⟨fun _ => ⟨hi, .inr ⟨hd, hpre⟩⟩, fun _ => rfl⟩, h₅, _, rfl, k₅⟩
            · have he : ¬ mk.place = p.take mk.place.length := fun q => hpre (List.prefix_iff_eq_take.mpr q)
              rw [if_neg (by simpa using he), if_neg (by decide)]
              refine isTrue_or_nil ?_
              rw [if_neg (by decide)]
              refine ⟨⟨fun q => (Bool.false_ne_true q).elim, fun q => ?_⟩, h₅, _, rfl, k₅⟩
              rcases q.2 with q | q
              · exact absurd q hpl
              · exact absurd q.2 hpre
      · rw [if_neg (by simpa using hi)]
        exact ⟨⟨fun q => (Bool.false_ne_true q).elim, fun q => absurd q.1 hi⟩, h₄, _, rfl, fun _ _ e => e⟩
    · obtain ⟨hc, h₅, tk₅, rfl, k₅⟩ := hc
      have F₅ := F₄.keeps k₅
      cases c with
      | true =>
        have hsp := hc.mp rfl
        rw [if_pos rfl]
        refine wpAny_execs_cons (wpAny_Assign_Name (Call_ (q_bi F₅ (by kernel_rfl) boot_max (by decide) (PyProof.Rows.callWith_builtin1 ?_))))
        refine args_cons (q_ld F₅ e3 (args_cons (q_ld F₅ rfl (args_nil (max_ok (A := A.deeper _) (hG'.frame fun b _ o e => F₅.keep b o e) fun h₆ tk₆ ut k₆ => ?_)))))
        refine q_st (F₅.keeps k₆) fun h₇ tk₇ F₇ s₇ => ?_
        dsimp only
        refine wpAny_execs_nil ?_
        dsimp only
        refine wpAny_execs_nil ⟨⟨_, F₇, e1, e2, ut, ?_⟩, .refl⟩
        rw [due_succ hmk, if_pos hsp]
        rfl
      | false =>
        have hsp : ¬ Speaks mk p i := fun q => by have := hc.mpr q; cases this
        rw [if_neg (by decide)]
        refine wpAny_execs_nil ?_
        dsimp only
        refine wpAny_execs_nil ⟨⟨_, F₅, e1, e2, ud, ?_⟩, .refl⟩
        rw [due_succ hmk, if_neg hsp]
        exact e3
  · rintro s₃ m₃ ⟨e1, e2, ud, e3⟩ F₃ hX
    dsimp only
    refine wpAny_execs_cons (wpAny_Return_some (q_ld F₃ e3 ?_))
    have hlen : items.size = ms.length := by have := hall.length; rwa [Array.length_toList] at this
    rw [hlen, List.take_length]
    exact good _ _ (fun b o e => F₃.keep b o (sG b o e)) hX
  · intro c hc o e
    rcases hh with hh | ⟨e', hh, o', vs, he', r⟩
    · have := hadr_mem hc; rw [show (A.deeper _).handled = A.handled from rfl, hh] at this; cases this
    · have := hadr_mem hc; rw [show (A.deeper _).handled = A.handled from rfl, hh] at this; cases this
      have := F₂.keep _ _ (sG _ _ he')
      rw [e] at this; cases this
      exact sG _ _ he'
end
end Mine
-- NK
namespace Mine

/-- what the law keeps of a machine: its marks M, what waits l, its book, its list of waits -/
structure Ma where
  c : Mc
  M : Tr
  l : List (Way × Int)
  b : Addr
  ms : List Mark
  wt : Addr
noncomputable def Agree (M : Tr) (ms : List Mark) (p : Way) (i : Int) : Prop := (Told M p i → due ms p i ≠ 0) ∧ (¬ Told M p i → due ms p i ≠ 2)

section
variable {prog : Program} {w : World} {A : Around} {E : Value → Shared → Prop} {s : Shared} {G : Heap} {R : Result → Shared → Prop}
theorem forRng {env : Env} {m : PySem.Str → Option Value} {x : PySem.Str} {px : Pos} {body : List Stmt} {r : Addr} {n : Nat} {t u v : Tok} (hh : A.handled = none) (F : Fq w G env.locals s.heap m) (hr : IsRange s.heap r 0 n 1 t u v) (hn : n < 1000)
    (Jm : Nat → (PySem.Str → Option Value) → Prop) (h0 : Jm 0 m)
    (step : ∀ (i : Nat) tk G' s₁ m₁, i < n → Jm i m₁ → Fq w G' env.locals s₁.heap m₁ → G.StaysIn G' → SameX s s₁ →
      wpAny (model prog w) A (assign (.Name x px) env (.int i tk)) (fun _ s₂ => wpAny (model prog w) A (execs body env) (fun f s₃ => match f with
          | .next | .cont => (∃ m₂, Fq w G' env.locals s₃.heap m₂ ∧ Jm (i + 1) m₂) ∧ SameX s₁ s₃
          | .brk => R (.ok .next) s₃
          | .ret v => R (.ok (.ret v)) s₃) (notedBy (model prog w) A env fun e s' => R (.error e) s') s₂) (notedBy (model prog w) A env fun e s' => R (.error e) s') s₁)
    (done : ∀ s₁ m₁, Jm n m₁ → Fq w G env.locals s₁.heap m₁ → SameX s s₁ → R (.ok .next) s₁) :
    wpAny (model prog w) A (pyIter (.ref r)) (fun it s₂ => codeAny (model prog w) A (.forLoop (.Name x px) it body [] env) R s₂) E s := by
  have hsz : Builtin.Range.rangeSize 0 (n : Int) 1 = n := by rw [rangeSize_one]; split <;> omega
  refine wpAny_pyIter_range hr (small_one (by omega) (by omega) (by omega) (by omega)) ?_
  rw [hsz]
  have k₁ : s.heap.StaysIn (s.heap.push { cls := .type "range_iterator", data := .fields #[rawInt 0, rawInt n, rawInt 1] }) := fun b o e => Heap.get?_push_of_some _ e
  refine forQ (s := { s with heap := s.heap.push { cls := .type "range_iterator", data := .fields #[rawInt 0, rawInt n, rawInt 1] } }) (L := env.locals) (Walks.range hh s.heap.objs.size 0 1 n) (fun _ _ _ _ _ _ h => wpAny_pure h) (F.keeps k₁) ?_ ?_ ?_ Jm h0 (fun i v G' s₁ m₁ hi hv hJ F' sub hX => ?_) done
  · have := Heap.get?_push_size s.heap (o := { cls := .type "range_iterator", data := .fields #[rawInt 0, rawInt n, rawInt 1] }) rfl
    simpa [IsRangeIter] using this
  · intro b hb
    rw [List.mem_singleton.mp hb]
    exact hidden_of F.keep (Nat.le_refl _)
  · simp only [List.mem_singleton]
    exact Nat.ne_of_lt F.lt
  · obtain ⟨tk, rfl⟩ := hv
    rw [n_one i]
    exact step i tk G' s₁ m₁ hi hJ F' sub hX

theorem goN {x : PySem.Str} {px : Pos} : ∀ (I l : Addr) (i : Nat) (s : Shared) v (Q : Unit → Shared → Prop) (E : Value → Shared → Prop), s.heap.IsListIter I l i → Q () s → wpAny (model prog w) A (letOwnedTupleGo (.Name x px) (.ref I) v) Q E s :=
  fun _ _ _ _ _ _ _ _ h => wpAny_pure h

theorem q_item {L f : Addr} {m : PySem.Str → Option Value} {cn : PySem.Str} {cs : Scope} {ccd : Value} {cl : List (PySem.Str × Addr)} {x y : PySem.Str} {px py pos : Pos} {l : Addr} {items : Array Value} {k : Nat} {u : Tok} {v : Value} {Q : Value → Shared → Prop}
    (F : Fq w G L s.heap m) (hx : m x = some (.ref l)) (hy : m y = some (.int k u)) (hl : s.heap.IsList l items) (hk0 : k < 1000) (hv : items[k]? = some v) (h : Q v s)
    (hk : cs.kind = .function := by rfl) (hkx : (envX cn cs L f ccd cl).kindOf x = some .local := by rfl) (hky : (envX cn cs L f ccd cl).kindOf y = some .local := by rfl)
    (hdx : (x == ("__debug__" : PySem.Str)) = false := by decide) (hdy : (y == ("__debug__" : PySem.Str)) = false := by decide) :
    wpAny (model prog w) A (eval (.Subscript (.Name x px) (.Name y py) pos) (envX cn cs L f ccd cl)) Q E s :=
  Subscript_ (q_ld F hx (q_ld F hy (tail_any hl.typeIs slot_list_getitem.lookup (wpAny_getItem_list hl (by omega) (by omega) (by simpa using hv) h) (by with_unfolding_all rfl)) hk hky hdy) hk hkx hdx)

set_option maxRecDepth 100000 in
set_option maxHeartbeats 16000000 in
theorem asdue_spec {fs : List Int} {mas : List Ma} {ps : List Way} {lm lb lw lf : Addr} {im ib iw ifl : Array Value} (g : Gd w G) (hk : G.StaysIn s.heap) (hroom : A.depth + 1 < recursionLimit) (hu : A.units + 100 < cLine) (hh : A.handled = none)
    (hm : s.heap.PlainList lm im) (hmi : AllAt (fun v m => v = .ref m.c.x) im.toList mas) (hb : s.heap.PlainList lb ib) (hbi : AllAt (fun v m => v = .ref m.b) ib.toList mas)
    (hw : s.heap.PlainList lw iw) (hwi : AllAt (WayAt s.heap) iw.toList ps) (hf : s.heap.PlainList lf ifl) (hfi : AllAt (fun v (i : Int) => ∃ t, v = .int i t) ifl.toList fs) (hlen : mas.length < 1000)
    (hM : ∀ m ∈ mas, Mach prog w fs s.heap m.c m.M m.l ∧ BookAt s.heap m.b m.ms) (hA : ∀ m ∈ mas, ∀ p i, i ∈ fs → Agree m.M m.ms p i)
    (good : ∀ s', s.heap.StaysIn s'.heap → SameX s s' → R (.ok (.ret (.bool true))) s') :
    codeAny (model prog w) A (.call (.ref 91) ⟨[.ref lm, .ref lb, .ref lw, .ref lf], []⟩) R s := by
  refine enterQ [("machines", .ref lm), ("books", .ref lb), ("ways", .ref lw), ("flags", .ref lf)] (fun a => False) g hk (by simp) (f := 91) rfl (by with_unfolding_all rfl) (by omega) rfl (locs rfl) ?_
  intro L h₁ G₁ tk hLe F sG hG1 _ _
  replace sG := sG.stays
  refine wpAny_abs ?_; intro Q₀ E₀
  have hlenm : im.size = mas.length := by have := hmi.length; rwa [Array.length_toList] at this
  have nohad : ∀ b ∈ hadr (A.deeper (envX "_law_as_due" default L 91 (.ref 90) [])), False := fun b q => by have := hadr_mem q; rw [show (A.deeper _).handled = A.handled from rfl, hh] at this; cases this
  refine wpAny_execs_cons (wpAny_For (Call_ (q_bi F (by kernel_rfl) boot_range (by decide) (PySem.Pv.callWith_type1 ?_))))
  refine args_cons (Call_ (q_bi F (by kernel_rfl) boot_len (by decide) (PyProof.Rows.callWith_builtin1 ?_)))
  refine args_cons (q_ld F rfl (args_nil (PyProof.Rows.len_list (hm.at fun o e => F.keep _ o (sG _ o e)).isList (by rw [hlenm]; omega) ?_)))
  refine args_nil (call_range_1 ?_)
  rw [hlenm]
  refine forRng (A := A.deeper _) hh (F.keeps fun b o e => Heap.get?_push_of_some _ e) (Heap.get?_push_size _ rfl) hlen
    (fun k m₁ => m₁ "machines" = some (.ref lm) ∧ m₁ "books" = some (.ref lb) ∧ m₁ "ways" = some (.ref lw) ∧ m₁ "flags" = some (.ref lf)) ⟨rfl, rfl, rfl, rfl⟩ ?_ ?_
  · rintro k tk₁ G' s₁ m₁ hklt ⟨e1, e2, e3, e4⟩ F₁ sub hX
    have sG' : s.heap.StaysIn G' := fun b o e => sub b o (sG b o e)
    obtain ⟨mk, hmk⟩ : ∃ mk, mas[k]? = some mk := ⟨mas[k], List.getElem?_eq_getElem hklt⟩
    have hmem := List.mem_of_getElem? hmk
    have himk : im[k]? = some (.ref mk.c.x) := by
      have hk' : k < im.size := by omega
      obtain ⟨x, hx, e⟩ := hmi.get (i := k) (v := im[k]) (by rw [Array.getElem?_toList]; exact Array.getElem?_eq_getElem hk')
      rw [hmk] at hx; cases hx
      rw [Array.getElem?_eq_getElem hk', e]
    have hibk : ib[k]? = some (.ref mk.b) := by
      have hlb : ib.size = mas.length := by have := hbi.length; rwa [Array.length_toList] at this
      have hk' : k < ib.size := by omega
      obtain ⟨x, hx, e⟩ := hbi.get (i := k) (v := ib[k]) (by rw [Array.getElem?_toList]; exact Array.getElem?_eq_getElem hk')
      rw [hmk] at hx; cases hx
      rw [Array.getElem?_eq_getElem hk', e]
    refine q_assignName F₁ fun h₂ tk₂ F₂ s₂ => ?_
    refine wpAny_abs ?_; intro Q₁ E₁
    refine wpAny_execs_cons (wpAny_For (q_ld F₂ e3 ?_))
    refine forLst (A := A.deeper _) (.inl hh) F₂ (hw.at fun o e => F₂.keep _ o (sG' _ o e)).isList goN
      (fun j m₂ => m₂ "machines" = some (.ref lm) ∧ m₂ "books" = some (.ref lb) ∧ m₂ "ways" = some (.ref lw) ∧ m₂ "flags" = some (.ref lf) ∧ ∃ u, m₂ "k" = some (.int k u)) ⟨e1, e2, e3, e4, _, rfl⟩ ?_ ?_ ?_
    · rintro j vw G₂ s₃ m₃ hvw ⟨e1, e2, e3, e4, uk, e5⟩ F₃ sub₂ hX₃ _
      have sG₂ : s.heap.StaysIn G₂ := fun b o e => sub₂ b o (sG' b o e)
      obtain ⟨p, hp, hwp⟩ := hwi.get (i := j) (by rw [Array.getElem?_toList]; exact hvw)
      refine q_assignName F₃ fun h₄ tk₄ F₄ s₄ => ?_
      refine wpAny_abs ?_; intro Q₂ E₂
      refine wpAny_execs_cons (wpAny_For (q_ld F₄ e4 ?_))
      refine forLst (A := A.deeper _) (.inl hh) F₄ (hf.at fun o e => F₄.keep _ o (sG₂ _ o e)).isList goN
        (fun j m₂ => m₂ "machines" = some (.ref lm) ∧ m₂ "books" = some (.ref lb) ∧ m₂ "ways" = some (.ref lw) ∧ m₂ "flags" = some (.ref lf) ∧ (∃ u, m₂ "k" = some (.int k u)) ∧ m₂ "way" = some vw) ⟨e1, e2, e3, e4, ⟨_, e5⟩, rfl⟩ ?_ ?_ ?_
      · rintro jf vf G₃ s₅ m₅ hvf ⟨e1, e2, e3, e4, ⟨uk, e5⟩, e6⟩ F₅ sub₃ hX₅ _
        have sG₃ : s.heap.StaysIn G₃ := fun b o e => sub₃ b o (sG₂ b o e)
        obtain ⟨i, hi, tf, rfl⟩ := hfi.get (i := jf) (by rw [Array.getElem?_toList]; exact hvf)
        have hifs : i ∈ fs := List.mem_of_getElem? hi
        refine q_assignName F₅ fun h₆ tk₆ F₆ s₆ => ?_
        refine wpAny_abs ?_; intro Q₃ E₃
        have S₆ : s.heap.StaysIn h₆ := fun b o e => F₆.keep b o (sG₃ b o e)
        have X₆ := (hM mk hmem).1.keeps S₆
        have B₆ := (hM mk hmem).2.keeps S₆
        -- told
        refine wpAny_execs_cons (wpAny_Assign_Name (MethodCall_ (q_item F₆ e1 e5 (hm.at fun o e => S₆ _ o e).isList (by omega) himk ?_)))
        refine q_method F₆ X₆.inst (pg_is w) (fi_is w) (fn_is w) (fun _ _ _ _ => rfl) (callWith_K (F₆.g.K.keeps F₆.keep) (kp_is w) ?_)
        refine args_cons (q_ld F₆ e6 (args_cons (q_ld F₆ rfl (args_nil ⟨F₆.g.K.keeps F₆.keep, ?_⟩))))
        refine wpAny_callK (is_spec (A := A.deeper _) F₆.g F₆.keep (by show A.depth + 1 < recursionLimit; exact hroom) (.inl hh) X₆.inst X₆.tree (hwp.keeps S₆) fun told s₇ htold k₇ hX₇ => ?_)
        refine q_st (s := s₇) (F₆.keeps k₇) fun h₈ tk₈ F₈ s₈ => ?_
        dsimp only
        have S₈ : s.heap.StaysIn h₈ := fun b o e => F₈.keep b o (sG₃ b o e)
        -- due
        refine wpAny_execs_cons (wpAny_Assign_Name (Call_ (q_glob F₈ (v := .ref 84) (by kernel_rfl) (callWith_K (F₈.g.K.keeps F₈.keep) (by kernel_rfl) ?_))))
        refine args_cons (q_item F₈ e2 e5 (hb.at fun o e => S₈ _ o e).isList (by omega) hibk ?_)
        refine args_cons (q_ld F₈ e6 (args_cons (q_ld F₈ rfl (args_nil ⟨F₈.g.K.keeps F₈.keep, ?_⟩))))
        refine wpAny_callK (due_spec (A := A.deeper _) F₈.g F₈.keep (by show A.depth + 1 < recursionLimit; exact hroom) (by show A.units + 3 + 80 < cLine; exact u_less (a := A.units) (m := 83) hu (by decide)) (.inl hh) ((hM mk hmem).2.keeps S₈) (hwp.keeps S₈) fun s₉ ud k₉ hX₉ => ?_)
        refine q_st (s := s₉) (F₈.keeps k₉) fun h₁₀ tk₁₀ F₁₀ s₁₀ => ?_
        dsimp only
        have agree := hA mk hmem p i hifs
        have X₉ : SameX s₅ { s₉ with heap := h₁₀, toks := tk₁₀ } := hX₇.trans hX₉
        refine wpAny_execs_cons (wpAny_If (wpAny_mono (Q := fun c s' => c = false ∧ ∃ tk', s' = { s₉ with heap := h₁₀, toks := tk' }) ?_ (fun c s' hc => ?_) fun _ _ e => e))
        · refine isTrue_or (isTrue_not (isTrue_plain (Call_ (q_bi F₁₀ (by kernel_rfl) boot_isi (by decide) (PyProof.Rows.callWith_builtin1 ?_)))))
          refine args_cons (q_ld F₁₀ rfl (args_cons (q_bi F₁₀ (by kernel_rfl) boot_bool (by decide) (args_nil (call_isinstance_yes (Tx := "bool") rfl ?_ ?_ ?_)))))
          · kernel_rfl
          · rw [isSubtype_type]; kernel_rfl
          · refine wpAny_truthy_bool ?_
            rw [if_neg (by decide)]
            refine isTrue_or (isTrue_and (isTrue_plain (q_ld F₁₀ rfl (wpAny_truthy_bool ?_))))
            cases told with
            | true =>
              have hd := agree.1 (htold.mp rfl)
              rw [if_pos rfl]
              refine isTrue_and (wpAny_isTrue_Compare1 (q_ld F₁₀ rfl (wpAny_Constant_int (eq_int (wpAny_truthy_bool ?_)))))
              rw [if_neg (by simpa using hd), if_neg (by decide)]
              refine isTrue_or (isTrue_and (isTrue_not (isTrue_plain (q_ld F₁₀ rfl (wpAny_truthy_bool ?_)))))
              rw [if_neg (by decide), if_neg (by decide)]
              exact isTrue_or_nil ⟨rfl, _, rfl⟩
            | false =>
              have hd := agree.2 (fun q => (Bool.false_ne_true (htold.mpr q)))
              rw [if_neg (by decide), if_neg (by decide)]
              refine isTrue_or (isTrue_and (isTrue_not (isTrue_plain (q_ld F₁₀ rfl (wpAny_truthy_bool ?_)))))
              rw [if_pos (by decide)]
              refine isTrue_and (wpAny_isTrue_Compare1 (q_ld F₁₀ rfl (wpAny_Constant_int (eq_int (wpAny_truthy_bool ?_)))))
              rw [if_neg (by simpa using hd), if_neg (by decide)]
              exact isTrue_or_nil ⟨rfl, _, rfl⟩
        · obtain ⟨rfl, tk', rfl⟩ := hc
          rw [if_neg (by decide)]
          refine wpAny_execs_nil ?_
          dsimp only
          refine wpAny_execs_nil ⟨⟨_, F₁₀, e1, e2, e3, e4, ⟨_, e5⟩, e6⟩, X₉⟩
      · rintro s₅ m₅ ⟨e1, e2, e3, e4, ⟨uk, e5⟩, e6⟩ F₅ hX₅
        dsimp only
        exact wpAny_execs_nil ⟨⟨_, F₅, e1, e2, e3, e4, _, e5⟩, hX₅⟩
      · intro b q; exact (nohad b q).elim
    · rintro s₃ m₃ ⟨e1, e2, e3, e4, uk, e5⟩ F₃ hX₃
      dsimp only
      exact wpAny_execs_nil ⟨⟨_, F₃, e1, e2, e3, e4⟩, hX₃⟩
    · intro b q; exact (nohad b q).elim
  · rintro s₁ m₁ _ F₁ hX
    dsimp only
    refine wpAny_execs_cons (wpAny_Return_some (wpAny_Constant_bool ?_))
    exact good _ (fun b o e => F₁.keep b o (sG b o e)) hX
end
end Mine
-- NL
namespace Mine

noncomputable def testsOf (ifs : List PySem.Expr) (env : Env) : Sem Bool := forIn ifs true fun c r => if r = true then do let ok ← isTrue c env (eval c env); pure (ForInStep.yield ok) else pure (ForInStep.yield r)

section
variable {prog : Program} {w : World} {A : Around} {E : Value → Shared → Prop} {R : Result → Shared → Prop} {s : Shared}
theorem compLoopG {elt target iter : PySem.Expr} {ifs : List PySem.Expr} {scope : Scope} {pos : Pos} {it acc : Value} {env : Env} (I : Nat → Shared → Prop)
    (turn : ∀ n s, I n s → wpAny (model prog w) A (pyNext it) (fun r s₁ => match r with
      | none => R (.ok .next) s₁
      | some v => wpAny (model prog w) A (letOwnedTupleGo target it v) (fun _ s₁ => wpAny (model prog w) A (assign target env v) (fun _ s₂ =>
          wpAny (model prog w) A (testsOf ifs env) (fun ok s₃ =>
            if ok = true then wpAny (model prog w) A (eval elt env) (fun x s₄ =>
              wpAny (model prog w) A (call (.builtin "list.append") [acc, x]) (fun _ s₅ => ∃ m, m < n ∧ I m s₅) (notedBy (model prog w) A env fun e s' => R (.error e) s') s₄) (notedBy (model prog w) A env fun e s' => R (.error e) s') s₃
            else ∃ m, m < n ∧ I m s₃) (notedBy (model prog w) A env fun e s' => R (.error e) s') s₂) (notedBy (model prog w) A env fun e s' => R (.error e) s') s₁) (notedBy (model prog w) A env fun e s' => R (.error e) s') s₁)
        (notedBy (model prog w) A env fun e s' => R (.error e) s') s)
    (n : Nat) (h : I n s) : codeAny (model prog w) A (.compLoop (.ListComp elt [⟨target, iter, ifs, 0⟩] scope pos) 0 it acc env) R s := by
  refine codeAny_loop rfl I (fun n s hI => ?_) n h
  show wpAny _ A ((compTurn (.ListComp elt [⟨target, iter, ifs, 0⟩] scope pos) 0 it acc env).onRaise (fun x => do noteFrame x env; theTreesLotGoes x)) _ _ s
  refine wpAny_noted ?_
  rw [compTurn_list]
  refine wpAny_bind (wpAny_standAt (wpAny_bind (wpAny_mono (turn n s hI) (fun r s₁ h₁ => ?_) fun _ _ h' => h')))
  cases r with
  | none => exact wpAny_pure h₁
  | some v =>
    refine wpAny_bind (wpAny_mono h₁ (fun _ s₁ h₂ => ?_) fun _ _ h' => h')
    refine wpAny_bind (wpAny_mono h₂ (fun _ s₂ h₃ => wpAny_bind (wpAny_mono h₃ (fun ok s₃ h₄ => ?_) fun _ _ h' => h')) fun _ _ h' => h')
    cases ok with
    | false => exact wpAny_pure ⟨rfl, h₄⟩
    | true =>
      exact wpAny_bind (wpAny_bind (wpAny_mono h₄ (fun x s₄ h₅ => wpAny_bind (wpAny_mono h₅ (fun _ s₅ h₆ => wpAny_pure (wpAny_pure ⟨rfl, h₆⟩)) fun _ _ h' => h')) fun _ _ h' => h'))
theorem tests_nil {env : Env} {Q : Bool → Shared → Prop} (h : Q true s) : wpAny (model prog w) A (testsOf [] env) Q E s := wpAny_tests_nil h
theorem tests_one {env : Env} {c : PySem.Expr} {Q : Bool → Shared → Prop} (h : wpAny (model prog w) A (isTrue c env (eval c env)) Q E s) : wpAny (model prog w) A (testsOf [c] env) Q E s := wpAny_tests_one h
end

section
variable {prog : Program} {w : World} {A : Around} {E : Value → Shared → Prop} {s : Shared} {env : Env}
theorem range_out {α : Type} {out : Nat → Option α} {i : Nat} : (List.range (i + 1)).filterMap out = (List.range i).filterMap out ++ (match out i with | some x => [x] | none => []) := by
  rw [List.range_succ, List.filterMap_append]
  cases h : out i <;> simp [h]

/-- what the source, the tests and the element of a comprehension must do; `fin`: what is asked of its end -/
structure CompOk {α : Type} (prog : Program) (w : World) (A : Around) (Pr : Heap → Value → α → Prop) (target elt : PySem.Expr) (ifs : List PySem.Expr) (scope : Scope) (cl : List (PySem.Str × Addr)) (env : Env) (s₂ : Shared) (it : Value)
    (I : Addr) (fp : List Addr) (n : Nat) (P : Nat → Value → Prop) (St : Nat → Heap → Prop) (out : Nat → Option α) (fin : Prop) : Prop where
  eq : it = .ref I
  walks : Walks prog w A I fp [I] n P St
  few : n ≤ 10000
  st0 : St 0 s₂.heap
  low : ∀ b ∈ fp, b < s₂.heap.objs.size
  ist : ∀ i h, St i h → (∃ o, h.get? I = some o) ∧ ∀ items, ¬ IsTup h I items
  go : ∀ i (s : Shared) v (Q : Unit → Shared → Prop) (E : Value → Shared → Prop), St i s.heap → Q () s → wpAny (model prog w) A (letOwnedTupleGo target (.ref I) v) Q E s
  turn : ∀ i v C (s₃ : Shared) m E', i < n → P i v → s₂.heap.objs.size ≤ C → s₃.heap.Ns C m → Kept (· = I) s₂.heap s₃.heap → s₂.toks ≤ s₃.toks ∨ True →
        wpAny (model prog w) A (assign target (compEnvC scope cl C env) v) (fun _ s₄ => wpAny (model prog w) A (testsOf ifs (compEnvC scope cl C env)) (fun ok s₅ =>
          if ok = true then wpAny (model prog w) A (eval elt (compEnvC scope cl C env)) (fun y s₆ => (∃ h' tk m', s₆ = { s₃ with heap := h', toks := tk } ∧ h'.Ns C m' ∧ Kept (· = C) s₃.heap h' ∧ ∃ x, out i = some x ∧ Pr h' y x)) E' s₅
          else (∃ h' tk m', s₅ = { s₃ with heap := h', toks := tk } ∧ h'.Ns C m' ∧ Kept (· = C) s₃.heap h' ∧ out i = none)) E' s₄) E' s₃
  fin : fin

set_option maxHeartbeats 1000000 in
theorem q_compG {α : Type} (Pr : Heap → Value → α → Prop) (stable : ∀ h h' v x, Pr h v x → (∀ b items, IsTup h b items → ∀ o, h.get? b = some o → h'.get? b = some o) → Pr h' v x)
    {elt target iter : PySem.Expr} {ifs : List PySem.Expr} {scope : Scope} {cl : List (PySem.Str × Addr)} {pos pos' : Pos} {use : Option (Value → Sem Unit)} {Q : Value → Shared → Prop}
    (hclos : closureFor scope env = pure cl) (hcell : ∀ y ∈ scope.names, y.2 ≠ .cell) (hkind : scope.kind = .function) (hnames : ∀ y ∈ scope.names, y.2 = .local → scope.names.lookup y.1 = some .local)
    (h : wpAny (model prog w) A (eval iter env) (fun xv s₁ => wpAny (model prog w) A (pyIter xv) (fun it s₂ => ∃ I fp n P St out, CompOk prog w A Pr target elt ifs scope cl env s₂ it I fp n P St out
      (∀ D C h' tk ys m', s₂.heap.objs.size ≤ D → s₂.heap.objs.size ≤ C → D ≠ C → h'.Ns C m' → h'.PlainList D ys → AllAt (Pr h') ys.toList ((List.range n).filterMap out) → Kept (· = I) s₂.heap h' → compPost (model prog w) A E use Q (.ref D) C (.ok .next) { s₂ with heap := h', toks := tk })) E s₁) E s)
    (hs : ∀ x, foldedSetIterable iter env x = pure x := by intro _; rfl) :
    wpAny (model prog w) A (comprehension (.ListComp elt [⟨target, iter, ifs, 0⟩] scope pos) scope env pos' (newList []) false (eval iter env) use) Q E s := by
  refine wpAny_comprehension_free (use := use) rfl hs hclos hkind hnames (wpAny_mono h (fun xv s₁ h₁ => wpAny_mono h₁ (fun it s₂ h₂ => ?_) fun _ _ e => e) fun _ _ e => e)
  obtain ⟨I, fp, n, P, St, out, rfl, W, hn, hst, hfp, hIt, hgo, hturn, hQ⟩ := h₂
  refine wpAny_newList ?_
  refine wpAny_newFunctionEnv hcell (by intro y hy; simp at hy) (fun h₁ hns₁ hsb₁ => ?_) hkind
  dsimp only at hns₁ hsb₁ ⊢
  have hsz : ∀ (h : Heap) (o : Obj), (h.push o).objs.size = h.objs.size + 1 := fun h o => by simp
  -- D the new list, C the new names
  have hC : (s₂.heap.push { cls := .type "list", dict := none, data := .seq ([] : List Value).toArray }).objs.size = s₂.heap.objs.size + 1 := hsz _ _
  generalize hCe : (s₂.heap.push { cls := .type "list", dict := none, data := .seq ([] : List Value).toArray }).objs.size = C at hns₁ hsb₁ hC ⊢
  generalize hDe : s₂.heap.objs.size = D at hC ⊢
  have hDC : D ≠ C := by rw [hC]; exact Nat.ne_of_lt (Nat.lt_succ_self _)
  have hIlt : I < D := by obtain ⟨o, e⟩ := (hIt 0 _ hst).1; rw [← hDe]; exact Heap.lt_size e
  have hID : D ≠ I := Nat.ne_of_gt hIlt
  have hIC : C ≠ I := by rw [hC]; exact Nat.ne_of_gt (Nat.lt_succ_of_lt hIlt)
  have hDf : D ∉ fp := fun q => by have := hfp _ q; rw [hDe] at this; exact Nat.lt_irrefl _ this
  have hCf : C ∉ fp := fun q => by have := hfp _ q; rw [hDe, hC] at this; exact Nat.lt_irrefl _ (Nat.lt_of_succ_lt this)
  have old : s₂.heap.StaysIn h₁ := fun b o e => by
    refine hsb₁.extBut b o (fun q => ?_) (Heap.get?_push_of_some _ (Heap.get?_push_of_some _ e))
    have := Heap.lt_size e
    rw [q, hDe, hC] at this
    exact Nat.lt_irrefl _ (Nat.lt_of_succ_lt this)
  have hacc : h₁.PlainList D #[] := ⟨0, hsb₁.extBut _ _ hDC (Heap.get?_push_of_some _ (hDe ▸ Heap.get?_push_size _ rfl))⟩
  have hst₁ : St 0 h₁ := W.frame _ _ _ hst fun b _ o e => old b o e
  have fresh : ∀ a, D ≤ a → s₂.heap.get? a = none := fun a ha => get_fresh (hDe ▸ ha)
  have loop : codeAny (model prog w) A (.compLoop (.ListComp elt [⟨target, iter, ifs, 0⟩] scope pos) 0 (.ref I) (.ref D) (compEnvC scope cl C env))
      (compPost (model prog w) A E use Q (.ref D) C) { s₂ with heap := h₁, toks := s₂.toks + ([] : List (PySem.Str × Value)).length } := by
    refine compLoopG (fun k s' => ∃ i h' tk m' ys, s' = { s₂ with heap := h', toks := tk } ∧ St i h' ∧ h'.PlainList D ys ∧ h'.Ns C m' ∧ AllAt (Pr h') ys.toList ((List.range i).filterMap out) ∧ Kept (· = I) s₂.heap h' ∧ i ≤ n ∧ k = n + 1 - i) ?_ (n + 1)
      ⟨0, h₁, _, _, #[], rfl, hst₁, hacc, hns₁, .nil, Kept.of_stays old, Nat.zero_le _, rfl⟩
    rintro k s' ⟨i, h', tk, m', ys, rfl, hS, hL, hN, hA, hK, hi, rfl⟩
    by_cases hlt : i < n
    · refine W.item i { s₂ with heap := h', toks := tk } _ _ hlt hS fun v h₃ tk₃ hP hS₃ hk₃ => ?_
      dsimp only
      have k3 : Kept (· = I) h' h₃ := fun b o hb e => hk₃ b o (by simpa using hb) e
      have hN₃ : h₃.Ns C m' := hN.at' fun o e => k3 C o hIC e
      have hL₃ : h₃.PlainList D ys := hL.at fun o e => k3 D o hID e
      have hK₃ : Kept (· = I) s₂.heap h₃ := hK.trans k3
      have hA₃ : AllAt (Pr h₃) ys.toList ((List.range i).filterMap out) := hA.imp fun v x hx => stable _ _ v x hx fun b items hb o e => k3 b o (fun q => (hIt i h' hS).2 items (q ▸ hb)) e
      refine hgo (i + 1) { s₂ with heap := h₃, toks := tk₃ } v _ _ hS₃ ?_
      refine wpAny_mono (hturn i v C { s₂ with heap := h₃, toks := tk₃ } m' _ hlt hP (by rw [hDe, hC]; exact Nat.le_succ _) hN₃ hK₃ (.inr trivial)) (fun _ s₄ h₄ => wpAny_mono h₄ (fun ok s₅ h₅ => ?_) fun _ _ e => e) fun _ _ e => e
      have notC : ∀ {g : Heap} {mm : PySem.Str → Option Value}, g.Ns C mm → ∀ items, ¬ IsTup g C items := fun hn items ht => by
        obtain ⟨o, es, ep, ho, hd, _⟩ := hn
        obtain ⟨o', ho', _, nn, hd'⟩ := ht
        rw [ho] at ho'; cases ho'; rw [hd] at hd'; cases hd'
      have notD : ∀ {g : Heap} {yy : Array Value}, g.PlainList D yy → ∀ items, ¬ IsTup g D items := fun ⟨nn, ho⟩ items ht => by
        obtain ⟨o', ho', hc', _⟩ := ht
        rw [ho] at ho'; cases ho'
        have hc2 : Value.type "list" = Value.type "tuple" := hc'
        exact absurd hc2 (by decide)
      have step : ∀ h₆, Kept (· = C) h₃ h₆ → St (i + 1) h₆ ∧ h₆.PlainList D ys ∧ AllAt (Pr h₆) ys.toList ((List.range i).filterMap out) ∧ Kept (· = I) s₂.heap h₆ := fun h₆ kC => by
        refine ⟨W.frame _ _ _ hS₃ fun b hb o e => kC b o (fun q => hCf (q ▸ hb)) e, hL₃.at fun o e => kC D o hDC e, hA₃.imp fun v x hx => stable _ _ v x hx fun b items hb o e => kC b o (fun q => notC hN₃ items (q ▸ hb)) e, fun b o hb e => kC b o (fun q => ?_) (hK₃ b o hb e)⟩
        rw [q, fresh C (by rw [hC]; exact Nat.le_succ _)] at e; cases e
      cases ok with
      | false =>
        rw [if_neg (by decide)] at h₅ ⊢
        obtain ⟨h₆, tk₆, m₆, rfl, hN₆, kC, ho⟩ := h₅
        obtain ⟨a1, a2, a3, a4⟩ := step h₆ kC
        refine ⟨n + 1 - (i + 1), n_step hlt, i + 1, h₆, tk₆, m₆, ys, rfl, a1, a2, hN₆, ?_, a4, hlt, rfl⟩
        rw [range_out, ho]
        simpa using a3
      | true =>
        rw [if_pos rfl] at h₅ ⊢
        refine wpAny_mono h₅ (fun y s₆ h₆ => ?_) fun _ _ e => e
        obtain ⟨h₆, tk₆, m₆, rfl, hN₆, kC, x, ho, hx⟩ := h₆
        obtain ⟨a1, a2, a3, a4⟩ := step h₆ kC
        have hlen : ys.size ≤ n := by
          have e1 := hA.length
          rw [Array.length_toList] at e1
          have e2 := List.length_filterMap_le out (List.range i)
          rw [List.length_range] at e2
          omega
        refine wpAny_list_append_plain (s := { s₂ with heap := h₆, toks := tk₆ }) a2 (fun h₇ hL₇ sb₇ => ?_) (by rw [sizeLine_is]; omega)
        refine ⟨n + 1 - (i + 1), n_step hlt, i + 1, h₇, tk₆, m₆, ys.push y, rfl, W.frame _ _ _ a1 fun b hb o e => sb₇.extBut b o (fun q => hDf (q ▸ hb)) e, hL₇, hN₆.sameBut sb₇ (Ne.symm hDC), ?_, fun b o hb e => sb₇.extBut b o (fun q => ?_) (a4 b o hb e), hlt, rfl⟩
        · rw [range_out, ho, Array.toList_push]
          have st7 : ∀ v x, Pr h₆ v x → Pr h₇ v x := fun v x hx => stable _ _ v x hx fun b items hb o e => sb₇.extBut b o (fun q => notD a2 items (q ▸ hb)) e
          exact (a3.imp st7).push (st7 _ _ hx)
        · rw [q, fresh D (Nat.le_refl _)] at e; cases e
    · have hin : i = n := n_end hi hlt
      subst hin
      refine W.done { s₂ with heap := h', toks := tk } _ _ hS fun h₃ tk₃ hk₃ => ?_
      dsimp only
      have k3 : Kept (· = I) h' h₃ := fun b o hb e => hk₃ b o (by simpa using hb) e
      refine hQ D C h₃ tk₃ ys m' (Nat.le_of_eq hDe) (by rw [hDe, hC]; exact Nat.le_succ _) hDC (hN.at' fun o e => k3 C o hIC e) (hL.at fun o e => k3 D o hID e) ?_ (hK.trans k3)
      exact hA.imp fun v x hx => stable _ _ v x hx fun b items hb o e => k3 b o (fun q => (hIt i h' hS).2 items (q ▸ hb)) e
  exact codeAny_compStart_list loop (W.self 0 _ _ _ hst₁ loop)

theorem ns_not_tup {g : Heap} {C : Addr} {mm : PySem.Str → Option Value} (hn : g.Ns C mm) (items : Array Value) : ¬ IsTup g C items := fun ht => by
  obtain ⟨o, es, ep, ho, hd, _⟩ := hn
  obtain ⟨o', ho', _, nn, hd'⟩ := ht
  rw [ho] at ho'; cases ho'; rw [hd] at hd'; cases hd'

theorem q_comp {α : Type} (Pr : Heap → Value → α → Prop) (stable : ∀ h h' v x, Pr h v x → (∀ b items, IsTup h b items → ∀ o, h.get? b = some o → h'.get? b = some o) → Pr h' v x)
    {elt target iter : PySem.Expr} {ifs : List PySem.Expr} {scope : Scope} {cl : List (PySem.Str × Addr)} {pos : Pos} {Q : Value → Shared → Prop}
    (hclos : closureFor scope env = pure cl) (hcell : ∀ y ∈ scope.names, y.2 ≠ .cell) (hkind : scope.kind = .function) (hnames : ∀ y ∈ scope.names, y.2 = .local → scope.names.lookup y.1 = some .local)
    (h : wpAny (model prog w) A (eval iter env) (fun xv s₁ => wpAny (model prog w) A (pyIter xv) (fun it s₂ => ∃ I fp n P St out, CompOk prog w A Pr target elt ifs scope cl env s₂ it I fp n P St out
      (∀ D h' tk ys, s₂.heap.objs.size ≤ D → h'.PlainList D ys → AllAt (Pr h') ys.toList ((List.range n).filterMap out) → Kept (· = I) s₂.heap h' → Q (.ref D) { s₂ with heap := h', toks := tk })) E s₁) E s)
    (hs : ∀ x, foldedSetIterable iter env x = pure x := by intro _; rfl) :
    wpAny (model prog w) A (eval (.ListComp elt [⟨target, iter, ifs, 0⟩] scope pos) env) Q E s := by
  rw [eval_ListComp]
  refine q_compG Pr stable hclos hcell hkind hnames (wpAny_mono h (fun xv s₁ h₁ => wpAny_mono h₁ (fun it s₂ h₂ => ?_) fun _ _ e => e) fun _ _ e => e) hs
  obtain ⟨I, fp, n, P, St, out, e1, W, hn, hst, hfp, hIt, hgo, hturn, hQ⟩ := h₂
  refine ⟨I, fp, n, P, St, out, e1, W, hn, hst, hfp, hIt, hgo, hturn, fun D C h' tk ys m' hD hC hDC hN hL hA hK => ⟨m', hN, fun h'' sb => ?_⟩⟩
  refine hQ D h'' tk ys hD (hL.at fun o e => sb.extBut _ _ hDC e) (hA.imp fun v x hx => stable _ _ v x hx fun b items hb o e => sb.extBut b o (fun q => ns_not_tup hN items (q ▸ hb)) e) fun b o hb e => sb.extBut b o (fun q => ?_) (hK b o hb e)
  exact absurd (Heap.lt_size e) (Nat.not_lt.mpr (q ▸ hC))

theorem q_compAssign {α : Type} (Pr : Heap → Value → α → Prop) (stable : ∀ h h' v x, Pr h v x → (∀ b items, IsTup h b items → ∀ o, h.get? b = some o → h'.get? b = some o) → Pr h' v x)
    {G : Heap} {L f : Addr} {m : PySem.Str → Option Value} {cn : PySem.Str} {cs : Scope} {ccd : Value} {ocl : List (PySem.Str × Addr)} {x : PySem.Str} {px apos : Pos}
    {elt target iter : PySem.Expr} {ifs : List PySem.Expr} {scope : Scope} {cl : List (PySem.Str × Addr)} {pos : Pos} {Q : Flow → Shared → Prop}
    (hclos : closureFor scope (envX cn cs L f ccd ocl) = pure cl) (hcell : ∀ y ∈ scope.names, y.2 ≠ .cell) (hkind : scope.kind = .function) (hnames : ∀ y ∈ scope.names, y.2 = .local → scope.names.lookup y.1 = some .local)
    (h : wpAny (model prog w) A (eval iter (envX cn cs L f ccd ocl)) (fun xv s₁ => wpAny (model prog w) A (pyIter xv) (fun it s₂ => Fq w G L s₂.heap m ∧ ∃ I fp n P St out, I ≠ L ∧ G.get? I = none ∧ CompOk prog w A Pr target elt ifs scope cl (envX cn cs L f ccd ocl) s₂ it I fp n P St out
      (∀ D h' tk ys, s₂.heap.objs.size ≤ D → h'.PlainList D ys → AllAt (Pr h') ys.toList ((List.range n).filterMap out) → Kept (fun b => b = I ∨ b = L) s₂.heap h' → Fq w G L h' (fun y => if y = x then some (.ref D) else m y) → Q .next { s₂ with heap := h', toks := tk })) E s₁) E s)
    (hk : cs.kind = .function := by rfl) (hx : (envX cn cs L f ccd ocl).kindOf x = some .local := by rfl)
    (hsw : swapsWith (.ListComp elt [⟨target, iter, ifs, 0⟩] scope pos) (some (.Name x px)) apos.line (envX cn cs L f ccd ocl) = pure true := by rfl)
    (hs : ∀ x, foldedSetIterable iter (envX cn cs L f ccd ocl) x = pure x := by intro _; rfl) :
    wpAny (model prog w) A (exec (.Assign [.Name x px] (.ListComp elt [⟨target, iter, ifs, 0⟩] scope pos) apos) (envX cn cs L f ccd ocl)) Q E s := by
  rw [exec_Assign_Name_used _ _ _ _ hsw]
  refine wpAny_bind (wpAny_standAt (wpAny_bind ?_))
  rw [arm_evalThenUse_ListComp]
  refine wpAny_bind ?_
  refine q_compG (Q := fun _ s' => wpAny (model prog w) A (pure ()) (fun _ s'' => wpAny (model prog w) A (pure Flow.next) Q E s'') E s') Pr stable hclos hcell hkind hnames (wpAny_mono h (fun xv s₁ h₁ => wpAny_mono h₁ (fun it s₂ h₂ => ?_) fun _ _ e => e) fun _ _ e => e) hs
  obtain ⟨F₂, I, fp, n, P, St, out, hIL, hIG, e1, W, hn, hst, hfp, hIt, hgo, hturn, hQ⟩ := h₂
  refine ⟨I, fp, n, P, St, out, e1, W, hn, hst, hfp, hIt, hgo, hturn, fun D C h' tk ys m' hD hC hDC hN hL hA hK => ?_⟩
  have F' : Fq w G L h' m := F₂.kept hK (Ne.symm hIL) (fun b hb => hb ▸ hIG)
  have hLC : L ≠ C := Nat.ne_of_lt (Nat.lt_of_lt_of_le F₂.lt hC)
  have hLD : L ≠ D := Nat.ne_of_lt (Nat.lt_of_lt_of_le F₂.lt hD)
  show wpAny (model prog w) A (assign (.Name x px) (envX cn cs L f ccd ocl) (.ref D)) _ E _
  refine q_assignName (s := { s₂ with heap := h', toks := tk }) F' (fun h₄ tk₄ F₄ s₄ => ?_) hk hx
  have hN₄ : h₄.Ns C m' := hN.sameBut s₄ (Ne.symm hLC)
  refine ⟨m', hN₄, fun h₅ sb => wpAny_pure (wpAny_pure ?_)⟩
  have GC : G.get? C = none := hidden_of F₂.keep hC
  refine hQ D h₅ tk₄ ys hD (hL.at fun o e => sb.extBut _ _ hDC (s₄.extBut _ _ (Ne.symm hLD) e)) ?_ (fun b o hb e => sb.extBut b o (fun q => ?_) (s₄.extBut b o (fun q => hb (.inr q)) (hK b o (fun q => hb (.inl q)) e))) (F₄.kept (Kept.of_sameBut sb) hLC fun b hb => hb ▸ GC)
  · exact (hA.imp fun v x hx => stable _ _ v x hx fun b items hb o e => s₄.extBut b o (fun q => F'.ne_tup (q ▸ hb) rfl) e).imp fun v x hx => stable _ _ v x hx fun b items hb o e => sb.extBut b o (fun q => ns_not_tup hN₄ items (q ▸ hb)) e
  · exact absurd (Heap.lt_size e) (Nat.not_lt.mpr (q ▸ hC))
end
end Mine
-- NM
namespace Mine

section
variable {prog : Program} {w : World} {A : Around} {s : Shared} {G : Heap} {R : Result → Shared → Prop}
/-- entry of a function that has cells -/
theorem enterC {name qual : PySem.Str} {params : Arguments} {body : List Stmt} {scope : Scope} {dV kV doc pm cdv ct oc : Value} {an od : Option Addr} {osl : Array (Option Value)} {f : Addr} {vals : List Value} (binds : List (PySem.Str × Value))
    (g : Gd w G) (hk : G.StaysIn s.heap)
    (ho : (hd.heap_39 w.params).lookup f = some ⟨oc, od, .func (fnOf name qual params body scope dV kV doc pm an cdv ct), osl⟩) (hcd : codeIn (hd.heap_39 w.params) cdv qual = true) (hroom : A.depth < recursionLimit)
    (hbind : bindArgs (fnOf name qual params body scope dV kV doc pm an cdv ct) ⟨vals, []⟩ = pure binds)
    (hkind : ∀ n, ∀ x ∈ binds, scope.names.lookup x.1 = some .local ∨ (scope.names.lookup x.1 = some .cell ∧ ((cellsFrom n scope.names []).lookup x.1).isSome = true))
    (h : ∀ L h₁ G₁ tk, L = s.heap.objs.size → Fq w G₁ L h₁ (bindL (envX qual scope L f cdv (cellsFrom (L + 1) scope.names [])).kindOf binds fun _ => none) → s.heap.StaysIn G₁ → G₁.StaysIn s.heap → s.heap.StaysIn h₁ →
      (∀ n c, (cellsFrom (L + 1) scope.names []).lookup n = some c → h₁.IsCell c (bindC (envX qual scope L f cdv (cellsFrom (L + 1) scope.names [])).kindOf binds (fun _ => none) n) ∧ L < c) →
      wpAny (model prog w) (A.deeper (envX qual scope L f cdv (cellsFrom (L + 1) scope.names []))) (execs body (envX qual scope L f cdv (cellsFrom (L + 1) scope.names [])))
        (fun fl s' => R (.ok (.ret (match fl with | .ret v => v | _ => .none))) s')
        (fun e s' => wpAny (model prog w) (A.deeper (envX qual scope L f cdv (cellsFrom (L + 1) scope.names []))) (leaving (envX qual scope L f cdv (cellsFrom (L + 1) scope.names [])) e) (fun _ s'' => R (.error e) s'') (fun e' s'' => R (.error e') s'') s')
        { s with heap := h₁, toks := tk })
    (hco : scope.isCoroutine = false := by rfl) (hgen : scope.isGenerator = false := by rfl) (hkn : scope.kind = .function := by rfl) : codeAny (model prog w) A (.call (.ref f) ⟨vals, []⟩) R s := by
  have gs : Gd w s.heap := g.keeps hk
  refine codeAny_call_cells (fd := fnOf name qual params body scope dV kV doc pm an cdv ct) (body := body) (binds := binds) hroom (hk _ _ (g.K _ _ ho)) rfl (g.nolimit.keeps hk)
    (codeRec_of (g.K.keeps hk) hcd) rfl hbind rfl (hkind _) (fun s₁ X => ?_) hco hgen hkn
  obtain ⟨h₁, tk, rfl, hk₁⟩ := X.done
  refine h _ h₁ s.heap tk rfl (Fq.of_fr gs ⟨X.toInCall.ns, X.toInCall.keep, X.toInCall.fresh⟩ (fresh_size _)) (fun _ _ e => e) (fun _ _ e => e) hk₁ fun n c e => ⟨X.cell n c e, X.above n c (mem_of_lookup e)⟩
end
end Mine
-- NN
namespace Mine

section
variable {prog : Program} {w : World} {A : Around} {E : Value → Shared → Prop} {s : Shared} {G : Heap} {R : Result → Shared → Prop}
theorem add_lists' {l b : Addr} {vs ws : Array Value} {Q : Value → Shared → Prop} (hl : s.heap.IsList l vs) (hb : s.heap.IsList b ws) (hsz : vs.size + ws.size ≤ sizeLine)
    (h : Q (.ref s.heap.objs.size) { s with heap := s.heap.push { cls := .type "list", data := .seq (vs ++ ws) } }) : wpAny (model prog w) A (binaryOp .Add (.ref l) (.ref b)) Q E s := by
  obtain ⟨⟨cls, dd, data, sl⟩, ho, hc, n, hd⟩ := id hl
  obtain ⟨⟨cls2, dd2, data2, sl2⟩, ho2, hc2, n2, hd2⟩ := id hb
  simp only at hc hd hc2 hd2
  subst hc hd hc2 hd2
  exact concat_meets ⟨_, ho, rfl⟩ ⟨_, ho2, rfl⟩ noFill_list_add seq_list_add PySem.F.slot_list_add PySem.F.entry_list_add (PySem.F.args_list_add_2 _ _) (list_addW l b vs ws n n2 dd dd2 sl sl2 hsz) ⟨ho, ho2, h⟩

theorem add_way {a : Value} {p : Way} {b : Addr} {x : PySem.Str} {t : Tok} {Q : Value → Shared → Prop} (hp : WayAt s.heap a p) (hb : IsTup s.heap b #[Value.str x t]) (hx : x ∈ nms) (hlen : p.length ≤ 58)
    (h : ∀ h' v, s.heap.StaysIn h' → WayAt h' v (p ++ [x]) → Q v { s with heap := h' }) : wpAny (model prog w) A (binaryOp .Add a (.ref b)) Q E s := by
  obtain ⟨wa, vs, rfl, ht, hs, hn, hl⟩ := hp
  have fin : ∀ {h' : Heap} {c : Addr}, IsTup h' c (vs ++ [Value.str x t]).toArray → WayAt h' (.ref c) (p ++ [x]) := fun hc =>
    ⟨_, _, rfl, hc, strs_push hs, fun y hy => by
      rcases List.mem_append.mp hy with hy | hy
      · exact hn y hy
      · rw [List.mem_singleton.mp hy]; exact hx, by simp; omega⟩
  have hsz : vs.toArray.size ≤ 60 := by have := hs.length; simp; omega
  obtain ⟨⟨cls, dd, data, sl⟩, ho, hc, n, hd⟩ := id ht
  obtain ⟨⟨cls2, dd2, data2, sl2⟩, ho2, hc2, n2, hd2⟩ := id hb
  simp only at hc hd hc2 hd2
  subst hc hd hc2 hd2
  by_cases hv : vs = []
  · subst hv
    refine concat_meets ⟨_, ho, rfl⟩ ⟨_, ho2, rfl⟩ noFill_tuple_add seq_tuple_add PySem.F.slot_tuple_add PySem.F.entry_tuple_add (PySem.F.args_tuple_add_2 _ _)
      (tuple_addW0 wa b #[] #[.str x t] n n2 dd dd2 sl sl2 (by simp)) ⟨ho, ho2, ?_⟩
    exact h s.heap _ (fun _ _ e => e) (fin hb)
  · refine concat_meets ⟨_, ho, rfl⟩ ⟨_, ho2, rfl⟩ noFill_tuple_add seq_tuple_add PySem.F.slot_tuple_add PySem.F.entry_tuple_add (PySem.F.args_tuple_add_2 _ _)
      (tuple_addW2 wa b vs.toArray #[.str x t] n n2 dd dd2 sl sl2 (by simpa using hv) (by simp) (by rw [sizeLine_is]; simp at hsz ⊢; omega)) ⟨ho, ho2, ?_⟩
    refine h _ _ (fun b o e => Heap.get?_push_of_some _ e) (fin ?_)
    have := IsTup.new (h := s.heap) (items := vs.toArray ++ #[.str x t])
    simpa using this
theorem wayPr (h h' : Heap) (v : Value) (x : Way) (hx : WayAt h v x) (k : ∀ b items, IsTup h b items → ∀ o, h.get? b = some o → h'.get? b = some o) : WayAt h' v x := hx.tups2 k
theorem isCell_keeps {h h' : Heap} {c : Addr} {v : Option Value} (x : h.IsCell c v) (k : ∀ o, h.get? c = some o → h'.get? c = some o) : h'.IsCell c v := let ⟨o, e, d⟩ := x; ⟨o, k o e, d⟩


theorem AllAt.append {α : Type} {P : Value → α → Prop} {vs ws : List Value} {xs ys : List α} (h : AllAt P vs xs) (k : AllAt P ws ys) : AllAt P (vs ++ ws) (xs ++ ys) := by
  induction h with
  | nil => exact k
  | cons a _ ih => exact .cons a ih
theorem kept_stays {p : Addr → Prop} {h h' : Heap} (k : Kept p h h') (hp : ∀ b, p b → h.get? b = none) : h.StaysIn h' := fun b o e => k b o (fun q => by rw [hp b q] at e; cases e) e
theorem range_take {α β : Type} (g : α → Option β) (xs : List α) : ∀ n, (List.range n).filterMap (fun i => (xs[i]?).bind g) = (xs.take n).filterMap g
  | 0 => rfl
  | n + 1 => by
    rw [List.range_succ, List.filterMap_append, range_take g xs n, List.take_succ, List.filterMap_append]
    congr 1
    cases h : xs[n]? with
    | none => simp [h]
    | some x => simp [List.filterMap, h]
/-- `[one + (x,) for one in beginnings]` -/
theorem ab_comp {L f : Addr} {m : PySem.Str → Option Value} {cn : PySem.Str} {cs : Scope} {ccd : Value} {ocl : List (PySem.Str × Addr)} {p1 p2 p3 p4 p5 p6 p7 : Pos} {k1 k2 : Nat} {x : PySem.Str} (hx : x ∈ nms)
    {D : Addr} {ys : Array Value} {ps : List Way} {Q : Value → Shared → Prop} (hh : A.handled = none) (F : Fq w G L s.heap m) (hm : m "beginnings" = some (.ref D)) (hL : s.heap.PlainList D ys) (hA : AllAt (WayAt s.heap) ys.toList ps)
    (hps : ps.length ≤ 100) (hlen : ∀ p ∈ ps, p.length ≤ 58)
    (h : ∀ h' tk D' ys', s.heap.objs.size ≤ D' → h'.PlainList D' ys' → AllAt (WayAt h') ys'.toList (ps.map (· ++ [x])) → s.heap.StaysIn h' → Q (.ref D') { s with heap := h', toks := tk })
    (hk : cs.kind = .function := by rfl) (hbk : (envX cn cs L f ccd ocl).kindOf "beginnings" = some .local := by rfl) :
    wpAny (model prog w) A (eval (.ListComp (.BinOp (.Name "one" p1) .Add (.Tuple [.Constant (.str x) k1 p2] k2 p3) p4) [⟨.Name "one" p5, .Name "beginnings" p6, [], 0⟩] ⟨.function, [(".0", .local), ("one", .local)], false, false, []⟩ p7) (envX cn cs L f ccd ocl)) Q E s := by
  refine q_comp WayAt wayPr (by rfl) (by decide) rfl (by decide) ?_
  refine q_ld F hm (wpAny_pyIter_list hL.isList ?_) hk hbk
  have hys : ys.size = ps.length := by rw [← hA.length, Array.length_toList]
  have k₁ : s.heap.StaysIn (s.heap.push { cls := .type "list_iterator", data := .fields #[.ref D, .int 0 0] }) := fun b o e => Heap.get?_push_of_some _ e
  have hDlt : D < s.heap.objs.size := by obtain ⟨n, e⟩ := hL; exact Heap.lt_size e
  have no : hadr A = [] := by simp [hadr, hh]
  refine ⟨s.heap.objs.size, _, ys.size, _, _, (fun i => (ps[i]?).bind fun p => some (p ++ [x])), rfl, walksList (A := A) s.heap.objs.size D (Nat.ne_of_lt hDlt) (fun q => by rw [no] at q; cases q) ys, by omega, ⟨⟨_, Heap.get?_push_size _ rfl, rfl, rfl⟩, (hL.at fun o e => k₁ _ o e).isList, .inl hh⟩, ?_, ?_, ?_, ?_, ?_⟩
  · intro b hb
    rw [no] at hb
    simp at hb
    rcases hb with rfl | rfl
    · simp
    · exact Nat.lt_trans hDlt (by simp)
  · rintro i h' ⟨⟨o, e, hc, hd⟩, _⟩
    refine ⟨⟨o, e⟩, fun items ht => ?_⟩
    obtain ⟨o', ho', hc', _⟩ := ht
    rw [e] at ho'; cases ho'
    rw [hc] at hc'
    exact absurd hc' (by decide)
  · intro i s v Q E hst h
    exact wpAny_pure h
  · intro i vv C s₃ m₃ E' hi hv hC hN hK _
    have S₃ : s.heap.StaysIn s₃.heap := fun b o e => hK b o (fun q => absurd (Heap.lt_size e) (Nat.not_lt.mpr (Nat.le_of_eq q.symm))) (k₁ b o e)
    have hp : ∃ p, ps[i]? = some p ∧ WayAt s.heap vv p := hA.get (by simpa using hv)
    obtain ⟨p, hpi, hvv⟩ := hp
    refine wpAny_assign_Name (wpAny_storeName_local (by rfl) hN (fun h₄ hn₄ sb₄ => ?_) (by rfl))
    refine tests_nil ?_
    rw [if_pos rfl]
    have hC' : s.heap.objs.size < C := Nat.lt_of_lt_of_le (by simp) hC
    have hvv₄ : WayAt h₄ vv p := hvv.keeps fun b o e => sb₄.extBut b o (Nat.ne_of_lt (Nat.lt_trans (Heap.lt_size e) hC')) (S₃ b o e)
    refine wpAny_BinOp (wpAny_Name (wpAny_loadName_local rfl rfl hn₄ rfl ?_) (by decide))
    refine wpAny_Tuple (args_cons (wpAny_Constant_str (args_nil ⟨by show 1 ≤ sizeLine; rw [sizeLine_is]; decide, ?_⟩)))
    refine add_way (hvv₄.keeps fun b o e => Heap.get?_push_of_some _ e) (IsTup.new _ _) hx (hlen p (List.mem_of_getElem? hpi)) fun h₅ v k₅ hw₅ => ?_
    refine ⟨h₅, _, _, rfl, hn₄.keeps fun b o e => k₅ b o (Heap.get?_push_of_some _ e), fun b o hb e => k₅ b o (Heap.get?_push_of_some _ (sb₄.extBut b o hb e)), _, by show (ps[i]?).bind _ = _; rw [hpi]; rfl, hw₅⟩
  · intro D' h' tk ys' hD' hL' hA' hK'
    refine h h' tk D' ys' (Nat.le_trans (by simp) hD') hL' ?_ fun b o e => hK' b o (fun q => absurd (Heap.lt_size e) (Nat.not_lt.mpr (Nat.le_of_eq q.symm))) (k₁ b o e)
    have e1 : (List.range ys.size).filterMap (fun i => (ps[i]?).bind fun p => some (p ++ [x])) = ps.map (· ++ [x]) := by
      rw [range_take, hys, List.take_length, List.filterMap_eq_map']
    rw [e1] at hA'
    exact hA'

set_option maxRecDepth 100000 in
set_option maxHeartbeats 16000000 in
theorem about_spec {v : Value} {p : Way} (g : Gd w G) (hk : G.StaysIn s.heap) (hroom : A.depth < recursionLimit) (hh : A.handled = none) (hw : WayAt s.heap v p) (hp : p.length ≤ 30)
    (good : ∀ s' a items ps, s'.heap.PlainList a items → AllAt (WayAt s'.heap) items.toList ps → ps.length ≤ 100 → s.heap.objs.size ≤ a → s.heap.StaysIn s'.heap → SameX s s' → R (.ok (.ret (.ref a))) s') :
    codeAny (model prog w) A (.call (.ref 96) ⟨[v], []⟩) R s := by
  refine enterC [("way", v)] g hk (f := 96) rfl (by with_unfolding_all rfl) hroom rfl ?_ ?_
  · intro n x hx
    simp only [List.mem_singleton] at hx
    subst hx
    exact .inr ⟨rfl, rfl⟩
  intro L h₁ G₁ tk hLe F sG hG1 S hcells
  have F : Fq w G₁ L h₁ (fun _ => none) := F
  have hc : h₁.IsCell (L + 1) (some v) := (hcells "way" (L + 1) rfl).1
  clear hcells
  obtain ⟨wa, wvs, rfl, htw, hsw, hnw, hpw⟩ := id hw
  have hlw := hsw.length
  have lw30 : wvs.toArray.size ≤ 30 := by rw [List.size_toArray]; omega
  refine wpAny_abs ?_; intro Q₀ E₀
  refine wpAny_execs_cons (q_compAssign (G := G₁) (m := fun _ => none) WayAt wayPr (by rfl) (by decide) rfl (by decide) ?_)
  refine Call_ (q_bi F (by kernel_rfl) boot_range (by decide) (PySem.Pv.callWith_type1 ?_))
  refine args_cons (wpAny_BinOp (Call_ (q_bi F (by kernel_rfl) boot_len (by decide) (PyProof.Rows.callWith_builtin1 ?_))))
  refine args_cons (wpAny_Name (wpAny_loadName_cell (v := .ref wa) rfl rfl rfl hc (args_nil (len_tuple (htw.keeps S) (strs_lt hsw hpw).1 ?_))) (by decide))
  refine wpAny_Constant_int (wpAny_add_int (args_nil (call_range_1 ?_)))
  have k₂ : ∀ (o : Obj), h₁.StaysIn (h₁.push o) := fun o b ob e => Heap.get?_push_of_some _ e
  rw [show ((wvs.toArray.size : Int) + 1) = ((wvs.toArray.size + 1 : Nat) : Int) by omega]
  refine wpAny_pyIter_range (IsRange.new ..) (small_one (by omega) (by omega) (by omega) (by omega)) ?_
  rw [show Builtin.Range.rangeSize 0 ((wvs.toArray.size + 1 : Nat) : Int) 1 = ((wvs.toArray.size + 1 : Nat) : Int) by rw [rangeSize_one]; split <;> omega]
  generalize hr : ({ cls := Value.type "range", data := Data.fields #[Value.int 0 _, Value.int ((wvs.toArray.size + 1 : Nat) : Int) _, Value.int 1 _] } : Obj) = ro
  have hIs : (h₁.push ro).objs.size = h₁.objs.size + 1 := by simp
  have S₂ : h₁.StaysIn ((h₁.push ro).push { cls := .type "range_iterator", data := .fields #[rawInt 0, rawInt ((wvs.toArray.size + 1 : Nat) : Int), rawInt 1] }) := fun b o e => Heap.get?_push_of_some _ (Heap.get?_push_of_some _ e)
  have F₂ := F.keeps S₂
  refine ⟨F₂, (h₁.push ro).objs.size, _, wvs.toArray.size + 1, _, _, (fun i => some (p.take i)), ?_, ?_, rfl, Walks.range (A := A.deeper _) hh _ 0 1 (wvs.toArray.size + 1), by omega, ?_, ?_, ?_, ?_, ?_, ?_⟩
  · rw [hIs]; exact Nat.ne_of_gt (Nat.lt_succ_of_lt F.lt)
  · exact hidden_of F.keep (by rw [hIs]; exact Nat.le_succ _)
  · have := Heap.get?_push_size (h₁.push ro) (o := { cls := .type "range_iterator", data := .fields #[rawInt 0, rawInt ((wvs.toArray.size + 1 : Nat) : Int), rawInt 1] }) rfl
    simpa [IsRangeIter] using this
  · intro b hb
    rw [List.mem_singleton.mp hb]
    simp
  · intro i h hst
    refine ⟨⟨_, hst⟩, fun items ht => ?_⟩
    obtain ⟨o, ho, hc', _⟩ := ht
    have ho2 : h.get? _ = _ := hst
    rw [ho2] at ho; cases ho
    have hc2 : Value.type "range_iterator" = Value.type "tuple" := hc'
    exact absurd hc2 (by decide)
  · intro i s v Q E _ h; exact wpAny_pure h
  · rintro i vv C s₃ m₃ E' hi ⟨t, rfl⟩ hC hN hK _
    have S₃ : h₁.StaysIn s₃.heap := fun b o e => hK b o (fun q => absurd (Heap.lt_size e) (Nat.not_lt.mpr (by rw [q, hIs]; exact Nat.le_succ _))) (S₂ b o e)
    have hCL : L + 1 < C := by
      obtain ⟨o, e, _⟩ := hc
      have := Heap.lt_size e
      have h2 : ((h₁.push ro).push { cls := .type "range_iterator", data := .fields #[rawInt 0, rawInt ((wvs.toArray.size + 1 : Nat) : Int), rawInt 1] }).objs.size = h₁.objs.size + 1 + 1 := by simp
      exact Nat.lt_of_lt_of_le (Nat.lt_of_lt_of_le this (by rw [h2]; omega)) hC
    refine wpAny_assign_Name (wpAny_storeName_local (by rfl) hN (fun h₄ hn₄ sb₄ => ?_) (by rfl))
    refine tests_nil ?_
    rw [if_pos rfl]
    have hcell₄ : h₄.IsCell (L + 1) (some (.ref wa)) := isCell_keeps hc fun o e => sb₄.extBut _ o (Nat.ne_of_lt hCL) (S₃ _ o e)
    have htw₄ : IsTup h₄ wa wvs.toArray := by
      obtain ⟨o, e, r⟩ := htw
      refine ⟨o, sb₄.extBut _ o (Nat.ne_of_lt (Nat.lt_of_lt_of_le (Heap.lt_size (S _ _ e)) (Nat.le_trans (by simp; omega) hC))) (S₃ _ o (S _ _ e)), r⟩
    refine q_slice (wpAny_Name (wpAny_loadName_cell (v := .ref wa) rfl rfl rfl hcell₄ (wpAny_Name (wpAny_loadName_local rfl rfl hn₄ rfl ?_) (by decide))) (by decide))
    refine ⟨wa, wvs.toArray, _, _, rfl, rfl, htw₄, by rw [sizeLine_is]; omega, fun a' h₅ k₅ ht' => ?_⟩
    refine ⟨h₅, _, _, rfl, hn₄.keeps k₅, fun b o hb e => k₅ b o (sb₄.extBut b o hb e), _, rfl, ?_⟩
    have hup : upto (0 + (i : Int) * 1) wvs.toArray.size = i := by
      rw [n_one i]
      simp only [upto]
      rw [if_neg (by omega), Int.toNat_natCast]
      exact Nat.min_eq_left (by omega)
    rw [hup] at ht'
    refine ⟨a', wvs.take i, rfl, by simpa using ht', hsw.take' i, fun x hx => hnw x (List.mem_of_mem_take hx), by rw [List.length_take]; exact Nat.le_trans (Nat.min_le_right _ _) (Nat.le_trans hp (by decide))⟩
  · rintro D h₃ tk₃ ys hD hL₃ hA₃ hK₃ F₃
    dsimp only
    have S₃ : s.heap.StaysIn h₃ := fun b o e => F₃.keep b o (sG b o e)
    have hcell : ∀ i, i < p.length + 1 → ((List.range (wvs.toArray.size + 1)).filterMap fun i => some (p.take i)).length = p.length + 1 := fun _ _ => by simp [hlw]
    have hl : ((List.range (wvs.toArray.size + 1)).filterMap fun i => some (p.take i)).length = p.length + 1 := by simp [hlw]
    generalize hps : ((List.range (wvs.toArray.size + 1)).filterMap fun i => some (p.take i)) = ps at hA₃ hl
    have hsh : ∀ q ∈ ps, q.length ≤ 58 := by
      intro q hq
      rw [← hps] at hq
      obtain ⟨i, _, e⟩ := List.mem_filterMap.mp hq
      cases e
      rw [List.length_take]
      exact Nat.le_trans (Nat.min_le_right _ _) (Nat.le_trans hp (by decide))
    have hlp : ps.length ≤ 31 := hl ▸ Nat.succ_le_succ hp
    refine wpAny_execs_cons (wpAny_Return_some ?_)
    refine wpAny_BinOp (wpAny_BinOp (q_ld F₃ rfl ?_))
    refine ab_comp (x := "a") (by decide) hh F₃ rfl hL₃ hA₃ (Nat.le_trans hlp (by decide)) hsh fun h₄ tk₄ D₄ ys₄ hD₄ hL₄ hA₄ S₄ => ?_
    have hL₃' : h₄.PlainList D ys := hL₃.at fun o e => S₄ _ o e
    have hA₃' : AllAt (WayAt h₄) ys.toList ps := hA₃.imp fun v x hx => hx.keeps S₄
    have z3 : ys.size = ps.length := by rw [← hA₃.length, Array.length_toList]
    have z4 : ys₄.size = ps.length := by rw [← Array.length_toList, hA₄.length, List.length_map]
    refine add_lists' (s := { s with heap := h₄, toks := tk₄ }) hL₃'.isList hL₄.isList (by rw [sizeLine_is]; exact n_sz hlp z3 z4) ?_
    have S₅ : h₄.StaysIn (h₄.push { cls := .type "list", data := .seq (ys ++ ys₄) }) := fun b o e => Heap.get?_push_of_some _ e
    have F₅ := (F₃.keeps S₄).keeps S₅
    refine ab_comp (s := { s with heap := _, toks := tk₄ }) (x := "z") (by decide) hh F₅ rfl (hL₃'.at fun o e => S₅ _ o e) (hA₃'.imp fun v x hx => hx.keeps S₅) (Nat.le_trans hlp (by decide)) hsh fun h₆ tk₆ D₆ ys₆ hD₆ hL₆ hA₆ S₆ => ?_
    have z6 : ys₆.size = ps.length := by rw [← Array.length_toList, hA₆.length, List.length_map]
    have hL₅ : h₆.PlainList h₄.objs.size (ys ++ ys₄) := ⟨0, S₆ _ _ (Heap.get?_push_size _ rfl)⟩
    refine add_lists' (s := { s with heap := h₆, toks := tk₆ }) hL₅.isList hL₆.isList (by rw [sizeLine_is, Array.size_append]; exact n_sz3 hlp z3 z4 z6) ?_
    have S₇ : h₆.StaysIn (h₆.push { cls := .type "list", data := .seq (ys ++ ys₄ ++ ys₆) }) := fun b o e => Heap.get?_push_of_some _ e
    have S37 : h₃.StaysIn h₆ := fun b o e => S₆ b o (S₅ b o (S₄ b o e))
    refine good _ _ _ (ps ++ ps.map (· ++ [("a" : PySem.Str)]) ++ ps.map (· ++ [("z" : PySem.Str)])) ⟨0, Heap.get?_push_size _ rfl⟩ ?_ (by simp; omega) ?_ (fun b o e => S₇ b o (S37 b o (S₃ b o e))) ⟨rfl, rfl⟩
    · rw [Array.toList_append, Array.toList_append]
      refine AllAt.append (AllAt.append ?_ ?_) ?_
      · exact hA₃.imp fun v x hx => hx.keeps fun b o e => S₇ b o (S37 b o e)
      · exact hA₄.imp fun v x hx => hx.keeps fun b o e => S₇ b o (S₆ b o (S₅ b o e))
      · exact hA₆.imp fun v x hx => hx.keeps S₇
    · obtain ⟨n, e⟩ := hL₃
      have h1 : D < h₆.objs.size := Heap.lt_size (S37 _ _ e)
      have h2 : h₁.objs.size ≤ D := Nat.le_trans (by simp only [Heap.size_push]; exact Nat.le_succ_of_le (Nat.le_succ _)) hD
      have h3 : s.heap.objs.size < h₁.objs.size := hLe ▸ F.lt
      exact Nat.le_of_lt (Nat.lt_trans (Nat.lt_of_lt_of_le h3 h2) h1)
end
end Mine
-- NO
namespace Mine

section
variable {prog : Program} {w : World} {A : Around} {E : Value → Shared → Prop} {s : Shared} {G : Heap} {R : Result → Shared → Prop}

/-- a loop over a list whose body may turn what lies in `Mu` -/
theorem forLstM {env : Env} {m : PySem.Str → Option Value} {target : PySem.Expr} {body : List Stmt} {l : Addr} {items : Array Value} (hh : Hok A s.heap) (F : Fq w G env.locals s.heap m) (hl : s.heap.IsList l items)
    (hgo : ∀ (I l : Addr) (i : Nat) (s : Shared) v (Q : Unit → Shared → Prop) (E : Value → Shared → Prop), s.heap.IsListIter I l i → Q () s → wpAny (model prog w) A (letOwnedTupleGo target (.ref I) v) Q E s)
    (Mu : Addr → Prop) (hM : ∀ b, Mu b → G.get? b = none) (hMl : ¬ Mu l) (hMh : ∀ b ∈ hadr A, ¬ Mu b) (hMs : ∀ b, Mu b → b < s.heap.objs.size) (Z : Nat → Heap → Prop)
    (stab : ∀ i h h', Z i h → (∀ c o, o.cls ≠ .type "list_iterator" → h.get? c = some o → h'.get? c = some o) → Z i h')
    (Jm : Nat → (PySem.Str → Option Value) → Prop) (h0 : Jm 0 m) (z0 : Z 0 s.heap)
    (step : ∀ i v G' s₁ m₁, items[i]? = some v → Jm i m₁ → Z i s₁.heap → Fq w G' env.locals s₁.heap m₁ → G.StaysIn G' → (∀ b, Mu b → G'.get? b = none) → (∀ b o, b ≠ env.locals → ¬ Mu b → s₁.heap.get? b = some o → G'.get? b = some o) → SameX s s₁ → Hok A G' →
      wpAny (model prog w) A (assign target env v) (fun _ s₂ => wpAny (model prog w) A (execs body env) (fun f s₃ => match f with
          | .next | .cont => (∃ m₂, Fq w G' env.locals s₃.heap m₂ ∧ Jm (i + 1) m₂) ∧ SameX s₁ s₃ ∧ Z (i + 1) s₃.heap
          | .brk => R (.ok .next) s₃
          | .ret v => R (.ok (.ret v)) s₃) (notedBy (model prog w) A env fun e s' => R (.error e) s') s₂) (notedBy (model prog w) A env fun e s' => R (.error e) s') s₁)
    (done : ∀ s₁ m₁, Jm items.size m₁ → Z items.size s₁.heap → Fq w G env.locals s₁.heap m₁ → SameX s s₁ → R (.ok .next) s₁) :
    wpAny (model prog w) A (pyIter (.ref l)) (fun it s₂ => codeAny (model prog w) A (.forLoop target it body [] env) R s₂) E s := by
  refine wpAny_pyIter_list hl ?_
  have hlt : l < s.heap.objs.size := by obtain ⟨o, e, _⟩ := hl; exact Heap.lt_size e
  have hne : l ≠ s.heap.objs.size := Nat.ne_of_lt hlt
  have k₁ : s.heap.StaysIn (s.heap.push { cls := .type "list_iterator", data := .fields #[.ref l, .int 0 0] }) := fun b o e => Heap.get?_push_of_some _ e
  generalize hI : s.heap.objs.size = I at hne hMs
  have hIh : I ∉ hadr A := fun q => hadr_alive hh q hI.symm
  have hLI : env.locals ≠ I := hI ▸ Nat.ne_of_lt F.lt
  have hGI : G.get? I = none := hidden_of F.keep (hI ▸ Nat.le_refl _)
  have hMI : ¬ Mu I := fun q => Nat.lt_irrefl _ (hMs I q)
  have hLl : env.locals ≠ l := F.ne_list hl
  have hLh : env.locals ∉ hadr A := F.not_hadr hh
  refine forL (s := { s with heap := s.heap.push { cls := .type "list_iterator", data := .fields #[.ref l, .int 0 0] } }) (walksList (A := A) I l hne hIh items) (fun i s v Q E st hQ => hgo _ _ _ s v Q E st.1 hQ)
    (fun i s₁ => (∃ m₁, Fq w G env.locals s₁.heap m₁ ∧ Jm i m₁) ∧ SameX s s₁ ∧ Z i s₁.heap ∧ ∃ k, s₁.heap.IsListIter I l k)
    ⟨⟨_, Heap.get?_push_at hI.symm rfl, rfl, rfl⟩, hl.push _, hh.frame fun b _ o e => k₁ b o e⟩ ⟨⟨m, F.keeps k₁, h0⟩, ⟨rfl, rfl⟩, stab _ _ _ z0 fun c o _ e => k₁ c o e, 0, ⟨_, Heap.get?_push_at hI.symm rfl, rfl, rfl⟩⟩ ?_ ?_
  · rintro i v s₀ h' tk hi hP ⟨⟨m₁, F₁, hJ⟩, hX, hZ, kk, oI, eI, cI, _⟩ hS hk
    have hkK : Kept (· = I) s₀.heap h' := fun b o hb e => hk b o (by simpa using hb) e
    have F₂ : Fq w G env.locals h' m₁ := F₁.kept hkK hLI (fun b hb => hb ▸ hGI)
    have hZ' : Z i h' := stab _ _ _ hZ fun c o hc e => hkK c o (fun q => by rw [q, eI] at e; cases e; exact hc cI) e
    obtain ⟨F₃, hsub⟩ := F₂.rebase Mu hM
    have hhG : Hok A (minusW h' fun b => b = env.locals ∨ Mu b) := hS.2.2.frame fun b hb o e => minusW_get.mpr ⟨e, fun q => q.elim (fun q => hLh (q ▸ hb)) (hMh b hb)⟩
    refine wpAny_mono (step i v _ { s₀ with heap := h', toks := tk } m₁ hP hJ hZ' F₃ hsub (fun b hb => by
        cases q : (minusW h' fun b => b = env.locals ∨ Mu b).get? b with
        | none => rfl
        | some o => exact absurd (.inr hb) (minusW_get.mp q).2) (fun b o hb hm e => minusW_get.mpr ⟨e, fun q => q.elim hb hm⟩) hX hhG) (fun _ s₂ h₂ => wpAny_mono h₂ (fun f s₃ h₃ => ?_) fun _ _ e => e) fun _ _ e => e
    have fin : ((∃ m₂, Fq w (minusW h' fun b => b = env.locals ∨ Mu b) env.locals s₃.heap m₂ ∧ Jm (i + 1) m₂) ∧ SameX { s₀ with heap := h', toks := tk } s₃ ∧ Z (i + 1) s₃.heap) →
        ((∃ m₁, Fq w G env.locals s₃.heap m₁ ∧ Jm (i + 1) m₁) ∧ SameX s s₃ ∧ Z (i + 1) s₃.heap ∧ ∃ k, s₃.heap.IsListIter I l k) ∧ (s₃.heap.IsListIter I l (i + 1) ∧ s₃.heap.IsList l items ∧ Hok A s₃.heap) := by
      rintro ⟨⟨m₂, F₄, hJ'⟩, hX', hZ''⟩
      have up : ∀ b o, b ≠ env.locals → ¬ Mu b → h'.get? b = some o → s₃.heap.get? b = some o := fun b o hb hm e => F₄.keep b o (minusW_get.mpr ⟨e, fun q => q.elim hb hm⟩)
      have hit : s₃.heap.IsListIter I l (i + 1) := hS.1.at fun o e => up I o (Ne.symm hLI) hMI e
      refine ⟨⟨⟨m₂, ⟨F₄.ns, fun b o e => F₄.keep b o (hsub b o e), F.off, F.gd⟩, hJ'⟩, hX.trans hX', hZ'', _, hit⟩, hit, hS.2.1.at fun o e => up l o (Ne.symm hLl) hMl e, hS.2.2.frame fun b hb o e => up b o (fun q => hLh (q ▸ hb)) (hMh b hb) e⟩
    cases f with
    | next => exact fin h₃
    | cont => exact fin h₃
    | brk => exact h₃
    | ret v => exact h₃
  · rintro s₀ h' tk ⟨⟨m₁, F₁, hJ⟩, hX, hZ, kk, oI, eI, cI, _⟩ hk
    have hkK : Kept (· = I) s₀.heap h' := fun b o hb e => hk b o (by simpa using hb) e
    exact done { s₀ with heap := h', toks := tk } m₁ hJ (stab _ _ _ hZ fun c o hc e => hkK c o (fun q => by rw [q, eI] at e; cases e; exact hc cI) e) (F₁.kept hkK hLI (fun b hb => hb ▸ hGI)) hX

/-- `way, flag = pair` in a comprehension -/
theorem c_tup2 {x y : PySem.Str} {p q : Pos} {k : Nat} {pos : Pos} {t : Addr} {a b : Value} {env : Env} {m : PySem.Str → Option Value} {Q : Unit → Shared → Prop} (hh : Hok A s.heap) (hN : s.heap.Ns env.locals m) (ht : s.heap.IsTuple t #[a, b])
    (hx : env.kindOf x = some .local) (hy : env.kindOf y = some .local)
    (hkd : (env.scope.kind == .class || (env.scope.kind == .module && env.locals != env.globals)) = false)
    (h : ∀ h' tk, h'.Ns env.locals (fun z => if z = y then some b else if z = x then some a else m z) → Kept (· = env.locals) s.heap h' → Q () { s with heap := h', toks := tk }) :
    wpAny (model prog w) A (assign (.Tuple [.Name x p, .Name y q] k pos) env (.ref t)) Q E s := by
  rw [arm_assign_Tuple]
  refine wpAny_bind (wpAny_standAt ?_)
  show wpAny _ _ (do assignInOrder [assign (.Name x p) env, assign (.Name y q) env] (← holding [.ref t] (unpackItems (.ref t) 2 none))) Q E s
  refine wpAny_bind (wpAny_holding (unpackH hh ht rfl fun h₁ k₁ => ?_))
  refine wpAny_bind (m := holding [b] (assign (.Name x p) env a)) (wpAny_holding (wpAny_assign_Name (wpAny_storeName_local hx (hN.keeps k₁) (fun h₂ n₂ s₂ => ?_) hkd)))
  refine wpAny_bind (m := holding [] (assign (.Name y q) env b)) (wpAny_holding (wpAny_assign_Name (wpAny_storeName_local hy n₂ (fun h₃ n₃ s₃ => ?_) hkd)))
  show wpAny _ _ (pure ()) Q E _
  exact wpAny_pure (h h₃ _ n₃ fun b o hb e => s₃.extBut b o hb (s₂.extBut b o hb (k₁ b o e)))
end
end Mine
-- NP
namespace Mine

noncomputable def lwd (ps : List Way) : PyData := .list (ps.map wd)
theorem lays_lwd : ∀ {ps : List Way}, (∀ p ∈ ps, ∀ x ∈ p, x ∈ nms) → PyData.canLayAll0 (ps.map wd) = true
  | [], _ => rfl
  | p :: ps, h => by
    have h1 := lay_wd (h p (.head _))
    have h2 := lays_lwd (ps := ps) fun y hy => h y (.tail _ hy)
    simp [PyData.canLayAll0, h1, h2]
theorem depth_lwd : ∀ ps : List Way, PyData.depthAll (ps.map wd) ≤ 2
  | [] => by simp [PyData.depthAll]
  | p :: ps => by
    have := depth_lwd ps
    have := depth_wd p
    simp [PyData.depthAll]
    omega
theorem shaped_lwd {ps : List Way} (h : ∀ p ∈ ps, ∀ x ∈ p, x ∈ nms) : SeqAt.shaped (lwd ps) = true := by
  unfold SeqAt.shaped lwd
  have := depth_lwd ps
  simp [PyData.canLay0, PyData.depth, lays_lwd h]
  omega
theorem ways_reads {h : Heap} {vs : List Value} {ps : List Way} (x : AllAt (WayAt h) vs ps) : ReadsAll h vs (ps.map wd) [] := by
  induction x with
  | nil => exact .nil
  | cons a _ ih => exact .cons (as := []) (bs := []) a.reads ih
theorem ways_names {h : Heap} {vs : List Value} {ps : List Way} (x : AllAt (WayAt h) vs ps) : ∀ p ∈ ps, ∀ x ∈ p, x ∈ nms := by
  induction x with
  | nil => intro p hp; cases hp
  | cons a _ ih =>
    intro p hp
    rcases List.mem_cons.mp hp with rfl | hp
    · exact a.names
    · exact ih p hp
theorem reads_lwd {h : Heap} {a : Addr} {items : Array Value} {ps : List Way} (l : h.PlainList a items) (x : AllAt (WayAt h) items.toList ps) : Reads h (.ref a) (lwd ps) [a] := by
  obtain ⟨n, e⟩ := l
  exact .list e rfl rfl (ways_reads x)
theorem eqv_lwd_nil (ps : List Way) : PyData.eqv (lwd ps) (lwd []) = decide (ps = []) := by
  unfold lwd
  cases ps with
  | nil => simp [PyData.eqv, PyData.eqvAll]
  | cons p ps => simp [PyData.eqv, PyData.eqvAll]
theorem WayAt.nil {h : Heap} {a : Addr} (x : IsTup h a #[]) : WayAt h (.ref a) [] := ⟨a, [], rfl, x, .nil, fun _ h => by simp at h, by simp⟩

/-- the list of what waits -/
noncomputable def WaitAt (h : Heap) (a : Addr) (l : List (Way × Int)) : Prop := ∃ items : Array Value, h.PlainList a items ∧ AllAt (fun v x => PairAt h v x.1 x.2) items.toList l
theorem WaitAt.keeps {h h' : Heap} {a : Addr} {l : List (Way × Int)} (x : WaitAt h a l) (k : h.StaysIn h') : WaitAt h' a l :=
  let ⟨items, p, y⟩ := x; ⟨items, p.at fun o e => k _ o e, y.imp fun _ _ z => z.keeps k⟩
theorem filterMap_ways {l : List (Way × Int)} : ((l.filterMap fun x => if x.1 = [] then some x.1 else none) = []) ↔ ∀ x ∈ l, x.1 ≠ [] := by
  rw [List.filterMap_eq_nil_iff]
  constructor
  · intro h x hx q
    have := h x hx
    rw [if_pos q] at this
    cases this
  · intro h x hx
    rw [if_neg (h x hx)]

section
variable {prog : Program} {w : World} {A : Around} {E : Value → Shared → Prop} {s : Shared} {G : Heap} {R : Result → Shared → Prop}

set_option maxHeartbeats 4000000 in
/-- `[way for way, flag in waits if way == ()] != []` -/
theorem stuck_spec {L f : Addr} {m : PySem.Str → Option Value} {cn : PySem.Str} {cs : Scope} {ccd : Value} {ocl : List (PySem.Str × Addr)} {p1 p2 p3 p4 p5 p6 p7 p8 p9 pa pb : Pos} {k1 k2 : Nat}
    {wt : Addr} {l : List (Way × Int)} {Q : Value → Shared → Prop} (hh : A.handled = none) (hu : A.units + 64 < cLine) (F : Fq w G L s.heap m) (hm : m "waits" = some (.ref wt)) (hw : WaitAt s.heap wt l) (hl : l.length ≤ 1000)
    (h : ∀ h' tk, s.heap.StaysIn h' → Q (.bool (!decide (∀ x ∈ l, x.1 ≠ []))) { s with heap := h', toks := tk })
    (hk : cs.kind = .function := by rfl) (hbk : (envX cn cs L f ccd ocl).kindOf "waits" = some .local := by rfl) :
    wpAny (model prog w) A (eval (.Compare (.ListComp (.Name "way" p1) [⟨.Tuple [.Name "way" p2, .Name "flag" p3] k1 p4, .Name "waits" p5, [.Compare (.Name "way" p6) [.Eq] [.Tuple [] k2 p7] p8], 0⟩]
      ⟨.function, [(".0", .local), ("way", .local), ("flag", .local)], false, false, []⟩ p9) [.NotEq] [.List [] pa] pb) (envX cn cs L f ccd ocl)) Q E s := by
  obtain ⟨ys, hL, hA⟩ := hw
  refine wpAny_Compare1 (q_comp WayAt wayPr (by rfl) (by decide) rfl (by decide) ?_)
  refine q_ld F hm (wpAny_pyIter_list hL.isList ?_) hk hbk
  have hys : ys.size = l.length := by rw [← hA.length, Array.length_toList]
  have k₁ : s.heap.StaysIn (s.heap.push { cls := .type "list_iterator", data := .fields #[.ref wt, .int 0 0] }) := fun b o e => Heap.get?_push_of_some _ e
  have hDlt : wt < s.heap.objs.size := by obtain ⟨n, e⟩ := hL; exact Heap.lt_size e
  have no : hadr A = [] := by simp [hadr, hh]
  refine ⟨s.heap.objs.size, _, ys.size, _, _, (fun i => (l[i]?).bind fun x => if x.1 = [] then some x.1 else none), rfl, walksList (A := A) s.heap.objs.size wt (Nat.ne_of_lt hDlt) (fun q => by rw [no] at q; cases q) ys, by omega, ⟨⟨_, Heap.get?_push_size _ rfl, rfl, rfl⟩, (hL.at fun o e => k₁ _ o e).isList, .inl hh⟩, ?_, ?_, ?_, ?_, ?_⟩
  · intro b hb
    rw [no] at hb
    simp at hb
    rcases hb with rfl | rfl
    · simp
    · exact Nat.lt_trans hDlt (by simp)
  · rintro i h' ⟨⟨o, e, hc, hd⟩, _⟩
    refine ⟨⟨o, e⟩, fun items ht => ?_⟩
    obtain ⟨o', ho', hc', _⟩ := ht
    rw [e] at ho'; cases ho'
    rw [hc] at hc'
    exact absurd hc' (by decide)
  · intro i s v Q E hst h
    exact goListTup hst.1 h
  · intro i vv C s₃ m₃ E' hi hv hC hN hK _
    have S₃ : s.heap.StaysIn s₃.heap := fun b o e => hK b o (fun q => absurd (Heap.lt_size e) (Nat.not_lt.mpr (Nat.le_of_eq q.symm))) (k₁ b o e)
    have hp : ∃ x, l[i]? = some x ∧ PairAt s.heap vv x.1 x.2 := hA.get (by simpa using hv)
    obtain ⟨⟨p, fl⟩, hpi, a, wv, t, rfl, ht, hwv⟩ := hp
    refine c_tup2 (.inl hh) hN (ht.keeps S₃) rfl rfl (by rfl) fun h₄ tk₄ hn₄ kp₄ => ?_
    have hC' : s.heap.objs.size < C := Nat.lt_of_lt_of_le (by simp) hC
    have hwv₄ : WayAt h₄ wv p := hwv.keeps fun b o e => kp₄ b o (Nat.ne_of_lt (Nat.lt_trans (Heap.lt_size e) hC')) (S₃ b o e)
    refine tests_one (wpAny_isTrue_Compare1 (wpAny_Name (wpAny_loadName_local rfl rfl hn₄ rfl ?_) (by decide)))
    refine wpAny_Tuple (args_nil ⟨by rw [sizeLine_is]; decide, ?_⟩)
    have kt : h₄.StaysIn (h₄.push { cls := .type "tuple", data := .seq #[] }) := fun b o e => Heap.get?_push_of_some _ e
    refine eq_ways (hwv₄.keeps kt) (WayAt.nil (IsTup.new _ _)) hu (wpAny_truthy_bool ?_)
    by_cases hpn : p = []
    · rw [if_pos (by simpa using hpn)]
      refine wpAny_Name (wpAny_loadName_local rfl rfl (hn₄.keeps kt) rfl ?_) (by decide)
      refine ⟨_, _, _, rfl, hn₄.keeps kt, fun b o hb e => kt b o (kp₄ b o hb e), p, ?_, hwv₄.keeps kt⟩
      show (l[i]?).bind _ = _
      rw [hpi]
      exact if_pos hpn
    · rw [if_neg (by simpa using hpn)]
      refine ⟨_, _, _, rfl, hn₄.keeps kt, fun b o hb e => kt b o (kp₄ b o hb e), ?_⟩
      show (l[i]?).bind _ = _
      rw [hpi]
      exact if_neg hpn
  · intro D' h' tk ys' hD' hL' hA' hK'
    have e1 : (List.range ys.size).filterMap (fun i => (l[i]?).bind fun x => if x.1 = [] then some x.1 else none) = l.filterMap fun x => if x.1 = [] then some x.1 else none := by
      rw [range_take, hys, List.take_length]
    rw [e1] at hA'
    have S' : s.heap.StaysIn h' := fun b o e => hK' b o (fun q => absurd (Heap.lt_size e) (Nat.not_lt.mpr (Nat.le_of_eq q.symm))) (k₁ b o e)
    refine wpAny_List (args_nil ?_)
    have kl : h'.StaysIn (h'.push { cls := .type "list", data := .seq #[] }) := fun b o e => Heap.get?_push_of_some _ e
    have r0 : Reads (h'.push { cls := .type "list", data := .seq #[] }) (.ref h'.objs.size) (lwd []) [h'.objs.size] := reads_lwd (items := #[]) ⟨0, Heap.get?_push_size _ rfl⟩ .nil
    refine ⟨by rw [sizeLine_is]; decide, ?_⟩
    refine ne_dataH (s := { s with heap := h'.push { cls := .type "list", data := .seq #[] }, toks := tk }) (reads_lwd (hL'.at fun o e => kl _ o e) (hA'.imp fun v x hx => hx.keeps kl)) r0 (shaped_lwd (ways_names hA')) (shaped_lwd (by simp)) hu ?_
    rw [eqv_lwd_nil, decide_eq_decide.mpr filterMap_ways]
    exact h _ _ fun b o e => kl b o (S' b o e)
end
end Mine
-- NQ
namespace Mine

noncomputable def sureAll (ms : List Mark) (l : List (Way × Int)) : List Mark := ms ++ l.map fun x => ⟨x.1, x.2, false, 2⟩
noncomputable def maybe1 (ms : List Mark) (x : Way × Int) : List Mark := if x.1 ≠ [] ∧ due ms x.1 x.2 = 0 then ms ++ [⟨x.1, x.2, false, 1⟩] else ms
noncomputable def maybeAll (ms : List Mark) (l : List (Way × Int)) : List Mark := l.foldl maybe1 ms
theorem sureAll_succ {ms : List Mark} {l : List (Way × Int)} {i : Nat} {x : Way × Int} (h : l[i]? = some x) : sureAll ms (l.take (i + 1)) = sureAll ms (l.take i) ++ [⟨x.1, x.2, false, 2⟩] := by
  rw [List.take_add_one, h]
  simp [sureAll]
theorem maybeAll_succ {ms : List Mark} {l : List (Way × Int)} {i : Nat} {x : Way × Int} (h : l[i]? = some x) : maybeAll ms (l.take (i + 1)) = maybe1 (maybeAll ms (l.take i)) x := by
  rw [List.take_add_one, h]
  simp [maybeAll, List.foldl_append]
theorem maybe_len : ∀ (l : List (Way × Int)) (ms : List Mark), (maybeAll ms l).length ≤ ms.length + l.length
  | [], ms => by simp [maybeAll]
  | x :: l, ms => by
    have := maybe_len l (maybe1 ms x)
    have h2 : (maybe1 ms x).length ≤ ms.length + 1 := by unfold maybe1; split <;> simp
    show (maybeAll (maybe1 ms x) l).length ≤ _
    simp only [List.length_cons]
    omega

theorem BookAt.stab {b : Addr} {ms : List Mark} {h h' : Heap} (x : BookAt h b ms) (k : ∀ c o, o.cls ≠ .type "list_iterator" → h.get? c = some o → h'.get? c = some o) : BookAt h' b ms := by
  obtain ⟨items, l, y⟩ := x
  refine ⟨items, l.at fun o e => ?_, y.imp fun v z hz => hz.tups2 fun c items ht o e => ?_⟩
  · obtain ⟨n, e'⟩ := l
    rw [e'] at e; cases e
    exact k _ _ (show Value.type "list" ≠ Value.type "list_iterator" by decide) e'
  · obtain ⟨o', e', hc, _⟩ := ht
    rw [e] at e'; cases e'
    exact k _ _ (by rw [hc]; decide) e
theorem MarkAt.sameBut {b : Addr} {items : Array Value} {h h' : Heap} {v : Value} {mk : Mark} (x : MarkAt h v mk) (l : h.PlainList b items) (k : Kept (· = b) h h') : MarkAt h' v mk :=
  x.tups2 fun c its ht o e => k c o (fun q => by
    obtain ⟨n, e2⟩ := l
    obtain ⟨o', e', hc, _⟩ := ht
    rw [q, e2] at e'; cases e'
    exact absurd (show Value.type "list" = Value.type "tuple" from hc) (by decide)) e

section
variable {prog : Program} {w : World} {A : Around} {E : Value → Shared → Prop} {s : Shared} {G : Heap} {R : Result → Shared → Prop} {L f : Addr} {m : PySem.Str → Option Value} {cn : PySem.Str} {cs : Scope} {ccd : Value} {ocl : List (PySem.Str × Addr)}

/-- `marks.append((way, flag, False, k))` -/
theorem app_mark {k : Int} {q1 q2 q3 q4 q5 q6 q7 q8 q9 : Pos} {k5 k6 k7 : Nat} {b : Addr} {ms : List Mark} {wv : Value} {p : Way} {fl : Int} {t : Tok} {Q : Flow → Shared → Prop} {pl : Sem Bool}
    (F : Fq w G L s.heap m) (hm : m "marks" = some (.ref b)) (hw : m "way" = some wv) (hf : m "flag" = some (.int fl t)) (hwv : WayAt s.heap wv p) (hb : BookAt s.heap b ms) (hlen : ms.length ≤ 20000)
    (h : ∀ h' tk, BookAt h' b (ms ++ [⟨p, fl, false, k⟩]) → Kept (· = b) s.heap h' → Q .next { s with heap := h', toks := tk })
    (he : eval (.Call (.Attribute (.Name "marks" q1) "append" q2) [.Tuple [.Name "way" q3, .Name "flag" q4, .Constant (.bool false) k5 q5, .Constant (.int k) k6 q6] k7 q7] [] q8) (envX cn cs L f ccd ocl) = (do
      let ov ← eval (.Name "marks" q1) (envX cn cs L f ccd ocl)
      standAt q2.atName
      let (f', first) ← holding [ov] (getMethod ov "append" pl)
      callWith q8 f' first (backTo q8 (starEach [.Tuple [.Name "way" q3, .Name "flag" q4, .Constant (.bool false) k5 q5, .Constant (.int k) k6 q6] k7 q7] (envX cn cs L f ccd ocl))) []))
    (hs : swapsWith (.Call (.Attribute (.Name "marks" q1) "append" q2) [.Tuple [.Name "way" q3, .Name "flag" q4, .Constant (.bool false) k5 q5, .Constant (.int k) k6 q6] k7 q7] [] q8) none q9.line (envX cn cs L f ccd ocl) = pure false)
    (hi : interactive (envX cn cs L f ccd ocl) = false)
    (hk : cs.kind = .function := by rfl) (k1 : (envX cn cs L f ccd ocl).kindOf "marks" = some .local := by rfl) (k2 : (envX cn cs L f ccd ocl).kindOf "way" = some .local := by rfl) (k3 : (envX cn cs L f ccd ocl).kindOf "flag" = some .local := by rfl) :
    wpAny (model prog w) A (exec (.Expr (.Call (.Attribute (.Name "marks" q1) "append" q2) [.Tuple [.Name "way" q3, .Name "flag" q4, .Constant (.bool false) k5 q5, .Constant (.int k) k6 q6] k7 q7] [] q8) q9) (envX cn cs L f ccd ocl)) Q E s := by
  obtain ⟨items, hL, hA⟩ := hb
  have hz : items.size = ms.length := by rw [← hA.length, Array.length_toList]
  refine wpAny_Expr (MethodCall_ (q_ld F hm (getMethod_list_append hL.choose_spec rfl rfl (callWith_method1 ?_)) hk k1) he) hi hs
  refine args_cons (wpAny_Tuple ?_)
  refine args_cons (q_ld F hw ?_ hk k2)
  refine args_cons (q_ld F hf ?_ hk k3)
  refine args_cons (wpAny_Constant_bool (args_cons (wpAny_Constant_int (args_nil ⟨by rw [sizeLine_is]; show 4 ≤ _; decide, ?_⟩))))
  have kt : ∀ (o : Obj), s.heap.StaysIn (s.heap.push o) := fun o b ob e => Heap.get?_push_of_some _ e
  refine args_nil (wpAny_list_append_plain (hL.at fun o e => kt _ _ o e) (fun h' hL' sb => ?_) (by rw [sizeLine_is]; omega))
  have kb : Kept (· = b) s.heap h' := fun c o hc e => sb.extBut c o hc (kt _ c o e)
  refine h h' _ ⟨_, hL', ?_⟩ kb
  rw [Array.toList_push]
  refine (hA.imp fun v x hx => hx.sameBut hL kb).push ?_
  have hLt : (s.heap.push { cls := .type "tuple", data := .seq #[wv, .int fl t, .bool false, .int k s.toks] }).get? s.heap.objs.size = some { cls := .type "tuple", data := .seq #[wv, .int fl t, .bool false, .int k s.toks] } := Heap.get?_push_size _ rfl
  have hlt : b < s.heap.objs.size := by obtain ⟨n, e⟩ := hL; exact Heap.lt_size e
  refine ⟨s.heap.objs.size, wv, t, s.toks, rfl, ⟨_, sb.extBut _ _ (Nat.ne_of_gt hlt) hLt, rfl, 0, rfl⟩, hwv.tups2 fun c its ht o e => kb c o (fun q => ?_) e⟩
  obtain ⟨n, e2⟩ := hL
  obtain ⟨o', e', hc, _⟩ := ht
  rw [q, e2] at e'; cases e'
  exact absurd (show Value.type "list" = Value.type "tuple" from hc) (by decide)
end
end Mine
-- NR
namespace Mine
noncomputable abbrev setEnv (L : Addr) : Env := envX "_law_settled" { kind := .function, names := [("machine", .local), ("marks", .local), ("waits", .local), ("way", .local), ("flag", .local), ("stuck", .local), ("IndexError", .globalImplicit), ("_law_due", .globalImplicit)], isGenerator := false, isCoroutine := false, more := [("fast", .str "machine"), ("fast", .str "marks"), ("fast", .str "waits"), ("fast", .str "way"), ("fast", .str "flag"), ("fast", .str "stuck")] } L 101 (.ref 100) []

theorem BookAt.kept {W : Addr → Prop} {h h' : Heap} {b : Addr} {ms : List Mark} (x : BookAt h b ms) (k : Kept W h h') (hb : ¬ W b) (ht : ∀ a items, IsTup h a items → ¬ W a) : BookAt h' b ms :=
  let ⟨items, l, y⟩ := x; ⟨items, l.at fun o e => k _ o hb e, y.imp fun _ _ z => z.tups2 fun c its hc o e => k c o (ht c its hc) e⟩
theorem WaitAt.kept {W : Addr → Prop} {h h' : Heap} {b : Addr} {l : List (Way × Int)} (x : WaitAt h b l) (k : Kept W h h') (hb : ¬ W b) (ht : ∀ a items, IsTup h a items → ¬ W a) : WaitAt h' b l :=
  let ⟨items, p, y⟩ := x; ⟨items, p.at fun o e => k _ o hb e, y.imp fun _ _ z => z.tups2 fun c its hc o e => k c o (ht c its hc) e⟩
theorem plain_not_tup {h : Heap} {a : Addr} {items : Array Value} (l : h.PlainList a items) (its : Array Value) : ¬ IsTup h a its := fun ht => by
  obtain ⟨n, e⟩ := l
  obtain ⟨o, e', hc, _⟩ := ht
  rw [e] at e'; cases e'
  exact absurd (show Value.type "list" = Value.type "tuple" from hc) (by decide)
theorem Mach.kept2 {prog : Program} {w : World} {fs : List Int} {h h' : Heap} {c : Mc} {M : Tr} {l : List (Way × Int)} {W : Addr → Prop} (X : Mach prog w fs h c M l) (k : Kept W h h')
    (hW : ∀ a, W a → ¬ Area c M a ∧ a ≠ c.x ∧ a ≠ c.dx ∧ ∀ items, ¬ IsTup h a items) : Mach prog w fs h' c M l := by
  refine ⟨?_, X.tree.kept k fun a ha q => (hW a q).1 (.inl ha), X.pend.tups2 (fun o => k _ o fun q => (hW _ q).1 (.inr rfl)) (fun b items hb o e => k b o (fun q => (hW b q).2.2.2 items hb) e), X.offp, X.offd, X.flags⟩
  obtain ⟨sl, h1, h2, t1, t2, n, a, b⟩ := X.inst
  exact ⟨sl, h1, h2, t1, t2, n, k _ _ (fun q => (hW _ q).2.1 rfl) a, k _ _ (fun q => (hW _ q).2.2.1 rfl) b⟩
theorem Mach.off_plain {prog : Program} {w : World} {fs : List Int} {h : Heap} {c : Mc} {M : Tr} {l : List (Way × Int)} (X : Mach prog w fs h c M l) {a : Addr} {its : Array Value} (p : h.PlainList a its) :
    ¬ Area c M a ∧ a ≠ c.x ∧ a ≠ c.dx ∧ ∀ items, ¬ IsTup h a items := by
  refine ⟨fun q => ?_, fun q => ?_, fun q => ?_, plain_not_tup p⟩
  · obtain ⟨n, e⟩ := p
    obtain ⟨o, e', hc⟩ := X.alive q
    rw [e] at e'; cases e'
    rcases hc with hc | hc
    · exact absurd (show Value.type "list" = Value.type "dict" from hc) (by decide)
    · exact absurd (show Value.type "list" = Value.type "set" from hc) (by decide)
  · obtain ⟨n, e⟩ := p
    obtain ⟨sl, _, _, _, _, _, x, _⟩ := X.inst
    rw [q, x] at e
    injection e with e
    injection e with e1 e2 e3 e4
    cases e3
  · obtain ⟨n, e⟩ := p
    obtain ⟨sl, _, _, _, _, _, _, x⟩ := X.inst
    rw [q, x] at e
    injection e with e
    injection e with e1 e2 e3 e4
    cases e3
/-- how a settling turns a machine -/
noncomputable def Turned (M : Tr) (l : List (Way × Int)) (ms : List Mark) (M' : Tr) (l' : List (Way × Int)) (ms' : List Mark) : Prop :=
  ((∀ x ∈ l, x.1 ≠ []) ∧ l' = [] ∧ ms' = sureAll ms l ∧ ∀ q b j, V M' q b j ↔ V M q b j ∨ (b = false ∧ (q, j) ∈ l)) ∨
  (l' = l ∧ ms' = maybeAll ms l ∧ (∀ q b j, V M q b j → V M' q b j) ∧ ∀ q b j, V M' q b j → V M q b j ∨ (b = false ∧ (q, j) ∈ l))

section
variable {prog : Program} {w : World} {A : Around} {s : Shared} {G : Heap} {R : Result → Shared → Prop}
set_option maxRecDepth 100000 in
set_option maxHeartbeats 16000000 in
theorem settled_spec {outer : List Env} {fs : List Int} {c : Mc} {M : Tr} {l : List (Way × Int)} {ms : List Mark} {b wt : Addr} (g : Gd w G) (hk : G.StaysIn s.heap) (hroom : A.depth + 3 < recursionLimit) (hu : A.units + 100 < cLine) (hh : A.handled = none)
    (hF : Fs A outer s.heap) (X : Mach prog w fs s.heap c M l) (hB : BookAt s.heap b ms) (hW : WaitAt s.heap wt l) (hbw : b ≠ wt) (hfs : fs.length ≤ 3) (hlen : ms.length + l.length ≤ 20000) (hl : l.length ≤ 1000)
    (hGf : ∀ a, Area c M a → G.get? a = none) (hGF : ∀ a, isFrame outer a → G.get? a = none) (hGb : G.get? b = none) (hGw : G.get? wt = none)
    (hFa : ∀ a, isFrame outer a → ¬ Area c M a ∧ a ≠ c.dx)
    (good : ∀ s' M' l' ms', Mach prog w fs s'.heap c M' l' → BookAt s'.heap b ms' → WaitAt s'.heap wt l' → Turned M l ms M' l' ms' → Grow c.root M M' s.heap.objs.size →
      Kept (fun a => Area c M a ∨ isFrame outer a ∨ a = b ∨ a = wt) s.heap s'.heap → (∀ a o, isFrame outer a → s.heap.get? a = some o → ∃ sl, s'.heap.get? a = some { o with slots := sl }) → SameX s s' → R (.ok (.ret (.bool true))) s') :
    codeAny (model prog w) A (.call (.ref 101) ⟨[.ref c.x, .ref b, .ref wt], []⟩) R s := by
  have hWh : ∀ a, (Area c M a ∨ isFrame outer a ∨ a = b ∨ a = wt) → G.get? a = none := fun a ha => by
    rcases ha with ha | ha | rfl | rfl
    · exact hGf _ ha
    · exact hGF _ ha
    · exact hGb
    · exact hGw
  refine enterQ [("machine", .ref c.x), ("marks", .ref b), ("waits", .ref wt)] (fun a => Area c M a ∨ isFrame outer a ∨ a = b ∨ a = wt) g hk hWh (f := 101) rfl (by with_unfolding_all rfl) (by omega) rfl (locs rfl) ?_
  intro L h₁ G₁ tk hLe F sG hG1 hGW S
  have hL : s.heap.get? L = none := by rw [hLe]; exact fresh_size _
  have hLs : ∀ b o, s.heap.get? b = some o → b ≠ L := fun b o e q => by rw [q, hL] at e; cases e
  have hLF : ¬ isFrame outer L := fun q => by obtain ⟨o, _, _, e, _⟩ := hF.obj q; rw [hL] at e; cases e
  have hLA : ¬ Area c M L := fun q => by obtain ⟨o, e, _⟩ := X.alive q; rw [hL] at e; cases e
  have hu1 : A.units + 3 + 80 < cLine := by omega
  refine wpAny_abs ?_; intro Q₀ E₀
  refine wpAny_execs_cons (wpAny_Assign_Name (stuck_spec (A := A.deeper _) hh (by show A.units + 3 + 64 < cLine; exact u_less (a := A.units) (m := 67) hu (by decide)) F rfl (hW.keeps S) hl fun h₂ tk₂ k₂ => ?_))
  refine q_st (F.keeps k₂) fun h₃ tk₃ F₃ s₃ => ?_
  dsimp only at F₃ s₃ ⊢
  have K₃ : s.heap.StaysIn h₃ := fun a o e => s₃.extBut a o (hLs a o e) (k₂ a o (S a o e))
  have X₃ := X.keeps K₃
  have hF₃ : Fs (A.deeper (setEnv L)) (setEnv L :: outer) h₃ := (hF.keeps K₃).push F₃
  have KG₃ := F₃.g.K.keeps F₃.keep
  refine wpAny_execs_cons (wpAny_Try_except ?_)
  refine wpAny_abs ?_; intro Q₀ E₀
  have hGf₃ : ∀ a, Area c M a → G₁.get? a = none := fun a ha => hGW a (.inl ha)
  have hGF₃ : ∀ a, isFrame (setEnv L :: outer) a → G₁.get? a = none := fun a ha => by
    obtain ⟨env, he, hf⟩ := ha
    rcases List.mem_cons.mp he with rfl | he
    · cases hf; exact F.off
    · exact hGW a (.inr (.inl ⟨env, he, hf⟩))
  have hLdx : L ≠ c.dx := fun q => by obtain ⟨sl, _, _, _, _, _, a, b⟩ := X.inst; exact hLs _ _ b q.symm
  have hFa₃ : ∀ a, isFrame (setEnv L :: outer) a → ¬ Area c M a ∧ a ≠ c.dx := fun a ha => by
    obtain ⟨env, he, hf⟩ := ha
    rcases List.mem_cons.mp he with rfl | he
    · cases hf; exact ⟨hLA, hLdx⟩
    · exact hFa a ⟨env, he, hf⟩
  have hbs : b < s.heap.objs.size := by obtain ⟨items, ⟨n, e⟩, _⟩ := hB; exact Heap.lt_size e
  have hws : wt < s.heap.objs.size := by obtain ⟨items, ⟨n, e⟩, _⟩ := hW; exact Heap.lt_size e
  have hLb : b ≠ L := fun q => Nat.lt_irrefl _ (by rw [q, hLe] at hbs; exact hbs)
  have hLw : wt ≠ L := fun q => Nat.lt_irrefl _ (by rw [q, hLe] at hws; exact hws)
  have hAb : ∀ {a : Addr} {its : Array Value}, s.heap.PlainList a its → ¬ Area c M a ∧ ¬ isFrame outer a := fun {a its} hp => by
    obtain ⟨n, e⟩ := hp
    refine ⟨fun q => ?_, fun q => ?_⟩
    · obtain ⟨o, e', hc⟩ := X.alive q
      rw [e] at e'; cases e'
      rcases hc with hc | hc
      · exact absurd (show Value.type "list" = Value.type "dict" from hc) (by decide)
      · exact absurd (show Value.type "list" = Value.type "set" from hc) (by decide)
    · obtain ⟨o, es, ep, e', hd⟩ := hF.obj q
      rw [e] at e'; cases e'; cases hd
  have hbA : ¬ Area c M b ∧ ¬ isFrame outer b := by obtain ⟨its, hp, _⟩ := hB; exact hAb hp
  have hwA : ¬ Area c M wt ∧ ¬ isFrame outer wt := by obtain ⟨its, hp, _⟩ := hW; exact hAb hp
  refine wpAny_execs_cons (wpAny_Expr (MethodCall_ (q_ld F₃ rfl (q_method F₃ X₃.inst (pg_fin w) (fi_fin w) (fn_fin w) (fun _ _ _ _ => rfl) (callWith_K0 KG₃ (kp_fin w) (wpAny_callK ?_))))))
  refine fin_spec (s := { s with heap := h₃, toks := tk₃ }) F₃.g F₃.keep (by show A.depth + 1 + 1 < _; omega) hh hF₃ X₃ hfs hGf₃ hGF₃ hFa₃ ?_ ?_
  · intro hne s₄ M' X₄ V₄ gr₄ kp₄ hX₄
    dsimp only at kp₄ gr₄ hX₄ ⊢
    refine wpAny_execs_nil (wpAny_execs_nil ?_)
    have F₄ := F₃.kept kp₄ hLA hGf₃
    have hnt : ∀ a items, IsTup h₃ a items → ¬ Area c M a := fun a items ht q => by obtain ⟨o, e, hc, _⟩ := ht; exact X₃.not_tup q e hc
    have hB₄ : BookAt s₄.heap b ms := (hB.keeps K₃).kept kp₄ hbA.1 hnt
    have hW₄ : WaitAt s₄.heap wt l := (hW.keeps K₃).kept kp₄ hwA.1 hnt
    obtain ⟨F₅, sub₅⟩ := F₄.rebase (fun a => a = b) (fun a ha => by subst ha; exact hGW _ (.inr (.inr (.inl rfl))))
    generalize hG5 : minusW s₄.heap (fun a => a = L ∨ a = b) = G₅ at F₅ sub₅
    have in5 : ∀ a o, a ≠ L → a ≠ b → s₄.heap.get? a = some o → G₅.get? a = some o := fun a o h1 h2 e => by
      rw [← hG5]
      exact minusW_get.mpr ⟨e, fun q => q.elim h1 h2⟩
    have off5 : ∀ a, a = b → G₅.get? a = none := fun a ha => by
      rw [← hG5]
      cases q : (minusW s₄.heap fun a => a = L ∨ a = b).get? a with
      | none => rfl
      | some o => exact absurd (.inr ha) (minusW_get.mp q).2
    obtain ⟨wits, hwl, hwa⟩ := id hW₄
    have hwz : wits.size = l.length := by rw [← hwa.length, Array.length_toList]
    have tup5 : ∀ {v : Value} {x : Way × Int}, PairAt s₄.heap v x.1 x.2 → PairAt G₅ v x.1 x.2 := fun {v x} hp => hp.tups2 fun a items ht o e => by
      refine in5 a o (F₄.ne_tup ht).symm (fun q => ?_) e
      obtain ⟨bi, hbl, _⟩ := hB₄; exact plain_not_tup hbl items (q ▸ ht)
    refine wpAny_execs_cons (wpAny_For (q_ld F₅ rfl ?_))
    refine forLstM (A := A.deeper _) (.inl hh) F₅ hwl.isList (fun I l i s v Q E hit hQ => goListTup hit hQ) (fun a => a = b) off5 (fun q => hbw q.symm) (fun a ha => ?_) (fun a ha => ?_)
      (fun i h => BookAt h b (sureAll ms (l.take i))) (fun i h h' hb k => hb.stab k)
      (fun i m₁ => m₁ "marks" = some (.ref b) ∧ m₁ "waits" = some (.ref wt) ∧ m₁ "stuck" = some (.bool (!decide (∀ x ∈ l, x.1 ≠ [])))) ⟨rfl, rfl, rfl⟩ (by simpa [sureAll] using hB₄) ?_ ?_
    · have := hadr_mem ha; rw [show (A.deeper _).handled = A.handled from rfl, hh] at this; cases this
    · obtain ⟨bi, ⟨n, e⟩, _⟩ := hB₄; rw [ha]; exact Heap.lt_size e
    · rintro i v G' s₅ m₅ hv ⟨e1, e2, e3⟩ hBi F₅' sub' hoff hin hX₅ _
      obtain ⟨⟨p, fl⟩, hxi, hp⟩ := hwa.get (i := i) (by rw [Array.getElem?_toList]; exact hv)
      obtain ⟨ta, wv, tt, rfl, ht, hwv⟩ := (tup5 hp)
      refine q_tup2 (A := A.deeper _) (.inl hh) F₅' ((ht.keeps sub').keeps F₅'.keep) fun h₆ tk₆ F₆ kp₆ => ?_
      dsimp only at F₆ kp₆ ⊢
      have hB₆ : BookAt h₆ b (sureAll ms (l.take i)) := hBi.kept kp₆ hLb (fun a items ht q => F₅'.ne_tup ht q.symm)
      refine wpAny_abs ?_; intro Q₀ E₀
      refine wpAny_execs_cons (app_mark (s := { s₅ with heap := h₆, toks := tk₆ }) F₆ e1 rfl rfl ((hwv.keeps sub').keeps F₆.keep) hB₆ ?_ (fun h₇ tk₇ hB₇ kp₇ => ?_) (by rfl) (by rfl) (by rfl))
      · simp only [sureAll, List.length_append, List.length_map, List.length_take]; omega
      · have F₇ := F₆.kept kp₇ (Ne.symm hLb) (fun a ha => hoff a ha)
        refine wpAny_execs_nil ⟨⟨_, F₇, e1, e2, e3⟩, ⟨rfl, rfl⟩, ?_⟩
        rw [sureAll_succ hxi]
        exact hB₇
    · rintro s₅ m₅ ⟨e1, e2, e3⟩ hB₅ F₅' hX₅
      dsimp only
      have hsl : sureAll ms (l.take wits.size) = sureAll ms l := by rw [hwz, List.take_length]
      rw [hsl] at hB₅
      have hst : (!decide (∀ x ∈ l, x.1 ≠ [])) = false := by simpa using hne
      rw [hst] at e3
      have k45 : Kept (fun a => a = L ∨ a = b) s₄.heap s₅.heap := fun a o ha e => F₅'.keep a o (in5 a o (fun q => ha (.inl q)) (fun q => ha (.inr q)) e)
      have hwl₅ : s₅.heap.PlainList wt wits := hwl.at fun o e => k45 _ o (fun q => q.elim hLw hbw.symm) e
      have F₆ : Fq w G₁ L s₅.heap m₅ := ⟨F₅'.ns, fun a o e => F₅'.keep a o (sub₅ a o e), F₄.off, F₄.gd⟩
      obtain ⟨nw, ew⟩ := id hwl₅
      refine wpAny_execs_cons (wpAny_Expr (MethodCall_ (q_ld F₆ e2 (getMethod_builtin ⟨_, ew, rfl⟩ PySem.F.plainAttrs_list PySem.F.slot_list_clear PySem.F.type_list_clear (fun b e => by injection e with e; subst e; exact ⟨_, ew, rfl⟩)
        (PySem.P.clear_list ew ?_ (by rw [sizeLine_is]; omega))))))
      have k56 : Kept (· = wt) s₅.heap (s₅.heap.update wt (Obj.mapSeq fun _ => #[])) := fun a o ha e => by rw [Heap.get?_update_other _ _ (Ne.symm ha)]; exact e
      have hwl₆ : (s₅.heap.update wt (Obj.mapSeq fun _ => #[])).PlainList wt #[] := ⟨_, Heap.get?_update_self _ ew rfl⟩
      have F₇ := F₆.kept k56 (Ne.symm hLw) (fun a ha => by subst ha; exact hGW _ (.inr (.inr (.inr rfl))))
      dsimp only
      refine wpAny_execs_cons (wpAny_Return_some (wpAny_UnaryOp (q_ld F₇ e3 ?_)))
      unfold unaryOp
      refine wpAny_holding ?_
      refine wpAny_bind (wpAny_truthy_bool (wpAny_pure ?_))
      have k46 : Kept (fun a => a = L ∨ a = b ∨ a = wt) s₄.heap (s₅.heap.update wt (Obj.mapSeq fun _ => #[])) := fun a o ha e => k56 a o (fun q => ha (.inr (.inr q))) (k45 a o (fun q => ha (q.imp id .inl)) e)
      have hLM : ¬ Area c M' L := fun q => by
        rcases q with q | q
        · rcases gr₄ _ q with z | z
          · exact hLA (.inl z)
          · exact absurd F₃.lt (Nat.not_lt.mpr z)
        · exact hLA (.inr q)
      have hLx : L ≠ c.x := fun q => by obtain ⟨sl, _, _, _, _, _, a, b⟩ := X.inst; exact hLs _ _ a q.symm
      obtain ⟨bi, hbl, _⟩ := id hB₄
      refine good _ M' [] (sureAll ms l) (X₄.kept2 k46 ?_) ?_ ⟨#[], hwl₆, .nil⟩ (.inl ⟨hne, rfl, rfl, V₄⟩) ?_ ?_ ?_ (hX₄.trans hX₅)
      · rintro a (rfl | rfl | rfl)
        · exact ⟨hLM, hLx, hLdx, fun items ht => F₄.ne_tup ht rfl⟩
        · exact X₄.off_plain hbl
        · exact X₄.off_plain hwl
      · exact hB₅.kept k56 hbw (fun a items ht q => plain_not_tup hwl₅ items (q ▸ ht))
      · intro a ha
        rcases gr₄ a ha with z | z
        · exact .inl z
        · exact .inr (Nat.le_trans (Nat.le_of_lt (hLe ▸ F₃.lt)) z)
      · intro a o ha e
        refine k46 a o (fun q => ?_) (kp₄ a o (fun q => ha (.inl q)) (K₃ a o e))
        rcases q with q | q | q
        · exact hLs _ _ e q
        · exact ha (.inr (.inr (.inl q)))
        · exact ha (.inr (.inr (.inr q)))
      · intro a o ha e
        refine ⟨o.slots, k46 a o (fun q => ?_) (kp₄ a o (fun q => (hFa a ha).1 q) (K₃ a o e))⟩
        rcases q with q | q | q
        · exact hLs _ _ e q
        · exact hbA.2 (q ▸ ha)
        · exact hwA.2 (q ▸ ha)
  · intro hbad s₄ e base M' fl₄ kp₄ X₄ V₄ V₄' gr₄ us₄ hX₄
    dsimp only at kp₄ gr₄ us₄ hX₄ ⊢
    have hGk : G₁.StaysIn base := fun a o e => kp₄ a o (fun q => by
      rcases q with q | q
      · rw [hGF₃ a q] at e; cases e
      · rw [hGf₃ a (.inl q)] at e; cases e) (F₃.keep a o e)
    refine look_catch hF₃.stack rfl fl₄ fun h₅ fl₅ u₅ => ?_
    have F₅ : Fq w G₁ L h₅ _ := F₃.up (fun a o e => fl₅.stays a o (hGk a o e)) fun o e hn => by
      obtain ⟨sl, e'⟩ := us₄ L o (fun q => hLA (.inl q)) e hn
      exact u₅ L _ e' hn |>.imp fun _ z => z
    refine handle (s := { s₄ with heap := h₅ }) F₅ fl₅ fun h₆ fl₆ u₆ => ?_
    have F₆ : Fq w G₁ L h₆ _ := F₅.up (fun a o e => fl₆.stays a o (hGk a o e)) fun o e hn => u₆ L o e hn
    dsimp only
    have hnt : ∀ a items, IsTup h₃ a items → ¬ (isFrame (setEnv L :: outer) a ∨ Foot c.root M a) := fun a items ht q => by
      obtain ⟨o, e, hc, n, hd⟩ := ht
      rcases q with q | q
      · obtain ⟨o', es, ep, e', hd'⟩ := hF₃.obj q
        rw [e] at e'; cases e'; rw [hd] at hd'; cases hd'
      · exact X₃.not_tup (.inl q) e hc
    have notF : ∀ {a : Addr}, ¬ Area c M a ∧ ¬ isFrame outer a → a ≠ L → ¬ (isFrame (setEnv L :: outer) a ∨ Foot c.root M a) := fun {a} h1 h2 q => by
      rcases q with ⟨env, he, hf⟩ | q
      · rcases List.mem_cons.mp he with rfl | he
        · cases hf; exact h2 rfl
        · exact h1.2 ⟨env, he, hf⟩
      · exact h1.1 (.inl q)
    have hB₆ : BookAt h₆ b ms := ((hB.keeps K₃).kept kp₄ (notF hbA hLb) hnt).keeps fl₆.stays
    have hW₆ : WaitAt h₆ wt l := ((hW.keeps K₃).kept kp₄ (notF hwA hLw) hnt).keeps fl₆.stays
    have X₆ := X₄.keeps fl₆.stays
    have hst : (!decide (∀ x ∈ l, x.1 ≠ [])) = true := by
      obtain ⟨x, hx, hx0⟩ := hbad
      simp only [Bool.not_eq_true', decide_eq_false_iff_not]
      exact fun q => q x hx hx0
    refine wpAny_abs ?_; intro Q₀ E₀
    refine wpAny_execs_cons (wpAny_If (isTrue_not (isTrue_plain (q_ld (s := { s₄ with heap := h₆ }) F₆ rfl (wpAny_truthy_bool ?_)))))
    rw [hst, if_neg (by decide)]
    refine wpAny_execs_nil ?_
    dsimp only
    obtain ⟨F₇, sub₇⟩ := F₆.rebase (fun a => a = b) (fun a ha => by subst ha; exact hGW _ (.inr (.inr (.inl rfl))))
    generalize hG7 : minusW h₆ (fun a => a = L ∨ a = b) = G₇ at F₇ sub₇
    have in7 : ∀ a o, a ≠ L → a ≠ b → h₆.get? a = some o → G₇.get? a = some o := fun a o h1 h2 e => by
      rw [← hG7]
      exact minusW_get.mpr ⟨e, fun q => q.elim h1 h2⟩
    have off7 : ∀ a, a = b → G₇.get? a = none := fun a ha => by
      rw [← hG7]
      cases q : (minusW h₆ fun a => a = L ∨ a = b).get? a with
      | none => rfl
      | some o => exact absurd (.inr ha) (minusW_get.mp q).2
    obtain ⟨bi, hbl, _⟩ := id hB₆
    obtain ⟨wits, hwl, hwa⟩ := id hW₆
    have hwz : wits.size = l.length := by rw [← hwa.length, Array.length_toList]
    have tup7 : ∀ {v : Value} {x : Way × Int}, PairAt h₆ v x.1 x.2 → PairAt G₇ v x.1 x.2 := fun {v x} hp => hp.tups2 fun a items ht o e =>
      in7 a o (F₆.ne_tup ht).symm (fun q => plain_not_tup hbl items (q ▸ ht)) e
    obtain ⟨oe, hoe, hce⟩ := fl₆.is
    have heb : e ≠ b := fun q => by
      obtain ⟨n, e2⟩ := hbl
      rw [q, e2] at hoe; cases hoe
      exact absurd (show Value.type "list" = Value.type "IndexError" from hce) (by decide)
    have hok₆ : Hok ((A.deeper (setEnv L)).mark (some (.ref e))) h₆ := .inr ⟨e, rfl, fl₆.2⟩
    refine wpAny_execs_cons (wpAny_For (q_ld (s := { s₄ with heap := h₆ }) F₇ rfl ?_))
    refine forLstM (s := { s₄ with heap := h₆ }) (A := (A.deeper (setEnv L)).mark (some (.ref e))) hok₆ F₇ hwl.isList (fun I l i s v Q E hit hQ => goListTup hit hQ) (fun a => a = b) off7 (fun q => hbw q.symm) (fun a ha => ?_) (fun a ha => ?_)
      (fun i h => BookAt h b (maybeAll ms (l.take i))) (fun i h h' hb k => hb.stab k)
      (fun i m₁ => m₁ "marks" = some (.ref b) ∧ m₁ "waits" = some (.ref wt)) ⟨rfl, rfl⟩ (by simpa [maybeAll] using hB₆) ?_ ?_
    · have := hadr_mem ha
      have h2 : some (Value.ref e) = some (.ref a) := this
      cases h2
      exact heb
    · obtain ⟨n, e⟩ := hbl; rw [ha]; exact Heap.lt_size e
    · rintro i v G' s₇ m₇ hv ⟨e1, e2⟩ hBi F₇' sub' hoff hin hX₇ hokG
      obtain ⟨⟨p, fl⟩, hxi, hp⟩ := hwa.get (i := i) (by rw [Array.getElem?_toList]; exact hv)
      obtain ⟨ta, wv, tt, rfl, ht, hwv⟩ := (tup7 hp)
      refine q_tup2 (A := (A.deeper (setEnv L)).mark (some (.ref e))) (hokG.frame fun c _ o e => F₇'.keep c o e) F₇' ((ht.keeps sub').keeps F₇'.keep) fun h₈ tk₈ F₈ kp₈ => ?_
      dsimp only at F₈ kp₈ ⊢
      have hB₈ : BookAt h₈ b (maybeAll ms (l.take i)) := hBi.kept kp₈ hLb (fun a items ht q => F₇'.ne_tup ht q.symm)
      have hw₈ : WayAt h₈ wv p := (hwv.keeps sub').keeps F₈.keep
      refine wpAny_abs ?_; intro Q₀ E₀
      refine wpAny_execs_cons (wpAny_If (wpAny_mono (Q := fun c s' => (c = true ↔ (p ≠ [] ∧ due (maybeAll ms (l.take i)) p fl = 0)) ∧ h₈.StaysIn s'.heap ∧ SameX s₇ s') ?_ (fun c s' hc => ?_) fun _ _ e => e))
      · have kt : h₈.StaysIn (h₈.push { cls := .type "tuple", data := .seq #[] }) := fun b o e => Heap.get?_push_of_some _ e
        refine isTrue_and (wpAny_isTrue_Compare1 (q_ld F₈ rfl (wpAny_Tuple (args_nil ⟨by rw [sizeLine_is]; decide, ?_⟩))))
        refine ne_ways (hw₈.keeps kt) (WayAt.nil (IsTup.new _ _)) (by show A.units + 3 + 64 < cLine; exact u_less (a := A.units) (m := 67) hu (by decide)) (wpAny_truthy_bool ?_)
        by_cases hp0 : p = []
        · rw [if_neg (by simpa using hp0)]
          exact ⟨⟨fun q => (Bool.false_ne_true q).elim, fun q => absurd hp0 q.1⟩, kt, ⟨rfl, rfl⟩⟩
        · rw [if_pos (by simpa using hp0)]
          have F₉ := F₈.keeps kt
          refine isTrue_and (wpAny_isTrue_Compare1 (Call_ (q_glob F₉ (v := .ref 84) (by kernel_rfl) (callWith_K (F₉.g.K.keeps F₉.keep) (by kernel_rfl) ?_))))
          refine args_cons (q_ld F₉ e1 (args_cons (q_ld F₉ rfl (args_cons (q_ld F₉ rfl (args_nil ⟨F₉.g.K.keeps F₉.keep, ?_⟩))))))
          refine wpAny_callK (due_spec (A := (A.deeper (setEnv L)).mark (some (.ref e))) F₉.g F₉.keep (by show A.depth + 1 < recursionLimit; omega) (by show A.units + 3 + 80 < cLine; exact u_less (a := A.units) (m := 83) hu (by decide)) (hokG.frame fun c _ o e => F₉.keep c o e) (hB₈.keeps kt) (hw₈.keeps kt) fun s₉ ud k₉ hX₉ => ?_)
          refine wpAny_Constant_int (eq_int (wpAny_truthy_bool ?_))
          have S₉ : h₈.StaysIn s₉.heap := fun a o e => k₉ a o (kt a o e)
          have X₉ : SameX s₇ s₉ := hX₉
          by_cases hd : due (maybeAll ms (l.take i)) p fl = 0
          · rw [if_pos (by simpa using hd)]
            exact isTrue_and_nil ⟨⟨fun _ => ⟨hp0, hd⟩, fun _ => rfl⟩, S₉, X₉⟩
          · rw [if_neg (by simpa using hd)]
            exact ⟨⟨fun q => (Bool.false_ne_true q).elim, fun q => absurd q.2 hd⟩, S₉, X₉⟩
      · obtain ⟨hc, S₉, X₉⟩ := hc
        have F₉ := F₈.keeps S₉
        have hmk := maybeAll_succ (ms := ms) hxi
        cases c with
        | true =>
          have hcc := hc.mp rfl
          rw [if_pos rfl]
          refine wpAny_execs_cons (app_mark F₉ e1 rfl rfl (hw₈.keeps S₉) (hB₈.keeps S₉) ?_ (fun h₁₀ tk₁₀ hB₁₀ kp₁₀ => ?_) (by rfl) (by rfl) (by rfl))
          · have := maybe_len (l.take i) ms
            rw [List.length_take] at this
            omega
          · have F₁₀ := F₉.kept kp₁₀ (Ne.symm hLb) (fun a ha => hoff a ha)
            refine wpAny_execs_nil ?_
            dsimp only
            refine wpAny_execs_nil ⟨⟨_, F₁₀, e1, e2⟩, X₉, ?_⟩
            rw [hmk]
            unfold maybe1
            rw [if_pos hcc]
            exact hB₁₀
        | false =>
          have hcc : ¬ (p ≠ [] ∧ due (maybeAll ms (l.take i)) p fl = 0) := fun q => by have := hc.mpr q; cases this
          rw [if_neg (by decide)]
          refine wpAny_execs_nil ?_
          dsimp only
          refine wpAny_execs_nil ⟨⟨_, F₉, e1, e2⟩, X₉, ?_⟩
          rw [hmk]
          unfold maybe1
          rw [if_neg hcc]
          exact hB₈.keeps S₉
    · rintro s₇ m₇ ⟨e1, e2⟩ hB₇ F₇' hX₇
      dsimp only
      rw [hwz, List.take_length] at hB₇
      refine wpAny_execs_cons (wpAny_Return_some (wpAny_Constant_bool ?_))
      have k67 : Kept (fun a => a = L ∨ a = b) h₆ s₇.heap := fun a o ha e => F₇'.keep a o (in7 a o (fun q => ha (.inl q)) (fun q => ha (.inr q)) e)
      have hLM : ¬ Area c M' L := fun q => by
        rcases q with q | q
        · rcases gr₄ _ q with z | z
          · exact hLA (.inl z)
          · exact absurd F₃.lt (Nat.not_lt.mpr z)
        · exact hLA (.inr q)
      have hLx : L ≠ c.x := fun q => by obtain ⟨sl, _, _, _, _, _, a, b⟩ := X.inst; exact hLs _ _ a q.symm
      have k37 : Kept (fun a => Area c M a ∨ isFrame outer a ∨ a = b ∨ a = wt) s.heap s₇.heap := fun a o ha e => by
        refine k67 a o (fun q => ?_) (fl₆.stays a o (kp₄ a o (fun q => ?_) (K₃ a o e)))
        · rcases q with q | q
          · exact hLs _ _ e q
          · exact ha (.inr (.inr (.inl q)))
        · rcases q with ⟨env, he, hf⟩ | q
          · rcases List.mem_cons.mp he with rfl | he
            · cases hf; exact hLs _ _ e rfl
            · exact ha (.inr (.inl ⟨env, he, hf⟩))
          · exact ha (.inl (.inl q))
      refine good _ M' l (maybeAll ms l) (X₆.kept2 k67 ?_) hB₇ (hW₆.kept k67 (fun q => q.elim hLw hbw.symm) ?_) (.inr ⟨rfl, rfl, V₄, V₄'⟩) ?_ k37 ?_ (hX₄.trans hX₇)
      · rintro a (rfl | rfl)
        · exact ⟨hLM, hLx, hLdx, fun items ht => F₆.ne_tup ht rfl⟩
        · exact X₆.off_plain hbl
      · rintro a items ht (q | q)
        · exact F₆.ne_tup ht q.symm
        · exact plain_not_tup hbl items (q ▸ ht)
      · intro a ha
        rcases gr₄ a ha with z | z
        · exact .inl z
        · exact .inr (Nat.le_trans (Nat.le_of_lt (hLe ▸ F₃.lt)) z)
      · intro a o ha e
        obtain ⟨o', es, ep, e', hd⟩ := hF.obj ha
        rw [e] at e'; cases e'
        have hnf : ∀ vs, o.data ≠ .fields vs := fun vs q => by rw [q] at hd; cases hd
        obtain ⟨sl, e1'⟩ := us₄ a o (fun q => (hFa a ha).1 (.inl q)) (K₃ a o e) hnf
        obtain ⟨sl2, e2'⟩ := u₅ a _ e1' hnf
        obtain ⟨sl3, e3'⟩ := u₆ a _ e2' hnf
        refine ⟨sl3, k67 a _ (fun q => ?_) e3'⟩
        rcases q with q | q
        · exact hLs _ _ e q
        · exact hbA.2 (q ▸ ha)
end
end Mine
-- NS
namespace Mine

/-! the plain law: the marks of a book against the tree -/
theorem due_fold (p : Way) (i : Int) : ∀ (ms : List Mark) (d : Int),
    (ms.foldl (fun d m => if Speaks m p i then (if m.sure > d then m.sure else d) else d) d = d ∨ ∃ k ∈ ms, Speaks k p i ∧ k.sure = ms.foldl (fun d m => if Speaks m p i then (if m.sure > d then m.sure else d) else d) d) ∧
    d ≤ ms.foldl (fun d m => if Speaks m p i then (if m.sure > d then m.sure else d) else d) d ∧
    ∀ k ∈ ms, Speaks k p i → k.sure ≤ ms.foldl (fun d m => if Speaks m p i then (if m.sure > d then m.sure else d) else d) d
  | [], d => ⟨.inl rfl, Int.le_refl _, fun _ h => by cases h⟩
  | m :: ms, d => by
    obtain ⟨a, b, c⟩ := due_fold p i ms (if Speaks m p i then (if m.sure > d then m.sure else d) else d)
    simp only [List.foldl_cons]
    generalize (ms.foldl (fun d m => if Speaks m p i then (if m.sure > d then m.sure else d) else d) (if Speaks m p i then (if m.sure > d then m.sure else d) else d)) = r at a b c
    by_cases hs : Speaks m p i
    · rw [if_pos hs] at a b
      refine ⟨?_, ?_, ?_⟩
      · rcases a with a | ⟨k, hk, h1, h2⟩
        · by_cases hd : m.sure > d
          · rw [if_pos hd] at a
            exact .inr ⟨m, .head _, hs, a.symm⟩
          · rw [if_neg hd] at a; exact .inl a
        · exact .inr ⟨k, .tail _ hk, h1, h2⟩
      · split at b <;> omega
      · intro k hk h1
        rcases List.mem_cons.mp hk with rfl | hk
        · split at b <;> omega
        · exact c k hk h1
    · rw [if_neg hs] at a b
      refine ⟨?_, b, ?_⟩
      · rcases a with a | ⟨k, hk, h1, h2⟩
        · exact .inl a
        · exact .inr ⟨k, .tail _ hk, h1, h2⟩
      · intro k hk h1
        rcases List.mem_cons.mp hk with rfl | hk
        · exact absurd h1 hs
        · exact c k hk h1

structure Sound (M : Tr) (ms : List Mark) : Prop where
  sure2 : ∀ k ∈ ms, k.sure = 2 → V M k.place k.deep k.its
  flat : ∀ p i, V M p false i → ∃ k ∈ ms, Speaks k p i
  deep : ∀ p i, V M p true i → ∃ k ∈ ms, k.place = p ∧ k.its = i ∧ k.deep = true
  ok : ∀ k ∈ ms, k.place ≠ [] ∧ (k.sure = 1 ∨ k.sure = 2)

theorem due_zero {ms : List Mark} {p : Way} {i : Int} (ok : ∀ k ∈ ms, k.place ≠ [] ∧ (k.sure = 1 ∨ k.sure = 2)) : due ms p i = 0 ↔ ∀ k ∈ ms, ¬ Speaks k p i := by
  obtain ⟨a, b, c⟩ := due_fold p i ms 0
  unfold due
  constructor
  · intro h k hk hs
    have := c k hk hs
    rw [h] at this
    rcases (ok k hk).2 with q | q <;> omega
  · intro h
    rcases a with a | ⟨k, hk, h1, _⟩
    · exact a
    · exact absurd h1 (h k hk)
theorem due_two {ms : List Mark} {p : Way} {i : Int} (h : due ms p i = 2) : ∃ k ∈ ms, Speaks k p i ∧ k.sure = 2 := by
  obtain ⟨a, b, c⟩ := due_fold p i ms 0
  unfold due at h
  rw [h] at a
  rcases a with a | a
  · exact absurd a (by decide)
  · exact a

theorem Sound.agree {M : Tr} {ms : List Mark} (x : Sound M ms) (p : Way) (i : Int) : Agree M ms p i := by
  refine ⟨fun ht h0 => ?_, fun ht h2 => ?_⟩
  · have hn := (due_zero x.ok).mp h0
    rcases told_iff.mp ht with h | ⟨q, hq, h⟩
    · obtain ⟨k, hk, hs⟩ := x.flat p i h
      exact hn k hk hs
    · obtain ⟨k, hk, h1, h3, h4⟩ := x.deep q i h
      exact hn k hk ⟨h3, .inr ⟨h4, h1 ▸ hq⟩⟩
  · obtain ⟨k, hk, hs, h2⟩ := due_two h2
    have hv := x.sure2 k hk h2
    refine ht (told_iff.mpr ?_)
    obtain ⟨h1, h3⟩ := hs
    rw [h1] at hv
    cases hd : k.deep with
    | false =>
      rw [hd] at hv
      rcases h3 with h3 | h3
      · rw [h3] at hv; exact .inl hv
      · rw [hd] at h3; cases h3.1
    | true =>
      rw [hd] at hv
      rcases h3 with h3 | h3
      · rw [h3] at hv; exact .inr ⟨p, List.prefix_refl _, hv⟩
      · exact .inr ⟨_, h3.2, hv⟩

theorem Sound.leer : Sound leer [] := ⟨fun _ h => (by cases h), fun p i ⟨nd, h, _⟩ => (by cases h), fun p i ⟨nd, h, _⟩ => (by cases h), fun _ h => (by cases h)⟩

theorem Sound.set {M M' : Tr} {ms : List Mark} {p : Way} {i : Int} {b : Bool} (x : Sound M ms) (hp : p ≠ []) (h : ∀ q b' j, V M' q b' j ↔ V M q b' j ∨ (q = p ∧ b' = b ∧ j = i)) : Sound M' (ms ++ [⟨p, i, b, 2⟩]) := by
  refine ⟨fun k hk h2 => ?_, fun q j hv => ?_, fun q j hv => ?_, fun k hk => ?_⟩
  · rcases List.mem_append.mp hk with hk | hk
    · exact (h _ _ _).mpr (.inl (x.sure2 k hk h2))
    · rw [List.mem_singleton.mp hk]; exact (h _ _ _).mpr (.inr ⟨rfl, rfl, rfl⟩)
  · rcases (h _ _ _).mp hv with hv | ⟨rfl, rfl, rfl⟩
    · obtain ⟨k, hk, hs⟩ := x.flat q j hv; exact ⟨k, List.mem_append_left _ hk, hs⟩
    · exact ⟨_, List.mem_append_right _ (.head _), rfl, .inl rfl⟩
  · rcases (h _ _ _).mp hv with hv | ⟨rfl, rfl, rfl⟩
    · obtain ⟨k, hk, hs⟩ := x.deep q j hv; exact ⟨k, List.mem_append_left _ hk, hs⟩
    · exact ⟨_, List.mem_append_right _ (.head _), rfl, rfl, rfl⟩
  · rcases List.mem_append.mp hk with hk | hk
    · exact x.ok k hk
    · rw [List.mem_singleton.mp hk]; exact ⟨hp, .inr rfl⟩

/-- the marks that unset_all leaves -/
noncomputable def leave (p : Way) (ms : List Mark) : List Mark := ms.filter fun k => !decide (k.place.take p.length = p)
theorem Sound.unset {M M' : Tr} {ms : List Mark} {p : Way} (x : Sound M ms) (hp : p ≠ []) (h : ∀ q b' j, V M' q b' j ↔ V M q b' j ∧ ¬ p <+: q) : Sound M' (leave p ms) := by
  have key : ∀ k : Mark, (k.place.take p.length = p) ↔ p <+: k.place := fun k => by
    rw [List.prefix_iff_eq_take]; exact eq_comm
  have mem : ∀ k, k ∈ leave p ms ↔ k ∈ ms ∧ ¬ p <+: k.place := fun k => by
    unfold leave
    rw [List.mem_filter]
    simp only [Bool.not_eq_true', decide_eq_false_iff_not, key]
  refine ⟨fun k hk h2 => ?_, fun q j hv => ?_, fun q j hv => ?_, fun k hk => ?_⟩
  · obtain ⟨hk, hn⟩ := (mem k).mp hk
    exact (h _ _ _).mpr ⟨x.sure2 k hk h2, hn⟩
  · obtain ⟨hv, hn⟩ := (h _ _ _).mp hv
    obtain ⟨k, hk, hs⟩ := x.flat q j hv
    refine ⟨k, (mem k).mpr ⟨hk, fun hpk => hn ?_⟩, hs⟩
    rcases hs.2 with e | e
    · exact e ▸ hpk
    · exact hpk.trans e.2
  · obtain ⟨hv, hn⟩ := (h _ _ _).mp hv
    obtain ⟨k, hk, h1, h2⟩ := x.deep q j hv
    exact ⟨k, (mem k).mpr ⟨hk, fun hpk => hn (h1 ▸ hpk)⟩, h1, h2⟩
  · exact x.ok k ((mem k).mp hk).1

theorem maybe_ok {ms : List Mark} {x : Way × Int} (ok : ∀ k ∈ ms, k.place ≠ [] ∧ (k.sure = 1 ∨ k.sure = 2)) : ∀ k ∈ maybe1 ms x, k.place ≠ [] ∧ (k.sure = 1 ∨ k.sure = 2) := fun k hk => by
  unfold maybe1 at hk
  split at hk
  · rename_i h
    rcases List.mem_append.mp hk with hk | hk
    · exact ok k hk
    · rw [List.mem_singleton.mp hk]; exact ⟨h.1, .inl rfl⟩
  · exact ok k hk
theorem maybe_sub {ms : List Mark} {x : Way × Int} : ∀ k ∈ ms, k ∈ maybe1 ms x := fun k hk => by
  unfold maybe1
  split
  · exact List.mem_append_left _ hk
  · exact hk
theorem maybe_new {ms : List Mark} {x : Way × Int} : ∀ k ∈ maybe1 ms x, k ∈ ms ∨ k.sure = 1 := fun k hk => by
  unfold maybe1 at hk
  split at hk
  · rcases List.mem_append.mp hk with hk | hk
    · exact .inl hk
    · rw [List.mem_singleton.mp hk]; exact .inr rfl
  · exact .inl hk
theorem maybe_speaks {ms : List Mark} {x : Way × Int} (ok : ∀ k ∈ ms, k.place ≠ [] ∧ (k.sure = 1 ∨ k.sure = 2)) (hx : x.1 ≠ []) : ∃ k ∈ maybe1 ms x, Speaks k x.1 x.2 := by
  unfold maybe1
  by_cases h : due ms x.1 x.2 = 0
  · rw [if_pos ⟨hx, h⟩]
    exact ⟨_, List.mem_append_right _ (.head _), rfl, .inl rfl⟩
  · rw [if_neg (fun q => h q.2)]
    have : ¬ ∀ k ∈ ms, ¬ Speaks k x.1 x.2 := fun q => h ((due_zero ok).mpr q)
    simp only [Classical.not_forall] at this
    obtain ⟨k, hk, hs⟩ := this
    exact ⟨k, hk, Classical.not_not.mp hs⟩
theorem maybeAll_all : ∀ (l : List (Way × Int)) (ms : List Mark), (∀ k ∈ ms, k.place ≠ [] ∧ (k.sure = 1 ∨ k.sure = 2)) →
    (∀ k ∈ maybeAll ms l, k.place ≠ [] ∧ (k.sure = 1 ∨ k.sure = 2)) ∧ (∀ k ∈ ms, k ∈ maybeAll ms l) ∧ (∀ k ∈ maybeAll ms l, k ∈ ms ∨ k.sure = 1) ∧ ∀ x ∈ l, x.1 ≠ [] → ∃ k ∈ maybeAll ms l, Speaks k x.1 x.2
  | [], ms, ok => ⟨ok, fun _ h => h, fun _ h => .inl h, fun _ h => by cases h⟩
  | x :: l, ms, ok => by
    obtain ⟨a, b, c, d⟩ := maybeAll_all l (maybe1 ms x) (maybe_ok ok)
    refine ⟨a, fun k hk => b k (maybe_sub k hk), fun k hk => ?_, fun y hy hy0 => ?_⟩
    · rcases c k hk with q | q
      · exact maybe_new k q
      · exact .inr q
    · rcases List.mem_cons.mp hy with rfl | hy
      · obtain ⟨k, hk, hs⟩ := maybe_speaks ok hy0
        exact ⟨k, b k hk, hs⟩
      · exact d y hy hy0

theorem Sound.turned {M M' : Tr} {ms ms' : List Mark} {l l' : List (Way × Int)} (x : Sound M ms) (hn : M' [] = none) (t : Turned M l ms M' l' ms') : Sound M' ms' := by
  rcases t with ⟨hne, rfl, rfl, h⟩ | ⟨rfl, rfl, h1, h2⟩
  · refine ⟨fun k hk hs => ?_, fun q j hv => ?_, fun q j hv => ?_, fun k hk => ?_⟩
    · rcases List.mem_append.mp hk with hk | hk
      · exact (h _ _ _).mpr (.inl (x.sure2 k hk hs))
      · obtain ⟨y, hy, rfl⟩ := List.mem_map.mp hk
        exact (h _ _ _).mpr (.inr ⟨rfl, hy⟩)
    · rcases (h _ _ _).mp hv with hv | ⟨_, hm⟩
      · obtain ⟨k, hk, hs⟩ := x.flat q j hv; exact ⟨k, List.mem_append_left _ hk, hs⟩
      · exact ⟨_, List.mem_append_right _ (List.mem_map.mpr ⟨_, hm, rfl⟩), rfl, .inl rfl⟩
    · rcases (h _ _ _).mp hv with hv | ⟨q, _⟩
      · obtain ⟨k, hk, hs⟩ := x.deep q j hv; exact ⟨k, List.mem_append_left _ hk, hs⟩
      · cases q
    · rcases List.mem_append.mp hk with hk | hk
      · exact x.ok k hk
      · obtain ⟨y, hy, rfl⟩ := List.mem_map.mp hk
        exact ⟨hne y hy, .inr rfl⟩
  · obtain ⟨a, b, c, d⟩ := maybeAll_all l' ms x.ok
    refine ⟨fun k hk hs => ?_, fun q j hv => ?_, fun q j hv => ?_, a⟩
    · rcases c k hk with z | z
      · exact h1 _ _ _ (x.sure2 k z hs)
      · rw [hs] at z; cases z
    · rcases h2 _ _ _ hv with hv | ⟨_, hm⟩
      · obtain ⟨k, hk, hs⟩ := x.flat q j hv; exact ⟨k, b k hk, hs⟩
      · refine d (q, j) hm fun q0 => ?_
        have q0' : q = [] := q0
        obtain ⟨nd, e, _⟩ := hv
        rw [q0', hn] at e; cases e
    · rcases h2 _ _ _ hv with hv | ⟨z, _⟩
      · obtain ⟨k, hk, hs⟩ := x.deep q j hv; exact ⟨k, b k hk, hs⟩
      · cases z
end Mine
-- NT
namespace Mine

/-- what a machine of the law owns -/
noncomputable def Own (m : Ma) (a : Addr) : Prop := Area m.c m.M a ∨ a = m.c.x ∨ a = m.c.dx ∨ a = m.b ∨ a = m.wt
structure One (prog : Program) (w : World) (fs : List Int) (h : Heap) (m : Ma) : Prop where
  mach : Mach prog w fs h m.c m.M m.l
  book : BookAt h m.b m.ms
  wait : WaitAt h m.wt m.l
  bw : m.b ≠ m.wt
  sound : Sound m.M m.ms
/-- the machines of the law, each with its book and its waits; `base`: all that they own is younger -/
structure Pool (prog : Program) (w : World) (fs : List Int) (base : Nat) (ls : List Addr) (h : Heap) (mas : List Ma) : Prop where
  each : ∀ m ∈ mas, One prog w fs h m
  young : ∀ m ∈ mas, ∀ a, Own m a → base ≤ a
  apart : mas.Pairwise fun m n => ∀ a, Own m a → ¬ Own n a
  lists : ∀ m ∈ mas, ∀ a ∈ ls, ¬ Own m a

section
variable {prog : Program} {w : World} {fs : List Int} {h h' : Heap} {m : Ma} {mas : List Ma} {base : Nat} {ls : List Addr}
theorem Inst.alive {c : Mc} (x : Inst h c) : (∃ o, h.get? c.x = some o) ∧ ∃ o, h.get? c.dx = some o := by
  obtain ⟨sl, _, _, _, _, _, a, b⟩ := x
  exact ⟨⟨_, a⟩, _, b⟩
theorem One.alive (x : One prog w fs h m) {a : Addr} (ha : Own m a) : ∃ o, h.get? a = some o := by
  rcases ha with ha | rfl | rfl | rfl | rfl
  · obtain ⟨o, e, _⟩ := x.mach.alive ha; exact ⟨o, e⟩
  · exact x.mach.inst.alive.1
  · exact x.mach.inst.alive.2
  · obtain ⟨its, ⟨n, e⟩, _⟩ := x.book; exact ⟨_, e⟩
  · obtain ⟨its, ⟨n, e⟩, _⟩ := x.wait; exact ⟨_, e⟩
theorem One.lt (x : One prog w fs h m) {a : Addr} (ha : Own m a) : a < h.objs.size := let ⟨_, e⟩ := x.alive ha; Heap.lt_size e
theorem One.not_tup (x : One prog w fs h m) {a : Addr} (ha : Own m a) (items : Array Value) : ¬ IsTup h a items := by
  rcases ha with ha | rfl | rfl | rfl | rfl
  · intro ht; obtain ⟨o, e, hc, _⟩ := ht; exact x.mach.not_tup ha e hc
  · intro ht
    obtain ⟨o, e, hc, n, hd⟩ := ht
    obtain ⟨sl, _, _, _, _, _, a, b⟩ := x.mach.inst
    rw [a] at e; cases e; cases hd
  · intro ht
    obtain ⟨o, e, hc, n, hd⟩ := ht
    obtain ⟨sl, _, _, _, _, _, a, b⟩ := x.mach.inst
    rw [b] at e; cases e; cases hd
  · obtain ⟨its, p, _⟩ := x.book; exact plain_not_tup p items
  · obtain ⟨its, p, _⟩ := x.wait; exact plain_not_tup p items
theorem One.kept {W : Addr → Prop} (x : One prog w fs h m) (k : Kept W h h') (hW : ∀ a, W a → ¬ Own m a ∧ ∀ items, ¬ IsTup h a items) : One prog w fs h' m := by
  refine ⟨x.mach.kept2 k fun a ha => ?_, x.book.kept k (fun q => (hW _ q).1 (.inr (.inr (.inr (.inl rfl))))) fun a its ht q => (hW a q).2 its ht, x.wait.kept k (fun q => (hW _ q).1 (.inr (.inr (.inr (.inr rfl))))) fun a its ht q => (hW a q).2 its ht, x.bw, x.sound⟩
  exact ⟨fun q => (hW a ha).1 (.inl q), fun q => (hW a ha).1 (.inr (.inl q)), fun q => (hW a ha).1 (.inr (.inr (.inl q))), (hW a ha).2⟩
theorem Pool.kept {W : Addr → Prop} (x : Pool prog w fs base ls h mas) (k : Kept W h h') (hW : ∀ a, W a → (∀ m ∈ mas, ¬ Own m a) ∧ ∀ items, ¬ IsTup h a items) : Pool prog w fs base ls h' mas :=
  ⟨fun m hm => (x.each m hm).kept k fun a ha => ⟨(hW a ha).1 m hm, (hW a ha).2⟩, x.young, x.apart, x.lists⟩
theorem Pool.keeps (x : Pool prog w fs base ls h mas) (k : h.StaysIn h') : Pool prog w fs base ls h' mas := x.kept (W := fun _ => False) (fun b o _ e => k b o e) fun _ q => q.elim

theorem Pool.turn {W : Addr → Prop} {k : Nat} {m' : Ma} (x : Pool prog w fs base ls h mas) (hk : mas[k]? = some m) (kp : Kept W h h')
    (hW : ∀ a, W a → Own m a ∨ ((∀ n ∈ mas, ¬ Own n a) ∧ ∀ items, ¬ IsTup h a items)) (hb : base ≤ h.objs.size) (hls : ∀ a ∈ ls, a < h.objs.size)
    (hown : ∀ a, Own m' a → Own m a ∨ h.objs.size ≤ a) (one : One prog w fs h' m') : Pool prog w fs base ls h' (mas.set k m') := by
  have hm : m ∈ mas := List.mem_of_getElem? hk
  have hlt : k < mas.length := by
    rcases Nat.lt_or_ge k mas.length with q | q
    · exact q
    · rw [List.getElem?_eq_none q] at hk; cases hk
  have hmk : mas[k] = m := by rw [List.getElem?_eq_getElem hlt] at hk; exact Option.some.inj hk
  have ap := List.pairwise_iff_getElem.mp x.apart
  -- another machine is apart from m
  have oth : ∀ j (hj : j < mas.length), j ≠ k → ∀ a, Own m a → ¬ Own mas[j] a := fun j hj hjk a ha hn => by
    rcases Nat.lt_or_gt_of_ne hjk with q | q
    · exact ap j k hj hlt q a hn (hmk ▸ ha)
    · exact ap k j hlt hj q a (hmk ▸ ha) hn
  have oth' : ∀ j (hj : j < mas.length), j ≠ k → ∀ a, Own m' a → ¬ Own mas[j] a := fun j hj hjk a ha hn => by
    rcases hown a ha with q | q
    · exact oth j hj hjk a q hn
    · exact absurd ((x.each _ (List.getElem_mem hj)).lt hn) (Nat.not_lt.mpr q)
  refine ⟨?_, ?_, ?_, ?_⟩
  · intro n hn
    obtain ⟨j, hj, rfl⟩ := List.mem_iff_getElem.mp hn
    rw [List.length_set] at hj
    rw [List.getElem_set]
    split
    · exact one
    · rename_i hjk
      refine (x.each _ (List.getElem_mem hj)).kept kp fun a ha => ?_
      rcases hW a ha with q | q
      · exact ⟨oth j hj (fun e => hjk e.symm) a q, (x.each m hm).not_tup q⟩
      · exact ⟨q.1 _ (List.getElem_mem hj), q.2⟩
  · intro n hn a ha
    obtain ⟨j, hj, rfl⟩ := List.mem_iff_getElem.mp hn
    rw [List.length_set] at hj
    rw [List.getElem_set] at ha
    split at ha
    · rcases hown a ha with q | q
      · exact x.young m hm a q
      · exact Nat.le_trans hb q
    · exact x.young _ (List.getElem_mem hj) a ha
  · rw [List.pairwise_iff_getElem]
    intro i j hi hj hij a ha hn
    rw [List.length_set] at hi hj
    rw [List.getElem_set] at ha hn
    split at ha
    · rename_i e
      split at hn
      · omega
      · exact oth' j hj (by omega) a ha hn
    · split at hn
      · exact oth' i hi (by omega) a hn ha
      · exact ap i j hi hj hij a ha hn
  · intro n hn a ha hna
    obtain ⟨j, hj, rfl⟩ := List.mem_iff_getElem.mp hn
    rw [List.length_set] at hj
    rw [List.getElem_set] at hna
    split at hna
    · rcases hown a hna with q | q
      · exact x.lists m hm a ha q
      · exact absurd (hls a ha) (Nat.not_lt.mpr q)
    · exact x.lists _ (List.getElem_mem hj) a ha hna

theorem Pool.snoc (x : Pool prog w fs base ls h mas) (one : One prog w fs h m) (hy : ∀ a, Own m a → base ≤ a) (hn : ∀ a, Own m a → ∀ n ∈ mas, ¬ Own n a) (hl : ∀ a ∈ ls, ¬ Own m a) : Pool prog w fs base ls h (mas ++ [m]) := by
  refine ⟨fun n hn' => ?_, fun n hn' => ?_, ?_, fun n hn' => ?_⟩
  · rcases List.mem_append.mp hn' with q | q
    · exact x.each n q
    · rw [List.mem_singleton.mp q]; exact one
  · rcases List.mem_append.mp hn' with q | q
    · exact x.young n q
    · rw [List.mem_singleton.mp q]; exact hy
  · rw [List.pairwise_append]
    refine ⟨x.apart, List.pairwise_singleton _ _, fun n hn' m' hm' a ha hb => ?_⟩
    rw [List.mem_singleton.mp hm'] at hb
    exact hn a hb n hn' ha
  · rcases List.mem_append.mp hn' with q | q
    · exact x.lists n q
    · rw [List.mem_singleton.mp q]; exact hl
end
end Mine
-- NU
namespace Mine

noncomputable abbrev lawScope : Scope := { kind := .function, names := [("script", .local), ("numbers", .local), ("flags", .local), ("machines", .local), ("books", .local), ("waits", .local), ("ways", .cell), ("place", .local), ("x", .local), ("way", .cell), ("flag", .local), ("kind", .local), ("k", .local),   ("range", .globalImplicit), ("len", .globalImplicit), ("_law_way", .globalImplicit), ("abs", .globalImplicit), ("min", .globalImplicit), ("Flags", .globalImplicit), ("_law_settled", .globalImplicit), ("IndexError", .globalImplicit), ("_law_as_due", .globalImplicit), ("_law_about", .globalImplicit)], isGenerator := false, isCoroutine := false, more := [("fast", .str "script"), ("fast", .str "numbers"), ("fast", .str "flags"), ("fast", .str "machines"), ("fast", .str "books"), ("fast", .str "waits"), ("fast", .str "ways"), ("fast", .str "place"), ("fast", .str "x"), ("fast", .str "way"), ("fast", .str "flag"), ("fast", .str "kind"), ("fast", .str "k"), ("fast", .str "mark"), ("fast", .str "one")] }
noncomputable abbrev lawEnv (L f : Addr) (cd : Value) : Env := envX "law" lawScope L f cd [("way", L + 2), ("ways", L + 1)]

/-- the six lists of the law's own names -/
structure Six where
  lm : Addr
  lb : Addr
  lw : Addr
  lf : Addr
  ln : Addr
  ly : Addr
  it : Addr
  io : Obj
  yy : Nat
noncomputable def Six.all (S : Six) : List Addr := [S.lm, S.lb, S.lw, S.lf, S.ln, S.ly, S.it]
structure Six.Ok (S : Six) (L : Addr) : Prop where
  nodup : S.all.Nodup
  young : ∀ a ∈ S.all, L + 2 < a

structure LH (prog : Program) (w : World) (fs nums : List Int) (L : Addr) (S : Six) (N : Nat) (h : Heap) (mas : List Ma) : Prop where
  pM : ∃ i, h.PlainList S.lm i ∧ AllAt (fun v m => v = .ref m.c.x) i.toList mas
  pB : ∃ i, h.PlainList S.lb i ∧ AllAt (fun v m => v = .ref m.b) i.toList mas
  pW : ∃ i, h.PlainList S.lw i ∧ AllAt (fun v m => v = .ref m.wt) i.toList mas
  pF : ∃ i, h.PlainList S.lf i ∧ AllAt (fun v (j : Int) => ∃ t, v = .int j t) i.toList fs
  pN : ∃ i, h.PlainList S.ln i ∧ AllAt (fun v (j : Int) => ∃ t, v = .int j t) i.toList nums
  pY : ∃ i ps, h.PlainList S.ly i ∧ AllAt (WayAt h) i.toList ps ∧ ps.length ≤ 100 * S.yy
  cY : h.IsCell (L + 1) (some (.ref S.ly))
  pool : Pool prog w fs (L + 3) S.all h mas
  few : mas.length ≤ 4
  small : ∀ m ∈ mas, m.l.length ≤ N ∧ m.ms.length ≤ 100 * N
  room : ∃ o, h.get? (L + 2) = some o
  pI : h.get? S.it = some S.io

section
variable {prog : Program} {w : World} {fs nums : List Int} {L : Addr} {S : Six} {N : Nat} {h h' : Heap} {m m' : Ma} {mas : List Ma}
theorem AllAt.setr {α : Type} {P : Value → α → Prop} : ∀ {vs : List Value} {xs : List α}, AllAt P vs xs → ∀ {k : Nat} {x y : α}, xs[k]? = some x → (∀ v, P v x → P v y) → AllAt P vs (xs.set k y) := by
  intro vs xs h
  induction h with
  | nil => intro k x y e; simp at e
  | cons a t ih =>
    intro k x y e hv
    cases k with
    | zero => simp at e; subst e; exact .cons (hv _ a) t
    | succ k => exact .cons a (ih (by simpa using e) hv)
theorem AllAt.setv {α : Type} {P : Value → α → Prop} : ∀ {vs : List Value} {xs : List α}, AllAt P vs xs → ∀ {k : Nat} {v : Value} {y : α}, P v y → AllAt P (vs.set k v) (xs.set k y) := by
  intro vs xs h
  induction h with
  | nil => intro k v y e; exact .nil
  | cons a t ih =>
    intro k v y hv
    cases k with
    | zero => exact .cons hv t
    | succ k => exact .cons a (ih hv)
theorem AllAt.at {α : Type} {P : Value → α → Prop} : ∀ {vs : List Value} {xs : List α}, AllAt P vs xs → ∀ {k : Nat} {x : α}, xs[k]? = some x → ∃ v, vs[k]? = some v ∧ P v x := by
  intro vs xs h
  induction h with
  | nil => intro k x e; simp at e
  | cons a t ih =>
    intro k x e
    cases k with
    | zero => simp at e; subst e; exact ⟨_, rfl, a⟩
    | succ k => exact ih (by simpa using e)
theorem Six.mem (S : Six) : S.lm ∈ S.all ∧ S.lb ∈ S.all ∧ S.lw ∈ S.all ∧ S.lf ∈ S.all ∧ S.ln ∈ S.all ∧ S.ly ∈ S.all := by simp [Six.all]
theorem Six.memI (S : Six) : S.it ∈ S.all := by simp [Six.all]
theorem Six.Ok.it_ne (so : S.Ok L) : S.it ≠ S.lm ∧ S.it ≠ S.lb ∧ S.it ≠ S.lw ∧ S.it ≠ S.ly := by
  have h := so.nodup
  simp only [Six.all, List.nodup_cons, List.mem_cons, List.not_mem_nil, or_false, not_or] at h
  exact ⟨Ne.symm h.1.2.2.2.2.2, Ne.symm h.2.1.2.2.2.2, Ne.symm h.2.2.1.2.2.2, Ne.symm h.2.2.2.2.2.1⟩
theorem LH.alive (x : LH prog w fs nums L S N h mas) : ∀ a ∈ S.all, ∃ o, h.get? a = some o := by
  intro a ha
  simp only [Six.all, List.mem_cons, List.not_mem_nil, or_false] at ha
  rcases ha with rfl | rfl | rfl | rfl | rfl | rfl | rfl
  · obtain ⟨i, ⟨n, e⟩, _⟩ := x.pM; exact ⟨_, e⟩
  · obtain ⟨i, ⟨n, e⟩, _⟩ := x.pB; exact ⟨_, e⟩
  · obtain ⟨i, ⟨n, e⟩, _⟩ := x.pW; exact ⟨_, e⟩
  · obtain ⟨i, ⟨n, e⟩, _⟩ := x.pF; exact ⟨_, e⟩
  · obtain ⟨i, ⟨n, e⟩, _⟩ := x.pN; exact ⟨_, e⟩
  · obtain ⟨i, _, ⟨n, e⟩, _⟩ := x.pY; exact ⟨_, e⟩
  · exact ⟨_, x.pI⟩
theorem LH.lt (x : LH prog w fs nums L S N h mas) : ∀ a ∈ S.all, a < h.objs.size := fun a ha => let ⟨_, e⟩ := x.alive a ha; Heap.lt_size e

/-- the heap turns in W: none of the six lists, nor the cell of ways -/
theorem LH.turn {W : Addr → Prop} {k : Nat} (x : LH prog w fs nums L S N h mas) (hk : mas[k]? = some m) (hc : m'.c.x = m.c.x) (hb : m'.b = m.b) (hw : m'.wt = m.wt) (kp : Kept W h h')
    (hW : ∀ a, W a → Own m a ∨ ((∀ n ∈ mas, ¬ Own n a) ∧ (∀ items, ¬ IsTup h a items) ∧ a ∉ S.all ∧ a ≠ L + 1 ∧ a ≠ L + 2))
    (hown : ∀ a, Own m' a → Own m a ∨ h.objs.size ≤ a) (one : One prog w fs h' m') (hs : m'.l.length ≤ N ∧ m'.ms.length ≤ 100 * N) : LH prog w fs nums L S N h' (mas.set k m') := by
  have hm : m ∈ mas := List.mem_of_getElem? hk
  have offL : ∀ a ∈ S.all, ¬ W a := fun a ha q => by
    rcases hW a q with q | q
    · exact x.pool.lists m hm a ha q
    · exact q.2.2.1 ha
  have offT : ∀ a items, IsTup h a items → ¬ W a := fun a items ht q => by
    rcases hW a q with q | q
    · exact (x.pool.each m hm).not_tup q items ht
    · exact q.2.1 items ht
  have offC : ∀ a, a ≤ L + 2 → L + 1 ≤ a → ¬ W a := fun a ha ha1 q => by
    rcases hW a q with q | q
    · exact absurd (x.pool.young m hm a q) (Nat.not_le.mpr (Nat.lt_succ_of_le ha))
    · rcases Nat.lt_or_ge a (L + 2) with z | z
      · exact q.2.2.2.1 (Nat.le_antisymm (Nat.le_of_lt_succ z) ha1)
      · exact q.2.2.2.2 (Nat.le_antisymm ha z)
  obtain ⟨m1, m2, m3, m4, m5, m6⟩ := S.mem
  obtain ⟨o2, e2⟩ := x.room
  have hbase : L + 3 ≤ h.objs.size := Heap.lt_size e2
  refine ⟨?_, ?_, ?_, ?_, ?_, ?_, ?_, ?_, ?_, ?_, ?_, kp _ _ (offL _ S.memI) x.pI⟩
  · obtain ⟨i, p, a⟩ := x.pM
    exact ⟨i, p.at fun o e => kp _ o (offL _ m1) e, a.setr hk fun v e => by rw [e, hc]⟩
  · obtain ⟨i, p, a⟩ := x.pB
    exact ⟨i, p.at fun o e => kp _ o (offL _ m2) e, a.setr hk fun v e => by rw [e, hb]⟩
  · obtain ⟨i, p, a⟩ := x.pW
    exact ⟨i, p.at fun o e => kp _ o (offL _ m3) e, a.setr hk fun v e => by rw [e, hw]⟩
  · obtain ⟨i, p, a⟩ := x.pF
    exact ⟨i, p.at fun o e => kp _ o (offL _ m4) e, a⟩
  · obtain ⟨i, p, a⟩ := x.pN
    exact ⟨i, p.at fun o e => kp _ o (offL _ m5) e, a⟩
  · obtain ⟨i, ps, p, a, l⟩ := x.pY
    exact ⟨i, ps, p.at fun o e => kp _ o (offL _ m6) e, a.imp fun v z hz => hz.tups2 fun c its ht o e => kp c o (offT c its ht) e, l⟩
  · exact isCell_keeps x.cY fun o e => kp _ o (offC _ (Nat.le_succ _) (Nat.le_refl _)) e
  · exact x.pool.turn hk kp (fun a ha => (hW a ha).imp id fun z => ⟨z.1, z.2.1⟩) hbase x.lt hown one
  · rw [List.length_set]; exact x.few
  · intro n hn
    rcases List.mem_or_eq_of_mem_set hn with q | q
    · exact x.small n q
    · rw [q]; exact hs
  · exact ⟨o2, kp _ o2 (offC _ (Nat.le_refl _) (Nat.le_succ _)) e2⟩

theorem LH.kept {W : Addr → Prop} (x : LH prog w fs nums L S N h mas) (kp : Kept W h h') (hW : ∀ a, W a → (∀ n ∈ mas, ¬ Own n a) ∧ (∀ items, ¬ IsTup h a items) ∧ a ∉ S.all ∧ a ≠ L + 1) (h2 : ∃ o, h'.get? (L + 2) = some o) : LH prog w fs nums L S N h' mas := by
  obtain ⟨m1, m2, m3, m4, m5, m6⟩ := S.mem
  have offL : ∀ a ∈ S.all, ¬ W a := fun a ha q => (hW a q).2.2.1 ha
  refine ⟨?_, ?_, ?_, ?_, ?_, ?_, ?_, ?_, x.few, x.small, h2, kp _ _ (offL _ S.memI) x.pI⟩
  · obtain ⟨i, p, a⟩ := x.pM
    exact ⟨i, p.at fun o e => kp _ o (offL _ m1) e, a⟩
  · obtain ⟨i, p, a⟩ := x.pB
    exact ⟨i, p.at fun o e => kp _ o (offL _ m2) e, a⟩
  · obtain ⟨i, p, a⟩ := x.pW
    exact ⟨i, p.at fun o e => kp _ o (offL _ m3) e, a⟩
  · obtain ⟨i, p, a⟩ := x.pF
    exact ⟨i, p.at fun o e => kp _ o (offL _ m4) e, a⟩
  · obtain ⟨i, p, a⟩ := x.pN
    exact ⟨i, p.at fun o e => kp _ o (offL _ m5) e, a⟩
  · obtain ⟨i, ps, p, a, l⟩ := x.pY
    exact ⟨i, ps, p.at fun o e => kp _ o (offL _ m6) e, a.imp fun v z hz => hz.tups2 fun c its ht o e => kp c o (fun q => (hW c q).2.1 its ht) e, l⟩
  · exact isCell_keeps x.cY fun o e => kp _ o (fun q => (hW _ q).2.2.2 rfl) e
  · exact x.pool.kept kp fun a ha => ⟨(hW a ha).1, (hW a ha).2.1⟩
theorem LH.keeps (x : LH prog w fs nums L S N h mas) (k : h.StaysIn h') : LH prog w fs nums L S N h' mas :=
  x.kept (W := fun _ => False) (fun b o _ e => k b o e) (fun _ q => q.elim) (let ⟨o, e⟩ := x.room; ⟨o, k _ _ e⟩)
theorem LH.more (x : LH prog w fs nums L S N h mas) {N' : Nat} (hN : N ≤ N') : LH prog w fs nums L S N' h mas := by
  refine ⟨x.pM, x.pB, x.pW, x.pF, x.pN, x.pY, x.cY, x.pool, x.few, fun m hm => ?_, x.room, x.pI⟩
  · obtain ⟨a, b⟩ := x.small m hm; constructor <;> omega
/-- the law's own frame turns -/
theorem LH.frame {G : Heap} {mm : PySem.Str → Option Value} (x : LH prog w fs nums L S N h mas) (so : S.Ok L) (F : Fq w G L h mm) (kp : Kept (· = L) h h') : LH prog w fs nums L S N h' mas := by
  obtain ⟨o, e⟩ := x.room
  refine x.kept kp (fun a ha => ?_) ⟨o, kp _ o (Nat.ne_of_gt (Nat.lt_succ_of_lt (Nat.lt_succ_self L))) e⟩
  subst ha
  refine ⟨fun n hn q => absurd (x.pool.young n hn _ q) (Nat.not_le.mpr (Nat.lt_succ_of_lt (Nat.lt_succ_of_lt (Nat.lt_succ_self _)))), fun items ht => F.ne_tup ht rfl, fun q => absurd (so.young _ q) (Nat.not_lt.mpr (Nat.le_succ_of_le (Nat.le_succ _))), Nat.ne_of_lt (Nat.lt_succ_self _)⟩
/-- the cell of way turns -/
theorem LH.cell (x : LH prog w fs nums L S N h mas) (so : S.Ok L) (hc : ∃ v, h.IsCell (L + 2) v) (kp : Kept (· = L + 2) h h') (h2 : ∃ o, h'.get? (L + 2) = some o) : LH prog w fs nums L S N h' mas := by
  refine x.kept kp (fun a ha => ?_) h2
  subst ha
  refine ⟨fun n hn q => absurd (x.pool.young n hn _ q) (Nat.not_le.mpr (Nat.lt_succ_self _)), fun items ht => ?_, fun q => absurd (so.young _ q) (Nat.lt_irrefl _), Nat.succ_ne_self _⟩
  obtain ⟨v, o, e, d⟩ := hc
  obtain ⟨o', e', hc', n, hd⟩ := ht
  rw [e] at e'; cases e'
  rw [d] at hd; cases hd
end
end Mine
-- NV
namespace Mine

/-- the text of the law, found in the written part -/
noncomputable def lawBody (P : Params) : List Stmt := match (hd.heap_39 P).lookup 106 with
  | some ⟨_, _, .func fd, _⟩ => (match fd.body with | .stmts b => b | _ => [])
  | _ => []
noncomputable def turnBody (P : Params) : List Stmt := match ((lawBody P)[7]? : Option Stmt) with
  | some (Stmt.For _ _ b _ _) => b
  | _ => []
noncomputable def addStmts (P : Params) : List Stmt := match ((turnBody P)[6]? : Option Stmt) with
  | some (Stmt.If _ b _ _) => b
  | _ => []
noncomputable def settleStmts (P : Params) : List Stmt := match ((turnBody P)[6]? : Option Stmt) with
  | some (Stmt.If _ _ [Stmt.If _ b _ _] _) => b
  | _ => []
noncomputable def tryStmts (P : Params) : List Stmt := match ((turnBody P)[6]? : Option Stmt) with
  | some (Stmt.If _ _ [Stmt.If _ _ b _] _) => b
  | _ => []

noncomputable def Nm (S : Six) (mm : PySem.Str → Option Value) : Prop :=
  mm "numbers" = some (.ref S.ln) ∧ mm "flags" = some (.ref S.lf) ∧ mm "machines" = some (.ref S.lm) ∧ mm "books" = some (.ref S.lb) ∧ mm "waits" = some (.ref S.lw)

section
variable {prog : Program} {w : World} {A : Around} {E : Value → Shared → Prop} {s : Shared} {G : Heap} {fs nums : List Int} {L f : Addr} {cd : Value} {S : Six} {N : Nat} {m : Ma} {mas : List Ma} {mm : PySem.Str → Option Value} {Q : Flow → Shared → Prop}

theorem q_ownWay {pos : Pos} {wv : Value} {Q : Value → Shared → Prop} (hc : s.heap.IsCell (L + 2) (some wv)) (h : Q wv s) : wpAny (model prog w) A (eval (.Name "way" pos) (lawEnv L f cd)) Q E s :=
  wpAny_Name (wpAny_loadName_cell (c := L + 2) rfl rfl rfl hc h) (by decide)
theorem get_none {a : Addr} (hG : G.objs.size ≤ L) (ha : L ≤ a) : G.get? a = none := get_fresh (Nat.le_trans hG ha)

set_option maxRecDepth 100000 in
set_option maxHeartbeats 4000000 in
/-- kind 2: machines[k].add_pending(way, flag); waits[k].append((way, flag)) -/
theorem add_piece {sts : List Stmt} (hst : addStmts w.params = sts) {k : Nat} {fl : Int} {t t3 : Tok} {wv : Value} {p : Way} (x : LH prog w fs nums L S N s.heap mas) (so : S.Ok L) (F : Fq w G L s.heap mm) (hG : G.objs.size ≤ L) (nm : Nm S mm)
    (e6 : mm "flag" = some (.int fl t)) (hfl : fl ∈ fs) (e8 : mm "k" = some (.int k t3)) (hk : mas[k]? = some m) (hc : s.heap.IsCell (L + 2) (some wv)) (hw : WayAt s.heap wv p) (hN : N ≤ 75)
    (hroom : A.depth + 5 < recursionLimit) (hu : A.units + 120 < cLine)
    (good : ∀ s' mas', LH prog w fs nums L S (N + 1) s'.heap mas' → Fq w G L s'.heap mm → s'.heap.IsCell (L + 2) (some wv) → WayAt s'.heap wv p → mas'.length = mas.length → SameX s s' → Q .next s') :
    wpAny (model prog w) A (execs sts (lawEnv L f cd)) Q E s := by
  with_unfolding_all change [Stmt.Expr _ _, Stmt.Expr _ _] = sts at hst
  subst hst
  obtain ⟨n1, n2, n3, n4, n5⟩ := nm
  have hm : m ∈ mas := List.mem_of_getElem? hk
  have one := x.pool.each m hm
  have hk4 : k < 4 := by
    rcases Nat.lt_or_ge k mas.length with q | q
    · have := x.few; omega
    · rw [List.getElem?_eq_none q] at hk; cases hk
  obtain ⟨im, pM, aM⟩ := x.pM
  obtain ⟨iw, pW, aW⟩ := x.pW
  obtain ⟨v1, hv1, rfl⟩ := aM.at hk
  obtain ⟨v2, hv2, rfl⟩ := aW.at hk
  rw [Array.getElem?_toList] at hv1 hv2
  refine wpAny_execs_cons (wpAny_Expr (MethodCall_ (q_item F n3 e8 pM.isList (by omega) hv1 ?_)))
  refine q_method F one.mach.inst (pg_addp w) (fi_addp w) (fn_addp w) (fun _ _ _ _ => rfl) (callWith_K (F.g.K.keeps F.keep) (kp_addp w) ?_)
  refine args_cons (q_ownWay hc (args_cons (q_ld F e6 (args_nil ⟨F.g.K.keeps F.keep, ?_⟩))))
  refine wpAny_callK (add_spec F.g F.keep (by omega) (by omega) one.mach hw hfl (by have := (x.small m hm).1; omega) fun s₁ X₁ kp₁ hX₁ => ?_)
  have y1 := x.pool.young m hm _ (.inl (.inr rfl))
  have hLp : L ≠ m.c.pend := Nat.ne_of_lt (Nat.lt_of_lt_of_le (Nat.lt_succ_of_lt (Nat.lt_succ_of_lt (Nat.lt_succ_self L))) y1)
  have F₁ := F.kept kp₁ hLp (fun a ha => by subst ha; exact get_none hG (Nat.le_trans (Nat.le_add_right _ _) y1))
  have hlist : ∀ a ∈ S.all, a ≠ m.c.pend := fun a ha q => x.pool.lists m hm a ha (.inl (.inr q))
  have pW₁ := pW.at fun o e => kp₁ _ o (hlist _ S.mem.2.2.1) e
  have hw₁ : WayAt s₁.heap wv p := hw.tups2 fun a its ht o e => kp₁ a o (fun q => one.not_tup (.inl (.inr q)) its ht) e
  have hc₁ : s₁.heap.IsCell (L + 2) (some wv) := isCell_keeps hc fun o e => kp₁ _ o (fun q => absurd y1 (Nat.not_le.mpr (q ▸ Nat.lt_succ_self _))) e
  have hwp : m.wt ≠ m.c.pend := fun q => by
    obtain ⟨its, pl, _⟩ := one.wait
    exact (one.mach.off_plain pl).1 (.inr q)
  have W₁ : WaitAt s₁.heap m.wt m.l := one.wait.kept kp₁ hwp (fun a its ht q => one.not_tup (.inl (.inr q)) its ht)
  have B₁ : BookAt s₁.heap m.b m.ms := one.book.kept kp₁ (fun q => by
    obtain ⟨its, pl, _⟩ := one.book
    exact (one.mach.off_plain pl).1 (.inr q)) (fun a its ht q => one.not_tup (.inl (.inr q)) its ht)
  obtain ⟨wits, plw, aw⟩ := id W₁
  have hwz : wits.size = m.l.length := by rw [← aw.length, Array.length_toList]
  dsimp only
  refine wpAny_execs_cons (wpAny_Expr (MethodCall_ (q_item F₁ n5 e8 pW₁.isList (by omega) hv2 (getMethod_list_append plw.choose_spec rfl rfl (callWith_method1 ?_)))))
  refine args_cons (wpAny_Tuple (args_cons (q_ownWay hc₁ (args_cons (q_ld F₁ e6 (args_nil ⟨by rw [sizeLine_is]; show 2 ≤ _; decide, ?_⟩))))))
  have kt : ∀ (o : Obj), s₁.heap.StaysIn (s₁.heap.push o) := fun o b ob e => Heap.get?_push_of_some _ e
  refine args_nil (wpAny_list_append_plain (plw.at fun o e => kt _ _ o e) (fun h₂ pl₂ sb => ?_) (by rw [sizeLine_is]; have := (x.small m hm).1; omega))
  have kb : Kept (· = m.wt) s₁.heap h₂ := fun c o hc e => sb.extBut c o hc (kt _ c o e)
  have y2 := x.pool.young m hm _ (.inr (.inr (.inr (.inr rfl))))
  have hLt : L ≠ m.wt := Nat.ne_of_lt (Nat.lt_of_lt_of_le (Nat.lt_succ_of_lt (Nat.lt_succ_of_lt (Nat.lt_succ_self L))) y2)
  have F₂ := F₁.kept kb hLt (fun a ha => by subst ha; exact get_none hG (Nat.le_trans (Nat.le_add_right _ _) y2))
  have hwt : ∀ a its, IsTup s₁.heap a its → a ≠ m.wt := fun a its ht q => plain_not_tup plw its (q ▸ ht)
  have kW : Kept (fun a => a = m.c.pend ∨ a = m.wt) s.heap h₂ := fun a o ha e => kb a o (fun q => ha (.inr q)) (kp₁ a o (fun q => ha (.inl q)) e)
  refine wpAny_execs_nil (good { s₁ with heap := h₂ } (mas.set k { m with l := m.l ++ [(p, fl)] }) ?_ F₂ ?_ ?_ (by rw [List.length_set]) hX₁)
  · refine (x.more (Nat.le_succ N)).turn hk rfl rfl rfl kW (fun a ha => ?_) (fun a ha => ?_) ?_ ?_
    · rcases ha with rfl | rfl
      · exact .inl (.inl (.inr rfl))
      · exact .inl (.inr (.inr (.inr (.inr rfl))))
    · exact .inl ha
    · refine ⟨X₁.kept2 kb fun a ha => ?_, B₁.kept kb one.bw (fun a its ht => hwt a its ht), ⟨_, pl₂, ?_⟩, one.bw, one.sound⟩
      · subst ha; exact X₁.off_plain plw
      · rw [Array.toList_push]
        refine (aw.imp fun v z hz => hz.tups2 fun c its ht o e => kb c o (hwt c its ht) e).push ?_
        refine ⟨s₁.heap.objs.size, wv, t, rfl, ⟨_, sb.extBut _ _ (fun q => ?_) (Heap.get?_push_size _ rfl), rfl, 0, rfl⟩, hw₁.tups2 fun c its ht o e => kb c o (hwt c its ht) e⟩
        obtain ⟨n, e⟩ := plw
        have := Heap.lt_size e
        rw [← q] at this
        exact Nat.lt_irrefl _ this
    · have := x.small m hm
      simp only [List.length_append, List.length_singleton]
      constructor <;> omega
  · exact isCell_keeps hc₁ fun o e => kb _ o (fun q => absurd y2 (Nat.not_le.mpr (q ▸ Nat.lt_succ_self _))) e
  · exact hw₁.tups2 fun c its ht o e => kb c o (hwt c its ht) e
end
end Mine
-- NW
namespace Mine

theorem frame1 {L f : Addr} {cd : Value} {a : Addr} : isFrame [lawEnv L f cd] a ↔ a = L := by
  constructor
  · rintro ⟨env, he, hf⟩
    rw [List.mem_singleton.mp he] at hf
    cases hf; rfl
  · rintro rfl; exact ⟨_, .head _, rfl⟩

section
variable {prog : Program} {w : World} {A : Around} {E : Value → Shared → Prop} {s : Shared} {G : Heap} {fs nums : List Int} {L f : Addr} {cd : Value} {S : Six} {N : Nat} {m : Ma} {mas : List Ma} {mm : PySem.Str → Option Value} {Q : Flow → Shared → Prop}

theorem fs1 (F : Fq w G L s.heap mm) (hA : A.frames = some [lawEnv L f cd]) : Fs A [lawEnv L f cd] s.heap := by
  refine ⟨hA, fun env he => ?_⟩
  rw [List.mem_singleton.mp he]
  obtain ⟨o, es, ep, ho, hd, r⟩ := F.ns
  exact ⟨(by decide : ScopeKind.function ≠ ScopeKind.module), L, o, rfl, ho, es, ep, hd⟩

/-- a call of _law_settled(machines[k], books[k], waits[k]) -/
theorem settle_call {p1 p2 p3 p4 p5 p6 p7 p8 p9 pa pb : Pos} {k : Nat} {t3 : Tok} {Q : Value → Shared → Prop} (x : LH prog w fs nums L S N s.heap mas) (so : S.Ok L) (F : Fq w G L s.heap mm) (hG : G.objs.size ≤ L) (nm : Nm S mm)
    (e8 : mm "k" = some (.int k t3)) (hk : mas[k]? = some m) (hN : N ≤ 100) (hfs : fs.length ≤ 3)
    (hA : A.frames = some [lawEnv L f cd]) (hh : A.handled = none) (hroom : A.depth + 5 < recursionLimit) (hu : A.units + 120 < cLine)
    (good : ∀ s' m', m'.c = m.c → m'.b = m.b → m'.wt = m.wt → LH prog w fs nums L S (N + 1) s'.heap (mas.set k m') → Fq w G L s'.heap mm → Kept (fun a => Own m a ∨ a = L) s.heap s'.heap → SameX s s' → Q (.bool true) s') :
    wpAny (model prog w) A (eval (.Call (.Name "_law_settled" p1) [.Subscript (.Name "machines" p2) (.Name "k" p3) p4, .Subscript (.Name "books" p5) (.Name "k" p6) p7, .Subscript (.Name "waits" p8) (.Name "k" p9) pa] [] pb) (lawEnv L f cd)) Q E s := by
  obtain ⟨n1, n2, n3, n4, n5⟩ := nm
  have hm : m ∈ mas := List.mem_of_getElem? hk
  have one := x.pool.each m hm
  have hk4 : k < 4 := by
    rcases Nat.lt_or_ge k mas.length with q | q
    · have := x.few; omega
    · rw [List.getElem?_eq_none q] at hk; cases hk
  obtain ⟨im, pM, aM⟩ := x.pM
  obtain ⟨ib, pB, aB⟩ := x.pB
  obtain ⟨iw, pW, aW⟩ := x.pW
  obtain ⟨v1, hv1, rfl⟩ := aM.at hk
  obtain ⟨v2, hv2, rfl⟩ := aB.at hk
  obtain ⟨v3, hv3, rfl⟩ := aW.at hk
  rw [Array.getElem?_toList] at hv1 hv2 hv3
  have K := F.g.K.keeps F.keep
  have young : ∀ a, Own m a → L < a ∧ a ≠ L ∧ G.get? a = none := fun a ha => by
    have y := x.pool.young m hm a ha
    have h1 : L < a := Nat.lt_of_lt_of_le (Nat.lt_succ_of_lt (Nat.lt_succ_of_lt (Nat.lt_succ_self L))) y
    exact ⟨h1, Nat.ne_of_gt h1, get_none hG (Nat.le_of_lt h1)⟩
  refine Call_ (q_glob F (v := .ref 101) (by kernel_rfl) (callWith_K K (by kernel_rfl) ?_))
  refine args_cons (q_item F n3 e8 pM.isList (by omega) hv1 ?_)
  refine args_cons (q_item F n4 e8 pB.isList (by omega) hv2 ?_)
  refine args_cons (q_item F n5 e8 pW.isList (by omega) hv3 (args_nil ⟨K, ?_⟩))
  have sm := x.small m hm
  refine wpAny_callK (settled_spec (outer := [lawEnv L f cd]) F.g F.keep (by omega) (by omega) hh (fs1 F hA) one.mach one.book one.wait one.bw hfs (by omega) (by omega) (fun a ha => (young a (.inl ha)).2.2) (fun a ha => ?_)
    (young _ (.inr (.inr (.inr (.inl rfl))))).2.2 (young _ (.inr (.inr (.inr (.inr rfl))))).2.2 (fun a ha => ?_) fun s₁ M' l' ms' X₁ B₁ W₁ T₁ gr kp us hX => ?_)
  · rw [frame1.mp ha]; exact F.off
  · rw [frame1.mp ha]
    exact ⟨fun q => (young _ (.inl q)).2.1 rfl, fun q => (young _ (.inr (.inr (.inl rfl)))).2.1 q.symm⟩
  · have kW : Kept (fun a => Own m a ∨ a = L) s.heap s₁.heap := fun a o ha e => kp a o (fun q => by
      rcases q with q | q | q | q
      · exact ha (.inl (.inl q))
      · exact ha (.inr (frame1.mp q))
      · exact ha (.inl (.inr (.inr (.inr (.inl q)))))
      · exact ha (.inl (.inr (.inr (.inr (.inr q)))))) e
    have F₁ : Fq w G L s₁.heap mm := F.up (fun a o e => kW a o (fun q => by
        rcases q with q | q
        · rw [(young a q).2.2] at e; cases e
        · rw [q, F.off] at e; cases e) (F.keep a o e)) fun o e _ => us L o (frame1.mpr rfl) e
    refine good s₁ { m with M := M', l := l', ms := ms' } rfl rfl rfl ?_ F₁ kW hX
    refine (x.more (Nat.le_succ N)).turn hk rfl rfl rfl kW (fun a ha => ?_) (fun a ha => ?_) ⟨X₁, B₁, W₁, one.bw, one.sound.turned X₁.tree.nil T₁⟩ ?_
    · rcases ha with ha | rfl
      · exact .inl ha
      · refine .inr ⟨fun n hn q => ?_, fun items ht => F.ne_tup ht rfl, fun q => Nat.lt_irrefl _ (Nat.lt_trans (Nat.lt_succ_of_lt (Nat.lt_succ_self _)) (so.young _ q)), Nat.ne_of_lt (Nat.lt_succ_self _), Nat.ne_of_lt (Nat.lt_succ_of_lt (Nat.lt_succ_self _))⟩
        exact absurd (x.pool.young n hn _ q) (Nat.not_le.mpr (Nat.lt_succ_of_lt (Nat.lt_succ_of_lt (Nat.lt_succ_self _))))
    · rcases ha with (ha | ha) | ha
      · rcases gr a ha with z | z
        · exact .inl (.inl (.inl z))
        · exact .inr z
      · exact .inl (.inl (.inr ha))
      · exact .inl (.inr ha)
    · rcases T₁ with ⟨_, rfl, rfl, _⟩ | ⟨rfl, rfl, _⟩
      · simp only [sureAll, List.length_append, List.length_map, List.length_nil]
        constructor <;> omega
      · have := maybe_len m.l m.ms
        simp only
        constructor <;> omega

set_option maxRecDepth 100000 in
set_option maxHeartbeats 4000000 in
/-- kind 3 -/
theorem settle_piece {sts : List Stmt} (hst : settleStmts w.params = sts) {k : Nat} {t3 : Tok} {wv : Value} {p : Way} (x : LH prog w fs nums L S N s.heap mas) (so : S.Ok L) (F : Fq w G L s.heap mm) (hG : G.objs.size ≤ L) (nm : Nm S mm)
    (e8 : mm "k" = some (.int k t3)) (hk : mas[k]? = some m) (hc : s.heap.IsCell (L + 2) (some wv)) (hw : WayAt s.heap wv p) (hN : N ≤ 75) (hfs : fs.length ≤ 3)
    (hA : A.frames = some [lawEnv L f cd]) (hh : A.handled = none) (hroom : A.depth + 5 < recursionLimit) (hu : A.units + 120 < cLine)
    (good : ∀ s' mas', LH prog w fs nums L S (N + 1) s'.heap mas' → Fq w G L s'.heap mm → s'.heap.IsCell (L + 2) (some wv) → WayAt s'.heap wv p → mas'.length = mas.length → SameX s s' → Q .next s') :
    wpAny (model prog w) A (execs sts (lawEnv L f cd)) Q E s := by
  with_unfolding_all change [Stmt.If _ _ _ _] = sts at hst
  subst hst
  have hm : m ∈ mas := List.mem_of_getElem? hk
  refine wpAny_execs_cons (wpAny_If (isTrue_not (isTrue_plain (settle_call x so F hG nm e8 hk (by omega) hfs hA hh hroom hu fun s₁ m' hc' hb' hw' x₁ F₁ kW hX => wpAny_truthy_bool ?_))))
  rw [if_neg (by decide)]
  refine wpAny_execs_nil ?_
  dsimp only
  refine wpAny_execs_nil (good s₁ _ x₁ F₁ (isCell_keeps hc fun o e => kW _ o (fun q => ?_) e) (hw.tups2 fun c its ht o e => kW c o (fun q => ?_) e) (by rw [List.length_set]) hX)
  · rcases q with q | q
    · exact absurd (x.pool.young m hm _ q) (Nat.not_le.mpr (Nat.lt_succ_self _))
    · exact Nat.ne_of_gt (Nat.lt_succ_of_lt (Nat.lt_succ_self L)) q
  · rcases q with q | q
    · exact (x.pool.each m hm).not_tup q its ht
    · exact F.ne_tup ht q.symm
end
end Mine
-- NX
namespace Mine

theorem Mach.grown {prog : Program} {w : World} {fs : List Int} {h h' : Heap} {c : Mc} {M M' : Tr} {l : List (Way × Int)} (X : Mach prog w fs h c M l) (T : Tree prog w fs h' c.root M') (gr : Grow c.root M M' h.objs.size) (kp : Kept (Foot c.root M) h h') : Mach prog w fs h' c M' l := by
  have lt : ∀ {a : Addr}, (∃ o, h.get? a = some o) → ¬ Foot c.root M a → ¬ Foot c.root M' a := fun {a} ha hn q => by
    obtain ⟨o, e⟩ := ha
    rcases gr a q with z | z
    · exact hn z
    · exact absurd (Heap.lt_size e) (Nat.not_lt.mpr z)
  refine ⟨?_, T, X.pend.tups2 (fun o e => kp _ o X.offp e) (fun b items hb o e => kp b o (fun q => ?_) e), ?_, ?_, X.flags⟩
  · obtain ⟨sl, h1, h2, t1, t2, n, a, b⟩ := X.inst
    exact ⟨sl, h1, h2, t1, t2, n, kp _ _ (fun q => X.offx (.inl q)) a, kp _ _ (fun q => X.offd (.inl q)) b⟩
  · obtain ⟨o', e', hc, _⟩ := hb
    rw [e] at e'; cases e'
    exact X.not_tup (.inl q) e hc
  · obtain ⟨o, e, _⟩ := X.pend.alive
    exact lt ⟨o, e⟩ X.offp
  · rintro (q | q)
    · exact lt X.inst.alive.2 (fun z => X.offd (.inl z)) q
    · exact X.offd (.inr q)

section
variable {prog : Program} {w : World} {A : Around} {E : Value → Shared → Prop} {s : Shared} {G : Heap} {fs nums : List Int} {L f : Addr} {cd : Value} {S : Six} {N : Nat} {m : Ma} {mas : List Ma} {mm : PySem.Str → Option Value} {Q : Flow → Shared → Prop}

/-- the IndexError of set(()) or unset_all(()) is caught -/
theorem caught_piece {np p1 p2 p3 p4 p5 p6 pos : Pos} {k1 k2 : Nat} {s' : Shared} {e : Addr} {wv : Value} (F : Fq w G L s.heap mm) (hG : G.objs.size ≤ L) (hA : A.frames = some [lawEnv L f cd]) (hu : A.units + 64 < cLine)
    (fl : Flew [lawEnv L f cd] (minusW s.heap (isFrame [lawEnv L f cd])) s'.heap e) (us : s.heap.UpToSlots s'.heap) (hc : s.heap.IsCell (L + 2) (some wv)) (hw : WayAt s.heap wv [])
    (good : ∀ s'', Fq w G L s''.heap mm → Kept (· = L) s.heap s''.heap → SameX s' s'' → Q .next s'') :
    wpAny (model prog w) A (noteFrame (.ref e) (lawEnv L f cd)) (fun _ s₂ => wpAny (model prog w) A (setFlight (.ref e) none) (fun _ s₃ => wpAny (model prog w) A (handleBy (.ref e) (lawEnv L f cd)
      [.ExceptHandler (some (.Name "IndexError" np)) none [.If (.Compare (.Name "way" p1) [.NotEq] [.Tuple [] k1 p2] p3) [.Return (some (.Constant (.bool false) k2 p4)) p5] [] p6] pos]) Q E s₃) E s₂) E s' := by
  refine look_catch hA rfl fl fun h₁ fl₁ u₁ => ?_
  have hGk : G.StaysIn (minusW s.heap (isFrame [lawEnv L f cd])) := fun a o ea => minusW_get.mpr ⟨F.keep a o ea, fun q => by rw [frame1.mp q, F.off] at ea; cases ea⟩
  have F₁ : Fq w G L h₁ mm := F.up (fun a o ea => fl₁.stays a o (hGk a o ea)) fun o eo hn => by
    obtain ⟨sl, e'⟩ := us L o eo hn
    exact u₁ L _ e' hn |>.imp fun _ z => z
  refine handle (s := { s' with heap := h₁ }) F₁ fl₁ fun h₂ fl₂ u₂ => ?_
  have F₂ : Fq w G L h₂ mm := F₁.up (fun a o ea => fl₂.stays a o (hGk a o ea)) fun o eo hn => u₂ L o eo hn
  have k₂ : Kept (· = L) s.heap h₂ := fun a o ha ea => fl₂.stays a o (minusW_get.mpr ⟨ea, fun q => ha (frame1.mp q)⟩)
  have hc₂ : h₂.IsCell (L + 2) (some wv) := isCell_keeps hc fun o eo => k₂ _ o (Nat.ne_of_gt (Nat.lt_succ_of_lt (Nat.lt_succ_self L))) eo
  have hw₂ : WayAt h₂ wv [] := hw.tups2 fun c its ht o eo => k₂ c o (fun q => F.ne_tup ht q.symm) eo
  have kt : h₂.StaysIn (h₂.push { cls := .type "tuple", data := .seq #[] }) := fun b o e => Heap.get?_push_of_some _ e
  refine wpAny_execs_cons (wpAny_If (wpAny_isTrue_Compare1 (q_ownWay hc₂ (wpAny_Tuple (args_nil ⟨by rw [sizeLine_is]; decide, ?_⟩)))))
  refine ne_ways (hw₂.keeps kt) (WayAt.nil (IsTup.new _ _)) (by show A.units + 64 < cLine; exact hu) (wpAny_truthy_bool ?_)
  rw [if_neg (by decide)]
  refine wpAny_execs_nil ?_
  dsimp only
  exact wpAny_execs_nil (good _ (F₂.keeps kt) (fun a o ha ea => kt a o (k₂ a o ha ea)) ⟨rfl, rfl⟩)

theorem c_bi {env : Env} {x : PySem.Str} {pos : Pos} {v : Value} {Q : Value → Shared → Prop} (g : Gd w G) (k : G.StaysIn s.heap) (e : nsIn (hd.heap_39 w.params) mainGlobals x = some none) (hv : bootBuiltins x = some v) (hn : x ≠ "__name__") (h : Q v s)
    (hk : env.scope.kind = .function) (hx : env.kindOf x = some .globalImplicit) (hg : env.globals = mainGlobals) (hb : env.builtins = builtinsNs) (hd' : (x == ("__debug__" : PySem.Str)) = false := by decide) :
    wpAny (model prog w) A (eval (.Name x pos) env) Q E s := by
  obtain ⟨K, mg, mb, T⟩ := g
  obtain ⟨sc, lo, gl, ce, qu, fu, co, fr, bu⟩ := env
  simp only at hg hb
  subst hg hb
  exact Name_function_global hk hx (loadGlobal_builtin (T.g.keeps k) (mg_none_of K T.g e) (T.b.keeps k) ((T.builtins x hn).trans hv) h) hd'
end
end Mine
-- NY
namespace Mine

theorem markPr (h h' : Heap) (v : Value) (x : Mark) (hx : MarkAt h v x) (k : ∀ b items, IsTup h b items → ∀ o, h.get? b = some o → h'.get? b = some o) : MarkAt h' v x := hx.tups2 k

section
variable {prog : Program} {w : World} {A : Around} {E : Value → Shared → Prop} {s : Shared} {G : Heap} {fs nums : List Int} {L f : Addr} {cd : Value} {S : Six} {N : Nat} {m : Ma} {mas : List Ma} {mm : PySem.Str → Option Value}

theorem q_sliceT {value upper : PySem.Expr} {p pos : Pos} {env : Env} {Q : Value → Shared → Prop}
    (h : wpAny (model prog w) A (eval value env) (fun o s₁ => wpAny (model prog w) A (eval upper env) (fun vu s₂ =>
      ∃ t items k u, o = .ref t ∧ vu = .int k u ∧ IsTup s₂.heap t items ∧ items.size ≤ sizeLine ∧
        ∀ a' h', s₂.heap.StaysIn h' → IsTup h' a' (items.toList.take (upto k items.size)).toArray → Q (.ref a') { s₂ with heap := h' }) E s₁) E s) :
    wpAny (model prog w) A (eval (.Subscript value (.Slice none (some upper) none p) pos) env) Q E s := by
  refine Subscript_ (wpAny_mono h (fun o s₁ h₁ => wpAny_Slice ?_) fun _ _ e => e)
  refine wpAny_pure (wpAny_mono h₁ (fun vu s₂ h₂ => ?_) fun _ _ e => e)
  obtain ⟨t, items, k, u, rfl, rfl, ht, hsz, hQ⟩ := h₂
  refine wpAny_pure ?_
  have ht' : IsTup (s₂.heap.push { cls := .type "slice", data := .fields #[.none, .int k u, .none] }) t items := ht.keeps fun _ _ e => Heap.get?_push_of_some _ e
  exact tail_any (s := { s₂ with heap := s₂.heap.push { cls := .type "slice", data := .fields #[.none, .int k u, .none] } }) ht'.typeIs slot_tuple_getitem.lookup
    (getItem_upto ht' (Heap.IsSliceOf.new ..) hsz fun a' h' hk hi => hQ a' h' (fun b o e => hk b o (Heap.get?_push_of_some _ e)) hi) rfl

set_option maxHeartbeats 4000000 in
/-- `[mark for mark in books[k] if mark[0][:len(way)] != way]` -/
theorem leave_comp {p1 p2 p3 p4 p5 p6 p7 p8 p9 pa pb pc pd pe pf pg : Pos} {k1 : Nat} {k : Nat} {t3 : Tok} {wv : Value} {p : Way} {lb b : Addr} {ib : Array Value} {ms : List Mark} {Q : Value → Shared → Prop} (F : Fq w G L s.heap mm) (e4 : mm "books" = some (.ref lb)) (e8 : mm "k" = some (.int k t3)) (hk : k < 1000)
    (pB : s.heap.PlainList lb ib) (hv : ib[k]? = some (.ref b)) (hB : BookAt s.heap b ms) (hc : s.heap.IsCell (L + 2) (some wv)) (hw : WayAt s.heap wv p) (hlen : ms.length ≤ 10000)
    (hh : A.handled = none) (hu : A.units + 64 < cLine)
    (good : ∀ D h' tk ys, s.heap.objs.size ≤ D → h'.PlainList D ys → AllAt (MarkAt h') ys.toList (leave p ms) → s.heap.StaysIn h' → Q (.ref D) { s with heap := h', toks := tk }) :
    wpAny (model prog w) A (eval (.ListComp (.Name "mark" p1) [⟨.Name "mark" p2, .Subscript (.Name "books" p3) (.Name "k" p4) p5,
      [.Compare (.Subscript (.Subscript (.Name "mark" p6) (.Constant (.int 0) k1 p7) p8) (.Slice none (some (.Call (.Name "len" p9) [.Name "way" pa] [] pb)) none pc) pd) [.NotEq] [.Name "way" pe] pf], 0⟩]
      ⟨.function, [(".0", .local), ("mark", .local), ("len", .globalImplicit), ("way", .free)], false, false, []⟩ pg) (lawEnv L f cd)) Q E s := by
  obtain ⟨ys, hL, hA⟩ := hB
  refine q_comp MarkAt markPr (by rfl) (by decide) rfl (by decide) ?_
  refine q_item F e4 e8 pB.isList hk hv (wpAny_pyIter_list hL.isList ?_)
  have hys : ys.size = ms.length := by rw [← hA.length, Array.length_toList]
  have k₁ : s.heap.StaysIn (s.heap.push { cls := .type "list_iterator", data := .fields #[.ref b, .int 0 0] }) := fun b o e => Heap.get?_push_of_some _ e
  have hDlt : b < s.heap.objs.size := by obtain ⟨n, e⟩ := hL; exact Heap.lt_size e
  have no : hadr A = [] := by simp [hadr, hh]
  refine ⟨s.heap.objs.size, _, ys.size, _, _, (fun i => (ms[i]?).bind fun x => if x.place.take p.length = p then none else some x), rfl, walksList (A := A) s.heap.objs.size b (Nat.ne_of_lt hDlt) (fun q => by rw [no] at q; cases q) ys, by omega, ⟨⟨_, Heap.get?_push_size _ rfl, rfl, rfl⟩, (hL.at fun o e => k₁ _ o e).isList, .inl hh⟩, ?_, ?_, ?_, ?_, ?_⟩
  · intro c hb
    rw [no] at hb
    simp at hb
    rcases hb with rfl | rfl
    · simp
    · exact Nat.lt_trans hDlt (by simp)
  · rintro i h' ⟨⟨o, e, hc, hd⟩, _⟩
    refine ⟨⟨o, e⟩, fun items ht => ?_⟩
    obtain ⟨o', ho', hc', _⟩ := ht
    rw [e] at ho'; cases ho'
    rw [hc] at hc'
    exact absurd hc' (by decide)
  · intro i s v Q E hst h
    exact wpAny_pure h
  · intro i vv C s₃ m₃ E' hi hv hC hN hK _
    have S₃ : s.heap.StaysIn s₃.heap := fun b o e => hK b o (fun q => absurd (Heap.lt_size e) (Nat.not_lt.mpr (Nat.le_of_eq q.symm))) (k₁ b o e)
    have hp : ∃ x, ms[i]? = some x ∧ MarkAt s.heap vv x := hA.get (by simpa using hv)
    obtain ⟨mk, hpi, hmk⟩ := hp
    have hC' : s.heap.objs.size < C := Nat.lt_of_lt_of_le (by simp) hC
    refine wpAny_assign_Name (wpAny_storeName_local (by rfl) hN (fun h₄ hn₄ sb₄ => ?_) (by rfl))
    have S₄ : s.heap.StaysIn h₄ := fun b o e => sb₄.extBut b o (Nat.ne_of_lt (Nat.lt_trans (Heap.lt_size e) hC')) (S₃ b o e)
    have hmk₄ := hmk.keeps S₄
    obtain ⟨a, pv, t, u, rfl, ht, hpv⟩ := hmk₄
    have hc₄ : h₄.IsCell (L + 2) (some wv) := isCell_keeps hc fun o e => S₄ _ o e
    have hw₄ := hw.keeps S₄
    obtain ⟨wa, wvs, rfl, htw, hsw, hnw, hpw⟩ := id hw₄
    obtain ⟨pa', pvs, rfl, htp, hsp, hnp, hpp⟩ := id hpv
    have hlw := hsw.length
    have hlp := hsp.length
    refine tests_one (wpAny_isTrue_Compare1 (q_sliceT (Subscript_ (wpAny_Name (wpAny_loadName_local rfl rfl hn₄ rfl (wpAny_Constant_int ?_)) (by decide)))))
    · refine tail_any ht.typeIs slot_tuple_getitem.lookup (PyProof.Rows.getItem_tuple (k := 0) ht (by decide) (by decide) (j := 0) (by simp [seqIndex?]) (x := .ref pa') rfl ?_) rfl
      refine Call_ (c_bi F.g (fun b o e => S₄ b o (F.keep b o e)) (by kernel_rfl) boot_len (by decide) (PyProof.Rows.callWith_builtin1 ?_) rfl rfl rfl rfl)
      refine args_cons (wpAny_Name (wpAny_loadName_cell (v := .ref wa) rfl rfl rfl hc₄ (args_nil (len_tuple htw (strs_lt hsw hpw).1 ?_))) (by decide))
      refine ⟨pa', pvs.toArray, _, _, rfl, rfl, htp, (strs_lt hsp hpp).2, fun a' h₅ k₅ ht' => ?_⟩
      have hup : upto (wvs.toArray.size : Int) pvs.toArray.size = min p.length mk.place.length := by simp [upto, hlp, hlw]; omega
      rw [hup] at ht'
      have hw₅ : WayAt h₅ (.ref a') (mk.place.take p.length) := by
        refine ⟨a', pvs.take (min p.length mk.place.length), rfl, by simpa using ht', ?_, fun x hx => hnp x (List.mem_of_mem_take hx), by rw [List.length_take]; omega⟩
        have := hsp.take' (min p.length mk.place.length)
        have e : mk.place.take (min p.length mk.place.length) = mk.place.take p.length := by
          rcases Nat.le_total p.length mk.place.length with z | z
          · rw [Nat.min_eq_left z]
          · rw [Nat.min_eq_right z, List.take_length, List.take_of_length_le z]
        rwa [e] at this
      refine wpAny_Name (wpAny_loadName_cell (v := .ref wa) rfl rfl rfl (isCell_keeps hc₄ fun o e => k₅ _ o e) ?_) (by decide)
      refine ne_ways hw₅ (hw₄.keeps k₅) hu (wpAny_truthy_bool ?_)
      by_cases hpn : mk.place.take p.length = p
      · rw [if_neg (by simpa using hpn)]
        refine ⟨_, _, _, rfl, hn₄.keeps k₅, fun b o hb e => k₅ b o (sb₄.extBut b o hb e), ?_⟩
        show (ms[i]?).bind _ = _
        rw [hpi]
        exact if_pos hpn
      · rw [if_pos (by simpa using hpn)]
        refine wpAny_Name (wpAny_loadName_local rfl rfl (hn₄.keeps k₅) rfl ?_) (by decide)
        refine ⟨_, _, _, rfl, hn₄.keeps k₅, fun b o hb e => k₅ b o (sb₄.extBut b o hb e), mk, ?_, hmk.keeps fun b o e => k₅ b o (S₄ b o e)⟩
        show (ms[i]?).bind _ = _
        rw [hpi]
        exact if_neg hpn
  · intro D' h' tk ys' hD' hL' hA' hK'
    have e1 : (List.range ys.size).filterMap (fun i => (ms[i]?).bind fun x => if x.place.take p.length = p then none else some x) = leave p ms := by
      rw [range_take, hys, List.take_length, leave]
      rw [← List.filterMap_eq_filter]
      congr 1
      funext x
      by_cases q : x.place.take p.length = p <;> simp [q, Option.guard]
    rw [e1] at hA'
    exact good D' h' tk ys' (Nat.le_trans (by simp) hD') hL' hA' fun b o e => hK' b o (fun q => absurd (Heap.lt_size e) (Nat.not_lt.mpr (Nat.le_of_eq q.symm))) (k₁ b o e)
end
end Mine
-- NZ
namespace Mine

section
variable {prog : Program} {w : World} {fs : List Int} {h h' : Heap} {m : Ma} {mas : List Ma} {base : Nat} {ls : List Addr}
theorem Pool.turn2 {W : Addr → Prop} {k : Nat} {m' : Ma} (x : Pool prog w fs base ls h mas) (hk : mas[k]? = some m) (kp : Kept W h h')
    (hW : ∀ a, W a → Own m a ∨ ((∀ n ∈ mas, ¬ Own n a) ∧ ∀ items, ¬ IsTup h a items)) (hown : ∀ a, Own m' a → Own m a ∨ ((∀ j n, mas[j]? = some n → j ≠ k → ¬ Own n a) ∧ base ≤ a ∧ a ∉ ls)) (one : One prog w fs h' m') : Pool prog w fs base ls h' (mas.set k m') := by
  have hm : m ∈ mas := List.mem_of_getElem? hk
  have hlt : k < mas.length := by
    rcases Nat.lt_or_ge k mas.length with q | q
    · exact q
    · rw [List.getElem?_eq_none q] at hk; cases hk
  have hmk : mas[k] = m := by rw [List.getElem?_eq_getElem hlt] at hk; exact Option.some.inj hk
  have ap := List.pairwise_iff_getElem.mp x.apart
  -- another machine is apart from m
  have oth : ∀ j (hj : j < mas.length), j ≠ k → ∀ a, Own m a → ¬ Own mas[j] a := fun j hj hjk a ha hn => by
    rcases Nat.lt_or_gt_of_ne hjk with q | q
    · exact ap j k hj hlt q a hn (hmk ▸ ha)
    · exact ap k j hlt hj q a (hmk ▸ ha) hn
  have oth' : ∀ j (hj : j < mas.length), j ≠ k → ∀ a, Own m' a → ¬ Own mas[j] a := fun j hj hjk a ha hn => by
    rcases hown a ha with q | q
    · exact oth j hj hjk a q hn
    · exact q.1 j _ (List.getElem?_eq_getElem hj) hjk hn
  refine ⟨?_, ?_, ?_, ?_⟩
  · intro n hn
    obtain ⟨j, hj, rfl⟩ := List.mem_iff_getElem.mp hn
    rw [List.length_set] at hj
    rw [List.getElem_set]
    split
    · exact one
    · rename_i hjk
      refine (x.each _ (List.getElem_mem hj)).kept kp fun a ha => ?_
      rcases hW a ha with q | q
      · exact ⟨oth j hj (fun e => hjk e.symm) a q, (x.each m hm).not_tup q⟩
      · exact ⟨q.1 _ (List.getElem_mem hj), q.2⟩
  · intro n hn a ha
    obtain ⟨j, hj, rfl⟩ := List.mem_iff_getElem.mp hn
    rw [List.length_set] at hj
    rw [List.getElem_set] at ha
    split at ha
    · rcases hown a ha with q | q
      · exact x.young m hm a q
      · exact q.2.1
    · exact x.young _ (List.getElem_mem hj) a ha
  · rw [List.pairwise_iff_getElem]
    intro i j hi hj hij a ha hn
    rw [List.length_set] at hi hj
    rw [List.getElem_set] at ha hn
    split at ha
    · rename_i e
      split at hn
      · omega
      · exact oth' j hj (by omega) a ha hn
    · split at hn
      · exact oth' i hi (by omega) a hn ha
      · exact ap i j hi hj hij a ha hn
  · intro n hn a ha hna
    obtain ⟨j, hj, rfl⟩ := List.mem_iff_getElem.mp hn
    rw [List.length_set] at hj
    rw [List.getElem_set] at hna
    split at hna
    · rcases hown a hna with q | q
      · exact x.lists m hm a ha q
      · exact q.2.2 ha
    · exact x.lists _ (List.getElem_mem hj) a ha hna

end
section
variable {prog : Program} {w : World} {fs nums : List Int} {L : Addr} {S : Six} {N : Nat} {h h' : Heap} {m m' : Ma} {mas : List Ma}
theorem Six.Ok.lb_ne (so : S.Ok L) : ∀ a ∈ S.all, a = S.lb ∨ a ≠ S.lb := fun a _ => Classical.em _
theorem Six.Ok.ne_lb (so : S.Ok L) : S.lm ≠ S.lb ∧ S.lw ≠ S.lb ∧ S.lf ≠ S.lb ∧ S.ln ≠ S.lb ∧ S.ly ≠ S.lb := by
  have h := so.nodup
  simp only [Six.all, List.nodup_cons, List.mem_cons, List.not_mem_nil, or_false, not_or] at h
  exact ⟨h.1.1, fun q => h.2.1.1 q.symm, fun q => h.2.1.2.1 q.symm, fun q => h.2.1.2.2.1 q.symm, fun q => h.2.1.2.2.2.1 q.symm⟩
/-- the machine k turns and gets another book -/
theorem LH.rebook {W : Addr → Prop} {k : Nat} (x : LH prog w fs nums L S N h mas) (so : S.Ok L) (hk : mas[k]? = some m) (hc : m'.c.x = m.c.x) (hw : m'.wt = m.wt) (kp : Kept W h h')
    (hW : ∀ a, W a → Own m a ∨ a = S.lb) (pB : ∃ i, h'.PlainList S.lb i ∧ AllAt (fun v m => v = .ref m.b) i.toList (mas.set k m'))
    (hown : ∀ a, Own m' a → Own m a ∨ ((∀ j n, mas[j]? = some n → j ≠ k → ¬ Own n a) ∧ L + 3 ≤ a ∧ a ∉ S.all)) (one : One prog w fs h' m') (hs : m'.l.length ≤ N ∧ m'.ms.length ≤ 100 * N) : LH prog w fs nums L S N h' (mas.set k m') := by
  have hm : m ∈ mas := List.mem_of_getElem? hk
  have lbt : ∀ items, ¬ IsTup h S.lb items := fun items => by obtain ⟨i, p, _⟩ := x.pB; exact plain_not_tup p items
  have offL : ∀ a ∈ S.all, a ≠ S.lb → ¬ W a := fun a ha hn q => by
    rcases hW a q with q | q
    · exact x.pool.lists m hm a ha q
    · exact hn q
  have offT : ∀ a items, IsTup h a items → ¬ W a := fun a items ht q => by
    rcases hW a q with q | q
    · exact (x.pool.each m hm).not_tup q items ht
    · exact lbt items (q ▸ ht)
  have offC : ∀ a, a ≤ L + 2 → ¬ W a := fun a ha q => by
    rcases hW a q with q | q
    · exact absurd (x.pool.young m hm a q) (Nat.not_le.mpr (Nat.lt_succ_of_le ha))
    · exact absurd (so.young _ S.mem.2.1) (Nat.not_lt.mpr (q ▸ ha))
  obtain ⟨m1, m2, m3, m4, m5, m6⟩ := S.mem
  obtain ⟨d1, d3, d4, d5, d6⟩ := so.ne_lb
  obtain ⟨o2, e2⟩ := x.room
  have hbase : L + 3 ≤ h.objs.size := Heap.lt_size e2
  refine ⟨?_, pB, ?_, ?_, ?_, ?_, ?_, ?_, ?_, ?_, ?_, kp _ _ (offL _ S.memI so.it_ne.2.1) x.pI⟩
  · obtain ⟨i, p, a⟩ := x.pM
    exact ⟨i, p.at fun o e => kp _ o (offL _ m1 d1) e, a.setr hk fun v e => by rw [e, hc]⟩
  · obtain ⟨i, p, a⟩ := x.pW
    exact ⟨i, p.at fun o e => kp _ o (offL _ m3 d3) e, a.setr hk fun v e => by rw [e, hw]⟩
  · obtain ⟨i, p, a⟩ := x.pF
    exact ⟨i, p.at fun o e => kp _ o (offL _ m4 d4) e, a⟩
  · obtain ⟨i, p, a⟩ := x.pN
    exact ⟨i, p.at fun o e => kp _ o (offL _ m5 d5) e, a⟩
  · obtain ⟨i, ps, p, a, l⟩ := x.pY
    exact ⟨i, ps, p.at fun o e => kp _ o (offL _ m6 d6) e, a.imp fun v z hz => hz.tups2 fun c its ht o e => kp c o (offT c its ht) e, l⟩
  · exact isCell_keeps x.cY fun o e => kp _ o (offC _ (Nat.le_succ _)) e
  · refine x.pool.turn2 hk kp (fun a ha => ?_) hown one
    rcases hW a ha with q | q
    · exact .inl q
    · exact .inr ⟨fun n hn z => x.pool.lists n hn _ m2 (q ▸ z), fun items ht => lbt items (q ▸ ht)⟩
  · rw [List.length_set]; exact x.few
  · intro n hn
    rcases List.mem_or_eq_of_mem_set hn with q | q
    · exact x.small n q
    · rw [q]; exact hs
  · exact ⟨o2, kp _ o2 (offC _ (Nat.le_refl _)) e2⟩
end

section
variable {prog : Program} {w : World} {A : Around} {E : Value → Shared → Prop} {s : Shared} {G : Heap} {fs nums : List Int} {L f : Addr} {cd : Value} {S : Six} {N : Nat} {m : Ma} {mas : List Ma} {mm : PySem.Str → Option Value} {Q : Flow → Shared → Prop}
set_option maxRecDepth 100000 in
set_option maxHeartbeats 8000000 in
/-- kinds 0, 1 and 4 -/
theorem try_piece {sts : List Stmt} (hst : tryStmts w.params = sts) {k : Nat} {fl kd : Int} {t t2 t3 : Tok} {wv : Value} {p : Way} (x : LH prog w fs nums L S N s.heap mas) (so : S.Ok L) (F : Fq w G L s.heap mm) (hG : G.objs.size ≤ L) (nm : Nm S mm)
    (e6 : mm "flag" = some (.int fl t)) (hfl : fl ∈ fs) (e7 : mm "kind" = some (.int kd t2)) (e8 : mm "k" = some (.int k t3)) (hk : mas[k]? = some m) (hc : s.heap.IsCell (L + 2) (some wv)) (hw : WayAt s.heap wv p) (hN : N ≤ 75) (hfs : fs.length ≤ 3)
    (hA : A.frames = some [lawEnv L f cd]) (hh : A.handled = none) (hroom : A.depth + 5 < recursionLimit) (hu : A.units + 120 < cLine)
    (good : ∀ s' mas', LH prog w fs nums L S (N + 1) s'.heap mas' → Fq w G L s'.heap mm → s'.heap.IsCell (L + 2) (some wv) → WayAt s'.heap wv p → mas'.length = mas.length → SameX s s' → Q .next s') :
    wpAny (model prog w) A (execs sts (lawEnv L f cd)) Q E s := by
  with_unfolding_all change [Stmt.Try _ _ _ _ _] = sts at hst
  subst hst
  obtain ⟨n1, n2, n3, n4, n5⟩ := nm
  have hm : m ∈ mas := List.mem_of_getElem? hk
  have one := x.pool.each m hm
  have sm := x.small m hm
  have hk4 : k < 4 := by
    rcases Nat.lt_or_ge k mas.length with q | q
    · have := x.few; omega
    · rw [List.getElem?_eq_none q] at hk; cases hk
  obtain ⟨im, pM, aM⟩ := x.pM
  obtain ⟨ib, pB, aB⟩ := x.pB
  obtain ⟨v1, hv1, rfl⟩ := aM.at hk
  obtain ⟨v2, hv2, rfl⟩ := aB.at hk
  rw [Array.getElem?_toList] at hv1 hv2
  have K := F.g.K.keeps F.keep
  have young : ∀ a, Own m a → L + 2 < a ∧ a ≠ L ∧ G.get? a = none := fun a ha => by
    have y := x.pool.young m hm a ha
    have h1 : L < a := Nat.lt_of_lt_of_le (Nat.lt_succ_of_lt (Nat.lt_succ_of_lt (Nat.lt_succ_self L))) y
    exact ⟨y, Nat.ne_of_gt h1, get_none hG (Nat.le_of_lt h1)⟩
  have hFs := fs1 (f := f) (cd := cd) F hA
  -- the exception
  have caught : ∀ (s' : Shared) e, p = [] → Flew [lawEnv L f cd] (minusW s.heap (isFrame [lawEnv L f cd])) s'.heap e → s.heap.UpToSlots s'.heap → SameX s s' → ∀ s'', Fq w G L s''.heap mm → Kept (· = L) s.heap s''.heap → SameX s' s'' → Q .next s'' := fun s' e hp fl us hX s'' F'' kL hX' => by
    refine good s'' mas ((x.more (Nat.le_succ N)).frame so F kL) F'' (isCell_keeps hc fun o e => kL _ o (Nat.ne_of_gt (Nat.lt_succ_of_lt (Nat.lt_succ_self L))) e) (hw.tups2 fun c its ht o e => kL c o (fun q => F.ne_tup ht q.symm) e) rfl (hX.trans hX')
  -- what stands after set or unset_all
  have mid : ∀ (s₁ : Shared) M₁, Tree prog w fs s₁.heap m.c.root M₁ → Grow m.c.root m.M M₁ s.heap.objs.size → Kept (Foot m.c.root m.M) s.heap s₁.heap →
      Mach prog w fs s₁.heap m.c M₁ m.l ∧ BookAt s₁.heap m.b m.ms ∧ WaitAt s₁.heap m.wt m.l ∧ Fq w G L s₁.heap mm ∧ s₁.heap.IsCell (L + 2) (some wv) ∧ WayAt s₁.heap wv p ∧ s₁.heap.PlainList S.lb ib := fun s₁ M₁ T gr kp => by
    have nt : ∀ a its, IsTup s.heap a its → ¬ Foot m.c.root m.M a := fun a its ht q => one.not_tup (.inl (.inl q)) its ht
    refine ⟨one.mach.grown T gr kp, one.book.kept kp (fun q => ?_) nt, one.wait.kept kp (fun q => ?_) nt, F.kept kp (fun q => (young _ (.inl (.inl q))).2.1 rfl) (fun a ha => (young a (.inl (.inl ha))).2.2),
      isCell_keeps hc fun o e => kp _ o (fun q => Nat.lt_irrefl _ (young _ (.inl (.inl q))).1) e, hw.tups2 fun c its ht o e => kp c o (nt c its ht) e, pB.at fun o e => kp _ o (fun q => x.pool.lists m hm _ S.mem.2.1 (.inl (.inl q))) e⟩
    · obtain ⟨its, pl, _⟩ := one.book; exact (one.mach.off_plain pl).1 (.inl q)
    · obtain ⟨its, pl, _⟩ := one.wait; exact (one.mach.off_plain pl).1 (.inl q)
  refine wpAny_execs_cons (wpAny_Try_except ?_)
  refine wpAny_abs ?_; intro Q₀ E₀
  by_cases hk4' : kd = 4
  · -- unset_all
    refine wpAny_execs_cons (wpAny_If (wpAny_isTrue_Compare1 (q_ld F e7 (wpAny_Constant_int (eq_int (wpAny_truthy_bool ?_))))))
    rw [if_pos (by simpa using hk4')]
    refine wpAny_abs ?_; intro Q₀ E₀
    refine wpAny_execs_cons (wpAny_Expr (MethodCall_ (q_item F n3 e8 pM.isList (by omega) hv1 ?_)))
    refine q_method F one.mach.inst (pg_unset w) (fi_unset w) (fn_unset w) (fun _ _ _ _ => rfl) (callWith_K K (kp_unset w) ?_)
    refine args_cons (q_ownWay hc (args_nil ⟨K, ?_⟩))
    refine wpAny_callK (unset_spec (outer := [lawEnv L f cd]) F.g F.keep (by omega) hh hFs one.mach.inst one.mach.tree hw (fun hp s₁ M₁ T₁ V₁ gr₁ kp₁ hX₁ => ?_) (fun hp s₁ e fl₁ us₁ hX₁ => ?_))
    · obtain ⟨X₁, B₁, W₁, F₁, hc₁, hw₁, pB₁⟩ := mid s₁ M₁ T₁ gr₁ kp₁
      refine wpAny_execs_nil ?_
      have kt : s₁.heap.StaysIn (s₁.heap.push { cls := .type "tuple", data := .seq #[] }) := fun b o e => Heap.get?_push_of_some _ e
      refine wpAny_execs_cons (wpAny_If (wpAny_isTrue_Compare1 (q_ownWay hc₁ (wpAny_Tuple (args_nil ⟨by rw [sizeLine_is]; decide, ?_⟩)))))
      refine eq_ways (hw₁.keeps kt) (WayAt.nil (IsTup.new _ _)) (by show A.units + 64 < cLine; exact u_less (a := A.units) (m := 64) hu (by decide)) (wpAny_truthy_bool ?_)
      rw [if_neg (by simpa using hp)]
      refine wpAny_execs_nil ?_
      dsimp only
      have F₂ := F₁.keeps kt
      refine wpAny_execs_cons (wpAny_If (wpAny_isTrue_Compare1 (q_ld F₂ e7 (wpAny_Constant_int (eq_int (wpAny_truthy_bool ?_))))))
      rw [if_pos (by simpa using hk4')]
      refine wpAny_abs ?_; intro Q₀ E₀
      have pB₂ := pB₁.at fun o e => kt _ o e
      refine wpAny_execs_cons (wpAny_Assign_Subscript (leave_comp (s := { s₁ with heap := s₁.heap.push { cls := .type "tuple", data := .seq #[] }, toks := _ }) F₂ n4 e8 (by omega) pB₂ hv2 (B₁.keeps kt) (isCell_keeps hc₁ fun o e => kt _ o e) (hw₁.keeps kt) (by omega) hh (by omega) fun D h₃ tk₃ ys hD pD aD S₃ => ?_))
      have pB₃ := pB₂.at fun o e => S₃ _ o e
      obtain ⟨nb, eb⟩ := id pB₃
      have hkib : k < ib.size := by
        rcases Nat.lt_or_ge k ib.size with q | q
        · exact q
        · rw [Array.getElem?_eq_none q] at hv2; cases hv2
      refine q_ld (F₂.keeps S₃) n4 (q_ld (F₂.keeps S₃) e8 (ki_setAt eb (by omega) (by omega) (by omega) ?_))
      have S13 : s₁.heap.StaysIn h₃ := fun b o e => S₃ b o (kt b o e)
      have k34 : Kept (· = S.lb) h₃ (h₃.update S.lb (Obj.mapSeq (·.setIfInBounds (k : Int).toNat (.ref D)))) := fun a o ha e => by rw [Heap.get?_update_other _ _ (Ne.symm ha)]; exact e
      have pB₄ : (h₃.update S.lb (Obj.mapSeq (·.setIfInBounds (k : Int).toNat (.ref D)))).PlainList S.lb (ib.setIfInBounds k (.ref D)) := ⟨_, Heap.get?_update_self _ eb rfl⟩
      generalize h₃.update S.lb (Obj.mapSeq (·.setIfInBounds (k : Int).toNat (.ref D))) = h₄ at k34 pB₄
      have hs1 : s₁.heap.objs.size ≤ D := Nat.le_trans (by simp) hD
      have lbO : ∀ n ∈ mas, ¬ Own n S.lb := fun n hn q => x.pool.lists n hn _ S.mem.2.1 q
      have k14 : Kept (· = S.lb) s₁.heap h₄ := fun a o ha e => k34 a o ha (S13 a o e)
      have kW : Kept (fun a => Foot m.c.root m.M a ∨ a = S.lb) s.heap h₄ := fun a o ha e => k14 a o (fun q => ha (.inr q)) (kp₁ a o (fun q => ha (.inl q)) e)
      have lbt : ∀ its, ¬ IsTup s₁.heap S.lb its := fun its => plain_not_tup pB₁ its
      have lby : L + 2 < S.lb := so.young _ S.mem.2.1
      have hDlb : D ≠ S.lb := fun q => by
        obtain ⟨n, e⟩ := pB₁
        have := Heap.lt_size e
        rw [← q] at this
        exact Nat.lt_irrefl _ (Nat.lt_of_lt_of_le this hs1)
      have F₄ : Fq w G L h₄ mm := (F₁.keeps S13).kept k34 (fun q => Nat.lt_irrefl _ (Nat.lt_trans (Nat.lt_succ_of_lt (Nat.lt_succ_self L)) (q ▸ lby))) (fun a ha => by subst ha; exact get_none hG (Nat.le_of_lt (Nat.lt_trans (Nat.lt_succ_of_lt (Nat.lt_succ_self L)) lby)))
      refine wpAny_execs_nil (wpAny_execs_nil (wpAny_execs_nil (wpAny_execs_nil ?_)))
      have aliveD : ∀ a, (∃ o, s₁.heap.get? a = some o) → a ≠ D := fun a ⟨o, e⟩ q => Nat.lt_irrefl _ (Nat.lt_of_lt_of_le (q ▸ Heap.lt_size e) hs1)
      refine good { s₁ with heap := h₄, toks := tk₃ } (mas.set k { m with M := M₁, b := D, ms := leave p m.ms }) ?_ F₄ ?_ ?_ (by rw [List.length_set]) hX₁
      · refine (x.more (Nat.le_succ N)).rebook so hk rfl rfl kW (fun a ha => ?_) ⟨_, pB₄, ?_⟩ (fun a ha => ?_) ⟨X₁.kept2 k14 fun a ha => ?_, ?_, W₁.kept k14 (fun q => ?_) (fun a its ht q => lbt its (q ▸ ht)), ?_, one.sound.unset hp V₁⟩ ?_
        · rcases ha with ha | ha
          · exact .inl (.inl (.inl ha))
          · exact .inr ha
        · rw [Array.toList_setIfInBounds]
          exact aB.setv rfl
        · rcases ha with (ha | ha) | ha | ha | ha | ha
          · rcases gr₁ a ha with z | z
            · exact .inl (.inl (.inl z))
            · refine .inr ⟨fun j n hj _ q => absurd ((x.pool.each n (List.mem_of_getElem? hj)).lt q) (Nat.not_lt.mpr z), ?_, fun q => absurd (x.lt a q) (Nat.not_lt.mpr z)⟩
              obtain ⟨o2, e2⟩ := x.room
              exact Nat.le_trans (Heap.lt_size e2) z
          · exact .inl (.inl (.inr ha))
          · exact .inl (.inr (.inl ha))
          · exact .inl (.inr (.inr (.inl ha)))
          · have ha' : a = D := ha
            subst ha'
            refine .inr ⟨fun j n hj hjk q => ?_, ?_, fun q => ?_⟩
            · obtain ⟨o, e⟩ := (x.pool.each n (List.mem_of_getElem? hj)).alive q
              refine aliveD _ ⟨o, kp₁ _ o (fun z => ?_) e⟩ rfl
              have ap := List.pairwise_iff_getElem.mp x.pool.apart
              obtain ⟨hj1, hj2⟩ := List.getElem?_eq_some_iff.mp hj
              obtain ⟨hk1, hk2⟩ := List.getElem?_eq_some_iff.mp hk
              rcases Nat.lt_or_gt_of_ne hjk with r | r
              · exact ap j k hj1 hk1 r _ (hj2 ▸ q) (hk2 ▸ .inl (.inl z))
              · exact ap k j hk1 hj1 r _ (hk2 ▸ .inl (.inl z)) (hj2 ▸ q)
            · obtain ⟨o, e, _⟩ := hc₁
              exact Nat.le_trans (Heap.lt_size e) hs1
            · obtain ⟨o, e⟩ := x.alive _ q
              exact aliveD _ ⟨_, kp₁ _ _ (fun z => x.pool.lists m hm _ q (.inl (.inl z))) e⟩ rfl
          · exact .inl (.inr (.inr (.inr (.inr ha))))
        · subst ha; exact X₁.off_plain pB₁
        · exact ⟨ys, pD.at fun o e => k34 _ o hDlb e, aD.imp fun v z hz => hz.tups2 fun c its ht o e => k34 c o (fun q => plain_not_tup pB₃ its (q ▸ ht)) e⟩
        · exact x.pool.lists m hm _ S.mem.2.1 (.inr (.inr (.inr (.inr q.symm))))
        · obtain ⟨its, ⟨n, e⟩, _⟩ := W₁
          exact fun q => aliveD _ ⟨_, e⟩ q.symm
        · have : (leave p m.ms).length ≤ m.ms.length := List.length_filter_le _ _
          simp only
          constructor <;> omega
      · exact isCell_keeps hc₁ fun o e => k14 _ o (fun q => Nat.lt_irrefl _ (q ▸ lby)) e
      · exact hw₁.tups2 fun c its ht o e => k14 c o (fun q => lbt its (q ▸ ht)) e
    · subst hp
      exact caught_piece F hG hA (by omega) fl₁ us₁ hc hw fun s'' F'' kL hX' => wpAny_execs_nil (caught s₁ e rfl fl₁ us₁ hX₁ s'' F'' kL hX')
  · -- set
    refine wpAny_execs_cons (wpAny_If (wpAny_isTrue_Compare1 (q_ld F e7 (wpAny_Constant_int (eq_int (wpAny_truthy_bool ?_))))))
    rw [if_neg (by simpa using hk4')]
    refine wpAny_abs ?_; intro Q₀ E₀
    refine wpAny_execs_cons (wpAny_Expr (methodCall_KW (q_item F n3 e8 pM.isList (by omega) hv1 ?_)))
    refine q_method F one.mach.inst (pg_set w) (fi_set w) (fn_set w) (fun _ _ _ _ => rfl) (callWith_KW K (kp_set w) (by rfl) ?_)
    refine args_cons (q_ownWay hc (args_cons (q_ld F e6 (args_nil (kws_cons (wpAny_Compare1 (q_ld F e7 (wpAny_Constant_int (eq_int (kws_nil ⟨K, ?_⟩))))))))))
    refine wpAny_callK (set_spec (outer := [lawEnv L f cd]) F.g F.keep (by omega) hh hFs one.mach.inst one.mach.tree hw hfl hfs (fun a ha => (young a (.inl (.inl ha))).2.2) (fun hp s₁ M₁ T₁ V₁ gr₁ kp₁ hX₁ => ?_) (fun hp s₁ e fl₁ us₁ hX₁ => ?_))
    · obtain ⟨X₁, B₁, W₁, F₁, hc₁, hw₁, pB₁⟩ := mid s₁ M₁ T₁ gr₁ kp₁
      refine wpAny_execs_nil ?_
      have kt : s₁.heap.StaysIn (s₁.heap.push { cls := .type "tuple", data := .seq #[] }) := fun b o e => Heap.get?_push_of_some _ e
      refine wpAny_execs_cons (wpAny_If (wpAny_isTrue_Compare1 (q_ownWay hc₁ (wpAny_Tuple (args_nil ⟨by rw [sizeLine_is]; decide, ?_⟩)))))
      refine eq_ways (hw₁.keeps kt) (WayAt.nil (IsTup.new _ _)) (by show A.units + 64 < cLine; exact u_less (a := A.units) (m := 64) hu (by decide)) (wpAny_truthy_bool ?_)
      rw [if_neg (by simpa using hp)]
      refine wpAny_execs_nil ?_
      dsimp only
      have F₂ := F₁.keeps kt
      refine wpAny_execs_cons (wpAny_If (wpAny_isTrue_Compare1 (q_ld F₂ e7 (wpAny_Constant_int (eq_int (wpAny_truthy_bool ?_))))))
      rw [if_neg (by simpa using hk4')]
      refine wpAny_abs ?_; intro Q₀ E₀
      have pB₂ := pB₁.at fun o e => kt _ o e
      obtain ⟨bits, pb, ab⟩ := id B₁
      have hbz : bits.size = m.ms.length := by rw [← ab.length, Array.length_toList]
      have pb₂ := pb.at fun o e => kt _ o e
      refine wpAny_execs_cons (wpAny_Expr (MethodCall_ (q_item F₂ n4 e8 pB₂.isList (by omega) hv2 (getMethod_list_append pb₂.choose_spec rfl rfl (callWith_method1 ?_)))))
      refine args_cons (wpAny_Tuple (args_cons (q_ownWay (isCell_keeps hc₁ fun o e => kt _ o e) (args_cons (q_ld F₂ e6 (args_cons (wpAny_Compare1 (q_ld F₂ e7 (wpAny_Constant_int (eq_int ?_))))))))))
      refine args_cons (wpAny_Constant_int (args_nil ⟨by rw [sizeLine_is]; show 4 ≤ _; decide, ?_⟩))
      have kt2 : ∀ (o : Obj), (s₁.heap.push { cls := .type "tuple", data := .seq #[] }).StaysIn ((s₁.heap.push { cls := .type "tuple", data := .seq #[] }).push o) := fun o b ob e => Heap.get?_push_of_some _ e
      refine args_nil (wpAny_list_append_plain (pb₂.at fun o e => kt2 _ _ o e) (fun h₃ pb₃ sb => ?_) (by rw [sizeLine_is]; omega))
      have k23 : Kept (· = m.b) (s₁.heap.push { cls := .type "tuple", data := .seq #[] }) h₃ := fun c o hc e => sb.extBut c o hc (kt2 _ c o e)
      have k13 : Kept (· = m.b) s₁.heap h₃ := fun c o hc e => k23 c o hc (kt c o e)
      have yb := young _ (.inr (.inr (.inr (.inl rfl))))
      have F₃ := F₁.kept k13 (Ne.symm yb.2.1) (fun a ha => by subst ha; exact yb.2.2)
      have bt : ∀ a its, IsTup s₁.heap a its → a ≠ m.b := fun a its ht q => plain_not_tup pb its (q ▸ ht)
      have kW : Kept (fun a => Foot m.c.root m.M a ∨ a = m.b) s.heap h₃ := fun a o ha e => k13 a o (fun q => ha (.inr q)) (kp₁ a o (fun q => ha (.inl q)) e)
      refine wpAny_execs_nil (wpAny_execs_nil (wpAny_execs_nil (wpAny_execs_nil ?_)))
      refine good { s₁ with heap := h₃, toks := _ } (mas.set k { m with M := M₁, ms := m.ms ++ [⟨p, fl, kd == 1, 2⟩] }) ?_ F₃ ?_ ?_ (by rw [List.length_set]) hX₁
      · refine (x.more (Nat.le_succ N)).turn hk rfl rfl rfl kW (fun a ha => ?_) (fun a ha => ?_) ⟨X₁.kept2 k13 fun a ha => ?_, ⟨_, pb₃, ?_⟩, W₁.kept k13 one.bw.symm bt, one.bw, one.sound.set hp V₁⟩ ?_
        · rcases ha with ha | ha
          · exact .inl (.inl (.inl ha))
          · exact .inl (.inr (.inr (.inr (.inl ha))))
        · rcases ha with (ha | ha) | ha
          · rcases gr₁ a ha with z | z
            · exact .inl (.inl (.inl z))
            · exact .inr z
          · exact .inl (.inl (.inr ha))
          · exact .inl (.inr ha)
        · subst ha; exact X₁.off_plain pb
        · rw [Array.toList_push]
          refine (ab.imp fun v z hz => hz.tups2 fun c its ht o e => k13 c o (bt c its ht) e).push ?_
          refine ⟨_, wv, t, _, rfl, ⟨_, sb.extBut _ _ (fun q => ?_) (Heap.get?_push_size _ rfl), rfl, 0, rfl⟩, hw₁.tups2 fun c its ht o e => k13 c o (bt c its ht) e⟩
          obtain ⟨n, e⟩ := pb₂
          have := Heap.lt_size e
          rw [← q] at this
          exact Nat.lt_irrefl _ this
        · simp only [List.length_append, List.length_singleton]
          constructor <;> omega
      · exact isCell_keeps hc₁ fun o e => k13 _ o (fun q => Nat.lt_irrefl _ (q ▸ yb.1)) e
      · exact hw₁.tups2 fun c its ht o e => k13 c o (bt c its ht) e
    · subst hp
      exact caught_piece F hG hA (by omega) fl₁ us₁ hc hw fun s'' F'' kL hX' => wpAny_execs_nil (caught s₁ e rfl fl₁ us₁ hX₁ s'' F'' kL hX')
end
end Mine
-- OA
namespace Mine

section
variable {prog : Program} {w : World} {A : Around} {E : Value → Shared → Prop} {s : Shared} {G : Heap} {fs nums : List Int} {L f : Addr} {cd : Value} {S : Six} {N : Nat} {m : Ma} {mas : List Ma} {mm : PySem.Str → Option Value} {Q : Flow → Shared → Prop}
set_option maxRecDepth 100000 in
set_option maxHeartbeats 4000000 in
theorem kind_piece {st : Stmt} (hst : (turnBody w.params)[6]? = some st) {k : Nat} {fl kd : Int} {t t2 t3 : Tok} {wv : Value} {p : Way} (x : LH prog w fs nums L S N s.heap mas) (so : S.Ok L) (F : Fq w G L s.heap mm) (hG : G.objs.size ≤ L) (nm : Nm S mm)
    (e6 : mm "flag" = some (.int fl t)) (hfl : fl ∈ fs) (e7 : mm "kind" = some (.int kd t2)) (e8 : mm "k" = some (.int k t3)) (hk : mas[k]? = some m) (hc : s.heap.IsCell (L + 2) (some wv)) (hw : WayAt s.heap wv p) (hN : N ≤ 75) (hfs : fs.length ≤ 3)
    (hA : A.frames = some [lawEnv L f cd]) (hh : A.handled = none) (hroom : A.depth + 5 < recursionLimit) (hu : A.units + 120 < cLine)
    (good : ∀ s' mas', LH prog w fs nums L S (N + 1) s'.heap mas' → Fq w G L s'.heap mm → s'.heap.IsCell (L + 2) (some wv) → WayAt s'.heap wv p → mas'.length = mas.length → SameX s s' → Q .next s') :
    wpAny (model prog w) A (exec st (lawEnv L f cd)) Q E s := by
  with_unfolding_all change some (Stmt.If (.Compare (.Name "kind" _) [.Eq] [.Constant (.int 2) _ _] _) _ [Stmt.If (.Compare (.Name "kind" _) [.Eq] [.Constant (.int 3) _ _] _) _ _ _] _) = some st at hst
  obtain rfl := Option.some.inj hst
  clear hst
  refine wpAny_If (wpAny_isTrue_Compare1 (q_ld F e7 (wpAny_Constant_int (eq_int (wpAny_truthy_bool ?_)))))
  by_cases h2 : kd = 2
  · rw [if_pos (by simpa using h2)]
    exact add_piece (by with_unfolding_all rfl) (s := { s with toks := s.toks + 1 }) x so F hG nm e6 hfl e8 hk hc hw hN hroom hu good
  · rw [if_neg (by simpa using h2)]
    refine wpAny_execs_cons (wpAny_If (wpAny_isTrue_Compare1 (q_ld F e7 (wpAny_Constant_int (eq_int (wpAny_truthy_bool ?_))))))
    by_cases h3 : kd = 3
    · rw [if_pos (by simpa using h3)]
      exact settle_piece (by with_unfolding_all rfl) x so F hG nm e8 hk hc hw hN hfs hA hh hroom hu fun s' mas' a1 a2 a3 a4 a5 a6 => wpAny_execs_nil (good s' mas' a1 a2 a3 a4 a5 a6)
    · rw [if_neg (by simpa using h3)]
      exact try_piece (by with_unfolding_all rfl) x so F hG nm e6 hfl e7 e8 hk hc hw hN hfs hA hh hroom hu fun s' mas' a1 a2 a3 a4 a5 a6 => wpAny_execs_nil (good s' mas' a1 a2 a3 a4 a5 a6)

/-- `if not _law_as_due(machines, books, _law_about(way), flags): return False` -/
theorem due_piece {st : Stmt} (hst : (turnBody w.params)[7]? = some st) {wv : Value} {p : Way} (x : LH prog w fs nums L S N s.heap mas) (F : Fq w G L s.heap mm) (nm : Nm S mm) (hc : s.heap.IsCell (L + 2) (some wv)) (hw : WayAt s.heap wv p) (hp : p.length ≤ 30)
    (hh : A.handled = none) (hroom : A.depth + 5 < recursionLimit) (hu : A.units + 120 < cLine)
    (good : ∀ s', s.heap.StaysIn s'.heap → SameX s s' → Q .next s') :
    wpAny (model prog w) A (exec st (lawEnv L f cd)) Q E s := by
  with_unfolding_all change some (Stmt.If _ _ _ _) = some st at hst
  obtain rfl := Option.some.inj hst
  clear hst
  obtain ⟨n1, n2, n3, n4, n5⟩ := nm
  have K := F.g.K.keeps F.keep
  refine wpAny_If (isTrue_not (isTrue_plain (Call_ (q_glob F (v := .ref 91) (by kernel_rfl) (callWith_K K (by kernel_rfl) ?_)))))
  refine args_cons (q_ld F n3 (args_cons (q_ld F n4 (args_cons (Call_ (q_glob F (v := .ref 96) (by kernel_rfl) (callWith_K K (by kernel_rfl) ?_)))))))
  refine args_cons (q_ownWay hc (args_nil ⟨K, ?_⟩))
  refine wpAny_callK (about_spec F.g F.keep (by omega) hh hw hp fun s₁ a items ps pl al hl _ S₁ hX₁ => ?_)
  have F₁ := F.keeps S₁
  refine args_cons (q_ld F₁ n2 (args_nil ⟨F₁.g.K.keeps F₁.keep, ?_⟩))
  have x₁ := x.keeps S₁
  obtain ⟨im, pM, aM⟩ := x₁.pM
  obtain ⟨ib, pB, aB⟩ := x₁.pB
  obtain ⟨ifl, pF, aF⟩ := x₁.pF
  refine wpAny_callK (asdue_spec F₁.g F₁.keep (by omega) (by omega) hh pM aM pB aB pl al pF aF (by have := x.few; omega) (fun m hm => ⟨(x₁.pool.each m hm).mach, (x₁.pool.each m hm).book⟩) (fun m hm p i _ => (x₁.pool.each m hm).sound.agree p i) fun s₂ S₂ hX₂ => wpAny_truthy_bool ?_)
  rw [if_neg (by decide)]
  exact wpAny_execs_nil (good s₂ (fun b o e => S₂ b o (S₁ b o e)) (hX₁.trans hX₂))
end
end Mine
-- OB
namespace Mine

section
variable {prog : Program} {w : World} {A : Around} {E : Value → Shared → Prop} {s : Shared} {G : Heap} {fs nums : List Int} {L f : Addr} {cd : Value} {S : Six} {N : Nat} {m : Ma} {mas : List Ma} {mm : PySem.Str → Option Value} {Q : Flow → Shared → Prop}
theorem notIn_ways {a : Addr} {items : Array Value} {ps : List Way} {v : Value} {p : Way} {Q : Value → Shared → Prop} (l : s.heap.PlainList a items) (x : AllAt (WayAt s.heap) items.toList ps) (y : WayAt s.heap v p) (hu : A.units + 64 < cLine)
    (h : Q (.bool (!(ps.map wd).any fun y => PyData.eqv y (wd p))) s) : wpAny (model prog w) A (compareOp .NotIn v (.ref a)) Q E s := by
  refine SeqAt.notIn_list_reads (reads_lwd l x) y.reads (lays_lwd (ways_names x)) (lay_wd y.names) ?_ h
  have h1 := depth_lwd ps
  have h2 := depth_wd p
  have h3 := Nat.min_le_right (PyData.depthAll (ps.map wd)) (wd p).depth
  omega

set_option maxHeartbeats 4000000 in
/-- `[one for one in _law_about(way) if one not in ways]` -/
theorem about_comp {p1 p2 p3 p4 p5 p6 p7 p8 p9 : Pos} {wv : Value} {p : Way} {Q : Value → Shared → Prop} (x : LH prog w fs nums L S N s.heap mas) (F : Fq w G L s.heap mm) (hc : s.heap.IsCell (L + 2) (some wv)) (hw : WayAt s.heap wv p) (hp : p.length ≤ 30)
    (hh : A.handled = none) (hroom : A.depth + 5 < recursionLimit) (hu : A.units + 120 < cLine)
    (good : ∀ D s' ys qs, s'.heap.PlainList D ys → AllAt (WayAt s'.heap) ys.toList qs → qs.length ≤ 100 → s.heap.StaysIn s'.heap → SameX s s' → Q (.ref D) s') :
    wpAny (model prog w) A (eval (.ListComp (.Name "one" p1) [⟨.Name "one" p2, .Call (.Name "_law_about" p3) [.Name "way" p4] [] p5, [.Compare (.Name "one" p6) [.NotIn] [.Name "ways" p7] p8], 0⟩]
      ⟨.function, [(".0", .local), ("one", .local), ("ways", .free)], false, false, []⟩ p9) (lawEnv L f cd)) Q E s := by
  have K := F.g.K.keeps F.keep
  refine q_comp WayAt wayPr (by rfl) (by decide) rfl (by decide) ?_
  refine Call_ (q_glob F (v := .ref 96) (by kernel_rfl) (callWith_K K (by kernel_rfl) ?_))
  refine args_cons (q_ownWay hc (args_nil ⟨K, ?_⟩))
  refine wpAny_callK (about_spec F.g F.keep (by omega) hh hw hp fun s₁ b ys ps hL hA hps _ S₁ hX₁ => wpAny_pyIter_list hL.isList ?_)
  have hys : ys.size = ps.length := by rw [← hA.length, Array.length_toList]
  have k₁ : s₁.heap.StaysIn (s₁.heap.push { cls := .type "list_iterator", data := .fields #[.ref b, .int 0 0] }) := fun b o e => Heap.get?_push_of_some _ e
  have hDlt : b < s₁.heap.objs.size := by obtain ⟨n, e⟩ := hL; exact Heap.lt_size e
  have no : hadr A = [] := by simp [hadr, hh]
  have x₁ := x.keeps S₁
  obtain ⟨iy, qs, pY, aY, hqs⟩ := x₁.pY
  generalize hout : (fun p : Way => if (!(qs.map wd).any fun y => PyData.eqv y (wd p)) = true then some p else none) = out
  refine ⟨s₁.heap.objs.size, _, ys.size, _, _, (fun i => (ps[i]?).bind out), rfl, walksList (A := A) s₁.heap.objs.size b (Nat.ne_of_lt hDlt) (fun q => by rw [no] at q; cases q) ys, by omega, ⟨⟨_, Heap.get?_push_size _ rfl, rfl, rfl⟩, (hL.at fun o e => k₁ _ o e).isList, .inl hh⟩, ?_, ?_, ?_, ?_, ?_⟩
  · intro c hb
    rw [no] at hb
    simp at hb
    rcases hb with rfl | rfl
    · simp
    · exact Nat.lt_trans hDlt (by simp)
  · rintro i h' ⟨⟨o, e, hc, hd⟩, _⟩
    refine ⟨⟨o, e⟩, fun items ht => ?_⟩
    obtain ⟨o', ho', hc', _⟩ := ht
    rw [e] at ho'; cases ho'
    rw [hc] at hc'
    exact absurd hc' (by decide)
  · intro i s v Q E hst h
    exact wpAny_pure h
  · intro i vv C s₃ m₃ E' hi hv hC hN hK _
    have S₃ : s₁.heap.StaysIn s₃.heap := fun b o e => hK b o (fun q => absurd (Heap.lt_size e) (Nat.not_lt.mpr (Nat.le_of_eq q.symm))) (k₁ b o e)
    have hpp : ∃ q, ps[i]? = some q ∧ WayAt s₁.heap vv q := hA.get (by simpa using hv)
    obtain ⟨q, hqi, hvv⟩ := hpp
    have hC' : s₁.heap.objs.size < C := Nat.lt_of_lt_of_le (by simp) hC
    refine wpAny_assign_Name (wpAny_storeName_local (by rfl) hN (fun h₄ hn₄ sb₄ => ?_) (by rfl))
    have S₄ : s₁.heap.StaysIn h₄ := fun b o e => sb₄.extBut b o (Nat.ne_of_lt (Nat.lt_trans (Heap.lt_size e) hC')) (S₃ b o e)
    have hvv₄ := hvv.keeps S₄
    have x₄ := x₁.keeps S₄
    refine tests_one (wpAny_isTrue_Compare1 (wpAny_Name (wpAny_loadName_local rfl rfl hn₄ rfl ?_) (by decide)))
    refine wpAny_Name (wpAny_loadName_cell (v := .ref S.ly) rfl rfl rfl x₄.cY ?_) (by decide)
    refine notIn_ways (pY.at fun o e => S₄ _ o e) (aY.imp fun v z hz => hz.keeps S₄) hvv₄ (by omega) (wpAny_truthy_bool ?_)
    by_cases hb : (!(qs.map wd).any fun y => PyData.eqv y (wd q)) = true
    · rw [if_pos hb]
      refine wpAny_Name (wpAny_loadName_local rfl rfl hn₄ rfl ?_) (by decide)
      refine ⟨h₄, _, _, rfl, hn₄, fun b o hb e => sb₄.extBut b o hb e, q, ?_, hvv₄⟩
      show (ps[i]?).bind out = _
      rw [hqi, ← hout]
      exact if_pos hb
    · rw [if_neg hb]
      refine ⟨h₄, _, _, rfl, hn₄, fun b o hb e => sb₄.extBut b o hb e, ?_⟩
      show (ps[i]?).bind out = _
      rw [hqi, ← hout]
      exact if_neg hb
  · intro D' h' tk ys' hD' hL' hA' hK'
    rw [range_take, hys, List.take_length] at hA'
    have hle := List.length_filterMap_le out ps
    exact good D' { s₁ with heap := h', toks := tk } ys' _ hL' hA' (by omega) (fun b o e => hK' b o (fun q => absurd (Heap.lt_size (S₁ b o e)) (Nat.not_lt.mpr (Nat.le_of_eq q.symm))) (k₁ b o (S₁ b o e))) hX₁
end
end Mine
-- OC
namespace Mine

noncomputable def Six.grow (S : Six) : Six := { S with yy := S.yy + 1 }
theorem Six.Ok.grow {S : Six} {L : Addr} (so : S.Ok L) : S.grow.Ok L := ⟨so.nodup, so.young⟩
theorem Six.Ok.ne_ly {S : Six} {L : Addr} (so : S.Ok L) : S.lm ≠ S.ly ∧ S.lb ≠ S.ly ∧ S.lw ≠ S.ly ∧ S.lf ≠ S.ly ∧ S.ln ≠ S.ly := by
  have h := so.nodup
  simp only [Six.all, List.nodup_cons, List.mem_cons, List.not_mem_nil, or_false, not_or] at h
  exact ⟨h.1.2.2.2.2.1, h.2.1.2.2.2.1, h.2.2.1.2.2.1, h.2.2.2.1.2.1, h.2.2.2.2.1.1⟩

section
variable {prog : Program} {w : World} {A : Around} {E : Value → Shared → Prop} {s : Shared} {G : Heap} {fs nums : List Int} {L f : Addr} {cd : Value} {S : Six} {N : Nat} {m : Ma} {mas : List Ma} {mm : PySem.Str → Option Value} {Q : Flow → Shared → Prop}
/-- `ways` gets more -/
theorem LH.extend {h h' : Heap} {i : Array Value} {ps : List Way} (x : LH prog w fs nums L S N h mas) (so : S.Ok L) (kp : Kept (· = S.ly) h h') (pY : h'.PlainList S.ly i) (aY : AllAt (WayAt h') i.toList ps) (hl : ps.length ≤ 100 * (S.yy + 1)) : LH prog w fs nums L S.grow N h' mas := by
  obtain ⟨d1, d2, d3, d4, d5⟩ := so.ne_ly
  have tup : ∀ a items, IsTup h a items → a ≠ S.ly := fun a items ht q => by obtain ⟨i, _, p, _⟩ := x.pY; exact plain_not_tup p items (q ▸ ht)
  have y6 := so.young _ S.mem.2.2.2.2.2
  obtain ⟨o2, e2⟩ := x.room
  refine ⟨?_, ?_, ?_, ?_, ?_, ⟨i, ps, pY, aY, hl⟩, ?_, ?_, x.few, x.small, ⟨o2, kp _ o2 (fun q => Nat.lt_irrefl _ (q ▸ y6)) e2⟩, kp _ _ so.it_ne.2.2.2 x.pI⟩
  · obtain ⟨i, p, a⟩ := x.pM
    exact ⟨i, p.at fun o e => kp _ o d1 e, a⟩
  · obtain ⟨i, p, a⟩ := x.pB
    exact ⟨i, p.at fun o e => kp _ o d2 e, a⟩
  · obtain ⟨i, p, a⟩ := x.pW
    exact ⟨i, p.at fun o e => kp _ o d3 e, a⟩
  · obtain ⟨i, p, a⟩ := x.pF
    exact ⟨i, p.at fun o e => kp _ o d4 e, a⟩
  · obtain ⟨i, p, a⟩ := x.pN
    exact ⟨i, p.at fun o e => kp _ o d5 e, a⟩
  · exact isCell_keeps x.cY fun o e => kp _ o (fun q => by rw [← q] at y6; exact Nat.lt_irrefl _ (Nat.lt_of_succ_lt y6)) e
  · refine x.pool.kept kp fun a ha => ?_
    subst ha
    exact ⟨fun n hn q => x.pool.lists n hn _ S.mem.2.2.2.2.2 q, fun items ht => tup _ items ht rfl⟩

set_option maxRecDepth 100000 in
set_option maxHeartbeats 2000000 in
theorem extend_piece {st : Stmt} (hst : (turnBody w.params)[8]? = some st) {wv : Value} {p : Way} (x : LH prog w fs nums L S N s.heap mas) (so : S.Ok L) (F : Fq w G L s.heap mm) (hG : G.objs.size ≤ L) (hc : s.heap.IsCell (L + 2) (some wv)) (hw : WayAt s.heap wv p) (hp : p.length ≤ 30)
    (hh : A.handled = none) (hroom : A.depth + 5 < recursionLimit) (hu : A.units + 120 < cLine) (hY : S.yy ≤ 70)
    (good : ∀ s', LH prog w fs nums L S.grow N s'.heap mas → Fq w G L s'.heap mm → (∃ o, s'.heap.IsCell (L + 2) o) → SameX s s' → Q .next s') :
    wpAny (model prog w) A (exec st (lawEnv L f cd)) Q E s := by
  with_unfolding_all change some (Stmt.Expr _ _) = some st at hst
  obtain rfl := Option.some.inj hst
  clear hst
  obtain ⟨iy, qs, pY, aY, hqs⟩ := x.pY
  obtain ⟨ny, ey⟩ := id pY
  refine wpAny_Expr (MethodCall_ (wpAny_Name (wpAny_loadName_cell (c := L + 1) (v := .ref S.ly) rfl rfl rfl x.cY ?_) (by decide)))
  refine getMethod_builtin ⟨_, ey, rfl⟩ PySem.F.plainAttrs_list PySem.F.slot_list_extend PySem.F.type_list_extend (fun b e => by injection e with e; subst e; exact ⟨_, ey, rfl⟩) ?_
  refine PySem.P.extend_list (about_comp x F hc hw hp hh hroom hu fun D s₁ ys ps pD aD hps S₁ hX₁ => ?_)
  obtain ⟨nd, ed⟩ := id pD
  have hz1 : iy.size = qs.length := by rw [← aY.length, Array.length_toList]
  have hz2 : ys.size = ps.length := by rw [← aD.length, Array.length_toList]
  have ey₁ := S₁ _ _ ey
  refine ⟨D, iy, ys, ny, nd, by rw [sizeLine_is]; omega, by rw [sizeLine_is]; omega, ?_, rfl, ey₁, ed, ?_⟩
  · have hz : ¬ (iy.size + ys.size > sizeLine) := by rw [sizeLine_is]; omega
    simp only [Builtin.List.listTooLong, Bool.and_eq_true, decide_eq_true_eq, not_and]
    exact fun _ => hz
  · have k12 : Kept (· = S.ly) s₁.heap (s₁.heap.update S.ly (Obj.mapSeq fun xs => xs ++ ys)) := fun a o ha e => by rw [Heap.get?_update_other _ _ (Ne.symm ha)]; exact e
    have pY₂ : (s₁.heap.update S.ly (Obj.mapSeq fun xs => xs ++ ys)).PlainList S.ly (iy ++ ys) := ⟨_, Heap.get?_update_self _ ey₁ rfl⟩
    generalize s₁.heap.update S.ly (Obj.mapSeq fun xs => xs ++ ys) = h₂ at k12 pY₂
    have y6 := so.young _ S.mem.2.2.2.2.2
    have tup : ∀ a items, IsTup s₁.heap a items → a ≠ S.ly := fun a items ht q => plain_not_tup (pY.at fun o e => S₁ _ o e) items (q ▸ ht)
    have yL : L < S.ly := Nat.lt_trans (Nat.lt_succ_of_lt (Nat.lt_succ_self L)) y6
    refine good { s₁ with heap := h₂ } ((x.keeps S₁).extend so k12 pY₂ (ps := qs ++ ps) ?_ (by rw [List.length_append]; omega)) ((F.keeps S₁).kept k12 (Nat.ne_of_lt yL) (fun a ha => by subst ha; exact get_none hG (Nat.le_of_lt yL))) ⟨_, isCell_keeps hc fun o e => k12 _ o (fun q => Nat.lt_irrefl _ (q ▸ y6)) (S₁ _ o e)⟩ hX₁
    rw [Array.toList_append]
    exact (aY.imp fun v z hz => (hz.keeps S₁).tups2 fun c its ht o e => k12 c o (tup c its ht) e).append (aD.imp fun v z hz => hz.tups2 fun c its ht o e => k12 c o (tup c its ht) e)
end
end Mine
-- OD
namespace Mine

theorem Six.Ok.apart {S : Six} {L : Addr} (so : S.Ok L) : (S.lm ≠ S.lb ∧ S.lm ≠ S.lw ∧ S.lb ≠ S.lw) ∧ (S.lf ≠ S.lm ∧ S.lf ≠ S.lb ∧ S.lf ≠ S.lw) ∧ (S.ln ≠ S.lm ∧ S.ln ≠ S.lb ∧ S.ln ≠ S.lw) ∧ (S.ly ≠ S.lm ∧ S.ly ≠ S.lb ∧ S.ly ≠ S.lw) := by
  have h := so.nodup
  simp only [Six.all, List.nodup_cons, List.mem_cons, List.not_mem_nil, or_false, not_or] at h
  obtain ⟨⟨a1, a2, a3, a4, a5, _⟩, ⟨b1, b2, b3, b4, _⟩, ⟨c1, c2, c3, _⟩, _⟩ := h
  exact ⟨⟨a1, a2, b1⟩, ⟨Ne.symm a3, Ne.symm b2, Ne.symm c1⟩, ⟨Ne.symm a4, Ne.symm b3, Ne.symm c2⟩, ⟨Ne.symm a5, Ne.symm b4, Ne.symm c3⟩⟩

section
variable {prog : Program} {w : World} {A : Around} {E : Value → Shared → Prop} {s : Shared} {G : Heap} {fs nums : List Int} {L f : Addr} {cd : Value} {S : Six} {N : Nat} {m : Ma} {mas : List Ma} {mm : PySem.Str → Option Value} {Q : Flow → Shared → Prop}
theorem foot_leer {c : Mc} {h : Heap} {l : List (Way × Int)} (X : Mach prog w fs h c leer l) {a : Addr} (ha : Foot c.root leer a) : a = c.root :=
  (Tree.new (fs := fs) (X.tree.kid [] c.root rfl)).2 a ha

theorem LH.snoc {h h' : Heap} (x : LH prog w fs nums L S N h mas) (so : S.Ok L) (kp : Kept (fun a => a = S.lm ∨ a = S.lb ∨ a = S.lw) h h')
    (pM : ∃ i, h'.PlainList S.lm i ∧ AllAt (fun v m => v = .ref m.c.x) i.toList (mas ++ [m])) (pB : ∃ i, h'.PlainList S.lb i ∧ AllAt (fun v m => v = .ref m.b) i.toList (mas ++ [m])) (pW : ∃ i, h'.PlainList S.lw i ∧ AllAt (fun v m => v = .ref m.wt) i.toList (mas ++ [m]))
    (one : One prog w fs h' m) (hy : ∀ a, Own m a → h.objs.size ≤ a) (few : mas.length + 1 ≤ 4) (hs : m.l = [] ∧ m.ms = []) : LH prog w fs nums L S N h' (mas ++ [m]) := by
  obtain ⟨_, ⟨f1, f2, f3⟩, ⟨g1, g2, g3⟩, ⟨y1, y2, y3⟩⟩ := so.apart
  obtain ⟨m1, m2, m3, m4, m5, m6⟩ := S.mem
  have tup : ∀ a items, IsTup h a items → ¬ (a = S.lm ∨ a = S.lb ∨ a = S.lw) := fun a items ht q => by
    rcases q with q | q | q
    · obtain ⟨i, p, _⟩ := x.pM; exact plain_not_tup p items (q ▸ ht)
    · obtain ⟨i, p, _⟩ := x.pB; exact plain_not_tup p items (q ▸ ht)
    · obtain ⟨i, p, _⟩ := x.pW; exact plain_not_tup p items (q ▸ ht)
  have low : ∀ a, a ≤ L + 2 → ¬ (a = S.lm ∨ a = S.lb ∨ a = S.lw) := fun a ha q => by
    rcases q with q | q | q
    · exact absurd (so.young _ m1) (Nat.not_lt.mpr (q ▸ ha))
    · exact absurd (so.young _ m2) (Nat.not_lt.mpr (q ▸ ha))
    · exact absurd (so.young _ m3) (Nat.not_lt.mpr (q ▸ ha))
  obtain ⟨o2, e2⟩ := x.room
  have pool' : Pool prog w fs (L + 3) S.all h' mas := x.pool.kept kp fun a ha => ⟨fun n hn q => by
    rcases ha with r | r | r
    · exact x.pool.lists n hn _ m1 (r ▸ q)
    · exact x.pool.lists n hn _ m2 (r ▸ q)
    · exact x.pool.lists n hn _ m3 (r ▸ q), fun items ht => tup a items ht ha⟩
  refine ⟨pM, pB, pW, ?_, ?_, ?_, isCell_keeps x.cY fun o e => kp _ o (low _ (Nat.le_succ _)) e, ?_, ?_, ?_, ⟨o2, kp _ o2 (low _ (Nat.le_refl _)) e2⟩, kp _ _ (fun q => q.elim so.it_ne.1 fun q => q.elim so.it_ne.2.1 so.it_ne.2.2.1) x.pI⟩
  · obtain ⟨i, p, a⟩ := x.pF
    exact ⟨i, p.at fun o e => kp _ o (fun q => q.elim f1 fun q => q.elim f2 f3) e, a⟩
  · obtain ⟨i, p, a⟩ := x.pN
    exact ⟨i, p.at fun o e => kp _ o (fun q => q.elim g1 fun q => q.elim g2 g3) e, a⟩
  · obtain ⟨i, ps, p, a, l⟩ := x.pY
    exact ⟨i, ps, p.at fun o e => kp _ o (fun q => q.elim y1 fun q => q.elim y2 y3) e, a.imp fun v z hz => hz.tups2 fun c its ht o e => kp c o (tup c its ht) e, l⟩
  · refine pool'.snoc one (fun a ha => Nat.le_trans (Heap.lt_size e2) (hy a ha)) (fun a ha n hn q => ?_) (fun a ha q => ?_)
    · exact absurd ((x.pool.each n hn).lt q) (Nat.not_lt.mpr (hy a ha))
    · exact absurd (x.lt a ha) (Nat.not_lt.mpr (hy a q))
  · rw [List.length_append]; exact few
  · intro n hn
    rcases List.mem_append.mp hn with q | q
    · exact x.small n q
    · rw [List.mem_singleton.mp q, hs.1, hs.2]; simp

set_option maxRecDepth 100000 in
set_option maxHeartbeats 2000000 in
theorem grow_piece {st : Stmt} (hst : (turnBody w.params)[5]? = some st) {k : Nat} {t3 : Tok} {wv : Value} {p : Way} (x : LH prog w fs nums L S N s.heap mas) (so : S.Ok L) (F : Fq w G L s.heap mm) (hG : G.objs.size ≤ L) (nm : Nm S mm)
    (e8 : mm "k" = some (.int k t3)) (hk : k ≤ mas.length) (hk4 : k ≤ 3) (hc : s.heap.IsCell (L + 2) (some wv)) (hw : WayAt s.heap wv p) (hh : A.handled = none) (hroom : A.depth + 5 < recursionLimit)
    (good : ∀ s' mas' m, LH prog w fs nums L S N s'.heap mas' → Fq w G L s'.heap mm → s'.heap.IsCell (L + 2) (some wv) → WayAt s'.heap wv p → mas'[k]? = some m → SameX s s' → Q .next s') :
    wpAny (model prog w) A (exec st (lawEnv L f cd)) Q E s := by
  with_unfolding_all change some (Stmt.If _ _ _ _) = some st at hst
  obtain rfl := Option.some.inj hst
  clear hst
  obtain ⟨n1, n2, n3, n4, n5⟩ := nm
  have K := F.g.K.keeps F.keep
  obtain ⟨im, pM, aM⟩ := x.pM
  obtain ⟨ib, pB, aB⟩ := x.pB
  obtain ⟨iw, pW, aW⟩ := x.pW
  have zM : im.size = mas.length := by rw [← aM.length, Array.length_toList]
  have zB : ib.size = mas.length := by rw [← aB.length, Array.length_toList]
  have zW : iw.size = mas.length := by rw [← aW.length, Array.length_toList]
  have few := x.few
  refine wpAny_If (wpAny_isTrue_Compare1 (q_ld F e8 (Call_ (q_bi F (by kernel_rfl) boot_len (by decide) (PyProof.Rows.callWith_builtin1 ?_)))))
  refine args_cons (q_ld F n3 (args_nil (PyProof.Rows.len_list pM.isList (by rw [zM]; omega) (eq_int (wpAny_truthy_bool ?_)))))
  rw [zM]
  by_cases hkl : k = mas.length
  · rw [if_pos (by simp [hkl])]
    refine wpAny_execs_cons (wpAny_Expr (MethodCall_ (q_ld F n3 (getMethod_list_append pM.choose_spec rfl rfl (callWith_method1 ?_)))))
    refine args_cons (Call_ (q_glob F (v := .ref 66) (by kernel_rfl) (callWith_K0 K (by kernel_rfl) (wpAny_callK ?_))))
    refine new_spec (fs := fs) F.g F.keep (by omega) fun s₁ c X₁ S₁ hd1 hd2 hd3 hd4 hX₁ => ?_
    dsimp only at S₁ hd1 hX₁ ⊢
    obtain ⟨⟨ab, aw, bw⟩, _, _, _⟩ := so.apart
    have m1 := S.mem.1
    have m2 := S.mem.2.1
    have m3 := S.mem.2.2.1
    have yL : ∀ a ∈ S.all, L < a := fun a ha => Nat.lt_trans (Nat.lt_succ_of_lt (Nat.lt_succ_self L)) (so.young a ha)
    have hid : ∀ a ∈ S.all, ∀ c, c = a → G.get? c = none := fun a ha c q => by subst q; exact get_none hG (Nat.le_of_lt (yL _ ha))
    have old : ∀ a ∈ S.all, a < s.heap.objs.size := x.lt
    have F₁ := F.keeps S₁
    refine args_nil (wpAny_list_append_plain (pM.at fun o e => S₁ _ o e) (fun h₂ pM₂ sb₂ => ?_) (by rw [sizeLine_is]; omega))
    have k₂ := Kept.of_sameBut sb₂
    have F₂ := F₁.kept k₂ (Nat.ne_of_lt (yL _ m1)) (fun b q => hid _ m1 b q)
    have pB₂ := pB.at fun o e => k₂ _ o (Ne.symm ab) (S₁ _ o e)
    have pW₂ := pW.at fun o e => k₂ _ o (Ne.symm aw) (S₁ _ o e)
    refine wpAny_execs_cons (wpAny_Expr (MethodCall_ (q_ld (s := { s₁ with heap := h₂ }) F₂ n4 (getMethod_list_append pB₂.choose_spec rfl rfl (callWith_method1 ?_)))))
    have kl : ∀ (h : Heap), h.StaysIn (h.push { cls := .type "list", data := .seq #[] }) := fun h b o e => Heap.get?_push_of_some _ e
    refine args_cons (wpAny_List (args_nil ⟨by rw [sizeLine_is]; decide, args_nil (wpAny_list_append_plain (pB₂.at fun o e => kl _ _ o e) (fun h₃ pB₃ sb₃ => ?_) (by rw [sizeLine_is]; omega))⟩))
    have k₃ : Kept (· = S.lb) h₂ h₃ := fun a o ha e => sb₃.extBut a o ha (kl _ a o e)
    have F₃ := F₂.kept k₃ (Nat.ne_of_lt (yL _ m2)) (fun b q => hid _ m2 b q)
    have pW₃ := pW₂.at fun o e => k₃ _ o (Ne.symm bw) e
    refine wpAny_execs_cons (wpAny_Expr (MethodCall_ (q_ld (s := { s₁ with heap := h₃ }) F₃ n5 (getMethod_list_append pW₃.choose_spec rfl rfl (callWith_method1 ?_)))))
    refine args_cons (wpAny_List (args_nil ⟨by rw [sizeLine_is]; decide, args_nil (wpAny_list_append_plain (pW₃.at fun o e => kl _ _ o e) (fun h₄ pW₄ sb₄ => ?_) (by rw [sizeLine_is]; omega))⟩))
    have k₄ : Kept (· = S.lw) h₃ h₄ := fun a o ha e => sb₄.extBut a o ha (kl _ a o e)
    have F₄ := F₃.kept k₄ (Nat.ne_of_lt (yL _ m3)) (fun b q => hid _ m3 b q)
    -- where the new lists lie
    have hpend : c.pend < h₂.objs.size := by
      obtain ⟨o, e, _⟩ := X₁.pend.alive
      exact Heap.lt_size (k₂ _ o (fun q => absurd (old _ m1) (Nat.not_lt.mpr (q ▸ Nat.le_trans hd1 (Nat.le_of_lt (Nat.lt_trans hd2 (Nat.lt_trans hd3 hd4)))))) e)
    have hs2 : s.heap.objs.size ≤ h₂.objs.size := Nat.le_trans hd1 (Nat.le_of_lt (Nat.lt_trans hd2 (Nat.lt_trans hd3 (Nat.lt_trans hd4 hpend))))
    have ne2 : ∀ a ∈ S.all, h₂.objs.size ≠ a := fun a ha q => Nat.lt_irrefl _ (Nat.lt_of_lt_of_le (q ▸ old a ha) hs2)
    have pb₃ : h₃.PlainList h₂.objs.size #[] := ⟨0, sb₃.extBut _ _ (ne2 _ m2) (Heap.get?_push_size _ rfl)⟩
    have hb3 : h₂.objs.size < h₃.objs.size := Heap.lt_size pb₃.choose_spec
    have ne3 : ∀ a ∈ S.all, h₃.objs.size ≠ a := fun a ha q => Nat.lt_irrefl _ (Nat.lt_of_lt_of_le (q ▸ old a ha) (Nat.le_trans hs2 (Nat.le_of_lt hb3)))
    have pb₄ : h₄.PlainList h₂.objs.size #[] := pb₃.at fun o e => k₄ _ o (ne2 _ m3) e
    have pw₄ : h₄.PlainList h₃.objs.size #[] := ⟨0, sb₄.extBut _ _ (ne3 _ m3) (Heap.get?_push_size _ rfl)⟩
    have k14 : Kept (fun a => a = S.lm ∨ a = S.lb ∨ a = S.lw) s₁.heap h₄ := fun a o ha e => k₄ a o (fun q => ha (.inr (.inr q))) (k₃ a o (fun q => ha (.inr (.inl q))) (k₂ a o (fun q => ha (.inl q)) e))
    have k04 : Kept (fun a => a = S.lm ∨ a = S.lb ∨ a = S.lw) s.heap h₄ := fun a o ha e => k14 a o ha (S₁ a o e)
    have X₄ : Mach prog w fs h₄ c leer [] := X₁.kept2 k14 fun a ha => by
      rcases ha with rfl | rfl | rfl
      · exact X₁.off_plain (pM.at fun o e => S₁ _ o e)
      · exact X₁.off_plain (pB.at fun o e => S₁ _ o e)
      · exact X₁.off_plain (pW.at fun o e => S₁ _ o e)
    have y1 := so.young _ m1
    have y2 := so.young _ m2
    have y3 := so.young _ m3
    have tup : ∀ a items, IsTup s.heap a items → ¬ (a = S.lm ∨ a = S.lb ∨ a = S.lw) := fun a items ht q => by
      rcases q with q | q | q
      · exact plain_not_tup pM items (q ▸ ht)
      · exact plain_not_tup pB items (q ▸ ht)
      · exact plain_not_tup pW items (q ▸ ht)
    have x₄ := x.snoc (m := ⟨c, leer, [], h₂.objs.size, [], h₃.objs.size⟩) so k04 ⟨_, ((pM₂.at fun o e => k₃ _ o ab e).at fun o e => k₄ _ o aw e), by rw [Array.toList_push]; exact aM.push rfl⟩ ⟨_, (pB₃.at fun o e => k₄ _ o bw e), by rw [Array.toList_push]; exact aB.push rfl⟩ ⟨_, pW₄, by rw [Array.toList_push]; exact aW.push rfl⟩
      ⟨X₄, ⟨#[], pb₄, .nil⟩, ⟨#[], pw₄, .nil⟩, Nat.ne_of_lt hb3, Sound.leer⟩ (fun a ha => ?_) (by omega) ⟨rfl, rfl⟩
    · refine wpAny_execs_nil (good { s₁ with heap := h₄ } _ _ x₄ F₄ (isCell_keeps hc fun o e => k04 _ o (fun q => ?_) e) (hw.tups2 fun c its ht o e => k04 c o (tup c its ht) e) (by rw [hkl, List.getElem?_append_right (Nat.le_refl _), Nat.sub_self]; rfl) hX₁)
      rcases q with q | q | q
      · exact Nat.lt_irrefl _ (q ▸ y1)
      · exact Nat.lt_irrefl _ (q ▸ y2)
      · exact Nat.lt_irrefl _ (q ▸ y3)
    · rcases ha with (ha | ha) | ha | ha | ha | ha
      · rw [foot_leer X₁ ha]; exact Nat.le_trans hd1 (Nat.le_of_lt (Nat.lt_trans hd2 hd3))
      · have ha' : a = c.pend := ha
        rw [ha']; exact Nat.le_trans hd1 (Nat.le_of_lt (Nat.lt_trans hd2 (Nat.lt_trans hd3 hd4)))
      · have ha' : a = c.x := ha
        rw [ha']; exact Nat.le_trans hd1 (Nat.le_of_lt hd2)
      · have ha' : a = c.dx := ha
        rw [ha']; exact hd1
      · have ha' : a = h₂.objs.size := ha
        rw [ha']; exact hs2
      · have ha' : a = h₃.objs.size := ha
        rw [ha']; exact Nat.le_trans hs2 (Nat.le_of_lt hb3)
  · rw [if_neg (by simp; omega)]
    obtain ⟨m, hm⟩ : ∃ m, mas[k]? = some m := ⟨mas[k]'(by omega), List.getElem?_eq_getElem (by omega)⟩
    exact wpAny_execs_nil (good _ mas m x F hc hw hm ⟨rfl, rfl⟩)
end
end Mine
-- OE
namespace Mine
section
variable {prog : Program} {w : World} {A : Around} {E : Value → Shared → Prop} {s : Shared} {G : Heap} {R : Result → Shared → Prop}
theorem min_ok {a b : Int} {t u : Tok} {Q : Value → Shared → Prop} (hh : Hok A s.heap)
    (h : ∀ h' tk ut, s.heap.StaysIn h' → Q (.int (if b < a then b else a) ut) { s with heap := h', toks := tk }) :
    wpAny (model prog w) A (call (.builtin "min") [.int a t, .int b u]) Q E s := by
  have hT : (s.heap.push { cls := .type "tuple", data := .seq #[.int a t, .int b u] }).IsTuple s.heap.objs.size (intItems #[(a, t), (b, u)]) := ⟨_, Heap.get?_push_size _ rfl, rfl, 0, by simp [intItems]⟩
  refine call_min_two (wpAny_pyIter_tuple hT ?_)
  have hsz : (s.heap.push { cls := .type "tuple", data := .seq #[.int a t, .int b u] }).objs.size = s.heap.objs.size + 1 := Heap.size_push ..
  have hal : ∀ c ∈ hadr A, c < s.heap.objs.size := fun c hc => by
    have := hadr_mem hc
    rcases hh with hh | ⟨e, hh, o, vs, he, _⟩
    · rw [hh] at this; cases this
    · rw [hh] at this; cases this; exact Heap.lt_size he
  refine ⟨_, _, _, _, _, _, _, rfl, walksTuple (A := A.in1) (s.heap.push { cls := .type "tuple", data := .seq #[.int a t, .int b u] }).objs.size s.heap.objs.size (by rw [hsz]; exact Nat.ne_of_lt (Nat.lt_succ_self _)) (fun q => ?_) (intItems #[(a, t), (b, u)]),
    ⟨⟨_, Heap.get?_push_size _ rfl, rfl, rfl⟩, hT.push _, hh.frame fun c hc o e => Heap.get?_push_of_some _ (Heap.get?_push_of_some _ e)⟩, fun c hc => ?_, by simp [intItems], CmpOf.ints_lt (numAt #[(a, t), (b, u)]) (fun _ _ => intItems_at), fun v h' tk hP hk => ?_⟩
  · exact absurd (hal _ q) (by rw [hsz]; exact fun z => Nat.lt_irrefl _ (Nat.lt_of_succ_lt z))
  · show c < ((s.heap.push _).push _).objs.size
    rw [Heap.size_push, hsz]
    rcases List.mem_append.mp hc with hc | hc
    · rcases List.mem_cons.mp hc with rfl | hc
      · rw [hsz]; exact Nat.lt_succ_self _
      · rcases List.mem_cons.mp hc with rfl | hc
        · exact Nat.lt_succ_of_lt (Nat.lt_succ_self _)
        · cases hc
    · exact Nat.lt_succ_of_lt (Nat.lt_succ_of_lt (hal c hc))
  · have hold : s.heap.StaysIn h' := fun c o e => by
      refine hk c o (fun hm => ?_) (Heap.get?_push_of_some _ (Heap.get?_push_of_some _ e))
      rcases List.mem_cons.mp hm with e1 | hm
      · have := Heap.lt_size e; rw [e1, hsz] at this; exact Nat.lt_irrefl _ (Nat.lt_of_succ_lt this)
      · cases hm
    have hP' : (intItems #[(a, t), (b, u)])[argBest (fun i j => decide (numAt #[(a, t), (b, u)] i < numAt #[(a, t), (b, u)] j)) 1]? = some v := by
      have hsz2 : (intItems #[(a, t), (b, u)]).size - 1 = 1 := by simp [intItems]
      rw [← hsz2]; exact hP
    by_cases hba : b < a
    · have e : argBest (fun i j => decide (numAt #[(a, t), (b, u)] i < numAt #[(a, t), (b, u)] j)) 1 = 1 := by simp [argBest, numAt, hba]
      rw [e] at hP'
      have hv : v = .int b u := by simpa [intItems] using hP'.symm
      have := h h' tk u hold
      rw [if_pos hba] at this
      rw [hv]; exact this
    · have e : argBest (fun i j => decide (numAt #[(a, t), (b, u)] i < numAt #[(a, t), (b, u)] j)) 1 = 0 := by simp [argBest, numAt, hba]
      rw [e] at hP'
      have hv : v = .int a t := by simpa [intItems] using hP'.symm
      have := h h' tk t hold
      rw [if_neg hba] at this
      rw [hv]; exact this

end
end Mine
-- OF
namespace Mine
section
variable {prog : Program} {w : World} {A : Around} {E : Value → Shared → Prop} {s : Shared} {G : Heap} {fs nums : List Int} {L f : Addr} {cd : Value} {S : Six} {N : Nat} {m : Ma} {mas : List Ma} {mm : PySem.Str → Option Value} {Q : Flow → Shared → Prop}

set_option maxRecDepth 100000 in
set_option maxHeartbeats 2000000 in
/-- `way = () if x % 7 == 6 else _law_way(abs(x // 60 + place + 1))` -/
theorem way_piece {st : Stmt} (hst : (turnBody w.params)[1]? = some st) {xv pl : Int} {t1 t2 : Tok} (x : LH prog w fs nums L S N s.heap mas) (so : S.Ok L) (F : Fq w G L s.heap mm) (hG : G.objs.size ≤ L)
    (e1 : mm "x" = some (.int xv t1)) (e2 : mm "place" = some (.int pl t2)) (hc : ∃ v, s.heap.IsCell (L + 2) v) (hroom : A.depth + 5 < recursionLimit)
    (good : ∀ s' wv p, LH prog w fs nums L S N s'.heap mas → Fq w G L s'.heap mm → s'.heap.IsCell (L + 2) (some wv) → WayAt s'.heap wv p → p.length ≤ 30 → SameX s s' → Q .next s') :
    wpAny (model prog w) A (exec st (lawEnv L f cd)) Q E s := by
  with_unfolding_all change some (Stmt.Assign [.Name "way" _] (.IfExp _ _ _ _) _) = some st at hst
  obtain rfl := Option.some.inj hst
  clear hst
  have K := F.g.K.keeps F.keep
  obtain ⟨v0, hc⟩ := hc
  have fin : ∀ (s₁ : Shared) wv p, s.heap.StaysIn s₁.heap → SameX s s₁ → WayAt s₁.heap wv p → p.length ≤ 30 → wpAny (model prog w) A (storeName (lawEnv L f cd) "way" wv) (fun _ s' => Q .next s') E s₁ := fun s₁ wv p S₁ hX hw hp => by
    have x₁ := x.keeps S₁
    have F₁ := F.keeps S₁
    have hc₁ : s₁.heap.IsCell (L + 2) v0 := isCell_keeps hc fun o e => S₁ _ o e
    refine wpAny_storeName_cell (c := L + 2) rfl rfl rfl hc₁ fun h' hc' sb => ?_
    have kb := Kept.of_sameBut sb
    obtain ⟨o, e, d⟩ := id hc'
    refine good { s₁ with heap := h' } wv p (x₁.cell so ⟨_, hc₁⟩ kb ⟨o, e⟩) (F₁.kept kb (Nat.ne_of_lt (Nat.lt_succ_of_lt (Nat.lt_succ_self L))) (fun b q => by subst q; exact get_none hG (Nat.le_of_lt (Nat.lt_succ_of_lt (Nat.lt_succ_self L))))) hc' (hw.tups2 fun c its ht o e => kb c o (fun q => ?_) e) hp hX
    subst q
    obtain ⟨o1, a1, d1⟩ := hc₁
    obtain ⟨o2, a2, _, n, d2⟩ := ht
    rw [a1] at a2; cases a2
    rw [d1] at d2; cases d2
  refine wpAny_Assign_Name (wpAny_IfExp (wpAny_isTrue_Compare1 (wpAny_BinOp (q_ld F e1 (wpAny_Constant_int (mod_int' (by decide) ?_))))))
  refine wpAny_Constant_int (eq_int (wpAny_truthy_bool ?_))
  split
  · refine wpAny_Tuple (args_nil ⟨by rw [sizeLine_is]; decide, ?_⟩)
    exact fin _ _ [] (fun b o e => Heap.get?_push_of_some _ e) ⟨rfl, rfl⟩ (WayAt.nil (IsTup.new _ _)) (by decide)
  · refine Call_ (q_glob F (v := .ref 77) (by kernel_rfl) (callWith_K K (by kernel_rfl) ?_))
    refine args_cons (Call_ (q_bi F (by kernel_rfl) boot_abs (by decide) (PyProof.Rows.callWith_builtin1 ?_)))
    refine args_cons (wpAny_BinOp (wpAny_BinOp (wpAny_BinOp (q_ld F e1 (wpAny_Constant_int (floordiv_int (by decide) ?_))))))
    refine q_ld F e2 (wpAny_add_int (wpAny_Constant_int (wpAny_add_int (args_nil (call_abs_int fun u tk => args_nil ⟨K, ?_⟩)))))
    refine wpAny_callK (way_spec F.g F.keep (by omega) fun s₁ v p hw hp S₁ hX => ?_)
    exact fin s₁ v p S₁ hX hw hp

set_option maxRecDepth 100000 in
set_option maxHeartbeats 4000000 in
theorem turn_spec {sts : List Stmt} (hst : turnBody w.params = sts) {i : Nat} {tp : Tok} (hi : i < nums.length) (hn : nums.length ≤ 64) (x : LH prog w fs nums L S N s.heap mas) (so : S.Ok L) (F : Fq w G L s.heap mm) (hG : G.objs.size ≤ L) (nm : Nm S mm)
    (e9 : mm "place" = some (.int i tp)) (hc : ∃ v, s.heap.IsCell (L + 2) v) (hN : N ≤ 74) (hY : S.yy ≤ 70) (hfs : fs.length = 3)
    (hA : A.frames = some [lawEnv L f cd]) (hh : A.handled = none) (hroom : A.depth + 5 < recursionLimit) (hu : A.units + 120 < cLine)
    (good : ∀ s' mas' mm', LH prog w fs nums L S.grow (N + 1) s'.heap mas' → Fq w G L s'.heap mm' → Nm S mm' → (∃ v, s'.heap.IsCell (L + 2) v) → SameX s s' → Q .next s') :
    wpAny (model prog w) A (execs sts (lawEnv L f cd)) Q E s := by
  with_unfolding_all change [Stmt.Assign [.Name "x" _] _ _, _, Stmt.Assign [.Name "flag" _] _ _, Stmt.Assign [.Name "kind" _] _ _, Stmt.Assign [.Name "k" _] _ _, _, _, _, _] = sts at hst
  subst hst
  obtain ⟨n1, n2, n3, n4, n5⟩ := nm
  have cellK : ∀ {h h' : Heap}, Heap.SameBut L h h' → (∃ v, h.IsCell (L + 2) v) → ∃ v, h'.IsCell (L + 2) v := fun sb ⟨v, c⟩ => ⟨v, isCell_keeps c fun o e => sb.extBut _ o (Nat.ne_of_gt (Nat.lt_succ_of_lt (Nat.lt_succ_self L))) e⟩
  obtain ⟨inn, pN, aN⟩ := x.pN
  obtain ⟨v, hv, tx, hvx⟩ := aN.at (List.getElem?_eq_getElem hi)
  rw [Array.getElem?_toList] at hv
  subst hvx
  refine wpAny_execs_cons (wpAny_Assign_Name (q_item F n1 e9 pN.isList (by omega) hv ?_))
  refine q_st F fun h₁ tk₁ F₁ s₁ => ?_
  dsimp only
  have x₁ := x.frame so F (Kept.of_sameBut s₁)
  refine wpAny_execs_cons (way_piece (s := { s with heap := h₁, toks := tk₁ }) (by with_unfolding_all rfl) x₁ so F₁ hG rfl e9 (cellK s₁ hc) hroom fun s₂ wv p x₂ F₂ hc₂ hw₂ hp₂ hX₂ => ?_)
  dsimp only
  -- flag
  obtain ⟨ifl, pF, aF⟩ := x₂.pF
  have zF : ifl.size = 3 := by rw [← Array.length_toList, aF.length, hfs]
  generalize hxv : nums[i] = xv at F₂ hc₂
  have m3 : xv.fmod 3 = xv % 3 := Int.fmod_eq_emod_of_nonneg _ (by decide)
  have m30 : 0 ≤ xv % 3 := Int.emod_nonneg _ (by decide)
  have m33 : xv % 3 < 3 := Int.emod_lt_of_pos _ (by decide)
  have hj : (xv % 3).toNat < fs.length := by rw [hfs]; exact (Int.toNat_lt m30).mpr m33
  obtain ⟨vf, hvf, tf, rfl⟩ := aF.at (List.getElem?_eq_getElem hj)
  rw [Array.getElem?_toList] at hvf
  have hfl : fs[(xv % 3).toNat] ∈ fs := List.getElem_mem hj
  generalize fs[(xv % 3).toNat] = fl at hvf hfl
  refine wpAny_execs_cons (wpAny_Assign_Name (Subscript_ (q_ld F₂ n2 (wpAny_BinOp (q_ld F₂ rfl (wpAny_Constant_int (mod_int' (by decide) ?_)))))))
  dsimp only
  refine tail_any pF.isList.typeIs slot_list_getitem.lookup (wpAny_getItem_list pF.isList (by rw [m3]; exact m30) (by rw [m3]; exact Int.lt_trans m33 (by decide)) (x := .int fl tf) (by rw [m3]; exact hvf) ?_) rfl
  refine q_st F₂ fun h₃ tk₃ F₃ s₃ => ?_
  dsimp only
  have x₃ := x₂.frame so F₂ (Kept.of_sameBut s₃)
  -- kind
  refine wpAny_execs_cons (wpAny_Assign_Name (wpAny_BinOp (q_ld F₃ rfl (wpAny_Constant_int (mod_int' (by decide) ?_)))))
  refine q_st F₃ fun h₄ tk₄ F₄ s₄ => ?_
  dsimp only
  have x₄ := x₃.frame so F₃ (Kept.of_sameBut s₄)
  -- k
  obtain ⟨im, pM, aM⟩ := x₄.pM
  have zM : im.size = mas.length := by rw [← aM.length, Array.length_toList]
  have few := x.few
  have m4 : xv.fmod 4 = xv % 4 := Int.fmod_eq_emod_of_nonneg _ (by decide)
  have m40 : 0 ≤ xv % 4 := Int.emod_nonneg _ (by decide)
  have m44 : xv % 4 < 4 := Int.emod_lt_of_pos _ (by decide)
  refine wpAny_execs_cons (wpAny_Assign_Name (Call_ (q_bi F₄ (by kernel_rfl) boot_min (by decide) (PyProof.Rows.callWith_builtin1 ?_))))
  refine args_cons (wpAny_BinOp (q_ld F₄ rfl (wpAny_Constant_int (mod_int' (by decide) ?_))))
  refine args_cons (Call_ (q_bi F₄ (by kernel_rfl) boot_len (by decide) (PyProof.Rows.callWith_builtin1 ?_)))
  refine args_cons (q_ld F₄ n3 (args_nil (PyProof.Rows.len_list pM.isList (by rw [zM]; omega) ?_)))
  refine args_nil (min_ok (.inl hh) fun h₅ tk₅ ut S₅ => ?_)
  rw [zM]
  obtain ⟨k, hk1, hk2, hk3⟩ : ∃ k : Nat, (if (mas.length : Int) < xv.fmod 4 then (mas.length : Int) else xv.fmod 4) = (k : Int) ∧ k ≤ mas.length ∧ k ≤ 3 := by
    rw [m4]
    by_cases q : (mas.length : Int) < xv % 4
    · rw [if_pos q]; exact ⟨mas.length, rfl, Nat.le_refl _, n_le3 q m44⟩
    · rw [if_neg q]; exact ⟨(xv % 4).toNat, (Int.toNat_of_nonneg m40).symm, n_toNat_le q, n_toNat3 m44⟩
  rw [hk1]
  refine q_st (F₄.keeps S₅) fun h₆ tk₆ F₆ s₆ => ?_
  dsimp only at F₆ s₆ ⊢
  have x₆ := (x₄.keeps S₅).frame so (F₄.keeps S₅) (Kept.of_sameBut s₆)
  have k26 : Kept (· = L) s₂.heap h₆ := fun a o ha e => Kept.of_sameBut s₆ a o ha (S₅ a o (Kept.of_sameBut s₄ a o ha (Kept.of_sameBut s₃ a o ha e)))
  have hc₆ : h₆.IsCell (L + 2) (some wv) := isCell_keeps hc₂ fun o e => k26 _ o (Nat.ne_of_gt (Nat.lt_succ_of_lt (Nat.lt_succ_self L))) e
  have hw₆ : WayAt h₆ wv p := hw₂.tups2 fun c its ht o e => k26 c o (fun q => F₂.ne_tup ht q.symm) e
  -- a new machine, if need be
  refine wpAny_execs_cons (grow_piece (s := { s₂ with heap := h₆, toks := tk₆ }) (by with_unfolding_all rfl) x₆ so F₆ hG ⟨n1, n2, n3, n4, n5⟩ rfl hk2 hk3 hc₆ hw₆ hh hroom fun s₇ mas₇ m₇ x₇ F₇ hc₇ hw₇ hm₇ hX₇ => ?_)
  dsimp only
  refine wpAny_execs_cons (kind_piece (by with_unfolding_all rfl) x₇ so F₇ hG ⟨n1, n2, n3, n4, n5⟩ rfl hfl rfl rfl hm₇ hc₇ hw₇ (by omega) (by omega) hA hh hroom hu fun s₈ mas₈ x₈ F₈ hc₈ hw₈ hl₈ hX₈ => ?_)
  dsimp only
  refine wpAny_execs_cons (due_piece (by with_unfolding_all rfl) x₈ F₈ ⟨n1, n2, n3, n4, n5⟩ hc₈ hw₈ hp₂ hh hroom hu fun s₉ S₉ hX₉ => ?_)
  dsimp only
  refine wpAny_execs_cons (extend_piece (by with_unfolding_all rfl) (x₈.keeps S₉) so (F₈.keeps S₉) hG (isCell_keeps hc₈ fun o e => S₉ _ o e) (hw₈.keeps S₉) hp₂ hh hroom hu hY fun s₁₀ x₁₀ F₁₀ hc₁₀ hX₁₀ => ?_)
  dsimp only
  refine wpAny_execs_nil (good s₁₀ mas₈ _ x₁₀ F₁₀ ⟨n1, n2, n3, n4, n5⟩ hc₁₀ ?_)
  exact hX₂.trans (hX₇.trans (hX₈.trans (hX₉.trans hX₁₀)))
end
end Mine
-- OG
namespace Mine
section
variable {prog : Program} {w : World} {A : Around} {E : Value → Shared → Prop} {s : Shared} {G : Heap} {fs nums : List Int} {L f : Addr} {cd : Value} {S : Six} {N : Nat} {m : Ma} {mas : List Ma} {mm : PySem.Str → Option Value} {Q : Flow → Shared → Prop}

theorem Six.Ok.it_ne2 (so : S.Ok L) : S.it ≠ S.lf ∧ S.it ≠ S.ln := by
  have h := so.nodup
  simp only [Six.all, List.nodup_cons, List.mem_cons, List.not_mem_nil, or_false, not_or] at h
  exact ⟨Ne.symm h.2.2.2.1.2.2, Ne.symm h.2.2.2.2.1.2⟩
/-- the iterator turns, or another takes its place -/
theorem LH.reit {h h' : Heap} {it' : Addr} {io' : Obj} (x : LH prog w fs nums L S N h mas) (so : S.Ok L) (kp : Kept (· = S.it) h h') (hn : ∀ items, ¬ IsTup h S.it items) (e : h'.get? it' = some io') (hit : it' = S.it ∨ ∀ a o, a ≠ S.it → h.get? a = some o → a < it') :
    LH prog w fs nums L { S with it := it', io := io' } N h' mas ∧ Six.Ok { S with it := it', io := io' } L := by
  obtain ⟨m1, m2, m3, m4, m5, m6⟩ := S.mem
  obtain ⟨i1, i2, i3, i6⟩ := so.it_ne
  obtain ⟨i4, i5⟩ := so.it_ne2
  have yi := so.young _ S.memI
  obtain ⟨o2, e2⟩ := x.room
  have c2 : L + 2 ≠ S.it := Nat.ne_of_lt yi
  have c1 : L + 1 ≠ S.it := Nat.ne_of_lt (Nat.lt_trans (Nat.lt_succ_self _) yi)
  have tup : ∀ a items, IsTup h a items → a ≠ S.it := fun a items ht q => hn items (q ▸ ht)
  have pool' := x.pool.kept kp fun a ha => ⟨fun n hn' q => x.pool.lists n hn' _ S.memI (ha ▸ q), fun items ht => tup a items ht ha⟩
  have hy : L + 2 < it' := by
    rcases hit with q | q
    · exact q ▸ yi
    · exact q _ o2 c2 e2
  have hno : ∀ a ∈ S.all, a ≠ S.it → a ≠ it' := fun a ha hne q => by
    rcases hit with z | z
    · exact hne (q.trans z)
    · obtain ⟨o, ea⟩ := x.alive a ha
      exact Nat.lt_irrefl _ (q ▸ z a o hne ea)
  refine ⟨⟨?_, ?_, ?_, ?_, ?_, ?_, isCell_keeps x.cY fun o e => kp _ o c1 e, ⟨pool'.each, pool'.young, pool'.apart, fun n hn' a ha q => ?_⟩, x.few, x.small, ⟨o2, kp _ o2 c2 e2⟩, e⟩, ?_, ?_⟩
  · obtain ⟨i, p, a⟩ := x.pM
    exact ⟨i, p.at fun o e => kp _ o (Ne.symm i1) e, a⟩
  · obtain ⟨i, p, a⟩ := x.pB
    exact ⟨i, p.at fun o e => kp _ o (Ne.symm i2) e, a⟩
  · obtain ⟨i, p, a⟩ := x.pW
    exact ⟨i, p.at fun o e => kp _ o (Ne.symm i3) e, a⟩
  · obtain ⟨i, p, a⟩ := x.pF
    exact ⟨i, p.at fun o e => kp _ o (Ne.symm i4) e, a⟩
  · obtain ⟨i, p, a⟩ := x.pN
    exact ⟨i, p.at fun o e => kp _ o (Ne.symm i5) e, a⟩
  · obtain ⟨i, ps, p, a, l⟩ := x.pY
    exact ⟨i, ps, p.at fun o e => kp _ o (Ne.symm i6) e, a.imp fun v z hz => hz.tups2 fun c its ht o e => kp c o (tup c its ht) e, l⟩
  · simp only [Six.all, List.mem_cons, List.not_mem_nil, or_false] at ha
    rcases ha with r | r | r | r | r | r | r
    · exact x.pool.lists n hn' _ m1 (r ▸ q)
    · exact x.pool.lists n hn' _ m2 (r ▸ q)
    · exact x.pool.lists n hn' _ m3 (r ▸ q)
    · exact x.pool.lists n hn' _ m4 (r ▸ q)
    · exact x.pool.lists n hn' _ m5 (r ▸ q)
    · exact x.pool.lists n hn' _ m6 (r ▸ q)
    · rcases hit with z | z
      · exact x.pool.lists n hn' _ S.memI (z ▸ r ▸ q)
      · obtain ⟨o, ea⟩ := (x.pool.each n hn').alive q
        have := z a o (fun y => x.pool.lists n hn' _ S.memI (y ▸ q)) ea
        rw [r] at this
        exact Nat.lt_irrefl _ this
  · have h := so.nodup
    simp only [Six.all, List.nodup_cons, List.mem_cons, List.not_mem_nil, or_false, not_or] at h ⊢
    obtain ⟨⟨a1, a2, a3, a4, a5, a6⟩, ⟨b1, b2, b3, b4, b5⟩, ⟨c1, c2, c3, c4⟩, ⟨d1, d2, d3⟩, ⟨g1, g2⟩, g3, g4⟩ := h
    exact ⟨⟨a1, a2, a3, a4, a5, hno _ m1 a6⟩, ⟨b1, b2, b3, b4, hno _ m2 b5⟩, ⟨c1, c2, c3, hno _ m3 c4⟩, ⟨d1, d2, hno _ m4 d3⟩, ⟨g1, hno _ m5 g2⟩, hno _ m6 g3, g4⟩
  · intro a ha
    simp only [Six.all, List.mem_cons, List.not_mem_nil, or_false] at ha
    rcases ha with r | r | r | r | r | r | r
    · exact r ▸ so.young _ m1
    · exact r ▸ so.young _ m2
    · exact r ▸ so.young _ m3
    · exact r ▸ so.young _ m4
    · exact r ▸ so.young _ m5
    · exact r ▸ so.young _ m6
    · exact r ▸ hy
/-- what stands between two turns of the law's own loops -/
structure LoopJ (prog : Program) (w : World) (fs nums : List Int) (G : Heap) (L I : Addr) (N : Nat) (s s₁ : Shared) (ex cell : Prop) (S' : Six) (mas' : List Ma) (mm' : PySem.Str → Option Value) : Prop where
  hit : S'.it = I
  hex : ex
  hio : S'.io.cls = .type "range_iterator"
  so : S'.Ok L
  x : LH prog w fs nums L S' N s₁.heap mas'
  fq : Fq w G L s₁.heap mm'
  nm : Nm S' mm'
  hc : cell
  hX : SameX s s₁
end
end Mine
-- OH
namespace Mine
section
variable {prog : Program} {w : World} {A : Around} {E : Value → Shared → Prop} {s : Shared} {G : Heap} {fs nums : List Int} {L f : Addr} {cd : Value} {S : Six} {N : Nat} {m : Ma} {mas : List Ma} {mm : PySem.Str → Option Value} {Q : Flow → Shared → Prop}
set_option maxRecDepth 100000 in
set_option maxHeartbeats 4000000 in
/-- the first loop -/
theorem loop1 {st : Stmt} (hst : (lawBody w.params)[7]? = some st) (hn : nums.length ≤ 64) (x : LH prog w fs nums L S 0 s.heap []) (so : S.Ok L) (hy0 : S.yy = 0) (hnt : ∀ items, ¬ IsTup s.heap S.it items) (F : Fq w G L s.heap mm) (hG : G.objs.size ≤ L) (nm : Nm S mm)
    (hc : ∃ v, s.heap.IsCell (L + 2) v) (hfs : fs.length = 3) (hA : A.frames = some [lawEnv L f cd]) (hh : A.handled = none) (hroom : A.depth + 5 < recursionLimit) (hu : A.units + 120 < cLine)
    (good : ∀ (s₀ s' : Shared) S' mas' mm', LH prog w fs nums L S' 64 s₀.heap mas' → S'.Ok L → (∀ items, ¬ IsTup s₀.heap S'.it items) → Kept (· = S'.it) s₀.heap s'.heap → S'.yy ≤ 64 → Fq w G L s'.heap mm' → Nm S' mm' → SameX s s' → Q .next s') :
    wpAny (model prog w) A (exec st (lawEnv L f cd)) Q E s := by
  with_unfolding_all change some (Stmt.For (.Name "place" _) _ _ [] _) = some st at hst
  obtain rfl := Option.some.inj hst
  clear hst
  obtain ⟨n1, n2, n3, n4, n5⟩ := nm
  obtain ⟨inn, pN, aN⟩ := x.pN
  have zN : inn.size = nums.length := by rw [← aN.length, Array.length_toList]
  refine wpAny_For (Call_ (q_bi F (by kernel_rfl) boot_range (by decide) (PySem.Pv.callWith_type1 ?_)))
  refine args_cons (Call_ (q_bi F (by kernel_rfl) boot_len (by decide) (PyProof.Rows.callWith_builtin1 ?_)))
  refine args_cons (q_ld F n1 (args_nil (PyProof.Rows.len_list pN.isList (by rw [zN]; omega) ?_)))
  refine args_nil (call_range_1 ?_)
  rw [zN]
  refine wpAny_pyIter_range (IsRange.new ..) (small_one (by omega) (by omega) (by omega) (by omega)) ?_
  rw [show Builtin.Range.rangeSize 0 (nums.length : Int) 1 = nums.length by rw [rangeSize_one]; split <;> omega]
  generalize hr : ({ cls := Value.type "range", data := Data.fields #[Value.int 0 _, Value.int (nums.length : Int) _, Value.int 1 _] } : Obj) = ro
  generalize hI : (s.heap.push ro).objs.size = I
  have hIs : I = s.heap.objs.size + 1 := by rw [← hI]; simp
  have S₂ : s.heap.StaysIn ((s.heap.push ro).push { cls := .type "range_iterator", data := .fields #[rawInt 0, rawInt (nums.length : Int), rawInt 1] }) := fun b o e => Heap.get?_push_of_some _ (Heap.get?_push_of_some _ e)
  have eI := Heap.get?_push_at (h := s.heap.push ro) (o := { cls := .type "range_iterator", data := .fields #[rawInt 0, rawInt (nums.length : Int), rawInt 1] }) hI.symm rfl
  generalize (s.heap.push ro).push { cls := .type "range_iterator", data := .fields #[rawInt 0, rawInt (nums.length : Int), rawInt 1] } = h₂ at S₂ eI
  obtain ⟨x₂, so₂⟩ := x.reit so (h' := h₂) (fun a o _ e => S₂ a o e) hnt eI (.inr fun a o _ e => by rw [hIs]; exact Nat.lt_succ_of_lt (Heap.lt_size e))
  have hLI : L ≠ I := by rw [hIs]; exact Nat.ne_of_lt (Nat.lt_succ_of_lt F.lt)
  have hGI : G.get? I = none := get_none hG (by rw [hIs]; exact Nat.le_of_lt (Nat.lt_succ_of_lt F.lt))
  refine forL (A := A) (Walks.range hh I 0 1 nums.length) (fun _ _ _ _ _ _ h => wpAny_pure h)
    (fun i s₁ => ∃ S' mas' mm', LoopJ prog w fs nums G L I i s s₁ (S'.yy = i) (∃ v, s₁.heap.IsCell (L + 2) v) S' mas' mm')
    (by simpa [IsRangeIter] using eI) ⟨{ S with it := I, io := { cls := .type "range_iterator", data := .fields #[rawInt 0, rawInt (nums.length : Int), rawInt 1] } }, [], mm, rfl, hy0, rfl, so₂, x₂, F.keeps S₂, ⟨n1, n2, n3, n4, n5⟩, hc.imp fun v c => isCell_keeps c fun o e => S₂ _ o e, ⟨rfl, rfl⟩⟩ ?_ ?_
  · rintro i v s₀ h' tk hi ⟨t, rfl⟩ ⟨S', mas', mm', hit, hyy, hio, so', x', F', nm', hc', hX'⟩ hS hk
    have kp : Kept (· = S'.it) s₀.heap h' := fun b o hb e => hk b o (by simpa [hit] using hb) e
    have hnt' : ∀ items, ¬ IsTup s₀.heap S'.it items := fun items ht => by
      obtain ⟨o, e, hcl, _⟩ := ht
      rw [x'.pI] at e; cases e
      rw [hio] at hcl
      exact absurd hcl (by decide)
    obtain ⟨x₃, so₃⟩ := x'.reit so' kp hnt' (it' := S'.it) (by rw [hit]; exact hS) (.inl rfl)
    have F₃ : Fq w G L h' mm' := F'.kept kp (by rw [hit]; exact hLI) (fun b hb => by rw [hb, hit]; exact hGI)
    rw [n_one i]
    obtain ⟨n1, n2, n3, n4, n5⟩ := nm'
    refine q_assignName (s := { s₀ with heap := h', toks := tk }) F₃ fun h₄ tk₄ F₄ s₄ => ?_
    dsimp only at F₄ s₄ ⊢
    have x₄ := x₃.frame so₃ F₃ (Kept.of_sameBut s₄)
    have yI : L + 2 < S'.it := so'.young _ S'.memI
    have hc₄ : ∃ v, h₄.IsCell (L + 2) v := hc'.imp fun v c => isCell_keeps (isCell_keeps c fun o e => kp _ o (Nat.ne_of_lt yI) e) fun o e => s₄.extBut _ o (Nat.ne_of_gt (Nat.lt_succ_of_lt (Nat.lt_succ_self L))) e
    refine turn_spec (s := { s₀ with heap := h₄, toks := tk₄ }) (by with_unfolding_all rfl) hi hn x₄ so₃ F₄ hG ⟨n1, n2, n3, n4, n5⟩ rfl hc₄ (by omega) (by show S'.yy ≤ 70; omega) hfs hA hh hroom hu fun s₅ mas₅ mm₅ x₅ F₅ nm₅ hc₅ hX₅ => ?_
    dsimp only
    have p5 := x₅.pI
    refine ⟨⟨_, mas₅, mm₅, ?_, ?_, ?_, so₃.grow, x₅, F₅, nm₅, hc₅, hX'.trans hX₅⟩, ?_⟩
    · exact hit
    · show S'.yy + 1 = i + 1
      omega
    · rfl
    · rw [← hit]; exact p5
  · rintro s₀ h' tk ⟨S', mas', mm', hit, hyy, hio, so', x', F', nm', hc', hX'⟩ hk
    have kp : Kept (· = S'.it) s₀.heap h' := fun b o hb e => hk b o (by simpa [hit] using hb) e
    have hnt' : ∀ items, ¬ IsTup s₀.heap S'.it items := fun items ht => by
      obtain ⟨o, e, hcl, _⟩ := ht
      rw [x'.pI] at e; cases e
      rw [hio] at hcl
      exact absurd hcl (by decide)
    have F₃ : Fq w G L h' mm' := F'.kept kp (by rw [hit]; exact hLI) (fun b hb => by rw [hb, hit]; exact hGI)
    exact good s₀ { s₀ with heap := h', toks := tk } S' mas' mm' (x'.more hn) so' hnt' kp (by omega) F₃ nm' hX'
end
end Mine
-- OI
namespace Mine
section
variable {prog : Program} {w : World} {A : Around} {E : Value → Shared → Prop} {s : Shared} {G : Heap} {fs nums : List Int} {L f : Addr} {cd : Value} {S : Six} {N : Nat} {m : Ma} {mas : List Ma} {mm : PySem.Str → Option Value} {Q : Flow → Shared → Prop}
set_option maxRecDepth 100000 in
set_option maxHeartbeats 4000000 in
/-- the second loop -/
theorem loop2 {st : Stmt} (hst : (lawBody w.params)[8]? = some st) {h₀ : Heap} (x : LH prog w fs nums L S 64 h₀ mas) (so : S.Ok L) (hnt : ∀ items, ¬ IsTup h₀ S.it items) (kp : Kept (· = S.it) h₀ s.heap) (F : Fq w G L s.heap mm) (hG : G.objs.size ≤ L) (nm : Nm S mm)
    (hfs : fs.length = 3) (hA : A.frames = some [lawEnv L f cd]) (hh : A.handled = none) (hroom : A.depth + 5 < recursionLimit) (hu : A.units + 120 < cLine)
    (good : ∀ (s₀ s' : Shared) S' mas' mm', LH prog w fs nums L S' 70 s₀.heap mas' → S'.Ok L → (∀ items, ¬ IsTup s₀.heap S'.it items) → Kept (· = S'.it) s₀.heap s'.heap → Fq w G L s'.heap mm' → Nm S' mm' → SameX s s' → Q .next s') :
    wpAny (model prog w) A (exec st (lawEnv L f cd)) Q E s := by
  with_unfolding_all change some (Stmt.For (.Name "k" _) _ _ [] _) = some st at hst
  obtain rfl := Option.some.inj hst
  clear hst
  obtain ⟨n1, n2, n3, n4, n5⟩ := nm
  obtain ⟨im, pM0, aM⟩ := x.pM
  have pM := pM0.at fun o e => kp _ o (Ne.symm so.it_ne.1) e
  have zM : im.size = mas.length := by rw [← aM.length, Array.length_toList]
  have few := x.few
  refine wpAny_For (Call_ (q_bi F (by kernel_rfl) boot_range (by decide) (PySem.Pv.callWith_type1 ?_)))
  refine args_cons (Call_ (q_bi F (by kernel_rfl) boot_len (by decide) (PyProof.Rows.callWith_builtin1 ?_)))
  refine args_cons (q_ld F n3 (args_nil (PyProof.Rows.len_list pM.isList (by rw [zM]; omega) ?_)))
  refine args_nil (call_range_1 ?_)
  rw [zM]
  refine wpAny_pyIter_range (IsRange.new ..) (small_one (by omega) (by omega) (by omega) (by omega)) ?_
  rw [show Builtin.Range.rangeSize 0 (mas.length : Int) 1 = mas.length by rw [rangeSize_one]; split <;> omega]
  generalize hr : ({ cls := Value.type "range", data := Data.fields #[Value.int 0 _, Value.int (mas.length : Int) _, Value.int 1 _] } : Obj) = ro
  generalize hI : (s.heap.push ro).objs.size = I
  have hIs : I = s.heap.objs.size + 1 := by rw [← hI]; simp
  have S₂ : s.heap.StaysIn ((s.heap.push ro).push { cls := .type "range_iterator", data := .fields #[rawInt 0, rawInt (mas.length : Int), rawInt 1] }) := fun b o e => Heap.get?_push_of_some _ (Heap.get?_push_of_some _ e)
  have eI := Heap.get?_push_at (h := s.heap.push ro) (o := { cls := .type "range_iterator", data := .fields #[rawInt 0, rawInt (mas.length : Int), rawInt 1] }) hI.symm rfl
  generalize (s.heap.push ro).push { cls := .type "range_iterator", data := .fields #[rawInt 0, rawInt (mas.length : Int), rawInt 1] } = h₂ at S₂ eI
  obtain ⟨x₂, so₂⟩ := x.reit so (h' := h₂) (fun a o ha e => S₂ a o (kp a o ha e)) hnt eI (.inr fun a o ha e => by rw [hIs]; exact Nat.lt_succ_of_lt (Heap.lt_size (kp a o ha e)))
  have hLI : L ≠ I := by rw [hIs]; exact Nat.ne_of_lt (Nat.lt_succ_of_lt F.lt)
  have hGI : G.get? I = none := get_none hG (by rw [hIs]; exact Nat.le_of_lt (Nat.lt_succ_of_lt F.lt))
  refine forL (A := A) (Walks.range hh I 0 1 mas.length) (fun _ _ _ _ _ _ h => wpAny_pure h)
    (fun i s₁ => ∃ S' mas' mm', LoopJ prog w fs nums G L I (64 + i) s s₁ (mas'.length = mas.length) True S' mas' mm')
    (by simpa [IsRangeIter] using eI) ⟨{ S with it := I, io := { cls := .type "range_iterator", data := .fields #[rawInt 0, rawInt (mas.length : Int), rawInt 1] } }, mas, mm, rfl, rfl, rfl, so₂, x₂, F.keeps S₂, ⟨n1, n2, n3, n4, n5⟩, trivial, ⟨rfl, rfl⟩⟩ ?_ ?_
  · rintro i v s₀ h' tk hi ⟨t, rfl⟩ ⟨S', mas', mm', hit, hml, hio, so', x', F', nm', _, hX'⟩ hS hk
    have kp : Kept (· = S'.it) s₀.heap h' := fun b o hb e => hk b o (by simpa [hit] using hb) e
    have hnt' : ∀ items, ¬ IsTup s₀.heap S'.it items := fun items ht => by
      obtain ⟨o, e, hcl, _⟩ := ht
      rw [x'.pI] at e; cases e
      rw [hio] at hcl
      exact absurd hcl (by decide)
    obtain ⟨x₃, so₃⟩ := x'.reit so' kp hnt' (it' := S'.it) (by rw [hit]; exact hS) (.inl rfl)
    have F₃ : Fq w G L h' mm' := F'.kept kp (by rw [hit]; exact hLI) (fun b hb => by rw [hb, hit]; exact hGI)
    rw [n_one i]
    obtain ⟨n1, n2, n3, n4, n5⟩ := nm'
    refine q_assignName (s := { s₀ with heap := h', toks := tk }) F₃ fun h₄ tk₄ F₄ s₄ => ?_
    dsimp only at F₄ s₄ ⊢
    have x₄ := x₃.frame so₃ F₃ (Kept.of_sameBut s₄)
    have hi' : i < mas'.length := by omega
    refine wpAny_execs_cons (wpAny_If (isTrue_not (isTrue_plain (settle_call (s := { s₀ with heap := h₄, toks := tk₄ }) (m := mas'[i]) x₄ so₃ F₄ hG ⟨n1, n2, n3, n4, n5⟩ rfl (List.getElem?_eq_getElem hi') (by omega) (by omega) hA hh hroom hu fun s₅ m' _ _ _ x₅ F₅ _ hX₅ => wpAny_truthy_bool ?_))))
    rw [if_neg (by decide)]
    refine wpAny_execs_nil ?_
    dsimp only
    have p5 := x₅.pI
    refine wpAny_execs_nil ⟨⟨_, _, _, ?_, ?_, ?_, so₃, x₅, F₅, ⟨n1, n2, n3, n4, n5⟩, trivial, hX'.trans hX₅⟩, ?_⟩
    · exact hit
    · rw [List.length_set]; exact hml
    · rfl
    · rw [← hit]; exact p5
  · rintro s₀ h' tk ⟨S', mas', mm', hit, hml, hio, so', x', F', nm', _, hX'⟩ hk
    have kp : Kept (· = S'.it) s₀.heap h' := fun b o hb e => hk b o (by simpa [hit] using hb) e
    have hnt' : ∀ items, ¬ IsTup s₀.heap S'.it items := fun items ht => by
      obtain ⟨o, e, hcl, _⟩ := ht
      rw [x'.pI] at e; cases e
      rw [hio] at hcl
      exact absurd hcl (by decide)
    have F₃ : Fq w G L h' mm' := F'.kept kp (by rw [hit]; exact hLI) (fun b hb => by rw [hb, hit]; exact hGI)
    exact good s₀ { s₀ with heap := h', toks := tk } S' mas' mm' (x'.more (by omega)) so' hnt' kp F₃ nm' hX'
end
end Mine
-- OJ
namespace Mine
section
variable {prog : Program} {w : World} {A : Around} {E : Value → Shared → Prop} {s : Shared} {G : Heap} {fs nums : List Int} {L f : Addr} {cd : Value} {S : Six} {N : Nat} {m : Ma} {mas : List Ma} {mm : PySem.Str → Option Value} {Q : Flow → Shared → Prop}
set_option maxRecDepth 100000 in
set_option maxHeartbeats 4000000 in
/-- `return _law_as_due(machines, books, ways, flags)` -/
theorem last_piece {st : Stmt} (hst : (lawBody w.params)[9]? = some st) {h₀ : Heap} (x : LH prog w fs nums L S N h₀ mas) (so : S.Ok L) (hnt : ∀ items, ¬ IsTup h₀ S.it items) (kp : Kept (· = S.it) h₀ s.heap) (F : Fq w G L s.heap mm) (nm : Nm S mm)
    (hh : A.handled = none) (hroom : A.depth + 5 < recursionLimit) (hu : A.units + 120 < cLine)
    (good : ∀ s', s.heap.StaysIn s'.heap → SameX s s' → Q (.ret (.bool true)) s') :
    wpAny (model prog w) A (exec st (lawEnv L f cd)) Q E s := by
  with_unfolding_all change some (Stmt.Return (some _) _) = some st at hst
  obtain rfl := Option.some.inj hst
  clear hst
  obtain ⟨n1, n2, n3, n4, n5⟩ := nm
  obtain ⟨i1, i2, i3, i6⟩ := so.it_ne
  obtain ⟨i4, i5⟩ := so.it_ne2
  have K := F.g.K.keeps F.keep
  have yi := so.young _ S.memI
  have c1 : L + 1 ≠ S.it := Nat.ne_of_lt (Nat.lt_trans (Nat.lt_succ_self _) yi)
  have tup : ∀ a items, IsTup h₀ a items → a ≠ S.it := fun a items ht q => hnt items (q ▸ ht)
  obtain ⟨im, pM, aM⟩ := x.pM
  obtain ⟨ib, pB, aB⟩ := x.pB
  obtain ⟨ifl, pF, aF⟩ := x.pF
  obtain ⟨iy, ps, pY, aY, _⟩ := x.pY
  have pool := x.pool.kept kp fun a ha => ⟨fun n hn' q => x.pool.lists n hn' _ S.memI (ha ▸ q), fun items ht => tup a items ht ha⟩
  refine wpAny_Return_some (Call_ (q_glob F (v := .ref 91) (by kernel_rfl) (callWith_K K (by kernel_rfl) ?_)))
  refine args_cons (q_ld F n3 (args_cons (q_ld F n4 (args_cons (wpAny_Name (wpAny_loadName_cell (c := L + 1) (v := .ref S.ly) rfl rfl rfl (isCell_keeps x.cY fun o e => kp _ o c1 e) ?_) (by decide))))))
  refine args_cons (q_ld F n2 (args_nil ⟨K, ?_⟩))
  exact wpAny_callK (asdue_spec F.g F.keep (by omega) (by omega) hh (pM.at fun o e => kp _ o (Ne.symm i1) e) aM (pB.at fun o e => kp _ o (Ne.symm i2) e) aB (pY.at fun o e => kp _ o (Ne.symm i6) e) (aY.imp fun v z hz => hz.tups2 fun c its ht o e => kp c o (tup c its ht) e)
    (pF.at fun o e => kp _ o (Ne.symm i4) e) aF (by have := x.few; omega) (fun m hm => ⟨(pool.each m hm).mach, (pool.each m hm).book⟩) (fun m hm p i _ => (pool.each m hm).sound.agree p i) fun s₂ S₂ hX₂ => good s₂ S₂ hX₂)
end
end Mine
-- OK
namespace Mine
section
variable {prog : Program} {w : World} {A : Around} {E : Value → Shared → Prop} {s : Shared} {G : Heap} {fs nums : List Int} {L f : Addr} {cd : Value} {S : Six} {N : Nat} {m : Ma} {mas : List Ma} {mm : PySem.Str → Option Value} {Q : Flow → Shared → Prop}
theorem ints_all {vs : List Value} {ns : List Int} (h : IntsAre vs ns) : AllAt (fun v (j : Int) => ∃ t, v = .int j t) vs ns := by
  induction h with
  | nil => exact .nil
  | cons i t _ ih => exact .cons ⟨t, rfl⟩ ih

/-- `x = []` -/
theorem empty_piece {x : PySem.Str} {p1 p2 p3 : Pos} (F : Fq w G L s.heap mm) (hx : (lawEnv L f cd).kindOf x = some .local)
    (good : ∀ h' tk, Fq w G L h' (fun y => if y = x then some (.ref s.heap.objs.size) else mm y) → h'.PlainList s.heap.objs.size #[] → Kept (· = L) s.heap h' → Q .next { s with heap := h', toks := tk })
    (hs : swapsWith (.List [] p2) (some (.Name x p1)) p3.line (lawEnv L f cd) = pure false) :
    wpAny (model prog w) A (exec (.Assign [.Name x p1] (.List [] p2) p3) (lawEnv L f cd)) Q E s := by
  have kl : s.heap.StaysIn (s.heap.push { cls := .type "list", data := .seq #[] }) := fun b ob e => Heap.get?_push_of_some _ e
  refine wpAny_Assign_Name (wpAny_List (args_nil ⟨by rw [sizeLine_is]; decide, ?_⟩)) hs
  refine q_st (s := { s with heap := s.heap.push { cls := .type "list", data := .seq #[] } }) (F.keeps kl) (fun h' tk F' s' => ?_) rfl hx
  exact good h' tk F' ⟨0, s'.extBut _ _ (Nat.ne_of_gt F.lt) (Heap.get?_push_size _ rfl)⟩ fun a o ha e => s'.extBut a o ha (kl a o e)

/-- the six lists at their start -/
theorem LH.start {h : Heap} {iF iN : Array Value} {lm lb lw lf ln ly it : Addr} {io : Obj} (pM : h.PlainList lm #[]) (pB : h.PlainList lb #[]) (pW : h.PlainList lw #[])
    (pF : h.PlainList lf iF) (aF : AllAt (fun v (j : Int) => ∃ t, v = .int j t) iF.toList fs) (pN : h.PlainList ln iN) (aN : AllAt (fun v (j : Int) => ∃ t, v = .int j t) iN.toList nums)
    (pY : h.PlainList ly #[]) (cY : h.IsCell (L + 1) (some (.ref ly))) (room : ∃ o, h.get? (L + 2) = some o) (pI : h.get? it = some io) : LH prog w fs nums L ⟨lm, lb, lw, lf, ln, ly, it, io, 0⟩ 0 h [] :=
  ⟨⟨_, pM, .nil⟩, ⟨_, pB, .nil⟩, ⟨_, pW, .nil⟩, ⟨_, pF, aF⟩, ⟨_, pN, aN⟩, ⟨_, [], pY, .nil, Nat.zero_le _⟩, cY,
    ⟨fun _ q => (nomatch q), fun _ q => (nomatch q), .nil, fun _ q => (nomatch q)⟩, Nat.zero_le _, fun _ q => (nomatch q), room, pI⟩
theorem six_ok {lm lb lw lf ln ly it L : Nat} {io : Obj} (h0 : L + 2 < it) (h1 : it < ln) (h2 : ln < lf) (h3 : lf < lm) (h4 : lm < lb) (h5 : lb < lw) (h6 : lw < ly) : Six.Ok ⟨lm, lb, lw, lf, ln, ly, it, io, 0⟩ L := by
  have a1 := Nat.lt_trans h0 h1
  have a2 := Nat.lt_trans a1 h2
  have a3 := Nat.lt_trans a2 h3
  have a4 := Nat.lt_trans a3 h4
  have a5 := Nat.lt_trans a4 h5
  have a6 := Nat.lt_trans a5 h6
  have b2 := Nat.lt_trans h1 h2
  have b3 := Nat.lt_trans b2 h3
  have b4 := Nat.lt_trans b3 h4
  have b5 := Nat.lt_trans b4 h5
  have b6 := Nat.lt_trans b5 h6
  have c3 := Nat.lt_trans h2 h3
  have c4 := Nat.lt_trans c3 h4
  have c5 := Nat.lt_trans c4 h5
  have c6 := Nat.lt_trans c5 h6
  have d4 := Nat.lt_trans h3 h4
  have d5 := Nat.lt_trans d4 h5
  have d6 := Nat.lt_trans d5 h6
  have e5 := Nat.lt_trans h4 h5
  have e6 := Nat.lt_trans e5 h6
  have f6 := Nat.lt_trans h5 h6
  constructor
  · simp only [Six.all, List.nodup_cons, List.mem_cons, List.not_mem_nil, or_false, not_or, List.nodup_nil, not_false_eq_true, and_true]
    refine ⟨⟨?_, ?_, ?_, ?_, ?_, ?_⟩, ⟨?_, ?_, ?_, ?_, ?_⟩, ⟨?_, ?_, ?_, ?_⟩, ⟨?_, ?_, ?_⟩, ⟨?_, ?_⟩, ?_⟩ <;> first | exact Nat.ne_of_lt (by assumption) | exact Nat.ne_of_gt (by assumption)
  · intro a ha
    simp only [Six.all, List.mem_cons, List.not_mem_nil, or_false] at ha
    show L + 2 < (a : Nat)
    rcases ha with rfl | rfl | rfl | rfl | rfl | rfl | rfl <;> assumption

set_option maxRecDepth 100000 in
set_option maxHeartbeats 4000000 in
theorem law_top {sts : List Stmt} (hst : lawBody w.params = sts) {sc : Addr} {vs : List Value} {script : List Int} {c1 c2 : Option Value} (F : Fq w G L s.heap mm) (hG : G.objs.size ≤ L) (e0 : mm "script" = some (.ref sc)) (hsc : s.heap.IsList sc vs.toArray) (hsi : IntsAre vs script) (hsl : script.length ≤ 63)
    (hc1 : s.heap.IsCell (L + 1) c1) (hc2 : s.heap.IsCell (L + 2) c2) (hA : A.frames = some [lawEnv L f cd]) (hh : A.handled = none) (hroom : A.depth + 5 < recursionLimit) (hu : A.units + 120 < cLine)
    (good : ∀ s', G.StaysIn s'.heap → SameX s s' → Q (.ret (.bool true)) s') :
    wpAny (model prog w) A (execs sts (lawEnv L f cd)) Q E s := by
  with_unfolding_all change [Stmt.Assign [.Name "script" _] (.Subscript _ (.Slice none (some (.Constant (.int 63) _ _)) none _) _) _, Stmt.Assign [.Name "numbers" _] _ _, Stmt.Assign [.Name "flags" _] _ _, Stmt.Assign [.Name "machines" _] _ _, Stmt.Assign [.Name "books" _] _ _, Stmt.Assign [.Name "waits" _] _ _, Stmt.Assign [.Name "ways" _] _ _, _, _, _] = sts at hst
  subst hst
  have hvl : vs.length = script.length := hsi.length
  -- script = script[:63]
  refine wpAny_execs_cons (wpAny_Assign_Name (wpAny_Subscript_list_slice (q_ld F e0 (evalPart_none_step (evalPart_some_step (wpAny_Constant_int ⟨sc, vs.toArray, none, some 63, rfl, hsc, by rw [sizeLine_is, List.size_toArray]; omega, .none, .int 63 _, ?_⟩))))))
  have hpick := slice_ints_uptoW hsi (y := 63) (by decide)
  rw [show script.take (63 : Int).toNat = script from List.take_of_length_le (by simpa using hsl)] at hpick
  generalize slicePick vs.toArray none (some 63) none = items at hpick
  have k₁ : s.heap.StaysIn ((s.heap.push { cls := .type "slice", data := .fields #[.none, .int 63 s.toks, .none] }).push { cls := .type "list", data := .seq items }) := fun b o e => Heap.get?_push_of_some _ (Heap.get?_push_of_some _ e)
  have p₁ : ((s.heap.push { cls := .type "slice", data := .fields #[.none, .int 63 s.toks, .none] }).push { cls := .type "list", data := .seq items }).PlainList (s.heap.objs.size + 1) items := ⟨0, Heap.get?_push_at (by simp) rfl⟩
  dsimp only at k₁ p₁ ⊢
  generalize (s.heap.push { cls := .type "slice", data := .fields #[.none, .int 63 s.toks, .none] }).push { cls := .type "list", data := .seq items } = h₁ at k₁ p₁
  refine q_st (s := { s with heap := h₁, toks := _ }) (F.keeps k₁) fun h₂ tk₂ F₂ s₂ => ?_
  dsimp only at s₂ ⊢
  have hz : items.size = script.length := by have := hpick.length; rwa [Array.length_toList] at this
  have k₂ : Kept (· = L) h₁ h₂ := Kept.of_sameBut s₂
  have p₂ : h₂.PlainList (s.heap.objs.size + 1) items := p₁.at fun o e => k₂ _ o (fun q => absurd F.lt (Nat.not_lt.mpr (q ▸ Nat.le_succ _))) e
  -- numbers = [0] + script
  refine wpAny_execs_cons (wpAny_Assign_Name (wpAny_BinOp (wpAny_List (args_cons (wpAny_Constant_int (args_nil ⟨by rw [sizeLine_is]; show 1 ≤ _; decide, ?_⟩))))))
  have kl : ∀ (h : Heap) (o : Obj), h.StaysIn (h.push o) := fun h o b ob e => Heap.get?_push_of_some _ e
  generalize hT : h₂.objs.size = T
  have pT : (h₂.push { cls := .type "list", data := .seq [Value.int 0 tk₂].toArray }).PlainList T #[Value.int 0 tk₂] := ⟨0, Heap.get?_push_at hT.symm rfl⟩
  dsimp only
  refine q_ld (F₂.keeps (kl _ _)) rfl (add_lists' pT.isList (p₂.at fun o e => kl _ _ _ _ e).isList (by rw [sizeLine_is, hz]; show 1 + _ ≤ _; omega) ?_)
  have k₃ : h₂.StaysIn ((h₂.push { cls := .type "list", data := .seq [Value.int 0 tk₂].toArray }).push { cls := .type "list", data := .seq (#[Value.int 0 tk₂] ++ items) }) := fun b o e => kl _ _ _ _ (kl _ _ _ _ e)
  have pN : ((h₂.push { cls := .type "list", data := .seq [Value.int 0 tk₂].toArray }).push { cls := .type "list", data := .seq (#[Value.int 0 tk₂] ++ items) }).PlainList (T + 1) (#[Value.int 0 tk₂] ++ items) := ⟨0, Heap.get?_push_at (by simp [hT]) rfl⟩
  have hTs : (h₂.push { cls := .type "list", data := .seq [Value.int 0 tk₂].toArray }).objs.size = T + 1 := by simp [hT]
  dsimp only
  rw [hTs]
  have pT3 := pT.at fun o e => kl _ { cls := .type "list", data := .seq (#[Value.int 0 tk₂] ++ items) } _ _ e
  generalize (h₂.push { cls := .type "list", data := .seq [Value.int 0 tk₂].toArray }).push { cls := .type "list", data := .seq (#[Value.int 0 tk₂] ++ items) } = h₃ at k₃ pN pT3
  refine q_st (s := { s with heap := h₃, toks := _ }) (F₂.keeps k₃) fun h₄ tk₄ F₄ s₄ => ?_
  dsimp only at s₄ ⊢
  have k₄ : Kept (· = L) h₃ h₄ := Kept.of_sameBut s₄
  have hTL : L < T := hT ▸ F₂.lt
  have pT4 : h₄.PlainList T #[Value.int 0 tk₂] := pT3.at fun o e => k₄ _ o (Nat.ne_of_gt hTL) e
  have pN4 : h₄.PlainList (T + 1) (#[Value.int 0 tk₂] ++ items) := pN.at fun o e => k₄ _ o (Nat.ne_of_gt (Nat.lt_succ_of_lt hTL)) e
  have aN : AllAt (fun v (j : Int) => ∃ t, v = .int j t) (#[Value.int 0 tk₂] ++ items).toList (0 :: script) := by
    rw [Array.toList_append]
    exact .cons ⟨_, rfl⟩ (ints_all hpick)
  have zN : (#[Value.int 0 tk₂] ++ items).size = script.length + 1 := by rw [← Array.length_toList, aN.length]; rfl
  generalize #[Value.int 0 tk₂] ++ items = nitems at pN4 aN zN
  -- flags
  obtain ⟨vl, hvl', tl, hlast⟩ := aN.at (k := script.length) (x := (0 :: script)[script.length]'(by simp)) (List.getElem?_eq_getElem _)
  rw [Array.getElem?_toList] at hvl'
  generalize (0 :: script)[script.length]'(by simp) = last at hlast
  subst hlast
  refine wpAny_execs_cons (wpAny_Assign_Name (wpAny_List (args_cons (wpAny_Constant_int (args_cons (wpAny_Constant_int (args_cons (Subscript_ (q_ld F₄ rfl (wpAny_UnaryOp (wpAny_Constant_int (neg_int ?_))))))))))))
  have hm1 : ((-1 : Int) + (nitems.size : Int)).toNat = script.length := by rw [zN]; exact n_back _
  refine tail_any pN4.isList.typeIs slot_list_getitem.lookup (wpAny_getItem_list_neg pN4.isList (x := .int last tl) (by decide) (by rw [zN]; omega) (by decide) (by rw [hm1]; exact hvl') ?_) rfl
  refine args_nil ⟨by rw [sizeLine_is]; show 3 ≤ _; decide, ?_⟩
  dsimp only
  generalize hFA : h₄.objs.size = FA
  have hTF : T + 1 < FA := by obtain ⟨n, e⟩ := pN4; exact hFA ▸ Heap.lt_size e
  refine q_st (F₄.keeps (kl h₄ _)) fun h₆ tk₆ F₆ s₆ => ?_
  dsimp only at F₆ s₆ ⊢
  have k₆ : Kept (· = L) h₄ h₆ := fun a o ha e => s₆.extBut a o ha (kl _ _ _ _ e)
  have hLF : L < FA := Nat.lt_trans hTL (Nat.lt_trans (Nat.lt_succ_self T) hTF)
  have pF6 := (show ∃ t1 t2 t3, h₆.PlainList FA #[.int 0 t1, .int 1 t2, .int last t3] from ⟨_, _, _, 0, s₆.extBut _ _ (Nat.ne_of_gt hLF) (Heap.get?_push_at hFA.symm rfl)⟩)
  obtain ⟨t1, t2, t3, pF6⟩ := pF6
  have K₆ : Kept (· = L) s.heap h₆ := fun a o ha e => k₆ a o ha (k₄ a o ha (k₃ a o (k₂ a o ha (k₁ a o e))))
  have pN6 := pN4.at fun o e => k₆ _ o (Nat.ne_of_gt (Nat.lt_succ_of_lt hTL)) e
  have pT6 := pT4.at fun o e => k₆ _ o (Nat.ne_of_gt hTL) e
  have ltp : ∀ {h : Heap} {a : Addr} {i : Array Value}, h.PlainList a i → a < h.objs.size := fun ⟨_, e⟩ => Heap.lt_size e
  have hLT : L + 2 < T := by
    obtain ⟨o, e, _⟩ := hc2
    exact hT ▸ Heap.lt_size (k₂ _ o (Nat.ne_of_gt (Nat.lt_succ_of_lt (Nat.lt_succ_self L))) (k₁ _ o e))
  -- machines
  refine wpAny_execs_cons (empty_piece F₆ rfl (fun h₇ tk₇ F₇ pM k₇ => ?_) rfl)
  dsimp only at F₇ pM k₇ ⊢
  refine wpAny_execs_cons (empty_piece (s := { s with heap := h₇, toks := tk₇ }) F₇ rfl (fun h₈ tk₈ F₈ pB k₈ => ?_) rfl)
  dsimp only at F₈ pB k₈ ⊢
  refine wpAny_execs_cons (empty_piece (s := { s with heap := h₈, toks := tk₈ }) F₈ rfl (fun h₉ tk₉ F₉ pW k₉ => ?_) rfl)
  dsimp only at F₉ pW k₉ ⊢
  have K₉ : Kept (· = L) h₆ h₉ := fun a o ha e => k₉ a o ha (k₈ a o ha (k₇ a o ha e))
  -- ways
  have hc₉ : h₉.IsCell (L + 1) c1 := isCell_keeps hc1 fun o e => K₉ _ o (Nat.ne_of_gt (Nat.lt_succ_self L)) (K₆ _ o (Nat.ne_of_gt (Nat.lt_succ_self L)) e)
  refine wpAny_execs_cons (wpAny_Assign_Name (wpAny_List (args_nil ⟨by rw [sizeLine_is]; decide, ?_⟩)))
  refine wpAny_storeName_cell (c := L + 1) rfl rfl rfl (isCell_keeps hc₉ fun o e => kl _ _ _ _ e) fun hA' hcY sb => ?_
  dsimp only at hcY sb ⊢
  have kY : Kept (· = L + 1) h₉ hA' := fun a o ha e => sb.extBut a o ha (kl _ _ _ _ e)
  generalize hYA : h₉.objs.size = YA at hcY sb
  have hML : L < h₆.objs.size := F₆.lt
  have hBL : L < h₇.objs.size := F₇.lt
  have hWL : L < h₈.objs.size := F₈.lt
  have o1 : FA < h₆.objs.size := ltp pF6
  have o2 : h₆.objs.size < h₇.objs.size := ltp pM
  have o3 : h₇.objs.size < h₈.objs.size := ltp pB
  have o4 : h₈.objs.size < YA := hYA ▸ ltp pW
  have kL : ∀ {a : Addr}, L + 1 < a → a ≠ L := fun q => Nat.ne_of_gt (Nat.lt_of_succ_lt q)
  have kC : ∀ {a : Addr}, L + 1 < a → a ≠ L + 1 := fun q => Nat.ne_of_gt q
  have z0 : L + 1 < T := Nat.lt_of_succ_lt hLT
  have z1 : L + 1 < T + 1 := Nat.lt_succ_of_lt z0
  have z2 : L + 1 < FA := Nat.lt_trans z1 hTF
  have z3 := Nat.lt_trans z2 o1
  have z4 := Nat.lt_trans z3 o2
  have z5 := Nat.lt_trans z4 o3
  have z6 := Nat.lt_trans z5 o4
  have up : ∀ {a : Addr} {i : Array Value}, L + 1 < a → h₉.PlainList a i → hA'.PlainList a i := fun q p => p.at fun o e => kY _ o (kC q) e
  have pM9 := up z3 (pM.at fun o e => k₉ _ o (kL z3) (k₈ _ o (kL z3) e))
  have pB9 := up z4 (pB.at fun o e => k₉ _ o (kL z4) e)
  have pW9 := up z5 pW
  have pF9 := up z2 (pF6.at fun o e => K₉ _ o (kL z2) e)
  have pN9 := up z1 (pN6.at fun o e => K₉ _ o (kL z1) e)
  have pT9 := up z0 (pT6.at fun o e => K₉ _ o (kL z0) e)
  have pY9 : hA'.PlainList YA #[] := ⟨0, sb.extBut _ _ (kC z6) (Heap.get?_push_at hYA.symm rfl)⟩
  have c29 : hA'.IsCell (L + 2) c2 := isCell_keeps hc2 fun o e => kY _ o (Nat.ne_of_gt (Nat.lt_succ_self _)) (K₉ _ o (Nat.ne_of_gt (Nat.lt_succ_of_lt (Nat.lt_succ_self L))) (K₆ _ o (Nat.ne_of_gt (Nat.lt_succ_of_lt (Nat.lt_succ_self L))) e))
  have FY := F₉.kept kY (Nat.ne_of_lt (Nat.lt_succ_self L)) (fun b hb => by subst hb; exact get_none hG (Nat.le_succ L))
  obtain ⟨nT, eT⟩ := id pT9
  have aF9 : AllAt (fun v (j : Int) => ∃ t, v = .int j t) (#[Value.int 0 t1, Value.int 1 t2, Value.int last t3]).toList [0, 1, last] := .cons ⟨_, rfl⟩ (.cons ⟨_, rfl⟩ (.cons ⟨_, rfl⟩ .nil))
  have so : Six.Ok ⟨h₆.objs.size, h₇.objs.size, h₈.objs.size, FA, T + 1, YA, T, { cls := .type "list", data := .seq #[Value.int 0 tk₂] nT }, 0⟩ L := six_ok hLT (Nat.lt_succ_self T) hTF o1 o2 o3 o4
  have x : LH prog w [0, 1, last] (0 :: script) L ⟨h₆.objs.size, h₇.objs.size, h₈.objs.size, FA, T + 1, YA, T, { cls := .type "list", data := .seq #[Value.int 0 tk₂] nT }, 0⟩ 0 hA' [] :=
    LH.start pM9 pB9 pW9 pF9 aF9 pN9 aN pY9 hcY ⟨_, c29.choose_spec.1⟩ eT
  refine wpAny_execs_cons (loop1 (s := { s with heap := hA', toks := tk₉ }) (by with_unfolding_all rfl) (by simp; omega) x so rfl (fun items ht => plain_not_tup pT9 items ht) FY hG ⟨rfl, rfl, rfl, rfl, rfl⟩ ⟨_, c29⟩ rfl hA hh hroom hu fun s₀ sa Sa masa mma xa soa hna kpa _ Fa nma hXa => ?_)
  dsimp only
  refine wpAny_execs_cons (loop2 (by with_unfolding_all rfl) xa soa hna kpa Fa hG nma rfl hA hh hroom hu fun s₀ sb Sb masb mmb xb sob hnb kpb Fb nmb hXb => ?_)
  dsimp only
  refine wpAny_execs_cons (last_piece (by with_unfolding_all rfl) xb sob hnb kpb Fb nmb hh hroom hu fun sc' Sc hXc => ?_)
  exact good sc' (fun b o e => Sc _ _ (Fb.keep b o e)) (hXa.trans (hXb.trans hXc))
end
end Mine
-- OL
set_option maxRecDepth 100000 in
set_option maxHeartbeats 8000000 in
theorem PySem.Challenge.cw_kq0030_01_holds : PySem.Challenge.rw_kq0030_01.Holds := by
  refine Mine.hd ?_
  k_go0
  all_goals (
    rename Top _ _ _ _ _ _ => T
    rename Frag.In _ _ => KX
    rename Fr _ _ _ _ => F
    rename News _ _ _ _ => N0
    rename IntsAre _ _ => hI
    rename ∃ o, _ => hL
    rename ¬ (_ < _) => hcond
    rename Shared.gens _ = _ => hg
    have g : Mine.Gd _ _ := ⟨KX, _, _, topRead_of T⟩
    refine' Mine.law_top ?hst ?F ?hG ?e0 ?hsc ?hsi ?hsl ?hc1 ?hc2 ?hA ?hh ?hroom ?hu ?good
    case hsc => exact Heap.IsList.at hL fun o e => F.keep _ o e
    case hsi => exact hI
    case hc1 => exact ⟨_, N0.get (.tail _ (.head _)), by assumption⟩
    case hc2 => exact ⟨_, N0.get (.head _), by assumption⟩
    case hst => with_unfolding_all rfl
    case F => exact Mine.Fq.of_fr g F (Mine.fresh_size _)
    case hG => exact Nat.le_refl _
    case e0 => rfl
    case hsl => omega
    case hA => rfl
    case hh => rfl
    case hroom => show 1 + claimMargin + 1 + 5 < recursionLimit; decide +kernel
    case hu => show 4 + 3 + 120 < cLine; decide +kernel
    case good =>
      intro s' hk hX
      refine ⟨.inl ⟨_, .bool true, [], rfl, raisesW_false ?_, .bool _, ?_, unshared_nil⟩, hk, hX.1, hX.2.trans hg⟩
      · wrow_none_raised
      · wrow_post)
