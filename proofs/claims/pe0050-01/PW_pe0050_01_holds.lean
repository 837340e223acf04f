import PyProof.Rows.All
import Wide.All
import OpenK.AllK
import Wide.FinOn
import PySem.Challenge.RW_pe0050_01
set_option Elab.async false
set_option linter.unusedSimpArgs false
set_option linter.unusedVariables false
section
open PySem PySem.W PyProof.Rows
set_option maxRecDepth 100000
set_option maxHeartbeats 8000000
namespace Mine
open_top hd for PySem.Challenge.rw_pe0050_01
end Mine
end
section
open PySem PySem.W PySem.Calls PyProof.Rows
set_option maxRecDepth 100000
set_option maxHeartbeats 8000000
namespace Mine
noncomputable abbrev PR : Program := PySem.Challenge.rw_pe0050_01.row.prog
noncomputable abbrev KF (w : World) : Frag := Mine.hd.heap_39 w.params
abbrev AA (dp : Nat) (fr : Option (List Env)) (gd : Option (List Code)) (un : Nat) : Around := ⟨none, dp, fr, gd, un⟩
theorem enter {prog : Program} {w : World} {K : Frag} {p : Program} {loose : List Str} {mean : ExcName → Option Value} {mg mb : Str → Option Value} {A : Around} {E : Value → Shared → Prop} {s : Shared} {Q : Value → Shared → Prop} {name qual : Str} {params : Arguments} {body : List Stmt} {scope : Scope} {dV kV doc pm cdv ct oc : Value} {an od : Option Addr} {osl : Array (Option Value)} {f : Addr} {args : List Value} {binds : List (Str × Value)}
    (X : K.In s.heap) (T : Top p loose mean mg mb s.heap)
    (ho : K.lookup f = some ⟨oc, od, .func (fnOf name qual params body scope dV kV doc pm an cdv ct), osl⟩) (hcd : codeIn K cdv qual = true) (hroom : A.depth < recursionLimit)
    (hbind : BindsTo s (fnOf name qual params body scope dV kV doc pm an cdv ct) ⟨args, []⟩ binds) (hloc : ∀ y ∈ binds, scope.names.lookup y.1 = some .local)
    (h : ∀ h₁, Fr s.heap s.heap.objs.size h₁ (fun y => binds.reverse.lookup y) → News s.heap s.heap.objs.size h₁ [] →
      wpAny (model prog w) (A.deeper (envOf qual scope s.heap.objs.size f cdv)) (execs body (envOf qual scope s.heap.objs.size f cdv))
        (fun fl s' => Q (match fl with | .ret v => v | _ => .none) s') (fun _ _ => False) { s with heap := h₁, toks := s.toks + binds.length })
    (hco : scope.isCoroutine = false) (hgen : scope.isGenerator = false) (hk : scope.kind = .function)
    (hcell : ∀ x ∈ scope.names, x.2 ≠ .cell) : wpAny (model prog w) A (call (.ref f) args) Q E s := by
  refine wpAny_call ?_
  refine codeAny_call_def (fd := fnOf name qual params body scope dV kV doc pm an cdv ct) (body := body) (binds := binds) hroom (X _ _ ho) rfl T.nolimit (codeRec_of X hcd) rfl hbind hcell hloc (fun h₁ hns hk₁ => ?_) hco hgen hk
  exact wpAny_mono (h h₁ ⟨hns, hk₁, Nat.le_refl _⟩ News.nil) (fun fl s' hl => hl) fun _ _ y => y.elim
end Mine
namespace Mine
def Kp (h h' : Heap) : Prop := ∀ b o, h.get? b = some o → h'.get? b = some o
theorem Kp.trans {a b c : Heap} (x : Kp a b) (y : Kp b c) : Kp a c := fun b o e => y b o (x b o e)
theorem Kp.refl (a : Heap) : Kp a a := fun _ _ e => e
/-- a tree that keeps every object, and ends by a value and a heap of which P says something -/
def Spec (w : World) (A : Around) (s : Shared) (t : Sem Value) (P : Value → Heap → Prop) : Prop :=
  ∀ (Q E : Value → Shared → Prop), (∀ v h' tk', Kp s.heap h' → P v h' → Q v { s with heap := h', toks := tk' }) → wpAny (model PySem.Challenge.rw_pe0050_01.row.prog w) A t Q E s
theorem Fr.kp {h₀ h h' : Heap} {L : Addr} {m : Str → Option Value} (F : Fr h₀ L h m) (k : Kp h h') : Fr h₀ L h' m := by
  obtain ⟨oL, a1, a2, hL, a3⟩ := F.ns
  exact ⟨⟨oL, a1, a2, k _ _ hL, a3⟩, fun b o e => k _ _ (F.keep b o e), F.above⟩
theorem News.kp {h₀ h h' : Heap} {L : Addr} {news : List (Addr × Obj)} (N : News h₀ L h news) (k : Kp h h') : News h₀ L h' news :=
  fun p hp => ⟨k _ _ (N p hp).1, (N p hp).2⟩
theorem News.put {h₀ h h' : Heap} {L a : Addr} {o : Obj} {m : Str → Option Value} {news : List (Addr × Obj)} (F : Fr h₀ L h m) (N : News h₀ L h news) (k : Kp h h') (ha : h.get? a = none) (e : h'.get? a = some o) : News h₀ L h' ((a, o) :: news) := by
  intro p hp
  rcases List.mem_cons.mp hp with rfl | hp
  · refine ⟨e, fun q => ?_, ?_⟩
    · obtain ⟨oL, _, _, hL, _⟩ := F.ns
      rw [show a = L from q, hL] at ha
      cases ha
    · cases q : h₀.get? a with
      | none => rfl
      | some o' => rw [F.keep _ _ q] at ha; cases ha
  · exact News.kp N k p hp
/-- a new list -/
def NewList (h : Heap) (P : List Value → Prop) (v : Value) (h' : Heap) : Prop :=
  ∃ a vs n, v = .ref a ∧ h.get? a = none ∧ h'.get? a = some (W.listOf vs.toArray n) ∧ P vs
section
variable {w : World} {A : Around} {s : Shared} {t : Sem Value} {h₀ : Heap} {L : Addr} {m : Str → Option Value} {news : List (Addr × Obj)} {Q E : Value → Shared → Prop}
theorem Spec.use {P : Value → Heap → Prop} (S : Spec w A s t P) (F : Fr h₀ L s.heap m) (N : News h₀ L s.heap news)
    (k : ∀ v h' tk', Fr h₀ L h' m → News h₀ L h' news → P v h' → Q v { s with heap := h', toks := tk' }) : wpAny (model PySem.Challenge.rw_pe0050_01.row.prog w) A t Q E s :=
  S Q E fun v h' tk' kp p => k v h' tk' (Fr.kp F kp) (News.kp N kp) p
theorem Spec.useList {P : List Value → Prop} (S : Spec w A s t (NewList s.heap P)) (F : Fr h₀ L s.heap m) (N : News h₀ L s.heap news)
    (k : ∀ a vs n h' tk', Fr h₀ L h' m → News h₀ L h' ((a, W.listOf vs.toArray n) :: news) → (∀ p ∈ news, p.1 ≠ a) → P vs → Q (.ref a) { s with heap := h', toks := tk' }) : wpAny (model PySem.Challenge.rw_pe0050_01.row.prog w) A t Q E s :=
  S Q E fun v h' tk' kp p => by
    obtain ⟨a, vs, n, rfl, ha, he, hp⟩ := p
    exact k a vs n h' tk' (Fr.kp F kp) (News.put F N kp ha he) (fun q hq e => by have := (N q hq).1; rw [e, ha] at this; cases this) hp
end
end Mine
end
section
namespace Mine
def lo (a b : Int) : Int := if b < a then b else a
def hi (a b : Int) : Int := if a < b then b else a
/-- one letter upon a row -/
def stepI (c : Nat) : List Int → List Int
  | [x0, x1, x2, x3] => if c = 97 then [lo x0 x1, hi x0 x1, x2, x3] else if c = 98 then [x0, lo x1 x2, hi x1 x2, x3] else [x0, x1, lo x2 x3, hi x2 x3]
  | r => r
def runI (w : List Nat) (r : List Int) : List Int := w.foldl (fun r c => stepI c r) r
theorem stepI_length (c : Nat) (r : List Int) : (stepI c r).length = r.length := by
  unfold stepI
  split
  · repeat' split
    all_goals rfl
  · rfl
theorem runI_length (w : List Nat) : ∀ r : List Int, (runI w r).length = r.length := by
  induction w with
  | nil => intro r; rfl
  | cons c w ih => intro r; exact (ih _).trans (stepI_length c r)
theorem runI_append (a b : List Nat) (r : List Int) : runI (a ++ b) r = runI b (runI a r) := List.foldl_append
theorem sa1 {x0 x1 x2 x3 : Int} (h : x1 < x0) : stepI 97 [x0, x1, x2, x3] = [x1, x0, x2, x3] := by
  simp only [stepI, lo, hi, if_true, if_pos h]; rw [if_neg (by omega)]
theorem sa0 {x0 x1 x2 x3 : Int} (h : ¬ x1 < x0) : stepI 97 [x0, x1, x2, x3] = [x0, x1, x2, x3] := by
  simp only [stepI, lo, hi, if_true, if_neg h]
  split
  · rfl
  · have : x0 = x1 := by omega
    rw [this]
theorem sb1 {x0 x1 x2 x3 : Int} (h : x2 < x1) : stepI 98 [x0, x1, x2, x3] = [x0, x2, x1, x3] := by
  simp only [stepI, lo, hi, if_true, if_pos h, (by decide : ¬ (98 = 97)), if_false]; rw [if_neg (by omega)]
theorem sb0 {x0 x1 x2 x3 : Int} (h : ¬ x2 < x1) : stepI 98 [x0, x1, x2, x3] = [x0, x1, x2, x3] := by
  simp only [stepI, lo, hi, if_true, if_neg h, (by decide : ¬ (98 = 97)), if_false]
  split
  · rfl
  · have : x1 = x2 := by omega
    rw [this]
theorem sc1 {x0 x1 x2 x3 : Int} (h : x3 < x2) : stepI 99 [x0, x1, x2, x3] = [x0, x1, x3, x2] := by
  simp only [stepI, lo, hi, if_pos h, (by decide : ¬ (99 = 97)), (by decide : ¬ (99 = 98)), if_false]; rw [if_neg (by omega)]
theorem sc0 {x0 x1 x2 x3 : Int} (h : ¬ x3 < x2) : stepI 99 [x0, x1, x2, x3] = [x0, x1, x2, x3] := by
  simp only [stepI, lo, hi, if_neg h, (by decide : ¬ (99 = 97)), (by decide : ¬ (99 = 98)), if_false]
  split
  · rfl
  · have : x2 = x3 := by omega
    rw [this]
def Abc (c : Nat) : Prop := c = 97 ∨ c = 98 ∨ c = 99
end Mine
end
section
open PySem PySem.W PySem.Calls PyProof.Rows
set_option maxRecDepth 100000
set_option maxHeartbeats 8000000
set_option pp.deepTerms false
set_option pp.deepTerms.threshold 8
namespace Mine
theorem idx_lit {prog : Program} {w : World} {A : Around} {E : Value → Shared → Prop} {s : Shared} {Q : Value → Shared → Prop} {x y : Str} {t u : Tok} (k : Int) (hA : A.handled = none) (e : Txt.find x y = k) (h0 : 0 ≤ k) (h : Q (.int k s.toks) { s with toks := s.toks + 1 }) :
    wpAny (model prog w) A (call (.builtin "str.index") [.str x t, .str y u]) Q E s := by
  refine index_or hA (fun h1 => ?_) fun _ _ => e ▸ h
  rw [h1] at e
  omega
theorem ints4 {vs : List Value} {r : List Int} (h : IntsAre vs r) (h4 : r.length = 4) : ∃ i0 i1 i2 i3 t0 t1 t2 t3, vs = [.int i0 t0, .int i1 t1, .int i2 t2, .int i3 t3] ∧ r = [i0, i1, i2, i3] := by
  cases h with
  | nil => cases h4
  | cons i0 t0 h => cases h with
    | nil => cases h4
    | cons i1 t1 h => cases h with
      | nil => cases h4
      | cons i2 t2 h => cases h with
        | nil => cases h4
        | cons i3 t3 h => cases h with
          | nil => exact ⟨_, _, _, _, _, _, _, _, rfl, rfl⟩
          | cons i t h => simp at h4
local macro_rules | `(tactic| k_data) => `(tactic| (refine' enter ?X ?T ?ho ?hcd ?hroom ?hbind ?hloc ?h ?hco ?hgen ?hk ?hcell; (case X => assumption); (case T => assumption); (case ho => k_is); (case hcd => k_is); (case hroom => (dsimp only; omega)); (case hbind => exact BindsTo.of_eq rfl); (case hloc => exact locs rfl); (case hco => exact rfl); (case hgen => exact rfl); (case hk => exact rfl); (case hcell => decide)))
local macro_rules | `(tactic| walk_at "call builtin:str.index") => `(tactic| first | refine idx_lit 0 (by rfl) (by decide +kernel) (by decide) ?_ | refine idx_lit 1 (by rfl) (by decide +kernel) (by decide) ?_ | refine idx_lit 2 (by rfl) (by decide +kernel) (by decide) ?_)
theorem c_ordered {w : World} {p : Program} {loose : List Str} {mean : ExcName → Option Value} {mg mb : Str → Option Value} {dp un : Nat} {fr : Option (List Env)} {gd : Option (List Code)} {s : Shared}
    (X : (Mine.hd.heap_39 w.params).In s.heap) (T : Top p loose mean mg mb s.heap) (hd : dp + 1 < recursionLimit) (hu : un + 20 < cLine)
    {a : Addr} {vs : List Value} {r : List Int} {c : Nat} {t : Tok} (hl : s.heap.IsList a vs.toArray) (hI : IntsAre vs r) (h4 : r.length = 4) (hc : Abc c) :
    Spec w ⟨none, dp, fr, gd, un⟩ s (call (.ref 56) [.ref a, .str ⟨#[c]⟩ t]) (NewList s.heap fun vs' => IntsAre vs' (stepI c r)) := by
  intro Q E ret
  obtain ⟨i0, i1, i2, i3, t0, t1, t2, t3, rfl, rfl⟩ := ints4 hI h4
  revert X
  k_fill
  intro X
  rcases hc with rfl | rfl | rfl
  all_goals (k_data; intro h₁ F N; (try dsimp only); (try k_fold); k_steps)
  all_goals (refine ret _ _ _ ?kp ?post; (case kp => exact Fr.keep (by assumption)); (case post => exact ⟨_, _, _, rfl, News.fresh (by assumption) (.head _), News.get (by assumption) (.head _), .cons _ _ (.cons _ _ (.cons _ _ (.cons _ _ .nil)))⟩))
end Mine
end
section
open PySem PySem.W PySem.Calls PyProof.Rows
set_option maxRecDepth 100000
set_option maxHeartbeats 8000000
set_option pp.deepTerms false
set_option pp.deepTerms.threshold 8
namespace Mine
local macro_rules | `(tactic| k_data) => `(tactic| (refine' enter ?X ?T ?ho ?hcd ?hroom ?hbind ?hloc ?h ?hco ?hgen ?hk ?hcell; (case X => assumption); (case T => assumption); (case ho => k_is); (case hcd => k_is); (case hroom => (dsimp only; omega)); (case hbind => exact BindsTo.of_eq rfl); (case hloc => exact locs rfl); (case hco => exact rfl); (case hgen => exact rfl); (case hk => exact rfl); (case hcell => decide)))
local macro_rules | `(tactic| walk_at "call type:list") => `(tactic| (refine' list_copyK ?k1 ?k2 ?k3 ?_ ?z; (case k1 => k_asm); (case k2 => k_asm); (case k3 => exact Heap.IsList.at (by assumption) (fun o e => Fr.keep (by assumption) _ _ e)); (case z => exact Nat.le_of_ble_eq_true rfl); intro D' c' h' F' N' l1; (try k_lt l1); (try k_sweep)))
section
variable {prog : Program} {w : World} {A : Around} {E : Value → Shared → Prop} {s : Shared} {Q : Value → Shared → Prop}
theorem ord_lit {c : Nat} {t : Tok} (k : Int) (e : (c : Int) = k) (h : Q (.int k s.toks) { s with toks := s.toks + 1 }) : wpAny (model prog w) A (call (.builtin "ord") [.str ⟨#[c]⟩ t]) Q E s :=
  P.ord_of_char (e ▸ h)
theorem sub_lit {a b : Int} {t u : Tok} (k : Int) (e : a - b = k) (h : Q (.int k s.toks) { s with toks := s.toks + 1 }) : wpAny (model prog w) A (binaryOp .Sub (.int a t) (.int b u)) Q E s :=
  sub_int (e ▸ h)
theorem add_lit {a b : Int} {t u : Tok} (k : Int) (e : a + b = k) (h : Q (.int k s.toks) { s with toks := s.toks + 1 }) : wpAny (model prog w) A (binaryOp .Add (.int a t) (.int b u)) Q E s :=
  add_int (e ▸ h)
end
theorem frk {k x z : Str} {v v' : Option Value} {u m₀ : Str → Option Value} (h1 : z ≠ x) (h3 : [k].contains z = false) : (if z = k then v else if z = x then v' else kstB (fun z => if [k].contains z then u z else m₀ z) [] z) = m₀ z := by
  have h4 : z ≠ k := by rintro rfl; simp at h3
  rw [if_neg h4, if_neg h1]
  show (if [k].contains z = true then u z else m₀ z) = m₀ z
  rw [h3]; rfl
section
variable {h₀ h' : Heap} {L D : Addr} {n : Nat} {own : List (Addr × Obj)} {e : Addr × Obj} {x : Str} {stored : List Str} {m₀ m' : Str → Option Value} {P : List Int → List Value → Prop} {pre : List Int} {s₁ : Shared} {tk : Nat} {c : List Value}
theorem end1 (F : Fr h₀ L h' m') (N : News h₀ L h' ((D, W.listOf c.toArray n) :: own)) (hfr : ∀ z, z ≠ x → stored.contains z = false → m' z = m₀ z) (hP : P pre c) :
    InvEndN h₀ L (KstS (fun c => [(D, W.listOf c.toArray n)]) (fun _ => []) (fun _ => True) x stored m₀ P pre) own [D] s₁ { s₁ with heap := h', toks := tk } :=
  InvEndN.intro F N ⟨c, rfl, trivial, (fun _ h => nomatch h), (fun z z1 _ z3 => hfr z z1 z3), hP⟩ rfl (fun p hp => by rw [List.mem_singleton.mp hp]; exact .head _) fun p hp => .tail _ hp
theorem end2 (F : Fr h₀ L h' m') (N : News h₀ L h' (e :: (D, W.listOf c.toArray n) :: own)) (hfr : ∀ z, z ≠ x → stored.contains z = false → m' z = m₀ z) (hP : P pre c) :
    InvEndN h₀ L (KstS (fun c => [(D, W.listOf c.toArray n)]) (fun _ => []) (fun _ => True) x stored m₀ P pre) own [D] s₁ { s₁ with heap := h', toks := tk } :=
  end1 F (fun p hp => N p (.tail _ hp)) hfr hP
end
local macro_rules | `(tactic| walk_at "call builtin:ord") => `(tactic| first | refine ord_lit 97 rfl ?_ | refine ord_lit 98 rfl ?_ | refine ord_lit 99 rfl ?_)
local macro_rules | `(tactic| walk_at "binaryOp Sub int int") => `(tactic| first | refine sub_lit 0 (by decide) ?_ | refine sub_lit 1 (by decide) ?_ | refine sub_lit 2 (by decide) ?_)
local macro_rules | `(tactic| walk_at "binaryOp Add int int") => `(tactic| first | refine add_lit 1 (by decide) ?_ | refine add_lit 2 (by decide) ?_ | refine add_lit 3 (by decide) ?_)
theorem codes_nat (x : Str) : (KStt.codes x).map Int.toNat = x.cps.toList := by
  unfold KStt.codes
  rw [List.map_map]
  exact (List.map_congr_left (g := _root_.id) fun c _ => Int.toNat_natCast c).trans (List.map_id _)
theorem codes_mem {x : Str} {pre post : List Int} {n : Nat} (h : KStt.codes x = pre ++ (n : Int) :: post) : n ∈ x.cps.toList := by
  have : (n : Int) ∈ KStt.codes x := by rw [h]; simp
  unfold KStt.codes at this
  obtain ⟨c, hc, e⟩ := List.mem_map.mp this
  have : c = n := by omega
  exact this ▸ hc
theorem c_runI {w : World} {p : Program} {loose : List Str} {mean : ExcName → Option Value} {mg mb : Str → Option Value} {dp un : Nat} {fr : Option (List Env)} {gd : Option (List Code)} {s : Shared}
    (X : (Mine.hd.heap_39 w.params).In s.heap) (T : Top p loose mean mg mb s.heap) (hd : dp + 1 < recursionLimit) (hu : un + 20 < cLine)
    {a : Addr} {vs : List Value} {r : List Int} {x : Str} {t : Tok} (hl : s.heap.IsList a vs.toArray) (hI : IntsAre vs r) (h4 : r.length = 4) (hc : ∀ c ∈ x.cps.toList, Abc c) :
    Spec w ⟨none, dp, fr, gd, un⟩ s (call (.ref 63) [.str x t, .ref a]) (NewList s.heap fun vs' => IntsAre vs' (runI x.cps.toList r)) := by
  intro Q E ret
  obtain ⟨i0, i1, i2, i3, t0, t1, t2, t3, rfl, rfl⟩ := ints4 hI h4
  revert X
  k_fill
  intro X
  k_data
  intro h₁ F N
  try dsimp only
  try k_fold
  repeat' ((fail_if_success (with_reducible show wpAny _ _ (exec (Stmt.For _ _ _ _ _) _) _ _ _)); first | (k_unfold; (try dsimp only)) | (k_end; wrow_close) | walk1 | (dsimp only; walk1) | (leave1; walk_say "STEP leave1"; try dsimp only) | fail "no step")
  rename_i D n h2 l1 h3 F2 N2
  refine For_invV s.heap rfl rfl ?_ (by intro _; rfl) ?hE
  walk1
  · refine KStt.kst_text (σ := List Value) (fun c => [(D, W.listOf c.toArray n)]) (fun _ => []) (fun _ => True) [Str.ofString "k"] (fun pre c => IntsAre c (runI (pre.map Int.toNat) [i0, i1, i2, i3])) [Value.int i0 t0, Value.int i1 t1, Value.int i2 t2, Value.int i3 t3] rfl F2 N2 trivial (fun _ h => nomatch h) hI ?turn ?done
    case done =>
      intro c u h tk _ hP F3 N3
      rw [codes_nat] at hP
      change Fr s.heap s.heap.objs.size h _ at F3
      change News s.heap s.heap.objs.size h _ at N3
      dsimp only
      k_steps
      exact ret _ _ _ F3.keep ⟨D, c, n, rfl, N3.fresh (.head _), N3.get (.head _), hP⟩
    case turn =>
      intro c pre post n' t' u h tk own hsp hoff _ hP F3 N3
      change Fr s.heap s.heap.objs.size h _ at F3
      change News s.heap s.heap.objs.size h ((D, _) :: own) at N3
      have hn : Abc n' := hc n' (codes_mem hsp)
      obtain ⟨j0, j1, j2, j3, u0, u1, u2, u3, rfl, hr⟩ := ints4 hP ((runI_length _ _).trans h4)
      have hst : runI ((pre ++ [(n' : Int)]).map Int.toNat) [i0, i1, i2, i3] = stepI n' [j0, j1, j2, j3] := by
        rw [List.map_append, runI_append, hr]; rfl
      rw [hr] at hP
      rcases hn with rfl | rfl | rfl
      all_goals (repeat' ((fail_if_success (with_reducible show InvEndN _ _ _ _ _ _ _)); first | (k_unfold; (try dsimp only)) | (k_end; wrow_close) | walk1 | (dsimp only; walk1) | fail "no step"))
      all_goals (first | (refine end1 (by assumption) (by assumption) (fun z z1 z3 => frk z1 z3) ?_) | (refine end2 (by assumption) (by assumption) (fun z z1 z3 => frk z1 z3) ?_))
      all_goals (rw [hst]; first | (rw [sa1 (by assumption)]; assumption) | (rw [sa0 (by assumption)]; assumption) | (rw [sb1 (by assumption)]; assumption) | (rw [sb0 (by assumption)]; assumption) | (rw [sc1 (by assumption)]; assumption) | (rw [sc0 (by assumption)]; assumption))
  case hE => exact PassesOwn.never
end Mine
end
section
open PySem PySem.W PySem.Calls PyProof.Rows
set_option maxRecDepth 100000
set_option maxHeartbeats 8000000
set_option pp.deepTerms false
set_option pp.deepTerms.threshold 8
namespace Mine
local macro_rules | `(tactic| k_data) => `(tactic| (refine' enter ?X ?T ?ho ?hcd ?hroom ?hbind ?hloc ?h ?hco ?hgen ?hk ?hcell; (case X => assumption); (case T => assumption); (case ho => k_is); (case hcd => k_is); (case hroom => (dsimp only; omega)); (case hbind => first | exact BindsTo.of_eq rfl | exact binds_K (by assumption) rfl (by k_is) rfl rfl rfl); (case hloc => exact locs rfl); (case hco => exact rfl); (case hgen => exact rfl); (case hk => exact rfl); (case hcell => decide)))
section
variable {prog : Program} {w : World} {A : Around} {E : Value → Shared → Prop} {s : Shared} {h₀ : Heap} {L : Addr} {m : Str → Option Value} {news : List (Addr × Obj)} {Q : Value → Shared → Prop} {x : Str} {t : Tok}
theorem iter_str (F : Fr h₀ L s.heap m) (N : News h₀ L s.heap news) (ha : x.cps.all (· < 128) = true)
    (h : ∀ (I : Addr) h', Fr h₀ L h' m → News h₀ L h' ((I, { cls := .type "str_ascii_iterator", data := .fields #[.str x t, .int 0 0] }) :: news) → (∀ p ∈ news, p.1 < I) → Q (.ref I) { s with heap := h' }) :
    wpAny (model prog w) A (call (.builtin "iter") [.str x t]) Q E s := by
  refine call_function_entry (by decide +kernel) (by decide +kernel) kdk_entry_iter (kdk_args_iter _) ?_
  unfold Builtin.«iter»
  refine wpAny_bind (m := someArgs "iter" 1 2 _) (wpAny_of_eq (a := [Value.str x t]) (by first | rfl | kernel_rfl!) ?_)
  show wpAny _ _ (pyIter (.str x t) >>= _) _ _ _
  refine wpAny_bind (wpAny_pyIter_ascii ha ?_)
  exact wpAny_pure ⟨_, rfl, h _ _ (F.push _) (News.push F N _ rfl) fun q hq => Heap.lt_size (N q hq).1⟩
end
theorem is_no {M : Model} {A : Around} {E : Value → Shared → Prop} {s : Shared} {h₀ : Heap} {L : Addr} {m : Str → Option Value} {Q : Value → Shared → Prop} {x y : Addr} {ox oy : Obj} (F : Fr h₀ L s.heap m) (hxy : x ≠ y) (hx : h₀.get? x = some ox) (hy : h₀.get? y = some oy) (hnt : ox.cls ≠ .type "tuple") (h : Q (.bool false) s) :
    wpAny M A (compareOp .Is (.ref x) (.ref y)) Q E s := wpAny_is_ref_other hxy (F.keep _ _ hx) (F.keep _ _ hy) hnt h
local macro_rules | `(tactic| walk_at "compareOp Is ref ref") => `(tactic| refine is_no (by assumption) (by assumption) (by assumption) (by assumption) (by assumption) ?_)
theorem abc_small {x : Str} (hc : ∀ c ∈ x.cps.toList, Abc c) : x.cps.all (· < 128) = true := by
  rw [← Array.all_toList, List.all_eq_true]
  intro c h
  rcases hc c h with rfl | rfl | rfl <;> rfl
local macro_rules | `(tactic| walk_at "call builtin:iter") => `(tactic| (refine iter_str (by k_asm) (by k_asm) (abc_small (by assumption)) ?_; intro I' h' F' N' l1; (try k_lt l1); (try k_sweep)))
theorem loop_striter {prog : Program} {w : World} {A : Around} {E : Value → Shared → Prop} {s : Shared} {env : Env} {h₀ : Heap} {xn : Str} {body : List Stmt} {Q : Flow → Shared → Prop} {I : Addr} {x : Str} {t : Tok} {m₀ : Str → Option Value} {news : List (Addr × Obj)}
    (J : (Str → Option Value) → Nat → (Str → Option Value) → List (Addr × Obj) → Prop) (hh : A.handled = none)
    (F : Fr h₀ env.locals s.heap m₀) (N : News h₀ env.locals s.heap ((I, { cls := .type "str_ascii_iterator", data := .fields #[.str x t, .int 0 0] }) :: news)) (hnI : ∀ p ∈ news, p.1 ≠ I) (h0 : J m₀ 0 m₀ news)
    (turn : ∀ i c u m₁ news₁ h tk own, x.cps.toList[i]? = some c → J m₀ i m₁ news₁ → (∀ p ∈ news₁, p.1 ≠ I) → (∀ p ∈ own, p.1 = I) → (∃ o, (I, o) ∈ own) → Fr h₀ env.locals h (fun y => if y = xn then some (.str ⟨#[c]⟩ u) else m₁ y) → News h₀ env.locals h (own ++ news₁) →
      wpAny (model prog w) A (execs body env) (LoopStepV h₀ env.locals [I] own (J m₀ (i + 1)) { s with heap := h, toks := tk } (fun v s' => Q (.ret v) s') fun s' => Q .next s') E { s with heap := h, toks := tk })
    (done : ∀ m₁ news₁ h tk, J m₀ x.cps.size m₁ news₁ → Fr h₀ env.locals h m₁ → News h₀ env.locals h news₁ → Q .next { s with heap := h, toks := tk }) :
    wpAny (model prog w) A (pyIter (.ref I)) (fun it s₂ => LoopAtV prog w A h₀ env xn body Q E it s₂) E s := by
  have hit : s.heap.IsStrIter I "str_ascii_iterator" x t 0 := ⟨_, N.get (.head _), rfl, rfl⟩
  refine wpAny_pyIter_striter_ascii hit ?_
  refine ⟨I, [I], [I], x.cps.size, SignAt x, _, m₀, news, J m₀, rfl, Walks.strAscii hh I x t, ?_, ?_, ?_, hit, F, (fun p hp => N p (.tail _ hp)), h0, ?_, ?_⟩
  · exact fun h => (N _ (.head _)).2.1 (List.mem_singleton.mp h).symm
  · exact fun b hb => (List.mem_singleton.mp hb) ▸ (N _ (.head _)).2.2
  · exact fun p hp h => hnI p hp (List.mem_singleton.mp h)
  · rintro i v m₁ news₁ s₁ own ⟨hh', tk', rfl⟩ hin ⟨c, u, hx, rfl⟩ hJ hoff hown _ hall hst F₁ N₁
    obtain ⟨oI, hoI, _⟩ := hst
    exact turn i c u m₁ news₁ hh' tk' own (by rw [← hx]; simp) hJ (fun p hp e => hoff p hp (List.mem_singleton.mpr e)) (fun p hp => List.mem_singleton.mp (hown p hp)) ⟨oI, hall I (.head _) (N _ (.head _)).2.2 oI hoI⟩ F₁ N₁
  · exact fun h' tk m' news' F' N' _ hJ => done m' news' h' tk hJ F' N'
/-- between the turns of reduce -/
def RedJ (h₀ : Heap) (a : Addr) (r : List Int) (x : List Nat) (m₀ : Str → Option Value) (i : Nat) (m : Str → Option Value) (news : List (Addr × Obj)) : Prop :=
  ∃ b vs u, (m = fun y => if y = Str.ofString "value" then some (.ref b) else if y = Str.ofString "element" then u else m₀ y) ∧ IntsAre vs (runI (x.take i) r) ∧ ((news = [] ∧ b = a ∧ h₀.IsList b vs.toArray) ∨ ∃ n, news = [(b, W.listOf vs.toArray n)])
theorem red_m {m : Str → Option Value} {b : Addr} (h : m (Str.ofString "value") = some (.ref b)) : m = fun y => if y = Str.ofString "value" then some (.ref b) else if y = Str.ofString "element" then m (Str.ofString "element") else m y := by
  funext y
  by_cases h1 : y = Str.ofString "value"
  · rw [if_pos h1, h1]; exact h
  · rw [if_neg h1]
    by_cases h2 : y = Str.ofString "element"
    · rw [if_pos h2, h2]
    · rw [if_neg h2]
theorem red_m' {m₀ : Str → Option Value} {b b' : Addr} {v u : Option Value} : (fun y => if y = Str.ofString "value" then some (.ref b') else if y = Str.ofString "element" then v else if y = Str.ofString "value" then some (.ref b) else if y = Str.ofString "element" then u else m₀ y) =
    fun y => if y = Str.ofString "value" then some (Value.ref b') else if y = Str.ofString "element" then v else m₀ y := by
  funext y
  by_cases h1 : y = Str.ofString "value"
  · rw [if_pos h1, if_pos h1]
  · rw [if_neg h1, if_neg h1, if_neg h1]
    by_cases h2 : y = Str.ofString "element"
    · rw [if_pos h2, if_pos h2]
    · rw [if_neg h2, if_neg h2, if_neg h2]
theorem c_reduce {w : World} {p : Program} {loose : List Str} {mean : ExcName → Option Value} {mg mb : Str → Option Value} {dp un : Nat} {fr : Option (List Env)} {gd : Option (List Code)} {s : Shared}
    (X : (Mine.hd.heap_39 w.params).In s.heap) (T : Top p loose mean mg mb s.heap) (hd : dp + 2 < recursionLimit) (hu : un + 40 < cLine)
    {a : Addr} {vs : List Value} {r : List Int} {x : Str} {t : Tok} (hl : s.heap.IsList a vs.toArray) (hI : IntsAre vs r) (h4 : r.length = 4) (hc : ∀ c ∈ x.cps.toList, Abc c) :
    Spec w ⟨none, dp, fr, gd, un⟩ s (call (.ref 23) [.ref 56, .str x t, .ref a]) (fun v h' => ∃ b vs', v = .ref b ∧ (b = a ∨ s.heap.get? b = none) ∧ h'.IsList b vs'.toArray ∧ IntsAre vs' (runI x.cps.toList r)) := by
  intro Q E ret
  obtain ⟨oa, hoa, hcl, ep, hdt⟩ := id hl
  have ho15 := X 15 _ rfl
  have hnt : oa.cls ≠ .type "tuple" := by rw [hcl]; decide
  have hne : a ≠ 15 := by
    rintro rfl
    rw [hoa] at ho15
    cases ho15
    exact absurd (show (Value.type "object") = Value.type "list" from hcl) (by decide)
  revert X
  k_fill
  intro X
  k_data
  intro h₁ F N
  try dsimp only
  try k_fold
  repeat' ((fail_if_success (with_reducible show wpAny _ _ (exec (Stmt.For _ _ _ _ _) _) _ _ _)); first | (k_unfold; (try dsimp only)) | (k_end; wrow_close) | walk1 | (dsimp only; walk1) | (leave1; walk_say "STEP leave1"; try dsimp only) | fail "no step")
  rename_i I h2 l1 h3 h5 F2 N2
  refine For_invV s.heap rfl rfl ?_ (by intro _; rfl) ?hE
  walk1
  · refine loop_striter (RedJ s.heap a r x.cps.toList) rfl F2 N2 (fun _ h => nomatch h) ?_ ?_ ?_
    · refine ⟨a, vs, _, red_m rfl, hI, .inl ⟨rfl, rfl, hl⟩⟩
    · intro i c u m₁ news₁ h tk own hx hJ hnI hown hex F3 N3
      obtain ⟨b, vs₁, u₁, rfl, hI₁, hB⟩ := hJ
      change Fr s.heap s.heap.objs.size h _ at F3
      change News s.heap s.heap.objs.size h _ at N3
      have hlb : h.IsList b vs₁.toArray := by
        rcases hB with ⟨rfl, _, hB⟩ | ⟨n, rfl⟩
        · exact hB.at fun o e => F3.keep _ _ e
        · exact ⟨_, N3.get (List.mem_append_right _ (.head _)), rfl, n, rfl⟩
      have hcc : Abc c := hc c (List.mem_of_getElem? hx)
      have h4' := (runI_length (x.cps.toList.take i) r).trans h4
      have X3 := Frag.In.keeps X F3.keep
      have T3 := T.keeps F3.keep
      repeat' ((fail_if_success (with_reducible show wpAny _ _ (call _ _) _ _ _)); first | (k_unfold; (try dsimp only)) | (k_end; wrow_close) | walk1 | (dsimp only; walk1) | fail "no step")
      refine Spec.useList (c_ordered X3 T3 (by dsimp only; omega) (by dsimp only; omega) hlb hI₁ h4' hcc) F3 N3 ?_
      intro a' vs' n' h' tk' F4 N4 hna hI4
      dsimp only
      k_steps
      obtain ⟨oI, hoI⟩ := hex
      refine LoopStepU.intro (by assumption) (news₂ := [(a', W.listOf vs'.toArray n')]) ?_ ?_ ?_
      · rename_i N5
        exact fun p hp => N5 p ((List.mem_append.mp hp).elim (fun h => .tail _ (List.mem_append_left _ h)) fun h => by rw [List.mem_singleton.mp h]; exact .head _)
      · intro p hp
        rw [List.mem_singleton.mp hp]
        exact fun h => hna _ (List.mem_append_left _ hoI) (List.mem_singleton.mp h).symm
      · refine ⟨a', vs', _, red_m', ?_, .inr ⟨n', rfl⟩⟩
        rw [List.take_add_one, hx, runI_append]
        exact hI4
    · rintro m₁ news₁ h tk ⟨b, vs₁, u₁, rfl, hI₁, hB⟩ F3 N3
      change Fr s.heap s.heap.objs.size h _ at F3
      change News s.heap s.heap.objs.size h _ at N3
      have hlb : h.IsList b vs₁.toArray := by
        rcases hB with ⟨rfl, _, hB⟩ | ⟨n, rfl⟩
        · exact hB.at fun o e => F3.keep _ _ e
        · exact ⟨_, N3.get (.head _), rfl, n, rfl⟩
      dsimp only
      k_steps
      have hab : b = a ∨ s.heap.get? b = none := by
        rcases hB with ⟨_, e, _⟩ | ⟨n, rfl⟩
        · exact .inl e
        · exact .inr (N3.fresh (.head _))
      refine ret _ _ _ F3.keep ⟨b, vs₁, rfl, hab, hlb, ?_⟩
      have e : x.cps.toList.take x.cps.size = x.cps.toList := List.take_of_length_le (by simp)
      rw [e] at hI₁
      exact hI₁
  case hE => exact PassesOwn.never
end Mine
end
section
open PySem PySem.W PySem.Calls PyProof.Rows
set_option maxRecDepth 100000
set_option maxHeartbeats 8000000
set_option pp.deepTerms false
set_option pp.deepTerms.threshold 8
namespace Mine
/-- one sign each, with these codes -/
inductive SignsAre : List Value → List Int → Prop
  | nil : SignsAre [] []
  | cons (c : Nat) (t : Tok) {vs : List Value} {r : List Int} : SignsAre vs r → SignsAre (.str ⟨#[c]⟩ t :: vs) ((c : Int) :: r)
theorem signs4 {vs : List Value} {r : List Int} (h : SignsAre vs r) (h4 : r.length = 4) : ∃ (c0 c1 c2 c3 : Nat) (t0 t1 t2 t3 : Tok), vs = [.str ⟨#[c0]⟩ t0, .str ⟨#[c1]⟩ t1, .str ⟨#[c2]⟩ t2, .str ⟨#[c3]⟩ t3] ∧ r = [(c0 : Int), (c1 : Int), (c2 : Int), (c3 : Int)] := by
  cases h with
  | nil => cases h4
  | cons i0 t0 h => cases h with
    | nil => cases h4
    | cons i1 t1 h => cases h with
      | nil => cases h4
      | cons i2 t2 h => cases h with
        | nil => cases h4
        | cons i3 t3 h => cases h with
          | nil => exact ⟨_, _, _, _, _, _, _, _, rfl, rfl⟩
          | cons i t h => simp at h4
theorem signs_of : ∀ (cs : List Nat) (vs : List Value), vs.length = cs.length → (∀ (i : Nat) v, vs[i]? = some v → ∃ (c : Nat) (u : Tok), cs[i]? = some c ∧ v = Value.str ⟨#[c]⟩ u) → SignsAre vs (cs.map fun (c : Nat) => (c : Int))
  | [], [], _, _ => .nil
  | c :: cs, v :: vs, hl, h => by
    obtain ⟨c', u, e, rfl⟩ := h 0 v rfl
    cases e
    exact .cons c u (signs_of cs vs (Nat.succ.inj hl) fun i v' e => h (i + 1) v' e)
section
variable {prog : Program} {w : World} {A : Around} {E : Value → Shared → Prop} {s : Shared} {h₀ : Heap} {L : Addr} {m : Str → Option Value} {news : List (Addr × Obj)} {Q : Value → Shared → Prop} {x : Str} {t : Tok}
theorem list_str (hh : A.handled = none) (F : Fr h₀ L s.heap m) (N : News h₀ L s.heap news) (hsz : x.cps.size ≤ sizeLine)
    (h : ∀ D vs n h' tk, Fr h₀ L h' m → News h₀ L h' ((D, W.listOf vs.toArray n) :: news) → (∀ p ∈ news, p.1 < D) → SignsAre vs (x.cps.toList.map fun (c : Nat) => (c : Int)) → Q (.ref D) { s with heap := h', toks := tk }) :
    wpAny (model prog w) A (call (.type "list") [.str x t]) Q E s := by
  refine call_list_str hh x t (hn := hsz) fun h' tk acc' c' hk hS' hacc => ?_
  refine h s.heap.objs.size acc'.toList c' h' tk (F.keeps hk) (news_pushed F N hk (by simpa using hS') rfl) (fun q hq => Heap.lt_size (N q hq).1) (signs_of _ _ (by simp [hacc.1]) fun i v e => ?_)
  obtain ⟨c, u, e1, e2⟩ := hacc.2 i v (by simpa using e)
  exact ⟨c, u, by simpa using e1, e2⟩
theorem gt_sign {c d : Nat} {u : Tok} (h : Q (.bool (decide ((d : Int) < (c : Int)))) s) : wpAny (model prog w) A (compareOp .Gt (.str ⟨#[c]⟩ t) (.str ⟨#[d]⟩ u)) Q E s := by
  refine P.gt_str ?_
  have e : decide ([d] < [c]) = decide ((d : Int) < (c : Int)) := by
    rw [decide_eq_decide]
    constructor
    · intro h
      rcases List.cons_lt_cons_iff.mp h with h | h
      · omega
      · exact absurd h.2 (by simp)
    · intro h
      exact List.cons_lt_cons_iff.mpr (.inl (by omega))
  show Q (.bool (decide ([d] < [c]))) s
  rw [e]
  exact h
end
theorem item_N {prog : Program} {w : World} {A : Around} {E : Value → Shared → Prop} {s : Shared} {h₀ : Heap} {L : Addr} {news : List (Addr × Obj)} {Q : Value → Shared → Prop} {value slice : PySem.Expr} {l : Addr} {vs : List Value} {n : Nat} {k : Int} {u : Tok} {v : Value}
    (N : News h₀ L s.heap news) (hm : (l, W.listOf vs.toArray n) ∈ news) (h0 : 0 ≤ k) (hhi : k < 2 ^ 63) (hx : vs[k.toNat]? = some v) (h : Q v s)
    (hs : subscripted slice false (.ref l) (.int k u) = operate [.ref l, .int k u] (getItem (.ref l) (.int k u)) := by with_unfolding_all rfl) :
    wpAny (model prog w) A (subscriptTail value slice (.ref l) (.int k u)) Q E s :=
  have hl : s.heap.IsList l vs.toArray := ⟨_, N.get hm, rfl, n, rfl⟩
  tail_any hl.typeIs F.slot_list_getitem.lookup (wpAny_getItem_list hl h0 hhi (by simpa using hx) h) hs
local macro_rules | `(tactic| k_data) => `(tactic| (refine' enter ?X ?T ?ho ?hcd ?hroom ?hbind ?hloc ?h ?hco ?hgen ?hk ?hcell; (case X => assumption); (case T => assumption); (case ho => k_is); (case hcd => k_is); (case hroom => (dsimp only; omega)); (case hbind => first | exact BindsTo.of_eq rfl | exact binds_K (by assumption) rfl (by k_is) rfl rfl rfl); (case hloc => exact locs rfl); (case hco => exact rfl); (case hgen => exact rfl); (case hk => exact rfl); (case hcell => decide)))
local macro_rules | `(tactic| walk_at "call builtin:ord") => `(tactic| first | refine ord_lit 97 rfl ?_ | refine ord_lit 98 rfl ?_ | refine ord_lit 99 rfl ?_)
local macro_rules | `(tactic| walk_at "binaryOp Sub int int") => `(tactic| first | refine sub_lit 0 (by decide) ?_ | refine sub_lit 1 (by decide) ?_ | refine sub_lit 2 (by decide) ?_)
local macro_rules | `(tactic| walk_at "binaryOp Add int int") => `(tactic| first | refine add_lit 1 (by decide) ?_ | refine add_lit 2 (by decide) ?_ | refine add_lit 3 (by decide) ?_)
local macro_rules | `(tactic| walk_at "call type:list") => `(tactic| (refine list_str rfl (by k_asm) (by k_asm) (by assumption) ?_; intro D' vs' n' h' tk' F' N' l1 hS'; (try k_lt l1); (try k_sweep)))
local macro_rules | `(tactic| walk_at "compareOp Gt str str") => `(tactic| refine gt_sign ?_)
local macro_rules | `(tactic| walk_at "subscriptTail Name Name ref int") => `(tactic| k_dflt (refine' item_N ?N ?hm ?h0 ?hhi ?hx ?_ ?hs; (case N => assumption); (case hm => k_mem); (case h0 => decide); (case hhi => decide); (case hx => rfl); (case hs => with_unfolding_all rfl)))
local macro_rules | `(tactic| walk_at "subscriptTail Name BinOp ref int") => `(tactic| k_dflt (refine' item_N ?N ?hm ?h0 ?hhi ?hx ?_ ?hs; (case N => assumption); (case hm => k_mem); (case h0 => decide); (case hhi => decide); (case hx => rfl); (case hs => with_unfolding_all rfl)))
theorem c_runS {w : World} {p : Program} {loose : List Str} {mean : ExcName → Option Value} {mg mb : Str → Option Value} {dp un : Nat} {fr : Option (List Env)} {gd : Option (List Code)} {s : Shared}
    (X : (Mine.hd.heap_39 w.params).In s.heap) (T : Top p loose mean mg mb s.heap) (hd : dp + 1 < recursionLimit) (hu : un + 20 < cLine)
    {x y : Str} {t u : Tok} (h4 : y.cps.size = 4) (hc : ∀ c ∈ x.cps.toList, Abc c) :
    Spec w ⟨none, dp, fr, gd, un⟩ s (call (.ref 63) [.str x t, .str y u]) (NewList s.heap fun vs' => SignsAre vs' (runI x.cps.toList (y.cps.toList.map fun (c : Nat) => (c : Int)))) := by
  intro Q E ret
  have hsz : y.cps.size ≤ sizeLine := by rw [h4]; exact Nat.le_of_ble_eq_true rfl
  revert X
  k_fill
  intro X
  k_data
  intro h₁ F N
  try dsimp only
  try k_fold
  repeat' ((fail_if_success (with_reducible show wpAny _ _ (exec (Stmt.For _ _ _ _ _) _) _ _ _)); first | (k_unfold; (try dsimp only)) | (k_end; wrow_close) | walk1 | (dsimp only; walk1) | (leave1; walk_say "STEP leave1"; try dsimp only) | fail "no step")
  rename_i D vs n h2 tk2 hS l1 h3 F2 N2
  have h4' : (y.cps.toList.map fun (c : Nat) => (c : Int)).length = 4 := by simp [h4]
  refine For_invV s.heap rfl rfl ?_ (by intro _; rfl) ?hE
  walk1
  · refine KStt.kst_text (σ := List Value) (fun c => [(D, W.listOf c.toArray n)]) (fun _ => []) (fun _ => True) [Str.ofString "k"] (fun pre c => SignsAre c (runI (pre.map Int.toNat) (y.cps.toList.map fun (c : Nat) => (c : Int)))) vs rfl F2 N2 trivial (fun _ h => nomatch h) hS ?turn ?done
    case done =>
      intro c u h tk _ hP F3 N3
      rw [codes_nat] at hP
      change Fr s.heap s.heap.objs.size h _ at F3
      change News s.heap s.heap.objs.size h _ at N3
      dsimp only
      k_steps
      exact ret _ _ _ F3.keep ⟨D, c, n, rfl, N3.fresh (.head _), N3.get (.head _), hP⟩
    case turn =>
      intro c pre post n' t' u h tk own hsp hoff _ hP F3 N3
      change Fr s.heap s.heap.objs.size h _ at F3
      change News s.heap s.heap.objs.size h ((D, _) :: own) at N3
      have hn : Abc n' := hc n' (codes_mem hsp)
      obtain ⟨j0, j1, j2, j3, u0, u1, u2, u3, rfl, hr⟩ := signs4 hP ((runI_length _ _).trans h4')
      have hst : runI ((pre ++ [(n' : Int)]).map Int.toNat) (y.cps.toList.map fun (c : Nat) => (c : Int)) = stepI n' [(j0 : Int), (j1 : Int), (j2 : Int), (j3 : Int)] := by
        rw [List.map_append, runI_append, hr]; rfl
      rcases hn with rfl | rfl | rfl
      all_goals (repeat' ((fail_if_success (with_reducible show InvEndN _ _ _ _ _ _ _)); first | (k_unfold; (try dsimp only)) | (k_end; wrow_close) | walk1 | (dsimp only; walk1) | fail "no step"))
      all_goals (first | (refine end1 (by assumption) (by assumption) (fun z z1 z3 => frk z1 z3) ?_) | (refine end2 (by assumption) (by assumption) (fun z z1 z3 => frk z1 z3) ?_))
      all_goals (rw [hst]; first | rw [sa1 (by assumption)] | rw [sa0 (by assumption)] | rw [sb1 (by assumption)] | rw [sb0 (by assumption)] | rw [sc1 (by assumption)] | rw [sc0 (by assumption)])
      all_goals (exact .cons _ _ (.cons _ _ (.cons _ _ (.cons _ _ .nil))))
  case hE => exact PassesOwn.never
end Mine
end
section
open PySem PySem.W PySem.Calls PyProof.Rows
set_option maxRecDepth 100000
set_option maxHeartbeats 8000000
set_option pp.deepTerms false
set_option pp.deepTerms.threshold 8
namespace Mine
theorem wp_peek1 {α : Type} {K : Frag} {M : Model} {A : Around} {E : Value → Shared → Prop} {Q : α → Shared → Prop} {s : Shared} {o : Obj} {r : Addr → α}
    (X : K.In s.heap) (q : Q (r s.heap.objs.size) { s with heap := s.heap.push o }) :
    ∀ (t : Sem α) (g : Addr → Option α), peek1 K ⟨M.prog, M.w.params⟩ t = some (o, g) → (∀ D, g D = some (r D)) → wpAny M A t Q E s := by
  intro t
  induction t with
  | rule _ k ih => intro g e hg Γ p hΓ; exact ih () g e hg Γ p hΓ
  | point _ k ih => intro g e hg Γ p hΓ; exact ih () g e hg Γ p hΓ
  | ask k ih => intro g e hg Γ p hΓ; exact ih _ g e hg Γ p hΓ
  | load a _ k ih =>
    intro g e hg Γ p hΓ
    simp only [peek1] at e
    split at e
    · rename_i ob ho; exact ⟨ob, X _ _ ho, ih ob g e hg Γ p hΓ⟩
    · cases e
  | alloc ob k _ =>
    intro g e hg
    have e : some (ob, fun D => peek K ⟨M.prog, M.w.params⟩ (k D)) = some (o, g) := e
    obtain ⟨e1, e2⟩ := Prod.mk.inj (Option.some.inj e)
    subst e1
    subst e2
    have X' : K.In (s.heap.push ob) := X.keeps fun b x hb => Heap.get?_push_of_some _ hb
    show wpAny M A (alloc ob >>= k) Q E s
    refine wpAny_bind (wpAny_alloc ?_)
    exact (Looks.of_peek (M := M) (h := s.heap.push ob) X' (hg s.heap.objs.size)).here (s := { s with heap := s.heap.push ob }) q
  | _ => intro g e; cases e
theorem enter_rest {prog : Program} {w : World} {K : Frag} {p : Program} {loose : List Str} {mean : ExcName → Option Value} {mg mb : Str → Option Value} {A : Around} {E : Value → Shared → Prop} {s : Shared} {Q : Value → Shared → Prop} {name qual : Str} {params : Arguments} {body : List Stmt} {scope : Scope} {dV kV doc pm cdv ct oc : Value} {an od : Option Addr} {osl : Array (Option Value)} {f : Addr} {args vs : List Value} {g₁ : Addr → Option (List (Str × Value))} {binds : Addr → List (Str × Value)}
    (X : K.In s.heap) (T : Top p loose mean mg mb s.heap)
    (ho : K.lookup f = some ⟨oc, od, .func (fnOf name qual params body scope dV kV doc pm an cdv ct), osl⟩) (hcd : codeIn K cdv qual = true) (hroom : A.depth < recursionLimit)
    (hp : peek1 K ⟨prog, w.params⟩ (bindArgs (fnOf name qual params body scope dV kV doc pm an cdv ct) ⟨args, []⟩) = some (({ cls := .type "tuple", data := .seq vs.toArray } : Obj), g₁))
    (hg : ∀ D, g₁ D = some (binds D)) (hloc : ∀ D, ∀ y ∈ binds D, scope.names.lookup y.1 = some .local)
    (h : ∀ D L h₁ tk, Fr s.heap L h₁ (fun y => (binds D).reverse.lookup y) → News s.heap L h₁ [(D, ({ cls := .type "tuple", data := .seq vs.toArray } : Obj))] →
      wpAny (model prog w) (A.deeper (envOf qual scope L f cdv)) (execs body (envOf qual scope L f cdv))
        (fun fl s' => Q (match fl with | .ret v => v | _ => .none) s') (fun _ _ => False) { s with heap := h₁, toks := tk })
    (hco : scope.isCoroutine = false) (hgen : scope.isGenerator = false) (hk : scope.kind = .function)
    (hcell : ∀ x ∈ scope.names, x.2 ≠ .cell) : wpAny (model prog w) A (call (.ref f) args) Q E s := by
  refine wpAny_call ?_
  refine codeAny_call_function (fd := fnOf name qual params body scope dV kV doc pm an cdv ct) (body := body) hroom (X _ _ ho) rfl hco hgen rfl (codeRec_of X hcd) ?_
  refine wp_peek1 (o := ({ cls := .type "tuple", data := .seq vs.toArray } : Obj)) X (r := binds) ?_ _ g₁ hp hg
  have k1 : ∀ b x, s.heap.get? b = some x → (s.heap.push ({ cls := .type "tuple", data := .seq vs.toArray } : Obj)).get? b = some x := fun b x e => Heap.get?_push_of_some _ e
  refine wpAny_newFunctionEnv hcell (hloc _) (fun h₁ hns hsb => ⟨(T.nolimit.keeps k1).fresh _ hsb, codeAny_func ?_⟩) hk
  have hk₁ : ∀ b x, (s.heap.push ({ cls := .type "tuple", data := .seq vs.toArray } : Obj)).get? b = some x → h₁.get? b = some x := fun b x e => hsb.extBut b x (Nat.ne_of_lt (Heap.lt_size e)) (Heap.get?_push_of_some _ e)
  have hD := Heap.get?_push_size s.heap (o := ({ cls := .type "tuple", data := .seq vs.toArray } : Obj)) rfl
  refine wpAny_mono (h s.heap.objs.size _ h₁ _ ⟨hns, fun b x e => hk₁ b x (k1 b x e), ?_⟩ ?_) (fun fl s' hl => hl) fun _ _ y => y.elim
  · show s.heap.objs.size ≤ (s.heap.push _).objs.size
    rw [Heap.size_push]; exact Nat.le_succ _
  · intro q hq
    rw [List.mem_singleton.mp hq]
    refine ⟨hk₁ _ _ hD, Nat.ne_of_lt (Heap.lt_size hD), ?_⟩
    cases e : s.heap.get? s.heap.objs.size with
    | none => rfl
    | some x => exact absurd (Heap.lt_size e) (Nat.lt_irrefl _)
/-- what one turn of replace makes -/
def rep1 (o n x : Str) : Str := Txt.join n (Txt.split x o)
theorem join_len (sep : Str) : ∀ (p : Str) (r : List Str), (Str.join sep (p :: r)).length = ((p :: r).map (·.length)).sum + r.length * sep.length
  | p, [] => by simp [Str.join]
  | p, q :: r => by
    have ih := join_len sep q r
    show (p ++ sep ++ Str.join sep (q :: r)).length = _
    rw [Str.length_append, Str.length_append, ih]
    simp only [List.map_cons, List.sum_cons, List.length_cons, Nat.add_mul, Nat.one_mul]
    omega
theorem rep_len {o n x : Str} (hno : n.length ≤ o.length) : (rep1 o n x).length ≤ x.length ∧ ((Txt.split x o).map (·.length)).sum + (Txt.split x o).length * n.length ≤ x.length + o.length := by
  have e := StrLaws.join_split x o
  unfold rep1
  rw [show Txt.join n (Txt.split x o) = Str.join n (Txt.split x o) from StrLaws.glued_eq_join n _]
  generalize Txt.split x o = ps at e
  cases ps with
  | nil =>
    refine ⟨?_, ?_⟩
    · show 0 ≤ _; exact Nat.zero_le _
    · simp
  | cons p r =>
    have e1 := join_len o p r
    have e2 := join_len n p r
    rw [e] at e1
    have hm : r.length * n.length ≤ r.length * o.length := Nat.mul_le_mul_left _ hno
    refine ⟨by omega, ?_⟩
    rw [List.length_cons, Nat.add_mul, Nat.one_mul]
    omega
section
variable {prog : Program} {w : World} {A : Around} {E : Value → Shared → Prop} {s : Shared} {h₀ : Heap} {L D : Addr} {m : Str → Option Value} {news : List (Addr × Obj)} {Q : Value → Shared → Prop} {o n x : Str} {t : Tok} {l : List (Str × Tok)}
theorem join_rep (N : News h₀ L s.heap news) (hm : (D, W.listOf (strValues l).toArray 0) ∈ news) (e : l.map (·.1) = Txt.split x o) (hx : x.length ≤ 50) (ho : o.length ≤ 50) (hno : n.length ≤ o.length)
    (h : ∀ t' k, (rep1 o n x).length ≤ 50 → Q (.str (rep1 o n x) t') { s with toks := k }) : wpAny (model prog w) A (call (.builtin "str.join") [.str n t, .ref D]) Q E s := by
  obtain ⟨h1, h2⟩ := rep_len (x := x) hno
  refine join_list (ys := l.map (·.1)) ⟨_, N.get hm, rfl, 0, rfl⟩ (strsAre_of_values l) ?_ fun t' k => ?_
  · rw [e]; omega
  · rw [e]; exact h t' k (by omega)
theorem fit50 (h : x.length ≤ 50) : x.length + 2 ≤ sizeLine := Nat.le_trans (Nat.add_le_add_right h 2) (Nat.le_of_ble_eq_true rfl)
end
abbrev tupOf (vs : List Value) : Obj := { cls := .type "tuple", data := .seq vs.toArray }
theorem tup_from2 {prog : Program} {w : World} {A : Around} {E : Value → Shared → Prop} {s : Shared} {h₀ : Heap} {L : Addr} {m : Str → Option Value} {news : List (Addr × Obj)} {value slice : PySem.Expr} {D : Addr} {v1 v2 : Value} {ws : List Value} {u : Tok} {Q : Value → Shared → Prop}
    (F : Fr h₀ L s.heap m) (N : News h₀ L s.heap news) (hm : (D, tupOf (v1 :: v2 :: ws)) ∈ news) (hsz : (v1 :: v2 :: ws).length ≤ sizeLine)
    (h : ∀ D' h', Fr h₀ L h' m → News h₀ L h' ((D', tupOf ws) :: news) → (∀ p ∈ news, p.1 < D') → Q (.ref D') { s with heap := h' })
    (hs : subscripted slice false (.ref D) (.ref s.heap.objs.size) = operate [.ref s.heap.objs.size, .ref D] (getItem (.ref D) (.ref s.heap.objs.size)))
    (hg : ∀ r, letTemporaryGo value (.ref D) r = pure ()) :
    wpAny (model prog w) A (subscriptTail value slice (.ref D) (.ref s.heap.objs.size)) Q E { s with heap := s.heap.push { cls := .type "slice", data := .fields #[.int 2 u, .none, .none] } } := by
  refine slice_tuple_from (a := 2) (items := (v1 :: v2 :: ws).toArray) F N ⟨_, N.get hm, rfl, 0, rfl⟩ (by decide) (by simp) (fun h' F' N' => ?_) hs hg (by simpa using hsz)
  exact h _ h' F' N' fun p hp => Nat.lt_succ_of_lt (Heap.lt_size (N p hp).1)
local macro_rules | `(tactic| walk_at "subscriptTail Name Slice ref ref") => `(tactic| k_dflt (refine' tup_from2 ?F ?N ?hm ?z ?_ ?hs ?hg; (case F => k_asm); (case N => k_asm); (case hm => k_mem); (case z => exact Nat.le_of_ble_eq_true rfl); (case hs => with_unfolding_all rfl); (case hg => intro _; with_unfolding_all rfl); intro D' h' F' N' l1; (try k_lt l1)))
local macro_rules | `(tactic| walk_at "call builtin:str.split") => `(tactic| k_dflt (refine KSpl.split1 (by k_asm) (by k_asm) (by decide) ?_ (fit50 (by assumption)); intro D' l' h' k' e' a' F' N' l1; (try k_lt l1)))
local macro_rules | `(tactic| walk_at "call builtin:str.join") => `(tactic| k_dflt (refine' join_rep ?N ?hm ?e ?hx ?ho ?hno ?_; (case N => assumption); (case hm => exact .head _); (case e => assumption); (case hx => assumption); (case ho => decide); (case hno => decide); intro t' k' hL'))
/-- the three single letters, one on -/
def rep3 (x : Str) : Str := rep1 (Str.ofString "a") (Str.ofString "b") (rep1 (Str.ofString "b") (Str.ofString "c") (rep1 (Str.ofString "c") (Str.ofString "d") x))
theorem c_rep3 {w : World} {p : Program} {loose : List Str} {mean : ExcName → Option Value} {mg mb : Str → Option Value} {dp un : Nat} {fr : Option (List Env)} {gd : Option (List Code)} {s : Shared}
    (X : (Mine.hd.heap_39 w.params).In s.heap) (T : Top p loose mean mg mb s.heap) (hd : dp + 1 < recursionLimit) (hu : un + 20 < cLine)
    {x : Str} {t t1 t2 t3 t4 t5 t6 : Tok} (hx : x.length ≤ 50) :
    Spec w ⟨none, dp, fr, gd, un⟩ s (call (.ref 30) [.str x t, .str (Str.ofString "c") t1, .str (Str.ofString "d") t2, .str (Str.ofString "b") t3, .str (Str.ofString "c") t4, .str (Str.ofString "a") t5, .str (Str.ofString "b") t6]) (fun v _ => ∃ t', v = .str (rep3 x) t') := by
  intro Q E ret
  revert X
  k_fill
  intro X
  refine' enter_rest (vs := [.str (Str.ofString "c") t1, .str (Str.ofString "d") t2, .str (Str.ofString "b") t3, .str (Str.ofString "c") t4, .str (Str.ofString "a") t5, .str (Str.ofString "b") t6]) ?X ?T ?ho ?hcd ?hroom ?hp ?hg ?hloc ?h ?hco ?hgen ?hk ?hcell
  case X => assumption
  case T => assumption
  case ho => k_is
  case hcd => k_is
  case hroom => (dsimp only; omega)
  case hp => rfl
  case hg => intro _; rfl
  case hloc => intro _; exact locs rfl
  case hco => exact rfl
  case hgen => exact rfl
  case hk => exact rfl
  case hcell => decide
  intro D L h₁ tk F N
  try dsimp only
  try k_fold
  k_steps
  exact ret _ _ _ (Fr.keep (by assumption)) ⟨_, rfl⟩
/-- one round of the seven rules -/
def rep7 (x : Str) : Str := rep1 (Str.ofString "cbac") (Str.ofString "bcba") (rep1 (Str.ofString "cbc") (Str.ofString "bcb") (rep1 (Str.ofString "bab") (Str.ofString "aba") (rep1 (Str.ofString "ca") (Str.ofString "ac") (rep1 (Str.ofString "cc") (Str.ofString "c") (rep1 (Str.ofString "bb") (Str.ofString "b") (rep1 (Str.ofString "aa") (Str.ofString "a") x))))))
theorem c_rep7 {w : World} {p : Program} {loose : List Str} {mean : ExcName → Option Value} {mg mb : Str → Option Value} {dp un : Nat} {fr : Option (List Env)} {gd : Option (List Code)} {s : Shared}
    (X : (Mine.hd.heap_39 w.params).In s.heap) (T : Top p loose mean mg mb s.heap) (hd : dp + 1 < recursionLimit) (hu : un + 20 < cLine)
    {x : Str} {t t1 t2 t3 t4 t5 t6 t7 t8 t9 t10 t11 t12 t13 t14 : Tok} (hx : x.length ≤ 50) :
    Spec w ⟨none, dp, fr, gd, un⟩ s (call (.ref 30) [.str x t, .str (Str.ofString "aa") t1, .str (Str.ofString "a") t2, .str (Str.ofString "bb") t3, .str (Str.ofString "b") t4, .str (Str.ofString "cc") t5, .str (Str.ofString "c") t6, .str (Str.ofString "ca") t7, .str (Str.ofString "ac") t8, .str (Str.ofString "bab") t9, .str (Str.ofString "aba") t10, .str (Str.ofString "cbc") t11, .str (Str.ofString "bcb") t12, .str (Str.ofString "cbac") t13, .str (Str.ofString "bcba") t14]) (fun v _ => ∃ t', v = .str (rep7 x) t') := by
  intro Q E ret
  revert X
  k_fill
  intro X
  refine' enter_rest (vs := [.str (Str.ofString "aa") t1, .str (Str.ofString "a") t2, .str (Str.ofString "bb") t3, .str (Str.ofString "b") t4, .str (Str.ofString "cc") t5, .str (Str.ofString "c") t6, .str (Str.ofString "ca") t7, .str (Str.ofString "ac") t8, .str (Str.ofString "bab") t9, .str (Str.ofString "aba") t10, .str (Str.ofString "cbc") t11, .str (Str.ofString "bcb") t12, .str (Str.ofString "cbac") t13, .str (Str.ofString "bcba") t14]) ?X ?T ?ho ?hcd ?hroom ?hp ?hg ?hloc ?h ?hco ?hgen ?hk ?hcell
  case X => assumption
  case T => assumption
  case ho => k_is
  case hcd => k_is
  case hroom => (dsimp only; omega)
  case hp => rfl
  case hg => intro _; rfl
  case hloc => intro _; exact locs rfl
  case hco => exact rfl
  case hgen => exact rfl
  case hk => exact rfl
  case hcell => decide
  intro D L h₁ tk F N
  try dsimp only
  try k_fold
  k_steps
  exact ret _ _ _ (Fr.keep (by assumption)) ⟨_, rfl⟩
end Mine
end
section
open PySem PySem.W PySem.Calls PyProof.Rows
open PySem.Builtin.Str
set_option maxRecDepth 100000
set_option maxHeartbeats 1000000
namespace Mine
/-! the plain law: words over a, b, c; what the seven rules do -/
/-- the rows, each with its least word -/
def tab : List (List Int × List Nat) := [([3, 2, 1, 0], []), ([2, 3, 1, 0], [97]), ([3, 1, 2, 0], [98]), ([3, 2, 0, 1], [99]), ([2, 1, 3, 0], [97, 98]), ([2, 3, 0, 1], [97, 99]), ([1, 3, 2, 0], [98, 97]), ([3, 1, 0, 2], [98, 99]), ([3, 0, 2, 1], [99, 98]), ([1, 2, 3, 0], [97, 98, 97]), ([2, 1, 0, 3], [97, 98, 99]), ([2, 0, 3, 1], [97, 99, 98]), ([1, 3, 0, 2], [98, 97, 99]), ([3, 0, 1, 2], [98, 99, 98]), ([0, 3, 2, 1], [99, 98, 97]), ([1, 2, 0, 3], [97, 98, 97, 99]), ([2, 0, 1, 3], [97, 98, 99, 98]), ([0, 2, 3, 1], [97, 99, 98, 97]), ([1, 0, 3, 2], [98, 97, 99, 98]), ([0, 3, 1, 2], [98, 99, 98, 97]), ([1, 0, 2, 3], [97, 98, 97, 99, 98]), ([0, 2, 1, 3], [97, 98, 99, 98, 97]), ([0, 1, 3, 2], [98, 97, 99, 98, 97]), ([0, 1, 2, 3], [97, 98, 97, 99, 98, 97])]
def rowsT : List (List Int) := tab.map (·.1)
def nfs : List (List Nat) := tab.map (·.2)
/-- the list of a text's codes -/
abbrev cs (x : Str) : List Nat := x.cps.toList
def jl (sep : List Nat) : List (List Nat) → List Nat
  | [] => []
  | [x] => x
  | x :: y :: r => x ++ sep ++ jl sep (y :: r)
theorem cs_append (a b : Str) : cs (a ++ b) = cs a ++ cs b := by show (a.cps ++ b.cps).toList = _; simp
theorem cs_inj {a b : Str} (h : cs a = cs b) : a = b := Str.ext' (Array.toList_inj.mp h)
theorem cs_length (x : Str) : (cs x).length = x.length := by simp [Str.length]
theorem cs_join (sep : Str) : ∀ ps : List Str, cs (Str.join sep ps) = jl (cs sep) (ps.map cs)
  | [] => rfl
  | [_] => rfl
  | p :: q :: r => by
    show cs (p ++ sep ++ Str.join sep (q :: r)) = _
    rw [cs_append, cs_append, cs_join sep (q :: r)]
    rfl
/-- a text's weight: it falls by every rule -/
def val (w : List Nat) : Nat := w.foldl (fun v c => 4 * v + (c - 96)) 0
theorem val_from (w : List Nat) : ∀ v : Nat, w.foldl (fun v c => 4 * v + (c - 96)) v = v * 4 ^ w.length + val w := by
  induction w with
  | nil => intro v; simp [val]
  | cons c w ih =>
    intro v
    have e : val (c :: w) = (4 * 0 + (c - 96)) * 4 ^ w.length + val w := ih (4 * 0 + (c - 96))
    rw [List.foldl_cons, ih, e, List.length_cons, Nat.pow_succ]
    simp only [Nat.mul_zero, Nat.zero_add, Nat.add_mul]
    have : v * (4 ^ w.length * 4) = 4 * v * 4 ^ w.length := by rw [Nat.mul_comm (4 ^ w.length) 4, ← Nat.mul_assoc, Nat.mul_comm v 4]
    omega
theorem val_append (u v : List Nat) : val (u ++ v) = val u * 4 ^ v.length + val v := by
  unfold val
  rw [List.foldl_append, val_from]
  rfl
theorem jl_less {o n : List Nat} (hl : n.length ≤ o.length) (hv : val n < val o) : ∀ (p : List Nat) (r : List (List Nat)),
    (jl n (p :: r)).length ≤ (jl o (p :: r)).length ∧ val (jl n (p :: r)) ≤ val (jl o (p :: r)) ∧ (r ≠ [] → val (jl n (p :: r)) < val (jl o (p :: r)))
  | p, [] => ⟨Nat.le_refl _, Nat.le_refl _, fun h => absurd rfl h⟩
  | p, q :: r => by
    obtain ⟨i1, i2, _⟩ := jl_less hl hv q r
    have key : val (jl n (p :: q :: r)) < val (jl o (p :: q :: r)) := by
      show val (p ++ n ++ jl n (q :: r)) < val (p ++ o ++ jl o (q :: r))
      generalize jl n (q :: r) = T' at i1 i2
      generalize jl o (q :: r) = T at i1 i2
      rw [val_append, val_append, val_append, val_append]
      have h1 : 4 ^ T'.length ≤ 4 ^ T.length := Nat.pow_le_pow_right (by decide) i1
      have h2 : 4 ^ n.length ≤ 4 ^ o.length := Nat.pow_le_pow_right (by decide) hl
      have h3 : val p * 4 ^ n.length + val n < val p * 4 ^ o.length + val o := Nat.add_lt_add_of_le_of_lt (Nat.mul_le_mul_left _ h2) hv
      have h4 : (val p * 4 ^ n.length + val n) * 4 ^ T'.length < (val p * 4 ^ o.length + val o) * 4 ^ T.length :=
        Nat.lt_of_le_of_lt (Nat.mul_le_mul_left _ h1) (Nat.mul_lt_mul_of_pos_right h3 (Nat.pow_pos (by decide)))
      omega
    refine ⟨?_, Nat.le_of_lt key, fun _ => key⟩
    show (p ++ n ++ jl n (q :: r)).length ≤ (p ++ o ++ jl o (q :: r)).length
    simp only [List.length_append]
    omega
/-- o stands nowhere in x -/
def Free (o x : List Nat) : Prop := ∀ u v, x ≠ u ++ o ++ v
theorem free_of_at {x o : Str} (h : ∀ k, ¬ StrLaws.At x o x.length k) : Free (cs o) (cs x) := by
  intro u v e
  refine h u.length ⟨?_, ?_⟩
  · have := congrArg List.length e
    simp only [List.length_append, cs_length] at this
    omega
  · rw [StrLaws.subAt_eq]
    show (((cs x).drop u.length).take o.length == cs o) = true
    rw [e, List.append_assoc, List.drop_left, ← cs_length o, List.take_left]
    exact beq_self_eq_true _
theorem split_cases (x o : Str) (ho : 1 ≤ o.length) (hk : strKind x < strKind o → False) : (Txt.split x o = [x] ∧ Free (cs o) (cs x)) ∨ ∃ p q r, Txt.split x o = p :: q :: r := by
  unfold Txt.split
  split
  · rename_i h
    left
    refine ⟨rfl, fun u v e => ?_⟩
    rcases Bool.or_eq_true_iff.mp h with h | h
    · have h := of_decide_eq_true h
      have := congrArg List.length e
      simp only [List.length_append, cs_length] at this
      omega
    · exact hk (of_decide_eq_true h)
  · split
    · rename_i h
      left
      refine ⟨rfl, free_of_at ?_⟩
      obtain ⟨f, hG, hn⟩ := StrLaws.occ_tight x o ho
      rw [List.isEmpty_iff.mp h] at hG
      have hf : f = 0 := hG
      subst hf
      exact fun k => hn k (Nat.zero_le _)
    · rename_i h
      right
      have hl := length_partsBetween x (occurrences x o 0 x.length (x.length + 1)) o.length
      have h' : 1 ≤ (occurrences x o 0 x.length (x.length + 1)).length := by
        cases q : occurrences x o 0 x.length (x.length + 1) with
        | nil => rw [q] at h; exact absurd rfl h
        | cons a l => simp
      have hl2 : 2 ≤ (partsBetween x (occurrences x o 0 x.length (x.length + 1)) o.length).length := by omega
      generalize partsBetween x (occurrences x o 0 x.length (x.length + 1)) o.length = ps at hl2
      match ps, hl2 with
      | [], hl2 => exact absurd hl2 (by decide)
      | [_], hl2 => exact absurd hl2 (by simp)
      | p :: q :: r, _ => exact ⟨p, q, r, rfl⟩
/-- one rule: nothing to do, or the weight falls -/
theorem rep1_cases {o n x : Str} (ho : 1 ≤ o.length) (hk : strKind x < strKind o → False) (hl : n.length ≤ o.length) (hv : val (cs n) < val (cs o)) :
    (rep1 o n x = x ∧ Free (cs o) (cs x)) ∨ val (cs (rep1 o n x)) < val (cs x) := by
  have ej := StrLaws.join_split x o
  have er : rep1 o n x = Str.join n (Txt.split x o) := StrLaws.glued_eq_join n _
  rcases split_cases x o ho hk with ⟨e, hf⟩ | ⟨p, q, r, e⟩
  · left
    rw [er, e]
    exact ⟨rfl, hf⟩
  · right
    rw [er]
    have e2 : cs x = cs (Str.join o (Txt.split x o)) := by rw [ej]
    rw [e2, cs_join, cs_join, e]
    exact (jl_less (by rw [cs_length, cs_length]; exact hl) hv _ _).2.2 (by simp)
/-- the letters are a, b, c -/
def AbcW (w : List Nat) : Prop := ∀ c ∈ w, Abc c
theorem abcW_append {u v : List Nat} : AbcW (u ++ v) ↔ AbcW u ∧ AbcW v := by
  unfold AbcW
  constructor
  · exact fun h => ⟨fun c hc => h c (List.mem_append_left _ hc), fun c hc => h c (List.mem_append_right _ hc)⟩
  · rintro ⟨h1, h2⟩ c hc
    exact (List.mem_append.mp hc).elim (h1 c) (h2 c)
theorem kind_one {x : Str} : 1 ≤ strKind x := by
  unfold Builtin.Str.strKind
  split
  · exact Nat.le_refl _
  · split <;> decide
/-- what both words do to every row of the table, and their letters -/
def SameW (x y : List Nat) : Prop := AbcW y ∧ ∀ r ∈ rowsT, runI x r = runI y r
theorem step_closed : ∀ r ∈ rowsT, ∀ c ∈ [97, 98, 99], stepI c r ∈ rowsT := by decide +kernel
theorem run_closed {w : List Nat} (hw : AbcW w) : ∀ r ∈ rowsT, runI w r ∈ rowsT := by
  induction w with
  | nil => exact fun r hr => hr
  | cons c w ih =>
    intro r hr
    refine ih (fun d hd => hw d (.tail _ hd)) _ (step_closed r hr c ?_)
    rcases hw c (.head _) with rfl | rfl | rfl <;> decide
theorem jl_same {o n : List Nat} (hn : AbcW n) (hon : ∀ r ∈ rowsT, runI o r = runI n r) : ∀ ps : List (List Nat), AbcW (jl o ps) → AbcW (jl n ps) ∧ ∀ r ∈ rowsT, runI (jl o ps) r = runI (jl n ps) r
  | [], h => ⟨h, fun _ _ => rfl⟩
  | [_], h => ⟨h, fun _ _ => rfl⟩
  | p :: q :: t, h => by
    have h' : AbcW (p ++ o ++ jl o (q :: t)) := h
    obtain ⟨h1, h3⟩ := abcW_append.mp h'
    obtain ⟨h1, h2⟩ := abcW_append.mp h1
    obtain ⟨i1, i2⟩ := jl_same hn hon (q :: t) h3
    refine ⟨?_, fun r hr => ?_⟩
    · show AbcW (p ++ n ++ jl n (q :: t))
      exact abcW_append.mpr ⟨abcW_append.mpr ⟨h1, hn⟩, i1⟩
    · show runI (p ++ o ++ jl o (q :: t)) r = runI (p ++ n ++ jl n (q :: t)) r
      have hp := run_closed h1 r hr
      rw [runI_append, runI_append, runI_append, runI_append, hon _ hp]
      exact i2 _ (run_closed hn _ hp)
theorem rep1_same {o n x : Str} (hn : AbcW (cs n)) (hon : ∀ r ∈ rowsT, runI (cs o) r = runI (cs n) r) (hx : AbcW (cs x)) : SameW (cs x) (cs (rep1 o n x)) := by
  have er : rep1 o n x = Str.join n (Txt.split x o) := StrLaws.glued_eq_join n _
  have ex : cs x = jl (cs o) ((Txt.split x o).map cs) := by rw [← cs_join, StrLaws.join_split]
  rw [er, cs_join]
  rw [ex] at hx ⊢
  exact jl_same hn hon _ hx
/-- the seven rules -/
def rules : List (Str × Str) := [(Str.ofString "aa", Str.ofString "a"), (Str.ofString "bb", Str.ofString "b"), (Str.ofString "cc", Str.ofString "c"), (Str.ofString "ca", Str.ofString "ac"), (Str.ofString "bab", Str.ofString "aba"), (Str.ofString "cbc", Str.ofString "bcb"), (Str.ofString "cbac", Str.ofString "bcba")]
def repL (l : List (Str × Str)) (x : Str) : Str := l.foldl (fun x p => rep1 p.1 p.2 x) x
theorem rep7_eq (x : Str) : rep7 x = repL rules x := rfl
abbrev Good (p : Str × Str) : Prop := 1 ≤ p.1.length ∧ strKind p.1 = 1 ∧ p.2.length ≤ p.1.length ∧ val (cs p.2) < val (cs p.1) ∧ (∀ c ∈ cs p.2, c = 97 ∨ c = 98 ∨ c = 99) ∧ ∀ r ∈ rowsT, runI (cs p.1) r = runI (cs p.2) r
theorem rules_good : ∀ p ∈ rules, Good p := by decide +kernel
theorem repL_cases : ∀ (l : List (Str × Str)), (∀ p ∈ l, Good p) → ∀ x, (repL l x = x ∧ ∀ p ∈ l, Free (cs p.1) (cs x)) ∨ val (cs (repL l x)) < val (cs x)
  | [], _, x => .inl ⟨rfl, fun _ h => nomatch h⟩
  | p :: l, h, x => by
    obtain ⟨g1, g2, g3, g4, g5, g6⟩ := h p (.head _)
    have hk : strKind x < strKind p.1 → False := fun q => by have := kind_one (x := x); omega
    have ih := repL_cases l (fun q hq => h q (.tail _ hq)) (rep1 p.1 p.2 x)
    show (repL l (rep1 p.1 p.2 x) = x ∧ _) ∨ val (cs (repL l (rep1 p.1 p.2 x))) < _
    rcases rep1_cases (x := x) g1 hk g3 g4 with ⟨e, f⟩ | lt
    · rw [e] at ih ⊢
      rcases ih with ⟨e', f'⟩ | lt
      · left
        refine ⟨e', fun q hq => ?_⟩
        rcases List.mem_cons.mp hq with rfl | hq
        · exact f
        · exact f' q hq
      · exact .inr lt
    · right
      rcases ih with ⟨e', _⟩ | lt'
      · rw [e']; exact lt
      · exact Nat.lt_trans lt' lt
theorem repL_same : ∀ (l : List (Str × Str)), (∀ p ∈ l, Good p) → ∀ x, AbcW (cs x) → SameW (cs x) (cs (repL l x))
  | [], _, x, hx => ⟨hx, fun _ _ => rfl⟩
  | p :: l, h, x, hx => by
    obtain ⟨g1, g2, g3, g4, g5, g6⟩ := h p (.head _)
    obtain ⟨a1, a2⟩ := rep1_same (x := x) (fun c hc => g5 c hc) g6 hx
    obtain ⟨b1, b2⟩ := repL_same l (fun q hq => h q (.tail _ hq)) (rep1 p.1 p.2 x) a1
    exact ⟨b1, fun r hr => (a2 r hr).trans (b2 r hr)⟩
theorem repL_len : ∀ (l : List (Str × Str)), (∀ p ∈ l, Good p) → ∀ x, (repL l x).length ≤ x.length
  | [], _, _ => Nat.le_refl _
  | p :: l, h, _ => Nat.le_trans (repL_len l (fun q hq => h q (.tail _ hq)) _) (rep_len (h p (.head _)).2.2.1).1
theorem rep7_falls {x : Str} (h : rep7 x ≠ x) : val (cs (rep7 x)) < val (cs x) := by
  rcases repL_cases rules rules_good x with ⟨e, _⟩ | lt
  · exact absurd e h
  · exact lt
theorem rep7_same {x : Str} (hx : AbcW (cs x)) : SameW (cs x) (cs (rep7 x)) := repL_same rules rules_good x hx
theorem rep7_len (x : Str) : (rep7 x).length ≤ x.length := repL_len rules rules_good x
theorem rep7_free {x : Str} (h : rep7 x = x) : ∀ p ∈ rules, Free (cs p.1) (cs x) := by
  rcases repL_cases rules rules_good x with ⟨_, f⟩ | lt
  · exact f
  · rw [← rep7_eq, h] at lt
    exact absurd lt (Nat.lt_irrefl _)
theorem nf_step : ∀ w ∈ nfs, ∀ c ∈ [97, 98, 99], (w ++ [c]) ∈ nfs ∨ ∃ p ∈ rules, (cs p.1).isSuffixOf (w ++ [c]) = true := by decide +kernel
/-- a word in which no rule finds anything is one of the table's -/
theorem nf_of_free : ∀ (w : List Nat), AbcW w → (∀ p ∈ rules, Free (cs p.1) w) → w ∈ nfs := by
  suffices H : ∀ n (w : List Nat), w.length = n → AbcW w → (∀ p ∈ rules, Free (cs p.1) w) → w ∈ nfs from fun w => H w.length w rfl
  intro n
  induction n with
  | zero =>
    intro w hw _ _
    rw [List.length_eq_zero_iff.mp hw]
    decide
  | succ n ih =>
    intro w hw ha hf
    obtain ⟨u, c, rfl⟩ : ∃ u c, w = u ++ [c] := by
      rcases List.eq_nil_or_concat w with rfl | ⟨u, c, e⟩
      · simp at hw
      · exact ⟨u, c, by rw [e]; simp⟩
    obtain ⟨a1, a2⟩ := abcW_append.mp ha
    have hu : u ∈ nfs := ih u (by simpa using hw) a1 fun p hp x y e => hf p hp x (y ++ [c]) (by rw [e]; simp)
    have hc : c ∈ [97, 98, 99] := by
      rcases a2 c (.head _) with rfl | rfl | rfl <;> decide
    rcases nf_step u hu c hc with h | ⟨p, hp, h⟩
    · exact h
    · exfalso
      obtain ⟨t, ht⟩ := List.isSuffixOf_iff_suffix.mp h
      exact hf p hp t [] (by rw [List.append_nil]; exact ht.symm)
/-- the start: the falling row -/
def R0 : List Int := [3, 2, 1, 0]
theorem tab_runs : ∀ e ∈ tab, runI e.2 R0 = e.1 := by decide +kernel
theorem tab_keys_nodup : (tab.map (·.1)).Nodup := by decide +kernel
end Mine
end
section
open PySem PySem.W PySem.Calls PyProof.Rows
set_option maxRecDepth 100000
set_option maxHeartbeats 8000000
set_option pp.deepTerms false
set_option pp.deepTerms.threshold 8
namespace Mine
theorem rep3_nf : ∀ w ∈ nfs, rep3 ⟨w.toArray⟩ = ⟨(w.map (· + 1)).toArray⟩ := by decide +kernel
theorem SameW.trans {x y z : List Nat} (a : SameW x y) (b : SameW y z) : SameW x z := ⟨b.1, fun r hr => (a.2 r hr).trans (b.2 r hr)⟩
local macro_rules | `(tactic| k_data) => `(tactic| (refine' enter ?X ?T ?ho ?hcd ?hroom ?hbind ?hloc ?h ?hco ?hgen ?hk ?hcell; (case X => assumption); (case T => assumption); (case ho => k_is); (case hcd => k_is); (case hroom => (dsimp only; omega)); (case hbind => first | exact BindsTo.of_eq rfl | exact binds_K (by assumption) rfl (by k_is) rfl rfl rfl); (case hloc => exact locs rfl); (case hco => exact rfl); (case hgen => exact rfl); (case hk => exact rfl); (case hcell => decide)))
theorem c_short {w : World} {p : Program} {loose : List Str} {mean : ExcName → Option Value} {mg mb : Str → Option Value} {dp un : Nat} {fr : Option (List Env)} {gd : Option (List Code)} {s : Shared}
    (X : (Mine.hd.heap_39 w.params).In s.heap) (T : Top p loose mean mg mb s.heap) (hd : dp + 2 < recursionLimit) (hu : un + 40 < cLine)
    {x : Str} {t : Tok} (hx : x.length ≤ 50) (hc : AbcW (cs x)) :
    Spec w ⟨none, dp, fr, gd, un⟩ s (call (.ref 49) [.str x t]) (fun v _ => ∃ y t', v = .str ⟨(y.map (· + 1)).toArray⟩ t' ∧ y ∈ nfs ∧ SameW (cs x) y) := by
  intro Q E ret
  revert X
  k_fill
  intro X
  k_data
  intro h₁ F N
  try dsimp only
  try k_fold
  repeat' ((fail_if_success (with_reducible show wpAny _ _ (exec (Stmt.While _ _ _ _) _) _ _ _)); first | (k_unfold; (try dsimp only)) | (k_end; wrow_close) | walk1 | (dsimp only; walk1) | (leave1; walk_say "STEP leave1"; try dsimp only) | fail "no step")
  refine ksw_while (σ := Str × Tok) (fun _ => []) (fun c => [(Str.ofString "word", .str c.1 c.2)]) (fun c => c.1.length ≤ 50) [Str.ofString "told"] (fun c => SameW (cs x) (cs c.1)) (fun c => val (cs c.1)) (x, t) F N hx (by intro p hp; rw [List.mem_singleton.mp hp]; rfl) ⟨hc, fun _ _ => rfl⟩ ?_ ?hE
  · rintro ⟨y, ty⟩ u h tk hy hS F3 N3
    dsimp only at hy hS F3 N3
    have X3 := Frag.In.keeps X F3.keep
    have T3 := T.keeps F3.keep
    repeat' ((fail_if_success (with_reducible show wpAny _ _ (call _ _) _ _ _)); first | (k_unfold; (try dsimp only)) | (k_end; wrow_close) | walk1 | (dsimp only; walk1) | fail "no step")
    refine Spec.use (c_rep7 X3 T3 (by dsimp only; omega) (by dsimp only; omega) hy) F3 N3 ?_
    rintro v h' tk' F4 N4 ⟨t', rfl⟩
    dsimp only
    repeat' ((fail_if_success (with_reducible show wpAny _ _ (call _ _) _ _ _)); (fail_if_success (with_reducible show KswEnd _ _ _ _ _ _ _ _ _ _ _ _)); first | (k_unfold; (try dsimp only)) | (k_end; wrow_close) | walk1 | (dsimp only; walk1) | fail "no step")
    · rename_i h5 F5 N5 hq
      have X5 := Frag.In.keeps X F5.keep
      have T5 := T.keeps F5.keep
      have hfix : rep7 y = y := eq_of_beq (by assumption)
      have hnf := nf_of_free (cs y) hS.1 (rep7_free hfix)
      refine Spec.use (c_rep3 X5 T5 (by dsimp only; omega) (by dsimp only; omega) hy) F5 N5 ?_
      rintro v h6 tk6 F6 N6 ⟨t6, rfl⟩
      refine ret _ _ _ F6.keep ⟨cs y, t6, ?_, hnf, hS⟩
      rw [← rep3_nf _ hnf]
    · rename_i hq _ F5 N5
      have hne : rep7 y ≠ y := fun e => by rw [e] at hq; simp at hq
      refine ksw_end (rep7 y, t') F5 N5 (fun _ h => nomatch h) (Nat.le_trans (rep7_len y) hy) ?_ ?_ (hS.trans (rep7_same hS.1)) (rep7_falls hne)
      · intro q hq; rw [List.mem_singleton.mp hq]; rfl
      · intro z z1 z3
        have z1 : z ≠ Str.ofString "word" := z1 _ (.head _)
        have z4 : z ≠ Str.ofString "told" := by rintro rfl; simp at z3
        rw [if_neg z1, if_neg z4]
        show (if z = Str.ofString "word" then _ else if [Str.ofString "told"].contains z = true then _ else _) = _
        rw [if_neg z1, z3]
        rfl
  case hE => exact PassesOwn.never
end Mine
end
section
open PySem PySem.W PySem.Calls PyProof.Rows
set_option maxRecDepth 100000
set_option maxHeartbeats 1000000
namespace Mine
/-! the table of the least words, turn by turn, as plain data -/
def lookS (D : List (Str × Str)) (k : Str) : Option Str := (D.find? fun e => e.1 = k).map (·.2)
abbrev codesI (x : Str) : List Int := x.cps.toList.map fun (c : Nat) => (c : Int)
def strI (r : List Int) : Str := ⟨(r.map Int.toNat).toArray⟩
abbrev LState := List (Str × Str) × List Str
def lstep (t : Nat) (st : LState) (c : Nat) : LState :=
  let row := st.2.getD t Str.empty
  let other := strI (stepI c (codesI row))
  match lookS st.1 other with
  | some _ => st
  | none => (st.1 ++ [(other, (lookS st.1 row).getD Str.empty ++ ⟨#[c]⟩)], st.2 ++ [other])
def lturn (st : LState) (t : Nat) : LState := [97, 98, 99].foldl (lstep t) st
def linit : LState := ([(Str.ofString "3210", Str.ofString "")], [Str.ofString "3210"])
def lst (t : Nat) : LState := (List.range t).foldl lturn linit
def lmid (t : Nat) (pre : List Nat) : LState := pre.foldl (lstep t) (lst t)
abbrev LOk (t : Nat) (st : LState) : Prop := t < st.2.length ∧ (st.2.getD t Str.empty).cps.size = 4 ∧ (lookS st.1 (st.2.getD t Str.empty)).isSome = true ∧ ((lookS st.1 (st.2.getD t Str.empty)).getD Str.empty).length ≤ 20 ∧ st.1.length ≤ 100 ∧ st.2.length ≤ 100
theorem lok : ∀ t ∈ List.range 24, ∀ pre ∈ [[], [97], [97, 98]], LOk t (lmid t pre) := by decide +kernel
/-- the table with texts for rows and words -/
def tabS : List (Str × Str) := tab.map fun e => (strI (e.1.map (· + 48)), ⟨e.2.toArray⟩)
theorem lst_all : (lst 24).1 = tabS := by decide +kernel
theorem lst_succ (t : Nat) : lst (t + 1) = lmid t [97, 98, 99] := by
  unfold lst lmid
  rw [List.range_succ, List.foldl_append]
  rfl
theorem lmid_snoc (t : Nat) (pre : List Nat) (c : Nat) : lmid t (pre ++ [c]) = lstep t (lmid t pre) c := by
  unfold lmid
  rw [List.foldl_append]
  rfl
/-- a dict's pairs bear these texts -/
inductive KV : List (Str × Value) → List (Str × Str) → Prop
  | nil : KV [] []
  | cons (k v : Str) (t : Tok) {kvs : List (Str × Value)} {D : List (Str × Str)} : KV kvs D → KV ((k, .str v t) :: kvs) ((k, v) :: D)
theorem KV.snoc {kvs : List (Str × Value)} {D : List (Str × Str)} (h : KV kvs D) (k v : Str) (t : Tok) : KV (kvs ++ [(k, .str v t)]) (D ++ [(k, v)]) := by
  induction h with
  | nil => exact .cons k v t .nil
  | cons k' v' t' _ ih => exact .cons k' v' t' ih
theorem KV.hit {kvs : List (Str × Value)} {D : List (Str × Str)} (h : KV kvs D) {k v : Str} (e : lookS D k = some v) : ∃ t, valueAt kvs k = some (.str v t) := by
  induction h with
  | nil => cases e
  | @cons k' v' t' kvs D _ ih =>
    unfold lookS at e
    unfold valueAt
    rw [List.find?_cons] at e ⊢
    by_cases hk : k' = k
    · simp only [hk, decide_true] at e ⊢
      cases e
      exact ⟨t', rfl⟩
    · simp only [hk, decide_false] at e ⊢
      exact ih e
theorem KV.miss {kvs : List (Str × Value)} {D : List (Str × Str)} (h : KV kvs D) {k : Str} (e : lookS D k = none) : valueAt kvs k = none ∧ (kvs.any fun kv => kv.1 = k) = false := by
  induction h with
  | nil => exact ⟨rfl, rfl⟩
  | @cons k' v' t' kvs D _ ih =>
    unfold lookS at e
    unfold valueAt
    rw [List.find?_cons] at e ⊢
    by_cases hk : k' = k
    · simp only [hk, decide_true] at e
      cases e
    · simp only [hk, decide_false] at e ⊢
      obtain ⟨i1, i2⟩ := ih e
      refine ⟨i1, ?_⟩
      rw [List.any_cons, i2]
      simp [hk]
theorem KV.stored {kvs : List (Str × Value)} {D : List (Str × Str)} (h : KV kvs D) {k : Str} (e : lookS D k = none) (v : Value) : PySem.stored kvs k v = kvs ++ [(k, v)] := by
  unfold PySem.stored
  rw [(h.miss e).2]
  rfl
theorem KV.length {kvs : List (Str × Value)} {D : List (Str × Str)} (h : KV kvs D) : kvs.length = D.length := by
  induction h with
  | nil => rfl
  | cons _ _ _ _ ih => simp [ih]
theorem strs_get {vs : List Value} {R : List Str} (h : StrsAre vs R) : ∀ {i : Nat} {x : Str}, R[i]? = some x → ∃ t, vs[i]? = some (.str x t) := by
  induction h with
  | nil => intro i x e; simp at e
  | cons y t _ ih =>
    intro i x e
    cases i with
    | zero => simp at e; subst e; exact ⟨t, rfl⟩
    | succ i => exact ih (by simpa using e)
end Mine
namespace Mine
theorem signs_strs {vs : List Value} {r : List Int} (h : SignsAre vs r) : StrsAre vs (r.map fun c => (⟨#[c.toNat]⟩ : Str)) := by
  induction h with
  | nil => exact .nil
  | cons c t _ ih => exact .cons _ _ ih
theorem glue_signs : ∀ r : List Int, Str.join (Str.ofString "") (r.map fun c => (⟨#[c.toNat]⟩ : Str)) = strI r
  | [] => rfl
  | [c] => rfl
  | c :: d :: r => by
    have ih := glue_signs (d :: r)
    show (⟨#[c.toNat]⟩ : Str) ++ Str.ofString "" ++ Str.join (Str.ofString "") ((d :: r).map fun c => (⟨#[c.toNat]⟩ : Str)) = _
    rw [ih]
    refine cs_inj ?_
    rw [cs_append, cs_append]
    rfl
theorem join_signs {prog : Program} {w : World} {A : Around} {E : Value → Shared → Prop} {s : Shared} {h₀ : Heap} {L a : Addr} {news : List (Addr × Obj)} {Q : Value → Shared → Prop} {vs : List Value} {r : List Int} {n : Nat} {t : Tok}
    (N : News h₀ L s.heap news) (hm : (a, W.listOf vs.toArray n) ∈ news) (hS : SignsAre vs r) (hr : r.length ≤ 50)
    (h : ∀ t' k, Q (.str (strI r) t') { s with toks := k }) : wpAny (model prog w) A (call (.builtin "str.join") [.str (Str.ofString "") t, .ref a]) Q E s := by
  refine join_list (ys := r.map fun c => (⟨#[c.toNat]⟩ : Str)) ⟨_, N.get hm, rfl, n, rfl⟩ (signs_strs hS) ?_ fun t' k => ?_
  · have e : ((r.map fun c => (⟨#[c.toNat]⟩ : Str)).map (·.length)).sum = r.length := by
      clear hS hr h
      induction r with
      | nil => rfl
      | cons c r ih => simp only [List.map_cons, List.sum_cons, List.length_cons, ih]; show 1 + r.length = _; omega
    rw [e]
    have : (Str.ofString "").length = 0 := rfl
    rw [this, Nat.mul_zero]
    omega
  · rw [show Txt.join (Str.ofString "") (r.map fun c => (⟨#[c.toNat]⟩ : Str)) = Str.join (Str.ofString "") (r.map fun c => (⟨#[c.toNat]⟩ : Str)) from StrLaws.glued_eq_join _ _, glue_signs]
    exact h t' k
theorem abc_split {pre post : List Int} {n : Nat} (h : KStt.codes (Str.ofString "abc") = pre ++ (n : Int) :: post) : pre.map Int.toNat ∈ [[], [97], [97, 98]] ∧ Abc n := by
  have e : KStt.codes (Str.ofString "abc") = [97, 98, 99] := by decide +kernel
  rw [e] at h
  match pre, h with
  | [], h =>
    have := (List.cons.inj h).1
    refine ⟨by decide, .inl (by omega)⟩
  | [a], h =>
    obtain ⟨h1, h2⟩ := List.cons.inj h
    have := (List.cons.inj h2).1
    subst h1
    refine ⟨by decide, .inr (.inl (by omega))⟩
  | [a, b], h =>
    obtain ⟨h1, h2⟩ := List.cons.inj h
    obtain ⟨h3, h4⟩ := List.cons.inj h2
    have := (List.cons.inj h4).1
    subst h1
    subst h3
    refine ⟨by decide, .inr (.inr (by omega))⟩
  | a :: b :: c :: r, h =>
    have := congrArg List.length h
    simp at this
end Mine
end
section
open PySem PySem.W PySem.Calls PyProof.Rows
set_option maxRecDepth 100000
set_option maxHeartbeats 8000000
set_option pp.deepTerms false
set_option pp.deepTerms.threshold 8
namespace Mine
structure LC where
  o : Obj
  vs : List Value
  n : Nat
def LP (w : World) (st : LState) (c : LC) : Prop := ∃ kvs, c.o.IsDictOf (PySem.strKind PySem.Challenge.rw_pe0050_01.row.prog w) kvs ∧ KV kvs st.1 ∧ StrsAre c.vs st.2
local macro_rules | `(tactic| k_data) => `(tactic| (refine' enter ?X ?T ?ho ?hcd ?hroom ?hbind ?hloc ?h ?hco ?hgen ?hk ?hcell; (case X => assumption); (case T => assumption); (case ho => k_is); (case hcd => k_is); (case hroom => (dsimp only; omega)); (case hbind => first | exact BindsTo.of_eq rfl | exact binds_K (by assumption) rfl (by k_is) rfl rfl rfl); (case hloc => exact locs rfl); (case hco => exact rfl); (case hgen => exact rfl); (case hk => exact rfl); (case hcell => decide)))
theorem fr_least {z : Str} {u u2 m₀ : Str → Option Value} {v : Option Value} (z1 : z ≠ Str.ofString "turn") (z3 : [Str.ofString "letter", Str.ofString "other"].contains z = false) :
    (if z = Str.ofString "letter" then u2 z else kstB (fun z => if [Str.ofString "other"].contains z then u2 z else if z = Str.ofString "turn" then v else kstB (fun z => if [Str.ofString "letter", Str.ofString "other"].contains z then u z else m₀ z) [] z) [] z) = m₀ z := by
  have h1 : z ≠ Str.ofString "letter" := by rintro rfl; simp at z3
  have h2 : z ≠ Str.ofString "other" := by rintro rfl; simp at z3
  have h3 : [Str.ofString "other"].contains z = false := by simp [h2]
  rw [if_neg h1]
  show (if [Str.ofString "other"].contains z = true then u2 z else if z = Str.ofString "turn" then v else if [Str.ofString "letter", Str.ofString "other"].contains z = true then u z else m₀ z) = m₀ z
  rw [h3, if_neg z1, z3]
  rfl
local macro_rules | `(tactic| walk_at "subscriptTail Name Name ref int") => `(tactic| k_dflt (refine' item_N ?N ?hm ?h0 ?hhi ?hx ?_ ?hs; (case N => assumption); (case hm => k_mem); (case h0 => assumption); (case hhi => assumption); (case hx => assumption); (case hs => with_unfolding_all rfl)))
local macro_rules | `(tactic| walk_at "binaryOp Add str str") => `(tactic| k_dflt (refine' PyProof.Rows.add_str ?_ ?hz; (case hz => assumption); intro t' k'))
theorem is_str {prog : Program} {w : World} (k : Str) (t : Tok) : (PySem.strKind prog w).is k (.str k t) = true := by
  show Value.isStrOf k (.str k t) = true
  simp [Value.isStrOf]
local macro_rules | `(tactic| walk_at "call builtin:str.join") => `(tactic| k_dflt (refine' join_signs ?N ?hm ?hS ?hr ?_; (case N => assumption); (case hm => exact .head _); (case hS => assumption); (case hr => assumption); intro t' k'))
local macro_rules | `(tactic| walk_at "compareOp NotIn str ref") => `(tactic| k_dflt (refine' kdg_notin (knd := PySem.strKind _ _) ?N ?hp ?hd ?lo (is_str _ _) _ ?hb ?_; (case N => assumption); (case hp => exact .tail _ (.tail _ (.head _))); (case hd => assumption); (case lo => assumption); (case hb => assumption)))
local macro_rules | `(tactic| walk_at "subscriptTail Name Subscript ref str") => `(tactic| k_dflt (refine' kda_item (knd := PySem.strKind _ _) ?N ?hp ?hd (is_str _ _) ?hl ?_ ?hs ?hg; (case N => assumption); (case hp => exact .tail _ (.tail _ (.head _))); (case hd => assumption); (case hl => assumption); (case hs => with_unfolding_all rfl); (case hg => intro _; with_unfolding_all rfl)))
local macro_rules | `(tactic| walk_at "setItem ref str") => `(tactic| k_dflt (refine' kda_set (knd := PySem.strKind _ _) ?F ?N ?U ?hd (is_str _ _) ?hz ?_; (case F => assumption); (case N => assumption); (case U => assumption); (case hd => assumption); (case hz => assumption); intro h' o' F' N' hd'; dsimp only at N'))
local macro_rules | `(tactic| walk_at "call builtin:list.append") => `(tactic| k_dflt (refine' append_K ?F ?N ?U ?_ ?hz; (case F => assumption); (case N => assumption); (case U => exact .tail (by assumption) (.head (List.forall_mem_cons.mpr ⟨Ne.symm (by assumption), by assumption⟩))); (case hz => assumption); intro h' F' N'))
theorem strs_len {vs : List Value} {R : List Str} (h : StrsAre vs R) : vs.length = R.length := by
  induction h with
  | nil => rfl
  | cons _ _ _ ih => simp [ih]
theorem sub1 {x y z : Addr × Obj} {a b : List (Addr × Obj)} : ∀ p ∈ y :: z :: a, p ∈ x :: y :: z :: (a ++ b) := by
  intro p hp
  rcases List.mem_cons.mp hp with rfl | hp
  · exact .tail _ (.head _)
  · rcases List.mem_cons.mp hp with rfl | hp
    · exact .tail _ (.tail _ (.head _))
    · exact .tail _ (.tail _ (.tail _ (List.mem_append_left _ hp)))
theorem sub2 {x y z : Addr × Obj} {a b : List (Addr × Obj)} : ∀ p ∈ b, p ∈ x :: y :: z :: (a ++ b) := fun _ hp => .tail _ (.tail _ (.tail _ (List.mem_append_right _ hp)))
theorem least_end {h₀ h' : Heap} {L a l d : Addr} {own own2 : List (Addr × Obj)} {x : Str} {stored : List Str} {m₀ m' : Str → Option Value} {P : List Int → LC → Prop} {pre : List Int} {s₁ : Shared} {tk : Nat} {oa o9 : Obj} {vs0 : List Value} {v : Value} {n0 : Nat}
    (F : Fr h₀ L h' m') (N : News h₀ L h' ((a, oa) :: (l, W.listOf (vs0 ++ [v]).toArray (n0 + 1)) :: (d, o9) :: (own ++ own2))) (hfr : ∀ z, z ≠ x → stored.contains z = false → m' z = m₀ z) (hP : P pre ⟨o9, vs0 ++ [v], n0 + 1⟩) :
    InvEndN h₀ L (KstS (fun c : LC => (l, W.listOf c.vs.toArray c.n) :: (d, c.o) :: own) (fun _ => []) (fun _ => True) x stored m₀ P pre) own2 (l :: d :: own.map (·.1)) s₁ { s₁ with heap := h', toks := tk } :=
  InvEndN.intro F N ⟨⟨o9, vs0 ++ [v], n0 + 1⟩, rfl, trivial, (fun _ h => nomatch h), (fun z z1 _ z3 => hfr z z1 z3), hP⟩ rfl sub1 sub2
theorem c_least {w : World} {p : Program} {loose : List Str} {mean : ExcName → Option Value} {mg mb : Str → Option Value} {dp un : Nat} {fr : Option (List Env)} {gd : Option (List Code)} {s : Shared}
    (X : (Mine.hd.heap_39 w.params).In s.heap) (T : Top p loose mean mg mb s.heap) (hd : dp + 2 < recursionLimit) (hu : un + 40 < cLine) :
    Spec w ⟨none, dp, fr, gd, un⟩ s (call (.ref 70) []) (fun v h' => ∃ d o kvs, v = .ref d ∧ s.heap.get? d = none ∧ h'.get? d = some o ∧ (d == sysModules) = false ∧ o.IsDictOf (PySem.strKind PySem.Challenge.rw_pe0050_01.row.prog w) kvs ∧ KV kvs tabS) := by
  intro Q E ret
  revert X
  k_fill
  intro X
  k_data
  intro h₁ F N
  try dsimp only
  try k_fold
  repeat' ((fail_if_success (with_reducible show wpAny _ _ (exec (Stmt.For _ _ _ _ _) _) _ _ _)); first | (k_unfold; (try dsimp only)) | (k_end; wrow_close) | walk1 | (dsimp only; walk1) | (leave1; walk_say "STEP leave1"; try dsimp only) | fail "no step")
  rename_i o lo hdict hflat ap l0 l h3 hl D h4 hl2 h5 h6 h7 F2 N2
  refine For_invV s.heap rfl rfl ?_ (by intro _; rfl) ?hE
  · repeat' ((fail_if_success (with_reducible show wpAny _ _ (pyIter _) _ _ _)); first | walk1 | (dsimp only; walk1) | fail "no step")
    rename_i h8 tk8 t1 u1 v1 hR F8 N8 k8
    have N9 : News s.heap s.heap.objs.size h8 _ := fun p hp => N8 p (.tail _ hp)
    refine kst_range (σ := LC) (fun c => [(l, W.listOf c.vs.toArray c.n), (h₁.objs.size, c.o)]) (fun _ => []) (fun _ => True) [Str.ofString "letter", Str.ofString "other"] (fun pre c => LP w (lst pre.length) c) ⟨o, _, 0⟩ rfl hR (by decide) (n := 24) (by decide) F8 N9 trivial (fun _ h => nomatch h) ⟨_, hdict, .cons _ _ _ .nil, .cons _ _ .nil⟩ ?turn ?done
    case done =>
      intro c u h tk _ hP F3 N3
      change Fr s.heap s.heap.objs.size h _ at F3
      change News s.heap s.heap.objs.size h _ at N3
      obtain ⟨kvs, hk1, hk2, hk3⟩ := hP
      rw [show (rangeKs 0 24).length = 24 from rangeKs_length _ _, lst_all] at hk2
      dsimp only
      k_steps
      exact ret _ _ _ F3.keep ⟨_, c.o, kvs, rfl, N3.fresh (.tail _ (.head _)), N3.get (.tail _ (.head _)), lo, hk1, hk2⟩
    case turn =>
      intro c pre k t u h tk own hk hlt hoff _ hP F3 N3
      change Fr s.heap s.heap.objs.size h _ at F3
      change News s.heap s.heap.objs.size h ((l, _) :: (h₁.objs.size, c.o) :: own) at N3
      refine wpAny_execs_cons ?_
      refine For_invV s.heap rfl rfl ?_ (by intro _; rfl) ?hE2
      · walk1
        refine KStt.kst_text (σ := LC) (fun c => (l, W.listOf c.vs.toArray c.n) :: (h₁.objs.size, c.o) :: own) (fun _ => []) (fun _ => True) [Str.ofString "other"] (fun pre2 c => LP w (lmid pre.length (pre2.map Int.toNat)) c) c rfl F3 N3 trivial (fun _ h => nomatch h) hP ?turn2 ?done2
        case done2 =>
          intro c2 u2 h2 tk2 _ hP2 F4 N4
          change Fr s.heap s.heap.objs.size h2 _ at F4
          change News s.heap s.heap.objs.size h2 _ at N4
          rw [codes_nat] at hP2
          refine wpAny_execs_nil ?_
          refine InvEndN.intro (nx := [(l, W.listOf c2.vs.toArray c2.n), (h₁.objs.size, c2.o)]) F4 N4 ⟨c2, rfl, trivial, (fun _ h => nomatch h), ?_, ?_⟩ rfl ?_ ?_
          · intro z z1 _ z3
            exact fr_least z1 z3
          · show LP w (lst (pre ++ [k]).length) c2
            rw [List.length_append, List.length_singleton, lst_succ]
            exact hP2
          · intro q hq
            rcases List.mem_cons.mp hq with rfl | hq
            · exact .head _
            · rw [List.mem_singleton.mp hq]; exact .tail _ (.head _)
          · exact fun q hq => .tail _ (.tail _ hq)
        case turn2 =>
          intro c2 pre2 post2 n2 t2 u2 h2 tk2 own2 hsp hoff2 _ hP2 F4 N4
          change Fr s.heap s.heap.objs.size h2 _ at F4
          change News s.heap s.heap.objs.size h2 ((l, W.listOf c2.vs.toArray c2.n) :: (h₁.objs.size, c2.o) :: (own ++ own2)) at N4
          obtain ⟨hpre, hn⟩ := abc_split hsp
          have hok := lok pre.length (List.mem_range.mpr hlt) _ hpre
          have hls : lmid pre.length ((pre2 ++ [(n2 : Int)]).map Int.toNat) = lstep pre.length (lmid pre.length (pre2.map Int.toNat)) n2 := by
            rw [List.map_append]; exact lmid_snoc _ _ _
          generalize lmid pre.length (pre2.map Int.toNat) = st at hok hP2 hls
          obtain ⟨o1, o2, o3, o4, o5, o6⟩ := hok
          obtain ⟨kvs, hk1, hk2, hk3⟩ := hP2
          generalize hrow : st.2.getD pre.length Str.empty = row at o2 o3 o4
          have hrow' : st.2[pre.length]? = some row := by
            rw [← hrow, List.getD_eq_getElem?_getD]
            rw [List.getElem?_eq_getElem o1]
            rfl
          obtain ⟨tr, htr⟩ := strs_get hk3 hrow'
          obtain ⟨vw, hvw⟩ := Option.isSome_iff_exists.mp o3
          rw [hvw] at o4
          obtain ⟨tw, htw⟩ := hk2.hit hvw
          have hk0 : 0 ≤ k := by omega
          have hk63 : k < 2 ^ 63 := by omega
          have hkx : c2.vs[k.toNat]? = some (.str row tr) := by rw [show k.toNat = pre.length by omega]; exact htr
          have hcs : ∀ c ∈ (⟨#[n2]⟩ : Str).cps.toList, Abc c := fun c hc => by rw [show c = n2 from List.mem_singleton.mp hc]; exact hn
          have X4 := Frag.In.keeps X F4.keep
          have T4 := T.keeps F4.keep
          repeat' ((fail_if_success (with_reducible show wpAny _ _ (call (Value.ref _) _) _ _ _)); first | walk1 | (dsimp only; walk1) | fail "no step")
          refine Spec.useList (c_runS X4 T4 (by dsimp only; omega) (by dsimp only; omega) o2 hcs) F4 N4 ?_
          intro a vs n h5 tk5 F5 N5 hna hS
          change SignsAre vs (stepI n2 (codesI row)) at hS
          have hr50 : (stepI n2 (codesI row)).length ≤ 50 := by rw [stepI_length, List.length_map, Array.length_toList, o2]; decide
          have hne_d : ∀ q ∈ own ++ own2, q.1 ≠ h₁.objs.size := fun q hq => (List.mem_append.mp hq).elim (fun h => hoff q h _ (.tail _ (.head _))) (fun h => hoff2 q h _ (.tail _ (.head _)))
          have hne_l : ∀ q ∈ own ++ own2, q.1 ≠ l := fun q hq => (List.mem_append.mp hq).elim (fun h => hoff q h _ (.head _)) (fun h => hoff2 q h _ (.head _))
          have hal : a ≠ l := (hna _ (.head _)).symm
          have had : a ≠ h₁.objs.size := (hna _ (.tail _ (.head _))).symm
          have hld : l ≠ h₁.objs.size := Nat.ne_of_gt hl
          have hU : UpdF h₁.objs.size c2.o ((a, W.listOf vs.toArray n) :: (l, W.listOf c2.vs.toArray c2.n) :: (h₁.objs.size, c2.o) :: (own ++ own2)) (fun o' => (a, W.listOf vs.toArray n) :: (l, W.listOf c2.vs.toArray c2.n) :: (h₁.objs.size, o') :: (own ++ own2)) := .tail had (.tail hld (.head hne_d))
          have hkl : kvs.length ≤ sizeLine := by rw [hk2.length]; exact Nat.le_trans o5 (Nat.le_of_ble_eq_true rfl)
          have hvl : vw.length + (⟨#[n2]⟩ : Str).length ≤ sizeLine := by
            exact Nat.le_trans (Nat.add_le_add_right (show vw.length ≤ 20 from o4) 1) (Nat.le_of_ble_eq_true rfl)
          have hvz : c2.vs.toArray.size ≤ sizeLine := by
            have e : c2.vs.length = st.2.length := strs_len hk3
            rw [List.size_toArray, e]
            exact Nat.le_trans o6 (Nat.le_of_ble_eq_true rfl)
          dsimp only
          cases hot : lookS st.1 (strI (stepI n2 (codesI row))) with
          | some x =>
            have hin : (valueAt kvs (strI (stepI n2 (codesI row)))).isSome = true := by
              obtain ⟨t, e⟩ := hk2.hit hot
              rw [e]; rfl
            repeat' ((fail_if_success (with_reducible show wpAny _ _ (call (Value.ref _) _) _ _ _)); (fail_if_success (with_reducible show InvEndN _ _ _ _ _ _ _)); first | walk1 | (dsimp only; walk1) | fail "no step")
            refine InvEndN.intro (nx := (l, W.listOf c2.vs.toArray c2.n) :: (h₁.objs.size, c2.o) :: own) (by assumption) (by assumption) ⟨c2, rfl, trivial, (fun _ h => nomatch h), ?_, ?_⟩ rfl ?_ ?_
            · exact fun z z1 _ z3 => frk z1 z3
            · show LP w (lmid pre.length ((pre2 ++ [(n2 : Int)]).map Int.toNat)) c2
              rw [hls]
              unfold lstep
              dsimp only
              rw [hrow, hot]
              exact ⟨kvs, hk1, hk2, hk3⟩
            · exact sub1
            · exact sub2
          | none =>
            have hin : (valueAt kvs (strI (stepI n2 (codesI row)))).isSome = false := by
              rw [(hk2.miss hot).1]; rfl
            repeat' ((fail_if_success (with_reducible show wpAny _ _ (call (Value.ref _) _) _ _ _)); (fail_if_success (with_reducible show InvEndN _ _ _ _ _ _ _)); first | walk1 | (dsimp only; walk1) | fail "no step")
            refine' kda_set (knd := PySem.strKind _ _) ?F ?N ?U ?hd (is_str _ _) ?hz ?_
            case F => assumption
            case N => assumption
            case U => exact hU
            case hd => assumption
            case hz => assumption
            intro h9 o9 F9 N9 hd9
            rw [hk2.stored hot] at hd9
            change News s.heap s.heap.objs.size h9 ((a, W.listOf vs.toArray n) :: (l, W.listOf c2.vs.toArray c2.n) :: (h₁.objs.size, o9) :: (own ++ own2)) at N9
            dsimp only
            repeat' ((fail_if_success (with_reducible show wpAny _ _ (call (Value.ref _) _) _ _ _)); (fail_if_success (with_reducible show InvEndN _ _ _ _ _ _ _)); first | walk1 | (dsimp only; walk1) | fail "no step")
            rename_i h10 F10 N10
            rw [List.push_toArray] at N10
            refine least_end F10 N10 ?_ ?_
            · exact fun z z1 z3 => frk z1 z3
            · show LP w (lmid pre.length ((pre2 ++ [(n2 : Int)]).map Int.toNat)) _
              rw [hls]
              unfold lstep
              dsimp only
              rw [hrow, hot, hvw]
              exact ⟨_, hd9, hk2.snoc _ _ _, hk3.append' (.cons _ _ .nil)⟩
      case hE2 => exact PassesOwn.never
  case hE => exact PassesOwn.never
end Mine
end
section
open PySem PySem.W PySem.Calls PyProof.Rows
set_option maxRecDepth 100000
set_option maxHeartbeats 8000000
set_option pp.deepTerms false
set_option pp.deepTerms.threshold 8
namespace Mine
theorem enter_cells {prog : Program} {w : World} {K : Frag} {p : Program} {loose : List Str} {mean : ExcName → Option Value} {mg mb : Str → Option Value} {A : Around} {E : Value → Shared → Prop} {s : Shared} {Q : Value → Shared → Prop} {name qual : Str} {params : Arguments} {body : List Stmt} {scope : Scope} {dV kV doc pm cdv ct oc : Value} {an od : Option Addr} {osl : Array (Option Value)} {f : Addr} {args : List Value} {binds : List (Str × Value)}
    (X : K.In s.heap) (T : Top p loose mean mg mb s.heap)
    (ho : K.lookup f = some ⟨oc, od, .func (fnOf name qual params body scope dV kV doc pm an cdv ct), osl⟩) (hcd : codeIn K cdv qual = true) (hroom : A.depth < recursionLimit)
    (hbind : BindsTo s (fnOf name qual params body scope dV kV doc pm an cdv ct) ⟨args, []⟩ binds)
    (hkind : (binds.all fun y => scope.names.lookup y.1 == some .local || scope.names.lookup y.1 == some .cell) = true)
    (hnd : ((cellsFrom 0 scope.names []).map (·.1)).Nodup)
    (h : ∀ h₁ tk cells, Fr s.heap s.heap.objs.size h₁ (bindL (envOfC qual scope s.heap.objs.size f cdv).kindOf binds fun _ => none) → News s.heap s.heap.objs.size h₁ cells →
      CellsAre (bindC (envOfC qual scope s.heap.objs.size f cdv).kindOf binds fun _ => none) (cellsFrom (s.heap.objs.size + 1) scope.names []) cells →
      wpAny (model prog w) (A.deeper (envOfC qual scope s.heap.objs.size f cdv)) (execs body (envOfC qual scope s.heap.objs.size f cdv))
        (fun fl s' => Q (match fl with | .ret v => v | _ => .none) s') (fun _ _ => False) { s with heap := h₁, toks := tk })
    (hco : scope.isCoroutine = false) (hgen : scope.isGenerator = false) (hk : scope.kind = .function) : wpAny (model prog w) A (call (.ref f) args) Q E s := by
  refine wpAny_call ?_
  refine codeAny_call_function (fd := fnOf name qual params body scope dV kV doc pm an cdv ct) (body := body) hroom (X _ _ ho) rfl hco hgen rfl (codeRec_of X hcd) (hbind _ _ _ _ ?_)
  refine wpAny_newFunctionEnv_cells hk (kindsX hkind _) fun env' he s' x => ?_
  subst he
  refine ⟨T.nolimit.keeps x.toInCall.keep, codeAny_func ?_⟩
  obtain ⟨h₁, tk, rfl, _⟩ := x.done
  have hk₁ := x.toInCall.keep
  obtain ⟨cells, NC, Y⟩ := Cl.news (h₀ := s.heap) (Nat.le_refl _) fun n c hm => ⟨x.cell n c (lookup_of_mem_nodup (cellsFrom_names scope.names 0 (s.heap.objs.size + 1) [] [] rfl ▸ hnd) hm), x.above n c hm⟩
  exact wpAny_mono (h h₁ tk cells ⟨x.toInCall.ns, hk₁, Nat.le_refl _⟩ NC Y) (fun fl s' hl => hl) fun _ _ y => y.elim
end Mine
end
section
open PySem PySem.W PySem.Calls PyProof.Rows
set_option maxRecDepth 100000
set_option maxHeartbeats 2000000
namespace Mine
/-! a list comprehension whose tests and elements keep every object -/
abbrev testTree (ifs : List PySem.Expr) (env : Env) : Sem Bool :=
  forIn ifs true fun c r => if r = true then do let ok ← isTrue c env (eval c env); pure (ForInStep.yield ok) else pure (ForInStep.yield r)
def Bad (h₁ h : Heap) (bad : List Addr) : Prop := ∀ b ∈ bad, (∃ o, h.get? b = some o) ∧ h₁.get? b = none
theorem paired_mono {α β : Type} {F G : α → β → Prop} (h : ∀ a b, F a b → G a b) : ∀ {l₁ : List α} {l₂ : List β}, Paired F l₁ l₂ → Paired G l₁ l₂
  | _, _, .nil => .nil
  | _, _, .cons a t => .cons (h _ _ a) (paired_mono h t)
section
variable {prog : Program} {w : World} {A : Around} {E : Value → Shared → Prop} {env : Env}
theorem comp_core {elt iter : PySem.Expr} {x : Str} {px : Pos} {ifs : List PySem.Expr} {scope : Scope} {cl : List (Str × Addr)} {pos : Pos} {Q : Value → Shared → Prop} {s₁ s₂ : Shared} {I : Addr} {fp : List Addr} {n : Nat} {P : Nat → Value → Prop} {St : Nat → Heap → Prop}
    (W : Walks prog w A I fp [I] n P St) (hsz : n ≤ sizeLine) (hcell : ∀ y ∈ scope.names, y.2 ≠ .cell) (hkind : scope.kind = .function) (hx : scope.names.lookup x = some .local)
    (hst : St 0 s₂.heap) (hlive : ∀ i h, St i h → ∃ o, h.get? I = some o) (hfp : ∀ b ∈ fp, b < s₂.heap.objs.size)
    (hs₂ : ∃ h tk, s₂ = { s₁ with heap := h, toks := tk }) (hkp : Kp s₁.heap s₂.heap) (hgrow : s₁.heap.objs.size ≤ s₂.heap.objs.size) (hI : s₁.heap.get? I = none)
    (p : Nat → Bool) (G : List Addr → Nat → Value → Value → Heap → Prop) (hG : ∀ bad i v y h h', G bad i v y h → (∀ b o, b ∉ bad → h.get? b = some o → h'.get? b = some o) → G bad i v y h')
    (tests : ∀ i v C h tk m E', i < n → P i v → Fr s₁.heap C h m → m x = some v →
      wpAny (model prog w) A (testTree ifs (compEnvC scope cl C env)) (fun ok s' => ok = p i ∧ ∃ h' tk', s' = { s₁ with heap := h', toks := tk' } ∧ Kp h h') E' { s₁ with heap := h, toks := tk })
    (elts : ∀ i v C D h tk m E', i < n → P i v → p i = true → Fr s₁.heap C h m → m x = some v → Bad s₁.heap h [I, C, D] →
      wpAny (model prog w) A (eval elt (compEnvC scope cl C env)) (fun y s' => ∃ h' tk', s' = { s₁ with heap := h', toks := tk' } ∧ Kp h h' ∧ G [I, C, D] i v y h') E' { s₁ with heap := h, toks := tk })
    (done : ∀ C D h' tk (ys : List Value) n', Kp s₁.heap h' → (∀ b ∈ [I, C, D], s₁.heap.get? b = none) → h'.get? D = some (PySem.W.listOf ys.toArray n') → Paired (fun i y => ∃ v, P i v ∧ G [I, C, D] i v y h') ((List.range n).filter p) ys →
      Q (.ref D) { s₁ with heap := h', toks := tk }) :
    wpAny (model prog w) A (newList []) (fun acc s₃ => wpAny (model prog w) A (newFunctionEnv scope env.globals cl [] env.qual none .none (some env)) (fun cenv s₄ =>
      codeAny (model prog w) A (.compStart (.ListComp elt [⟨.Name x px, iter, ifs, 0⟩] scope pos) 0 (.ref I) acc { cenv with scope := relabel scope env }) (compPost (model prog w) A E none Q acc cenv.locals) s₄) E s₃) E s₂ := by
  obtain ⟨H, T, rfl⟩ := hs₂
  refine wpAny_newObj_type (wpAny_newFunctionEnv hcell (by intro y hy; simp at hy) (fun h₁ hns₁ hsb₁ => ?_) hkind)
  dsimp only at hns₁ hsb₁ hst hfp hkp hgrow ⊢
  generalize hH2 : H.push { cls := .type "list", dict := none, data := .seq ([] : List Value).toArray } = H2 at hns₁ hsb₁ ⊢
  have hC : H2.objs.size = H.objs.size + 1 := by rw [← hH2, Heap.size_push]
  have hDC : H.objs.size ≠ H2.objs.size := by rw [hC]; exact Nat.ne_of_lt (Nat.lt_succ_self _)
  have below : ∀ b, b < H.objs.size → b ≠ H2.objs.size ∧ b ≠ H.objs.size := fun b hb => ⟨by rw [hC]; exact Nat.ne_of_lt (Nat.lt_succ_of_lt hb), Nat.ne_of_lt hb⟩
  have hDf : H.objs.size ∉ fp := fun hm => Nat.lt_irrefl _ (hfp _ hm)
  have hCf : H2.objs.size ∉ fp := fun hm => by have := hfp _ hm; rw [hC] at this; exact Nat.lt_irrefl _ (Nat.lt_of_succ_lt this)
  have hIf : I ∈ fp := W.sub I (.head _)
  have old : ∀ b o, H.get? b = some o → h₁.get? b = some o := fun b o e => hsb₁.extBut b o (below b (Heap.lt_size e)).1 (Heap.get?_push_of_some _ (hH2 ▸ Heap.get?_push_of_some _ e))
  have hacc : h₁.PlainList H.objs.size #[] := ⟨_, hsb₁.extBut _ _ hDC (Heap.get?_push_of_some _ (hH2 ▸ Heap.get?_push_size _ rfl))⟩
  have hst₁ : St 0 h₁ := W.frame _ _ _ hst fun b _ o e => old b o e
  have fresh : ∀ a, H.objs.size ≤ a → s₁.heap.get? a = none := fun a ha => by
    cases e : s₁.heap.get? a with
    | none => rfl
    | some o' => exact absurd (Heap.lt_size (hkp _ _ e)) (Nat.not_lt.mpr ha)
  have hCle : s₁.heap.objs.size ≤ H2.objs.size := by rw [hC]; exact Nat.le_succ_of_le hgrow
  have hDn := fresh _ (Nat.le_refl _)
  have hCn : s₁.heap.get? H2.objs.size = none := fresh _ (by rw [hC]; exact Nat.le_succ _)
  have hx' : Env.kindOf (compEnvC scope cl H2.objs.size env) x = some .local := lookup_relabel_local hx
  have hp' : ((compEnvC scope cl H2.objs.size env).scope.kind == .class || ((compEnvC scope cl H2.objs.size env).scope.kind == .module && (compEnvC scope cl H2.objs.size env).locals != (compEnvC scope cl H2.objs.size env).globals)) = false := by simp [compEnvC, relabel, hkind]
  have loop : ∀ s₃ : Shared, s₃ = { s₁ with heap := h₁, toks := T + ([] : List (Str × Value)).length } →
      codeAny (model prog w) A (.compLoop (.ListComp elt [⟨.Name x px, iter, ifs, 0⟩] scope pos) 0 (.ref I) (.ref H.objs.size) (compEnvC scope cl H2.objs.size env))
        (compPost (model prog w) A E none Q (.ref H.objs.size) H2.objs.size) s₃ := by
    rintro s₃ rfl
    refine codeAny_compLoop_tests
      (fun k s' => ∃ h' tk m' ys i, s' = { s₁ with heap := h', toks := tk } ∧ St i h' ∧ h'.PlainList H.objs.size ys ∧ h'.Ns H2.objs.size m' ∧ Kp s₁.heap h' ∧
        Paired (fun i y => ∃ v, P i v ∧ G [I, H2.objs.size, H.objs.size] i v y h') ((List.range i).filter p) ys.toList ∧ i ≤ n ∧ k = n + 1 - i) ?_ (n + 1)
      ⟨h₁, _, _, #[], 0, rfl, hst₁, hacc, hns₁, fun b o e => old b o (hkp b o e), by simpa using Paired.nil, Nat.zero_le _, rfl⟩
    rintro k s' ⟨Hh, tk, m', ys, i, rfl, hst', hacc', hn', hk', hF, hi, rfl⟩
    have hCw : H2.objs.size ∉ [I] := fun h => hCf ((List.mem_singleton.mp h) ▸ hIf)
    have hDw : H.objs.size ∉ [I] := fun h => hDf ((List.mem_singleton.mp h) ▸ hIf)
    by_cases hlt : i < n
    · refine W.item i _ _ _ hlt hst' fun v g₁ tk₁ hPv hst₁ hk₁ => ?_
      have hn₁ : g₁.Ns H2.objs.size m' := hn'.at' fun o e => hk₁ _ o hCw e
      refine wpAny_assign_Name (wpAny_storeName_local hx' hn₁ (fun g₂ hn₂ hs₂ => ?_) hp')
      have up₂ : ∀ b o, b ≠ H2.objs.size → b ∉ [I] → Hh.get? b = some o → g₂.get? b = some o := fun b o hbC hbf e => hs₂.extBut b o hbC (hk₁ b o hbf e)
      have hst₂ : St (i + 1) g₂ := W.frame _ _ _ hst₁ fun b hb o e => hs₂.extBut b o (fun (h : b = H2.objs.size) => hCf (h ▸ hb)) e
      have F₂ : Fr s₁.heap H2.objs.size g₂ _ := ⟨hn₂, fun b o e => up₂ b o (fun q => by rw [q, hCn] at e; cases e) (fun q => by rw [List.mem_singleton.mp q, hI] at e; cases e) (hk' b o e), hCle⟩
      refine wpAny_mono (tests i v H2.objs.size g₂ _ _ _ hlt hPv F₂ (by simp)) (fun ok s₃ h₃ => ?_) fun _ _ e => e
      obtain ⟨rfl, g₃, tk₃, rfl, hk₃⟩ := h₃
      have hst₃ : St (i + 1) g₃ := W.frame _ _ _ hst₂ fun b _ o e => hk₃ b o e
      have hacc₃ : g₃.PlainList H.objs.size ys := hacc'.at fun o e => hk₃ _ o (up₂ _ o hDC hDw e)
      have F₃ : Fr s₁.heap H2.objs.size g₃ _ := Fr.kp F₂ hk₃
      have hF₃ : Paired (fun i y => ∃ v, P i v ∧ G [I, H2.objs.size, H.objs.size] i v y g₃) ((List.range i).filter p) ys.toList := paired_mono (fun j y ⟨v', a, b⟩ => ⟨v', a, hG _ _ _ _ _ _ b fun b o hb e => by
        simp only [List.mem_cons, List.not_mem_nil, or_false, not_or] at hb
        exact hk₃ b o (up₂ b o hb.2.1 (fun q => hb.1 (List.mem_singleton.mp q)) e)⟩) hF
      cases hpv : p i with
      | false =>
        simp only [Bool.false_eq_true, if_false]
        refine ⟨n + 1 - (i + 1), by omega, g₃, tk₃, _, ys, i + 1, rfl, hst₃, hacc₃, F₃.ns, F₃.keep, ?_, hlt, rfl⟩
        rw [List.range_succ, List.filter_append]
        simpa [hpv] using hF₃
      | true =>
        simp only [if_true]
        have hB : Bad s₁.heap g₃ [I, H2.objs.size, H.objs.size] := by
          intro b hb
          simp only [List.mem_cons, List.not_mem_nil, or_false] at hb
          rcases hb with rfl | rfl | rfl
          · exact ⟨hlive _ _ hst₃, hI⟩
          · obtain ⟨o, _, _, ho, _⟩ := F₃.ns; exact ⟨⟨o, ho⟩, hCn⟩
          · obtain ⟨c, hc⟩ := hacc₃; exact ⟨⟨_, hc⟩, hDn⟩
        refine wpAny_mono (elts i v H2.objs.size H.objs.size g₃ _ _ _ hlt hPv hpv F₃ (by simp) hB) (fun y s₄ h₄ => ?_) fun _ _ e => e
        obtain ⟨g₄, tk₄, rfl, hk₄, hGy⟩ := h₄
        have hacc₄ : g₄.PlainList H.objs.size ys := hacc₃.at fun o e => hk₄ _ o e
        have hysz : ys.size ≤ sizeLine := by
          have e1 := Paired.length hF
          have e2 := List.length_filter_le p (List.range i)
          rw [List.length_range] at e2
          have e3 : ys.toList.length = ys.size := Array.length_toList
          omega
        refine wpAny_list_append_plain (hsz := hysz) hacc₄ fun g₅ hacc₅ hs₅ => ?_
        have F₄ := Fr.kp F₃ hk₄
        refine ⟨n + 1 - (i + 1), by omega, g₅, _, _, ys.push y, i + 1, rfl, W.frame _ _ _ hst₃ (fun b hb o e => hs₅.extBut b o (fun h => hDf (h ▸ hb)) (hk₄ b o e)), hacc₅, F₄.ns.sameBut hs₅ (Ne.symm hDC), fun b o e => hs₅.extBut b o (fun q => by rw [q, hDn] at e; cases e) (F₄.keep b o e), ?_, hlt, rfl⟩
        rw [List.range_succ, List.filter_append, Array.toList_push]
        have e : List.filter p [i] = [i] := by simp [hpv]
        rw [e]
        refine Paired.snoc (paired_mono (fun j y ⟨v', a, b⟩ => ⟨v', a, hG _ _ _ _ g₃ _ b fun b o hb e => ?_⟩) hF₃) ⟨v, hPv, hG _ _ _ _ g₄ _ hGy fun b o hb e => ?_⟩
        · simp only [List.mem_cons, List.not_mem_nil, or_false, not_or] at hb
          exact hs₅.extBut b o hb.2.2 e
        · simp only [List.mem_cons, List.not_mem_nil, or_false, not_or] at hb
          exact hs₅.extBut b o hb.2.2 (hk₄ b o e)
    · have hin : i = n := by omega
      subst hin
      refine W.done _ _ _ hst' fun g₁ tk₁ hk₁ => ?_
      have hn₁ : g₁.Ns H2.objs.size m' := hn'.at' fun o e => hk₁ _ o hCw e
      refine ⟨m', hn₁, fun g₂ hs₂ => ?_⟩
      obtain ⟨c, hc⟩ := hacc'
      have up : ∀ b o, b ∉ [I, H2.objs.size, H.objs.size] → Hh.get? b = some o → g₂.get? b = some o := fun b o hb e => by
        simp only [List.mem_cons, List.not_mem_nil, or_false, not_or] at hb
        exact hs₂.extBut b o hb.2.1 (hk₁ b o (fun q => hb.1 (List.mem_singleton.mp q)) e)
      have hD2 : g₂.get? H.objs.size = some _ := hs₂.extBut _ _ hDC (hk₁ _ _ hDw hc)
      refine done H2.objs.size H.objs.size g₂ tk₁ ys.toList c (fun b o e => up b o (fun hb => ?_) (hk' b o e)) (fun b hb => ?_) (by simpa using hD2) (paired_mono (fun j y ⟨v', a, b⟩ => ⟨v', a, hG _ _ _ _ _ _ b up⟩) hF)
      · simp only [List.mem_cons, List.not_mem_nil, or_false] at hb
        rcases hb with rfl | rfl | rfl
        · rw [hI] at e; cases e
        · rw [hCn] at e; cases e
        · rw [hDn] at e; cases e
      · simp only [List.mem_cons, List.not_mem_nil, or_false] at hb
        rcases hb with rfl | rfl | rfl
        · exact hI
        · exact hCn
        · exact hDn
  exact codeAny_compStart_list (loop _ rfl) (W.self 0 _ _ _ hst₁ (loop _ rfl))
/-- what a comprehension does once its iterator is asked for -/
abbrev CompK (prog : Program) (w : World) (A : Around) (E : Value → Shared → Prop) (env : Env) (elt iter : PySem.Expr) (x : Str) (px : Pos) (ifs : List PySem.Expr) (scope : Scope) (cl : List (Str × Addr)) (pos : Pos) (Q : Value → Shared → Prop) (it : Value) (s₂ : Shared) : Prop :=
  wpAny (model prog w) A (newList []) (fun acc s₃ => wpAny (model prog w) A (newFunctionEnv scope env.globals cl [] env.qual none .none (some env)) (fun cenv s₄ =>
      codeAny (model prog w) A (.compStart (.ListComp elt [⟨.Name x px, iter, ifs, 0⟩] scope pos) 0 it acc { cenv with scope := relabel scope env }) (compPost (model prog w) A E none Q acc cenv.locals) s₄) E s₃) E s₂
theorem comp_eval {s : Shared} {elt iter : PySem.Expr} {x : Str} {px : Pos} {ifs : List PySem.Expr} {scope : Scope} {cl : List (Str × Addr)} {pos : Pos} {Q : Value → Shared → Prop}
    (hclos : closureFor scope env = pure cl) (hkind : scope.kind = .function) (hnames : ∀ y ∈ scope.names, y.2 = .local → scope.names.lookup y.1 = some .local)
    (h : wpAny (model prog w) A (eval iter env) (fun xv s₁ => wpAny (model prog w) A (pyIter xv) (fun it s₂ => CompK prog w A E env elt iter x px ifs scope cl pos Q it s₂) E s₁) E s)
    (hs : ∀ x, foldedSetIterable iter env x = pure x) :
    wpAny (model prog w) A (eval (.ListComp elt [⟨.Name x px, iter, ifs, 0⟩] scope pos) env) Q E s := by
  rw [eval_ListComp]
  exact wpAny_comprehension_free (use := none) rfl hs hclos hkind hnames h
theorem comp_push {elt iter : PySem.Expr} {x : Str} {px : Pos} {ifs : List PySem.Expr} {scope : Scope} {cl : List (Str × Addr)} {pos : Pos} {Q : Value → Shared → Prop} {s₁ : Shared} {oi : Obj} {fp : List Addr} {n : Nat} {P : Nat → Value → Prop} {St : Nat → Heap → Prop}
    (W : Walks prog w A s₁.heap.objs.size fp [s₁.heap.objs.size] n P St) (hsz : n ≤ sizeLine) (hcell : ∀ y ∈ scope.names, y.2 ≠ .cell) (hkind : scope.kind = .function) (hx : scope.names.lookup x = some .local)
    (hst : St 0 (s₁.heap.push oi)) (hlive : ∀ i h, St i h → ∃ o, h.get? s₁.heap.objs.size = some o) (hfp : ∀ b ∈ fp, b ≤ s₁.heap.objs.size)
    (p : Nat → Bool) (G : List Addr → Nat → Value → Value → Heap → Prop) (hG : ∀ bad i v y h h', G bad i v y h → (∀ b o, b ∉ bad → h.get? b = some o → h'.get? b = some o) → G bad i v y h')
    (tests : ∀ i v C h tk m E', i < n → P i v → Fr s₁.heap C h m → m x = some v →
      wpAny (model prog w) A (testTree ifs (compEnvC scope cl C env)) (fun ok s' => ok = p i ∧ ∃ h' tk', s' = { s₁ with heap := h', toks := tk' } ∧ Kp h h') E' { s₁ with heap := h, toks := tk })
    (elts : ∀ I i v C D h tk m E', i < n → P i v → p i = true → Fr s₁.heap C h m → m x = some v → Bad s₁.heap h [I, C, D] →
      wpAny (model prog w) A (eval elt (compEnvC scope cl C env)) (fun y s' => ∃ h' tk', s' = { s₁ with heap := h', toks := tk' } ∧ Kp h h' ∧ G [I, C, D] i v y h') E' { s₁ with heap := h, toks := tk })
    (done : ∀ I C D h' tk (ys : List Value) n', Kp s₁.heap h' → (∀ b ∈ [I, C, D], s₁.heap.get? b = none) → h'.get? D = some (PySem.W.listOf ys.toArray n') → Paired (fun i y => ∃ v, P i v ∧ G [I, C, D] i v y h') ((List.range n).filter p) ys →
      Q (.ref D) { s₁ with heap := h', toks := tk }) :
    CompK prog w A E env elt iter x px ifs scope cl pos Q (.ref s₁.heap.objs.size) { s₁ with heap := s₁.heap.push oi } := by
  refine comp_core (s₁ := s₁) W hsz hcell hkind hx hst hlive (fun b hb => ?_) ⟨_, _, rfl⟩ (fun b o e => Heap.get?_push_of_some _ e) ?_ ?_ p G hG tests (elts _) (done _)
  · show b < (s₁.heap.push oi).objs.size
    rw [Heap.size_push]
    exact Nat.lt_succ_of_le (hfp b hb)
  · show _ ≤ (s₁.heap.push oi).objs.size
    rw [Heap.size_push]
    exact Nat.le_succ _
  · cases e : s₁.heap.get? s₁.heap.objs.size with
    | none => rfl
    | some o => exact absurd (Heap.lt_size e) (Nat.lt_irrefl _)
section
variable {elt iter : PySem.Expr} {x : Str} {px : Pos} {ifs : List PySem.Expr} {scope : Scope} {cl : List (Str × Addr)} {pos : Pos} {Q : Value → Shared → Prop} {s₁ : Shared}
/-- over a list -/
theorem comp_list {l : Addr} {vs : List Value} (hh : A.handled = none) (hl : s₁.heap.IsList l vs.toArray) (hsz : vs.length ≤ sizeLine) (hcell : ∀ y ∈ scope.names, y.2 ≠ .cell) (hkind : scope.kind = .function) (hx : scope.names.lookup x = some .local)
    (p : Nat → Bool) (G : List Addr → Nat → Value → Value → Heap → Prop) (hG : ∀ bad i v y h h', G bad i v y h → (∀ b o, b ∉ bad → h.get? b = some o → h'.get? b = some o) → G bad i v y h')
    (tests : ∀ i v C h tk m E', i < vs.length → vs[i]? = some v → Fr s₁.heap C h m → m x = some v →
      wpAny (model prog w) A (testTree ifs (compEnvC scope cl C env)) (fun ok s' => ok = p i ∧ ∃ h' tk', s' = { s₁ with heap := h', toks := tk' } ∧ Kp h h') E' { s₁ with heap := h, toks := tk })
    (elts : ∀ I i v C D h tk m E', i < vs.length → vs[i]? = some v → p i = true → Fr s₁.heap C h m → m x = some v → Bad s₁.heap h [I, C, D] →
      wpAny (model prog w) A (eval elt (compEnvC scope cl C env)) (fun y s' => ∃ h' tk', s' = { s₁ with heap := h', toks := tk' } ∧ Kp h h' ∧ G [I, C, D] i v y h') E' { s₁ with heap := h, toks := tk })
    (done : ∀ I C D h' tk (ys : List Value) n', Kp s₁.heap h' → (∀ b ∈ [I, C, D], s₁.heap.get? b = none) → h'.get? D = some (PySem.W.listOf ys.toArray n') → Paired (fun i y => ∃ v, vs[i]? = some v ∧ G [I, C, D] i v y h') ((List.range vs.length).filter p) ys →
      Q (.ref D) { s₁ with heap := h', toks := tk }) :
    wpAny (model prog w) A (pyIter (.ref l)) (fun it s₂ => CompK prog w A E env elt iter x px ifs scope cl pos Q it s₂) E s₁ := by
  have hlt : l < s₁.heap.objs.size := by obtain ⟨_, e, _⟩ := hl; exact Heap.lt_size e
  have W := Walks.list (prog := prog) (w := w) hh s₁.heap.objs.size l (Nat.ne_of_lt hlt) vs.toArray
  rw [show vs.toArray.size = vs.length from List.size_toArray ..] at W
  refine wpAny_pyIter_list hl (comp_push W hsz hcell hkind hx ⟨⟨_, Heap.get?_push_size _ rfl, rfl, rfl⟩, hl.push _⟩ (fun i h st => ?_) ?_ p G hG (fun i v C h tk m E' hi hv => tests i v C h tk m E' hi (by simpa using hv)) (fun I i v C D h tk m E' hi hv => elts I i v C D h tk m E' hi (by simpa using hv)) fun I C D h' tk ys n' k b e hp => done I C D h' tk ys n' k b e (paired_mono (fun i y ⟨v, a, b⟩ => ⟨v, by simpa using a, b⟩) hp))
  · obtain ⟨⟨o, ho, _⟩, _⟩ := st; exact ⟨o, ho⟩
  · intro b hb
    simp only [List.mem_cons, List.not_mem_nil, or_false] at hb
    rcases hb with rfl | rfl
    · exact Nat.le_refl _
    · exact Nat.le_of_lt hlt
/-- over a range by ones from nought -/
theorem comp_range {r : Addr} {N : Nat} {t u v' : Tok} (hh : A.handled = none) (hr : IsRange s₁.heap r 0 (N : Int) 1 t u v') (hsmall : Builtin.Range.small 0 (N : Int) 1 = true) (hsz : N ≤ sizeLine) (hcell : ∀ y ∈ scope.names, y.2 ≠ .cell) (hkind : scope.kind = .function) (hx : scope.names.lookup x = some .local)
    (p : Nat → Bool) (G : List Addr → Nat → Value → Value → Heap → Prop) (hG : ∀ bad i v y h h', G bad i v y h → (∀ b o, b ∉ bad → h.get? b = some o → h'.get? b = some o) → G bad i v y h')
    (tests : ∀ (i : Nat) t C h tk m E', i < N → Fr s₁.heap C h m → m x = some (.int i t) →
      wpAny (model prog w) A (testTree ifs (compEnvC scope cl C env)) (fun ok s' => ok = p i ∧ ∃ h' tk', s' = { s₁ with heap := h', toks := tk' } ∧ Kp h h') E' { s₁ with heap := h, toks := tk })
    (elts : ∀ I (i : Nat) t C D h tk m E', i < N → p i = true → Fr s₁.heap C h m → m x = some (.int i t) → Bad s₁.heap h [I, C, D] →
      wpAny (model prog w) A (eval elt (compEnvC scope cl C env)) (fun y s' => ∃ h' tk', s' = { s₁ with heap := h', toks := tk' } ∧ Kp h h' ∧ G [I, C, D] i (.int i t) y h') E' { s₁ with heap := h, toks := tk })
    (done : ∀ I C D h' tk (ys : List Value) n', Kp s₁.heap h' → (∀ b ∈ [I, C, D], s₁.heap.get? b = none) → h'.get? D = some (PySem.W.listOf ys.toArray n') → Paired (fun i y => ∃ t, G [I, C, D] i (.int (i : Nat) t) y h') ((List.range N).filter p) ys →
      Q (.ref D) { s₁ with heap := h', toks := tk }) :
    wpAny (model prog w) A (pyIter (.ref r)) (fun it s₂ => CompK prog w A E env elt iter x px ifs scope cl pos Q it s₂) E s₁ := by
  have hn : Builtin.Range.rangeSize 0 (N : Int) 1 = (N : Int) := by
    simp [Builtin.Range.rangeSize]
    omega
  have W := Walks.range (prog := prog) (w := w) hh s₁.heap.objs.size 0 1 N
  refine wpAny_pyIter_range hr hsmall (comp_push W hsz hcell hkind hx (by show IsRangeIter _ _ _ _ _; rw [hn]; simpa using Heap.get?_push_size _ rfl) (fun i h st => ⟨_, st⟩) ?_ p G hG ?_ ?_ ?_)
  · intro b hb
    rw [List.mem_singleton.mp hb]
    exact Nat.le_refl _
  · rintro i v C h tk m E' hi ⟨t, rfl⟩ F hm
    rw [show (0 : Int) + (i : Int) * 1 = (i : Int) by omega] at hm
    exact tests i t C h tk m E' hi F hm
  · rintro I i v C D h tk m E' hi ⟨t, rfl⟩ hp F hm hB
    rw [show (0 : Int) + (i : Int) * 1 = (i : Int) by omega] at hm ⊢
    exact elts I i t C D h tk m E' hi hp F hm hB
  · intro I C D h' tk ys n' k b e hp
    refine done I C D h' tk ys n' k b e (paired_mono (fun i y h => ?_) hp)
    obtain ⟨v, ⟨t, rfl⟩, b⟩ := h
    rw [show (0 : Int) + (i : Int) * 1 = (i : Int) by omega] at b
    exact ⟨t, b⟩
/-- over an ASCII text -/
theorem comp_str {xt : Str} {tx : Tok} (hh : A.handled = none) (ha : xt.cps.all (· < 128) = true) (hsz : xt.cps.size ≤ sizeLine) (hcell : ∀ y ∈ scope.names, y.2 ≠ .cell) (hkind : scope.kind = .function) (hx : scope.names.lookup x = some .local)
    (p : Nat → Bool) (G : List Addr → Nat → Value → Value → Heap → Prop) (hG : ∀ bad i v y h h', G bad i v y h → (∀ b o, b ∉ bad → h.get? b = some o → h'.get? b = some o) → G bad i v y h')
    (tests : ∀ i c t C h tk m E', xt.cps[i]? = some c → Fr s₁.heap C h m → m x = some (.str ⟨#[c]⟩ t) →
      wpAny (model prog w) A (testTree ifs (compEnvC scope cl C env)) (fun ok s' => ok = p i ∧ ∃ h' tk', s' = { s₁ with heap := h', toks := tk' } ∧ Kp h h') E' { s₁ with heap := h, toks := tk })
    (elts : ∀ I i c t C D h tk m E', xt.cps[i]? = some c → p i = true → Fr s₁.heap C h m → m x = some (.str ⟨#[c]⟩ t) → Bad s₁.heap h [I, C, D] →
      wpAny (model prog w) A (eval elt (compEnvC scope cl C env)) (fun y s' => ∃ h' tk', s' = { s₁ with heap := h', toks := tk' } ∧ Kp h h' ∧ G [I, C, D] i (.str ⟨#[c]⟩ t) y h') E' { s₁ with heap := h, toks := tk })
    (done : ∀ I C D h' tk (ys : List Value) n', Kp s₁.heap h' → (∀ b ∈ [I, C, D], s₁.heap.get? b = none) → h'.get? D = some (PySem.W.listOf ys.toArray n') → Paired (fun i y => ∃ c t, xt.cps[i]? = some c ∧ G [I, C, D] i (.str ⟨#[c]⟩ t) y h') ((List.range xt.cps.size).filter p) ys →
      Q (.ref D) { s₁ with heap := h', toks := tk }) :
    wpAny (model prog w) A (pyIter (.str xt tx)) (fun it s₂ => CompK prog w A E env elt iter x px ifs scope cl pos Q it s₂) E s₁ := by
  have W := Walks.strAscii (prog := prog) (w := w) hh s₁.heap.objs.size xt tx
  refine wpAny_pyIter_ascii ha (comp_push W hsz hcell hkind hx ⟨_, Heap.get?_push_size _ rfl, rfl, rfl⟩ (fun i h st => let ⟨o, ho, _⟩ := st; ⟨o, ho⟩) ?_ p G hG ?_ ?_ ?_)
  · intro b hb
    rw [List.mem_singleton.mp hb]
    exact Nat.le_refl _
  · rintro i v C h tk m E' hi ⟨c, t, hc, rfl⟩ F hm
    exact tests i c t C h tk m E' hc F hm
  · rintro I i v C D h tk m E' hi ⟨c, t, hc, rfl⟩ hp F hm hB
    exact elts I i c t C D h tk m E' hc hp F hm hB
  · intro I C D h' tk ys n' k b e hp
    refine done I C D h' tk ys n' k b e (paired_mono (fun i y h => ?_) hp)
    obtain ⟨v, ⟨c, t, hc, rfl⟩, b⟩ := h
    exact ⟨c, t, hc, b⟩
/-- over a dict's keys, texts -/
theorem comp_dict {d : Addr} {od : Obj} {kvs : List (Str × Value)} (hh : A.handled = none) (ho : s₁.heap.get? d = some od) (hd : od.IsDictOf (PySem.strKind prog w) kvs) (lo : (d == sysModules) = false) (hsz : kvs.length ≤ sizeLine) (hcell : ∀ y ∈ scope.names, y.2 ≠ .cell) (hkind : scope.kind = .function) (hx : scope.names.lookup x = some .local)
    (p : Nat → Bool) (G : List Addr → Nat → Value → Value → Heap → Prop) (hG : ∀ bad i v y h h', G bad i v y h → (∀ b o, b ∉ bad → h.get? b = some o → h'.get? b = some o) → G bad i v y h')
    (tests : ∀ i (e : Str × Value) t C h tk m E', kvs[i]? = some e → Fr s₁.heap C h m → m x = some (.str e.1 t) →
      wpAny (model prog w) A (testTree ifs (compEnvC scope cl C env)) (fun ok s' => ok = p i ∧ ∃ h' tk', s' = { s₁ with heap := h', toks := tk' } ∧ Kp h h') E' { s₁ with heap := h, toks := tk })
    (elts : ∀ I i (e : Str × Value) t C D h tk m E', kvs[i]? = some e → p i = true → Fr s₁.heap C h m → m x = some (.str e.1 t) → Bad s₁.heap h [I, C, D] →
      wpAny (model prog w) A (eval elt (compEnvC scope cl C env)) (fun y s' => ∃ h' tk', s' = { s₁ with heap := h', toks := tk' } ∧ Kp h h' ∧ G [I, C, D] i (.str e.1 t) y h') E' { s₁ with heap := h, toks := tk })
    (done : ∀ I C D h' tk (ys : List Value) n', Kp s₁.heap h' → (∀ b ∈ [I, C, D], s₁.heap.get? b = none) → h'.get? D = some (PySem.W.listOf ys.toArray n') → Paired (fun i y => ∃ (e : Str × Value) (t : Tok), kvs[i]? = some e ∧ G [I, C, D] i (.str e.1 t) y h') ((List.range kvs.length).filter p) ys →
      Q (.ref D) { s₁ with heap := h', toks := tk }) :
    wpAny (model prog w) A (pyIter (.ref d)) (fun it s₂ => CompK prog w A E env elt iter x px ifs scope cl pos Q it s₂) E s₁ := by
  obtain ⟨ep, ha⟩ := KdkAt.of hd
  have hD := ha.dictAt ho
  have hlt : d < s₁.heap.objs.size := Heap.lt_size ho
  have W := Walks.dictKeys (prog := prog) (w := w) (knd := PySem.strKind prog w) hh s₁.heap.objs.size d (Nat.ne_of_lt hlt) kvs ep
  refine wpAny_pyIter_dict lo hD (comp_push W hsz hcell hkind hx ⟨⟨_, Heap.get?_push_size _ rfl, rfl, rfl⟩, hD.at' fun o e => Heap.get?_push_of_some _ e⟩ (fun i h st => let ⟨⟨o, ho, _⟩, _⟩ := st; ⟨o, ho⟩) ?_ p G hG ?_ ?_ ?_)
  · intro b hb
    simp only [List.mem_cons, List.not_mem_nil, or_false] at hb
    rcases hb with rfl | rfl
    · exact Nat.le_refl _
    · exact Nat.le_of_lt hlt
  · rintro i v C h tk m E' hi ⟨k, xv, hc, hk⟩ F hm
    obtain ⟨t, rfl⟩ := Value.isStrOf_shape hk
    exact tests i (k, xv) t C h tk m E' hc F hm
  · rintro I i v C D h tk m E' hi ⟨k, xv, hc, hk⟩ hp F hm hB
    obtain ⟨t, rfl⟩ := Value.isStrOf_shape hk
    exact elts I i (k, xv) t C D h tk m E' hc hp F hm hB
  · intro I C D h' tk ys n' k b e hp
    refine done I C D h' tk ys n' k b e (paired_mono (fun i y h => ?_) hp)
    obtain ⟨v, ⟨k, xv, hc, hk⟩, b⟩ := h
    obtain ⟨t, rfl⟩ := Value.isStrOf_shape hk
    exact ⟨(k, xv), t, hc, b⟩
end
theorem tests_nil {E' : Value → Shared → Prop} {s₁ : Shared} {h : Heap} {tk : Nat} : wpAny (model prog w) A (testTree [] env) (fun ok s' => ok = true ∧ ∃ h' tk', s' = { s₁ with heap := h', toks := tk' } ∧ Kp h h') E' { s₁ with heap := h, toks := tk } :=
  wpAny_pure ⟨rfl, _, _, rfl, Kp.refl _⟩
end
end Mine
end
section
open PySem PySem.W PySem.Calls PyProof.Rows
set_option maxRecDepth 100000
set_option maxHeartbeats 8000000
set_option pp.deepTerms false
set_option pp.deepTerms.threshold 8
namespace Mine
local macro_rules | `(tactic| k_data) => `(tactic| (refine' enter_cells ?X ?T ?ho ?hcd ?hroom ?hbind ?hkind ?hnd ?h ?hco ?hgen ?hk; (case X => assumption); (case T => assumption); (case ho => k_is); (case hcd => k_is); (case hroom => (dsimp only; omega)); (case hbind => first | exact BindsTo.of_eq rfl | exact binds_K (by assumption) rfl (by k_is) rfl rfl rfl); (case hkind => rfl); (case hnd => decide); (case hco => exact rfl); (case hgen => exact rfl); (case hk => exact rfl)))
section
variable {prog : Program} {w : World} {A : Around} {E : Value → Shared → Prop} {s : Shared} {h₀ : Heap} {L : Addr} {m : Str → Option Value} {Q : Value → Shared → Prop} {env : Env} {n : Str} {pos : Pos} {v : Value} {c : Addr} {oc : Obj}
theorem nm_local (F : Fr h₀ env.locals s.heap m) (hk : env.scope.kind = .function) (hl : env.kindOf n = some .local) (hv : m n = some v) (hd : (n == ("__debug__" : Str)) = false) (h : Q v s) : wpAny (model prog w) A (eval (.Name n pos) env) Q E s :=
  wpAny_Name (wpAny_loadName_local hk hl F.ns hv h) hd
theorem nm_cell (F : Fr h₀ L s.heap m) (hc : env.cells.lookup n = some c) (ho : h₀.get? c = some oc) (hv : oc.data = .cell (some v)) (hk : env.scope.kind = .function) (hl : env.kindOf n = some .cell) (hd : (n == ("__debug__" : Str)) = false) (h : Q v s) : wpAny (model prog w) A (eval (.Name n pos) env) Q E s :=
  wpAny_Name (wpAny_loadName_cell hk hl hc ⟨oc, F.keep _ _ ho, hv⟩ h) hd
end
local macro_rules | `(tactic| walk_at "eval Name") => `(tactic| k_dflt (first | (refine' nm_local ?F rfl rfl ?hv (by decide) ?_; (case F => assumption); (case hv => assumption)) | (refine' nm_cell ?F rfl ?ho ?hv rfl rfl (by decide) ?_; (case F => assumption); (case ho => assumption); (case hv => assumption))))
theorem fdiv_pow {prog : Program} {w : World} {A : Around} {E : Value → Shared → Prop} {s : Shared} {Q : Value → Shared → Prop} {a b : Int} {t u : Tok} (hb : b ≠ 0) (hl : b.natAbs.log2 < 100) (h : Q (.int (a.fdiv b) s.toks) { s with toks := s.toks + 1 }) : wpAny (model prog w) A (binaryOp .FloorDiv (.int a t) (.int b u)) Q E s :=
  floordiv_int hb h (.inl (PyProof.noPylong_of_log2 (by omega)))
local macro_rules | `(tactic| walk_at "binaryOp FloorDiv int int") => `(tactic| k_dflt (first | refine fdiv_pow (by assumption) (by assumption) ?_ | refine fdiv_pow (by decide) (by decide) ?_))
theorem item_abc {prog : Program} {w : World} {A : Around} {E : Value → Shared → Prop} {s : Shared} {Q : Value → Shared → Prop} {value slice : PySem.Expr} {x : Str} {t u : Tok} {i : Int} {c : Nat} (hr : (decide (i < -(2 ^ 63 : Int)) || decide (i ≥ 2 ^ 63)) = false) (hc : (seqIndex? i x.length).bind (x.cps[·]?) = some c)
    (h : Q (.str ⟨#[c]⟩ s.toks) { s with toks := s.toks + 1 })
    (hs : subscripted slice false (.str x t) (.int i u) = operate [.str x t, .int i u] (getItem (.str x t) (.int i u))) :
    wpAny (model prog w) A (subscriptTail value slice (.str x t) (.int i u)) Q E s :=
  tail_any (typeIs_str s x t) F.slot_str_getitem.lookup (PyProof.Rows.getItem_str hr hc h) hs
theorem paired_signs {l : List Nat} {ys : List Value} (h : Paired (fun (i : Nat) (y : Value) => ∃ _t : Tok, ∃ (c : Nat) (t : Tok), y = Value.str ⟨#[c]⟩ t ∧ Abc c) l ys) : ∃ r : List Nat, SignsAre ys (r.map fun (c : Nat) => (c : Int)) ∧ AbcW r ∧ r.length = l.length := by
  induction h with
  | nil => exact ⟨[], .nil, (fun _ h => nomatch h), rfl⟩
  | cons a _ ih =>
    obtain ⟨r, h1, h2, h3⟩ := ih
    obtain ⟨_, c, t, rfl, hc⟩ := a
    refine ⟨c :: r, .cons c t h1, fun d hd => ?_, by simp [h3]⟩
    rcases List.mem_cons.mp hd with rfl | hd
    · exact hc
    · exact h2 d hd
theorem cs_strI (r : List Nat) : cs (strI (r.map fun (c : Nat) => (c : Int))) = r := by
  show ((r.map fun (c : Nat) => (c : Int)).map Int.toNat) = r
  rw [List.map_map]
  exact (List.map_congr_left (g := _root_.id) fun c _ => Int.toNat_natCast c).trans (List.map_id _)
theorem c_word {w : World} {p : Program} {loose : List Str} {mean : ExcName → Option Value} {mg mb : Str → Option Value} {dp un : Nat} {fr : Option (List Env)} {gd : Option (List Code)} {s : Shared}
    (X : (Mine.hd.heap_39 w.params).In s.heap) (T : Top p loose mean mg mb s.heap) (hd : dp + 2 < recursionLimit) (hu : un + 40 < cLine) {x : Int} {t : Tok} :
    Spec w ⟨none, dp, fr, gd, un⟩ s (call (.ref 42) [.int x t]) (fun v _ => ∃ y t', v = .str y t' ∧ y.length ≤ 50 ∧ AbcW (cs y)) := by
  intro Q E ret
  revert X
  k_fill
  intro X
  k_data
  intro h₁ tk cells F N Y
  obtain ⟨oc, rfl, hoc⟩ := CellsAre.one Y
  change oc.data = .cell (some (.int x t)) at hoc
  try dsimp only
  try k_fold
  repeat' ((fail_if_success (with_reducible show wpAny _ _ (eval (Expr.ListComp _ _ _ _) _) _ _ _)); first | (k_unfold; (try dsimp only)) | (k_end; wrow_close) | walk1 | (dsimp only; walk1) | (leave1; walk_say "STEP leave1"; try dsimp only) | fail "no step")
  refine comp_eval (cl := [(Str.ofString "x", s.heap.objs.size + 1)]) ?hclos rfl (by decide) ?_ (by intro _; rfl)
  case hclos => rfl
  repeat' ((fail_if_success (with_reducible show wpAny _ _ (pyIter _) _ _ _)); first | walk1 | (dsimp only; walk1) | fail "no step")
  rename_i h2 tk2 t1 u1 v1 hR F2 N2 k2
  obtain ⟨M, hM, hM9⟩ : ∃ M : Nat, x.fmod 9 = (M : Int) ∧ M < 9 := by
    have h0 := Int.fmod_nonneg_of_pos x (show (0 : Int) < 9 by decide)
    have h1 := Int.fmod_lt_of_pos x (show (0 : Int) < 9 by decide)
    exact ⟨(x.fmod 9).toNat, by omega, by omega⟩
  rw [hM] at hR
  have hcell : h2.get? (s.heap.objs.size + 1) = some oc := N2.get (.head _)
  refine comp_range rfl hR ?hsm (Nat.le_trans (Nat.le_of_lt hM9) (Nat.le_of_ble_eq_true rfl)) (by decide) rfl rfl (fun _ => true) (fun _ _ _ y _ => ∃ c t, y = Value.str ⟨#[c]⟩ t ∧ Abc c) (fun _ _ _ _ _ _ h _ => h) (fun _ _ _ _ _ _ _ _ _ _ => tests_nil) ?elts ?done
  case hsm => exact (by decide : ∀ M < 9, Builtin.Range.small 0 (M : Nat) 1 = true) M hM9
  case elts =>
    intro I i t C D h tk m E' hi _ F3 hm hB
    have hi9 : i < 9 := Nat.lt_trans hi hM9
    have h3 : (3 : Int) ^ ((i : Int).toNat) = 3 ^ i := by rw [Int.toNat_natCast]
    have hb0 : (3 : Int) ^ ((i : Int).toNat) ≠ 0 := by rw [h3]; exact (by decide : ∀ i < 9, (3 : Int) ^ i ≠ 0) i hi9
    have hb1 : ((3 : Int) ^ ((i : Int).toNat)).natAbs.log2 < 100 := by rw [h3]; exact (by decide : ∀ i < 9, ((3 : Int) ^ i).natAbs.log2 < 100) i hi9
    dsimp only
    repeat' ((fail_if_success (with_reducible show wpAny _ _ (subscriptTail _ _ _ _) _ _ _)); first | walk1 | (dsimp only; walk1) | fail "no step")
    obtain ⟨r, hr, hr0, hr3⟩ : ∃ r, r = ((x.fdiv 9).fdiv (3 ^ (i : Int).toNat)).fmod 3 ∧ 0 ≤ r ∧ r < 3 := ⟨_, rfl, Int.fmod_nonneg_of_pos _ (by decide), Int.fmod_lt_of_pos _ (by decide)⟩
    rw [← hr]
    have hr' : r = 0 ∨ r = 1 ∨ r = 2 := by omega
    rcases hr' with rfl | rfl | rfl
    · exact item_abc (c := 97) (by decide) (by decide) ⟨_, _, rfl, Kp.refl _, 97, _, rfl, .inl rfl⟩ (by with_unfolding_all rfl)
    · exact item_abc (c := 98) (by decide) (by decide) ⟨_, _, rfl, Kp.refl _, 98, _, rfl, .inr (.inl rfl)⟩ (by with_unfolding_all rfl)
    · exact item_abc (c := 99) (by decide) (by decide) ⟨_, _, rfl, Kp.refl _, 99, _, rfl, .inr (.inr rfl)⟩ (by with_unfolding_all rfl)
  case done =>
    intro I C D h' tk ys n' kp hb hD hP
    have F3 := Fr.kp F2 kp
    have N3 := News.put F2 N2 kp (hb D (.tail _ (.tail _ (.head _)))) hD
    obtain ⟨r, hS, hA, hl⟩ := paired_signs hP
    have hrl : (r.map fun (c : Nat) => (c : Int)).length ≤ 50 := by
      rw [List.length_map, hl, List.length_filter_eq_length_iff.mpr (by simp), List.length_range]
      omega
    dsimp only
    repeat' ((fail_if_success (with_reducible show wpAny _ _ (call _ _) _ _ _)); first | walk1 | (dsimp only; walk1) | fail "no step")
    refine join_signs N3 (.head _) hS hrl fun t' k => ?_
    refine ret _ _ _ F3.keep ⟨_, t', rfl, ?_, ?_⟩
    · show (strI _).cps.size ≤ 50
      simpa [strI] using hrl
    · show AbcW (cs (strI _))
      rw [cs_strI]
      exact hA
end Mine
end
section
open PySem PySem.W PySem.Calls PyProof.Rows
set_option maxRecDepth 100000
set_option maxHeartbeats 8000000
set_option pp.deepTerms false
set_option pp.deepTerms.threshold 8
namespace Mine
structure SC where
  vs : List Value
  n : Nat
  ws : List Value
  k : Nat
local macro_rules | `(tactic| k_data) => `(tactic| (refine' enter ?X ?T ?ho ?hcd ?hroom ?hbind ?hloc ?h ?hco ?hgen ?hk ?hcell; (case X => assumption); (case T => assumption); (case ho => k_is); (case hcd => k_is); (case hroom => (dsimp only; omega)); (case hbind => first | exact BindsTo.of_eq rfl | exact binds_K (by assumption) rfl (by k_is) rfl rfl rfl); (case hloc => exact locs rfl); (case hco => exact rfl); (case hgen => exact rfl); (case hk => exact rfl); (case hcell => decide)))
theorem fnAt_kp {a : Addr} {h h' : Heap} (x : FnAt a h) (k : ∀ b o, h.get? b = some o → h'.get? b = some o) : FnAt a h' := by
  obtain ⟨a1, a2, a3, a4, ho⟩ := x
  exact ⟨a1, a2, a3, a4, k _ _ ho⟩
local macro_rules | `(tactic| walk_at "callWith ref") => `(tactic| k_dflt (refine' callWith_F ?k1 ?_; (case k1 => exact fnAt_kp (by assumption) (Fr.keep (by assumption)))))
local macro_rules | `(tactic| walk_at "And") => `(tactic| k_dflt (refine ⟨fnAt_kp (by assumption) (Fr.keep (by assumption)), ?_⟩))
local macro_rules | `(tactic| walk_at "call builtin:list.append") => `(tactic| k_dflt (refine' append_K ?F ?N ?U ?_ ?hz; (case F => assumption); (case N => assumption); (case U => first | exact .head (List.forall_mem_cons.mpr ⟨Ne.symm (by assumption), by assumption⟩) | exact .tail (by assumption) (.head (by assumption))); (case hz => assumption); intro h' F' N'))
theorem split_end {h₀ h' : Heap} {L y z : Addr} {own : List (Addr × Obj)} {x : Str} {m₀ m' : Str → Option Value} {P : List Int → SC → Prop} {pre : List Int} {s₁ : Shared} {tk : Nat} {c : SC}
    (F : Fr h₀ L h' m') (N : News h₀ L h' ((z, W.listOf c.ws.toArray c.k) :: (y, W.listOf c.vs.toArray c.n) :: own)) (hfr : ∀ z, z ≠ x → m' z = m₀ z) (hP : P pre c) :
    InvEndN h₀ L (KstS (fun c : SC => [(z, W.listOf c.ws.toArray c.k), (y, W.listOf c.vs.toArray c.n)]) (fun _ => []) (fun _ => True) x [] m₀ P pre) own [z, y] s₁ { s₁ with heap := h', toks := tk } :=
  InvEndN.intro (nx := [(z, W.listOf c.ws.toArray c.k), (y, W.listOf c.vs.toArray c.n)]) F N ⟨c, rfl, trivial, (fun _ h => nomatch h), (fun z z1 _ _ => hfr z z1), hP⟩ rfl (fun p hp => by
    rcases List.mem_cons.mp hp with rfl | hp
    · exact .head _
    · rw [List.mem_singleton.mp hp]; exact .tail _ (.head _)) fun p hp => .tail _ (.tail _ hp)
theorem c_split {w : World} {p : Program} {loose : List Str} {mean : ExcName → Option Value} {mg mb : Str → Option Value} {dp un : Nat} {fr : Option (List Env)} {gd : Option (List Code)} {s : Shared}
    (X : (Mine.hd.heap_39 w.params).In s.heap) (T : Top p loose mean mg mb s.heap) (hd : dp + 2 < recursionLimit) (hu : un + 40 < cLine)
    {r lam : Addr} {t₀ u₀ v₀ : Tok} (hR : IsRange s.heap r 0 24 1 t₀ u₀ v₀) (hlam : FnAt lam s.heap) (q : Int → Bool)
    (hpred : ∀ (k : Int) (t : Tok) (fr' : Option (List Env)) (s' : Shared), 0 ≤ k → k < 24 → Kp s.heap s'.heap → Spec w ⟨none, dp + 1, fr', gd, un + 3⟩ s' (call (.ref lam) [.int k t]) (fun v _ => v = .bool (q k))) :
    Spec w ⟨none, dp, fr, gd, un⟩ s (call (.ref 37) [.ref r, .ref lam]) (fun v h' => ∃ D a b vs ws n k, v = .ref D ∧ h'.get? D = some (tupOf [.ref a, .ref b]) ∧ h'.get? a = some (W.listOf vs.toArray n) ∧ h'.get? b = some (W.listOf ws.toArray k) ∧
      IntsAre vs ((rangeKs 0 24).filter q) ∧ IntsAre ws ((rangeKs 0 24).filter fun i => !q i)) := by
  intro Q E ret
  revert X
  k_fill
  intro X
  k_data
  intro h₁ F N
  try dsimp only
  try k_fold
  repeat' ((fail_if_success (with_reducible show wpAny _ _ (exec (Stmt.For _ _ _ _ _) _) _ _ _)); first | (k_unfold; (try dsimp only)) | (k_end; wrow_close) | walk1 | (dsimp only; walk1) | (leave1; walk_say "STEP leave1"; try dsimp only) | fail "no step")
  rename_i y h2 l1 h3 z h4 hyz h5 F2 N2
  refine For_invV s.heap rfl rfl ?_ (by intro _; rfl) ?hE
  walk1
  · refine kst_range (σ := SC) (fun c => [(z, W.listOf c.ws.toArray c.k), (y, W.listOf c.vs.toArray c.n)]) (fun _ => []) (fun _ => True) [] (fun pre c => IntsAre c.vs (pre.filter q) ∧ IntsAre c.ws (pre.filter fun i => !q i)) ⟨[], 0, [], 0⟩ rfl (F2.keep _ _ hR) (by decide) (n := 24) (by decide) F2 N2 trivial (fun _ h => nomatch h) ⟨.nil, .nil⟩ ?turn ?done
    case done =>
      intro c u h tk _ hP F3 N3
      change Fr s.heap s.heap.objs.size h _ at F3
      change News s.heap s.heap.objs.size h _ at N3
      dsimp only
      k_steps
      rename_i D h6 F6 N6 _
      exact ret _ _ _ F6.keep ⟨D, y, z, c.vs, c.ws, c.n, c.k, rfl, N6.get (.head _), N6.get (.tail _ (.tail _ (.head _))), N6.get (.tail _ (.head _)), hP.1, hP.2⟩
    case turn =>
      intro c pre k t u h tk own hk hlt hoff _ hP F3 N3
      change Fr s.heap s.heap.objs.size h _ at F3
      change News s.heap s.heap.objs.size h ((z, _) :: (y, _) :: own) at N3
      repeat' ((fail_if_success (with_reducible show wpAny _ _ (call (Value.ref _) _) _ _ _)); first | walk1 | (dsimp only; walk1) | fail "no step")
      have hzy : z ≠ y := Nat.ne_of_gt hyz
      have hoz : ∀ p ∈ own, p.1 ≠ z := fun p hp => hoff p hp _ (.head _)
      have hoy : ∀ p ∈ own, p.1 ≠ y := fun p hp => hoff p hp _ (.tail _ (.head _))
      have hfl : (pre ++ [k]).filter q = pre.filter q ++ (if q k then [k] else []) := by
        rw [List.filter_append]; cases e : q k <;> simp [e]
      have hfl' : ((pre ++ [k]).filter fun i => !q i) = (pre.filter fun i => !q i) ++ (if q k then [] else [k]) := by
        rw [List.filter_append]; cases e : q k <;> simp [e]
      have hvl : c.vs.toArray.size ≤ sizeLine := by
        have e1 := hP.1.length
        have e2 := List.length_filter_le q pre
        rw [List.size_toArray, e1]
        exact Nat.le_trans (Nat.le_trans e2 (Nat.le_of_lt hlt)) (Nat.le_of_ble_eq_true rfl)
      have hwl : c.ws.toArray.size ≤ sizeLine := by
        have e1 := hP.2.length
        have e2 := List.length_filter_le (fun i => !q i) pre
        rw [List.size_toArray, e1]
        exact Nat.le_trans (Nat.le_trans e2 (Nat.le_of_lt hlt)) (Nat.le_of_ble_eq_true rfl)
      refine Spec.use (hpred k t _ _ (by omega) (by omega) F3.keep) F3 N3 ?_
      rintro v h6 tk6 F6 N6 rfl
      dsimp only
      cases hq : q k
      all_goals (rw [hq] at hfl hfl')
      all_goals (repeat' ((fail_if_success (with_reducible show InvEndN _ _ _ _ _ _ _)); first | walk1 | (dsimp only; walk1) | fail "no step"))
      · rename_i h7 F7 N7
        rw [List.push_toArray] at N7
        refine split_end (c := ⟨c.vs, c.n, c.ws ++ [Value.int k t], c.k + 1⟩) F7 N7 (fun z z1 => ?_) ⟨?_, ?_⟩
        · rw [if_neg z1]; rfl
        · rw [hfl, if_neg Bool.false_ne_true, List.append_nil]; exact hP.1
        · rw [hfl', if_neg Bool.false_ne_true]; exact hP.2.append (.cons _ _ .nil)
      · rename_i h7 F7 N7
        rw [List.push_toArray] at N7
        refine split_end (c := ⟨c.vs ++ [Value.int k t], c.n + 1, c.ws, c.k⟩) F7 N7 (fun z z1 => ?_) ⟨?_, ?_⟩
        · rw [if_neg z1]; rfl
        · rw [hfl, if_pos rfl]; exact hP.1.append (.cons _ _ .nil)
        · rw [hfl', if_pos rfl, List.append_nil]; exact hP.2
  case hE => exact PassesOwn.never
end Mine
end
section
open PySem PySem.W PySem.Calls PyProof.Rows
set_option maxRecDepth 100000
set_option maxHeartbeats 2000000
namespace Mine
/-! what _law_right asks, as plain facts -/
theorem stepI_shift (c : Nat) (r : List Int) : stepI c (r.map (· + 48)) = (stepI c r).map (· + 48) := by
  have hlo : ∀ a b : Int, lo (a + 48) (b + 48) = lo a b + 48 := fun a b => by unfold lo; split <;> split <;> omega
  have hhi : ∀ a b : Int, hi (a + 48) (b + 48) = hi a b + 48 := fun a b => by unfold hi; split <;> split <;> omega
  match r with
  | [] => rfl
  | [_] => rfl
  | [_, _] => rfl
  | [_, _, _] => rfl
  | [x0, x1, x2, x3] =>
    simp only [stepI, List.map_cons, List.map_nil, hlo, hhi]
    repeat' split
    all_goals rfl
  | _ :: _ :: _ :: _ :: _ :: _ => rfl
theorem runI_shift (w : List Nat) : ∀ r : List Int, runI w (r.map (· + 48)) = (runI w r).map (· + 48) := by
  induction w with
  | nil => intro r; rfl
  | cons c w ih =>
    intro r
    show runI w (stepI c (r.map (· + 48))) = (runI w (stepI c r)).map (· + 48)
    rw [stepI_shift, ih]
theorem codes_3210 : codesI (Str.ofString "3210") = R0.map (· + 48) := by decide +kernel
theorem R0_mem : R0 ∈ rowsT := by decide +kernel
theorem look_tab : ∀ e ∈ tab, lookS tabS (strI (e.1.map (· + 48))) = some ⟨e.2.toArray⟩ := by decide +kernel
theorem tab_inj : ∀ e ∈ tab, ∀ e' ∈ tab, e.1 = e'.1 → e = e' := by decide +kernel
theorem tab_abc : ∀ e ∈ tab, ∀ c ∈ e.2, c = 97 ∨ c = 98 ∨ c = 99 := by decide +kernel
theorem tab_small : ∀ e ∈ tab, e.2.length ≤ 6 := by decide +kernel
/-- the word's own entry -/
theorem entry_of {x : List Nat} (hx : AbcW x) : ∃ e ∈ tab, e.1 = runI x R0 := by
  obtain ⟨e, he, h⟩ := List.mem_map.mp (run_closed hx R0 R0_mem)
  exact ⟨e, he, h⟩
theorem entry_word {x y : List Nat} {e : List Int × List Nat} (he : e ∈ tab) (h1 : e.1 = runI x R0) (hy : y ∈ nfs) (hs : SameW x y) : y = e.2 := by
  obtain ⟨e', he', rfl⟩ := List.mem_map.mp hy
  have h2 := tab_runs e' he'
  have h3 := hs.2 R0 R0_mem
  have : e = e' := tab_inj e he e' he' (by rw [h1, h3, h2])
  rw [this]
section
variable {prog : Program} {w : World} {A : Around} {E : Value → Shared → Prop} {s : Shared} {Q : Value → Shared → Prop} {K : Frag} {p : Program} {loose : List Str} {mean : ExcName → Option Value} {mg mb : Str → Option Value}
/-- entering a def that has cells, one object of the caller's heap kept apart for changes -/
theorem enter_apart {name qual : Str} {params : Arguments} {body : List Stmt} {scope : Scope} {dV kV doc pm cdv ct oc : Value} {an od : Option Addr} {osl : Array (Option Value)} {f : Addr} {args : List Value} {binds : List (Str × Value)} {P : Addr} {oP : Obj}
    (X : K.In (hideAll s.heap [P])) (T : Top p loose mean mg mb (hideAll s.heap [P])) (hP : s.heap.get? P = some oP)
    (ho : K.lookup f = some ⟨oc, od, .func (fnOf name qual params body scope dV kV doc pm an cdv ct), osl⟩) (hcd : codeIn K cdv qual = true) (hroom : A.depth < recursionLimit)
    (hbind : BindsTo s (fnOf name qual params body scope dV kV doc pm an cdv ct) ⟨args, []⟩ binds)
    (hkind : (binds.all fun y => scope.names.lookup y.1 == some .local || scope.names.lookup y.1 == some .cell) = true)
    (hnd : ((cellsFrom 0 scope.names []).map (·.1)).Nodup)
    (h : ∀ h₁ tk cells, Fr (hideAll s.heap [P]) s.heap.objs.size h₁ (bindL (envOfC qual scope s.heap.objs.size f cdv).kindOf binds fun _ => none) → News (hideAll s.heap [P]) s.heap.objs.size h₁ (cells ++ [(P, oP)]) →
      CellsAre (bindC (envOfC qual scope s.heap.objs.size f cdv).kindOf binds fun _ => none) (cellsFrom (s.heap.objs.size + 1) scope.names []) cells →
      wpAny (model prog w) (A.deeper (envOfC qual scope s.heap.objs.size f cdv)) (execs body (envOfC qual scope s.heap.objs.size f cdv))
        (fun fl s' => Q (match fl with | .ret v => v | _ => .none) s') (fun _ _ => False) { s with heap := h₁, toks := tk })
    (hco : scope.isCoroutine = false) (hgen : scope.isGenerator = false) (hk : scope.kind = .function) : wpAny (model prog w) A (call (.ref f) args) Q E s := by
  have st : ∀ b o, (hideAll s.heap [P]).get? b = some o → s.heap.get? b = some o := fun b o e => of_hideAll _ e
  have Xs := X.keeps st
  refine wpAny_call ?_
  refine codeAny_call_function (fd := fnOf name qual params body scope dV kV doc pm an cdv ct) (body := body) hroom (Xs _ _ ho) rfl hco hgen rfl (codeRec_of Xs hcd) (hbind _ _ _ _ ?_)
  refine wpAny_newFunctionEnv_cells hk (kindsX hkind _) fun env' he s' x => ?_
  subst he
  refine ⟨(T.nolimit.keeps st).keeps x.toInCall.keep, codeAny_func ?_⟩
  obtain ⟨h₁, tk, rfl, _⟩ := x.done
  have hk₁ := x.toInCall.keep
  obtain ⟨cells, NC, Y⟩ := Cl.news (h₀ := s.heap) (Nat.le_refl _) fun n c hm => ⟨x.cell n c (lookup_of_mem_nodup (cellsFrom_names scope.names 0 (s.heap.objs.size + 1) [] [] rfl ▸ hnd) hm), x.above n c hm⟩
  refine wpAny_mono (h h₁ tk cells ⟨x.toInCall.ns, fun b o e => hk₁ b o (st b o e), Nat.le_of_eq (hideAll_size _ _)⟩ (fun q hq => ?_) Y) (fun fl s' hl => hl) fun _ _ y => y.elim
  rcases List.mem_append.mp hq with hq | hq
  · refine ⟨(NC q hq).1, (NC q hq).2.1, ?_⟩
    cases e : (hideAll s.heap [P]).get? q.1 with
    | none => rfl
    | some o => have := st _ _ e; rw [(NC q hq).2.2] at this; cases this
  · rw [List.mem_singleton.mp hq]
    exact ⟨hk₁ _ _ hP, Nat.ne_of_lt (Heap.lt_size hP), hideAll_none _ (.head _)⟩
/-- entering a lambda of the heap -/
theorem enter_lam {name qual : Str} {params : Arguments} {body : PySem.Expr} {scope : Scope} {cl : List (Str × Addr)} {pm ctv : Value} {c' f : Addr} {args : List Value} {binds : List (Str × Value)}
    (T : Top p loose mean mg mb s.heap) (ho : s.heap.get? f = some (kla_obj name qual params body scope cl pm c' ctv)) (hcd : s.heap.CodeRec (.ref c') qual) (hroom : A.depth < recursionLimit)
    (hbind : bindArgs (kla_fn name qual params body scope cl pm (.ref c') ctv) ⟨args, []⟩ = pure binds) (hloc : ∀ y ∈ binds, scope.names.lookup y.1 = some .local)
    (h : ∀ h₁, Fr s.heap s.heap.objs.size h₁ (fun y => binds.reverse.lookup y) →
      wpAny (model prog w) (A.deeper (envX qual scope s.heap.objs.size f (.ref c') cl)) (eval body (envX qual scope s.heap.objs.size f (.ref c') cl)) Q (fun _ _ => False) { s with heap := h₁, toks := s.toks + binds.length })
    (hco : scope.isCoroutine = false) (hgen : scope.isGenerator = false) (hk : scope.kind = .function)
    (hcell : ∀ x ∈ scope.names, x.2 ≠ .cell) : wpAny (model prog w) A (call (.ref f) args) Q E s := by
  refine wpAny_call ?_
  refine kla_callFunE hroom ho rfl hco hgen rfl hcd ?_
  rw [hbind]
  refine wpAny_pure (wpAny_newFunctionEnv hcell hloc (fun h₁ hns hsb => ⟨T.nolimit.fresh _ hsb, ?_⟩) hk)
  show codeAny _ _ (.expr body (envX qual scope s.heap.objs.size f (.ref c') cl)) _ _
  have hk₁ : ∀ b o, s.heap.get? b = some o → h₁.get? b = some o := fun b o e => hsb.extBut b o (Nat.ne_of_lt (Heap.lt_size e)) (Heap.get?_push_of_some _ e)
  exact kla_codeExpr (wpAny_mono (h h₁ ⟨hns, hk₁, Nat.le_refl _⟩) (fun v s' hl => hl) fun _ _ y => y.elim)
end
/-- a list of rows -/
def RowIs (h : Heap) (r : List Int) (y : Value) : Prop := ∃ T vs, y = .ref T ∧ h.IsList T vs.toArray ∧ IntsAre vs r
/-- the same, borne by a ledger -/
def RowIn (led : List (Addr × Obj)) (r : List Int) (y : Value) : Prop := ∃ T o vs n, y = .ref T ∧ (T, o) ∈ led ∧ o.cls = .type "list" ∧ o.data = .seq vs.toArray n ∧ IntsAre vs r
theorem RowIn.is {led : List (Addr × Obj)} {h : Heap} (hn : ∀ p ∈ led, h.get? p.1 = some p.2) {r : List Int} {y : Value} (x : RowIn led r y) : RowIs h r y := by
  obtain ⟨T, o, vs, n, rfl, hm, hc, hd, hi⟩ := x
  exact ⟨T, vs, rfl, ⟨o, hn _ hm, hc, n, hd⟩, hi⟩
theorem RowIn.mono {led led' : List (Addr × Obj)} (hs : ∀ p ∈ led, p ∈ led') {r : List Int} {y : Value} (x : RowIn led r y) : RowIn led' r y := by
  obtain ⟨T, o, vs, n, rfl, hm, r⟩ := x
  exact ⟨T, o, vs, n, rfl, hs _ hm, r⟩
/-- rows that are new to the ground: a ledger bears them -/
theorem rows_led {g h : Heap} {L : Addr} : ∀ {rs : List (List Int)} {ys : List Value}, Paired (fun r y => ∃ T vs, y = Value.ref T ∧ T ≠ L ∧ g.get? T = none ∧ h.IsList T vs.toArray ∧ IntsAre vs r) rs ys →
    ∃ led, News g L h led ∧ Paired (RowIn led) rs ys
  | _, _, .nil => ⟨[], News.nil, .nil⟩
  | _, _, .cons a t => by
    obtain ⟨led, N, hp⟩ := rows_led t
    obtain ⟨T, vs, rfl, hL, hg, ⟨o, ho, hc, n, hd⟩, hi⟩ := a
    refine ⟨(T, o) :: led, fun q hq => ?_, .cons ⟨T, o, vs, n, rfl, .head _, hc, hd, hi⟩ (paired_mono (fun _ _ x => x.mono fun p hp => .tail _ hp) hp)⟩
    rcases List.mem_cons.mp hq with rfl | hq
    · exact ⟨ho, hL, hg⟩
    · exact N q hq
end Mine
end
section
open PySem PySem.W PySem.Calls PyProof.Rows
set_option maxRecDepth 100000
set_option maxHeartbeats 2000000
namespace Mine
section
variable {prog : Program} {w : World} {A : Around} {E : Value → Shared → Prop} {s : Shared} {h₀ : Heap} {L : Addr} {m : Str → Option Value} {news : List (Addr × Obj)} {Q : Value → Shared → Prop} {K : Frag} {p : Program} {loose : List Str} {mean : ExcName → Option Value} {mg mb : Str → Option Value} {env : Env} {n : Str} {pos : Pos} {v : Value}
theorem item_dict {value slice : PySem.Expr} {d : Addr} {od : Obj} {kvs : List (Str × Value)} {k : Str} {t : Tok} (F : Fr h₀ L s.heap m) (ho : h₀.get? d = some od) (hd : od.IsDictOf (PySem.strKind prog w) kvs) (hl : valueAt kvs k = some v) (h : Q v { s with toks := s.toks + 1 })
    (hs : subscripted slice false (.ref d) (.str k t) = operate [.ref d, .str k t] (getItem (.ref d) (.str k t))) (hg : ∀ r, letTemporaryGo value (.ref d) r = pure ()) :
    wpAny (model prog w) A (subscriptTail value slice (.ref d) (.str k t)) Q E s :=
  have hD : s.heap.DictOf (PySem.strKind prog w) d kvs := Heap.dictOf_iff.mpr ⟨od, F.keep _ _ ho, hd⟩
  subscriptTail_builtin hD.typeIs slot_dict_getitem.lookup (wpAny_getItem_of (show (PySem.strKind prog w).is k (.str k t) = true by show Value.isStrOf k (.str k t) = true; simp [Value.isStrOf]) hD.mapOf hl h) hs hg
theorem nm_builtin (F : Fr h₀ L s.heap m) (X : K.In h₀) (T : Top p loose mean mg mb h₀) (e : nsIn K mainGlobals n = some none) (hv : bootBuiltins n = some v) (hn : n ≠ "__name__") (h : Q v s)
    (hk : env.scope.kind = .function) (hx : env.kindOf n = some .globalImplicit) (hg : env.globals = mainGlobals) (hb : env.builtins = builtinsNs) (hd : (n == ("__debug__" : Str)) = false) :
    wpAny (model prog w) A (eval (.Name n pos) env) Q E s :=
  Name_function_global hk hx (loadGlobal_builtin (env := env) (hg ▸ T.g.keeps F.keep) (mg_none_of X T.g e) (hb ▸ T.b.keeps F.keep) ((T.builtins n hn).trans hv) h) hd
theorem nm_global (F : Fr h₀ L s.heap m) (X : K.In h₀) (T : Top p loose mean mg mb h₀) (e : nsIn K mainGlobals n = some (some v)) (h : Q v s)
    (hk : env.scope.kind = .function) (hx : env.kindOf n = some .globalImplicit) (hg : env.globals = mainGlobals) (hd : (n == ("__debug__" : Str)) = false) :
    wpAny (model prog w) A (eval (.Name n pos) env) Q E s :=
  Name_function_global hk hx (loadGlobal_global (env := env) (hg ▸ T.g.keeps F.keep) (mg_of X T.g e) h) hd
end
/-- a cell's store, the ledger laid anew -/
theorem storeC {M : Model} {A : Around} {E : Value → Shared → Prop} {s : Shared} {h₀ : Heap} {L a : Addr} {m : Str → Option Value} {cn : Str} {sc : Scope} {ccd : Value} {cl : List (Str × Addr)}
    {x : Str} {v : Value} {Q : Unit → Shared → Prop} {news : List (Addr × Obj)} {c : Addr} {o : Obj} {v₀ : Option Value} (rest : List (Addr × Obj))
    (F : Fr h₀ L s.heap m) (N : News h₀ L s.heap news) (hc : cl.lookup x = some c) (hm : (c, o) ∈ news) (hd : o.data = .cell v₀) (hr : ∀ p ∈ rest, p ∈ news ∧ p.1 ≠ c)
    (h : ∀ h' o', Fr h₀ L h' m → News h₀ L h' ((c, o') :: rest) → o'.data = .cell (some v) → Q () { s with heap := h' })
    (hk : sc.kind = .function) (hx : (envX cn sc L a ccd cl).kindOf x = some .cell) : wpAny M A (storeName (envX cn sc L a ccd cl) x v) Q E s := by
  have N' : News h₀ L s.heap ((c, o) :: rest) := fun p hp => by
    rcases List.mem_cons.mp hp with rfl | hp
    · exact N _ hm
    · exact N p (hr p hp).1
  exact storeX_C F N' hc (.head fun p hp => (hr p hp).2) hd h hk hx
theorem paired_from {α β : Type} {R : α → β → Prop} (zs : List α) : ∀ (xs : List α) (k : Nat) (ys : List β), zs.drop k = xs → Paired (fun (i : Nat) y => ∃ a, zs[i]? = some a ∧ R a y) (List.range' k xs.length) ys → Paired R xs ys
  | [], _, _, _, h => by cases h; exact .nil
  | x :: xs, k, ys, e, h => by
    rw [List.length_cons, List.range'_succ] at h
    cases h with
    | cons a t =>
      obtain ⟨b, hb, hr⟩ := a
      have e0 : zs[k]? = some x := by
        have := congrArg (·[0]?) e
        simpa [List.getElem?_drop] using this
      rw [e0] at hb
      cases hb
      refine .cons hr (paired_from zs xs (k + 1) _ ?_ t)
      have := congrArg (List.drop 1) e
      simpa [List.drop_drop, Nat.add_comm] using this
theorem paired_range {α β : Type} {R : α → β → Prop} {xs : List α} {ys : List β} (h : Paired (fun (i : Nat) y => ∃ a, xs[i]? = some a ∧ R a y) ((List.range xs.length).filter fun _ => true) ys) : Paired R xs ys := by
  rw [List.filter_eq_self.mpr (by simp), List.range_eq_range'] at h
  exact paired_from xs xs 0 ys rfl h
theorem paired_ints {α : Type} {f : α → Int} {xs : List α} {ys : List Value} (h : Paired (fun a y => ∃ t, y = Value.int (f a) t) xs ys) : IntsAre ys (xs.map f) := by
  induction h with
  | nil => exact .nil
  | cons a _ ih => obtain ⟨t, rfl⟩ := a; exact .cons _ t ih
theorem paired_get {α β : Type} {R : α → β → Prop} {xs : List α} {ys : List β} (h : Paired R xs ys) : ∀ {i : Nat} {y : β}, ys[i]? = some y → ∃ a, xs[i]? = some a ∧ R a y := by
  induction h with
  | nil => intro i y e; simp at e
  | cons a _ ih =>
    intro i y e
    cases i with
    | zero => simp at e; subst e; exact ⟨_, rfl, a⟩
    | succ i => exact ih (by simpa using e)
theorem paired_at {α β : Type} {R : α → β → Prop} {xs : List α} {ys : List β} (h : Paired R xs ys) : ∀ {i : Nat} {a : α}, xs[i]? = some a → ∃ y, ys[i]? = some y ∧ R a y := by
  induction h with
  | nil => intro i y e; simp at e
  | cons a _ ih =>
    intro i y e
    cases i with
    | zero => simp at e; subst e; exact ⟨_, rfl, a⟩
    | succ i => exact ih (by simpa using e)
theorem KV.key {kvs : List (Str × Value)} {D : List (Str × Str)} (h : KV kvs D) : ∀ {i : Nat} {e : Str × Value}, kvs[i]? = some e → ∃ y, D[i]? = some (e.1, y) := by
  induction h with
  | nil => intro i e h; simp at h
  | cons k v t _ ih =>
    intro i e h
    cases i with
    | zero => simp at h; subst h; exact ⟨v, rfl⟩
    | succ i => exact ih (by simpa using h)
theorem KV.row {kvs : List (Str × Value)} (h : KV kvs tabS) {i : Nat} {e : Str × Value} (he : kvs[i]? = some e) : ∃ r ∈ rowsT, rowsT[i]? = some r ∧ e.1 = strI (r.map (· + 48)) := by
  obtain ⟨y, hy⟩ := h.key he
  unfold tabS at hy
  rw [List.getElem?_map] at hy
  cases ht : tab[i]? with
  | none => rw [ht] at hy; cases hy
  | some e' =>
    rw [ht] at hy
    have e2 := (Prod.mk.inj (Option.some.inj hy)).1
    have : rowsT[i]? = some e'.1 := by unfold rowsT; rw [List.getElem?_map, ht]; rfl
    exact ⟨e'.1, List.mem_of_getElem? this, this, e2.symm⟩
theorem row_codes : ∀ r ∈ rowsT, (strI (r.map (· + 48))).cps.toList.map (fun (c : Nat) => (c : Int) - 48) = r ∧ r.length = 4 ∧ (∀ c ∈ (strI (r.map (· + 48))).cps.toList, c = 48 ∨ c = 49 ∨ c = 50 ∨ c = 51) ∧ (strI (r.map (· + 48))).cps.all (· < 128) = true ∧ (strI (r.map (· + 48))).cps.size = 4 := by decide +kernel
theorem rows_led2 {g h : Heap} {L : Addr} {Z : Addr → Prop} : ∀ {rs : List (List Int)} {ys : List Value}, Paired (fun r y => ∃ T vs, y = Value.ref T ∧ T ≠ L ∧ g.get? T = none ∧ Z T ∧ h.IsList T vs.toArray ∧ IntsAre vs r) rs ys →
    ∃ led, News g L h led ∧ (∀ p ∈ led, Z p.1) ∧ Paired (RowIn led) rs ys
  | _, _, .nil => ⟨[], News.nil, (fun _ h => nomatch h), .nil⟩
  | _, _, .cons a t => by
    obtain ⟨led, N, hz, hp⟩ := rows_led2 t
    obtain ⟨T, vs, rfl, hL, hg, hZ, ⟨o, ho, hc, n, hd⟩, hi⟩ := a
    refine ⟨(T, o) :: led, fun q hq => ?_, fun q hq => ?_, .cons ⟨T, o, vs, n, rfl, .head _, hc, hd, hi⟩ (paired_mono (fun _ _ x => x.mono fun p hp => .tail _ hp) hp)⟩
    · rcases List.mem_cons.mp hq with rfl | hq
      · exact ⟨ho, hL, hg⟩
      · exact N q hq
    · rcases List.mem_cons.mp hq with rfl | hq
      · exact hZ
      · exact hz q hq
theorem int_sign {prog : Program} {w : World} {A : Around} {E : Value → Shared → Prop} {s : Shared} {Q : Value → Shared → Prop} {c : Nat} {t : Tok} (hc : c = 48 ∨ c = 49 ∨ c = 50 ∨ c = 51) (h : Q (.int ((c : Int) - 48) s.toks) { s with toks := s.toks + 1 }) :
    wpAny (model prog w) A (call (.type "int") [.str ⟨#[c]⟩ t]) Q E s := by
  rcases hc with rfl | rfl | rfl | rfl
  · exact KIN.call_text (n := 0) (by decide +kernel) (by decide +kernel) h
  · exact KIN.call_text (n := 1) (by decide +kernel) (by decide +kernel) h
  · exact KIN.call_text (n := 2) (by decide +kernel) (by decide +kernel) h
  · exact KIN.call_text (n := 3) (by decide +kernel) (by decide +kernel) h
theorem paired_strs {f : Nat → Nat} {xs : List Nat} {ys : List Value} (h : Paired (fun a y => ∃ t, y = Value.str ⟨#[f a]⟩ t) xs ys) : SignsAre ys (xs.map fun c => ((f c : Nat) : Int)) := by
  induction h with
  | nil => exact .nil
  | cons a _ ih => obtain ⟨t, rfl⟩ := a; exact .cons _ t ih
theorem strI_nat (f : Nat → Nat) (xs : List Nat) : strI (xs.map fun c => ((f c : Nat) : Int)) = ⟨(xs.map f).toArray⟩ := by
  show (⟨((xs.map fun c => ((f c : Nat) : Int)).map Int.toNat).toArray⟩ : Str) = _
  rw [List.map_map]
  rfl
theorem chr_next {prog : Program} {w : World} {A : Around} {E : Value → Shared → Prop} {s : Shared} {Q : Value → Shared → Prop} {c : Nat} {t : Tok} (hc : c = 97 ∨ c = 98 ∨ c = 99) (h : ∀ u k, Q (.str ⟨#[c + 1]⟩ u) { s with toks := k }) :
    wpAny (model prog w) A (call (.builtin "chr") [.int ((c : Int) + 1) t]) Q E s := by
  rcases hc with rfl | rfl | rfl
  · exact P.chr_of_int (by decide) (h _ _)
  · exact P.chr_of_int (by decide) (h _ _)
  · exact P.chr_of_int (by decide) (h _ _)
theorem ne_str_same {prog : Program} {w : World} {A : Around} {E : Value → Shared → Prop} {s : Shared} {Q : Value → Shared → Prop} {x : Str} {t u : Tok} (h : Q (.bool false) s) : wpAny (model prog w) A (compareOp .NotEq (.str x t) (.str x u)) Q E s :=
  P.ne_str (by rw [show (x.cps.toList != x.cps.toList) = false by simp]; exact h)
/-- off the cells and the table -/
def Zc (L T : Addr) : Prop := T ≠ L + 1 ∧ T ≠ L + 2 ∧ T ≠ L + 3 ∧ T ≠ L + 4 ∧ T ≠ 72
theorem fresh_of {g h : Heap} {L : Addr} {m : Str → Option Value} {news : List (Addr × Obj)} (F : Fr g L h m) (N : News g L h news) {o1 o2 o3 o4 o5 : Obj} (m1 : (L + 1, o1) ∈ news) (m2 : (L + 2, o2) ∈ news) (m3 : (L + 3, o3) ∈ news) (m4 : (L + 4, o4) ∈ news) (m5 : (72, o5) ∈ news)
    {T : Addr} (hT : h.get? T = none) : T ≠ L ∧ g.get? T = none ∧ Zc L T := by
  have key : ∀ {c : Addr} {o : Obj}, h.get? c = some o → T ≠ c := fun e q => by rw [q, e] at hT; cases hT
  refine ⟨?_, ?_, key (N.get m1), key (N.get m2), key (N.get m3), key (N.get m4), key (N.get m5)⟩
  · obtain ⟨oL, _, _, hL, _⟩ := F.ns
    exact key hL
  · cases q : g.get? T with
    | none => rfl
    | some o => rw [F.keep _ _ q] at hT; cases hT
theorem News.app {g h : Heap} {L : Addr} {a b : List (Addr × Obj)} (x : News g L h a) (y : News g L h b) : News g L h (a ++ b) := fun q hq => (List.mem_append.mp hq).elim (x q) (y q)
theorem paired_map {α β γ : Type} {R : β → γ → Prop} {f : α → β} {xs : List α} {ys : List γ} (h : Paired (fun a y => R (f a) y) xs ys) : Paired R (xs.map f) ys := by
  induction h with
  | nil => exact .nil
  | cons a _ ih => exact .cons a ih
end Mine
end
section
open PySem PySem.W PySem.Calls PyProof.Rows PySem.SeqAt
set_option maxRecDepth 100000
set_option maxHeartbeats 2000000
namespace Mine
section
variable {prog : Program} {w : World} {A : Around} {E : Value → Shared → Prop} {s : Shared} {Q : Value → Shared → Prop} {env : Env}
theorem tests_one {c : PySem.Expr} {Q : Bool → Shared → Prop} (h : wpAny (model prog w) A (isTrue c env (eval c env)) Q E s) : wpAny (model prog w) A (testTree [c] env) Q E s := by
  unfold testTree
  rw [List.forIn_cons]
  refine wpAny_bind ?_
  rw [if_pos rfl]
  refine wpAny_bind (wpAny_mono h (fun ok s' hq => ?_) fun _ _ e => e)
  refine wpAny_pure ?_
  dsimp only
  rw [List.forIn_nil]
  exact wpAny_pure hq
theorem item_L {value slice : PySem.Expr} {l : Addr} {vs : List Value} {k : Int} {u : Tok} {v : Value} (hl : s.heap.IsList l vs.toArray) (h0 : 0 ≤ k) (hhi : k < 2 ^ 63) (hx : vs[k.toNat]? = some v) (h : Q v s)
    (hs : subscripted slice false (.ref l) (.int k u) = operate [.ref l, .int k u] (getItem (.ref l) (.int k u))) : wpAny (model prog w) A (subscriptTail value slice (.ref l) (.int k u)) Q E s :=
  tail_any hl.typeIs F.slot_list_getitem.lookup (wpAny_getItem_list hl h0 hhi (by simpa using hx) h) hs
theorem nm_free {n : Str} {pos : Pos} {v : Value} {h₀ : Heap} {L c : Addr} {m : Str → Option Value} {oc : Obj} (F : Fr h₀ L s.heap m) (hc : env.cells.lookup n = some c) (ho : h₀.get? c = some oc) (hv : oc.data = .cell (some v)) (hk : env.scope.kind = .function) (hl : env.kindOf n = some .free) (hd : (n == ("__debug__" : Str)) = false) (hn : (n == ("__classdict__" : Str)) = false) (h : Q v s) : wpAny (model prog w) A (eval (.Name n pos) env) Q E s :=
  wpAny_Name (wpAny_loadName_free hk hl hc ⟨oc, F.keep _ _ ho, hv⟩ h hn) hd
end
/-- the rows as the least word leaves them -/
def PRe (e : List Int × List Nat) : List (List Int) := rowsT.map (runI e.2)
def okE (e : List Int × List Nat) (i : Nat) : Bool := decide ((PRe e).getD i [] = [0, 1, 2, 3])
def rowsD (e : List Int × List Nat) : PyData := .list ((PRe e).map fun r => .list (r.map PyData.int))
def partsD (e : List Int × List Nat) : PyData := .tuple [.list ((((List.range 24).filter (okE e)).map fun i => ((i : Nat) : Int)).map PyData.int), .list ((((List.range 24).filter fun i => !okE e i).map fun i => ((i : Nat) : Int)).map PyData.int)]
def splitD (e : List Int × List Nat) : PyData := .tuple [.list (((rangeKs 0 24).filter fun k => okE e k.toNat).map PyData.int), .list (((rangeKs 0 24).filter fun k => !okE e k.toNat).map PyData.int)]
theorem rowsD_ok : ∀ e ∈ tab, shaped (rowsD e) = true ∧ PyData.eqv (rowsD e) (rowsD e) = true := by decide +kernel
theorem partsD_ok : ∀ e ∈ tab, shaped (partsD e) = true ∧ shaped (splitD e) = true ∧ PyData.eqv (splitD e) (partsD e) = true := by decide +kernel
theorem PRe_len (e : List Int × List Nat) : (PRe e).length = 24 := by unfold PRe; rw [List.length_map]; decide +kernel
theorem rows_reads {h : Heap} {rs : List (List Int)} {ys : List Value} (hp : Paired (RowIs h) rs ys) : ∃ as, ReadsAll h ys (rs.map fun r => .list (r.map PyData.int)) as := by
  induction hp with
  | nil => exact ⟨[], .nil⟩
  | cons a _ ih =>
    obtain ⟨as, h2⟩ := ih
    obtain ⟨T, vs, rfl, hl, hi⟩ := a
    exact ⟨_, .cons (reads_newData hl (ke_carried hi)) h2⟩
theorem rowsD_reads {h : Heap} {D : Addr} {e : List Int × List Nat} {ys : List Value} (hl : h.IsList D ys.toArray) (hp : Paired (RowIs h) (PRe e) ys) : ∃ as, Reads h (.ref D) (rowsD e) as := by
  obtain ⟨as, h2⟩ := rows_reads hp
  obtain ⟨o, ho, hc, n, hd⟩ := hl
  exact ⟨_, .list ho hc hd h2⟩
theorem two_reads {h : Heap} {D a b : Addr} {o : Obj} {n : Nat} {vs ws : List Value} {r q : List Int} (ho : h.get? D = some o) (hc : o.cls = .type "tuple") (hd : o.data = .seq #[.ref a, .ref b] n) (ha : h.IsList a vs.toArray) (hb : h.IsList b ws.toArray) (hi : IntsAre vs r) (hj : IntsAre ws q) :
    ∃ as, Reads h (.ref D) (.tuple [.list (r.map PyData.int), .list (q.map PyData.int)]) as :=
  ⟨_, .tuple ho hc hd (.cons (reads_newData ha (ke_carried hi)) (.cons (reads_newData hb (ke_carried hj)) .nil))⟩
/-- a fact that no sweep of the walk may take away -/
def Keep (p : Prop) : Prop := p
def lamPos : Pos := ⟨64, 52, 64, 85⟩
/-- the table of the codes that the def's own text makes -/
def TabOk (h : Heap) (ps : Array Value) : Prop :=
  TriplesOk ps.toList ∧ (codeAmong lamPos ps.toList = none ∨ ∃ c', codeAmong lamPos ps.toList = some (.ref c') ∧ c' ≠ 72 ∧ h.CodeRec (.ref c') (Str.ofString "_law_right.<locals>.<lambda>"))
theorem lam_any {M : Model} {A : Around} {E : Value → Shared → Prop} {s : Shared} {h₀ : Heap} {L a c P : Addr} {m mg mb : Str → Option Value} {cn : Str} {sc : Scope} {ccd : Value} {cl : List (Str × Addr)} {rest : List (Addr × Obj)}
    {p : Program} {loose : List Str} {mean : ExcName → Option Value} {name qual : Str} {params : Arguments} {body : PySem.Expr} {scope : Scope} {ps : Array Value} {pos : Pos} {firstLine : Nat} {clos : List (Str × Addr)} {Q : Value → Shared → Prop}
    (F : Fr h₀ L s.heap m) (N : News h₀ L s.heap ((P, tabObj ps) :: rest)) (hoff : ∀ p ∈ rest, p.1 ≠ P) (T : Top p loose mean mg mb h₀) (C : CodeHd h₀ c P) (hcd : ccd = .ref c) (ht : TriplesOk ps.toList)
    (hc : codeAmong pos ps.toList = none ∨ ∃ c', codeAmong pos ps.toList = some (.ref c') ∧ h₀.CodeRec (.ref c') qual)
    (hcl : closureFor scope (envX cn sc L a ccd cl) = pure clos)
    (h : ∀ f c' ctv h' tk ps', Fr h₀ L h' m → News h₀ L h' ((f, kla_obj name qual params body scope clos ((mg "__name__").getD .none) c' ctv) :: (P, tabObj ps') :: rest) → h'.CodeRec (.ref c') qual → c' ≠ P → (∀ q ∈ rest, q.1 < f) →
      TriplesOk ps'.toList → codeAmong pos ps'.toList = some (.ref c') → Q (.ref f) { s with heap := h', toks := tk }) :
    wpAny M A (makeFunction name qual params (.expr body) scope (envX cn sc L a ccd cl) [] [] [] pos firstLine) Q E s := by
  rcases hc with hc | ⟨c', hc, hr⟩
  · refine kla_nest F N T C hcd (.head hoff) ht hc hcl fun f c' oc vs t ctv h' tk F' N' hd hv hlt hcf => ?_
    have hl : (ps ++ #[rawInt pos.line, rawInt pos.col, Value.ref c']).toList = ps.toList ++ [rawInt pos.line, rawInt pos.col, .ref c'] := by simp
    refine h f c' ctv h' tk (ps ++ #[rawInt pos.line, rawInt pos.col, Value.ref c']) F' (fun q hq => N' q ?_) ⟨c', oc, vs, t, rfl, N'.get (.tail _ (.head _)), hd, hv⟩ (Nat.ne_of_gt (hlt _ (.head _))) (fun q hq => Nat.lt_trans (hlt q (.tail _ hq)) hcf) ?_ ?_
    · rcases List.mem_cons.mp hq with rfl | hq
      · exact .head _
      · exact .tail _ (.tail _ hq)
    · rw [hl]; exact TriplesOk_snoc _ _ _ _ ht
    · rw [hl]; exact codeAmong_snoc _ ht hc
  · refine kla_hit F N T C hcd (.head _) ht hc hcl fun f ctv h' tk F' N' hlt => ?_
    refine h f c' ctv h' tk ps F' N' (hr.keeps F'.keep) ?_ (fun q hq => hlt q (.tail _ hq)) ht hc
    rintro rfl
    obtain ⟨c₂, o, _, _, e, ho, _⟩ := hr
    cases e
    rw [(N _ (.head _)).2.2] at ho
    cases ho
end Mine
end
section
open PySem PySem.W PySem.Calls PyProof.Rows PySem.SeqAt
set_option maxRecDepth 100000
set_option maxHeartbeats 8000000
set_option pp.deepTerms false
set_option pp.deepTerms.threshold 8
namespace Mine
local macro_rules | `(tactic| k_data) => `(tactic| (refine' enter_apart (P := 72) ?X ?T ?hP ?ho ?hcd ?hroom ?hbind ?hkind ?hnd ?h ?hco ?hgen ?hk; (case X => assumption); (case T => assumption); (case hP => assumption); (case ho => k_is); (case hcd => k_is); (case hroom => (dsimp only; omega)); (case hbind => first | exact BindsTo.of_eq rfl | exact binds_K (by assumption) rfl (by k_is) rfl rfl rfl); (case hkind => rfl); (case hnd => decide); (case hco => exact rfl); (case hgen => exact rfl); (case hk => exact rfl)))
local macro_rules | `(tactic| walk_at "eval Name") => `(tactic| k_dflt (first | (refine' nm_local ?F rfl rfl ?hv (by decide) ?_; (case F => assumption); (case hv => assumption)) | (refine' nm_cell ?F rfl ?ho ?hv rfl rfl (by decide) ?_; (case F => assumption); (case ho => assumption); (case hv => assumption)) | ((with_reducible show wpAny _ _ (eval (Expr.Name (Str.ofString "int") _) _) _ _ _); refine' nm_builtin (n := Str.ofString "int") (v := Value.type "int") ?F ?X ?T ?e ?hv ?hn ?_ rfl rfl rfl rfl ?hd; (case F => assumption); (case X => assumption); (case T => assumption); (case e => k_is); (case hv => rfl); (case hn => decide); (case hd => decide)) | ((with_reducible show wpAny _ _ (eval (Expr.Name (Str.ofString "ord") _) _) _ _ _); refine' nm_builtin (n := Str.ofString "ord") (v := Value.builtin "ord") ?F ?X ?T ?e ?hv ?hn ?_ rfl rfl rfl rfl ?hd; (case F => assumption); (case X => assumption); (case T => assumption); (case e => k_is); (case hv => rfl); (case hn => decide); (case hd => decide)) | ((with_reducible show wpAny _ _ (eval (Expr.Name (Str.ofString "chr") _) _) _ _ _); refine' nm_builtin (n := Str.ofString "chr") (v := Value.builtin "chr") ?F ?X ?T ?e ?hv ?hn ?_ rfl rfl rfl rfl ?hd; (case F => assumption); (case X => assumption); (case T => assumption); (case e => k_is); (case hv => rfl); (case hn => decide); (case hd => decide)) | (refine' nm_global ?F ?X ?T ?e ?_ rfl rfl rfl ?hd; (case F => assumption); (case X => assumption); (case T => assumption); (case e => k_is); (case hd => decide))))
theorem cells_four {cm : Str → Option Value} {n1 n2 n3 n4 : Str} {c1 c2 c3 c4 : Addr} {cells : List (Addr × Obj)} (x : CellsAre cm [(n1, c1), (n2, c2), (n3, c3), (n4, c4)] cells) :
    ∃ o1 o2 o3 o4, cells = [(c1, o1), (c2, o2), (c3, o3), (c4, o4)] ∧ o1.data = .cell (cm n1) ∧ o2.data = .cell (cm n2) ∧ o3.data = .cell (cm n3) ∧ o4.data = .cell (cm n4) := by
  cases x with | cons h1 r => cases r with | cons h2 r => obtain ⟨o3, o4, rfl, h3, h4⟩ := r.two; exact ⟨_, _, o3, o4, rfl, h1, h2, h3, h4⟩
theorem c_right {w : World} {p : Program} {loose : List Str} {mean : ExcName → Option Value} {mg mb : Str → Option Value} {dp un : Nat} {fr : Option (List Env)} {gd : Option (List Code)} {s : Shared}
    (X : (Mine.hd.heap_39 w.params).In (hideAll s.heap [72])) (T : Top p loose mean mg mb (hideAll s.heap [72])) (C : CodeHd (hideAll s.heap [72]) 74 72) (hd : dp + 4 < recursionLimit) (hu : un + 200 < cLine)
    {x : Str} {t : Tok} {d : Addr} {od : Obj} {kvs : List (Str × Value)} {ps : Array Value} (hx : x.length ≤ 50) (hc : AbcW (cs x)) (hod : (hideAll s.heap [72]).get? d = some od) (lo : (d == sysModules) = false)
    (hdict : od.IsDictOf (PySem.strKind PySem.Challenge.rw_pe0050_01.row.prog w) kvs) (hkv : KV kvs tabS) (h72 : s.heap.get? 72 = some (tabObj ps)) (hps : TabOk s.heap ps) {Q E : Value → Shared → Prop}
    (ret : ∀ h' tk' ps', (∀ b o, b ≠ 72 → s.heap.get? b = some o → h'.get? b = some o) → h'.get? 72 = some (tabObj ps') → TabOk h' ps' → Q (.bool true) { s with heap := h', toks := tk' }) :
    wpAny (model PySem.Challenge.rw_pe0050_01.row.prog w) ⟨none, dp, fr, gd, un⟩ (call (.ref 75) [.str x t, .ref d]) Q E s := by
  revert X
  k_fill
  intro X
  k_data
  intro h₁ tk cells F N Y
  obtain ⟨ot, op, ou, ow, rfl, hot, hop, hou, how⟩ := cells_four Y
  clear Y
  change ot.data = .cell none at hot
  change op.data = .cell none at hop
  change ou.data = .cell none at hou
  change ow.data = .cell (some (.str x t)) at how
  generalize hg : hideAll s.heap [72] = g at X T C hod F N
  generalize hLL : s.heap.objs.size = L at F N ⊢
  change News g L h₁ [(L + 4, ot), (L + 3, op), (L + 2, ou), (L + 1, ow), (72, tabObj ps)] at N
  try dsimp only
  try k_fold
  repeat' ((fail_if_success (with_reducible show wpAny _ _ (call (Value.ref _) _) _ _ _)); first | (k_unfold; (try dsimp only)) | walk1 | (dsimp only; walk1) | fail "no step")
  have hcx : ∀ c ∈ x.cps.toList, Abc c := hc
  have X1 := Frag.In.keeps X F.keep
  have T1 := T.keeps F.keep
  refine Spec.useList (c_runS X1 T1 (by dsimp only; omega) (by dsimp only; omega) (by decide +kernel) hcx) F N ?_
  intro a0 vs0 n0 h2 tk2 F2 N2 hna0 hS0
  change SignsAre vs0 (runI (cs x) (codesI (Str.ofString "3210"))) at hS0
  rw [codes_3210, runI_shift] at hS0
  have hrl0 : ((runI (cs x) R0).map (· + 48)).length ≤ 50 := by rw [List.length_map, runI_length]; decide
  obtain ⟨e, he, hee⟩ := entry_of hc
  obtain ⟨tdue, hdue⟩ := hkv.hit (look_tab e he)
  rw [hee] at hdue
  try dsimp only
  repeat' ((fail_if_success (with_reducible show wpAny _ _ (call _ _) _ _ _)); first | walk1 | (dsimp only; walk1) | fail "no step")
  refine join_signs N2 (.head _) hS0 hrl0 fun t3 tk3 => ?_
  refine item_dict F2 hod hdict hdue ?_ (by with_unfolding_all rfl) (by intro _; with_unfolding_all rfl)
  try dsimp only
  repeat' ((fail_if_success (with_reducible show wpAny _ _ (eval (Expr.ListComp _ _ _ _) _) _ _ _)); first | walk1 | (dsimp only; walk1) | fail "no step")
  refine comp_eval (cl := []) ?hclos rfl (by decide) ?_ (by intro _; rfl)
  case hclos => rfl
  repeat' ((fail_if_success (with_reducible show wpAny _ _ (pyIter _) _ _ _)); first | walk1 | (dsimp only; walk1) | fail "no step")
  have h24 : kvs.length = 24 := by rw [hkv.length]; decide +kernel
  refine comp_dict rfl (F2.keep _ _ hod) hdict lo (by rw [h24]; exact Nat.le_of_ble_eq_true rfl) (by decide) rfl rfl (fun _ => true) (fun bad i _ y h => ∃ r ∈ rowsT, rowsT[i]? = some r ∧ ∃ T vs n, y = Value.ref T ∧ T ∉ bad ∧ h2.get? T = none ∧ h.get? T = some (W.listOf vs.toArray n) ∧ IntsAre vs r) ?hG (fun _ _ _ _ _ _ _ _ _ _ _ => tests_nil) ?elts ?done
  case hG =>
    rintro bad i v y h h' ⟨r, h1, h2, T, vs, n, h3, h4, h5, h6, h7⟩ hk
    exact ⟨r, h1, h2, T, vs, n, h3, h4, h5, hk _ _ h4 h6, h7⟩
  case elts =>
    intro I i ee te C3 D3 h3 tk3' m3 E3 hee' _ F3 hm3 hB3
    obtain ⟨r, hr, hri, hre⟩ := hkv.row hee'
    obtain ⟨c1, c2, c3, c4, c5⟩ := row_codes r hr
    rw [← hre] at c1 c3 c4 c5
    have X3 := Frag.In.keeps (Frag.In.keeps X F2.keep) F3.keep
    have T3 := (T.keeps F2.keep).keeps F3.keep
    refine comp_eval (cl := []) ?hclos2 rfl (by decide) ?_ (by intro _; rfl)
    case hclos2 => rfl
    repeat' ((fail_if_success (with_reducible show wpAny _ _ (pyIter _) _ _ _)); first | walk1 | (dsimp only; walk1) | fail "no step")
    refine comp_str rfl c4 (by rw [c5]; exact Nat.le_of_ble_eq_true rfl) (by decide) rfl rfl (fun _ => true) (fun _ i _ y _ => ∃ c, ee.1.cps.toList[i]? = some c ∧ ∃ t, y = Value.int ((c : Int) - 48) t) (fun _ _ _ _ _ _ h _ => h) (fun _ _ _ _ _ _ _ _ _ _ _ => tests_nil) ?elts2 ?done2
    case elts2 =>
      intro I4 i4 c4 t4 C4 D4 h4 tk4 m4 E4 hc4 _ F4 hm4 hB4
      have hc4' : ee.1.cps.toList[i4]? = some c4 := by simpa using hc4
      have hc4'' := c3 c4 (List.mem_of_getElem? hc4')
      try dsimp only
      repeat' ((fail_if_success (with_reducible show wpAny _ _ (call _ _) _ _ _)); first | walk1 | (dsimp only; walk1) | fail "no step")
      refine int_sign hc4'' ?_
      exact ⟨_, _, rfl, Kp.refl _, c4, hc4', _, rfl⟩
    case done2 =>
      intro I4 C4 D4 h4 tk4 ys4 n4 kp4 hb4 hD4 hP4
      have hn4 : h3.get? D4 = none := hb4 D4 (.tail _ (.tail _ (.head _)))
      have hI4 : IntsAre ys4 r := by
        rw [← c1]
        refine paired_ints (paired_range (R := fun (c : Nat) (y : Value) => ∃ t, y = Value.int ((c : Int) - 48) t) (xs := ee.1.cps.toList) ?_)
        rw [Array.length_toList]
        exact paired_mono (fun i y ⟨_, _, _, h⟩ => h) hP4
      refine ⟨_, _, rfl, kp4, r, hr, hri, D4, ys4, n4, rfl, fun hm => ?_, ?_, hD4, hI4⟩
      · obtain ⟨⟨o, ho⟩, _⟩ := hB3 D4 hm
        rw [hn4] at ho
        cases ho
      · cases q : h2.get? D4 with
        | none => rfl
        | some o => rw [F3.keep _ _ q] at hn4; cases hn4
  case done =>
    intro I3 C3 D3 h3 tk3' ys n3 kp3 hb3 hD3 hP3
    have hP3' : Paired (fun r y => ∃ T vs, y = Value.ref T ∧ T ≠ L ∧ g.get? T = none ∧ h2.get? T = none ∧ h3.IsList T vs.toArray ∧ IntsAre vs r) rowsT ys := by
      refine paired_range (xs := rowsT) ?_
      rw [show rowsT.length = kvs.length by rw [h24]; decide +kernel]
      refine paired_mono (fun i y h => ?_) hP3
      obtain ⟨ee, te, _, r, _, hri, T, vs, n, rfl, _, hn, hT, hI⟩ := h
      refine ⟨r, hri, T, vs, rfl, ?_, ?_, hn, ⟨_, hT, rfl, n, rfl⟩, hI⟩
      · rintro rfl
        obtain ⟨oL, _, _, hL, _⟩ := F2.ns
        rw [hL] at hn
        cases hn
      · cases q : g.get? T with
        | none => rfl
        | some o => rw [F2.keep _ _ q] at hn; cases hn
    obtain ⟨led, NL, hZ, hRows⟩ := rows_led2 hP3'
    have hD3n : h2.get? D3 = none := hb3 D3 (.tail _ (.tail _ (.head _)))
    have F3 := Fr.kp F2 kp3
    have N3 : News g L h3 ((D3, W.listOf ys.toArray n3) :: (L + 4, ot) :: (L + 3, op) :: (L + 2, ou) :: (L + 1, ow) :: (72, tabObj ps) :: led) := by
      intro q hq
      have N3 := News.put F2 N2 kp3 hD3n hD3
      rcases List.mem_append.mp (show q ∈ [(D3, W.listOf ys.toArray n3), (L + 4, ot), (L + 3, op), (L + 2, ou), (L + 1, ow), (72, tabObj ps)] ++ led from hq) with hq | hq
      · refine N3 q ?_
        rcases List.mem_cons.mp hq with rfl | hq
        · exact .head _
        · exact .tail _ (.tail _ hq)
      · exact NL q hq
    have h2at : ∀ {c : Addr} {o : Obj}, h2.get? c = some o → ∀ p ∈ (D3, W.listOf ys.toArray n3) :: led, p.1 ≠ c := fun e p hp q => by
      have : h2.get? p.1 = none := by
        rcases List.mem_cons.mp hp with rfl | hp
        · exact hD3n
        · exact hZ p hp
      rw [q, e] at this
      cases this
    have i4 := h2at (N2.get (.tail _ (.head _)))
    have i3 := h2at (N2.get (.tail _ (.tail _ (.head _))))
    have i2 := h2at (N2.get (.tail _ (.tail _ (.tail _ (.head _)))))
    have i1 := h2at (N2.get (.tail _ (.tail _ (.tail _ (.tail _ (.head _))))))
    have i72 := h2at (N2.get (.tail _ (.tail _ (.tail _ (.tail _ (.tail _ (.head _)))))))
    have hL72 : 72 < L := by rw [← hLL]; exact Heap.lt_size h72
    clear NL N2 hZ
    have hZc : ∀ p ∈ led, Zc L p.1 := fun p hp => ⟨i1 p (.tail _ hp), i2 p (.tail _ hp), i3 p (.tail _ hp), i4 p (.tail _ hp), i72 p (.tail _ hp)⟩
    have hZ3 : Zc L D3 := ⟨i1 _ (.head _), i2 _ (.head _), i3 _ (.head _), i4 _ (.head _), i72 _ (.head _)⟩
    have nn : ∀ i j : Nat, i ≠ j → L + i ≠ L + j := fun i j h e => h (Nat.add_left_cancel e)
    have n72 : ∀ i : Nat, (72 : Nat) ≠ L + i := fun i e => by omega
    try dsimp only
    repeat' ((fail_if_success (with_reducible show wpAny _ _ (storeName _ _ _) _ _ _)); first | walk1 | (dsimp only; walk1) | fail "no step")
    rename_i D5 h5a l5 h5 F5 N5
    refine storeC ((D3, W.listOf ys.toArray n3) :: (L + 4, ot) :: (L + 3, op) :: (L + 1, ow) :: (72, tabObj ps) :: led) F5 N5 (c := L + 2) rfl (o := ou) (by simp only [List.mem_cons, true_or, or_true]) hou ?_ ?_ rfl rfl
    · refine List.forall_mem_cons.mpr ⟨⟨by simp only [List.mem_cons, true_or, or_true], i2 _ (.head _)⟩, List.forall_mem_cons.mpr ⟨⟨by simp only [List.mem_cons, true_or, or_true], ?_⟩, List.forall_mem_cons.mpr ⟨⟨by simp only [List.mem_cons, true_or, or_true], ?_⟩, List.forall_mem_cons.mpr ⟨⟨by simp only [List.mem_cons, true_or, or_true], ?_⟩, List.forall_mem_cons.mpr ⟨⟨by simp only [List.mem_cons, true_or, or_true], ?_⟩, fun q hq => ⟨by simp only [List.mem_cons, hq, or_true], i2 _ (.tail _ hq)⟩⟩⟩⟩⟩⟩
      all_goals (first | exact nn _ _ (by decide) | exact n72 _)
    clear N5 F5
    intro h6 ou' F6 N6 hou'
    try dsimp only
    repeat' ((fail_if_success (with_reducible show wpAny _ _ (call (Value.ref _) _) _ _ _)); first | walk1 | (dsimp only; walk1) | fail "no step")
    rename_i h7 F7 N7
    have X7 := Frag.In.keeps X F7.keep
    have T7 := T.keeps F7.keep
    refine Spec.use (c_short X7 T7 (by dsimp only; omega) (by dsimp only; omega) hx hc) F7 N7 ?_
    rintro v8 h8 tk8 F8 N8 ⟨y8, t8, rfl, hy8, hsame⟩
    clear F7 N7
    try dsimp only
    repeat' ((fail_if_success (with_reducible show wpAny _ _ (eval (Expr.ListComp _ _ _ _) _) _ _ _)); first | walk1 | (dsimp only; walk1) | fail "no step")
    refine comp_eval (cl := []) ?hclos3 rfl (by decide) ?_ (by intro _; rfl)
    case hclos3 => rfl
    repeat' ((fail_if_success (with_reducible show wpAny _ _ (pyIter _) _ _ _)); first | walk1 | (dsimp only; walk1) | fail "no step")
    have X8 := Frag.In.keeps X F8.keep
    have T8 := T.keeps F8.keep
    have hdabc : ∀ c ∈ e.2, Abc c := tab_abc e he
    refine comp_str rfl (abc_small (x := ⟨e.2.toArray⟩) (by simpa using hdabc)) (by show e.2.toArray.size ≤ _; rw [List.size_toArray]; exact Nat.le_trans (tab_small e he) (Nat.le_of_ble_eq_true rfl)) (by decide) rfl rfl (fun _ => true) (fun _ i _ y _ => ∃ c, e.2[i]? = some c ∧ ∃ t, y = Value.str ⟨#[c + 1]⟩ t) (fun _ _ _ _ _ _ h _ => h) (fun _ _ _ _ _ _ _ _ _ _ _ => tests_nil) ?elts3 ?done3
    case elts3 =>
      intro I9 i9 c9 t9 C9 D9 h9 tk9 m9 E9 hc9 _ F9 hm9 hB9
      have hc9' : e.2[i9]? = some c9 := by simpa using hc9
      have hc9'' := hdabc c9 (List.mem_of_getElem? hc9')
      clear F8 N8
      try dsimp only
      repeat' ((fail_if_success (with_reducible show wpAny _ _ (call _ _) _ _ _)); first | walk1 | (dsimp only; walk1) | fail "no step")
      refine ord_lit (c9 : Int) rfl ?_
      try dsimp only
      repeat' ((fail_if_success (with_reducible show wpAny _ _ (call _ _) _ _ _)); first | walk1 | (dsimp only; walk1) | fail "no step")
      refine chr_next hc9'' fun u k => ?_
      exact ⟨_, _, rfl, Kp.refl _, c9, hc9', _, rfl⟩
    case done3 =>
      intro I9 C9 D9 h9 tk9 ys9 n9 kp9 hb9 hD9 hP9
      have F9 := Fr.kp F8 kp9
      have N9 := News.put F8 N8 kp9 (hb9 D9 (.tail _ (.tail _ (.head _)))) hD9
      have hS9 : SignsAre ys9 (e.2.map fun c => ((c + 1 : Nat) : Int)) := by
        refine paired_strs (f := fun c => c + 1) (paired_range (xs := e.2) ?_)
        rw [show (⟨e.2.toArray⟩ : Str).cps.size = e.2.length from List.size_toArray ..] at hP9
        exact paired_mono (fun i y ⟨_, _, _, h⟩ => h) hP9
      clear F8 N8
      try dsimp only
      repeat' ((fail_if_success (with_reducible show wpAny _ _ (call _ _) _ _ _)); first | walk1 | (dsimp only; walk1) | fail "no step")
      refine join_signs N9 (.head _) hS9 (by rw [List.length_map]; exact Nat.le_trans (tab_small e he) (by decide)) fun t10 tk10 => ?_
      rw [strI_nat (fun c => c + 1), entry_word he hee hy8 hsame]
      try dsimp only
      repeat' ((fail_if_success (with_reducible show wpAny _ _ (compareOp _ _ _) _ _ _)); first | walk1 | (dsimp only; walk1) | fail "no step")
      refine ne_str_same ?_
      try dsimp only
      repeat' ((fail_if_success (with_reducible show wpAny _ _ (eval (Expr.ListComp _ _ _ _) _) _ _ _)); first | walk1 | (dsimp only; walk1) | fail "no step")
      have N9' : News g L h9 ((D3, W.listOf ys.toArray n3) :: (L + 4, ot) :: (L + 3, op) :: (L + 2, ou') :: (L + 1, ow) :: (72, tabObj ps) :: led) := fun q hq => N9 q (by
        simp only [List.mem_cons] at hq ⊢
        rcases hq with h | h | h | h | h | h | h <;> simp [h])
      clear N9
      have fresh9 : ∀ {T : Addr}, h9.get? T = none → T ≠ L ∧ g.get? T = none ∧ Zc L T := fun hT => fresh_of F9 N9' (o1 := ow) (o2 := ou') (o3 := op) (o4 := ot) (o5 := tabObj ps) (by simp only [List.mem_cons, true_or, or_true]) (by simp only [List.mem_cons, true_or, or_true]) (by simp only [List.mem_cons, true_or, or_true]) (by simp only [List.mem_cons, true_or, or_true]) (by simp only [List.mem_cons, true_or, or_true]) hT
      have X9 := Frag.In.keeps X F9.keep
      have T9 := T.keeps F9.keep
      have hw9 : h9.get? (L + 1) = some ow := N9'.get (by simp only [List.mem_cons, true_or, or_true])
      have hl9 : h9.IsList D3 ys.toArray := ⟨_, N9'.get (.head _), rfl, n3, rfl⟩
      have hys : ys.length = 24 := by
        have := Paired.length hRows
        rw [← this]
        decide +kernel
      refine comp_eval (cl := [(Str.ofString "word", L + 1)]) ?hclos4 rfl (by decide) ?_ (by intro _; rfl)
      case hclos4 => rfl
      repeat' ((fail_if_success (with_reducible show wpAny _ _ (pyIter _) _ _ _)); first | walk1 | (dsimp only; walk1) | fail "no step")
      refine comp_list rfl hl9 (by rw [hys]; exact Nat.le_of_ble_eq_true rfl) (by decide) rfl rfl (fun _ => true) (fun bad i _ y h => ∃ r, rowsT[i]? = some r ∧ ∃ T vs, y = Value.ref T ∧ T ∉ bad ∧ (T ≠ L ∧ g.get? T = none ∧ Zc L T) ∧ h.IsList T vs.toArray ∧ IntsAre vs (runI (cs x) r)) ?hG4 (fun _ _ _ _ _ _ _ _ _ _ _ => tests_nil) ?elts4 ?done4
      case hG4 =>
        rintro bad i v y h h' ⟨r, h1, T, vs, h3, h4, h5, h6, h7⟩ hk
        exact ⟨r, h1, T, vs, h3, h4, h5, h6.at fun o e => hk _ _ h4 e, h7⟩
      case elts4 =>
        intro I10 i10 v10 C10 D10 h10 tk10 m10 E10 hi10 hv10 _ F10 hm10 hB10
        obtain ⟨r, hri, T', o', vs', n', rfl, hmem, hcls, hdat, hI'⟩ := paired_get hRows hv10
        have hTo : h9.get? T' = some o' := N9'.get (by simp only [List.mem_cons, hmem, or_true])
        have hl' : h10.IsList T' vs'.toArray := ⟨o', F10.keep _ _ hTo, hcls, n', hdat⟩
        have hT3 := N9' _ (show (T', o') ∈ _ by simp only [List.mem_cons, hmem, or_true])
        have X10 := Frag.In.keeps X9 F10.keep
        have T10 := T9.keeps F10.keep
        obtain ⟨_, r4, _⟩ := row_codes r (List.mem_of_getElem? hri)
        clear F9 N9'
        try dsimp only
        repeat' ((fail_if_success (with_reducible show wpAny _ _ (call _ _) _ _ _)); first | walk1 | (dsimp only; walk1) | fail "no step")
        refine (c_reduce X10 T10 (by dsimp only; omega) (by dsimp only; omega) hl' hI' r4 hcx) _ _ ?_
        rintro v11 h11 tk11 kp11 ⟨b, vs11, rfl, hb, hl11, hI11⟩
        refine ⟨_, _, rfl, kp11, r, hri, b, vs11, rfl, ?_, ?_, hl11, hI11⟩
        · intro hm
          obtain ⟨⟨o, ho⟩, hno⟩ := hB10 b hm
          rcases hb with rfl | hb
          · rw [hTo] at hno; cases hno
          · rw [hb] at ho; cases ho
        · rcases hb with rfl | hb
          · exact ⟨hT3.2.1, hT3.2.2, hZc _ hmem⟩
          · refine fresh9 ?_
            cases q : h9.get? b with
            | none => rfl
            | some o => rw [F10.keep _ _ q] at hb; cases hb
      case done4 =>
        intro I10 C10 D10 h10 tk10 ys10 n10 kp10 hb10 hD10 hP10
        have hP10' : Paired (fun r y => ∃ T vs, y = Value.ref T ∧ T ≠ L ∧ g.get? T = none ∧ Zc L T ∧ h10.IsList T vs.toArray ∧ IntsAre vs r) (rowsT.map (runI (cs x))) ys10 := by
          refine paired_map (paired_range (xs := rowsT) ?_)
          rw [show rowsT.length = ys.length by rw [hys]; decide +kernel]
          refine paired_mono (fun i y h => ?_) hP10
          obtain ⟨_, _, r, hri, T, vs, rfl, _, ⟨ha, hb, hc⟩, hT, hI⟩ := h
          exact ⟨r, hri, T, vs, rfl, ha, hb, hc, hT, hI⟩
        obtain ⟨led2, NL2, hZ2, hTold⟩ := rows_led2 hP10'
        have hD10n : h9.get? D10 = none := hb10 D10 (.tail _ (.tail _ (.head _)))
        have hZ10 : Zc L D10 := (fresh9 hD10n).2.2
        have F10 := Fr.kp F9 kp10
        have N10 : News g L h10 ((D10, W.listOf ys10.toArray n10) :: (D3, W.listOf ys.toArray n3) :: (L + 4, ot) :: (L + 3, op) :: (L + 2, ou') :: (L + 1, ow) :: (72, tabObj ps) :: (led ++ led2)) := News.app (News.put F9 N9' kp10 hD10n hD10) NL2
        clear NL2 N9' F9
        try dsimp only
        repeat' ((fail_if_success (with_reducible show wpAny _ _ (eval (Expr.ListComp _ _ _ _) _) _ _ _)); first | walk1 | (dsimp only; walk1) | fail "no step")
        have hsameE : SameW (cs x) e.2 := entry_word he hee hy8 hsame ▸ hsame
        have hPR : rowsT.map (runI (cs x)) = rowsT.map (runI e.2) := List.map_congr_left fun r hr => hsameE.2 r hr
        rw [hPR] at hTold
        have fresh10 : ∀ {T : Addr}, h10.get? T = none → T ≠ L ∧ g.get? T = none ∧ Zc L T := fun hT => fresh_of F10 N10 (o1 := ow) (o2 := ou') (o3 := op) (o4 := ot) (o5 := tabObj ps) (by simp only [List.mem_cons, true_or, or_true]) (by simp only [List.mem_cons, true_or, or_true]) (by simp only [List.mem_cons, true_or, or_true]) (by simp only [List.mem_cons, true_or, or_true]) (by simp only [List.mem_cons, true_or, or_true]) hT
        have X10 := Frag.In.keeps X F10.keep
        have T10 := T.keeps F10.keep
        have hw10 : h10.get? (L + 2) = some ou' := N10.get (by simp only [List.mem_cons, true_or, or_true])
        have hl10 : h10.IsList D3 ys.toArray := ⟨_, N10.get (.tail _ (.head _)), rfl, n3, rfl⟩
        have hdueC : ∀ c ∈ (⟨e.2.toArray⟩ : Str).cps.toList, Abc c := by simpa using hdabc
        refine comp_eval (cl := [(Str.ofString "due", L + 2)]) ?hclos5 rfl (by decide) ?_ (by intro _; rfl)
        case hclos5 => rfl
        repeat' ((fail_if_success (with_reducible show wpAny _ _ (pyIter _) _ _ _)); first | walk1 | (dsimp only; walk1) | fail "no step")
        refine comp_list rfl hl10 (by rw [hys]; exact Nat.le_of_ble_eq_true rfl) (by decide) rfl rfl (fun _ => true) (fun bad i _ y h => ∃ r, rowsT[i]? = some r ∧ ∃ T vs, y = Value.ref T ∧ T ∉ bad ∧ (T ≠ L ∧ g.get? T = none ∧ Zc L T) ∧ h.IsList T vs.toArray ∧ IntsAre vs (runI e.2 r)) ?hG5 (fun _ _ _ _ _ _ _ _ _ _ _ => tests_nil) ?elts5 ?done5
        case hG5 =>
          rintro bad i v y h h' ⟨r, h1, T, vs, h3, h4, h5, h6, h7⟩ hk
          exact ⟨r, h1, T, vs, h3, h4, h5, h6.at fun o e => hk _ _ h4 e, h7⟩
        case elts5 =>
          intro I11 i11 v11 C11 D11 h11 tk11 m11 E11 hi11 hv11 _ F11 hm11 hB11
          obtain ⟨r, hri, T', o', vs', n', rfl, hmem, hcls, hdat, hI'⟩ := paired_get hRows hv11
          have hTo : h10.get? T' = some o' := N10.get (by simp only [List.mem_cons, List.mem_append, hmem, or_true, true_or])
          have hl' : h11.IsList T' vs'.toArray := ⟨o', F11.keep _ _ hTo, hcls, n', hdat⟩
          have X11 := Frag.In.keeps X10 F11.keep
          have T11 := T10.keeps F11.keep
          obtain ⟨_, r4, _⟩ := row_codes r (List.mem_of_getElem? hri)
          clear F10 N10
          try dsimp only
          repeat' ((fail_if_success (with_reducible show wpAny _ _ (call _ _) _ _ _)); first | walk1 | (dsimp only; walk1) | fail "no step")
          refine (c_runI X11 T11 (by dsimp only; omega) (by dsimp only; omega) hl' hI' r4 hdueC) _ _ ?_
          rintro v12 h12 tk12 kp12 ⟨b, vs12, n12, rfl, hb, hl12, hI12⟩
          refine ⟨_, _, rfl, kp12, r, hri, b, vs12, rfl, ?_, ?_, ⟨_, hl12, rfl, n12, rfl⟩, hI12⟩
          · intro hm
            obtain ⟨⟨o, ho⟩, hno⟩ := hB11 b hm
            rw [hb] at ho
            cases ho
          · refine fresh10 ?_
            cases q : h10.get? b with
            | none => rfl
            | some o => rw [F11.keep _ _ q] at hb; cases hb
        case done5 =>
          intro I11 C11 D11 h11 tk11 ys11 n11 kp11 hb11 hD11 hP11
          have hP11' : Paired (fun r y => ∃ T vs, y = Value.ref T ∧ T ≠ L ∧ g.get? T = none ∧ Zc L T ∧ h11.IsList T vs.toArray ∧ IntsAre vs r) (rowsT.map (runI e.2)) ys11 := by
            refine paired_map (paired_range (xs := rowsT) ?_)
            rw [show rowsT.length = ys.length by rw [hys]; decide +kernel]
            refine paired_mono (fun i y h => ?_) hP11
            obtain ⟨_, _, r, hri, T, vs, rfl, _, ⟨ha, hb, hc⟩, hT, hI⟩ := h
            exact ⟨r, hri, T, vs, rfl, ha, hb, hc, hT, hI⟩
          obtain ⟨led3, NL3, hZ3', hPlain⟩ := rows_led2 hP11'
          have hD11n : h10.get? D11 = none := hb11 D11 (.tail _ (.tail _ (.head _)))
          have hZ11 : Zc L D11 := (fresh10 hD11n).2.2
          have F11 := Fr.kp F10 kp11
          obtain ⟨led4, N11, hZ4, hTold4, hPlain4⟩ : ∃ led4, News g L h11 ((D11, W.listOf ys11.toArray n11) :: (D10, W.listOf ys10.toArray n10) :: (L + 4, ot) :: (L + 3, op) :: (L + 2, ou') :: (L + 1, ow) :: (72, tabObj ps) :: led4) ∧ (∀ p ∈ led4, Zc L p.1) ∧
              Paired (RowIn led4) (rowsT.map (runI e.2)) ys10 ∧ Paired (RowIn led4) (rowsT.map (runI e.2)) ys11 := by
            refine ⟨led2 ++ led3, ?_, fun p hp => (List.mem_append.mp hp).elim (hZ2 p) (hZ3' p), paired_mono (fun _ _ h => h.mono fun p hp => List.mem_append_left _ hp) hTold, paired_mono (fun _ _ h => h.mono fun p hp => List.mem_append_right _ hp) hPlain⟩
            have N := News.app (News.put F10 N10 kp11 hD11n hD11) NL3
            refine fun q hq => N q ?_
            simp only [List.mem_cons, List.mem_append, List.cons_append] at hq ⊢
            rcases hq with h | h | h | h | h | h | h | h | h <;> simp [h]
          clear NL3 N10 F10 hTold hPlain
          try dsimp only
          repeat' ((fail_if_success (with_reducible show wpAny _ _ (storeName _ _ _) _ _ _)); first | walk1 | (dsimp only; walk1) | fail "no step")
          rename_i D12 h12a l12 h12 F12 N12
          refine storeC ((D11, W.listOf ys11.toArray n11) :: (D10, W.listOf ys10.toArray n10) :: (L + 3, op) :: (L + 2, ou') :: (L + 1, ow) :: (72, tabObj ps) :: led4) F12 N12 (c := L + 4) rfl (o := ot) (by simp only [List.mem_cons, true_or, or_true]) hot ?_ ?_ rfl rfl
          · refine List.forall_mem_cons.mpr ⟨⟨by simp only [List.mem_cons, true_or, or_true], hZ11.2.2.2.1⟩, List.forall_mem_cons.mpr ⟨⟨by simp only [List.mem_cons, true_or, or_true], hZ10.2.2.2.1⟩, List.forall_mem_cons.mpr ⟨⟨by simp only [List.mem_cons, true_or, or_true], ?_⟩, List.forall_mem_cons.mpr ⟨⟨by simp only [List.mem_cons, true_or, or_true], ?_⟩, List.forall_mem_cons.mpr ⟨⟨by simp only [List.mem_cons, true_or, or_true], ?_⟩, List.forall_mem_cons.mpr ⟨⟨by simp only [List.mem_cons, true_or, or_true], ?_⟩, fun q hq => ⟨by simp only [List.mem_cons, hq, or_true], (hZ4 q hq).2.2.2.1⟩⟩⟩⟩⟩⟩⟩
            all_goals (first | exact nn _ _ (by decide) | exact n72 _)
          clear N12 F12
          intro h13 ot' F13 N13 hot'
          try dsimp only
          repeat' ((fail_if_success (with_reducible show wpAny _ _ (storeName _ _ _) _ _ _)); first | walk1 | (dsimp only; walk1) | fail "no step")
          refine storeC ((D11, W.listOf ys11.toArray n11) :: (D10, W.listOf ys10.toArray n10) :: (L + 4, ot') :: (L + 2, ou') :: (L + 1, ow) :: (72, tabObj ps) :: led4) F13 N13 (c := L + 3) rfl (o := op) (by simp only [List.mem_cons, true_or, or_true]) hop ?_ ?_ rfl rfl
          · refine List.forall_mem_cons.mpr ⟨⟨by simp only [List.mem_cons, true_or, or_true], hZ11.2.2.1⟩, List.forall_mem_cons.mpr ⟨⟨by simp only [List.mem_cons, true_or, or_true], hZ10.2.2.1⟩, List.forall_mem_cons.mpr ⟨⟨by simp only [List.mem_cons, true_or, or_true], ?_⟩, List.forall_mem_cons.mpr ⟨⟨by simp only [List.mem_cons, true_or, or_true], ?_⟩, List.forall_mem_cons.mpr ⟨⟨by simp only [List.mem_cons, true_or, or_true], ?_⟩, List.forall_mem_cons.mpr ⟨⟨by simp only [List.mem_cons, true_or, or_true], ?_⟩, fun q hq => ⟨by simp only [List.mem_cons, hq, or_true], (hZ4 q hq).2.2.1⟩⟩⟩⟩⟩⟩⟩
            all_goals (first | exact nn _ _ (by decide) | exact n72 _)
          clear N13 F13
          intro h14 op' F14 N14 hop'
          try dsimp only
          repeat' ((fail_if_success (with_reducible show wpAny _ _ (eval (Expr.ListComp _ _ _ _) _) _ _ _)); first | walk1 | (dsimp only; walk1) | fail "no step")
          have hPlain5 : Paired (RowIn led4) (PRe e) ys11 := hPlain4
          have hTold5 : Paired (RowIn led4) (PRe e) ys10 := hTold4
          have hrow : ∀ i : Nat, i < 24 → (PRe e)[i]? = some ((PRe e).getD i []) := fun i hi => by
            rw [List.getD_eq_getElem?_getD, List.getElem?_eq_getElem (by rw [PRe_len]; exact hi)]
            rfl
          refine comp_eval (cl := [(Str.ofString "plain", L + 3)]) ?hclos6 rfl (by decide) ?_ (by intro _; rfl)
          case hclos6 => rfl
          repeat' ((fail_if_success (with_reducible show wpAny _ _ (pyIter _) _ _ _)); first | walk1 | (dsimp only; walk1) | fail "no step")
          rename_i h15 tk15 t15 u15 v15 hR15 F15 N15 k15
          have X15 := Frag.In.keeps X F15.keep
          have T15 := T.keeps F15.keep
          have hp15 : h15.get? (L + 3) = some op' := N15.get (by simp only [List.mem_cons, true_or, or_true])
          have hl15 : h15.IsList D11 ys11.toArray := ⟨_, N15.get (o := W.listOf ys11.toArray n11) (by simp only [List.mem_cons, true_or, or_true]), rfl, n11, rfl⟩
          have hr15 : ∀ i : Nat, i < 24 → ∃ T vs, ys11[i]? = some (.ref T) ∧ h15.IsList T vs.toArray ∧ IntsAre vs ((PRe e).getD i []) := fun i hi => by
            obtain ⟨y, hy, T', o', vs', n', rfl, hmem, hcls, hdat, hI'⟩ := paired_at hPlain5 (hrow i hi)
            exact ⟨T', vs', hy, ⟨o', N15.get (by simp only [List.mem_cons, hmem, or_true]), hcls, n', hdat⟩, hI'⟩
          refine comp_range (N := 24) rfl hR15 (by decide) (Nat.le_of_ble_eq_true rfl) (by decide) rfl rfl (okE e) (fun _ _ v y _ => y = v) (fun _ _ _ _ _ _ h _ => h) ?tests6 ?elts6 ?done6
          case tests6 =>
            intro i16 t16 C16 h16 tk16 m16 E16 hi16 F16 hm16
            have N16 : News h15 C16 h16 [] := News.nil
            obtain ⟨T', vs', hy, hT', hI'⟩ := hr15 i16 hi16
            clear F15 N15
            refine tests_one ?_
            try dsimp only
            repeat' ((fail_if_success (with_reducible show wpAny _ _ (subscriptTail _ _ _ _) _ _ _)); first | walk1 | (dsimp only; walk1) | fail "no step")
            refine item_L (hl15.at fun o e => F16.keep _ _ e) (by omega) (by omega) (by rw [Int.toNat_natCast]; exact hy) ?_ (by with_unfolding_all rfl)
            try dsimp only
            repeat' ((fail_if_success (with_reducible show wpAny _ _ (newList _) _ _ _)); first | walk1 | (dsimp only; walk1) | fail "no step")
            refine wpAny_newObj_type ?_
            try dsimp only
            repeat' ((fail_if_success (with_reducible show wpAny _ _ (compareOp _ _ _) _ _ _)); first | walk1 | (dsimp only; walk1) | fail "no step")
            refine ke_eq_ints (ms := [0, 1, 2, 3]) (hT'.at fun o e => Heap.get?_push_of_some _ (F16.keep _ _ e)) ⟨_, Heap.get?_push_size _ rfl, rfl, _, rfl⟩ hI' (.cons _ _ (.cons _ _ (.cons _ _ (.cons _ _ .nil)))) (by unfold Around.deeper; dsimp only; omega) ?_
            try dsimp only
            repeat' (first | walk1 | (dsimp only; walk1))
            exact fun b o e => Heap.get?_push_of_some _ e
          case elts6 =>
            intro I16 i16 t16 C16 D16 h16 tk16 m16 E16 hi16 _ F16 hm16 hB16
            try dsimp only
            refine nm_local F16 rfl rfl hm16 (by decide) ?_
            exact ⟨_, _, rfl, Kp.refl _, rfl⟩
          case done6 =>
            intro I16 C16 D16 h16 tk16 ys16 n16 kp16 hb16 hD16 hP16
            have hI16 : Keep (IntsAre ys16 (((List.range 24).filter (okE e)).map fun i => ((i : Nat) : Int))) := paired_ints hP16
            have hD16n : h15.get? D16 = none := hb16 D16 (.tail _ (.tail _ (.head _)))
            have F17 := Fr.kp F15 kp16
            have N17 : News g L h16 ((D16, W.listOf ys16.toArray n16) :: (L + 3, op') :: (D11, W.listOf ys11.toArray n11) :: (D10, W.listOf ys10.toArray n10) :: (L + 4, ot') :: (L + 2, ou') :: (L + 1, ow) :: (72, tabObj ps) :: led4) := News.put F15 N15 kp16 hD16n hD16
            clear F15 N15
            try dsimp only
            repeat' ((fail_if_success (with_reducible show wpAny _ _ (eval (Expr.ListComp _ _ _ _) _) _ _ _)); first | walk1 | (dsimp only; walk1) | fail "no step")
            refine comp_eval (cl := [(Str.ofString "plain", L + 3)]) ?hclos7 rfl (by decide) ?_ (by intro _; rfl)
            case hclos7 => rfl
            repeat' ((fail_if_success (with_reducible show wpAny _ _ (pyIter _) _ _ _)); first | walk1 | (dsimp only; walk1) | fail "no step")
            rename_i h18 tk18 t18 u18 v18 hR18 F18 N18 k18
            have X18 := Frag.In.keeps X F18.keep
            have T18 := T.keeps F18.keep
            have hp18 : h18.get? (L + 3) = some op' := N18.get (by simp only [List.mem_cons, true_or, or_true])
            have hl18 : h18.IsList D11 ys11.toArray := ⟨_, N18.get (o := W.listOf ys11.toArray n11) (by simp only [List.mem_cons, true_or, or_true]), rfl, n11, rfl⟩
            have hr18 : ∀ i : Nat, i < 24 → ∃ T vs, ys11[i]? = some (.ref T) ∧ h18.IsList T vs.toArray ∧ IntsAre vs ((PRe e).getD i []) := fun i hi => by
              obtain ⟨y, hy, T', o', vs', n', rfl, hmem, hcls, hdat, hI'⟩ := paired_at hPlain5 (hrow i hi)
              exact ⟨T', vs', hy, ⟨o', N18.get (by simp only [List.mem_cons, hmem, or_true]), hcls, n', hdat⟩, hI'⟩
            refine comp_range (N := 24) rfl hR18 (by decide) (Nat.le_of_ble_eq_true rfl) (by decide) rfl rfl (fun i => !okE e i) (fun _ _ v y _ => y = v) (fun _ _ _ _ _ _ h _ => h) ?tests7 ?elts7 ?done7
            case tests7 =>
              intro i16 t16 C16 h16 tk16 m16 E16 hi16 F16 hm16
              have N16 : News h18 C16 h16 [] := News.nil
              obtain ⟨T', vs', hy, hT', hI'⟩ := hr18 i16 hi16
              clear F18 N18
              refine tests_one ?_
              try dsimp only
              repeat' ((fail_if_success (with_reducible show wpAny _ _ (subscriptTail _ _ _ _) _ _ _)); first | walk1 | (dsimp only; walk1) | fail "no step")
              refine item_L (hl18.at fun o e => F16.keep _ _ e) (by omega) (by omega) (by rw [Int.toNat_natCast]; exact hy) ?_ (by with_unfolding_all rfl)
              try dsimp only
              repeat' ((fail_if_success (with_reducible show wpAny _ _ (newList _) _ _ _)); first | walk1 | (dsimp only; walk1) | fail "no step")
              refine wpAny_newObj_type ?_
              try dsimp only
              repeat' ((fail_if_success (with_reducible show wpAny _ _ (compareOp _ _ _) _ _ _)); first | walk1 | (dsimp only; walk1) | fail "no step")
              refine ke_ne_ints (ms := [0, 1, 2, 3]) (hT'.at fun o e => Heap.get?_push_of_some _ (F16.keep _ _ e)) ⟨_, Heap.get?_push_size _ rfl, rfl, _, rfl⟩ hI' (.cons _ _ (.cons _ _ (.cons _ _ (.cons _ _ .nil)))) (by unfold Around.deeper; dsimp only; omega) ?_
              try dsimp only
              repeat' (first | walk1 | (dsimp only; walk1))
              exact fun b o e => Heap.get?_push_of_some _ e
            case elts7 =>
              intro I16 i16 t16 C16 D16 h16 tk16 m16 E16 hi16 _ F16 hm16 hB16
              try dsimp only
              refine nm_local F16 rfl rfl hm16 (by decide) ?_
              exact ⟨_, _, rfl, Kp.refl _, rfl⟩
            case done7 =>
              intro I19 C19 D19 h19 tk19 ys19 n19 kp19 hb19 hD19 hP19
              have hI19 : Keep (IntsAre ys19 (((List.range 24).filter fun i => !okE e i).map fun i => ((i : Nat) : Int))) := paired_ints hP19
              have hD19n : h18.get? D19 = none := hb19 D19 (.tail _ (.tail _ (.head _)))
              have hII := And.intro hI16 hI19
              have F19 := Fr.kp F18 kp19
              have N19 := News.put F18 N18 kp19 hD19n hD19
              clear F18 N18
              try dsimp only
              repeat' ((fail_if_success (with_reducible show wpAny _ _ (compareOp _ _ _) _ _ _)); first | walk1 | (dsimp only; walk1) | fail "no step")
              rename_i D20 h20a l20 h20 F20 N20
              have fresh20 : ∀ {T : Addr}, h20.get? T = none → T ≠ L ∧ g.get? T = none ∧ Zc L T := fun hT => fresh_of F20 N20 (o1 := ow) (o2 := ou') (o3 := op') (o4 := ot') (o5 := tabObj ps) (by simp only [List.mem_cons, true_or, or_true]) (by simp only [List.mem_cons, true_or, or_true]) (by simp only [List.mem_cons, true_or, or_true]) (by simp only [List.mem_cons, true_or, or_true]) (by simp only [List.mem_cons, true_or, or_true]) hT
              have hTold20 : Paired (RowIs h20) (PRe e) ys10 := paired_mono (fun _ _ x => x.is fun p hp => N20.get (by simp only [List.mem_cons, hp, or_true])) hTold5
              have hPlain20 : Paired (RowIs h20) (PRe e) ys11 := paired_mono (fun _ _ x => x.is fun p hp => N20.get (by simp only [List.mem_cons, hp, or_true])) hPlain5
              obtain ⟨as1, ra1⟩ := rowsD_reads (e := e) (⟨_, N20.get (o := W.listOf ys10.toArray n10) (by simp only [List.mem_cons, true_or, or_true]), rfl, n10, rfl⟩ : h20.IsList D10 ys10.toArray) hTold20
              obtain ⟨as2, ra2⟩ := rowsD_reads (e := e) (⟨_, N20.get (o := W.listOf ys11.toArray n11) (by simp only [List.mem_cons, true_or, or_true]), rfl, n11, rfl⟩ : h20.IsList D11 ys11.toArray) hPlain20
              refine compareEq_shaped ra1 ra2 (rowsD_ok e he).1 (rowsD_ok e he).1 (by unfold Around.deeper; dsimp only; omega) ?_
              rw [(rowsD_ok e he).2]
              try dsimp only
              repeat' ((fail_if_success (with_reducible show wpAny _ _ (eval (Expr.Lambda _ _ _ _) _) _ _ _)); first | walk1 | (dsimp only; walk1) | fail "no step")
              refine kla_eval rfl ?_
              rename_i h21 tk21 t21 u21 v21 hR21 F21 N21 k21
              have hrn : h20.get? h20.objs.size = none := by
                cases e' : h20.get? h20.objs.size with
                | none => rfl
                | some o => exact absurd (Heap.lt_size e') (Nat.lt_irrefl _)
              obtain ⟨hr1, hr2, hr3⟩ := fresh20 hrn
              obtain ⟨hps1, hps2⟩ := hps
              have hq : (Str.ofString "_law_right" ++ Str.ofString ".<locals>." ++ Str.ofString "<lambda>" : Str) = Str.ofString "_law_right.<locals>.<lambda>" := by decide +kernel
              have hc21 : codeAmong lamPos ps.toList = none ∨ ∃ c', codeAmong lamPos ps.toList = some (.ref c') ∧ g.CodeRec (.ref c') (Str.ofString "_law_right" ++ Str.ofString ".<locals>." ++ Str.ofString "<lambda>") := by
                rw [hq]
                refine hps2.imp (fun h => h) ?_
                rintro ⟨c', h1, h2, c₂, o, vs, t, e1, h3, h4⟩
                cases e1
                refine ⟨c', h1, c', o, vs, t, rfl, ?_, h4⟩
                rw [← hg]
                exact hideAll_get _ h3 (by simpa using h2)
              have n72o : ∀ {D : Addr} {o : Obj} {nm : String}, h21.get? D = some o → o.cls = .type nm → D ≠ 72 := by
                rintro D o nm h1 h2 rfl
                have h3 := N21.get (a := 72) (o := tabObj ps) (by simp only [List.mem_cons, true_or, or_true])
                rw [h3] at h1
                cases h1
                cases h2
              have N21' : News g L h21 ((72, tabObj ps) :: (h20.objs.size, { cls := .type "range", dict := none, data := .fields #[.int 0 t21, .int 24 u21, .int 1 v21], slots := #[] }) :: (D20, tupOf [.ref D16, .ref D19]) :: (D19, W.listOf ys19.toArray n19) :: (D16, W.listOf ys16.toArray n16) :: (D10, W.listOf ys10.toArray n10) :: (L + 4, ot') :: led4) := by
                refine List.forall_mem_cons.mpr ⟨N21 _ (by simp only [List.mem_cons, true_or, or_true]), List.forall_mem_cons.mpr ⟨⟨hR21, hr1, hr2⟩, List.forall_mem_cons.mpr ⟨N21 _ (by simp only [List.mem_cons, true_or, or_true]), List.forall_mem_cons.mpr ⟨N21 _ (by simp only [List.mem_cons, true_or, or_true]), List.forall_mem_cons.mpr ⟨N21 _ (by simp only [List.mem_cons, true_or, or_true]), List.forall_mem_cons.mpr ⟨N21 _ (by simp only [List.mem_cons, true_or, or_true]), List.forall_mem_cons.mpr ⟨N21 _ (by simp only [List.mem_cons, true_or, or_true]), fun q hq => N21 q (by simp only [List.mem_cons, hq, or_true])⟩⟩⟩⟩⟩⟩⟩
              refine lam_any (clos := [(Str.ofString "told", L + 4)]) F21 N21' ?hoff T C rfl hps1 hc21 rfl ?_
              case hoff =>
                refine List.forall_mem_cons.mpr ⟨hr3.2.2.2.2, List.forall_mem_cons.mpr ⟨n72o (N21.get (o := tupOf [.ref D16, .ref D19]) (by simp only [List.mem_cons, true_or, or_true])) (nm := "tuple") rfl, List.forall_mem_cons.mpr ⟨n72o (N21.get (o := W.listOf ys19.toArray n19) (by simp only [List.mem_cons, true_or, or_true])) (nm := "list") rfl, List.forall_mem_cons.mpr ⟨n72o (N21.get (o := W.listOf ys16.toArray n16) (by simp only [List.mem_cons, true_or, or_true])) (nm := "list") rfl, List.forall_mem_cons.mpr ⟨hZ10.2.2.2.2, List.forall_mem_cons.mpr ⟨Ne.symm (n72 _), fun q hq => (hZ4 q hq).2.2.2.2⟩⟩⟩⟩⟩⟩
              clear F21 N21 k21 N21'
              intro f c' ctv h22 tk22 ps' F22 N22 hcr hcP hlt htr hca
              try dsimp only
              repeat' ((fail_if_success (with_reducible show wpAny _ _ (call (Value.ref _) _) _ _ _)); first | walk1 | (dsimp only; walk1) | fail "no step")
              have X22 := Frag.In.keeps X F22.keep
              have T22 := T.keeps F22.keep
              have hR22 : IsRange h22 h20.objs.size 0 24 1 t21 u21 v21 := N22.get (.tail _ (.tail _ (.head _)))
              have hflam := N22.get (.head _)
              have hfn : FnAt f h22 := ⟨_, _, _, _, hflam⟩
              have hct : h22.get? (L + 4) = some ot' := N22.get (by simp only [List.mem_cons, true_or, or_true])
              have hl22 : h22.IsList D10 ys10.toArray := ⟨_, N22.get (o := W.listOf ys10.toArray n10) (by simp only [List.mem_cons, true_or, or_true]), rfl, n10, rfl⟩
              have hr22 : ∀ i : Nat, i < 24 → ∃ T vs, ys10[i]? = some (.ref T) ∧ h22.IsList T vs.toArray ∧ IntsAre vs ((PRe e).getD i []) := fun i hi => by
                obtain ⟨y, hy, T', o', vs', n', rfl, hmem, hcls, hdat, hI'⟩ := paired_at hTold5 (hrow i hi)
                exact ⟨T', vs', hy, ⟨o', N22.get (by simp only [List.mem_cons, hmem, or_true]), hcls, n', hdat⟩, hI'⟩
              refine (c_split X22 T22 (by dsimp only; omega) (by dsimp only; omega) hR22 hfn (fun k => okE e k.toNat) ?hpred) _ _ ?_
              case hpred =>
                intro k23 t23 fr23 s23 hk0 hk1 kp23 Q23 E23 ret23
                obtain ⟨T', vs', hy, hT', hI'⟩ := hr22 k23.toNat (by omega)
                have hct23 := kp23 _ _ hct
                refine enter_lam (T22.keeps kp23) (kp23 _ _ hflam) (hcr.keeps kp23) (by dsimp only; omega) (binds := [(Str.ofString "k", .int k23 t23)]) rfl (by intro y hy; rw [List.mem_singleton.mp hy]; rfl) ?_ rfl rfl rfl (by decide)
                intro h24 F24
                clear F22 N22
                try dsimp only
                repeat' ((fail_if_success (with_reducible show wpAny _ _ (eval (Expr.Name _ _) _) _ _ _)); first | walk1 | (dsimp only; walk1) | fail "no step")
                refine nm_free F24 rfl hct23 hot' rfl rfl (by decide) (by decide) ?_
                try dsimp only
                repeat' ((fail_if_success (with_reducible show wpAny _ _ (eval (Expr.Name _ _) _) _ _ _)); first | walk1 | (dsimp only; walk1) | fail "no step")
                refine nm_local F24 rfl rfl rfl (by decide) ?_
                try dsimp only
                refine item_L ((hl22.at fun o e => kp23 _ _ e).at fun o e => F24.keep _ _ e) hk0 (by omega) hy ?_ (by with_unfolding_all rfl)
                try dsimp only
                repeat' ((fail_if_success (with_reducible show wpAny _ _ (newList _) _ _ _)); first | walk1 | (dsimp only; walk1) | fail "no step")
                refine wpAny_newObj_type ?_
                try dsimp only
                repeat' ((fail_if_success (with_reducible show wpAny _ _ (compareOp _ _ _) _ _ _)); first | walk1 | (dsimp only; walk1) | fail "no step")
                refine ke_eq_ints (ms := [0, 1, 2, 3]) ((hT'.at fun o e => kp23 _ _ e).at fun o e => Heap.get?_push_of_some _ (F24.keep _ _ e)) ⟨_, Heap.get?_push_size _ rfl, rfl, _, rfl⟩ hI' (.cons _ _ (.cons _ _ (.cons _ _ (.cons _ _ .nil)))) (by unfold Around.deeper; dsimp only; omega) ?_
                exact ret23 _ _ _ (fun b o e => Heap.get?_push_of_some _ (F24.keep _ _ e)) rfl
              intro v23 h23 tk23 kp23 hpost
              obtain ⟨DS, aS, bS, vsS, wsS, nS, kS, rfl, hDS, haS, hbS, hIa, hIb⟩ := hpost
              have F23 := Fr.kp F22 kp23
              have N23 := News.kp N22 kp23
              have hcr23 := hcr.keeps kp23
              clear F22 N22
              try dsimp only
              repeat' ((fail_if_success (with_reducible show wpAny _ _ (compareOp _ _ _) _ _ _)); first | walk1 | (dsimp only; walk1) | fail "no step")
              obtain ⟨as3, ra3⟩ := two_reads hDS rfl rfl ⟨_, haS, rfl, nS, rfl⟩ ⟨_, hbS, rfl, kS, rfl⟩ hIa hIb
              obtain ⟨as4, ra4⟩ := two_reads (N23.get (o := tupOf [.ref D16, .ref D19]) (a := D20) (by simp only [List.mem_cons, true_or, or_true])) rfl rfl ⟨_, N23.get (o := W.listOf ys16.toArray n16) (by simp only [List.mem_cons, true_or, or_true]), rfl, n16, rfl⟩ ⟨_, N23.get (o := W.listOf ys19.toArray n19) (by simp only [List.mem_cons, true_or, or_true]), rfl, n19, rfl⟩ hII.1 hII.2
              refine compareEq_shaped (da := splitD e) (db := partsD e) ra3 ra4 (partsD_ok e he).2.1 (partsD_ok e he).1 (by unfold Around.deeper; dsimp only; omega) ?_
              rw [(partsD_ok e he).2.2]
              try dsimp only
              repeat' (first | (k_unfold; (try dsimp only)) | walk1 | (dsimp only; walk1))
              exact ret _ _ _ (fun b o hb e => F23.keep b o (by rw [← hg]; exact hideAll_get _ e (by simpa using hb))) (N23.get (.tail _ (.head _))) ⟨htr, .inr ⟨c', hca, hcP, hq ▸ hcr23⟩⟩
end Mine
end
section
open PySem PySem.W PySem.Calls PyProof.Rows
set_option maxRecDepth 100000
set_option maxHeartbeats 2000000
namespace Mine
section
variable {prog : Program} {w : World} {A : Around} {E : Value → Shared → Prop} {env : Env}
/-- a list comprehension over a list whose tests all fail; the tests may change one object, PP -/
theorem comp_none {elt iter : PySem.Expr} {x : Str} {px : Pos} {ifs : List PySem.Expr} {scope : Scope} {cl : List (Str × Addr)} {pos : Pos} {Q : Value → Shared → Prop} {s₁ : Shared} {l PP : Addr} {vs : List Value} {oP : Obj}
    (hh : A.handled = none) (hl : s₁.heap.IsList l vs.toArray) (hlP : l ≠ PP) (hPP : s₁.heap.get? PP = some oP) (hsz : vs.length ≤ sizeLine) (hcell : ∀ y ∈ scope.names, y.2 ≠ .cell) (hkind : scope.kind = .function) (hx : scope.names.lookup x = some .local)
    (J : Addr → Addr → Addr → Heap → Prop) (hJ0 : ∀ I C D h, (∀ b ∈ [I, C, D], s₁.heap.get? b = none) → Kp s₁.heap h → J I C D h) (hJ : ∀ I C D h h', J I C D h → (∀ b o, b ∉ [I, C, D] → h.get? b = some o → h'.get? b = some o) → J I C D h')
    (tests : ∀ i v I C D h tk m E', i < vs.length → vs[i]? = some v → Fr (hideAll s₁.heap [PP]) C h m → m x = some v → J I C D h → (∃ j, h.IsListIter I l j) → h.PlainList D #[] → Bad s₁.heap h [I, C, D] →
      wpAny (model prog w) A (testTree ifs (compEnvC scope cl C env)) (fun ok s' => ok = false ∧ ∃ h' tk', s' = { s₁ with heap := h', toks := tk' } ∧ (∀ b o, b ≠ PP → h.get? b = some o → h'.get? b = some o) ∧ J I C D h') E' { s₁ with heap := h, toks := tk })
    (done : ∀ I C D h' tk n', Kp (hideAll s₁.heap [PP]) h' → (∀ b ∈ [I, C, D], s₁.heap.get? b = none) → J I C D h' → h'.get? D = some (PySem.W.listOf #[] n') → Q (.ref D) { s₁ with heap := h', toks := tk }) :
    wpAny (model prog w) A (pyIter (.ref l)) (fun it s₂ => CompK prog w A E env elt iter x px ifs scope cl pos Q it s₂) E s₁ := by
  have hlt : l < s₁.heap.objs.size := by obtain ⟨_, e, _⟩ := hl; exact Heap.lt_size e
  have hPlt : PP < s₁.heap.objs.size := Heap.lt_size hPP
  generalize hIe : s₁.heap.objs.size = I at hlt hPlt
  have W := Walks.list (prog := prog) (w := w) hh I l (Nat.ne_of_lt hlt) vs.toArray
  rw [show vs.toArray.size = vs.length from List.size_toArray ..] at W
  refine wpAny_pyIter_list hl ?_
  generalize hoi : ({ cls := .type "list_iterator", data := .fields #[.ref l, .int 0 0] } : Obj) = oi
  rw [hIe]
  unfold CompK
  generalize hHe : s₁.heap.push oi = H
  have hst : H.IsListIter I l 0 ∧ H.IsList l vs.toArray := by
    rw [← hHe, ← hoi, ← hIe]
    exact ⟨⟨_, Heap.get?_push_size _ rfl, rfl, rfl⟩, hl.push _⟩
  have hkp : Kp s₁.heap H := fun b o e => by rw [← hHe]; exact Heap.get?_push_of_some _ e
  have hHs : H.objs.size = I + 1 := by rw [← hHe, Heap.size_push, hIe]
  have hI : s₁.heap.get? I = none := by
    cases e : s₁.heap.get? I with
    | none => rfl
    | some o => exact absurd (Heap.lt_size e) (by rw [hIe]; exact Nat.lt_irrefl _)
  refine wpAny_newObj_type (wpAny_newFunctionEnv hcell (by intro y hy; simp at hy) (fun h₁ hns₁ hsb₁ => ?_) hkind)
  dsimp only at hns₁ hsb₁ ⊢
  generalize hH2 : H.push { cls := .type "list", dict := none, data := .seq ([] : List Value).toArray } = H2 at hns₁ hsb₁ ⊢
  have hC : H2.objs.size = H.objs.size + 1 := by rw [← hH2, Heap.size_push]
  generalize hDe : H.objs.size = D at hC hHs ⊢
  generalize hCe : H2.objs.size = C at hC hns₁ hsb₁ ⊢
  have hDC : D ≠ C := by rw [hC]; exact Nat.ne_of_lt (Nat.lt_succ_self _)
  have hIC : I ≠ C := by rw [hC, hHs]; exact Nat.ne_of_lt (Nat.lt_succ_of_lt (Nat.lt_succ_self _))
  have hID : I ≠ D := by rw [hHs]; exact Nat.ne_of_lt (Nat.lt_succ_self _)
  have hPI : PP ≠ I := Nat.ne_of_lt hPlt
  have hPD : PP ≠ D := by rw [hHs]; exact Nat.ne_of_lt (Nat.lt_succ_of_lt hPlt)
  have hPC : PP ≠ C := by rw [hC, hHs]; exact Nat.ne_of_lt (Nat.lt_succ_of_lt (Nat.lt_succ_of_lt hPlt))
  have hlC : l ≠ C := by rw [hC, hHs]; exact Nat.ne_of_lt (Nat.lt_succ_of_lt (Nat.lt_succ_of_lt hlt))
  have hlD : l ≠ D := by rw [hHs]; exact Nat.ne_of_lt (Nat.lt_succ_of_lt hlt)
  have hlI : l ≠ I := Nat.ne_of_lt hlt
  have fresh : ∀ a, I ≤ a → s₁.heap.get? a = none := fun a ha => by
    cases e : s₁.heap.get? a with
    | none => rfl
    | some o' => exact absurd (Heap.lt_size e) (by rw [hIe]; exact Nat.not_lt.mpr ha)
  have hDn : s₁.heap.get? D = none := fresh _ (by rw [hHs]; exact Nat.le_succ _)
  have hCn : s₁.heap.get? C = none := fresh _ (by rw [hC, hHs]; exact Nat.le_succ_of_le (Nat.le_succ _))
  have hbad : ∀ b ∈ [I, C, D], s₁.heap.get? b = none := by
    intro b hb
    simp only [List.mem_cons, List.not_mem_nil, or_false] at hb
    rcases hb with rfl | rfl | rfl
    · exact hI
    · exact hCn
    · exact hDn
  have old : ∀ b o, H.get? b = some o → h₁.get? b = some o := fun b o e => hsb₁.extBut b o (by have := Heap.lt_size e; rw [hDe] at this; rw [hC]; exact Nat.ne_of_lt (Nat.lt_succ_of_lt this)) (Heap.get?_push_of_some _ (hH2 ▸ Heap.get?_push_of_some _ e))
  have hacc : h₁.PlainList D #[] := ⟨_, hsb₁.extBut _ _ hDC (Heap.get?_push_of_some _ (hH2 ▸ hDe ▸ Heap.get?_push_size _ rfl))⟩
  have hst₁ : h₁.IsListIter I l 0 ∧ h₁.IsList l vs.toArray := W.frame _ _ _ hst fun b _ o e => old b o e
  have hkB : ∀ {h : Heap}, (∀ b o, b ≠ PP → s₁.heap.get? b = some o → h.get? b = some o) → Kp (hideAll s₁.heap [PP]) h := fun k b o e => k b o (fun q => by rw [q, hideAll_none _ (.head _)] at e; cases e) (of_hideAll _ e)
  have hCle : (hideAll s₁.heap [PP]).objs.size ≤ C := by rw [hideAll_size, hIe, hC, hHs]; exact Nat.le_succ_of_le (Nat.le_succ _)
  have hx' : Env.kindOf (compEnvC scope cl C env) x = some .local := lookup_relabel_local hx
  have hp' : ((compEnvC scope cl C env).scope.kind == .class || ((compEnvC scope cl C env).scope.kind == .module && (compEnvC scope cl C env).locals != (compEnvC scope cl C env).globals)) = false := by simp [compEnvC, relabel, hkind]
  have hIf : I ∈ [I, l] := .head _
  have loop : ∀ s₃ : Shared, s₃ = { s₁ with heap := h₁, toks := s₁.toks + ([] : List (Str × Value)).length } →
      codeAny (model prog w) A (.compLoop (.ListComp elt [⟨.Name x px, iter, ifs, 0⟩] scope pos) 0 (.ref I) (.ref D) (compEnvC scope cl C env))
        (compPost (model prog w) A E none Q (.ref D) C) s₃ := by
    rintro s₃ rfl
    refine codeAny_compLoop_tests
      (fun k s' => ∃ h' tk m' i, s' = { s₁ with heap := h', toks := tk } ∧ (h'.IsListIter I l i ∧ h'.IsList l vs.toArray) ∧ h'.PlainList D #[] ∧ h'.Ns C m' ∧ (∀ b o, b ≠ PP → s₁.heap.get? b = some o → h'.get? b = some o) ∧ J I C D h' ∧ i ≤ vs.length ∧ k = vs.length + 1 - i) ?_ (vs.length + 1)
      ⟨h₁, _, _, 0, rfl, hst₁, hacc, hns₁, fun b o _ e => old b o (hkp b o e), hJ0 _ _ _ _ hbad (fun b o e => old b o (hkp b o e)), Nat.zero_le _, rfl⟩
    rintro k s' ⟨Hh, tk, m', i, rfl, hst', hacc', hn', hk', hJ', hi, rfl⟩
    have hCw : C ∉ [I] := fun h => hIC (List.mem_singleton.mp h).symm
    have hDw : D ∉ [I] := fun h => hID (List.mem_singleton.mp h).symm
    by_cases hlt' : i < vs.length
    · refine W.item i _ _ _ hlt' hst' fun v g₁ tk₁ hPv hst₁ hk₁ => ?_
      have hn₁ : g₁.Ns C m' := hn'.at' fun o e => hk₁ _ o hCw e
      refine wpAny_assign_Name (wpAny_storeName_local hx' hn₁ (fun g₂ hn₂ hs₂ => ?_) hp')
      have up₂ : ∀ b o, b ≠ C → b ∉ [I] → Hh.get? b = some o → g₂.get? b = some o := fun b o hbC hbf e => hs₂.extBut b o hbC (hk₁ b o hbf e)
      have hst₂ : g₂.IsListIter I l (i + 1) ∧ g₂.IsList l vs.toArray := W.frame _ _ _ hst₁ fun b hb o e => hs₂.extBut b o (fun q => by
        simp only [List.mem_cons, List.not_mem_nil, or_false] at hb
        rcases hb with rfl | rfl
        · exact hIC q
        · exact hlC q) e
      have hk₂ : ∀ b o, b ≠ PP → s₁.heap.get? b = some o → g₂.get? b = some o := fun b o hb e => up₂ b o (fun q => by rw [q, hCn] at e; cases e) (fun q => by rw [List.mem_singleton.mp q, hI] at e; cases e) (hk' b o hb e)
      have F₂ : Fr (hideAll s₁.heap [PP]) C g₂ _ := ⟨hn₂, hkB hk₂, hCle⟩
      have hacc₂ : g₂.PlainList D #[] := hacc'.at fun o e => up₂ _ o hDC hDw e
      have hJ₂ : J I C D g₂ := hJ _ _ _ _ _ hJ' fun b o hb e => by
        simp only [List.mem_cons, List.not_mem_nil, or_false, not_or] at hb
        exact up₂ b o hb.2.1 (fun q => hb.1 (List.mem_singleton.mp q)) e
      have hB : Bad s₁.heap g₂ [I, C, D] := by
        intro b hb
        refine ⟨?_, hbad b hb⟩
        simp only [List.mem_cons, List.not_mem_nil, or_false] at hb
        rcases hb with rfl | rfl | rfl
        · obtain ⟨o, ho, _⟩ := hst₂.1; exact ⟨o, ho⟩
        · obtain ⟨o, _, _, ho, _⟩ := F₂.ns; exact ⟨o, ho⟩
        · obtain ⟨c, hc⟩ := hacc₂; exact ⟨_, hc⟩
      refine wpAny_mono (tests i v I C D g₂ _ _ _ hlt' (by simpa using hPv) F₂ (by simp) hJ₂ ⟨_, hst₂.1⟩ hacc₂ hB) (fun ok s₃ h₃ => ?_) fun _ _ e => e
      obtain ⟨rfl, g₃, tk₃, rfl, hk₃, hJ₃⟩ := h₃
      simp only [Bool.false_eq_true, if_false]
      refine ⟨vs.length + 1 - (i + 1), by omega, g₃, tk₃, _, i + 1, rfl, W.frame _ _ _ hst₂ (fun b hb o e => hk₃ b o (fun q => ?_) e), hacc₂.at fun o e => hk₃ _ o hPD.symm e, hn₂.at' fun o e => hk₃ _ o hPC.symm e, fun b o hb e => hk₃ b o hb (hk₂ b o hb e), hJ₃, hlt', rfl⟩
      simp only [List.mem_cons, List.not_mem_nil, or_false] at hb
      rcases hb with rfl | rfl
      · exact hPI q.symm
      · exact hlP q
    · have hin : i = vs.length := by omega
      subst hin
      refine W.done _ _ _ hst' fun g₁ tk₁ hk₁ => ?_
      have hn₁ : g₁.Ns C m' := hn'.at' fun o e => hk₁ _ o hCw e
      refine ⟨m', hn₁, fun g₂ hs₂ => ?_⟩
      have up : ∀ b o, b ∉ [I, C, D] → Hh.get? b = some o → g₂.get? b = some o := fun b o hb e => by
        simp only [List.mem_cons, List.not_mem_nil, or_false, not_or] at hb
        exact hs₂.extBut b o hb.2.1 (hk₁ b o (fun q => hb.1 (List.mem_singleton.mp q)) e)
      obtain ⟨c, hc⟩ := hacc'
      have hD2 : g₂.get? D = some _ := hs₂.extBut _ _ hDC (hk₁ _ _ hDw hc)
      exact done I C D g₂ tk₁ c (hkB fun b o hb e => up b o (fun hb' => by rw [hbad b hb'] at e; cases e) (hk' b o hb e)) hbad (hJ _ _ _ _ _ hJ' up) hD2
  exact codeAny_compStart_list (loop _ rfl) (W.self 0 _ _ _ hst₁ (loop _ rfl))
end
end Mine
end
section
open PySem PySem.W PySem.Calls PyProof.Rows PySem.SeqAt
set_option maxRecDepth 100000
set_option maxHeartbeats 8000000
set_option pp.deepTerms false
set_option pp.deepTerms.threshold 8
namespace Mine
theorem ints_get {vs : List Value} {r : List Int} (h : IntsAre vs r) : ∀ {i : Nat} {v : Value}, vs[i]? = some v → ∃ k t, v = .int k t := by
  induction h with
  | nil => intro i v e; simp at e
  | cons k t _ ih =>
    intro i v e
    cases i with
    | zero => simp at e; exact ⟨k, t, e.symm⟩
    | succ i => exact ih (by simpa using e)
/-- a word: a text of a, b, c, not long -/
def WordIs (y : Value) : Prop := ∃ z t, y = Value.str z t ∧ z.length ≤ 50 ∧ AbcW (cs z)
theorem paired_all {α : Type} {R : α → Value → Prop} {P : Value → Prop} {xs : List α} {ys : List Value} (h : Paired R xs ys) (hr : ∀ a y, R a y → P y) : ∀ y ∈ ys, P y := by
  induction h with
  | nil => exact fun _ h => nomatch h
  | cons a _ ih => exact List.forall_mem_cons.mpr ⟨hr _ _ a, ih⟩
/-- between the tests: the code table is fit -/
def LJ (I C D : Addr) (h : Heap) : Prop := ∃ ps, h.get? 72 = some (tabObj ps) ∧ 72 ∉ [I, C, D] ∧ TriplesOk ps.toList ∧
  (codeAmong lamPos ps.toList = none ∨ ∃ c', codeAmong lamPos ps.toList = some (.ref c') ∧ c' ≠ 72 ∧ c' ∉ [I, C, D] ∧ h.CodeRec (.ref c') (Str.ofString "_law_right.<locals>.<lambda>"))
theorem LJ.keeps {I C D : Addr} {h h' : Heap} (x : LJ I C D h) (k : ∀ b o, b ∉ [I, C, D] → h.get? b = some o → h'.get? b = some o) : LJ I C D h' := by
  obtain ⟨ps, h1, h2, h3, h4⟩ := x
  refine ⟨ps, k _ _ h2 h1, h2, h3, h4.imp (fun h => h) ?_⟩
  rintro ⟨c', a, b, c, c₂, o, vs, t, e, g, r⟩
  cases e
  exact ⟨c', a, b, c, c', o, vs, t, rfl, k _ _ c g, r⟩
end Mine
local macro_rules | `(tactic| walk_at "eval Name") => `(tactic| k_dflt (first | (refine' Mine.nm_local ?F rfl rfl ?hv (by decide) ?_; (case F => assumption); (case hv => assumption)) | (refine' Mine.nm_cell ?F rfl ?ho ?hv rfl rfl (by decide) ?_; (case F => assumption); (case ho => assumption); (case hv => assumption)) | (refine' Mine.nm_global ?F ?X ?T ?e ?_ rfl rfl rfl ?hd; (case F => assumption); (case X => assumption); (case T => assumption); (case e => k_is); (case hd => decide))))
theorem PySem.Challenge.cw_pe0050_01_holds : PySem.Challenge.rw_pe0050_01.Holds :=
  Mine.hd (by
  k_go0
  (all_goals try k_fold)
  repeat' ((fail_if_success (with_reducible show wpAny _ _ (call (Value.ref _) _) _ _ _)); first | (k_unfold; (try dsimp only)) | walk1 | (dsimp only; walk1) | fail "no step")
  rename_i w s0 s1 mg mb G Y fa o pm cd doc ho hcd hgens X37 V37 T35 B34 TE TW ns hs hlay0 hL28 hr27 hl2 as25 as24 sl vs as21 hL20 ra w1 r0 hI hr15 hlen hcond hD h1 tk1 oc hoc X0 X T K F N l0
  change oc.data = .cell none at hoc
  have X1 := Frag.In.keeps X F.keep
  have T1 := T.keeps F.keep
  refine (Mine.c_least (w := w) X1 T1 (by decide) (by decide)) _ _ ?_
  intro v2 h2 tk2 kp2 hpost
  obtain ⟨d, od, kvs, rfl, hdn, hod, lo, hdict, hkv⟩ := hpost
  have F2 := Mine.Fr.kp F kp2
  have N2 := Mine.News.put F N kp2 hdn hod
  have hdc : d ≠ s1.heap.objs.size + 1 := fun q => by have := N.get (.head _); rw [← q, hdn] at this; cases this
  have hd72 : d ≠ 72 := fun q => by have := N.get (.tail _ (.head _)); rw [← q, hdn] at this; cases this
  try dsimp only
  refine Mine.storeC [(d, od), (72, tabObj #[])] F2 N2 (c := s1.heap.objs.size + 1) rfl (o := oc) (by simp only [List.mem_cons, true_or, or_true]) hoc ?_ ?_ rfl rfl
  · refine List.forall_mem_cons.mpr ⟨⟨by simp only [List.mem_cons, true_or, or_true], hdc⟩, List.forall_mem_cons.mpr ⟨⟨by simp only [List.mem_cons, true_or, or_true], Nat.ne_of_lt (Nat.lt_succ_of_lt l0)⟩, fun _ h => nomatch h⟩⟩
  clear F2 N2
  intro h3 oc' F3 N3 hoc'
  try dsimp only
  repeat' ((fail_if_success (with_reducible show wpAny _ _ (eval (Expr.ListComp _ _ _ _) _) _ _ _)); first | walk1 | (dsimp only; walk1) | fail "no step")
  refine Mine.comp_eval (cl := [(Str.ofString "least", s1.heap.objs.size + 1)]) ?hclos rfl (by decide) ?_ (by intro _; rfl)
  case hclos => rfl
  repeat' ((fail_if_success (with_reducible show wpAny _ _ (eval (Expr.ListComp _ _ _ _) _) _ _ _)); first | walk1 | (dsimp only; walk1) | fail "no step")
  refine Mine.comp_eval (cl := []) ?hclos1 rfl (by decide) ?_ (by intro _; rfl)
  case hclos1 => rfl
  repeat' ((fail_if_success (with_reducible show wpAny _ _ (pyIter _) _ _ _)); first | walk1 | (dsimp only; walk1) | fail "no step")
  rename_i l4 h4a l4o D5 ws h5 F5 N5 hI5 hC5 hL5 l5o
  have X5 := Frag.In.keeps X F5.keep
  have T5 := T.keeps F5.keep
  have hl5 : h5.IsList D5 ws.toArray := ⟨_, N5.get (.head _), rfl, _, rfl⟩
  have hws : ws.length ≤ 2 := by
    rw [hI5.length, hC5]
    exact Nat.min_le_left _ _
  refine Mine.comp_list rfl hl5 (Nat.le_trans hws (Nat.le_of_ble_eq_true rfl)) (by decide) rfl rfl (fun _ => true) (fun _ _ _ y _ => Mine.WordIs y) (fun _ _ _ _ _ _ h _ => h) (fun _ _ _ _ _ _ _ _ _ _ _ => Mine.tests_nil) ?elts ?done
  case elts =>
    intro I6 i6 v6 C6 D6 h6 tk6 m6 E6 hi6 hv6 _ F6 hm6 hB6
    obtain ⟨k6, t6, rfl⟩ := Mine.ints_get hI5 hv6
    have X6 := Frag.In.keeps X5 F6.keep
    have T6 := T5.keeps F6.keep
    clear F5 N5
    try dsimp only
    repeat' ((fail_if_success (with_reducible show wpAny _ _ (call _ _) _ _ _)); first | walk1 | (dsimp only; walk1) | fail "no step")
    refine (Mine.c_word (w := w) X6 T6 (by decide) (by decide)) _ _ ?_
    rintro v7 h7 tk7 kp7 hpost
    exact ⟨_, _, rfl, kp7, hpost⟩
  case done =>
    intro I6 C6 D6 h6 tk6 ys6 n6 kp6 hb6 hD6 hP6
    have hW6 : ∀ y ∈ ys6, Mine.WordIs y := Mine.paired_all hP6 fun _ _ ⟨_, _, h⟩ => h
    have hys6 : ys6.length ≤ 2 := by
      have e1 := Paired.length hP6
      have e2 := List.length_filter_le (fun _ => true) (List.range ws.length)
      rw [List.length_range] at e2
      omega
    have F6 := Mine.Fr.kp F5 kp6
    have N6 := Mine.News.put F5 N5 kp6 (hb6 D6 (.tail _ (.tail _ (.head _)))) hD6
    clear F5 N5
    have h72s : 72 < h6.objs.size := Heap.lt_size (N6.get (o := tabObj #[]) (by simp only [List.mem_cons, true_or, or_true]))
    try dsimp only
    repeat' ((fail_if_success (with_reducible show wpAny _ _ (pyIter _) _ _ _)); first | walk1 | (dsimp only; walk1) | fail "no step")
    rename_i h7 F7 N7
    have hg72 : (ghostOf s1.heap [(74, 72)]).get? 72 = none := N7.fresh (o := tabObj #[]) (by simp only [List.mem_cons, true_or, or_true])
    have hc7 : h7.get? (s1.heap.objs.size + 1) = some oc' := N7.get (by simp only [List.mem_cons, true_or, or_true])
    have hd7 : h7.get? d = some od := N7.get (by simp only [List.mem_cons, true_or, or_true])
    have h727 : h7.get? 72 = some (tabObj #[]) := N7.get (by simp only [List.mem_cons, true_or, or_true])
    have toB : ∀ b o, (ghostOf s1.heap [(74, 72)]).get? b = some o → (hideAll h7 [72]).get? b = some o := fun b o e => hideAll_get _ (F7.keep b o e) (fun q => by rw [List.mem_singleton.mp q, hg72] at e; cases e)
    have XB := Frag.In.keeps X toB
    have TB := T.keeps toB
    have CB := codeHd.keeps toB
    have hcB : (hideAll h7 [72]).get? (s1.heap.objs.size + 1) = some oc' := hideAll_get _ hc7 (fun q => Nat.ne_of_lt (Nat.lt_succ_of_lt l0) (List.mem_singleton.mp q).symm)
    have hdB : (hideAll h7 [72]).get? d = some od := hideAll_get _ hd7 (fun q => hd72 (List.mem_singleton.mp q))
    have hW7 : ∀ y ∈ [Value.str (Str.ofString "bacbacba") tk2, Value.str (Str.ofString "cbbacab") (tk2 + 1)] ++ ys6, Mine.WordIs y := by
      intro y hy
      rcases List.mem_append.mp hy with hy | hy
      · simp only [List.mem_cons, List.not_mem_nil, or_false] at hy
        rcases hy with rfl | rfl
        · exact ⟨_, _, rfl, by decide +kernel, by show ∀ c ∈ Mine.cs _, c = 97 ∨ c = 98 ∨ c = 99; decide +kernel⟩
        · exact ⟨_, _, rfl, by decide +kernel, by show ∀ c ∈ Mine.cs _, c = 97 ∨ c = 98 ∨ c = 99; decide +kernel⟩
      · exact hW6 y hy
    refine Mine.comp_none (PP := 72) (vs := [Value.str (Str.ofString "bacbacba") tk2, Value.str (Str.ofString "cbbacab") (tk2 + 1)] ++ ys6) rfl ⟨_, N7.get (.head _), rfl, _, rfl⟩ (Nat.ne_of_gt h72s) h727 ?hsz (by decide) rfl rfl Mine.LJ ?hJ0 (fun I C D h h' x k => x.keeps k) ?tests ?done2
    case hsz =>
      rw [List.length_append]
      exact Nat.le_trans (Nat.add_le_add_left hys6 _) (Nat.le_of_ble_eq_true rfl)
    case hJ0 =>
      intro I C D h hb k
      refine ⟨#[], k _ _ h727, fun hm => ?_, trivial, .inl rfl⟩
      have := hb 72 hm
      rw [h727] at this
      cases this
    case tests =>
      intro i8 v8 I8 C8 D8 h8 tk8 m8 E8 hi8 hv8 F8 hm8 hJ8 hit8 hpl8 hB8
      obtain ⟨z, t8, rfl, hz1, hz2⟩ := hW7 v8 (List.mem_of_getElem? hv8)
      obtain ⟨ps, hp1, hp2, hp3, hp4⟩ := hJ8
      have keep8 : ∀ b o, (hideAll h7 [72]).get? b = some o → (hideAll h8 [72]).get? b = some o := fun b o e => hideAll_get _ (F8.keep b o e) (fun q => by rw [List.mem_singleton.mp q, hideAll_none _ (.head _)] at e; cases e)
      clear F7 N7
      refine Mine.tests_one ?_
      try dsimp only
      repeat' ((fail_if_success (with_reducible show wpAny _ _ (call (Value.ref _) _) _ _ _)); first | walk1 | (dsimp only; walk1) | fail "no step")
      refine Mine.c_right (w := w) (XB.keeps keep8) (TB.keeps keep8) (CB.keeps keep8) (by decide) (by decide) hz1 hz2 (keep8 _ _ hdB) lo hdict hkv hp1 ⟨hp3, hp4.imp (fun h => h) fun ⟨c', a, b, _, r⟩ => ⟨c', a, b, r⟩⟩ ?_
      intro h9 tk9 ps9 kp9 h729 hps9
      have hJ9 : Mine.LJ I8 C8 D8 h9 := by
        refine ⟨ps9, h729, hp2, hps9.1, hps9.2.imp (fun h => h) ?_⟩
        rintro ⟨c', a, b, c₂, o9, vs9, t9, e9, g9, d9, r9⟩
        cases e9
        refine ⟨c', a, b, fun hm => ?_, c', o9, vs9, t9, rfl, g9, d9, r9⟩
        simp only [List.mem_cons, List.not_mem_nil, or_false] at hm
        rcases hm with rfl | rfl | rfl
        · obtain ⟨j, oI, hoI, _, hdI⟩ := hit8
          rw [kp9 _ _ b hoI] at g9
          cases g9
          rw [hdI] at d9
          cases d9
          simp at r9
        · obtain ⟨oC, _, _, hoC, hdC, _⟩ := F8.ns
          rw [kp9 _ _ b hoC] at g9
          cases g9
          rw [hdC] at d9
          cases d9
        · obtain ⟨nD, hoD⟩ := hpl8
          rw [kp9 _ _ b hoD] at g9
          cases g9
          cases d9
      try dsimp only
      repeat' (first | walk1 | (dsimp only; walk1))
      · exact kp9 _ _ (by assumption) (by assumption)
      · exact hJ9
    case done2 =>
      intro I8 C8 D8 h8 tk8 n8 kB8 hb8 hJ8 hD8
      obtain ⟨ps, hp1, hp2, hp3, hp4⟩ := hJ8
      have hDn : h7.get? D8 = none := hb8 D8 (.tail _ (.tail _ (.head _)))
      have hL72 : s1.heap.objs.size ≠ 72 := Nat.ne_of_gt l0
      have F8 := (⟨F7.ns.at' fun o e => kB8 _ _ (hideAll_get _ e (fun q => hL72 (List.mem_singleton.mp q))), fun b o e => kB8 b o (toB b o e), F7.above⟩ : Fr (ghostOf s1.heap [(74, 72)]) s1.heap.objs.size h8 _)
      have N8 : News (ghostOf s1.heap [(74, 72)]) s1.heap.objs.size h8 [(D8, W.listOf #[] n8), (72, tabObj ps)] := by
        refine List.forall_mem_cons.mpr ⟨⟨hD8, ?_, ?_⟩, List.forall_mem_cons.mpr ⟨⟨hp1, hL72.symm, hg72⟩, fun _ h => nomatch h⟩⟩
        · rintro rfl
          obtain ⟨oL, _, _, hL, _⟩ := F7.ns
          rw [hL] at hDn
          cases hDn
        · cases q : (ghostOf s1.heap [(74, 72)]).get? D8 with
          | none => rfl
          | some o => rw [F7.keep _ _ q] at hDn; cases hDn
      clear F7 N7
      try dsimp only
      repeat' (first | (k_unfold; (try dsimp only)) | (k_end; wrow_close) | walk1 | (dsimp only; walk1) | (leave1; walk_say "STEP leave1"; try dsimp only)))
end
